import JvmDerived
import JvmDerived.Pilot.@@N@@Statement
import JvmDerived.Pilot.@@N@@Code
set_option linter.unusedVariables false
set_option linter.unusedSimpArgs false
namespace Jvm.Pilot.@@N@@
open Jvm Jvm.ClassFile Sem Op Lib Jvm.Free Jvm.Stand Jvm.LawKit Jvm.RoadKit Bundle Jvm.Pilot.@@N@@.Jvm.D
section OwnNums
theorem own_toInt (n : Nat) (h : n < 2 ^ 31) : (Int32.ofNat n).toInt = n := Int32.toInt_ofNat_of_lt h
theorem own_eq {x : Int32} {n : Nat} (h : n < 2 ^ 31) (e : x.toInt = n) : x = Int32.ofNat n := by rw [← Int32.toInt_inj, own_toInt n h, e]
theorem own_ltN (a b : Nat) (ha : a < 2 ^ 31) (hb : b < 2 ^ 31) : Int32.ofNat a < Int32.ofNat b ↔ a < b := by
  rw [Int32.lt_iff_toInt_lt, own_toInt a ha, own_toInt b hb]; omega
theorem own_eqN (a b : Nat) (ha : a < 2 ^ 31) (hb : b < 2 ^ 31) : Int32.ofNat a = Int32.ofNat b ↔ a = b := by
  rw [← Int32.toInt_inj, own_toInt a ha, own_toInt b hb]; omega
theorem own_addN (a b : Nat) : Int32.ofNat a + Int32.ofNat b = Int32.ofNat (a + b) := (Int32.ofNat_add a b).symm
theorem own_subI (a b : Nat) (ha : a < 2 ^ 31) (hb : b < 2 ^ 31) : (Int32.ofNat a - Int32.ofNat b).toInt = (a : Int) - b := by
  rw [Int32.toInt_sub, own_toInt a ha, own_toInt b hb]
  exact Int.bmod_eq_of_le (by omega) (by omega)
theorem own_subN (a b : Nat) (ha : a < 2 ^ 31) (hb : b ≤ a) : Int32.ofNat a - Int32.ofNat b = Int32.ofNat (a - b) :=
  own_eq (by omega) (by rw [own_subI a b ha (by omega)]; omega)
theorem own_clamp (a : Nat) (ha : a < 2 ^ 31) : (Int32.ofNat a).toNatClampNeg = a := by
  show (Int32.ofNat a).toInt.toNat = a
  rw [own_toInt a ha]; rfl
theorem own_nneg (a : Nat) (ha : a < 2 ^ 31) : ¬ Int32.ofNat a < 0 := by
  rw [Int32.lt_iff_toInt_lt, own_toInt a ha]
  have : (0 : Int32).toInt = 0 := rfl
  omega
theorem own_ixs (a b : Nat) (ha : a < 2 ^ 31) (hb : b ≤ a) : ¬ (Int32.ofNat a - Int32.ofNat b < 0) ∧ (Int32.ofNat a - Int32.ofNat b).toNatClampNeg = a - b := by
  rw [own_subN a b ha hb]; exact ⟨own_nneg _ (by omega), own_clamp _ (by omega)⟩
theorem own_ixa (a b : Nat) (ha : a + b < 2 ^ 31) : ¬ (Int32.ofNat a + Int32.ofNat b < 0) ∧ (Int32.ofNat a + Int32.ofNat b).toNatClampNeg = a + b := by
  rw [own_addN]; exact ⟨own_nneg _ ha, own_clamp _ ha⟩
/-- a small natural behind a mask and a remainder -/
theorem own_small (x : Int32) (k : Nat) (hk0 : 0 < k) (hk : k < 2 ^ 31) : ∃ n : Nat, n < k ∧ (x &&& 2147483647) % Int32.ofNat k = Int32.ofNat n := by
  obtain ⟨q1, q2⟩ := c_and x 2147483647 (by decide)
  obtain ⟨c1, -⟩ := c_irem (x &&& 2147483647) (Int32.ofNat k) k (own_toInt k hk)
  have h1 := c1 q1
  have h2 := Int.emod_nonneg (x &&& 2147483647).toInt (b := (k : Int)) (by omega)
  have h3 := Int.emod_lt_of_pos (x &&& 2147483647).toInt (b := (k : Int)) (by omega)
  exact ⟨((x &&& 2147483647) % Int32.ofNat k).toInt.toNat, by omega, own_eq (by omega) (by omega)⟩
/-- a small natural behind a mask -/
theorem own_masked (x : Int32) (k : Nat) (hk : k < 2 ^ 31) : ∃ n : Nat, n ≤ k ∧ x &&& Int32.ofNat k = Int32.ofNat n := by
  have h0 := own_toInt k hk
  obtain ⟨q1, q2⟩ := c_and x (Int32.ofNat k) (by omega)
  exact ⟨(x &&& Int32.ofNat k).toInt.toNat, by omega, own_eq (by omega) (by omega)⟩
theorem own_cmp (x y : Int64) : XT.cmpL x y = 0 ↔ x = y := lw_eq x y
theorem own_cmplt (x y : Int64) : XT.cmpL x y < 0 ↔ x < y := lw_lt x y
theorem own_cmpgt (x y : Int64) : 0 < XT.cmpL x y ↔ y < x := lw_gt x y
end OwnNums
section OwnLayer
variable {p : Program} {l : Launch} {e : Env} {R : Room} {s : State} {m : MethodId} {args : Array Value} {below : List Frame} {meth : Method} {c : Code} {T : State} {locs : List Loc} {cells slots : Nat} {Z : State} {a0 : Array Value} {h h' : Heap}
/-- from U the run comes to a return of which Q tells (value, heap, written places), within rc cells and rs slots -/
def Goes (p : Program) (e : Env) (below : List Frame) (s : State) (rc rs : Nat) (Q : Option Value → Heap → List Loc → Prop) (U : State) : Prop :=
  ∃ t o, Steps p.tables e below U t ∧ t.status = .running ∧ Ended t below o ∧ ∃ v L, o = .returned v ∧ Q v t.heap L ∧ FrameEnd s o t L rc rs
theorem Goes.step {rc rs : Nat} {Q : Option Value → Heap → List Loc → Prop} {U V : State} (st : ∀ t, Steps p.tables e below V t → Steps p.tables e below U t) (k : Goes p e below s rc rs Q V) : Goes p e below s rc rs Q U := by
  obtain ⟨t, o, k1, k2⟩ := k
  exact ⟨t, o, st t k1, k2⟩
theorem Goes.ret {rc rs : Nat} {Q : Option Value → Heap → List Loc → Prop} (X : Stand p l e R s m args below meth c T locs cells slots) (hx : p.tables.exec = Jvm.exec) (hlk : meth.locks = false) {pc : Nat} {Ls : Array Slot} {w : Value} {t : FieldType} {i : Instr} {rest : List Value} (hret : meth.sig.returnType = some t) (hn : narrow t w = w)
    (hi : (i = .ireturn ∧ (t = .int ∨ t = .boolean ∨ t = .byte ∨ t = .char ∨ t = .short) ∧ ∃ z, w = .int z) ∨ (i = .lreturn ∧ t = .long ∧ ∃ z, w = .long z) ∨ (i = .dreturn ∧ t = .double ∧ ∃ z, w = .double z) ∨ (i = .freturn ∧ t = .float ∧ ∃ z, w = .float z) ∨ (i = .areturn ∧ t.isReference = true ∧ w.isRef = true))
    (hd : decode c.code pc = .ok (i, 1)) (hc : cells ≤ rc) (hs : slots ≤ rs) (hQ : Q (some w) T.heap locs) : Goes p e below s rc rs Q (T.setTop (mkF m pc Ls (w :: rest))) := by
  obtain ⟨fs, hr, hrun, hended, hW, hsame⟩ := X.leave (v := some w) (fun h => by rw [hret] at h; cases h) hlk
  exact ⟨_, _, retOut X hx hret hn hi hd hr, hrun, hended, _, _, rfl, hQ, ⟨_, rfl⟩, hW, hsame.mono hc hs⟩
theorem Goes.retI {rc rs : Nat} {Q : Option Value → Heap → List Loc → Prop} (X : Stand p l e R s m args below meth c T locs cells slots) (hx : p.tables.exec = Jvm.exec) (hlk : meth.locks = false) {pc : Nat} {Ls : Array Slot} {z : Int32} {rest : List Value} (hret : meth.sig.returnType = some .int)
    (hd : decode c.code pc = .ok (.ireturn, 1)) (hc : cells ≤ rc) (hs : slots ≤ rs) (hQ : Q (some (.int z)) T.heap locs) : Goes p e below s rc rs Q (T.setTop (mkF m pc Ls (.int z :: rest))) :=
  Goes.ret X hx hlk hret rfl (Or.inl ⟨rfl, Or.inl rfl, _, rfl⟩) hd hc hs hQ
theorem Goes.retZ {rc rs : Nat} {Q : Option Value → Heap → List Loc → Prop} (X : Stand p l e R s m args below meth c T locs cells slots) (hx : p.tables.exec = Jvm.exec) (hlk : meth.locks = false) {pc : Nat} {Ls : Array Slot} {z : Int32} {t : FieldType} {rest : List Value} (hret : meth.sig.returnType = some t)
    (ht : t = .boolean ∨ t = .byte ∨ t = .char ∨ t = .short) (hn : narrow t (.int z) = .int z)
    (hd : decode c.code pc = .ok (.ireturn, 1)) (hc : cells ≤ rc) (hs : slots ≤ rs) (hQ : Q (some (.int z)) T.heap locs) : Goes p e below s rc rs Q (T.setTop (mkF m pc Ls (.int z :: rest))) :=
  Goes.ret X hx hlk hret hn (Or.inl ⟨rfl, Or.inr ht, _, rfl⟩) hd hc hs hQ
theorem Goes.retJ {rc rs : Nat} {Q : Option Value → Heap → List Loc → Prop} (X : Stand p l e R s m args below meth c T locs cells slots) (hx : p.tables.exec = Jvm.exec) (hlk : meth.locks = false) {pc : Nat} {Ls : Array Slot} {z : Int64} {rest : List Value} (hret : meth.sig.returnType = some .long)
    (hd : decode c.code pc = .ok (.lreturn, 1)) (hc : cells ≤ rc) (hs : slots ≤ rs) (hQ : Q (some (.long z)) T.heap locs) : Goes p e below s rc rs Q (T.setTop (mkF m pc Ls (.long z :: rest))) :=
  Goes.ret X hx hlk hret rfl (Or.inr (Or.inl ⟨rfl, rfl, _, rfl⟩)) hd hc hs hQ
theorem own_narrow_ref {t : FieldType} {w : Value} (hw : w.isRef = true) : narrow t w = w := by
  cases w <;> simp [Value.isRef] at hw <;> cases t <;> rfl
theorem Goes.retA {rc rs : Nat} {Q : Option Value → Heap → List Loc → Prop} (X : Stand p l e R s m args below meth c T locs cells slots) (hx : p.tables.exec = Jvm.exec) (hlk : meth.locks = false) {pc : Nat} {Ls : Array Slot} {w : Value} {t : FieldType} {rest : List Value} (hret : meth.sig.returnType = some t)
    (ht : t.isReference = true) (hw : w.isRef = true)
    (hd : decode c.code pc = .ok (.areturn, 1)) (hc : cells ≤ rc) (hs : slots ≤ rs) (hQ : Q (some w) T.heap locs) : Goes p e below s rc rs Q (T.setTop (mkF m pc Ls (w :: rest))) :=
  Goes.ret X hx hlk hret (own_narrow_ref hw) (Or.inr (Or.inr (Or.inr (Or.inr ⟨rfl, ht, hw⟩)))) hd hc hs hQ
theorem Goes.retV {rc rs : Nat} {Q : Option Value → Heap → List Loc → Prop} (X : Stand p l e R s m args below meth c T locs cells slots) (hx : p.tables.exec = Jvm.exec) (hlk : meth.locks = false) {pc : Nat} {Ls : Array Slot} (hret : meth.sig.returnType = none)
    (hd : decode c.code pc = .ok (.return_, 1)) (hc : cells ≤ rc) (hs : slots ≤ rs) (hQ : Q none T.heap locs) : Goes p e below s rc rs Q (T.setTop (mkF m pc Ls [])) := by
  obtain ⟨fs, hr, hrun, hended, hW, hsame⟩ := X.leave (v := none) (fun _ => rfl) hlk
  exact ⟨_, _, X.returnOut hx hret hd hr, hrun, hended, _, _, rfl, hQ, ⟨_, rfl⟩, hW, hsame.mono hc hs⟩
/-- a static call by its contract -/
theorem own_callS (X : Stand p l e R s m args below meth c T locs cells slots) (hx : p.tables.exec = Jvm.exec) (hZ : Z.Warmed39 s.vm) {own : String} {index : Nat} {y : MethodName} {bytes : ByteArray} {maxL : Nat} {ret : Option FieldType} (hown : s.vm.findClass own = some m.cls)
    (w1 : (Cond.methodLink own index y).before a0 Z = true) (w2 : (Cond.static y).before a0 Z = true) (w3 : (Cond.initialized y.cls).before a0 Z = true) (w4 : (Cond.code y bytes maxL ret).before a0 Z = true) (hy : y.cls ≠ "java/lang/invoke/MethodHandle" ∧ y.cls ≠ "java/lang/invoke/VarHandle")
    {rm : Room} {argsL : List Value} {Q : Option Value → Heap → List Loc → Prop}
    (hM : MetFree l y (head1 [Cond.code y bytes maxL ret] rm) (fun a U => a = argsL.toArray ∧ Z.Warmed39 U.vm ∧ U.heap = h) (fun _ _ _ _ _ => True) (fun _ U o U' => ∃ v L, o = .returned v ∧ Q v U'.heap L ∧ FrameEnd U o U' L rm.cells rm.slots))
    (eT : T.heap = h) {W : Nat} (hf : rm.frames + 1 ≤ R.frames) (hl : W + (maxL + 11) + rm.locals ≤ R.locals) (hc : cells + rm.cells ≤ R.cells) (hsl : slots + rm.slots ≤ R.slots)
    {g : JFrame} (hg : g.method = m) (hsize : g.locals.size = c.maxLocals) {rest : List Value} (hlen : ∀ sig, parseMethodDescriptor y.desc = some sig → argsL.length = sig.parameters.length)
    (hstack : g.stack = argsL.reverse ++ rest) (hW : 2 * g.monitorRoom + (rest.map fun v => v.category).sum ≤ W) (hdg : decode c.code g.pc = .ok (.invokestatic index, 3)) :
    ∃ (v : Option Value) (T' : State) (L : List Loc), Stand p l e R s m args below meth c T' (locs ++ L) (cells + rm.cells) (slots + rm.slots) ∧ Q v T'.heap L ∧
      ∀ t, Steps p.tables e below (T'.setTop { g with pc := g.pc + 3, stack := v.toList ++ rest }) t → Steps p.tables e below (T.setTop g) t := by
  obtain ⟨v, _, ⟨U, Ls, k, n⟩, -, X', ⟨Lc, hQ, l1, y1, z1⟩, st⟩ := Jvm.LawKit.callS X hx (y := y) hown (mvT hZ w1) (mvT hZ w2) (mvT hZ w3) (mvT hZ w4) hy (backOf (W := W) hM hZ w4 w3 hf hl) hg hsize (argsL := argsL) (rest := rest) hlen hstack hW hdg (fun _ _ => ⟨rfl, eT, hc, hsl⟩)
  dsimp only [Pt.U, Pt.locs, Pt.cells, Pt.slots] at X' l1 y1 z1 st hQ
  subst l1 y1 z1
  exact ⟨v, U, Lc, X', hQ, st⟩
/-- a constructor's call by its contract -/
theorem own_callN (X : Stand p l e R s m args below meth c T locs cells slots) (hx : p.tables.exec = Jvm.exec) (hZ : Z.Warmed39 s.vm) {own : String} {index : Nat} {y : MethodName} {bytes : ByteArray} {maxL : Nat} (hy1 : y.name = "<init>") (hown : s.vm.findClass own = some m.cls)
    (w1 : (Cond.methodLink own index y).before a0 Z = true) (w2 : (Cond.instanceMethod y).before a0 Z = true) (w3 : (Cond.initialized y.cls).before a0 Z = true) (w4 : (Cond.code y bytes maxL none).before a0 Z = true) (hy : y.cls ≠ "java/lang/invoke/MethodHandle" ∧ y.cls ≠ "java/lang/invoke/VarHandle")
    {rm : Room} {a : Addr} {argsL : List Value} {Q : Option Value → Heap → List Loc → Prop}
    (hM : MetFree l y (head1 [Cond.code y bytes maxL none] rm) (fun b U => b = (.ref a :: argsL).toArray ∧ Z.Warmed39 U.vm ∧ U.heap = h) (fun _ _ _ _ _ => True) (fun _ U o U' => ∃ v L, o = .returned v ∧ Q v U'.heap L ∧ FrameEnd U o U' L rm.cells rm.slots))
    (eT : T.heap = h) {W : Nat} (hf : rm.frames + 1 ≤ R.frames) (hl : W + (maxL + 11) + rm.locals ≤ R.locals) (hc : cells + rm.cells ≤ R.cells) (hsl : slots + rm.slots ≤ R.slots)
    {g : JFrame} (hg : g.method = m) (hsize : g.locals.size = c.maxLocals) {rest : List Value} (hlen : ∀ sig, parseMethodDescriptor y.desc = some sig → argsL.length = sig.parameters.length)
    (hstack : g.stack = argsL.reverse ++ .ref a :: rest) (hW : 2 * g.monitorRoom + (rest.map fun v => v.category).sum ≤ W) (hdg : decode c.code g.pc = .ok (.invokespecial index, 3)) :
    ∃ (v : Option Value) (T' : State) (L : List Loc), Stand p l e R s m args below meth c T' (locs ++ L) (cells + rm.cells) (slots + rm.slots) ∧ Q v T'.heap L ∧
      ∀ t, Steps p.tables e below (T'.setTop { g with pc := g.pc + 3, stack := v.toList ++ rest }) t → Steps p.tables e below (T.setTop g) t := by
  obtain ⟨v, _, ⟨U, Ls, k, n⟩, -, X', ⟨Lc, hQ, l1, y1, z1⟩, st⟩ := X.specialBack hx (y := y) hy1 hown (mvT hZ w1) (mvT hZ w2) (mvT hZ w4) hy (backOf (W := W) hM hZ w4 w3 hf hl) hg hsize (Steps.refl _) (a := a) (argsL := argsL) (rest := rest) hlen hstack hW hdg (fun _ _ => ⟨rfl, eT, hc, hsl⟩)
  dsimp only [Pt.U, Pt.locs, Pt.cells, Pt.slots] at X' l1 y1 z1 st hQ
  subst l1 y1 z1
  exact ⟨v, U, Lc, X', hQ, fun t k => st.trans k⟩
/-- an instance method's call by its contract -/
theorem own_callV (X : Stand p l e R s m args below meth c T locs cells slots) (hx : p.tables.exec = Jvm.exec) (hZ : Z.Warmed39 s.vm) {own C : String} {index : Nat} {y : MethodName} {bytes : ByteArray} {maxL : Nat} {ret : Option FieldType} (hown : s.vm.findClass own = some m.cls)
    (w1 : (Cond.methodLink own index y).before a0 Z = true) (w2 : (Cond.declares y).before a0 Z = true) (w5 : (Cond.selects C y y).before a0 Z = true) (w6 : (Cond.instanceMethod y).before a0 Z = true) (w3 : (Cond.initialized y.cls).before a0 Z = true) (w4 : (Cond.code y bytes maxL ret).before a0 Z = true) (hy : y.cls ≠ "java/lang/invoke/MethodHandle" ∧ y.cls ≠ "java/lang/invoke/VarHandle")
    {rm : Room} {a : Addr} {argsL : List Value} {Q : Option Value → Heap → List Loc → Prop}
    (hM : MetFree l y (head1 [Cond.code y bytes maxL ret] rm) (fun b U => b = (.ref a :: argsL).toArray ∧ Z.Warmed39 U.vm ∧ U.heap = h) (fun _ _ _ _ _ => True) (fun _ U o U' => ∃ v L, o = .returned v ∧ Q v U'.heap L ∧ FrameEnd U o U' L rm.cells rm.slots))
    (eT : T.heap = h) (E : Exa Z h a C) {W : Nat} (hf : rm.frames + 1 ≤ R.frames) (hl : W + (maxL + 11) + rm.locals ≤ R.locals) (hc : cells + rm.cells ≤ R.cells) (hsl : slots + rm.slots ≤ R.slots)
    {g : JFrame} (hg : g.method = m) (hsize : g.locals.size = c.maxLocals) {rest : List Value} (hlen : ∀ sig, parseMethodDescriptor y.desc = some sig → argsL.length = sig.parameters.length)
    (hstack : g.stack = argsL.reverse ++ .ref a :: rest) (hW : 2 * g.monitorRoom + (rest.map fun v => v.category).sum ≤ W) (hdg : decode c.code g.pc = .ok (.invokevirtual index, 3)) :
    ∃ (v : Option Value) (T' : State) (L : List Loc), Stand p l e R s m args below meth c T' (locs ++ L) (cells + rm.cells) (slots + rm.slots) ∧ Q v T'.heap L ∧
      ∀ t, Steps p.tables e below (T'.setTop { g with pc := g.pc + 3, stack := v.toList ++ rest }) t → Steps p.tables e below (T.setTop g) t := by
  obtain ⟨cB, kB, qa, qb, qc⟩ := isOf hZ eT E
  obtain ⟨v, _, ⟨U, Ls, k, n⟩, -, X', ⟨Lc, hQ, l1, y1, z1⟩, st⟩ := X.virtualBack hx (y := y) (z := y) hown (mvT hZ w1) (mvT hZ w2) (notFace_of_selects (args := #[]) (mvT hZ w5)) (mvT hZ w5) (mvT hZ w6) hy (backOf (W := W) hM hZ w4 w3 hf hl) qa qc hg hsize (Steps.refl _) (argsL := argsL) (rest := rest) hlen hstack hW hdg (fun _ _ => ⟨rfl, eT, hc, hsl⟩)
  dsimp only [Pt.U, Pt.locs, Pt.cells, Pt.slots] at X' l1 y1 z1 st hQ
  subst l1 y1 z1
  exact ⟨v, U, Lc, X', hQ, fun t k => st.trans k⟩
/-- an interface method's call by its contract -/
theorem own_callI (X : Stand p l e R s m args below meth c T locs cells slots) (hx : p.tables.exec = Jvm.exec) (hZ : Z.Warmed39 s.vm) {own C : String} {index count : Nat} {xi z : MethodName} {bytes : ByteArray} {maxL : Nat} {ret : Option FieldType} (hown : s.vm.findClass own = some m.cls)
    (w1 : (Cond.methodLink own index xi).before a0 Z = true) (w2 : (Cond.declares xi).before a0 Z = true) (w7 : (Cond.interfaceMethod xi.cls xi.cls xi.name xi.desc).before a0 Z = true) (w5 : (Cond.selects C xi z).before a0 Z = true) (w6 : (Cond.instanceMethod z).before a0 Z = true) (w8 : (Cond.publicMethod z).before a0 Z = true) (w9 : (Cond.unhidden C xi.name xi.desc).before a0 Z = true) (w10 : (Cond.castable C xi.cls).before a0 Z = true)
    (hfa : ((Cond.interfaceMethod xi.cls xi.cls xi.name xi.desc).onTables && (Cond.interfaceMethod xi.cls xi.cls xi.name xi.desc).keepsFace) = true) (w3 : (Cond.initialized z.cls).before a0 Z = true) (w4 : (Cond.code z bytes maxL ret).before a0 Z = true) (hy : xi.cls ≠ "java/lang/invoke/MethodHandle" ∧ xi.cls ≠ "java/lang/invoke/VarHandle")
    {rm : Room} {a : Addr} {argsL : List Value} {Q : Option Value → Heap → List Loc → Prop}
    (hM : MetFree l z (head1 [Cond.code z bytes maxL ret] rm) (fun b U => b = (.ref a :: argsL).toArray ∧ Z.Warmed39 U.vm ∧ U.heap = h) (fun _ _ _ _ _ => True) (fun _ U o U' => ∃ v L, o = .returned v ∧ Q v U'.heap L ∧ FrameEnd U o U' L rm.cells rm.slots))
    (eT : T.heap = h) (E : Exa Z h a C) {W : Nat} (hf : rm.frames + 1 ≤ R.frames) (hl : W + (maxL + 11) + rm.locals ≤ R.locals) (hc : cells + rm.cells ≤ R.cells) (hsl : slots + rm.slots ≤ R.slots)
    {g : JFrame} (hg : g.method = m) (hsize : g.locals.size = c.maxLocals) {rest : List Value} (hlen : ∀ sig, parseMethodDescriptor xi.desc = some sig → argsL.length = sig.parameters.length)
    (hstack : g.stack = argsL.reverse ++ .ref a :: rest) (hW : 2 * g.monitorRoom + (rest.map fun v => v.category).sum ≤ W) (hdg : decode c.code g.pc = .ok (.invokeinterface index count, 5)) :
    ∃ (v : Option Value) (T' : State) (L : List Loc), Stand p l e R s m args below meth c T' (locs ++ L) (cells + rm.cells) (slots + rm.slots) ∧ Q v T'.heap L ∧
      ∀ t, Steps p.tables e below (T'.setTop { g with pc := g.pc + 5, stack := v.toList ++ rest }) t → Steps p.tables e below (T.setTop g) t := by
  obtain ⟨cB, kB, qa, qb, qc⟩ := isOf hZ eT E
  obtain ⟨v, _, ⟨U, Ls, k, n⟩, -, X', ⟨Lc, hQ, l1, y1, z1⟩, st⟩ := X.interfaceBack hx (xi := xi) (y := z) hown (mvT hZ w1) (mvT hZ w2) (mvT hZ w7 hfa) (mvT hZ w5) (mvT hZ w6) (mvT hZ w8) (mvT hZ w9) (mvT hZ w10) hy (backOf (W := W) hM hZ w4 w3 hf hl) qa qb qc hg hsize (Steps.refl _) (argsL := argsL) (rest := rest) hlen hstack hW hdg (fun _ _ => ⟨rfl, eT, hc, hsl⟩)
  dsimp only [Pt.U, Pt.locs, Pt.cells, Pt.slots] at X' l1 y1 z1 st hQ
  subst l1 y1 z1
  exact ⟨v, U, Lc, X', hQ, fun t k => st.trans k⟩
/-- an array: of n places, place j holds f j -/
def OA (Z : State) (h : Heap) (a : Addr) (ty : FieldType) (n : Nat) (f : Nat → Value) : Prop :=
  ∃ c : Cell, Arr Z h a c ty ∧ c.slots.size = n ∧ n < 2 ^ 31 ∧ ∀ j, j < n → c.slots[j]? = some (f j) ∧ fits ty (f j) = true
variable {a b : Addr} {ty : FieldType} {n k sl : Nat} {f f' : Nat → Value} {v w : Value} {j : Int32} {ws : List Addr}
theorem OA.ext (A : OA Z h a ty n f) (E : Ext h h') : OA Z h' a ty n f := by obtain ⟨c, A, r⟩ := A; exact ⟨c, A.ext E, r⟩
theorem OA.other (A : OA Z h b ty n f) (W : Wr h h' a sl v) (q : b ≠ a) : OA Z h' b ty n f := by obtain ⟨c, A, r⟩ := A; exact ⟨c, A.other W q, r⟩
theorem OA.keep (A : OA Z h a ty n f) (K : Keep h h' ws) (q : a ∉ ws) : OA Z h' a ty n f := by obtain ⟨c, A, r⟩ := A; exact ⟨c, ⟨K.2.1 a c A.1 q, A.2⟩, r⟩
theorem OA.lt (A : OA Z h a ty n f) : a < h.size := by obtain ⟨c, A, -⟩ := A; exact A.lt
theorem OA.congr (A : OA Z h a ty n f) (q : ∀ j, j < n → f j = f' j) : OA Z h a ty n f' := by
  obtain ⟨c, A, r1, r2, H⟩ := A
  exact ⟨c, A, r1, r2, fun j hj => by rw [← q j hj]; exact H j hj⟩
theorem OA.new {cA : ClassId} {z : Int32} (A : Arr Z h a (newA cA ty z) ty) (hf : fits ty (defaultValue ty) = true) (e : z.toNatClampNeg = n) : OA Z h a ty n (fun _ => defaultValue ty) := by
  refine ⟨_, A, by rw [sz_new]; exact e, ?_, fun j hj => ⟨?_, hf⟩⟩
  · have := z.toInt_lt
    have h2 : z.toNatClampNeg = z.toInt.toNat := rfl
    omega
  · simp [newA, e, hj]
theorem OA.set (A : OA Z h a ty n f) (W : Wr h h' a j.toNatClampNeg v) (e : j.toNatClampNeg = k) (hv : fits ty v = true) : OA Z h' a ty n (fun i => if i = k then v else f i) := by
  obtain ⟨c, A, r1, r2, H⟩ := A
  refine ⟨_, A.same W, by rw [sz_set]; exact r1, r2, fun i hi => ?_⟩
  obtain ⟨H1, H2⟩ := H i hi
  subst e
  by_cases q : i = j.toNatClampNeg
  · subst q
    dsimp only
    rw [if_pos rfl]
    exact ⟨by simp [Cell.setSlot, r1, hi], hv⟩
  · dsimp only
    rw [if_neg q]
    refine ⟨?_, H2⟩
    rw [← H1]
    simp [Cell.setSlot, Array.getElem?_setIfInBounds, Ne.symm q]
theorem OA.at (A : OA Z h a ty n f) (hj : ¬ j < 0) (e : j.toNatClampNeg = k) (hk : k < n) : ∃ c : Cell, Arr Z h a c ty ∧ ¬ (j < 0 ∨ c.slots.size ≤ j.toNatClampNeg) ∧ c.slots[j.toNatClampNeg]? = some (f k) ∧ fits ty (f k) = true := by
  obtain ⟨c, A, r1, r2, H⟩ := A
  obtain ⟨H1, H2⟩ := H k hk
  refine ⟨c, A, ?_, by rw [e]; exact H1, H2⟩
  rintro (q | q)
  · exact hj q
  · omega
theorem OA.fits (A : OA Z h a ty n f) (hk : k < n) : fits ty (f k) = true := by
  obtain ⟨c, A, r1, r2, H⟩ := A
  exact (H k hk).2
theorem own_alen (X : Stand p l e R s m args below meth c T locs cells slots) (hx : p.tables.exec = Jvm.exec) (hZ : Z.Warmed39 s.vm) (eT : T.heap = h) (A : OA Z h a ty n f) {z : Int32} (hz : z = n.toInt32)
    {g : JFrame} (hg : g.method = m) {rest : List Value} (hs : g.stack = .ref a :: rest) (hd : decode c.code g.pc = .ok (.arraylength, 1)) :
    ∀ t, Steps p.tables e below (T.setTop { g with pc := g.pc + 1, stack := .int z :: rest }) t → Steps p.tables e below (T.setTop g) t := by
  obtain ⟨cl, A, r1, r2, H⟩ := A
  intro t k
  refine X.arraylength hx (by rw [eT]; exact A.1) (State.isArrayOf_alike hZ.alike A.2.1) hg hs hd t ?_
  rw [r1, ← hz]
  exact k
theorem own_iaload (X : Stand p l e R s m args below meth c T locs cells slots) (hx : p.tables.exec = Jvm.exec) (hZ : Z.Warmed39 s.vm) (eT : T.heap = h) (A : OA Z h a .int n f) (hj : ¬ j < 0) (ek : j.toNatClampNeg = k) (hk : k < n) (hv : f k = v)
    {g : JFrame} (hg : g.method = m) {rest : List Value} (hs : g.stack = .int j :: .ref a :: rest) (hd : decode c.code g.pc = .ok (.iaload, 1)) :
    ∀ t, Steps p.tables e below (T.setTop { g with pc := g.pc + 1, stack := v :: rest }) t → Steps p.tables e below (T.setTop g) t := by
  obtain ⟨cl, A, q1, q2, q3⟩ := A.at hj ek hk
  subst hv
  exact fun t k => X.iaload hx (by rw [eT]; exact A.1) (State.isArrayOf_alike hZ.alike A.2.1) A.2.2 q1 q2 hg hs hd t k
theorem own_laload (X : Stand p l e R s m args below meth c T locs cells slots) (hx : p.tables.exec = Jvm.exec) (hZ : Z.Warmed39 s.vm) (eT : T.heap = h) (A : OA Z h a .long n f) (hj : ¬ j < 0) (ek : j.toNatClampNeg = k) (hk : k < n) (hv : f k = v)
    {g : JFrame} (hg : g.method = m) {rest : List Value} (hs : g.stack = .int j :: .ref a :: rest) (hd : decode c.code g.pc = .ok (.laload, 1)) :
    ∀ t, Steps p.tables e below (T.setTop { g with pc := g.pc + 1, stack := v :: rest }) t → Steps p.tables e below (T.setTop g) t := by
  obtain ⟨cl, A, q1, q2, q3⟩ := A.at hj ek hk
  subst hv
  exact fun t k => X.laload hx (by rw [eT]; exact A.1) (State.isArrayOf_alike hZ.alike A.2.1) A.2.2 q1 q2 hg hs hd t k
theorem own_caload (X : Stand p l e R s m args below meth c T locs cells slots) (hx : p.tables.exec = Jvm.exec) (hZ : Z.Warmed39 s.vm) (eT : T.heap = h) (A : OA Z h a .char n f) (hj : ¬ j < 0) (ek : j.toNatClampNeg = k) (hk : k < n) (hv : f k = v)
    {g : JFrame} (hg : g.method = m) {rest : List Value} (hs : g.stack = .int j :: .ref a :: rest) (hd : decode c.code g.pc = .ok (.caload, 1)) :
    ∀ t, Steps p.tables e below (T.setTop { g with pc := g.pc + 1, stack := v :: rest }) t → Steps p.tables e below (T.setTop g) t := by
  obtain ⟨cl, A, q1, q2, q3⟩ := A.at hj ek hk
  subst hv
  exact fun t k => X.caload hx (by rw [eT]; exact A.1) (State.isArrayOf_alike hZ.alike A.2.1) A.2.2 q1 q2 hg hs hd t k
theorem own_baload (X : Stand p l e R s m args below meth c T locs cells slots) (hx : p.tables.exec = Jvm.exec) (hZ : Z.Warmed39 s.vm) (eT : T.heap = h) (A : OA Z h a .byte n f) (hj : ¬ j < 0) (ek : j.toNatClampNeg = k) (hk : k < n) (hv : f k = v)
    {g : JFrame} (hg : g.method = m) {rest : List Value} (hs : g.stack = .int j :: .ref a :: rest) (hd : decode c.code g.pc = .ok (.baload, 1)) :
    ∀ t, Steps p.tables e below (T.setTop { g with pc := g.pc + 1, stack := v :: rest }) t → Steps p.tables e below (T.setTop g) t := by
  obtain ⟨cl, A, q1, q2, q3⟩ := A.at hj ek hk
  subst hv
  exact fun t k => X.baloadBytes hx (by rw [eT]; exact A.1) (State.isArrayOf_alike hZ.alike A.2.1) A.2.2 q1 q2 hg hs hd t k
theorem own_aaload (X : Stand p l e R s m args below meth c T locs cells slots) (hx : p.tables.exec = Jvm.exec) (hZ : Z.Warmed39 s.vm) (eT : T.heap = h) (A : OA Z h a ty n f) (hty : ty.isReference = true) (hj : ¬ j < 0) (ek : j.toNatClampNeg = k) (hk : k < n) (hv : f k = v)
    {g : JFrame} (hg : g.method = m) {rest : List Value} (hs : g.stack = .int j :: .ref a :: rest) (hd : decode c.code g.pc = .ok (.aaload, 1)) :
    ∀ t, Steps p.tables e below (T.setTop { g with pc := g.pc + 1, stack := v :: rest }) t → Steps p.tables e below (T.setTop g) t := by
  obtain ⟨cl, A, q1, q2, q3⟩ := A.at hj ek hk
  subst hv
  exact fun t k => X.aaload hx (by rw [eT]; exact A.1) (State.isArrayOf_alike hZ.alike A.2.1) hty A.2.2 q1 q2 hg hs hd t k
/-- stores: the new heap, the array's new values -/
theorem own_stI (X : Stand p l e R s m args below meth c T locs cells slots) (hx : p.tables.exec = Jvm.exec) (hZ : Z.Warmed39 s.vm) (eT : T.heap = h) (A : OA Z h a .int n f) {x : Int32} (hj : ¬ j < 0) (ek : j.toNatClampNeg = k) (hk : k < n)
    {g : JFrame} (hg : g.method = m) {rest : List Value} (hs : g.stack = .int x :: .int j :: .ref a :: rest) (hd : decode c.code g.pc = .ok (.iastore, 1)) :
    ∃ T' h', Stand p l e R s m args below meth c T' (locs ++ [⟨a, j.toNatClampNeg⟩]) cells slots ∧ T'.heap = h' ∧ Wr h h' a j.toNatClampNeg (.int x) ∧ OA Z h' a .int n (fun i => if i = k then .int x else f i) ∧
      ∀ t, Steps p.tables e below (T'.setTop { g with pc := g.pc + 1, stack := rest }) t → Steps p.tables e below (T.setTop g) t := by
  obtain ⟨cl, A', q1, q2, q3⟩ := A.at hj ek hk
  obtain ⟨T', h', X', e', W', st⟩ := stI X hx hZ eT A' q1 hg hs hd
  exact ⟨T', h', X', e', W', A.set W' ek rfl, st⟩
theorem own_stJ (X : Stand p l e R s m args below meth c T locs cells slots) (hx : p.tables.exec = Jvm.exec) (hZ : Z.Warmed39 s.vm) (eT : T.heap = h) (A : OA Z h a .long n f) {x : Int64} (hj : ¬ j < 0) (ek : j.toNatClampNeg = k) (hk : k < n)
    {g : JFrame} (hg : g.method = m) {rest : List Value} (hs : g.stack = .long x :: .int j :: .ref a :: rest) (hd : decode c.code g.pc = .ok (.lastore, 1)) :
    ∃ T' h', Stand p l e R s m args below meth c T' (locs ++ [⟨a, j.toNatClampNeg⟩]) cells slots ∧ T'.heap = h' ∧ Wr h h' a j.toNatClampNeg (.long x) ∧ OA Z h' a .long n (fun i => if i = k then .long x else f i) ∧
      ∀ t, Steps p.tables e below (T'.setTop { g with pc := g.pc + 1, stack := rest }) t → Steps p.tables e below (T.setTop g) t := by
  obtain ⟨cl, A', q1, q2, q3⟩ := A.at hj ek hk
  obtain ⟨T', h', X', e', W', st⟩ := stJ X hx hZ eT A' q1 hg hs hd
  exact ⟨T', h', X', e', W', A.set W' ek rfl, st⟩
theorem own_stB (X : Stand p l e R s m args below meth c T locs cells slots) (hx : p.tables.exec = Jvm.exec) (hZ : Z.Warmed39 s.vm) (eT : T.heap = h) (A : OA Z h a .byte n f) {x : Int32} (hj : ¬ j < 0) (ek : j.toNatClampNeg = k) (hk : k < n)
    {g : JFrame} (hg : g.method = m) {rest : List Value} (hs : g.stack = .int x :: .int j :: .ref a :: rest) (hd : decode c.code g.pc = .ok (.bastore, 1)) :
    ∃ T' h', Stand p l e R s m args below meth c T' (locs ++ [⟨a, j.toNatClampNeg⟩]) cells slots ∧ T'.heap = h' ∧ Wr h h' a j.toNatClampNeg (.int (nar .byte x)) ∧ OA Z h' a .byte n (fun i => if i = k then .int (nar .byte x) else f i) ∧
      ∀ t, Steps p.tables e below (T'.setTop { g with pc := g.pc + 1, stack := rest }) t → Steps p.tables e below (T.setTop g) t := by
  obtain ⟨cl, A', q1, q2, q3⟩ := A.at hj ek hk
  obtain ⟨T', h', X', e', W', st⟩ := stB X hx hZ eT A' q1 hg hs hd
  exact ⟨T', h', X', e', W', A.set W' ek (fits_nar_byte _), st⟩
theorem own_stC (X : Stand p l e R s m args below meth c T locs cells slots) (hx : p.tables.exec = Jvm.exec) (hZ : Z.Warmed39 s.vm) (eT : T.heap = h) (A : OA Z h a .char n f) {x : Int32} (hj : ¬ j < 0) (ek : j.toNatClampNeg = k) (hk : k < n)
    {g : JFrame} (hg : g.method = m) {rest : List Value} (hs : g.stack = .int x :: .int j :: .ref a :: rest) (hd : decode c.code g.pc = .ok (.castore, 1)) :
    ∃ T' h', Stand p l e R s m args below meth c T' (locs ++ [⟨a, j.toNatClampNeg⟩]) cells slots ∧ T'.heap = h' ∧ Wr h h' a j.toNatClampNeg (.int (nar .char x)) ∧ OA Z h' a .char n (fun i => if i = k then .int (nar .char x) else f i) ∧
      ∀ t, Steps p.tables e below (T'.setTop { g with pc := g.pc + 1, stack := rest }) t → Steps p.tables e below (T.setTop g) t := by
  obtain ⟨cl, A', q1, q2, q3⟩ := A.at hj ek hk
  obtain ⟨T', h', X', e', W', st⟩ := stC X hx hZ eT A' q1 hg hs hd
  exact ⟨T', h', X', e', W', A.set W' ek (fits_nar_char _), st⟩
theorem own_newP (X : Stand p l e R s m args below meth c T locs cells slots) (hx : p.tables.exec = Jvm.exec) (hZ : Z.Warmed39 s.vm) {aty : ArrayType} (w : (Cond.arrayClass (newarray.typeOf aty)).before a0 Z = true) (eT : T.heap = h) {z : Int32} (hz : ¬ z < 0) (en : z.toNatClampNeg = n) {cap : Nat} (hcap : n ≤ cap) (hb : cap * 8 ≤ 536870912) (hc : cells + 1 ≤ R.cells) (hl : slots + cap ≤ R.slots)
    {g : JFrame} (hg : g.method = m) {rest : List Value} (hs : g.stack = .int z :: rest) (hd : decode c.code g.pc = .ok (.newarray aty, 2)) :
    ∃ T' h', Stand p l e R s m args below meth c T' locs (cells + 1) (slots + cap) ∧ T'.heap = h' ∧ Ext h h' ∧ OA Z h' h.size (newarray.typeOf aty) n (fun _ => defaultValue (newarray.typeOf aty)) ∧
      ∀ t, Steps p.tables e below (T'.setTop { g with pc := g.pc + 2, stack := .ref h.size :: rest }) t → Steps p.tables e below (T.setTop g) t := by
  obtain ⟨T', h', cA, X', e', E', A', st⟩ := newP X hx hZ w eT hg hd hs hz (cap := cap) (en ▸ hcap) hb hc hl
  exact ⟨T', h', X', e', E', OA.new A' (by cases aty <;> rfl) en, st⟩
theorem OA.arv (A : OA Z h a ty n f) (d : Value) : ∃ k, Arv Z h a k ty (Int32.ofNat n) ((List.range n).map f) d := by
  obtain ⟨c, A, r1, r2, H⟩ := A
  have q : ∀ i, i < n → ((List.range n).map f).getD i d = f i := fun i hi => by simp [hi]
  exact ⟨c.cls, c, A, rfl, by rw [own_clamp n r2]; exact r1, own_nneg n r2, fun i hi => by rw [q i (by omega)]; exact (H i (by omega)).1, fun i hi => by rw [q i (by omega)]; exact (H i (by omega)).2⟩
theorem OA.of_arv {k : ClassId} {vs : List Value} {d : Value} {z : Int32} (A : Arv Z h a k ty z vs d) (e : z.toNatClampNeg = n) (q : ∀ i, i < n → vs.getD i d = f i) : OA Z h a ty n f := by
  obtain ⟨c, A, r1, r2, r3, H, G⟩ := A
  refine ⟨c, A, by omega, ?_, fun i hi => ?_⟩
  · have := z.toInt_lt
    have h2 : z.toNatClampNeg = z.toInt.toNat := rfl
    omega
  · rw [← q i hi]
    exact ⟨H i (by omega), G i (by omega)⟩
theorem own_spliced (vd us : List Value) (d : Value) (dp m : Nat) (hu : us.length = m) (hl : dp + m ≤ vd.length) (i : Nat) : (vd.take dp ++ us ++ vd.drop (dp + m)).getD i d = if dp ≤ i ∧ i < dp + m then us.getD (i - dp) d else vd.getD i d := by
  have h1 : (vd.take dp).length = dp := by rw [List.length_take]; omega
  by_cases c1 : i < dp
  · rw [if_neg (by omega)]
    simp only [List.getD_eq_getElem?_getD]
    rw [List.append_assoc, List.getElem?_append_left (by omega), List.getElem?_take_of_lt c1]
  · by_cases c2 : i < dp + m
    · rw [if_pos ⟨by omega, c2⟩]
      simp only [List.getD_eq_getElem?_getD]
      rw [List.append_assoc, List.getElem?_append_right (by omega), h1, List.getElem?_append_left (by omega)]
    · rw [if_neg (by omega)]
      simp only [List.getD_eq_getElem?_getD]
      rw [List.getElem?_append_right (by rw [List.length_append]; omega), List.getElem?_drop, List.length_append, h1, hu]
      have e : dp + m + (i - (dp + m)) = i := by omega
      rw [e]
/-- System.arraycopy between arrays of one primitive kind -/
theorem own_copy (X : Stand p l e R s m args below meth c T locs cells slots) (hx : p.tables.exec = Jvm.exec) (hZ : Z.Warmed39 s.vm) {own : String} {index : Nat} (hown : s.vm.findClass own = some m.cls)
    (w1 : (Cond.methodLink own index Jvm.Stand.acN).before a0 Z = true) (w2 : (Cond.native Jvm.Stand.acN).before a0 Z = true) (w3 : (Cond.static Jvm.Stand.acN).before a0 Z = true) (w4 : (Cond.initialized "java/lang/System").before a0 Z = true) (eT : T.heap = h)
    {n' sp dp nn : Nat} (A : OA Z h a ty n f) (B : OA Z h b ty n' f') (hty : refKind ty = false) (h1 : sp + nn ≤ n) (h2 : dp + nn ≤ n') {n0 : Nat} (N : Fr n0 locs) (ge : n0 ≤ b)
    {g : JFrame} (hg : g.method = m) (hsize : g.locals.size = c.maxLocals) {rest : List Value} (hs : g.stack = .int (Int32.ofNat nn) :: .int (Int32.ofNat dp) :: .ref b :: .int (Int32.ofNat sp) :: .ref a :: rest) (hd : decode c.code g.pc = .ok (.invokestatic index, 3))
    (hf : 1 ≤ R.frames) {W : Nat} (hW : 2 * g.monitorRoom + (rest.map fun v => v.category).sum ≤ W) (hlo : W + 18 ≤ R.locals) :
    ∃ T' h' L, Stand p l e R s m args below meth c T' L cells slots ∧ T'.heap = h' ∧ Fr n0 L ∧ Keep h h' [b] ∧ OA Z h' b ty n' (fun i => if dp ≤ i ∧ i < dp + nn then f (sp + (i - dp)) else f' i) ∧
      ∀ t, Steps p.tables e below (T'.setTop { g with pc := g.pc + 3, stack := rest }) t → Steps p.tables e below (T.setTop g) t := by
  have hn : n < 2 ^ 31 := by obtain ⟨c, A, r1, r2, H⟩ := A; exact r2
  have hn' : n' < 2 ^ 31 := by obtain ⟨c, A, r1, r2, H⟩ := B; exact r2
  obtain ⟨k, A'⟩ := A.arv (.int 0)
  obtain ⟨k', B'⟩ := B.arv (.int 0)
  have c1 := own_clamp sp (by omega)
  have c2 := own_clamp dp (by omega)
  have c3 := own_clamp nn (by omega)
  obtain ⟨T', h', L, X', e', N', K', A2, st⟩ := cpA X hx hZ hown w1 w2 w3 w4 eT A' B' (Or.inl ⟨rfl, hty⟩) (own_nneg sp (by omega)) (own_nneg dp (by omega)) (own_nneg nn (by omega)) (by rw [c1, c3, own_clamp n hn]; exact h1) (by rw [c2, c3, own_clamp n' hn']; exact h2) rfl (by rw [c2, c3]; simpa using h2) N ge hg hsize hs hd hf hW hlo
  refine ⟨T', h', L, X', e', N', K', OA.of_arv A2 (own_clamp n' hn') (fun i hi => ?_), st⟩
  rw [c1, c2, c3, own_spliced _ _ _ _ _ (by simp) (by simpa using h2)]
  by_cases q : dp ≤ i ∧ i < dp + nn
  · rw [if_pos q, if_pos q]
    have q3 : i - dp < nn := by omega
    have q4 : sp + (i - dp) < n := by omega
    simp [q3, q4]
  · rw [if_neg q, if_neg q]
    simp [hi]
/-- an array of references of class C: of n places, place j holds f j -/
def OR (Z : State) (h : Heap) (a : Addr) (C : String) (n : Nat) (f : Nat → Value) : Prop :=
  ∃ c : Cell, Arr Z h a c (.object C) ∧ Ovr Z c.cls C ∧ c.slots.size = n ∧ n < 2 ^ 31 ∧ ∀ j, j < n → c.slots[j]? = some (f j) ∧ (f j).isRef = true
variable {C : String}
theorem OR.ext (A : OR Z h a C n f) (E : Ext h h') : OR Z h' a C n f := by obtain ⟨c, A, r⟩ := A; exact ⟨c, A.ext E, r⟩
theorem OR.other (A : OR Z h b C n f) (W : Wr h h' a sl v) (q : b ≠ a) : OR Z h' b C n f := by obtain ⟨c, A, r⟩ := A; exact ⟨c, A.other W q, r⟩
theorem OR.keep (A : OR Z h a C n f) (K : Keep h h' ws) (q : a ∉ ws) : OR Z h' a C n f := by obtain ⟨c, A, r⟩ := A; exact ⟨c, ⟨K.2.1 a c A.1 q, A.2⟩, r⟩
theorem OR.lt (A : OR Z h a C n f) : a < h.size := by obtain ⟨c, A, -⟩ := A; exact A.lt
theorem OR.congr (A : OR Z h a C n f) (q : ∀ j, j < n → f j = f' j) : OR Z h a C n f' := by
  obtain ⟨c, A, o, r1, r2, H⟩ := A
  exact ⟨c, A, o, r1, r2, fun j hj => by rw [← q j hj]; exact H j hj⟩
theorem own_newR (X : Stand p l e R s m args below meth c T locs cells slots) (hx : p.tables.exec = Jvm.exec) (hZ : Z.Warmed39 s.vm) {own : String} {index : Nat} (hown : s.vm.findClass own = some m.cls) (w1 : (Cond.classLink own index C).before a0 Z = true) (w2 : (Cond.arrayOver (.object C)).before a0 Z = true) (eT : T.heap = h) {z : Int32} (hz : ¬ z < 0) (en : z.toNatClampNeg = n) {cap : Nat} (hcap : n ≤ cap) (hb : cap * 8 ≤ 536870912) (hc : cells + 1 ≤ R.cells) (hl : slots + cap ≤ R.slots)
    {g : JFrame} (hg : g.method = m) {rest : List Value} (hs : g.stack = .int z :: rest) (hd : decode c.code g.pc = .ok (.anewarray index, 3)) :
    ∃ T' h', Stand p l e R s m args below meth c T' locs (cells + 1) (slots + cap) ∧ T'.heap = h' ∧ Ext h h' ∧ OR Z h' h.size C n (fun _ => .null) ∧
      ∀ t, Steps p.tables e below (T'.setTop { g with pc := g.pc + 3, stack := .ref h.size :: rest }) t → Steps p.tables e below (T.setTop g) t := by
  obtain ⟨T', h', cA, X', e', E', A', O', st⟩ := newR X hx hZ hown w1 w2 eT hg hd hs hz (cap := cap) (en ▸ hcap) hb hc hl
  refine ⟨T', h', X', e', E', ⟨_, A', O', by rw [sz_new]; exact en, ?_, fun j hj => ⟨?_, rfl⟩⟩, st⟩
  · have := z.toInt_lt
    have h2 : z.toNatClampNeg = z.toInt.toNat := rfl
    omega
  · simp [newA, en, hj, defaultValue]
theorem own_stR (X : Stand p l e R s m args below meth c T locs cells slots) (hx : p.tables.exec = Jvm.exec) (hZ : Z.Warmed39 s.vm) (eT : T.heap = h) (A : OR Z h a C n f) {y : Addr} (I : Ins Z h y C true) (hj : ¬ j < 0) (ek : j.toNatClampNeg = k) (hk : k < n)
    {g : JFrame} (hg : g.method = m) {rest : List Value} (hs : g.stack = .ref y :: .int j :: .ref a :: rest) (hd : decode c.code g.pc = .ok (.aastore, 1)) :
    ∃ T' h', Stand p l e R s m args below meth c T' (locs ++ [⟨a, j.toNatClampNeg⟩]) cells slots ∧ T'.heap = h' ∧ Wr h h' a j.toNatClampNeg (.ref y) ∧ OR Z h' a C n (fun i => if i = k then .ref y else f i) ∧
      ∀ t, Steps p.tables e below (T'.setTop { g with pc := g.pc + 1, stack := rest }) t → Steps p.tables e below (T.setTop g) t := by
  obtain ⟨cl, A', O', r1, r2, H⟩ := A
  have q1 : ¬ (j < 0 ∨ cl.slots.size ≤ j.toNatClampNeg) := by
    rintro (q | q)
    · exact hj q
    · omega
  obtain ⟨T', h', X', e', W', st⟩ := stR X hx hZ eT A' q1 rfl (Sto.of A' O' I) hg hs hd
  refine ⟨T', h', X', e', W', ⟨_, A'.same W', O', by rw [sz_set]; exact r1, r2, fun i hi => ?_⟩, st⟩
  obtain ⟨H1, H2⟩ := H i hi
  subst ek
  by_cases q : i = j.toNatClampNeg
  · subst q
    dsimp only
    rw [if_pos rfl]
    exact ⟨by simp [Cell.setSlot, r1, hi], rfl⟩
  · dsimp only
    rw [if_neg q]
    refine ⟨?_, H2⟩
    rw [← H1]
    simp [Cell.setSlot, Array.getElem?_setIfInBounds, Ne.symm q]
theorem own_raload (X : Stand p l e R s m args below meth c T locs cells slots) (hx : p.tables.exec = Jvm.exec) (hZ : Z.Warmed39 s.vm) (eT : T.heap = h) (A : OR Z h a C n f) (hj : ¬ j < 0) (ek : j.toNatClampNeg = k) (hk : k < n) (hv : f k = v)
    {g : JFrame} (hg : g.method = m) {rest : List Value} (hs : g.stack = .int j :: .ref a :: rest) (hd : decode c.code g.pc = .ok (.aaload, 1)) :
    ∀ t, Steps p.tables e below (T.setTop { g with pc := g.pc + 1, stack := v :: rest }) t → Steps p.tables e below (T.setTop g) t := by
  obtain ⟨cl, A', O', r1, r2, H⟩ := A
  have q1 : ¬ (j < 0 ∨ cl.slots.size ≤ j.toNatClampNeg) := by
    rintro (q | q)
    · exact hj q
    · omega
  subst hv
  exact fun t k' => X.aaload hx (by rw [eT]; exact A'.1) (State.isArrayOf_alike hZ.alike A'.2.1) rfl A'.2.2 q1 (by rw [ek]; exact (H k hk).1) hg hs hd t k'
theorem own_fits_ref {t : FieldType} {w : Value} (ht : t.isReference = true) (hw : w.isRef = true) : fits t w = true := by
  cases w <;> simp [Value.isRef] at hw <;> cases t <;> first | rfl | (simp [FieldType.isReference] at ht)
end OwnLayer
theorem own_i2l (z : Int32) : z.toInt64.toInt32 = z := by simp
theorem own_bool {p : Int32} (h : p = 0 ∨ p = 1) : narrow .boolean (.int p) = .int p ∧ fits .boolean (.int p) = true := by
  rcases h with rfl | rfl <;> exact ⟨rfl, rfl⟩
theorem ef_tie (m : MethodId) (x0 : Int64) : entryFrame m #[(.long x0)] 2 = mkF m 0 #[.val (.long x0), .second] [] := by first | (simp [entryFrame, mkF, argsToLocals, Value.category]; done) | rfl
theorem d_jdk_29_method_43_code_0 : decode jdk_29_method_43_code 0 = .ok (.lload_n 0, 1) := by decide +kernel
theorem d_jdk_29_method_43_code_1 : decode jdk_29_method_43_code 1 = .ok (.l2i, 1) := by decide +kernel
theorem d_jdk_29_method_43_code_2 : decode jdk_29_method_43_code 2 = .ok (.i2l, 1) := by decide +kernel
theorem d_jdk_29_method_43_code_3 : decode jdk_29_method_43_code 3 = .ok (.lload_n 0, 1) := by decide +kernel
theorem d_jdk_29_method_43_code_4 : decode jdk_29_method_43_code 4 = .ok (.lcmp, 1) := by decide +kernel
theorem d_jdk_29_method_43_code_5 : decode jdk_29_method_43_code 5 = .ok (.ifCond .eq 13, 3) := by decide +kernel
theorem d_jdk_29_method_43_code_18 : decode jdk_29_method_43_code 18 = .ok (.lload_n 0, 1) := by decide +kernel
theorem d_jdk_29_method_43_code_19 : decode jdk_29_method_43_code 19 = .ok (.l2i, 1) := by decide +kernel
theorem d_jdk_29_method_43_code_20 : decode jdk_29_method_43_code 20 = .ok (.ireturn, 1) := by decide +kernel
def Q_tie (Z : State) (p1 : Int64) (h0 : Heap) (n0 : Nat) (v : Option Value) (h : Heap) (L : List Loc) : Prop := v = some (.int p1.toInt32) ∧ Fr n0 L ∧ h = h0
set_option maxRecDepth 65536 in
set_option maxHeartbeats 40000000 in
theorem rm_tie (l : Launch) (Z : State) (a0 : Array Value) (hw : ∀ d ∈ tables_1, d.before a0 Z = true) (ws : List Jvm.Cond) (p1 : Int64) (h0 : Heap) (n0 : Nat) (Z0 : n0 ≤ h0.size) (hz : p1.toInt32.toInt64 = p1) :
    MetFree l (⟨"java/lang/Math", "toIntExact", "(J)I"⟩ : MethodName) (head1 (Jvm.Cond.code (⟨"java/lang/Math", "toIntExact", "(J)I"⟩ : MethodName) jdk_29_method_43_code 2 (some .int) :: ws) ({ frames := 0, cells := 0, slots := 0, locals := 0 } : Room)) (fun a U => a = #[(.long p1)] ∧ Z.Warmed39 U.vm ∧ U.heap = h0) (fun _ _ _ _ _ => True) (fun _ U o U' => ∃ v L, o = .returned v ∧ Q_tie Z p1 h0 n0 v U'.heap L ∧ FrameEnd U o U' L ({ frames := 0, cells := 0, slots := 0, locals := 0 } : Room).cells ({ frames := 0, cells := 0, slots := 0, locals := 0 } : Room).slots) := by
  refine MetFree.of_bodySF (Jvm.Free.JP.mathPlain rfl (by decide +kernel)) hisR ?_
  intro p ee s m args below meth cc s₁ Bd hml0 hP hK
  obtain ⟨rfl, hZ, hh⟩ := hP
  have hx := Bd.exec
  have hby := Bd.bytes
  have hml : cc.maxLocals = 2 := hml0
  have hown : s.vm.findClass "java/lang/Math" = some m.cls := findClass_of_methodNamed Bd.named
  have hnm := (name_of_methodNamed Bd.named Bd.method).1
  have X0 : Stand p l ee ({ frames := 0, cells := 0, slots := 0, locals := 0 } : Room) s m #[(.long p1)] below meth cc s₁ [] 0 0 := Stand.of_body Bd
  have e0 : s₁.heap = h0 := by rw [← hh, Bd.state]; rfl
  have N0 := Fr.nil n0
  show Goes p ee below s ({ frames := 0, cells := 0, slots := 0, locals := 0 } : Room).cells ({ frames := 0, cells := 0, slots := 0, locals := 0 } : Room).slots (Q_tie Z p1 h0 n0) (s₁.setTop (entryFrame m #[(.long p1)] 2))
  refine Goes.step (fun _ hr => castTop (ef_tie m p1) hr) ?_
  show Goes p ee below s _ _ _ (s₁.setTop (mkF m 0 #[.val (.long p1), .second] []))
  refine Goes.step (fun _ hr => XT.lloadN X0.here hx rfl (hb hby d_jdk_29_method_43_code_0) rfl  hr) ?_
  show Goes p ee below s _ _ _ (s₁.setTop (mkF m 1 #[.val (.long p1), .second] [(.long p1)]))
  refine Goes.step (fun _ hr => XT.l2i X0.here hx rfl (hb hby d_jdk_29_method_43_code_1) rfl hr) ?_
  show Goes p ee below s _ _ _ (s₁.setTop (mkF m 2 #[.val (.long p1), .second] [(.int p1.toInt32)]))
  refine Goes.step (fun _ hr => XT.i2l X0.here hx rfl (hb hby d_jdk_29_method_43_code_2) rfl hr) ?_
  show Goes p ee below s _ _ _ (s₁.setTop (mkF m 3 #[.val (.long p1), .second] [(.long p1.toInt32.toInt64)]))
  refine Goes.step (fun _ hr => XT.lloadN X0.here hx rfl (hb hby d_jdk_29_method_43_code_3) rfl  hr) ?_
  show Goes p ee below s _ _ _ (s₁.setTop (mkF m 4 #[.val (.long p1), .second] [(.long p1), (.long p1.toInt32.toInt64)]))
  refine Goes.step (fun _ hr => XT.lcmp X0.here hx rfl (hb hby d_jdk_29_method_43_code_4) rfl hr) ?_
  show Goes p ee below s _ _ _ (s₁.setTop (mkF m 5 #[.val (.long p1), .second] [(.int (XT.cmpL p1.toInt32.toInt64 p1))]))
  refine Goes.step (fun _ hr => XS.ifYes X0.here hx rfl (pc0 := 5) (pc' := 18) rfl (hb hby d_jdk_29_method_43_code_5) rfl ((if0 _ _).trans (teq ((own_cmp _ _).mpr hz)).1) (by decide) (by decide) hr) ?_
  show Goes p ee below s _ _ _ (s₁.setTop (mkF m 18 #[.val (.long p1), .second] []))
  refine Goes.step (fun _ hr => XT.lloadN X0.here hx rfl (hb hby d_jdk_29_method_43_code_18) rfl  hr) ?_
  show Goes p ee below s _ _ _ (s₁.setTop (mkF m 19 #[.val (.long p1), .second] [(.long p1)]))
  refine Goes.step (fun _ hr => XT.l2i X0.here hx rfl (hb hby d_jdk_29_method_43_code_19) rfl hr) ?_
  show Goes p ee below s _ _ _ (s₁.setTop (mkF m 20 #[.val (.long p1), .second] [(.int p1.toInt32)]))
  refine Goes.retI X0 hx Bd.notSynchronized Bd.returns (hb hby d_jdk_29_method_43_code_20) (by decide) (by decide) ?_
  exact ⟨rfl, N0, e0⟩
theorem ef_rec (m : MethodId) (x0 : Addr) : entryFrame m #[(.ref x0)] 1 = mkF m 0 #[.val (.ref x0)] [] := by first | (simp [entryFrame, mkF, argsToLocals, Value.category]; done) | rfl
theorem pn_java_lang_Record : plainName "java/lang/Record" = true := by first | (simp [plainName, overriddenIn]; done) | decide +kernel
theorem d_jdk_30_method_1_code_0 : decode jdk_30_method_1_code 0 = .ok (.aload_n 0, 1) := by decide +kernel
theorem d_jdk_30_method_1_code_1 : decode jdk_30_method_1_code 1 = .ok (.invokespecial 1, 3) := by decide +kernel
theorem d_jdk_30_method_1_code_4 : decode jdk_30_method_1_code 4 = .ok (.return_, 1) := by decide +kernel
def Q_rec (Z : State) (a1 : Addr) (h0 : Heap) (n0 : Nat) (v : Option Value) (h : Heap) (L : List Loc) : Prop := v = none ∧ Fr n0 L ∧ h = h0
set_option maxRecDepth 65536 in
set_option maxHeartbeats 40000000 in
theorem rm_rec (l : Launch) (Z : State) (a0 : Array Value) (hw : ∀ d ∈ tables_1, d.before a0 Z = true) (ws : List Jvm.Cond) (a1 : Addr) (h0 : Heap) (n0 : Nat) (Z0 : n0 ≤ h0.size)  :
    MetFree l (⟨"java/lang/Record", "<init>", "()V"⟩ : MethodName) (head1 (Jvm.Cond.code (⟨"java/lang/Record", "<init>", "()V"⟩ : MethodName) jdk_30_method_1_code 1 none :: ws) ({ frames := 1, cells := 0, slots := 0, locals := 12 } : Room)) (fun a U => a = #[(.ref a1)] ∧ Z.Warmed39 U.vm ∧ U.heap = h0) (fun _ _ _ _ _ => True) (fun _ U o U' => ∃ v L, o = .returned v ∧ Q_rec Z a1 h0 n0 v U'.heap L ∧ FrameEnd U o U' L ({ frames := 1, cells := 0, slots := 0, locals := 12 } : Room).cells ({ frames := 1, cells := 0, slots := 0, locals := 12 } : Room).slots) := by
  refine MetFree.of_bodySF (plainFor_of_name pn_java_lang_Record) hisR ?_
  intro p ee s m args below meth cc s₁ Bd hml0 hP hK
  obtain ⟨rfl, hZ, hh⟩ := hP
  have hx := Bd.exec
  have hby := Bd.bytes
  have hml : cc.maxLocals = 1 := hml0
  have hown : s.vm.findClass "java/lang/Record" = some m.cls := findClass_of_methodNamed Bd.named
  have hnm := (name_of_methodNamed Bd.named Bd.method).1
  have X0 : Stand p l ee ({ frames := 1, cells := 0, slots := 0, locals := 12 } : Room) s m #[(.ref a1)] below meth cc s₁ [] 0 0 := Stand.of_body Bd
  have e0 : s₁.heap = h0 := by rw [← hh, Bd.state]; rfl
  have N0 := Fr.nil n0
  show Goes p ee below s ({ frames := 1, cells := 0, slots := 0, locals := 12 } : Room).cells ({ frames := 1, cells := 0, slots := 0, locals := 12 } : Room).slots (Q_rec Z a1 h0 n0) (s₁.setTop (entryFrame m #[(.ref a1)] 1))
  refine Goes.step (fun _ hr => castTop (ef_rec m a1) hr) ?_
  show Goes p ee below s _ _ _ (s₁.setTop (mkF m 0 #[.val (.ref a1)] []))
  refine Goes.step (fun _ hr => XS.aloadN X0.here hx rfl (hb hby d_jdk_30_method_1_code_0) rfl rfl hr) ?_
  show Goes p ee below s _ _ _ (s₁.setTop (mkF m 1 #[.val (.ref a1)] [(.ref a1)]))
  obtain ⟨T1, X1, e1, st1⟩ := initO X0 hx hZ hown (hw _ (List.mem_of_getElem? (i := 19) rfl)) (hw _ (List.mem_of_getElem? (i := 20) rfl)) (hw _ (List.mem_of_getElem? (i := 21) rfl)) e0 (g := (mkF m 1 #[.val (.ref a1)] [(.ref a1)])) rfl (by rw [hml]; rfl) rfl (hb hby d_jdk_30_method_1_code_1) (by decide) (W := 0) (by show 2 * 0 + _ ≤ _; exact Nat.le_of_eq rfl) (by decide)
  refine Goes.step st1 ?_
  show Goes p ee below s _ _ _ (T1.setTop (mkF m 4 #[.val (.ref a1)] []))
  refine Goes.retV X1 hx Bd.notSynchronized Bd.returns (hb hby d_jdk_30_method_1_code_4) (by decide) (by decide) ?_
  exact ⟨rfl, N0, e1⟩
theorem ef_dinit (m : MethodId) (x0 : Addr) (x1 : Int32) (x2 : Int32) (x3 : Int64) (x4 : Int32) : entryFrame m #[(.ref x0), (.int x1), (.int x2), (.long x3), (.int x4)] 6 = mkF m 0 #[.val (.ref x0), .val (.int x1), .val (.int x2), .val (.long x3), .second, .val (.int x4)] [] := by first | (simp [entryFrame, mkF, argsToLocals, Value.category]; done) | rfl
theorem pn_com_example_aliran_aliran_Decision : plainName "com/example/aliran/aliran/Decision" = true := by first | (simp [plainName, overriddenIn]; done) | decide +kernel
theorem d_prog_3_method_1_code_0 : decode prog_3_method_1_code 0 = .ok (.aload_n 0, 1) := by decide +kernel
theorem pd_0 : parseMethodDescriptor "()V" = some ⟨[], none⟩ := by decide +kernel
theorem d_prog_3_method_1_code_1 : decode prog_3_method_1_code 1 = .ok (.invokespecial 1, 3) := by decide +kernel
theorem d_prog_3_method_1_code_4 : decode prog_3_method_1_code 4 = .ok (.aload_n 0, 1) := by decide +kernel
theorem d_prog_3_method_1_code_5 : decode prog_3_method_1_code 5 = .ok (.iload_n 1, 1) := by decide +kernel
theorem d_prog_3_method_1_code_6 : decode prog_3_method_1_code 6 = .ok (.putfield 7, 3) := by decide +kernel
theorem d_prog_3_method_1_code_9 : decode prog_3_method_1_code 9 = .ok (.aload_n 0, 1) := by decide +kernel
theorem d_prog_3_method_1_code_10 : decode prog_3_method_1_code 10 = .ok (.iload_n 2, 1) := by decide +kernel
theorem d_prog_3_method_1_code_11 : decode prog_3_method_1_code 11 = .ok (.putfield 13, 3) := by decide +kernel
theorem d_prog_3_method_1_code_14 : decode prog_3_method_1_code 14 = .ok (.aload_n 0, 1) := by decide +kernel
theorem d_prog_3_method_1_code_15 : decode prog_3_method_1_code 15 = .ok (.lload_n 3, 1) := by decide +kernel
theorem d_prog_3_method_1_code_16 : decode prog_3_method_1_code 16 = .ok (.putfield 17, 3) := by decide +kernel
theorem d_prog_3_method_1_code_19 : decode prog_3_method_1_code 19 = .ok (.aload_n 0, 1) := by decide +kernel
theorem d_prog_3_method_1_code_20 : decode prog_3_method_1_code 20 = .ok (.iload 5, 2) := by decide +kernel
theorem d_prog_3_method_1_code_22 : decode prog_3_method_1_code 22 = .ok (.putfield 21, 3) := by decide +kernel
theorem d_prog_3_method_1_code_25 : decode prog_3_method_1_code 25 = .ok (.return_, 1) := by decide +kernel
def Q_dinit (Z : State) (a1 : Addr) (p1 : Int32) (p2 : Int32) (p3 : Int64) (p4 : Int32) (h0 : Heap) (n0 : Nat) (v : Option Value) (h : Heap) (L : List Loc) : Prop := v = none ∧ Fr n0 L ∧ Keep h0 h [a1] ∧ Exa Z h a1 "com/example/aliran/aliran/Decision" ∧ Fld Z h a1 "com/example/aliran/aliran/Decision" "granted" "Z" (.int p1) ∧ Fld Z h a1 "com/example/aliran/aliran/Decision" "remaining" "I" (.int p2) ∧ Fld Z h a1 "com/example/aliran/aliran/Decision" "waitMillis" "J" (.long p3) ∧ Fld Z h a1 "com/example/aliran/aliran/Decision" "withoutRedis" "Z" (.int p4)
set_option maxRecDepth 65536 in
set_option maxHeartbeats 40000000 in
theorem rm_dinit (l : Launch) (Z : State) (a0 : Array Value) (hw : ∀ d ∈ tables_1, d.before a0 Z = true) (ws : List Jvm.Cond) (a1 : Addr) (p1 : Int32) (p2 : Int32) (p3 : Int64) (p4 : Int32) (h0 : Heap) (n0 : Nat) (Z0 : n0 ≤ h0.size) (hp1 : p1 = 0 ∨ p1 = 1) (hp4 : p4 = 0 ∨ p4 = 1) (ge_a1 : n0 ≤ a1) (E1 : Exa Z h0 a1 "com/example/aliran/aliran/Decision") (F_granted : Fld Z h0 a1 "com/example/aliran/aliran/Decision" "granted" "Z" (.int 0)) (F_remaining : Fld Z h0 a1 "com/example/aliran/aliran/Decision" "remaining" "I" (.int 0)) (F_waitMillis : Fld Z h0 a1 "com/example/aliran/aliran/Decision" "waitMillis" "J" (.long 0)) (F_withoutRedis : Fld Z h0 a1 "com/example/aliran/aliran/Decision" "withoutRedis" "Z" (.int 0)) :
    MetFree l (⟨"com/example/aliran/aliran/Decision", "<init>", "(ZIJZ)V"⟩ : MethodName) (head1 (Jvm.Cond.code (⟨"com/example/aliran/aliran/Decision", "<init>", "(ZIJZ)V"⟩ : MethodName) prog_3_method_1_code 6 none :: ws) ({ frames := 2, cells := 0, slots := 0, locals := 24 } : Room)) (fun a U => a = #[(.ref a1), (.int p1), (.int p2), (.long p3), (.int p4)] ∧ Z.Warmed39 U.vm ∧ U.heap = h0) (fun _ _ _ _ _ => True) (fun _ U o U' => ∃ v L, o = .returned v ∧ Q_dinit Z a1 p1 p2 p3 p4 h0 n0 v U'.heap L ∧ FrameEnd U o U' L ({ frames := 2, cells := 0, slots := 0, locals := 24 } : Room).cells ({ frames := 2, cells := 0, slots := 0, locals := 24 } : Room).slots) := by
  refine MetFree.of_bodySF (plainFor_of_name pn_com_example_aliran_aliran_Decision) hisR ?_
  intro p ee s m args below meth cc s₁ Bd hml0 hP hK
  obtain ⟨rfl, hZ, hh⟩ := hP
  have hx := Bd.exec
  have hby := Bd.bytes
  have hml : cc.maxLocals = 6 := hml0
  have hown : s.vm.findClass "com/example/aliran/aliran/Decision" = some m.cls := findClass_of_methodNamed Bd.named
  have hnm := (name_of_methodNamed Bd.named Bd.method).1
  have X0 : Stand p l ee ({ frames := 2, cells := 0, slots := 0, locals := 24 } : Room) s m #[(.ref a1), (.int p1), (.int p2), (.long p3), (.int p4)] below meth cc s₁ [] 0 0 := Stand.of_body Bd
  have e0 : s₁.heap = h0 := by rw [← hh, Bd.state]; rfl
  have N0 := Fr.nil n0
  show Goes p ee below s ({ frames := 2, cells := 0, slots := 0, locals := 24 } : Room).cells ({ frames := 2, cells := 0, slots := 0, locals := 24 } : Room).slots (Q_dinit Z a1 p1 p2 p3 p4 h0 n0) (s₁.setTop (entryFrame m #[(.ref a1), (.int p1), (.int p2), (.long p3), (.int p4)] 6))
  refine Goes.step (fun _ hr => castTop (ef_dinit m a1 p1 p2 p3 p4) hr) ?_
  show Goes p ee below s _ _ _ (s₁.setTop (mkF m 0 #[.val (.ref a1), .val (.int p1), .val (.int p2), .val (.long p3), .second, .val (.int p4)] []))
  have K0 := Keep.refl h0 ([a1] : List Addr)
  refine Goes.step (fun _ hr => XS.aloadN X0.here hx rfl (hb hby d_prog_3_method_1_code_0) rfl rfl hr) ?_
  show Goes p ee below s _ _ _ (s₁.setTop (mkF m 1 #[.val (.ref a1), .val (.int p1), .val (.int p2), .val (.long p3), .second, .val (.int p4)] [(.ref a1)]))
  have lt_a1 := E1.lt
  obtain ⟨v1, T1, L1, X1, hQ1, st1⟩ := own_callN X0 hx hZ (y := (⟨"java/lang/Record", "<init>", "()V"⟩ : MethodName)) rfl hown (hw _ (List.mem_of_getElem? (i := 14) rfl)) (hw _ (List.mem_of_getElem? (i := 15) rfl)) (hw _ (List.mem_of_getElem? (i := 17) rfl)) (hw _ (List.mem_of_getElem? (i := 18) rfl)) (by decide) (a := a1) (argsL := []) (rm_rec l Z a0 hw [] a1 h0 n0 Z0 ) e0 (W := 0) (by decide) (by decide) (by decide) (by decide) (g := (mkF m 1 #[.val (.ref a1), .val (.int p1), .val (.int p2), .val (.long p3), .second, .val (.int p4)] [(.ref a1)])) rfl (by rw [hml]; rfl) (rest := []) (lenOf pd_0 rfl) rfl (by show 2 * 0 + _ ≤ _; exact Nat.le_of_eq rfl) (hb hby d_prog_3_method_1_code_1)
  refine Goes.step st1 ?_
  obtain ⟨rfl, N1, e1⟩ := hQ1
  have N2 := Fr.app N0 N1
  show Goes p ee below s _ _ _ (T1.setTop (mkF m 4 #[.val (.ref a1), .val (.int p1), .val (.int p2), .val (.long p3), .second, .val (.int p4)] []))
  refine Goes.step (fun _ hr => XS.aloadN X1.here hx rfl (hb hby d_prog_3_method_1_code_4) rfl rfl hr) ?_
  show Goes p ee below s _ _ _ (T1.setTop (mkF m 5 #[.val (.ref a1), .val (.int p1), .val (.int p2), .val (.long p3), .second, .val (.int p4)] [(.ref a1)]))
  refine Goes.step (fun _ hr => XS.iloadN X1.here hx rfl (hb hby d_prog_3_method_1_code_5) rfl  hr) ?_
  show Goes p ee below s _ _ _ (T1.setTop (mkF m 6 #[.val (.ref a1), .val (.int p1), .val (.int p2), .val (.long p3), .second, .val (.int p4)] [(.int p1), (.ref a1)]))
  obtain ⟨T3, h3, X3, e3, W3, st3⟩ := putFN X1 hx hZ hown (hw _ (List.mem_of_getElem? (i := 22) rfl)) Via.refl e1 F_granted E1 (Or.inr ⟨(hw _ (List.mem_of_getElem? (i := 23) rfl)), rfl, hnm⟩) (hw _ (List.mem_of_getElem? (i := 6) rfl)) (ty := .boolean) (v' := (.int p1)) (by decide) (own_bool hp1).1 (own_bool hp1).2 (g := (mkF m 6 #[.val (.ref a1), .val (.int p1), .val (.int p2), .val (.long p3), .second, .val (.int p4)] [(.int p1), (.ref a1)])) rfl rfl (hb hby d_prog_3_method_1_code_6)
  refine Goes.step st3 ?_
  have E1 := E1.wr W3
  have F_remaining := F_remaining.other W3 (Or.inr (slot_ne (Or.inr (hw _ (List.mem_of_getElem? (i := 25) rfl))) (Or.inr (hw _ (List.mem_of_getElem? (i := 23) rfl))) (by decide) (t := .int) (t' := .boolean) (by decide) (by decide)))
  have F_waitMillis := F_waitMillis.other W3 (Or.inr (slot_ne (Or.inr (hw _ (List.mem_of_getElem? (i := 27) rfl))) (Or.inr (hw _ (List.mem_of_getElem? (i := 23) rfl))) (by decide) (t := .long) (t' := .boolean) (by decide) (by decide)))
  have F_withoutRedis := F_withoutRedis.other W3 (Or.inr (slot_ne (Or.inr (hw _ (List.mem_of_getElem? (i := 29) rfl))) (Or.inr (hw _ (List.mem_of_getElem? (i := 23) rfl))) (by decide) (t := .boolean) (t' := .boolean) (by decide) (by decide)))
  have Zp4 := Nat.le_trans Z0 (Keep.of_wr W3).1
  have F_granted := F_granted.same W3
  have N5 := Fr.snoc X3 N2 ge_a1
  have K6 := K0.wr W3 (Or.inl (List.mem_of_getElem? (i := 0) rfl))
  show Goes p ee below s _ _ _ (T3.setTop (mkF m 9 #[.val (.ref a1), .val (.int p1), .val (.int p2), .val (.long p3), .second, .val (.int p4)] []))
  refine Goes.step (fun _ hr => XS.aloadN X3.here hx rfl (hb hby d_prog_3_method_1_code_9) rfl rfl hr) ?_
  show Goes p ee below s _ _ _ (T3.setTop (mkF m 10 #[.val (.ref a1), .val (.int p1), .val (.int p2), .val (.long p3), .second, .val (.int p4)] [(.ref a1)]))
  refine Goes.step (fun _ hr => XS.iloadN X3.here hx rfl (hb hby d_prog_3_method_1_code_10) rfl  hr) ?_
  show Goes p ee below s _ _ _ (T3.setTop (mkF m 11 #[.val (.ref a1), .val (.int p1), .val (.int p2), .val (.long p3), .second, .val (.int p4)] [(.int p2), (.ref a1)]))
  obtain ⟨T7, h7, X7, e7, W7, st7⟩ := putF X3 hx hZ hown (host := "") (Or.inl (hw _ (List.mem_of_getElem? (i := 24) rfl))) Via.refl e3 F_remaining E1 (Or.inr ⟨(hw _ (List.mem_of_getElem? (i := 25) rfl)), rfl, hnm⟩) (hw _ (List.mem_of_getElem? (i := 6) rfl)) (ty := .int) (by decide) rfl rfl (g := (mkF m 11 #[.val (.ref a1), .val (.int p1), .val (.int p2), .val (.long p3), .second, .val (.int p4)] [(.int p2), (.ref a1)])) rfl rfl (hb hby d_prog_3_method_1_code_11)
  refine Goes.step st7 ?_
  have E1 := E1.wr W7
  have F_granted := F_granted.other W7 (Or.inr (slot_ne (Or.inr (hw _ (List.mem_of_getElem? (i := 23) rfl))) (Or.inr (hw _ (List.mem_of_getElem? (i := 25) rfl))) (by decide) (t := .boolean) (t' := .int) (by decide) (by decide)))
  have F_waitMillis := F_waitMillis.other W7 (Or.inr (slot_ne (Or.inr (hw _ (List.mem_of_getElem? (i := 27) rfl))) (Or.inr (hw _ (List.mem_of_getElem? (i := 25) rfl))) (by decide) (t := .long) (t' := .int) (by decide) (by decide)))
  have F_withoutRedis := F_withoutRedis.other W7 (Or.inr (slot_ne (Or.inr (hw _ (List.mem_of_getElem? (i := 29) rfl))) (Or.inr (hw _ (List.mem_of_getElem? (i := 25) rfl))) (by decide) (t := .boolean) (t' := .int) (by decide) (by decide)))
  have Zp8 := Nat.le_trans Zp4 (Keep.of_wr W7).1
  have F_remaining := F_remaining.same W7
  have N9 := Fr.snoc X7 N5 ge_a1
  have K10 := K6.wr W7 (Or.inl (List.mem_of_getElem? (i := 0) rfl))
  show Goes p ee below s _ _ _ (T7.setTop (mkF m 14 #[.val (.ref a1), .val (.int p1), .val (.int p2), .val (.long p3), .second, .val (.int p4)] []))
  refine Goes.step (fun _ hr => XS.aloadN X7.here hx rfl (hb hby d_prog_3_method_1_code_14) rfl rfl hr) ?_
  show Goes p ee below s _ _ _ (T7.setTop (mkF m 15 #[.val (.ref a1), .val (.int p1), .val (.int p2), .val (.long p3), .second, .val (.int p4)] [(.ref a1)]))
  refine Goes.step (fun _ hr => XT.lloadN X7.here hx rfl (hb hby d_prog_3_method_1_code_15) rfl  hr) ?_
  show Goes p ee below s _ _ _ (T7.setTop (mkF m 16 #[.val (.ref a1), .val (.int p1), .val (.int p2), .val (.long p3), .second, .val (.int p4)] [(.long p3), (.ref a1)]))
  obtain ⟨T11, h11, X11, e11, W11, st11⟩ := putF X7 hx hZ hown (host := "") (Or.inl (hw _ (List.mem_of_getElem? (i := 26) rfl))) Via.refl e7 F_waitMillis E1 (Or.inr ⟨(hw _ (List.mem_of_getElem? (i := 27) rfl)), rfl, hnm⟩) (hw _ (List.mem_of_getElem? (i := 6) rfl)) (ty := .long) (by decide) rfl rfl (g := (mkF m 16 #[.val (.ref a1), .val (.int p1), .val (.int p2), .val (.long p3), .second, .val (.int p4)] [(.long p3), (.ref a1)])) rfl rfl (hb hby d_prog_3_method_1_code_16)
  refine Goes.step st11 ?_
  have E1 := E1.wr W11
  have F_granted := F_granted.other W11 (Or.inr (slot_ne (Or.inr (hw _ (List.mem_of_getElem? (i := 23) rfl))) (Or.inr (hw _ (List.mem_of_getElem? (i := 27) rfl))) (by decide) (t := .boolean) (t' := .long) (by decide) (by decide)))
  have F_remaining := F_remaining.other W11 (Or.inr (slot_ne (Or.inr (hw _ (List.mem_of_getElem? (i := 25) rfl))) (Or.inr (hw _ (List.mem_of_getElem? (i := 27) rfl))) (by decide) (t := .int) (t' := .long) (by decide) (by decide)))
  have F_withoutRedis := F_withoutRedis.other W11 (Or.inr (slot_ne (Or.inr (hw _ (List.mem_of_getElem? (i := 29) rfl))) (Or.inr (hw _ (List.mem_of_getElem? (i := 27) rfl))) (by decide) (t := .boolean) (t' := .long) (by decide) (by decide)))
  have Zp12 := Nat.le_trans Zp8 (Keep.of_wr W11).1
  have F_waitMillis := F_waitMillis.same W11
  have N13 := Fr.snoc X11 N9 ge_a1
  have K14 := K10.wr W11 (Or.inl (List.mem_of_getElem? (i := 0) rfl))
  show Goes p ee below s _ _ _ (T11.setTop (mkF m 19 #[.val (.ref a1), .val (.int p1), .val (.int p2), .val (.long p3), .second, .val (.int p4)] []))
  refine Goes.step (fun _ hr => XS.aloadN X11.here hx rfl (hb hby d_prog_3_method_1_code_19) rfl rfl hr) ?_
  show Goes p ee below s _ _ _ (T11.setTop (mkF m 20 #[.val (.ref a1), .val (.int p1), .val (.int p2), .val (.long p3), .second, .val (.int p4)] [(.ref a1)]))
  refine Goes.step (fun _ hr => XS.iload X11.here hx rfl (hb hby d_prog_3_method_1_code_20) rfl  hr) ?_
  show Goes p ee below s _ _ _ (T11.setTop (mkF m 22 #[.val (.ref a1), .val (.int p1), .val (.int p2), .val (.long p3), .second, .val (.int p4)] [(.int p4), (.ref a1)]))
  obtain ⟨T15, h15, X15, e15, W15, st15⟩ := putFN X11 hx hZ hown (hw _ (List.mem_of_getElem? (i := 28) rfl)) Via.refl e11 F_withoutRedis E1 (Or.inr ⟨(hw _ (List.mem_of_getElem? (i := 29) rfl)), rfl, hnm⟩) (hw _ (List.mem_of_getElem? (i := 6) rfl)) (ty := .boolean) (v' := (.int p4)) (by decide) (own_bool hp4).1 (own_bool hp4).2 (g := (mkF m 22 #[.val (.ref a1), .val (.int p1), .val (.int p2), .val (.long p3), .second, .val (.int p4)] [(.int p4), (.ref a1)])) rfl rfl (hb hby d_prog_3_method_1_code_22)
  refine Goes.step st15 ?_
  have E1 := E1.wr W15
  have F_granted := F_granted.other W15 (Or.inr (slot_ne (Or.inr (hw _ (List.mem_of_getElem? (i := 23) rfl))) (Or.inr (hw _ (List.mem_of_getElem? (i := 29) rfl))) (by decide) (t := .boolean) (t' := .boolean) (by decide) (by decide)))
  have F_remaining := F_remaining.other W15 (Or.inr (slot_ne (Or.inr (hw _ (List.mem_of_getElem? (i := 25) rfl))) (Or.inr (hw _ (List.mem_of_getElem? (i := 29) rfl))) (by decide) (t := .int) (t' := .boolean) (by decide) (by decide)))
  have F_waitMillis := F_waitMillis.other W15 (Or.inr (slot_ne (Or.inr (hw _ (List.mem_of_getElem? (i := 27) rfl))) (Or.inr (hw _ (List.mem_of_getElem? (i := 29) rfl))) (by decide) (t := .long) (t' := .boolean) (by decide) (by decide)))
  have Zp16 := Nat.le_trans Zp12 (Keep.of_wr W15).1
  have F_withoutRedis := F_withoutRedis.same W15
  have N17 := Fr.snoc X15 N13 ge_a1
  have K18 := K14.wr W15 (Or.inl (List.mem_of_getElem? (i := 0) rfl))
  show Goes p ee below s _ _ _ (T15.setTop (mkF m 25 #[.val (.ref a1), .val (.int p1), .val (.int p2), .val (.long p3), .second, .val (.int p4)] []))
  refine Goes.retV X15 hx Bd.notSynchronized Bd.returns (hb hby d_prog_3_method_1_code_25) (by decide) (by decide) ?_
  rw [e15]
  exact ⟨rfl, N17, K18, E1, F_granted, F_remaining, F_waitMillis, F_withoutRedis⟩
theorem ef_fr (m : MethodId) (x0 : Addr) : entryFrame m #[(.ref x0)] 1 = mkF m 0 #[.val (.ref x0)] [] := by first | (simp [entryFrame, mkF, argsToLocals, Value.category]; done) | rfl
theorem d_prog_3_method_2_code_0 : decode prog_3_method_2_code 0 = .ok (.new 8, 3) := by decide +kernel
theorem d_prog_3_method_2_code_3 : decode prog_3_method_2_code 3 = .ok (.dup, 1) := by decide +kernel
theorem d_prog_3_method_2_code_4 : decode prog_3_method_2_code 4 = .ok (.aload_n 0, 1) := by decide +kernel
theorem d_prog_3_method_2_code_5 : decode prog_3_method_2_code 5 = .ok (.iconst 0, 1) := by decide +kernel
theorem d_prog_3_method_2_code_6 : decode prog_3_method_2_code 6 = .ok (.laload, 1) := by decide +kernel
theorem d_prog_3_method_2_code_7 : decode prog_3_method_2_code 7 = .ok (.lconst 1, 1) := by decide +kernel
theorem d_prog_3_method_2_code_8 : decode prog_3_method_2_code 8 = .ok (.lcmp, 1) := by decide +kernel
theorem d_prog_3_method_2_code_9 : decode prog_3_method_2_code 9 = .ok (.ifCond .ne 7, 3) := by decide +kernel
theorem d_prog_3_method_2_code_12 : decode prog_3_method_2_code 12 = .ok (.iconst 1, 1) := by decide +kernel
theorem d_prog_3_method_2_code_13 : decode prog_3_method_2_code 13 = .ok (.goto 4, 3) := by decide +kernel
theorem d_prog_3_method_2_code_17 : decode prog_3_method_2_code 17 = .ok (.aload_n 0, 1) := by decide +kernel
theorem d_prog_3_method_2_code_18 : decode prog_3_method_2_code 18 = .ok (.iconst 1, 1) := by decide +kernel
theorem d_prog_3_method_2_code_19 : decode prog_3_method_2_code 19 = .ok (.laload, 1) := by decide +kernel
theorem pd_1 : parseMethodDescriptor "(J)I" = some ⟨[.long], some .int⟩ := by decide +kernel
theorem d_prog_3_method_2_code_20 : decode prog_3_method_2_code 20 = .ok (.invokestatic 24, 3) := by decide +kernel
theorem d_prog_3_method_2_code_23 : decode prog_3_method_2_code 23 = .ok (.aload_n 0, 1) := by decide +kernel
theorem d_prog_3_method_2_code_24 : decode prog_3_method_2_code 24 = .ok (.iconst 2, 1) := by decide +kernel
theorem d_prog_3_method_2_code_25 : decode prog_3_method_2_code 25 = .ok (.laload, 1) := by decide +kernel
theorem d_prog_3_method_2_code_26 : decode prog_3_method_2_code 26 = .ok (.iconst 0, 1) := by decide +kernel
theorem pd_2 : parseMethodDescriptor "(ZIJZ)V" = some ⟨[.boolean, .int, .long, .boolean], none⟩ := by decide +kernel
theorem d_prog_3_method_2_code_27 : decode prog_3_method_2_code 27 = .ok (.invokespecial 30, 3) := by decide +kernel
theorem d_prog_3_method_2_code_30 : decode prog_3_method_2_code 30 = .ok (.areturn, 1) := by decide +kernel
theorem d_prog_3_method_2_code_16 : decode prog_3_method_2_code 16 = .ok (.iconst 0, 1) := by decide +kernel
def Q_fr (Z : State) (a1 : Addr) (g : Int64) (r : Int32) (w : Int64) (h0 : Heap) (n0 : Nat) (v : Option Value) (h : Heap) (L : List Loc) : Prop := ∃ b : Addr, v = some (.ref b) ∧ Fr n0 L ∧ h0.size ≤ b ∧ Keep h0 h [] ∧ Exa Z h b "com/example/aliran/aliran/Decision" ∧ Fld Z h b "com/example/aliran/aliran/Decision" "granted" "Z" (.int (if g = 1 then (1 : Int32) else 0)) ∧ Fld Z h b "com/example/aliran/aliran/Decision" "remaining" "I" (.int r) ∧ Fld Z h b "com/example/aliran/aliran/Decision" "waitMillis" "J" (.long w) ∧ Fld Z h b "com/example/aliran/aliran/Decision" "withoutRedis" "Z" (.int 0)
set_option maxRecDepth 65536 in
set_option maxHeartbeats 40000000 in
theorem rm_fr (l : Launch) (Z : State) (a0 : Array Value) (hw : ∀ d ∈ tables_1, d.before a0 Z = true) (ws : List Jvm.Cond) (a1 : Addr) (g : Int64) (r : Int32) (w : Int64) (h0 : Heap) (n0 : Nat) (Z0 : n0 ≤ h0.size) (A : OA Z h0 a1 .long 3 (fun i => [(.long g), (.long r.toInt64), (.long w)].getD i (.long 0))) :
    MetFree l (⟨"com/example/aliran/aliran/Decision", "fromReply", "([J)Lcom/example/aliran/aliran/Decision;"⟩ : MethodName) (head1 (Jvm.Cond.code (⟨"com/example/aliran/aliran/Decision", "fromReply", "([J)Lcom/example/aliran/aliran/Decision;"⟩ : MethodName) prog_3_method_2_code 1 (some (.object "com/example/aliran/aliran/Decision")) :: ws) ({ frames := 3, cells := 1, slots := 4, locals := 42 } : Room)) (fun a U => a = #[(.ref a1)] ∧ Z.Warmed39 U.vm ∧ U.heap = h0) (fun _ _ _ _ _ => True) (fun _ U o U' => ∃ v L, o = .returned v ∧ Q_fr Z a1 g r w h0 n0 v U'.heap L ∧ FrameEnd U o U' L ({ frames := 3, cells := 1, slots := 4, locals := 42 } : Room).cells ({ frames := 3, cells := 1, slots := 4, locals := 42 } : Room).slots) := by
  refine MetFree.of_bodySF (plainFor_of_name pn_com_example_aliran_aliran_Decision) hisR ?_
  intro p ee s m args below meth cc s₁ Bd hml0 hP hK
  obtain ⟨rfl, hZ, hh⟩ := hP
  have hx := Bd.exec
  have hby := Bd.bytes
  have hml : cc.maxLocals = 1 := hml0
  have hown : s.vm.findClass "com/example/aliran/aliran/Decision" = some m.cls := findClass_of_methodNamed Bd.named
  have hnm := (name_of_methodNamed Bd.named Bd.method).1
  have X0 : Stand p l ee ({ frames := 3, cells := 1, slots := 4, locals := 42 } : Room) s m #[(.ref a1)] below meth cc s₁ [] 0 0 := Stand.of_body Bd
  have e0 : s₁.heap = h0 := by rw [← hh, Bd.state]; rfl
  have N0 := Fr.nil n0
  show Goes p ee below s ({ frames := 3, cells := 1, slots := 4, locals := 42 } : Room).cells ({ frames := 3, cells := 1, slots := 4, locals := 42 } : Room).slots (Q_fr Z a1 g r w h0 n0) (s₁.setTop (entryFrame m #[(.ref a1)] 1))
  refine Goes.step (fun _ hr => castTop (ef_fr m a1) hr) ?_
  show Goes p ee below s _ _ _ (s₁.setTop (mkF m 0 #[.val (.ref a1)] []))
  have K0 := Keep.refl h0 ([] : List Addr)
  obtain ⟨T1, h1, X1, e1, E1, A1, D1, -, st1⟩ := newO X0 hx hZ hown (hw _ (List.mem_of_getElem? (i := 5) rfl)) (hw _ (List.mem_of_getElem? (i := 6) rfl)) (hw _ (List.mem_of_getElem? (i := 3) rfl)) e0 (g := (mkF m 0 #[.val (.ref a1)] [])) rfl (hb hby d_prog_3_method_2_code_0) (by decide) (by decide)
  obtain ⟨b1, g_b1⟩ : ∃ z, z = h0.size := ⟨_, rfl⟩
  have ne_a1_b1 : a1 ≠ b1 := Nat.ne_of_lt (Nat.lt_of_lt_of_le A.lt (Nat.le_of_eq g_b1.symm))
  have ge_b1 : n0 ≤ b1 := Nat.le_trans Z0 (Nat.le_of_eq g_b1.symm)
  have sz_b1 : h0.size ≤ b1 := Nat.le_trans K0.1 (Nat.le_of_eq g_b1.symm)
  rw [← g_b1] at A1 D1 st1
  have A := A.ext E1
  have Zp2 := Nat.le_trans Z0 E1.1
  have K3 := K0.ext E1
  refine Goes.step st1 ?_
  have E_b1 := A1
  have F_granted_b1 : Fld Z h1 b1 "com/example/aliran/aliran/Decision" "granted" "Z" (.int (0 : Int32)) := D1 (Or.inr (hw _ (List.mem_of_getElem? (i := 23) rfl))) (ty := .boolean) (by decide)
  have F_remaining_b1 : Fld Z h1 b1 "com/example/aliran/aliran/Decision" "remaining" "I" (.int (0 : Int32)) := D1 (Or.inr (hw _ (List.mem_of_getElem? (i := 25) rfl))) (ty := .int) (by decide)
  have F_waitMillis_b1 : Fld Z h1 b1 "com/example/aliran/aliran/Decision" "waitMillis" "J" (.long (0 : Int64)) := D1 (Or.inr (hw _ (List.mem_of_getElem? (i := 27) rfl))) (ty := .long) (by decide)
  have F_withoutRedis_b1 : Fld Z h1 b1 "com/example/aliran/aliran/Decision" "withoutRedis" "Z" (.int (0 : Int32)) := D1 (Or.inr (hw _ (List.mem_of_getElem? (i := 29) rfl))) (ty := .boolean) (by decide)
  show Goes p ee below s _ _ _ (T1.setTop (mkF m 3 #[.val (.ref a1)] [(.ref b1)]))
  refine Goes.step (fun _ hr => XS.dup X1.here hx rfl (hb hby d_prog_3_method_2_code_3) rfl rfl hr) ?_
  show Goes p ee below s _ _ _ (T1.setTop (mkF m 4 #[.val (.ref a1)] [(.ref b1), (.ref b1)]))
  refine Goes.step (fun _ hr => XS.aloadN X1.here hx rfl (hb hby d_prog_3_method_2_code_4) rfl rfl hr) ?_
  show Goes p ee below s _ _ _ (T1.setTop (mkF m 5 #[.val (.ref a1)] [(.ref a1), (.ref b1), (.ref b1)]))
  refine Goes.step (fun _ hr => XS.iconst X1.here hx rfl (hb hby d_prog_3_method_2_code_5) hr) ?_
  show Goes p ee below s _ _ _ (T1.setTop (mkF m 6 #[.val (.ref a1)] [(.int (0 : Int32)), (.ref a1), (.ref b1), (.ref b1)]))
  refine Goes.step (own_laload X1 hx hZ e1 A (j := (0 : Int32)) (by decide) (k := 0) rfl (by decide) (v := (.long g)) rfl (g := (mkF m 6 #[.val (.ref a1)] [(.int (0 : Int32)), (.ref a1), (.ref b1), (.ref b1)])) rfl rfl (hb hby d_prog_3_method_2_code_6)) ?_
  show Goes p ee below s _ _ _ (T1.setTop (mkF m 7 #[.val (.ref a1)] [(.long g), (.ref b1), (.ref b1)]))
  refine Goes.step (fun _ hr => XT.lconst X1.here hx rfl (hb hby d_prog_3_method_2_code_7) hr) ?_
  show Goes p ee below s _ _ _ (T1.setTop (mkF m 8 #[.val (.ref a1)] [(.long (1 : Int64)), (.long g), (.ref b1), (.ref b1)]))
  refine Goes.step (fun _ hr => XT.lcmp X1.here hx rfl (hb hby d_prog_3_method_2_code_8) rfl hr) ?_
  show Goes p ee below s _ _ _ (T1.setTop (mkF m 9 #[.val (.ref a1)] [(.int (XT.cmpL g (1 : Int64))), (.ref b1), (.ref b1)]))
  by_cases hg : g = 1
  · show Goes p ee below s _ _ _ (T1.setTop (mkF m 9 #[.val (.ref a1)] [(.int (XT.cmpL g (1 : Int64))), (.ref b1), (.ref b1)]))
    refine Goes.step (fun _ hr => XS.ifNo X1.here hx rfl (hb hby d_prog_3_method_2_code_9) rfl ((if0 _ _).trans (teq ((own_cmp _ _).mpr hg)).2) hr) ?_
    show Goes p ee below s _ _ _ (T1.setTop (mkF m 12 #[.val (.ref a1)] [(.ref b1), (.ref b1)]))
    refine Goes.step (fun _ hr => XS.iconst X1.here hx rfl (hb hby d_prog_3_method_2_code_12) hr) ?_
    show Goes p ee below s _ _ _ (T1.setTop (mkF m 13 #[.val (.ref a1)] [(.int (1 : Int32)), (.ref b1), (.ref b1)]))
    refine Goes.step (fun _ hr => XS.goto X1.here hx rfl (pc0 := 13) (pc' := 17) rfl (hb hby d_prog_3_method_2_code_13) (by decide) (by decide) hr) ?_
    show Goes p ee below s _ _ _ (T1.setTop (mkF m 17 #[.val (.ref a1)] [(.int (1 : Int32)), (.ref b1), (.ref b1)]))
    refine Goes.step (fun _ hr => XS.aloadN X1.here hx rfl (hb hby d_prog_3_method_2_code_17) rfl rfl hr) ?_
    show Goes p ee below s _ _ _ (T1.setTop (mkF m 18 #[.val (.ref a1)] [(.ref a1), (.int (1 : Int32)), (.ref b1), (.ref b1)]))
    refine Goes.step (fun _ hr => XS.iconst X1.here hx rfl (hb hby d_prog_3_method_2_code_18) hr) ?_
    show Goes p ee below s _ _ _ (T1.setTop (mkF m 19 #[.val (.ref a1)] [(.int (1 : Int32)), (.ref a1), (.int (1 : Int32)), (.ref b1), (.ref b1)]))
    refine Goes.step (own_laload X1 hx hZ e1 A (j := (1 : Int32)) (by decide) (k := 1) rfl (by decide) (v := (.long r.toInt64)) rfl (g := (mkF m 19 #[.val (.ref a1)] [(.int (1 : Int32)), (.ref a1), (.int (1 : Int32)), (.ref b1), (.ref b1)])) rfl rfl (hb hby d_prog_3_method_2_code_19)) ?_
    show Goes p ee below s _ _ _ (T1.setTop (mkF m 20 #[.val (.ref a1)] [(.long r.toInt64), (.int (1 : Int32)), (.ref b1), (.ref b1)]))
    have lt_a1 := A.lt
    have lt_b1 := E_b1.lt
    obtain ⟨v4, T4, L4, X4, hQ4, st4⟩ := own_callS X1 hx hZ (y := (⟨"java/lang/Math", "toIntExact", "(J)I"⟩ : MethodName)) hown (hw _ (List.mem_of_getElem? (i := 7) rfl)) (hw _ (List.mem_of_getElem? (i := 8) rfl)) (hw _ (List.mem_of_getElem? (i := 9) rfl)) (hw _ (List.mem_of_getElem? (i := 10) rfl)) (by decide) (argsL := [(.long r.toInt64)]) (rm_tie l Z a0 hw [] r.toInt64 h1 n0 Zp2 (congrArg Int32.toInt64 (own_i2l r))) e1 (W := 3) (by decide) (by decide) (by decide) (by decide) (g := (mkF m 20 #[.val (.ref a1)] [(.long r.toInt64), (.int (1 : Int32)), (.ref b1), (.ref b1)])) rfl (by rw [hml]; rfl) (rest := [(.int (1 : Int32)), (.ref b1), (.ref b1)]) (lenOf pd_1 rfl) rfl (by show 2 * 0 + _ ≤ _; exact Nat.le_of_eq rfl) (hb hby d_prog_3_method_2_code_20)
    refine Goes.step st4 ?_
    obtain ⟨rfl, N4, e4⟩ := hQ4
    have N5 := Fr.app N0 N4
    show Goes p ee below s _ _ _ (T4.setTop (mkF m 23 #[.val (.ref a1)] [(.int r.toInt64.toInt32), (.int (1 : Int32)), (.ref b1), (.ref b1)]))
    rw [own_i2l r]
    show Goes p ee below s _ _ _ (T4.setTop (mkF m 23 #[.val (.ref a1)] [(.int r), (.int (1 : Int32)), (.ref b1), (.ref b1)]))
    refine Goes.step (fun _ hr => XS.aloadN X4.here hx rfl (hb hby d_prog_3_method_2_code_23) rfl rfl hr) ?_
    show Goes p ee below s _ _ _ (T4.setTop (mkF m 24 #[.val (.ref a1)] [(.ref a1), (.int r), (.int (1 : Int32)), (.ref b1), (.ref b1)]))
    refine Goes.step (fun _ hr => XS.iconst X4.here hx rfl (hb hby d_prog_3_method_2_code_24) hr) ?_
    show Goes p ee below s _ _ _ (T4.setTop (mkF m 25 #[.val (.ref a1)] [(.int (2 : Int32)), (.ref a1), (.int r), (.int (1 : Int32)), (.ref b1), (.ref b1)]))
    refine Goes.step (own_laload X4 hx hZ e4 A (j := (2 : Int32)) (by decide) (k := 2) rfl (by decide) (v := (.long w)) rfl (g := (mkF m 25 #[.val (.ref a1)] [(.int (2 : Int32)), (.ref a1), (.int r), (.int (1 : Int32)), (.ref b1), (.ref b1)])) rfl rfl (hb hby d_prog_3_method_2_code_25)) ?_
    show Goes p ee below s _ _ _ (T4.setTop (mkF m 26 #[.val (.ref a1)] [(.long w), (.int r), (.int (1 : Int32)), (.ref b1), (.ref b1)]))
    refine Goes.step (fun _ hr => XS.iconst X4.here hx rfl (hb hby d_prog_3_method_2_code_26) hr) ?_
    show Goes p ee below s _ _ _ (T4.setTop (mkF m 27 #[.val (.ref a1)] [(.int (0 : Int32)), (.long w), (.int r), (.int (1 : Int32)), (.ref b1), (.ref b1)]))
    have lt_a1 := A.lt
    have lt_b1 := E_b1.lt
    obtain ⟨v6, T6, L6, X6, hQ6, st6⟩ := own_callN X4 hx hZ (y := (⟨"com/example/aliran/aliran/Decision", "<init>", "(ZIJZ)V"⟩ : MethodName)) rfl hown (hw _ (List.mem_of_getElem? (i := 11) rfl)) (hw _ (List.mem_of_getElem? (i := 12) rfl)) (hw _ (List.mem_of_getElem? (i := 3) rfl)) (hw _ (List.mem_of_getElem? (i := 13) rfl)) (by decide) (a := b1) (argsL := [(.int (1 : Int32)), (.int r), (.long w), (.int (0 : Int32))]) (rm_dinit l Z a0 hw [] b1 (1 : Int32) r w (0 : Int32) h1 n0 Zp2 (Or.inr rfl) (Or.inl rfl) ge_b1 E_b1 F_granted_b1 F_remaining_b1 F_waitMillis_b1 F_withoutRedis_b1) e4 (W := 1) (by decide) (by decide) (by decide) (by decide) (g := (mkF m 27 #[.val (.ref a1)] [(.int (0 : Int32)), (.long w), (.int r), (.int (1 : Int32)), (.ref b1), (.ref b1)])) rfl (by rw [hml]; rfl) (rest := [(.ref b1)]) (lenOf pd_2 rfl) rfl (by show 2 * 0 + _ ≤ _; exact Nat.le_of_eq rfl) (hb hby d_prog_3_method_2_code_27)
    refine Goes.step st6 ?_
    obtain ⟨rfl, N6, Kc6, Ei6, Fa6, Fb6, Fc6, Fd6⟩ := hQ6
    have N7 := Fr.app N5 N6
    obtain ⟨h6, e6⟩ : ∃ h', T6.heap = h' := ⟨_, rfl⟩
    rw [e6] at Kc6 Ei6 Fa6 Fb6 Fc6 Fd6
    have A := A.keep Kc6 (ninS ne_a1_b1 nin0)
    have K8 := K3.trans Kc6 (allS (Or.inr sz_b1) all0)
    have Zp9 := Nat.le_trans Zp2 Kc6.1
    show Goes p ee below s _ _ _ (T6.setTop (mkF m 30 #[.val (.ref a1)] [(.ref b1)]))
    refine Goes.retA X6 hx Bd.notSynchronized Bd.returns rfl rfl (hb hby d_prog_3_method_2_code_30) (by decide) (by decide) ?_
    rw [e6]
    refine ⟨_, rfl, N7, sz_b1, K8, Ei6, ?_, Fb6, Fc6, Fd6⟩
    rw [if_pos hg]
    exact Fa6
  · show Goes p ee below s _ _ _ (T1.setTop (mkF m 9 #[.val (.ref a1)] [(.int (XT.cmpL g (1 : Int64))), (.ref b1), (.ref b1)]))
    refine Goes.step (fun _ hr => XS.ifYes X1.here hx rfl (pc0 := 9) (pc' := 16) rfl (hb hby d_prog_3_method_2_code_9) rfl ((if0 _ _).trans (feq (fun q => hg ((own_cmp _ _).mp q))).2) (by decide) (by decide) hr) ?_
    show Goes p ee below s _ _ _ (T1.setTop (mkF m 16 #[.val (.ref a1)] [(.ref b1), (.ref b1)]))
    refine Goes.step (fun _ hr => XS.iconst X1.here hx rfl (hb hby d_prog_3_method_2_code_16) hr) ?_
    show Goes p ee below s _ _ _ (T1.setTop (mkF m 17 #[.val (.ref a1)] [(.int (0 : Int32)), (.ref b1), (.ref b1)]))
    refine Goes.step (fun _ hr => XS.aloadN X1.here hx rfl (hb hby d_prog_3_method_2_code_17) rfl rfl hr) ?_
    show Goes p ee below s _ _ _ (T1.setTop (mkF m 18 #[.val (.ref a1)] [(.ref a1), (.int (0 : Int32)), (.ref b1), (.ref b1)]))
    refine Goes.step (fun _ hr => XS.iconst X1.here hx rfl (hb hby d_prog_3_method_2_code_18) hr) ?_
    show Goes p ee below s _ _ _ (T1.setTop (mkF m 19 #[.val (.ref a1)] [(.int (1 : Int32)), (.ref a1), (.int (0 : Int32)), (.ref b1), (.ref b1)]))
    refine Goes.step (own_laload X1 hx hZ e1 A (j := (1 : Int32)) (by decide) (k := 1) rfl (by decide) (v := (.long r.toInt64)) rfl (g := (mkF m 19 #[.val (.ref a1)] [(.int (1 : Int32)), (.ref a1), (.int (0 : Int32)), (.ref b1), (.ref b1)])) rfl rfl (hb hby d_prog_3_method_2_code_19)) ?_
    show Goes p ee below s _ _ _ (T1.setTop (mkF m 20 #[.val (.ref a1)] [(.long r.toInt64), (.int (0 : Int32)), (.ref b1), (.ref b1)]))
    have lt_a1 := A.lt
    have lt_b1 := E_b1.lt
    obtain ⟨v10, T10, L10, X10, hQ10, st10⟩ := own_callS X1 hx hZ (y := (⟨"java/lang/Math", "toIntExact", "(J)I"⟩ : MethodName)) hown (hw _ (List.mem_of_getElem? (i := 7) rfl)) (hw _ (List.mem_of_getElem? (i := 8) rfl)) (hw _ (List.mem_of_getElem? (i := 9) rfl)) (hw _ (List.mem_of_getElem? (i := 10) rfl)) (by decide) (argsL := [(.long r.toInt64)]) (rm_tie l Z a0 hw [] r.toInt64 h1 n0 Zp2 (congrArg Int32.toInt64 (own_i2l r))) e1 (W := 3) (by decide) (by decide) (by decide) (by decide) (g := (mkF m 20 #[.val (.ref a1)] [(.long r.toInt64), (.int (0 : Int32)), (.ref b1), (.ref b1)])) rfl (by rw [hml]; rfl) (rest := [(.int (0 : Int32)), (.ref b1), (.ref b1)]) (lenOf pd_1 rfl) rfl (by show 2 * 0 + _ ≤ _; exact Nat.le_of_eq rfl) (hb hby d_prog_3_method_2_code_20)
    refine Goes.step st10 ?_
    obtain ⟨rfl, N10, e10⟩ := hQ10
    have N11 := Fr.app N0 N10
    show Goes p ee below s _ _ _ (T10.setTop (mkF m 23 #[.val (.ref a1)] [(.int r.toInt64.toInt32), (.int (0 : Int32)), (.ref b1), (.ref b1)]))
    rw [own_i2l r]
    show Goes p ee below s _ _ _ (T10.setTop (mkF m 23 #[.val (.ref a1)] [(.int r), (.int (0 : Int32)), (.ref b1), (.ref b1)]))
    refine Goes.step (fun _ hr => XS.aloadN X10.here hx rfl (hb hby d_prog_3_method_2_code_23) rfl rfl hr) ?_
    show Goes p ee below s _ _ _ (T10.setTop (mkF m 24 #[.val (.ref a1)] [(.ref a1), (.int r), (.int (0 : Int32)), (.ref b1), (.ref b1)]))
    refine Goes.step (fun _ hr => XS.iconst X10.here hx rfl (hb hby d_prog_3_method_2_code_24) hr) ?_
    show Goes p ee below s _ _ _ (T10.setTop (mkF m 25 #[.val (.ref a1)] [(.int (2 : Int32)), (.ref a1), (.int r), (.int (0 : Int32)), (.ref b1), (.ref b1)]))
    refine Goes.step (own_laload X10 hx hZ e10 A (j := (2 : Int32)) (by decide) (k := 2) rfl (by decide) (v := (.long w)) rfl (g := (mkF m 25 #[.val (.ref a1)] [(.int (2 : Int32)), (.ref a1), (.int r), (.int (0 : Int32)), (.ref b1), (.ref b1)])) rfl rfl (hb hby d_prog_3_method_2_code_25)) ?_
    show Goes p ee below s _ _ _ (T10.setTop (mkF m 26 #[.val (.ref a1)] [(.long w), (.int r), (.int (0 : Int32)), (.ref b1), (.ref b1)]))
    refine Goes.step (fun _ hr => XS.iconst X10.here hx rfl (hb hby d_prog_3_method_2_code_26) hr) ?_
    show Goes p ee below s _ _ _ (T10.setTop (mkF m 27 #[.val (.ref a1)] [(.int (0 : Int32)), (.long w), (.int r), (.int (0 : Int32)), (.ref b1), (.ref b1)]))
    have lt_a1 := A.lt
    have lt_b1 := E_b1.lt
    obtain ⟨v12, T12, L12, X12, hQ12, st12⟩ := own_callN X10 hx hZ (y := (⟨"com/example/aliran/aliran/Decision", "<init>", "(ZIJZ)V"⟩ : MethodName)) rfl hown (hw _ (List.mem_of_getElem? (i := 11) rfl)) (hw _ (List.mem_of_getElem? (i := 12) rfl)) (hw _ (List.mem_of_getElem? (i := 3) rfl)) (hw _ (List.mem_of_getElem? (i := 13) rfl)) (by decide) (a := b1) (argsL := [(.int (0 : Int32)), (.int r), (.long w), (.int (0 : Int32))]) (rm_dinit l Z a0 hw [] b1 (0 : Int32) r w (0 : Int32) h1 n0 Zp2 (Or.inl rfl) (Or.inl rfl) ge_b1 E_b1 F_granted_b1 F_remaining_b1 F_waitMillis_b1 F_withoutRedis_b1) e10 (W := 1) (by decide) (by decide) (by decide) (by decide) (g := (mkF m 27 #[.val (.ref a1)] [(.int (0 : Int32)), (.long w), (.int r), (.int (0 : Int32)), (.ref b1), (.ref b1)])) rfl (by rw [hml]; rfl) (rest := [(.ref b1)]) (lenOf pd_2 rfl) rfl (by show 2 * 0 + _ ≤ _; exact Nat.le_of_eq rfl) (hb hby d_prog_3_method_2_code_27)
    refine Goes.step st12 ?_
    obtain ⟨rfl, N12, Kc12, Ei12, Fa12, Fb12, Fc12, Fd12⟩ := hQ12
    have N13 := Fr.app N11 N12
    obtain ⟨h12, e12⟩ : ∃ h', T12.heap = h' := ⟨_, rfl⟩
    rw [e12] at Kc12 Ei12 Fa12 Fb12 Fc12 Fd12
    have A := A.keep Kc12 (ninS ne_a1_b1 nin0)
    have K14 := K3.trans Kc12 (allS (Or.inr sz_b1) all0)
    have Zp15 := Nat.le_trans Zp2 Kc12.1
    show Goes p ee below s _ _ _ (T12.setTop (mkF m 30 #[.val (.ref a1)] [(.ref b1)]))
    refine Goes.retA X12 hx Bd.notSynchronized Bd.returns rfl rfl (hb hby d_prog_3_method_2_code_30) (by decide) (by decide) ?_
    rw [e12]
    refine ⟨_, rfl, N13, sz_b1, K14, Ei12, ?_, Fb12, Fc12, Fd12⟩
    rw [if_neg hg]
    exact Fa12
theorem ef_get_granted (m : MethodId) (x0 : Addr) : entryFrame m #[(.ref x0)] 1 = mkF m 0 #[.val (.ref x0)] [] := by first | (simp [entryFrame, mkF, argsToLocals, Value.category]; done) | rfl
theorem d_prog_3_method_6_code_0 : decode prog_3_method_6_code 0 = .ok (.aload_n 0, 1) := by decide +kernel
theorem d_prog_3_method_6_code_1 : decode prog_3_method_6_code 1 = .ok (.getfield 7, 3) := by decide +kernel
theorem d_prog_3_method_6_code_4 : decode prog_3_method_6_code 4 = .ok (.ireturn, 1) := by decide +kernel
def Q_get_granted (Z : State) (a1 : Addr) (z : Int32) (h0 : Heap) (n0 : Nat) (v : Option Value) (h : Heap) (L : List Loc) : Prop := v = some (.int z) ∧ Fr n0 L ∧ h = h0
set_option maxRecDepth 65536 in
set_option maxHeartbeats 40000000 in
theorem rm_get_granted (l : Launch) (Z : State) (a0 : Array Value) (hw : ∀ d ∈ tables_1, d.before a0 Z = true) (ws : List Jvm.Cond) (a1 : Addr) (z : Int32) (h0 : Heap) (n0 : Nat) (Z0 : n0 ≤ h0.size) (hz : z = 0 ∨ z = 1) (F1 : Fld Z h0 a1 "com/example/aliran/aliran/Decision" "granted" "Z" (.int z)) :
    MetFree l (⟨"com/example/aliran/aliran/Decision", "granted", "()Z"⟩ : MethodName) (head1 (Jvm.Cond.code (⟨"com/example/aliran/aliran/Decision", "granted", "()Z"⟩ : MethodName) prog_3_method_6_code 1 (some .boolean) :: ws) ({ frames := 0, cells := 0, slots := 0, locals := 0 } : Room)) (fun a U => a = #[(.ref a1)] ∧ Z.Warmed39 U.vm ∧ U.heap = h0) (fun _ _ _ _ _ => True) (fun _ U o U' => ∃ v L, o = .returned v ∧ Q_get_granted Z a1 z h0 n0 v U'.heap L ∧ FrameEnd U o U' L ({ frames := 0, cells := 0, slots := 0, locals := 0 } : Room).cells ({ frames := 0, cells := 0, slots := 0, locals := 0 } : Room).slots) := by
  refine MetFree.of_bodySF (plainFor_of_name pn_com_example_aliran_aliran_Decision) hisR ?_
  intro p ee s m args below meth cc s₁ Bd hml0 hP hK
  obtain ⟨rfl, hZ, hh⟩ := hP
  have hx := Bd.exec
  have hby := Bd.bytes
  have hml : cc.maxLocals = 1 := hml0
  have hown : s.vm.findClass "com/example/aliran/aliran/Decision" = some m.cls := findClass_of_methodNamed Bd.named
  have hnm := (name_of_methodNamed Bd.named Bd.method).1
  have X0 : Stand p l ee ({ frames := 0, cells := 0, slots := 0, locals := 0 } : Room) s m #[(.ref a1)] below meth cc s₁ [] 0 0 := Stand.of_body Bd
  have e0 : s₁.heap = h0 := by rw [← hh, Bd.state]; rfl
  have N0 := Fr.nil n0
  show Goes p ee below s ({ frames := 0, cells := 0, slots := 0, locals := 0 } : Room).cells ({ frames := 0, cells := 0, slots := 0, locals := 0 } : Room).slots (Q_get_granted Z a1 z h0 n0) (s₁.setTop (entryFrame m #[(.ref a1)] 1))
  refine Goes.step (fun _ hr => castTop (ef_get_granted m a1) hr) ?_
  show Goes p ee below s _ _ _ (s₁.setTop (mkF m 0 #[.val (.ref a1)] []))
  refine Goes.step (fun _ hr => XS.aloadN X0.here hx rfl (hb hby d_prog_3_method_6_code_0) rfl rfl hr) ?_
  show Goes p ee below s _ _ _ (s₁.setTop (mkF m 1 #[.val (.ref a1)] [(.ref a1)]))
  obtain ⟨T1, X1, e1, st1⟩ := getF X0 hx hZ hown (host := "") (Or.inl (hw _ (List.mem_of_getElem? (i := 22) rfl))) Via.refl e0 F1 (g := (mkF m 1 #[.val (.ref a1)] [(.ref a1)])) rfl rfl (hb hby d_prog_3_method_6_code_1)
  refine Goes.step st1 ?_
  show Goes p ee below s _ _ _ (T1.setTop (mkF m 4 #[.val (.ref a1)] [(.int z)]))
  refine Goes.retZ X1 hx Bd.notSynchronized Bd.returns (by simp) (own_bool hz).1 (hb hby d_prog_3_method_6_code_4) (by decide) (by decide) ?_
  exact ⟨rfl, N0, e1⟩
theorem ef_get_remaining (m : MethodId) (x0 : Addr) : entryFrame m #[(.ref x0)] 1 = mkF m 0 #[.val (.ref x0)] [] := by first | (simp [entryFrame, mkF, argsToLocals, Value.category]; done) | rfl
theorem d_prog_3_method_7_code_0 : decode prog_3_method_7_code 0 = .ok (.aload_n 0, 1) := by decide +kernel
theorem d_prog_3_method_7_code_1 : decode prog_3_method_7_code 1 = .ok (.getfield 13, 3) := by decide +kernel
theorem d_prog_3_method_7_code_4 : decode prog_3_method_7_code 4 = .ok (.ireturn, 1) := by decide +kernel
def Q_get_remaining (Z : State) (a1 : Addr) (z : Int32) (h0 : Heap) (n0 : Nat) (v : Option Value) (h : Heap) (L : List Loc) : Prop := v = some (.int z) ∧ Fr n0 L ∧ h = h0
set_option maxRecDepth 65536 in
set_option maxHeartbeats 40000000 in
theorem rm_get_remaining (l : Launch) (Z : State) (a0 : Array Value) (hw : ∀ d ∈ tables_1, d.before a0 Z = true) (ws : List Jvm.Cond) (a1 : Addr) (z : Int32) (h0 : Heap) (n0 : Nat) (Z0 : n0 ≤ h0.size) (F1 : Fld Z h0 a1 "com/example/aliran/aliran/Decision" "remaining" "I" (.int z)) :
    MetFree l (⟨"com/example/aliran/aliran/Decision", "remaining", "()I"⟩ : MethodName) (head1 (Jvm.Cond.code (⟨"com/example/aliran/aliran/Decision", "remaining", "()I"⟩ : MethodName) prog_3_method_7_code 1 (some .int) :: ws) ({ frames := 0, cells := 0, slots := 0, locals := 0 } : Room)) (fun a U => a = #[(.ref a1)] ∧ Z.Warmed39 U.vm ∧ U.heap = h0) (fun _ _ _ _ _ => True) (fun _ U o U' => ∃ v L, o = .returned v ∧ Q_get_remaining Z a1 z h0 n0 v U'.heap L ∧ FrameEnd U o U' L ({ frames := 0, cells := 0, slots := 0, locals := 0 } : Room).cells ({ frames := 0, cells := 0, slots := 0, locals := 0 } : Room).slots) := by
  refine MetFree.of_bodySF (plainFor_of_name pn_com_example_aliran_aliran_Decision) hisR ?_
  intro p ee s m args below meth cc s₁ Bd hml0 hP hK
  obtain ⟨rfl, hZ, hh⟩ := hP
  have hx := Bd.exec
  have hby := Bd.bytes
  have hml : cc.maxLocals = 1 := hml0
  have hown : s.vm.findClass "com/example/aliran/aliran/Decision" = some m.cls := findClass_of_methodNamed Bd.named
  have hnm := (name_of_methodNamed Bd.named Bd.method).1
  have X0 : Stand p l ee ({ frames := 0, cells := 0, slots := 0, locals := 0 } : Room) s m #[(.ref a1)] below meth cc s₁ [] 0 0 := Stand.of_body Bd
  have e0 : s₁.heap = h0 := by rw [← hh, Bd.state]; rfl
  have N0 := Fr.nil n0
  show Goes p ee below s ({ frames := 0, cells := 0, slots := 0, locals := 0 } : Room).cells ({ frames := 0, cells := 0, slots := 0, locals := 0 } : Room).slots (Q_get_remaining Z a1 z h0 n0) (s₁.setTop (entryFrame m #[(.ref a1)] 1))
  refine Goes.step (fun _ hr => castTop (ef_get_remaining m a1) hr) ?_
  show Goes p ee below s _ _ _ (s₁.setTop (mkF m 0 #[.val (.ref a1)] []))
  refine Goes.step (fun _ hr => XS.aloadN X0.here hx rfl (hb hby d_prog_3_method_7_code_0) rfl rfl hr) ?_
  show Goes p ee below s _ _ _ (s₁.setTop (mkF m 1 #[.val (.ref a1)] [(.ref a1)]))
  obtain ⟨T1, X1, e1, st1⟩ := getF X0 hx hZ hown (host := "") (Or.inl (hw _ (List.mem_of_getElem? (i := 24) rfl))) Via.refl e0 F1 (g := (mkF m 1 #[.val (.ref a1)] [(.ref a1)])) rfl rfl (hb hby d_prog_3_method_7_code_1)
  refine Goes.step st1 ?_
  show Goes p ee below s _ _ _ (T1.setTop (mkF m 4 #[.val (.ref a1)] [(.int z)]))
  refine Goes.retI X1 hx Bd.notSynchronized Bd.returns (hb hby d_prog_3_method_7_code_4) (by decide) (by decide) ?_
  exact ⟨rfl, N0, e1⟩
theorem ef_get_waitMillis (m : MethodId) (x0 : Addr) : entryFrame m #[(.ref x0)] 1 = mkF m 0 #[.val (.ref x0)] [] := by first | (simp [entryFrame, mkF, argsToLocals, Value.category]; done) | rfl
theorem d_prog_3_method_8_code_0 : decode prog_3_method_8_code 0 = .ok (.aload_n 0, 1) := by decide +kernel
theorem d_prog_3_method_8_code_1 : decode prog_3_method_8_code 1 = .ok (.getfield 17, 3) := by decide +kernel
theorem d_prog_3_method_8_code_4 : decode prog_3_method_8_code 4 = .ok (.lreturn, 1) := by decide +kernel
def Q_get_waitMillis (Z : State) (a1 : Addr) (z : Int64) (h0 : Heap) (n0 : Nat) (v : Option Value) (h : Heap) (L : List Loc) : Prop := v = some (.long z) ∧ Fr n0 L ∧ h = h0
set_option maxRecDepth 65536 in
set_option maxHeartbeats 40000000 in
theorem rm_get_waitMillis (l : Launch) (Z : State) (a0 : Array Value) (hw : ∀ d ∈ tables_1, d.before a0 Z = true) (ws : List Jvm.Cond) (a1 : Addr) (z : Int64) (h0 : Heap) (n0 : Nat) (Z0 : n0 ≤ h0.size) (F1 : Fld Z h0 a1 "com/example/aliran/aliran/Decision" "waitMillis" "J" (.long z)) :
    MetFree l (⟨"com/example/aliran/aliran/Decision", "waitMillis", "()J"⟩ : MethodName) (head1 (Jvm.Cond.code (⟨"com/example/aliran/aliran/Decision", "waitMillis", "()J"⟩ : MethodName) prog_3_method_8_code 1 (some .long) :: ws) ({ frames := 0, cells := 0, slots := 0, locals := 0 } : Room)) (fun a U => a = #[(.ref a1)] ∧ Z.Warmed39 U.vm ∧ U.heap = h0) (fun _ _ _ _ _ => True) (fun _ U o U' => ∃ v L, o = .returned v ∧ Q_get_waitMillis Z a1 z h0 n0 v U'.heap L ∧ FrameEnd U o U' L ({ frames := 0, cells := 0, slots := 0, locals := 0 } : Room).cells ({ frames := 0, cells := 0, slots := 0, locals := 0 } : Room).slots) := by
  refine MetFree.of_bodySF (plainFor_of_name pn_com_example_aliran_aliran_Decision) hisR ?_
  intro p ee s m args below meth cc s₁ Bd hml0 hP hK
  obtain ⟨rfl, hZ, hh⟩ := hP
  have hx := Bd.exec
  have hby := Bd.bytes
  have hml : cc.maxLocals = 1 := hml0
  have hown : s.vm.findClass "com/example/aliran/aliran/Decision" = some m.cls := findClass_of_methodNamed Bd.named
  have hnm := (name_of_methodNamed Bd.named Bd.method).1
  have X0 : Stand p l ee ({ frames := 0, cells := 0, slots := 0, locals := 0 } : Room) s m #[(.ref a1)] below meth cc s₁ [] 0 0 := Stand.of_body Bd
  have e0 : s₁.heap = h0 := by rw [← hh, Bd.state]; rfl
  have N0 := Fr.nil n0
  show Goes p ee below s ({ frames := 0, cells := 0, slots := 0, locals := 0 } : Room).cells ({ frames := 0, cells := 0, slots := 0, locals := 0 } : Room).slots (Q_get_waitMillis Z a1 z h0 n0) (s₁.setTop (entryFrame m #[(.ref a1)] 1))
  refine Goes.step (fun _ hr => castTop (ef_get_waitMillis m a1) hr) ?_
  show Goes p ee below s _ _ _ (s₁.setTop (mkF m 0 #[.val (.ref a1)] []))
  refine Goes.step (fun _ hr => XS.aloadN X0.here hx rfl (hb hby d_prog_3_method_8_code_0) rfl rfl hr) ?_
  show Goes p ee below s _ _ _ (s₁.setTop (mkF m 1 #[.val (.ref a1)] [(.ref a1)]))
  obtain ⟨T1, X1, e1, st1⟩ := getF X0 hx hZ hown (host := "") (Or.inl (hw _ (List.mem_of_getElem? (i := 26) rfl))) Via.refl e0 F1 (g := (mkF m 1 #[.val (.ref a1)] [(.ref a1)])) rfl rfl (hb hby d_prog_3_method_8_code_1)
  refine Goes.step st1 ?_
  show Goes p ee below s _ _ _ (T1.setTop (mkF m 4 #[.val (.ref a1)] [(.long z)]))
  refine Goes.retJ X1 hx Bd.notSynchronized Bd.returns (hb hby d_prog_3_method_8_code_4) (by decide) (by decide) ?_
  exact ⟨rfl, N0, e1⟩
theorem ef_get_withoutRedis (m : MethodId) (x0 : Addr) : entryFrame m #[(.ref x0)] 1 = mkF m 0 #[.val (.ref x0)] [] := by first | (simp [entryFrame, mkF, argsToLocals, Value.category]; done) | rfl
theorem d_prog_3_method_9_code_0 : decode prog_3_method_9_code 0 = .ok (.aload_n 0, 1) := by decide +kernel
theorem d_prog_3_method_9_code_1 : decode prog_3_method_9_code 1 = .ok (.getfield 21, 3) := by decide +kernel
theorem d_prog_3_method_9_code_4 : decode prog_3_method_9_code 4 = .ok (.ireturn, 1) := by decide +kernel
def Q_get_withoutRedis (Z : State) (a1 : Addr) (z : Int32) (h0 : Heap) (n0 : Nat) (v : Option Value) (h : Heap) (L : List Loc) : Prop := v = some (.int z) ∧ Fr n0 L ∧ h = h0
set_option maxRecDepth 65536 in
set_option maxHeartbeats 40000000 in
theorem rm_get_withoutRedis (l : Launch) (Z : State) (a0 : Array Value) (hw : ∀ d ∈ tables_1, d.before a0 Z = true) (ws : List Jvm.Cond) (a1 : Addr) (z : Int32) (h0 : Heap) (n0 : Nat) (Z0 : n0 ≤ h0.size) (hz : z = 0 ∨ z = 1) (F1 : Fld Z h0 a1 "com/example/aliran/aliran/Decision" "withoutRedis" "Z" (.int z)) :
    MetFree l (⟨"com/example/aliran/aliran/Decision", "withoutRedis", "()Z"⟩ : MethodName) (head1 (Jvm.Cond.code (⟨"com/example/aliran/aliran/Decision", "withoutRedis", "()Z"⟩ : MethodName) prog_3_method_9_code 1 (some .boolean) :: ws) ({ frames := 0, cells := 0, slots := 0, locals := 0 } : Room)) (fun a U => a = #[(.ref a1)] ∧ Z.Warmed39 U.vm ∧ U.heap = h0) (fun _ _ _ _ _ => True) (fun _ U o U' => ∃ v L, o = .returned v ∧ Q_get_withoutRedis Z a1 z h0 n0 v U'.heap L ∧ FrameEnd U o U' L ({ frames := 0, cells := 0, slots := 0, locals := 0 } : Room).cells ({ frames := 0, cells := 0, slots := 0, locals := 0 } : Room).slots) := by
  refine MetFree.of_bodySF (plainFor_of_name pn_com_example_aliran_aliran_Decision) hisR ?_
  intro p ee s m args below meth cc s₁ Bd hml0 hP hK
  obtain ⟨rfl, hZ, hh⟩ := hP
  have hx := Bd.exec
  have hby := Bd.bytes
  have hml : cc.maxLocals = 1 := hml0
  have hown : s.vm.findClass "com/example/aliran/aliran/Decision" = some m.cls := findClass_of_methodNamed Bd.named
  have hnm := (name_of_methodNamed Bd.named Bd.method).1
  have X0 : Stand p l ee ({ frames := 0, cells := 0, slots := 0, locals := 0 } : Room) s m #[(.ref a1)] below meth cc s₁ [] 0 0 := Stand.of_body Bd
  have e0 : s₁.heap = h0 := by rw [← hh, Bd.state]; rfl
  have N0 := Fr.nil n0
  show Goes p ee below s ({ frames := 0, cells := 0, slots := 0, locals := 0 } : Room).cells ({ frames := 0, cells := 0, slots := 0, locals := 0 } : Room).slots (Q_get_withoutRedis Z a1 z h0 n0) (s₁.setTop (entryFrame m #[(.ref a1)] 1))
  refine Goes.step (fun _ hr => castTop (ef_get_withoutRedis m a1) hr) ?_
  show Goes p ee below s _ _ _ (s₁.setTop (mkF m 0 #[.val (.ref a1)] []))
  refine Goes.step (fun _ hr => XS.aloadN X0.here hx rfl (hb hby d_prog_3_method_9_code_0) rfl rfl hr) ?_
  show Goes p ee below s _ _ _ (s₁.setTop (mkF m 1 #[.val (.ref a1)] [(.ref a1)]))
  obtain ⟨T1, X1, e1, st1⟩ := getF X0 hx hZ hown (host := "") (Or.inl (hw _ (List.mem_of_getElem? (i := 28) rfl))) Via.refl e0 F1 (g := (mkF m 1 #[.val (.ref a1)] [(.ref a1)])) rfl rfl (hb hby d_prog_3_method_9_code_1)
  refine Goes.step st1 ?_
  show Goes p ee below s _ _ _ (T1.setTop (mkF m 4 #[.val (.ref a1)] [(.int z)]))
  refine Goes.retZ X1 hx Bd.notSynchronized Bd.returns (by simp) (own_bool hz).1 (hb hby d_prog_3_method_9_code_4) (by decide) (by decide) ?_
  exact ⟨rfl, N0, e1⟩
theorem ef_law (m : MethodId) (x0 : Int64) (x1 : Int32) (x2 : Int64) (x3 : Int32) : entryFrame m #[(.long x0), (.int x1), (.long x2), (.int x3)] maxLocals = mkF m 0 #[.val (.long x0), .second, .val (.int x1), .val (.long x2), .second, .val (.int x3), .unset, .unset, .unset, .unset, .unset, .unset, .unset, .unset, .unset] [] := by first | (simp [entryFrame, mkF, argsToLocals, Value.category, maxLocals]; done) | rfl
theorem pn_com_example_aliran_aliran_DecisionFromReplyPinLaw : plainName "com/example/aliran/aliran/DecisionFromReplyPinLaw" = true := by first | (simp [plainName, overriddenIn]; done) | decide +kernel
theorem pd_3 : parseMethodDescriptor "([J)Lcom/example/aliran/aliran/Decision;" = some ⟨[(.array .long)], some (.object "com/example/aliran/aliran/Decision")⟩ := by decide +kernel
theorem pd_4 : parseMethodDescriptor "()Z" = some ⟨[], some .boolean⟩ := by decide +kernel
theorem pd_5 : parseMethodDescriptor "()I" = some ⟨[], some .int⟩ := by decide +kernel
theorem pd_6 : parseMethodDescriptor "()J" = some ⟨[], some .long⟩ := by decide +kernel
def Q_law (Z : State) (p1 : Int64) (p2 : Int32) (p3 : Int64) (p4 : Int32) (h0 : Heap) (n0 : Nat) (v : Option Value) (h : Heap) (L : List Loc) : Prop := v = some (.int 1) ∧ Fr n0 L
set_option maxRecDepth 65536 in
set_option maxHeartbeats 40000000 in
theorem rm_law (l : Launch) (Z : State) (a0 : Array Value) (hw : ∀ d ∈ tables_1, d.before a0 Z = true) (ws : List Jvm.Cond) (p1 : Int64) (p2 : Int32) (p3 : Int64) (p4 : Int32) (h0 : Heap) (n0 : Nat) (Z0 : n0 ≤ h0.size)  :
    MetFree l x (head1 (Jvm.Cond.code x code maxLocals ret :: ws) room_1) (fun a U => a = #[(.long p1), (.int p2), (.long p3), (.int p4)] ∧ Z.Warmed39 U.vm ∧ U.heap = h0) (fun _ _ _ _ _ => True) (fun _ U o U' => ∃ v L, o = .returned v ∧ Q_law Z p1 p2 p3 p4 h0 n0 v U'.heap L ∧ FrameEnd U o U' L room_1.cells room_1.slots) := by
  refine MetFree.of_bodySF (plainFor_of_name pn_com_example_aliran_aliran_DecisionFromReplyPinLaw) hisR ?_
  intro p ee s m args below meth cc s₁ Bd hml0 hP hK
  obtain ⟨rfl, hZ, hh⟩ := hP
  have hx := Bd.exec
  have hby := Bd.bytes
  have hml : cc.maxLocals = 15 := hml0
  have hown : s.vm.findClass "com/example/aliran/aliran/DecisionFromReplyPinLaw" = some m.cls := findClass_of_methodNamed Bd.named
  have hnm := (name_of_methodNamed Bd.named Bd.method).1
  have X0 : Stand p l ee room_1 s m #[(.long p1), (.int p2), (.long p3), (.int p4)] below meth cc s₁ [] 0 0 := Stand.of_body Bd
  have e0 : s₁.heap = h0 := by rw [← hh, Bd.state]; rfl
  have N0 := Fr.nil n0
  show Goes p ee below s room_1.cells room_1.slots (Q_law Z p1 p2 p3 p4 h0 n0) (s₁.setTop (entryFrame m #[(.long p1), (.int p2), (.long p3), (.int p4)] maxLocals))
  refine Goes.step (fun _ hr => castTop (ef_law m p1 p2 p3 p4) hr) ?_
  show Goes p ee below s _ _ _ (s₁.setTop (mkF m 0 #[.val (.long p1), .second, .val (.int p2), .val (.long p3), .second, .val (.int p4), .unset, .unset, .unset, .unset, .unset, .unset, .unset, .unset, .unset] []))
  have J14 : ∀ g0 : Int64, Goes p ee below s room_1.cells room_1.slots (Q_law Z p1 p2 p3 p4 h0 n0) (s₁.setTop (mkF m 14 #[.val (.long p1), .second, .val (.int p2), .val (.long p3), .second, .val (.int p4), .unset, .unset, .unset, .unset, .unset, .unset, .unset, .unset, .unset] [(.long g0)])) := by
    intro g0
    refine Goes.step (fun _ hr => XT.lstore X0.here hx rfl (hb hby at_14) rfl  (l' := #[.val (.long p1), .second, .val (.int p2), .val (.long p3), .second, .val (.int p4), .val (.long g0), .second, .unset, .unset, .unset, .unset, .unset, .unset, .unset]) rfl hr) ?_
    show Goes p ee below s _ _ _ (s₁.setTop (mkF m 16 #[.val (.long p1), .second, .val (.int p2), .val (.long p3), .second, .val (.int p4), .val (.long g0), .second, .unset, .unset, .unset, .unset, .unset, .unset, .unset] []))
    refine Goes.step (fun _ hr => XS.iconst X0.here hx rfl (hb hby at_16) hr) ?_
    show Goes p ee below s _ _ _ (s₁.setTop (mkF m 17 #[.val (.long p1), .second, .val (.int p2), .val (.long p3), .second, .val (.int p4), .val (.long g0), .second, .unset, .unset, .unset, .unset, .unset, .unset, .unset] [(.int (3 : Int32))]))
    obtain ⟨T1, h1, X1, e1, E1, A1, st1⟩ := own_newP X0 hx hZ (aty := .long) (hw _ (List.mem_of_getElem? (i := 0) rfl)) e0 (z := (3 : Int32)) (by decide) (n := 3) rfl (cap := 3) (Nat.le_refl _) (by decide) (by decide) (by decide) (g := (mkF m 17 #[.val (.long p1), .second, .val (.int p2), .val (.long p3), .second, .val (.int p4), .val (.long g0), .second, .unset, .unset, .unset, .unset, .unset, .unset, .unset] [(.int (3 : Int32))])) rfl rfl (hb hby at_17)
    obtain ⟨b1, g_b1⟩ : ∃ z, z = h0.size := ⟨_, rfl⟩
    have ge_b1 : n0 ≤ b1 := Nat.le_trans Z0 (Nat.le_of_eq g_b1.symm)
    rw [← g_b1] at A1 st1
    have Zp2 := Nat.le_trans Z0 E1.1
    refine Goes.step st1 ?_
    have A_b1 : OA Z h1 b1 .long 3 (fun _ => (.long 0)) := A1
    show Goes p ee below s _ _ _ (T1.setTop (mkF m 19 #[.val (.long p1), .second, .val (.int p2), .val (.long p3), .second, .val (.int p4), .val (.long g0), .second, .unset, .unset, .unset, .unset, .unset, .unset, .unset] [(.ref b1)]))
    refine Goes.step (fun _ hr => XS.dup X1.here hx rfl (hb hby at_19) rfl rfl hr) ?_
    show Goes p ee below s _ _ _ (T1.setTop (mkF m 20 #[.val (.long p1), .second, .val (.int p2), .val (.long p3), .second, .val (.int p4), .val (.long g0), .second, .unset, .unset, .unset, .unset, .unset, .unset, .unset] [(.ref b1), (.ref b1)]))
    refine Goes.step (fun _ hr => XS.iconst X1.here hx rfl (hb hby at_20) hr) ?_
    show Goes p ee below s _ _ _ (T1.setTop (mkF m 21 #[.val (.long p1), .second, .val (.int p2), .val (.long p3), .second, .val (.int p4), .val (.long g0), .second, .unset, .unset, .unset, .unset, .unset, .unset, .unset] [(.int (0 : Int32)), (.ref b1), (.ref b1)]))
    refine Goes.step (fun _ hr => XT.lload X1.here hx rfl (hb hby at_21) rfl  hr) ?_
    show Goes p ee below s _ _ _ (T1.setTop (mkF m 23 #[.val (.long p1), .second, .val (.int p2), .val (.long p3), .second, .val (.int p4), .val (.long g0), .second, .unset, .unset, .unset, .unset, .unset, .unset, .unset] [(.long g0), (.int (0 : Int32)), (.ref b1), (.ref b1)]))
    obtain ⟨T3, h3, X3, e3, W3, A3, st3⟩ := own_stJ X1 hx hZ e1 A_b1 (x := g0) (j := (0 : Int32)) (by decide) (k := 0) rfl (by decide) (g := (mkF m 23 #[.val (.long p1), .second, .val (.int p2), .val (.long p3), .second, .val (.int p4), .val (.long g0), .second, .unset, .unset, .unset, .unset, .unset, .unset, .unset] [(.long g0), (.int (0 : Int32)), (.ref b1), (.ref b1)])) rfl rfl (hb hby at_23)
    refine Goes.step st3 ?_
    have Zp4 := Nat.le_trans Zp2 (Keep.of_wr W3).1
    have N5 := Fr.snoc X3 N0 ge_b1
    have A_b1 : OA Z h3 b1 .long 3 (fun i => [(.long g0), (.long 0), (.long 0)].getD i (.long 0)) := A3.congr (fun i hi => by match i, hi with | 0, _ => rfl | 1, _ => rfl | 2, _ => rfl | i + 3, hi => omega)
    show Goes p ee below s _ _ _ (T3.setTop (mkF m 24 #[.val (.long p1), .second, .val (.int p2), .val (.long p3), .second, .val (.int p4), .val (.long g0), .second, .unset, .unset, .unset, .unset, .unset, .unset, .unset] [(.ref b1)]))
    refine Goes.step (fun _ hr => XS.dup X3.here hx rfl (hb hby at_24) rfl rfl hr) ?_
    show Goes p ee below s _ _ _ (T3.setTop (mkF m 25 #[.val (.long p1), .second, .val (.int p2), .val (.long p3), .second, .val (.int p4), .val (.long g0), .second, .unset, .unset, .unset, .unset, .unset, .unset, .unset] [(.ref b1), (.ref b1)]))
    refine Goes.step (fun _ hr => XS.iconst X3.here hx rfl (hb hby at_25) hr) ?_
    show Goes p ee below s _ _ _ (T3.setTop (mkF m 26 #[.val (.long p1), .second, .val (.int p2), .val (.long p3), .second, .val (.int p4), .val (.long g0), .second, .unset, .unset, .unset, .unset, .unset, .unset, .unset] [(.int (1 : Int32)), (.ref b1), (.ref b1)]))
    refine Goes.step (fun _ hr => XS.iloadN X3.here hx rfl (hb hby at_26) rfl  hr) ?_
    show Goes p ee below s _ _ _ (T3.setTop (mkF m 27 #[.val (.long p1), .second, .val (.int p2), .val (.long p3), .second, .val (.int p4), .val (.long g0), .second, .unset, .unset, .unset, .unset, .unset, .unset, .unset] [(.int p2), (.int (1 : Int32)), (.ref b1), (.ref b1)]))
    refine Goes.step (fun _ hr => XT.i2l X3.here hx rfl (hb hby at_27) rfl hr) ?_
    show Goes p ee below s _ _ _ (T3.setTop (mkF m 28 #[.val (.long p1), .second, .val (.int p2), .val (.long p3), .second, .val (.int p4), .val (.long g0), .second, .unset, .unset, .unset, .unset, .unset, .unset, .unset] [(.long p2.toInt64), (.int (1 : Int32)), (.ref b1), (.ref b1)]))
    obtain ⟨T6, h6, X6, e6, W6, A6, st6⟩ := own_stJ X3 hx hZ e3 A_b1 (x := p2.toInt64) (j := (1 : Int32)) (by decide) (k := 1) rfl (by decide) (g := (mkF m 28 #[.val (.long p1), .second, .val (.int p2), .val (.long p3), .second, .val (.int p4), .val (.long g0), .second, .unset, .unset, .unset, .unset, .unset, .unset, .unset] [(.long p2.toInt64), (.int (1 : Int32)), (.ref b1), (.ref b1)])) rfl rfl (hb hby at_28)
    refine Goes.step st6 ?_
    have Zp7 := Nat.le_trans Zp4 (Keep.of_wr W6).1
    have N8 := Fr.snoc X6 N5 ge_b1
    have A_b1 : OA Z h6 b1 .long 3 (fun i => [(.long g0), (.long p2.toInt64), (.long 0)].getD i (.long 0)) := A6.congr (fun i hi => by match i, hi with | 0, _ => rfl | 1, _ => rfl | 2, _ => rfl | i + 3, hi => omega)
    show Goes p ee below s _ _ _ (T6.setTop (mkF m 29 #[.val (.long p1), .second, .val (.int p2), .val (.long p3), .second, .val (.int p4), .val (.long g0), .second, .unset, .unset, .unset, .unset, .unset, .unset, .unset] [(.ref b1)]))
    refine Goes.step (fun _ hr => XS.dup X6.here hx rfl (hb hby at_29) rfl rfl hr) ?_
    show Goes p ee below s _ _ _ (T6.setTop (mkF m 30 #[.val (.long p1), .second, .val (.int p2), .val (.long p3), .second, .val (.int p4), .val (.long g0), .second, .unset, .unset, .unset, .unset, .unset, .unset, .unset] [(.ref b1), (.ref b1)]))
    refine Goes.step (fun _ hr => XS.iconst X6.here hx rfl (hb hby at_30) hr) ?_
    show Goes p ee below s _ _ _ (T6.setTop (mkF m 31 #[.val (.long p1), .second, .val (.int p2), .val (.long p3), .second, .val (.int p4), .val (.long g0), .second, .unset, .unset, .unset, .unset, .unset, .unset, .unset] [(.int (2 : Int32)), (.ref b1), (.ref b1)]))
    refine Goes.step (fun _ hr => XT.lloadN X6.here hx rfl (hb hby at_31) rfl  hr) ?_
    show Goes p ee below s _ _ _ (T6.setTop (mkF m 32 #[.val (.long p1), .second, .val (.int p2), .val (.long p3), .second, .val (.int p4), .val (.long g0), .second, .unset, .unset, .unset, .unset, .unset, .unset, .unset] [(.long p3), (.int (2 : Int32)), (.ref b1), (.ref b1)]))
    obtain ⟨T9, h9, X9, e9, W9, A9, st9⟩ := own_stJ X6 hx hZ e6 A_b1 (x := p3) (j := (2 : Int32)) (by decide) (k := 2) rfl (by decide) (g := (mkF m 32 #[.val (.long p1), .second, .val (.int p2), .val (.long p3), .second, .val (.int p4), .val (.long g0), .second, .unset, .unset, .unset, .unset, .unset, .unset, .unset] [(.long p3), (.int (2 : Int32)), (.ref b1), (.ref b1)])) rfl rfl (hb hby at_32)
    refine Goes.step st9 ?_
    have Zp10 := Nat.le_trans Zp7 (Keep.of_wr W9).1
    have N11 := Fr.snoc X9 N8 ge_b1
    have A_b1 : OA Z h9 b1 .long 3 (fun i => [(.long g0), (.long p2.toInt64), (.long p3)].getD i (.long 0)) := A9.congr (fun i hi => by match i, hi with | 0, _ => rfl | 1, _ => rfl | 2, _ => rfl | i + 3, hi => omega)
    show Goes p ee below s _ _ _ (T9.setTop (mkF m 33 #[.val (.long p1), .second, .val (.int p2), .val (.long p3), .second, .val (.int p4), .val (.long g0), .second, .unset, .unset, .unset, .unset, .unset, .unset, .unset] [(.ref b1)]))
    refine Goes.step (fun _ hr => XS.astore X9.here hx rfl (hb hby at_33) rfl rfl (l' := #[.val (.long p1), .second, .val (.int p2), .val (.long p3), .second, .val (.int p4), .val (.long g0), .second, .val (.ref b1), .unset, .unset, .unset, .unset, .unset, .unset]) rfl hr) ?_
    show Goes p ee below s _ _ _ (T9.setTop (mkF m 35 #[.val (.long p1), .second, .val (.int p2), .val (.long p3), .second, .val (.int p4), .val (.long g0), .second, .val (.ref b1), .unset, .unset, .unset, .unset, .unset, .unset] []))
    refine Goes.step (fun _ hr => XS.aload X9.here hx rfl (hb hby at_35) rfl rfl hr) ?_
    show Goes p ee below s _ _ _ (T9.setTop (mkF m 37 #[.val (.long p1), .second, .val (.int p2), .val (.long p3), .second, .val (.int p4), .val (.long g0), .second, .val (.ref b1), .unset, .unset, .unset, .unset, .unset, .unset] [(.ref b1)]))
    have lt_b1 := A_b1.lt
    obtain ⟨v12, T12, L12, X12, hQ12, st12⟩ := own_callS X9 hx hZ (y := (⟨"com/example/aliran/aliran/Decision", "fromReply", "([J)Lcom/example/aliran/aliran/Decision;"⟩ : MethodName)) hown (hw _ (List.mem_of_getElem? (i := 1) rfl)) (hw _ (List.mem_of_getElem? (i := 2) rfl)) (hw _ (List.mem_of_getElem? (i := 3) rfl)) (hw _ (List.mem_of_getElem? (i := 4) rfl)) (by decide) (argsL := [(.ref b1)]) (rm_fr l Z a0 hw [] b1 g0 p2 p3 h9 n0 Zp10 A_b1) e9 (W := 0) (by decide) (by decide) (by decide) (by decide) (g := (mkF m 37 #[.val (.long p1), .second, .val (.int p2), .val (.long p3), .second, .val (.int p4), .val (.long g0), .second, .val (.ref b1), .unset, .unset, .unset, .unset, .unset, .unset] [(.ref b1)])) rfl (by rw [hml]; rfl) (rest := []) (lenOf pd_3 rfl) rfl (by show 2 * 0 + _ ≤ _; exact Nat.le_of_eq rfl) (hb hby at_37)
    refine Goes.step st12 ?_
    obtain ⟨b12, rfl, N12, sz_b12, Kc12, Ei12, Fa12, Fb12, Fc12, Fd12⟩ := hQ12
    have N13 := Fr.app N11 N12
    obtain ⟨h12, e12⟩ : ∃ h', T12.heap = h' := ⟨_, rfl⟩
    rw [e12] at Kc12 Ei12 Fa12 Fb12 Fc12 Fd12
    have A_b1 := A_b1.keep Kc12 nin0
    have Zp14 := Nat.le_trans Zp10 Kc12.1
    show Goes p ee below s _ _ _ (T12.setTop (mkF m 40 #[.val (.long p1), .second, .val (.int p2), .val (.long p3), .second, .val (.int p4), .val (.long g0), .second, .val (.ref b1), .unset, .unset, .unset, .unset, .unset, .unset] [(.ref b12)]))
    refine Goes.step (fun _ hr => XS.astore X12.here hx rfl (hb hby at_40) rfl rfl (l' := #[.val (.long p1), .second, .val (.int p2), .val (.long p3), .second, .val (.int p4), .val (.long g0), .second, .val (.ref b1), .val (.ref b12), .unset, .unset, .unset, .unset, .unset]) rfl hr) ?_
    show Goes p ee below s _ _ _ (T12.setTop (mkF m 42 #[.val (.long p1), .second, .val (.int p2), .val (.long p3), .second, .val (.int p4), .val (.long g0), .second, .val (.ref b1), .val (.ref b12), .unset, .unset, .unset, .unset, .unset] []))
    by_cases hg : g0 = 1
    · show Goes p ee below s _ _ _ (T12.setTop (mkF m 42 #[.val (.long p1), .second, .val (.int p2), .val (.long p3), .second, .val (.int p4), .val (.long g0), .second, .val (.ref b1), .val (.ref b12), .unset, .unset, .unset, .unset, .unset] []))
      refine Goes.step (fun _ hr => XS.aload X12.here hx rfl (hb hby at_42) rfl rfl hr) ?_
      show Goes p ee below s _ _ _ (T12.setTop (mkF m 44 #[.val (.long p1), .second, .val (.int p2), .val (.long p3), .second, .val (.int p4), .val (.long g0), .second, .val (.ref b1), .val (.ref b12), .unset, .unset, .unset, .unset, .unset] [(.ref b12)]))
      have lt_b1 := A_b1.lt
      have lt_b12 := Ei12.lt
      obtain ⟨v15, T15, L15, X15, hQ15, st15⟩ := own_callV X12 hx hZ (y := (⟨"com/example/aliran/aliran/Decision", "granted", "()Z"⟩ : MethodName)) hown (hw _ (List.mem_of_getElem? (i := 30) rfl)) (hw _ (List.mem_of_getElem? (i := 31) rfl)) (hw _ (List.mem_of_getElem? (i := 33) rfl)) (hw _ (List.mem_of_getElem? (i := 32) rfl)) (hw _ (List.mem_of_getElem? (i := 3) rfl)) (hw _ (List.mem_of_getElem? (i := 34) rfl)) (by decide) (a := b12) (argsL := []) (rm_get_granted l Z a0 hw [] b12 (if g0 = 1 then (1 : Int32) else 0) h12 n0 Zp14 (by split <;> simp) Fa12) e12 Ei12 (W := 0) (by decide) (by decide) (by decide) (by decide) (g := (mkF m 44 #[.val (.long p1), .second, .val (.int p2), .val (.long p3), .second, .val (.int p4), .val (.long g0), .second, .val (.ref b1), .val (.ref b12), .unset, .unset, .unset, .unset, .unset] [(.ref b12)])) rfl (by rw [hml]; rfl) (rest := []) (lenOf pd_4 rfl) rfl (by show 2 * 0 + _ ≤ _; exact Nat.le_of_eq rfl) (hb hby at_44)
      refine Goes.step st15 ?_
      obtain ⟨rfl, N15, e15⟩ := hQ15
      have N16 := Fr.app N13 N15
      show Goes p ee below s _ _ _ (T15.setTop (mkF m 47 #[.val (.long p1), .second, .val (.int p2), .val (.long p3), .second, .val (.int p4), .val (.long g0), .second, .val (.ref b1), .val (.ref b12), .unset, .unset, .unset, .unset, .unset] [(.int (if g0 = 1 then (1 : Int32) else 0))]))
      refine Goes.step (fun _ hr => XT.lload X15.here hx rfl (hb hby at_47) rfl  hr) ?_
      show Goes p ee below s _ _ _ (T15.setTop (mkF m 49 #[.val (.long p1), .second, .val (.int p2), .val (.long p3), .second, .val (.int p4), .val (.long g0), .second, .val (.ref b1), .val (.ref b12), .unset, .unset, .unset, .unset, .unset] [(.long g0), (.int (if g0 = 1 then (1 : Int32) else 0))]))
      refine Goes.step (fun _ hr => XT.lconst X15.here hx rfl (hb hby at_49) hr) ?_
      show Goes p ee below s _ _ _ (T15.setTop (mkF m 50 #[.val (.long p1), .second, .val (.int p2), .val (.long p3), .second, .val (.int p4), .val (.long g0), .second, .val (.ref b1), .val (.ref b12), .unset, .unset, .unset, .unset, .unset] [(.long (1 : Int64)), (.long g0), (.int (if g0 = 1 then (1 : Int32) else 0))]))
      refine Goes.step (fun _ hr => XT.lcmp X15.here hx rfl (hb hby at_50) rfl hr) ?_
      show Goes p ee below s _ _ _ (T15.setTop (mkF m 51 #[.val (.long p1), .second, .val (.int p2), .val (.long p3), .second, .val (.int p4), .val (.long g0), .second, .val (.ref b1), .val (.ref b12), .unset, .unset, .unset, .unset, .unset] [(.int (XT.cmpL g0 (1 : Int64))), (.int (if g0 = 1 then (1 : Int32) else 0))]))
      refine Goes.step (fun _ hr => XS.ifNo X15.here hx rfl (hb hby at_51) rfl ((if0 _ _).trans (teq ((own_cmp _ _).mpr hg)).2) hr) ?_
      show Goes p ee below s _ _ _ (T15.setTop (mkF m 54 #[.val (.long p1), .second, .val (.int p2), .val (.long p3), .second, .val (.int p4), .val (.long g0), .second, .val (.ref b1), .val (.ref b12), .unset, .unset, .unset, .unset, .unset] [(.int (if g0 = 1 then (1 : Int32) else 0))]))
      refine Goes.step (fun _ hr => XS.iconst X15.here hx rfl (hb hby at_54) hr) ?_
      show Goes p ee below s _ _ _ (T15.setTop (mkF m 55 #[.val (.long p1), .second, .val (.int p2), .val (.long p3), .second, .val (.int p4), .val (.long g0), .second, .val (.ref b1), .val (.ref b12), .unset, .unset, .unset, .unset, .unset] [(.int (1 : Int32)), (.int (if g0 = 1 then (1 : Int32) else 0))]))
      refine Goes.step (fun _ hr => XS.goto X15.here hx rfl (pc0 := 55) (pc' := 59) rfl (hb hby at_55) (by decide) (by decide) hr) ?_
      show Goes p ee below s _ _ _ (T15.setTop (mkF m 59 #[.val (.long p1), .second, .val (.int p2), .val (.long p3), .second, .val (.int p4), .val (.long g0), .second, .val (.ref b1), .val (.ref b12), .unset, .unset, .unset, .unset, .unset] [(.int (1 : Int32)), (.int (if g0 = 1 then (1 : Int32) else 0))]))
      refine Goes.step (fun _ hr => XS.icmpNo X15.here hx rfl (hb hby at_59) rfl (teq (if_pos hg)).2 hr) ?_
      show Goes p ee below s _ _ _ (T15.setTop (mkF m 62 #[.val (.long p1), .second, .val (.int p2), .val (.long p3), .second, .val (.int p4), .val (.long g0), .second, .val (.ref b1), .val (.ref b12), .unset, .unset, .unset, .unset, .unset] []))
      refine Goes.step (fun _ hr => XS.iconst X15.here hx rfl (hb hby at_62) hr) ?_
      show Goes p ee below s _ _ _ (T15.setTop (mkF m 63 #[.val (.long p1), .second, .val (.int p2), .val (.long p3), .second, .val (.int p4), .val (.long g0), .second, .val (.ref b1), .val (.ref b12), .unset, .unset, .unset, .unset, .unset] [(.int (1 : Int32))]))
      refine Goes.step (fun _ hr => XS.goto X15.here hx rfl (pc0 := 63) (pc' := 67) rfl (hb hby at_63) (by decide) (by decide) hr) ?_
      show Goes p ee below s _ _ _ (T15.setTop (mkF m 67 #[.val (.long p1), .second, .val (.int p2), .val (.long p3), .second, .val (.int p4), .val (.long g0), .second, .val (.ref b1), .val (.ref b12), .unset, .unset, .unset, .unset, .unset] [(.int (1 : Int32))]))
      refine Goes.step (fun _ hr => XS.istore X15.here hx rfl (hb hby at_67) rfl  (l' := #[.val (.long p1), .second, .val (.int p2), .val (.long p3), .second, .val (.int p4), .val (.long g0), .second, .val (.ref b1), .val (.ref b12), .val (.int (1 : Int32)), .unset, .unset, .unset, .unset]) rfl hr) ?_
      show Goes p ee below s _ _ _ (T15.setTop (mkF m 69 #[.val (.long p1), .second, .val (.int p2), .val (.long p3), .second, .val (.int p4), .val (.long g0), .second, .val (.ref b1), .val (.ref b12), .val (.int (1 : Int32)), .unset, .unset, .unset, .unset] []))
      refine Goes.step (fun _ hr => XS.aload X15.here hx rfl (hb hby at_69) rfl rfl hr) ?_
      show Goes p ee below s _ _ _ (T15.setTop (mkF m 71 #[.val (.long p1), .second, .val (.int p2), .val (.long p3), .second, .val (.int p4), .val (.long g0), .second, .val (.ref b1), .val (.ref b12), .val (.int (1 : Int32)), .unset, .unset, .unset, .unset] [(.ref b12)]))
      have lt_b1 := A_b1.lt
      have lt_b12 := Ei12.lt
      obtain ⟨v17, T17, L17, X17, hQ17, st17⟩ := own_callV X15 hx hZ (y := (⟨"com/example/aliran/aliran/Decision", "remaining", "()I"⟩ : MethodName)) hown (hw _ (List.mem_of_getElem? (i := 35) rfl)) (hw _ (List.mem_of_getElem? (i := 36) rfl)) (hw _ (List.mem_of_getElem? (i := 38) rfl)) (hw _ (List.mem_of_getElem? (i := 37) rfl)) (hw _ (List.mem_of_getElem? (i := 3) rfl)) (hw _ (List.mem_of_getElem? (i := 39) rfl)) (by decide) (a := b12) (argsL := []) (rm_get_remaining l Z a0 hw [] b12 p2 h12 n0 Zp14 Fb12) e15 Ei12 (W := 0) (by decide) (by decide) (by decide) (by decide) (g := (mkF m 71 #[.val (.long p1), .second, .val (.int p2), .val (.long p3), .second, .val (.int p4), .val (.long g0), .second, .val (.ref b1), .val (.ref b12), .val (.int (1 : Int32)), .unset, .unset, .unset, .unset] [(.ref b12)])) rfl (by rw [hml]; rfl) (rest := []) (lenOf pd_5 rfl) rfl (by show 2 * 0 + _ ≤ _; exact Nat.le_of_eq rfl) (hb hby at_71)
      refine Goes.step st17 ?_
      obtain ⟨rfl, N17, e17⟩ := hQ17
      have N18 := Fr.app N16 N17
      show Goes p ee below s _ _ _ (T17.setTop (mkF m 74 #[.val (.long p1), .second, .val (.int p2), .val (.long p3), .second, .val (.int p4), .val (.long g0), .second, .val (.ref b1), .val (.ref b12), .val (.int (1 : Int32)), .unset, .unset, .unset, .unset] [(.int p2)]))
      refine Goes.step (fun _ hr => XS.iloadN X17.here hx rfl (hb hby at_74) rfl  hr) ?_
      show Goes p ee below s _ _ _ (T17.setTop (mkF m 75 #[.val (.long p1), .second, .val (.int p2), .val (.long p3), .second, .val (.int p4), .val (.long g0), .second, .val (.ref b1), .val (.ref b12), .val (.int (1 : Int32)), .unset, .unset, .unset, .unset] [(.int p2), (.int p2)]))
      refine Goes.step (fun _ hr => XS.icmpNo X17.here hx rfl (hb hby at_75) rfl (teq rfl).2 hr) ?_
      show Goes p ee below s _ _ _ (T17.setTop (mkF m 78 #[.val (.long p1), .second, .val (.int p2), .val (.long p3), .second, .val (.int p4), .val (.long g0), .second, .val (.ref b1), .val (.ref b12), .val (.int (1 : Int32)), .unset, .unset, .unset, .unset] []))
      refine Goes.step (fun _ hr => XS.iconst X17.here hx rfl (hb hby at_78) hr) ?_
      show Goes p ee below s _ _ _ (T17.setTop (mkF m 79 #[.val (.long p1), .second, .val (.int p2), .val (.long p3), .second, .val (.int p4), .val (.long g0), .second, .val (.ref b1), .val (.ref b12), .val (.int (1 : Int32)), .unset, .unset, .unset, .unset] [(.int (1 : Int32))]))
      refine Goes.step (fun _ hr => XS.goto X17.here hx rfl (pc0 := 79) (pc' := 83) rfl (hb hby at_79) (by decide) (by decide) hr) ?_
      show Goes p ee below s _ _ _ (T17.setTop (mkF m 83 #[.val (.long p1), .second, .val (.int p2), .val (.long p3), .second, .val (.int p4), .val (.long g0), .second, .val (.ref b1), .val (.ref b12), .val (.int (1 : Int32)), .unset, .unset, .unset, .unset] [(.int (1 : Int32))]))
      refine Goes.step (fun _ hr => XS.istore X17.here hx rfl (hb hby at_83) rfl  (l' := #[.val (.long p1), .second, .val (.int p2), .val (.long p3), .second, .val (.int p4), .val (.long g0), .second, .val (.ref b1), .val (.ref b12), .val (.int (1 : Int32)), .val (.int (1 : Int32)), .unset, .unset, .unset]) rfl hr) ?_
      show Goes p ee below s _ _ _ (T17.setTop (mkF m 85 #[.val (.long p1), .second, .val (.int p2), .val (.long p3), .second, .val (.int p4), .val (.long g0), .second, .val (.ref b1), .val (.ref b12), .val (.int (1 : Int32)), .val (.int (1 : Int32)), .unset, .unset, .unset] []))
      refine Goes.step (fun _ hr => XS.aload X17.here hx rfl (hb hby at_85) rfl rfl hr) ?_
      show Goes p ee below s _ _ _ (T17.setTop (mkF m 87 #[.val (.long p1), .second, .val (.int p2), .val (.long p3), .second, .val (.int p4), .val (.long g0), .second, .val (.ref b1), .val (.ref b12), .val (.int (1 : Int32)), .val (.int (1 : Int32)), .unset, .unset, .unset] [(.ref b12)]))
      have lt_b1 := A_b1.lt
      have lt_b12 := Ei12.lt
      obtain ⟨v19, T19, L19, X19, hQ19, st19⟩ := own_callV X17 hx hZ (y := (⟨"com/example/aliran/aliran/Decision", "waitMillis", "()J"⟩ : MethodName)) hown (hw _ (List.mem_of_getElem? (i := 40) rfl)) (hw _ (List.mem_of_getElem? (i := 41) rfl)) (hw _ (List.mem_of_getElem? (i := 43) rfl)) (hw _ (List.mem_of_getElem? (i := 42) rfl)) (hw _ (List.mem_of_getElem? (i := 3) rfl)) (hw _ (List.mem_of_getElem? (i := 44) rfl)) (by decide) (a := b12) (argsL := []) (rm_get_waitMillis l Z a0 hw [] b12 p3 h12 n0 Zp14 Fc12) e17 Ei12 (W := 0) (by decide) (by decide) (by decide) (by decide) (g := (mkF m 87 #[.val (.long p1), .second, .val (.int p2), .val (.long p3), .second, .val (.int p4), .val (.long g0), .second, .val (.ref b1), .val (.ref b12), .val (.int (1 : Int32)), .val (.int (1 : Int32)), .unset, .unset, .unset] [(.ref b12)])) rfl (by rw [hml]; rfl) (rest := []) (lenOf pd_6 rfl) rfl (by show 2 * 0 + _ ≤ _; exact Nat.le_of_eq rfl) (hb hby at_87)
      refine Goes.step st19 ?_
      obtain ⟨rfl, N19, e19⟩ := hQ19
      have N20 := Fr.app N18 N19
      show Goes p ee below s _ _ _ (T19.setTop (mkF m 90 #[.val (.long p1), .second, .val (.int p2), .val (.long p3), .second, .val (.int p4), .val (.long g0), .second, .val (.ref b1), .val (.ref b12), .val (.int (1 : Int32)), .val (.int (1 : Int32)), .unset, .unset, .unset] [(.long p3)]))
      refine Goes.step (fun _ hr => XT.lloadN X19.here hx rfl (hb hby at_90) rfl  hr) ?_
      show Goes p ee below s _ _ _ (T19.setTop (mkF m 91 #[.val (.long p1), .second, .val (.int p2), .val (.long p3), .second, .val (.int p4), .val (.long g0), .second, .val (.ref b1), .val (.ref b12), .val (.int (1 : Int32)), .val (.int (1 : Int32)), .unset, .unset, .unset] [(.long p3), (.long p3)]))
      refine Goes.step (fun _ hr => XT.lcmp X19.here hx rfl (hb hby at_91) rfl hr) ?_
      show Goes p ee below s _ _ _ (T19.setTop (mkF m 92 #[.val (.long p1), .second, .val (.int p2), .val (.long p3), .second, .val (.int p4), .val (.long g0), .second, .val (.ref b1), .val (.ref b12), .val (.int (1 : Int32)), .val (.int (1 : Int32)), .unset, .unset, .unset] [(.int (XT.cmpL p3 p3))]))
      refine Goes.step (fun _ hr => XS.ifNo X19.here hx rfl (hb hby at_92) rfl ((if0 _ _).trans (teq ((own_cmp _ _).mpr rfl)).2) hr) ?_
      show Goes p ee below s _ _ _ (T19.setTop (mkF m 95 #[.val (.long p1), .second, .val (.int p2), .val (.long p3), .second, .val (.int p4), .val (.long g0), .second, .val (.ref b1), .val (.ref b12), .val (.int (1 : Int32)), .val (.int (1 : Int32)), .unset, .unset, .unset] []))
      refine Goes.step (fun _ hr => XS.iconst X19.here hx rfl (hb hby at_95) hr) ?_
      show Goes p ee below s _ _ _ (T19.setTop (mkF m 96 #[.val (.long p1), .second, .val (.int p2), .val (.long p3), .second, .val (.int p4), .val (.long g0), .second, .val (.ref b1), .val (.ref b12), .val (.int (1 : Int32)), .val (.int (1 : Int32)), .unset, .unset, .unset] [(.int (1 : Int32))]))
      refine Goes.step (fun _ hr => XS.goto X19.here hx rfl (pc0 := 96) (pc' := 100) rfl (hb hby at_96) (by decide) (by decide) hr) ?_
      show Goes p ee below s _ _ _ (T19.setTop (mkF m 100 #[.val (.long p1), .second, .val (.int p2), .val (.long p3), .second, .val (.int p4), .val (.long g0), .second, .val (.ref b1), .val (.ref b12), .val (.int (1 : Int32)), .val (.int (1 : Int32)), .unset, .unset, .unset] [(.int (1 : Int32))]))
      refine Goes.step (fun _ hr => XS.istore X19.here hx rfl (hb hby at_100) rfl  (l' := #[.val (.long p1), .second, .val (.int p2), .val (.long p3), .second, .val (.int p4), .val (.long g0), .second, .val (.ref b1), .val (.ref b12), .val (.int (1 : Int32)), .val (.int (1 : Int32)), .val (.int (1 : Int32)), .unset, .unset]) rfl hr) ?_
      show Goes p ee below s _ _ _ (T19.setTop (mkF m 102 #[.val (.long p1), .second, .val (.int p2), .val (.long p3), .second, .val (.int p4), .val (.long g0), .second, .val (.ref b1), .val (.ref b12), .val (.int (1 : Int32)), .val (.int (1 : Int32)), .val (.int (1 : Int32)), .unset, .unset] []))
      refine Goes.step (fun _ hr => XS.aload X19.here hx rfl (hb hby at_102) rfl rfl hr) ?_
      show Goes p ee below s _ _ _ (T19.setTop (mkF m 104 #[.val (.long p1), .second, .val (.int p2), .val (.long p3), .second, .val (.int p4), .val (.long g0), .second, .val (.ref b1), .val (.ref b12), .val (.int (1 : Int32)), .val (.int (1 : Int32)), .val (.int (1 : Int32)), .unset, .unset] [(.ref b12)]))
      have lt_b1 := A_b1.lt
      have lt_b12 := Ei12.lt
      obtain ⟨v21, T21, L21, X21, hQ21, st21⟩ := own_callV X19 hx hZ (y := (⟨"com/example/aliran/aliran/Decision", "withoutRedis", "()Z"⟩ : MethodName)) hown (hw _ (List.mem_of_getElem? (i := 45) rfl)) (hw _ (List.mem_of_getElem? (i := 46) rfl)) (hw _ (List.mem_of_getElem? (i := 48) rfl)) (hw _ (List.mem_of_getElem? (i := 47) rfl)) (hw _ (List.mem_of_getElem? (i := 3) rfl)) (hw _ (List.mem_of_getElem? (i := 49) rfl)) (by decide) (a := b12) (argsL := []) (rm_get_withoutRedis l Z a0 hw [] b12 (0 : Int32) h12 n0 Zp14 (Or.inl rfl) Fd12) e19 Ei12 (W := 0) (by decide) (by decide) (by decide) (by decide) (g := (mkF m 104 #[.val (.long p1), .second, .val (.int p2), .val (.long p3), .second, .val (.int p4), .val (.long g0), .second, .val (.ref b1), .val (.ref b12), .val (.int (1 : Int32)), .val (.int (1 : Int32)), .val (.int (1 : Int32)), .unset, .unset] [(.ref b12)])) rfl (by rw [hml]; rfl) (rest := []) (lenOf pd_4 rfl) rfl (by show 2 * 0 + _ ≤ _; exact Nat.le_of_eq rfl) (hb hby at_104)
      refine Goes.step st21 ?_
      obtain ⟨rfl, N21, e21⟩ := hQ21
      have N22 := Fr.app N20 N21
      show Goes p ee below s _ _ _ (T21.setTop (mkF m 107 #[.val (.long p1), .second, .val (.int p2), .val (.long p3), .second, .val (.int p4), .val (.long g0), .second, .val (.ref b1), .val (.ref b12), .val (.int (1 : Int32)), .val (.int (1 : Int32)), .val (.int (1 : Int32)), .unset, .unset] [(.int (0 : Int32))]))
      refine Goes.step (fun _ hr => XS.ifNo X21.here hx rfl (hb hby at_107) rfl ((if0 _ _).trans (teq rfl).2) hr) ?_
      show Goes p ee below s _ _ _ (T21.setTop (mkF m 110 #[.val (.long p1), .second, .val (.int p2), .val (.long p3), .second, .val (.int p4), .val (.long g0), .second, .val (.ref b1), .val (.ref b12), .val (.int (1 : Int32)), .val (.int (1 : Int32)), .val (.int (1 : Int32)), .unset, .unset] []))
      refine Goes.step (fun _ hr => XS.iconst X21.here hx rfl (hb hby at_110) hr) ?_
      show Goes p ee below s _ _ _ (T21.setTop (mkF m 111 #[.val (.long p1), .second, .val (.int p2), .val (.long p3), .second, .val (.int p4), .val (.long g0), .second, .val (.ref b1), .val (.ref b12), .val (.int (1 : Int32)), .val (.int (1 : Int32)), .val (.int (1 : Int32)), .unset, .unset] [(.int (1 : Int32))]))
      refine Goes.step (fun _ hr => XS.goto X21.here hx rfl (pc0 := 111) (pc' := 115) rfl (hb hby at_111) (by decide) (by decide) hr) ?_
      show Goes p ee below s _ _ _ (T21.setTop (mkF m 115 #[.val (.long p1), .second, .val (.int p2), .val (.long p3), .second, .val (.int p4), .val (.long g0), .second, .val (.ref b1), .val (.ref b12), .val (.int (1 : Int32)), .val (.int (1 : Int32)), .val (.int (1 : Int32)), .unset, .unset] [(.int (1 : Int32))]))
      refine Goes.step (fun _ hr => XS.istore X21.here hx rfl (hb hby at_115) rfl  (l' := #[.val (.long p1), .second, .val (.int p2), .val (.long p3), .second, .val (.int p4), .val (.long g0), .second, .val (.ref b1), .val (.ref b12), .val (.int (1 : Int32)), .val (.int (1 : Int32)), .val (.int (1 : Int32)), .val (.int (1 : Int32)), .unset]) rfl hr) ?_
      show Goes p ee below s _ _ _ (T21.setTop (mkF m 117 #[.val (.long p1), .second, .val (.int p2), .val (.long p3), .second, .val (.int p4), .val (.long g0), .second, .val (.ref b1), .val (.ref b12), .val (.int (1 : Int32)), .val (.int (1 : Int32)), .val (.int (1 : Int32)), .val (.int (1 : Int32)), .unset] []))
      refine Goes.step (fun _ hr => XS.aload X21.here hx rfl (hb hby at_117) rfl rfl hr) ?_
      show Goes p ee below s _ _ _ (T21.setTop (mkF m 119 #[.val (.long p1), .second, .val (.int p2), .val (.long p3), .second, .val (.int p4), .val (.long g0), .second, .val (.ref b1), .val (.ref b12), .val (.int (1 : Int32)), .val (.int (1 : Int32)), .val (.int (1 : Int32)), .val (.int (1 : Int32)), .unset] [(.ref b1)]))
      refine Goes.step (fun _ hr => XS.iconst X21.here hx rfl (hb hby at_119) hr) ?_
      show Goes p ee below s _ _ _ (T21.setTop (mkF m 120 #[.val (.long p1), .second, .val (.int p2), .val (.long p3), .second, .val (.int p4), .val (.long g0), .second, .val (.ref b1), .val (.ref b12), .val (.int (1 : Int32)), .val (.int (1 : Int32)), .val (.int (1 : Int32)), .val (.int (1 : Int32)), .unset] [(.int (0 : Int32)), (.ref b1)]))
      refine Goes.step (own_laload X21 hx hZ e21 A_b1 (j := (0 : Int32)) (by decide) (k := 0) rfl (by decide) (v := (.long g0)) rfl (g := (mkF m 120 #[.val (.long p1), .second, .val (.int p2), .val (.long p3), .second, .val (.int p4), .val (.long g0), .second, .val (.ref b1), .val (.ref b12), .val (.int (1 : Int32)), .val (.int (1 : Int32)), .val (.int (1 : Int32)), .val (.int (1 : Int32)), .unset] [(.int (0 : Int32)), (.ref b1)])) rfl rfl (hb hby at_120)) ?_
      show Goes p ee below s _ _ _ (T21.setTop (mkF m 121 #[.val (.long p1), .second, .val (.int p2), .val (.long p3), .second, .val (.int p4), .val (.long g0), .second, .val (.ref b1), .val (.ref b12), .val (.int (1 : Int32)), .val (.int (1 : Int32)), .val (.int (1 : Int32)), .val (.int (1 : Int32)), .unset] [(.long g0)]))
      refine Goes.step (fun _ hr => XT.lload X21.here hx rfl (hb hby at_121) rfl  hr) ?_
      show Goes p ee below s _ _ _ (T21.setTop (mkF m 123 #[.val (.long p1), .second, .val (.int p2), .val (.long p3), .second, .val (.int p4), .val (.long g0), .second, .val (.ref b1), .val (.ref b12), .val (.int (1 : Int32)), .val (.int (1 : Int32)), .val (.int (1 : Int32)), .val (.int (1 : Int32)), .unset] [(.long g0), (.long g0)]))
      refine Goes.step (fun _ hr => XT.lcmp X21.here hx rfl (hb hby at_123) rfl hr) ?_
      show Goes p ee below s _ _ _ (T21.setTop (mkF m 124 #[.val (.long p1), .second, .val (.int p2), .val (.long p3), .second, .val (.int p4), .val (.long g0), .second, .val (.ref b1), .val (.ref b12), .val (.int (1 : Int32)), .val (.int (1 : Int32)), .val (.int (1 : Int32)), .val (.int (1 : Int32)), .unset] [(.int (XT.cmpL g0 g0))]))
      refine Goes.step (fun _ hr => XS.ifNo X21.here hx rfl (hb hby at_124) rfl ((if0 _ _).trans (teq ((own_cmp _ _).mpr rfl)).2) hr) ?_
      show Goes p ee below s _ _ _ (T21.setTop (mkF m 127 #[.val (.long p1), .second, .val (.int p2), .val (.long p3), .second, .val (.int p4), .val (.long g0), .second, .val (.ref b1), .val (.ref b12), .val (.int (1 : Int32)), .val (.int (1 : Int32)), .val (.int (1 : Int32)), .val (.int (1 : Int32)), .unset] []))
      refine Goes.step (fun _ hr => XS.aload X21.here hx rfl (hb hby at_127) rfl rfl hr) ?_
      show Goes p ee below s _ _ _ (T21.setTop (mkF m 129 #[.val (.long p1), .second, .val (.int p2), .val (.long p3), .second, .val (.int p4), .val (.long g0), .second, .val (.ref b1), .val (.ref b12), .val (.int (1 : Int32)), .val (.int (1 : Int32)), .val (.int (1 : Int32)), .val (.int (1 : Int32)), .unset] [(.ref b1)]))
      refine Goes.step (fun _ hr => XS.iconst X21.here hx rfl (hb hby at_129) hr) ?_
      show Goes p ee below s _ _ _ (T21.setTop (mkF m 130 #[.val (.long p1), .second, .val (.int p2), .val (.long p3), .second, .val (.int p4), .val (.long g0), .second, .val (.ref b1), .val (.ref b12), .val (.int (1 : Int32)), .val (.int (1 : Int32)), .val (.int (1 : Int32)), .val (.int (1 : Int32)), .unset] [(.int (1 : Int32)), (.ref b1)]))
      refine Goes.step (own_laload X21 hx hZ e21 A_b1 (j := (1 : Int32)) (by decide) (k := 1) rfl (by decide) (v := (.long p2.toInt64)) rfl (g := (mkF m 130 #[.val (.long p1), .second, .val (.int p2), .val (.long p3), .second, .val (.int p4), .val (.long g0), .second, .val (.ref b1), .val (.ref b12), .val (.int (1 : Int32)), .val (.int (1 : Int32)), .val (.int (1 : Int32)), .val (.int (1 : Int32)), .unset] [(.int (1 : Int32)), (.ref b1)])) rfl rfl (hb hby at_130)) ?_
      show Goes p ee below s _ _ _ (T21.setTop (mkF m 131 #[.val (.long p1), .second, .val (.int p2), .val (.long p3), .second, .val (.int p4), .val (.long g0), .second, .val (.ref b1), .val (.ref b12), .val (.int (1 : Int32)), .val (.int (1 : Int32)), .val (.int (1 : Int32)), .val (.int (1 : Int32)), .unset] [(.long p2.toInt64)]))
      refine Goes.step (fun _ hr => XS.iloadN X21.here hx rfl (hb hby at_131) rfl  hr) ?_
      show Goes p ee below s _ _ _ (T21.setTop (mkF m 132 #[.val (.long p1), .second, .val (.int p2), .val (.long p3), .second, .val (.int p4), .val (.long g0), .second, .val (.ref b1), .val (.ref b12), .val (.int (1 : Int32)), .val (.int (1 : Int32)), .val (.int (1 : Int32)), .val (.int (1 : Int32)), .unset] [(.int p2), (.long p2.toInt64)]))
      refine Goes.step (fun _ hr => XT.i2l X21.here hx rfl (hb hby at_132) rfl hr) ?_
      show Goes p ee below s _ _ _ (T21.setTop (mkF m 133 #[.val (.long p1), .second, .val (.int p2), .val (.long p3), .second, .val (.int p4), .val (.long g0), .second, .val (.ref b1), .val (.ref b12), .val (.int (1 : Int32)), .val (.int (1 : Int32)), .val (.int (1 : Int32)), .val (.int (1 : Int32)), .unset] [(.long p2.toInt64), (.long p2.toInt64)]))
      refine Goes.step (fun _ hr => XT.lcmp X21.here hx rfl (hb hby at_133) rfl hr) ?_
      show Goes p ee below s _ _ _ (T21.setTop (mkF m 134 #[.val (.long p1), .second, .val (.int p2), .val (.long p3), .second, .val (.int p4), .val (.long g0), .second, .val (.ref b1), .val (.ref b12), .val (.int (1 : Int32)), .val (.int (1 : Int32)), .val (.int (1 : Int32)), .val (.int (1 : Int32)), .unset] [(.int (XT.cmpL p2.toInt64 p2.toInt64))]))
      refine Goes.step (fun _ hr => XS.ifNo X21.here hx rfl (hb hby at_134) rfl ((if0 _ _).trans (teq ((own_cmp _ _).mpr rfl)).2) hr) ?_
      show Goes p ee below s _ _ _ (T21.setTop (mkF m 137 #[.val (.long p1), .second, .val (.int p2), .val (.long p3), .second, .val (.int p4), .val (.long g0), .second, .val (.ref b1), .val (.ref b12), .val (.int (1 : Int32)), .val (.int (1 : Int32)), .val (.int (1 : Int32)), .val (.int (1 : Int32)), .unset] []))
      refine Goes.step (fun _ hr => XS.aload X21.here hx rfl (hb hby at_137) rfl rfl hr) ?_
      show Goes p ee below s _ _ _ (T21.setTop (mkF m 139 #[.val (.long p1), .second, .val (.int p2), .val (.long p3), .second, .val (.int p4), .val (.long g0), .second, .val (.ref b1), .val (.ref b12), .val (.int (1 : Int32)), .val (.int (1 : Int32)), .val (.int (1 : Int32)), .val (.int (1 : Int32)), .unset] [(.ref b1)]))
      refine Goes.step (fun _ hr => XS.iconst X21.here hx rfl (hb hby at_139) hr) ?_
      show Goes p ee below s _ _ _ (T21.setTop (mkF m 140 #[.val (.long p1), .second, .val (.int p2), .val (.long p3), .second, .val (.int p4), .val (.long g0), .second, .val (.ref b1), .val (.ref b12), .val (.int (1 : Int32)), .val (.int (1 : Int32)), .val (.int (1 : Int32)), .val (.int (1 : Int32)), .unset] [(.int (2 : Int32)), (.ref b1)]))
      refine Goes.step (own_laload X21 hx hZ e21 A_b1 (j := (2 : Int32)) (by decide) (k := 2) rfl (by decide) (v := (.long p3)) rfl (g := (mkF m 140 #[.val (.long p1), .second, .val (.int p2), .val (.long p3), .second, .val (.int p4), .val (.long g0), .second, .val (.ref b1), .val (.ref b12), .val (.int (1 : Int32)), .val (.int (1 : Int32)), .val (.int (1 : Int32)), .val (.int (1 : Int32)), .unset] [(.int (2 : Int32)), (.ref b1)])) rfl rfl (hb hby at_140)) ?_
      show Goes p ee below s _ _ _ (T21.setTop (mkF m 141 #[.val (.long p1), .second, .val (.int p2), .val (.long p3), .second, .val (.int p4), .val (.long g0), .second, .val (.ref b1), .val (.ref b12), .val (.int (1 : Int32)), .val (.int (1 : Int32)), .val (.int (1 : Int32)), .val (.int (1 : Int32)), .unset] [(.long p3)]))
      refine Goes.step (fun _ hr => XT.lloadN X21.here hx rfl (hb hby at_141) rfl  hr) ?_
      show Goes p ee below s _ _ _ (T21.setTop (mkF m 142 #[.val (.long p1), .second, .val (.int p2), .val (.long p3), .second, .val (.int p4), .val (.long g0), .second, .val (.ref b1), .val (.ref b12), .val (.int (1 : Int32)), .val (.int (1 : Int32)), .val (.int (1 : Int32)), .val (.int (1 : Int32)), .unset] [(.long p3), (.long p3)]))
      refine Goes.step (fun _ hr => XT.lcmp X21.here hx rfl (hb hby at_142) rfl hr) ?_
      show Goes p ee below s _ _ _ (T21.setTop (mkF m 143 #[.val (.long p1), .second, .val (.int p2), .val (.long p3), .second, .val (.int p4), .val (.long g0), .second, .val (.ref b1), .val (.ref b12), .val (.int (1 : Int32)), .val (.int (1 : Int32)), .val (.int (1 : Int32)), .val (.int (1 : Int32)), .unset] [(.int (XT.cmpL p3 p3))]))
      refine Goes.step (fun _ hr => XS.ifNo X21.here hx rfl (hb hby at_143) rfl ((if0 _ _).trans (teq ((own_cmp _ _).mpr rfl)).2) hr) ?_
      show Goes p ee below s _ _ _ (T21.setTop (mkF m 146 #[.val (.long p1), .second, .val (.int p2), .val (.long p3), .second, .val (.int p4), .val (.long g0), .second, .val (.ref b1), .val (.ref b12), .val (.int (1 : Int32)), .val (.int (1 : Int32)), .val (.int (1 : Int32)), .val (.int (1 : Int32)), .unset] []))
      refine Goes.step (fun _ hr => XS.iconst X21.here hx rfl (hb hby at_146) hr) ?_
      show Goes p ee below s _ _ _ (T21.setTop (mkF m 147 #[.val (.long p1), .second, .val (.int p2), .val (.long p3), .second, .val (.int p4), .val (.long g0), .second, .val (.ref b1), .val (.ref b12), .val (.int (1 : Int32)), .val (.int (1 : Int32)), .val (.int (1 : Int32)), .val (.int (1 : Int32)), .unset] [(.int (1 : Int32))]))
      refine Goes.step (fun _ hr => XS.goto X21.here hx rfl (pc0 := 147) (pc' := 151) rfl (hb hby at_147) (by decide) (by decide) hr) ?_
      show Goes p ee below s _ _ _ (T21.setTop (mkF m 151 #[.val (.long p1), .second, .val (.int p2), .val (.long p3), .second, .val (.int p4), .val (.long g0), .second, .val (.ref b1), .val (.ref b12), .val (.int (1 : Int32)), .val (.int (1 : Int32)), .val (.int (1 : Int32)), .val (.int (1 : Int32)), .unset] [(.int (1 : Int32))]))
      refine Goes.step (fun _ hr => XS.istore X21.here hx rfl (hb hby at_151) rfl  (l' := #[.val (.long p1), .second, .val (.int p2), .val (.long p3), .second, .val (.int p4), .val (.long g0), .second, .val (.ref b1), .val (.ref b12), .val (.int (1 : Int32)), .val (.int (1 : Int32)), .val (.int (1 : Int32)), .val (.int (1 : Int32)), .val (.int (1 : Int32))]) rfl hr) ?_
      show Goes p ee below s _ _ _ (T21.setTop (mkF m 153 #[.val (.long p1), .second, .val (.int p2), .val (.long p3), .second, .val (.int p4), .val (.long g0), .second, .val (.ref b1), .val (.ref b12), .val (.int (1 : Int32)), .val (.int (1 : Int32)), .val (.int (1 : Int32)), .val (.int (1 : Int32)), .val (.int (1 : Int32))] []))
      refine Goes.step (fun _ hr => XS.iload X21.here hx rfl (hb hby at_153) rfl  hr) ?_
      show Goes p ee below s _ _ _ (T21.setTop (mkF m 155 #[.val (.long p1), .second, .val (.int p2), .val (.long p3), .second, .val (.int p4), .val (.long g0), .second, .val (.ref b1), .val (.ref b12), .val (.int (1 : Int32)), .val (.int (1 : Int32)), .val (.int (1 : Int32)), .val (.int (1 : Int32)), .val (.int (1 : Int32))] [(.int (1 : Int32))]))
      refine Goes.step (fun _ hr => XS.ifNo X21.here hx rfl (hb hby at_155) rfl ((if0 _ _).trans (feq (by decide)).1) hr) ?_
      show Goes p ee below s _ _ _ (T21.setTop (mkF m 158 #[.val (.long p1), .second, .val (.int p2), .val (.long p3), .second, .val (.int p4), .val (.long g0), .second, .val (.ref b1), .val (.ref b12), .val (.int (1 : Int32)), .val (.int (1 : Int32)), .val (.int (1 : Int32)), .val (.int (1 : Int32)), .val (.int (1 : Int32))] []))
      refine Goes.step (fun _ hr => XS.iload X21.here hx rfl (hb hby at_158) rfl  hr) ?_
      show Goes p ee below s _ _ _ (T21.setTop (mkF m 160 #[.val (.long p1), .second, .val (.int p2), .val (.long p3), .second, .val (.int p4), .val (.long g0), .second, .val (.ref b1), .val (.ref b12), .val (.int (1 : Int32)), .val (.int (1 : Int32)), .val (.int (1 : Int32)), .val (.int (1 : Int32)), .val (.int (1 : Int32))] [(.int (1 : Int32))]))
      refine Goes.step (fun _ hr => XS.ifNo X21.here hx rfl (hb hby at_160) rfl ((if0 _ _).trans (feq (by decide)).1) hr) ?_
      show Goes p ee below s _ _ _ (T21.setTop (mkF m 163 #[.val (.long p1), .second, .val (.int p2), .val (.long p3), .second, .val (.int p4), .val (.long g0), .second, .val (.ref b1), .val (.ref b12), .val (.int (1 : Int32)), .val (.int (1 : Int32)), .val (.int (1 : Int32)), .val (.int (1 : Int32)), .val (.int (1 : Int32))] []))
      refine Goes.step (fun _ hr => XS.iload X21.here hx rfl (hb hby at_163) rfl  hr) ?_
      show Goes p ee below s _ _ _ (T21.setTop (mkF m 165 #[.val (.long p1), .second, .val (.int p2), .val (.long p3), .second, .val (.int p4), .val (.long g0), .second, .val (.ref b1), .val (.ref b12), .val (.int (1 : Int32)), .val (.int (1 : Int32)), .val (.int (1 : Int32)), .val (.int (1 : Int32)), .val (.int (1 : Int32))] [(.int (1 : Int32))]))
      refine Goes.step (fun _ hr => XS.ifNo X21.here hx rfl (hb hby at_165) rfl ((if0 _ _).trans (feq (by decide)).1) hr) ?_
      show Goes p ee below s _ _ _ (T21.setTop (mkF m 168 #[.val (.long p1), .second, .val (.int p2), .val (.long p3), .second, .val (.int p4), .val (.long g0), .second, .val (.ref b1), .val (.ref b12), .val (.int (1 : Int32)), .val (.int (1 : Int32)), .val (.int (1 : Int32)), .val (.int (1 : Int32)), .val (.int (1 : Int32))] []))
      refine Goes.step (fun _ hr => XS.iload X21.here hx rfl (hb hby at_168) rfl  hr) ?_
      show Goes p ee below s _ _ _ (T21.setTop (mkF m 170 #[.val (.long p1), .second, .val (.int p2), .val (.long p3), .second, .val (.int p4), .val (.long g0), .second, .val (.ref b1), .val (.ref b12), .val (.int (1 : Int32)), .val (.int (1 : Int32)), .val (.int (1 : Int32)), .val (.int (1 : Int32)), .val (.int (1 : Int32))] [(.int (1 : Int32))]))
      refine Goes.step (fun _ hr => XS.ifNo X21.here hx rfl (hb hby at_170) rfl ((if0 _ _).trans (feq (by decide)).1) hr) ?_
      show Goes p ee below s _ _ _ (T21.setTop (mkF m 173 #[.val (.long p1), .second, .val (.int p2), .val (.long p3), .second, .val (.int p4), .val (.long g0), .second, .val (.ref b1), .val (.ref b12), .val (.int (1 : Int32)), .val (.int (1 : Int32)), .val (.int (1 : Int32)), .val (.int (1 : Int32)), .val (.int (1 : Int32))] []))
      refine Goes.step (fun _ hr => XS.iload X21.here hx rfl (hb hby at_173) rfl  hr) ?_
      show Goes p ee below s _ _ _ (T21.setTop (mkF m 175 #[.val (.long p1), .second, .val (.int p2), .val (.long p3), .second, .val (.int p4), .val (.long g0), .second, .val (.ref b1), .val (.ref b12), .val (.int (1 : Int32)), .val (.int (1 : Int32)), .val (.int (1 : Int32)), .val (.int (1 : Int32)), .val (.int (1 : Int32))] [(.int (1 : Int32))]))
      refine Goes.step (fun _ hr => XS.ifNo X21.here hx rfl (hb hby at_175) rfl ((if0 _ _).trans (feq (by decide)).1) hr) ?_
      show Goes p ee below s _ _ _ (T21.setTop (mkF m 178 #[.val (.long p1), .second, .val (.int p2), .val (.long p3), .second, .val (.int p4), .val (.long g0), .second, .val (.ref b1), .val (.ref b12), .val (.int (1 : Int32)), .val (.int (1 : Int32)), .val (.int (1 : Int32)), .val (.int (1 : Int32)), .val (.int (1 : Int32))] []))
      refine Goes.step (fun _ hr => XS.iconst X21.here hx rfl (hb hby at_178) hr) ?_
      show Goes p ee below s _ _ _ (T21.setTop (mkF m 179 #[.val (.long p1), .second, .val (.int p2), .val (.long p3), .second, .val (.int p4), .val (.long g0), .second, .val (.ref b1), .val (.ref b12), .val (.int (1 : Int32)), .val (.int (1 : Int32)), .val (.int (1 : Int32)), .val (.int (1 : Int32)), .val (.int (1 : Int32))] [(.int (1 : Int32))]))
      refine Goes.step (fun _ hr => XS.goto X21.here hx rfl (pc0 := 179) (pc' := 183) rfl (hb hby at_179) (by decide) (by decide) hr) ?_
      show Goes p ee below s _ _ _ (T21.setTop (mkF m 183 #[.val (.long p1), .second, .val (.int p2), .val (.long p3), .second, .val (.int p4), .val (.long g0), .second, .val (.ref b1), .val (.ref b12), .val (.int (1 : Int32)), .val (.int (1 : Int32)), .val (.int (1 : Int32)), .val (.int (1 : Int32)), .val (.int (1 : Int32))] [(.int (1 : Int32))]))
      refine Goes.retZ X21 hx Bd.notSynchronized Bd.returns (by simp) rfl (hb hby at_183) (by decide) (by decide) ?_
      exact ⟨rfl, N22⟩
    · show Goes p ee below s _ _ _ (T12.setTop (mkF m 42 #[.val (.long p1), .second, .val (.int p2), .val (.long p3), .second, .val (.int p4), .val (.long g0), .second, .val (.ref b1), .val (.ref b12), .unset, .unset, .unset, .unset, .unset] []))
      refine Goes.step (fun _ hr => XS.aload X12.here hx rfl (hb hby at_42) rfl rfl hr) ?_
      show Goes p ee below s _ _ _ (T12.setTop (mkF m 44 #[.val (.long p1), .second, .val (.int p2), .val (.long p3), .second, .val (.int p4), .val (.long g0), .second, .val (.ref b1), .val (.ref b12), .unset, .unset, .unset, .unset, .unset] [(.ref b12)]))
      have lt_b1 := A_b1.lt
      have lt_b12 := Ei12.lt
      obtain ⟨v23, T23, L23, X23, hQ23, st23⟩ := own_callV X12 hx hZ (y := (⟨"com/example/aliran/aliran/Decision", "granted", "()Z"⟩ : MethodName)) hown (hw _ (List.mem_of_getElem? (i := 30) rfl)) (hw _ (List.mem_of_getElem? (i := 31) rfl)) (hw _ (List.mem_of_getElem? (i := 33) rfl)) (hw _ (List.mem_of_getElem? (i := 32) rfl)) (hw _ (List.mem_of_getElem? (i := 3) rfl)) (hw _ (List.mem_of_getElem? (i := 34) rfl)) (by decide) (a := b12) (argsL := []) (rm_get_granted l Z a0 hw [] b12 (if g0 = 1 then (1 : Int32) else 0) h12 n0 Zp14 (by split <;> simp) Fa12) e12 Ei12 (W := 0) (by decide) (by decide) (by decide) (by decide) (g := (mkF m 44 #[.val (.long p1), .second, .val (.int p2), .val (.long p3), .second, .val (.int p4), .val (.long g0), .second, .val (.ref b1), .val (.ref b12), .unset, .unset, .unset, .unset, .unset] [(.ref b12)])) rfl (by rw [hml]; rfl) (rest := []) (lenOf pd_4 rfl) rfl (by show 2 * 0 + _ ≤ _; exact Nat.le_of_eq rfl) (hb hby at_44)
      refine Goes.step st23 ?_
      obtain ⟨rfl, N23, e23⟩ := hQ23
      have N24 := Fr.app N13 N23
      show Goes p ee below s _ _ _ (T23.setTop (mkF m 47 #[.val (.long p1), .second, .val (.int p2), .val (.long p3), .second, .val (.int p4), .val (.long g0), .second, .val (.ref b1), .val (.ref b12), .unset, .unset, .unset, .unset, .unset] [(.int (if g0 = 1 then (1 : Int32) else 0))]))
      refine Goes.step (fun _ hr => XT.lload X23.here hx rfl (hb hby at_47) rfl  hr) ?_
      show Goes p ee below s _ _ _ (T23.setTop (mkF m 49 #[.val (.long p1), .second, .val (.int p2), .val (.long p3), .second, .val (.int p4), .val (.long g0), .second, .val (.ref b1), .val (.ref b12), .unset, .unset, .unset, .unset, .unset] [(.long g0), (.int (if g0 = 1 then (1 : Int32) else 0))]))
      refine Goes.step (fun _ hr => XT.lconst X23.here hx rfl (hb hby at_49) hr) ?_
      show Goes p ee below s _ _ _ (T23.setTop (mkF m 50 #[.val (.long p1), .second, .val (.int p2), .val (.long p3), .second, .val (.int p4), .val (.long g0), .second, .val (.ref b1), .val (.ref b12), .unset, .unset, .unset, .unset, .unset] [(.long (1 : Int64)), (.long g0), (.int (if g0 = 1 then (1 : Int32) else 0))]))
      refine Goes.step (fun _ hr => XT.lcmp X23.here hx rfl (hb hby at_50) rfl hr) ?_
      show Goes p ee below s _ _ _ (T23.setTop (mkF m 51 #[.val (.long p1), .second, .val (.int p2), .val (.long p3), .second, .val (.int p4), .val (.long g0), .second, .val (.ref b1), .val (.ref b12), .unset, .unset, .unset, .unset, .unset] [(.int (XT.cmpL g0 (1 : Int64))), (.int (if g0 = 1 then (1 : Int32) else 0))]))
      refine Goes.step (fun _ hr => XS.ifYes X23.here hx rfl (pc0 := 51) (pc' := 58) rfl (hb hby at_51) rfl ((if0 _ _).trans (feq (fun q => hg ((own_cmp _ _).mp q))).2) (by decide) (by decide) hr) ?_
      show Goes p ee below s _ _ _ (T23.setTop (mkF m 58 #[.val (.long p1), .second, .val (.int p2), .val (.long p3), .second, .val (.int p4), .val (.long g0), .second, .val (.ref b1), .val (.ref b12), .unset, .unset, .unset, .unset, .unset] [(.int (if g0 = 1 then (1 : Int32) else 0))]))
      refine Goes.step (fun _ hr => XS.iconst X23.here hx rfl (hb hby at_58) hr) ?_
      show Goes p ee below s _ _ _ (T23.setTop (mkF m 59 #[.val (.long p1), .second, .val (.int p2), .val (.long p3), .second, .val (.int p4), .val (.long g0), .second, .val (.ref b1), .val (.ref b12), .unset, .unset, .unset, .unset, .unset] [(.int (0 : Int32)), (.int (if g0 = 1 then (1 : Int32) else 0))]))
      refine Goes.step (fun _ hr => XS.icmpNo X23.here hx rfl (hb hby at_59) rfl (teq (if_neg hg)).2 hr) ?_
      show Goes p ee below s _ _ _ (T23.setTop (mkF m 62 #[.val (.long p1), .second, .val (.int p2), .val (.long p3), .second, .val (.int p4), .val (.long g0), .second, .val (.ref b1), .val (.ref b12), .unset, .unset, .unset, .unset, .unset] []))
      refine Goes.step (fun _ hr => XS.iconst X23.here hx rfl (hb hby at_62) hr) ?_
      show Goes p ee below s _ _ _ (T23.setTop (mkF m 63 #[.val (.long p1), .second, .val (.int p2), .val (.long p3), .second, .val (.int p4), .val (.long g0), .second, .val (.ref b1), .val (.ref b12), .unset, .unset, .unset, .unset, .unset] [(.int (1 : Int32))]))
      refine Goes.step (fun _ hr => XS.goto X23.here hx rfl (pc0 := 63) (pc' := 67) rfl (hb hby at_63) (by decide) (by decide) hr) ?_
      show Goes p ee below s _ _ _ (T23.setTop (mkF m 67 #[.val (.long p1), .second, .val (.int p2), .val (.long p3), .second, .val (.int p4), .val (.long g0), .second, .val (.ref b1), .val (.ref b12), .unset, .unset, .unset, .unset, .unset] [(.int (1 : Int32))]))
      refine Goes.step (fun _ hr => XS.istore X23.here hx rfl (hb hby at_67) rfl  (l' := #[.val (.long p1), .second, .val (.int p2), .val (.long p3), .second, .val (.int p4), .val (.long g0), .second, .val (.ref b1), .val (.ref b12), .val (.int (1 : Int32)), .unset, .unset, .unset, .unset]) rfl hr) ?_
      show Goes p ee below s _ _ _ (T23.setTop (mkF m 69 #[.val (.long p1), .second, .val (.int p2), .val (.long p3), .second, .val (.int p4), .val (.long g0), .second, .val (.ref b1), .val (.ref b12), .val (.int (1 : Int32)), .unset, .unset, .unset, .unset] []))
      refine Goes.step (fun _ hr => XS.aload X23.here hx rfl (hb hby at_69) rfl rfl hr) ?_
      show Goes p ee below s _ _ _ (T23.setTop (mkF m 71 #[.val (.long p1), .second, .val (.int p2), .val (.long p3), .second, .val (.int p4), .val (.long g0), .second, .val (.ref b1), .val (.ref b12), .val (.int (1 : Int32)), .unset, .unset, .unset, .unset] [(.ref b12)]))
      have lt_b1 := A_b1.lt
      have lt_b12 := Ei12.lt
      obtain ⟨v25, T25, L25, X25, hQ25, st25⟩ := own_callV X23 hx hZ (y := (⟨"com/example/aliran/aliran/Decision", "remaining", "()I"⟩ : MethodName)) hown (hw _ (List.mem_of_getElem? (i := 35) rfl)) (hw _ (List.mem_of_getElem? (i := 36) rfl)) (hw _ (List.mem_of_getElem? (i := 38) rfl)) (hw _ (List.mem_of_getElem? (i := 37) rfl)) (hw _ (List.mem_of_getElem? (i := 3) rfl)) (hw _ (List.mem_of_getElem? (i := 39) rfl)) (by decide) (a := b12) (argsL := []) (rm_get_remaining l Z a0 hw [] b12 p2 h12 n0 Zp14 Fb12) e23 Ei12 (W := 0) (by decide) (by decide) (by decide) (by decide) (g := (mkF m 71 #[.val (.long p1), .second, .val (.int p2), .val (.long p3), .second, .val (.int p4), .val (.long g0), .second, .val (.ref b1), .val (.ref b12), .val (.int (1 : Int32)), .unset, .unset, .unset, .unset] [(.ref b12)])) rfl (by rw [hml]; rfl) (rest := []) (lenOf pd_5 rfl) rfl (by show 2 * 0 + _ ≤ _; exact Nat.le_of_eq rfl) (hb hby at_71)
      refine Goes.step st25 ?_
      obtain ⟨rfl, N25, e25⟩ := hQ25
      have N26 := Fr.app N24 N25
      show Goes p ee below s _ _ _ (T25.setTop (mkF m 74 #[.val (.long p1), .second, .val (.int p2), .val (.long p3), .second, .val (.int p4), .val (.long g0), .second, .val (.ref b1), .val (.ref b12), .val (.int (1 : Int32)), .unset, .unset, .unset, .unset] [(.int p2)]))
      refine Goes.step (fun _ hr => XS.iloadN X25.here hx rfl (hb hby at_74) rfl  hr) ?_
      show Goes p ee below s _ _ _ (T25.setTop (mkF m 75 #[.val (.long p1), .second, .val (.int p2), .val (.long p3), .second, .val (.int p4), .val (.long g0), .second, .val (.ref b1), .val (.ref b12), .val (.int (1 : Int32)), .unset, .unset, .unset, .unset] [(.int p2), (.int p2)]))
      refine Goes.step (fun _ hr => XS.icmpNo X25.here hx rfl (hb hby at_75) rfl (teq rfl).2 hr) ?_
      show Goes p ee below s _ _ _ (T25.setTop (mkF m 78 #[.val (.long p1), .second, .val (.int p2), .val (.long p3), .second, .val (.int p4), .val (.long g0), .second, .val (.ref b1), .val (.ref b12), .val (.int (1 : Int32)), .unset, .unset, .unset, .unset] []))
      refine Goes.step (fun _ hr => XS.iconst X25.here hx rfl (hb hby at_78) hr) ?_
      show Goes p ee below s _ _ _ (T25.setTop (mkF m 79 #[.val (.long p1), .second, .val (.int p2), .val (.long p3), .second, .val (.int p4), .val (.long g0), .second, .val (.ref b1), .val (.ref b12), .val (.int (1 : Int32)), .unset, .unset, .unset, .unset] [(.int (1 : Int32))]))
      refine Goes.step (fun _ hr => XS.goto X25.here hx rfl (pc0 := 79) (pc' := 83) rfl (hb hby at_79) (by decide) (by decide) hr) ?_
      show Goes p ee below s _ _ _ (T25.setTop (mkF m 83 #[.val (.long p1), .second, .val (.int p2), .val (.long p3), .second, .val (.int p4), .val (.long g0), .second, .val (.ref b1), .val (.ref b12), .val (.int (1 : Int32)), .unset, .unset, .unset, .unset] [(.int (1 : Int32))]))
      refine Goes.step (fun _ hr => XS.istore X25.here hx rfl (hb hby at_83) rfl  (l' := #[.val (.long p1), .second, .val (.int p2), .val (.long p3), .second, .val (.int p4), .val (.long g0), .second, .val (.ref b1), .val (.ref b12), .val (.int (1 : Int32)), .val (.int (1 : Int32)), .unset, .unset, .unset]) rfl hr) ?_
      show Goes p ee below s _ _ _ (T25.setTop (mkF m 85 #[.val (.long p1), .second, .val (.int p2), .val (.long p3), .second, .val (.int p4), .val (.long g0), .second, .val (.ref b1), .val (.ref b12), .val (.int (1 : Int32)), .val (.int (1 : Int32)), .unset, .unset, .unset] []))
      refine Goes.step (fun _ hr => XS.aload X25.here hx rfl (hb hby at_85) rfl rfl hr) ?_
      show Goes p ee below s _ _ _ (T25.setTop (mkF m 87 #[.val (.long p1), .second, .val (.int p2), .val (.long p3), .second, .val (.int p4), .val (.long g0), .second, .val (.ref b1), .val (.ref b12), .val (.int (1 : Int32)), .val (.int (1 : Int32)), .unset, .unset, .unset] [(.ref b12)]))
      have lt_b1 := A_b1.lt
      have lt_b12 := Ei12.lt
      obtain ⟨v27, T27, L27, X27, hQ27, st27⟩ := own_callV X25 hx hZ (y := (⟨"com/example/aliran/aliran/Decision", "waitMillis", "()J"⟩ : MethodName)) hown (hw _ (List.mem_of_getElem? (i := 40) rfl)) (hw _ (List.mem_of_getElem? (i := 41) rfl)) (hw _ (List.mem_of_getElem? (i := 43) rfl)) (hw _ (List.mem_of_getElem? (i := 42) rfl)) (hw _ (List.mem_of_getElem? (i := 3) rfl)) (hw _ (List.mem_of_getElem? (i := 44) rfl)) (by decide) (a := b12) (argsL := []) (rm_get_waitMillis l Z a0 hw [] b12 p3 h12 n0 Zp14 Fc12) e25 Ei12 (W := 0) (by decide) (by decide) (by decide) (by decide) (g := (mkF m 87 #[.val (.long p1), .second, .val (.int p2), .val (.long p3), .second, .val (.int p4), .val (.long g0), .second, .val (.ref b1), .val (.ref b12), .val (.int (1 : Int32)), .val (.int (1 : Int32)), .unset, .unset, .unset] [(.ref b12)])) rfl (by rw [hml]; rfl) (rest := []) (lenOf pd_6 rfl) rfl (by show 2 * 0 + _ ≤ _; exact Nat.le_of_eq rfl) (hb hby at_87)
      refine Goes.step st27 ?_
      obtain ⟨rfl, N27, e27⟩ := hQ27
      have N28 := Fr.app N26 N27
      show Goes p ee below s _ _ _ (T27.setTop (mkF m 90 #[.val (.long p1), .second, .val (.int p2), .val (.long p3), .second, .val (.int p4), .val (.long g0), .second, .val (.ref b1), .val (.ref b12), .val (.int (1 : Int32)), .val (.int (1 : Int32)), .unset, .unset, .unset] [(.long p3)]))
      refine Goes.step (fun _ hr => XT.lloadN X27.here hx rfl (hb hby at_90) rfl  hr) ?_
      show Goes p ee below s _ _ _ (T27.setTop (mkF m 91 #[.val (.long p1), .second, .val (.int p2), .val (.long p3), .second, .val (.int p4), .val (.long g0), .second, .val (.ref b1), .val (.ref b12), .val (.int (1 : Int32)), .val (.int (1 : Int32)), .unset, .unset, .unset] [(.long p3), (.long p3)]))
      refine Goes.step (fun _ hr => XT.lcmp X27.here hx rfl (hb hby at_91) rfl hr) ?_
      show Goes p ee below s _ _ _ (T27.setTop (mkF m 92 #[.val (.long p1), .second, .val (.int p2), .val (.long p3), .second, .val (.int p4), .val (.long g0), .second, .val (.ref b1), .val (.ref b12), .val (.int (1 : Int32)), .val (.int (1 : Int32)), .unset, .unset, .unset] [(.int (XT.cmpL p3 p3))]))
      refine Goes.step (fun _ hr => XS.ifNo X27.here hx rfl (hb hby at_92) rfl ((if0 _ _).trans (teq ((own_cmp _ _).mpr rfl)).2) hr) ?_
      show Goes p ee below s _ _ _ (T27.setTop (mkF m 95 #[.val (.long p1), .second, .val (.int p2), .val (.long p3), .second, .val (.int p4), .val (.long g0), .second, .val (.ref b1), .val (.ref b12), .val (.int (1 : Int32)), .val (.int (1 : Int32)), .unset, .unset, .unset] []))
      refine Goes.step (fun _ hr => XS.iconst X27.here hx rfl (hb hby at_95) hr) ?_
      show Goes p ee below s _ _ _ (T27.setTop (mkF m 96 #[.val (.long p1), .second, .val (.int p2), .val (.long p3), .second, .val (.int p4), .val (.long g0), .second, .val (.ref b1), .val (.ref b12), .val (.int (1 : Int32)), .val (.int (1 : Int32)), .unset, .unset, .unset] [(.int (1 : Int32))]))
      refine Goes.step (fun _ hr => XS.goto X27.here hx rfl (pc0 := 96) (pc' := 100) rfl (hb hby at_96) (by decide) (by decide) hr) ?_
      show Goes p ee below s _ _ _ (T27.setTop (mkF m 100 #[.val (.long p1), .second, .val (.int p2), .val (.long p3), .second, .val (.int p4), .val (.long g0), .second, .val (.ref b1), .val (.ref b12), .val (.int (1 : Int32)), .val (.int (1 : Int32)), .unset, .unset, .unset] [(.int (1 : Int32))]))
      refine Goes.step (fun _ hr => XS.istore X27.here hx rfl (hb hby at_100) rfl  (l' := #[.val (.long p1), .second, .val (.int p2), .val (.long p3), .second, .val (.int p4), .val (.long g0), .second, .val (.ref b1), .val (.ref b12), .val (.int (1 : Int32)), .val (.int (1 : Int32)), .val (.int (1 : Int32)), .unset, .unset]) rfl hr) ?_
      show Goes p ee below s _ _ _ (T27.setTop (mkF m 102 #[.val (.long p1), .second, .val (.int p2), .val (.long p3), .second, .val (.int p4), .val (.long g0), .second, .val (.ref b1), .val (.ref b12), .val (.int (1 : Int32)), .val (.int (1 : Int32)), .val (.int (1 : Int32)), .unset, .unset] []))
      refine Goes.step (fun _ hr => XS.aload X27.here hx rfl (hb hby at_102) rfl rfl hr) ?_
      show Goes p ee below s _ _ _ (T27.setTop (mkF m 104 #[.val (.long p1), .second, .val (.int p2), .val (.long p3), .second, .val (.int p4), .val (.long g0), .second, .val (.ref b1), .val (.ref b12), .val (.int (1 : Int32)), .val (.int (1 : Int32)), .val (.int (1 : Int32)), .unset, .unset] [(.ref b12)]))
      have lt_b1 := A_b1.lt
      have lt_b12 := Ei12.lt
      obtain ⟨v29, T29, L29, X29, hQ29, st29⟩ := own_callV X27 hx hZ (y := (⟨"com/example/aliran/aliran/Decision", "withoutRedis", "()Z"⟩ : MethodName)) hown (hw _ (List.mem_of_getElem? (i := 45) rfl)) (hw _ (List.mem_of_getElem? (i := 46) rfl)) (hw _ (List.mem_of_getElem? (i := 48) rfl)) (hw _ (List.mem_of_getElem? (i := 47) rfl)) (hw _ (List.mem_of_getElem? (i := 3) rfl)) (hw _ (List.mem_of_getElem? (i := 49) rfl)) (by decide) (a := b12) (argsL := []) (rm_get_withoutRedis l Z a0 hw [] b12 (0 : Int32) h12 n0 Zp14 (Or.inl rfl) Fd12) e27 Ei12 (W := 0) (by decide) (by decide) (by decide) (by decide) (g := (mkF m 104 #[.val (.long p1), .second, .val (.int p2), .val (.long p3), .second, .val (.int p4), .val (.long g0), .second, .val (.ref b1), .val (.ref b12), .val (.int (1 : Int32)), .val (.int (1 : Int32)), .val (.int (1 : Int32)), .unset, .unset] [(.ref b12)])) rfl (by rw [hml]; rfl) (rest := []) (lenOf pd_4 rfl) rfl (by show 2 * 0 + _ ≤ _; exact Nat.le_of_eq rfl) (hb hby at_104)
      refine Goes.step st29 ?_
      obtain ⟨rfl, N29, e29⟩ := hQ29
      have N30 := Fr.app N28 N29
      show Goes p ee below s _ _ _ (T29.setTop (mkF m 107 #[.val (.long p1), .second, .val (.int p2), .val (.long p3), .second, .val (.int p4), .val (.long g0), .second, .val (.ref b1), .val (.ref b12), .val (.int (1 : Int32)), .val (.int (1 : Int32)), .val (.int (1 : Int32)), .unset, .unset] [(.int (0 : Int32))]))
      refine Goes.step (fun _ hr => XS.ifNo X29.here hx rfl (hb hby at_107) rfl ((if0 _ _).trans (teq rfl).2) hr) ?_
      show Goes p ee below s _ _ _ (T29.setTop (mkF m 110 #[.val (.long p1), .second, .val (.int p2), .val (.long p3), .second, .val (.int p4), .val (.long g0), .second, .val (.ref b1), .val (.ref b12), .val (.int (1 : Int32)), .val (.int (1 : Int32)), .val (.int (1 : Int32)), .unset, .unset] []))
      refine Goes.step (fun _ hr => XS.iconst X29.here hx rfl (hb hby at_110) hr) ?_
      show Goes p ee below s _ _ _ (T29.setTop (mkF m 111 #[.val (.long p1), .second, .val (.int p2), .val (.long p3), .second, .val (.int p4), .val (.long g0), .second, .val (.ref b1), .val (.ref b12), .val (.int (1 : Int32)), .val (.int (1 : Int32)), .val (.int (1 : Int32)), .unset, .unset] [(.int (1 : Int32))]))
      refine Goes.step (fun _ hr => XS.goto X29.here hx rfl (pc0 := 111) (pc' := 115) rfl (hb hby at_111) (by decide) (by decide) hr) ?_
      show Goes p ee below s _ _ _ (T29.setTop (mkF m 115 #[.val (.long p1), .second, .val (.int p2), .val (.long p3), .second, .val (.int p4), .val (.long g0), .second, .val (.ref b1), .val (.ref b12), .val (.int (1 : Int32)), .val (.int (1 : Int32)), .val (.int (1 : Int32)), .unset, .unset] [(.int (1 : Int32))]))
      refine Goes.step (fun _ hr => XS.istore X29.here hx rfl (hb hby at_115) rfl  (l' := #[.val (.long p1), .second, .val (.int p2), .val (.long p3), .second, .val (.int p4), .val (.long g0), .second, .val (.ref b1), .val (.ref b12), .val (.int (1 : Int32)), .val (.int (1 : Int32)), .val (.int (1 : Int32)), .val (.int (1 : Int32)), .unset]) rfl hr) ?_
      show Goes p ee below s _ _ _ (T29.setTop (mkF m 117 #[.val (.long p1), .second, .val (.int p2), .val (.long p3), .second, .val (.int p4), .val (.long g0), .second, .val (.ref b1), .val (.ref b12), .val (.int (1 : Int32)), .val (.int (1 : Int32)), .val (.int (1 : Int32)), .val (.int (1 : Int32)), .unset] []))
      refine Goes.step (fun _ hr => XS.aload X29.here hx rfl (hb hby at_117) rfl rfl hr) ?_
      show Goes p ee below s _ _ _ (T29.setTop (mkF m 119 #[.val (.long p1), .second, .val (.int p2), .val (.long p3), .second, .val (.int p4), .val (.long g0), .second, .val (.ref b1), .val (.ref b12), .val (.int (1 : Int32)), .val (.int (1 : Int32)), .val (.int (1 : Int32)), .val (.int (1 : Int32)), .unset] [(.ref b1)]))
      refine Goes.step (fun _ hr => XS.iconst X29.here hx rfl (hb hby at_119) hr) ?_
      show Goes p ee below s _ _ _ (T29.setTop (mkF m 120 #[.val (.long p1), .second, .val (.int p2), .val (.long p3), .second, .val (.int p4), .val (.long g0), .second, .val (.ref b1), .val (.ref b12), .val (.int (1 : Int32)), .val (.int (1 : Int32)), .val (.int (1 : Int32)), .val (.int (1 : Int32)), .unset] [(.int (0 : Int32)), (.ref b1)]))
      refine Goes.step (own_laload X29 hx hZ e29 A_b1 (j := (0 : Int32)) (by decide) (k := 0) rfl (by decide) (v := (.long g0)) rfl (g := (mkF m 120 #[.val (.long p1), .second, .val (.int p2), .val (.long p3), .second, .val (.int p4), .val (.long g0), .second, .val (.ref b1), .val (.ref b12), .val (.int (1 : Int32)), .val (.int (1 : Int32)), .val (.int (1 : Int32)), .val (.int (1 : Int32)), .unset] [(.int (0 : Int32)), (.ref b1)])) rfl rfl (hb hby at_120)) ?_
      show Goes p ee below s _ _ _ (T29.setTop (mkF m 121 #[.val (.long p1), .second, .val (.int p2), .val (.long p3), .second, .val (.int p4), .val (.long g0), .second, .val (.ref b1), .val (.ref b12), .val (.int (1 : Int32)), .val (.int (1 : Int32)), .val (.int (1 : Int32)), .val (.int (1 : Int32)), .unset] [(.long g0)]))
      refine Goes.step (fun _ hr => XT.lload X29.here hx rfl (hb hby at_121) rfl  hr) ?_
      show Goes p ee below s _ _ _ (T29.setTop (mkF m 123 #[.val (.long p1), .second, .val (.int p2), .val (.long p3), .second, .val (.int p4), .val (.long g0), .second, .val (.ref b1), .val (.ref b12), .val (.int (1 : Int32)), .val (.int (1 : Int32)), .val (.int (1 : Int32)), .val (.int (1 : Int32)), .unset] [(.long g0), (.long g0)]))
      refine Goes.step (fun _ hr => XT.lcmp X29.here hx rfl (hb hby at_123) rfl hr) ?_
      show Goes p ee below s _ _ _ (T29.setTop (mkF m 124 #[.val (.long p1), .second, .val (.int p2), .val (.long p3), .second, .val (.int p4), .val (.long g0), .second, .val (.ref b1), .val (.ref b12), .val (.int (1 : Int32)), .val (.int (1 : Int32)), .val (.int (1 : Int32)), .val (.int (1 : Int32)), .unset] [(.int (XT.cmpL g0 g0))]))
      refine Goes.step (fun _ hr => XS.ifNo X29.here hx rfl (hb hby at_124) rfl ((if0 _ _).trans (teq ((own_cmp _ _).mpr rfl)).2) hr) ?_
      show Goes p ee below s _ _ _ (T29.setTop (mkF m 127 #[.val (.long p1), .second, .val (.int p2), .val (.long p3), .second, .val (.int p4), .val (.long g0), .second, .val (.ref b1), .val (.ref b12), .val (.int (1 : Int32)), .val (.int (1 : Int32)), .val (.int (1 : Int32)), .val (.int (1 : Int32)), .unset] []))
      refine Goes.step (fun _ hr => XS.aload X29.here hx rfl (hb hby at_127) rfl rfl hr) ?_
      show Goes p ee below s _ _ _ (T29.setTop (mkF m 129 #[.val (.long p1), .second, .val (.int p2), .val (.long p3), .second, .val (.int p4), .val (.long g0), .second, .val (.ref b1), .val (.ref b12), .val (.int (1 : Int32)), .val (.int (1 : Int32)), .val (.int (1 : Int32)), .val (.int (1 : Int32)), .unset] [(.ref b1)]))
      refine Goes.step (fun _ hr => XS.iconst X29.here hx rfl (hb hby at_129) hr) ?_
      show Goes p ee below s _ _ _ (T29.setTop (mkF m 130 #[.val (.long p1), .second, .val (.int p2), .val (.long p3), .second, .val (.int p4), .val (.long g0), .second, .val (.ref b1), .val (.ref b12), .val (.int (1 : Int32)), .val (.int (1 : Int32)), .val (.int (1 : Int32)), .val (.int (1 : Int32)), .unset] [(.int (1 : Int32)), (.ref b1)]))
      refine Goes.step (own_laload X29 hx hZ e29 A_b1 (j := (1 : Int32)) (by decide) (k := 1) rfl (by decide) (v := (.long p2.toInt64)) rfl (g := (mkF m 130 #[.val (.long p1), .second, .val (.int p2), .val (.long p3), .second, .val (.int p4), .val (.long g0), .second, .val (.ref b1), .val (.ref b12), .val (.int (1 : Int32)), .val (.int (1 : Int32)), .val (.int (1 : Int32)), .val (.int (1 : Int32)), .unset] [(.int (1 : Int32)), (.ref b1)])) rfl rfl (hb hby at_130)) ?_
      show Goes p ee below s _ _ _ (T29.setTop (mkF m 131 #[.val (.long p1), .second, .val (.int p2), .val (.long p3), .second, .val (.int p4), .val (.long g0), .second, .val (.ref b1), .val (.ref b12), .val (.int (1 : Int32)), .val (.int (1 : Int32)), .val (.int (1 : Int32)), .val (.int (1 : Int32)), .unset] [(.long p2.toInt64)]))
      refine Goes.step (fun _ hr => XS.iloadN X29.here hx rfl (hb hby at_131) rfl  hr) ?_
      show Goes p ee below s _ _ _ (T29.setTop (mkF m 132 #[.val (.long p1), .second, .val (.int p2), .val (.long p3), .second, .val (.int p4), .val (.long g0), .second, .val (.ref b1), .val (.ref b12), .val (.int (1 : Int32)), .val (.int (1 : Int32)), .val (.int (1 : Int32)), .val (.int (1 : Int32)), .unset] [(.int p2), (.long p2.toInt64)]))
      refine Goes.step (fun _ hr => XT.i2l X29.here hx rfl (hb hby at_132) rfl hr) ?_
      show Goes p ee below s _ _ _ (T29.setTop (mkF m 133 #[.val (.long p1), .second, .val (.int p2), .val (.long p3), .second, .val (.int p4), .val (.long g0), .second, .val (.ref b1), .val (.ref b12), .val (.int (1 : Int32)), .val (.int (1 : Int32)), .val (.int (1 : Int32)), .val (.int (1 : Int32)), .unset] [(.long p2.toInt64), (.long p2.toInt64)]))
      refine Goes.step (fun _ hr => XT.lcmp X29.here hx rfl (hb hby at_133) rfl hr) ?_
      show Goes p ee below s _ _ _ (T29.setTop (mkF m 134 #[.val (.long p1), .second, .val (.int p2), .val (.long p3), .second, .val (.int p4), .val (.long g0), .second, .val (.ref b1), .val (.ref b12), .val (.int (1 : Int32)), .val (.int (1 : Int32)), .val (.int (1 : Int32)), .val (.int (1 : Int32)), .unset] [(.int (XT.cmpL p2.toInt64 p2.toInt64))]))
      refine Goes.step (fun _ hr => XS.ifNo X29.here hx rfl (hb hby at_134) rfl ((if0 _ _).trans (teq ((own_cmp _ _).mpr rfl)).2) hr) ?_
      show Goes p ee below s _ _ _ (T29.setTop (mkF m 137 #[.val (.long p1), .second, .val (.int p2), .val (.long p3), .second, .val (.int p4), .val (.long g0), .second, .val (.ref b1), .val (.ref b12), .val (.int (1 : Int32)), .val (.int (1 : Int32)), .val (.int (1 : Int32)), .val (.int (1 : Int32)), .unset] []))
      refine Goes.step (fun _ hr => XS.aload X29.here hx rfl (hb hby at_137) rfl rfl hr) ?_
      show Goes p ee below s _ _ _ (T29.setTop (mkF m 139 #[.val (.long p1), .second, .val (.int p2), .val (.long p3), .second, .val (.int p4), .val (.long g0), .second, .val (.ref b1), .val (.ref b12), .val (.int (1 : Int32)), .val (.int (1 : Int32)), .val (.int (1 : Int32)), .val (.int (1 : Int32)), .unset] [(.ref b1)]))
      refine Goes.step (fun _ hr => XS.iconst X29.here hx rfl (hb hby at_139) hr) ?_
      show Goes p ee below s _ _ _ (T29.setTop (mkF m 140 #[.val (.long p1), .second, .val (.int p2), .val (.long p3), .second, .val (.int p4), .val (.long g0), .second, .val (.ref b1), .val (.ref b12), .val (.int (1 : Int32)), .val (.int (1 : Int32)), .val (.int (1 : Int32)), .val (.int (1 : Int32)), .unset] [(.int (2 : Int32)), (.ref b1)]))
      refine Goes.step (own_laload X29 hx hZ e29 A_b1 (j := (2 : Int32)) (by decide) (k := 2) rfl (by decide) (v := (.long p3)) rfl (g := (mkF m 140 #[.val (.long p1), .second, .val (.int p2), .val (.long p3), .second, .val (.int p4), .val (.long g0), .second, .val (.ref b1), .val (.ref b12), .val (.int (1 : Int32)), .val (.int (1 : Int32)), .val (.int (1 : Int32)), .val (.int (1 : Int32)), .unset] [(.int (2 : Int32)), (.ref b1)])) rfl rfl (hb hby at_140)) ?_
      show Goes p ee below s _ _ _ (T29.setTop (mkF m 141 #[.val (.long p1), .second, .val (.int p2), .val (.long p3), .second, .val (.int p4), .val (.long g0), .second, .val (.ref b1), .val (.ref b12), .val (.int (1 : Int32)), .val (.int (1 : Int32)), .val (.int (1 : Int32)), .val (.int (1 : Int32)), .unset] [(.long p3)]))
      refine Goes.step (fun _ hr => XT.lloadN X29.here hx rfl (hb hby at_141) rfl  hr) ?_
      show Goes p ee below s _ _ _ (T29.setTop (mkF m 142 #[.val (.long p1), .second, .val (.int p2), .val (.long p3), .second, .val (.int p4), .val (.long g0), .second, .val (.ref b1), .val (.ref b12), .val (.int (1 : Int32)), .val (.int (1 : Int32)), .val (.int (1 : Int32)), .val (.int (1 : Int32)), .unset] [(.long p3), (.long p3)]))
      refine Goes.step (fun _ hr => XT.lcmp X29.here hx rfl (hb hby at_142) rfl hr) ?_
      show Goes p ee below s _ _ _ (T29.setTop (mkF m 143 #[.val (.long p1), .second, .val (.int p2), .val (.long p3), .second, .val (.int p4), .val (.long g0), .second, .val (.ref b1), .val (.ref b12), .val (.int (1 : Int32)), .val (.int (1 : Int32)), .val (.int (1 : Int32)), .val (.int (1 : Int32)), .unset] [(.int (XT.cmpL p3 p3))]))
      refine Goes.step (fun _ hr => XS.ifNo X29.here hx rfl (hb hby at_143) rfl ((if0 _ _).trans (teq ((own_cmp _ _).mpr rfl)).2) hr) ?_
      show Goes p ee below s _ _ _ (T29.setTop (mkF m 146 #[.val (.long p1), .second, .val (.int p2), .val (.long p3), .second, .val (.int p4), .val (.long g0), .second, .val (.ref b1), .val (.ref b12), .val (.int (1 : Int32)), .val (.int (1 : Int32)), .val (.int (1 : Int32)), .val (.int (1 : Int32)), .unset] []))
      refine Goes.step (fun _ hr => XS.iconst X29.here hx rfl (hb hby at_146) hr) ?_
      show Goes p ee below s _ _ _ (T29.setTop (mkF m 147 #[.val (.long p1), .second, .val (.int p2), .val (.long p3), .second, .val (.int p4), .val (.long g0), .second, .val (.ref b1), .val (.ref b12), .val (.int (1 : Int32)), .val (.int (1 : Int32)), .val (.int (1 : Int32)), .val (.int (1 : Int32)), .unset] [(.int (1 : Int32))]))
      refine Goes.step (fun _ hr => XS.goto X29.here hx rfl (pc0 := 147) (pc' := 151) rfl (hb hby at_147) (by decide) (by decide) hr) ?_
      show Goes p ee below s _ _ _ (T29.setTop (mkF m 151 #[.val (.long p1), .second, .val (.int p2), .val (.long p3), .second, .val (.int p4), .val (.long g0), .second, .val (.ref b1), .val (.ref b12), .val (.int (1 : Int32)), .val (.int (1 : Int32)), .val (.int (1 : Int32)), .val (.int (1 : Int32)), .unset] [(.int (1 : Int32))]))
      refine Goes.step (fun _ hr => XS.istore X29.here hx rfl (hb hby at_151) rfl  (l' := #[.val (.long p1), .second, .val (.int p2), .val (.long p3), .second, .val (.int p4), .val (.long g0), .second, .val (.ref b1), .val (.ref b12), .val (.int (1 : Int32)), .val (.int (1 : Int32)), .val (.int (1 : Int32)), .val (.int (1 : Int32)), .val (.int (1 : Int32))]) rfl hr) ?_
      show Goes p ee below s _ _ _ (T29.setTop (mkF m 153 #[.val (.long p1), .second, .val (.int p2), .val (.long p3), .second, .val (.int p4), .val (.long g0), .second, .val (.ref b1), .val (.ref b12), .val (.int (1 : Int32)), .val (.int (1 : Int32)), .val (.int (1 : Int32)), .val (.int (1 : Int32)), .val (.int (1 : Int32))] []))
      refine Goes.step (fun _ hr => XS.iload X29.here hx rfl (hb hby at_153) rfl  hr) ?_
      show Goes p ee below s _ _ _ (T29.setTop (mkF m 155 #[.val (.long p1), .second, .val (.int p2), .val (.long p3), .second, .val (.int p4), .val (.long g0), .second, .val (.ref b1), .val (.ref b12), .val (.int (1 : Int32)), .val (.int (1 : Int32)), .val (.int (1 : Int32)), .val (.int (1 : Int32)), .val (.int (1 : Int32))] [(.int (1 : Int32))]))
      refine Goes.step (fun _ hr => XS.ifNo X29.here hx rfl (hb hby at_155) rfl ((if0 _ _).trans (feq (by decide)).1) hr) ?_
      show Goes p ee below s _ _ _ (T29.setTop (mkF m 158 #[.val (.long p1), .second, .val (.int p2), .val (.long p3), .second, .val (.int p4), .val (.long g0), .second, .val (.ref b1), .val (.ref b12), .val (.int (1 : Int32)), .val (.int (1 : Int32)), .val (.int (1 : Int32)), .val (.int (1 : Int32)), .val (.int (1 : Int32))] []))
      refine Goes.step (fun _ hr => XS.iload X29.here hx rfl (hb hby at_158) rfl  hr) ?_
      show Goes p ee below s _ _ _ (T29.setTop (mkF m 160 #[.val (.long p1), .second, .val (.int p2), .val (.long p3), .second, .val (.int p4), .val (.long g0), .second, .val (.ref b1), .val (.ref b12), .val (.int (1 : Int32)), .val (.int (1 : Int32)), .val (.int (1 : Int32)), .val (.int (1 : Int32)), .val (.int (1 : Int32))] [(.int (1 : Int32))]))
      refine Goes.step (fun _ hr => XS.ifNo X29.here hx rfl (hb hby at_160) rfl ((if0 _ _).trans (feq (by decide)).1) hr) ?_
      show Goes p ee below s _ _ _ (T29.setTop (mkF m 163 #[.val (.long p1), .second, .val (.int p2), .val (.long p3), .second, .val (.int p4), .val (.long g0), .second, .val (.ref b1), .val (.ref b12), .val (.int (1 : Int32)), .val (.int (1 : Int32)), .val (.int (1 : Int32)), .val (.int (1 : Int32)), .val (.int (1 : Int32))] []))
      refine Goes.step (fun _ hr => XS.iload X29.here hx rfl (hb hby at_163) rfl  hr) ?_
      show Goes p ee below s _ _ _ (T29.setTop (mkF m 165 #[.val (.long p1), .second, .val (.int p2), .val (.long p3), .second, .val (.int p4), .val (.long g0), .second, .val (.ref b1), .val (.ref b12), .val (.int (1 : Int32)), .val (.int (1 : Int32)), .val (.int (1 : Int32)), .val (.int (1 : Int32)), .val (.int (1 : Int32))] [(.int (1 : Int32))]))
      refine Goes.step (fun _ hr => XS.ifNo X29.here hx rfl (hb hby at_165) rfl ((if0 _ _).trans (feq (by decide)).1) hr) ?_
      show Goes p ee below s _ _ _ (T29.setTop (mkF m 168 #[.val (.long p1), .second, .val (.int p2), .val (.long p3), .second, .val (.int p4), .val (.long g0), .second, .val (.ref b1), .val (.ref b12), .val (.int (1 : Int32)), .val (.int (1 : Int32)), .val (.int (1 : Int32)), .val (.int (1 : Int32)), .val (.int (1 : Int32))] []))
      refine Goes.step (fun _ hr => XS.iload X29.here hx rfl (hb hby at_168) rfl  hr) ?_
      show Goes p ee below s _ _ _ (T29.setTop (mkF m 170 #[.val (.long p1), .second, .val (.int p2), .val (.long p3), .second, .val (.int p4), .val (.long g0), .second, .val (.ref b1), .val (.ref b12), .val (.int (1 : Int32)), .val (.int (1 : Int32)), .val (.int (1 : Int32)), .val (.int (1 : Int32)), .val (.int (1 : Int32))] [(.int (1 : Int32))]))
      refine Goes.step (fun _ hr => XS.ifNo X29.here hx rfl (hb hby at_170) rfl ((if0 _ _).trans (feq (by decide)).1) hr) ?_
      show Goes p ee below s _ _ _ (T29.setTop (mkF m 173 #[.val (.long p1), .second, .val (.int p2), .val (.long p3), .second, .val (.int p4), .val (.long g0), .second, .val (.ref b1), .val (.ref b12), .val (.int (1 : Int32)), .val (.int (1 : Int32)), .val (.int (1 : Int32)), .val (.int (1 : Int32)), .val (.int (1 : Int32))] []))
      refine Goes.step (fun _ hr => XS.iload X29.here hx rfl (hb hby at_173) rfl  hr) ?_
      show Goes p ee below s _ _ _ (T29.setTop (mkF m 175 #[.val (.long p1), .second, .val (.int p2), .val (.long p3), .second, .val (.int p4), .val (.long g0), .second, .val (.ref b1), .val (.ref b12), .val (.int (1 : Int32)), .val (.int (1 : Int32)), .val (.int (1 : Int32)), .val (.int (1 : Int32)), .val (.int (1 : Int32))] [(.int (1 : Int32))]))
      refine Goes.step (fun _ hr => XS.ifNo X29.here hx rfl (hb hby at_175) rfl ((if0 _ _).trans (feq (by decide)).1) hr) ?_
      show Goes p ee below s _ _ _ (T29.setTop (mkF m 178 #[.val (.long p1), .second, .val (.int p2), .val (.long p3), .second, .val (.int p4), .val (.long g0), .second, .val (.ref b1), .val (.ref b12), .val (.int (1 : Int32)), .val (.int (1 : Int32)), .val (.int (1 : Int32)), .val (.int (1 : Int32)), .val (.int (1 : Int32))] []))
      refine Goes.step (fun _ hr => XS.iconst X29.here hx rfl (hb hby at_178) hr) ?_
      show Goes p ee below s _ _ _ (T29.setTop (mkF m 179 #[.val (.long p1), .second, .val (.int p2), .val (.long p3), .second, .val (.int p4), .val (.long g0), .second, .val (.ref b1), .val (.ref b12), .val (.int (1 : Int32)), .val (.int (1 : Int32)), .val (.int (1 : Int32)), .val (.int (1 : Int32)), .val (.int (1 : Int32))] [(.int (1 : Int32))]))
      refine Goes.step (fun _ hr => XS.goto X29.here hx rfl (pc0 := 179) (pc' := 183) rfl (hb hby at_179) (by decide) (by decide) hr) ?_
      show Goes p ee below s _ _ _ (T29.setTop (mkF m 183 #[.val (.long p1), .second, .val (.int p2), .val (.long p3), .second, .val (.int p4), .val (.long g0), .second, .val (.ref b1), .val (.ref b12), .val (.int (1 : Int32)), .val (.int (1 : Int32)), .val (.int (1 : Int32)), .val (.int (1 : Int32)), .val (.int (1 : Int32))] [(.int (1 : Int32))]))
      refine Goes.retZ X29 hx Bd.notSynchronized Bd.returns (by simp) rfl (hb hby at_183) (by decide) (by decide) ?_
      exact ⟨rfl, N30⟩
  refine Goes.step (fun _ hr => XS.iload X0.here hx rfl (hb hby at_0) rfl  hr) ?_
  show Goes p ee below s _ _ _ (s₁.setTop (mkF m 2 #[.val (.long p1), .second, .val (.int p2), .val (.long p3), .second, .val (.int p4), .unset, .unset, .unset, .unset, .unset, .unset, .unset, .unset, .unset] [(.int p4)]))
  refine Goes.step (fun _ hr => XS.iconst X0.here hx rfl (hb hby at_2) hr) ?_
  show Goes p ee below s _ _ _ (s₁.setTop (mkF m 3 #[.val (.long p1), .second, .val (.int p2), .val (.long p3), .second, .val (.int p4), .unset, .unset, .unset, .unset, .unset, .unset, .unset, .unset, .unset] [(.int (1 : Int32)), (.int p4)]))
  refine Goes.step (fun _ hr => XS.iand X0.here hx rfl (hb hby at_3) rfl hr) ?_
  show Goes p ee below s _ _ _ (s₁.setTop (mkF m 4 #[.val (.long p1), .second, .val (.int p2), .val (.long p3), .second, .val (.int p4), .unset, .unset, .unset, .unset, .unset, .unset, .unset, .unset, .unset] [(.int (p4 &&& (1 : Int32)))]))
  by_cases hc4_31 : (p4 &&& (1 : Int32)) = (0 : Int32)
  · refine Goes.step (fun _ hr => XS.ifYes X0.here hx rfl (pc0 := 4) (pc' := 13) rfl (hb hby at_4) rfl ((if0 _ _).trans (teq hc4_31).1) (by decide) (by decide) hr) ?_
    show Goes p ee below s _ _ _ (s₁.setTop (mkF m 13 #[.val (.long p1), .second, .val (.int p2), .val (.long p3), .second, .val (.int p4), .unset, .unset, .unset, .unset, .unset, .unset, .unset, .unset, .unset] []))
    refine Goes.step (fun _ hr => XT.lloadN X0.here hx rfl (hb hby at_13) rfl  hr) ?_
    show Goes p ee below s _ _ _ (s₁.setTop (mkF m 14 #[.val (.long p1), .second, .val (.int p2), .val (.long p3), .second, .val (.int p4), .unset, .unset, .unset, .unset, .unset, .unset, .unset, .unset, .unset] [(.long p1)]))
    exact J14 _
  · refine Goes.step (fun _ hr => XS.ifNo X0.here hx rfl (hb hby at_4) rfl ((if0 _ _).trans (feq hc4_31).1) hr) ?_
    show Goes p ee below s _ _ _ (s₁.setTop (mkF m 7 #[.val (.long p1), .second, .val (.int p2), .val (.long p3), .second, .val (.int p4), .unset, .unset, .unset, .unset, .unset, .unset, .unset, .unset, .unset] []))
    refine Goes.step (fun _ hr => XT.lloadN X0.here hx rfl (hb hby at_7) rfl  hr) ?_
    show Goes p ee below s _ _ _ (s₁.setTop (mkF m 8 #[.val (.long p1), .second, .val (.int p2), .val (.long p3), .second, .val (.int p4), .unset, .unset, .unset, .unset, .unset, .unset, .unset, .unset, .unset] [(.long p1)]))
    refine Goes.step (fun _ hr => XT.lconst X0.here hx rfl (hb hby at_8) hr) ?_
    show Goes p ee below s _ _ _ (s₁.setTop (mkF m 9 #[.val (.long p1), .second, .val (.int p2), .val (.long p3), .second, .val (.int p4), .unset, .unset, .unset, .unset, .unset, .unset, .unset, .unset, .unset] [(.long (1 : Int64)), (.long p1)]))
    refine Goes.step (fun _ hr => XT.land X0.here hx rfl (hb hby at_9) rfl hr) ?_
    show Goes p ee below s _ _ _ (s₁.setTop (mkF m 10 #[.val (.long p1), .second, .val (.int p2), .val (.long p3), .second, .val (.int p4), .unset, .unset, .unset, .unset, .unset, .unset, .unset, .unset, .unset] [(.long (p1 &&& (1 : Int64)))]))
    refine Goes.step (fun _ hr => XS.goto X0.here hx rfl (pc0 := 10) (pc' := 14) rfl (hb hby at_10) (by decide) (by decide) hr) ?_
    show Goes p ee below s _ _ _ (s₁.setTop (mkF m 14 #[.val (.long p1), .second, .val (.int p2), .val (.long p3), .second, .val (.int p4), .unset, .unset, .unset, .unset, .unset, .unset, .unset, .unset, .unset] [(.long (p1 &&& (1 : Int64)))]))
    exact J14 _
set_option maxRecDepth 65536 in
set_option maxHeartbeats 40000000 in
theorem comes_1 {Post : Tables → Env → Array Value → State → Outcome → State → Prop} (hpost : ∀ tb e args s v u, (limb_1_1.after args s (.returned v) u = true ∧ limb_1_2.after args s (.returned v) u = true ∧ True) → FrameEnd s (.returned v) u (Jvm.fieldLocs frame_1_writes args s ++ Jvm.arrayLocs frame_1_arrays args s ++ Jvm.staticLocs frame_1_statics s) 16 128 → Post tb e args s (.returned v) u) :
    ArmFor flags0 classFile x code maxLocals ret World_1 tables_1 room_1 Calls_1 rest_1 Pre_1 Post := by
  intro l hfl _ _ p e ha hc hk s m args below hf hA hF happ hP
  obtain ⟨hcalls, hrest, hpre⟩ := hP
  obtain ⟨-, -, -, hnamed, -, -, -, hat⟩ := (Spec.applies_iff hf).mp happ
  obtain ⟨hg, hn⟩ := and_e (Cond.before_iff.mp (show (Jvm.Cond.and given_1 narrow_1).before args s = true from hpre))
  obtain ⟨hcount, r0⟩ := and_e hg
  obtain ⟨k0, r1⟩ := and_e r0
  obtain ⟨k1, r2⟩ := and_e r1
  obtain ⟨k2, k3⟩ := and_e r2
  obtain ⟨w0, w1, w2, w3, rfl⟩ : ∃ w0 w1 w2 w3 : Value, args = #[w0, w1, w2, w3] := by
    have hs : args.size = 4 := by simpa [Cond.value, given_1] using hcount
    obtain ⟨L⟩ := args
    match L, hs with
    | [w0, w1, w2, w3], _ => exact ⟨w0, w1, w2, w3, rfl⟩
  have hw := fun d (hd : d ∈ tables_1) => atoms_spec (ws := Jvm.Cond.code x code maxLocals ret :: tables_1) hat d (List.mem_cons_of_mem _ hd)
  obtain ⟨i0, ei0⟩ := isL_v k0
  obtain rfl : w0 = (.long i0) := Option.some.inj ei0
  obtain ⟨i1, ei1⟩ := is_v k1
  obtain rfl : w1 = (.int i1) := Option.some.inj ei1
  obtain ⟨i2, ei2⟩ := isL_v k2
  obtain rfl : w2 = (.long i2) := Option.some.inj ei2
  obtain ⟨i3, ei3⟩ := is_v k3
  obtain rfl : w3 = (.int i3) := Option.some.inj ei3
  obtain ⟨n, o, h1, h2, h3, _, L, rfl, ⟨rfl, N⟩, hq⟩ := rm_law l s _ hw tables_1 i0 i1 i2 i3  s.heap s.heap.size (Nat.le_refl _)  p e ha hc hk s m _ below hf ((Spec.applies_iff_loose hf).mp happ).1 ⟨rfl, State.Warmed39.refl s, rfl⟩ trivial
  refine ⟨n, _, h1, h2, h3, hpost _ _ _ _ _ _ ⟨Cond.after_iff.mpr rfl, Cond.after_iff.mpr (eq_i res_at (Term.int_eval (1)) rfl), trivial⟩ ⟨hq.1, hq.2.1, (hq.2.2.sift fun y hy => Or.inr (N y hy)).mono (by decide) (by decide)⟩⟩
theorem main_1_1 : Claimed_1_1 := comes_1 fun _ _ _ _ _ _ h hF => ⟨h.1, hF⟩
theorem main_1_2 : Claimed_1_2 := comes_1 fun _ _ _ _ _ _ h hF => ⟨h.2.1, hF⟩
end Jvm.Pilot.@@N@@
namespace Jvm.Pilot.@@N@@
open Jvm Jvm.ClassFile Sem Op Lib Jvm.Free Jvm.Stand Jvm.Pilot.@@N@@.Jvm.D
/-! MADE BY PROGRAM (witnessworld.py) out of the Statement's table words and the real class files: 13 classes; the members and pool entries that the words name. The judged class is class 1, her method 1. -/
namespace start1
open Jvm.ClassFile
def u (s : String) : CpInfo := .utf8 (stringToUtf16 s)
/-- a pool by its gaps: so many unusable entries, then the entry; so many at the end -/
def gap : Nat → List CpInfo → List CpInfo
  | 0, r => r
  | n + 1, r => .unusable :: gap n r
def poolList (es : List (Nat × CpInfo)) (last : Nat) : List CpInfo := es.foldr (fun e r => gap e.1 (e.2 :: r)) (gap last [])
def pool (es : List (Nat × CpInfo)) (last : Nat) : Array CpInfo := ⟨poolList es last⟩
def fileOf (pool : Array CpInfo) (this : Nat) (attrs : Array Attribute := #[]) (ms : Array MethodInfo := #[]) (fl : Nat := 33) (sup : Nat := 0) (ifs : Array Nat := #[]) (fds : Array FieldInfo := #[]) : ClassFile where
  minorVersion := 0
  majorVersion := 65
  constantPool := pool
  accessFlags := fl
  thisClass := this
  superClass := sup
  interfaces := ifs
  fields := fds
  methods := ms
  attributes := attrs
def plain (name : String) (sup : Option ClassId) : Class where
  name := name
  kind := .ordinary
  loader := none
  accessFlags := 33
  super := sup
  interfaces := #[]
  cf := none
  fields := #[]
  methods := #[]
  instanceTypes := #[]
  staticTypes := #[]
  resolved := #[]
  callSites := []
  init := .initialized
  statics := none
  mirror := none

def pool0 : Array CpInfo := pool [(5, u "<init>"), (0, u "()V"), (1, .class_ 10), (1, u "java/lang/Object")] 113

def k0c0 : Code := { maxStack := 0, maxLocals := 1, code := object_method_1_code, exceptionTable := #[], attributes := #[] }
def k0m0 : Method := { name := "<init>", desc := "()V", sig := { parameters := [], returnType := none }, accessFlags := 1, code := some k0c0 }
/-- java/lang/Object -/
def k0 : Class := { plain "java/lang/Object" none with
  accessFlags := 33
  interfaces := #[]
  cf := some (fileOf pool0 8 #[] #[{ accessFlags := 1, nameIndex := 5, descriptorIndex := 6, attributes := #[] }] 33 0 #[] #[])
  fields := #[]
  methods := #[k0m0]
  instanceTypes := #[]
  staticTypes := #[]
  resolved := Array.replicate 124 none
  statics := none }

def pool1 : Array CpInfo := pool [(2, .class_ 4), (1, u "java/lang/Object"), (0, u "<init>"), (0, u "()V"), (0, .methodref 8 9), (0, .class_ 10), (0, .nameAndType 11 12), (0, u "com/example/aliran/aliran/Decision"), (0, u "fromReply"), (0, u "([J)Lcom/example/aliran/aliran/Decision;"), (0, .methodref 8 14), (0, .nameAndType 15 16), (0, u "granted"), (0, u "()Z"), (0, .methodref 8 18), (0, .nameAndType 19 20), (0, u "remaining"), (0, u "()I"), (0, .methodref 8 22), (0, .nameAndType 23 24), (0, u "waitMillis"), (0, u "()J"), (0, .methodref 8 26), (0, .nameAndType 27 16), (0, u "withoutRedis"), (0, .class_ 29), (0, u "com/example/aliran/aliran/DecisionFromReplyPinLaw"), (2, u "law"), (0, u "(JIJI)Z")] 5

def k1m0 : Method := { name := "<init>", desc := "()V", sig := { parameters := [], returnType := none }, accessFlags := 1, code := none }
def k1c1 : Code := { maxStack := 5, maxLocals := 15, code := code, exceptionTable := #[], attributes := #[] }
def k1m1 : Method := { name := "law", desc := "(JIJI)Z", sig := { parameters := [.long, .int, .long, .int], returnType := some .boolean }, accessFlags := 9, code := some k1c1 }
/-- com/example/aliran/aliran/DecisionFromReplyPinLaw -/
def k1 : Class := { plain "com/example/aliran/aliran/DecisionFromReplyPinLaw" (some 0) with
  accessFlags := 49
  interfaces := #[]
  cf := some (fileOf pool1 28 #[] #[{ accessFlags := 1, nameIndex := 5, descriptorIndex := 6, attributes := #[] }, { accessFlags := 9, nameIndex := 32, descriptorIndex := 33, attributes := #[] }] 49 2 #[] #[])
  fields := #[]
  methods := #[k1m0, k1m1]
  instanceTypes := #[]
  staticTypes := #[]
  resolved := Array.replicate 39 none
  statics := none }

def pool2 : Array CpInfo := pool [(1, .methodref 2 3), (0, .class_ 4), (0, .nameAndType 5 6), (0, u "java/lang/Object"), (0, u "<init>"), (0, u "()V"), (0, .class_ 8), (0, u "java/lang/Record")] 13

def k2c0 : Code := { maxStack := 1, maxLocals := 1, code := jdk_30_method_1_code, exceptionTable := #[], attributes := #[] }
def k2m0 : Method := { name := "<init>", desc := "()V", sig := { parameters := [], returnType := none }, accessFlags := 4, code := some k2c0 }
/-- java/lang/Record -/
def k2 : Class := { plain "java/lang/Record" (some 0) with
  accessFlags := 1057
  interfaces := #[]
  cf := some (fileOf pool2 7 #[] #[{ accessFlags := 4, nameIndex := 5, descriptorIndex := 6, attributes := #[] }] 1057 2 #[] #[])
  fields := #[]
  methods := #[k2m0]
  instanceTypes := #[]
  staticTypes := #[]
  resolved := Array.replicate 22 none
  statics := none }

def pool3 : Array CpInfo := pool [(1, .methodref 2 3), (0, .class_ 4), (0, .nameAndType 5 6), (0, u "java/lang/Record"), (0, u "<init>"), (0, u "()V"), (0, .fieldref 8 9), (0, .class_ 10), (0, .nameAndType 11 12), (0, u "com/example/aliran/aliran/Decision"), (0, u "granted"), (0, u "Z"), (0, .fieldref 8 14), (0, .nameAndType 15 16), (0, u "remaining"), (0, u "I"), (0, .fieldref 8 18), (0, .nameAndType 19 20), (0, u "waitMillis"), (0, u "J"), (0, .fieldref 8 22), (0, .nameAndType 23 12), (0, u "withoutRedis"), (0, .methodref 25 26), (0, .class_ 27), (0, .nameAndType 28 29), (0, u "java/lang/Math"), (0, u "toIntExact"), (0, u "(J)I"), (0, .methodref 8 31), (0, .nameAndType 5 32), (0, u "(ZIJZ)V"), (12, u "REPLY_LENGTH"), (5, u "fromReply"), (0, u "([J)Lcom/example/aliran/aliran/Decision;"), (4, u "()I"), (1, u "()Z"), (0, u "()J")] 23

def k3c0 : Code := { maxStack := 3, maxLocals := 6, code := prog_3_method_1_code, exceptionTable := #[], attributes := #[] }
def k3m0 : Method := { name := "<init>", desc := "(ZIJZ)V", sig := { parameters := [.boolean, .int, .long, .boolean], returnType := none }, accessFlags := 1, code := some k3c0 }
def k3c1 : Code := { maxStack := 7, maxLocals := 1, code := prog_3_method_2_code, exceptionTable := #[], attributes := #[] }
def k3m1 : Method := { name := "fromReply", desc := "([J)Lcom/example/aliran/aliran/Decision;", sig := { parameters := [(.array .long)], returnType := some (.object "com/example/aliran/aliran/Decision") }, accessFlags := 8, code := some k3c1 }
def k3c2 : Code := { maxStack := 1, maxLocals := 1, code := prog_3_method_6_code, exceptionTable := #[], attributes := #[] }
def k3m2 : Method := { name := "granted", desc := "()Z", sig := { parameters := [], returnType := some .boolean }, accessFlags := 1, code := some k3c2 }
def k3c3 : Code := { maxStack := 1, maxLocals := 1, code := prog_3_method_7_code, exceptionTable := #[], attributes := #[] }
def k3m3 : Method := { name := "remaining", desc := "()I", sig := { parameters := [], returnType := some .int }, accessFlags := 1, code := some k3c3 }
def k3c4 : Code := { maxStack := 2, maxLocals := 1, code := prog_3_method_8_code, exceptionTable := #[], attributes := #[] }
def k3m4 : Method := { name := "waitMillis", desc := "()J", sig := { parameters := [], returnType := some .long }, accessFlags := 1, code := some k3c4 }
def k3c5 : Code := { maxStack := 1, maxLocals := 1, code := prog_3_method_9_code, exceptionTable := #[], attributes := #[] }
def k3m5 : Method := { name := "withoutRedis", desc := "()Z", sig := { parameters := [], returnType := some .boolean }, accessFlags := 1, code := some k3c5 }
/-- com/example/aliran/aliran/Decision -/
def k3 : Class := { plain "com/example/aliran/aliran/Decision" (some 2) with
  accessFlags := 49
  interfaces := #[]
  cf := some (fileOf pool3 8 #[] #[{ accessFlags := 1, nameIndex := 5, descriptorIndex := 32, attributes := #[] }, { accessFlags := 8, nameIndex := 51, descriptorIndex := 52, attributes := #[] }, { accessFlags := 1, nameIndex := 11, descriptorIndex := 59, attributes := #[] }, { accessFlags := 1, nameIndex := 15, descriptorIndex := 57, attributes := #[] }, { accessFlags := 1, nameIndex := 19, descriptorIndex := 60, attributes := #[] }, { accessFlags := 1, nameIndex := 23, descriptorIndex := 59, attributes := #[] }] 49 2 #[] #[{ accessFlags := 18, nameIndex := 11, descriptorIndex := 12, attributes := #[] }, { accessFlags := 18, nameIndex := 15, descriptorIndex := 16, attributes := #[] }, { accessFlags := 18, nameIndex := 19, descriptorIndex := 20, attributes := #[] }, { accessFlags := 18, nameIndex := 23, descriptorIndex := 12, attributes := #[] }, { accessFlags := 24, nameIndex := 45, descriptorIndex := 16, attributes := #[] }])
  fields := #[{ name := "granted", type := .boolean, accessFlags := 18, slot := 0, constantValue := 0 }, { name := "remaining", type := .int, accessFlags := 18, slot := 1, constantValue := 0 }, { name := "waitMillis", type := .long, accessFlags := 18, slot := 2, constantValue := 0 }, { name := "withoutRedis", type := .boolean, accessFlags := 18, slot := 3, constantValue := 0 }, { name := "REPLY_LENGTH", type := .int, accessFlags := 24, slot := 0, constantValue := 0 }]
  methods := #[k3m0, k3m1, k3m2, k3m3, k3m4, k3m5]
  instanceTypes := #[.boolean, .int, .long, .boolean]
  staticTypes := #[.int]
  resolved := Array.replicate 84 none
  statics := none }

def pool4 : Array CpInfo := pool [(1, .class_ 2), (0, u "java/lang/Math"), (1, .class_ 6), (1, u "java/lang/Object"), (0, u "<init>"), (0, u "()V"), (89, .class_ 100), (1, u "java/lang/Math$RandomNumberGeneratorHolder"), (71, u "negativeZeroFloatBits"), (0, u "J"), (2, u "negativeZeroDoubleBits"), (68, u "$assertionsDisabled"), (0, u "Z"), (91, u "twoToTheDoubleScaleDown"), (0, u "D"), (4, u "twoToTheDoubleScaleUp"), (9, u "E"), (3, u "PI"), (2, u "TAU"), (2, u "DEGREES_TO_RADIANS"), (0, u "RADIANS_TO_DEGREES"), (39, u "toIntExact"), (0, u "(J)I")] 53

def k4m0 : Method := { name := "<init>", desc := "()V", sig := { parameters := [], returnType := none }, accessFlags := 2, code := none }
def k4c1 : Code := { maxStack := 4, maxLocals := 2, code := jdk_29_method_43_code, exceptionTable := #[], attributes := #[] }
def k4m1 : Method := { name := "toIntExact", desc := "(J)I", sig := { parameters := [.long], returnType := some .int }, accessFlags := 9, code := some k4c1 }
/-- java/lang/Math -/
def k4 : Class := { plain "java/lang/Math" (some 0) with
  accessFlags := 49
  interfaces := #[]
  cf := some (fileOf pool4 1 #[.nestMembers #[98]] #[{ accessFlags := 2, nameIndex := 7, descriptorIndex := 8, attributes := #[] }, { accessFlags := 9, nameIndex := 405, descriptorIndex := 406, attributes := #[] }] 49 4 #[] #[{ accessFlags := 25, nameIndex := 354, descriptorIndex := 339, attributes := #[] }, { accessFlags := 25, nameIndex := 358, descriptorIndex := 339, attributes := #[] }, { accessFlags := 25, nameIndex := 361, descriptorIndex := 339, attributes := #[] }, { accessFlags := 26, nameIndex := 364, descriptorIndex := 339, attributes := #[] }, { accessFlags := 26, nameIndex := 365, descriptorIndex := 339, attributes := #[] }, { accessFlags := 26, nameIndex := 172, descriptorIndex := 173, attributes := #[] }, { accessFlags := 26, nameIndex := 176, descriptorIndex := 173, attributes := #[] }, { accessFlags := 8, nameIndex := 344, descriptorIndex := 339, attributes := #[] }, { accessFlags := 8, nameIndex := 338, descriptorIndex := 339, attributes := #[] }, { accessFlags := 4120, nameIndex := 245, descriptorIndex := 246, attributes := #[] }])
  fields := #[{ name := "E", type := .double, accessFlags := 25, slot := 0, constantValue := 0 }, { name := "PI", type := .double, accessFlags := 25, slot := 1, constantValue := 0 }, { name := "TAU", type := .double, accessFlags := 25, slot := 2, constantValue := 0 }, { name := "DEGREES_TO_RADIANS", type := .double, accessFlags := 26, slot := 3, constantValue := 0 }, { name := "RADIANS_TO_DEGREES", type := .double, accessFlags := 26, slot := 4, constantValue := 0 }, { name := "negativeZeroFloatBits", type := .long, accessFlags := 26, slot := 5, constantValue := 0 }, { name := "negativeZeroDoubleBits", type := .long, accessFlags := 26, slot := 6, constantValue := 0 }, { name := "twoToTheDoubleScaleUp", type := .double, accessFlags := 8, slot := 7, constantValue := 0 }, { name := "twoToTheDoubleScaleDown", type := .double, accessFlags := 8, slot := 8, constantValue := 0 }, { name := "$assertionsDisabled", type := .boolean, accessFlags := 4120, slot := 9, constantValue := 0 }]
  methods := #[k4m0, k4m1]
  instanceTypes := #[]
  staticTypes := #[.double, .double, .double, .double, .double, .long, .long, .double, .double, .boolean]
  resolved := Array.replicate 460 none
  statics := none }

def pool5 : Array CpInfo := pool [(1, u "java/lang/Cloneable"), (0, .class_ 1), (0, u "java/lang/Object"), (0, .class_ 3)] 3

/-- java/lang/Cloneable -/
def k5 : Class := { plain "java/lang/Cloneable" (some 0) with
  accessFlags := 1537
  interfaces := #[]
  cf := some (fileOf pool5 2 #[] #[] 1537 4 #[] #[])
  fields := #[]
  methods := #[]
  instanceTypes := #[]
  staticTypes := #[]
  resolved := Array.replicate 8 none
  statics := none }

def pool6 : Array CpInfo := pool [(1, u "java/io/Serializable"), (0, .class_ 1), (0, u "java/lang/Object"), (0, .class_ 3)] 3

/-- java/io/Serializable -/
def k6 : Class := { plain "java/io/Serializable" (some 0) with
  accessFlags := 1537
  interfaces := #[]
  cf := some (fileOf pool6 2 #[] #[] 1537 4 #[] #[])
  fields := #[]
  methods := #[]
  instanceTypes := #[]
  staticTypes := #[]
  resolved := Array.replicate 8 none
  statics := none }

/-- the primitive byte -/
def k7 : Class := { plain "byte" none with kind := .primitive 'B', accessFlags := 0x411 }
/-- [B -/
def k8 : Class := { plain "[B" (some 0) with kind := .array 7 .byte, interfaces := #[5, 6], accessFlags := 1041 }

/-- the primitive int -/
def k9 : Class := { plain "int" none with kind := .primitive 'I', accessFlags := 0x411 }
/-- [I -/
def k10 : Class := { plain "[I" (some 0) with kind := .array 9 .int, interfaces := #[5, 6], accessFlags := 1041 }

/-- the primitive long -/
def k11 : Class := { plain "long" none with kind := .primitive 'J', accessFlags := 0x411 }
/-- [J -/
def k12 : Class := { plain "[J" (some 0) with kind := .array 11 .long, interfaces := #[5, 6], accessFlags := 1041 }

def heap : Heap := #[]
def classes : Array Class := #[k0, k1, k2, k3, k4, k5, k6, k7, k8, k9, k10, k11, k12]
def interned : List (Array UInt16 × Addr) := []
def slotsUsed : Nat := 0
def theMethod : MethodId := ⟨1, 1⟩
def args0 : Array Value := #[.long 5, .int 3, .long 7, .int 1]
def aboutOver (below : List Frame) : State where
  vm := { classes := classes, interned := interned.toArray }
  heap := heap
  slotsUsed := slotsUsed
  threads := #[{ frames := .invoking theMethod args0 :: below }]
def below0 : List Frame := [.native { method := ⟨0, 0⟩, args := #[] }]
def about1 : State := aboutOver below0
def p0 : Program := .bare "" "" ""
def e0 : Env := launch0.env 0 0 0
theorem w_frames : about1.frames = Frame.invoking theMethod args0 :: below0 := rfl
set_option maxRecDepth 65536 in
theorem w_args : argsFit about1.vm theMethod args0 = true := by decide +kernel
set_option maxRecDepth 65536 in
theorem w_heap : heapFits about1 = true := by decide +kernel
set_option maxRecDepth 65536 in
theorem w_runnable : about1.curStatus? = some .runnable := by decide +kernel
set_option maxRecDepth 65536 in
theorem w_alone : about1.alone = true := by decide +kernel
set_option maxRecDepth 65536 in
theorem w_named : about1.methodNamed? x = some theMethod := by decide +kernel
set_option maxRecDepth 65536 in
theorem w_hears : about1.hears theMethod below0 = true := by decide +kernel
set_option maxRecDepth 65536 in
theorem w_ripe : about1.ripe theMethod args0 below0 = true := by decide +kernel
theorem w_running : about1.status = .running := rfl
set_option maxRecDepth 65536 in
theorem w_room : about1.hasRoom e0.platform room_1 = true :=
  launch0.hasRoom_least _ room_1 (by decide +kernel) (by decide +kernel) (by decide +kernel) (by decide +kernel) (by decide +kernel) (by decide +kernel)
theorem allAtoms_all (ts : List Jvm.Cond) (a : Array Jvm.Value) (st : Jvm.State) : (allAtoms ts).before a st = ts.all (fun c => c.before a st) := by
  induction ts with
  | nil => rfl
  | cons c t ih =>
    show (Jvm.Cond.and c (allAtoms t)).before a st = _
    rw [Jvm.Cond.before_and, ih, List.all_cons]
def words1 : List Jvm.Cond := Jvm.Cond.code x code maxLocals ret :: tables_1
/-- a 'code' word, met by the world's own term for the bytes: nothing is compared byte by byte -/
theorem code_word {y : MethodName} {bytes : ByteArray} {mx : Nat} {rt : Option FieldType} {a : Array Value} {s : State} {m : MethodId} {meth : Method} {c : Code} (h1 : s.methodNamed? y = some m) (h2 : s.vm.method? m = some meth) (h3 : meth.code = some c) (h4 : c.code = bytes)
    (h5 : (c.maxLocals == mx && c.exceptionTable.isEmpty && decide (c.maxStack ≤ mostOperands) && decide (meth.sig.returnType = rt) && !meth.locks && decide (parseMethodDescriptor y.desc = some meth.sig)) = true) : (Jvm.Cond.code y bytes mx rt).before a s = true := by
  simp only [Bool.and_eq_true, beq_iff_eq, Bool.not_eq_true', decide_eq_true_eq] at h5
  obtain ⟨⟨⟨⟨⟨g1, g2⟩, g3⟩, g4⟩, g5⟩, g6⟩ := h5
  simp [Cond.before, Cond.holds, Cond.value, h1, h2, h3, h4, g1, g2, g3, g4, g5, g6]
def isCode : Jvm.Cond → Bool
  | .code _ _ _ _ => true
  | _ => false
theorem all_split {L : List Jvm.Cond} {P : Jvm.Cond → Bool} (h1 : L.all (fun c => isCode c || P c) = true) (h2 : ∀ c ∈ L.filter isCode, P c = true) : L.all P = true := by
  refine List.all_eq_true.mpr fun c hc => ?_
  have h := List.all_eq_true.mp h1 c hc
  rcases Bool.eq_false_or_eq_true (isCode c) with hi | hi
  · exact h2 c (List.mem_filter.mpr ⟨hc, hi⟩)
  · simpa [hi] using h
set_option maxRecDepth 65536 in
theorem w_c0 : (Jvm.Cond.code x code maxLocals ret).before args0 about1 = true := code_word (m := ⟨1, 1⟩) (meth := k1m1) (c := k1c1) (by decide +kernel) rfl rfl rfl (by decide +kernel)
set_option maxRecDepth 65536 in
theorem w_c1 : (Jvm.Cond.code ({ cls := "com/example/aliran/aliran/Decision", name := "fromReply", desc := "([J)Lcom/example/aliran/aliran/Decision;" } : Jvm.MethodName) prog_3_method_2_code (1 : Nat) (Option.some (Jvm.ClassFile.FieldType.object "com/example/aliran/aliran/Decision"))).before args0 about1 = true := code_word (m := ⟨3, 1⟩) (meth := k3m1) (c := k3c1) (by decide +kernel) rfl rfl rfl (by decide +kernel)
set_option maxRecDepth 65536 in
theorem w_c2 : (Jvm.Cond.code ({ cls := "java/lang/Math", name := "toIntExact", desc := "(J)I" } : Jvm.MethodName) jdk_29_method_43_code (2 : Nat) (Option.some Jvm.ClassFile.FieldType.int)).before args0 about1 = true := code_word (m := ⟨4, 1⟩) (meth := k4m1) (c := k4c1) (by decide +kernel) rfl rfl rfl (by decide +kernel)
set_option maxRecDepth 65536 in
theorem w_c3 : (Jvm.Cond.code ({ cls := "com/example/aliran/aliran/Decision", name := "<init>", desc := "(ZIJZ)V" } : Jvm.MethodName) prog_3_method_1_code (6 : Nat) (Option.none : Option Jvm.ClassFile.FieldType)).before args0 about1 = true := code_word (m := ⟨3, 0⟩) (meth := k3m0) (c := k3c0) (by decide +kernel) rfl rfl rfl (by decide +kernel)
set_option maxRecDepth 65536 in
theorem w_c4 : (Jvm.Cond.code ({ cls := "java/lang/Record", name := "<init>", desc := "()V" } : Jvm.MethodName) jdk_30_method_1_code (1 : Nat) (Option.none : Option Jvm.ClassFile.FieldType)).before args0 about1 = true := code_word (m := ⟨2, 0⟩) (meth := k2m0) (c := k2c0) (by decide +kernel) rfl rfl rfl (by decide +kernel)
set_option maxRecDepth 65536 in
theorem w_c5 : (Jvm.Cond.code ({ cls := "java/lang/Object", name := "<init>", desc := "()V" } : Jvm.MethodName) object_method_1_code (1 : Nat) (Option.none : Option Jvm.ClassFile.FieldType)).before args0 about1 = true := code_word (m := ⟨0, 0⟩) (meth := k0m0) (c := k0c0) (by decide +kernel) rfl rfl rfl (by decide +kernel)
set_option maxRecDepth 65536 in
theorem w_c6 : (Jvm.Cond.code ({ cls := "com/example/aliran/aliran/Decision", name := "granted", desc := "()Z" } : Jvm.MethodName) prog_3_method_6_code (1 : Nat) (Option.some Jvm.ClassFile.FieldType.boolean)).before args0 about1 = true := code_word (m := ⟨3, 2⟩) (meth := k3m2) (c := k3c2) (by decide +kernel) rfl rfl rfl (by decide +kernel)
set_option maxRecDepth 65536 in
theorem w_c7 : (Jvm.Cond.code ({ cls := "com/example/aliran/aliran/Decision", name := "remaining", desc := "()I" } : Jvm.MethodName) prog_3_method_7_code (1 : Nat) (Option.some Jvm.ClassFile.FieldType.int)).before args0 about1 = true := code_word (m := ⟨3, 3⟩) (meth := k3m3) (c := k3c3) (by decide +kernel) rfl rfl rfl (by decide +kernel)
set_option maxRecDepth 65536 in
theorem w_c8 : (Jvm.Cond.code ({ cls := "com/example/aliran/aliran/Decision", name := "waitMillis", desc := "()J" } : Jvm.MethodName) prog_3_method_8_code (1 : Nat) (Option.some Jvm.ClassFile.FieldType.long)).before args0 about1 = true := code_word (m := ⟨3, 4⟩) (meth := k3m4) (c := k3c4) (by decide +kernel) rfl rfl rfl (by decide +kernel)
set_option maxRecDepth 65536 in
theorem w_c9 : (Jvm.Cond.code ({ cls := "com/example/aliran/aliran/Decision", name := "withoutRedis", desc := "()Z" } : Jvm.MethodName) prog_3_method_9_code (1 : Nat) (Option.some Jvm.ClassFile.FieldType.boolean)).before args0 about1 = true := code_word (m := ⟨3, 5⟩) (meth := k3m5) (c := k3c5) (by decide +kernel) rfl rfl rfl (by decide +kernel)
def codes1 : List Jvm.Cond := [Jvm.Cond.code x code maxLocals ret, Jvm.Cond.code ({ cls := "com/example/aliran/aliran/Decision", name := "fromReply", desc := "([J)Lcom/example/aliran/aliran/Decision;" } : Jvm.MethodName) prog_3_method_2_code (1 : Nat) (Option.some (Jvm.ClassFile.FieldType.object "com/example/aliran/aliran/Decision")), Jvm.Cond.code ({ cls := "java/lang/Math", name := "toIntExact", desc := "(J)I" } : Jvm.MethodName) jdk_29_method_43_code (2 : Nat) (Option.some Jvm.ClassFile.FieldType.int), Jvm.Cond.code ({ cls := "com/example/aliran/aliran/Decision", name := "<init>", desc := "(ZIJZ)V" } : Jvm.MethodName) prog_3_method_1_code (6 : Nat) (Option.none : Option Jvm.ClassFile.FieldType), Jvm.Cond.code ({ cls := "java/lang/Record", name := "<init>", desc := "()V" } : Jvm.MethodName) jdk_30_method_1_code (1 : Nat) (Option.none : Option Jvm.ClassFile.FieldType), Jvm.Cond.code ({ cls := "java/lang/Object", name := "<init>", desc := "()V" } : Jvm.MethodName) object_method_1_code (1 : Nat) (Option.none : Option Jvm.ClassFile.FieldType), Jvm.Cond.code ({ cls := "com/example/aliran/aliran/Decision", name := "granted", desc := "()Z" } : Jvm.MethodName) prog_3_method_6_code (1 : Nat) (Option.some Jvm.ClassFile.FieldType.boolean), Jvm.Cond.code ({ cls := "com/example/aliran/aliran/Decision", name := "remaining", desc := "()I" } : Jvm.MethodName) prog_3_method_7_code (1 : Nat) (Option.some Jvm.ClassFile.FieldType.int), Jvm.Cond.code ({ cls := "com/example/aliran/aliran/Decision", name := "waitMillis", desc := "()J" } : Jvm.MethodName) prog_3_method_8_code (1 : Nat) (Option.some Jvm.ClassFile.FieldType.long), Jvm.Cond.code ({ cls := "com/example/aliran/aliran/Decision", name := "withoutRedis", desc := "()Z" } : Jvm.MethodName) prog_3_method_9_code (1 : Nat) (Option.some Jvm.ClassFile.FieldType.boolean)]
set_option maxRecDepth 65536 in
theorem codes_eq : words1.filter isCode = codes1 := rfl
theorem w_codes : ∀ c ∈ words1.filter isCode, c.before args0 about1 = true := by
  rw [codes_eq]
  intro c hc
  simp only [codes1, List.mem_cons, List.not_mem_nil, or_false] at hc
  rcases hc with rfl | rfl | rfl | rfl | rfl | rfl | rfl | rfl | rfl | rfl
  · exact w_c0
  · exact w_c1
  · exact w_c2
  · exact w_c3
  · exact w_c4
  · exact w_c5
  · exact w_c6
  · exact w_c7
  · exact w_c8
  · exact w_c9
set_option maxRecDepth 65536 in
theorem w_t1 : (words1.take 24).all (fun c => isCode c || c.before args0 about1) = true := by decide +kernel
set_option maxRecDepth 65536 in
theorem w_t2 : ((words1.drop 24).take 24).all (fun c => isCode c || c.before args0 about1) = true := by decide +kernel
set_option maxRecDepth 65536 in
theorem w_t3 : ((words1.drop 24).drop 24).all (fun c => isCode c || c.before args0 about1) = true := by decide +kernel
theorem w_tables : (allAtoms (Jvm.Cond.code x code maxLocals ret :: tables_1)).before args0 about1 = true := by
  rw [allAtoms_all]
  show words1.all (fun c => c.before args0 about1) = true
  refine all_split ?_ w_codes
  rw [← List.take_append_drop 24 words1, List.all_append, w_t1, ← List.take_append_drop 24 (words1.drop 24), List.all_append, w_t2, w_t3]
  rfl
set_option maxRecDepth 65536 in
theorem w_case : (Jvm.Cond.and given_1 narrow_1).before args0 about1 = true := by decide +kernel
theorem w_applies : (headSpec (Jvm.Cond.code x code maxLocals ret :: tables_1) room_1).applies x e0.platform about1 = true :=
  (Spec.applies_iff w_frames).mpr ⟨w_running, w_runnable, w_alone, w_named, w_hears, w_ripe, w_room, w_tables⟩
theorem atStart : AtStart classFile x code maxLocals ret World_1 tables_1 room_1 Calls_1 rest_1 Pre_1 launch0 p0 e0 about1 theMethod args0 below0 :=
  ⟨lists_1, trivial, launch0.admits_env _ _ _, launch0.least_env, fairChoices_fair.cas, fairChoices_fair.clock, w_frames, w_args, w_heap, w_applies, trivial, trivial, w_case⟩
end start1
theorem witness_1 : WitnessClaimed_1 := ⟨start1.p0, start1.e0, start1.about1, start1.theMethod, start1.args0, start1.below0, start1.atStart⟩
end Jvm.Pilot.@@N@@
