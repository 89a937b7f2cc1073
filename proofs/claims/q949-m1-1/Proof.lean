import JvmDerived
import JvmDerived.Pilot.@@N@@Statement
import JvmDerived.Pilot.@@N@@Code
set_option linter.unusedVariables false
set_option linter.unusedSimpArgs false
namespace Jvm.Pilot.@@N@@
open Jvm Jvm.ClassFile Sem Op Lib Jvm.Free Jvm.Stand Jvm.LawKit Jvm.RoadKit Bundle Jvm.Pilot.@@N@@.Jvm.D
section OwnKit
variable {p : Program} {l : Launch} {e : Env} {R : Room} {s : State} {m : MethodId} {args : Array Value} {below : List Frame} {meth : Method} {c : Code} {T : State} {locs : List Loc} {cells slots : Nat} {K : State → Prop} {Ls : Array Slot} {rest : List Value} {pc : Nat} {bytes : ByteArray}
def Goes (p : Program) (e : Env) (below : List Frame) (K : State → Prop) (S : State) : Prop := ∃ t, Steps p.tables e below S t ∧ K t
theorem Goes.of {S S' : State} (st : ∀ t, Steps p.tables e below S' t → Steps p.tables e below S t) (h : Goes p e below K S') : Goes p e below K S := h.elim fun t ht => ⟨t, st t ht.1, ht.2⟩
theorem Goes.entry {g g' : JFrame} (q : g = g') (k : Goes p e below K (T.setTop g')) : Goes p e below K (T.setTop g) := q ▸ k
def Kend (s : State) (below : List Frame) (Q : Option Value → Heap → List Loc → Prop) (C S : Nat) (t : State) : Prop := ∃ o, t.status = .running ∧ Ended t below o ∧ ∃ v L, o = .returned v ∧ Q v t.heap L ∧ FrameEnd s o t L C S
def Ctr (l : Launch) (y : MethodName) (bytes : ByteArray) (maxL : Nat) (ret : Option FieldType) (ws : List Jvm.Cond) (rm : Room) (as' : Array Value) (Z : State) (h0 : Heap) (Q : Option Value → Heap → List Loc → Prop) : Prop :=
  MetFree l y (head1 (Jvm.Cond.code y bytes maxL ret :: ws) rm) (fun a U => a = as' ∧ Z.Warmed39 U.vm ∧ U.heap = h0) (fun _ _ _ _ _ => True) (fun _ U o U' => ∃ v L, o = .returned v ∧ Q v U'.heap L ∧ FrameEnd U o U' L rm.cells rm.slots)
theorem own_body {y : MethodName} {maxL : Nat} {ret : Option FieldType} {ws : List Jvm.Cond} {rm : Room} {as' : Array Value} {Z : State} {h0 : Heap} {Q : Option Value → Heap → List Loc → Prop} (hpl : plainFor y = true)
    (H : ∀ (p : Program) (e : Env) (s : State) (m : MethodId) (below : List Frame) (meth : Method) (c : Code) (s₁ : State), p.tables.exec = Jvm.exec → c.code = bytes → c.maxLocals = maxL → s.vm.findClass y.cls = some m.cls → meth.name = y.name → meth.sig.returnType = ret → meth.locks = false → Z.Warmed39 s.vm →
      Stand p l e rm s m as' below meth c s₁ [] 0 0 → s₁.heap = h0 → Goes p e below (Kend s below Q rm.cells rm.slots) (s₁.setTop (entryFrame m as' maxL))) : Ctr l y bytes maxL ret ws rm as' Z h0 Q := by
  refine MetFree.of_bodySF hpl hisR ?_
  intro p e s m args below meth c s₁ Bd hml0 hP hK
  obtain ⟨rfl, hZ, hh⟩ := hP
  obtain ⟨t, h1, o, h2, h3, h4⟩ := H p e s m below meth c s₁ Bd.exec Bd.bytes hml0 (findClass_of_methodNamed Bd.named) (name_of_methodNamed Bd.named Bd.method).1 Bd.returns Bd.notSynchronized hZ (Stand.of_body Bd) (by rw [← hh, Bd.state]; rfl)
  exact ⟨t, o, h1, h2, h3, h4⟩

theorem own_store1 {l l' : Array Slot} {i : Nat} {v : Value} {o : Slot} (hold : l[i]? = some o) (ho : One o) (hv : v.category = 1) (e : l.setIfInBounds i (.val v) = l') : storeLocals l i v = some l' := e ▸ XS.store1 hold ho hv
theorem g_iadd (X : Stand p l e R s m args below meth c T locs cells slots) (hx : p.tables.exec = Jvm.exec) (hby : c.code = bytes) {x y : Int32} (hd : decode bytes pc = .ok (.iadd, 1)) (q : Nat) (hq : pc + 1 = q) (k : Goes p e below K (T.setTop (mkF m q Ls (.int (x + y) :: rest)))) : Goes p e below K (T.setTop (mkF m pc Ls (.int y :: .int x :: rest))) := by
  subst hq; exact Goes.of (fun t kt => XS.iadd X.here hx rfl (hb hby hd) rfl kt) k
theorem g_isub (X : Stand p l e R s m args below meth c T locs cells slots) (hx : p.tables.exec = Jvm.exec) (hby : c.code = bytes) {x y : Int32} (hd : decode bytes pc = .ok (.isub, 1)) (q : Nat) (hq : pc + 1 = q) (k : Goes p e below K (T.setTop (mkF m q Ls (.int (x - y) :: rest)))) : Goes p e below K (T.setTop (mkF m pc Ls (.int y :: .int x :: rest))) := by
  subst hq; exact Goes.of (fun t kt => XS.isub X.here hx rfl (hb hby hd) rfl kt) k
theorem g_imul (X : Stand p l e R s m args below meth c T locs cells slots) (hx : p.tables.exec = Jvm.exec) (hby : c.code = bytes) {x y : Int32} (hd : decode bytes pc = .ok (.imul, 1)) (q : Nat) (hq : pc + 1 = q) (k : Goes p e below K (T.setTop (mkF m q Ls (.int (x * y) :: rest)))) : Goes p e below K (T.setTop (mkF m pc Ls (.int y :: .int x :: rest))) := by
  subst hq; exact Goes.of (fun t kt => XS.imul X.here hx rfl (hb hby hd) rfl kt) k
theorem g_iand (X : Stand p l e R s m args below meth c T locs cells slots) (hx : p.tables.exec = Jvm.exec) (hby : c.code = bytes) {x y : Int32} (hd : decode bytes pc = .ok (.iand, 1)) (q : Nat) (hq : pc + 1 = q) (k : Goes p e below K (T.setTop (mkF m q Ls (.int (x &&& y) :: rest)))) : Goes p e below K (T.setTop (mkF m pc Ls (.int y :: .int x :: rest))) := by
  subst hq; exact Goes.of (fun t kt => XS.iand X.here hx rfl (hb hby hd) rfl kt) k
theorem g_ior (X : Stand p l e R s m args below meth c T locs cells slots) (hx : p.tables.exec = Jvm.exec) (hby : c.code = bytes) {x y : Int32} (hd : decode bytes pc = .ok (.ior, 1)) (q : Nat) (hq : pc + 1 = q) (k : Goes p e below K (T.setTop (mkF m q Ls (.int (x ||| y) :: rest)))) : Goes p e below K (T.setTop (mkF m pc Ls (.int y :: .int x :: rest))) := by
  subst hq; exact Goes.of (fun t kt => XS.ior X.here hx rfl (hb hby hd) rfl kt) k
theorem g_ixor (X : Stand p l e R s m args below meth c T locs cells slots) (hx : p.tables.exec = Jvm.exec) (hby : c.code = bytes) {x y : Int32} (hd : decode bytes pc = .ok (.ixor, 1)) (q : Nat) (hq : pc + 1 = q) (k : Goes p e below K (T.setTop (mkF m q Ls (.int (x ^^^ y) :: rest)))) : Goes p e below K (T.setTop (mkF m pc Ls (.int y :: .int x :: rest))) := by
  subst hq; exact Goes.of (fun t kt => XS.ixor X.here hx rfl (hb hby hd) rfl kt) k
theorem g_ishl (X : Stand p l e R s m args below meth c T locs cells slots) (hx : p.tables.exec = Jvm.exec) (hby : c.code = bytes) {x y : Int32} (hd : decode bytes pc = .ok (.ishl, 1)) (q : Nat) (hq : pc + 1 = q) (k : Goes p e below K (T.setTop (mkF m q Ls (.int (x <<< (y &&& 31)) :: rest)))) : Goes p e below K (T.setTop (mkF m pc Ls (.int y :: .int x :: rest))) := by
  subst hq; exact Goes.of (fun t kt => XS.ishl X.here hx rfl (hb hby hd) rfl kt) k
theorem g_ishr (X : Stand p l e R s m args below meth c T locs cells slots) (hx : p.tables.exec = Jvm.exec) (hby : c.code = bytes) {x y : Int32} (hd : decode bytes pc = .ok (.ishr, 1)) (q : Nat) (hq : pc + 1 = q) (k : Goes p e below K (T.setTop (mkF m q Ls (.int (x >>> (y &&& 31)) :: rest)))) : Goes p e below K (T.setTop (mkF m pc Ls (.int y :: .int x :: rest))) := by
  subst hq; exact Goes.of (fun t kt => XS.ishr X.here hx rfl (hb hby hd) rfl kt) k
theorem g_iushr (X : Stand p l e R s m args below meth c T locs cells slots) (hx : p.tables.exec = Jvm.exec) (hby : c.code = bytes) {x y : Int32} (hd : decode bytes pc = .ok (.iushr, 1)) (q : Nat) (hq : pc + 1 = q) (k : Goes p e below K (T.setTop (mkF m q Ls (.int ((x.toUInt32 >>> (y &&& 31).toUInt32).toInt32) :: rest)))) : Goes p e below K (T.setTop (mkF m pc Ls (.int y :: .int x :: rest))) := by
  subst hq; exact Goes.of (fun t kt => XS.iushr X.here hx rfl (hb hby hd) rfl kt) k
theorem g_ladd (X : Stand p l e R s m args below meth c T locs cells slots) (hx : p.tables.exec = Jvm.exec) (hby : c.code = bytes) {x y : Int64} (hd : decode bytes pc = .ok (.ladd, 1)) (q : Nat) (hq : pc + 1 = q) (k : Goes p e below K (T.setTop (mkF m q Ls (.long (x + y) :: rest)))) : Goes p e below K (T.setTop (mkF m pc Ls (.long y :: .long x :: rest))) := by
  subst hq; exact Goes.of (fun t kt => XS.ladd X.here hx rfl (hb hby hd) rfl kt) k
theorem g_lsub (X : Stand p l e R s m args below meth c T locs cells slots) (hx : p.tables.exec = Jvm.exec) (hby : c.code = bytes) {x y : Int64} (hd : decode bytes pc = .ok (.lsub, 1)) (q : Nat) (hq : pc + 1 = q) (k : Goes p e below K (T.setTop (mkF m q Ls (.long (x - y) :: rest)))) : Goes p e below K (T.setTop (mkF m pc Ls (.long y :: .long x :: rest))) := by
  subst hq; exact Goes.of (fun t kt => XS.lsub X.here hx rfl (hb hby hd) rfl kt) k
theorem g_lmul (X : Stand p l e R s m args below meth c T locs cells slots) (hx : p.tables.exec = Jvm.exec) (hby : c.code = bytes) {x y : Int64} (hd : decode bytes pc = .ok (.lmul, 1)) (q : Nat) (hq : pc + 1 = q) (k : Goes p e below K (T.setTop (mkF m q Ls (.long (x * y) :: rest)))) : Goes p e below K (T.setTop (mkF m pc Ls (.long y :: .long x :: rest))) := by
  subst hq; exact Goes.of (fun t kt => XS.lmul X.here hx rfl (hb hby hd) rfl kt) k
theorem g_land (X : Stand p l e R s m args below meth c T locs cells slots) (hx : p.tables.exec = Jvm.exec) (hby : c.code = bytes) {x y : Int64} (hd : decode bytes pc = .ok (.land, 1)) (q : Nat) (hq : pc + 1 = q) (k : Goes p e below K (T.setTop (mkF m q Ls (.long (x &&& y) :: rest)))) : Goes p e below K (T.setTop (mkF m pc Ls (.long y :: .long x :: rest))) := by
  subst hq; exact Goes.of (fun t kt => XS.land X.here hx rfl (hb hby hd) rfl kt) k
theorem g_lor (X : Stand p l e R s m args below meth c T locs cells slots) (hx : p.tables.exec = Jvm.exec) (hby : c.code = bytes) {x y : Int64} (hd : decode bytes pc = .ok (.lor, 1)) (q : Nat) (hq : pc + 1 = q) (k : Goes p e below K (T.setTop (mkF m q Ls (.long (x ||| y) :: rest)))) : Goes p e below K (T.setTop (mkF m pc Ls (.long y :: .long x :: rest))) := by
  subst hq; exact Goes.of (fun t kt => XS.lor X.here hx rfl (hb hby hd) rfl kt) k
theorem g_lxor (X : Stand p l e R s m args below meth c T locs cells slots) (hx : p.tables.exec = Jvm.exec) (hby : c.code = bytes) {x y : Int64} (hd : decode bytes pc = .ok (.lxor, 1)) (q : Nat) (hq : pc + 1 = q) (k : Goes p e below K (T.setTop (mkF m q Ls (.long (x ^^^ y) :: rest)))) : Goes p e below K (T.setTop (mkF m pc Ls (.long y :: .long x :: rest))) := by
  subst hq; exact Goes.of (fun t kt => XS.lxor X.here hx rfl (hb hby hd) rfl kt) k
theorem g_lshl (X : Stand p l e R s m args below meth c T locs cells slots) (hx : p.tables.exec = Jvm.exec) (hby : c.code = bytes) {x : Int64} {y : Int32} (hd : decode bytes pc = .ok (.lshl, 1)) (q : Nat) (hq : pc + 1 = q) (k : Goes p e below K (T.setTop (mkF m q Ls (.long (x <<< (y &&& 0x3f).toInt64) :: rest)))) : Goes p e below K (T.setTop (mkF m pc Ls (.int y :: .long x :: rest))) := by
  subst hq; exact Goes.of (fun t kt => XS.lshl X.here hx rfl (hb hby hd) rfl kt) k
theorem g_lshr (X : Stand p l e R s m args below meth c T locs cells slots) (hx : p.tables.exec = Jvm.exec) (hby : c.code = bytes) {x : Int64} {y : Int32} (hd : decode bytes pc = .ok (.lshr, 1)) (q : Nat) (hq : pc + 1 = q) (k : Goes p e below K (T.setTop (mkF m q Ls (.long (x >>> (y &&& 0x3f).toInt64) :: rest)))) : Goes p e below K (T.setTop (mkF m pc Ls (.int y :: .long x :: rest))) := by
  subst hq; exact Goes.of (fun t kt => XS.lshr X.here hx rfl (hb hby hd) rfl kt) k
theorem g_lushr (X : Stand p l e R s m args below meth c T locs cells slots) (hx : p.tables.exec = Jvm.exec) (hby : c.code = bytes) {x : Int64} {y : Int32} (hd : decode bytes pc = .ok (.lushr, 1)) (q : Nat) (hq : pc + 1 = q) (k : Goes p e below K (T.setTop (mkF m q Ls (.long ((x.toUInt64 >>> (y &&& 0x3f).toInt64.toUInt64).toInt64) :: rest)))) : Goes p e below K (T.setTop (mkF m pc Ls (.int y :: .long x :: rest))) := by
  subst hq; exact Goes.of (fun t kt => XS.lushr X.here hx rfl (hb hby hd) rfl kt) k
theorem g_idiv (X : Stand p l e R s m args below meth c T locs cells slots) (hx : p.tables.exec = Jvm.exec) (hby : c.code = bytes) {x y : Int32} (hd : decode bytes pc = .ok (.idiv, 1)) (hy : y ≠ 0) (q : Nat) (hq : pc + 1 = q) (k : Goes p e below K (T.setTop (mkF m q Ls (.int (x / y) :: rest)))) : Goes p e below K (T.setTop (mkF m pc Ls (.int y :: .int x :: rest))) := by
  subst hq; exact Goes.of (fun t kt => XS.idiv X.here hx rfl (hb hby hd) rfl hy kt) k
theorem g_ldiv (X : Stand p l e R s m args below meth c T locs cells slots) (hx : p.tables.exec = Jvm.exec) (hby : c.code = bytes) {x y : Int64} (hd : decode bytes pc = .ok (.ldiv, 1)) (hy : y ≠ 0) (q : Nat) (hq : pc + 1 = q) (k : Goes p e below K (T.setTop (mkF m q Ls (.long (x / y) :: rest)))) : Goes p e below K (T.setTop (mkF m pc Ls (.long y :: .long x :: rest))) := by
  subst hq; exact Goes.of (fun t kt => XS.ldiv X.here hx rfl (hb hby hd) rfl hy kt) k
theorem g_irem (X : Stand p l e R s m args below meth c T locs cells slots) (hx : p.tables.exec = Jvm.exec) (hby : c.code = bytes) {x y : Int32} (hd : decode bytes pc = .ok (.irem, 1)) (hy : y ≠ 0) (q : Nat) (hq : pc + 1 = q) (k : Goes p e below K (T.setTop (mkF m q Ls (.int (x % y) :: rest)))) : Goes p e below K (T.setTop (mkF m pc Ls (.int y :: .int x :: rest))) := by
  subst hq; exact Goes.of (fun t kt => iremM X hx rfl (hb hby hd) rfl hy kt) k
theorem g_lrem (X : Stand p l e R s m args below meth c T locs cells slots) (hx : p.tables.exec = Jvm.exec) (hby : c.code = bytes) {x y : Int64} (hd : decode bytes pc = .ok (.lrem, 1)) (hy : y ≠ 0) (q : Nat) (hq : pc + 1 = q) (k : Goes p e below K (T.setTop (mkF m q Ls (.long (x % y) :: rest)))) : Goes p e below K (T.setTop (mkF m pc Ls (.long y :: .long x :: rest))) := by
  subst hq; rw [← lrem_mod x y] at k; exact Goes.of (fun t kt => XS.lrem X.here hx rfl (hb hby hd) rfl hy kt) k
theorem g_ineg (X : Stand p l e R s m args below meth c T locs cells slots) (hx : p.tables.exec = Jvm.exec) (hby : c.code = bytes) {x : Int32} (hd : decode bytes pc = .ok (.ineg, 1)) (q : Nat) (hq : pc + 1 = q) (k : Goes p e below K (T.setTop (mkF m q Ls (.int (-x) :: rest)))) : Goes p e below K (T.setTop (mkF m pc Ls (.int x :: rest))) := by
  subst hq; exact Goes.of (fun t kt => XS.ineg X.here hx rfl (hb hby hd) rfl kt) k
theorem g_lneg (X : Stand p l e R s m args below meth c T locs cells slots) (hx : p.tables.exec = Jvm.exec) (hby : c.code = bytes) {x : Int64} (hd : decode bytes pc = .ok (.lneg, 1)) (q : Nat) (hq : pc + 1 = q) (k : Goes p e below K (T.setTop (mkF m q Ls (.long (-x) :: rest)))) : Goes p e below K (T.setTop (mkF m pc Ls (.long x :: rest))) := by
  subst hq; exact Goes.of (fun t kt => XS.lneg X.here hx rfl (hb hby hd) rfl kt) k
theorem g_i2l (X : Stand p l e R s m args below meth c T locs cells slots) (hx : p.tables.exec = Jvm.exec) (hby : c.code = bytes) {x : Int32} (hd : decode bytes pc = .ok (.i2l, 1)) (q : Nat) (hq : pc + 1 = q) (k : Goes p e below K (T.setTop (mkF m q Ls (.long (x.toInt64) :: rest)))) : Goes p e below K (T.setTop (mkF m pc Ls (.int x :: rest))) := by
  subst hq; exact Goes.of (fun t kt => XS.i2l X.here hx rfl (hb hby hd) rfl kt) k
theorem g_l2i (X : Stand p l e R s m args below meth c T locs cells slots) (hx : p.tables.exec = Jvm.exec) (hby : c.code = bytes) {x : Int64} (hd : decode bytes pc = .ok (.l2i, 1)) (q : Nat) (hq : pc + 1 = q) (k : Goes p e below K (T.setTop (mkF m q Ls (.int (x.toInt32) :: rest)))) : Goes p e below K (T.setTop (mkF m pc Ls (.long x :: rest))) := by
  subst hq; exact Goes.of (fun t kt => XS.l2i X.here hx rfl (hb hby hd) rfl kt) k
theorem g_i2b (X : Stand p l e R s m args below meth c T locs cells slots) (hx : p.tables.exec = Jvm.exec) (hby : c.code = bytes) {x : Int32} (hd : decode bytes pc = .ok (.i2b, 1)) (q : Nat) (hq : pc + 1 = q) (k : Goes p e below K (T.setTop (mkF m q Ls (.int (x.toInt8.toInt32) :: rest)))) : Goes p e below K (T.setTop (mkF m pc Ls (.int x :: rest))) := by
  subst hq; exact Goes.of (fun t kt => XS.i2b X.here hx rfl (hb hby hd) rfl kt) k
theorem g_i2s (X : Stand p l e R s m args below meth c T locs cells slots) (hx : p.tables.exec = Jvm.exec) (hby : c.code = bytes) {x : Int32} (hd : decode bytes pc = .ok (.i2s, 1)) (q : Nat) (hq : pc + 1 = q) (k : Goes p e below K (T.setTop (mkF m q Ls (.int (x.toInt16.toInt32) :: rest)))) : Goes p e below K (T.setTop (mkF m pc Ls (.int x :: rest))) := by
  subst hq; exact Goes.of (fun t kt => XS.i2s X.here hx rfl (hb hby hd) rfl kt) k
theorem g_i2c (X : Stand p l e R s m args below meth c T locs cells slots) (hx : p.tables.exec = Jvm.exec) (hby : c.code = bytes) {x : Int32} (hd : decode bytes pc = .ok (.i2c, 1)) (q : Nat) (hq : pc + 1 = q) (k : Goes p e below K (T.setTop (mkF m q Ls (.int (x.toUInt32.toUInt16.toUInt32.toInt32) :: rest)))) : Goes p e below K (T.setTop (mkF m pc Ls (.int x :: rest))) := by
  subst hq; exact Goes.of (fun t kt => XS.i2c X.here hx rfl (hb hby hd) rfl kt) k
theorem g_iloadN (X : Stand p l e R s m args below meth c T locs cells slots) (hx : p.tables.exec = Jvm.exec) (hby : c.code = bytes) {k : Fin 4} {v : Int32} (hd : decode bytes pc = .ok (.iload_n k, 1)) (hl : Ls[k.val]? = some (.val (.int v))) (q : Nat) (hq : pc + 1 = q) (k : Goes p e below K (T.setTop (mkF m q Ls (.int v :: rest)))) : Goes p e below K (T.setTop (mkF m pc Ls rest)) := by
  subst hq; exact Goes.of (fun t kt => XS.iloadN X.here hx rfl (hb hby hd) hl kt) k
theorem g_iload (X : Stand p l e R s m args below meth c T locs cells slots) (hx : p.tables.exec = Jvm.exec) (hby : c.code = bytes) {k : Nat} {v : Int32} (hd : decode bytes pc = .ok (.iload k, 2)) (hl : Ls[k]? = some (.val (.int v))) (q : Nat) (hq : pc + 2 = q) (k : Goes p e below K (T.setTop (mkF m q Ls (.int v :: rest)))) : Goes p e below K (T.setTop (mkF m pc Ls rest)) := by
  subst hq; exact Goes.of (fun t kt => XS.iload X.here hx rfl (hb hby hd) hl kt) k
theorem g_lloadN (X : Stand p l e R s m args below meth c T locs cells slots) (hx : p.tables.exec = Jvm.exec) (hby : c.code = bytes) {k : Fin 4} {v : Int64} (hd : decode bytes pc = .ok (.lload_n k, 1)) (hl : Ls[k.val]? = some (.val (.long v))) (q : Nat) (hq : pc + 1 = q) (k : Goes p e below K (T.setTop (mkF m q Ls (.long v :: rest)))) : Goes p e below K (T.setTop (mkF m pc Ls rest)) := by
  subst hq; exact Goes.of (fun t kt => XS.lloadN X.here hx rfl (hb hby hd) hl kt) k
theorem g_lload (X : Stand p l e R s m args below meth c T locs cells slots) (hx : p.tables.exec = Jvm.exec) (hby : c.code = bytes) {k : Nat} {v : Int64} (hd : decode bytes pc = .ok (.lload k, 2)) (hl : Ls[k]? = some (.val (.long v))) (q : Nat) (hq : pc + 2 = q) (k : Goes p e below K (T.setTop (mkF m q Ls (.long v :: rest)))) : Goes p e below K (T.setTop (mkF m pc Ls rest)) := by
  subst hq; exact Goes.of (fun t kt => XS.lload X.here hx rfl (hb hby hd) hl kt) k
theorem g_aloadN (X : Stand p l e R s m args below meth c T locs cells slots) (hx : p.tables.exec = Jvm.exec) (hby : c.code = bytes) {k : Fin 4} {v : Value} (hd : decode bytes pc = .ok (.aload_n k, 1)) (hl : Ls[k.val]? = some (.val v)) (hv : v.isRef = true) (q : Nat) (hq : pc + 1 = q) (k : Goes p e below K (T.setTop (mkF m q Ls (v :: rest)))) : Goes p e below K (T.setTop (mkF m pc Ls rest)) := by
  subst hq; exact Goes.of (fun t kt => XS.aloadN X.here hx rfl (hb hby hd) hl hv kt) k
theorem g_aload (X : Stand p l e R s m args below meth c T locs cells slots) (hx : p.tables.exec = Jvm.exec) (hby : c.code = bytes) {k : Nat} {v : Value} (hd : decode bytes pc = .ok (.aload k, 2)) (hl : Ls[k]? = some (.val v)) (hv : v.isRef = true) (q : Nat) (hq : pc + 2 = q) (k : Goes p e below K (T.setTop (mkF m q Ls (v :: rest)))) : Goes p e below K (T.setTop (mkF m pc Ls rest)) := by
  subst hq; exact Goes.of (fun t kt => XS.aload X.here hx rfl (hb hby hd) hl hv kt) k
theorem g_istoreN (X : Stand p l e R s m args below meth c T locs cells slots) (hx : p.tables.exec = Jvm.exec) (hby : c.code = bytes) {k : Fin 4} {x : Int32} (hd : decode bytes pc = .ok (.istore_n k, 1)) (y : Int32) (hxy : x = y) (L' : Array Slot) (hl : storeLocals Ls k.val (.int y) = some L') (q : Nat) (hq : pc + 1 = q) (k : Goes p e below K (T.setTop (mkF m q L' rest))) : Goes p e below K (T.setTop (mkF m pc Ls (.int x :: rest))) := by
  subst hq hxy; exact Goes.of (fun t kt => XS.istoreN X.here hx rfl (hb hby hd) rfl hl kt) k
theorem g_istore (X : Stand p l e R s m args below meth c T locs cells slots) (hx : p.tables.exec = Jvm.exec) (hby : c.code = bytes) {k : Nat} {x : Int32} (hd : decode bytes pc = .ok (.istore k, 2)) (y : Int32) (hxy : x = y) (L' : Array Slot) (hl : storeLocals Ls k (.int y) = some L') (q : Nat) (hq : pc + 2 = q) (k : Goes p e below K (T.setTop (mkF m q L' rest))) : Goes p e below K (T.setTop (mkF m pc Ls (.int x :: rest))) := by
  subst hq hxy; exact Goes.of (fun t kt => XS.istore X.here hx rfl (hb hby hd) rfl hl kt) k
theorem g_lstoreN (X : Stand p l e R s m args below meth c T locs cells slots) (hx : p.tables.exec = Jvm.exec) (hby : c.code = bytes) {k : Fin 4} {x : Int64} (hd : decode bytes pc = .ok (.lstore_n k, 1)) (y : Int64) (hxy : x = y) (L' : Array Slot) (hl : storeLocals Ls k.val (.long y) = some L') (q : Nat) (hq : pc + 1 = q) (k : Goes p e below K (T.setTop (mkF m q L' rest))) : Goes p e below K (T.setTop (mkF m pc Ls (.long x :: rest))) := by
  subst hq hxy; exact Goes.of (fun t kt => XS.lstoreN X.here hx rfl (hb hby hd) rfl hl kt) k
theorem g_lstore (X : Stand p l e R s m args below meth c T locs cells slots) (hx : p.tables.exec = Jvm.exec) (hby : c.code = bytes) {k : Nat} {x : Int64} (hd : decode bytes pc = .ok (.lstore k, 2)) (y : Int64) (hxy : x = y) (L' : Array Slot) (hl : storeLocals Ls k (.long y) = some L') (q : Nat) (hq : pc + 2 = q) (k : Goes p e below K (T.setTop (mkF m q L' rest))) : Goes p e below K (T.setTop (mkF m pc Ls (.long x :: rest))) := by
  subst hq hxy; exact Goes.of (fun t kt => XS.lstore X.here hx rfl (hb hby hd) rfl hl kt) k
theorem g_astoreN (X : Stand p l e R s m args below meth c T locs cells slots) (hx : p.tables.exec = Jvm.exec) (hby : c.code = bytes) {k : Fin 4} {x : Value} (hd : decode bytes pc = .ok (.astore_n k, 1)) (hv : x.isRef = true) (L' : Array Slot) (hl : storeLocals Ls k.val x = some L') (q : Nat) (hq : pc + 1 = q) (k : Goes p e below K (T.setTop (mkF m q L' rest))) : Goes p e below K (T.setTop (mkF m pc Ls (x :: rest))) := by
  subst hq; exact Goes.of (fun t kt => XS.astoreN X.here hx rfl (hb hby hd) rfl hv hl kt) k
theorem g_astore (X : Stand p l e R s m args below meth c T locs cells slots) (hx : p.tables.exec = Jvm.exec) (hby : c.code = bytes) {k : Nat} {x : Value} (hd : decode bytes pc = .ok (.astore k, 2)) (hv : x.isRef = true) (L' : Array Slot) (hl : storeLocals Ls k x = some L') (q : Nat) (hq : pc + 2 = q) (k : Goes p e below K (T.setTop (mkF m q L' rest))) : Goes p e below K (T.setTop (mkF m pc Ls (x :: rest))) := by
  subst hq; exact Goes.of (fun t kt => XS.astore X.here hx rfl (hb hby hd) rfl hv hl kt) k
theorem g_iconst (X : Stand p l e R s m args below meth c T locs cells slots) (hx : p.tables.exec = Jvm.exec) (hby : c.code = bytes) {i : Int} (hd : decode bytes pc = .ok (.iconst i, 1)) (v : Int32) (hv : Int32.ofInt i = v) (q : Nat) (hq : pc + 1 = q) (k : Goes p e below K (T.setTop (mkF m q Ls (.int v :: rest)))) : Goes p e below K (T.setTop (mkF m pc Ls rest)) := by
  subst hq hv; exact Goes.of (fun t kt => XS.iconst X.here hx rfl (hb hby hd) kt) k
theorem g_bipush (X : Stand p l e R s m args below meth c T locs cells slots) (hx : p.tables.exec = Jvm.exec) (hby : c.code = bytes) {i : Int} (hd : decode bytes pc = .ok (.bipush i, 2)) (v : Int32) (hv : (Int8.ofInt i).toInt32 = v) (q : Nat) (hq : pc + 2 = q) (k : Goes p e below K (T.setTop (mkF m q Ls (.int v :: rest)))) : Goes p e below K (T.setTop (mkF m pc Ls rest)) := by
  subst hq hv; exact Goes.of (fun t kt => XS.bipush X.here hx rfl (hb hby hd) kt) k
theorem g_sipush (X : Stand p l e R s m args below meth c T locs cells slots) (hx : p.tables.exec = Jvm.exec) (hby : c.code = bytes) {i : Int} (hd : decode bytes pc = .ok (.sipush i, 3)) (v : Int32) (hv : (Int16.ofInt i).toInt32 = v) (q : Nat) (hq : pc + 3 = q) (k : Goes p e below K (T.setTop (mkF m q Ls (.int v :: rest)))) : Goes p e below K (T.setTop (mkF m pc Ls rest)) := by
  subst hq hv; exact Goes.of (fun t kt => XS.sipush X.here hx rfl (hb hby hd) kt) k
theorem g_lconst (X : Stand p l e R s m args below meth c T locs cells slots) (hx : p.tables.exec = Jvm.exec) (hby : c.code = bytes) {i : Fin 2} (hd : decode bytes pc = .ok (.lconst i, 1)) (v : Int64) (hv : Int64.ofNat i = v) (q : Nat) (hq : pc + 1 = q) (k : Goes p e below K (T.setTop (mkF m q Ls (.long v :: rest)))) : Goes p e below K (T.setTop (mkF m pc Ls rest)) := by
  subst hq hv; exact Goes.of (fun t kt => XS.lconst X.here hx rfl (hb hby hd) kt) k
theorem g_aconst_null (X : Stand p l e R s m args below meth c T locs cells slots) (hx : p.tables.exec = Jvm.exec) (hby : c.code = bytes)  (hd : decode bytes pc = .ok (.aconst_null, 1)) (q : Nat) (hq : pc + 1 = q) (k : Goes p e below K (T.setTop (mkF m q Ls (.null :: rest)))) : Goes p e below K (T.setTop (mkF m pc Ls rest)) := by
  subst hq; exact Goes.of (fun t kt => XS.aconstNull X.here hx rfl (hb hby hd) kt) k
theorem g_dup (X : Stand p l e R s m args below meth c T locs cells slots) (hx : p.tables.exec = Jvm.exec) (hby : c.code = bytes) {x : Value} (hd : decode bytes pc = .ok (.dup, 1)) (hc : x.category = 1) (q : Nat) (hq : pc + 1 = q) (k : Goes p e below K (T.setTop (mkF m q Ls (x :: x :: rest)))) : Goes p e below K (T.setTop (mkF m pc Ls (x :: rest))) := by
  subst hq; exact Goes.of (fun t kt => XS.dup X.here hx rfl (hb hby hd) rfl hc kt) k
theorem g_pop (X : Stand p l e R s m args below meth c T locs cells slots) (hx : p.tables.exec = Jvm.exec) (hby : c.code = bytes) {x : Value} (hd : decode bytes pc = .ok (.pop, 1)) (hc : x.category = 1) (q : Nat) (hq : pc + 1 = q) (k : Goes p e below K (T.setTop (mkF m q Ls rest))) : Goes p e below K (T.setTop (mkF m pc Ls (x :: rest))) := by
  subst hq; exact Goes.of (fun t kt => XS.pop X.here hx rfl (hb hby hd) rfl hc kt) k
theorem g_dup_x1 (X : Stand p l e R s m args below meth c T locs cells slots) (hx : p.tables.exec = Jvm.exec) (hby : c.code = bytes) {x y : Value} (hd : decode bytes pc = .ok (.dup_x1, 1)) (hc : x.category = 1) (hc' : y.category = 1) (q : Nat) (hq : pc + 1 = q) (k : Goes p e below K (T.setTop (mkF m q Ls (x :: y :: x :: rest)))) : Goes p e below K (T.setTop (mkF m pc Ls (x :: y :: rest))) := by
  subst hq; exact Goes.of (fun t kt => XS.dupX1 X.here hx rfl (hb hby hd) rfl hc hc' kt) k
theorem g_dup2 (X : Stand p l e R s m args below meth c T locs cells slots) (hx : p.tables.exec = Jvm.exec) (hby : c.code = bytes) {x y : Value} (hd : decode bytes pc = .ok (.dup2, 1)) (hc : x.category = 1) (hc' : y.category = 1) (q : Nat) (hq : pc + 1 = q) (k : Goes p e below K (T.setTop (mkF m q Ls (x :: y :: x :: y :: rest)))) : Goes p e below K (T.setTop (mkF m pc Ls (x :: y :: rest))) := by
  subst hq; exact Goes.of (fun t kt => Jvm.Free.XT.dup2 X.here hx rfl (hb hby hd) rfl hc hc' kt) k
theorem g_iinc (X : Stand p l e R s m args below meth c T locs cells slots) (hx : p.tables.exec = Jvm.exec) (hby : c.code = bytes) {i : Int} {kk : Nat} {x : Int32} (hd : decode bytes pc = .ok (.iinc kk i, 3)) (v : Int32) (hv : Int32.ofInt i = v) (hl : Ls[kk]? = some (.val (.int x))) (y : Int32) (hxy : x + v = y) (L' : Array Slot) (hl' : storeLocals Ls kk (.int y) = some L') (q : Nat) (hq : pc + 3 = q) (k : Goes p e below K (T.setTop (mkF m q L' rest))) : Goes p e below K (T.setTop (mkF m pc Ls rest)) := by
  subst hq hv hxy; exact Goes.of (fun t kt => XS.iinc X.here hx rfl (hb hby hd) hl hl' kt) k
theorem g_goto (X : Stand p l e R s m args below meth c T locs cells slots) (hx : p.tables.exec = Jvm.exec) (hby : c.code = bytes) {o : Int} (hd : decode bytes pc = .ok (.goto o, 3)) (q : Nat) (ho : 0 ≤ (pc : Int) + o) (hq : ((pc : Int) + o).toNat = q) (k : Goes p e below K (T.setTop (mkF m q Ls rest))) : Goes p e below K (T.setTop (mkF m pc Ls rest)) :=
  Goes.of (fun t kt => XS.goto X.here hx rfl rfl (hb hby hd) ho hq kt) k
theorem g_icmp_eq (X : Stand p l e R s m args below meth c T locs cells slots) (hx : p.tables.exec = Jvm.exec) (hby : c.code = bytes) {x y : Int32} {o : Int} (hd : decode bytes pc = .ok (.if_icmp .eq o, 3)) (q r : Nat) (ho : 0 ≤ (pc : Int) + o) (hq : ((pc : Int) + o).toNat = q) (hr : pc + 3 = r) (kt : x = y → Goes p e below K (T.setTop (mkF m q Ls rest))) (kf : ¬ (x = y) → Goes p e below K (T.setTop (mkF m r Ls rest))) : Goes p e below K (T.setTop (mkF m pc Ls (.int y :: .int x :: rest))) := by
  subst hr
  by_cases h : x = y
  · exact Goes.of (fun t kt => XS.icmpYes X.here hx rfl rfl (hb hby hd) rfl (teq h).1 ho hq kt) (kt h)
  · exact Goes.of (fun t kt => XS.icmpNo X.here hx rfl (hb hby hd) rfl (feq h).1 kt) (kf h)
theorem g_if_eq (X : Stand p l e R s m args below meth c T locs cells slots) (hx : p.tables.exec = Jvm.exec) (hby : c.code = bytes) {x : Int32} {o : Int} (hd : decode bytes pc = .ok (.ifCond .eq o, 3)) (q r : Nat) (ho : 0 ≤ (pc : Int) + o) (hq : ((pc : Int) + o).toNat = q) (hr : pc + 3 = r) (kt : x = 0 → Goes p e below K (T.setTop (mkF m q Ls rest))) (kf : ¬ (x = 0) → Goes p e below K (T.setTop (mkF m r Ls rest))) : Goes p e below K (T.setTop (mkF m pc Ls (.int x :: rest))) := by
  subst hr
  by_cases h : x = 0
  · exact Goes.of (fun t kt => XS.ifYes X.here hx rfl rfl (hb hby hd) rfl ((if0 _ _).trans (teq h).1) ho hq kt) (kt h)
  · exact Goes.of (fun t kt => XS.ifNo X.here hx rfl (hb hby hd) rfl ((if0 _ _).trans (feq h).1) kt) (kf h)
theorem g_lcmp_eq (X : Stand p l e R s m args below meth c T locs cells slots) (hx : p.tables.exec = Jvm.exec) (hby : c.code = bytes) {x y : Int64} {o : Int} {pc2 : Nat} (hd : decode bytes pc = .ok (.lcmp, 1)) (hd2 : decode bytes pc2 = .ok (.ifCond .eq o, 3)) (q r : Nat) (h2 : pc + 1 = pc2) (ho : 0 ≤ (pc2 : Int) + o) (hq : ((pc2 : Int) + o).toNat = q) (hr : pc2 + 3 = r) (kt : x = y → Goes p e below K (T.setTop (mkF m q Ls rest))) (kf : ¬ (x = y) → Goes p e below K (T.setTop (mkF m r Ls rest))) : Goes p e below K (T.setTop (mkF m pc Ls (.long y :: .long x :: rest))) := by
  subst h2
  refine Goes.of (fun t kt => XS.lcmp X.here hx rfl (hb hby hd) rfl kt) ?_
  exact g_if_eq X hx hby hd2 q r ho hq hr (fun h => kt ((lw_eq x y).mp h)) (fun h => kf fun h' => h ((lw_eq x y).mpr h'))
theorem g_icmp_ne (X : Stand p l e R s m args below meth c T locs cells slots) (hx : p.tables.exec = Jvm.exec) (hby : c.code = bytes) {x y : Int32} {o : Int} (hd : decode bytes pc = .ok (.if_icmp .ne o, 3)) (q r : Nat) (ho : 0 ≤ (pc : Int) + o) (hq : ((pc : Int) + o).toNat = q) (hr : pc + 3 = r) (kt : x = y → Goes p e below K (T.setTop (mkF m r Ls rest))) (kf : ¬ (x = y) → Goes p e below K (T.setTop (mkF m q Ls rest))) : Goes p e below K (T.setTop (mkF m pc Ls (.int y :: .int x :: rest))) := by
  subst hr
  by_cases h : x = y
  · exact Goes.of (fun t kt => XS.icmpNo X.here hx rfl (hb hby hd) rfl (teq h).2 kt) (kt h)
  · exact Goes.of (fun t kt => XS.icmpYes X.here hx rfl rfl (hb hby hd) rfl (feq h).2 ho hq kt) (kf h)
theorem g_if_ne (X : Stand p l e R s m args below meth c T locs cells slots) (hx : p.tables.exec = Jvm.exec) (hby : c.code = bytes) {x : Int32} {o : Int} (hd : decode bytes pc = .ok (.ifCond .ne o, 3)) (q r : Nat) (ho : 0 ≤ (pc : Int) + o) (hq : ((pc : Int) + o).toNat = q) (hr : pc + 3 = r) (kt : x = 0 → Goes p e below K (T.setTop (mkF m r Ls rest))) (kf : ¬ (x = 0) → Goes p e below K (T.setTop (mkF m q Ls rest))) : Goes p e below K (T.setTop (mkF m pc Ls (.int x :: rest))) := by
  subst hr
  by_cases h : x = 0
  · exact Goes.of (fun t kt => XS.ifNo X.here hx rfl (hb hby hd) rfl ((if0 _ _).trans (teq h).2) kt) (kt h)
  · exact Goes.of (fun t kt => XS.ifYes X.here hx rfl rfl (hb hby hd) rfl ((if0 _ _).trans (feq h).2) ho hq kt) (kf h)
theorem g_lcmp_ne (X : Stand p l e R s m args below meth c T locs cells slots) (hx : p.tables.exec = Jvm.exec) (hby : c.code = bytes) {x y : Int64} {o : Int} {pc2 : Nat} (hd : decode bytes pc = .ok (.lcmp, 1)) (hd2 : decode bytes pc2 = .ok (.ifCond .ne o, 3)) (q r : Nat) (h2 : pc + 1 = pc2) (ho : 0 ≤ (pc2 : Int) + o) (hq : ((pc2 : Int) + o).toNat = q) (hr : pc2 + 3 = r) (kt : x = y → Goes p e below K (T.setTop (mkF m r Ls rest))) (kf : ¬ (x = y) → Goes p e below K (T.setTop (mkF m q Ls rest))) : Goes p e below K (T.setTop (mkF m pc Ls (.long y :: .long x :: rest))) := by
  subst h2
  refine Goes.of (fun t kt => XS.lcmp X.here hx rfl (hb hby hd) rfl kt) ?_
  exact g_if_ne X hx hby hd2 q r ho hq hr (fun h => kt ((lw_eq x y).mp h)) (fun h => kf fun h' => h ((lw_eq x y).mpr h'))
theorem g_icmp_lt (X : Stand p l e R s m args below meth c T locs cells slots) (hx : p.tables.exec = Jvm.exec) (hby : c.code = bytes) {x y : Int32} {o : Int} (hd : decode bytes pc = .ok (.if_icmp .lt o, 3)) (q r : Nat) (ho : 0 ≤ (pc : Int) + o) (hq : ((pc : Int) + o).toNat = q) (hr : pc + 3 = r) (kt : x < y → Goes p e below K (T.setTop (mkF m q Ls rest))) (kf : ¬ (x < y) → Goes p e below K (T.setTop (mkF m r Ls rest))) : Goes p e below K (T.setTop (mkF m pc Ls (.int y :: .int x :: rest))) := by
  subst hr
  by_cases h : x < y
  · exact Goes.of (fun t kt => XS.icmpYes X.here hx rfl rfl (hb hby hd) rfl (tlt h).1 ho hq kt) (kt h)
  · exact Goes.of (fun t kt => XS.icmpNo X.here hx rfl (hb hby hd) rfl (flt h).1 kt) (kf h)
theorem g_if_lt (X : Stand p l e R s m args below meth c T locs cells slots) (hx : p.tables.exec = Jvm.exec) (hby : c.code = bytes) {x : Int32} {o : Int} (hd : decode bytes pc = .ok (.ifCond .lt o, 3)) (q r : Nat) (ho : 0 ≤ (pc : Int) + o) (hq : ((pc : Int) + o).toNat = q) (hr : pc + 3 = r) (kt : x < 0 → Goes p e below K (T.setTop (mkF m q Ls rest))) (kf : ¬ (x < 0) → Goes p e below K (T.setTop (mkF m r Ls rest))) : Goes p e below K (T.setTop (mkF m pc Ls (.int x :: rest))) := by
  subst hr
  by_cases h : x < 0
  · exact Goes.of (fun t kt => XS.ifYes X.here hx rfl rfl (hb hby hd) rfl ((if0 _ _).trans (tlt h).1) ho hq kt) (kt h)
  · exact Goes.of (fun t kt => XS.ifNo X.here hx rfl (hb hby hd) rfl ((if0 _ _).trans (flt h).1) kt) (kf h)
theorem g_lcmp_lt (X : Stand p l e R s m args below meth c T locs cells slots) (hx : p.tables.exec = Jvm.exec) (hby : c.code = bytes) {x y : Int64} {o : Int} {pc2 : Nat} (hd : decode bytes pc = .ok (.lcmp, 1)) (hd2 : decode bytes pc2 = .ok (.ifCond .lt o, 3)) (q r : Nat) (h2 : pc + 1 = pc2) (ho : 0 ≤ (pc2 : Int) + o) (hq : ((pc2 : Int) + o).toNat = q) (hr : pc2 + 3 = r) (kt : x < y → Goes p e below K (T.setTop (mkF m q Ls rest))) (kf : ¬ (x < y) → Goes p e below K (T.setTop (mkF m r Ls rest))) : Goes p e below K (T.setTop (mkF m pc Ls (.long y :: .long x :: rest))) := by
  subst h2
  refine Goes.of (fun t kt => XS.lcmp X.here hx rfl (hb hby hd) rfl kt) ?_
  exact g_if_lt X hx hby hd2 q r ho hq hr (fun h => kt ((lw_lt x y).mp h)) (fun h => kf fun h' => h ((lw_lt x y).mpr h'))
theorem g_icmp_ge (X : Stand p l e R s m args below meth c T locs cells slots) (hx : p.tables.exec = Jvm.exec) (hby : c.code = bytes) {x y : Int32} {o : Int} (hd : decode bytes pc = .ok (.if_icmp .ge o, 3)) (q r : Nat) (ho : 0 ≤ (pc : Int) + o) (hq : ((pc : Int) + o).toNat = q) (hr : pc + 3 = r) (kt : x < y → Goes p e below K (T.setTop (mkF m r Ls rest))) (kf : ¬ (x < y) → Goes p e below K (T.setTop (mkF m q Ls rest))) : Goes p e below K (T.setTop (mkF m pc Ls (.int y :: .int x :: rest))) := by
  subst hr
  by_cases h : x < y
  · exact Goes.of (fun t kt => XS.icmpNo X.here hx rfl (hb hby hd) rfl (tlt h).2.1 kt) (kt h)
  · exact Goes.of (fun t kt => XS.icmpYes X.here hx rfl rfl (hb hby hd) rfl (flt h).2.1 ho hq kt) (kf h)
theorem g_if_ge (X : Stand p l e R s m args below meth c T locs cells slots) (hx : p.tables.exec = Jvm.exec) (hby : c.code = bytes) {x : Int32} {o : Int} (hd : decode bytes pc = .ok (.ifCond .ge o, 3)) (q r : Nat) (ho : 0 ≤ (pc : Int) + o) (hq : ((pc : Int) + o).toNat = q) (hr : pc + 3 = r) (kt : x < 0 → Goes p e below K (T.setTop (mkF m r Ls rest))) (kf : ¬ (x < 0) → Goes p e below K (T.setTop (mkF m q Ls rest))) : Goes p e below K (T.setTop (mkF m pc Ls (.int x :: rest))) := by
  subst hr
  by_cases h : x < 0
  · exact Goes.of (fun t kt => XS.ifNo X.here hx rfl (hb hby hd) rfl ((if0 _ _).trans (tlt h).2.1) kt) (kt h)
  · exact Goes.of (fun t kt => XS.ifYes X.here hx rfl rfl (hb hby hd) rfl ((if0 _ _).trans (flt h).2.1) ho hq kt) (kf h)
theorem g_lcmp_ge (X : Stand p l e R s m args below meth c T locs cells slots) (hx : p.tables.exec = Jvm.exec) (hby : c.code = bytes) {x y : Int64} {o : Int} {pc2 : Nat} (hd : decode bytes pc = .ok (.lcmp, 1)) (hd2 : decode bytes pc2 = .ok (.ifCond .ge o, 3)) (q r : Nat) (h2 : pc + 1 = pc2) (ho : 0 ≤ (pc2 : Int) + o) (hq : ((pc2 : Int) + o).toNat = q) (hr : pc2 + 3 = r) (kt : x < y → Goes p e below K (T.setTop (mkF m r Ls rest))) (kf : ¬ (x < y) → Goes p e below K (T.setTop (mkF m q Ls rest))) : Goes p e below K (T.setTop (mkF m pc Ls (.long y :: .long x :: rest))) := by
  subst h2
  refine Goes.of (fun t kt => XS.lcmp X.here hx rfl (hb hby hd) rfl kt) ?_
  exact g_if_ge X hx hby hd2 q r ho hq hr (fun h => kt ((lw_lt x y).mp h)) (fun h => kf fun h' => h ((lw_lt x y).mpr h'))
theorem g_icmp_gt (X : Stand p l e R s m args below meth c T locs cells slots) (hx : p.tables.exec = Jvm.exec) (hby : c.code = bytes) {x y : Int32} {o : Int} (hd : decode bytes pc = .ok (.if_icmp .gt o, 3)) (q r : Nat) (ho : 0 ≤ (pc : Int) + o) (hq : ((pc : Int) + o).toNat = q) (hr : pc + 3 = r) (kt : y < x → Goes p e below K (T.setTop (mkF m q Ls rest))) (kf : ¬ (y < x) → Goes p e below K (T.setTop (mkF m r Ls rest))) : Goes p e below K (T.setTop (mkF m pc Ls (.int y :: .int x :: rest))) := by
  subst hr
  by_cases h : y < x
  · exact Goes.of (fun t kt => XS.icmpYes X.here hx rfl rfl (hb hby hd) rfl (tlt h).2.2.1 ho hq kt) (kt h)
  · exact Goes.of (fun t kt => XS.icmpNo X.here hx rfl (hb hby hd) rfl (flt h).2.2.1 kt) (kf h)
theorem g_if_gt (X : Stand p l e R s m args below meth c T locs cells slots) (hx : p.tables.exec = Jvm.exec) (hby : c.code = bytes) {x : Int32} {o : Int} (hd : decode bytes pc = .ok (.ifCond .gt o, 3)) (q r : Nat) (ho : 0 ≤ (pc : Int) + o) (hq : ((pc : Int) + o).toNat = q) (hr : pc + 3 = r) (kt : 0 < x → Goes p e below K (T.setTop (mkF m q Ls rest))) (kf : ¬ (0 < x) → Goes p e below K (T.setTop (mkF m r Ls rest))) : Goes p e below K (T.setTop (mkF m pc Ls (.int x :: rest))) := by
  subst hr
  by_cases h : 0 < x
  · exact Goes.of (fun t kt => XS.ifYes X.here hx rfl rfl (hb hby hd) rfl ((if0 _ _).trans (tlt h).2.2.1) ho hq kt) (kt h)
  · exact Goes.of (fun t kt => XS.ifNo X.here hx rfl (hb hby hd) rfl ((if0 _ _).trans (flt h).2.2.1) kt) (kf h)
theorem g_lcmp_gt (X : Stand p l e R s m args below meth c T locs cells slots) (hx : p.tables.exec = Jvm.exec) (hby : c.code = bytes) {x y : Int64} {o : Int} {pc2 : Nat} (hd : decode bytes pc = .ok (.lcmp, 1)) (hd2 : decode bytes pc2 = .ok (.ifCond .gt o, 3)) (q r : Nat) (h2 : pc + 1 = pc2) (ho : 0 ≤ (pc2 : Int) + o) (hq : ((pc2 : Int) + o).toNat = q) (hr : pc2 + 3 = r) (kt : y < x → Goes p e below K (T.setTop (mkF m q Ls rest))) (kf : ¬ (y < x) → Goes p e below K (T.setTop (mkF m r Ls rest))) : Goes p e below K (T.setTop (mkF m pc Ls (.long y :: .long x :: rest))) := by
  subst h2
  refine Goes.of (fun t kt => XS.lcmp X.here hx rfl (hb hby hd) rfl kt) ?_
  exact g_if_gt X hx hby hd2 q r ho hq hr (fun h => kt ((lw_gt x y).mp h)) (fun h => kf fun h' => h ((lw_gt x y).mpr h'))
theorem g_icmp_le (X : Stand p l e R s m args below meth c T locs cells slots) (hx : p.tables.exec = Jvm.exec) (hby : c.code = bytes) {x y : Int32} {o : Int} (hd : decode bytes pc = .ok (.if_icmp .le o, 3)) (q r : Nat) (ho : 0 ≤ (pc : Int) + o) (hq : ((pc : Int) + o).toNat = q) (hr : pc + 3 = r) (kt : y < x → Goes p e below K (T.setTop (mkF m r Ls rest))) (kf : ¬ (y < x) → Goes p e below K (T.setTop (mkF m q Ls rest))) : Goes p e below K (T.setTop (mkF m pc Ls (.int y :: .int x :: rest))) := by
  subst hr
  by_cases h : y < x
  · exact Goes.of (fun t kt => XS.icmpNo X.here hx rfl (hb hby hd) rfl (tlt h).2.2.2 kt) (kt h)
  · exact Goes.of (fun t kt => XS.icmpYes X.here hx rfl rfl (hb hby hd) rfl (flt h).2.2.2 ho hq kt) (kf h)
theorem g_if_le (X : Stand p l e R s m args below meth c T locs cells slots) (hx : p.tables.exec = Jvm.exec) (hby : c.code = bytes) {x : Int32} {o : Int} (hd : decode bytes pc = .ok (.ifCond .le o, 3)) (q r : Nat) (ho : 0 ≤ (pc : Int) + o) (hq : ((pc : Int) + o).toNat = q) (hr : pc + 3 = r) (kt : 0 < x → Goes p e below K (T.setTop (mkF m r Ls rest))) (kf : ¬ (0 < x) → Goes p e below K (T.setTop (mkF m q Ls rest))) : Goes p e below K (T.setTop (mkF m pc Ls (.int x :: rest))) := by
  subst hr
  by_cases h : 0 < x
  · exact Goes.of (fun t kt => XS.ifNo X.here hx rfl (hb hby hd) rfl ((if0 _ _).trans (tlt h).2.2.2) kt) (kt h)
  · exact Goes.of (fun t kt => XS.ifYes X.here hx rfl rfl (hb hby hd) rfl ((if0 _ _).trans (flt h).2.2.2) ho hq kt) (kf h)
theorem g_lcmp_le (X : Stand p l e R s m args below meth c T locs cells slots) (hx : p.tables.exec = Jvm.exec) (hby : c.code = bytes) {x y : Int64} {o : Int} {pc2 : Nat} (hd : decode bytes pc = .ok (.lcmp, 1)) (hd2 : decode bytes pc2 = .ok (.ifCond .le o, 3)) (q r : Nat) (h2 : pc + 1 = pc2) (ho : 0 ≤ (pc2 : Int) + o) (hq : ((pc2 : Int) + o).toNat = q) (hr : pc2 + 3 = r) (kt : y < x → Goes p e below K (T.setTop (mkF m r Ls rest))) (kf : ¬ (y < x) → Goes p e below K (T.setTop (mkF m q Ls rest))) : Goes p e below K (T.setTop (mkF m pc Ls (.long y :: .long x :: rest))) := by
  subst h2
  refine Goes.of (fun t kt => XS.lcmp X.here hx rfl (hb hby hd) rfl kt) ?_
  exact g_if_le X hx hby hd2 q r ho hq hr (fun h => kt ((lw_gt x y).mp h)) (fun h => kf fun h' => h ((lw_gt x y).mpr h'))
theorem g_ifnull_yes (X : Stand p l e R s m args below meth c T locs cells slots) (hx : p.tables.exec = Jvm.exec) (hby : c.code = bytes) {o : Int} (hd : decode bytes pc = .ok (.ifnull o, 3)) (q : Nat) (ho : 0 ≤ (pc : Int) + o) (hq : ((pc : Int) + o).toNat = q) (k : Goes p e below K (T.setTop (mkF m q Ls rest))) : Goes p e below K (T.setTop (mkF m pc Ls (.null :: rest))) :=
  Goes.of (fun t kt => XS.ifnullYes X.here hx rfl rfl (hb hby hd) rfl ho hq kt) k
theorem g_ifnull_no (X : Stand p l e R s m args below meth c T locs cells slots) (hx : p.tables.exec = Jvm.exec) (hby : c.code = bytes) {a : Addr} {o : Int} (hd : decode bytes pc = .ok (.ifnull o, 3)) (q : Nat) (hq : pc + 3 = q) (k : Goes p e below K (T.setTop (mkF m q Ls rest))) : Goes p e below K (T.setTop (mkF m pc Ls (.ref a :: rest))) := by
  subst hq; exact Goes.of (fun t kt => XS.ifnullNo X.here hx rfl (hb hby hd) rfl kt) k
theorem g_ifnonnull_yes (X : Stand p l e R s m args below meth c T locs cells slots) (hx : p.tables.exec = Jvm.exec) (hby : c.code = bytes) {a : Addr} {o : Int} (hd : decode bytes pc = .ok (.ifnonnull o, 3)) (q : Nat) (ho : 0 ≤ (pc : Int) + o) (hq : ((pc : Int) + o).toNat = q) (k : Goes p e below K (T.setTop (mkF m q Ls rest))) : Goes p e below K (T.setTop (mkF m pc Ls (.ref a :: rest))) :=
  Goes.of (fun t kt => XS.ifnonnullYes X.here hx rfl rfl (hb hby hd) rfl ho hq kt) k
theorem g_ifnonnull_no (X : Stand p l e R s m args below meth c T locs cells slots) (hx : p.tables.exec = Jvm.exec) (hby : c.code = bytes) {o : Int} (hd : decode bytes pc = .ok (.ifnonnull o, 3)) (q : Nat) (hq : pc + 3 = q) (k : Goes p e below K (T.setTop (mkF m q Ls rest))) : Goes p e below K (T.setTop (mkF m pc Ls (.null :: rest))) := by
  subst hq; exact Goes.of (fun t kt => XS.ifnonnullNo X.here hx rfl (hb hby hd) rfl kt) k
theorem g_acmp (X : Stand p l e R s m args below meth c T locs cells slots) (hx : p.tables.exec = Jvm.exec) (hby : c.code = bytes) {cd : ACond} {x y : Value} {o : Int} (hd : decode bytes pc = .ok (.if_acmp cd o, 3)) (h1 : x.isRef = true) (h2 : y.isRef = true) (same : Bool) (hs : decide (x = y) = same) (q : Nat) (ho : 0 ≤ (pc : Int) + o) (hq : q = if acV cd same = true then ((pc : Int) + o).toNat else pc + 3) (k : Goes p e below K (T.setTop (mkF m q Ls rest))) : Goes p e below K (T.setTop (mkF m pc Ls (y :: x :: rest))) :=
  Goes.of (fun t kt => Jvm.RoadKit.acmp X hx rfl h1 h2 rfl (hb hby hd) rfl hs ho hq kt) k
theorem g_ldc (X : Stand p l e R s m args below meth c T locs cells slots) (hx : p.tables.exec = Jvm.exec) (hby : c.code = bytes) {Z : State} {a0 : Array Value} (hZ : Z.Warmed39 s.vm) {own : String} {index : Nat} {v : Int32} (hown : s.vm.findClass own = some m.cls) (w : (Jvm.Cond.constant own index v).before a0 Z = true) (hd : decode bytes pc = .ok (.ldc index, 2)) (q : Nat) (hq : pc + 2 = q) (k : Goes p e below K (T.setTop (mkF m q Ls (.int v :: rest)))) : Goes p e below K (T.setTop (mkF m pc Ls rest)) := by
  subst hq; exact Goes.of (fun t kt => X.ldcInt hx hown (mvT hZ w) (g := mkF m pc Ls rest) rfl (hb hby hd) t kt) k
theorem g_ldc_w (X : Stand p l e R s m args below meth c T locs cells slots) (hx : p.tables.exec = Jvm.exec) (hby : c.code = bytes) {Z : State} {a0 : Array Value} (hZ : Z.Warmed39 s.vm) {own : String} {index : Nat} {v : Int32} (hown : s.vm.findClass own = some m.cls) (w : (Jvm.Cond.constant own index v).before a0 Z = true) (hd : decode bytes pc = .ok (.ldc_w index, 3)) (q : Nat) (hq : pc + 3 = q) (k : Goes p e below K (T.setTop (mkF m q Ls (.int v :: rest)))) : Goes p e below K (T.setTop (mkF m pc Ls rest)) := by
  subst hq; exact Goes.of (fun t kt => X.ldcwInt hx hown (mvT hZ w) (g := mkF m pc Ls rest) rfl (hb hby hd) t kt) k
theorem g_ldc2 (X : Stand p l e R s m args below meth c T locs cells slots) (hx : p.tables.exec = Jvm.exec) (hby : c.code = bytes) {Z : State} {a0 : Array Value} (hZ : Z.Warmed39 s.vm) {own : String} {index : Nat} {v : Int64} (hown : s.vm.findClass own = some m.cls) (w : (Jvm.Cond.constantLong own index v).before a0 Z = true) (hd : decode bytes pc = .ok (.ldc2_w index, 3)) (q : Nat) (hq : pc + 3 = q) (k : Goes p e below K (T.setTop (mkF m q Ls (.long v :: rest)))) : Goes p e below K (T.setTop (mkF m pc Ls rest)) := by
  subst hq; exact Goes.of (fun t kt => X.ldc2Long hx hown (mvT hZ w) (g := mkF m pc Ls rest) rfl (hb hby hd) t kt) k
theorem g_leave (X : Stand p l e R s m args below meth c T locs cells slots) {Q : Option Value → Heap → List Loc → Prop} {C S : Nat} {v : Option Value} (hv : meth.sig.returnType = none → v = none) (hlk : meth.locks = false) (hQ : Q v T.heap locs) (hc : cells ≤ C) (hs : slots ≤ S) {F : State}
    (st : ∀ fs : List Frame, (∀ (f : JFrame) (acts : List Action), f.method = m → f.locked = none → f.entered = [] → (doReturn e (T.setTop f) acts v).1 = T.setFrames fs) → Steps p.tables e below F (T.setFrames fs)) : Goes p e below (Kend s below Q C S) F := by
  obtain ⟨fs, hr, hrun, hended, hW, hsame⟩ := X.leave (v := v) hv hlk
  exact ⟨_, st fs hr, _, hrun, hended, v, locs, rfl, hQ, ⟨_, rfl⟩, hW, hsame.mono hc hs⟩
theorem g_ireturn (X : Stand p l e R s m args below meth c T locs cells slots) (hx : p.tables.exec = Jvm.exec) (hby : c.code = bytes) {Q : Option Value → Heap → List Loc → Prop} {C S : Nat} {z : Int32} {t : FieldType} (hret : meth.sig.returnType = some t) (hlk : meth.locks = false) (ht : t = .int ∨ t = .boolean ∨ t = .byte ∨ t = .char ∨ t = .short) (hn : narrow t (.int z) = .int z) (hd : decode bytes pc = .ok (.ireturn, 1)) (hQ : Q (some (.int z)) T.heap locs) (hc : cells ≤ C) (hs : slots ≤ S) : Goes p e below (Kend s below Q C S) (T.setTop (mkF m pc Ls (.int z :: rest))) :=
  g_leave X (v := some (.int z)) (fun h => by rw [hret] at h; cases h) hlk hQ hc hs fun fs hr => retOut X hx hret hn (Or.inl ⟨rfl, ht, z, rfl⟩) (hb hby hd) hr
theorem g_lreturn (X : Stand p l e R s m args below meth c T locs cells slots) (hx : p.tables.exec = Jvm.exec) (hby : c.code = bytes) {Q : Option Value → Heap → List Loc → Prop} {C S : Nat} {z : Int64} (hret : meth.sig.returnType = some .long) (hlk : meth.locks = false) (hd : decode bytes pc = .ok (.lreturn, 1)) (hQ : Q (some (.long z)) T.heap locs) (hc : cells ≤ C) (hs : slots ≤ S) : Goes p e below (Kend s below Q C S) (T.setTop (mkF m pc Ls (.long z :: rest))) :=
  g_leave X (v := some (.long z)) (fun h => by rw [hret] at h; cases h) hlk hQ hc hs fun fs hr => retOut X hx hret rfl (Or.inr (Or.inl ⟨rfl, rfl, z, rfl⟩)) (hb hby hd) hr
theorem g_areturn (X : Stand p l e R s m args below meth c T locs cells slots) (hx : p.tables.exec = Jvm.exec) (hby : c.code = bytes) {Q : Option Value → Heap → List Loc → Prop} {C S : Nat} {w : Value} {t : FieldType} (hret : meth.sig.returnType = some t) (hlk : meth.locks = false) (ht : t.isReference = true) (hw : w.isRef = true) (hn : narrow t w = w) (hd : decode bytes pc = .ok (.areturn, 1)) (hQ : Q (some w) T.heap locs) (hc : cells ≤ C) (hs : slots ≤ S) : Goes p e below (Kend s below Q C S) (T.setTop (mkF m pc Ls (w :: rest))) :=
  g_leave X (v := some w) (fun h => by rw [hret] at h; cases h) hlk hQ hc hs fun fs hr => retOut X hx hret hn (Or.inr (Or.inr (Or.inr (Or.inr ⟨rfl, ht, hw⟩)))) (hb hby hd) hr
theorem g_return (X : Stand p l e R s m args below meth c T locs cells slots) (hx : p.tables.exec = Jvm.exec) (hby : c.code = bytes) {Q : Option Value → Heap → List Loc → Prop} {C S : Nat} (hret : meth.sig.returnType = none) (hlk : meth.locks = false) (hd : decode bytes pc = .ok (.return_, 1)) (hQ : Q none T.heap locs) (hc : cells ≤ C) (hs : slots ≤ S) : Goes p e below (Kend s below Q C S) (T.setTop (mkF m pc Ls [])) :=
  g_leave X (v := none) (fun _ => rfl) hlk hQ hc hs fun fs hr => X.returnOut hx hret (hb hby hd) hr
theorem nar_bool {z : Int32} (h : z = 0 ∨ z = 1) : narrow .boolean (.int z) = .int z := by rcases h with rfl | rfl <;> rfl
theorem g_callS (X : Stand p l e R s m args below meth c T locs cells slots) (hx : p.tables.exec = Jvm.exec) (hby : c.code = bytes) {Z : State} {a0 : Array Value} (hZ : Z.Warmed39 s.vm) {own : String} {index : Nat} {y : MethodName} {cb : ByteArray} {maxL : Nat} {ret : Option FieldType} {rm : Room} {Q : Option Value → Heap → List Loc → Prop} {h : Heap} (hown : s.vm.findClass own = some m.cls) (w1 : (Jvm.Cond.methodLink own index y).before a0 Z = true) (w2 : (Jvm.Cond.static y).before a0 Z = true) (w3 : (Jvm.Cond.initialized y.cls).before a0 Z = true) (w4 : (Jvm.Cond.code y cb maxL ret).before a0 Z = true)
    (hd : decode bytes pc = .ok (.invokestatic index, 3)) (argsL rest : List Value) {st : List Value} (hM : Ctr l y cb maxL ret [] rm argsL.toArray Z h Q) (eT : T.heap = h) (hst : st = argsL.reverse ++ rest) (hsz : Ls.size = c.maxLocals) {ps : List FieldType} {rt : Option FieldType} (hpd : parseMethodDescriptor y.desc = some ⟨ps, rt⟩) (hlen : argsL.length = ps.length)
    (hy : y.cls ≠ "java/lang/invoke/MethodHandle" ∧ y.cls ≠ "java/lang/invoke/VarHandle") (W : Nat) (hW : (rest.map fun v => v.category).sum ≤ W) (hf : rm.frames + 1 ≤ R.frames) (hl : W + (maxL + 11) + rm.locals ≤ R.locals) (hc : cells + rm.cells ≤ R.cells) (hs : slots + rm.slots ≤ R.slots) (q : Nat) (hq : pc + 3 = q)
    (k : ∀ (T' : State) (v : Option Value) (L : List Loc), Stand p l e R s m args below meth c T' (locs ++ L) (cells + rm.cells) (slots + rm.slots) → Q v T'.heap L → Goes p e below K (T'.setTop (mkF m q Ls (v.toList ++ rest)))) : Goes p e below K (T.setTop (mkF m pc Ls st)) := by
  subst hq hst
  obtain ⟨v, _, ⟨T', L', k', n'⟩, -, X', ⟨Lc, hQ, l1, y1, z1⟩, st⟩ := Jvm.LawKit.callS X hx hown (mvT hZ w1) (mvT hZ w2) (mvT hZ w3) (mvT hZ w4) hy (backOf (W := W) hM hZ w4 w3 hf hl) (g := mkF m pc Ls (argsL.reverse ++ rest)) rfl hsz (argsL := argsL) (rest := rest) (lenOf hpd hlen) rfl (by show 2 * 0 + _ ≤ _; omega) (hb hby hd) (fun _ _ => ⟨rfl, eT, hc, hs⟩)
  dsimp only [Pt.U, Pt.locs, Pt.cells, Pt.slots] at X' l1 y1 z1 st hQ
  subst l1 y1 z1
  exact Goes.of st (k _ _ _ X' hQ)
theorem g_special (X : Stand p l e R s m args below meth c T locs cells slots) (hx : p.tables.exec = Jvm.exec) (hby : c.code = bytes) {Z : State} {a0 : Array Value} (hZ : Z.Warmed39 s.vm) {own : String} {index : Nat} {y : MethodName} {cb : ByteArray} {maxL : Nat} {rm : Room} {Q : Option Value → Heap → List Loc → Prop} {h : Heap} (hown : s.vm.findClass own = some m.cls) (hy1 : y.name = "<init>") (w1 : (Jvm.Cond.methodLink own index y).before a0 Z = true) (w2 : (Jvm.Cond.instanceMethod y).before a0 Z = true) (w3 : (Jvm.Cond.initialized y.cls).before a0 Z = true) (w4 : (Jvm.Cond.code y cb maxL none).before a0 Z = true)
    (hd : decode bytes pc = .ok (.invokespecial index, 3)) (a : Addr) (argsL rest : List Value) {st : List Value} (hM : Ctr l y cb maxL none [] rm (.ref a :: argsL).toArray Z h Q) (eT : T.heap = h) (hst : st = argsL.reverse ++ .ref a :: rest) (hsz : Ls.size = c.maxLocals) {ps : List FieldType} {rt : Option FieldType} (hpd : parseMethodDescriptor y.desc = some ⟨ps, rt⟩) (hlen : argsL.length = ps.length)
    (hy : y.cls ≠ "java/lang/invoke/MethodHandle" ∧ y.cls ≠ "java/lang/invoke/VarHandle") (W : Nat) (hW : (rest.map fun v => v.category).sum ≤ W) (hf : rm.frames + 1 ≤ R.frames) (hl : W + (maxL + 11) + rm.locals ≤ R.locals) (hc : cells + rm.cells ≤ R.cells) (hs : slots + rm.slots ≤ R.slots) (q : Nat) (hq : pc + 3 = q)
    (k : ∀ (T' : State) (v : Option Value) (L : List Loc), Stand p l e R s m args below meth c T' (locs ++ L) (cells + rm.cells) (slots + rm.slots) → Q v T'.heap L → Goes p e below K (T'.setTop (mkF m q Ls (v.toList ++ rest)))) : Goes p e below K (T.setTop (mkF m pc Ls st)) := by
  subst hq hst
  obtain ⟨v, _, ⟨T', L', k', n'⟩, -, X', ⟨Lc, hQ, l1, y1, z1⟩, st⟩ := X.specialBack hx hy1 hown (mvT hZ w1) (mvT hZ w2) (mvT hZ w4) hy (backOf (W := W) hM hZ w4 w3 hf hl) (g := mkF m pc Ls (argsL.reverse ++ .ref a :: rest)) rfl hsz (Steps.refl _) (a := a) (argsL := argsL) (rest := rest) (lenOf hpd hlen) rfl (by show 2 * 0 + _ ≤ _; omega) (hb hby hd) (fun _ _ => ⟨rfl, eT, hc, hs⟩)
  dsimp only [Pt.U, Pt.locs, Pt.cells, Pt.slots] at X' l1 y1 z1 st hQ
  subst l1 y1 z1
  exact Goes.of (fun t kt => st.trans kt) (k _ _ _ X' hQ)
theorem g_virtual (X : Stand p l e R s m args below meth c T locs cells slots) (hx : p.tables.exec = Jvm.exec) (hby : c.code = bytes) {Z : State} {a0 : Array Value} (hZ : Z.Warmed39 s.vm) {own : String} {index : Nat} {y : MethodName} {cb : ByteArray} {maxL : Nat} {ret : Option FieldType} {rm : Room} {Q : Option Value → Heap → List Loc → Prop} {h : Heap} {z : MethodName} {C : String} (hown : s.vm.findClass own = some m.cls) (w1 : (Jvm.Cond.methodLink own index y).before a0 Z = true) (w2 : (Jvm.Cond.declares y).before a0 Z = true) (nf : NotFace s y) (w5 : (Jvm.Cond.selects C y z).before a0 Z = true) (w6 : (Jvm.Cond.instanceMethod z).before a0 Z = true) (w3 : (Jvm.Cond.initialized z.cls).before a0 Z = true) (w4 : (Jvm.Cond.code z cb maxL ret).before a0 Z = true)
    (hd : decode bytes pc = .ok (.invokevirtual index, 3)) (a : Addr) (E : Exa Z h a C) (argsL rest : List Value) {st : List Value} (hM : Ctr l z cb maxL ret [] rm (.ref a :: argsL).toArray Z h Q) (eT : T.heap = h) (hst : st = argsL.reverse ++ .ref a :: rest) (hsz : Ls.size = c.maxLocals) {ps : List FieldType} {rt : Option FieldType} (hpd : parseMethodDescriptor y.desc = some ⟨ps, rt⟩) (hlen : argsL.length = ps.length)
    (hy : y.cls ≠ "java/lang/invoke/MethodHandle" ∧ y.cls ≠ "java/lang/invoke/VarHandle") (W : Nat) (hW : (rest.map fun v => v.category).sum ≤ W) (hf : rm.frames + 1 ≤ R.frames) (hl : W + (maxL + 11) + rm.locals ≤ R.locals) (hc : cells + rm.cells ≤ R.cells) (hs : slots + rm.slots ≤ R.slots) (q : Nat) (hq : pc + 3 = q)
    (k : ∀ (T' : State) (v : Option Value) (L : List Loc), Stand p l e R s m args below meth c T' (locs ++ L) (cells + rm.cells) (slots + rm.slots) → Q v T'.heap L → Goes p e below K (T'.setTop (mkF m q Ls (v.toList ++ rest)))) : Goes p e below K (T.setTop (mkF m pc Ls st)) := by
  subst hq hst
  obtain ⟨cq, kq, qa, qb, qc⟩ := isOf hZ eT E
  obtain ⟨v, _, ⟨T', L', k', n'⟩, -, X', ⟨Lc, hQ, l1, y1, z1⟩, st⟩ := X.virtualBack hx (y := y) (z := z) hown (mvT hZ w1) (mvT hZ w2) nf (mvT hZ w5) (mvT hZ w6) hy (backOf (W := W) hM hZ w4 w3 hf hl) qa qc (g := mkF m pc Ls (argsL.reverse ++ .ref a :: rest)) rfl hsz (Steps.refl _) (argsL := argsL) (rest := rest) (lenOf hpd hlen) rfl (by show 2 * 0 + _ ≤ _; omega) (hb hby hd) (fun _ _ => ⟨rfl, eT, hc, hs⟩)
  dsimp only [Pt.U, Pt.locs, Pt.cells, Pt.slots] at X' l1 y1 z1 st hQ
  subst l1 y1 z1
  exact Goes.of (fun t kt => st.trans kt) (k _ _ _ X' hQ)
theorem g_initO (X : Stand p l e R s m args below meth c T locs cells slots) (hx : p.tables.exec = Jvm.exec) (hby : c.code = bytes) {Z : State} {a0 : Array Value} (hZ : Z.Warmed39 s.vm) {own : String} {index : Nat} {h : Heap} {a : Addr} (hown : s.vm.findClass own = some m.cls) (w1 : (Jvm.Cond.methodLink own index Lib.objectInit).before a0 Z = true) (w2 : (Jvm.Cond.instanceMethod Lib.objectInit).before a0 Z = true) (w3 : (Jvm.Cond.code Lib.objectInit ⟨#[0xb1]⟩ 1 none).before a0 Z = true)
    (hd : decode bytes pc = .ok (.invokespecial index, 3)) (eT : T.heap = h) (hsz : Ls.size = c.maxLocals) (W : Nat) (hW : (rest.map fun v => v.category).sum ≤ W) (hf : 1 ≤ R.frames) (hl : W + 12 ≤ R.locals) (q : Nat) (hq : pc + 3 = q)
    (k : ∀ T' : State, Stand p l e R s m args below meth c T' locs cells slots → T'.heap = h → Goes p e below K (T'.setTop (mkF m q Ls rest))) : Goes p e below K (T.setTop (mkF m pc Ls (.ref a :: rest))) := by
  subst hq
  obtain ⟨T', X', e', st⟩ := initO X hx hZ hown w1 w2 w3 eT (g := mkF m pc Ls (.ref a :: rest)) rfl hsz rfl (hb hby hd) hf (W := W) (by show 2 * 0 + _ ≤ _; omega) hl
  exact Goes.of st (k _ X' e')
theorem g_getfield (X : Stand p l e R s m args below meth c T locs cells slots) (hx : p.tables.exec = Jvm.exec) (hby : c.code = bytes) {Z : State} {a0 : Array Value} (hZ : Z.Warmed39 s.vm) {own R0 O n d host : String} {index : Nat} {h : Heap} {a : Addr} {v : Value} (hown : s.vm.findClass own = some m.cls) (w : (Jvm.Cond.fieldLink own index R0 n d).before a0 Z = true ∨ (Jvm.Cond.fieldLinkNest own index R0 n d host).before a0 Z = true) (via : Via Z R0 O n d) (eT : T.heap = h) (F : Fld Z h a O n d v)
    (hd : decode bytes pc = .ok (.getfield index, 3)) (q : Nat) (hq : pc + 3 = q) (k : ∀ T' : State, Stand p l e R s m args below meth c T' locs cells slots → T'.heap = h → Goes p e below K (T'.setTop (mkF m q Ls (v :: rest)))) : Goes p e below K (T.setTop (mkF m pc Ls (.ref a :: rest))) := by
  subst hq
  obtain ⟨T', X', e', st⟩ := getF X hx hZ hown w via eT F (g := mkF m pc Ls (.ref a :: rest)) rfl rfl (hb hby hd)
  exact Goes.of st (k _ X' e')
theorem g_putfield (X : Stand p l e R s m args below meth c T locs cells slots) (hx : p.tables.exec = Jvm.exec) (hby : c.code = bytes) {Z : State} {a0 : Array Value} (hZ : Z.Warmed39 s.vm) {own R0 O n d host C : String} {index kk : Nat} {ty : FieldType} {h : Heap} {a : Addr} {v old : Value} (hown : s.vm.findClass own = some m.cls) (w : (Jvm.Cond.fieldLink own index R0 n d).before a0 Z = true ∨ (Jvm.Cond.fieldLinkNest own index R0 n d host).before a0 Z = true) (via : Via Z R0 O n d) (eT : T.heap = h) (F : Fld Z h a O n d old) (E : Exa Z h a C)
    (L : (Jvm.Cond.lays C O n d).before a0 Z = true ∨ ((Jvm.Cond.laysFinal C O n d).before a0 Z = true ∧ own = O ∧ meth.name = "<init>")) (wi : (Jvm.Cond.instantiable C kk).before a0 Z = true) (hty : parseFieldDescriptor d = some ty) (hn : narrow ty v = v) (hf : fits ty v = true) (hd : decode bytes pc = .ok (.putfield index, 3)) (q : Nat) (hq : pc + 3 = q)
    (k : ∀ (T' : State) (h' : Heap), Stand p l e R s m args below meth c T' (locs ++ [⟨a, Jvm.RoadKit.slotOf Z O n d⟩]) cells slots → T'.heap = h' → Wr h h' a (Jvm.RoadKit.slotOf Z O n d) v → Goes p e below K (T'.setTop (mkF m q Ls rest))) : Goes p e below K (T.setTop (mkF m pc Ls (v :: .ref a :: rest))) := by
  subst hq
  obtain ⟨T', h', X', e', W', st⟩ := putF X hx hZ hown w via eT F E L wi hty hn hf (g := mkF m pc Ls (v :: .ref a :: rest)) rfl rfl (hb hby hd)
  exact Goes.of st (k _ _ X' e' W')
theorem g_new (X : Stand p l e R s m args below meth c T locs cells slots) (hx : p.tables.exec = Jvm.exec) (hby : c.code = bytes) {Z : State} {a0 : Array Value} (hZ : Z.Warmed39 s.vm) {own C : String} {index n : Nat} {h : Heap} (hown : s.vm.findClass own = some m.cls) (w : (Jvm.Cond.classLink own index C).before a0 Z = true) (wi : (Jvm.Cond.instantiable C n).before a0 Z = true) (wz : (Jvm.Cond.initialized C).before a0 Z = true) (eT : T.heap = h) (hd : decode bytes pc = .ok (.new index, 3)) (hc : cells + 1 ≤ R.cells) (hl : slots + n ≤ R.slots) (q : Nat) (hq : pc + 3 = q)
    (k : ∀ (T' : State) (h' : Heap) (a : Addr), a = h.size → Stand p l e R s m args below meth c T' locs (cells + 1) (slots + n) → T'.heap = h' → Ext h h' → Exa Z h' a C → (∀ {O nm d : String} {ty : FieldType}, Laid Z a0 C O nm d → parseFieldDescriptor d = some ty → Fld Z h' a O nm d (defaultValue ty)) → Goes p e below K (T'.setTop (mkF m q Ls (.ref a :: rest)))) : Goes p e below K (T.setTop (mkF m pc Ls rest)) := by
  subst hq
  obtain ⟨T', h', X', e', E', A', D', -, st⟩ := newO X hx hZ hown w wi wz eT (g := mkF m pc Ls rest) rfl (hb hby hd) hc hl
  exact Goes.of st (k _ _ _ rfl X' e' E' A' D')
def upd {α : Type} (f : Nat → α) (k : Nat) (x : α) : Nat → α := fun i => if i = k then x else f i
theorem upd_hit {α : Type} (f : Nat → α) (k : Nat) (x : α) : upd f k x k = x := if_pos rfl
theorem upd_miss {α : Type} (f : Nat → α) {k i : Nat} (x : α) (h : i ≠ k) : upd f k x i = f i := if_neg h
def ArF (Z : State) (h : Heap) (a : Addr) (ty : FieldType) (n : Nat) (f : Nat → Value) : Prop := ∃ c : Cell, Arr Z h a c ty ∧ c.slots.size = n ∧ n < 2 ^ 31 ∧ ∀ j, j < n → c.slots[j]? = some (f j)
abbrev AI (Z : State) (h : Heap) (a : Addr) (ty : FieldType) (n : Nat) (f : Nat → Int32) : Prop := ArF Z h a ty n (fun i => .int (f i))
abbrev AJ (Z : State) (h : Heap) (a : Addr) (n : Nat) (f : Nat → Int64) : Prop := ArF Z h a .long n (fun i => .long (f i))
section Arrays
variable {Z : State} {h h' : Heap} {a b : Addr} {ty : FieldType} {n : Nat} {f : Nat → Value}
theorem ArF.lt (F : ArF Z h a ty n f) : a < h.size := by obtain ⟨c, A, -⟩ := F; exact A.lt
theorem ArF.len (F : ArF Z h a ty n f) : n < 2 ^ 31 := by obtain ⟨c, -, -, q, -⟩ := F; exact q
theorem ArF.ext (F : ArF Z h a ty n f) (E : Ext h h') : ArF Z h' a ty n f := by obtain ⟨c, A, r⟩ := F; exact ⟨c, A.ext E, r⟩
theorem ArF.other {sl : Nat} {v : Value} (F : ArF Z h b ty n f) (W : Wr h h' a sl v) (q : b ≠ a) : ArF Z h' b ty n f := by obtain ⟨c, A, r⟩ := F; exact ⟨c, A.other W q, r⟩
theorem ArF.keep {ws : List Addr} (F : ArF Z h a ty n f) (K : Keep h h' ws) (q : a ∉ ws) : ArF Z h' a ty n f := by obtain ⟨c, A, r⟩ := F; exact ⟨c, ⟨K.2.1 a c A.1 q, A.2⟩, r⟩
theorem ArF.congr {g : Nat → Value} (F : ArF Z h a ty n f) (q : ∀ i, i < n → f i = g i) : ArF Z h a ty n g := by obtain ⟨c, A, r1, r2, r3⟩ := F; exact ⟨c, A, r1, r2, fun j hj => by rw [r3 j hj, q j hj]⟩
theorem ArF.fresh {k : ClassId} {z : Int32} (A : Arr Z h a (newA k ty z) ty) (q : ¬ z < 0) (e : z.toNatClampNeg = n) : ArF Z h a ty n (fun _ => defaultValue ty) := by
  subst e
  refine ⟨_, A, sz_new _ _ _, (back32 q).2, fun j hj => ?_⟩
  simp [newA, hj]
theorem ArF.set {j : Nat} {v : Value} (F : ArF Z h a ty n f) (W : Wr h h' a j v) : ArF Z h' a ty n (upd f j v) := by
  obtain ⟨c, A, r1, r2, r3⟩ := F
  refine ⟨_, A.same W, (sz_set _ _ _).trans r1, r2, fun i hi => ?_⟩
  by_cases q : i = j
  · subst q; rw [upd_hit]; simp [Cell.setSlot, r1, hi]
  · rw [upd_miss _ _ q, ← r3 i hi]
    simp only [Cell.setSlot]
    exact Array.getElem?_setIfInBounds_ne (fun y => q y.symm)
theorem AI.set {j : Nat} {x : Int32} {g : Nat → Int32} (F : AI Z h a ty n g) (W : Wr h h' a j (.int x)) : AI Z h' a ty n (upd g j x) := (ArF.set F W).congr fun i _ => by by_cases q : i = j <;> simp [upd, q]
theorem AJ.set {j : Nat} {x : Int64} {g : Nat → Int64} (F : AJ Z h a n g) (W : Wr h h' a j (.long x)) : AJ Z h' a n (upd g j x) := (ArF.set F W).congr fun i _ => by by_cases q : i = j <;> simp [upd, q]
theorem own_in {c : Cell} {j : Int32} {k : Nat} (hs : c.slots.size = n) (h0 : ¬ j < 0) (hj : j.toNatClampNeg = k) (hk : k < n) : ¬ (j < 0 ∨ c.slots.size ≤ j.toNatClampNeg) := by
  subst hs hj; exact fun y => y.elim h0 (Nat.not_le.mpr hk)
end Arrays
theorem g_newarray (X : Stand p l e R s m args below meth c T locs cells slots) (hx : p.tables.exec = Jvm.exec) (hby : c.code = bytes) {Z : State} {a0 : Array Value} (hZ : Z.Warmed39 s.vm) {aty : ArrayType} {h : Heap} {z : Int32} (w : (Jvm.Cond.arrayClass (newarray.typeOf aty)).before a0 Z = true) (eT : T.heap = h) (hd : decode bytes pc = .ok (.newarray aty, 2)) (hz : ¬ z < 0) (n : Nat) (hn : z.toNatClampNeg = n) (cap : Nat) (hcap : n ≤ cap) (hbig : cap * 8 ≤ 536870912) (hc : cells + 1 ≤ R.cells) (hl : slots + cap ≤ R.slots) (q : Nat) (hq : pc + 2 = q)
    (k : ∀ (T' : State) (h' : Heap) (a : Addr), a = h.size → Stand p l e R s m args below meth c T' locs (cells + 1) (slots + cap) → T'.heap = h' → Ext h h' → ArF Z h' a (newarray.typeOf aty) n (fun _ => defaultValue (newarray.typeOf aty)) → Goes p e below K (T'.setTop (mkF m q Ls (.ref a :: rest)))) : Goes p e below K (T.setTop (mkF m pc Ls (.int z :: rest))) := by
  subst hq
  obtain ⟨T', h', cA, X', e', E', A', st⟩ := newP X hx hZ w eT (g := mkF m pc Ls (.int z :: rest)) rfl (hb hby hd) rfl hz (cap := cap) (by rw [hn]; exact hcap) hbig hc hl
  exact Goes.of st (k _ _ _ rfl X' e' E' (ArF.fresh A' hz hn))
theorem g_arraylength (X : Stand p l e R s m args below meth c T locs cells slots) (hx : p.tables.exec = Jvm.exec) (hby : c.code = bytes) {Z : State} (hZ : Z.Warmed39 s.vm) {h : Heap} {a : Addr} {ty : FieldType} {n : Nat} {f : Nat → Value} (eT : T.heap = h) (F : ArF Z h a ty n f) (hd : decode bytes pc = .ok (.arraylength, 1)) (z : Int32) (hz : n.toInt32 = z) (q : Nat) (hq : pc + 1 = q) (k : Goes p e below K (T.setTop (mkF m q Ls (.int z :: rest)))) : Goes p e below K (T.setTop (mkF m pc Ls (.ref a :: rest))) := by
  subst hq hz
  obtain ⟨cl, A, r1, r2, r3⟩ := F
  exact Goes.of (fun t kt => X.arraylength hx (by rw [eT]; exact A.1) (State.isArrayOf_alike hZ.alike A.2.1) (g := mkF m pc Ls (.ref a :: rest)) rfl rfl (hb hby hd) t (by rw [r1]; exact kt)) k
theorem g_iaload (X : Stand p l e R s m args below meth c T locs cells slots) (hx : p.tables.exec = Jvm.exec) (hby : c.code = bytes) {Z : State} (hZ : Z.Warmed39 s.vm) {h : Heap} {a : Addr} {n : Nat} {f : Nat → Int32} {j : Int32} (eT : T.heap = h) (F : AI Z h a .int n f) (hd : decode bytes pc = .ok (.iaload, 1)) (h0 : ¬ j < 0) (i : Nat) (hj : j.toNatClampNeg = i) (hi : i < n) (x : Int32) (hfx : f i = x) (q : Nat) (hq : pc + 1 = q) (k : Goes p e below K (T.setTop (mkF m q Ls (.int x :: rest)))) : Goes p e below K (T.setTop (mkF m pc Ls (.int j :: .ref a :: rest))) := by
  subst hq hfx
  obtain ⟨cl, A, r1, r2, r3⟩ := F
  exact Goes.of (fun t kt => X.iaload hx (by rw [eT]; exact A.1) (State.isArrayOf_alike hZ.alike A.2.1) A.2.2 (own_in r1 h0 hj hi) (by rw [hj]; exact r3 i hi) (g := mkF m pc Ls (.int j :: .ref a :: rest)) rfl rfl (hb hby hd) t kt) k
theorem g_baload (X : Stand p l e R s m args below meth c T locs cells slots) (hx : p.tables.exec = Jvm.exec) (hby : c.code = bytes) {Z : State} (hZ : Z.Warmed39 s.vm) {h : Heap} {a : Addr} {n : Nat} {f : Nat → Int32} {j : Int32} (eT : T.heap = h) (F : AI Z h a .byte n f) (hd : decode bytes pc = .ok (.baload, 1)) (h0 : ¬ j < 0) (i : Nat) (hj : j.toNatClampNeg = i) (hi : i < n) (x : Int32) (hfx : f i = x) (q : Nat) (hq : pc + 1 = q) (k : Goes p e below K (T.setTop (mkF m q Ls (.int x :: rest)))) : Goes p e below K (T.setTop (mkF m pc Ls (.int j :: .ref a :: rest))) := by
  subst hq hfx
  obtain ⟨cl, A, r1, r2, r3⟩ := F
  exact Goes.of (fun t kt => X.baloadBytes hx (by rw [eT]; exact A.1) (State.isArrayOf_alike hZ.alike A.2.1) A.2.2 (own_in r1 h0 hj hi) (by rw [hj]; exact r3 i hi) (g := mkF m pc Ls (.int j :: .ref a :: rest)) rfl rfl (hb hby hd) t kt) k
theorem g_laload (X : Stand p l e R s m args below meth c T locs cells slots) (hx : p.tables.exec = Jvm.exec) (hby : c.code = bytes) {Z : State} (hZ : Z.Warmed39 s.vm) {h : Heap} {a : Addr} {n : Nat} {f : Nat → Int64} {j : Int32} (eT : T.heap = h) (F : AJ Z h a n f) (hd : decode bytes pc = .ok (.laload, 1)) (h0 : ¬ j < 0) (i : Nat) (hj : j.toNatClampNeg = i) (hi : i < n) (x : Int64) (hfx : f i = x) (q : Nat) (hq : pc + 1 = q) (k : Goes p e below K (T.setTop (mkF m q Ls (.long x :: rest)))) : Goes p e below K (T.setTop (mkF m pc Ls (.int j :: .ref a :: rest))) := by
  subst hq hfx
  obtain ⟨cl, A, r1, r2, r3⟩ := F
  exact Goes.of (fun t kt => X.laload hx (by rw [eT]; exact A.1) (State.isArrayOf_alike hZ.alike A.2.1) A.2.2 (own_in r1 h0 hj hi) (by rw [hj]; exact r3 i hi) (g := mkF m pc Ls (.int j :: .ref a :: rest)) rfl rfl (hb hby hd) t kt) k
theorem g_aaload (X : Stand p l e R s m args below meth c T locs cells slots) (hx : p.tables.exec = Jvm.exec) (hby : c.code = bytes) {Z : State} (hZ : Z.Warmed39 s.vm) {h : Heap} {a : Addr} {n : Nat} {ty : FieldType} {f : Nat → Value} {j : Int32} (eT : T.heap = h) (F : ArF Z h a ty n f) (hty : ty.isReference = true) (hd : decode bytes pc = .ok (.aaload, 1)) (h0 : ¬ j < 0) (i : Nat) (hj : j.toNatClampNeg = i) (hi : i < n) (x : Value) (hfx : f i = x) (q : Nat) (hq : pc + 1 = q) (k : Goes p e below K (T.setTop (mkF m q Ls (x :: rest)))) : Goes p e below K (T.setTop (mkF m pc Ls (.int j :: .ref a :: rest))) := by
  subst hq hfx
  obtain ⟨cl, A, r1, r2, r3⟩ := F
  exact Goes.of (fun t kt => X.aaload hx (by rw [eT]; exact A.1) (State.isArrayOf_alike hZ.alike A.2.1) hty A.2.2 (own_in r1 h0 hj hi) (by rw [hj]; exact r3 i hi) (g := mkF m pc Ls (.int j :: .ref a :: rest)) rfl rfl (hb hby hd) t kt) k
theorem g_iastore (X : Stand p l e R s m args below meth c T locs cells slots) (hx : p.tables.exec = Jvm.exec) (hby : c.code = bytes) {Z : State} (hZ : Z.Warmed39 s.vm) {h : Heap} {a : Addr} {n : Nat} {f : Nat → Int32} {j : Int32} {x : Int32} (eT : T.heap = h) (F : AI Z h a .int n f) (hd : decode bytes pc = .ok (.iastore, 1)) (h0 : ¬ j < 0) (i : Nat) (hj : j.toNatClampNeg = i) (hi : i < n) (q : Nat) (hq : pc + 1 = q)
    (k : ∀ (T' : State) (h' : Heap), Stand p l e R s m args below meth c T' (locs ++ [⟨a, i⟩]) cells slots → T'.heap = h' → Wr h h' a i (.int x) → AI Z h' a .int n (upd f i x) → Goes p e below K (T'.setTop (mkF m q Ls rest))) : Goes p e below K (T.setTop (mkF m pc Ls (.int x :: .int j :: .ref a :: rest))) := by
  subst hq
  have F' := F
  obtain ⟨cl, A, r1, r2, r3⟩ := F'
  obtain ⟨T', h', X', e', W', st⟩ := stI X hx hZ eT A (own_in r1 h0 hj hi) (g := mkF m pc Ls (.int x :: .int j :: .ref a :: rest)) rfl rfl (hb hby hd)
  rw [hj] at X' W'
  exact Goes.of st (k _ _ X' e' W' (AI.set F W'))
theorem g_bastore (X : Stand p l e R s m args below meth c T locs cells slots) (hx : p.tables.exec = Jvm.exec) (hby : c.code = bytes) {Z : State} (hZ : Z.Warmed39 s.vm) {h : Heap} {a : Addr} {n : Nat} {f : Nat → Int32} {j : Int32} {x : Int32} (eT : T.heap = h) (F : AI Z h a .byte n f) (hd : decode bytes pc = .ok (.bastore, 1)) (h0 : ¬ j < 0) (i : Nat) (hj : j.toNatClampNeg = i) (hi : i < n) (y : Int32) (hxy : x.toInt8.toInt32 = y) (q : Nat) (hq : pc + 1 = q)
    (k : ∀ (T' : State) (h' : Heap), Stand p l e R s m args below meth c T' (locs ++ [⟨a, i⟩]) cells slots → T'.heap = h' → Wr h h' a i (.int y) → AI Z h' a .byte n (upd f i y) → Goes p e below K (T'.setTop (mkF m q Ls rest))) : Goes p e below K (T.setTop (mkF m pc Ls (.int x :: .int j :: .ref a :: rest))) := by
  subst hq hxy
  have F' := F
  obtain ⟨cl, A, r1, r2, r3⟩ := F'
  obtain ⟨T', h', X', e', W', st⟩ := stB X hx hZ eT A (own_in r1 h0 hj hi) (g := mkF m pc Ls (.int x :: .int j :: .ref a :: rest)) rfl rfl (hb hby hd)
  rw [hj] at X' W'
  exact Goes.of st (k _ _ X' e' W' (AI.set F W'))
theorem g_lastore (X : Stand p l e R s m args below meth c T locs cells slots) (hx : p.tables.exec = Jvm.exec) (hby : c.code = bytes) {Z : State} (hZ : Z.Warmed39 s.vm) {h : Heap} {a : Addr} {n : Nat} {f : Nat → Int64} {j : Int32} {x : Int64} (eT : T.heap = h) (F : AJ Z h a n f) (hd : decode bytes pc = .ok (.lastore, 1)) (h0 : ¬ j < 0) (i : Nat) (hj : j.toNatClampNeg = i) (hi : i < n) (q : Nat) (hq : pc + 1 = q)
    (k : ∀ (T' : State) (h' : Heap), Stand p l e R s m args below meth c T' (locs ++ [⟨a, i⟩]) cells slots → T'.heap = h' → Wr h h' a i (.long x) → AJ Z h' a n (upd f i x) → Goes p e below K (T'.setTop (mkF m q Ls rest))) : Goes p e below K (T.setTop (mkF m pc Ls (.long x :: .int j :: .ref a :: rest))) := by
  subst hq
  have F' := F
  obtain ⟨cl, A, r1, r2, r3⟩ := F'
  obtain ⟨T', h', X', e', W', st⟩ := stJ X hx hZ eT A (own_in r1 h0 hj hi) (g := mkF m pc Ls (.long x :: .int j :: .ref a :: rest)) rfl rfl (hb hby hd)
  rw [hj] at X' W'
  exact Goes.of st (k _ _ X' e' W' (AJ.set F W'))
def ArO (Z : State) (h : Heap) (a : Addr) (C : String) (n : Nat) (f : Nat → Value) : Prop := ∃ c : Cell, Arr Z h a c (.object C) ∧ c.slots.size = n ∧ n < 2 ^ 31 ∧ (∀ j, j < n → c.slots[j]? = some (f j)) ∧ Ovr Z c.cls C
section ArraysO
variable {Z : State} {h h' : Heap} {a b : Addr} {C : String} {n : Nat} {f : Nat → Value}
theorem ArO.toF (F : ArO Z h a C n f) : ArF Z h a (.object C) n f := by obtain ⟨c, A, r1, r2, r3, -⟩ := F; exact ⟨c, A, r1, r2, r3⟩
theorem ArO.lt (F : ArO Z h a C n f) : a < h.size := F.toF.lt
theorem ArO.ext (F : ArO Z h a C n f) (E : Ext h h') : ArO Z h' a C n f := by obtain ⟨c, A, r⟩ := F; exact ⟨c, A.ext E, r⟩
theorem ArO.other {sl : Nat} {v : Value} (F : ArO Z h b C n f) (W : Wr h h' a sl v) (q : b ≠ a) : ArO Z h' b C n f := by obtain ⟨c, A, r⟩ := F; exact ⟨c, A.other W q, r⟩
theorem ArO.keep {ws : List Addr} (F : ArO Z h a C n f) (K : Keep h h' ws) (q : a ∉ ws) : ArO Z h' a C n f := by obtain ⟨c, A, r⟩ := F; exact ⟨c, ⟨K.2.1 a c A.1 q, A.2⟩, r⟩
theorem ArO.congr {g : Nat → Value} (F : ArO Z h a C n f) (q : ∀ i, i < n → f i = g i) : ArO Z h a C n g := by obtain ⟨c, A, r1, r2, r3, r4⟩ := F; exact ⟨c, A, r1, r2, fun j hj => by rw [r3 j hj, q j hj], r4⟩
theorem ArO.fresh {k : ClassId} {z : Int32} (A : Arr Z h a (newA k (.object C) z) (.object C)) (O : Ovr Z k C) (q : ¬ z < 0) (e : z.toNatClampNeg = n) : ArO Z h a C n (fun _ => .null) := by
  subst e
  refine ⟨_, A, sz_new _ _ _, (back32 q).2, fun j hj => ?_, O⟩
  simp [newA, hj, defaultValue]
theorem ArO.set {j : Nat} {v : Value} (F : ArO Z h a C n f) (W : Wr h h' a j v) : ArO Z h' a C n (upd f j v) := by
  obtain ⟨c, A, r1, r2, r3, r4⟩ := F
  refine ⟨_, A.same W, (sz_set _ _ _).trans r1, r2, fun i hi => ?_, r4⟩
  by_cases q : i = j
  · subst q; rw [upd_hit]; simp [Cell.setSlot, r1, hi]
  · rw [upd_miss _ _ q, ← r3 i hi]
    simp only [Cell.setSlot]
    exact Array.getElem?_setIfInBounds_ne (fun y => q y.symm)
theorem ArO.sto {y : Addr} (F : ArO Z h a C n f) (I : Ins Z h y C true) : Sto Z h a (.ref y) := by obtain ⟨c, A, -, -, -, O⟩ := F; exact Sto.of A O I
end ArraysO
theorem g_anewarray (X : Stand p l e R s m args below meth c T locs cells slots) (hx : p.tables.exec = Jvm.exec) (hby : c.code = bytes) {Z : State} {a0 : Array Value} (hZ : Z.Warmed39 s.vm) {own C : String} {index : Nat} {h : Heap} {z : Int32} (hown : s.vm.findClass own = some m.cls) (w1 : (Jvm.Cond.classLink own index C).before a0 Z = true) (w2 : (Jvm.Cond.arrayOver (.object C)).before a0 Z = true) (eT : T.heap = h) (hd : decode bytes pc = .ok (.anewarray index, 3)) (hz : ¬ z < 0) (n : Nat) (hn : z.toNatClampNeg = n) (cap : Nat) (hcap : n ≤ cap) (hbig : cap * 8 ≤ 536870912) (hc : cells + 1 ≤ R.cells) (hl : slots + cap ≤ R.slots) (q : Nat) (hq : pc + 3 = q)
    (k : ∀ (T' : State) (h' : Heap) (a : Addr), a = h.size → Stand p l e R s m args below meth c T' locs (cells + 1) (slots + cap) → T'.heap = h' → Ext h h' → ArO Z h' a C n (fun _ => .null) → Goes p e below K (T'.setTop (mkF m q Ls (.ref a :: rest)))) : Goes p e below K (T.setTop (mkF m pc Ls (.int z :: rest))) := by
  subst hq
  obtain ⟨T', h', cA, X', e', E', A', O', st⟩ := newR X hx hZ hown w1 w2 eT (g := mkF m pc Ls (.int z :: rest)) rfl (hb hby hd) rfl hz (cap := cap) (by rw [hn]; exact hcap) hbig hc hl
  exact Goes.of st (k _ _ _ rfl X' e' E' (ArO.fresh A' O' hz hn))
theorem g_aastore (X : Stand p l e R s m args below meth c T locs cells slots) (hx : p.tables.exec = Jvm.exec) (hby : c.code = bytes) {Z : State} (hZ : Z.Warmed39 s.vm) {h : Heap} {a : Addr} {n : Nat} {C : String} {f : Nat → Value} {j : Int32} {x : Value} (eT : T.heap = h) (F : ArO Z h a C n f) (S : Sto Z h a x) (hd : decode bytes pc = .ok (.aastore, 1)) (h0 : ¬ j < 0) (i : Nat) (hj : j.toNatClampNeg = i) (hi : i < n) (q : Nat) (hq : pc + 1 = q)
    (k : ∀ (T' : State) (h' : Heap), Stand p l e R s m args below meth c T' (locs ++ [⟨a, i⟩]) cells slots → T'.heap = h' → Wr h h' a i x → ArO Z h' a C n (upd f i x) → Goes p e below K (T'.setTop (mkF m q Ls rest))) : Goes p e below K (T.setTop (mkF m pc Ls (x :: .int j :: .ref a :: rest))) := by
  subst hq
  have F' := F
  obtain ⟨cl, A, r1, r2, r3, r4⟩ := F'
  obtain ⟨T', h', X', e', W', st⟩ := stR X hx hZ eT A (own_in r1 h0 hj hi) rfl S (g := mkF m pc Ls (x :: .int j :: .ref a :: rest)) rfl rfl (hb hby hd)
  rw [hj] at X' W'
  exact Goes.of st (k _ _ X' e' W' (ArO.set F W'))
theorem g_checkcast (X : Stand p l e R s m args below meth c T locs cells slots) (hx : p.tables.exec = Jvm.exec) (hby : c.code = bytes) {Z : State} {a0 : Array Value} (hZ : Z.Warmed39 s.vm) {own C : String} {index : Nat} {h : Heap} {a : Addr} (hown : s.vm.findClass own = some m.cls) (w : (Jvm.Cond.classLink own index C).before a0 Z = true) (eT : T.heap = h) (I : Ins Z h a C true) (hd : decode bytes pc = .ok (.checkcast index, 3)) (q : Nat) (hq : pc + 3 = q)
    (k : ∀ T' : State, Stand p l e R s m args below meth c T' locs cells slots → T'.heap = h → Goes p e below K (T'.setTop (mkF m q Ls (.ref a :: rest)))) : Goes p e below K (T.setTop (mkF m pc Ls (.ref a :: rest))) := by
  subst hq
  obtain ⟨T', X', e', st⟩ := castY X hx hZ hown w eT I (g := mkF m pc Ls (.ref a :: rest)) rfl rfl (hb hby hd)
  exact Goes.of st (k _ X' e')
theorem g_getstatic (X : Stand p l e R s m args below meth c T locs cells slots) (hx : p.tables.exec = Jvm.exec) (hby : c.code = bytes) {Z : State} {a0 : Array Value} (hZ : Z.Warmed39 s.vm) {own R0 O n d host : String} {index : Nat} {h : Heap} {v : Value} (hown : s.vm.findClass own = some m.cls) (w : (Jvm.Cond.fieldLink own index R0 n d).before a0 Z = true ∨ (Jvm.Cond.fieldLinkNest own index R0 n d host).before a0 Z = true) (via : Via Z R0 O n d) (eT : T.heap = h) (F : Sta Z h O n d v) (hd : decode bytes pc = .ok (.getstatic index, 3)) (q : Nat) (hq : pc + 3 = q)
    (k : ∀ T' : State, Stand p l e R s m args below meth c T' locs cells slots → T'.heap = h → Goes p e below K (T'.setTop (mkF m q Ls (v :: rest)))) : Goes p e below K (T.setTop (mkF m pc Ls rest)) := by
  subst hq
  obtain ⟨T', X', e', st⟩ := getS2 X hx hZ hown w via eT F (g := mkF m pc Ls rest) rfl (hb hby hd)
  exact Goes.of st (k _ X' e')
theorem own_fm {r n d : String} (h1 : r ≠ "java/lang/invoke/MethodHandle") (h2 : r ≠ "java/lang/invoke/VarHandle") : ((Jvm.Cond.interfaceMethod r r n d).onTables && (Jvm.Cond.interfaceMethod r r n d).keepsFace) = true := by
  have e : ((Jvm.Cond.interfaceMethod r r n d).onTables && (Jvm.Cond.interfaceMethod r r n d).keepsFace) = (r == r && r != "java/lang/invoke/MethodHandle" && r != "java/lang/invoke/VarHandle") := rfl
  rw [e]; simp [h1, h2]
theorem g_interface (X : Stand p l e R s m args below meth c T locs cells slots) (hx : p.tables.exec = Jvm.exec) (hby : c.code = bytes) {Z : State} {a0 : Array Value} (hZ : Z.Warmed39 s.vm) {own : String} {index : Nat} {y : MethodName} {cb : ByteArray} {maxL : Nat} {ret : Option FieldType} {rm : Room} {Q : Option Value → Heap → List Loc → Prop} {h : Heap} {z : MethodName} {C : String} {count : Nat} (hown : s.vm.findClass own = some m.cls) (w1 : (Jvm.Cond.methodLink own index y).before a0 Z = true) (w2 : (Jvm.Cond.declares y).before a0 Z = true) (w7 : (Jvm.Cond.interfaceMethod y.cls y.cls y.name y.desc).before a0 Z = true) (w5 : (Jvm.Cond.selects C y z).before a0 Z = true) (w6 : (Jvm.Cond.instanceMethod z).before a0 Z = true) (w8 : (Jvm.Cond.publicMethod z).before a0 Z = true) (w9 : (Jvm.Cond.unhidden C y.name y.desc).before a0 Z = true) (w10 : (Jvm.Cond.castable C y.cls).before a0 Z = true) (w3 : (Jvm.Cond.initialized z.cls).before a0 Z = true) (w4 : (Jvm.Cond.code z cb maxL ret).before a0 Z = true)
    (hd : decode bytes pc = .ok (.invokeinterface index count, 5)) (a : Addr) (E : Exa Z h a C) (argsL rest : List Value) {st : List Value} (hM : Ctr l z cb maxL ret [] rm (.ref a :: argsL).toArray Z h Q) (eT : T.heap = h) (hst : st = argsL.reverse ++ .ref a :: rest) (hsz : Ls.size = c.maxLocals) {ps : List FieldType} {rt : Option FieldType} (hpd : parseMethodDescriptor y.desc = some ⟨ps, rt⟩) (hlen : argsL.length = ps.length)
    (hy : y.cls ≠ "java/lang/invoke/MethodHandle" ∧ y.cls ≠ "java/lang/invoke/VarHandle") (W : Nat) (hW : (rest.map fun v => v.category).sum ≤ W) (hf : rm.frames + 1 ≤ R.frames) (hl : W + (maxL + 11) + rm.locals ≤ R.locals) (hc : cells + rm.cells ≤ R.cells) (hs : slots + rm.slots ≤ R.slots) (q : Nat) (hq : pc + 5 = q)
    (k : ∀ (T' : State) (v : Option Value) (L : List Loc), Stand p l e R s m args below meth c T' (locs ++ L) (cells + rm.cells) (slots + rm.slots) → Q v T'.heap L → Goes p e below K (T'.setTop (mkF m q Ls (v.toList ++ rest)))) : Goes p e below K (T.setTop (mkF m pc Ls st)) := by
  subst hq hst
  obtain ⟨cq, kq, qa, qb, qc⟩ := isOf hZ eT E
  obtain ⟨v, _, ⟨T', L', k', n'⟩, -, X', ⟨Lc, hQ, l1, y1, z1⟩, st⟩ := X.interfaceBack hx (xi := y) (y := z) hown (mvT hZ w1) (mvT hZ w2) (mvT hZ w7 (own_fm hy.1 hy.2)) (mvT hZ w5) (mvT hZ w6) (mvT hZ w8) (mvT hZ w9) (mvT hZ w10) hy (backOf (W := W) hM hZ w4 w3 hf hl) qa qb qc (g := mkF m pc Ls (argsL.reverse ++ .ref a :: rest)) rfl hsz (Steps.refl _) (argsL := argsL) (rest := rest) (lenOf hpd hlen) rfl (by show 2 * 0 + _ ≤ _; omega) (hb hby hd) (fun _ _ => ⟨rfl, eT, hc, hs⟩)
  dsimp only [Pt.U, Pt.locs, Pt.cells, Pt.slots] at X' l1 y1 z1 st hQ
  subst l1 y1 z1
  exact Goes.of (fun t kt => st.trans kt) (k _ _ _ X' hQ)
end OwnKit
theorem byte2 (x : Int32) : x.toInt8.toInt32.toInt8.toInt32 = x.toInt8.toInt32 := by simp
theorem own_ite01 {P : Prop} [Decidable P] : (if P then (1 : Int32) else 0) = 0 ∨ (if P then (1 : Int32) else 0) = 1 := by by_cases h : P <;> simp [h]
theorem own_and31 (x : Int32) : (x &&& (2147483647 : Int32)).toInt = x.toInt % 2147483648 := c_mask x 2147483647 31 (by decide) (by decide)
theorem own_rem (x k : Int32) (d : Int) (hk : k.toInt = d) (hd : 0 < d) : 0 ≤ ((x &&& (2147483647 : Int32)) % k).toInt ∧ ((x &&& (2147483647 : Int32)) % k).toInt < d := by
  have h1 := own_and31 x
  have h2 := (c_irem (x &&& (2147483647 : Int32)) k d hk).1 (by omega)
  rw [h2]; exact ⟨Int.emod_nonneg _ (by omega), Int.emod_lt_of_pos _ hd⟩
theorem own_nn {j : Int32} (h : 0 ≤ j.toInt) : ¬ j < 0 := by
  rw [Int32.lt_iff_toInt_lt]; show ¬ j.toInt < 0; omega
theorem own_lt {j : Int32} {n : Nat} (h : j.toInt < n) (hn : 0 < n) : j.toNatClampNeg < n := by
  show j.toInt.toNat < n; omega

theorem d1_0 : decode prog_38_method_1_code 0 = .ok (.aload_n 0, 1) := by decide +kernel
theorem d1_1 : decode prog_38_method_1_code 1 = .ok (.invokespecial 1, 3) := by decide +kernel
theorem d1_4 : decode prog_38_method_1_code 4 = .ok (.aload_n 0, 1) := by decide +kernel
theorem d1_5 : decode prog_38_method_1_code 5 = .ok (.lload_n 1, 1) := by decide +kernel
theorem d1_6 : decode prog_38_method_1_code 6 = .ok (.putfield 7, 3) := by decide +kernel
theorem d1_9 : decode prog_38_method_1_code 9 = .ok (.return_, 1) := by decide +kernel
theorem pn1 : plainFor (⟨"com/example/strandloom/strandloom/engine/Task", "<init>", "(J)V"⟩ : MethodName) = true := plainFor_of_name (by first | (simp [plainName, overriddenIn]; done) | decide +kernel)
theorem ef1 (m : MethodId) (o : Addr) (sq : Int64) (dn : Int32) : entryFrame m #[(.ref o), (.long sq)] 3 = mkF m 0 #[.val (.ref o), .val (.long sq), .second] [] := by first | (simp [entryFrame, mkF, argsToLocals, Value.category]; done) | rfl
def Q1 (o : Addr) (sq : Int64) (dn : Int32) (Z : State) (h0 : Heap) (n0 : Nat) (v : Option Value) (h : Heap) (L : List Loc) : Prop := v = none ∧ Fr n0 L ∧ Keep h0 h [o] ∧ Exa Z h o "com/example/strandloom/strandloom/engine/Task" ∧ Fld Z h o "com/example/strandloom/strandloom/engine/Task" "sequence" "J" (.long sq) ∧ Fld Z h o "com/example/strandloom/strandloom/engine/Task" "done" "Z" (.int dn) ∧ Fld Z h o "com/example/strandloom/strandloom/engine/Task" "predecessors" "[Lcom/example/strandloom/strandloom/engine/Task;" .null
set_option maxRecDepth 65536 in
set_option maxHeartbeats 40000000 in
theorem rm1 (l : Launch) (Z : State) (a0 : Array Value) (hw : ∀ d ∈ tables_1, d.before a0 Z = true) (ws : List Jvm.Cond) (o : Addr) (sq : Int64) (dn : Int32) (h0 : Heap) (n0 : Nat) (Z0 : n0 ≤ h0.size) (E_o_0 : Exa Z h0 o "com/example/strandloom/strandloom/engine/Task") (F_o_sequence_0 : Fld Z h0 o "com/example/strandloom/strandloom/engine/Task" "sequence" "J" (.long (0 : Int64))) (F_o_done_0 : Fld Z h0 o "com/example/strandloom/strandloom/engine/Task" "done" "Z" (.int dn)) (F_o_predecessors_0 : Fld Z h0 o "com/example/strandloom/strandloom/engine/Task" "predecessors" "[Lcom/example/strandloom/strandloom/engine/Task;" .null) (gn_o : n0 ≤ o) : Ctr l (⟨"com/example/strandloom/strandloom/engine/Task", "<init>", "(J)V"⟩ : MethodName) prog_38_method_1_code 3 none ws ({ frames := 1, cells := 0, slots := 0, locals := 12 } : Room) #[(.ref o), (.long sq)] Z h0 (Q1 o sq dn Z h0 n0) := by
  refine own_body pn1 ?_
  intro p e s m below meth c T0 hx hby hml hown hnm hret hlk hZ X0 e0
  have N0 := Fr.nil n0
  have K0 : Keep h0 h0 [o] := Keep.refl _ _
  refine Goes.entry (ef1 m o sq dn) ?_
  refine g_aloadN X0 hx hby d1_0 rfl rfl 1 rfl ?_
  refine g_initO X0 hx hby hZ hown (hw _ (List.mem_of_getElem? (i := 6) rfl)) (hw _ (List.mem_of_getElem? (i := 7) rfl)) (hw _ (List.mem_of_getElem? (i := 8) rfl)) d1_1 e0 (by rw [hml]; rfl) 0 (Nat.le_of_eq rfl) (by decide) (by decide) 4 rfl ?_
  intro T1 X1 e1
  refine g_aloadN X1 hx hby d1_4 rfl rfl 5 rfl ?_
  refine g_lloadN X1 hx hby d1_5 rfl 6 rfl ?_
  refine g_putfield X1 hx hby hZ hown (host := "") (Or.inl (hw _ (List.mem_of_getElem? (i := 9) rfl))) Via.refl e1 F_o_sequence_0 E_o_0 (Or.inr ⟨(hw _ (List.mem_of_getElem? (i := 10) rfl)), rfl, hnm⟩) (hw _ (List.mem_of_getElem? (i := 1) rfl)) (ty := .long) (by decide) rfl rfl d1_6 9 rfl ?_
  intro T2 h2 X2 e2 W2
  have N2 := Fr.snoc X2 N0 gn_o
  have K2 := K0.wr W2 (Or.inl (List.mem_of_getElem? (i := 0) rfl))
  have Z2 : n0 ≤ h2.size := Nat.le_trans Z0 (Keep.of_wr W2).1
  have E_o_2 := E_o_0.wr W2
  have F_o_sequence_2 := F_o_sequence_0.same W2
  have F_o_done_2 := F_o_done_0.other W2 (Or.inr (slot_ne (Or.inl (hw _ (List.mem_of_getElem? (i := 21) rfl))) (Or.inr (hw _ (List.mem_of_getElem? (i := 10) rfl))) (by decide) (t := .boolean) (t' := .long) (by decide) (by decide)))
  have F_o_predecessors_2 := F_o_predecessors_0.other W2 (Or.inr (slot_ne (Or.inl (hw _ (List.mem_of_getElem? (i := 24) rfl))) (Or.inr (hw _ (List.mem_of_getElem? (i := 10) rfl))) (by decide) (t := (.array (.object "com/example/strandloom/strandloom/engine/Task"))) (t' := .long) (by decide) (by decide)))
  exact g_return X2 hx hby hret hlk d1_9 (by rw [e2]; exact ⟨rfl, N2, K2, E_o_2, F_o_sequence_2, F_o_done_2, F_o_predecessors_2⟩) (by decide) (by decide)
theorem d4_0 : decode prog_38_method_7_code 0 = .ok (.aload_n 0, 1) := by decide +kernel
theorem d4_1 : decode prog_38_method_7_code 1 = .ok (.iconst 1, 1) := by decide +kernel
theorem d4_2 : decode prog_38_method_7_code 2 = .ok (.putfield 74, 3) := by decide +kernel
theorem d4_5 : decode prog_38_method_7_code 5 = .ok (.return_, 1) := by decide +kernel
theorem pn4 : plainFor (⟨"com/example/strandloom/strandloom/engine/Task", "markDone", "()V"⟩ : MethodName) = true := plainFor_of_name (by first | (simp [plainName, overriddenIn]; done) | decide +kernel)
theorem ef4 (m : MethodId) (o : Addr) (dn : Int32) : entryFrame m #[(.ref o)] 1 = mkF m 0 #[.val (.ref o)] [] := by first | (simp [entryFrame, mkF, argsToLocals, Value.category]; done) | rfl
def Q4 (o : Addr) (dn : Int32) (Z : State) (h0 : Heap) (n0 : Nat) (v : Option Value) (h : Heap) (L : List Loc) : Prop := v = none ∧ Fr n0 L ∧ Keep h0 h [o] ∧ Exa Z h o "com/example/strandloom/strandloom/engine/Task" ∧ Fld Z h o "com/example/strandloom/strandloom/engine/Task" "done" "Z" (.int (1 : Int32)) ∧ Fld Z h o "com/example/strandloom/strandloom/engine/Task" "predecessors" "[Lcom/example/strandloom/strandloom/engine/Task;" .null
set_option maxRecDepth 65536 in
set_option maxHeartbeats 40000000 in
theorem rm4 (l : Launch) (Z : State) (a0 : Array Value) (hw : ∀ d ∈ tables_1, d.before a0 Z = true) (ws : List Jvm.Cond) (o : Addr) (dn : Int32) (h0 : Heap) (n0 : Nat) (Z0 : n0 ≤ h0.size) (E_o_0 : Exa Z h0 o "com/example/strandloom/strandloom/engine/Task") (F_o_done_0 : Fld Z h0 o "com/example/strandloom/strandloom/engine/Task" "done" "Z" (.int dn)) (F_o_predecessors_0 : Fld Z h0 o "com/example/strandloom/strandloom/engine/Task" "predecessors" "[Lcom/example/strandloom/strandloom/engine/Task;" .null) (gn_o : n0 ≤ o) : Ctr l (⟨"com/example/strandloom/strandloom/engine/Task", "markDone", "()V"⟩ : MethodName) prog_38_method_7_code 1 none ws ({ frames := 0, cells := 0, slots := 0, locals := 0 } : Room) #[(.ref o)] Z h0 (Q4 o dn Z h0 n0) := by
  refine own_body pn4 ?_
  intro p e s m below meth c T0 hx hby hml hown hnm hret hlk hZ X0 e0
  have N0 := Fr.nil n0
  have K0 : Keep h0 h0 [o] := Keep.refl _ _
  refine Goes.entry (ef4 m o dn) ?_
  refine g_aloadN X0 hx hby d4_0 rfl rfl 1 rfl ?_
  refine g_iconst X0 hx hby d4_1 (1 : Int32) rfl 2 rfl ?_
  refine g_putfield X0 hx hby hZ hown (host := "") (Or.inl (hw _ (List.mem_of_getElem? (i := 20) rfl))) Via.refl e0 F_o_done_0 E_o_0 (Or.inl (hw _ (List.mem_of_getElem? (i := 21) rfl))) (hw _ (List.mem_of_getElem? (i := 1) rfl)) (ty := .boolean) (by decide) rfl rfl d4_2 5 rfl ?_
  intro T1 h1 X1 e1 W1
  have N1 := Fr.snoc X1 N0 gn_o
  have K1 := K0.wr W1 (Or.inl (List.mem_of_getElem? (i := 0) rfl))
  have Z1 : n0 ≤ h1.size := Nat.le_trans Z0 (Keep.of_wr W1).1
  have E_o_1 := E_o_0.wr W1
  have F_o_done_1 := F_o_done_0.same W1
  have F_o_predecessors_1 := F_o_predecessors_0.other W1 (Or.inr (slot_ne (Or.inl (hw _ (List.mem_of_getElem? (i := 24) rfl))) (Or.inl (hw _ (List.mem_of_getElem? (i := 21) rfl))) (by decide) (t := (.array (.object "com/example/strandloom/strandloom/engine/Task"))) (t' := .boolean) (by decide) (by decide)))
  exact g_return X1 hx hby hret hlk d4_5 (by rw [e1]; exact ⟨rfl, N1, K1, E_o_1, F_o_done_1, F_o_predecessors_1⟩) (by decide) (by decide)
def TK : String := "com/example/strandloom/strandloom/engine/Task"
def TV (Z : State) (h : Heap) (n0 : Nat) (r : Value) (kd : Int32) : Prop := (kd = 0 ∧ r = .null) ∨ (¬ kd = 0 ∧ ∃ b : Addr, r = .ref b ∧ Exa Z h b "com/example/strandloom/strandloom/engine/Task" ∧ Fld Z h b "com/example/strandloom/strandloom/engine/Task" "done" "Z" (.int (if kd < 2 then 0 else 1)))
section TVs
variable {Z : State} {a0 : Array Value} {h h' : Heap} {n0 : Nat} {r : Value} {kd : Int32}
theorem TV.isRef (F : TV Z h n0 r kd) : r.isRef = true := by rcases F with ⟨-, rfl⟩ | ⟨-, b, rfl, -⟩ <;> rfl
theorem TV.ext (F : TV Z h n0 r kd) (E : Ext h h') : TV Z h' n0 r kd := F.imp id fun ⟨q, b, h1, h2, h3⟩ => ⟨q, b, h1, h2.ext E, Fld.ext E h3⟩
theorem TV.keep (F : TV Z h n0 r kd) (K : Keep h h' []) : TV Z h' n0 r kd := F.imp id fun ⟨q, b, h1, h2, h3⟩ => ⟨q, b, h1, h2.keep K, h3.keep K nin0⟩
theorem TV.arr {a : Addr} {n j : Nat} {f : Nat → Value} {v : Value} (wi : (Jvm.Cond.instantiable "com/example/strandloom/strandloom/engine/Task" 11).before a0 Z = true) (F : TV Z h n0 r kd) (A : ArO Z h a "com/example/strandloom/strandloom/engine/Task" n f) (W : Wr h h' a j v) : TV Z h' n0 r kd := F.imp id fun ⟨q, b, h1, h2, h3⟩ => by
  obtain ⟨c, A', -⟩ := A
  exact ⟨q, b, h1, h2.wr W, Fld.other W h3 (Or.inl (ne_arr h2 wi A'))⟩
theorem TV.pred {a : Addr} {v : Value} (ld : Laid Z a0 "com/example/strandloom/strandloom/engine/Task" "com/example/strandloom/strandloom/engine/Task" "done" "Z") (lp : Laid Z a0 "com/example/strandloom/strandloom/engine/Task" "com/example/strandloom/strandloom/engine/Task" "predecessors" "[Lcom/example/strandloom/strandloom/engine/Task;") (F : TV Z h n0 r kd) (W : Wr h h' a (Jvm.RoadKit.slotOf Z "com/example/strandloom/strandloom/engine/Task" "predecessors" "[Lcom/example/strandloom/strandloom/engine/Task;") v) : TV Z h' n0 r kd := F.imp id fun ⟨q, b, h1, h2, h3⟩ =>
  ⟨q, b, h1, h2.wr W, Fld.other W h3 (Or.inr (slot_ne ld lp (by decide) (t := .boolean) (t' := .array (.object "com/example/strandloom/strandloom/engine/Task")) (by decide) (by decide)))⟩
theorem TV.sto {a : Addr} {n : Nat} {f : Nat → Value} (F : TV Z h n0 r kd) (A : ArO Z h a "com/example/strandloom/strandloom/engine/Task" n f) : Sto Z h a r := by
  rcases F with ⟨-, rfl⟩ | ⟨-, b, rfl, h2, -⟩
  · exact Or.inl rfl
  · exact A.sto (Ins.self h2)
end TVs
theorem pd0 : parseMethodDescriptor "(J)V" = some ⟨[.long], none⟩ := by decide +kernel
theorem pd1 : parseMethodDescriptor "()V" = some ⟨[], none⟩ := by decide +kernel
theorem d3_0 : decode method_2_code 0 = .ok (.iload_n 0, 1) := by decide +kernel
theorem d3_1 : decode method_2_code 1 = .ok (.ifCond .ne 5, 3) := by decide +kernel
theorem d3_4 : decode method_2_code 4 = .ok (.aconst_null, 1) := by decide +kernel
theorem d3_5 : decode method_2_code 5 = .ok (.areturn, 1) := by decide +kernel
theorem d3_6 : decode method_2_code 6 = .ok (.new 7, 3) := by decide +kernel
theorem d3_9 : decode method_2_code 9 = .ok (.dup, 1) := by decide +kernel
theorem d3_10 : decode method_2_code 10 = .ok (.lload_n 1, 1) := by decide +kernel
theorem d3_11 : decode method_2_code 11 = .ok (.invokespecial 9, 3) := by decide +kernel
theorem d3_14 : decode method_2_code 14 = .ok (.astore_n 3, 1) := by decide +kernel
theorem d3_15 : decode method_2_code 15 = .ok (.iload_n 0, 1) := by decide +kernel
theorem d3_16 : decode method_2_code 16 = .ok (.iconst 2, 1) := by decide +kernel
theorem d3_17 : decode method_2_code 17 = .ok (.if_icmp .lt 7, 3) := by decide +kernel
theorem d3_20 : decode method_2_code 20 = .ok (.aload_n 3, 1) := by decide +kernel
theorem d3_21 : decode method_2_code 21 = .ok (.invokevirtual 12, 3) := by decide +kernel
theorem d3_24 : decode method_2_code 24 = .ok (.aload_n 3, 1) := by decide +kernel
theorem d3_25 : decode method_2_code 25 = .ok (.areturn, 1) := by decide +kernel
theorem pn3 : plainFor (⟨"com/example/strandloom/strandloom/engine/TaskPredecessorsDonePinLaw", "make", "(IJ)Lcom/example/strandloom/strandloom/engine/Task;"⟩ : MethodName) = true := plainFor_of_name (by first | (simp [plainName, overriddenIn]; done) | decide +kernel)
theorem ef3 (m : MethodId) (kd : Int32) (sq : Int64) : entryFrame m #[(.int kd), (.long sq)] 4 = mkF m 0 #[.val (.int kd), .val (.long sq), .second, .unset] [] := by first | (simp [entryFrame, mkF, argsToLocals, Value.category]; done) | rfl
def Q3 (kd : Int32) (sq : Int64) (Z : State) (h0 : Heap) (n0 : Nat) (v : Option Value) (h : Heap) (L : List Loc) : Prop := ∃ r : Value, v = some r ∧ Fr n0 L ∧ Keep h0 h [] ∧ n0 ≤ h.size ∧ TV Z h n0 r kd
set_option maxRecDepth 65536 in
set_option maxHeartbeats 40000000 in
theorem rm3 (l : Launch) (Z : State) (a0 : Array Value) (hw : ∀ d ∈ tables_1, d.before a0 Z = true) (ws : List Jvm.Cond) (kd : Int32) (sq : Int64) (h0 : Heap) (n0 : Nat) (Z0 : n0 ≤ h0.size) : Ctr l (⟨"com/example/strandloom/strandloom/engine/TaskPredecessorsDonePinLaw", "make", "(IJ)Lcom/example/strandloom/strandloom/engine/Task;"⟩ : MethodName) method_2_code 4 (some (.object "com/example/strandloom/strandloom/engine/Task")) ws ({ frames := 2, cells := 1, slots := 11, locals := 27 } : Room) #[(.int kd), (.long sq)] Z h0 (Q3 kd sq Z h0 n0) := by
  refine own_body pn3 ?_
  intro p e s m below meth c T0 hx hby hml hown hnm hret hlk hZ X0 e0
  have N0 := Fr.nil n0
  have K0 : Keep h0 h0 [] := Keep.refl _ _
  refine Goes.entry (ef3 m kd sq) ?_
  refine g_iloadN X0 hx hby d3_0 rfl 1 rfl ?_
  refine g_if_ne X0 hx hby d3_1 6 4 (by decide) (by decide) rfl (fun c1 => ?_) (fun c1 => ?_)
  · -- c1
    refine g_aconst_null X0 hx hby d3_4 5 rfl ?_
    exact g_areturn X0 hx hby hret hlk rfl rfl rfl d3_5 (by rw [e0]; exact ⟨_, rfl, N0, K0, Z0, Or.inl ⟨c1, rfl⟩⟩) (by decide) (by decide)
  · -- not c1
    refine g_new X0 hx hby hZ hown (hw _ (List.mem_of_getElem? (i := 0) rfl)) (hw _ (List.mem_of_getElem? (i := 1) rfl)) (hw _ (List.mem_of_getElem? (i := 2) rfl)) e0 d3_6 (by decide) (by decide) 9 rfl ?_
    intro T2 h2 b2 g2 X2 e2 E2 A2 D2
    have gn_b2 : n0 ≤ b2 := Nat.le_trans Z0 (Nat.le_of_eq g2.symm)
    have sz_b2 : h0.size ≤ b2 := Nat.le_trans K0.1 (Nat.le_of_eq g2.symm)
    have K2 := K0.ext E2
    have Z2 : n0 ≤ h2.size := Nat.le_trans Z0 E2.1
    have Fb2_sequence_0 : Fld Z h2 b2 "com/example/strandloom/strandloom/engine/Task" "sequence" "J" (.long (0 : Int64)) := D2 (Or.inr (hw _ (List.mem_of_getElem? (i := 10) rfl))) (ty := .long) (by decide)
    have Fb2_done_0 : Fld Z h2 b2 "com/example/strandloom/strandloom/engine/Task" "done" "Z" (.int (0 : Int32)) := D2 (Or.inl (hw _ (List.mem_of_getElem? (i := 21) rfl))) (ty := .boolean) (by decide)
    have Fb2_predecessors_0 : Fld Z h2 b2 "com/example/strandloom/strandloom/engine/Task" "predecessors" "[Lcom/example/strandloom/strandloom/engine/Task;" .null := D2 (Or.inl (hw _ (List.mem_of_getElem? (i := 24) rfl))) (ty := (.array (.object "com/example/strandloom/strandloom/engine/Task"))) (by decide)
    refine g_dup X2 hx hby d3_9 rfl 10 rfl ?_
    refine g_lloadN X2 hx hby d3_10 rfl 11 rfl ?_
    refine g_special X2 hx hby hZ hown rfl (hw _ (List.mem_of_getElem? (i := 3) rfl)) (hw _ (List.mem_of_getElem? (i := 4) rfl)) (hw _ (List.mem_of_getElem? (i := 2) rfl)) (hw _ (List.mem_of_getElem? (i := 5) rfl)) d3_11 b2 [(.long sq)] [(.ref b2)] (rm1 l Z a0 hw [] b2 sq (0 : Int32) h2 n0 Z2 A2 Fb2_sequence_0 Fb2_done_0 Fb2_predecessors_0 gn_b2) e2 rfl (by rw [hml]; rfl) pd0 rfl (by decide) 1 (Nat.le_of_eq rfl) (by decide) (by decide) (by decide) (by decide) 14 rfl ?_
    intro T3 v3 L3 X3 Q3
    obtain ⟨rfl, N3', K3', P3x0, P3x1, P3x2, P3x3⟩ := Q3
    have N3 := Fr.app N0 N3'
    have Z3 : n0 ≤ T3.heap.size := Nat.le_trans Z2 K3'.1
    have K3 := K2.trans K3' (allS (Or.inr sz_b2) all0)
    have A2_3 := A2.keep K3'
    show Goes p e below _ (T3.setTop (mkF m 14 _ [(.ref b2)]))
    refine g_astoreN X3 hx hby d3_14 rfl #[.val (.int kd), .val (.long sq), .second, .val (.ref b2)] rfl 15 rfl ?_
    refine g_iloadN X3 hx hby d3_15 rfl 16 rfl ?_
    refine g_iconst X3 hx hby d3_16 (2 : Int32) rfl 17 rfl ?_
    refine g_icmp_lt X3 hx hby d3_17 24 20 (by decide) (by decide) rfl (fun c4 => ?_) (fun c4 => ?_)
    · -- c4
      refine g_aloadN X3 hx hby d3_24 rfl rfl 25 rfl ?_
      exact g_areturn X3 hx hby hret hlk rfl rfl rfl d3_25 (by exact ⟨_, rfl, N3, K3, Z3, Or.inr ⟨c1, b2, rfl, P3x0, (by rw [if_pos c4]; exact P3x2)⟩⟩) (by decide) (by decide)
    · -- not c4
      refine g_aloadN X3 hx hby d3_20 rfl rfl 21 rfl ?_
      refine g_virtual X3 hx hby hZ hown (hw _ (List.mem_of_getElem? (i := 15) rfl)) (hw _ (List.mem_of_getElem? (i := 16) rfl)) (notFace_of_selects (args := #[]) (mvT hZ (hw _ (List.mem_of_getElem? (i := 18) rfl)))) (hw _ (List.mem_of_getElem? (i := 18) rfl)) (hw _ (List.mem_of_getElem? (i := 17) rfl)) (hw _ (List.mem_of_getElem? (i := 2) rfl)) (hw _ (List.mem_of_getElem? (i := 19) rfl)) d3_21 b2 P3x0 [] [] (rm4 l Z a0 hw [] b2 (0 : Int32) T3.heap n0 Z3 P3x0 P3x2 P3x3 gn_b2) rfl rfl (by rw [hml]; rfl) pd1 rfl (by decide) 0 (Nat.le_of_eq rfl) (by decide) (by decide) (by decide) (by decide) 24 rfl ?_
      intro T5 v5 L5 X5 Q5
      obtain ⟨rfl, N5', K5', P5x0, P5x1, P5x2⟩ := Q5
      have N5 := Fr.app N3 N5'
      have Z5 : n0 ≤ T5.heap.size := Nat.le_trans Z3 K5'.1
      have K5 := K3.trans K5' (allS (Or.inr sz_b2) all0)
      have P3x0_5 := P3x0.keep K5'
      show Goes p e below _ (T5.setTop (mkF m 24 _ []))
      refine g_aloadN X5 hx hby d3_24 rfl rfl 25 rfl ?_
      exact g_areturn X5 hx hby hret hlk rfl rfl rfl d3_25 (by exact ⟨_, rfl, N5, K5, Z5, Or.inr ⟨c1, b2, rfl, P5x0, (by rw [if_neg c4]; exact P5x1)⟩⟩) (by decide) (by decide)
def pdN  : Int32 := (1 : Int32)
theorem d5_0 : decode prog_38_method_5_code 0 = .ok (.aload_n 0, 1) := by decide +kernel
theorem d5_1 : decode prog_38_method_5_code 1 = .ok (.getfield 56, 3) := by decide +kernel
theorem d5_4 : decode prog_38_method_5_code 4 = .ok (.ifnonnull 5, 3) := by decide +kernel
theorem d5_7 : decode prog_38_method_5_code 7 = .ok (.iconst 1, 1) := by decide +kernel
theorem d5_8 : decode prog_38_method_5_code 8 = .ok (.ireturn, 1) := by decide +kernel
theorem d5_9 : decode prog_38_method_5_code 9 = .ok (.aload_n 0, 1) := by decide +kernel
theorem d5_10 : decode prog_38_method_5_code 10 = .ok (.getfield 56, 3) := by decide +kernel
theorem d5_13 : decode prog_38_method_5_code 13 = .ok (.astore_n 1, 1) := by decide +kernel
theorem d5_14 : decode prog_38_method_5_code 14 = .ok (.aload_n 1, 1) := by decide +kernel
theorem d5_15 : decode prog_38_method_5_code 15 = .ok (.arraylength, 1) := by decide +kernel
theorem d5_16 : decode prog_38_method_5_code 16 = .ok (.istore_n 2, 1) := by decide +kernel
theorem d5_17 : decode prog_38_method_5_code 17 = .ok (.iconst 0, 1) := by decide +kernel
theorem d5_18 : decode prog_38_method_5_code 18 = .ok (.istore_n 3, 1) := by decide +kernel
theorem d5_19 : decode prog_38_method_5_code 19 = .ok (.iload_n 3, 1) := by decide +kernel
theorem d5_20 : decode prog_38_method_5_code 20 = .ok (.iload_n 2, 1) := by decide +kernel
theorem d5_21 : decode prog_38_method_5_code 21 = .ok (.if_icmp .ge 29, 3) := by decide +kernel
theorem d5_24 : decode prog_38_method_5_code 24 = .ok (.aload_n 1, 1) := by decide +kernel
theorem d5_25 : decode prog_38_method_5_code 25 = .ok (.iload_n 3, 1) := by decide +kernel
theorem d5_26 : decode prog_38_method_5_code 26 = .ok (.aaload, 1) := by decide +kernel
theorem d5_27 : decode prog_38_method_5_code 27 = .ok (.astore 4, 2) := by decide +kernel
theorem d5_29 : decode prog_38_method_5_code 29 = .ok (.aload 4, 2) := by decide +kernel
theorem d5_31 : decode prog_38_method_5_code 31 = .ok (.ifnull 13, 3) := by decide +kernel
theorem d5_34 : decode prog_38_method_5_code 34 = .ok (.aload 4, 2) := by decide +kernel
theorem d5_36 : decode prog_38_method_5_code 36 = .ok (.getfield 74, 3) := by decide +kernel
theorem d5_39 : decode prog_38_method_5_code 39 = .ok (.ifCond .ne 5, 3) := by decide +kernel
theorem d5_42 : decode prog_38_method_5_code 42 = .ok (.iconst 0, 1) := by decide +kernel
theorem d5_43 : decode prog_38_method_5_code 43 = .ok (.ireturn, 1) := by decide +kernel
theorem d5_44 : decode prog_38_method_5_code 44 = .ok (.iinc 3 1, 3) := by decide +kernel
theorem d5_47 : decode prog_38_method_5_code 47 = .ok (.goto (-28), 3) := by decide +kernel
theorem d5_50 : decode prog_38_method_5_code 50 = .ok (.iconst 1, 1) := by decide +kernel
theorem d5_51 : decode prog_38_method_5_code 51 = .ok (.ireturn, 1) := by decide +kernel
theorem pn5n : plainFor (⟨"com/example/strandloom/strandloom/engine/Task", "predecessorsDone", "()Z"⟩ : MethodName) = true := plainFor_of_name (by first | (simp [plainName, overriddenIn]; done) | decide +kernel)
theorem ef5n (m : MethodId) (o : Addr) : entryFrame m #[(.ref o)] 5 = mkF m 0 #[.val (.ref o), .unset, .unset, .unset, .unset] [] := by first | (simp [entryFrame, mkF, argsToLocals, Value.category]; done) | rfl
def Q5n (o : Addr) (Z : State) (h0 : Heap) (n0 : Nat) (v : Option Value) (h : Heap) (L : List Loc) : Prop := v = some (.int (pdN )) ∧ Fr n0 L ∧ h = h0
set_option maxRecDepth 65536 in
set_option maxHeartbeats 40000000 in
theorem rm5n (l : Launch) (Z : State) (a0 : Array Value) (hw : ∀ d ∈ tables_1, d.before a0 Z = true) (ws : List Jvm.Cond) (o : Addr) (h0 : Heap) (n0 : Nat) (Z0 : n0 ≤ h0.size) (F_o_predecessors_0 : Fld Z h0 o "com/example/strandloom/strandloom/engine/Task" "predecessors" "[Lcom/example/strandloom/strandloom/engine/Task;" .null) : Ctr l (⟨"com/example/strandloom/strandloom/engine/Task", "predecessorsDone", "()Z"⟩ : MethodName) prog_38_method_5_code 5 (some .boolean) ws ({ frames := 0, cells := 0, slots := 0, locals := 0 } : Room) #[(.ref o)] Z h0 (Q5n o Z h0 n0) := by
  refine own_body pn5n ?_
  intro p e s m below meth c T0 hx hby hml hown hnm hret hlk hZ X0 e0
  have N0 := Fr.nil n0
  refine Goes.entry (ef5n m o) ?_
  refine g_aloadN X0 hx hby d5_0 rfl rfl 1 rfl ?_
  refine g_getfield X0 hx hby hZ hown (host := "") (Or.inl (hw _ (List.mem_of_getElem? (i := 30) rfl))) Via.refl e0 F_o_predecessors_0 d5_1 4 rfl ?_
  intro T1 X1 e1
  refine g_ifnonnull_no X1 hx hby d5_4 7 rfl ?_
  refine g_iconst X1 hx hby d5_7 (1 : Int32) rfl 8 rfl ?_
  exact g_ireturn X1 hx hby hret hlk (Or.inr (Or.inl rfl)) (nar_bool (Or.inr rfl)) d5_8 (by exact ⟨congrArg (fun z => some (Value.int z)) rfl, N0, e1⟩) (by decide) (by decide)
def allB (dn : Nat → Bool) : Nat → Bool
  | 0 => true
  | k + 1 => allB dn k && dn k
theorem allB_false {dn : Nat → Bool} {i : Nat} : ∀ {n : Nat}, i < n → dn i = false → allB dn n = false
  | 0, h, _ => absurd h (Nat.not_lt_zero _)
  | n + 1, h, q => by
    by_cases r : i = n
    · subst r; simp [allB, q]
    · simp [allB, allB_false (n := n) (by omega) q]
def Elem (Z : State) (h : Heap) (r : Value) (d : Bool) : Prop := (r = .null ∧ d = true) ∨ ∃ b : Addr, r = .ref b ∧ Fld Z h b "com/example/strandloom/strandloom/engine/Task" "done" "Z" (.int (if d = true then 1 else 0))
theorem own_nt {n : Nat} (h : n < 2 ^ 31) : n.toInt32.toInt = n := len_toInt h
theorem own_i1 {i : Int32} {n : Nat} (h : i.toInt = n) (hn : n < 100) : (i + 1).toInt = (n + 1 : Nat) := by
  have h1 := c_iadd i 1
  have h2 := rng32 (i + 1)
  have e1 : (1 : Int32).toInt = 1 := rfl
  omega
theorem own_clamp {i : Int32} {n : Nat} (h : i.toInt = n) : i.toNatClampNeg = n := by
  show i.toInt.toNat = n; omega
theorem own_ltn {i : Int32} {j n : Nat} (hi : i.toInt = j) (hn : n ≤ 3) (q : i < n.toInt32) : j < n := by
  rw [Int32.lt_iff_toInt_lt, own_nt (by omega)] at q; omega
theorem own_gen {i : Int32} {j n : Nat} (hi : i.toInt = j) (hn : n ≤ 3) (hj : j ≤ n) (q : ¬ i < n.toInt32) : j = n := by
  rw [Int32.lt_iff_toInt_lt, own_nt (by omega)] at q; omega
theorem d_ne {d : Bool} (q : ¬ (if d = true then (1 : Int32) else 0) = 0) : d = true := by cases d <;> simp_all
theorem d_eq {d : Bool} (q : (if d = true then (1 : Int32) else 0) = 0) : d = false := by cases d <;> simp_all

theorem pn5a : plainFor (⟨"com/example/strandloom/strandloom/engine/Task", "predecessorsDone", "()Z"⟩ : MethodName) = true := plainFor_of_name (by first | (simp [plainName, overriddenIn]; done) | decide +kernel)
theorem ef5a (m : MethodId) (o : Addr) (ar : Addr) (n : Nat) (g : Nat → Value) (dn : Nat → Bool) : entryFrame m #[(.ref o)] 5 = mkF m 0 #[.val (.ref o), .unset, .unset, .unset, .unset] [] := by first | (simp [entryFrame, mkF, argsToLocals, Value.category]; done) | rfl
def Q5a (o : Addr) (ar : Addr) (n : Nat) (g : Nat → Value) (dn : Nat → Bool) (Z : State) (h0 : Heap) (n0 : Nat) (v : Option Value) (h : Heap) (L : List Loc) : Prop := v = some (.int (if allB dn n = true then 1 else 0)) ∧ Fr n0 L ∧ h = h0
set_option maxRecDepth 65536 in
set_option maxHeartbeats 40000000 in
theorem rm5a (l : Launch) (Z : State) (a0 : Array Value) (hw : ∀ d ∈ tables_1, d.before a0 Z = true) (ws : List Jvm.Cond) (o : Addr) (ar : Addr) (n : Nat) (g : Nat → Value) (dn : Nat → Bool) (h0 : Heap) (n0 : Nat) (Z0 : n0 ≤ h0.size) (F_o_predecessors_0 : Fld Z h0 o "com/example/strandloom/strandloom/engine/Task" "predecessors" "[Lcom/example/strandloom/strandloom/engine/Task;" (.ref ar)) (hO : ArO Z h0 ar "com/example/strandloom/strandloom/engine/Task" n g) (hn : n ≤ 3) (hE : ∀ j, j < n → Elem Z h0 (g j) (dn j)) : Ctr l (⟨"com/example/strandloom/strandloom/engine/Task", "predecessorsDone", "()Z"⟩ : MethodName) prog_38_method_5_code 5 (some .boolean) ws ({ frames := 0, cells := 0, slots := 0, locals := 0 } : Room) #[(.ref o)] Z h0 (Q5a o ar n g dn Z h0 n0) := by
  refine own_body pn5a ?_
  intro p e s m below meth c T0 hx hby hml hown hnm hret hlk hZ X0 e0
  have N0 := Fr.nil n0
  refine Goes.entry (ef5a m o ar n g dn) ?_
  refine g_aloadN X0 hx hby d5_0 rfl rfl 1 rfl ?_
  refine g_getfield X0 hx hby hZ hown (host := "") (Or.inl (hw _ (List.mem_of_getElem? (i := 30) rfl))) Via.refl e0 F_o_predecessors_0 d5_1 4 rfl ?_
  intro T1 X1 e1
  refine g_ifnonnull_yes X1 hx hby d5_4 9 (by decide) (by decide) ?_
  refine g_aloadN X1 hx hby d5_9 rfl rfl 10 rfl ?_
  refine g_getfield X1 hx hby hZ hown (host := "") (Or.inl (hw _ (List.mem_of_getElem? (i := 30) rfl))) Via.refl e1 F_o_predecessors_0 d5_10 13 rfl ?_
  intro T2 X2 e2
  refine g_astoreN X2 hx hby d5_13 rfl #[.val (.ref o), .val (.ref ar), .unset, .unset, .unset] rfl 14 rfl ?_
  refine g_aloadN X2 hx hby d5_14 rfl rfl 15 rfl ?_
  refine g_arraylength X2 hx hby hZ e2 (ArO.toF hO) d5_15 (n).toInt32 rfl 16 rfl ?_
  refine g_istoreN X2 hx hby d5_16 (n).toInt32 rfl #[.val (.ref o), .val (.ref ar), .val (.int (n).toInt32), .unset, .unset] rfl 17 rfl ?_
  refine g_iconst X2 hx hby d5_17 (0 : Int32) rfl 18 rfl ?_
  refine g_istoreN X2 hx hby d5_18 (0 : Int32) rfl #[.val (.ref o), .val (.ref ar), .val (.int (n).toInt32), .val (.int (0 : Int32)), .unset] rfl 19 rfl ?_
  suffices loop : ∀ (k : Nat) (j : Nat) (i : Int32) (sl : Slot) (T3 : State) (L3 : List Loc) (h3 : Heap), n - j < k → i.toInt = j → j ≤ n → allB dn j = true → One sl → h0 = h3 → Stand p l e ({ frames := 0, cells := 0, slots := 0, locals := 0 } : Room) s m #[(.ref o)] below meth c T3 L3 (0) (0) → T3.heap = h3 → Fr n0 L3 → n0 ≤ h3.size → Fld Z h3 o "com/example/strandloom/strandloom/engine/Task" "predecessors" "[Lcom/example/strandloom/strandloom/engine/Task;" (.ref ar) → ArO Z h3 ar "com/example/strandloom/strandloom/engine/Task" n g → Goes p e below (Kend s below (Q5a o ar n g dn Z h0 n0) ({ frames := 0, cells := 0, slots := 0, locals := 0 } : Room).cells ({ frames := 0, cells := 0, slots := 0, locals := 0 } : Room).slots) (T3.setTop (mkF m 19 #[.val (.ref o), .val (.ref ar), .val (.int (n).toInt32), .val (.int i), sl] [])) by
    exact loop (n + 1) 0 0 _ _ _ _ (by omega) rfl (Nat.zero_le _) rfl One.u rfl X2 e2 N0 Z0 F_o_predecessors_0 hO
  intro k
  induction k with
  | zero => intro j i sl T3 L3 h3 hk hi hj hd hsl hh X3 e3 N3 Z3 F_o_predecessors_3 hO_3; exact absurd hk (Nat.not_lt_zero _)
  | succ k ih =>
    intro j i sl T3 L3 h3 hk hi hj hd hsl hh X3 e3 N3 Z3 F_o_predecessors_3 hO_3
    subst hh
    refine g_iloadN X3 hx hby d5_19 rfl 20 rfl ?_
    refine g_iloadN X3 hx hby d5_20 rfl 21 rfl ?_
    refine g_icmp_ge X3 hx hby d5_21 50 24 (by decide) (by decide) rfl (fun c4 => ?_) (fun c4 => ?_)
    · -- c4
      have hq := own_ltn hi hn c4
      rcases hE j hq with ⟨q1, q2⟩ | ⟨b, q1, q2⟩
      ·
        refine g_aloadN X3 hx hby d5_24 rfl rfl 25 rfl ?_
        refine g_iloadN X3 hx hby d5_25 rfl 26 rfl ?_
        refine g_aaload X3 hx hby hZ e3 (ArO.toF hO_3) rfl d5_26 (own_nn (by omega)) j (own_clamp hi) hq .null q1 27 rfl ?_
        refine g_astore X3 hx hby d5_27 rfl #[.val (.ref o), .val (.ref ar), .val (.int (n).toInt32), .val (.int i), .val .null] (own_store1 rfl hsl rfl rfl) 29 rfl ?_
        refine g_aload X3 hx hby d5_29 rfl rfl 31 rfl ?_
        refine g_ifnull_yes X3 hx hby d5_31 44 (by decide) (by decide) ?_
        refine g_iinc X3 hx hby d5_44 (1 : Int32) rfl rfl (i + (1 : Int32)) rfl #[.val (.ref o), .val (.ref ar), .val (.int (n).toInt32), .val (.int (i + (1 : Int32))), .val .null] rfl 47 rfl ?_
        refine g_goto X3 hx hby d5_47 19 (by decide) (by decide) ?_
        exact ih (j + 1) _ (.val .null) _ _ _ (by omega) (own_i1 hi (by omega)) hq (by simp [allB, hd, q2]) (One.val rfl) rfl X3 e3 N3 Z3 F_o_predecessors_3 hO_3
      ·
        refine g_aloadN X3 hx hby d5_24 rfl rfl 25 rfl ?_
        refine g_iloadN X3 hx hby d5_25 rfl 26 rfl ?_
        refine g_aaload X3 hx hby hZ e3 (ArO.toF hO_3) rfl d5_26 (own_nn (by omega)) j (own_clamp hi) hq (.ref b) q1 27 rfl ?_
        refine g_astore X3 hx hby d5_27 rfl #[.val (.ref o), .val (.ref ar), .val (.int (n).toInt32), .val (.int i), .val (.ref b)] (own_store1 rfl hsl rfl rfl) 29 rfl ?_
        refine g_aload X3 hx hby d5_29 rfl rfl 31 rfl ?_
        refine g_ifnull_no X3 hx hby d5_31 34 rfl ?_
        refine g_aload X3 hx hby d5_34 rfl rfl 36 rfl ?_
        refine g_getfield X3 hx hby hZ hown (host := "") (Or.inl (hw _ (List.mem_of_getElem? (i := 20) rfl))) Via.refl e3 q2 d5_36 39 rfl ?_
        intro T5 X5 e5
        refine g_if_ne X5 hx hby d5_39 44 42 (by decide) (by decide) rfl (fun c6 => ?_) (fun c6 => ?_)
        · -- c6
          refine g_iconst X5 hx hby d5_42 (0 : Int32) rfl 43 rfl ?_
          exact g_ireturn X5 hx hby hret hlk (Or.inr (Or.inl rfl)) (nar_bool (Or.inl rfl)) d5_43 ⟨by rw [allB_false hq (d_eq c6)]; rfl, N3, e5⟩ (by decide) (by decide)
        · -- not c6
          have q3 := d_ne c6
          refine g_iinc X5 hx hby d5_44 (1 : Int32) rfl rfl (i + (1 : Int32)) rfl #[.val (.ref o), .val (.ref ar), .val (.int (n).toInt32), .val (.int (i + (1 : Int32))), .val (.ref b)] rfl 47 rfl ?_
          refine g_goto X5 hx hby d5_47 19 (by decide) (by decide) ?_
          exact ih (j + 1) _ (.val (.ref b)) _ _ _ (by omega) (own_i1 hi (by omega)) hq (by simp [allB, hd, q3]) (One.val rfl) rfl X5 e5 N3 Z3 F_o_predecessors_3 hO_3
    · -- not c4
      refine g_iconst X3 hx hby d5_50 (1 : Int32) rfl 51 rfl ?_
      exact g_ireturn X3 hx hby hret hlk (Or.inr (Or.inl rfl)) (nar_bool (Or.inr rfl)) d5_51 ⟨by rw [← own_gen hi hn hj c4, hd]; rfl, N3, e3⟩ (by decide) (by decide)
theorem TV.elem {Z : State} {h : Heap} {n0 : Nat} {r : Value} {kd : Int32} (F : TV Z h n0 r kd) (hk : 0 ≤ kd.toInt) : Elem Z h r (!decide (kd = 1)) := by
  rcases F with ⟨h1, rfl⟩ | ⟨h1, b, rfl, -, h3⟩
  · exact Or.inl ⟨rfl, by subst h1; decide⟩
  · refine Or.inr ⟨b, rfl, ?_⟩
    by_cases q : kd = 1
    · subst q; exact h3
    · have q2 : ¬ kd < 2 := by
        rw [Int32.lt_iff_toInt_lt]
        have a1 : kd.toInt ≠ (0 : Int32).toInt := fun y => h1 (Int32.toInt_inj.mp y)
        have a2 : kd.toInt ≠ (1 : Int32).toInt := fun y => q (Int32.toInt_inj.mp y)
        have e0 : (0 : Int32).toInt = 0 := rfl
        have e1 : (1 : Int32).toInt = 1 := rfl
        have e2 : (2 : Int32).toInt = 2 := rfl
        omega
      rw [if_neg q2] at h3
      simp only [q, decide_false, Bool.not_false, if_true]
      exact h3
theorem own_k3 (y : Int32) : 0 ≤ (y &&& (3 : Int32)).toInt ∧ (y &&& (3 : Int32)).toInt ≤ 3 := by
  have h := c_mask y 3 2 (by decide) (by decide)
  have e : ((2 ^ 2 : Nat) : Int) = 4 := by decide
  rw [e] at h; omega
def dnF (k0 k1 k2 : Int32) : Nat → Bool := fun i => if i = 0 then !decide (k0 = 1) else if i = 1 then !decide (k1 = 1) else !decide (k2 = 1)
theorem own_gt {nn K : Int32} {n m : Nat} (hN : nn.toInt = n) (hK : K.toInt = m) (q : K < nn) : m < n := by
  rw [Int32.lt_iff_toInt_lt] at q; omega
theorem own_E {Z : State} {h : Heap} {n0 n : Nat} {ln k0 k1 k2 : Int32} {r0 r1 r2 : Value} {f1 f2 f3 : Nat → Value} (hN : ln.toInt = n) (h3 : n ≤ 3) (p0 : 0 ≤ k0.toInt) (p1 : 0 ≤ k1.toInt) (p2 : 0 ≤ k2.toInt) (T0 : TV Z h n0 r0 k0) (T1 : TV Z h n0 r1 k1) (T2 : TV Z h n0 r2 k2)
    (e1 : f1 = if 0 < ln then upd (fun _ => Value.null) 0 r0 else (fun _ => Value.null)) (e2 : f2 = if (1 : Int32) < ln then upd f1 1 r1 else f1) (e3 : f3 = if (2 : Int32) < ln then upd f2 2 r2 else f2) : ∀ j, j < n → Elem Z h (f3 j) (dnF k0 k1 k2 j) := by
  intro j hj
  have z0 : (0 : Int32).toInt = 0 := rfl
  have z1 : (1 : Int32).toInt = 1 := rfl
  have z2 : (2 : Int32).toInt = 2 := rfl
  have a0 : 0 < ln := by rw [Int32.lt_iff_toInt_lt]; omega
  rw [if_pos a0] at e1
  match j, hj with
  | 0, hj =>
    have : f3 0 = r0 := by
      rw [e3]; split <;> (try rw [upd_miss _ _ (by decide)]) <;> rw [e2] <;> split <;> (try rw [upd_miss _ _ (by decide)]) <;> rw [e1, upd_hit]
    rw [this]; exact T0.elem p0
  | 1, hj =>
    have a1 : (1 : Int32) < ln := by rw [Int32.lt_iff_toInt_lt]; omega
    rw [if_pos a1] at e2
    have : f3 1 = r1 := by
      rw [e3]; split <;> (try rw [upd_miss _ _ (by decide)]) <;> rw [e2, upd_hit]
    rw [this]; exact T1.elem p1
  | 2, hj =>
    have a1 : (2 : Int32) < ln := by rw [Int32.lt_iff_toInt_lt]; omega
    rw [if_pos a1] at e3
    have : f3 2 = r2 := by rw [e3, upd_hit]
    rw [this]; exact T2.elem p2
  | j + 3, hj => omega
theorem own_res {ln k0 k1 k2 o0 o1 o2 ex : Int32} {n : Nat} (hN : ln.toInt = n) (h3 : n ≤ 3) (h0 : o0 = if ln < 1 then 1 else (if k0 = 1 then 0 else 1)) (h1 : o1 = if ln < 2 then 1 else (if k1 = 1 then 0 else 1)) (h2 : o2 = if ln < 3 then 1 else (if k2 = 1 then 0 else 1)) (hx : ex = if o0 = 0 then 0 else (if o1 = 0 then 0 else (if o2 = 0 then 0 else 1))) :
    (if allB (dnF k0 k1 k2) n = true then (1 : Int32) else 0) = ex := by
  have z1 : (1 : Int32).toInt = 1 := rfl
  have z2 : (2 : Int32).toInt = 2 := rfl
  have z3 : (3 : Int32).toInt = 3 := rfl
  simp only [Int32.lt_iff_toInt_lt, z1, z2, z3, hN] at h0 h1 h2
  match n, h3 with
  | 0, _ => simp at h0 h1 h2; subst h0 h1 h2 hx; simp [allB]
  | 1, _ => simp at h0 h1 h2; subst h0 h1 h2 hx; by_cases q0 : k0 = 1 <;> simp [allB, dnF, q0]
  | 2, _ => simp at h0 h1 h2; subst h0 h1 h2 hx; by_cases q0 : k0 = 1 <;> by_cases q1 : k1 = 1 <;> simp [allB, dnF, q0, q1]
  | 3, _ => simp at h0 h1 h2; subst h0 h1 h2 hx; by_cases q0 : k0 = 1 <;> by_cases q1 : k1 = 1 <;> by_cases q2 : k2 = 1 <;> simp [allB, dnF, q0, q1, q2]

theorem pd2 : parseMethodDescriptor "(IJ)Lcom/example/strandloom/strandloom/engine/Task;" = some ⟨[.int, .long], some (.object "com/example/strandloom/strandloom/engine/Task")⟩ := by decide +kernel
theorem pd3 : parseMethodDescriptor "()Z" = some ⟨[], some .boolean⟩ := by decide +kernel
theorem pn0 : plainFor (⟨"com/example/strandloom/strandloom/engine/TaskPredecessorsDonePinLaw", "law", "(JI)Z"⟩ : MethodName) = true := plainFor_of_name (by first | (simp [plainName, overriddenIn]; done) | decide +kernel)
theorem ef0 (m : MethodId) (seq : Int64) (fl : Int32) : entryFrame m #[(.long seq), (.int fl)] maxLocals = mkF m 0 #[.val (.long seq), .second, .val (.int fl), .unset, .unset, .unset, .unset, .unset, .unset, .unset, .unset, .unset, .unset, .unset, .unset, .unset, .unset] [] := by first | (simp [entryFrame, mkF, argsToLocals, Value.category, maxLocals]; done) | rfl
def Q0 (seq : Int64) (fl : Int32) (Z : State) (h0 : Heap) (n0 : Nat) (v : Option Value) (h : Heap) (L : List Loc) : Prop := v = some (.int 1) ∧ Fr n0 L
set_option maxRecDepth 65536 in
set_option maxHeartbeats 40000000 in
theorem rm0 (l : Launch) (Z : State) (a0 : Array Value) (hw : ∀ d ∈ tables_1, d.before a0 Z = true) (ws : List Jvm.Cond) (seq : Int64) (fl : Int32) (h0 : Heap) (n0 : Nat) (Z0 : n0 ≤ h0.size) : Ctr l x code maxLocals ret ws room_1 #[(.long seq), (.int fl)] Z h0 (Q0 seq fl Z h0 n0) := by
  refine own_body pn0 ?_
  intro p e s m below meth c T0 hx hby hml hown hnm hret hlk hZ X0 e0
  have N0 := Fr.nil n0
  refine Goes.entry (ef0 m seq fl) ?_
  refine g_iloadN X0 hx hby at_0 rfl 1 rfl ?_
  refine g_iconst X0 hx hby at_1 (3 : Int32) rfl 2 rfl ?_
  refine g_iand X0 hx hby at_2 3 rfl ?_
  obtain ⟨k0, hk0⟩ : ∃ z : Int32, (fl &&& (3 : Int32)) = z := ⟨_, rfl⟩
  refine g_istoreN X0 hx hby at_3 k0 hk0 #[.val (.long seq), .second, .val (.int fl), .val (.int k0), .unset, .unset, .unset, .unset, .unset, .unset, .unset, .unset, .unset, .unset, .unset, .unset, .unset] rfl 4 rfl ?_
  refine g_iloadN X0 hx hby at_4 rfl 5 rfl ?_
  refine g_iconst X0 hx hby at_5 (2 : Int32) rfl 6 rfl ?_
  refine g_iushr X0 hx hby at_6 7 rfl ?_
  refine g_iconst X0 hx hby at_7 (3 : Int32) rfl 8 rfl ?_
  refine g_iand X0 hx hby at_8 9 rfl ?_
  obtain ⟨k1, hk1⟩ : ∃ z : Int32, (((fl.toUInt32 >>> ((2 : Int32) &&& 31).toUInt32).toInt32) &&& (3 : Int32)) = z := ⟨_, rfl⟩
  refine g_istore X0 hx hby at_9 k1 hk1 #[.val (.long seq), .second, .val (.int fl), .val (.int k0), .val (.int k1), .unset, .unset, .unset, .unset, .unset, .unset, .unset, .unset, .unset, .unset, .unset, .unset] rfl 11 rfl ?_
  refine g_iloadN X0 hx hby at_11 rfl 12 rfl ?_
  refine g_iconst X0 hx hby at_12 (4 : Int32) rfl 13 rfl ?_
  refine g_iushr X0 hx hby at_13 14 rfl ?_
  refine g_iconst X0 hx hby at_14 (3 : Int32) rfl 15 rfl ?_
  refine g_iand X0 hx hby at_15 16 rfl ?_
  obtain ⟨k2, hk2⟩ : ∃ z : Int32, (((fl.toUInt32 >>> ((4 : Int32) &&& 31).toUInt32).toInt32) &&& (3 : Int32)) = z := ⟨_, rfl⟩
  refine g_istore X0 hx hby at_16 k2 hk2 #[.val (.long seq), .second, .val (.int fl), .val (.int k0), .val (.int k1), .val (.int k2), .unset, .unset, .unset, .unset, .unset, .unset, .unset, .unset, .unset, .unset, .unset] rfl 18 rfl ?_
  refine g_iloadN X0 hx hby at_18 rfl 19 rfl ?_
  refine g_bipush X0 hx hby at_19 (6 : Int32) rfl 21 rfl ?_
  refine g_iushr X0 hx hby at_21 22 rfl ?_
  refine g_iconst X0 hx hby at_22 (3 : Int32) rfl 23 rfl ?_
  refine g_iand X0 hx hby at_23 24 rfl ?_
  obtain ⟨ln, hln⟩ : ∃ z : Int32, (((fl.toUInt32 >>> ((6 : Int32) &&& 31).toUInt32).toInt32) &&& (3 : Int32)) = z := ⟨_, rfl⟩
  refine g_istore X0 hx hby at_24 ln hln #[.val (.long seq), .second, .val (.int fl), .val (.int k0), .val (.int k1), .val (.int k2), .val (.int ln), .unset, .unset, .unset, .unset, .unset, .unset, .unset, .unset, .unset, .unset] rfl 26 rfl ?_
  have hk0 : 0 ≤ k0.toInt ∧ k0.toInt ≤ 3 := hk0 ▸ own_k3 _
  have hk1 : 0 ≤ k1.toInt ∧ k1.toInt ≤ 3 := hk1 ▸ own_k3 _
  have hk2 : 0 ≤ k2.toInt ∧ k2.toInt ≤ 3 := hk2 ▸ own_k3 _
  have hl := own_k3 ((fl.toUInt32 >>> ((6 : Int32) &&& 31).toUInt32).toInt32)
  rw [hln] at hl
  obtain ⟨nL, hN, hN3⟩ : ∃ nL : Nat, ln.toInt = nL ∧ nL ≤ 3 := ⟨ln.toInt.toNat, by omega, by omega⟩
  refine g_iloadN X0 hx hby at_26 rfl 27 rfl ?_
  refine g_bipush X0 hx hby at_27 (8 : Int32) rfl 29 rfl ?_
  refine g_iushr X0 hx hby at_29 30 rfl ?_
  refine g_iconst X0 hx hby at_30 (1 : Int32) rfl 31 rfl ?_
  refine g_iand X0 hx hby at_31 32 rfl ?_
  suffices J1 : ∀ unl : Int32, unl = (if (((fl.toUInt32 >>> ((8 : Int32) &&& 31).toUInt32).toInt32) &&& (1 : Int32)) = 0 then (0 : Int32) else (1 : Int32)) → Goes p e below (Kend s below (Q0 seq fl Z h0 n0) room_1.cells room_1.slots) (T0.setTop (mkF m 40 #[.val (.long seq), .second, .val (.int fl), .val (.int k0), .val (.int k1), .val (.int k2), .val (.int ln), .unset, .unset, .unset, .unset, .unset, .unset, .unset, .unset, .unset, .unset] [(.int unl)])) by
    refine g_if_eq X0 hx hby at_32 39 35 (by decide) (by decide) rfl (fun c2 => ?_) (fun c2 => ?_)
    · -- c2
      refine g_iconst X0 hx hby at_39 (0 : Int32) rfl 40 rfl ?_
      exact J1 _ (if_pos c2).symm
    · -- not c2
      refine g_iconst X0 hx hby at_35 (1 : Int32) rfl 36 rfl ?_
      refine g_goto X0 hx hby at_36 40 (by decide) (by decide) ?_
      exact J1 _ (if_neg c2).symm
  intro unl hunl
  refine g_istore X0 hx hby at_40 unl rfl #[.val (.long seq), .second, .val (.int fl), .val (.int k0), .val (.int k1), .val (.int k2), .val (.int ln), .val (.int unl), .unset, .unset, .unset, .unset, .unset, .unset, .unset, .unset, .unset] rfl 42 rfl ?_
  refine g_iloadN X0 hx hby at_42 rfl 43 rfl ?_
  refine g_bipush X0 hx hby at_43 (9 : Int32) rfl 45 rfl ?_
  refine g_iushr X0 hx hby at_45 46 rfl ?_
  refine g_iconst X0 hx hby at_46 (1 : Int32) rfl 47 rfl ?_
  refine g_iand X0 hx hby at_47 48 rfl ?_
  suffices J3 : ∀ sd : Int32, sd = (if (((fl.toUInt32 >>> ((9 : Int32) &&& 31).toUInt32).toInt32) &&& (1 : Int32)) = 0 then (0 : Int32) else (1 : Int32)) → Goes p e below (Kend s below (Q0 seq fl Z h0 n0) room_1.cells room_1.slots) (T0.setTop (mkF m 56 #[.val (.long seq), .second, .val (.int fl), .val (.int k0), .val (.int k1), .val (.int k2), .val (.int ln), .val (.int unl), .unset, .unset, .unset, .unset, .unset, .unset, .unset, .unset, .unset] [(.int sd)])) by
    refine g_if_eq X0 hx hby at_48 55 51 (by decide) (by decide) rfl (fun c4 => ?_) (fun c4 => ?_)
    · -- c4
      refine g_iconst X0 hx hby at_55 (0 : Int32) rfl 56 rfl ?_
      exact J3 _ (if_pos c4).symm
    · -- not c4
      refine g_iconst X0 hx hby at_51 (1 : Int32) rfl 52 rfl ?_
      refine g_goto X0 hx hby at_52 56 (by decide) (by decide) ?_
      exact J3 _ (if_neg c4).symm
  intro sd hsd
  refine g_istore X0 hx hby at_56 sd rfl #[.val (.long seq), .second, .val (.int fl), .val (.int k0), .val (.int k1), .val (.int k2), .val (.int ln), .val (.int unl), .val (.int sd), .unset, .unset, .unset, .unset, .unset, .unset, .unset, .unset] rfl 58 rfl ?_
  refine g_new X0 hx hby hZ hown (hw _ (List.mem_of_getElem? (i := 0) rfl)) (hw _ (List.mem_of_getElem? (i := 1) rfl)) (hw _ (List.mem_of_getElem? (i := 2) rfl)) e0 at_58 (by decide) (by decide) 61 rfl ?_
  intro T5 h5 b5 g5 X5 e5 E5 A5 D5
  have gn_b5 : n0 ≤ b5 := Nat.le_trans Z0 (Nat.le_of_eq g5.symm)
  have Z5 : n0 ≤ h5.size := Nat.le_trans Z0 E5.1
  have Fb5_sequence_0 : Fld Z h5 b5 "com/example/strandloom/strandloom/engine/Task" "sequence" "J" (.long (0 : Int64)) := D5 (Or.inr (hw _ (List.mem_of_getElem? (i := 10) rfl))) (ty := .long) (by decide)
  have Fb5_done_0 : Fld Z h5 b5 "com/example/strandloom/strandloom/engine/Task" "done" "Z" (.int (0 : Int32)) := D5 (Or.inl (hw _ (List.mem_of_getElem? (i := 21) rfl))) (ty := .boolean) (by decide)
  have Fb5_predecessors_0 : Fld Z h5 b5 "com/example/strandloom/strandloom/engine/Task" "predecessors" "[Lcom/example/strandloom/strandloom/engine/Task;" .null := D5 (Or.inl (hw _ (List.mem_of_getElem? (i := 24) rfl))) (ty := (.array (.object "com/example/strandloom/strandloom/engine/Task"))) (by decide)
  refine g_dup X5 hx hby at_61 rfl 62 rfl ?_
  refine g_lloadN X5 hx hby at_62 rfl 63 rfl ?_
  refine g_special X5 hx hby hZ hown rfl (hw _ (List.mem_of_getElem? (i := 3) rfl)) (hw _ (List.mem_of_getElem? (i := 4) rfl)) (hw _ (List.mem_of_getElem? (i := 2) rfl)) (hw _ (List.mem_of_getElem? (i := 5) rfl)) at_63 b5 [(.long seq)] [(.ref b5)] (rm1 l Z a0 hw [] b5 seq (0 : Int32) h5 n0 Z5 A5 Fb5_sequence_0 Fb5_done_0 Fb5_predecessors_0 gn_b5) e5 rfl (by rw [hml]; rfl) pd0 rfl (by decide) 1 (Nat.le_of_eq rfl) (by decide) (by decide) (by decide) (by decide) 66 rfl ?_
  intro T6 v6 L6 X6 Q6
  obtain ⟨rfl, N6', K6', P6x0, P6x1, P6x2, P6x3⟩ := Q6
  have N6 := Fr.app N0 N6'
  have Z6 : n0 ≤ T6.heap.size := Nat.le_trans Z5 K6'.1
  have A5_6 := A5.keep K6'
  show Goes p e below _ (T6.setTop (mkF m 66 _ [(.ref b5)]))
  refine g_astore X6 hx hby at_66 rfl #[.val (.long seq), .second, .val (.int fl), .val (.int k0), .val (.int k1), .val (.int k2), .val (.int ln), .val (.int unl), .val (.int sd), .val (.ref b5), .unset, .unset, .unset, .unset, .unset, .unset, .unset] rfl 68 rfl ?_
  refine g_iload X6 hx hby at_68 rfl 70 rfl ?_
  suffices J7 : ∀ dnR : Int32, dnR = (if sd = 0 then (0 : Int32) else (1 : Int32)) → ∀ (T7 : State) (L7 : List Loc) (h7 : Heap), Stand p l e room_1 s m #[(.long seq), (.int fl)] below meth c T7 L7 1 11 → T7.heap = h7 → Fr n0 L7 → n0 ≤ h7.size → Exa Z h7 b5 "com/example/strandloom/strandloom/engine/Task" → Fld Z h7 b5 "com/example/strandloom/strandloom/engine/Task" "done" "Z" (.int dnR) → Fld Z h7 b5 "com/example/strandloom/strandloom/engine/Task" "predecessors" "[Lcom/example/strandloom/strandloom/engine/Task;" .null → Goes p e below (Kend s below (Q0 seq fl Z h0 n0) room_1.cells room_1.slots) (T7.setTop (mkF m 78 #[.val (.long seq), .second, .val (.int fl), .val (.int k0), .val (.int k1), .val (.int k2), .val (.int ln), .val (.int unl), .val (.int sd), .val (.ref b5), .unset, .unset, .unset, .unset, .unset, .unset, .unset] [])) by
    refine g_if_eq X6 hx hby at_70 78 73 (by decide) (by decide) rfl (fun c8 => ?_) (fun c8 => ?_)
    · -- c8
      exact J7 _ (if_pos c8).symm _ _ _ X6 rfl N6 Z6 P6x0 P6x2 P6x3
    · -- not c8
      refine g_aload X6 hx hby at_73 rfl rfl 75 rfl ?_
      refine g_virtual X6 hx hby hZ hown (hw _ (List.mem_of_getElem? (i := 15) rfl)) (hw _ (List.mem_of_getElem? (i := 16) rfl)) (notFace_of_selects (args := #[]) (mvT hZ (hw _ (List.mem_of_getElem? (i := 18) rfl)))) (hw _ (List.mem_of_getElem? (i := 18) rfl)) (hw _ (List.mem_of_getElem? (i := 17) rfl)) (hw _ (List.mem_of_getElem? (i := 2) rfl)) (hw _ (List.mem_of_getElem? (i := 19) rfl)) at_75 b5 P6x0 [] [] (rm4 l Z a0 hw [] b5 (0 : Int32) T6.heap n0 Z6 P6x0 P6x2 P6x3 gn_b5) rfl rfl (by rw [hml]; rfl) pd1 rfl (by decide) 0 (Nat.le_of_eq rfl) (by decide) (by decide) (by decide) (by decide) 78 rfl ?_
      intro T9 v9 L9 X9 Q9
      obtain ⟨rfl, N9', K9', P9x0, P9x1, P9x2⟩ := Q9
      have N9 := Fr.app N6 N9'
      have Z9 : n0 ≤ T9.heap.size := Nat.le_trans Z6 K9'.1
      have P6x0_9 := P6x0.keep K9'
      show Goes p e below _ (T9.setTop (mkF m 78 _ []))
      exact J7 _ (if_neg c8).symm _ _ _ X9 rfl N9 Z9 P9x0 P9x1 P9x2
  intro dnR hdnR T7 L7 h7 X7 e7 N7 Z7 P6x0_7 P6x2_7 P6x3_7
  refine g_iloadN X7 hx hby at_78 rfl 79 rfl ?_
  refine g_lloadN X7 hx hby at_79 rfl 80 rfl ?_
  refine g_callS X7 hx hby hZ hown (hw _ (List.mem_of_getElem? (i := 11) rfl)) (hw _ (List.mem_of_getElem? (i := 12) rfl)) (hw _ (List.mem_of_getElem? (i := 13) rfl)) (hw _ (List.mem_of_getElem? (i := 14) rfl)) at_80 [(.int k0), (.long seq)] [] (rm3 l Z a0 hw [] k0 seq h7 n0 Z7) e7 rfl (by rw [hml]; rfl) pd2 rfl (by decide) 0 (Nat.le_of_eq rfl) (by decide) (by decide) (by decide) (by decide) 83 rfl ?_
  intro T10 v10 L10 X10 Q10
  obtain ⟨r0, rfl, N10', K10', Z10, P10⟩ := Q10
  have N10 := Fr.app N7 N10'
  have P6x0_10 := P6x0_7.keep K10'
  have P6x2_10 := Fld.keep P6x2_7 K10' nin0
  have P6x3_10 := Fld.keep P6x3_7 K10' nin0
  show Goes p e below _ (T10.setTop (mkF m 83 _ [r0]))
  refine g_astore X10 hx hby at_83 (TV.isRef P10) #[.val (.long seq), .second, .val (.int fl), .val (.int k0), .val (.int k1), .val (.int k2), .val (.int ln), .val (.int unl), .val (.int sd), .val (.ref b5), .val r0, .unset, .unset, .unset, .unset, .unset, .unset] (own_store1 rfl One.u (Jvm.Free.XT.cat1 (TV.isRef P10)) rfl) 85 rfl ?_
  refine g_iload X10 hx hby at_85 rfl 87 rfl ?_
  refine g_lloadN X10 hx hby at_87 rfl 88 rfl ?_
  refine g_callS X10 hx hby hZ hown (hw _ (List.mem_of_getElem? (i := 11) rfl)) (hw _ (List.mem_of_getElem? (i := 12) rfl)) (hw _ (List.mem_of_getElem? (i := 13) rfl)) (hw _ (List.mem_of_getElem? (i := 14) rfl)) at_88 [(.int k1), (.long seq)] [] (rm3 l Z a0 hw [] k1 seq T10.heap n0 Z10) rfl rfl (by rw [hml]; rfl) pd2 rfl (by decide) 0 (Nat.le_of_eq rfl) (by decide) (by decide) (by decide) (by decide) 91 rfl ?_
  intro T11 v11 L11 X11 Q11
  obtain ⟨r1, rfl, N11', K11', Z11, P11⟩ := Q11
  have N11 := Fr.app N10 N11'
  have P6x0_11 := P6x0_10.keep K11'
  have P6x2_11 := Fld.keep P6x2_10 K11' nin0
  have P6x3_11 := Fld.keep P6x3_10 K11' nin0
  have P10_11 := TV.keep P10 K11'
  show Goes p e below _ (T11.setTop (mkF m 91 _ [r1]))
  refine g_astore X11 hx hby at_91 (TV.isRef P11) #[.val (.long seq), .second, .val (.int fl), .val (.int k0), .val (.int k1), .val (.int k2), .val (.int ln), .val (.int unl), .val (.int sd), .val (.ref b5), .val r0, .val r1, .unset, .unset, .unset, .unset, .unset] (own_store1 rfl One.u (Jvm.Free.XT.cat1 (TV.isRef P11)) rfl) 93 rfl ?_
  refine g_iload X11 hx hby at_93 rfl 95 rfl ?_
  refine g_lloadN X11 hx hby at_95 rfl 96 rfl ?_
  refine g_callS X11 hx hby hZ hown (hw _ (List.mem_of_getElem? (i := 11) rfl)) (hw _ (List.mem_of_getElem? (i := 12) rfl)) (hw _ (List.mem_of_getElem? (i := 13) rfl)) (hw _ (List.mem_of_getElem? (i := 14) rfl)) at_96 [(.int k2), (.long seq)] [] (rm3 l Z a0 hw [] k2 seq T11.heap n0 Z11) rfl rfl (by rw [hml]; rfl) pd2 rfl (by decide) 0 (Nat.le_of_eq rfl) (by decide) (by decide) (by decide) (by decide) 99 rfl ?_
  intro T12 v12 L12 X12 Q12
  obtain ⟨r2, rfl, N12', K12', Z12, P12⟩ := Q12
  have N12 := Fr.app N11 N12'
  have P6x0_12 := P6x0_11.keep K12'
  have P6x2_12 := Fld.keep P6x2_11 K12' nin0
  have P6x3_12 := Fld.keep P6x3_11 K12' nin0
  have P10_12 := TV.keep P10_11 K12'
  have P11_12 := TV.keep P11 K12'
  show Goes p e below _ (T12.setTop (mkF m 99 _ [r2]))
  refine g_astore X12 hx hby at_99 (TV.isRef P12) #[.val (.long seq), .second, .val (.int fl), .val (.int k0), .val (.int k1), .val (.int k2), .val (.int ln), .val (.int unl), .val (.int sd), .val (.ref b5), .val r0, .val r1, .val r2, .unset, .unset, .unset, .unset] (own_store1 rfl One.u (Jvm.Free.XT.cat1 (TV.isRef P12)) rfl) 101 rfl ?_
  refine g_iload X12 hx hby at_101 rfl 103 rfl ?_
  refine g_if_ne X12 hx hby at_103 155 106 (by decide) (by decide) rfl (fun c13 => ?_) (fun c13 => ?_)
  · -- c13
    refine g_iload X12 hx hby at_106 rfl 108 rfl ?_
    refine g_anewarray X12 hx hby hZ hown (hw _ (List.mem_of_getElem? (i := 0) rfl)) (hw _ (List.mem_of_getElem? (i := 22) rfl)) rfl at_108 (own_nn (by omega)) nL (own_clamp hN) 3 hN3 (by decide) (by decide) (by decide) 111 rfl ?_
    intro T14 h14 b14 g14 X14 e14 E14 V14
    have gn_b14 : n0 ≤ b14 := Nat.le_trans Z12 (Nat.le_of_eq g14.symm)
    have Z14 : n0 ≤ h14.size := Nat.le_trans Z12 E14.1
    have ne_b5_b14 : b5 ≠ b14 := Nat.ne_of_lt (Nat.lt_of_lt_of_le (P6x0_12.lt) (Nat.le_of_eq g14.symm))
    have P6x0_14 := P6x0_12.ext E14
    have P6x2_14 := Fld.ext E14 P6x2_12
    have P6x3_14 := Fld.ext E14 P6x3_12
    have P10_14 := TV.ext P10_12 E14
    have P11_14 := TV.ext P11_12 E14
    have P12_14 := TV.ext P12 E14
    refine g_astore X14 hx hby at_111 rfl #[.val (.long seq), .second, .val (.int fl), .val (.int k0), .val (.int k1), .val (.int k2), .val (.int ln), .val (.int unl), .val (.int sd), .val (.ref b5), .val r0, .val r1, .val r2, .val (.ref b14), .unset, .unset, .unset] rfl 113 rfl ?_
    refine g_iload X14 hx hby at_113 rfl 115 rfl ?_
    suffices J15 : ∀ f1 : Nat → Value, f1 = (if 0 < ln then (upd (fun _ => Value.null) 0 r0) else (fun _ => Value.null)) → ∀ (T15 : State) (L15 : List Loc) (h15 : Heap), Stand p l e room_1 s m #[(.long seq), (.int fl)] below meth c T15 L15 5 47 → T15.heap = h15 → Fr n0 L15 → n0 ≤ h15.size → Exa Z h15 b5 "com/example/strandloom/strandloom/engine/Task" → Fld Z h15 b5 "com/example/strandloom/strandloom/engine/Task" "done" "Z" (.int dnR) → Fld Z h15 b5 "com/example/strandloom/strandloom/engine/Task" "predecessors" "[Lcom/example/strandloom/strandloom/engine/Task;" .null → TV Z h15 n0 r0 k0 → TV Z h15 n0 r1 k1 → TV Z h15 n0 r2 k2 → ArO Z h15 b14 "com/example/strandloom/strandloom/engine/Task" nL f1 → Goes p e below (Kend s below (Q0 seq fl Z h0 n0) room_1.cells room_1.slots) (T15.setTop (mkF m 124 #[.val (.long seq), .second, .val (.int fl), .val (.int k0), .val (.int k1), .val (.int k2), .val (.int ln), .val (.int unl), .val (.int sd), .val (.ref b5), .val r0, .val r1, .val r2, .val (.ref b14), .unset, .unset, .unset] [])) by
      refine g_if_le X14 hx hby at_115 124 118 (by decide) (by decide) rfl (fun c16 => ?_) (fun c16 => ?_)
      · -- c16
        refine g_aload X14 hx hby at_118 rfl rfl 120 rfl ?_
        refine g_iconst X14 hx hby at_120 (0 : Int32) rfl 121 rfl ?_
        refine g_aload X14 hx hby at_121 rfl (TV.isRef P10) 123 rfl ?_
        refine g_aastore X14 hx hby hZ e14 V14 (TV.sto P10_14 V14) at_123 (by decide) 0 rfl (own_gt hN (m := 0) rfl c16) 124 rfl ?_
        intro T17 h17 X17 e17 W17 V17
        have N17 := Fr.snoc X17 N12 gn_b14
        have Z17 : n0 ≤ h17.size := Nat.le_trans Z14 (Keep.of_wr W17).1
        have P6x0_17 := P6x0_14.wr W17
        have P6x2_17 := Fld.other W17 P6x2_14 (Or.inl ne_b5_b14)
        have P6x3_17 := Fld.other W17 P6x3_14 (Or.inl ne_b5_b14)
        have P10_17 := TV.arr (hw _ (List.mem_of_getElem? (i := 1) rfl)) P10_14 V14 W17
        have P11_17 := TV.arr (hw _ (List.mem_of_getElem? (i := 1) rfl)) P11_14 V14 W17
        have P12_17 := TV.arr (hw _ (List.mem_of_getElem? (i := 1) rfl)) P12_14 V14 W17
        exact J15 _ (if_pos c16).symm _ _ _ X17 e17 N17 Z17 P6x0_17 P6x2_17 P6x3_17 P10_17 P11_17 P12_17 V17
      · -- not c16
        exact J15 _ (if_neg c16).symm _ _ _ X14 e14 N12 Z14 P6x0_14 P6x2_14 P6x3_14 P10_14 P11_14 P12_14 V14
    intro f1 hf1 T15 L15 h15 X15 e15 N15 Z15 P6x0_15 P6x2_15 P6x3_15 P10_15 P11_15 P12_15 V16_15
    refine g_iload X15 hx hby at_124 rfl 126 rfl ?_
    refine g_iconst X15 hx hby at_126 (1 : Int32) rfl 127 rfl ?_
    suffices J18 : ∀ f2 : Nat → Value, f2 = (if (1 : Int32) < ln then (upd f1 1 r1) else f1) → ∀ (T18 : State) (L18 : List Loc) (h18 : Heap), Stand p l e room_1 s m #[(.long seq), (.int fl)] below meth c T18 L18 5 47 → T18.heap = h18 → Fr n0 L18 → n0 ≤ h18.size → Exa Z h18 b5 "com/example/strandloom/strandloom/engine/Task" → Fld Z h18 b5 "com/example/strandloom/strandloom/engine/Task" "done" "Z" (.int dnR) → Fld Z h18 b5 "com/example/strandloom/strandloom/engine/Task" "predecessors" "[Lcom/example/strandloom/strandloom/engine/Task;" .null → TV Z h18 n0 r0 k0 → TV Z h18 n0 r1 k1 → TV Z h18 n0 r2 k2 → ArO Z h18 b14 "com/example/strandloom/strandloom/engine/Task" nL f2 → Goes p e below (Kend s below (Q0 seq fl Z h0 n0) room_1.cells room_1.slots) (T18.setTop (mkF m 136 #[.val (.long seq), .second, .val (.int fl), .val (.int k0), .val (.int k1), .val (.int k2), .val (.int ln), .val (.int unl), .val (.int sd), .val (.ref b5), .val r0, .val r1, .val r2, .val (.ref b14), .unset, .unset, .unset] [])) by
      refine g_icmp_le X15 hx hby at_127 136 130 (by decide) (by decide) rfl (fun c19 => ?_) (fun c19 => ?_)
      · -- c19
        refine g_aload X15 hx hby at_130 rfl rfl 132 rfl ?_
        refine g_iconst X15 hx hby at_132 (1 : Int32) rfl 133 rfl ?_
        refine g_aload X15 hx hby at_133 rfl (TV.isRef P11) 135 rfl ?_
        refine g_aastore X15 hx hby hZ e15 V16_15 (TV.sto P11_15 V16_15) at_135 (by decide) 1 rfl (own_gt hN (m := 1) rfl c19) 136 rfl ?_
        intro T20 h20 X20 e20 W20 V20
        have N20 := Fr.snoc X20 N15 gn_b14
        have Z20 : n0 ≤ h20.size := Nat.le_trans Z15 (Keep.of_wr W20).1
        have P6x0_20 := P6x0_15.wr W20
        have P6x2_20 := Fld.other W20 P6x2_15 (Or.inl ne_b5_b14)
        have P6x3_20 := Fld.other W20 P6x3_15 (Or.inl ne_b5_b14)
        have P10_20 := TV.arr (hw _ (List.mem_of_getElem? (i := 1) rfl)) P10_15 V16_15 W20
        have P11_20 := TV.arr (hw _ (List.mem_of_getElem? (i := 1) rfl)) P11_15 V16_15 W20
        have P12_20 := TV.arr (hw _ (List.mem_of_getElem? (i := 1) rfl)) P12_15 V16_15 W20
        exact J18 _ (if_pos c19).symm _ _ _ X20 e20 N20 Z20 P6x0_20 P6x2_20 P6x3_20 P10_20 P11_20 P12_20 V20
      · -- not c19
        exact J18 _ (if_neg c19).symm _ _ _ X15 e15 N15 Z15 P6x0_15 P6x2_15 P6x3_15 P10_15 P11_15 P12_15 V16_15
    intro f2 hf2 T18 L18 h18 X18 e18 N18 Z18 P6x0_18 P6x2_18 P6x3_18 P10_18 P11_18 P12_18 V19_18
    refine g_iload X18 hx hby at_136 rfl 138 rfl ?_
    refine g_iconst X18 hx hby at_138 (2 : Int32) rfl 139 rfl ?_
    suffices J21 : ∀ f3 : Nat → Value, f3 = (if (2 : Int32) < ln then (upd f2 2 r2) else f2) → ∀ (T21 : State) (L21 : List Loc) (h21 : Heap), Stand p l e room_1 s m #[(.long seq), (.int fl)] below meth c T21 L21 5 47 → T21.heap = h21 → Fr n0 L21 → n0 ≤ h21.size → Exa Z h21 b5 "com/example/strandloom/strandloom/engine/Task" → Fld Z h21 b5 "com/example/strandloom/strandloom/engine/Task" "done" "Z" (.int dnR) → Fld Z h21 b5 "com/example/strandloom/strandloom/engine/Task" "predecessors" "[Lcom/example/strandloom/strandloom/engine/Task;" .null → TV Z h21 n0 r0 k0 → TV Z h21 n0 r1 k1 → TV Z h21 n0 r2 k2 → ArO Z h21 b14 "com/example/strandloom/strandloom/engine/Task" nL f3 → Goes p e below (Kend s below (Q0 seq fl Z h0 n0) room_1.cells room_1.slots) (T21.setTop (mkF m 148 #[.val (.long seq), .second, .val (.int fl), .val (.int k0), .val (.int k1), .val (.int k2), .val (.int ln), .val (.int unl), .val (.int sd), .val (.ref b5), .val r0, .val r1, .val r2, .val (.ref b14), .unset, .unset, .unset] [])) by
      refine g_icmp_le X18 hx hby at_139 148 142 (by decide) (by decide) rfl (fun c22 => ?_) (fun c22 => ?_)
      · -- c22
        refine g_aload X18 hx hby at_142 rfl rfl 144 rfl ?_
        refine g_iconst X18 hx hby at_144 (2 : Int32) rfl 145 rfl ?_
        refine g_aload X18 hx hby at_145 rfl (TV.isRef P12) 147 rfl ?_
        refine g_aastore X18 hx hby hZ e18 V19_18 (TV.sto P12_18 V19_18) at_147 (by decide) 2 rfl (own_gt hN (m := 2) rfl c22) 148 rfl ?_
        intro T23 h23 X23 e23 W23 V23
        have N23 := Fr.snoc X23 N18 gn_b14
        have Z23 : n0 ≤ h23.size := Nat.le_trans Z18 (Keep.of_wr W23).1
        have P6x0_23 := P6x0_18.wr W23
        have P6x2_23 := Fld.other W23 P6x2_18 (Or.inl ne_b5_b14)
        have P6x3_23 := Fld.other W23 P6x3_18 (Or.inl ne_b5_b14)
        have P10_23 := TV.arr (hw _ (List.mem_of_getElem? (i := 1) rfl)) P10_18 V19_18 W23
        have P11_23 := TV.arr (hw _ (List.mem_of_getElem? (i := 1) rfl)) P11_18 V19_18 W23
        have P12_23 := TV.arr (hw _ (List.mem_of_getElem? (i := 1) rfl)) P12_18 V19_18 W23
        exact J21 _ (if_pos c22).symm _ _ _ X23 e23 N23 Z23 P6x0_23 P6x2_23 P6x3_23 P10_23 P11_23 P12_23 V23
      · -- not c22
        exact J21 _ (if_neg c22).symm _ _ _ X18 e18 N18 Z18 P6x0_18 P6x2_18 P6x3_18 P10_18 P11_18 P12_18 V19_18
    intro f3 hf3 T21 L21 h21 X21 e21 N21 Z21 P6x0_21 P6x2_21 P6x3_21 P10_21 P11_21 P12_21 V22_21
    refine g_aload X21 hx hby at_148 rfl rfl 150 rfl ?_
    refine g_aload X21 hx hby at_150 rfl rfl 152 rfl ?_
    refine g_putfield X21 hx hby hZ hown (host := "") (Or.inl (hw _ (List.mem_of_getElem? (i := 23) rfl))) Via.refl e21 P6x3_21 P6x0_21 (Or.inl (hw _ (List.mem_of_getElem? (i := 24) rfl))) (hw _ (List.mem_of_getElem? (i := 1) rfl)) (ty := (.array (.object "com/example/strandloom/strandloom/engine/Task"))) (by decide) rfl rfl at_152 155 rfl ?_
    intro T24 h24 X24 e24 W24
    have N24 := Fr.snoc X24 N21 gn_b5
    have Z24 : n0 ≤ h24.size := Nat.le_trans Z21 (Keep.of_wr W24).1
    have P6x0_24 := P6x0_21.wr W24
    have P6x2_24 := P6x2_21.other W24 (Or.inr (slot_ne (Or.inl (hw _ (List.mem_of_getElem? (i := 21) rfl))) (Or.inl (hw _ (List.mem_of_getElem? (i := 24) rfl))) (by decide) (t := .boolean) (t' := (.array (.object "com/example/strandloom/strandloom/engine/Task"))) (by decide) (by decide)))
    have P6x3_24 := P6x3_21.same W24
    have P10_24 := TV.pred (Or.inl (hw _ (List.mem_of_getElem? (i := 21) rfl))) (Or.inl (hw _ (List.mem_of_getElem? (i := 24) rfl))) P10_21 W24
    have P11_24 := TV.pred (Or.inl (hw _ (List.mem_of_getElem? (i := 21) rfl))) (Or.inl (hw _ (List.mem_of_getElem? (i := 24) rfl))) P11_21 W24
    have P12_24 := TV.pred (Or.inl (hw _ (List.mem_of_getElem? (i := 21) rfl))) (Or.inl (hw _ (List.mem_of_getElem? (i := 24) rfl))) P12_21 W24
    have V22_24 := ArO.other V22_21 W24 (Ne.symm ne_b5_b14)
    refine g_iload X24 hx hby at_155 rfl 157 rfl ?_
    refine g_if_eq X24 hx hby at_157 166 160 (by decide) (by decide) rfl (fun _ => ?_) (fun q => absurd c13 q)
    refine g_iload X24 hx hby at_166 rfl 168 rfl ?_
    refine g_iconst X24 hx hby at_168 (1 : Int32) rfl 169 rfl ?_
    suffices J25 : ∀ o0 : Int32, o0 = (if ln < (1 : Int32) then (1 : Int32) else (if k0 = (1 : Int32) then (0 : Int32) else (1 : Int32))) → Goes p e below (Kend s below (Q0 seq fl Z h0 n0) room_1.cells room_1.slots) (T24.setTop (mkF m 182 #[.val (.long seq), .second, .val (.int fl), .val (.int k0), .val (.int k1), .val (.int k2), .val (.int ln), .val (.int unl), .val (.int sd), .val (.ref b5), .val r0, .val r1, .val r2, .val (.ref b14), .unset, .unset, .unset] [(.int o0)])) by
      refine g_icmp_lt X24 hx hby at_169 177 172 (by decide) (by decide) rfl (fun c26 => ?_) (fun c26 => ?_)
      · -- c26
        refine g_iconst X24 hx hby at_177 (1 : Int32) rfl 178 rfl ?_
        refine g_goto X24 hx hby at_178 182 (by decide) (by decide) ?_
        exact J25 _ (if_pos c26).symm
      · -- not c26
        refine g_iloadN X24 hx hby at_172 rfl 173 rfl ?_
        refine g_iconst X24 hx hby at_173 (1 : Int32) rfl 174 rfl ?_
        refine g_icmp_eq X24 hx hby at_174 181 177 (by decide) (by decide) rfl (fun c27 => ?_) (fun c27 => ?_)
        · -- c27
          refine g_iconst X24 hx hby at_181 (0 : Int32) rfl 182 rfl ?_
          exact J25 _ ((if_neg c26).trans (if_pos c27)).symm
        · -- not c27
          refine g_iconst X24 hx hby at_177 (1 : Int32) rfl 178 rfl ?_
          refine g_goto X24 hx hby at_178 182 (by decide) (by decide) ?_
          exact J25 _ ((if_neg c26).trans (if_neg c27)).symm
    intro o0 ho0
    refine g_istore X24 hx hby at_182 o0 rfl #[.val (.long seq), .second, .val (.int fl), .val (.int k0), .val (.int k1), .val (.int k2), .val (.int ln), .val (.int unl), .val (.int sd), .val (.ref b5), .val r0, .val r1, .val r2, .val (.ref b14), .val (.int o0), .unset, .unset] rfl 184 rfl ?_
    refine g_iload X24 hx hby at_184 rfl 186 rfl ?_
    refine g_iconst X24 hx hby at_186 (2 : Int32) rfl 187 rfl ?_
    suffices J28 : ∀ o1 : Int32, o1 = (if ln < (2 : Int32) then (1 : Int32) else (if k1 = (1 : Int32) then (0 : Int32) else (1 : Int32))) → Goes p e below (Kend s below (Q0 seq fl Z h0 n0) room_1.cells room_1.slots) (T24.setTop (mkF m 201 #[.val (.long seq), .second, .val (.int fl), .val (.int k0), .val (.int k1), .val (.int k2), .val (.int ln), .val (.int unl), .val (.int sd), .val (.ref b5), .val r0, .val r1, .val r2, .val (.ref b14), .val (.int o0), .unset, .unset] [(.int o1)])) by
      refine g_icmp_lt X24 hx hby at_187 196 190 (by decide) (by decide) rfl (fun c29 => ?_) (fun c29 => ?_)
      · -- c29
        refine g_iconst X24 hx hby at_196 (1 : Int32) rfl 197 rfl ?_
        refine g_goto X24 hx hby at_197 201 (by decide) (by decide) ?_
        exact J28 _ (if_pos c29).symm
      · -- not c29
        refine g_iload X24 hx hby at_190 rfl 192 rfl ?_
        refine g_iconst X24 hx hby at_192 (1 : Int32) rfl 193 rfl ?_
        refine g_icmp_eq X24 hx hby at_193 200 196 (by decide) (by decide) rfl (fun c30 => ?_) (fun c30 => ?_)
        · -- c30
          refine g_iconst X24 hx hby at_200 (0 : Int32) rfl 201 rfl ?_
          exact J28 _ ((if_neg c29).trans (if_pos c30)).symm
        · -- not c30
          refine g_iconst X24 hx hby at_196 (1 : Int32) rfl 197 rfl ?_
          refine g_goto X24 hx hby at_197 201 (by decide) (by decide) ?_
          exact J28 _ ((if_neg c29).trans (if_neg c30)).symm
    intro o1 ho1
    refine g_istore X24 hx hby at_201 o1 rfl #[.val (.long seq), .second, .val (.int fl), .val (.int k0), .val (.int k1), .val (.int k2), .val (.int ln), .val (.int unl), .val (.int sd), .val (.ref b5), .val r0, .val r1, .val r2, .val (.ref b14), .val (.int o0), .val (.int o1), .unset] rfl 203 rfl ?_
    refine g_iload X24 hx hby at_203 rfl 205 rfl ?_
    refine g_iconst X24 hx hby at_205 (3 : Int32) rfl 206 rfl ?_
    suffices J31 : ∀ o2 : Int32, o2 = (if ln < (3 : Int32) then (1 : Int32) else (if k2 = (1 : Int32) then (0 : Int32) else (1 : Int32))) → Goes p e below (Kend s below (Q0 seq fl Z h0 n0) room_1.cells room_1.slots) (T24.setTop (mkF m 220 #[.val (.long seq), .second, .val (.int fl), .val (.int k0), .val (.int k1), .val (.int k2), .val (.int ln), .val (.int unl), .val (.int sd), .val (.ref b5), .val r0, .val r1, .val r2, .val (.ref b14), .val (.int o0), .val (.int o1), .unset] [(.int o2)])) by
      refine g_icmp_lt X24 hx hby at_206 215 209 (by decide) (by decide) rfl (fun c32 => ?_) (fun c32 => ?_)
      · -- c32
        refine g_iconst X24 hx hby at_215 (1 : Int32) rfl 216 rfl ?_
        refine g_goto X24 hx hby at_216 220 (by decide) (by decide) ?_
        exact J31 _ (if_pos c32).symm
      · -- not c32
        refine g_iload X24 hx hby at_209 rfl 211 rfl ?_
        refine g_iconst X24 hx hby at_211 (1 : Int32) rfl 212 rfl ?_
        refine g_icmp_eq X24 hx hby at_212 219 215 (by decide) (by decide) rfl (fun c33 => ?_) (fun c33 => ?_)
        · -- c33
          refine g_iconst X24 hx hby at_219 (0 : Int32) rfl 220 rfl ?_
          exact J31 _ ((if_neg c32).trans (if_pos c33)).symm
        · -- not c33
          refine g_iconst X24 hx hby at_215 (1 : Int32) rfl 216 rfl ?_
          refine g_goto X24 hx hby at_216 220 (by decide) (by decide) ?_
          exact J31 _ ((if_neg c32).trans (if_neg c33)).symm
    intro o2 ho2
    refine g_istore X24 hx hby at_220 o2 rfl #[.val (.long seq), .second, .val (.int fl), .val (.int k0), .val (.int k1), .val (.int k2), .val (.int ln), .val (.int unl), .val (.int sd), .val (.ref b5), .val r0, .val r1, .val r2, .val (.ref b14), .val (.int o0), .val (.int o1), .val (.int o2)] rfl 222 rfl ?_
    refine g_iload X24 hx hby at_222 rfl 224 rfl ?_
    suffices J34 : ∀ exq : Int32, exq = (if o0 = 0 then (0 : Int32) else (if o1 = 0 then (0 : Int32) else (if o2 = 0 then (0 : Int32) else (1 : Int32)))) → Goes p e below (Kend s below (Q0 seq fl Z h0 n0) room_1.cells room_1.slots) (T24.setTop (mkF m 242 #[.val (.long seq), .second, .val (.int fl), .val (.int k0), .val (.int k1), .val (.int k2), .val (.int ln), .val (.int unl), .val (.int sd), .val (.ref b5), .val r0, .val r1, .val r2, .val (.ref b14), .val (.int o0), .val (.int o1), .val (.int o2)] [(.int exq)])) by
      refine g_if_eq X24 hx hby at_224 241 227 (by decide) (by decide) rfl (fun c35 => ?_) (fun c35 => ?_)
      · -- c35
        refine g_iconst X24 hx hby at_241 (0 : Int32) rfl 242 rfl ?_
        exact J34 _ (if_pos c35).symm
      · -- not c35
        refine g_iload X24 hx hby at_227 rfl 229 rfl ?_
        refine g_if_eq X24 hx hby at_229 241 232 (by decide) (by decide) rfl (fun c36 => ?_) (fun c36 => ?_)
        · -- c36
          refine g_iconst X24 hx hby at_241 (0 : Int32) rfl 242 rfl ?_
          exact J34 _ ((if_neg c35).trans (if_pos c36)).symm
        · -- not c36
          refine g_iload X24 hx hby at_232 rfl 234 rfl ?_
          refine g_if_eq X24 hx hby at_234 241 237 (by decide) (by decide) rfl (fun c37 => ?_) (fun c37 => ?_)
          · -- c37
            refine g_iconst X24 hx hby at_241 (0 : Int32) rfl 242 rfl ?_
            exact J34 _ ((if_neg c35).trans ((if_neg c36).trans (if_pos c37))).symm
          · -- not c37
            refine g_iconst X24 hx hby at_237 (1 : Int32) rfl 238 rfl ?_
            refine g_goto X24 hx hby at_238 242 (by decide) (by decide) ?_
            exact J34 _ ((if_neg c35).trans ((if_neg c36).trans (if_neg c37))).symm
    intro exq hexq
    refine g_istore X24 hx hby at_242 exq rfl #[.val (.long seq), .second, .val (.int fl), .val (.int k0), .val (.int k1), .val (.int k2), .val (.int ln), .val (.int unl), .val (.int sd), .val (.ref b5), .val r0, .val r1, .val r2, .val (.int exq), .val (.int o0), .val (.int o1), .val (.int o2)] rfl 244 rfl ?_
    refine g_aload X24 hx hby at_244 rfl rfl 246 rfl ?_
    refine g_virtual X24 hx hby hZ hown (hw _ (List.mem_of_getElem? (i := 25) rfl)) (hw _ (List.mem_of_getElem? (i := 26) rfl)) (notFace_of_selects (args := #[]) (mvT hZ (hw _ (List.mem_of_getElem? (i := 28) rfl)))) (hw _ (List.mem_of_getElem? (i := 28) rfl)) (hw _ (List.mem_of_getElem? (i := 27) rfl)) (hw _ (List.mem_of_getElem? (i := 2) rfl)) (hw _ (List.mem_of_getElem? (i := 29) rfl)) at_246 b5 P6x0_24 [] [] (rm5a l Z a0 hw [] b5 b14 nL f3 (dnF k0 k1 k2) h24 n0 Z24 P6x3_24 V22_24 hN3 (own_E hN hN3 hk0.1 hk1.1 hk2.1 P10_24 P11_24 P12_24 hf1 hf2 hf3)) e24 rfl (by rw [hml]; rfl) pd3 rfl (by decide) 0 (Nat.le_of_eq rfl) (by decide) (by decide) (by decide) (by decide) 249 rfl ?_
    intro T38 v38 L38 X38 Q38
    obtain ⟨rfl, N38', e38⟩ := Q38
    have N38 := Fr.app N24 N38'
    show Goes p e below _ (T38.setTop (mkF m 249 _ [(.int (if allB (dnF k0 k1 k2) nL = true then 1 else 0))]))
    refine g_iload X38 hx hby at_249 rfl 251 rfl ?_
    refine g_icmp_ne X38 hx hby at_251 258 254 (by decide) (by decide) rfl (fun _ => ?_) (fun q => absurd (own_res hN hN3 ho0 ho1 ho2 hexq) q)
    refine g_iconst X38 hx hby at_254 (1 : Int32) rfl 255 rfl ?_
    refine g_goto X38 hx hby at_255 259 (by decide) (by decide) ?_
    exact g_ireturn X38 hx hby hret hlk (Or.inr (Or.inl rfl)) (nar_bool (Or.inr rfl)) at_259 ⟨rfl, N38⟩ (by decide) (by decide)
  · -- not c13
    refine g_iload X12 hx hby at_155 rfl 157 rfl ?_
    refine g_if_eq X12 hx hby at_157 166 160 (by decide) (by decide) rfl (fun q => absurd q c13) (fun _ => ?_)
    refine g_iconst X12 hx hby at_160 (1 : Int32) rfl 161 rfl ?_
    refine g_istore X12 hx hby at_161 (1 : Int32) rfl #[.val (.long seq), .second, .val (.int fl), .val (.int k0), .val (.int k1), .val (.int k2), .val (.int ln), .val (.int unl), .val (.int sd), .val (.ref b5), .val r0, .val r1, .val r2, .val (.int (1 : Int32)), .unset, .unset, .unset] rfl 163 rfl ?_
    refine g_goto X12 hx hby at_163 244 (by decide) (by decide) ?_
    refine g_aload X12 hx hby at_244 rfl rfl 246 rfl ?_
    refine g_virtual X12 hx hby hZ hown (hw _ (List.mem_of_getElem? (i := 25) rfl)) (hw _ (List.mem_of_getElem? (i := 26) rfl)) (notFace_of_selects (args := #[]) (mvT hZ (hw _ (List.mem_of_getElem? (i := 28) rfl)))) (hw _ (List.mem_of_getElem? (i := 28) rfl)) (hw _ (List.mem_of_getElem? (i := 27) rfl)) (hw _ (List.mem_of_getElem? (i := 2) rfl)) (hw _ (List.mem_of_getElem? (i := 29) rfl)) at_246 b5 P6x0_12 [] [] (rm5n l Z a0 hw [] b5 T12.heap n0 Z12 P6x3_12) rfl rfl (by rw [hml]; rfl) pd3 rfl (by decide) 0 (Nat.le_of_eq rfl) (by decide) (by decide) (by decide) (by decide) 249 rfl ?_
    intro T39 v39 L39 X39 Q39
    obtain ⟨rfl, N39', e39⟩ := Q39
    have N39 := Fr.app N12 N39'
    show Goes p e below _ (T39.setTop (mkF m 249 _ [(.int pdN)]))
    refine g_iload X39 hx hby at_249 rfl 251 rfl ?_
    refine g_icmp_ne X39 hx hby at_251 258 254 (by decide) (by decide) rfl (fun _ => ?_) (fun q => absurd rfl q)
    refine g_iconst X39 hx hby at_254 (1 : Int32) rfl 255 rfl ?_
    refine g_goto X39 hx hby at_255 259 (by decide) (by decide) ?_
    exact g_ireturn X39 hx hby hret hlk (Or.inr (Or.inl rfl)) (nar_bool (Or.inr rfl)) at_259 ⟨rfl, N39⟩ (by decide) (by decide)
set_option maxRecDepth 65536 in
set_option maxHeartbeats 40000000 in
theorem comes_1 {Post : Tables → Env → Array Value → State → Outcome → State → Prop} (hpost : ∀ tb e args s v u, (limb_1_1.after args s (.returned v) u = true ∧ limb_1_2.after args s (.returned v) u = true ∧ True) → FrameEnd s (.returned v) u (Jvm.fieldLocs frame_1_writes args s ++ Jvm.arrayLocs frame_1_arrays args s ++ Jvm.staticLocs frame_1_statics s) 24 192 → Post tb e args s (.returned v) u) :
    ArmFor flags0 classFile x code maxLocals ret World_1 tables_1 room_1 Calls_1 rest_1 Pre_1 Post := by
  intro l hfl _ _ p e ha hc hk s m args below hf hA hF happ hP
  obtain ⟨hcalls, hrest, hpre⟩ := hP
  obtain ⟨-, -, -, hnamed, -, -, -, hat⟩ := (Spec.applies_iff hf).mp happ
  obtain ⟨hg, hn⟩ := and_e (Cond.before_iff.mp (show (Jvm.Cond.and given_1 narrow_1).before args s = true from hpre))
  obtain ⟨q0, r0⟩ := and_e hg
  obtain ⟨q1, r1⟩ := and_e r0
  obtain ⟨w0, w1, rfl⟩ : ∃ w0 w1 : Value, args = #[w0, w1] := by
    have hs : args.size = 2 := by simpa [Cond.value, given_1] using q0
    obtain ⟨L⟩ := args
    match L, hs with
    | [w0, w1], _ => exact ⟨w0, w1, rfl⟩
  have hw := fun d (hd : d ∈ tables_1) => atoms_spec (ws := Jvm.Cond.code x code maxLocals ret :: tables_1) hat d (List.mem_cons_of_mem _ hd)
  obtain ⟨i0, ei0⟩ := isL_v q1
  obtain rfl : w0 = (.long i0) := Option.some.inj ei0
  obtain ⟨i1, ei1⟩ := is_v r1
  obtain rfl : w1 = (.int i1) := Option.some.inj ei1
  obtain ⟨n, o, h1, h2, h3, _, L, rfl, ⟨rfl, N⟩, hq⟩ := rm0 l s _ hw tables_1 i0 i1 s.heap s.heap.size (Nat.le_refl _) p e ha hc hk s m _ below hf ((Spec.applies_iff_loose hf).mp happ).1 ⟨rfl, State.Warmed39.refl s, rfl⟩ trivial
  refine ⟨n, _, h1, h2, h3, hpost _ _ _ _ _ _ ⟨Cond.after_iff.mpr rfl, Cond.after_iff.mpr (eq_i res_at (Term.int_eval (1)) rfl), trivial⟩ ⟨hq.1, hq.2.1, (hq.2.2.sift fun y hy => Or.inr (N y hy)).mono (by decide) (by decide)⟩⟩
theorem main_1_1 : Claimed_1_1 := comes_1 fun _ _ _ _ _ _ h hF => ⟨h.1, hF⟩
theorem main_1_2 : Claimed_1_2 := comes_1 fun _ _ _ _ _ _ h hF => ⟨h.2.1, hF⟩
end Jvm.Pilot.@@N@@
namespace Jvm.Pilot.@@N@@
open Jvm Jvm.ClassFile Sem Op Lib Jvm.Free Jvm.Stand Jvm.Pilot.@@N@@.Jvm.D
/-! MADE BY PROGRAM (witnessworld.py) out of the Statement's table words and the real class files: 10 classes; the members and pool entries that the words name. The judged class is class 1, her method 2. -/
namespace start1
open Jvm.ClassFile
def u (s : String) : CpInfo := .utf8 (stringToUtf16 s)
/-- a pool by its gaps: so many unusable entries, then the entry; so many at the end -/
def gap : Nat → List CpInfo → List CpInfo
  | 0, r => r
  | n + 1, r => .unusable :: gap n r
def poolList (es : List (Nat × CpInfo)) (last : Nat) : List CpInfo := es.foldr (fun e r => gap e.1 (e.2 :: r)) (gap last [])
def pool (es : List (Nat × CpInfo)) (last : Nat) : Array CpInfo := ⟨poolList es last⟩
def fileOf (pool : Array CpInfo) (this : Nat) (attrs : Array Attribute := #[]) (ms : Array MethodInfo := #[]) (fl : Nat := 33) (sup : Nat := 0) (ifs : Array Nat := #[]) (fds : Array FieldInfo := #[]) : ClassFile where
  minorVersion := 0
  majorVersion := 65
  constantPool := pool
  accessFlags := fl
  thisClass := this
  superClass := sup
  interfaces := ifs
  fields := fds
  methods := ms
  attributes := attrs
def plain (name : String) (sup : Option ClassId) : Class where
  name := name
  kind := .ordinary
  loader := none
  accessFlags := 33
  super := sup
  interfaces := #[]
  cf := none
  fields := #[]
  methods := #[]
  instanceTypes := #[]
  staticTypes := #[]
  resolved := #[]
  callSites := []
  init := .initialized
  statics := none
  mirror := none

def pool0 : Array CpInfo := pool [(5, u "<init>"), (0, u "()V"), (1, .class_ 10), (1, u "java/lang/Object")] 113

def k0c0 : Code := { maxStack := 0, maxLocals := 1, code := object_method_1_code, exceptionTable := #[], attributes := #[] }
def k0m0 : Method := { name := "<init>", desc := "()V", sig := { parameters := [], returnType := none }, accessFlags := 1, code := some k0c0 }
/-- java/lang/Object -/
def k0 : Class := { plain "java/lang/Object" none with
  accessFlags := 33
  interfaces := #[]
  cf := some (fileOf pool0 8 #[] #[{ accessFlags := 1, nameIndex := 5, descriptorIndex := 6, attributes := #[] }] 33 0 #[] #[])
  fields := #[]
  methods := #[k0m0]
  instanceTypes := #[]
  staticTypes := #[]
  resolved := Array.replicate 124 none
  statics := none }

def pool1 : Array CpInfo := pool [(2, .class_ 4), (1, u "java/lang/Object"), (0, u "<init>"), (0, u "()V"), (0, .class_ 8), (0, u "com/example/strandloom/strandloom/engine/Task"), (0, .methodref 7 10), (0, .nameAndType 5 11), (0, u "(J)V"), (0, .methodref 7 13), (0, .nameAndType 14 6), (0, u "markDone"), (0, .methodref 16 17), (0, .class_ 18), (0, .nameAndType 19 20), (0, u "com/example/strandloom/strandloom/engine/TaskPredecessorsDonePinLaw"), (0, u "make"), (0, u "(IJ)Lcom/example/strandloom/strandloom/engine/Task;"), (0, .fieldref 7 22), (0, .nameAndType 23 24), (0, u "predecessors"), (0, u "[Lcom/example/strandloom/strandloom/engine/Task;"), (0, .methodref 7 26), (0, .nameAndType 27 28), (0, u "predecessorsDone"), (0, u "()Z"), (5, u "law"), (0, u "(JI)Z")] 3

def k1m0 : Method := { name := "<init>", desc := "()V", sig := { parameters := [], returnType := none }, accessFlags := 1, code := none }
def k1c1 : Code := { maxStack := 4, maxLocals := 4, code := method_2_code, exceptionTable := #[], attributes := #[] }
def k1m1 : Method := { name := "make", desc := "(IJ)Lcom/example/strandloom/strandloom/engine/Task;", sig := { parameters := [.int, .long], returnType := some (.object "com/example/strandloom/strandloom/engine/Task") }, accessFlags := 10, code := some k1c1 }
def k1c2 : Code := { maxStack := 4, maxLocals := 17, code := code, exceptionTable := #[], attributes := #[] }
def k1m2 : Method := { name := "law", desc := "(JI)Z", sig := { parameters := [.long, .int], returnType := some .boolean }, accessFlags := 9, code := some k1c2 }
/-- com/example/strandloom/strandloom/engine/TaskPredecessorsDonePinLaw -/
def k1 : Class := { plain "com/example/strandloom/strandloom/engine/TaskPredecessorsDonePinLaw" (some 0) with
  accessFlags := 49
  interfaces := #[]
  cf := some (fileOf pool1 16 #[] #[{ accessFlags := 1, nameIndex := 5, descriptorIndex := 6, attributes := #[] }, { accessFlags := 10, nameIndex := 19, descriptorIndex := 20, attributes := #[] }, { accessFlags := 9, nameIndex := 34, descriptorIndex := 35, attributes := #[] }] 49 2 #[] #[])
  fields := #[]
  methods := #[k1m0, k1m1, k1m2]
  instanceTypes := #[]
  staticTypes := #[]
  resolved := Array.replicate 39 none
  statics := none }

def pool2 : Array CpInfo := pool [(1, .methodref 2 3), (0, .class_ 4), (0, .nameAndType 5 6), (0, u "java/lang/Object"), (0, u "<init>"), (0, u "()V"), (0, .fieldref 8 9), (0, .class_ 10), (0, .nameAndType 11 12), (0, u "com/example/strandloom/strandloom/engine/Task"), (0, u "sequence"), (0, u "J"), (2, u "transaction"), (0, u "Lcom/example/strandloom/strandloom/api/Transaction;"), (18, u "cells"), (3, u "[Lcom/example/strandloom/strandloom/engine/Cell;"), (2, u "mayLeaveEmptyCells"), (0, u "Z"), (3, u "()Z"), (6, u "failure"), (0, u "Ljava/lang/Throwable;"), (0, .fieldref 8 57), (0, .nameAndType 58 59), (0, u "predecessors"), (0, u "[Lcom/example/strandloom/strandloom/engine/Task;"), (14, .fieldref 8 75), (0, .nameAndType 76 43), (0, u "done"), (0, .class_ 78), (0, u "com/example/strandloom/strandloom/engine/Task$ValuesSoFar"), (16, .class_ 96), (0, u "com/example/strandloom/strandloom/engine/Task$ExecutedResults"), (9, u "output"), (0, u "Ljava/lang/Object;"), (4, u "saved"), (0, u "I"), (2, u "replaced"), (0, u "[Ljava/lang/Object;"), (2, u "replacedNumbers"), (0, u "[J"), (67, u "(J)V"), (9, u "NOT_RUN"), (0, u "Ljava/lang/String;"), (3, u "REJECTED"), (17, u "predecessorsDone"), (2, u "markDone")] 12

def k2c0 : Code := { maxStack := 3, maxLocals := 3, code := prog_38_method_1_code, exceptionTable := #[], attributes := #[] }
def k2m0 : Method := { name := "<init>", desc := "(J)V", sig := { parameters := [.long], returnType := none }, accessFlags := 0, code := some k2c0 }
def k2c1 : Code := { maxStack := 2, maxLocals := 5, code := prog_38_method_5_code, exceptionTable := #[], attributes := #[] }
def k2m1 : Method := { name := "predecessorsDone", desc := "()Z", sig := { parameters := [], returnType := some .boolean }, accessFlags := 0, code := some k2c1 }
def k2c2 : Code := { maxStack := 2, maxLocals := 1, code := prog_38_method_7_code, exceptionTable := #[], attributes := #[] }
def k2m2 : Method := { name := "markDone", desc := "()V", sig := { parameters := [], returnType := none }, accessFlags := 0, code := some k2c2 }
/-- com/example/strandloom/strandloom/engine/Task -/
def k2 : Class := { plain "com/example/strandloom/strandloom/engine/Task" (some 0) with
  accessFlags := 32
  interfaces := #[]
  cf := some (fileOf pool2 8 #[.nestMembers #[95, 77]] #[{ accessFlags := 0, nameIndex := 5, descriptorIndex := 189, attributes := #[] }, { accessFlags := 0, nameIndex := 222, descriptorIndex := 47, attributes := #[] }, { accessFlags := 0, nameIndex := 225, descriptorIndex := 6, attributes := #[] }] 32 2 #[] #[{ accessFlags := 26, nameIndex := 199, descriptorIndex := 200, attributes := #[] }, { accessFlags := 26, nameIndex := 204, descriptorIndex := 200, attributes := #[] }, { accessFlags := 0, nameIndex := 35, descriptorIndex := 39, attributes := #[] }, { accessFlags := 0, nameIndex := 58, descriptorIndex := 59, attributes := #[] }, { accessFlags := 18, nameIndex := 11, descriptorIndex := 12, attributes := #[] }, { accessFlags := 2, nameIndex := 15, descriptorIndex := 16, attributes := #[] }, { accessFlags := 2, nameIndex := 116, descriptorIndex := 117, attributes := #[] }, { accessFlags := 2, nameIndex := 120, descriptorIndex := 121, attributes := #[] }, { accessFlags := 2, nameIndex := 112, descriptorIndex := 113, attributes := #[] }, { accessFlags := 2, nameIndex := 106, descriptorIndex := 107, attributes := #[] }, { accessFlags := 2, nameIndex := 54, descriptorIndex := 55, attributes := #[] }, { accessFlags := 2, nameIndex := 42, descriptorIndex := 43, attributes := #[] }, { accessFlags := 66, nameIndex := 76, descriptorIndex := 43, attributes := #[] }])
  fields := #[{ name := "NOT_RUN", type := (.object "java/lang/String"), accessFlags := 26, slot := 0, constantValue := 0 }, { name := "REJECTED", type := (.object "java/lang/String"), accessFlags := 26, slot := 1, constantValue := 0 }, { name := "cells", type := (.array (.object "com/example/strandloom/strandloom/engine/Cell")), accessFlags := 0, slot := 0, constantValue := 0 }, { name := "predecessors", type := (.array (.object "com/example/strandloom/strandloom/engine/Task")), accessFlags := 0, slot := 1, constantValue := 0 }, { name := "sequence", type := .long, accessFlags := 18, slot := 2, constantValue := 0 }, { name := "transaction", type := (.object "com/example/strandloom/strandloom/api/Transaction"), accessFlags := 2, slot := 3, constantValue := 0 }, { name := "replaced", type := (.array (.object "java/lang/Object")), accessFlags := 2, slot := 4, constantValue := 0 }, { name := "replacedNumbers", type := (.array .long), accessFlags := 2, slot := 5, constantValue := 0 }, { name := "saved", type := .int, accessFlags := 2, slot := 6, constantValue := 0 }, { name := "output", type := (.object "java/lang/Object"), accessFlags := 2, slot := 7, constantValue := 0 }, { name := "failure", type := (.object "java/lang/Throwable"), accessFlags := 2, slot := 8, constantValue := 0 }, { name := "mayLeaveEmptyCells", type := .boolean, accessFlags := 2, slot := 9, constantValue := 0 }, { name := "done", type := .boolean, accessFlags := 66, slot := 10, constantValue := 0 }]
  methods := #[k2m0, k2m1, k2m2]
  instanceTypes := #[(.array (.object "com/example/strandloom/strandloom/engine/Cell")), (.array (.object "com/example/strandloom/strandloom/engine/Task")), .long, (.object "com/example/strandloom/strandloom/api/Transaction"), (.array (.object "java/lang/Object")), (.array .long), .int, (.object "java/lang/Object"), (.object "java/lang/Throwable"), .boolean, .boolean]
  staticTypes := #[(.object "java/lang/String"), (.object "java/lang/String")]
  resolved := Array.replicate 238 none
  statics := none }

def pool3 : Array CpInfo := pool [(1, u "java/lang/Cloneable"), (0, .class_ 1), (0, u "java/lang/Object"), (0, .class_ 3)] 3

/-- java/lang/Cloneable -/
def k3 : Class := { plain "java/lang/Cloneable" (some 0) with
  accessFlags := 1537
  interfaces := #[]
  cf := some (fileOf pool3 2 #[] #[] 1537 4 #[] #[])
  fields := #[]
  methods := #[]
  instanceTypes := #[]
  staticTypes := #[]
  resolved := Array.replicate 8 none
  statics := none }

def pool4 : Array CpInfo := pool [(1, u "java/io/Serializable"), (0, .class_ 1), (0, u "java/lang/Object"), (0, .class_ 3)] 3

/-- java/io/Serializable -/
def k4 : Class := { plain "java/io/Serializable" (some 0) with
  accessFlags := 1537
  interfaces := #[]
  cf := some (fileOf pool4 2 #[] #[] 1537 4 #[] #[])
  fields := #[]
  methods := #[]
  instanceTypes := #[]
  staticTypes := #[]
  resolved := Array.replicate 8 none
  statics := none }

/-- the primitive byte -/
def k5 : Class := { plain "byte" none with kind := .primitive 'B', accessFlags := 0x411 }
/-- [B -/
def k6 : Class := { plain "[B" (some 0) with kind := .array 5 .byte, interfaces := #[3, 4], accessFlags := 1041 }

/-- the primitive int -/
def k7 : Class := { plain "int" none with kind := .primitive 'I', accessFlags := 0x411 }
/-- [I -/
def k8 : Class := { plain "[I" (some 0) with kind := .array 7 .int, interfaces := #[3, 4], accessFlags := 1041 }

/-- [Lcom/example/strandloom/strandloom/engine/Task; -/
def k9 : Class := { plain "[Lcom/example/strandloom/strandloom/engine/Task;" (some 0) with kind := .array 2 (.object "com/example/strandloom/strandloom/engine/Task"), interfaces := #[3, 4], accessFlags := 1041 }

def heap : Heap := #[]
def classes : Array Class := #[k0, k1, k2, k3, k4, k5, k6, k7, k8, k9]
def interned : List (Array UInt16 × Addr) := []
def slotsUsed : Nat := 0
def theMethod : MethodId := ⟨1, 2⟩
def args0 : Array Value := #[.long 5, .int 5]
def aboutOver (below : List Frame) : State where
  vm := { classes := classes, interned := interned.toArray }
  heap := heap
  slotsUsed := slotsUsed
  threads := #[{ frames := .invoking theMethod args0 :: below }]
def below0 : List Frame := [.native { method := ⟨0, 0⟩, args := #[] }]
def about1 : State := aboutOver below0
def p0 : Program := .bare "" "" ""
def e0 : Env := launch0.env 0 0 0
theorem w_frames : about1.frames = Frame.invoking theMethod args0 :: below0 := rfl
set_option maxRecDepth 65536 in
theorem w_args : argsFit about1.vm theMethod args0 = true := by decide +kernel
set_option maxRecDepth 65536 in
theorem w_heap : heapFits about1 = true := by decide +kernel
set_option maxRecDepth 65536 in
theorem w_runnable : about1.curStatus? = some .runnable := by decide +kernel
set_option maxRecDepth 65536 in
theorem w_alone : about1.alone = true := by decide +kernel
set_option maxRecDepth 65536 in
theorem w_named : about1.methodNamed? x = some theMethod := by decide +kernel
set_option maxRecDepth 65536 in
theorem w_hears : about1.hears theMethod below0 = true := by decide +kernel
set_option maxRecDepth 65536 in
theorem w_ripe : about1.ripe theMethod args0 below0 = true := by decide +kernel
theorem w_running : about1.status = .running := rfl
set_option maxRecDepth 65536 in
theorem w_room : about1.hasRoom e0.platform room_1 = true :=
  launch0.hasRoom_least _ room_1 (by decide +kernel) (by decide +kernel) (by decide +kernel) (by decide +kernel) (by decide +kernel) (by decide +kernel)
theorem allAtoms_all (ts : List Jvm.Cond) (a : Array Jvm.Value) (st : Jvm.State) : (allAtoms ts).before a st = ts.all (fun c => c.before a st) := by
  induction ts with
  | nil => rfl
  | cons c t ih =>
    show (Jvm.Cond.and c (allAtoms t)).before a st = _
    rw [Jvm.Cond.before_and, ih, List.all_cons]
def words1 : List Jvm.Cond := Jvm.Cond.code x code maxLocals ret :: tables_1
/-- a 'code' word, met by the world's own term for the bytes: nothing is compared byte by byte -/
theorem code_word {y : MethodName} {bytes : ByteArray} {mx : Nat} {rt : Option FieldType} {a : Array Value} {s : State} {m : MethodId} {meth : Method} {c : Code} (h1 : s.methodNamed? y = some m) (h2 : s.vm.method? m = some meth) (h3 : meth.code = some c) (h4 : c.code = bytes)
    (h5 : (c.maxLocals == mx && c.exceptionTable.isEmpty && decide (c.maxStack ≤ mostOperands) && decide (meth.sig.returnType = rt) && !meth.locks && decide (parseMethodDescriptor y.desc = some meth.sig)) = true) : (Jvm.Cond.code y bytes mx rt).before a s = true := by
  simp only [Bool.and_eq_true, beq_iff_eq, Bool.not_eq_true', decide_eq_true_eq] at h5
  obtain ⟨⟨⟨⟨⟨g1, g2⟩, g3⟩, g4⟩, g5⟩, g6⟩ := h5
  simp [Cond.before, Cond.holds, Cond.value, h1, h2, h3, h4, g1, g2, g3, g4, g5, g6]
def isCode : Jvm.Cond → Bool
  | .code _ _ _ _ => true
  | _ => false
theorem all_split {L : List Jvm.Cond} {P : Jvm.Cond → Bool} (h1 : L.all (fun c => isCode c || P c) = true) (h2 : ∀ c ∈ L.filter isCode, P c = true) : L.all P = true := by
  refine List.all_eq_true.mpr fun c hc => ?_
  have h := List.all_eq_true.mp h1 c hc
  rcases Bool.eq_false_or_eq_true (isCode c) with hi | hi
  · exact h2 c (List.mem_filter.mpr ⟨hc, hi⟩)
  · simpa [hi] using h
set_option maxRecDepth 65536 in
theorem w_c0 : (Jvm.Cond.code x code maxLocals ret).before args0 about1 = true := code_word (m := ⟨1, 2⟩) (meth := k1m2) (c := k1c2) (by decide +kernel) rfl rfl rfl (by decide +kernel)
set_option maxRecDepth 65536 in
theorem w_c1 : (Jvm.Cond.code ({ cls := "com/example/strandloom/strandloom/engine/Task", name := "<init>", desc := "(J)V" } : Jvm.MethodName) prog_38_method_1_code (3 : Nat) (Option.none : Option Jvm.ClassFile.FieldType)).before args0 about1 = true := code_word (m := ⟨2, 0⟩) (meth := k2m0) (c := k2c0) (by decide +kernel) rfl rfl rfl (by decide +kernel)
set_option maxRecDepth 65536 in
theorem w_c2 : (Jvm.Cond.code ({ cls := "java/lang/Object", name := "<init>", desc := "()V" } : Jvm.MethodName) object_method_1_code (1 : Nat) (Option.none : Option Jvm.ClassFile.FieldType)).before args0 about1 = true := code_word (m := ⟨0, 0⟩) (meth := k0m0) (c := k0c0) (by decide +kernel) rfl rfl rfl (by decide +kernel)
set_option maxRecDepth 65536 in
theorem w_c3 : (Jvm.Cond.code ({ cls := "com/example/strandloom/strandloom/engine/TaskPredecessorsDonePinLaw", name := "make", desc := "(IJ)Lcom/example/strandloom/strandloom/engine/Task;" } : Jvm.MethodName) method_2_code (4 : Nat) (Option.some (Jvm.ClassFile.FieldType.object "com/example/strandloom/strandloom/engine/Task"))).before args0 about1 = true := code_word (m := ⟨1, 1⟩) (meth := k1m1) (c := k1c1) (by decide +kernel) rfl rfl rfl (by decide +kernel)
set_option maxRecDepth 65536 in
theorem w_c4 : (Jvm.Cond.code ({ cls := "com/example/strandloom/strandloom/engine/Task", name := "markDone", desc := "()V" } : Jvm.MethodName) prog_38_method_7_code (1 : Nat) (Option.none : Option Jvm.ClassFile.FieldType)).before args0 about1 = true := code_word (m := ⟨2, 2⟩) (meth := k2m2) (c := k2c2) (by decide +kernel) rfl rfl rfl (by decide +kernel)
set_option maxRecDepth 65536 in
theorem w_c5 : (Jvm.Cond.code ({ cls := "com/example/strandloom/strandloom/engine/Task", name := "predecessorsDone", desc := "()Z" } : Jvm.MethodName) prog_38_method_5_code (5 : Nat) (Option.some Jvm.ClassFile.FieldType.boolean)).before args0 about1 = true := code_word (m := ⟨2, 1⟩) (meth := k2m1) (c := k2c1) (by decide +kernel) rfl rfl rfl (by decide +kernel)
def codes1 : List Jvm.Cond := [Jvm.Cond.code x code maxLocals ret, Jvm.Cond.code ({ cls := "com/example/strandloom/strandloom/engine/Task", name := "<init>", desc := "(J)V" } : Jvm.MethodName) prog_38_method_1_code (3 : Nat) (Option.none : Option Jvm.ClassFile.FieldType), Jvm.Cond.code ({ cls := "java/lang/Object", name := "<init>", desc := "()V" } : Jvm.MethodName) object_method_1_code (1 : Nat) (Option.none : Option Jvm.ClassFile.FieldType), Jvm.Cond.code ({ cls := "com/example/strandloom/strandloom/engine/TaskPredecessorsDonePinLaw", name := "make", desc := "(IJ)Lcom/example/strandloom/strandloom/engine/Task;" } : Jvm.MethodName) method_2_code (4 : Nat) (Option.some (Jvm.ClassFile.FieldType.object "com/example/strandloom/strandloom/engine/Task")), Jvm.Cond.code ({ cls := "com/example/strandloom/strandloom/engine/Task", name := "markDone", desc := "()V" } : Jvm.MethodName) prog_38_method_7_code (1 : Nat) (Option.none : Option Jvm.ClassFile.FieldType), Jvm.Cond.code ({ cls := "com/example/strandloom/strandloom/engine/Task", name := "predecessorsDone", desc := "()Z" } : Jvm.MethodName) prog_38_method_5_code (5 : Nat) (Option.some Jvm.ClassFile.FieldType.boolean)]
set_option maxRecDepth 65536 in
theorem codes_eq : words1.filter isCode = codes1 := rfl
theorem w_codes : ∀ c ∈ words1.filter isCode, c.before args0 about1 = true := by
  rw [codes_eq]
  intro c hc
  simp only [codes1, List.mem_cons, List.not_mem_nil, or_false] at hc
  rcases hc with rfl | rfl | rfl | rfl | rfl | rfl
  · exact w_c0
  · exact w_c1
  · exact w_c2
  · exact w_c3
  · exact w_c4
  · exact w_c5
set_option maxRecDepth 65536 in
theorem w_t1 : (words1.take 24).all (fun c => isCode c || c.before args0 about1) = true := by decide +kernel
set_option maxRecDepth 65536 in
theorem w_t2 : (words1.drop 24).all (fun c => isCode c || c.before args0 about1) = true := by decide +kernel
theorem w_tables : (allAtoms (Jvm.Cond.code x code maxLocals ret :: tables_1)).before args0 about1 = true := by
  rw [allAtoms_all]
  show words1.all (fun c => c.before args0 about1) = true
  refine all_split ?_ w_codes
  rw [← List.take_append_drop 24 words1, List.all_append, w_t1, w_t2]
  rfl
set_option maxRecDepth 65536 in
theorem w_case : (Jvm.Cond.and given_1 narrow_1).before args0 about1 = true := by decide +kernel
theorem w_applies : (headSpec (Jvm.Cond.code x code maxLocals ret :: tables_1) room_1).applies x e0.platform about1 = true :=
  (Spec.applies_iff w_frames).mpr ⟨w_running, w_runnable, w_alone, w_named, w_hears, w_ripe, w_room, w_tables⟩
theorem atStart : AtStart classFile x code maxLocals ret World_1 tables_1 room_1 Calls_1 rest_1 Pre_1 launch0 p0 e0 about1 theMethod args0 below0 :=
  ⟨lists_1, trivial, launch0.admits_env _ _ _, launch0.least_env, fairChoices_fair.cas, fairChoices_fair.clock, w_frames, w_args, w_heap, w_applies, trivial, trivial, w_case⟩
end start1
theorem witness_1 : WitnessClaimed_1 := ⟨start1.p0, start1.e0, start1.about1, start1.theMethod, start1.args0, start1.below0, start1.atStart⟩
end Jvm.Pilot.@@N@@
