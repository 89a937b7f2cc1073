import JvmDerived
import JvmDerived.Pilot.@@N@@Statement
import JvmDerived.Pilot.@@N@@Code
set_option linter.unusedVariables false
set_option linter.unusedSimpArgs false
namespace Jvm.Pilot.@@N@@
open Jvm Jvm.ClassFile Sem Op Lib Jvm.Free Jvm.Stand Jvm.LawKit Jvm.RoadKit Bundle Jvm.Pilot.@@N@@.Jvm.D
section OwnKit
variable {p : Program} {l : Launch} {e : Env} {R : Room} {s : State} {m : MethodId} {args : Array Value} {below : List Frame} {meth : Method} {c : Code} {T : State} {locs : List Loc} {cells slots : Nat} {K : State → Prop} {Ls : Array Slot} {rest : List Value} {pc : Nat} {bytes : ByteArray}
def Goes (p : Program) (e : Env) (below : List Frame) (K : State → Prop) (S : State) : Prop := ∃ t, Steps p.tables e below S t ∧ K t
theorem Goes.of {S S' : State} (st : ∀ t, Steps p.tables e below S' t → Steps p.tables e below S t) (h : Goes p e below K S') : Goes p e below K S := h.elim fun t ht => ⟨t, st t ht.1, ht.2⟩
theorem Goes.entry {g g' : JFrame} (q : g = g') (k : Goes p e below K (T.setTop g')) : Goes p e below K (T.setTop g) := q ▸ k
def Kend (s : State) (below : List Frame) (Q : Option Value → Heap → List Loc → Prop) (C S : Nat) (t : State) : Prop := ∃ o, t.status = .running ∧ Ended t below o ∧ ∃ v L, o = .returned v ∧ Q v t.heap L ∧ FrameEnd s o t L C S
def Ctr (l : Launch) (y : MethodName) (bytes : ByteArray) (maxL : Nat) (ret : Option FieldType) (ws : List Jvm.Cond) (rm : Room) (as' : Array Value) (Z : State) (h0 : Heap) (Q : Option Value → Heap → List Loc → Prop) : Prop :=
  MetFree l y (head1 (Jvm.Cond.code y bytes maxL ret :: ws) rm) (fun a U => a = as' ∧ Z.Warmed39 U.vm ∧ U.heap = h0) (fun _ _ _ _ _ => True) (fun _ U o U' => ∃ v L, o = .returned v ∧ Q v U'.heap L ∧ FrameEnd U o U' L rm.cells rm.slots)
theorem own_body {y : MethodName} {maxL : Nat} {ret : Option FieldType} {ws : List Jvm.Cond} {rm : Room} {as' : Array Value} {Z : State} {h0 : Heap} {Q : Option Value → Heap → List Loc → Prop} (hpl : plainFor y = true)
    (H : ∀ (p : Program) (e : Env) (s : State) (m : MethodId) (below : List Frame) (meth : Method) (c : Code) (s₁ : State), p.tables.exec = Jvm.exec → c.code = bytes → c.maxLocals = maxL → s.vm.findClass y.cls = some m.cls → meth.name = y.name → meth.sig.returnType = ret → meth.locks = false → Z.Warmed39 s.vm →
      Stand p l e rm s m as' below meth c s₁ [] 0 0 → s₁.heap = h0 → Goes p e below (Kend s below Q rm.cells rm.slots) (s₁.setTop (entryFrame m as' maxL))) : Ctr l y bytes maxL ret ws rm as' Z h0 Q := by
  refine MetFree.of_bodySF hpl hisR ?_
  intro p e s m args below meth c s₁ Bd hml0 hP hK
  obtain ⟨rfl, hZ, hh⟩ := hP
  obtain ⟨t, h1, o, h2, h3, h4⟩ := H p e s m below meth c s₁ Bd.exec Bd.bytes hml0 (findClass_of_methodNamed Bd.named) (name_of_methodNamed Bd.named Bd.method).1 Bd.returns Bd.notSynchronized hZ (Stand.of_body Bd) (by rw [← hh, Bd.state]; rfl)
  exact ⟨t, o, h1, h2, h3, h4⟩

theorem own_store1 {l l' : Array Slot} {i : Nat} {v : Value} {o : Slot} (hold : l[i]? = some o) (ho : One o) (hv : v.category = 1) (e : l.setIfInBounds i (.val v) = l') : storeLocals l i v = some l' := e ▸ XS.store1 hold ho hv
theorem g_iadd (X : Stand p l e R s m args below meth c T locs cells slots) (hx : p.tables.exec = Jvm.exec) (hby : c.code = bytes) {x y : Int32} (hd : decode bytes pc = .ok (.iadd, 1)) (q : Nat) (hq : pc + 1 = q) (k : Goes p e below K (T.setTop (mkF m q Ls (.int (x + y) :: rest)))) : Goes p e below K (T.setTop (mkF m pc Ls (.int y :: .int x :: rest))) := by
  subst hq; exact Goes.of (fun t kt => XS.iadd X.here hx rfl (hb hby hd) rfl kt) k
theorem g_isub (X : Stand p l e R s m args below meth c T locs cells slots) (hx : p.tables.exec = Jvm.exec) (hby : c.code = bytes) {x y : Int32} (hd : decode bytes pc = .ok (.isub, 1)) (q : Nat) (hq : pc + 1 = q) (k : Goes p e below K (T.setTop (mkF m q Ls (.int (x - y) :: rest)))) : Goes p e below K (T.setTop (mkF m pc Ls (.int y :: .int x :: rest))) := by
  subst hq; exact Goes.of (fun t kt => XS.isub X.here hx rfl (hb hby hd) rfl kt) k
theorem g_imul (X : Stand p l e R s m args below meth c T locs cells slots) (hx : p.tables.exec = Jvm.exec) (hby : c.code = bytes) {x y : Int32} (hd : decode bytes pc = .ok (.imul, 1)) (q : Nat) (hq : pc + 1 = q) (k : Goes p e below K (T.setTop (mkF m q Ls (.int (x * y) :: rest)))) : Goes p e below K (T.setTop (mkF m pc Ls (.int y :: .int x :: rest))) := by
  subst hq; exact Goes.of (fun t kt => XS.imul X.here hx rfl (hb hby hd) rfl kt) k
theorem g_iand (X : Stand p l e R s m args below meth c T locs cells slots) (hx : p.tables.exec = Jvm.exec) (hby : c.code = bytes) {x y : Int32} (hd : decode bytes pc = .ok (.iand, 1)) (q : Nat) (hq : pc + 1 = q) (k : Goes p e below K (T.setTop (mkF m q Ls (.int (x &&& y) :: rest)))) : Goes p e below K (T.setTop (mkF m pc Ls (.int y :: .int x :: rest))) := by
  subst hq; exact Goes.of (fun t kt => XS.iand X.here hx rfl (hb hby hd) rfl kt) k
theorem g_ior (X : Stand p l e R s m args below meth c T locs cells slots) (hx : p.tables.exec = Jvm.exec) (hby : c.code = bytes) {x y : Int32} (hd : decode bytes pc = .ok (.ior, 1)) (q : Nat) (hq : pc + 1 = q) (k : Goes p e below K (T.setTop (mkF m q Ls (.int (x ||| y) :: rest)))) : Goes p e below K (T.setTop (mkF m pc Ls (.int y :: .int x :: rest))) := by
  subst hq; exact Goes.of (fun t kt => XS.ior X.here hx rfl (hb hby hd) rfl kt) k
theorem g_ixor (X : Stand p l e R s m args below meth c T locs cells slots) (hx : p.tables.exec = Jvm.exec) (hby : c.code = bytes) {x y : Int32} (hd : decode bytes pc = .ok (.ixor, 1)) (q : Nat) (hq : pc + 1 = q) (k : Goes p e below K (T.setTop (mkF m q Ls (.int (x ^^^ y) :: rest)))) : Goes p e below K (T.setTop (mkF m pc Ls (.int y :: .int x :: rest))) := by
  subst hq; exact Goes.of (fun t kt => XS.ixor X.here hx rfl (hb hby hd) rfl kt) k
theorem g_ishl (X : Stand p l e R s m args below meth c T locs cells slots) (hx : p.tables.exec = Jvm.exec) (hby : c.code = bytes) {x y : Int32} (hd : decode bytes pc = .ok (.ishl, 1)) (q : Nat) (hq : pc + 1 = q) (k : Goes p e below K (T.setTop (mkF m q Ls (.int (x <<< (y &&& 31)) :: rest)))) : Goes p e below K (T.setTop (mkF m pc Ls (.int y :: .int x :: rest))) := by
  subst hq; exact Goes.of (fun t kt => XS.ishl X.here hx rfl (hb hby hd) rfl kt) k
theorem g_ishr (X : Stand p l e R s m args below meth c T locs cells slots) (hx : p.tables.exec = Jvm.exec) (hby : c.code = bytes) {x y : Int32} (hd : decode bytes pc = .ok (.ishr, 1)) (q : Nat) (hq : pc + 1 = q) (k : Goes p e below K (T.setTop (mkF m q Ls (.int (x >>> (y &&& 31)) :: rest)))) : Goes p e below K (T.setTop (mkF m pc Ls (.int y :: .int x :: rest))) := by
  subst hq; exact Goes.of (fun t kt => XS.ishr X.here hx rfl (hb hby hd) rfl kt) k
theorem g_iushr (X : Stand p l e R s m args below meth c T locs cells slots) (hx : p.tables.exec = Jvm.exec) (hby : c.code = bytes) {x y : Int32} (hd : decode bytes pc = .ok (.iushr, 1)) (q : Nat) (hq : pc + 1 = q) (k : Goes p e below K (T.setTop (mkF m q Ls (.int ((x.toUInt32 >>> (y &&& 31).toUInt32).toInt32) :: rest)))) : Goes p e below K (T.setTop (mkF m pc Ls (.int y :: .int x :: rest))) := by
  subst hq; exact Goes.of (fun t kt => XS.iushr X.here hx rfl (hb hby hd) rfl kt) k
theorem g_ladd (X : Stand p l e R s m args below meth c T locs cells slots) (hx : p.tables.exec = Jvm.exec) (hby : c.code = bytes) {x y : Int64} (hd : decode bytes pc = .ok (.ladd, 1)) (q : Nat) (hq : pc + 1 = q) (k : Goes p e below K (T.setTop (mkF m q Ls (.long (x + y) :: rest)))) : Goes p e below K (T.setTop (mkF m pc Ls (.long y :: .long x :: rest))) := by
  subst hq; exact Goes.of (fun t kt => XS.ladd X.here hx rfl (hb hby hd) rfl kt) k
theorem g_lsub (X : Stand p l e R s m args below meth c T locs cells slots) (hx : p.tables.exec = Jvm.exec) (hby : c.code = bytes) {x y : Int64} (hd : decode bytes pc = .ok (.lsub, 1)) (q : Nat) (hq : pc + 1 = q) (k : Goes p e below K (T.setTop (mkF m q Ls (.long (x - y) :: rest)))) : Goes p e below K (T.setTop (mkF m pc Ls (.long y :: .long x :: rest))) := by
  subst hq; exact Goes.of (fun t kt => XS.lsub X.here hx rfl (hb hby hd) rfl kt) k
theorem g_lmul (X : Stand p l e R s m args below meth c T locs cells slots) (hx : p.tables.exec = Jvm.exec) (hby : c.code = bytes) {x y : Int64} (hd : decode bytes pc = .ok (.lmul, 1)) (q : Nat) (hq : pc + 1 = q) (k : Goes p e below K (T.setTop (mkF m q Ls (.long (x * y) :: rest)))) : Goes p e below K (T.setTop (mkF m pc Ls (.long y :: .long x :: rest))) := by
  subst hq; exact Goes.of (fun t kt => XS.lmul X.here hx rfl (hb hby hd) rfl kt) k
theorem g_land (X : Stand p l e R s m args below meth c T locs cells slots) (hx : p.tables.exec = Jvm.exec) (hby : c.code = bytes) {x y : Int64} (hd : decode bytes pc = .ok (.land, 1)) (q : Nat) (hq : pc + 1 = q) (k : Goes p e below K (T.setTop (mkF m q Ls (.long (x &&& y) :: rest)))) : Goes p e below K (T.setTop (mkF m pc Ls (.long y :: .long x :: rest))) := by
  subst hq; exact Goes.of (fun t kt => XS.land X.here hx rfl (hb hby hd) rfl kt) k
theorem g_lor (X : Stand p l e R s m args below meth c T locs cells slots) (hx : p.tables.exec = Jvm.exec) (hby : c.code = bytes) {x y : Int64} (hd : decode bytes pc = .ok (.lor, 1)) (q : Nat) (hq : pc + 1 = q) (k : Goes p e below K (T.setTop (mkF m q Ls (.long (x ||| y) :: rest)))) : Goes p e below K (T.setTop (mkF m pc Ls (.long y :: .long x :: rest))) := by
  subst hq; exact Goes.of (fun t kt => XS.lor X.here hx rfl (hb hby hd) rfl kt) k
theorem g_lxor (X : Stand p l e R s m args below meth c T locs cells slots) (hx : p.tables.exec = Jvm.exec) (hby : c.code = bytes) {x y : Int64} (hd : decode bytes pc = .ok (.lxor, 1)) (q : Nat) (hq : pc + 1 = q) (k : Goes p e below K (T.setTop (mkF m q Ls (.long (x ^^^ y) :: rest)))) : Goes p e below K (T.setTop (mkF m pc Ls (.long y :: .long x :: rest))) := by
  subst hq; exact Goes.of (fun t kt => XS.lxor X.here hx rfl (hb hby hd) rfl kt) k
theorem g_lshl (X : Stand p l e R s m args below meth c T locs cells slots) (hx : p.tables.exec = Jvm.exec) (hby : c.code = bytes) {x : Int64} {y : Int32} (hd : decode bytes pc = .ok (.lshl, 1)) (q : Nat) (hq : pc + 1 = q) (k : Goes p e below K (T.setTop (mkF m q Ls (.long (x <<< (y &&& 0x3f).toInt64) :: rest)))) : Goes p e below K (T.setTop (mkF m pc Ls (.int y :: .long x :: rest))) := by
  subst hq; exact Goes.of (fun t kt => XS.lshl X.here hx rfl (hb hby hd) rfl kt) k
theorem g_lshr (X : Stand p l e R s m args below meth c T locs cells slots) (hx : p.tables.exec = Jvm.exec) (hby : c.code = bytes) {x : Int64} {y : Int32} (hd : decode bytes pc = .ok (.lshr, 1)) (q : Nat) (hq : pc + 1 = q) (k : Goes p e below K (T.setTop (mkF m q Ls (.long (x >>> (y &&& 0x3f).toInt64) :: rest)))) : Goes p e below K (T.setTop (mkF m pc Ls (.int y :: .long x :: rest))) := by
  subst hq; exact Goes.of (fun t kt => XS.lshr X.here hx rfl (hb hby hd) rfl kt) k
theorem g_lushr (X : Stand p l e R s m args below meth c T locs cells slots) (hx : p.tables.exec = Jvm.exec) (hby : c.code = bytes) {x : Int64} {y : Int32} (hd : decode bytes pc = .ok (.lushr, 1)) (q : Nat) (hq : pc + 1 = q) (k : Goes p e below K (T.setTop (mkF m q Ls (.long ((x.toUInt64 >>> (y &&& 0x3f).toInt64.toUInt64).toInt64) :: rest)))) : Goes p e below K (T.setTop (mkF m pc Ls (.int y :: .long x :: rest))) := by
  subst hq; exact Goes.of (fun t kt => XS.lushr X.here hx rfl (hb hby hd) rfl kt) k
theorem g_idiv (X : Stand p l e R s m args below meth c T locs cells slots) (hx : p.tables.exec = Jvm.exec) (hby : c.code = bytes) {x y : Int32} (hd : decode bytes pc = .ok (.idiv, 1)) (hy : y ≠ 0) (q : Nat) (hq : pc + 1 = q) (k : Goes p e below K (T.setTop (mkF m q Ls (.int (x / y) :: rest)))) : Goes p e below K (T.setTop (mkF m pc Ls (.int y :: .int x :: rest))) := by
  subst hq; exact Goes.of (fun t kt => XS.idiv X.here hx rfl (hb hby hd) rfl hy kt) k
theorem g_ldiv (X : Stand p l e R s m args below meth c T locs cells slots) (hx : p.tables.exec = Jvm.exec) (hby : c.code = bytes) {x y : Int64} (hd : decode bytes pc = .ok (.ldiv, 1)) (hy : y ≠ 0) (q : Nat) (hq : pc + 1 = q) (k : Goes p e below K (T.setTop (mkF m q Ls (.long (x / y) :: rest)))) : Goes p e below K (T.setTop (mkF m pc Ls (.long y :: .long x :: rest))) := by
  subst hq; exact Goes.of (fun t kt => XS.ldiv X.here hx rfl (hb hby hd) rfl hy kt) k
theorem g_irem (X : Stand p l e R s m args below meth c T locs cells slots) (hx : p.tables.exec = Jvm.exec) (hby : c.code = bytes) {x y : Int32} (hd : decode bytes pc = .ok (.irem, 1)) (hy : y ≠ 0) (q : Nat) (hq : pc + 1 = q) (k : Goes p e below K (T.setTop (mkF m q Ls (.int (x % y) :: rest)))) : Goes p e below K (T.setTop (mkF m pc Ls (.int y :: .int x :: rest))) := by
  subst hq; exact Goes.of (fun t kt => iremM X hx rfl (hb hby hd) rfl hy kt) k
theorem g_lrem (X : Stand p l e R s m args below meth c T locs cells slots) (hx : p.tables.exec = Jvm.exec) (hby : c.code = bytes) {x y : Int64} (hd : decode bytes pc = .ok (.lrem, 1)) (hy : y ≠ 0) (q : Nat) (hq : pc + 1 = q) (k : Goes p e below K (T.setTop (mkF m q Ls (.long (x % y) :: rest)))) : Goes p e below K (T.setTop (mkF m pc Ls (.long y :: .long x :: rest))) := by
  subst hq; rw [← lrem_mod x y] at k; exact Goes.of (fun t kt => XS.lrem X.here hx rfl (hb hby hd) rfl hy kt) k
theorem g_ineg (X : Stand p l e R s m args below meth c T locs cells slots) (hx : p.tables.exec = Jvm.exec) (hby : c.code = bytes) {x : Int32} (hd : decode bytes pc = .ok (.ineg, 1)) (q : Nat) (hq : pc + 1 = q) (k : Goes p e below K (T.setTop (mkF m q Ls (.int (-x) :: rest)))) : Goes p e below K (T.setTop (mkF m pc Ls (.int x :: rest))) := by
  subst hq; exact Goes.of (fun t kt => XS.ineg X.here hx rfl (hb hby hd) rfl kt) k
theorem g_lneg (X : Stand p l e R s m args below meth c T locs cells slots) (hx : p.tables.exec = Jvm.exec) (hby : c.code = bytes) {x : Int64} (hd : decode bytes pc = .ok (.lneg, 1)) (q : Nat) (hq : pc + 1 = q) (k : Goes p e below K (T.setTop (mkF m q Ls (.long (-x) :: rest)))) : Goes p e below K (T.setTop (mkF m pc Ls (.long x :: rest))) := by
  subst hq; exact Goes.of (fun t kt => XS.lneg X.here hx rfl (hb hby hd) rfl kt) k
theorem g_i2l (X : Stand p l e R s m args below meth c T locs cells slots) (hx : p.tables.exec = Jvm.exec) (hby : c.code = bytes) {x : Int32} (hd : decode bytes pc = .ok (.i2l, 1)) (q : Nat) (hq : pc + 1 = q) (k : Goes p e below K (T.setTop (mkF m q Ls (.long (x.toInt64) :: rest)))) : Goes p e below K (T.setTop (mkF m pc Ls (.int x :: rest))) := by
  subst hq; exact Goes.of (fun t kt => XS.i2l X.here hx rfl (hb hby hd) rfl kt) k
theorem g_l2i (X : Stand p l e R s m args below meth c T locs cells slots) (hx : p.tables.exec = Jvm.exec) (hby : c.code = bytes) {x : Int64} (hd : decode bytes pc = .ok (.l2i, 1)) (q : Nat) (hq : pc + 1 = q) (k : Goes p e below K (T.setTop (mkF m q Ls (.int (x.toInt32) :: rest)))) : Goes p e below K (T.setTop (mkF m pc Ls (.long x :: rest))) := by
  subst hq; exact Goes.of (fun t kt => XS.l2i X.here hx rfl (hb hby hd) rfl kt) k
theorem g_i2b (X : Stand p l e R s m args below meth c T locs cells slots) (hx : p.tables.exec = Jvm.exec) (hby : c.code = bytes) {x : Int32} (hd : decode bytes pc = .ok (.i2b, 1)) (q : Nat) (hq : pc + 1 = q) (k : Goes p e below K (T.setTop (mkF m q Ls (.int (x.toInt8.toInt32) :: rest)))) : Goes p e below K (T.setTop (mkF m pc Ls (.int x :: rest))) := by
  subst hq; exact Goes.of (fun t kt => XS.i2b X.here hx rfl (hb hby hd) rfl kt) k
theorem g_i2s (X : Stand p l e R s m args below meth c T locs cells slots) (hx : p.tables.exec = Jvm.exec) (hby : c.code = bytes) {x : Int32} (hd : decode bytes pc = .ok (.i2s, 1)) (q : Nat) (hq : pc + 1 = q) (k : Goes p e below K (T.setTop (mkF m q Ls (.int (x.toInt16.toInt32) :: rest)))) : Goes p e below K (T.setTop (mkF m pc Ls (.int x :: rest))) := by
  subst hq; exact Goes.of (fun t kt => XS.i2s X.here hx rfl (hb hby hd) rfl kt) k
theorem g_i2c (X : Stand p l e R s m args below meth c T locs cells slots) (hx : p.tables.exec = Jvm.exec) (hby : c.code = bytes) {x : Int32} (hd : decode bytes pc = .ok (.i2c, 1)) (q : Nat) (hq : pc + 1 = q) (k : Goes p e below K (T.setTop (mkF m q Ls (.int (x.toUInt32.toUInt16.toUInt32.toInt32) :: rest)))) : Goes p e below K (T.setTop (mkF m pc Ls (.int x :: rest))) := by
  subst hq; exact Goes.of (fun t kt => XS.i2c X.here hx rfl (hb hby hd) rfl kt) k
theorem g_iloadN (X : Stand p l e R s m args below meth c T locs cells slots) (hx : p.tables.exec = Jvm.exec) (hby : c.code = bytes) {k : Fin 4} {v : Int32} (hd : decode bytes pc = .ok (.iload_n k, 1)) (hl : Ls[k.val]? = some (.val (.int v))) (q : Nat) (hq : pc + 1 = q) (k : Goes p e below K (T.setTop (mkF m q Ls (.int v :: rest)))) : Goes p e below K (T.setTop (mkF m pc Ls rest)) := by
  subst hq; exact Goes.of (fun t kt => XS.iloadN X.here hx rfl (hb hby hd) hl kt) k
theorem g_iload (X : Stand p l e R s m args below meth c T locs cells slots) (hx : p.tables.exec = Jvm.exec) (hby : c.code = bytes) {k : Nat} {v : Int32} (hd : decode bytes pc = .ok (.iload k, 2)) (hl : Ls[k]? = some (.val (.int v))) (q : Nat) (hq : pc + 2 = q) (k : Goes p e below K (T.setTop (mkF m q Ls (.int v :: rest)))) : Goes p e below K (T.setTop (mkF m pc Ls rest)) := by
  subst hq; exact Goes.of (fun t kt => XS.iload X.here hx rfl (hb hby hd) hl kt) k
theorem g_lloadN (X : Stand p l e R s m args below meth c T locs cells slots) (hx : p.tables.exec = Jvm.exec) (hby : c.code = bytes) {k : Fin 4} {v : Int64} (hd : decode bytes pc = .ok (.lload_n k, 1)) (hl : Ls[k.val]? = some (.val (.long v))) (q : Nat) (hq : pc + 1 = q) (k : Goes p e below K (T.setTop (mkF m q Ls (.long v :: rest)))) : Goes p e below K (T.setTop (mkF m pc Ls rest)) := by
  subst hq; exact Goes.of (fun t kt => XS.lloadN X.here hx rfl (hb hby hd) hl kt) k
theorem g_lload (X : Stand p l e R s m args below meth c T locs cells slots) (hx : p.tables.exec = Jvm.exec) (hby : c.code = bytes) {k : Nat} {v : Int64} (hd : decode bytes pc = .ok (.lload k, 2)) (hl : Ls[k]? = some (.val (.long v))) (q : Nat) (hq : pc + 2 = q) (k : Goes p e below K (T.setTop (mkF m q Ls (.long v :: rest)))) : Goes p e below K (T.setTop (mkF m pc Ls rest)) := by
  subst hq; exact Goes.of (fun t kt => XS.lload X.here hx rfl (hb hby hd) hl kt) k
theorem g_aloadN (X : Stand p l e R s m args below meth c T locs cells slots) (hx : p.tables.exec = Jvm.exec) (hby : c.code = bytes) {k : Fin 4} {v : Value} (hd : decode bytes pc = .ok (.aload_n k, 1)) (hl : Ls[k.val]? = some (.val v)) (hv : v.isRef = true) (q : Nat) (hq : pc + 1 = q) (k : Goes p e below K (T.setTop (mkF m q Ls (v :: rest)))) : Goes p e below K (T.setTop (mkF m pc Ls rest)) := by
  subst hq; exact Goes.of (fun t kt => XS.aloadN X.here hx rfl (hb hby hd) hl hv kt) k
theorem g_aload (X : Stand p l e R s m args below meth c T locs cells slots) (hx : p.tables.exec = Jvm.exec) (hby : c.code = bytes) {k : Nat} {v : Value} (hd : decode bytes pc = .ok (.aload k, 2)) (hl : Ls[k]? = some (.val v)) (hv : v.isRef = true) (q : Nat) (hq : pc + 2 = q) (k : Goes p e below K (T.setTop (mkF m q Ls (v :: rest)))) : Goes p e below K (T.setTop (mkF m pc Ls rest)) := by
  subst hq; exact Goes.of (fun t kt => XS.aload X.here hx rfl (hb hby hd) hl hv kt) k
theorem g_istoreN (X : Stand p l e R s m args below meth c T locs cells slots) (hx : p.tables.exec = Jvm.exec) (hby : c.code = bytes) {k : Fin 4} {x : Int32} (hd : decode bytes pc = .ok (.istore_n k, 1)) (y : Int32) (hxy : x = y) (L' : Array Slot) (hl : storeLocals Ls k.val (.int y) = some L') (q : Nat) (hq : pc + 1 = q) (k : Goes p e below K (T.setTop (mkF m q L' rest))) : Goes p e below K (T.setTop (mkF m pc Ls (.int x :: rest))) := by
  subst hq hxy; exact Goes.of (fun t kt => XS.istoreN X.here hx rfl (hb hby hd) rfl hl kt) k
theorem g_istore (X : Stand p l e R s m args below meth c T locs cells slots) (hx : p.tables.exec = Jvm.exec) (hby : c.code = bytes) {k : Nat} {x : Int32} (hd : decode bytes pc = .ok (.istore k, 2)) (y : Int32) (hxy : x = y) (L' : Array Slot) (hl : storeLocals Ls k (.int y) = some L') (q : Nat) (hq : pc + 2 = q) (k : Goes p e below K (T.setTop (mkF m q L' rest))) : Goes p e below K (T.setTop (mkF m pc Ls (.int x :: rest))) := by
  subst hq hxy; exact Goes.of (fun t kt => XS.istore X.here hx rfl (hb hby hd) rfl hl kt) k
theorem g_lstoreN (X : Stand p l e R s m args below meth c T locs cells slots) (hx : p.tables.exec = Jvm.exec) (hby : c.code = bytes) {k : Fin 4} {x : Int64} (hd : decode bytes pc = .ok (.lstore_n k, 1)) (y : Int64) (hxy : x = y) (L' : Array Slot) (hl : storeLocals Ls k.val (.long y) = some L') (q : Nat) (hq : pc + 1 = q) (k : Goes p e below K (T.setTop (mkF m q L' rest))) : Goes p e below K (T.setTop (mkF m pc Ls (.long x :: rest))) := by
  subst hq hxy; exact Goes.of (fun t kt => XS.lstoreN X.here hx rfl (hb hby hd) rfl hl kt) k
theorem g_lstore (X : Stand p l e R s m args below meth c T locs cells slots) (hx : p.tables.exec = Jvm.exec) (hby : c.code = bytes) {k : Nat} {x : Int64} (hd : decode bytes pc = .ok (.lstore k, 2)) (y : Int64) (hxy : x = y) (L' : Array Slot) (hl : storeLocals Ls k (.long y) = some L') (q : Nat) (hq : pc + 2 = q) (k : Goes p e below K (T.setTop (mkF m q L' rest))) : Goes p e below K (T.setTop (mkF m pc Ls (.long x :: rest))) := by
  subst hq hxy; exact Goes.of (fun t kt => XS.lstore X.here hx rfl (hb hby hd) rfl hl kt) k
theorem g_astoreN (X : Stand p l e R s m args below meth c T locs cells slots) (hx : p.tables.exec = Jvm.exec) (hby : c.code = bytes) {k : Fin 4} {x : Value} (hd : decode bytes pc = .ok (.astore_n k, 1)) (hv : x.isRef = true) (L' : Array Slot) (hl : storeLocals Ls k.val x = some L') (q : Nat) (hq : pc + 1 = q) (k : Goes p e below K (T.setTop (mkF m q L' rest))) : Goes p e below K (T.setTop (mkF m pc Ls (x :: rest))) := by
  subst hq; exact Goes.of (fun t kt => XS.astoreN X.here hx rfl (hb hby hd) rfl hv hl kt) k
theorem g_astore (X : Stand p l e R s m args below meth c T locs cells slots) (hx : p.tables.exec = Jvm.exec) (hby : c.code = bytes) {k : Nat} {x : Value} (hd : decode bytes pc = .ok (.astore k, 2)) (hv : x.isRef = true) (L' : Array Slot) (hl : storeLocals Ls k x = some L') (q : Nat) (hq : pc + 2 = q) (k : Goes p e below K (T.setTop (mkF m q L' rest))) : Goes p e below K (T.setTop (mkF m pc Ls (x :: rest))) := by
  subst hq; exact Goes.of (fun t kt => XS.astore X.here hx rfl (hb hby hd) rfl hv hl kt) k
theorem g_iconst (X : Stand p l e R s m args below meth c T locs cells slots) (hx : p.tables.exec = Jvm.exec) (hby : c.code = bytes) {i : Int} (hd : decode bytes pc = .ok (.iconst i, 1)) (v : Int32) (hv : Int32.ofInt i = v) (q : Nat) (hq : pc + 1 = q) (k : Goes p e below K (T.setTop (mkF m q Ls (.int v :: rest)))) : Goes p e below K (T.setTop (mkF m pc Ls rest)) := by
  subst hq hv; exact Goes.of (fun t kt => XS.iconst X.here hx rfl (hb hby hd) kt) k
theorem g_bipush (X : Stand p l e R s m args below meth c T locs cells slots) (hx : p.tables.exec = Jvm.exec) (hby : c.code = bytes) {i : Int} (hd : decode bytes pc = .ok (.bipush i, 2)) (v : Int32) (hv : (Int8.ofInt i).toInt32 = v) (q : Nat) (hq : pc + 2 = q) (k : Goes p e below K (T.setTop (mkF m q Ls (.int v :: rest)))) : Goes p e below K (T.setTop (mkF m pc Ls rest)) := by
  subst hq hv; exact Goes.of (fun t kt => XS.bipush X.here hx rfl (hb hby hd) kt) k
theorem g_sipush (X : Stand p l e R s m args below meth c T locs cells slots) (hx : p.tables.exec = Jvm.exec) (hby : c.code = bytes) {i : Int} (hd : decode bytes pc = .ok (.sipush i, 3)) (v : Int32) (hv : (Int16.ofInt i).toInt32 = v) (q : Nat) (hq : pc + 3 = q) (k : Goes p e below K (T.setTop (mkF m q Ls (.int v :: rest)))) : Goes p e below K (T.setTop (mkF m pc Ls rest)) := by
  subst hq hv; exact Goes.of (fun t kt => XS.sipush X.here hx rfl (hb hby hd) kt) k
theorem g_lconst (X : Stand p l e R s m args below meth c T locs cells slots) (hx : p.tables.exec = Jvm.exec) (hby : c.code = bytes) {i : Fin 2} (hd : decode bytes pc = .ok (.lconst i, 1)) (v : Int64) (hv : Int64.ofNat i = v) (q : Nat) (hq : pc + 1 = q) (k : Goes p e below K (T.setTop (mkF m q Ls (.long v :: rest)))) : Goes p e below K (T.setTop (mkF m pc Ls rest)) := by
  subst hq hv; exact Goes.of (fun t kt => XS.lconst X.here hx rfl (hb hby hd) kt) k
theorem g_aconst_null (X : Stand p l e R s m args below meth c T locs cells slots) (hx : p.tables.exec = Jvm.exec) (hby : c.code = bytes)  (hd : decode bytes pc = .ok (.aconst_null, 1)) (q : Nat) (hq : pc + 1 = q) (k : Goes p e below K (T.setTop (mkF m q Ls (.null :: rest)))) : Goes p e below K (T.setTop (mkF m pc Ls rest)) := by
  subst hq; exact Goes.of (fun t kt => XS.aconstNull X.here hx rfl (hb hby hd) kt) k
theorem g_dup (X : Stand p l e R s m args below meth c T locs cells slots) (hx : p.tables.exec = Jvm.exec) (hby : c.code = bytes) {x : Value} (hd : decode bytes pc = .ok (.dup, 1)) (hc : x.category = 1) (q : Nat) (hq : pc + 1 = q) (k : Goes p e below K (T.setTop (mkF m q Ls (x :: x :: rest)))) : Goes p e below K (T.setTop (mkF m pc Ls (x :: rest))) := by
  subst hq; exact Goes.of (fun t kt => XS.dup X.here hx rfl (hb hby hd) rfl hc kt) k
theorem g_pop (X : Stand p l e R s m args below meth c T locs cells slots) (hx : p.tables.exec = Jvm.exec) (hby : c.code = bytes) {x : Value} (hd : decode bytes pc = .ok (.pop, 1)) (hc : x.category = 1) (q : Nat) (hq : pc + 1 = q) (k : Goes p e below K (T.setTop (mkF m q Ls rest))) : Goes p e below K (T.setTop (mkF m pc Ls (x :: rest))) := by
  subst hq; exact Goes.of (fun t kt => XS.pop X.here hx rfl (hb hby hd) rfl hc kt) k
theorem g_dup_x1 (X : Stand p l e R s m args below meth c T locs cells slots) (hx : p.tables.exec = Jvm.exec) (hby : c.code = bytes) {x y : Value} (hd : decode bytes pc = .ok (.dup_x1, 1)) (hc : x.category = 1) (hc' : y.category = 1) (q : Nat) (hq : pc + 1 = q) (k : Goes p e below K (T.setTop (mkF m q Ls (x :: y :: x :: rest)))) : Goes p e below K (T.setTop (mkF m pc Ls (x :: y :: rest))) := by
  subst hq; exact Goes.of (fun t kt => XS.dupX1 X.here hx rfl (hb hby hd) rfl hc hc' kt) k
theorem g_dup2 (X : Stand p l e R s m args below meth c T locs cells slots) (hx : p.tables.exec = Jvm.exec) (hby : c.code = bytes) {x y : Value} (hd : decode bytes pc = .ok (.dup2, 1)) (hc : x.category = 1) (hc' : y.category = 1) (q : Nat) (hq : pc + 1 = q) (k : Goes p e below K (T.setTop (mkF m q Ls (x :: y :: x :: y :: rest)))) : Goes p e below K (T.setTop (mkF m pc Ls (x :: y :: rest))) := by
  subst hq; exact Goes.of (fun t kt => Jvm.Free.XT.dup2 X.here hx rfl (hb hby hd) rfl hc hc' kt) k
theorem g_iinc (X : Stand p l e R s m args below meth c T locs cells slots) (hx : p.tables.exec = Jvm.exec) (hby : c.code = bytes) {i : Int} {kk : Nat} {x : Int32} (hd : decode bytes pc = .ok (.iinc kk i, 3)) (v : Int32) (hv : Int32.ofInt i = v) (hl : Ls[kk]? = some (.val (.int x))) (y : Int32) (hxy : x + v = y) (L' : Array Slot) (hl' : storeLocals Ls kk (.int y) = some L') (q : Nat) (hq : pc + 3 = q) (k : Goes p e below K (T.setTop (mkF m q L' rest))) : Goes p e below K (T.setTop (mkF m pc Ls rest)) := by
  subst hq hv hxy; exact Goes.of (fun t kt => XS.iinc X.here hx rfl (hb hby hd) hl hl' kt) k
theorem g_goto (X : Stand p l e R s m args below meth c T locs cells slots) (hx : p.tables.exec = Jvm.exec) (hby : c.code = bytes) {o : Int} (hd : decode bytes pc = .ok (.goto o, 3)) (q : Nat) (ho : 0 ≤ (pc : Int) + o) (hq : ((pc : Int) + o).toNat = q) (k : Goes p e below K (T.setTop (mkF m q Ls rest))) : Goes p e below K (T.setTop (mkF m pc Ls rest)) :=
  Goes.of (fun t kt => XS.goto X.here hx rfl rfl (hb hby hd) ho hq kt) k
theorem g_icmp_eq (X : Stand p l e R s m args below meth c T locs cells slots) (hx : p.tables.exec = Jvm.exec) (hby : c.code = bytes) {x y : Int32} {o : Int} (hd : decode bytes pc = .ok (.if_icmp .eq o, 3)) (q r : Nat) (ho : 0 ≤ (pc : Int) + o) (hq : ((pc : Int) + o).toNat = q) (hr : pc + 3 = r) (kt : x = y → Goes p e below K (T.setTop (mkF m q Ls rest))) (kf : ¬ (x = y) → Goes p e below K (T.setTop (mkF m r Ls rest))) : Goes p e below K (T.setTop (mkF m pc Ls (.int y :: .int x :: rest))) := by
  subst hr
  by_cases h : x = y
  · exact Goes.of (fun t kt => XS.icmpYes X.here hx rfl rfl (hb hby hd) rfl (teq h).1 ho hq kt) (kt h)
  · exact Goes.of (fun t kt => XS.icmpNo X.here hx rfl (hb hby hd) rfl (feq h).1 kt) (kf h)
theorem g_if_eq (X : Stand p l e R s m args below meth c T locs cells slots) (hx : p.tables.exec = Jvm.exec) (hby : c.code = bytes) {x : Int32} {o : Int} (hd : decode bytes pc = .ok (.ifCond .eq o, 3)) (q r : Nat) (ho : 0 ≤ (pc : Int) + o) (hq : ((pc : Int) + o).toNat = q) (hr : pc + 3 = r) (kt : x = 0 → Goes p e below K (T.setTop (mkF m q Ls rest))) (kf : ¬ (x = 0) → Goes p e below K (T.setTop (mkF m r Ls rest))) : Goes p e below K (T.setTop (mkF m pc Ls (.int x :: rest))) := by
  subst hr
  by_cases h : x = 0
  · exact Goes.of (fun t kt => XS.ifYes X.here hx rfl rfl (hb hby hd) rfl ((if0 _ _).trans (teq h).1) ho hq kt) (kt h)
  · exact Goes.of (fun t kt => XS.ifNo X.here hx rfl (hb hby hd) rfl ((if0 _ _).trans (feq h).1) kt) (kf h)
theorem g_lcmp_eq (X : Stand p l e R s m args below meth c T locs cells slots) (hx : p.tables.exec = Jvm.exec) (hby : c.code = bytes) {x y : Int64} {o : Int} {pc2 : Nat} (hd : decode bytes pc = .ok (.lcmp, 1)) (hd2 : decode bytes pc2 = .ok (.ifCond .eq o, 3)) (q r : Nat) (h2 : pc + 1 = pc2) (ho : 0 ≤ (pc2 : Int) + o) (hq : ((pc2 : Int) + o).toNat = q) (hr : pc2 + 3 = r) (kt : x = y → Goes p e below K (T.setTop (mkF m q Ls rest))) (kf : ¬ (x = y) → Goes p e below K (T.setTop (mkF m r Ls rest))) : Goes p e below K (T.setTop (mkF m pc Ls (.long y :: .long x :: rest))) := by
  subst h2
  refine Goes.of (fun t kt => XS.lcmp X.here hx rfl (hb hby hd) rfl kt) ?_
  exact g_if_eq X hx hby hd2 q r ho hq hr (fun h => kt ((lw_eq x y).mp h)) (fun h => kf fun h' => h ((lw_eq x y).mpr h'))
theorem g_icmp_ne (X : Stand p l e R s m args below meth c T locs cells slots) (hx : p.tables.exec = Jvm.exec) (hby : c.code = bytes) {x y : Int32} {o : Int} (hd : decode bytes pc = .ok (.if_icmp .ne o, 3)) (q r : Nat) (ho : 0 ≤ (pc : Int) + o) (hq : ((pc : Int) + o).toNat = q) (hr : pc + 3 = r) (kt : x = y → Goes p e below K (T.setTop (mkF m r Ls rest))) (kf : ¬ (x = y) → Goes p e below K (T.setTop (mkF m q Ls rest))) : Goes p e below K (T.setTop (mkF m pc Ls (.int y :: .int x :: rest))) := by
  subst hr
  by_cases h : x = y
  · exact Goes.of (fun t kt => XS.icmpNo X.here hx rfl (hb hby hd) rfl (teq h).2 kt) (kt h)
  · exact Goes.of (fun t kt => XS.icmpYes X.here hx rfl rfl (hb hby hd) rfl (feq h).2 ho hq kt) (kf h)
theorem g_if_ne (X : Stand p l e R s m args below meth c T locs cells slots) (hx : p.tables.exec = Jvm.exec) (hby : c.code = bytes) {x : Int32} {o : Int} (hd : decode bytes pc = .ok (.ifCond .ne o, 3)) (q r : Nat) (ho : 0 ≤ (pc : Int) + o) (hq : ((pc : Int) + o).toNat = q) (hr : pc + 3 = r) (kt : x = 0 → Goes p e below K (T.setTop (mkF m r Ls rest))) (kf : ¬ (x = 0) → Goes p e below K (T.setTop (mkF m q Ls rest))) : Goes p e below K (T.setTop (mkF m pc Ls (.int x :: rest))) := by
  subst hr
  by_cases h : x = 0
  · exact Goes.of (fun t kt => XS.ifNo X.here hx rfl (hb hby hd) rfl ((if0 _ _).trans (teq h).2) kt) (kt h)
  · exact Goes.of (fun t kt => XS.ifYes X.here hx rfl rfl (hb hby hd) rfl ((if0 _ _).trans (feq h).2) ho hq kt) (kf h)
theorem g_lcmp_ne (X : Stand p l e R s m args below meth c T locs cells slots) (hx : p.tables.exec = Jvm.exec) (hby : c.code = bytes) {x y : Int64} {o : Int} {pc2 : Nat} (hd : decode bytes pc = .ok (.lcmp, 1)) (hd2 : decode bytes pc2 = .ok (.ifCond .ne o, 3)) (q r : Nat) (h2 : pc + 1 = pc2) (ho : 0 ≤ (pc2 : Int) + o) (hq : ((pc2 : Int) + o).toNat = q) (hr : pc2 + 3 = r) (kt : x = y → Goes p e below K (T.setTop (mkF m r Ls rest))) (kf : ¬ (x = y) → Goes p e below K (T.setTop (mkF m q Ls rest))) : Goes p e below K (T.setTop (mkF m pc Ls (.long y :: .long x :: rest))) := by
  subst h2
  refine Goes.of (fun t kt => XS.lcmp X.here hx rfl (hb hby hd) rfl kt) ?_
  exact g_if_ne X hx hby hd2 q r ho hq hr (fun h => kt ((lw_eq x y).mp h)) (fun h => kf fun h' => h ((lw_eq x y).mpr h'))
theorem g_icmp_lt (X : Stand p l e R s m args below meth c T locs cells slots) (hx : p.tables.exec = Jvm.exec) (hby : c.code = bytes) {x y : Int32} {o : Int} (hd : decode bytes pc = .ok (.if_icmp .lt o, 3)) (q r : Nat) (ho : 0 ≤ (pc : Int) + o) (hq : ((pc : Int) + o).toNat = q) (hr : pc + 3 = r) (kt : x < y → Goes p e below K (T.setTop (mkF m q Ls rest))) (kf : ¬ (x < y) → Goes p e below K (T.setTop (mkF m r Ls rest))) : Goes p e below K (T.setTop (mkF m pc Ls (.int y :: .int x :: rest))) := by
  subst hr
  by_cases h : x < y
  · exact Goes.of (fun t kt => XS.icmpYes X.here hx rfl rfl (hb hby hd) rfl (tlt h).1 ho hq kt) (kt h)
  · exact Goes.of (fun t kt => XS.icmpNo X.here hx rfl (hb hby hd) rfl (flt h).1 kt) (kf h)
theorem g_if_lt (X : Stand p l e R s m args below meth c T locs cells slots) (hx : p.tables.exec = Jvm.exec) (hby : c.code = bytes) {x : Int32} {o : Int} (hd : decode bytes pc = .ok (.ifCond .lt o, 3)) (q r : Nat) (ho : 0 ≤ (pc : Int) + o) (hq : ((pc : Int) + o).toNat = q) (hr : pc + 3 = r) (kt : x < 0 → Goes p e below K (T.setTop (mkF m q Ls rest))) (kf : ¬ (x < 0) → Goes p e below K (T.setTop (mkF m r Ls rest))) : Goes p e below K (T.setTop (mkF m pc Ls (.int x :: rest))) := by
  subst hr
  by_cases h : x < 0
  · exact Goes.of (fun t kt => XS.ifYes X.here hx rfl rfl (hb hby hd) rfl ((if0 _ _).trans (tlt h).1) ho hq kt) (kt h)
  · exact Goes.of (fun t kt => XS.ifNo X.here hx rfl (hb hby hd) rfl ((if0 _ _).trans (flt h).1) kt) (kf h)
theorem g_lcmp_lt (X : Stand p l e R s m args below meth c T locs cells slots) (hx : p.tables.exec = Jvm.exec) (hby : c.code = bytes) {x y : Int64} {o : Int} {pc2 : Nat} (hd : decode bytes pc = .ok (.lcmp, 1)) (hd2 : decode bytes pc2 = .ok (.ifCond .lt o, 3)) (q r : Nat) (h2 : pc + 1 = pc2) (ho : 0 ≤ (pc2 : Int) + o) (hq : ((pc2 : Int) + o).toNat = q) (hr : pc2 + 3 = r) (kt : x < y → Goes p e below K (T.setTop (mkF m q Ls rest))) (kf : ¬ (x < y) → Goes p e below K (T.setTop (mkF m r Ls rest))) : Goes p e below K (T.setTop (mkF m pc Ls (.long y :: .long x :: rest))) := by
  subst h2
  refine Goes.of (fun t kt => XS.lcmp X.here hx rfl (hb hby hd) rfl kt) ?_
  exact g_if_lt X hx hby hd2 q r ho hq hr (fun h => kt ((lw_lt x y).mp h)) (fun h => kf fun h' => h ((lw_lt x y).mpr h'))
theorem g_icmp_ge (X : Stand p l e R s m args below meth c T locs cells slots) (hx : p.tables.exec = Jvm.exec) (hby : c.code = bytes) {x y : Int32} {o : Int} (hd : decode bytes pc = .ok (.if_icmp .ge o, 3)) (q r : Nat) (ho : 0 ≤ (pc : Int) + o) (hq : ((pc : Int) + o).toNat = q) (hr : pc + 3 = r) (kt : x < y → Goes p e below K (T.setTop (mkF m r Ls rest))) (kf : ¬ (x < y) → Goes p e below K (T.setTop (mkF m q Ls rest))) : Goes p e below K (T.setTop (mkF m pc Ls (.int y :: .int x :: rest))) := by
  subst hr
  by_cases h : x < y
  · exact Goes.of (fun t kt => XS.icmpNo X.here hx rfl (hb hby hd) rfl (tlt h).2.1 kt) (kt h)
  · exact Goes.of (fun t kt => XS.icmpYes X.here hx rfl rfl (hb hby hd) rfl (flt h).2.1 ho hq kt) (kf h)
theorem g_if_ge (X : Stand p l e R s m args below meth c T locs cells slots) (hx : p.tables.exec = Jvm.exec) (hby : c.code = bytes) {x : Int32} {o : Int} (hd : decode bytes pc = .ok (.ifCond .ge o, 3)) (q r : Nat) (ho : 0 ≤ (pc : Int) + o) (hq : ((pc : Int) + o).toNat = q) (hr : pc + 3 = r) (kt : x < 0 → Goes p e below K (T.setTop (mkF m r Ls rest))) (kf : ¬ (x < 0) → Goes p e below K (T.setTop (mkF m q Ls rest))) : Goes p e below K (T.setTop (mkF m pc Ls (.int x :: rest))) := by
  subst hr
  by_cases h : x < 0
  · exact Goes.of (fun t kt => XS.ifNo X.here hx rfl (hb hby hd) rfl ((if0 _ _).trans (tlt h).2.1) kt) (kt h)
  · exact Goes.of (fun t kt => XS.ifYes X.here hx rfl rfl (hb hby hd) rfl ((if0 _ _).trans (flt h).2.1) ho hq kt) (kf h)
theorem g_lcmp_ge (X : Stand p l e R s m args below meth c T locs cells slots) (hx : p.tables.exec = Jvm.exec) (hby : c.code = bytes) {x y : Int64} {o : Int} {pc2 : Nat} (hd : decode bytes pc = .ok (.lcmp, 1)) (hd2 : decode bytes pc2 = .ok (.ifCond .ge o, 3)) (q r : Nat) (h2 : pc + 1 = pc2) (ho : 0 ≤ (pc2 : Int) + o) (hq : ((pc2 : Int) + o).toNat = q) (hr : pc2 + 3 = r) (kt : x < y → Goes p e below K (T.setTop (mkF m r Ls rest))) (kf : ¬ (x < y) → Goes p e below K (T.setTop (mkF m q Ls rest))) : Goes p e below K (T.setTop (mkF m pc Ls (.long y :: .long x :: rest))) := by
  subst h2
  refine Goes.of (fun t kt => XS.lcmp X.here hx rfl (hb hby hd) rfl kt) ?_
  exact g_if_ge X hx hby hd2 q r ho hq hr (fun h => kt ((lw_lt x y).mp h)) (fun h => kf fun h' => h ((lw_lt x y).mpr h'))
theorem g_icmp_gt (X : Stand p l e R s m args below meth c T locs cells slots) (hx : p.tables.exec = Jvm.exec) (hby : c.code = bytes) {x y : Int32} {o : Int} (hd : decode bytes pc = .ok (.if_icmp .gt o, 3)) (q r : Nat) (ho : 0 ≤ (pc : Int) + o) (hq : ((pc : Int) + o).toNat = q) (hr : pc + 3 = r) (kt : y < x → Goes p e below K (T.setTop (mkF m q Ls rest))) (kf : ¬ (y < x) → Goes p e below K (T.setTop (mkF m r Ls rest))) : Goes p e below K (T.setTop (mkF m pc Ls (.int y :: .int x :: rest))) := by
  subst hr
  by_cases h : y < x
  · exact Goes.of (fun t kt => XS.icmpYes X.here hx rfl rfl (hb hby hd) rfl (tlt h).2.2.1 ho hq kt) (kt h)
  · exact Goes.of (fun t kt => XS.icmpNo X.here hx rfl (hb hby hd) rfl (flt h).2.2.1 kt) (kf h)
theorem g_if_gt (X : Stand p l e R s m args below meth c T locs cells slots) (hx : p.tables.exec = Jvm.exec) (hby : c.code = bytes) {x : Int32} {o : Int} (hd : decode bytes pc = .ok (.ifCond .gt o, 3)) (q r : Nat) (ho : 0 ≤ (pc : Int) + o) (hq : ((pc : Int) + o).toNat = q) (hr : pc + 3 = r) (kt : 0 < x → Goes p e below K (T.setTop (mkF m q Ls rest))) (kf : ¬ (0 < x) → Goes p e below K (T.setTop (mkF m r Ls rest))) : Goes p e below K (T.setTop (mkF m pc Ls (.int x :: rest))) := by
  subst hr
  by_cases h : 0 < x
  · exact Goes.of (fun t kt => XS.ifYes X.here hx rfl rfl (hb hby hd) rfl ((if0 _ _).trans (tlt h).2.2.1) ho hq kt) (kt h)
  · exact Goes.of (fun t kt => XS.ifNo X.here hx rfl (hb hby hd) rfl ((if0 _ _).trans (flt h).2.2.1) kt) (kf h)
theorem g_lcmp_gt (X : Stand p l e R s m args below meth c T locs cells slots) (hx : p.tables.exec = Jvm.exec) (hby : c.code = bytes) {x y : Int64} {o : Int} {pc2 : Nat} (hd : decode bytes pc = .ok (.lcmp, 1)) (hd2 : decode bytes pc2 = .ok (.ifCond .gt o, 3)) (q r : Nat) (h2 : pc + 1 = pc2) (ho : 0 ≤ (pc2 : Int) + o) (hq : ((pc2 : Int) + o).toNat = q) (hr : pc2 + 3 = r) (kt : y < x → Goes p e below K (T.setTop (mkF m q Ls rest))) (kf : ¬ (y < x) → Goes p e below K (T.setTop (mkF m r Ls rest))) : Goes p e below K (T.setTop (mkF m pc Ls (.long y :: .long x :: rest))) := by
  subst h2
  refine Goes.of (fun t kt => XS.lcmp X.here hx rfl (hb hby hd) rfl kt) ?_
  exact g_if_gt X hx hby hd2 q r ho hq hr (fun h => kt ((lw_gt x y).mp h)) (fun h => kf fun h' => h ((lw_gt x y).mpr h'))
theorem g_icmp_le (X : Stand p l e R s m args below meth c T locs cells slots) (hx : p.tables.exec = Jvm.exec) (hby : c.code = bytes) {x y : Int32} {o : Int} (hd : decode bytes pc = .ok (.if_icmp .le o, 3)) (q r : Nat) (ho : 0 ≤ (pc : Int) + o) (hq : ((pc : Int) + o).toNat = q) (hr : pc + 3 = r) (kt : y < x → Goes p e below K (T.setTop (mkF m r Ls rest))) (kf : ¬ (y < x) → Goes p e below K (T.setTop (mkF m q Ls rest))) : Goes p e below K (T.setTop (mkF m pc Ls (.int y :: .int x :: rest))) := by
  subst hr
  by_cases h : y < x
  · exact Goes.of (fun t kt => XS.icmpNo X.here hx rfl (hb hby hd) rfl (tlt h).2.2.2 kt) (kt h)
  · exact Goes.of (fun t kt => XS.icmpYes X.here hx rfl rfl (hb hby hd) rfl (flt h).2.2.2 ho hq kt) (kf h)
theorem g_if_le (X : Stand p l e R s m args below meth c T locs cells slots) (hx : p.tables.exec = Jvm.exec) (hby : c.code = bytes) {x : Int32} {o : Int} (hd : decode bytes pc = .ok (.ifCond .le o, 3)) (q r : Nat) (ho : 0 ≤ (pc : Int) + o) (hq : ((pc : Int) + o).toNat = q) (hr : pc + 3 = r) (kt : 0 < x → Goes p e below K (T.setTop (mkF m r Ls rest))) (kf : ¬ (0 < x) → Goes p e below K (T.setTop (mkF m q Ls rest))) : Goes p e below K (T.setTop (mkF m pc Ls (.int x :: rest))) := by
  subst hr
  by_cases h : 0 < x
  · exact Goes.of (fun t kt => XS.ifNo X.here hx rfl (hb hby hd) rfl ((if0 _ _).trans (tlt h).2.2.2) kt) (kt h)
  · exact Goes.of (fun t kt => XS.ifYes X.here hx rfl rfl (hb hby hd) rfl ((if0 _ _).trans (flt h).2.2.2) ho hq kt) (kf h)
theorem g_lcmp_le (X : Stand p l e R s m args below meth c T locs cells slots) (hx : p.tables.exec = Jvm.exec) (hby : c.code = bytes) {x y : Int64} {o : Int} {pc2 : Nat} (hd : decode bytes pc = .ok (.lcmp, 1)) (hd2 : decode bytes pc2 = .ok (.ifCond .le o, 3)) (q r : Nat) (h2 : pc + 1 = pc2) (ho : 0 ≤ (pc2 : Int) + o) (hq : ((pc2 : Int) + o).toNat = q) (hr : pc2 + 3 = r) (kt : y < x → Goes p e below K (T.setTop (mkF m r Ls rest))) (kf : ¬ (y < x) → Goes p e below K (T.setTop (mkF m q Ls rest))) : Goes p e below K (T.setTop (mkF m pc Ls (.long y :: .long x :: rest))) := by
  subst h2
  refine Goes.of (fun t kt => XS.lcmp X.here hx rfl (hb hby hd) rfl kt) ?_
  exact g_if_le X hx hby hd2 q r ho hq hr (fun h => kt ((lw_gt x y).mp h)) (fun h => kf fun h' => h ((lw_gt x y).mpr h'))
theorem g_ifnull_yes (X : Stand p l e R s m args below meth c T locs cells slots) (hx : p.tables.exec = Jvm.exec) (hby : c.code = bytes) {o : Int} (hd : decode bytes pc = .ok (.ifnull o, 3)) (q : Nat) (ho : 0 ≤ (pc : Int) + o) (hq : ((pc : Int) + o).toNat = q) (k : Goes p e below K (T.setTop (mkF m q Ls rest))) : Goes p e below K (T.setTop (mkF m pc Ls (.null :: rest))) :=
  Goes.of (fun t kt => XS.ifnullYes X.here hx rfl rfl (hb hby hd) rfl ho hq kt) k
theorem g_ifnull_no (X : Stand p l e R s m args below meth c T locs cells slots) (hx : p.tables.exec = Jvm.exec) (hby : c.code = bytes) {a : Addr} {o : Int} (hd : decode bytes pc = .ok (.ifnull o, 3)) (q : Nat) (hq : pc + 3 = q) (k : Goes p e below K (T.setTop (mkF m q Ls rest))) : Goes p e below K (T.setTop (mkF m pc Ls (.ref a :: rest))) := by
  subst hq; exact Goes.of (fun t kt => XS.ifnullNo X.here hx rfl (hb hby hd) rfl kt) k
theorem g_ifnonnull_yes (X : Stand p l e R s m args below meth c T locs cells slots) (hx : p.tables.exec = Jvm.exec) (hby : c.code = bytes) {a : Addr} {o : Int} (hd : decode bytes pc = .ok (.ifnonnull o, 3)) (q : Nat) (ho : 0 ≤ (pc : Int) + o) (hq : ((pc : Int) + o).toNat = q) (k : Goes p e below K (T.setTop (mkF m q Ls rest))) : Goes p e below K (T.setTop (mkF m pc Ls (.ref a :: rest))) :=
  Goes.of (fun t kt => XS.ifnonnullYes X.here hx rfl rfl (hb hby hd) rfl ho hq kt) k
theorem g_ifnonnull_no (X : Stand p l e R s m args below meth c T locs cells slots) (hx : p.tables.exec = Jvm.exec) (hby : c.code = bytes) {o : Int} (hd : decode bytes pc = .ok (.ifnonnull o, 3)) (q : Nat) (hq : pc + 3 = q) (k : Goes p e below K (T.setTop (mkF m q Ls rest))) : Goes p e below K (T.setTop (mkF m pc Ls (.null :: rest))) := by
  subst hq; exact Goes.of (fun t kt => XS.ifnonnullNo X.here hx rfl (hb hby hd) rfl kt) k
theorem g_acmp (X : Stand p l e R s m args below meth c T locs cells slots) (hx : p.tables.exec = Jvm.exec) (hby : c.code = bytes) {cd : ACond} {x y : Value} {o : Int} (hd : decode bytes pc = .ok (.if_acmp cd o, 3)) (h1 : x.isRef = true) (h2 : y.isRef = true) (same : Bool) (hs : decide (x = y) = same) (q : Nat) (ho : 0 ≤ (pc : Int) + o) (hq : q = if acV cd same = true then ((pc : Int) + o).toNat else pc + 3) (k : Goes p e below K (T.setTop (mkF m q Ls rest))) : Goes p e below K (T.setTop (mkF m pc Ls (y :: x :: rest))) :=
  Goes.of (fun t kt => Jvm.RoadKit.acmp X hx rfl h1 h2 rfl (hb hby hd) rfl hs ho hq kt) k
theorem g_ldc (X : Stand p l e R s m args below meth c T locs cells slots) (hx : p.tables.exec = Jvm.exec) (hby : c.code = bytes) {Z : State} {a0 : Array Value} (hZ : Z.Warmed39 s.vm) {own : String} {index : Nat} {v : Int32} (hown : s.vm.findClass own = some m.cls) (w : (Jvm.Cond.constant own index v).before a0 Z = true) (hd : decode bytes pc = .ok (.ldc index, 2)) (q : Nat) (hq : pc + 2 = q) (k : Goes p e below K (T.setTop (mkF m q Ls (.int v :: rest)))) : Goes p e below K (T.setTop (mkF m pc Ls rest)) := by
  subst hq; exact Goes.of (fun t kt => X.ldcInt hx hown (mvT hZ w) (g := mkF m pc Ls rest) rfl (hb hby hd) t kt) k
theorem g_ldc_w (X : Stand p l e R s m args below meth c T locs cells slots) (hx : p.tables.exec = Jvm.exec) (hby : c.code = bytes) {Z : State} {a0 : Array Value} (hZ : Z.Warmed39 s.vm) {own : String} {index : Nat} {v : Int32} (hown : s.vm.findClass own = some m.cls) (w : (Jvm.Cond.constant own index v).before a0 Z = true) (hd : decode bytes pc = .ok (.ldc_w index, 3)) (q : Nat) (hq : pc + 3 = q) (k : Goes p e below K (T.setTop (mkF m q Ls (.int v :: rest)))) : Goes p e below K (T.setTop (mkF m pc Ls rest)) := by
  subst hq; exact Goes.of (fun t kt => X.ldcwInt hx hown (mvT hZ w) (g := mkF m pc Ls rest) rfl (hb hby hd) t kt) k
theorem g_ldc2 (X : Stand p l e R s m args below meth c T locs cells slots) (hx : p.tables.exec = Jvm.exec) (hby : c.code = bytes) {Z : State} {a0 : Array Value} (hZ : Z.Warmed39 s.vm) {own : String} {index : Nat} {v : Int64} (hown : s.vm.findClass own = some m.cls) (w : (Jvm.Cond.constantLong own index v).before a0 Z = true) (hd : decode bytes pc = .ok (.ldc2_w index, 3)) (q : Nat) (hq : pc + 3 = q) (k : Goes p e below K (T.setTop (mkF m q Ls (.long v :: rest)))) : Goes p e below K (T.setTop (mkF m pc Ls rest)) := by
  subst hq; exact Goes.of (fun t kt => X.ldc2Long hx hown (mvT hZ w) (g := mkF m pc Ls rest) rfl (hb hby hd) t kt) k
theorem g_leave (X : Stand p l e R s m args below meth c T locs cells slots) {Q : Option Value → Heap → List Loc → Prop} {C S : Nat} {v : Option Value} (hv : meth.sig.returnType = none → v = none) (hlk : meth.locks = false) (hQ : Q v T.heap locs) (hc : cells ≤ C) (hs : slots ≤ S) {F : State}
    (st : ∀ fs : List Frame, (∀ (f : JFrame) (acts : List Action), f.method = m → f.locked = none → f.entered = [] → (doReturn e (T.setTop f) acts v).1 = T.setFrames fs) → Steps p.tables e below F (T.setFrames fs)) : Goes p e below (Kend s below Q C S) F := by
  obtain ⟨fs, hr, hrun, hended, hW, hsame⟩ := X.leave (v := v) hv hlk
  exact ⟨_, st fs hr, _, hrun, hended, v, locs, rfl, hQ, ⟨_, rfl⟩, hW, hsame.mono hc hs⟩
theorem g_ireturn (X : Stand p l e R s m args below meth c T locs cells slots) (hx : p.tables.exec = Jvm.exec) (hby : c.code = bytes) {Q : Option Value → Heap → List Loc → Prop} {C S : Nat} {z : Int32} {t : FieldType} (hret : meth.sig.returnType = some t) (hlk : meth.locks = false) (ht : t = .int ∨ t = .boolean ∨ t = .byte ∨ t = .char ∨ t = .short) (hn : narrow t (.int z) = .int z) (hd : decode bytes pc = .ok (.ireturn, 1)) (hQ : Q (some (.int z)) T.heap locs) (hc : cells ≤ C) (hs : slots ≤ S) : Goes p e below (Kend s below Q C S) (T.setTop (mkF m pc Ls (.int z :: rest))) :=
  g_leave X (v := some (.int z)) (fun h => by rw [hret] at h; cases h) hlk hQ hc hs fun fs hr => retOut X hx hret hn (Or.inl ⟨rfl, ht, z, rfl⟩) (hb hby hd) hr
theorem g_lreturn (X : Stand p l e R s m args below meth c T locs cells slots) (hx : p.tables.exec = Jvm.exec) (hby : c.code = bytes) {Q : Option Value → Heap → List Loc → Prop} {C S : Nat} {z : Int64} (hret : meth.sig.returnType = some .long) (hlk : meth.locks = false) (hd : decode bytes pc = .ok (.lreturn, 1)) (hQ : Q (some (.long z)) T.heap locs) (hc : cells ≤ C) (hs : slots ≤ S) : Goes p e below (Kend s below Q C S) (T.setTop (mkF m pc Ls (.long z :: rest))) :=
  g_leave X (v := some (.long z)) (fun h => by rw [hret] at h; cases h) hlk hQ hc hs fun fs hr => retOut X hx hret rfl (Or.inr (Or.inl ⟨rfl, rfl, z, rfl⟩)) (hb hby hd) hr
theorem g_areturn (X : Stand p l e R s m args below meth c T locs cells slots) (hx : p.tables.exec = Jvm.exec) (hby : c.code = bytes) {Q : Option Value → Heap → List Loc → Prop} {C S : Nat} {w : Value} {t : FieldType} (hret : meth.sig.returnType = some t) (hlk : meth.locks = false) (ht : t.isReference = true) (hw : w.isRef = true) (hn : narrow t w = w) (hd : decode bytes pc = .ok (.areturn, 1)) (hQ : Q (some w) T.heap locs) (hc : cells ≤ C) (hs : slots ≤ S) : Goes p e below (Kend s below Q C S) (T.setTop (mkF m pc Ls (w :: rest))) :=
  g_leave X (v := some w) (fun h => by rw [hret] at h; cases h) hlk hQ hc hs fun fs hr => retOut X hx hret hn (Or.inr (Or.inr (Or.inr (Or.inr ⟨rfl, ht, hw⟩)))) (hb hby hd) hr
theorem g_return (X : Stand p l e R s m args below meth c T locs cells slots) (hx : p.tables.exec = Jvm.exec) (hby : c.code = bytes) {Q : Option Value → Heap → List Loc → Prop} {C S : Nat} (hret : meth.sig.returnType = none) (hlk : meth.locks = false) (hd : decode bytes pc = .ok (.return_, 1)) (hQ : Q none T.heap locs) (hc : cells ≤ C) (hs : slots ≤ S) : Goes p e below (Kend s below Q C S) (T.setTop (mkF m pc Ls [])) :=
  g_leave X (v := none) (fun _ => rfl) hlk hQ hc hs fun fs hr => X.returnOut hx hret (hb hby hd) hr
theorem nar_bool {z : Int32} (h : z = 0 ∨ z = 1) : narrow .boolean (.int z) = .int z := by rcases h with rfl | rfl <;> rfl
theorem g_callS (X : Stand p l e R s m args below meth c T locs cells slots) (hx : p.tables.exec = Jvm.exec) (hby : c.code = bytes) {Z : State} {a0 : Array Value} (hZ : Z.Warmed39 s.vm) {own : String} {index : Nat} {y : MethodName} {cb : ByteArray} {maxL : Nat} {ret : Option FieldType} {rm : Room} {Q : Option Value → Heap → List Loc → Prop} {h : Heap} (hown : s.vm.findClass own = some m.cls) (w1 : (Jvm.Cond.methodLink own index y).before a0 Z = true) (w2 : (Jvm.Cond.static y).before a0 Z = true) (w3 : (Jvm.Cond.initialized y.cls).before a0 Z = true) (w4 : (Jvm.Cond.code y cb maxL ret).before a0 Z = true)
    (hd : decode bytes pc = .ok (.invokestatic index, 3)) (argsL rest : List Value) {st : List Value} (hM : Ctr l y cb maxL ret [] rm argsL.toArray Z h Q) (eT : T.heap = h) (hst : st = argsL.reverse ++ rest) (hsz : Ls.size = c.maxLocals) {ps : List FieldType} {rt : Option FieldType} (hpd : parseMethodDescriptor y.desc = some ⟨ps, rt⟩) (hlen : argsL.length = ps.length)
    (hy : y.cls ≠ "java/lang/invoke/MethodHandle" ∧ y.cls ≠ "java/lang/invoke/VarHandle") (W : Nat) (hW : (rest.map fun v => v.category).sum ≤ W) (hf : rm.frames + 1 ≤ R.frames) (hl : W + (maxL + 11) + rm.locals ≤ R.locals) (hc : cells + rm.cells ≤ R.cells) (hs : slots + rm.slots ≤ R.slots) (q : Nat) (hq : pc + 3 = q)
    (k : ∀ (T' : State) (v : Option Value) (L : List Loc), Stand p l e R s m args below meth c T' (locs ++ L) (cells + rm.cells) (slots + rm.slots) → Q v T'.heap L → Goes p e below K (T'.setTop (mkF m q Ls (v.toList ++ rest)))) : Goes p e below K (T.setTop (mkF m pc Ls st)) := by
  subst hq hst
  obtain ⟨v, _, ⟨T', L', k', n'⟩, -, X', ⟨Lc, hQ, l1, y1, z1⟩, st⟩ := Jvm.LawKit.callS X hx hown (mvT hZ w1) (mvT hZ w2) (mvT hZ w3) (mvT hZ w4) hy (backOf (W := W) hM hZ w4 w3 hf hl) (g := mkF m pc Ls (argsL.reverse ++ rest)) rfl hsz (argsL := argsL) (rest := rest) (lenOf hpd hlen) rfl (by show 2 * 0 + _ ≤ _; omega) (hb hby hd) (fun _ _ => ⟨rfl, eT, hc, hs⟩)
  dsimp only [Pt.U, Pt.locs, Pt.cells, Pt.slots] at X' l1 y1 z1 st hQ
  subst l1 y1 z1
  exact Goes.of st (k _ _ _ X' hQ)
theorem g_special (X : Stand p l e R s m args below meth c T locs cells slots) (hx : p.tables.exec = Jvm.exec) (hby : c.code = bytes) {Z : State} {a0 : Array Value} (hZ : Z.Warmed39 s.vm) {own : String} {index : Nat} {y : MethodName} {cb : ByteArray} {maxL : Nat} {rm : Room} {Q : Option Value → Heap → List Loc → Prop} {h : Heap} (hown : s.vm.findClass own = some m.cls) (hy1 : y.name = "<init>") (w1 : (Jvm.Cond.methodLink own index y).before a0 Z = true) (w2 : (Jvm.Cond.instanceMethod y).before a0 Z = true) (w3 : (Jvm.Cond.initialized y.cls).before a0 Z = true) (w4 : (Jvm.Cond.code y cb maxL none).before a0 Z = true)
    (hd : decode bytes pc = .ok (.invokespecial index, 3)) (a : Addr) (argsL rest : List Value) {st : List Value} (hM : Ctr l y cb maxL none [] rm (.ref a :: argsL).toArray Z h Q) (eT : T.heap = h) (hst : st = argsL.reverse ++ .ref a :: rest) (hsz : Ls.size = c.maxLocals) {ps : List FieldType} {rt : Option FieldType} (hpd : parseMethodDescriptor y.desc = some ⟨ps, rt⟩) (hlen : argsL.length = ps.length)
    (hy : y.cls ≠ "java/lang/invoke/MethodHandle" ∧ y.cls ≠ "java/lang/invoke/VarHandle") (W : Nat) (hW : (rest.map fun v => v.category).sum ≤ W) (hf : rm.frames + 1 ≤ R.frames) (hl : W + (maxL + 11) + rm.locals ≤ R.locals) (hc : cells + rm.cells ≤ R.cells) (hs : slots + rm.slots ≤ R.slots) (q : Nat) (hq : pc + 3 = q)
    (k : ∀ (T' : State) (v : Option Value) (L : List Loc), Stand p l e R s m args below meth c T' (locs ++ L) (cells + rm.cells) (slots + rm.slots) → Q v T'.heap L → Goes p e below K (T'.setTop (mkF m q Ls (v.toList ++ rest)))) : Goes p e below K (T.setTop (mkF m pc Ls st)) := by
  subst hq hst
  obtain ⟨v, _, ⟨T', L', k', n'⟩, -, X', ⟨Lc, hQ, l1, y1, z1⟩, st⟩ := X.specialBack hx hy1 hown (mvT hZ w1) (mvT hZ w2) (mvT hZ w4) hy (backOf (W := W) hM hZ w4 w3 hf hl) (g := mkF m pc Ls (argsL.reverse ++ .ref a :: rest)) rfl hsz (Steps.refl _) (a := a) (argsL := argsL) (rest := rest) (lenOf hpd hlen) rfl (by show 2 * 0 + _ ≤ _; omega) (hb hby hd) (fun _ _ => ⟨rfl, eT, hc, hs⟩)
  dsimp only [Pt.U, Pt.locs, Pt.cells, Pt.slots] at X' l1 y1 z1 st hQ
  subst l1 y1 z1
  exact Goes.of (fun t kt => st.trans kt) (k _ _ _ X' hQ)
theorem g_virtual (X : Stand p l e R s m args below meth c T locs cells slots) (hx : p.tables.exec = Jvm.exec) (hby : c.code = bytes) {Z : State} {a0 : Array Value} (hZ : Z.Warmed39 s.vm) {own : String} {index : Nat} {y : MethodName} {cb : ByteArray} {maxL : Nat} {ret : Option FieldType} {rm : Room} {Q : Option Value → Heap → List Loc → Prop} {h : Heap} {z : MethodName} {C : String} (hown : s.vm.findClass own = some m.cls) (w1 : (Jvm.Cond.methodLink own index y).before a0 Z = true) (w2 : (Jvm.Cond.declares y).before a0 Z = true) (nf : NotFace s y) (w5 : (Jvm.Cond.selects C y z).before a0 Z = true) (w6 : (Jvm.Cond.instanceMethod z).before a0 Z = true) (w3 : (Jvm.Cond.initialized z.cls).before a0 Z = true) (w4 : (Jvm.Cond.code z cb maxL ret).before a0 Z = true)
    (hd : decode bytes pc = .ok (.invokevirtual index, 3)) (a : Addr) (E : Exa Z h a C) (argsL rest : List Value) {st : List Value} (hM : Ctr l z cb maxL ret [] rm (.ref a :: argsL).toArray Z h Q) (eT : T.heap = h) (hst : st = argsL.reverse ++ .ref a :: rest) (hsz : Ls.size = c.maxLocals) {ps : List FieldType} {rt : Option FieldType} (hpd : parseMethodDescriptor y.desc = some ⟨ps, rt⟩) (hlen : argsL.length = ps.length)
    (hy : y.cls ≠ "java/lang/invoke/MethodHandle" ∧ y.cls ≠ "java/lang/invoke/VarHandle") (W : Nat) (hW : (rest.map fun v => v.category).sum ≤ W) (hf : rm.frames + 1 ≤ R.frames) (hl : W + (maxL + 11) + rm.locals ≤ R.locals) (hc : cells + rm.cells ≤ R.cells) (hs : slots + rm.slots ≤ R.slots) (q : Nat) (hq : pc + 3 = q)
    (k : ∀ (T' : State) (v : Option Value) (L : List Loc), Stand p l e R s m args below meth c T' (locs ++ L) (cells + rm.cells) (slots + rm.slots) → Q v T'.heap L → Goes p e below K (T'.setTop (mkF m q Ls (v.toList ++ rest)))) : Goes p e below K (T.setTop (mkF m pc Ls st)) := by
  subst hq hst
  obtain ⟨cq, kq, qa, qb, qc⟩ := isOf hZ eT E
  obtain ⟨v, _, ⟨T', L', k', n'⟩, -, X', ⟨Lc, hQ, l1, y1, z1⟩, st⟩ := X.virtualBack hx (y := y) (z := z) hown (mvT hZ w1) (mvT hZ w2) nf (mvT hZ w5) (mvT hZ w6) hy (backOf (W := W) hM hZ w4 w3 hf hl) qa qc (g := mkF m pc Ls (argsL.reverse ++ .ref a :: rest)) rfl hsz (Steps.refl _) (argsL := argsL) (rest := rest) (lenOf hpd hlen) rfl (by show 2 * 0 + _ ≤ _; omega) (hb hby hd) (fun _ _ => ⟨rfl, eT, hc, hs⟩)
  dsimp only [Pt.U, Pt.locs, Pt.cells, Pt.slots] at X' l1 y1 z1 st hQ
  subst l1 y1 z1
  exact Goes.of (fun t kt => st.trans kt) (k _ _ _ X' hQ)
theorem g_initO (X : Stand p l e R s m args below meth c T locs cells slots) (hx : p.tables.exec = Jvm.exec) (hby : c.code = bytes) {Z : State} {a0 : Array Value} (hZ : Z.Warmed39 s.vm) {own : String} {index : Nat} {h : Heap} {a : Addr} (hown : s.vm.findClass own = some m.cls) (w1 : (Jvm.Cond.methodLink own index Lib.objectInit).before a0 Z = true) (w2 : (Jvm.Cond.instanceMethod Lib.objectInit).before a0 Z = true) (w3 : (Jvm.Cond.code Lib.objectInit ⟨#[0xb1]⟩ 1 none).before a0 Z = true)
    (hd : decode bytes pc = .ok (.invokespecial index, 3)) (eT : T.heap = h) (hsz : Ls.size = c.maxLocals) (W : Nat) (hW : (rest.map fun v => v.category).sum ≤ W) (hf : 1 ≤ R.frames) (hl : W + 12 ≤ R.locals) (q : Nat) (hq : pc + 3 = q)
    (k : ∀ T' : State, Stand p l e R s m args below meth c T' locs cells slots → T'.heap = h → Goes p e below K (T'.setTop (mkF m q Ls rest))) : Goes p e below K (T.setTop (mkF m pc Ls (.ref a :: rest))) := by
  subst hq
  obtain ⟨T', X', e', st⟩ := initO X hx hZ hown w1 w2 w3 eT (g := mkF m pc Ls (.ref a :: rest)) rfl hsz rfl (hb hby hd) hf (W := W) (by show 2 * 0 + _ ≤ _; omega) hl
  exact Goes.of st (k _ X' e')
theorem g_getfield (X : Stand p l e R s m args below meth c T locs cells slots) (hx : p.tables.exec = Jvm.exec) (hby : c.code = bytes) {Z : State} {a0 : Array Value} (hZ : Z.Warmed39 s.vm) {own R0 O n d host : String} {index : Nat} {h : Heap} {a : Addr} {v : Value} (hown : s.vm.findClass own = some m.cls) (w : (Jvm.Cond.fieldLink own index R0 n d).before a0 Z = true ∨ (Jvm.Cond.fieldLinkNest own index R0 n d host).before a0 Z = true) (via : Via Z R0 O n d) (eT : T.heap = h) (F : Fld Z h a O n d v)
    (hd : decode bytes pc = .ok (.getfield index, 3)) (q : Nat) (hq : pc + 3 = q) (k : ∀ T' : State, Stand p l e R s m args below meth c T' locs cells slots → T'.heap = h → Goes p e below K (T'.setTop (mkF m q Ls (v :: rest)))) : Goes p e below K (T.setTop (mkF m pc Ls (.ref a :: rest))) := by
  subst hq
  obtain ⟨T', X', e', st⟩ := getF X hx hZ hown w via eT F (g := mkF m pc Ls (.ref a :: rest)) rfl rfl (hb hby hd)
  exact Goes.of st (k _ X' e')
theorem g_putfield (X : Stand p l e R s m args below meth c T locs cells slots) (hx : p.tables.exec = Jvm.exec) (hby : c.code = bytes) {Z : State} {a0 : Array Value} (hZ : Z.Warmed39 s.vm) {own R0 O n d host C : String} {index kk : Nat} {ty : FieldType} {h : Heap} {a : Addr} {v old : Value} (hown : s.vm.findClass own = some m.cls) (w : (Jvm.Cond.fieldLink own index R0 n d).before a0 Z = true ∨ (Jvm.Cond.fieldLinkNest own index R0 n d host).before a0 Z = true) (via : Via Z R0 O n d) (eT : T.heap = h) (F : Fld Z h a O n d old) (E : Exa Z h a C)
    (L : (Jvm.Cond.lays C O n d).before a0 Z = true ∨ ((Jvm.Cond.laysFinal C O n d).before a0 Z = true ∧ own = O ∧ meth.name = "<init>")) (wi : (Jvm.Cond.instantiable C kk).before a0 Z = true) (hty : parseFieldDescriptor d = some ty) (hn : narrow ty v = v) (hf : fits ty v = true) (hd : decode bytes pc = .ok (.putfield index, 3)) (q : Nat) (hq : pc + 3 = q)
    (k : ∀ (T' : State) (h' : Heap), Stand p l e R s m args below meth c T' (locs ++ [⟨a, Jvm.RoadKit.slotOf Z O n d⟩]) cells slots → T'.heap = h' → Wr h h' a (Jvm.RoadKit.slotOf Z O n d) v → Goes p e below K (T'.setTop (mkF m q Ls rest))) : Goes p e below K (T.setTop (mkF m pc Ls (v :: .ref a :: rest))) := by
  subst hq
  obtain ⟨T', h', X', e', W', st⟩ := putF X hx hZ hown w via eT F E L wi hty hn hf (g := mkF m pc Ls (v :: .ref a :: rest)) rfl rfl (hb hby hd)
  exact Goes.of st (k _ _ X' e' W')
theorem g_new (X : Stand p l e R s m args below meth c T locs cells slots) (hx : p.tables.exec = Jvm.exec) (hby : c.code = bytes) {Z : State} {a0 : Array Value} (hZ : Z.Warmed39 s.vm) {own C : String} {index n : Nat} {h : Heap} (hown : s.vm.findClass own = some m.cls) (w : (Jvm.Cond.classLink own index C).before a0 Z = true) (wi : (Jvm.Cond.instantiable C n).before a0 Z = true) (wz : (Jvm.Cond.initialized C).before a0 Z = true) (eT : T.heap = h) (hd : decode bytes pc = .ok (.new index, 3)) (hc : cells + 1 ≤ R.cells) (hl : slots + n ≤ R.slots) (q : Nat) (hq : pc + 3 = q)
    (k : ∀ (T' : State) (h' : Heap) (a : Addr), a = h.size → Stand p l e R s m args below meth c T' locs (cells + 1) (slots + n) → T'.heap = h' → Ext h h' → Exa Z h' a C → (∀ {O nm d : String} {ty : FieldType}, Laid Z a0 C O nm d → parseFieldDescriptor d = some ty → Fld Z h' a O nm d (defaultValue ty)) → Goes p e below K (T'.setTop (mkF m q Ls (.ref a :: rest)))) : Goes p e below K (T.setTop (mkF m pc Ls rest)) := by
  subst hq
  obtain ⟨T', h', X', e', E', A', D', -, st⟩ := newO X hx hZ hown w wi wz eT (g := mkF m pc Ls rest) rfl (hb hby hd) hc hl
  exact Goes.of st (k _ _ _ rfl X' e' E' A' D')
def upd {α : Type} (f : Nat → α) (k : Nat) (x : α) : Nat → α := fun i => if i = k then x else f i
theorem upd_hit {α : Type} (f : Nat → α) (k : Nat) (x : α) : upd f k x k = x := if_pos rfl
theorem upd_miss {α : Type} (f : Nat → α) {k i : Nat} (x : α) (h : i ≠ k) : upd f k x i = f i := if_neg h
def ArF (Z : State) (h : Heap) (a : Addr) (ty : FieldType) (n : Nat) (f : Nat → Value) : Prop := ∃ c : Cell, Arr Z h a c ty ∧ c.slots.size = n ∧ n < 2 ^ 31 ∧ ∀ j, j < n → c.slots[j]? = some (f j)
abbrev AI (Z : State) (h : Heap) (a : Addr) (ty : FieldType) (n : Nat) (f : Nat → Int32) : Prop := ArF Z h a ty n (fun i => .int (f i))
abbrev AJ (Z : State) (h : Heap) (a : Addr) (n : Nat) (f : Nat → Int64) : Prop := ArF Z h a .long n (fun i => .long (f i))
section Arrays
variable {Z : State} {h h' : Heap} {a b : Addr} {ty : FieldType} {n : Nat} {f : Nat → Value}
theorem ArF.lt (F : ArF Z h a ty n f) : a < h.size := by obtain ⟨c, A, -⟩ := F; exact A.lt
theorem ArF.len (F : ArF Z h a ty n f) : n < 2 ^ 31 := by obtain ⟨c, -, -, q, -⟩ := F; exact q
theorem ArF.ext (F : ArF Z h a ty n f) (E : Ext h h') : ArF Z h' a ty n f := by obtain ⟨c, A, r⟩ := F; exact ⟨c, A.ext E, r⟩
theorem ArF.other {sl : Nat} {v : Value} (F : ArF Z h b ty n f) (W : Wr h h' a sl v) (q : b ≠ a) : ArF Z h' b ty n f := by obtain ⟨c, A, r⟩ := F; exact ⟨c, A.other W q, r⟩
theorem ArF.keep {ws : List Addr} (F : ArF Z h a ty n f) (K : Keep h h' ws) (q : a ∉ ws) : ArF Z h' a ty n f := by obtain ⟨c, A, r⟩ := F; exact ⟨c, ⟨K.2.1 a c A.1 q, A.2⟩, r⟩
theorem ArF.congr {g : Nat → Value} (F : ArF Z h a ty n f) (q : ∀ i, i < n → f i = g i) : ArF Z h a ty n g := by obtain ⟨c, A, r1, r2, r3⟩ := F; exact ⟨c, A, r1, r2, fun j hj => by rw [r3 j hj, q j hj]⟩
theorem ArF.fresh {k : ClassId} {z : Int32} (A : Arr Z h a (newA k ty z) ty) (q : ¬ z < 0) (e : z.toNatClampNeg = n) : ArF Z h a ty n (fun _ => defaultValue ty) := by
  subst e
  refine ⟨_, A, sz_new _ _ _, (back32 q).2, fun j hj => ?_⟩
  simp [newA, hj]
theorem ArF.set {j : Nat} {v : Value} (F : ArF Z h a ty n f) (W : Wr h h' a j v) : ArF Z h' a ty n (upd f j v) := by
  obtain ⟨c, A, r1, r2, r3⟩ := F
  refine ⟨_, A.same W, (sz_set _ _ _).trans r1, r2, fun i hi => ?_⟩
  by_cases q : i = j
  · subst q; rw [upd_hit]; simp [Cell.setSlot, r1, hi]
  · rw [upd_miss _ _ q, ← r3 i hi]
    simp only [Cell.setSlot]
    exact Array.getElem?_setIfInBounds_ne (fun y => q y.symm)
theorem AI.set {j : Nat} {x : Int32} {g : Nat → Int32} (F : AI Z h a ty n g) (W : Wr h h' a j (.int x)) : AI Z h' a ty n (upd g j x) := (ArF.set F W).congr fun i _ => by by_cases q : i = j <;> simp [upd, q]
theorem AJ.set {j : Nat} {x : Int64} {g : Nat → Int64} (F : AJ Z h a n g) (W : Wr h h' a j (.long x)) : AJ Z h' a n (upd g j x) := (ArF.set F W).congr fun i _ => by by_cases q : i = j <;> simp [upd, q]
theorem own_in {c : Cell} {j : Int32} {k : Nat} (hs : c.slots.size = n) (h0 : ¬ j < 0) (hj : j.toNatClampNeg = k) (hk : k < n) : ¬ (j < 0 ∨ c.slots.size ≤ j.toNatClampNeg) := by
  subst hs hj; exact fun y => y.elim h0 (Nat.not_le.mpr hk)
end Arrays
theorem g_newarray (X : Stand p l e R s m args below meth c T locs cells slots) (hx : p.tables.exec = Jvm.exec) (hby : c.code = bytes) {Z : State} {a0 : Array Value} (hZ : Z.Warmed39 s.vm) {aty : ArrayType} {h : Heap} {z : Int32} (w : (Jvm.Cond.arrayClass (newarray.typeOf aty)).before a0 Z = true) (eT : T.heap = h) (hd : decode bytes pc = .ok (.newarray aty, 2)) (hz : ¬ z < 0) (n : Nat) (hn : z.toNatClampNeg = n) (cap : Nat) (hcap : n ≤ cap) (hbig : cap * 8 ≤ 536870912) (hc : cells + 1 ≤ R.cells) (hl : slots + cap ≤ R.slots) (q : Nat) (hq : pc + 2 = q)
    (k : ∀ (T' : State) (h' : Heap) (a : Addr), a = h.size → Stand p l e R s m args below meth c T' locs (cells + 1) (slots + cap) → T'.heap = h' → Ext h h' → ArF Z h' a (newarray.typeOf aty) n (fun _ => defaultValue (newarray.typeOf aty)) → Goes p e below K (T'.setTop (mkF m q Ls (.ref a :: rest)))) : Goes p e below K (T.setTop (mkF m pc Ls (.int z :: rest))) := by
  subst hq
  obtain ⟨T', h', cA, X', e', E', A', st⟩ := newP X hx hZ w eT (g := mkF m pc Ls (.int z :: rest)) rfl (hb hby hd) rfl hz (cap := cap) (by rw [hn]; exact hcap) hbig hc hl
  exact Goes.of st (k _ _ _ rfl X' e' E' (ArF.fresh A' hz hn))
theorem g_arraylength (X : Stand p l e R s m args below meth c T locs cells slots) (hx : p.tables.exec = Jvm.exec) (hby : c.code = bytes) {Z : State} (hZ : Z.Warmed39 s.vm) {h : Heap} {a : Addr} {ty : FieldType} {n : Nat} {f : Nat → Value} (eT : T.heap = h) (F : ArF Z h a ty n f) (hd : decode bytes pc = .ok (.arraylength, 1)) (z : Int32) (hz : n.toInt32 = z) (q : Nat) (hq : pc + 1 = q) (k : Goes p e below K (T.setTop (mkF m q Ls (.int z :: rest)))) : Goes p e below K (T.setTop (mkF m pc Ls (.ref a :: rest))) := by
  subst hq hz
  obtain ⟨cl, A, r1, r2, r3⟩ := F
  exact Goes.of (fun t kt => X.arraylength hx (by rw [eT]; exact A.1) (State.isArrayOf_alike hZ.alike A.2.1) (g := mkF m pc Ls (.ref a :: rest)) rfl rfl (hb hby hd) t (by rw [r1]; exact kt)) k
theorem g_iaload (X : Stand p l e R s m args below meth c T locs cells slots) (hx : p.tables.exec = Jvm.exec) (hby : c.code = bytes) {Z : State} (hZ : Z.Warmed39 s.vm) {h : Heap} {a : Addr} {n : Nat} {f : Nat → Int32} {j : Int32} (eT : T.heap = h) (F : AI Z h a .int n f) (hd : decode bytes pc = .ok (.iaload, 1)) (h0 : ¬ j < 0) (i : Nat) (hj : j.toNatClampNeg = i) (hi : i < n) (x : Int32) (hfx : f i = x) (q : Nat) (hq : pc + 1 = q) (k : Goes p e below K (T.setTop (mkF m q Ls (.int x :: rest)))) : Goes p e below K (T.setTop (mkF m pc Ls (.int j :: .ref a :: rest))) := by
  subst hq hfx
  obtain ⟨cl, A, r1, r2, r3⟩ := F
  exact Goes.of (fun t kt => X.iaload hx (by rw [eT]; exact A.1) (State.isArrayOf_alike hZ.alike A.2.1) A.2.2 (own_in r1 h0 hj hi) (by rw [hj]; exact r3 i hi) (g := mkF m pc Ls (.int j :: .ref a :: rest)) rfl rfl (hb hby hd) t kt) k
theorem g_baload (X : Stand p l e R s m args below meth c T locs cells slots) (hx : p.tables.exec = Jvm.exec) (hby : c.code = bytes) {Z : State} (hZ : Z.Warmed39 s.vm) {h : Heap} {a : Addr} {n : Nat} {f : Nat → Int32} {j : Int32} (eT : T.heap = h) (F : AI Z h a .byte n f) (hd : decode bytes pc = .ok (.baload, 1)) (h0 : ¬ j < 0) (i : Nat) (hj : j.toNatClampNeg = i) (hi : i < n) (x : Int32) (hfx : f i = x) (q : Nat) (hq : pc + 1 = q) (k : Goes p e below K (T.setTop (mkF m q Ls (.int x :: rest)))) : Goes p e below K (T.setTop (mkF m pc Ls (.int j :: .ref a :: rest))) := by
  subst hq hfx
  obtain ⟨cl, A, r1, r2, r3⟩ := F
  exact Goes.of (fun t kt => X.baloadBytes hx (by rw [eT]; exact A.1) (State.isArrayOf_alike hZ.alike A.2.1) A.2.2 (own_in r1 h0 hj hi) (by rw [hj]; exact r3 i hi) (g := mkF m pc Ls (.int j :: .ref a :: rest)) rfl rfl (hb hby hd) t kt) k
theorem g_laload (X : Stand p l e R s m args below meth c T locs cells slots) (hx : p.tables.exec = Jvm.exec) (hby : c.code = bytes) {Z : State} (hZ : Z.Warmed39 s.vm) {h : Heap} {a : Addr} {n : Nat} {f : Nat → Int64} {j : Int32} (eT : T.heap = h) (F : AJ Z h a n f) (hd : decode bytes pc = .ok (.laload, 1)) (h0 : ¬ j < 0) (i : Nat) (hj : j.toNatClampNeg = i) (hi : i < n) (x : Int64) (hfx : f i = x) (q : Nat) (hq : pc + 1 = q) (k : Goes p e below K (T.setTop (mkF m q Ls (.long x :: rest)))) : Goes p e below K (T.setTop (mkF m pc Ls (.int j :: .ref a :: rest))) := by
  subst hq hfx
  obtain ⟨cl, A, r1, r2, r3⟩ := F
  exact Goes.of (fun t kt => X.laload hx (by rw [eT]; exact A.1) (State.isArrayOf_alike hZ.alike A.2.1) A.2.2 (own_in r1 h0 hj hi) (by rw [hj]; exact r3 i hi) (g := mkF m pc Ls (.int j :: .ref a :: rest)) rfl rfl (hb hby hd) t kt) k
theorem g_aaload (X : Stand p l e R s m args below meth c T locs cells slots) (hx : p.tables.exec = Jvm.exec) (hby : c.code = bytes) {Z : State} (hZ : Z.Warmed39 s.vm) {h : Heap} {a : Addr} {n : Nat} {ty : FieldType} {f : Nat → Value} {j : Int32} (eT : T.heap = h) (F : ArF Z h a ty n f) (hty : ty.isReference = true) (hd : decode bytes pc = .ok (.aaload, 1)) (h0 : ¬ j < 0) (i : Nat) (hj : j.toNatClampNeg = i) (hi : i < n) (x : Value) (hfx : f i = x) (q : Nat) (hq : pc + 1 = q) (k : Goes p e below K (T.setTop (mkF m q Ls (x :: rest)))) : Goes p e below K (T.setTop (mkF m pc Ls (.int j :: .ref a :: rest))) := by
  subst hq hfx
  obtain ⟨cl, A, r1, r2, r3⟩ := F
  exact Goes.of (fun t kt => X.aaload hx (by rw [eT]; exact A.1) (State.isArrayOf_alike hZ.alike A.2.1) hty A.2.2 (own_in r1 h0 hj hi) (by rw [hj]; exact r3 i hi) (g := mkF m pc Ls (.int j :: .ref a :: rest)) rfl rfl (hb hby hd) t kt) k
theorem g_iastore (X : Stand p l e R s m args below meth c T locs cells slots) (hx : p.tables.exec = Jvm.exec) (hby : c.code = bytes) {Z : State} (hZ : Z.Warmed39 s.vm) {h : Heap} {a : Addr} {n : Nat} {f : Nat → Int32} {j : Int32} {x : Int32} (eT : T.heap = h) (F : AI Z h a .int n f) (hd : decode bytes pc = .ok (.iastore, 1)) (h0 : ¬ j < 0) (i : Nat) (hj : j.toNatClampNeg = i) (hi : i < n) (q : Nat) (hq : pc + 1 = q)
    (k : ∀ (T' : State) (h' : Heap), Stand p l e R s m args below meth c T' (locs ++ [⟨a, i⟩]) cells slots → T'.heap = h' → Wr h h' a i (.int x) → AI Z h' a .int n (upd f i x) → Goes p e below K (T'.setTop (mkF m q Ls rest))) : Goes p e below K (T.setTop (mkF m pc Ls (.int x :: .int j :: .ref a :: rest))) := by
  subst hq
  have F' := F
  obtain ⟨cl, A, r1, r2, r3⟩ := F'
  obtain ⟨T', h', X', e', W', st⟩ := stI X hx hZ eT A (own_in r1 h0 hj hi) (g := mkF m pc Ls (.int x :: .int j :: .ref a :: rest)) rfl rfl (hb hby hd)
  rw [hj] at X' W'
  exact Goes.of st (k _ _ X' e' W' (AI.set F W'))
theorem g_bastore (X : Stand p l e R s m args below meth c T locs cells slots) (hx : p.tables.exec = Jvm.exec) (hby : c.code = bytes) {Z : State} (hZ : Z.Warmed39 s.vm) {h : Heap} {a : Addr} {n : Nat} {f : Nat → Int32} {j : Int32} {x : Int32} (eT : T.heap = h) (F : AI Z h a .byte n f) (hd : decode bytes pc = .ok (.bastore, 1)) (h0 : ¬ j < 0) (i : Nat) (hj : j.toNatClampNeg = i) (hi : i < n) (y : Int32) (hxy : x.toInt8.toInt32 = y) (q : Nat) (hq : pc + 1 = q)
    (k : ∀ (T' : State) (h' : Heap), Stand p l e R s m args below meth c T' (locs ++ [⟨a, i⟩]) cells slots → T'.heap = h' → Wr h h' a i (.int y) → AI Z h' a .byte n (upd f i y) → Goes p e below K (T'.setTop (mkF m q Ls rest))) : Goes p e below K (T.setTop (mkF m pc Ls (.int x :: .int j :: .ref a :: rest))) := by
  subst hq hxy
  have F' := F
  obtain ⟨cl, A, r1, r2, r3⟩ := F'
  obtain ⟨T', h', X', e', W', st⟩ := stB X hx hZ eT A (own_in r1 h0 hj hi) (g := mkF m pc Ls (.int x :: .int j :: .ref a :: rest)) rfl rfl (hb hby hd)
  rw [hj] at X' W'
  exact Goes.of st (k _ _ X' e' W' (AI.set F W'))
theorem g_lastore (X : Stand p l e R s m args below meth c T locs cells slots) (hx : p.tables.exec = Jvm.exec) (hby : c.code = bytes) {Z : State} (hZ : Z.Warmed39 s.vm) {h : Heap} {a : Addr} {n : Nat} {f : Nat → Int64} {j : Int32} {x : Int64} (eT : T.heap = h) (F : AJ Z h a n f) (hd : decode bytes pc = .ok (.lastore, 1)) (h0 : ¬ j < 0) (i : Nat) (hj : j.toNatClampNeg = i) (hi : i < n) (q : Nat) (hq : pc + 1 = q)
    (k : ∀ (T' : State) (h' : Heap), Stand p l e R s m args below meth c T' (locs ++ [⟨a, i⟩]) cells slots → T'.heap = h' → Wr h h' a i (.long x) → AJ Z h' a n (upd f i x) → Goes p e below K (T'.setTop (mkF m q Ls rest))) : Goes p e below K (T.setTop (mkF m pc Ls (.long x :: .int j :: .ref a :: rest))) := by
  subst hq
  have F' := F
  obtain ⟨cl, A, r1, r2, r3⟩ := F'
  obtain ⟨T', h', X', e', W', st⟩ := stJ X hx hZ eT A (own_in r1 h0 hj hi) (g := mkF m pc Ls (.long x :: .int j :: .ref a :: rest)) rfl rfl (hb hby hd)
  rw [hj] at X' W'
  exact Goes.of st (k _ _ X' e' W' (AJ.set F W'))
def ArO (Z : State) (h : Heap) (a : Addr) (C : String) (n : Nat) (f : Nat → Value) : Prop := ∃ c : Cell, Arr Z h a c (.object C) ∧ c.slots.size = n ∧ n < 2 ^ 31 ∧ (∀ j, j < n → c.slots[j]? = some (f j)) ∧ Ovr Z c.cls C
section ArraysO
variable {Z : State} {h h' : Heap} {a b : Addr} {C : String} {n : Nat} {f : Nat → Value}
theorem ArO.toF (F : ArO Z h a C n f) : ArF Z h a (.object C) n f := by obtain ⟨c, A, r1, r2, r3, -⟩ := F; exact ⟨c, A, r1, r2, r3⟩
theorem ArO.lt (F : ArO Z h a C n f) : a < h.size := F.toF.lt
theorem ArO.ext (F : ArO Z h a C n f) (E : Ext h h') : ArO Z h' a C n f := by obtain ⟨c, A, r⟩ := F; exact ⟨c, A.ext E, r⟩
theorem ArO.other {sl : Nat} {v : Value} (F : ArO Z h b C n f) (W : Wr h h' a sl v) (q : b ≠ a) : ArO Z h' b C n f := by obtain ⟨c, A, r⟩ := F; exact ⟨c, A.other W q, r⟩
theorem ArO.keep {ws : List Addr} (F : ArO Z h a C n f) (K : Keep h h' ws) (q : a ∉ ws) : ArO Z h' a C n f := by obtain ⟨c, A, r⟩ := F; exact ⟨c, ⟨K.2.1 a c A.1 q, A.2⟩, r⟩
theorem ArO.congr {g : Nat → Value} (F : ArO Z h a C n f) (q : ∀ i, i < n → f i = g i) : ArO Z h a C n g := by obtain ⟨c, A, r1, r2, r3, r4⟩ := F; exact ⟨c, A, r1, r2, fun j hj => by rw [r3 j hj, q j hj], r4⟩
theorem ArO.fresh {k : ClassId} {z : Int32} (A : Arr Z h a (newA k (.object C) z) (.object C)) (O : Ovr Z k C) (q : ¬ z < 0) (e : z.toNatClampNeg = n) : ArO Z h a C n (fun _ => .null) := by
  subst e
  refine ⟨_, A, sz_new _ _ _, (back32 q).2, fun j hj => ?_, O⟩
  simp [newA, hj, defaultValue]
theorem ArO.set {j : Nat} {v : Value} (F : ArO Z h a C n f) (W : Wr h h' a j v) : ArO Z h' a C n (upd f j v) := by
  obtain ⟨c, A, r1, r2, r3, r4⟩ := F
  refine ⟨_, A.same W, (sz_set _ _ _).trans r1, r2, fun i hi => ?_, r4⟩
  by_cases q : i = j
  · subst q; rw [upd_hit]; simp [Cell.setSlot, r1, hi]
  · rw [upd_miss _ _ q, ← r3 i hi]
    simp only [Cell.setSlot]
    exact Array.getElem?_setIfInBounds_ne (fun y => q y.symm)
theorem ArO.sto {y : Addr} (F : ArO Z h a C n f) (I : Ins Z h y C true) : Sto Z h a (.ref y) := by obtain ⟨c, A, -, -, -, O⟩ := F; exact Sto.of A O I
end ArraysO
theorem g_anewarray (X : Stand p l e R s m args below meth c T locs cells slots) (hx : p.tables.exec = Jvm.exec) (hby : c.code = bytes) {Z : State} {a0 : Array Value} (hZ : Z.Warmed39 s.vm) {own C : String} {index : Nat} {h : Heap} {z : Int32} (hown : s.vm.findClass own = some m.cls) (w1 : (Jvm.Cond.classLink own index C).before a0 Z = true) (w2 : (Jvm.Cond.arrayOver (.object C)).before a0 Z = true) (eT : T.heap = h) (hd : decode bytes pc = .ok (.anewarray index, 3)) (hz : ¬ z < 0) (n : Nat) (hn : z.toNatClampNeg = n) (cap : Nat) (hcap : n ≤ cap) (hbig : cap * 8 ≤ 536870912) (hc : cells + 1 ≤ R.cells) (hl : slots + cap ≤ R.slots) (q : Nat) (hq : pc + 3 = q)
    (k : ∀ (T' : State) (h' : Heap) (a : Addr), a = h.size → Stand p l e R s m args below meth c T' locs (cells + 1) (slots + cap) → T'.heap = h' → Ext h h' → ArO Z h' a C n (fun _ => .null) → Goes p e below K (T'.setTop (mkF m q Ls (.ref a :: rest)))) : Goes p e below K (T.setTop (mkF m pc Ls (.int z :: rest))) := by
  subst hq
  obtain ⟨T', h', cA, X', e', E', A', O', st⟩ := newR X hx hZ hown w1 w2 eT (g := mkF m pc Ls (.int z :: rest)) rfl (hb hby hd) rfl hz (cap := cap) (by rw [hn]; exact hcap) hbig hc hl
  exact Goes.of st (k _ _ _ rfl X' e' E' (ArO.fresh A' O' hz hn))
theorem g_aastore (X : Stand p l e R s m args below meth c T locs cells slots) (hx : p.tables.exec = Jvm.exec) (hby : c.code = bytes) {Z : State} (hZ : Z.Warmed39 s.vm) {h : Heap} {a : Addr} {n : Nat} {C : String} {f : Nat → Value} {j : Int32} {x : Value} (eT : T.heap = h) (F : ArO Z h a C n f) (S : Sto Z h a x) (hd : decode bytes pc = .ok (.aastore, 1)) (h0 : ¬ j < 0) (i : Nat) (hj : j.toNatClampNeg = i) (hi : i < n) (q : Nat) (hq : pc + 1 = q)
    (k : ∀ (T' : State) (h' : Heap), Stand p l e R s m args below meth c T' (locs ++ [⟨a, i⟩]) cells slots → T'.heap = h' → Wr h h' a i x → ArO Z h' a C n (upd f i x) → Goes p e below K (T'.setTop (mkF m q Ls rest))) : Goes p e below K (T.setTop (mkF m pc Ls (x :: .int j :: .ref a :: rest))) := by
  subst hq
  have F' := F
  obtain ⟨cl, A, r1, r2, r3, r4⟩ := F'
  obtain ⟨T', h', X', e', W', st⟩ := stR X hx hZ eT A (own_in r1 h0 hj hi) rfl S (g := mkF m pc Ls (x :: .int j :: .ref a :: rest)) rfl rfl (hb hby hd)
  rw [hj] at X' W'
  exact Goes.of st (k _ _ X' e' W' (ArO.set F W'))
theorem g_checkcast (X : Stand p l e R s m args below meth c T locs cells slots) (hx : p.tables.exec = Jvm.exec) (hby : c.code = bytes) {Z : State} {a0 : Array Value} (hZ : Z.Warmed39 s.vm) {own C : String} {index : Nat} {h : Heap} {a : Addr} (hown : s.vm.findClass own = some m.cls) (w : (Jvm.Cond.classLink own index C).before a0 Z = true) (eT : T.heap = h) (I : Ins Z h a C true) (hd : decode bytes pc = .ok (.checkcast index, 3)) (q : Nat) (hq : pc + 3 = q)
    (k : ∀ T' : State, Stand p l e R s m args below meth c T' locs cells slots → T'.heap = h → Goes p e below K (T'.setTop (mkF m q Ls (.ref a :: rest)))) : Goes p e below K (T.setTop (mkF m pc Ls (.ref a :: rest))) := by
  subst hq
  obtain ⟨T', X', e', st⟩ := castY X hx hZ hown w eT I (g := mkF m pc Ls (.ref a :: rest)) rfl rfl (hb hby hd)
  exact Goes.of st (k _ X' e')
theorem g_getstatic (X : Stand p l e R s m args below meth c T locs cells slots) (hx : p.tables.exec = Jvm.exec) (hby : c.code = bytes) {Z : State} {a0 : Array Value} (hZ : Z.Warmed39 s.vm) {own R0 O n d host : String} {index : Nat} {h : Heap} {v : Value} (hown : s.vm.findClass own = some m.cls) (w : (Jvm.Cond.fieldLink own index R0 n d).before a0 Z = true ∨ (Jvm.Cond.fieldLinkNest own index R0 n d host).before a0 Z = true) (via : Via Z R0 O n d) (eT : T.heap = h) (F : Sta Z h O n d v) (hd : decode bytes pc = .ok (.getstatic index, 3)) (q : Nat) (hq : pc + 3 = q)
    (k : ∀ T' : State, Stand p l e R s m args below meth c T' locs cells slots → T'.heap = h → Goes p e below K (T'.setTop (mkF m q Ls (v :: rest)))) : Goes p e below K (T.setTop (mkF m pc Ls rest)) := by
  subst hq
  obtain ⟨T', X', e', st⟩ := getS2 X hx hZ hown w via eT F (g := mkF m pc Ls rest) rfl (hb hby hd)
  exact Goes.of st (k _ X' e')
theorem own_fm {r n d : String} (h1 : r ≠ "java/lang/invoke/MethodHandle") (h2 : r ≠ "java/lang/invoke/VarHandle") : ((Jvm.Cond.interfaceMethod r r n d).onTables && (Jvm.Cond.interfaceMethod r r n d).keepsFace) = true := by
  have e : ((Jvm.Cond.interfaceMethod r r n d).onTables && (Jvm.Cond.interfaceMethod r r n d).keepsFace) = (r == r && r != "java/lang/invoke/MethodHandle" && r != "java/lang/invoke/VarHandle") := rfl
  rw [e]; simp [h1, h2]
theorem g_interface (X : Stand p l e R s m args below meth c T locs cells slots) (hx : p.tables.exec = Jvm.exec) (hby : c.code = bytes) {Z : State} {a0 : Array Value} (hZ : Z.Warmed39 s.vm) {own : String} {index : Nat} {y : MethodName} {cb : ByteArray} {maxL : Nat} {ret : Option FieldType} {rm : Room} {Q : Option Value → Heap → List Loc → Prop} {h : Heap} {z : MethodName} {C : String} {count : Nat} (hown : s.vm.findClass own = some m.cls) (w1 : (Jvm.Cond.methodLink own index y).before a0 Z = true) (w2 : (Jvm.Cond.declares y).before a0 Z = true) (w7 : (Jvm.Cond.interfaceMethod y.cls y.cls y.name y.desc).before a0 Z = true) (w5 : (Jvm.Cond.selects C y z).before a0 Z = true) (w6 : (Jvm.Cond.instanceMethod z).before a0 Z = true) (w8 : (Jvm.Cond.publicMethod z).before a0 Z = true) (w9 : (Jvm.Cond.unhidden C y.name y.desc).before a0 Z = true) (w10 : (Jvm.Cond.castable C y.cls).before a0 Z = true) (w3 : (Jvm.Cond.initialized z.cls).before a0 Z = true) (w4 : (Jvm.Cond.code z cb maxL ret).before a0 Z = true)
    (hd : decode bytes pc = .ok (.invokeinterface index count, 5)) (a : Addr) (E : Exa Z h a C) (argsL rest : List Value) {st : List Value} (hM : Ctr l z cb maxL ret [] rm (.ref a :: argsL).toArray Z h Q) (eT : T.heap = h) (hst : st = argsL.reverse ++ .ref a :: rest) (hsz : Ls.size = c.maxLocals) {ps : List FieldType} {rt : Option FieldType} (hpd : parseMethodDescriptor y.desc = some ⟨ps, rt⟩) (hlen : argsL.length = ps.length)
    (hy : y.cls ≠ "java/lang/invoke/MethodHandle" ∧ y.cls ≠ "java/lang/invoke/VarHandle") (W : Nat) (hW : (rest.map fun v => v.category).sum ≤ W) (hf : rm.frames + 1 ≤ R.frames) (hl : W + (maxL + 11) + rm.locals ≤ R.locals) (hc : cells + rm.cells ≤ R.cells) (hs : slots + rm.slots ≤ R.slots) (q : Nat) (hq : pc + 5 = q)
    (k : ∀ (T' : State) (v : Option Value) (L : List Loc), Stand p l e R s m args below meth c T' (locs ++ L) (cells + rm.cells) (slots + rm.slots) → Q v T'.heap L → Goes p e below K (T'.setTop (mkF m q Ls (v.toList ++ rest)))) : Goes p e below K (T.setTop (mkF m pc Ls st)) := by
  subst hq hst
  obtain ⟨cq, kq, qa, qb, qc⟩ := isOf hZ eT E
  obtain ⟨v, _, ⟨T', L', k', n'⟩, -, X', ⟨Lc, hQ, l1, y1, z1⟩, st⟩ := X.interfaceBack hx (xi := y) (y := z) hown (mvT hZ w1) (mvT hZ w2) (mvT hZ w7 (own_fm hy.1 hy.2)) (mvT hZ w5) (mvT hZ w6) (mvT hZ w8) (mvT hZ w9) (mvT hZ w10) hy (backOf (W := W) hM hZ w4 w3 hf hl) qa qb qc (g := mkF m pc Ls (argsL.reverse ++ .ref a :: rest)) rfl hsz (Steps.refl _) (argsL := argsL) (rest := rest) (lenOf hpd hlen) rfl (by show 2 * 0 + _ ≤ _; omega) (hb hby hd) (fun _ _ => ⟨rfl, eT, hc, hs⟩)
  dsimp only [Pt.U, Pt.locs, Pt.cells, Pt.slots] at X' l1 y1 z1 st hQ
  subst l1 y1 z1
  exact Goes.of (fun t kt => st.trans kt) (k _ _ _ X' hQ)
end OwnKit
theorem byte2 (x : Int32) : x.toInt8.toInt32.toInt8.toInt32 = x.toInt8.toInt32 := by simp
theorem own_ite01 {P : Prop} [Decidable P] : (if P then (1 : Int32) else 0) = 0 ∨ (if P then (1 : Int32) else 0) = 1 := by by_cases h : P <;> simp [h]
theorem d1_0 : decode prog_13_method_1_code 0 = .ok (.aload_n 0, 1) := by decide +kernel
theorem d1_1 : decode prog_13_method_1_code 1 = .ok (.invokespecial 3, 3) := by decide +kernel
theorem d1_4 : decode prog_13_method_1_code 4 = .ok (.aload_n 0, 1) := by decide +kernel
theorem d1_5 : decode prog_13_method_1_code 5 = .ok (.aload_n 1, 1) := by decide +kernel
theorem d1_6 : decode prog_13_method_1_code 6 = .ok (.putfield 9, 3) := by decide +kernel
theorem d1_9 : decode prog_13_method_1_code 9 = .ok (.aload_n 0, 1) := by decide +kernel
theorem d1_10 : decode prog_13_method_1_code 10 = .ok (.iload_n 2, 1) := by decide +kernel
theorem d1_11 : decode prog_13_method_1_code 11 = .ok (.putfield 15, 3) := by decide +kernel
theorem d1_14 : decode prog_13_method_1_code 14 = .ok (.return_, 1) := by decide +kernel
theorem pn1 : plainFor (⟨"com/example/measured_match/measuredmatch/Folding$Keys", "<init>", "([II)V"⟩ : MethodName) = true := plainFor_of_name (by first | (simp [plainName, overriddenIn]; done) | decide +kernel)
theorem ef1 (m : MethodId) (o : Addr) (ky : Addr) (bs : Int32) : entryFrame m #[(.ref o), (.ref ky), (.int bs)] 3 = mkF m 0 #[.val (.ref o), .val (.ref ky), .val (.int bs)] [] := by first | (simp [entryFrame, mkF, argsToLocals, Value.category]; done) | rfl
def Q1 (o : Addr) (ky : Addr) (bs : Int32) (Z : State) (h0 : Heap) (n0 : Nat) (v : Option Value) (h : Heap) (L : List Loc) : Prop := v = none ∧ Fr n0 L ∧ Keep h0 h [o] ∧ Exa Z h o "com/example/measured_match/measuredmatch/Folding$Keys" ∧ Fld Z h o "com/example/measured_match/measuredmatch/Folding$Keys" "key" "[I" (.ref ky) ∧ Fld Z h o "com/example/measured_match/measuredmatch/Folding$Keys" "base" "I" (.int bs)
set_option maxRecDepth 65536 in
set_option maxHeartbeats 40000000 in
theorem rm1 (l : Launch) (Z : State) (a0 : Array Value) (hw : ∀ d ∈ tables_1, d.before a0 Z = true) (ws : List Jvm.Cond) (o : Addr) (ky : Addr) (bs : Int32) (h0 : Heap) (n0 : Nat) (Z0 : n0 ≤ h0.size) (E_o_0 : Exa Z h0 o "com/example/measured_match/measuredmatch/Folding$Keys") (F_o_key_0 : Fld Z h0 o "com/example/measured_match/measuredmatch/Folding$Keys" "key" "[I" .null) (F_o_base_0 : Fld Z h0 o "com/example/measured_match/measuredmatch/Folding$Keys" "base" "I" (.int (0 : Int32))) (gn_o : n0 ≤ o) : Ctr l (⟨"com/example/measured_match/measuredmatch/Folding$Keys", "<init>", "([II)V"⟩ : MethodName) prog_13_method_1_code 3 none ws ({ frames := 1, cells := 0, slots := 0, locals := 12 } : Room) #[(.ref o), (.ref ky), (.int bs)] Z h0 (Q1 o ky bs Z h0 n0) := by
  refine own_body pn1 ?_
  intro p e s m below meth c T0 hx hby hml hown hnm hret hlk hZ X0 e0
  have N0 := Fr.nil n0
  have K0 : Keep h0 h0 [o] := Keep.refl _ _
  refine Goes.entry (ef1 m o ky bs) ?_
  refine g_aloadN X0 hx hby d1_0 rfl rfl 1 rfl ?_
  refine g_initO X0 hx hby hZ hown (hw _ (List.mem_of_getElem? (i := 7) rfl)) (hw _ (List.mem_of_getElem? (i := 8) rfl)) (hw _ (List.mem_of_getElem? (i := 9) rfl)) d1_1 e0 (by rw [hml]; rfl) 0 (Nat.le_of_eq rfl) (by decide) (by decide) 4 rfl ?_
  intro T1 X1 e1
  refine g_aloadN X1 hx hby d1_4 rfl rfl 5 rfl ?_
  refine g_aloadN X1 hx hby d1_5 rfl rfl 6 rfl ?_
  refine g_putfield X1 hx hby hZ hown (host := "") (Or.inl (hw _ (List.mem_of_getElem? (i := 10) rfl))) Via.refl e1 F_o_key_0 E_o_0 (Or.inr ⟨(hw _ (List.mem_of_getElem? (i := 11) rfl)), rfl, hnm⟩) (hw _ (List.mem_of_getElem? (i := 2) rfl)) (ty := (.array .int)) (by decide) rfl rfl d1_6 9 rfl ?_
  intro T2 h2 X2 e2 W2
  have N2 := Fr.snoc X2 N0 gn_o
  have K2 := K0.wr W2 (Or.inl (List.mem_of_getElem? (i := 0) rfl))
  have Z2 : n0 ≤ h2.size := Nat.le_trans Z0 (Keep.of_wr W2).1
  have E_o_2 := E_o_0.wr W2
  have F_o_key_2 := F_o_key_0.same W2
  have F_o_base_2 := F_o_base_0.other W2 (Or.inr (slot_ne (Or.inr (hw _ (List.mem_of_getElem? (i := 13) rfl))) (Or.inr (hw _ (List.mem_of_getElem? (i := 11) rfl))) (by decide) (t := .int) (t' := (.array .int)) (by decide) (by decide)))
  refine g_aloadN X2 hx hby d1_9 rfl rfl 10 rfl ?_
  refine g_iloadN X2 hx hby d1_10 rfl 11 rfl ?_
  refine g_putfield X2 hx hby hZ hown (host := "") (Or.inl (hw _ (List.mem_of_getElem? (i := 12) rfl))) Via.refl e2 F_o_base_2 E_o_2 (Or.inr ⟨(hw _ (List.mem_of_getElem? (i := 13) rfl)), rfl, hnm⟩) (hw _ (List.mem_of_getElem? (i := 2) rfl)) (ty := .int) (by decide) rfl rfl d1_11 14 rfl ?_
  intro T3 h3 X3 e3 W3
  have N3 := Fr.snoc X3 N2 gn_o
  have K3 := K2.wr W3 (Or.inl (List.mem_of_getElem? (i := 0) rfl))
  have Z3 : n0 ≤ h3.size := Nat.le_trans Z2 (Keep.of_wr W3).1
  have E_o_3 := E_o_2.wr W3
  have F_o_key_3 := F_o_key_2.other W3 (Or.inr (slot_ne (Or.inr (hw _ (List.mem_of_getElem? (i := 11) rfl))) (Or.inr (hw _ (List.mem_of_getElem? (i := 13) rfl))) (by decide) (t := (.array .int)) (t' := .int) (by decide) (by decide)))
  have F_o_base_3 := F_o_base_2.same W3
  exact g_return X3 hx hby hret hlk d1_14 (by rw [e3]; exact ⟨rfl, N3, K3, E_o_3, F_o_key_3, F_o_base_3⟩) (by decide) (by decide)
def oneKey (n : Nat) (f : Nat → Int32) : Int32 := if (n).toInt32 = (1 : Int32) then ((f 0)) else ((-2 : Int32))
theorem d3_0 : decode prog_13_method_3_code 0 = .ok (.aload_n 0, 1) := by decide +kernel
theorem d3_1 : decode prog_13_method_3_code 1 = .ok (.getfield 9, 3) := by decide +kernel
theorem d3_4 : decode prog_13_method_3_code 4 = .ok (.arraylength, 1) := by decide +kernel
theorem d3_5 : decode prog_13_method_3_code 5 = .ok (.iconst 1, 1) := by decide +kernel
theorem d3_6 : decode prog_13_method_3_code 6 = .ok (.if_icmp .ne 12, 3) := by decide +kernel
theorem d3_9 : decode prog_13_method_3_code 9 = .ok (.aload_n 0, 1) := by decide +kernel
theorem d3_10 : decode prog_13_method_3_code 10 = .ok (.getfield 9, 3) := by decide +kernel
theorem d3_13 : decode prog_13_method_3_code 13 = .ok (.iconst 0, 1) := by decide +kernel
theorem d3_14 : decode prog_13_method_3_code 14 = .ok (.iaload, 1) := by decide +kernel
theorem d3_15 : decode prog_13_method_3_code 15 = .ok (.goto 5, 3) := by decide +kernel
theorem d3_18 : decode prog_13_method_3_code 18 = .ok (.bipush (-2), 2) := by decide +kernel
theorem d3_20 : decode prog_13_method_3_code 20 = .ok (.ireturn, 1) := by decide +kernel
theorem pn3 : plainFor (⟨"com/example/measured_match/measuredmatch/Folding$Keys", "oneKey", "()I"⟩ : MethodName) = true := plainFor_of_name (by first | (simp [plainName, overriddenIn]; done) | decide +kernel)
theorem ef3 (m : MethodId) (o : Addr) (kk : Addr) (n : Nat) (f : Nat → Int32) : entryFrame m #[(.ref o)] 1 = mkF m 0 #[.val (.ref o)] [] := by first | (simp [entryFrame, mkF, argsToLocals, Value.category]; done) | rfl
def Q3 (o : Addr) (kk : Addr) (n : Nat) (f : Nat → Int32) (Z : State) (h0 : Heap) (n0 : Nat) (v : Option Value) (h : Heap) (L : List Loc) : Prop := v = some (.int (oneKey n f)) ∧ Fr n0 L ∧ h = h0
set_option maxRecDepth 65536 in
set_option maxHeartbeats 40000000 in
theorem rm3 (l : Launch) (Z : State) (a0 : Array Value) (hw : ∀ d ∈ tables_1, d.before a0 Z = true) (ws : List Jvm.Cond) (o : Addr) (kk : Addr) (n : Nat) (f : Nat → Int32) (h0 : Heap) (n0 : Nat) (Z0 : n0 ≤ h0.size) (F_o_key_0 : Fld Z h0 o "com/example/measured_match/measuredmatch/Folding$Keys" "key" "[I" (.ref kk)) (A_kk_0 : AI Z h0 kk .int n f) (hn : 0 < n) : Ctr l (⟨"com/example/measured_match/measuredmatch/Folding$Keys", "oneKey", "()I"⟩ : MethodName) prog_13_method_3_code 1 (some .int) ws ({ frames := 0, cells := 0, slots := 0, locals := 0 } : Room) #[(.ref o)] Z h0 (Q3 o kk n f Z h0 n0) := by
  refine own_body pn3 ?_
  intro p e s m below meth c T0 hx hby hml hown hnm hret hlk hZ X0 e0
  have N0 := Fr.nil n0
  refine Goes.entry (ef3 m o kk n f) ?_
  refine g_aloadN X0 hx hby d3_0 rfl rfl 1 rfl ?_
  refine g_getfield X0 hx hby hZ hown (host := "") (Or.inl (hw _ (List.mem_of_getElem? (i := 10) rfl))) Via.refl e0 F_o_key_0 d3_1 4 rfl ?_
  intro T1 X1 e1
  refine g_arraylength X1 hx hby hZ e1 A_kk_0 d3_4 (n).toInt32 rfl 5 rfl ?_
  refine g_iconst X1 hx hby d3_5 (1 : Int32) rfl 6 rfl ?_
  refine g_icmp_ne X1 hx hby d3_6 18 9 (by decide) (by decide) rfl (fun c2 => ?_) (fun c2 => ?_)
  · -- c2
    refine g_aloadN X1 hx hby d3_9 rfl rfl 10 rfl ?_
    refine g_getfield X1 hx hby hZ hown (host := "") (Or.inl (hw _ (List.mem_of_getElem? (i := 10) rfl))) Via.refl e1 F_o_key_0 d3_10 13 rfl ?_
    intro T3 X3 e3
    refine g_iconst X3 hx hby d3_13 (0 : Int32) rfl 14 rfl ?_
    refine g_iaload X3 hx hby hZ e3 A_kk_0 d3_14 (by decide) 0 rfl hn (f 0) rfl 15 rfl ?_
    refine g_goto X3 hx hby d3_15 20 (by decide) (by decide) ?_
    exact g_ireturn X3 hx hby hret hlk (Or.inl rfl) rfl d3_20 (by exact ⟨congrArg (fun z => some (Value.int z)) (if_pos c2).symm, N0, e3⟩) (by decide) (by decide)
  · -- not c2
    refine g_bipush X1 hx hby d3_18 (-2 : Int32) rfl 20 rfl ?_
    exact g_ireturn X1 hx hby hret hlk (Or.inl rfl) rfl d3_20 (by exact ⟨congrArg (fun z => some (Value.int z)) (if_neg c2).symm, N0, e1⟩) (by decide) (by decide)
def baseF (bs : Int32) : Int32 := bs
theorem d4_0 : decode prog_13_method_4_code 0 = .ok (.aload_n 0, 1) := by decide +kernel
theorem d4_1 : decode prog_13_method_4_code 1 = .ok (.getfield 15, 3) := by decide +kernel
theorem d4_4 : decode prog_13_method_4_code 4 = .ok (.ireturn, 1) := by decide +kernel
theorem pn4 : plainFor (⟨"com/example/measured_match/measuredmatch/Folding$Keys", "base", "()I"⟩ : MethodName) = true := plainFor_of_name (by first | (simp [plainName, overriddenIn]; done) | decide +kernel)
theorem ef4 (m : MethodId) (o : Addr) (bs : Int32) : entryFrame m #[(.ref o)] 1 = mkF m 0 #[.val (.ref o)] [] := by first | (simp [entryFrame, mkF, argsToLocals, Value.category]; done) | rfl
def Q4 (o : Addr) (bs : Int32) (Z : State) (h0 : Heap) (n0 : Nat) (v : Option Value) (h : Heap) (L : List Loc) : Prop := v = some (.int (baseF bs)) ∧ Fr n0 L ∧ h = h0
set_option maxRecDepth 65536 in
set_option maxHeartbeats 40000000 in
theorem rm4 (l : Launch) (Z : State) (a0 : Array Value) (hw : ∀ d ∈ tables_1, d.before a0 Z = true) (ws : List Jvm.Cond) (o : Addr) (bs : Int32) (h0 : Heap) (n0 : Nat) (Z0 : n0 ≤ h0.size) (F_o_base_0 : Fld Z h0 o "com/example/measured_match/measuredmatch/Folding$Keys" "base" "I" (.int bs)) : Ctr l (⟨"com/example/measured_match/measuredmatch/Folding$Keys", "base", "()I"⟩ : MethodName) prog_13_method_4_code 1 (some .int) ws ({ frames := 0, cells := 0, slots := 0, locals := 0 } : Room) #[(.ref o)] Z h0 (Q4 o bs Z h0 n0) := by
  refine own_body pn4 ?_
  intro p e s m below meth c T0 hx hby hml hown hnm hret hlk hZ X0 e0
  have N0 := Fr.nil n0
  refine Goes.entry (ef4 m o bs) ?_
  refine g_aloadN X0 hx hby d4_0 rfl rfl 1 rfl ?_
  refine g_getfield X0 hx hby hZ hown (host := "") (Or.inl (hw _ (List.mem_of_getElem? (i := 12) rfl))) Via.refl e0 F_o_base_0 d4_1 4 rfl ?_
  intro T1 X1 e1
  exact g_ireturn X1 hx hby hret hlk (Or.inl rfl) rfl d4_4 (by exact ⟨congrArg (fun z => some (Value.int z)) rfl, N0, e1⟩) (by decide) (by decide)
theorem own_four {sel nn : Int32} (h : (1 : Int32) + (sel &&& (3 : Int32)) = nn) : nn = 1 ∨ nn = 2 ∨ nn = 3 ∨ nn = 4 := by
  have h1 := c_mask sel 3 2 (by decide) (by decide)
  have h2 := c_iadd 1 (sel &&& (3 : Int32))
  have h3 := rng32 nn
  rw [h] at h2
  have e1 : (1 : Int32).toInt = 1 := rfl
  have e2 : (2 : Int32).toInt = 2 := rfl
  have e3 : (3 : Int32).toInt = 3 := rfl
  have e4 : (4 : Int32).toInt = 4 := rfl
  simp only [← Int32.toInt_inj, e1, e2, e3, e4]
  have : ((2 ^ 2 : Nat) : Int) = 4 := by decide
  rw [this] at h1
  omega

theorem pd0 : parseMethodDescriptor "([II)V" = some ⟨[(.array .int), .int], none⟩ := by decide +kernel
theorem pd1 : parseMethodDescriptor "()I" = some ⟨[], some .int⟩ := by decide +kernel
theorem pn0 : plainFor (⟨"com/example/measured_match/measuredmatch/KeysOneKeyPinLaw", "law", "(IIIII)Z"⟩ : MethodName) = true := plainFor_of_name (by first | (simp [plainName, overriddenIn]; done) | decide +kernel)
theorem ef0 (m : MethodId) (sel : Int32) (ka : Int32) (kb : Int32) (kc : Int32) (base : Int32) : entryFrame m #[(.int sel), (.int ka), (.int kb), (.int kc), (.int base)] maxLocals = mkF m 0 #[.val (.int sel), .val (.int ka), .val (.int kb), .val (.int kc), .val (.int base), .unset, .unset, .unset, .unset, .unset, .unset, .unset, .unset, .unset] [] := by first | (simp [entryFrame, mkF, argsToLocals, Value.category, maxLocals]; done) | rfl
def Q0 (sel : Int32) (ka : Int32) (kb : Int32) (kc : Int32) (base : Int32) (Z : State) (h0 : Heap) (n0 : Nat) (v : Option Value) (h : Heap) (L : List Loc) : Prop := v = some (.int 1) ∧ Fr n0 L
set_option maxRecDepth 65536 in
set_option maxHeartbeats 40000000 in
theorem rm0 (l : Launch) (Z : State) (a0 : Array Value) (hw : ∀ d ∈ tables_1, d.before a0 Z = true) (ws : List Jvm.Cond) (sel : Int32) (ka : Int32) (kb : Int32) (kc : Int32) (base : Int32) (h0 : Heap) (n0 : Nat) (Z0 : n0 ≤ h0.size) : Ctr l x code maxLocals ret ws room_1 #[(.int sel), (.int ka), (.int kb), (.int kc), (.int base)] Z h0 (Q0 sel ka kb kc base Z h0 n0) := by
  refine own_body pn0 ?_
  intro p e s m below meth c T0 hx hby hml hown hnm hret hlk hZ X0 e0
  have N0 := Fr.nil n0
  refine Goes.entry (ef0 m sel ka kb kc base) ?_
  refine g_iconst X0 hx hby at_0 (1 : Int32) rfl 1 rfl ?_
  refine g_iloadN X0 hx hby at_1 rfl 2 rfl ?_
  refine g_iconst X0 hx hby at_2 (3 : Int32) rfl 3 rfl ?_
  refine g_iand X0 hx hby at_3 4 rfl ?_
  refine g_iadd X0 hx hby at_4 5 rfl ?_
  obtain ⟨nn, hnn⟩ : ∃ z : Int32, ((1 : Int32) + (sel &&& (3 : Int32))) = z := ⟨_, rfl⟩
  refine g_istore X0 hx hby at_5 nn hnn #[.val (.int sel), .val (.int ka), .val (.int kb), .val (.int kc), .val (.int base), .val (.int nn), .unset, .unset, .unset, .unset, .unset, .unset, .unset, .unset] rfl 7 rfl ?_
  refine g_iconst X0 hx hby at_7 (1 : Int32) rfl 8 rfl ?_
  refine g_newarray X0 hx hby hZ (hw _ (List.mem_of_getElem? (i := 0) rfl)) e0 at_8 (by decide) 1 rfl 1 (by decide) (by decide) (by decide) (by decide) 10 rfl ?_
  intro T1 h1 b1 g1 X1 e1 E1 A1
  have gn_b1 : n0 ≤ b1 := Nat.le_trans Z0 (Nat.le_of_eq g1.symm)
  have Z1 : n0 ≤ h1.size := Nat.le_trans Z0 E1.1
  have Vb1 : AI Z h1 b1 .int 1 (fun _ => (0 : Int32)) := A1
  refine g_dup X1 hx hby at_10 rfl 11 rfl ?_
  refine g_iconst X1 hx hby at_11 (0 : Int32) rfl 12 rfl ?_
  refine g_iloadN X1 hx hby at_12 rfl 13 rfl ?_
  refine g_iastore X1 hx hby hZ e1 Vb1 at_13 (by decide) 0 rfl (by decide) 14 rfl ?_
  intro T2 h2 X2 e2 W2 V2
  have N2 := Fr.snoc X2 N0 gn_b1
  have Z2 : n0 ≤ h2.size := Nat.le_trans Z1 (Keep.of_wr W2).1
  refine g_astore X2 hx hby at_14 rfl #[.val (.int sel), .val (.int ka), .val (.int kb), .val (.int kc), .val (.int base), .val (.int nn), .val (.ref b1), .unset, .unset, .unset, .unset, .unset, .unset, .unset] rfl 16 rfl ?_
  refine g_iconst X2 hx hby at_16 (2 : Int32) rfl 17 rfl ?_
  refine g_newarray X2 hx hby hZ (hw _ (List.mem_of_getElem? (i := 0) rfl)) e2 at_17 (by decide) 2 rfl 2 (by decide) (by decide) (by decide) (by decide) 19 rfl ?_
  intro T3 h3 b3 g3 X3 e3 E3 A3
  have gn_b3 : n0 ≤ b3 := Nat.le_trans Z2 (Nat.le_of_eq g3.symm)
  have Z3 : n0 ≤ h3.size := Nat.le_trans Z2 E3.1
  have ne_b1_b3 : b1 ≠ b3 := Nat.ne_of_lt (Nat.lt_of_lt_of_le (V2.lt) (Nat.le_of_eq g3.symm))
  have V2_3 := ArF.ext V2 E3
  have Vb3 : AI Z h3 b3 .int 2 (fun _ => (0 : Int32)) := A3
  refine g_dup X3 hx hby at_19 rfl 20 rfl ?_
  refine g_iconst X3 hx hby at_20 (0 : Int32) rfl 21 rfl ?_
  refine g_iloadN X3 hx hby at_21 rfl 22 rfl ?_
  refine g_iastore X3 hx hby hZ e3 Vb3 at_22 (by decide) 0 rfl (by decide) 23 rfl ?_
  intro T4 h4 X4 e4 W4 V4
  have N4 := Fr.snoc X4 N2 gn_b3
  have Z4 : n0 ≤ h4.size := Nat.le_trans Z3 (Keep.of_wr W4).1
  have V2_4 := ArF.other V2_3 W4 ne_b1_b3
  refine g_dup X4 hx hby at_23 rfl 24 rfl ?_
  refine g_iconst X4 hx hby at_24 (1 : Int32) rfl 25 rfl ?_
  refine g_iloadN X4 hx hby at_25 rfl 26 rfl ?_
  refine g_iastore X4 hx hby hZ e4 V4 at_26 (by decide) 1 rfl (by decide) 27 rfl ?_
  intro T5 h5 X5 e5 W5 V5
  have N5 := Fr.snoc X5 N4 gn_b3
  have Z5 : n0 ≤ h5.size := Nat.le_trans Z4 (Keep.of_wr W5).1
  have V2_5 := ArF.other V2_4 W5 ne_b1_b3
  refine g_astore X5 hx hby at_27 rfl #[.val (.int sel), .val (.int ka), .val (.int kb), .val (.int kc), .val (.int base), .val (.int nn), .val (.ref b1), .val (.ref b3), .unset, .unset, .unset, .unset, .unset, .unset] rfl 29 rfl ?_
  refine g_iconst X5 hx hby at_29 (3 : Int32) rfl 30 rfl ?_
  refine g_newarray X5 hx hby hZ (hw _ (List.mem_of_getElem? (i := 0) rfl)) e5 at_30 (by decide) 3 rfl 3 (by decide) (by decide) (by decide) (by decide) 32 rfl ?_
  intro T6 h6 b6 g6 X6 e6 E6 A6
  have gn_b6 : n0 ≤ b6 := Nat.le_trans Z5 (Nat.le_of_eq g6.symm)
  have Z6 : n0 ≤ h6.size := Nat.le_trans Z5 E6.1
  have ne_b1_b6 : b1 ≠ b6 := Nat.ne_of_lt (Nat.lt_of_lt_of_le (V2_5.lt) (Nat.le_of_eq g6.symm))
  have ne_b3_b6 : b3 ≠ b6 := Nat.ne_of_lt (Nat.lt_of_lt_of_le (V5.lt) (Nat.le_of_eq g6.symm))
  have V2_6 := ArF.ext V2_5 E6
  have V5_6 := ArF.ext V5 E6
  have Vb6 : AI Z h6 b6 .int 3 (fun _ => (0 : Int32)) := A6
  refine g_dup X6 hx hby at_32 rfl 33 rfl ?_
  refine g_iconst X6 hx hby at_33 (0 : Int32) rfl 34 rfl ?_
  refine g_iloadN X6 hx hby at_34 rfl 35 rfl ?_
  refine g_iastore X6 hx hby hZ e6 Vb6 at_35 (by decide) 0 rfl (by decide) 36 rfl ?_
  intro T7 h7 X7 e7 W7 V7
  have N7 := Fr.snoc X7 N5 gn_b6
  have Z7 : n0 ≤ h7.size := Nat.le_trans Z6 (Keep.of_wr W7).1
  have V2_7 := ArF.other V2_6 W7 ne_b1_b6
  have V5_7 := ArF.other V5_6 W7 ne_b3_b6
  refine g_dup X7 hx hby at_36 rfl 37 rfl ?_
  refine g_iconst X7 hx hby at_37 (1 : Int32) rfl 38 rfl ?_
  refine g_iloadN X7 hx hby at_38 rfl 39 rfl ?_
  refine g_iastore X7 hx hby hZ e7 V7 at_39 (by decide) 1 rfl (by decide) 40 rfl ?_
  intro T8 h8 X8 e8 W8 V8
  have N8 := Fr.snoc X8 N7 gn_b6
  have Z8 : n0 ≤ h8.size := Nat.le_trans Z7 (Keep.of_wr W8).1
  have V2_8 := ArF.other V2_7 W8 ne_b1_b6
  have V5_8 := ArF.other V5_7 W8 ne_b3_b6
  refine g_dup X8 hx hby at_40 rfl 41 rfl ?_
  refine g_iconst X8 hx hby at_41 (2 : Int32) rfl 42 rfl ?_
  refine g_iloadN X8 hx hby at_42 rfl 43 rfl ?_
  refine g_iastore X8 hx hby hZ e8 V8 at_43 (by decide) 2 rfl (by decide) 44 rfl ?_
  intro T9 h9 X9 e9 W9 V9
  have N9 := Fr.snoc X9 N8 gn_b6
  have Z9 : n0 ≤ h9.size := Nat.le_trans Z8 (Keep.of_wr W9).1
  have V2_9 := ArF.other V2_8 W9 ne_b1_b6
  have V5_9 := ArF.other V5_8 W9 ne_b3_b6
  refine g_astore X9 hx hby at_44 rfl #[.val (.int sel), .val (.int ka), .val (.int kb), .val (.int kc), .val (.int base), .val (.int nn), .val (.ref b1), .val (.ref b3), .val (.ref b6), .unset, .unset, .unset, .unset, .unset] rfl 46 rfl ?_
  refine g_iconst X9 hx hby at_46 (4 : Int32) rfl 47 rfl ?_
  refine g_newarray X9 hx hby hZ (hw _ (List.mem_of_getElem? (i := 0) rfl)) e9 at_47 (by decide) 4 rfl 4 (by decide) (by decide) (by decide) (by decide) 49 rfl ?_
  intro T10 h10 b10 g10 X10 e10 E10 A10
  have gn_b10 : n0 ≤ b10 := Nat.le_trans Z9 (Nat.le_of_eq g10.symm)
  have Z10 : n0 ≤ h10.size := Nat.le_trans Z9 E10.1
  have ne_b1_b10 : b1 ≠ b10 := Nat.ne_of_lt (Nat.lt_of_lt_of_le (V2_9.lt) (Nat.le_of_eq g10.symm))
  have ne_b3_b10 : b3 ≠ b10 := Nat.ne_of_lt (Nat.lt_of_lt_of_le (V5_9.lt) (Nat.le_of_eq g10.symm))
  have ne_b6_b10 : b6 ≠ b10 := Nat.ne_of_lt (Nat.lt_of_lt_of_le (V9.lt) (Nat.le_of_eq g10.symm))
  have V2_10 := ArF.ext V2_9 E10
  have V5_10 := ArF.ext V5_9 E10
  have V9_10 := ArF.ext V9 E10
  have Vb10 : AI Z h10 b10 .int 4 (fun _ => (0 : Int32)) := A10
  refine g_dup X10 hx hby at_49 rfl 50 rfl ?_
  refine g_iconst X10 hx hby at_50 (0 : Int32) rfl 51 rfl ?_
  refine g_iloadN X10 hx hby at_51 rfl 52 rfl ?_
  refine g_iastore X10 hx hby hZ e10 Vb10 at_52 (by decide) 0 rfl (by decide) 53 rfl ?_
  intro T11 h11 X11 e11 W11 V11
  have N11 := Fr.snoc X11 N9 gn_b10
  have Z11 : n0 ≤ h11.size := Nat.le_trans Z10 (Keep.of_wr W11).1
  have V2_11 := ArF.other V2_10 W11 ne_b1_b10
  have V5_11 := ArF.other V5_10 W11 ne_b3_b10
  have V9_11 := ArF.other V9_10 W11 ne_b6_b10
  refine g_dup X11 hx hby at_53 rfl 54 rfl ?_
  refine g_iconst X11 hx hby at_54 (1 : Int32) rfl 55 rfl ?_
  refine g_iloadN X11 hx hby at_55 rfl 56 rfl ?_
  refine g_iastore X11 hx hby hZ e11 V11 at_56 (by decide) 1 rfl (by decide) 57 rfl ?_
  intro T12 h12 X12 e12 W12 V12
  have N12 := Fr.snoc X12 N11 gn_b10
  have Z12 : n0 ≤ h12.size := Nat.le_trans Z11 (Keep.of_wr W12).1
  have V2_12 := ArF.other V2_11 W12 ne_b1_b10
  have V5_12 := ArF.other V5_11 W12 ne_b3_b10
  have V9_12 := ArF.other V9_11 W12 ne_b6_b10
  refine g_dup X12 hx hby at_57 rfl 58 rfl ?_
  refine g_iconst X12 hx hby at_58 (2 : Int32) rfl 59 rfl ?_
  refine g_iloadN X12 hx hby at_59 rfl 60 rfl ?_
  refine g_iastore X12 hx hby hZ e12 V12 at_60 (by decide) 2 rfl (by decide) 61 rfl ?_
  intro T13 h13 X13 e13 W13 V13
  have N13 := Fr.snoc X13 N12 gn_b10
  have Z13 : n0 ≤ h13.size := Nat.le_trans Z12 (Keep.of_wr W13).1
  have V2_13 := ArF.other V2_12 W13 ne_b1_b10
  have V5_13 := ArF.other V5_12 W13 ne_b3_b10
  have V9_13 := ArF.other V9_12 W13 ne_b6_b10
  refine g_dup X13 hx hby at_61 rfl 62 rfl ?_
  refine g_iconst X13 hx hby at_62 (3 : Int32) rfl 63 rfl ?_
  refine g_iloadN X13 hx hby at_63 rfl 64 rfl ?_
  refine g_iastore X13 hx hby hZ e13 V13 at_64 (by decide) 3 rfl (by decide) 65 rfl ?_
  intro T14 h14 X14 e14 W14 V14
  have N14 := Fr.snoc X14 N13 gn_b10
  have Z14 : n0 ≤ h14.size := Nat.le_trans Z13 (Keep.of_wr W14).1
  have V2_14 := ArF.other V2_13 W14 ne_b1_b10
  have V5_14 := ArF.other V5_13 W14 ne_b3_b10
  have V9_14 := ArF.other V9_13 W14 ne_b6_b10
  refine g_astore X14 hx hby at_65 rfl #[.val (.int sel), .val (.int ka), .val (.int kb), .val (.int kc), .val (.int base), .val (.int nn), .val (.ref b1), .val (.ref b3), .val (.ref b6), .val (.ref b10), .unset, .unset, .unset, .unset] rfl 67 rfl ?_
  rcases own_four hnn with rfl | rfl | rfl | rfl
  ·
    refine g_iload X14 hx hby at_67 rfl 69 rfl ?_
    refine g_iconst X14 hx hby at_69 (1 : Int32) rfl 70 rfl ?_
    refine g_icmp_ne X14 hx hby at_70 78 73 (by decide) (by decide) rfl (fun _ => ?_) (fun q => absurd (by decide) q)
    refine g_aload X14 hx hby at_73 rfl rfl 75 rfl ?_
    refine g_goto X14 hx hby at_75 102 (by decide) (by decide) ?_
    refine g_astore X14 hx hby at_102 rfl #[.val (.int sel), .val (.int ka), .val (.int kb), .val (.int kc), .val (.int base), .val (.int (1 : Int32)), .val (.ref b1), .val (.ref b3), .val (.ref b6), .val (.ref b10), .val (.ref b1), .unset, .unset, .unset] rfl 104 rfl ?_
    refine g_new X14 hx hby hZ hown (hw _ (List.mem_of_getElem? (i := 1) rfl)) (hw _ (List.mem_of_getElem? (i := 2) rfl)) (hw _ (List.mem_of_getElem? (i := 3) rfl)) e14 at_104 (by decide) (by decide) 107 rfl ?_
    intro T15 h15 b15 g15 X15 e15 E15 A15 D15
    have gn_b15 : n0 ≤ b15 := Nat.le_trans Z14 (Nat.le_of_eq g15.symm)
    have Z15 : n0 ≤ h15.size := Nat.le_trans Z14 E15.1
    have ne_b1_b15 : b1 ≠ b15 := Nat.ne_of_lt (Nat.lt_of_lt_of_le (V2_14.lt) (Nat.le_of_eq g15.symm))
    have ne_b3_b15 : b3 ≠ b15 := Nat.ne_of_lt (Nat.lt_of_lt_of_le (V5_14.lt) (Nat.le_of_eq g15.symm))
    have ne_b6_b15 : b6 ≠ b15 := Nat.ne_of_lt (Nat.lt_of_lt_of_le (V9_14.lt) (Nat.le_of_eq g15.symm))
    have ne_b10_b15 : b10 ≠ b15 := Nat.ne_of_lt (Nat.lt_of_lt_of_le (V14.lt) (Nat.le_of_eq g15.symm))
    have V2_15 := ArF.ext V2_14 E15
    have V5_15 := ArF.ext V5_14 E15
    have V9_15 := ArF.ext V9_14 E15
    have V14_15 := ArF.ext V14 E15
    have Fb15_key_0 : Fld Z h15 b15 "com/example/measured_match/measuredmatch/Folding$Keys" "key" "[I" .null := D15 (Or.inr (hw _ (List.mem_of_getElem? (i := 11) rfl))) (ty := (.array .int)) (by decide)
    have Fb15_base_0 : Fld Z h15 b15 "com/example/measured_match/measuredmatch/Folding$Keys" "base" "I" (.int (0 : Int32)) := D15 (Or.inr (hw _ (List.mem_of_getElem? (i := 13) rfl))) (ty := .int) (by decide)
    refine g_dup X15 hx hby at_107 rfl 108 rfl ?_
    refine g_aload X15 hx hby at_108 rfl rfl 110 rfl ?_
    refine g_iload X15 hx hby at_110 rfl 112 rfl ?_
    refine g_special X15 hx hby hZ hown rfl (hw _ (List.mem_of_getElem? (i := 4) rfl)) (hw _ (List.mem_of_getElem? (i := 5) rfl)) (hw _ (List.mem_of_getElem? (i := 3) rfl)) (hw _ (List.mem_of_getElem? (i := 6) rfl)) at_112 b15 [(.ref b1), (.int base)] [(.ref b15)] (rm1 l Z a0 hw [] b15 b1 base h15 n0 Z15 A15 Fb15_key_0 Fb15_base_0 gn_b15) e15 rfl (by rw [hml]; rfl) pd0 rfl (by decide) 1 (Nat.le_of_eq rfl) (by decide) (by decide) (by decide) (by decide) 115 rfl ?_
    intro T16 v16 L16 X16 Q16
    obtain ⟨rfl, N16', K16', P16_0, P16_1, P16_2⟩ := Q16
    have N16 := Fr.app N14 N16'
    have Z16 : n0 ≤ T16.heap.size := Nat.le_trans Z15 K16'.1
    have V2_16 := ArF.keep V2_15 K16' (ninS ne_b1_b15 nin0)
    have V5_16 := ArF.keep V5_15 K16' (ninS ne_b3_b15 nin0)
    have V9_16 := ArF.keep V9_15 K16' (ninS ne_b6_b15 nin0)
    have V14_16 := ArF.keep V14_15 K16' (ninS ne_b10_b15 nin0)
    have A15_16 := A15.keep K16'
    show Goes p e below _ (T16.setTop (mkF m 115 _ [(.ref b15)]))
    refine g_astore X16 hx hby at_115 rfl #[.val (.int sel), .val (.int ka), .val (.int kb), .val (.int kc), .val (.int base), .val (.int (1 : Int32)), .val (.ref b1), .val (.ref b3), .val (.ref b6), .val (.ref b10), .val (.ref b1), .val (.ref b15), .unset, .unset] rfl 117 rfl ?_
    refine g_aload X16 hx hby at_117 rfl rfl 119 rfl ?_
    refine g_virtual X16 hx hby hZ hown (hw _ (List.mem_of_getElem? (i := 14) rfl)) (hw _ (List.mem_of_getElem? (i := 15) rfl)) (notFace_of_selects (args := #[]) (mvT hZ (hw _ (List.mem_of_getElem? (i := 17) rfl)))) (hw _ (List.mem_of_getElem? (i := 17) rfl)) (hw _ (List.mem_of_getElem? (i := 16) rfl)) (hw _ (List.mem_of_getElem? (i := 3) rfl)) (hw _ (List.mem_of_getElem? (i := 18) rfl)) at_119 b15 P16_0 [] [] (rm3 l Z a0 hw [] b15 b1 1 (upd (fun _ => (0 : Int32)) 0 ka) T16.heap n0 Z16 P16_1 V2_16 (by decide)) rfl rfl (by rw [hml]; rfl) pd1 rfl (by decide) 0 (Nat.le_of_eq rfl) (by decide) (by decide) (by decide) (by decide) 122 rfl ?_
    intro T17 v17 L17 X17 Q17
    obtain ⟨rfl, N17', e17⟩ := Q17
    have N17 := Fr.app N16 N17'
    show Goes p e below _ (T17.setTop (mkF m 122 _ [(.int (oneKey 1 (upd (fun _ => (0 : Int32)) 0 ka)))]))
    refine g_istore X17 hx hby at_122 (oneKey 1 (upd (fun _ => (0 : Int32)) 0 ka)) rfl #[.val (.int sel), .val (.int ka), .val (.int kb), .val (.int kc), .val (.int base), .val (.int (1 : Int32)), .val (.ref b1), .val (.ref b3), .val (.ref b6), .val (.ref b10), .val (.ref b1), .val (.ref b15), .val (.int (oneKey 1 (upd (fun _ => (0 : Int32)) 0 ka))), .unset] rfl 124 rfl ?_
    refine g_iload X17 hx hby at_124 rfl 126 rfl ?_
    refine g_iconst X17 hx hby at_126 (1 : Int32) rfl 127 rfl ?_
    refine g_icmp_ne X17 hx hby at_127 134 130 (by decide) (by decide) rfl (fun _ => ?_) (fun q => absurd (by decide) q)
    refine g_iloadN X17 hx hby at_130 rfl 131 rfl ?_
    refine g_goto X17 hx hby at_131 136 (by decide) (by decide) ?_
    refine g_istore X17 hx hby at_136 ka rfl #[.val (.int sel), .val (.int ka), .val (.int kb), .val (.int kc), .val (.int base), .val (.int (1 : Int32)), .val (.ref b1), .val (.ref b3), .val (.ref b6), .val (.ref b10), .val (.ref b1), .val (.ref b15), .val (.int (oneKey 1 (upd (fun _ => (0 : Int32)) 0 ka))), .val (.int ka)] rfl 138 rfl ?_
    refine g_iload X17 hx hby at_138 rfl 140 rfl ?_
    refine g_iload X17 hx hby at_140 rfl 142 rfl ?_
    refine g_icmp_ne X17 hx hby at_142 175 145 (by decide) (by decide) rfl (fun _ => ?_) (fun q => absurd rfl q)
    refine g_aload X17 hx hby at_145 rfl rfl 147 rfl ?_
    refine g_arraylength X17 hx hby hZ e17 V2_16 at_147 (1 : Int32) rfl 148 rfl ?_
    refine g_iload X17 hx hby at_148 rfl 150 rfl ?_
    refine g_icmp_ne X17 hx hby at_150 175 153 (by decide) (by decide) rfl (fun _ => ?_) (fun q => absurd rfl q)
    refine g_aload X17 hx hby at_153 rfl rfl 155 rfl ?_
    refine g_iconst X17 hx hby at_155 (0 : Int32) rfl 156 rfl ?_
    refine g_iaload X17 hx hby hZ e17 V2_16 at_156 (by decide) 0 rfl (by decide) ka rfl 157 rfl ?_
    refine g_iloadN X17 hx hby at_157 rfl 158 rfl ?_
    refine g_icmp_ne X17 hx hby at_158 175 161 (by decide) (by decide) rfl (fun _ => ?_) (fun q => absurd rfl q)
    refine g_aload X17 hx hby at_161 rfl rfl 163 rfl ?_
    refine g_virtual X17 hx hby hZ hown (hw _ (List.mem_of_getElem? (i := 19) rfl)) (hw _ (List.mem_of_getElem? (i := 20) rfl)) (notFace_of_selects (args := #[]) (mvT hZ (hw _ (List.mem_of_getElem? (i := 22) rfl)))) (hw _ (List.mem_of_getElem? (i := 22) rfl)) (hw _ (List.mem_of_getElem? (i := 21) rfl)) (hw _ (List.mem_of_getElem? (i := 3) rfl)) (hw _ (List.mem_of_getElem? (i := 23) rfl)) at_163 b15 P16_0 [] [] (rm4 l Z a0 hw [] b15 base T16.heap n0 Z16 P16_2) e17 rfl (by rw [hml]; rfl) pd1 rfl (by decide) 0 (Nat.le_of_eq rfl) (by decide) (by decide) (by decide) (by decide) 166 rfl ?_
    intro T18 v18 L18 X18 Q18
    obtain ⟨rfl, N18', e18⟩ := Q18
    have N18 := Fr.app N17 N18'
    show Goes p e below _ (T18.setTop (mkF m 166 _ [(.int (baseF base))]))
    refine g_iload X18 hx hby at_166 rfl 168 rfl ?_
    refine g_icmp_ne X18 hx hby at_168 175 171 (by decide) (by decide) rfl (fun _ => ?_) (fun q => absurd rfl q)
    refine g_iconst X18 hx hby at_171 (1 : Int32) rfl 172 rfl ?_
    refine g_goto X18 hx hby at_172 176 (by decide) (by decide) ?_
    exact g_ireturn X18 hx hby hret hlk (Or.inr (Or.inl rfl)) (nar_bool (Or.inr rfl)) at_176 ⟨rfl, N18⟩ (by decide) (by decide)
  ·
    refine g_iload X14 hx hby at_67 rfl 69 rfl ?_
    refine g_iconst X14 hx hby at_69 (1 : Int32) rfl 70 rfl ?_
    refine g_icmp_ne X14 hx hby at_70 78 73 (by decide) (by decide) rfl (fun q => absurd q (by decide)) (fun _ => ?_)
    refine g_iload X14 hx hby at_78 rfl 80 rfl ?_
    refine g_iconst X14 hx hby at_80 (2 : Int32) rfl 81 rfl ?_
    refine g_icmp_ne X14 hx hby at_81 89 84 (by decide) (by decide) rfl (fun _ => ?_) (fun q => absurd (by decide) q)
    refine g_aload X14 hx hby at_84 rfl rfl 86 rfl ?_
    refine g_goto X14 hx hby at_86 102 (by decide) (by decide) ?_
    refine g_astore X14 hx hby at_102 rfl #[.val (.int sel), .val (.int ka), .val (.int kb), .val (.int kc), .val (.int base), .val (.int (2 : Int32)), .val (.ref b1), .val (.ref b3), .val (.ref b6), .val (.ref b10), .val (.ref b3), .unset, .unset, .unset] rfl 104 rfl ?_
    refine g_new X14 hx hby hZ hown (hw _ (List.mem_of_getElem? (i := 1) rfl)) (hw _ (List.mem_of_getElem? (i := 2) rfl)) (hw _ (List.mem_of_getElem? (i := 3) rfl)) e14 at_104 (by decide) (by decide) 107 rfl ?_
    intro T19 h19 b19 g19 X19 e19 E19 A19 D19
    have gn_b19 : n0 ≤ b19 := Nat.le_trans Z14 (Nat.le_of_eq g19.symm)
    have Z19 : n0 ≤ h19.size := Nat.le_trans Z14 E19.1
    have ne_b1_b19 : b1 ≠ b19 := Nat.ne_of_lt (Nat.lt_of_lt_of_le (V2_14.lt) (Nat.le_of_eq g19.symm))
    have ne_b3_b19 : b3 ≠ b19 := Nat.ne_of_lt (Nat.lt_of_lt_of_le (V5_14.lt) (Nat.le_of_eq g19.symm))
    have ne_b6_b19 : b6 ≠ b19 := Nat.ne_of_lt (Nat.lt_of_lt_of_le (V9_14.lt) (Nat.le_of_eq g19.symm))
    have ne_b10_b19 : b10 ≠ b19 := Nat.ne_of_lt (Nat.lt_of_lt_of_le (V14.lt) (Nat.le_of_eq g19.symm))
    have V2_19 := ArF.ext V2_14 E19
    have V5_19 := ArF.ext V5_14 E19
    have V9_19 := ArF.ext V9_14 E19
    have V14_19 := ArF.ext V14 E19
    have Fb19_key_0 : Fld Z h19 b19 "com/example/measured_match/measuredmatch/Folding$Keys" "key" "[I" .null := D19 (Or.inr (hw _ (List.mem_of_getElem? (i := 11) rfl))) (ty := (.array .int)) (by decide)
    have Fb19_base_0 : Fld Z h19 b19 "com/example/measured_match/measuredmatch/Folding$Keys" "base" "I" (.int (0 : Int32)) := D19 (Or.inr (hw _ (List.mem_of_getElem? (i := 13) rfl))) (ty := .int) (by decide)
    refine g_dup X19 hx hby at_107 rfl 108 rfl ?_
    refine g_aload X19 hx hby at_108 rfl rfl 110 rfl ?_
    refine g_iload X19 hx hby at_110 rfl 112 rfl ?_
    refine g_special X19 hx hby hZ hown rfl (hw _ (List.mem_of_getElem? (i := 4) rfl)) (hw _ (List.mem_of_getElem? (i := 5) rfl)) (hw _ (List.mem_of_getElem? (i := 3) rfl)) (hw _ (List.mem_of_getElem? (i := 6) rfl)) at_112 b19 [(.ref b3), (.int base)] [(.ref b19)] (rm1 l Z a0 hw [] b19 b3 base h19 n0 Z19 A19 Fb19_key_0 Fb19_base_0 gn_b19) e19 rfl (by rw [hml]; rfl) pd0 rfl (by decide) 1 (Nat.le_of_eq rfl) (by decide) (by decide) (by decide) (by decide) 115 rfl ?_
    intro T20 v20 L20 X20 Q20
    obtain ⟨rfl, N20', K20', P20_0, P20_1, P20_2⟩ := Q20
    have N20 := Fr.app N14 N20'
    have Z20 : n0 ≤ T20.heap.size := Nat.le_trans Z19 K20'.1
    have V2_20 := ArF.keep V2_19 K20' (ninS ne_b1_b19 nin0)
    have V5_20 := ArF.keep V5_19 K20' (ninS ne_b3_b19 nin0)
    have V9_20 := ArF.keep V9_19 K20' (ninS ne_b6_b19 nin0)
    have V14_20 := ArF.keep V14_19 K20' (ninS ne_b10_b19 nin0)
    have A19_20 := A19.keep K20'
    show Goes p e below _ (T20.setTop (mkF m 115 _ [(.ref b19)]))
    refine g_astore X20 hx hby at_115 rfl #[.val (.int sel), .val (.int ka), .val (.int kb), .val (.int kc), .val (.int base), .val (.int (2 : Int32)), .val (.ref b1), .val (.ref b3), .val (.ref b6), .val (.ref b10), .val (.ref b3), .val (.ref b19), .unset, .unset] rfl 117 rfl ?_
    refine g_aload X20 hx hby at_117 rfl rfl 119 rfl ?_
    refine g_virtual X20 hx hby hZ hown (hw _ (List.mem_of_getElem? (i := 14) rfl)) (hw _ (List.mem_of_getElem? (i := 15) rfl)) (notFace_of_selects (args := #[]) (mvT hZ (hw _ (List.mem_of_getElem? (i := 17) rfl)))) (hw _ (List.mem_of_getElem? (i := 17) rfl)) (hw _ (List.mem_of_getElem? (i := 16) rfl)) (hw _ (List.mem_of_getElem? (i := 3) rfl)) (hw _ (List.mem_of_getElem? (i := 18) rfl)) at_119 b19 P20_0 [] [] (rm3 l Z a0 hw [] b19 b3 2 (upd (upd (fun _ => (0 : Int32)) 0 ka) 1 kb) T20.heap n0 Z20 P20_1 V5_20 (by decide)) rfl rfl (by rw [hml]; rfl) pd1 rfl (by decide) 0 (Nat.le_of_eq rfl) (by decide) (by decide) (by decide) (by decide) 122 rfl ?_
    intro T21 v21 L21 X21 Q21
    obtain ⟨rfl, N21', e21⟩ := Q21
    have N21 := Fr.app N20 N21'
    show Goes p e below _ (T21.setTop (mkF m 122 _ [(.int (oneKey 2 (upd (upd (fun _ => (0 : Int32)) 0 ka) 1 kb)))]))
    refine g_istore X21 hx hby at_122 (oneKey 2 (upd (upd (fun _ => (0 : Int32)) 0 ka) 1 kb)) rfl #[.val (.int sel), .val (.int ka), .val (.int kb), .val (.int kc), .val (.int base), .val (.int (2 : Int32)), .val (.ref b1), .val (.ref b3), .val (.ref b6), .val (.ref b10), .val (.ref b3), .val (.ref b19), .val (.int (oneKey 2 (upd (upd (fun _ => (0 : Int32)) 0 ka) 1 kb))), .unset] rfl 124 rfl ?_
    refine g_iload X21 hx hby at_124 rfl 126 rfl ?_
    refine g_iconst X21 hx hby at_126 (1 : Int32) rfl 127 rfl ?_
    refine g_icmp_ne X21 hx hby at_127 134 130 (by decide) (by decide) rfl (fun q => absurd q (by decide)) (fun _ => ?_)
    refine g_bipush X21 hx hby at_134 (-2 : Int32) rfl 136 rfl ?_
    refine g_istore X21 hx hby at_136 (-2 : Int32) rfl #[.val (.int sel), .val (.int ka), .val (.int kb), .val (.int kc), .val (.int base), .val (.int (2 : Int32)), .val (.ref b1), .val (.ref b3), .val (.ref b6), .val (.ref b10), .val (.ref b3), .val (.ref b19), .val (.int (oneKey 2 (upd (upd (fun _ => (0 : Int32)) 0 ka) 1 kb))), .val (.int (-2 : Int32))] rfl 138 rfl ?_
    refine g_iload X21 hx hby at_138 rfl 140 rfl ?_
    refine g_iload X21 hx hby at_140 rfl 142 rfl ?_
    refine g_icmp_ne X21 hx hby at_142 175 145 (by decide) (by decide) rfl (fun _ => ?_) (fun q => absurd rfl q)
    refine g_aload X21 hx hby at_145 rfl rfl 147 rfl ?_
    refine g_arraylength X21 hx hby hZ e21 V5_20 at_147 (2 : Int32) rfl 148 rfl ?_
    refine g_iload X21 hx hby at_148 rfl 150 rfl ?_
    refine g_icmp_ne X21 hx hby at_150 175 153 (by decide) (by decide) rfl (fun _ => ?_) (fun q => absurd rfl q)
    refine g_aload X21 hx hby at_153 rfl rfl 155 rfl ?_
    refine g_iconst X21 hx hby at_155 (0 : Int32) rfl 156 rfl ?_
    refine g_iaload X21 hx hby hZ e21 V5_20 at_156 (by decide) 0 rfl (by decide) ka rfl 157 rfl ?_
    refine g_iloadN X21 hx hby at_157 rfl 158 rfl ?_
    refine g_icmp_ne X21 hx hby at_158 175 161 (by decide) (by decide) rfl (fun _ => ?_) (fun q => absurd rfl q)
    refine g_aload X21 hx hby at_161 rfl rfl 163 rfl ?_
    refine g_virtual X21 hx hby hZ hown (hw _ (List.mem_of_getElem? (i := 19) rfl)) (hw _ (List.mem_of_getElem? (i := 20) rfl)) (notFace_of_selects (args := #[]) (mvT hZ (hw _ (List.mem_of_getElem? (i := 22) rfl)))) (hw _ (List.mem_of_getElem? (i := 22) rfl)) (hw _ (List.mem_of_getElem? (i := 21) rfl)) (hw _ (List.mem_of_getElem? (i := 3) rfl)) (hw _ (List.mem_of_getElem? (i := 23) rfl)) at_163 b19 P20_0 [] [] (rm4 l Z a0 hw [] b19 base T20.heap n0 Z20 P20_2) e21 rfl (by rw [hml]; rfl) pd1 rfl (by decide) 0 (Nat.le_of_eq rfl) (by decide) (by decide) (by decide) (by decide) 166 rfl ?_
    intro T22 v22 L22 X22 Q22
    obtain ⟨rfl, N22', e22⟩ := Q22
    have N22 := Fr.app N21 N22'
    show Goes p e below _ (T22.setTop (mkF m 166 _ [(.int (baseF base))]))
    refine g_iload X22 hx hby at_166 rfl 168 rfl ?_
    refine g_icmp_ne X22 hx hby at_168 175 171 (by decide) (by decide) rfl (fun _ => ?_) (fun q => absurd rfl q)
    refine g_iconst X22 hx hby at_171 (1 : Int32) rfl 172 rfl ?_
    refine g_goto X22 hx hby at_172 176 (by decide) (by decide) ?_
    exact g_ireturn X22 hx hby hret hlk (Or.inr (Or.inl rfl)) (nar_bool (Or.inr rfl)) at_176 ⟨rfl, N22⟩ (by decide) (by decide)
  ·
    refine g_iload X14 hx hby at_67 rfl 69 rfl ?_
    refine g_iconst X14 hx hby at_69 (1 : Int32) rfl 70 rfl ?_
    refine g_icmp_ne X14 hx hby at_70 78 73 (by decide) (by decide) rfl (fun q => absurd q (by decide)) (fun _ => ?_)
    refine g_iload X14 hx hby at_78 rfl 80 rfl ?_
    refine g_iconst X14 hx hby at_80 (2 : Int32) rfl 81 rfl ?_
    refine g_icmp_ne X14 hx hby at_81 89 84 (by decide) (by decide) rfl (fun q => absurd q (by decide)) (fun _ => ?_)
    refine g_iload X14 hx hby at_89 rfl 91 rfl ?_
    refine g_iconst X14 hx hby at_91 (3 : Int32) rfl 92 rfl ?_
    refine g_icmp_ne X14 hx hby at_92 100 95 (by decide) (by decide) rfl (fun _ => ?_) (fun q => absurd (by decide) q)
    refine g_aload X14 hx hby at_95 rfl rfl 97 rfl ?_
    refine g_goto X14 hx hby at_97 102 (by decide) (by decide) ?_
    refine g_astore X14 hx hby at_102 rfl #[.val (.int sel), .val (.int ka), .val (.int kb), .val (.int kc), .val (.int base), .val (.int (3 : Int32)), .val (.ref b1), .val (.ref b3), .val (.ref b6), .val (.ref b10), .val (.ref b6), .unset, .unset, .unset] rfl 104 rfl ?_
    refine g_new X14 hx hby hZ hown (hw _ (List.mem_of_getElem? (i := 1) rfl)) (hw _ (List.mem_of_getElem? (i := 2) rfl)) (hw _ (List.mem_of_getElem? (i := 3) rfl)) e14 at_104 (by decide) (by decide) 107 rfl ?_
    intro T23 h23 b23 g23 X23 e23 E23 A23 D23
    have gn_b23 : n0 ≤ b23 := Nat.le_trans Z14 (Nat.le_of_eq g23.symm)
    have Z23 : n0 ≤ h23.size := Nat.le_trans Z14 E23.1
    have ne_b1_b23 : b1 ≠ b23 := Nat.ne_of_lt (Nat.lt_of_lt_of_le (V2_14.lt) (Nat.le_of_eq g23.symm))
    have ne_b3_b23 : b3 ≠ b23 := Nat.ne_of_lt (Nat.lt_of_lt_of_le (V5_14.lt) (Nat.le_of_eq g23.symm))
    have ne_b6_b23 : b6 ≠ b23 := Nat.ne_of_lt (Nat.lt_of_lt_of_le (V9_14.lt) (Nat.le_of_eq g23.symm))
    have ne_b10_b23 : b10 ≠ b23 := Nat.ne_of_lt (Nat.lt_of_lt_of_le (V14.lt) (Nat.le_of_eq g23.symm))
    have V2_23 := ArF.ext V2_14 E23
    have V5_23 := ArF.ext V5_14 E23
    have V9_23 := ArF.ext V9_14 E23
    have V14_23 := ArF.ext V14 E23
    have Fb23_key_0 : Fld Z h23 b23 "com/example/measured_match/measuredmatch/Folding$Keys" "key" "[I" .null := D23 (Or.inr (hw _ (List.mem_of_getElem? (i := 11) rfl))) (ty := (.array .int)) (by decide)
    have Fb23_base_0 : Fld Z h23 b23 "com/example/measured_match/measuredmatch/Folding$Keys" "base" "I" (.int (0 : Int32)) := D23 (Or.inr (hw _ (List.mem_of_getElem? (i := 13) rfl))) (ty := .int) (by decide)
    refine g_dup X23 hx hby at_107 rfl 108 rfl ?_
    refine g_aload X23 hx hby at_108 rfl rfl 110 rfl ?_
    refine g_iload X23 hx hby at_110 rfl 112 rfl ?_
    refine g_special X23 hx hby hZ hown rfl (hw _ (List.mem_of_getElem? (i := 4) rfl)) (hw _ (List.mem_of_getElem? (i := 5) rfl)) (hw _ (List.mem_of_getElem? (i := 3) rfl)) (hw _ (List.mem_of_getElem? (i := 6) rfl)) at_112 b23 [(.ref b6), (.int base)] [(.ref b23)] (rm1 l Z a0 hw [] b23 b6 base h23 n0 Z23 A23 Fb23_key_0 Fb23_base_0 gn_b23) e23 rfl (by rw [hml]; rfl) pd0 rfl (by decide) 1 (Nat.le_of_eq rfl) (by decide) (by decide) (by decide) (by decide) 115 rfl ?_
    intro T24 v24 L24 X24 Q24
    obtain ⟨rfl, N24', K24', P24_0, P24_1, P24_2⟩ := Q24
    have N24 := Fr.app N14 N24'
    have Z24 : n0 ≤ T24.heap.size := Nat.le_trans Z23 K24'.1
    have V2_24 := ArF.keep V2_23 K24' (ninS ne_b1_b23 nin0)
    have V5_24 := ArF.keep V5_23 K24' (ninS ne_b3_b23 nin0)
    have V9_24 := ArF.keep V9_23 K24' (ninS ne_b6_b23 nin0)
    have V14_24 := ArF.keep V14_23 K24' (ninS ne_b10_b23 nin0)
    have A23_24 := A23.keep K24'
    show Goes p e below _ (T24.setTop (mkF m 115 _ [(.ref b23)]))
    refine g_astore X24 hx hby at_115 rfl #[.val (.int sel), .val (.int ka), .val (.int kb), .val (.int kc), .val (.int base), .val (.int (3 : Int32)), .val (.ref b1), .val (.ref b3), .val (.ref b6), .val (.ref b10), .val (.ref b6), .val (.ref b23), .unset, .unset] rfl 117 rfl ?_
    refine g_aload X24 hx hby at_117 rfl rfl 119 rfl ?_
    refine g_virtual X24 hx hby hZ hown (hw _ (List.mem_of_getElem? (i := 14) rfl)) (hw _ (List.mem_of_getElem? (i := 15) rfl)) (notFace_of_selects (args := #[]) (mvT hZ (hw _ (List.mem_of_getElem? (i := 17) rfl)))) (hw _ (List.mem_of_getElem? (i := 17) rfl)) (hw _ (List.mem_of_getElem? (i := 16) rfl)) (hw _ (List.mem_of_getElem? (i := 3) rfl)) (hw _ (List.mem_of_getElem? (i := 18) rfl)) at_119 b23 P24_0 [] [] (rm3 l Z a0 hw [] b23 b6 3 (upd (upd (upd (fun _ => (0 : Int32)) 0 ka) 1 kb) 2 kc) T24.heap n0 Z24 P24_1 V9_24 (by decide)) rfl rfl (by rw [hml]; rfl) pd1 rfl (by decide) 0 (Nat.le_of_eq rfl) (by decide) (by decide) (by decide) (by decide) 122 rfl ?_
    intro T25 v25 L25 X25 Q25
    obtain ⟨rfl, N25', e25⟩ := Q25
    have N25 := Fr.app N24 N25'
    show Goes p e below _ (T25.setTop (mkF m 122 _ [(.int (oneKey 3 (upd (upd (upd (fun _ => (0 : Int32)) 0 ka) 1 kb) 2 kc)))]))
    refine g_istore X25 hx hby at_122 (oneKey 3 (upd (upd (upd (fun _ => (0 : Int32)) 0 ka) 1 kb) 2 kc)) rfl #[.val (.int sel), .val (.int ka), .val (.int kb), .val (.int kc), .val (.int base), .val (.int (3 : Int32)), .val (.ref b1), .val (.ref b3), .val (.ref b6), .val (.ref b10), .val (.ref b6), .val (.ref b23), .val (.int (oneKey 3 (upd (upd (upd (fun _ => (0 : Int32)) 0 ka) 1 kb) 2 kc))), .unset] rfl 124 rfl ?_
    refine g_iload X25 hx hby at_124 rfl 126 rfl ?_
    refine g_iconst X25 hx hby at_126 (1 : Int32) rfl 127 rfl ?_
    refine g_icmp_ne X25 hx hby at_127 134 130 (by decide) (by decide) rfl (fun q => absurd q (by decide)) (fun _ => ?_)
    refine g_bipush X25 hx hby at_134 (-2 : Int32) rfl 136 rfl ?_
    refine g_istore X25 hx hby at_136 (-2 : Int32) rfl #[.val (.int sel), .val (.int ka), .val (.int kb), .val (.int kc), .val (.int base), .val (.int (3 : Int32)), .val (.ref b1), .val (.ref b3), .val (.ref b6), .val (.ref b10), .val (.ref b6), .val (.ref b23), .val (.int (oneKey 3 (upd (upd (upd (fun _ => (0 : Int32)) 0 ka) 1 kb) 2 kc))), .val (.int (-2 : Int32))] rfl 138 rfl ?_
    refine g_iload X25 hx hby at_138 rfl 140 rfl ?_
    refine g_iload X25 hx hby at_140 rfl 142 rfl ?_
    refine g_icmp_ne X25 hx hby at_142 175 145 (by decide) (by decide) rfl (fun _ => ?_) (fun q => absurd rfl q)
    refine g_aload X25 hx hby at_145 rfl rfl 147 rfl ?_
    refine g_arraylength X25 hx hby hZ e25 V9_24 at_147 (3 : Int32) rfl 148 rfl ?_
    refine g_iload X25 hx hby at_148 rfl 150 rfl ?_
    refine g_icmp_ne X25 hx hby at_150 175 153 (by decide) (by decide) rfl (fun _ => ?_) (fun q => absurd rfl q)
    refine g_aload X25 hx hby at_153 rfl rfl 155 rfl ?_
    refine g_iconst X25 hx hby at_155 (0 : Int32) rfl 156 rfl ?_
    refine g_iaload X25 hx hby hZ e25 V9_24 at_156 (by decide) 0 rfl (by decide) ka rfl 157 rfl ?_
    refine g_iloadN X25 hx hby at_157 rfl 158 rfl ?_
    refine g_icmp_ne X25 hx hby at_158 175 161 (by decide) (by decide) rfl (fun _ => ?_) (fun q => absurd rfl q)
    refine g_aload X25 hx hby at_161 rfl rfl 163 rfl ?_
    refine g_virtual X25 hx hby hZ hown (hw _ (List.mem_of_getElem? (i := 19) rfl)) (hw _ (List.mem_of_getElem? (i := 20) rfl)) (notFace_of_selects (args := #[]) (mvT hZ (hw _ (List.mem_of_getElem? (i := 22) rfl)))) (hw _ (List.mem_of_getElem? (i := 22) rfl)) (hw _ (List.mem_of_getElem? (i := 21) rfl)) (hw _ (List.mem_of_getElem? (i := 3) rfl)) (hw _ (List.mem_of_getElem? (i := 23) rfl)) at_163 b23 P24_0 [] [] (rm4 l Z a0 hw [] b23 base T24.heap n0 Z24 P24_2) e25 rfl (by rw [hml]; rfl) pd1 rfl (by decide) 0 (Nat.le_of_eq rfl) (by decide) (by decide) (by decide) (by decide) 166 rfl ?_
    intro T26 v26 L26 X26 Q26
    obtain ⟨rfl, N26', e26⟩ := Q26
    have N26 := Fr.app N25 N26'
    show Goes p e below _ (T26.setTop (mkF m 166 _ [(.int (baseF base))]))
    refine g_iload X26 hx hby at_166 rfl 168 rfl ?_
    refine g_icmp_ne X26 hx hby at_168 175 171 (by decide) (by decide) rfl (fun _ => ?_) (fun q => absurd rfl q)
    refine g_iconst X26 hx hby at_171 (1 : Int32) rfl 172 rfl ?_
    refine g_goto X26 hx hby at_172 176 (by decide) (by decide) ?_
    exact g_ireturn X26 hx hby hret hlk (Or.inr (Or.inl rfl)) (nar_bool (Or.inr rfl)) at_176 ⟨rfl, N26⟩ (by decide) (by decide)
  ·
    refine g_iload X14 hx hby at_67 rfl 69 rfl ?_
    refine g_iconst X14 hx hby at_69 (1 : Int32) rfl 70 rfl ?_
    refine g_icmp_ne X14 hx hby at_70 78 73 (by decide) (by decide) rfl (fun q => absurd q (by decide)) (fun _ => ?_)
    refine g_iload X14 hx hby at_78 rfl 80 rfl ?_
    refine g_iconst X14 hx hby at_80 (2 : Int32) rfl 81 rfl ?_
    refine g_icmp_ne X14 hx hby at_81 89 84 (by decide) (by decide) rfl (fun q => absurd q (by decide)) (fun _ => ?_)
    refine g_iload X14 hx hby at_89 rfl 91 rfl ?_
    refine g_iconst X14 hx hby at_91 (3 : Int32) rfl 92 rfl ?_
    refine g_icmp_ne X14 hx hby at_92 100 95 (by decide) (by decide) rfl (fun q => absurd q (by decide)) (fun _ => ?_)
    refine g_aload X14 hx hby at_100 rfl rfl 102 rfl ?_
    refine g_astore X14 hx hby at_102 rfl #[.val (.int sel), .val (.int ka), .val (.int kb), .val (.int kc), .val (.int base), .val (.int (4 : Int32)), .val (.ref b1), .val (.ref b3), .val (.ref b6), .val (.ref b10), .val (.ref b10), .unset, .unset, .unset] rfl 104 rfl ?_
    refine g_new X14 hx hby hZ hown (hw _ (List.mem_of_getElem? (i := 1) rfl)) (hw _ (List.mem_of_getElem? (i := 2) rfl)) (hw _ (List.mem_of_getElem? (i := 3) rfl)) e14 at_104 (by decide) (by decide) 107 rfl ?_
    intro T27 h27 b27 g27 X27 e27 E27 A27 D27
    have gn_b27 : n0 ≤ b27 := Nat.le_trans Z14 (Nat.le_of_eq g27.symm)
    have Z27 : n0 ≤ h27.size := Nat.le_trans Z14 E27.1
    have ne_b1_b27 : b1 ≠ b27 := Nat.ne_of_lt (Nat.lt_of_lt_of_le (V2_14.lt) (Nat.le_of_eq g27.symm))
    have ne_b3_b27 : b3 ≠ b27 := Nat.ne_of_lt (Nat.lt_of_lt_of_le (V5_14.lt) (Nat.le_of_eq g27.symm))
    have ne_b6_b27 : b6 ≠ b27 := Nat.ne_of_lt (Nat.lt_of_lt_of_le (V9_14.lt) (Nat.le_of_eq g27.symm))
    have ne_b10_b27 : b10 ≠ b27 := Nat.ne_of_lt (Nat.lt_of_lt_of_le (V14.lt) (Nat.le_of_eq g27.symm))
    have V2_27 := ArF.ext V2_14 E27
    have V5_27 := ArF.ext V5_14 E27
    have V9_27 := ArF.ext V9_14 E27
    have V14_27 := ArF.ext V14 E27
    have Fb27_key_0 : Fld Z h27 b27 "com/example/measured_match/measuredmatch/Folding$Keys" "key" "[I" .null := D27 (Or.inr (hw _ (List.mem_of_getElem? (i := 11) rfl))) (ty := (.array .int)) (by decide)
    have Fb27_base_0 : Fld Z h27 b27 "com/example/measured_match/measuredmatch/Folding$Keys" "base" "I" (.int (0 : Int32)) := D27 (Or.inr (hw _ (List.mem_of_getElem? (i := 13) rfl))) (ty := .int) (by decide)
    refine g_dup X27 hx hby at_107 rfl 108 rfl ?_
    refine g_aload X27 hx hby at_108 rfl rfl 110 rfl ?_
    refine g_iload X27 hx hby at_110 rfl 112 rfl ?_
    refine g_special X27 hx hby hZ hown rfl (hw _ (List.mem_of_getElem? (i := 4) rfl)) (hw _ (List.mem_of_getElem? (i := 5) rfl)) (hw _ (List.mem_of_getElem? (i := 3) rfl)) (hw _ (List.mem_of_getElem? (i := 6) rfl)) at_112 b27 [(.ref b10), (.int base)] [(.ref b27)] (rm1 l Z a0 hw [] b27 b10 base h27 n0 Z27 A27 Fb27_key_0 Fb27_base_0 gn_b27) e27 rfl (by rw [hml]; rfl) pd0 rfl (by decide) 1 (Nat.le_of_eq rfl) (by decide) (by decide) (by decide) (by decide) 115 rfl ?_
    intro T28 v28 L28 X28 Q28
    obtain ⟨rfl, N28', K28', P28_0, P28_1, P28_2⟩ := Q28
    have N28 := Fr.app N14 N28'
    have Z28 : n0 ≤ T28.heap.size := Nat.le_trans Z27 K28'.1
    have V2_28 := ArF.keep V2_27 K28' (ninS ne_b1_b27 nin0)
    have V5_28 := ArF.keep V5_27 K28' (ninS ne_b3_b27 nin0)
    have V9_28 := ArF.keep V9_27 K28' (ninS ne_b6_b27 nin0)
    have V14_28 := ArF.keep V14_27 K28' (ninS ne_b10_b27 nin0)
    have A27_28 := A27.keep K28'
    show Goes p e below _ (T28.setTop (mkF m 115 _ [(.ref b27)]))
    refine g_astore X28 hx hby at_115 rfl #[.val (.int sel), .val (.int ka), .val (.int kb), .val (.int kc), .val (.int base), .val (.int (4 : Int32)), .val (.ref b1), .val (.ref b3), .val (.ref b6), .val (.ref b10), .val (.ref b10), .val (.ref b27), .unset, .unset] rfl 117 rfl ?_
    refine g_aload X28 hx hby at_117 rfl rfl 119 rfl ?_
    refine g_virtual X28 hx hby hZ hown (hw _ (List.mem_of_getElem? (i := 14) rfl)) (hw _ (List.mem_of_getElem? (i := 15) rfl)) (notFace_of_selects (args := #[]) (mvT hZ (hw _ (List.mem_of_getElem? (i := 17) rfl)))) (hw _ (List.mem_of_getElem? (i := 17) rfl)) (hw _ (List.mem_of_getElem? (i := 16) rfl)) (hw _ (List.mem_of_getElem? (i := 3) rfl)) (hw _ (List.mem_of_getElem? (i := 18) rfl)) at_119 b27 P28_0 [] [] (rm3 l Z a0 hw [] b27 b10 4 (upd (upd (upd (upd (fun _ => (0 : Int32)) 0 ka) 1 kb) 2 kc) 3 ka) T28.heap n0 Z28 P28_1 V14_28 (by decide)) rfl rfl (by rw [hml]; rfl) pd1 rfl (by decide) 0 (Nat.le_of_eq rfl) (by decide) (by decide) (by decide) (by decide) 122 rfl ?_
    intro T29 v29 L29 X29 Q29
    obtain ⟨rfl, N29', e29⟩ := Q29
    have N29 := Fr.app N28 N29'
    show Goes p e below _ (T29.setTop (mkF m 122 _ [(.int (oneKey 4 (upd (upd (upd (upd (fun _ => (0 : Int32)) 0 ka) 1 kb) 2 kc) 3 ka)))]))
    refine g_istore X29 hx hby at_122 (oneKey 4 (upd (upd (upd (upd (fun _ => (0 : Int32)) 0 ka) 1 kb) 2 kc) 3 ka)) rfl #[.val (.int sel), .val (.int ka), .val (.int kb), .val (.int kc), .val (.int base), .val (.int (4 : Int32)), .val (.ref b1), .val (.ref b3), .val (.ref b6), .val (.ref b10), .val (.ref b10), .val (.ref b27), .val (.int (oneKey 4 (upd (upd (upd (upd (fun _ => (0 : Int32)) 0 ka) 1 kb) 2 kc) 3 ka))), .unset] rfl 124 rfl ?_
    refine g_iload X29 hx hby at_124 rfl 126 rfl ?_
    refine g_iconst X29 hx hby at_126 (1 : Int32) rfl 127 rfl ?_
    refine g_icmp_ne X29 hx hby at_127 134 130 (by decide) (by decide) rfl (fun q => absurd q (by decide)) (fun _ => ?_)
    refine g_bipush X29 hx hby at_134 (-2 : Int32) rfl 136 rfl ?_
    refine g_istore X29 hx hby at_136 (-2 : Int32) rfl #[.val (.int sel), .val (.int ka), .val (.int kb), .val (.int kc), .val (.int base), .val (.int (4 : Int32)), .val (.ref b1), .val (.ref b3), .val (.ref b6), .val (.ref b10), .val (.ref b10), .val (.ref b27), .val (.int (oneKey 4 (upd (upd (upd (upd (fun _ => (0 : Int32)) 0 ka) 1 kb) 2 kc) 3 ka))), .val (.int (-2 : Int32))] rfl 138 rfl ?_
    refine g_iload X29 hx hby at_138 rfl 140 rfl ?_
    refine g_iload X29 hx hby at_140 rfl 142 rfl ?_
    refine g_icmp_ne X29 hx hby at_142 175 145 (by decide) (by decide) rfl (fun _ => ?_) (fun q => absurd rfl q)
    refine g_aload X29 hx hby at_145 rfl rfl 147 rfl ?_
    refine g_arraylength X29 hx hby hZ e29 V14_28 at_147 (4 : Int32) rfl 148 rfl ?_
    refine g_iload X29 hx hby at_148 rfl 150 rfl ?_
    refine g_icmp_ne X29 hx hby at_150 175 153 (by decide) (by decide) rfl (fun _ => ?_) (fun q => absurd rfl q)
    refine g_aload X29 hx hby at_153 rfl rfl 155 rfl ?_
    refine g_iconst X29 hx hby at_155 (0 : Int32) rfl 156 rfl ?_
    refine g_iaload X29 hx hby hZ e29 V14_28 at_156 (by decide) 0 rfl (by decide) ka rfl 157 rfl ?_
    refine g_iloadN X29 hx hby at_157 rfl 158 rfl ?_
    refine g_icmp_ne X29 hx hby at_158 175 161 (by decide) (by decide) rfl (fun _ => ?_) (fun q => absurd rfl q)
    refine g_aload X29 hx hby at_161 rfl rfl 163 rfl ?_
    refine g_virtual X29 hx hby hZ hown (hw _ (List.mem_of_getElem? (i := 19) rfl)) (hw _ (List.mem_of_getElem? (i := 20) rfl)) (notFace_of_selects (args := #[]) (mvT hZ (hw _ (List.mem_of_getElem? (i := 22) rfl)))) (hw _ (List.mem_of_getElem? (i := 22) rfl)) (hw _ (List.mem_of_getElem? (i := 21) rfl)) (hw _ (List.mem_of_getElem? (i := 3) rfl)) (hw _ (List.mem_of_getElem? (i := 23) rfl)) at_163 b27 P28_0 [] [] (rm4 l Z a0 hw [] b27 base T28.heap n0 Z28 P28_2) e29 rfl (by rw [hml]; rfl) pd1 rfl (by decide) 0 (Nat.le_of_eq rfl) (by decide) (by decide) (by decide) (by decide) 166 rfl ?_
    intro T30 v30 L30 X30 Q30
    obtain ⟨rfl, N30', e30⟩ := Q30
    have N30 := Fr.app N29 N30'
    show Goes p e below _ (T30.setTop (mkF m 166 _ [(.int (baseF base))]))
    refine g_iload X30 hx hby at_166 rfl 168 rfl ?_
    refine g_icmp_ne X30 hx hby at_168 175 171 (by decide) (by decide) rfl (fun _ => ?_) (fun q => absurd rfl q)
    refine g_iconst X30 hx hby at_171 (1 : Int32) rfl 172 rfl ?_
    refine g_goto X30 hx hby at_172 176 (by decide) (by decide) ?_
    exact g_ireturn X30 hx hby hret hlk (Or.inr (Or.inl rfl)) (nar_bool (Or.inr rfl)) at_176 ⟨rfl, N30⟩ (by decide) (by decide)
set_option maxRecDepth 65536 in
set_option maxHeartbeats 40000000 in
theorem comes_1 {Post : Tables → Env → Array Value → State → Outcome → State → Prop} (hpost : ∀ tb e args s v u, (limb_1_1.after args s (.returned v) u = true ∧ limb_1_2.after args s (.returned v) u = true ∧ True) → FrameEnd s (.returned v) u (Jvm.fieldLocs frame_1_writes args s ++ Jvm.arrayLocs frame_1_arrays args s ++ Jvm.staticLocs frame_1_statics s) 24 128 → Post tb e args s (.returned v) u) :
    ArmFor flags0 classFile x code maxLocals ret World_1 tables_1 room_1 Calls_1 rest_1 Pre_1 Post := by
  intro l hfl _ _ p e ha hc hk s m args below hf hA hF happ hP
  obtain ⟨hcalls, hrest, hpre⟩ := hP
  obtain ⟨-, -, -, hnamed, -, -, -, hat⟩ := (Spec.applies_iff hf).mp happ
  obtain ⟨hg, hn⟩ := and_e (Cond.before_iff.mp (show (Jvm.Cond.and given_1 narrow_1).before args s = true from hpre))
  obtain ⟨q0, r0⟩ := and_e hg
  obtain ⟨q1, r1⟩ := and_e r0
  obtain ⟨q2, r2⟩ := and_e r1
  obtain ⟨q3, r3⟩ := and_e r2
  obtain ⟨q4, r4⟩ := and_e r3
  obtain ⟨w0, w1, w2, w3, w4, rfl⟩ : ∃ w0 w1 w2 w3 w4 : Value, args = #[w0, w1, w2, w3, w4] := by
    have hs : args.size = 5 := by simpa [Cond.value, given_1] using q0
    obtain ⟨L⟩ := args
    match L, hs with
    | [w0, w1, w2, w3, w4], _ => exact ⟨w0, w1, w2, w3, w4, rfl⟩
  have hw := fun d (hd : d ∈ tables_1) => atoms_spec (ws := Jvm.Cond.code x code maxLocals ret :: tables_1) hat d (List.mem_cons_of_mem _ hd)
  obtain ⟨i0, ei0⟩ := is_v q1
  obtain rfl : w0 = (.int i0) := Option.some.inj ei0
  obtain ⟨i1, ei1⟩ := is_v q2
  obtain rfl : w1 = (.int i1) := Option.some.inj ei1
  obtain ⟨i2, ei2⟩ := is_v q3
  obtain rfl : w2 = (.int i2) := Option.some.inj ei2
  obtain ⟨i3, ei3⟩ := is_v q4
  obtain rfl : w3 = (.int i3) := Option.some.inj ei3
  obtain ⟨i4, ei4⟩ := is_v r4
  obtain rfl : w4 = (.int i4) := Option.some.inj ei4
  obtain ⟨n, o, h1, h2, h3, _, L, rfl, ⟨rfl, N⟩, hq⟩ := rm0 l s _ hw tables_1 i0 i1 i2 i3 i4 s.heap s.heap.size (Nat.le_refl _) p e ha hc hk s m _ below hf ((Spec.applies_iff_loose hf).mp happ).1 ⟨rfl, State.Warmed39.refl s, rfl⟩ trivial
  refine ⟨n, _, h1, h2, h3, hpost _ _ _ _ _ _ ⟨Cond.after_iff.mpr rfl, Cond.after_iff.mpr (eq_i res_at (Term.int_eval (1)) rfl), trivial⟩ ⟨hq.1, hq.2.1, (hq.2.2.sift fun y hy => Or.inr (N y hy)).mono (by decide) (by decide)⟩⟩
theorem main_1_1 : Claimed_1_1 := comes_1 fun _ _ _ _ _ _ h hF => ⟨h.1, hF⟩
theorem main_1_2 : Claimed_1_2 := comes_1 fun _ _ _ _ _ _ h hF => ⟨h.2.1, hF⟩
end Jvm.Pilot.@@N@@
namespace Jvm.Pilot.@@N@@
open Jvm Jvm.ClassFile Sem Op Lib Jvm.Free Jvm.Stand Jvm.Pilot.@@N@@.Jvm.D
/-! MADE BY PROGRAM (witnessworld.py) out of the Statement's table words and the real class files: 9 classes; the members and pool entries that the words name. The judged class is class 1, her method 1. -/
namespace start1
open Jvm.ClassFile
def u (s : String) : CpInfo := .utf8 (stringToUtf16 s)
/-- a pool by its gaps: so many unusable entries, then the entry; so many at the end -/
def gap : Nat → List CpInfo → List CpInfo
  | 0, r => r
  | n + 1, r => .unusable :: gap n r
def poolList (es : List (Nat × CpInfo)) (last : Nat) : List CpInfo := es.foldr (fun e r => gap e.1 (e.2 :: r)) (gap last [])
def pool (es : List (Nat × CpInfo)) (last : Nat) : Array CpInfo := ⟨poolList es last⟩
def fileOf (pool : Array CpInfo) (this : Nat) (attrs : Array Attribute := #[]) (ms : Array MethodInfo := #[]) (fl : Nat := 33) (sup : Nat := 0) (ifs : Array Nat := #[]) (fds : Array FieldInfo := #[]) : ClassFile where
  minorVersion := 0
  majorVersion := 65
  constantPool := pool
  accessFlags := fl
  thisClass := this
  superClass := sup
  interfaces := ifs
  fields := fds
  methods := ms
  attributes := attrs
def plain (name : String) (sup : Option ClassId) : Class where
  name := name
  kind := .ordinary
  loader := none
  accessFlags := 33
  super := sup
  interfaces := #[]
  cf := none
  fields := #[]
  methods := #[]
  instanceTypes := #[]
  staticTypes := #[]
  resolved := #[]
  callSites := []
  init := .initialized
  statics := none
  mirror := none

def pool0 : Array CpInfo := pool [(5, u "<init>"), (0, u "()V"), (1, .class_ 10), (1, u "java/lang/Object")] 113

def k0c0 : Code := { maxStack := 0, maxLocals := 1, code := object_method_1_code, exceptionTable := #[], attributes := #[] }
def k0m0 : Method := { name := "<init>", desc := "()V", sig := { parameters := [], returnType := none }, accessFlags := 1, code := some k0c0 }
/-- java/lang/Object -/
def k0 : Class := { plain "java/lang/Object" none with
  accessFlags := 33
  interfaces := #[]
  cf := some (fileOf pool0 8 #[] #[{ accessFlags := 1, nameIndex := 5, descriptorIndex := 6, attributes := #[] }] 33 0 #[] #[])
  fields := #[]
  methods := #[k0m0]
  instanceTypes := #[]
  staticTypes := #[]
  resolved := Array.replicate 124 none
  statics := none }

def pool1 : Array CpInfo := pool [(2, .class_ 4), (1, u "java/lang/Object"), (0, u "<init>"), (0, u "()V"), (0, .class_ 8), (0, u "com/example/measured_match/measuredmatch/Folding$Keys"), (0, .methodref 7 10), (0, .nameAndType 5 11), (0, u "([II)V"), (0, .methodref 7 13), (0, .nameAndType 14 15), (0, u "oneKey"), (0, u "()I"), (2, .methodref 7 19), (0, .nameAndType 20 15), (0, u "base"), (0, .class_ 22), (0, u "com/example/measured_match/measuredmatch/KeysOneKeyPinLaw"), (2, u "law"), (0, u "(IIIII)Z")] 7

def k1m0 : Method := { name := "<init>", desc := "()V", sig := { parameters := [], returnType := none }, accessFlags := 1, code := none }
def k1c1 : Code := { maxStack := 4, maxLocals := 14, code := code, exceptionTable := #[], attributes := #[] }
def k1m1 : Method := { name := "law", desc := "(IIIII)Z", sig := { parameters := [.int, .int, .int, .int, .int], returnType := some .boolean }, accessFlags := 9, code := some k1c1 }
/-- com/example/measured_match/measuredmatch/KeysOneKeyPinLaw -/
def k1 : Class := { plain "com/example/measured_match/measuredmatch/KeysOneKeyPinLaw" (some 0) with
  accessFlags := 49
  interfaces := #[]
  cf := some (fileOf pool1 21 #[] #[{ accessFlags := 1, nameIndex := 5, descriptorIndex := 6, attributes := #[] }, { accessFlags := 9, nameIndex := 25, descriptorIndex := 26, attributes := #[] }] 49 2 #[] #[])
  fields := #[]
  methods := #[k1m0, k1m1]
  instanceTypes := #[]
  staticTypes := #[]
  resolved := Array.replicate 34 none
  statics := none }

def pool2 : Array CpInfo := pool [(1, .class_ 2), (0, u "com/example/measured_match/measuredmatch/Folding"), (0, .methodref 4 5), (0, .class_ 6), (0, .nameAndType 7 8), (0, u "java/lang/Object"), (0, u "<init>"), (0, u "()V"), (0, .fieldref 10 11), (0, .class_ 12), (0, .nameAndType 13 14), (0, u "com/example/measured_match/measuredmatch/Folding$Keys"), (0, u "key"), (0, u "[I"), (0, .fieldref 10 16), (0, .nameAndType 17 18), (0, u "base"), (0, u "I"), (0, u "([II)V"), (3, u "oneKey"), (0, u "()I")] 6

def k2c0 : Code := { maxStack := 2, maxLocals := 3, code := prog_13_method_1_code, exceptionTable := #[], attributes := #[] }
def k2m0 : Method := { name := "<init>", desc := "([II)V", sig := { parameters := [(.array .int), .int], returnType := none }, accessFlags := 0, code := some k2c0 }
def k2c1 : Code := { maxStack := 2, maxLocals := 1, code := prog_13_method_3_code, exceptionTable := #[], attributes := #[] }
def k2m1 : Method := { name := "oneKey", desc := "()I", sig := { parameters := [], returnType := some .int }, accessFlags := 0, code := some k2c1 }
def k2c2 : Code := { maxStack := 1, maxLocals := 1, code := prog_13_method_4_code, exceptionTable := #[], attributes := #[] }
def k2m2 : Method := { name := "base", desc := "()I", sig := { parameters := [], returnType := some .int }, accessFlags := 0, code := some k2c2 }
/-- com/example/measured_match/measuredmatch/Folding$Keys -/
def k2 : Class := { plain "com/example/measured_match/measuredmatch/Folding$Keys" (some 0) with
  accessFlags := 32
  interfaces := #[]
  cf := some (fileOf pool2 10 #[.nestHost 1] #[{ accessFlags := 0, nameIndex := 7, descriptorIndex := 19, attributes := #[] }, { accessFlags := 0, nameIndex := 23, descriptorIndex := 24, attributes := #[] }, { accessFlags := 0, nameIndex := 17, descriptorIndex := 24, attributes := #[] }] 32 4 #[] #[{ accessFlags := 18, nameIndex := 13, descriptorIndex := 14, attributes := #[] }, { accessFlags := 18, nameIndex := 17, descriptorIndex := 18, attributes := #[] }])
  fields := #[{ name := "key", type := (.array .int), accessFlags := 18, slot := 0, constantValue := 0 }, { name := "base", type := .int, accessFlags := 18, slot := 1, constantValue := 0 }]
  methods := #[k2m0, k2m1, k2m2]
  instanceTypes := #[(.array .int), .int]
  staticTypes := #[]
  resolved := Array.replicate 31 none
  statics := none }

def pool3 : Array CpInfo := pool [(1, u "java/lang/Cloneable"), (0, .class_ 1), (0, u "java/lang/Object"), (0, .class_ 3)] 3

/-- java/lang/Cloneable -/
def k3 : Class := { plain "java/lang/Cloneable" (some 0) with
  accessFlags := 1537
  interfaces := #[]
  cf := some (fileOf pool3 2 #[] #[] 1537 4 #[] #[])
  fields := #[]
  methods := #[]
  instanceTypes := #[]
  staticTypes := #[]
  resolved := Array.replicate 8 none
  statics := none }

def pool4 : Array CpInfo := pool [(1, u "java/io/Serializable"), (0, .class_ 1), (0, u "java/lang/Object"), (0, .class_ 3)] 3

/-- java/io/Serializable -/
def k4 : Class := { plain "java/io/Serializable" (some 0) with
  accessFlags := 1537
  interfaces := #[]
  cf := some (fileOf pool4 2 #[] #[] 1537 4 #[] #[])
  fields := #[]
  methods := #[]
  instanceTypes := #[]
  staticTypes := #[]
  resolved := Array.replicate 8 none
  statics := none }

/-- the primitive byte -/
def k5 : Class := { plain "byte" none with kind := .primitive 'B', accessFlags := 0x411 }
/-- [B -/
def k6 : Class := { plain "[B" (some 0) with kind := .array 5 .byte, interfaces := #[3, 4], accessFlags := 1041 }

/-- the primitive int -/
def k7 : Class := { plain "int" none with kind := .primitive 'I', accessFlags := 0x411 }
/-- [I -/
def k8 : Class := { plain "[I" (some 0) with kind := .array 7 .int, interfaces := #[3, 4], accessFlags := 1041 }

def heap : Heap := #[]
def classes : Array Class := #[k0, k1, k2, k3, k4, k5, k6, k7, k8]
def interned : List (Array UInt16 × Addr) := []
def slotsUsed : Nat := 0
def theMethod : MethodId := ⟨1, 1⟩
def args0 : Array Value := #[.int 5, .int 5, .int 5, .int 5, .int 5]
def aboutOver (below : List Frame) : State where
  vm := { classes := classes, interned := interned.toArray }
  heap := heap
  slotsUsed := slotsUsed
  threads := #[{ frames := .invoking theMethod args0 :: below }]
def below0 : List Frame := [.native { method := ⟨0, 0⟩, args := #[] }]
def about1 : State := aboutOver below0
def p0 : Program := .bare "" "" ""
def e0 : Env := launch0.env 0 0 0
theorem w_frames : about1.frames = Frame.invoking theMethod args0 :: below0 := rfl
set_option maxRecDepth 65536 in
theorem w_args : argsFit about1.vm theMethod args0 = true := by decide +kernel
set_option maxRecDepth 65536 in
theorem w_heap : heapFits about1 = true := by decide +kernel
set_option maxRecDepth 65536 in
theorem w_runnable : about1.curStatus? = some .runnable := by decide +kernel
set_option maxRecDepth 65536 in
theorem w_alone : about1.alone = true := by decide +kernel
set_option maxRecDepth 65536 in
theorem w_named : about1.methodNamed? x = some theMethod := by decide +kernel
set_option maxRecDepth 65536 in
theorem w_hears : about1.hears theMethod below0 = true := by decide +kernel
set_option maxRecDepth 65536 in
theorem w_ripe : about1.ripe theMethod args0 below0 = true := by decide +kernel
theorem w_running : about1.status = .running := rfl
set_option maxRecDepth 65536 in
theorem w_room : about1.hasRoom e0.platform room_1 = true :=
  launch0.hasRoom_least _ room_1 (by decide +kernel) (by decide +kernel) (by decide +kernel) (by decide +kernel) (by decide +kernel) (by decide +kernel)
theorem allAtoms_all (ts : List Jvm.Cond) (a : Array Jvm.Value) (st : Jvm.State) : (allAtoms ts).before a st = ts.all (fun c => c.before a st) := by
  induction ts with
  | nil => rfl
  | cons c t ih =>
    show (Jvm.Cond.and c (allAtoms t)).before a st = _
    rw [Jvm.Cond.before_and, ih, List.all_cons]
def words1 : List Jvm.Cond := Jvm.Cond.code x code maxLocals ret :: tables_1
/-- a 'code' word, met by the world's own term for the bytes: nothing is compared byte by byte -/
theorem code_word {y : MethodName} {bytes : ByteArray} {mx : Nat} {rt : Option FieldType} {a : Array Value} {s : State} {m : MethodId} {meth : Method} {c : Code} (h1 : s.methodNamed? y = some m) (h2 : s.vm.method? m = some meth) (h3 : meth.code = some c) (h4 : c.code = bytes)
    (h5 : (c.maxLocals == mx && c.exceptionTable.isEmpty && decide (c.maxStack ≤ mostOperands) && decide (meth.sig.returnType = rt) && !meth.locks && decide (parseMethodDescriptor y.desc = some meth.sig)) = true) : (Jvm.Cond.code y bytes mx rt).before a s = true := by
  simp only [Bool.and_eq_true, beq_iff_eq, Bool.not_eq_true', decide_eq_true_eq] at h5
  obtain ⟨⟨⟨⟨⟨g1, g2⟩, g3⟩, g4⟩, g5⟩, g6⟩ := h5
  simp [Cond.before, Cond.holds, Cond.value, h1, h2, h3, h4, g1, g2, g3, g4, g5, g6]
def isCode : Jvm.Cond → Bool
  | .code _ _ _ _ => true
  | _ => false
theorem all_split {L : List Jvm.Cond} {P : Jvm.Cond → Bool} (h1 : L.all (fun c => isCode c || P c) = true) (h2 : ∀ c ∈ L.filter isCode, P c = true) : L.all P = true := by
  refine List.all_eq_true.mpr fun c hc => ?_
  have h := List.all_eq_true.mp h1 c hc
  rcases Bool.eq_false_or_eq_true (isCode c) with hi | hi
  · exact h2 c (List.mem_filter.mpr ⟨hc, hi⟩)
  · simpa [hi] using h
set_option maxRecDepth 65536 in
theorem w_c0 : (Jvm.Cond.code x code maxLocals ret).before args0 about1 = true := code_word (m := ⟨1, 1⟩) (meth := k1m1) (c := k1c1) (by decide +kernel) rfl rfl rfl (by decide +kernel)
set_option maxRecDepth 65536 in
theorem w_c1 : (Jvm.Cond.code ({ cls := "com/example/measured_match/measuredmatch/Folding$Keys", name := "<init>", desc := "([II)V" } : Jvm.MethodName) prog_13_method_1_code (3 : Nat) (Option.none : Option Jvm.ClassFile.FieldType)).before args0 about1 = true := code_word (m := ⟨2, 0⟩) (meth := k2m0) (c := k2c0) (by decide +kernel) rfl rfl rfl (by decide +kernel)
set_option maxRecDepth 65536 in
theorem w_c2 : (Jvm.Cond.code ({ cls := "java/lang/Object", name := "<init>", desc := "()V" } : Jvm.MethodName) object_method_1_code (1 : Nat) (Option.none : Option Jvm.ClassFile.FieldType)).before args0 about1 = true := code_word (m := ⟨0, 0⟩) (meth := k0m0) (c := k0c0) (by decide +kernel) rfl rfl rfl (by decide +kernel)
set_option maxRecDepth 65536 in
theorem w_c3 : (Jvm.Cond.code ({ cls := "com/example/measured_match/measuredmatch/Folding$Keys", name := "oneKey", desc := "()I" } : Jvm.MethodName) prog_13_method_3_code (1 : Nat) (Option.some Jvm.ClassFile.FieldType.int)).before args0 about1 = true := code_word (m := ⟨2, 1⟩) (meth := k2m1) (c := k2c1) (by decide +kernel) rfl rfl rfl (by decide +kernel)
set_option maxRecDepth 65536 in
theorem w_c4 : (Jvm.Cond.code ({ cls := "com/example/measured_match/measuredmatch/Folding$Keys", name := "base", desc := "()I" } : Jvm.MethodName) prog_13_method_4_code (1 : Nat) (Option.some Jvm.ClassFile.FieldType.int)).before args0 about1 = true := code_word (m := ⟨2, 2⟩) (meth := k2m2) (c := k2c2) (by decide +kernel) rfl rfl rfl (by decide +kernel)
def codes1 : List Jvm.Cond := [Jvm.Cond.code x code maxLocals ret, Jvm.Cond.code ({ cls := "com/example/measured_match/measuredmatch/Folding$Keys", name := "<init>", desc := "([II)V" } : Jvm.MethodName) prog_13_method_1_code (3 : Nat) (Option.none : Option Jvm.ClassFile.FieldType), Jvm.Cond.code ({ cls := "java/lang/Object", name := "<init>", desc := "()V" } : Jvm.MethodName) object_method_1_code (1 : Nat) (Option.none : Option Jvm.ClassFile.FieldType), Jvm.Cond.code ({ cls := "com/example/measured_match/measuredmatch/Folding$Keys", name := "oneKey", desc := "()I" } : Jvm.MethodName) prog_13_method_3_code (1 : Nat) (Option.some Jvm.ClassFile.FieldType.int), Jvm.Cond.code ({ cls := "com/example/measured_match/measuredmatch/Folding$Keys", name := "base", desc := "()I" } : Jvm.MethodName) prog_13_method_4_code (1 : Nat) (Option.some Jvm.ClassFile.FieldType.int)]
set_option maxRecDepth 65536 in
theorem codes_eq : words1.filter isCode = codes1 := rfl
theorem w_codes : ∀ c ∈ words1.filter isCode, c.before args0 about1 = true := by
  rw [codes_eq]
  intro c hc
  simp only [codes1, List.mem_cons, List.not_mem_nil, or_false] at hc
  rcases hc with rfl | rfl | rfl | rfl | rfl
  · exact w_c0
  · exact w_c1
  · exact w_c2
  · exact w_c3
  · exact w_c4
set_option maxRecDepth 65536 in
theorem w_t1 : (words1.take 24).all (fun c => isCode c || c.before args0 about1) = true := by decide +kernel
set_option maxRecDepth 65536 in
theorem w_t2 : (words1.drop 24).all (fun c => isCode c || c.before args0 about1) = true := by decide +kernel
theorem w_tables : (allAtoms (Jvm.Cond.code x code maxLocals ret :: tables_1)).before args0 about1 = true := by
  rw [allAtoms_all]
  show words1.all (fun c => c.before args0 about1) = true
  refine all_split ?_ w_codes
  rw [← List.take_append_drop 24 words1, List.all_append, w_t1, w_t2]
  rfl
set_option maxRecDepth 65536 in
theorem w_case : (Jvm.Cond.and given_1 narrow_1).before args0 about1 = true := by decide +kernel
theorem w_applies : (headSpec (Jvm.Cond.code x code maxLocals ret :: tables_1) room_1).applies x e0.platform about1 = true :=
  (Spec.applies_iff w_frames).mpr ⟨w_running, w_runnable, w_alone, w_named, w_hears, w_ripe, w_room, w_tables⟩
theorem atStart : AtStart classFile x code maxLocals ret World_1 tables_1 room_1 Calls_1 rest_1 Pre_1 launch0 p0 e0 about1 theMethod args0 below0 :=
  ⟨lists_1, trivial, launch0.admits_env _ _ _, launch0.least_env, fairChoices_fair.cas, fairChoices_fair.clock, w_frames, w_args, w_heap, w_applies, trivial, trivial, w_case⟩
end start1
theorem witness_1 : WitnessClaimed_1 := ⟨start1.p0, start1.e0, start1.about1, start1.theMethod, start1.args0, start1.below0, start1.atStart⟩
end Jvm.Pilot.@@N@@
