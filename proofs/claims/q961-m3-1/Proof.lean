import JvmDerived
import JvmDerived.Pilot.@@N@@Statement
import JvmDerived.Pilot.@@N@@Code
set_option linter.unusedVariables false
set_option linter.unusedSimpArgs false
namespace Jvm.Pilot.@@N@@
open Jvm Jvm.ClassFile Sem Op Lib Jvm.Free Jvm.Stand Jvm.LawKit Jvm.RoadKit Bundle Jvm.Pilot.@@N@@.Jvm.D
section OwnKit
variable {p : Program} {l : Launch} {e : Env} {R : Room} {s : State} {m : MethodId} {args : Array Value} {below : List Frame} {meth : Method} {c : Code} {T : State} {locs : List Loc} {cells slots : Nat} {K : State → Prop} {Ls : Array Slot} {rest : List Value} {pc : Nat} {bytes : ByteArray}
def Goes (p : Program) (e : Env) (below : List Frame) (K : State → Prop) (S : State) : Prop := ∃ t, Steps p.tables e below S t ∧ K t
theorem Goes.of {S S' : State} (st : ∀ t, Steps p.tables e below S' t → Steps p.tables e below S t) (h : Goes p e below K S') : Goes p e below K S := h.elim fun t ht => ⟨t, st t ht.1, ht.2⟩
theorem Goes.entry {g g' : JFrame} (q : g = g') (k : Goes p e below K (T.setTop g')) : Goes p e below K (T.setTop g) := q ▸ k
def Kend (s : State) (below : List Frame) (Q : Option Value → Heap → List Loc → Prop) (C S : Nat) (t : State) : Prop := ∃ o, t.status = .running ∧ Ended t below o ∧ ∃ v L, o = .returned v ∧ Q v t.heap L ∧ FrameEnd s o t L C S
def Ctr (l : Launch) (y : MethodName) (bytes : ByteArray) (maxL : Nat) (ret : Option FieldType) (ws : List Jvm.Cond) (rm : Room) (as' : Array Value) (Z : State) (h0 : Heap) (Q : Option Value → Heap → List Loc → Prop) : Prop :=
  MetFree l y (head1 (Jvm.Cond.code y bytes maxL ret :: ws) rm) (fun a U => a = as' ∧ Z.Warmed39 U.vm ∧ U.heap = h0) (fun _ _ _ _ _ => True) (fun _ U o U' => ∃ v L, o = .returned v ∧ Q v U'.heap L ∧ FrameEnd U o U' L rm.cells rm.slots)
theorem own_body {y : MethodName} {maxL : Nat} {ret : Option FieldType} {ws : List Jvm.Cond} {rm : Room} {as' : Array Value} {Z : State} {h0 : Heap} {Q : Option Value → Heap → List Loc → Prop} (hpl : plainFor y = true)
    (H : ∀ (p : Program) (e : Env) (s : State) (m : MethodId) (below : List Frame) (meth : Method) (c : Code) (s₁ : State), p.tables.exec = Jvm.exec → c.code = bytes → c.maxLocals = maxL → s.vm.findClass y.cls = some m.cls → meth.name = y.name → meth.sig.returnType = ret → meth.locks = false → Z.Warmed39 s.vm →
      Stand p l e rm s m as' below meth c s₁ [] 0 0 → s₁.heap = h0 → Goes p e below (Kend s below Q rm.cells rm.slots) (s₁.setTop (entryFrame m as' maxL))) : Ctr l y bytes maxL ret ws rm as' Z h0 Q := by
  refine MetFree.of_bodySF hpl hisR ?_
  intro p e s m args below meth c s₁ Bd hml0 hP hK
  obtain ⟨rfl, hZ, hh⟩ := hP
  obtain ⟨t, h1, o, h2, h3, h4⟩ := H p e s m below meth c s₁ Bd.exec Bd.bytes hml0 (findClass_of_methodNamed Bd.named) (name_of_methodNamed Bd.named Bd.method).1 Bd.returns Bd.notSynchronized hZ (Stand.of_body Bd) (by rw [← hh, Bd.state]; rfl)
  exact ⟨t, o, h1, h2, h3, h4⟩

theorem own_store1 {l l' : Array Slot} {i : Nat} {v : Value} {o : Slot} (hold : l[i]? = some o) (ho : One o) (hv : v.category = 1) (e : l.setIfInBounds i (.val v) = l') : storeLocals l i v = some l' := e ▸ XS.store1 hold ho hv
theorem g_iadd (X : Stand p l e R s m args below meth c T locs cells slots) (hx : p.tables.exec = Jvm.exec) (hby : c.code = bytes) {x y : Int32} (hd : decode bytes pc = .ok (.iadd, 1)) (q : Nat) (hq : pc + 1 = q) (k : Goes p e below K (T.setTop (mkF m q Ls (.int (x + y) :: rest)))) : Goes p e below K (T.setTop (mkF m pc Ls (.int y :: .int x :: rest))) := by
  subst hq; exact Goes.of (fun t kt => XS.iadd X.here hx rfl (hb hby hd) rfl kt) k
theorem g_isub (X : Stand p l e R s m args below meth c T locs cells slots) (hx : p.tables.exec = Jvm.exec) (hby : c.code = bytes) {x y : Int32} (hd : decode bytes pc = .ok (.isub, 1)) (q : Nat) (hq : pc + 1 = q) (k : Goes p e below K (T.setTop (mkF m q Ls (.int (x - y) :: rest)))) : Goes p e below K (T.setTop (mkF m pc Ls (.int y :: .int x :: rest))) := by
  subst hq; exact Goes.of (fun t kt => XS.isub X.here hx rfl (hb hby hd) rfl kt) k
theorem g_imul (X : Stand p l e R s m args below meth c T locs cells slots) (hx : p.tables.exec = Jvm.exec) (hby : c.code = bytes) {x y : Int32} (hd : decode bytes pc = .ok (.imul, 1)) (q : Nat) (hq : pc + 1 = q) (k : Goes p e below K (T.setTop (mkF m q Ls (.int (x * y) :: rest)))) : Goes p e below K (T.setTop (mkF m pc Ls (.int y :: .int x :: rest))) := by
  subst hq; exact Goes.of (fun t kt => XS.imul X.here hx rfl (hb hby hd) rfl kt) k
theorem g_iand (X : Stand p l e R s m args below meth c T locs cells slots) (hx : p.tables.exec = Jvm.exec) (hby : c.code = bytes) {x y : Int32} (hd : decode bytes pc = .ok (.iand, 1)) (q : Nat) (hq : pc + 1 = q) (k : Goes p e below K (T.setTop (mkF m q Ls (.int (x &&& y) :: rest)))) : Goes p e below K (T.setTop (mkF m pc Ls (.int y :: .int x :: rest))) := by
  subst hq; exact Goes.of (fun t kt => XS.iand X.here hx rfl (hb hby hd) rfl kt) k
theorem g_ior (X : Stand p l e R s m args below meth c T locs cells slots) (hx : p.tables.exec = Jvm.exec) (hby : c.code = bytes) {x y : Int32} (hd : decode bytes pc = .ok (.ior, 1)) (q : Nat) (hq : pc + 1 = q) (k : Goes p e below K (T.setTop (mkF m q Ls (.int (x ||| y) :: rest)))) : Goes p e below K (T.setTop (mkF m pc Ls (.int y :: .int x :: rest))) := by
  subst hq; exact Goes.of (fun t kt => XS.ior X.here hx rfl (hb hby hd) rfl kt) k
theorem g_ixor (X : Stand p l e R s m args below meth c T locs cells slots) (hx : p.tables.exec = Jvm.exec) (hby : c.code = bytes) {x y : Int32} (hd : decode bytes pc = .ok (.ixor, 1)) (q : Nat) (hq : pc + 1 = q) (k : Goes p e below K (T.setTop (mkF m q Ls (.int (x ^^^ y) :: rest)))) : Goes p e below K (T.setTop (mkF m pc Ls (.int y :: .int x :: rest))) := by
  subst hq; exact Goes.of (fun t kt => XS.ixor X.here hx rfl (hb hby hd) rfl kt) k
theorem g_ishl (X : Stand p l e R s m args below meth c T locs cells slots) (hx : p.tables.exec = Jvm.exec) (hby : c.code = bytes) {x y : Int32} (hd : decode bytes pc = .ok (.ishl, 1)) (q : Nat) (hq : pc + 1 = q) (k : Goes p e below K (T.setTop (mkF m q Ls (.int (x <<< (y &&& 31)) :: rest)))) : Goes p e below K (T.setTop (mkF m pc Ls (.int y :: .int x :: rest))) := by
  subst hq; exact Goes.of (fun t kt => XS.ishl X.here hx rfl (hb hby hd) rfl kt) k
theorem g_ishr (X : Stand p l e R s m args below meth c T locs cells slots) (hx : p.tables.exec = Jvm.exec) (hby : c.code = bytes) {x y : Int32} (hd : decode bytes pc = .ok (.ishr, 1)) (q : Nat) (hq : pc + 1 = q) (k : Goes p e below K (T.setTop (mkF m q Ls (.int (x >>> (y &&& 31)) :: rest)))) : Goes p e below K (T.setTop (mkF m pc Ls (.int y :: .int x :: rest))) := by
  subst hq; exact Goes.of (fun t kt => XS.ishr X.here hx rfl (hb hby hd) rfl kt) k
theorem g_iushr (X : Stand p l e R s m args below meth c T locs cells slots) (hx : p.tables.exec = Jvm.exec) (hby : c.code = bytes) {x y : Int32} (hd : decode bytes pc = .ok (.iushr, 1)) (q : Nat) (hq : pc + 1 = q) (k : Goes p e below K (T.setTop (mkF m q Ls (.int ((x.toUInt32 >>> (y &&& 31).toUInt32).toInt32) :: rest)))) : Goes p e below K (T.setTop (mkF m pc Ls (.int y :: .int x :: rest))) := by
  subst hq; exact Goes.of (fun t kt => XS.iushr X.here hx rfl (hb hby hd) rfl kt) k
theorem g_ladd (X : Stand p l e R s m args below meth c T locs cells slots) (hx : p.tables.exec = Jvm.exec) (hby : c.code = bytes) {x y : Int64} (hd : decode bytes pc = .ok (.ladd, 1)) (q : Nat) (hq : pc + 1 = q) (k : Goes p e below K (T.setTop (mkF m q Ls (.long (x + y) :: rest)))) : Goes p e below K (T.setTop (mkF m pc Ls (.long y :: .long x :: rest))) := by
  subst hq; exact Goes.of (fun t kt => XS.ladd X.here hx rfl (hb hby hd) rfl kt) k
theorem g_lsub (X : Stand p l e R s m args below meth c T locs cells slots) (hx : p.tables.exec = Jvm.exec) (hby : c.code = bytes) {x y : Int64} (hd : decode bytes pc = .ok (.lsub, 1)) (q : Nat) (hq : pc + 1 = q) (k : Goes p e below K (T.setTop (mkF m q Ls (.long (x - y) :: rest)))) : Goes p e below K (T.setTop (mkF m pc Ls (.long y :: .long x :: rest))) := by
  subst hq; exact Goes.of (fun t kt => XS.lsub X.here hx rfl (hb hby hd) rfl kt) k
theorem g_lmul (X : Stand p l e R s m args below meth c T locs cells slots) (hx : p.tables.exec = Jvm.exec) (hby : c.code = bytes) {x y : Int64} (hd : decode bytes pc = .ok (.lmul, 1)) (q : Nat) (hq : pc + 1 = q) (k : Goes p e below K (T.setTop (mkF m q Ls (.long (x * y) :: rest)))) : Goes p e below K (T.setTop (mkF m pc Ls (.long y :: .long x :: rest))) := by
  subst hq; exact Goes.of (fun t kt => XS.lmul X.here hx rfl (hb hby hd) rfl kt) k
theorem g_land (X : Stand p l e R s m args below meth c T locs cells slots) (hx : p.tables.exec = Jvm.exec) (hby : c.code = bytes) {x y : Int64} (hd : decode bytes pc = .ok (.land, 1)) (q : Nat) (hq : pc + 1 = q) (k : Goes p e below K (T.setTop (mkF m q Ls (.long (x &&& y) :: rest)))) : Goes p e below K (T.setTop (mkF m pc Ls (.long y :: .long x :: rest))) := by
  subst hq; exact Goes.of (fun t kt => XS.land X.here hx rfl (hb hby hd) rfl kt) k
theorem g_lor (X : Stand p l e R s m args below meth c T locs cells slots) (hx : p.tables.exec = Jvm.exec) (hby : c.code = bytes) {x y : Int64} (hd : decode bytes pc = .ok (.lor, 1)) (q : Nat) (hq : pc + 1 = q) (k : Goes p e below K (T.setTop (mkF m q Ls (.long (x ||| y) :: rest)))) : Goes p e below K (T.setTop (mkF m pc Ls (.long y :: .long x :: rest))) := by
  subst hq; exact Goes.of (fun t kt => XS.lor X.here hx rfl (hb hby hd) rfl kt) k
theorem g_lxor (X : Stand p l e R s m args below meth c T locs cells slots) (hx : p.tables.exec = Jvm.exec) (hby : c.code = bytes) {x y : Int64} (hd : decode bytes pc = .ok (.lxor, 1)) (q : Nat) (hq : pc + 1 = q) (k : Goes p e below K (T.setTop (mkF m q Ls (.long (x ^^^ y) :: rest)))) : Goes p e below K (T.setTop (mkF m pc Ls (.long y :: .long x :: rest))) := by
  subst hq; exact Goes.of (fun t kt => XS.lxor X.here hx rfl (hb hby hd) rfl kt) k
theorem g_lshl (X : Stand p l e R s m args below meth c T locs cells slots) (hx : p.tables.exec = Jvm.exec) (hby : c.code = bytes) {x : Int64} {y : Int32} (hd : decode bytes pc = .ok (.lshl, 1)) (q : Nat) (hq : pc + 1 = q) (k : Goes p e below K (T.setTop (mkF m q Ls (.long (x <<< (y &&& 0x3f).toInt64) :: rest)))) : Goes p e below K (T.setTop (mkF m pc Ls (.int y :: .long x :: rest))) := by
  subst hq; exact Goes.of (fun t kt => XS.lshl X.here hx rfl (hb hby hd) rfl kt) k
theorem g_lshr (X : Stand p l e R s m args below meth c T locs cells slots) (hx : p.tables.exec = Jvm.exec) (hby : c.code = bytes) {x : Int64} {y : Int32} (hd : decode bytes pc = .ok (.lshr, 1)) (q : Nat) (hq : pc + 1 = q) (k : Goes p e below K (T.setTop (mkF m q Ls (.long (x >>> (y &&& 0x3f).toInt64) :: rest)))) : Goes p e below K (T.setTop (mkF m pc Ls (.int y :: .long x :: rest))) := by
  subst hq; exact Goes.of (fun t kt => XS.lshr X.here hx rfl (hb hby hd) rfl kt) k
theorem g_lushr (X : Stand p l e R s m args below meth c T locs cells slots) (hx : p.tables.exec = Jvm.exec) (hby : c.code = bytes) {x : Int64} {y : Int32} (hd : decode bytes pc = .ok (.lushr, 1)) (q : Nat) (hq : pc + 1 = q) (k : Goes p e below K (T.setTop (mkF m q Ls (.long ((x.toUInt64 >>> (y &&& 0x3f).toInt64.toUInt64).toInt64) :: rest)))) : Goes p e below K (T.setTop (mkF m pc Ls (.int y :: .long x :: rest))) := by
  subst hq; exact Goes.of (fun t kt => XS.lushr X.here hx rfl (hb hby hd) rfl kt) k
theorem g_idiv (X : Stand p l e R s m args below meth c T locs cells slots) (hx : p.tables.exec = Jvm.exec) (hby : c.code = bytes) {x y : Int32} (hd : decode bytes pc = .ok (.idiv, 1)) (hy : y ≠ 0) (q : Nat) (hq : pc + 1 = q) (k : Goes p e below K (T.setTop (mkF m q Ls (.int (x / y) :: rest)))) : Goes p e below K (T.setTop (mkF m pc Ls (.int y :: .int x :: rest))) := by
  subst hq; exact Goes.of (fun t kt => XS.idiv X.here hx rfl (hb hby hd) rfl hy kt) k
theorem g_ldiv (X : Stand p l e R s m args below meth c T locs cells slots) (hx : p.tables.exec = Jvm.exec) (hby : c.code = bytes) {x y : Int64} (hd : decode bytes pc = .ok (.ldiv, 1)) (hy : y ≠ 0) (q : Nat) (hq : pc + 1 = q) (k : Goes p e below K (T.setTop (mkF m q Ls (.long (x / y) :: rest)))) : Goes p e below K (T.setTop (mkF m pc Ls (.long y :: .long x :: rest))) := by
  subst hq; exact Goes.of (fun t kt => XS.ldiv X.here hx rfl (hb hby hd) rfl hy kt) k
theorem g_irem (X : Stand p l e R s m args below meth c T locs cells slots) (hx : p.tables.exec = Jvm.exec) (hby : c.code = bytes) {x y : Int32} (hd : decode bytes pc = .ok (.irem, 1)) (hy : y ≠ 0) (q : Nat) (hq : pc + 1 = q) (k : Goes p e below K (T.setTop (mkF m q Ls (.int (x % y) :: rest)))) : Goes p e below K (T.setTop (mkF m pc Ls (.int y :: .int x :: rest))) := by
  subst hq; exact Goes.of (fun t kt => iremM X hx rfl (hb hby hd) rfl hy kt) k
theorem g_lrem (X : Stand p l e R s m args below meth c T locs cells slots) (hx : p.tables.exec = Jvm.exec) (hby : c.code = bytes) {x y : Int64} (hd : decode bytes pc = .ok (.lrem, 1)) (hy : y ≠ 0) (q : Nat) (hq : pc + 1 = q) (k : Goes p e below K (T.setTop (mkF m q Ls (.long (x % y) :: rest)))) : Goes p e below K (T.setTop (mkF m pc Ls (.long y :: .long x :: rest))) := by
  subst hq; rw [← lrem_mod x y] at k; exact Goes.of (fun t kt => XS.lrem X.here hx rfl (hb hby hd) rfl hy kt) k
theorem g_ineg (X : Stand p l e R s m args below meth c T locs cells slots) (hx : p.tables.exec = Jvm.exec) (hby : c.code = bytes) {x : Int32} (hd : decode bytes pc = .ok (.ineg, 1)) (q : Nat) (hq : pc + 1 = q) (k : Goes p e below K (T.setTop (mkF m q Ls (.int (-x) :: rest)))) : Goes p e below K (T.setTop (mkF m pc Ls (.int x :: rest))) := by
  subst hq; exact Goes.of (fun t kt => XS.ineg X.here hx rfl (hb hby hd) rfl kt) k
theorem g_lneg (X : Stand p l e R s m args below meth c T locs cells slots) (hx : p.tables.exec = Jvm.exec) (hby : c.code = bytes) {x : Int64} (hd : decode bytes pc = .ok (.lneg, 1)) (q : Nat) (hq : pc + 1 = q) (k : Goes p e below K (T.setTop (mkF m q Ls (.long (-x) :: rest)))) : Goes p e below K (T.setTop (mkF m pc Ls (.long x :: rest))) := by
  subst hq; exact Goes.of (fun t kt => XS.lneg X.here hx rfl (hb hby hd) rfl kt) k
theorem g_i2l (X : Stand p l e R s m args below meth c T locs cells slots) (hx : p.tables.exec = Jvm.exec) (hby : c.code = bytes) {x : Int32} (hd : decode bytes pc = .ok (.i2l, 1)) (q : Nat) (hq : pc + 1 = q) (k : Goes p e below K (T.setTop (mkF m q Ls (.long (x.toInt64) :: rest)))) : Goes p e below K (T.setTop (mkF m pc Ls (.int x :: rest))) := by
  subst hq; exact Goes.of (fun t kt => XS.i2l X.here hx rfl (hb hby hd) rfl kt) k
theorem g_l2i (X : Stand p l e R s m args below meth c T locs cells slots) (hx : p.tables.exec = Jvm.exec) (hby : c.code = bytes) {x : Int64} (hd : decode bytes pc = .ok (.l2i, 1)) (q : Nat) (hq : pc + 1 = q) (k : Goes p e below K (T.setTop (mkF m q Ls (.int (x.toInt32) :: rest)))) : Goes p e below K (T.setTop (mkF m pc Ls (.long x :: rest))) := by
  subst hq; exact Goes.of (fun t kt => XS.l2i X.here hx rfl (hb hby hd) rfl kt) k
theorem g_i2b (X : Stand p l e R s m args below meth c T locs cells slots) (hx : p.tables.exec = Jvm.exec) (hby : c.code = bytes) {x : Int32} (hd : decode bytes pc = .ok (.i2b, 1)) (q : Nat) (hq : pc + 1 = q) (k : Goes p e below K (T.setTop (mkF m q Ls (.int (x.toInt8.toInt32) :: rest)))) : Goes p e below K (T.setTop (mkF m pc Ls (.int x :: rest))) := by
  subst hq; exact Goes.of (fun t kt => XS.i2b X.here hx rfl (hb hby hd) rfl kt) k
theorem g_i2s (X : Stand p l e R s m args below meth c T locs cells slots) (hx : p.tables.exec = Jvm.exec) (hby : c.code = bytes) {x : Int32} (hd : decode bytes pc = .ok (.i2s, 1)) (q : Nat) (hq : pc + 1 = q) (k : Goes p e below K (T.setTop (mkF m q Ls (.int (x.toInt16.toInt32) :: rest)))) : Goes p e below K (T.setTop (mkF m pc Ls (.int x :: rest))) := by
  subst hq; exact Goes.of (fun t kt => XS.i2s X.here hx rfl (hb hby hd) rfl kt) k
theorem g_i2c (X : Stand p l e R s m args below meth c T locs cells slots) (hx : p.tables.exec = Jvm.exec) (hby : c.code = bytes) {x : Int32} (hd : decode bytes pc = .ok (.i2c, 1)) (q : Nat) (hq : pc + 1 = q) (k : Goes p e below K (T.setTop (mkF m q Ls (.int (x.toUInt32.toUInt16.toUInt32.toInt32) :: rest)))) : Goes p e below K (T.setTop (mkF m pc Ls (.int x :: rest))) := by
  subst hq; exact Goes.of (fun t kt => XS.i2c X.here hx rfl (hb hby hd) rfl kt) k
theorem g_iloadN (X : Stand p l e R s m args below meth c T locs cells slots) (hx : p.tables.exec = Jvm.exec) (hby : c.code = bytes) {k : Fin 4} {v : Int32} (hd : decode bytes pc = .ok (.iload_n k, 1)) (hl : Ls[k.val]? = some (.val (.int v))) (q : Nat) (hq : pc + 1 = q) (k : Goes p e below K (T.setTop (mkF m q Ls (.int v :: rest)))) : Goes p e below K (T.setTop (mkF m pc Ls rest)) := by
  subst hq; exact Goes.of (fun t kt => XS.iloadN X.here hx rfl (hb hby hd) hl kt) k
theorem g_iload (X : Stand p l e R s m args below meth c T locs cells slots) (hx : p.tables.exec = Jvm.exec) (hby : c.code = bytes) {k : Nat} {v : Int32} (hd : decode bytes pc = .ok (.iload k, 2)) (hl : Ls[k]? = some (.val (.int v))) (q : Nat) (hq : pc + 2 = q) (k : Goes p e below K (T.setTop (mkF m q Ls (.int v :: rest)))) : Goes p e below K (T.setTop (mkF m pc Ls rest)) := by
  subst hq; exact Goes.of (fun t kt => XS.iload X.here hx rfl (hb hby hd) hl kt) k
theorem g_lloadN (X : Stand p l e R s m args below meth c T locs cells slots) (hx : p.tables.exec = Jvm.exec) (hby : c.code = bytes) {k : Fin 4} {v : Int64} (hd : decode bytes pc = .ok (.lload_n k, 1)) (hl : Ls[k.val]? = some (.val (.long v))) (q : Nat) (hq : pc + 1 = q) (k : Goes p e below K (T.setTop (mkF m q Ls (.long v :: rest)))) : Goes p e below K (T.setTop (mkF m pc Ls rest)) := by
  subst hq; exact Goes.of (fun t kt => XS.lloadN X.here hx rfl (hb hby hd) hl kt) k
theorem g_lload (X : Stand p l e R s m args below meth c T locs cells slots) (hx : p.tables.exec = Jvm.exec) (hby : c.code = bytes) {k : Nat} {v : Int64} (hd : decode bytes pc = .ok (.lload k, 2)) (hl : Ls[k]? = some (.val (.long v))) (q : Nat) (hq : pc + 2 = q) (k : Goes p e below K (T.setTop (mkF m q Ls (.long v :: rest)))) : Goes p e below K (T.setTop (mkF m pc Ls rest)) := by
  subst hq; exact Goes.of (fun t kt => XS.lload X.here hx rfl (hb hby hd) hl kt) k
theorem g_aloadN (X : Stand p l e R s m args below meth c T locs cells slots) (hx : p.tables.exec = Jvm.exec) (hby : c.code = bytes) {k : Fin 4} {v : Value} (hd : decode bytes pc = .ok (.aload_n k, 1)) (hl : Ls[k.val]? = some (.val v)) (hv : v.isRef = true) (q : Nat) (hq : pc + 1 = q) (k : Goes p e below K (T.setTop (mkF m q Ls (v :: rest)))) : Goes p e below K (T.setTop (mkF m pc Ls rest)) := by
  subst hq; exact Goes.of (fun t kt => XS.aloadN X.here hx rfl (hb hby hd) hl hv kt) k
theorem g_aload (X : Stand p l e R s m args below meth c T locs cells slots) (hx : p.tables.exec = Jvm.exec) (hby : c.code = bytes) {k : Nat} {v : Value} (hd : decode bytes pc = .ok (.aload k, 2)) (hl : Ls[k]? = some (.val v)) (hv : v.isRef = true) (q : Nat) (hq : pc + 2 = q) (k : Goes p e below K (T.setTop (mkF m q Ls (v :: rest)))) : Goes p e below K (T.setTop (mkF m pc Ls rest)) := by
  subst hq; exact Goes.of (fun t kt => XS.aload X.here hx rfl (hb hby hd) hl hv kt) k
theorem g_istoreN (X : Stand p l e R s m args below meth c T locs cells slots) (hx : p.tables.exec = Jvm.exec) (hby : c.code = bytes) {k : Fin 4} {x : Int32} (hd : decode bytes pc = .ok (.istore_n k, 1)) (y : Int32) (hxy : x = y) (L' : Array Slot) (hl : storeLocals Ls k.val (.int y) = some L') (q : Nat) (hq : pc + 1 = q) (k : Goes p e below K (T.setTop (mkF m q L' rest))) : Goes p e below K (T.setTop (mkF m pc Ls (.int x :: rest))) := by
  subst hq hxy; exact Goes.of (fun t kt => XS.istoreN X.here hx rfl (hb hby hd) rfl hl kt) k
theorem g_istore (X : Stand p l e R s m args below meth c T locs cells slots) (hx : p.tables.exec = Jvm.exec) (hby : c.code = bytes) {k : Nat} {x : Int32} (hd : decode bytes pc = .ok (.istore k, 2)) (y : Int32) (hxy : x = y) (L' : Array Slot) (hl : storeLocals Ls k (.int y) = some L') (q : Nat) (hq : pc + 2 = q) (k : Goes p e below K (T.setTop (mkF m q L' rest))) : Goes p e below K (T.setTop (mkF m pc Ls (.int x :: rest))) := by
  subst hq hxy; exact Goes.of (fun t kt => XS.istore X.here hx rfl (hb hby hd) rfl hl kt) k
theorem g_lstoreN (X : Stand p l e R s m args below meth c T locs cells slots) (hx : p.tables.exec = Jvm.exec) (hby : c.code = bytes) {k : Fin 4} {x : Int64} (hd : decode bytes pc = .ok (.lstore_n k, 1)) (y : Int64) (hxy : x = y) (L' : Array Slot) (hl : storeLocals Ls k.val (.long y) = some L') (q : Nat) (hq : pc + 1 = q) (k : Goes p e below K (T.setTop (mkF m q L' rest))) : Goes p e below K (T.setTop (mkF m pc Ls (.long x :: rest))) := by
  subst hq hxy; exact Goes.of (fun t kt => XS.lstoreN X.here hx rfl (hb hby hd) rfl hl kt) k
theorem g_lstore (X : Stand p l e R s m args below meth c T locs cells slots) (hx : p.tables.exec = Jvm.exec) (hby : c.code = bytes) {k : Nat} {x : Int64} (hd : decode bytes pc = .ok (.lstore k, 2)) (y : Int64) (hxy : x = y) (L' : Array Slot) (hl : storeLocals Ls k (.long y) = some L') (q : Nat) (hq : pc + 2 = q) (k : Goes p e below K (T.setTop (mkF m q L' rest))) : Goes p e below K (T.setTop (mkF m pc Ls (.long x :: rest))) := by
  subst hq hxy; exact Goes.of (fun t kt => XS.lstore X.here hx rfl (hb hby hd) rfl hl kt) k
theorem g_astoreN (X : Stand p l e R s m args below meth c T locs cells slots) (hx : p.tables.exec = Jvm.exec) (hby : c.code = bytes) {k : Fin 4} {x : Value} (hd : decode bytes pc = .ok (.astore_n k, 1)) (hv : x.isRef = true) (L' : Array Slot) (hl : storeLocals Ls k.val x = some L') (q : Nat) (hq : pc + 1 = q) (k : Goes p e below K (T.setTop (mkF m q L' rest))) : Goes p e below K (T.setTop (mkF m pc Ls (x :: rest))) := by
  subst hq; exact Goes.of (fun t kt => XS.astoreN X.here hx rfl (hb hby hd) rfl hv hl kt) k
theorem g_astore (X : Stand p l e R s m args below meth c T locs cells slots) (hx : p.tables.exec = Jvm.exec) (hby : c.code = bytes) {k : Nat} {x : Value} (hd : decode bytes pc = .ok (.astore k, 2)) (hv : x.isRef = true) (L' : Array Slot) (hl : storeLocals Ls k x = some L') (q : Nat) (hq : pc + 2 = q) (k : Goes p e below K (T.setTop (mkF m q L' rest))) : Goes p e below K (T.setTop (mkF m pc Ls (x :: rest))) := by
  subst hq; exact Goes.of (fun t kt => XS.astore X.here hx rfl (hb hby hd) rfl hv hl kt) k
theorem g_iconst (X : Stand p l e R s m args below meth c T locs cells slots) (hx : p.tables.exec = Jvm.exec) (hby : c.code = bytes) {i : Int} (hd : decode bytes pc = .ok (.iconst i, 1)) (v : Int32) (hv : Int32.ofInt i = v) (q : Nat) (hq : pc + 1 = q) (k : Goes p e below K (T.setTop (mkF m q Ls (.int v :: rest)))) : Goes p e below K (T.setTop (mkF m pc Ls rest)) := by
  subst hq hv; exact Goes.of (fun t kt => XS.iconst X.here hx rfl (hb hby hd) kt) k
theorem g_bipush (X : Stand p l e R s m args below meth c T locs cells slots) (hx : p.tables.exec = Jvm.exec) (hby : c.code = bytes) {i : Int} (hd : decode bytes pc = .ok (.bipush i, 2)) (v : Int32) (hv : (Int8.ofInt i).toInt32 = v) (q : Nat) (hq : pc + 2 = q) (k : Goes p e below K (T.setTop (mkF m q Ls (.int v :: rest)))) : Goes p e below K (T.setTop (mkF m pc Ls rest)) := by
  subst hq hv; exact Goes.of (fun t kt => XS.bipush X.here hx rfl (hb hby hd) kt) k
theorem g_sipush (X : Stand p l e R s m args below meth c T locs cells slots) (hx : p.tables.exec = Jvm.exec) (hby : c.code = bytes) {i : Int} (hd : decode bytes pc = .ok (.sipush i, 3)) (v : Int32) (hv : (Int16.ofInt i).toInt32 = v) (q : Nat) (hq : pc + 3 = q) (k : Goes p e below K (T.setTop (mkF m q Ls (.int v :: rest)))) : Goes p e below K (T.setTop (mkF m pc Ls rest)) := by
  subst hq hv; exact Goes.of (fun t kt => XS.sipush X.here hx rfl (hb hby hd) kt) k
theorem g_lconst (X : Stand p l e R s m args below meth c T locs cells slots) (hx : p.tables.exec = Jvm.exec) (hby : c.code = bytes) {i : Fin 2} (hd : decode bytes pc = .ok (.lconst i, 1)) (v : Int64) (hv : Int64.ofNat i = v) (q : Nat) (hq : pc + 1 = q) (k : Goes p e below K (T.setTop (mkF m q Ls (.long v :: rest)))) : Goes p e below K (T.setTop (mkF m pc Ls rest)) := by
  subst hq hv; exact Goes.of (fun t kt => XS.lconst X.here hx rfl (hb hby hd) kt) k
theorem g_aconst_null (X : Stand p l e R s m args below meth c T locs cells slots) (hx : p.tables.exec = Jvm.exec) (hby : c.code = bytes)  (hd : decode bytes pc = .ok (.aconst_null, 1)) (q : Nat) (hq : pc + 1 = q) (k : Goes p e below K (T.setTop (mkF m q Ls (.null :: rest)))) : Goes p e below K (T.setTop (mkF m pc Ls rest)) := by
  subst hq; exact Goes.of (fun t kt => XS.aconstNull X.here hx rfl (hb hby hd) kt) k
theorem g_dup (X : Stand p l e R s m args below meth c T locs cells slots) (hx : p.tables.exec = Jvm.exec) (hby : c.code = bytes) {x : Value} (hd : decode bytes pc = .ok (.dup, 1)) (hc : x.category = 1) (q : Nat) (hq : pc + 1 = q) (k : Goes p e below K (T.setTop (mkF m q Ls (x :: x :: rest)))) : Goes p e below K (T.setTop (mkF m pc Ls (x :: rest))) := by
  subst hq; exact Goes.of (fun t kt => XS.dup X.here hx rfl (hb hby hd) rfl hc kt) k
theorem g_pop (X : Stand p l e R s m args below meth c T locs cells slots) (hx : p.tables.exec = Jvm.exec) (hby : c.code = bytes) {x : Value} (hd : decode bytes pc = .ok (.pop, 1)) (hc : x.category = 1) (q : Nat) (hq : pc + 1 = q) (k : Goes p e below K (T.setTop (mkF m q Ls rest))) : Goes p e below K (T.setTop (mkF m pc Ls (x :: rest))) := by
  subst hq; exact Goes.of (fun t kt => XS.pop X.here hx rfl (hb hby hd) rfl hc kt) k
theorem g_dup_x1 (X : Stand p l e R s m args below meth c T locs cells slots) (hx : p.tables.exec = Jvm.exec) (hby : c.code = bytes) {x y : Value} (hd : decode bytes pc = .ok (.dup_x1, 1)) (hc : x.category = 1) (hc' : y.category = 1) (q : Nat) (hq : pc + 1 = q) (k : Goes p e below K (T.setTop (mkF m q Ls (x :: y :: x :: rest)))) : Goes p e below K (T.setTop (mkF m pc Ls (x :: y :: rest))) := by
  subst hq; exact Goes.of (fun t kt => XS.dupX1 X.here hx rfl (hb hby hd) rfl hc hc' kt) k
theorem g_dup2 (X : Stand p l e R s m args below meth c T locs cells slots) (hx : p.tables.exec = Jvm.exec) (hby : c.code = bytes) {x y : Value} (hd : decode bytes pc = .ok (.dup2, 1)) (hc : x.category = 1) (hc' : y.category = 1) (q : Nat) (hq : pc + 1 = q) (k : Goes p e below K (T.setTop (mkF m q Ls (x :: y :: x :: y :: rest)))) : Goes p e below K (T.setTop (mkF m pc Ls (x :: y :: rest))) := by
  subst hq; exact Goes.of (fun t kt => Jvm.Free.XT.dup2 X.here hx rfl (hb hby hd) rfl hc hc' kt) k
theorem g_iinc (X : Stand p l e R s m args below meth c T locs cells slots) (hx : p.tables.exec = Jvm.exec) (hby : c.code = bytes) {i : Int} {kk : Nat} {x : Int32} (hd : decode bytes pc = .ok (.iinc kk i, 3)) (v : Int32) (hv : Int32.ofInt i = v) (hl : Ls[kk]? = some (.val (.int x))) (y : Int32) (hxy : x + v = y) (L' : Array Slot) (hl' : storeLocals Ls kk (.int y) = some L') (q : Nat) (hq : pc + 3 = q) (k : Goes p e below K (T.setTop (mkF m q L' rest))) : Goes p e below K (T.setTop (mkF m pc Ls rest)) := by
  subst hq hv hxy; exact Goes.of (fun t kt => XS.iinc X.here hx rfl (hb hby hd) hl hl' kt) k
theorem g_goto (X : Stand p l e R s m args below meth c T locs cells slots) (hx : p.tables.exec = Jvm.exec) (hby : c.code = bytes) {o : Int} (hd : decode bytes pc = .ok (.goto o, 3)) (q : Nat) (ho : 0 ≤ (pc : Int) + o) (hq : ((pc : Int) + o).toNat = q) (k : Goes p e below K (T.setTop (mkF m q Ls rest))) : Goes p e below K (T.setTop (mkF m pc Ls rest)) :=
  Goes.of (fun t kt => XS.goto X.here hx rfl rfl (hb hby hd) ho hq kt) k
theorem g_icmp_eq (X : Stand p l e R s m args below meth c T locs cells slots) (hx : p.tables.exec = Jvm.exec) (hby : c.code = bytes) {x y : Int32} {o : Int} (hd : decode bytes pc = .ok (.if_icmp .eq o, 3)) (q r : Nat) (ho : 0 ≤ (pc : Int) + o) (hq : ((pc : Int) + o).toNat = q) (hr : pc + 3 = r) (kt : x = y → Goes p e below K (T.setTop (mkF m q Ls rest))) (kf : ¬ (x = y) → Goes p e below K (T.setTop (mkF m r Ls rest))) : Goes p e below K (T.setTop (mkF m pc Ls (.int y :: .int x :: rest))) := by
  subst hr
  by_cases h : x = y
  · exact Goes.of (fun t kt => XS.icmpYes X.here hx rfl rfl (hb hby hd) rfl (teq h).1 ho hq kt) (kt h)
  · exact Goes.of (fun t kt => XS.icmpNo X.here hx rfl (hb hby hd) rfl (feq h).1 kt) (kf h)
theorem g_if_eq (X : Stand p l e R s m args below meth c T locs cells slots) (hx : p.tables.exec = Jvm.exec) (hby : c.code = bytes) {x : Int32} {o : Int} (hd : decode bytes pc = .ok (.ifCond .eq o, 3)) (q r : Nat) (ho : 0 ≤ (pc : Int) + o) (hq : ((pc : Int) + o).toNat = q) (hr : pc + 3 = r) (kt : x = 0 → Goes p e below K (T.setTop (mkF m q Ls rest))) (kf : ¬ (x = 0) → Goes p e below K (T.setTop (mkF m r Ls rest))) : Goes p e below K (T.setTop (mkF m pc Ls (.int x :: rest))) := by
  subst hr
  by_cases h : x = 0
  · exact Goes.of (fun t kt => XS.ifYes X.here hx rfl rfl (hb hby hd) rfl ((if0 _ _).trans (teq h).1) ho hq kt) (kt h)
  · exact Goes.of (fun t kt => XS.ifNo X.here hx rfl (hb hby hd) rfl ((if0 _ _).trans (feq h).1) kt) (kf h)
theorem g_lcmp_eq (X : Stand p l e R s m args below meth c T locs cells slots) (hx : p.tables.exec = Jvm.exec) (hby : c.code = bytes) {x y : Int64} {o : Int} {pc2 : Nat} (hd : decode bytes pc = .ok (.lcmp, 1)) (hd2 : decode bytes pc2 = .ok (.ifCond .eq o, 3)) (q r : Nat) (h2 : pc + 1 = pc2) (ho : 0 ≤ (pc2 : Int) + o) (hq : ((pc2 : Int) + o).toNat = q) (hr : pc2 + 3 = r) (kt : x = y → Goes p e below K (T.setTop (mkF m q Ls rest))) (kf : ¬ (x = y) → Goes p e below K (T.setTop (mkF m r Ls rest))) : Goes p e below K (T.setTop (mkF m pc Ls (.long y :: .long x :: rest))) := by
  subst h2
  refine Goes.of (fun t kt => XS.lcmp X.here hx rfl (hb hby hd) rfl kt) ?_
  exact g_if_eq X hx hby hd2 q r ho hq hr (fun h => kt ((lw_eq x y).mp h)) (fun h => kf fun h' => h ((lw_eq x y).mpr h'))
theorem g_icmp_ne (X : Stand p l e R s m args below meth c T locs cells slots) (hx : p.tables.exec = Jvm.exec) (hby : c.code = bytes) {x y : Int32} {o : Int} (hd : decode bytes pc = .ok (.if_icmp .ne o, 3)) (q r : Nat) (ho : 0 ≤ (pc : Int) + o) (hq : ((pc : Int) + o).toNat = q) (hr : pc + 3 = r) (kt : x = y → Goes p e below K (T.setTop (mkF m r Ls rest))) (kf : ¬ (x = y) → Goes p e below K (T.setTop (mkF m q Ls rest))) : Goes p e below K (T.setTop (mkF m pc Ls (.int y :: .int x :: rest))) := by
  subst hr
  by_cases h : x = y
  · exact Goes.of (fun t kt => XS.icmpNo X.here hx rfl (hb hby hd) rfl (teq h).2 kt) (kt h)
  · exact Goes.of (fun t kt => XS.icmpYes X.here hx rfl rfl (hb hby hd) rfl (feq h).2 ho hq kt) (kf h)
theorem g_if_ne (X : Stand p l e R s m args below meth c T locs cells slots) (hx : p.tables.exec = Jvm.exec) (hby : c.code = bytes) {x : Int32} {o : Int} (hd : decode bytes pc = .ok (.ifCond .ne o, 3)) (q r : Nat) (ho : 0 ≤ (pc : Int) + o) (hq : ((pc : Int) + o).toNat = q) (hr : pc + 3 = r) (kt : x = 0 → Goes p e below K (T.setTop (mkF m r Ls rest))) (kf : ¬ (x = 0) → Goes p e below K (T.setTop (mkF m q Ls rest))) : Goes p e below K (T.setTop (mkF m pc Ls (.int x :: rest))) := by
  subst hr
  by_cases h : x = 0
  · exact Goes.of (fun t kt => XS.ifNo X.here hx rfl (hb hby hd) rfl ((if0 _ _).trans (teq h).2) kt) (kt h)
  · exact Goes.of (fun t kt => XS.ifYes X.here hx rfl rfl (hb hby hd) rfl ((if0 _ _).trans (feq h).2) ho hq kt) (kf h)
theorem g_lcmp_ne (X : Stand p l e R s m args below meth c T locs cells slots) (hx : p.tables.exec = Jvm.exec) (hby : c.code = bytes) {x y : Int64} {o : Int} {pc2 : Nat} (hd : decode bytes pc = .ok (.lcmp, 1)) (hd2 : decode bytes pc2 = .ok (.ifCond .ne o, 3)) (q r : Nat) (h2 : pc + 1 = pc2) (ho : 0 ≤ (pc2 : Int) + o) (hq : ((pc2 : Int) + o).toNat = q) (hr : pc2 + 3 = r) (kt : x = y → Goes p e below K (T.setTop (mkF m r Ls rest))) (kf : ¬ (x = y) → Goes p e below K (T.setTop (mkF m q Ls rest))) : Goes p e below K (T.setTop (mkF m pc Ls (.long y :: .long x :: rest))) := by
  subst h2
  refine Goes.of (fun t kt => XS.lcmp X.here hx rfl (hb hby hd) rfl kt) ?_
  exact g_if_ne X hx hby hd2 q r ho hq hr (fun h => kt ((lw_eq x y).mp h)) (fun h => kf fun h' => h ((lw_eq x y).mpr h'))
theorem g_icmp_lt (X : Stand p l e R s m args below meth c T locs cells slots) (hx : p.tables.exec = Jvm.exec) (hby : c.code = bytes) {x y : Int32} {o : Int} (hd : decode bytes pc = .ok (.if_icmp .lt o, 3)) (q r : Nat) (ho : 0 ≤ (pc : Int) + o) (hq : ((pc : Int) + o).toNat = q) (hr : pc + 3 = r) (kt : x < y → Goes p e below K (T.setTop (mkF m q Ls rest))) (kf : ¬ (x < y) → Goes p e below K (T.setTop (mkF m r Ls rest))) : Goes p e below K (T.setTop (mkF m pc Ls (.int y :: .int x :: rest))) := by
  subst hr
  by_cases h : x < y
  · exact Goes.of (fun t kt => XS.icmpYes X.here hx rfl rfl (hb hby hd) rfl (tlt h).1 ho hq kt) (kt h)
  · exact Goes.of (fun t kt => XS.icmpNo X.here hx rfl (hb hby hd) rfl (flt h).1 kt) (kf h)
theorem g_if_lt (X : Stand p l e R s m args below meth c T locs cells slots) (hx : p.tables.exec = Jvm.exec) (hby : c.code = bytes) {x : Int32} {o : Int} (hd : decode bytes pc = .ok (.ifCond .lt o, 3)) (q r : Nat) (ho : 0 ≤ (pc : Int) + o) (hq : ((pc : Int) + o).toNat = q) (hr : pc + 3 = r) (kt : x < 0 → Goes p e below K (T.setTop (mkF m q Ls rest))) (kf : ¬ (x < 0) → Goes p e below K (T.setTop (mkF m r Ls rest))) : Goes p e below K (T.setTop (mkF m pc Ls (.int x :: rest))) := by
  subst hr
  by_cases h : x < 0
  · exact Goes.of (fun t kt => XS.ifYes X.here hx rfl rfl (hb hby hd) rfl ((if0 _ _).trans (tlt h).1) ho hq kt) (kt h)
  · exact Goes.of (fun t kt => XS.ifNo X.here hx rfl (hb hby hd) rfl ((if0 _ _).trans (flt h).1) kt) (kf h)
theorem g_lcmp_lt (X : Stand p l e R s m args below meth c T locs cells slots) (hx : p.tables.exec = Jvm.exec) (hby : c.code = bytes) {x y : Int64} {o : Int} {pc2 : Nat} (hd : decode bytes pc = .ok (.lcmp, 1)) (hd2 : decode bytes pc2 = .ok (.ifCond .lt o, 3)) (q r : Nat) (h2 : pc + 1 = pc2) (ho : 0 ≤ (pc2 : Int) + o) (hq : ((pc2 : Int) + o).toNat = q) (hr : pc2 + 3 = r) (kt : x < y → Goes p e below K (T.setTop (mkF m q Ls rest))) (kf : ¬ (x < y) → Goes p e below K (T.setTop (mkF m r Ls rest))) : Goes p e below K (T.setTop (mkF m pc Ls (.long y :: .long x :: rest))) := by
  subst h2
  refine Goes.of (fun t kt => XS.lcmp X.here hx rfl (hb hby hd) rfl kt) ?_
  exact g_if_lt X hx hby hd2 q r ho hq hr (fun h => kt ((lw_lt x y).mp h)) (fun h => kf fun h' => h ((lw_lt x y).mpr h'))
theorem g_icmp_ge (X : Stand p l e R s m args below meth c T locs cells slots) (hx : p.tables.exec = Jvm.exec) (hby : c.code = bytes) {x y : Int32} {o : Int} (hd : decode bytes pc = .ok (.if_icmp .ge o, 3)) (q r : Nat) (ho : 0 ≤ (pc : Int) + o) (hq : ((pc : Int) + o).toNat = q) (hr : pc + 3 = r) (kt : x < y → Goes p e below K (T.setTop (mkF m r Ls rest))) (kf : ¬ (x < y) → Goes p e below K (T.setTop (mkF m q Ls rest))) : Goes p e below K (T.setTop (mkF m pc Ls (.int y :: .int x :: rest))) := by
  subst hr
  by_cases h : x < y
  · exact Goes.of (fun t kt => XS.icmpNo X.here hx rfl (hb hby hd) rfl (tlt h).2.1 kt) (kt h)
  · exact Goes.of (fun t kt => XS.icmpYes X.here hx rfl rfl (hb hby hd) rfl (flt h).2.1 ho hq kt) (kf h)
theorem g_if_ge (X : Stand p l e R s m args below meth c T locs cells slots) (hx : p.tables.exec = Jvm.exec) (hby : c.code = bytes) {x : Int32} {o : Int} (hd : decode bytes pc = .ok (.ifCond .ge o, 3)) (q r : Nat) (ho : 0 ≤ (pc : Int) + o) (hq : ((pc : Int) + o).toNat = q) (hr : pc + 3 = r) (kt : x < 0 → Goes p e below K (T.setTop (mkF m r Ls rest))) (kf : ¬ (x < 0) → Goes p e below K (T.setTop (mkF m q Ls rest))) : Goes p e below K (T.setTop (mkF m pc Ls (.int x :: rest))) := by
  subst hr
  by_cases h : x < 0
  · exact Goes.of (fun t kt => XS.ifNo X.here hx rfl (hb hby hd) rfl ((if0 _ _).trans (tlt h).2.1) kt) (kt h)
  · exact Goes.of (fun t kt => XS.ifYes X.here hx rfl rfl (hb hby hd) rfl ((if0 _ _).trans (flt h).2.1) ho hq kt) (kf h)
theorem g_lcmp_ge (X : Stand p l e R s m args below meth c T locs cells slots) (hx : p.tables.exec = Jvm.exec) (hby : c.code = bytes) {x y : Int64} {o : Int} {pc2 : Nat} (hd : decode bytes pc = .ok (.lcmp, 1)) (hd2 : decode bytes pc2 = .ok (.ifCond .ge o, 3)) (q r : Nat) (h2 : pc + 1 = pc2) (ho : 0 ≤ (pc2 : Int) + o) (hq : ((pc2 : Int) + o).toNat = q) (hr : pc2 + 3 = r) (kt : x < y → Goes p e below K (T.setTop (mkF m r Ls rest))) (kf : ¬ (x < y) → Goes p e below K (T.setTop (mkF m q Ls rest))) : Goes p e below K (T.setTop (mkF m pc Ls (.long y :: .long x :: rest))) := by
  subst h2
  refine Goes.of (fun t kt => XS.lcmp X.here hx rfl (hb hby hd) rfl kt) ?_
  exact g_if_ge X hx hby hd2 q r ho hq hr (fun h => kt ((lw_lt x y).mp h)) (fun h => kf fun h' => h ((lw_lt x y).mpr h'))
theorem g_icmp_gt (X : Stand p l e R s m args below meth c T locs cells slots) (hx : p.tables.exec = Jvm.exec) (hby : c.code = bytes) {x y : Int32} {o : Int} (hd : decode bytes pc = .ok (.if_icmp .gt o, 3)) (q r : Nat) (ho : 0 ≤ (pc : Int) + o) (hq : ((pc : Int) + o).toNat = q) (hr : pc + 3 = r) (kt : y < x → Goes p e below K (T.setTop (mkF m q Ls rest))) (kf : ¬ (y < x) → Goes p e below K (T.setTop (mkF m r Ls rest))) : Goes p e below K (T.setTop (mkF m pc Ls (.int y :: .int x :: rest))) := by
  subst hr
  by_cases h : y < x
  · exact Goes.of (fun t kt => XS.icmpYes X.here hx rfl rfl (hb hby hd) rfl (tlt h).2.2.1 ho hq kt) (kt h)
  · exact Goes.of (fun t kt => XS.icmpNo X.here hx rfl (hb hby hd) rfl (flt h).2.2.1 kt) (kf h)
theorem g_if_gt (X : Stand p l e R s m args below meth c T locs cells slots) (hx : p.tables.exec = Jvm.exec) (hby : c.code = bytes) {x : Int32} {o : Int} (hd : decode bytes pc = .ok (.ifCond .gt o, 3)) (q r : Nat) (ho : 0 ≤ (pc : Int) + o) (hq : ((pc : Int) + o).toNat = q) (hr : pc + 3 = r) (kt : 0 < x → Goes p e below K (T.setTop (mkF m q Ls rest))) (kf : ¬ (0 < x) → Goes p e below K (T.setTop (mkF m r Ls rest))) : Goes p e below K (T.setTop (mkF m pc Ls (.int x :: rest))) := by
  subst hr
  by_cases h : 0 < x
  · exact Goes.of (fun t kt => XS.ifYes X.here hx rfl rfl (hb hby hd) rfl ((if0 _ _).trans (tlt h).2.2.1) ho hq kt) (kt h)
  · exact Goes.of (fun t kt => XS.ifNo X.here hx rfl (hb hby hd) rfl ((if0 _ _).trans (flt h).2.2.1) kt) (kf h)
theorem g_lcmp_gt (X : Stand p l e R s m args below meth c T locs cells slots) (hx : p.tables.exec = Jvm.exec) (hby : c.code = bytes) {x y : Int64} {o : Int} {pc2 : Nat} (hd : decode bytes pc = .ok (.lcmp, 1)) (hd2 : decode bytes pc2 = .ok (.ifCond .gt o, 3)) (q r : Nat) (h2 : pc + 1 = pc2) (ho : 0 ≤ (pc2 : Int) + o) (hq : ((pc2 : Int) + o).toNat = q) (hr : pc2 + 3 = r) (kt : y < x → Goes p e below K (T.setTop (mkF m q Ls rest))) (kf : ¬ (y < x) → Goes p e below K (T.setTop (mkF m r Ls rest))) : Goes p e below K (T.setTop (mkF m pc Ls (.long y :: .long x :: rest))) := by
  subst h2
  refine Goes.of (fun t kt => XS.lcmp X.here hx rfl (hb hby hd) rfl kt) ?_
  exact g_if_gt X hx hby hd2 q r ho hq hr (fun h => kt ((lw_gt x y).mp h)) (fun h => kf fun h' => h ((lw_gt x y).mpr h'))
theorem g_icmp_le (X : Stand p l e R s m args below meth c T locs cells slots) (hx : p.tables.exec = Jvm.exec) (hby : c.code = bytes) {x y : Int32} {o : Int} (hd : decode bytes pc = .ok (.if_icmp .le o, 3)) (q r : Nat) (ho : 0 ≤ (pc : Int) + o) (hq : ((pc : Int) + o).toNat = q) (hr : pc + 3 = r) (kt : y < x → Goes p e below K (T.setTop (mkF m r Ls rest))) (kf : ¬ (y < x) → Goes p e below K (T.setTop (mkF m q Ls rest))) : Goes p e below K (T.setTop (mkF m pc Ls (.int y :: .int x :: rest))) := by
  subst hr
  by_cases h : y < x
  · exact Goes.of (fun t kt => XS.icmpNo X.here hx rfl (hb hby hd) rfl (tlt h).2.2.2 kt) (kt h)
  · exact Goes.of (fun t kt => XS.icmpYes X.here hx rfl rfl (hb hby hd) rfl (flt h).2.2.2 ho hq kt) (kf h)
theorem g_if_le (X : Stand p l e R s m args below meth c T locs cells slots) (hx : p.tables.exec = Jvm.exec) (hby : c.code = bytes) {x : Int32} {o : Int} (hd : decode bytes pc = .ok (.ifCond .le o, 3)) (q r : Nat) (ho : 0 ≤ (pc : Int) + o) (hq : ((pc : Int) + o).toNat = q) (hr : pc + 3 = r) (kt : 0 < x → Goes p e below K (T.setTop (mkF m r Ls rest))) (kf : ¬ (0 < x) → Goes p e below K (T.setTop (mkF m q Ls rest))) : Goes p e below K (T.setTop (mkF m pc Ls (.int x :: rest))) := by
  subst hr
  by_cases h : 0 < x
  · exact Goes.of (fun t kt => XS.ifNo X.here hx rfl (hb hby hd) rfl ((if0 _ _).trans (tlt h).2.2.2) kt) (kt h)
  · exact Goes.of (fun t kt => XS.ifYes X.here hx rfl rfl (hb hby hd) rfl ((if0 _ _).trans (flt h).2.2.2) ho hq kt) (kf h)
theorem g_lcmp_le (X : Stand p l e R s m args below meth c T locs cells slots) (hx : p.tables.exec = Jvm.exec) (hby : c.code = bytes) {x y : Int64} {o : Int} {pc2 : Nat} (hd : decode bytes pc = .ok (.lcmp, 1)) (hd2 : decode bytes pc2 = .ok (.ifCond .le o, 3)) (q r : Nat) (h2 : pc + 1 = pc2) (ho : 0 ≤ (pc2 : Int) + o) (hq : ((pc2 : Int) + o).toNat = q) (hr : pc2 + 3 = r) (kt : y < x → Goes p e below K (T.setTop (mkF m r Ls rest))) (kf : ¬ (y < x) → Goes p e below K (T.setTop (mkF m q Ls rest))) : Goes p e below K (T.setTop (mkF m pc Ls (.long y :: .long x :: rest))) := by
  subst h2
  refine Goes.of (fun t kt => XS.lcmp X.here hx rfl (hb hby hd) rfl kt) ?_
  exact g_if_le X hx hby hd2 q r ho hq hr (fun h => kt ((lw_gt x y).mp h)) (fun h => kf fun h' => h ((lw_gt x y).mpr h'))
theorem g_ifnull_yes (X : Stand p l e R s m args below meth c T locs cells slots) (hx : p.tables.exec = Jvm.exec) (hby : c.code = bytes) {o : Int} (hd : decode bytes pc = .ok (.ifnull o, 3)) (q : Nat) (ho : 0 ≤ (pc : Int) + o) (hq : ((pc : Int) + o).toNat = q) (k : Goes p e below K (T.setTop (mkF m q Ls rest))) : Goes p e below K (T.setTop (mkF m pc Ls (.null :: rest))) :=
  Goes.of (fun t kt => XS.ifnullYes X.here hx rfl rfl (hb hby hd) rfl ho hq kt) k
theorem g_ifnull_no (X : Stand p l e R s m args below meth c T locs cells slots) (hx : p.tables.exec = Jvm.exec) (hby : c.code = bytes) {a : Addr} {o : Int} (hd : decode bytes pc = .ok (.ifnull o, 3)) (q : Nat) (hq : pc + 3 = q) (k : Goes p e below K (T.setTop (mkF m q Ls rest))) : Goes p e below K (T.setTop (mkF m pc Ls (.ref a :: rest))) := by
  subst hq; exact Goes.of (fun t kt => XS.ifnullNo X.here hx rfl (hb hby hd) rfl kt) k
theorem g_ifnonnull_yes (X : Stand p l e R s m args below meth c T locs cells slots) (hx : p.tables.exec = Jvm.exec) (hby : c.code = bytes) {a : Addr} {o : Int} (hd : decode bytes pc = .ok (.ifnonnull o, 3)) (q : Nat) (ho : 0 ≤ (pc : Int) + o) (hq : ((pc : Int) + o).toNat = q) (k : Goes p e below K (T.setTop (mkF m q Ls rest))) : Goes p e below K (T.setTop (mkF m pc Ls (.ref a :: rest))) :=
  Goes.of (fun t kt => XS.ifnonnullYes X.here hx rfl rfl (hb hby hd) rfl ho hq kt) k
theorem g_ifnonnull_no (X : Stand p l e R s m args below meth c T locs cells slots) (hx : p.tables.exec = Jvm.exec) (hby : c.code = bytes) {o : Int} (hd : decode bytes pc = .ok (.ifnonnull o, 3)) (q : Nat) (hq : pc + 3 = q) (k : Goes p e below K (T.setTop (mkF m q Ls rest))) : Goes p e below K (T.setTop (mkF m pc Ls (.null :: rest))) := by
  subst hq; exact Goes.of (fun t kt => XS.ifnonnullNo X.here hx rfl (hb hby hd) rfl kt) k
theorem g_acmp (X : Stand p l e R s m args below meth c T locs cells slots) (hx : p.tables.exec = Jvm.exec) (hby : c.code = bytes) {cd : ACond} {x y : Value} {o : Int} (hd : decode bytes pc = .ok (.if_acmp cd o, 3)) (h1 : x.isRef = true) (h2 : y.isRef = true) (same : Bool) (hs : decide (x = y) = same) (q : Nat) (ho : 0 ≤ (pc : Int) + o) (hq : q = if acV cd same = true then ((pc : Int) + o).toNat else pc + 3) (k : Goes p e below K (T.setTop (mkF m q Ls rest))) : Goes p e below K (T.setTop (mkF m pc Ls (y :: x :: rest))) :=
  Goes.of (fun t kt => Jvm.RoadKit.acmp X hx rfl h1 h2 rfl (hb hby hd) rfl hs ho hq kt) k
theorem g_ldc (X : Stand p l e R s m args below meth c T locs cells slots) (hx : p.tables.exec = Jvm.exec) (hby : c.code = bytes) {Z : State} {a0 : Array Value} (hZ : Z.Warmed39 s.vm) {own : String} {index : Nat} {v : Int32} (hown : s.vm.findClass own = some m.cls) (w : (Jvm.Cond.constant own index v).before a0 Z = true) (hd : decode bytes pc = .ok (.ldc index, 2)) (q : Nat) (hq : pc + 2 = q) (k : Goes p e below K (T.setTop (mkF m q Ls (.int v :: rest)))) : Goes p e below K (T.setTop (mkF m pc Ls rest)) := by
  subst hq; exact Goes.of (fun t kt => X.ldcInt hx hown (mvT hZ w) (g := mkF m pc Ls rest) rfl (hb hby hd) t kt) k
theorem g_ldc_w (X : Stand p l e R s m args below meth c T locs cells slots) (hx : p.tables.exec = Jvm.exec) (hby : c.code = bytes) {Z : State} {a0 : Array Value} (hZ : Z.Warmed39 s.vm) {own : String} {index : Nat} {v : Int32} (hown : s.vm.findClass own = some m.cls) (w : (Jvm.Cond.constant own index v).before a0 Z = true) (hd : decode bytes pc = .ok (.ldc_w index, 3)) (q : Nat) (hq : pc + 3 = q) (k : Goes p e below K (T.setTop (mkF m q Ls (.int v :: rest)))) : Goes p e below K (T.setTop (mkF m pc Ls rest)) := by
  subst hq; exact Goes.of (fun t kt => X.ldcwInt hx hown (mvT hZ w) (g := mkF m pc Ls rest) rfl (hb hby hd) t kt) k
theorem g_ldc2 (X : Stand p l e R s m args below meth c T locs cells slots) (hx : p.tables.exec = Jvm.exec) (hby : c.code = bytes) {Z : State} {a0 : Array Value} (hZ : Z.Warmed39 s.vm) {own : String} {index : Nat} {v : Int64} (hown : s.vm.findClass own = some m.cls) (w : (Jvm.Cond.constantLong own index v).before a0 Z = true) (hd : decode bytes pc = .ok (.ldc2_w index, 3)) (q : Nat) (hq : pc + 3 = q) (k : Goes p e below K (T.setTop (mkF m q Ls (.long v :: rest)))) : Goes p e below K (T.setTop (mkF m pc Ls rest)) := by
  subst hq; exact Goes.of (fun t kt => X.ldc2Long hx hown (mvT hZ w) (g := mkF m pc Ls rest) rfl (hb hby hd) t kt) k
theorem g_leave (X : Stand p l e R s m args below meth c T locs cells slots) {Q : Option Value → Heap → List Loc → Prop} {C S : Nat} {v : Option Value} (hv : meth.sig.returnType = none → v = none) (hlk : meth.locks = false) (hQ : Q v T.heap locs) (hc : cells ≤ C) (hs : slots ≤ S) {F : State}
    (st : ∀ fs : List Frame, (∀ (f : JFrame) (acts : List Action), f.method = m → f.locked = none → f.entered = [] → (doReturn e (T.setTop f) acts v).1 = T.setFrames fs) → Steps p.tables e below F (T.setFrames fs)) : Goes p e below (Kend s below Q C S) F := by
  obtain ⟨fs, hr, hrun, hended, hW, hsame⟩ := X.leave (v := v) hv hlk
  exact ⟨_, st fs hr, _, hrun, hended, v, locs, rfl, hQ, ⟨_, rfl⟩, hW, hsame.mono hc hs⟩
theorem g_ireturn (X : Stand p l e R s m args below meth c T locs cells slots) (hx : p.tables.exec = Jvm.exec) (hby : c.code = bytes) {Q : Option Value → Heap → List Loc → Prop} {C S : Nat} {z : Int32} {t : FieldType} (hret : meth.sig.returnType = some t) (hlk : meth.locks = false) (ht : t = .int ∨ t = .boolean ∨ t = .byte ∨ t = .char ∨ t = .short) (hn : narrow t (.int z) = .int z) (hd : decode bytes pc = .ok (.ireturn, 1)) (hQ : Q (some (.int z)) T.heap locs) (hc : cells ≤ C) (hs : slots ≤ S) : Goes p e below (Kend s below Q C S) (T.setTop (mkF m pc Ls (.int z :: rest))) :=
  g_leave X (v := some (.int z)) (fun h => by rw [hret] at h; cases h) hlk hQ hc hs fun fs hr => retOut X hx hret hn (Or.inl ⟨rfl, ht, z, rfl⟩) (hb hby hd) hr
theorem g_lreturn (X : Stand p l e R s m args below meth c T locs cells slots) (hx : p.tables.exec = Jvm.exec) (hby : c.code = bytes) {Q : Option Value → Heap → List Loc → Prop} {C S : Nat} {z : Int64} (hret : meth.sig.returnType = some .long) (hlk : meth.locks = false) (hd : decode bytes pc = .ok (.lreturn, 1)) (hQ : Q (some (.long z)) T.heap locs) (hc : cells ≤ C) (hs : slots ≤ S) : Goes p e below (Kend s below Q C S) (T.setTop (mkF m pc Ls (.long z :: rest))) :=
  g_leave X (v := some (.long z)) (fun h => by rw [hret] at h; cases h) hlk hQ hc hs fun fs hr => retOut X hx hret rfl (Or.inr (Or.inl ⟨rfl, rfl, z, rfl⟩)) (hb hby hd) hr
theorem g_areturn (X : Stand p l e R s m args below meth c T locs cells slots) (hx : p.tables.exec = Jvm.exec) (hby : c.code = bytes) {Q : Option Value → Heap → List Loc → Prop} {C S : Nat} {w : Value} {t : FieldType} (hret : meth.sig.returnType = some t) (hlk : meth.locks = false) (ht : t.isReference = true) (hw : w.isRef = true) (hn : narrow t w = w) (hd : decode bytes pc = .ok (.areturn, 1)) (hQ : Q (some w) T.heap locs) (hc : cells ≤ C) (hs : slots ≤ S) : Goes p e below (Kend s below Q C S) (T.setTop (mkF m pc Ls (w :: rest))) :=
  g_leave X (v := some w) (fun h => by rw [hret] at h; cases h) hlk hQ hc hs fun fs hr => retOut X hx hret hn (Or.inr (Or.inr (Or.inr (Or.inr ⟨rfl, ht, hw⟩)))) (hb hby hd) hr
theorem g_return (X : Stand p l e R s m args below meth c T locs cells slots) (hx : p.tables.exec = Jvm.exec) (hby : c.code = bytes) {Q : Option Value → Heap → List Loc → Prop} {C S : Nat} (hret : meth.sig.returnType = none) (hlk : meth.locks = false) (hd : decode bytes pc = .ok (.return_, 1)) (hQ : Q none T.heap locs) (hc : cells ≤ C) (hs : slots ≤ S) : Goes p e below (Kend s below Q C S) (T.setTop (mkF m pc Ls [])) :=
  g_leave X (v := none) (fun _ => rfl) hlk hQ hc hs fun fs hr => X.returnOut hx hret (hb hby hd) hr
theorem nar_bool {z : Int32} (h : z = 0 ∨ z = 1) : narrow .boolean (.int z) = .int z := by rcases h with rfl | rfl <;> rfl
theorem g_callS (X : Stand p l e R s m args below meth c T locs cells slots) (hx : p.tables.exec = Jvm.exec) (hby : c.code = bytes) {Z : State} {a0 : Array Value} (hZ : Z.Warmed39 s.vm) {own : String} {index : Nat} {y : MethodName} {cb : ByteArray} {maxL : Nat} {ret : Option FieldType} {rm : Room} {Q : Option Value → Heap → List Loc → Prop} {h : Heap} (hown : s.vm.findClass own = some m.cls) (w1 : (Jvm.Cond.methodLink own index y).before a0 Z = true) (w2 : (Jvm.Cond.static y).before a0 Z = true) (w3 : (Jvm.Cond.initialized y.cls).before a0 Z = true) (w4 : (Jvm.Cond.code y cb maxL ret).before a0 Z = true)
    (hd : decode bytes pc = .ok (.invokestatic index, 3)) (argsL rest : List Value) {st : List Value} (hM : Ctr l y cb maxL ret [] rm argsL.toArray Z h Q) (eT : T.heap = h) (hst : st = argsL.reverse ++ rest) (hsz : Ls.size = c.maxLocals) {ps : List FieldType} {rt : Option FieldType} (hpd : parseMethodDescriptor y.desc = some ⟨ps, rt⟩) (hlen : argsL.length = ps.length)
    (hy : y.cls ≠ "java/lang/invoke/MethodHandle" ∧ y.cls ≠ "java/lang/invoke/VarHandle") (W : Nat) (hW : (rest.map fun v => v.category).sum ≤ W) (hf : rm.frames + 1 ≤ R.frames) (hl : W + (maxL + 11) + rm.locals ≤ R.locals) (hc : cells + rm.cells ≤ R.cells) (hs : slots + rm.slots ≤ R.slots) (q : Nat) (hq : pc + 3 = q)
    (k : ∀ (T' : State) (v : Option Value) (L : List Loc), Stand p l e R s m args below meth c T' (locs ++ L) (cells + rm.cells) (slots + rm.slots) → Q v T'.heap L → Goes p e below K (T'.setTop (mkF m q Ls (v.toList ++ rest)))) : Goes p e below K (T.setTop (mkF m pc Ls st)) := by
  subst hq hst
  obtain ⟨v, _, ⟨T', L', k', n'⟩, -, X', ⟨Lc, hQ, l1, y1, z1⟩, st⟩ := Jvm.LawKit.callS X hx hown (mvT hZ w1) (mvT hZ w2) (mvT hZ w3) (mvT hZ w4) hy (backOf (W := W) hM hZ w4 w3 hf hl) (g := mkF m pc Ls (argsL.reverse ++ rest)) rfl hsz (argsL := argsL) (rest := rest) (lenOf hpd hlen) rfl (by show 2 * 0 + _ ≤ _; omega) (hb hby hd) (fun _ _ => ⟨rfl, eT, hc, hs⟩)
  dsimp only [Pt.U, Pt.locs, Pt.cells, Pt.slots] at X' l1 y1 z1 st hQ
  subst l1 y1 z1
  exact Goes.of st (k _ _ _ X' hQ)
theorem g_special (X : Stand p l e R s m args below meth c T locs cells slots) (hx : p.tables.exec = Jvm.exec) (hby : c.code = bytes) {Z : State} {a0 : Array Value} (hZ : Z.Warmed39 s.vm) {own : String} {index : Nat} {y : MethodName} {cb : ByteArray} {maxL : Nat} {rm : Room} {Q : Option Value → Heap → List Loc → Prop} {h : Heap} (hown : s.vm.findClass own = some m.cls) (hy1 : y.name = "<init>") (w1 : (Jvm.Cond.methodLink own index y).before a0 Z = true) (w2 : (Jvm.Cond.instanceMethod y).before a0 Z = true) (w3 : (Jvm.Cond.initialized y.cls).before a0 Z = true) (w4 : (Jvm.Cond.code y cb maxL none).before a0 Z = true)
    (hd : decode bytes pc = .ok (.invokespecial index, 3)) (a : Addr) (argsL rest : List Value) {st : List Value} (hM : Ctr l y cb maxL none [] rm (.ref a :: argsL).toArray Z h Q) (eT : T.heap = h) (hst : st = argsL.reverse ++ .ref a :: rest) (hsz : Ls.size = c.maxLocals) {ps : List FieldType} {rt : Option FieldType} (hpd : parseMethodDescriptor y.desc = some ⟨ps, rt⟩) (hlen : argsL.length = ps.length)
    (hy : y.cls ≠ "java/lang/invoke/MethodHandle" ∧ y.cls ≠ "java/lang/invoke/VarHandle") (W : Nat) (hW : (rest.map fun v => v.category).sum ≤ W) (hf : rm.frames + 1 ≤ R.frames) (hl : W + (maxL + 11) + rm.locals ≤ R.locals) (hc : cells + rm.cells ≤ R.cells) (hs : slots + rm.slots ≤ R.slots) (q : Nat) (hq : pc + 3 = q)
    (k : ∀ (T' : State) (v : Option Value) (L : List Loc), Stand p l e R s m args below meth c T' (locs ++ L) (cells + rm.cells) (slots + rm.slots) → Q v T'.heap L → Goes p e below K (T'.setTop (mkF m q Ls (v.toList ++ rest)))) : Goes p e below K (T.setTop (mkF m pc Ls st)) := by
  subst hq hst
  obtain ⟨v, _, ⟨T', L', k', n'⟩, -, X', ⟨Lc, hQ, l1, y1, z1⟩, st⟩ := X.specialBack hx hy1 hown (mvT hZ w1) (mvT hZ w2) (mvT hZ w4) hy (backOf (W := W) hM hZ w4 w3 hf hl) (g := mkF m pc Ls (argsL.reverse ++ .ref a :: rest)) rfl hsz (Steps.refl _) (a := a) (argsL := argsL) (rest := rest) (lenOf hpd hlen) rfl (by show 2 * 0 + _ ≤ _; omega) (hb hby hd) (fun _ _ => ⟨rfl, eT, hc, hs⟩)
  dsimp only [Pt.U, Pt.locs, Pt.cells, Pt.slots] at X' l1 y1 z1 st hQ
  subst l1 y1 z1
  exact Goes.of (fun t kt => st.trans kt) (k _ _ _ X' hQ)
theorem g_virtual (X : Stand p l e R s m args below meth c T locs cells slots) (hx : p.tables.exec = Jvm.exec) (hby : c.code = bytes) {Z : State} {a0 : Array Value} (hZ : Z.Warmed39 s.vm) {own : String} {index : Nat} {y : MethodName} {cb : ByteArray} {maxL : Nat} {ret : Option FieldType} {rm : Room} {Q : Option Value → Heap → List Loc → Prop} {h : Heap} {z : MethodName} {C : String} (hown : s.vm.findClass own = some m.cls) (w1 : (Jvm.Cond.methodLink own index y).before a0 Z = true) (w2 : (Jvm.Cond.declares y).before a0 Z = true) (nf : NotFace s y) (w5 : (Jvm.Cond.selects C y z).before a0 Z = true) (w6 : (Jvm.Cond.instanceMethod z).before a0 Z = true) (w3 : (Jvm.Cond.initialized z.cls).before a0 Z = true) (w4 : (Jvm.Cond.code z cb maxL ret).before a0 Z = true)
    (hd : decode bytes pc = .ok (.invokevirtual index, 3)) (a : Addr) (E : Exa Z h a C) (argsL rest : List Value) {st : List Value} (hM : Ctr l z cb maxL ret [] rm (.ref a :: argsL).toArray Z h Q) (eT : T.heap = h) (hst : st = argsL.reverse ++ .ref a :: rest) (hsz : Ls.size = c.maxLocals) {ps : List FieldType} {rt : Option FieldType} (hpd : parseMethodDescriptor y.desc = some ⟨ps, rt⟩) (hlen : argsL.length = ps.length)
    (hy : y.cls ≠ "java/lang/invoke/MethodHandle" ∧ y.cls ≠ "java/lang/invoke/VarHandle") (W : Nat) (hW : (rest.map fun v => v.category).sum ≤ W) (hf : rm.frames + 1 ≤ R.frames) (hl : W + (maxL + 11) + rm.locals ≤ R.locals) (hc : cells + rm.cells ≤ R.cells) (hs : slots + rm.slots ≤ R.slots) (q : Nat) (hq : pc + 3 = q)
    (k : ∀ (T' : State) (v : Option Value) (L : List Loc), Stand p l e R s m args below meth c T' (locs ++ L) (cells + rm.cells) (slots + rm.slots) → Q v T'.heap L → Goes p e below K (T'.setTop (mkF m q Ls (v.toList ++ rest)))) : Goes p e below K (T.setTop (mkF m pc Ls st)) := by
  subst hq hst
  obtain ⟨cq, kq, qa, qb, qc⟩ := isOf hZ eT E
  obtain ⟨v, _, ⟨T', L', k', n'⟩, -, X', ⟨Lc, hQ, l1, y1, z1⟩, st⟩ := X.virtualBack hx (y := y) (z := z) hown (mvT hZ w1) (mvT hZ w2) nf (mvT hZ w5) (mvT hZ w6) hy (backOf (W := W) hM hZ w4 w3 hf hl) qa qc (g := mkF m pc Ls (argsL.reverse ++ .ref a :: rest)) rfl hsz (Steps.refl _) (argsL := argsL) (rest := rest) (lenOf hpd hlen) rfl (by show 2 * 0 + _ ≤ _; omega) (hb hby hd) (fun _ _ => ⟨rfl, eT, hc, hs⟩)
  dsimp only [Pt.U, Pt.locs, Pt.cells, Pt.slots] at X' l1 y1 z1 st hQ
  subst l1 y1 z1
  exact Goes.of (fun t kt => st.trans kt) (k _ _ _ X' hQ)
theorem g_initO (X : Stand p l e R s m args below meth c T locs cells slots) (hx : p.tables.exec = Jvm.exec) (hby : c.code = bytes) {Z : State} {a0 : Array Value} (hZ : Z.Warmed39 s.vm) {own : String} {index : Nat} {h : Heap} {a : Addr} (hown : s.vm.findClass own = some m.cls) (w1 : (Jvm.Cond.methodLink own index Lib.objectInit).before a0 Z = true) (w2 : (Jvm.Cond.instanceMethod Lib.objectInit).before a0 Z = true) (w3 : (Jvm.Cond.code Lib.objectInit ⟨#[0xb1]⟩ 1 none).before a0 Z = true)
    (hd : decode bytes pc = .ok (.invokespecial index, 3)) (eT : T.heap = h) (hsz : Ls.size = c.maxLocals) (W : Nat) (hW : (rest.map fun v => v.category).sum ≤ W) (hf : 1 ≤ R.frames) (hl : W + 12 ≤ R.locals) (q : Nat) (hq : pc + 3 = q)
    (k : ∀ T' : State, Stand p l e R s m args below meth c T' locs cells slots → T'.heap = h → Goes p e below K (T'.setTop (mkF m q Ls rest))) : Goes p e below K (T.setTop (mkF m pc Ls (.ref a :: rest))) := by
  subst hq
  obtain ⟨T', X', e', st⟩ := initO X hx hZ hown w1 w2 w3 eT (g := mkF m pc Ls (.ref a :: rest)) rfl hsz rfl (hb hby hd) hf (W := W) (by show 2 * 0 + _ ≤ _; omega) hl
  exact Goes.of st (k _ X' e')
theorem g_getfield (X : Stand p l e R s m args below meth c T locs cells slots) (hx : p.tables.exec = Jvm.exec) (hby : c.code = bytes) {Z : State} {a0 : Array Value} (hZ : Z.Warmed39 s.vm) {own R0 O n d host : String} {index : Nat} {h : Heap} {a : Addr} {v : Value} (hown : s.vm.findClass own = some m.cls) (w : (Jvm.Cond.fieldLink own index R0 n d).before a0 Z = true ∨ (Jvm.Cond.fieldLinkNest own index R0 n d host).before a0 Z = true) (via : Via Z R0 O n d) (eT : T.heap = h) (F : Fld Z h a O n d v)
    (hd : decode bytes pc = .ok (.getfield index, 3)) (q : Nat) (hq : pc + 3 = q) (k : ∀ T' : State, Stand p l e R s m args below meth c T' locs cells slots → T'.heap = h → Goes p e below K (T'.setTop (mkF m q Ls (v :: rest)))) : Goes p e below K (T.setTop (mkF m pc Ls (.ref a :: rest))) := by
  subst hq
  obtain ⟨T', X', e', st⟩ := getF X hx hZ hown w via eT F (g := mkF m pc Ls (.ref a :: rest)) rfl rfl (hb hby hd)
  exact Goes.of st (k _ X' e')
theorem g_putfield (X : Stand p l e R s m args below meth c T locs cells slots) (hx : p.tables.exec = Jvm.exec) (hby : c.code = bytes) {Z : State} {a0 : Array Value} (hZ : Z.Warmed39 s.vm) {own R0 O n d host C : String} {index kk : Nat} {ty : FieldType} {h : Heap} {a : Addr} {v old : Value} (hown : s.vm.findClass own = some m.cls) (w : (Jvm.Cond.fieldLink own index R0 n d).before a0 Z = true ∨ (Jvm.Cond.fieldLinkNest own index R0 n d host).before a0 Z = true) (via : Via Z R0 O n d) (eT : T.heap = h) (F : Fld Z h a O n d old) (E : Exa Z h a C)
    (L : (Jvm.Cond.lays C O n d).before a0 Z = true ∨ ((Jvm.Cond.laysFinal C O n d).before a0 Z = true ∧ own = O ∧ meth.name = "<init>")) (wi : (Jvm.Cond.instantiable C kk).before a0 Z = true) (hty : parseFieldDescriptor d = some ty) (hn : narrow ty v = v) (hf : fits ty v = true) (hd : decode bytes pc = .ok (.putfield index, 3)) (q : Nat) (hq : pc + 3 = q)
    (k : ∀ (T' : State) (h' : Heap), Stand p l e R s m args below meth c T' (locs ++ [⟨a, Jvm.RoadKit.slotOf Z O n d⟩]) cells slots → T'.heap = h' → Wr h h' a (Jvm.RoadKit.slotOf Z O n d) v → Goes p e below K (T'.setTop (mkF m q Ls rest))) : Goes p e below K (T.setTop (mkF m pc Ls (v :: .ref a :: rest))) := by
  subst hq
  obtain ⟨T', h', X', e', W', st⟩ := putF X hx hZ hown w via eT F E L wi hty hn hf (g := mkF m pc Ls (v :: .ref a :: rest)) rfl rfl (hb hby hd)
  exact Goes.of st (k _ _ X' e' W')
theorem g_new (X : Stand p l e R s m args below meth c T locs cells slots) (hx : p.tables.exec = Jvm.exec) (hby : c.code = bytes) {Z : State} {a0 : Array Value} (hZ : Z.Warmed39 s.vm) {own C : String} {index n : Nat} {h : Heap} (hown : s.vm.findClass own = some m.cls) (w : (Jvm.Cond.classLink own index C).before a0 Z = true) (wi : (Jvm.Cond.instantiable C n).before a0 Z = true) (wz : (Jvm.Cond.initialized C).before a0 Z = true) (eT : T.heap = h) (hd : decode bytes pc = .ok (.new index, 3)) (hc : cells + 1 ≤ R.cells) (hl : slots + n ≤ R.slots) (q : Nat) (hq : pc + 3 = q)
    (k : ∀ (T' : State) (h' : Heap) (a : Addr), a = h.size → Stand p l e R s m args below meth c T' locs (cells + 1) (slots + n) → T'.heap = h' → Ext h h' → Exa Z h' a C → (∀ {O nm d : String} {ty : FieldType}, Laid Z a0 C O nm d → parseFieldDescriptor d = some ty → Fld Z h' a O nm d (defaultValue ty)) → Goes p e below K (T'.setTop (mkF m q Ls (.ref a :: rest)))) : Goes p e below K (T.setTop (mkF m pc Ls rest)) := by
  subst hq
  obtain ⟨T', h', X', e', E', A', D', -, st⟩ := newO X hx hZ hown w wi wz eT (g := mkF m pc Ls rest) rfl (hb hby hd) hc hl
  exact Goes.of st (k _ _ _ rfl X' e' E' A' D')
def upd {α : Type} (f : Nat → α) (k : Nat) (x : α) : Nat → α := fun i => if i = k then x else f i
theorem upd_hit {α : Type} (f : Nat → α) (k : Nat) (x : α) : upd f k x k = x := if_pos rfl
theorem upd_miss {α : Type} (f : Nat → α) {k i : Nat} (x : α) (h : i ≠ k) : upd f k x i = f i := if_neg h
def ArF (Z : State) (h : Heap) (a : Addr) (ty : FieldType) (n : Nat) (f : Nat → Value) : Prop := ∃ c : Cell, Arr Z h a c ty ∧ c.slots.size = n ∧ n < 2 ^ 31 ∧ ∀ j, j < n → c.slots[j]? = some (f j)
abbrev AI (Z : State) (h : Heap) (a : Addr) (ty : FieldType) (n : Nat) (f : Nat → Int32) : Prop := ArF Z h a ty n (fun i => .int (f i))
abbrev AJ (Z : State) (h : Heap) (a : Addr) (n : Nat) (f : Nat → Int64) : Prop := ArF Z h a .long n (fun i => .long (f i))
section Arrays
variable {Z : State} {h h' : Heap} {a b : Addr} {ty : FieldType} {n : Nat} {f : Nat → Value}
theorem ArF.lt (F : ArF Z h a ty n f) : a < h.size := by obtain ⟨c, A, -⟩ := F; exact A.lt
theorem ArF.len (F : ArF Z h a ty n f) : n < 2 ^ 31 := by obtain ⟨c, -, -, q, -⟩ := F; exact q
theorem ArF.ext (F : ArF Z h a ty n f) (E : Ext h h') : ArF Z h' a ty n f := by obtain ⟨c, A, r⟩ := F; exact ⟨c, A.ext E, r⟩
theorem ArF.other {sl : Nat} {v : Value} (F : ArF Z h b ty n f) (W : Wr h h' a sl v) (q : b ≠ a) : ArF Z h' b ty n f := by obtain ⟨c, A, r⟩ := F; exact ⟨c, A.other W q, r⟩
theorem ArF.keep {ws : List Addr} (F : ArF Z h a ty n f) (K : Keep h h' ws) (q : a ∉ ws) : ArF Z h' a ty n f := by obtain ⟨c, A, r⟩ := F; exact ⟨c, ⟨K.2.1 a c A.1 q, A.2⟩, r⟩
theorem ArF.congr {g : Nat → Value} (F : ArF Z h a ty n f) (q : ∀ i, i < n → f i = g i) : ArF Z h a ty n g := by obtain ⟨c, A, r1, r2, r3⟩ := F; exact ⟨c, A, r1, r2, fun j hj => by rw [r3 j hj, q j hj]⟩
theorem ArF.fresh {k : ClassId} {z : Int32} (A : Arr Z h a (newA k ty z) ty) (q : ¬ z < 0) (e : z.toNatClampNeg = n) : ArF Z h a ty n (fun _ => defaultValue ty) := by
  subst e
  refine ⟨_, A, sz_new _ _ _, (back32 q).2, fun j hj => ?_⟩
  simp [newA, hj]
theorem ArF.set {j : Nat} {v : Value} (F : ArF Z h a ty n f) (W : Wr h h' a j v) : ArF Z h' a ty n (upd f j v) := by
  obtain ⟨c, A, r1, r2, r3⟩ := F
  refine ⟨_, A.same W, (sz_set _ _ _).trans r1, r2, fun i hi => ?_⟩
  by_cases q : i = j
  · subst q; rw [upd_hit]; simp [Cell.setSlot, r1, hi]
  · rw [upd_miss _ _ q, ← r3 i hi]
    simp only [Cell.setSlot]
    exact Array.getElem?_setIfInBounds_ne (fun y => q y.symm)
theorem AI.set {j : Nat} {x : Int32} {g : Nat → Int32} (F : AI Z h a ty n g) (W : Wr h h' a j (.int x)) : AI Z h' a ty n (upd g j x) := (ArF.set F W).congr fun i _ => by by_cases q : i = j <;> simp [upd, q]
theorem AJ.set {j : Nat} {x : Int64} {g : Nat → Int64} (F : AJ Z h a n g) (W : Wr h h' a j (.long x)) : AJ Z h' a n (upd g j x) := (ArF.set F W).congr fun i _ => by by_cases q : i = j <;> simp [upd, q]
theorem own_in {c : Cell} {j : Int32} {k : Nat} (hs : c.slots.size = n) (h0 : ¬ j < 0) (hj : j.toNatClampNeg = k) (hk : k < n) : ¬ (j < 0 ∨ c.slots.size ≤ j.toNatClampNeg) := by
  subst hs hj; exact fun y => y.elim h0 (Nat.not_le.mpr hk)
end Arrays
theorem g_newarray (X : Stand p l e R s m args below meth c T locs cells slots) (hx : p.tables.exec = Jvm.exec) (hby : c.code = bytes) {Z : State} {a0 : Array Value} (hZ : Z.Warmed39 s.vm) {aty : ArrayType} {h : Heap} {z : Int32} (w : (Jvm.Cond.arrayClass (newarray.typeOf aty)).before a0 Z = true) (eT : T.heap = h) (hd : decode bytes pc = .ok (.newarray aty, 2)) (hz : ¬ z < 0) (n : Nat) (hn : z.toNatClampNeg = n) (cap : Nat) (hcap : n ≤ cap) (hbig : cap * 8 ≤ 536870912) (hc : cells + 1 ≤ R.cells) (hl : slots + cap ≤ R.slots) (q : Nat) (hq : pc + 2 = q)
    (k : ∀ (T' : State) (h' : Heap) (a : Addr), a = h.size → Stand p l e R s m args below meth c T' locs (cells + 1) (slots + cap) → T'.heap = h' → Ext h h' → ArF Z h' a (newarray.typeOf aty) n (fun _ => defaultValue (newarray.typeOf aty)) → Goes p e below K (T'.setTop (mkF m q Ls (.ref a :: rest)))) : Goes p e below K (T.setTop (mkF m pc Ls (.int z :: rest))) := by
  subst hq
  obtain ⟨T', h', cA, X', e', E', A', st⟩ := newP X hx hZ w eT (g := mkF m pc Ls (.int z :: rest)) rfl (hb hby hd) rfl hz (cap := cap) (by rw [hn]; exact hcap) hbig hc hl
  exact Goes.of st (k _ _ _ rfl X' e' E' (ArF.fresh A' hz hn))
theorem g_arraylength (X : Stand p l e R s m args below meth c T locs cells slots) (hx : p.tables.exec = Jvm.exec) (hby : c.code = bytes) {Z : State} (hZ : Z.Warmed39 s.vm) {h : Heap} {a : Addr} {ty : FieldType} {n : Nat} {f : Nat → Value} (eT : T.heap = h) (F : ArF Z h a ty n f) (hd : decode bytes pc = .ok (.arraylength, 1)) (z : Int32) (hz : n.toInt32 = z) (q : Nat) (hq : pc + 1 = q) (k : Goes p e below K (T.setTop (mkF m q Ls (.int z :: rest)))) : Goes p e below K (T.setTop (mkF m pc Ls (.ref a :: rest))) := by
  subst hq hz
  obtain ⟨cl, A, r1, r2, r3⟩ := F
  exact Goes.of (fun t kt => X.arraylength hx (by rw [eT]; exact A.1) (State.isArrayOf_alike hZ.alike A.2.1) (g := mkF m pc Ls (.ref a :: rest)) rfl rfl (hb hby hd) t (by rw [r1]; exact kt)) k
theorem g_iaload (X : Stand p l e R s m args below meth c T locs cells slots) (hx : p.tables.exec = Jvm.exec) (hby : c.code = bytes) {Z : State} (hZ : Z.Warmed39 s.vm) {h : Heap} {a : Addr} {n : Nat} {f : Nat → Int32} {j : Int32} (eT : T.heap = h) (F : AI Z h a .int n f) (hd : decode bytes pc = .ok (.iaload, 1)) (h0 : ¬ j < 0) (i : Nat) (hj : j.toNatClampNeg = i) (hi : i < n) (x : Int32) (hfx : f i = x) (q : Nat) (hq : pc + 1 = q) (k : Goes p e below K (T.setTop (mkF m q Ls (.int x :: rest)))) : Goes p e below K (T.setTop (mkF m pc Ls (.int j :: .ref a :: rest))) := by
  subst hq hfx
  obtain ⟨cl, A, r1, r2, r3⟩ := F
  exact Goes.of (fun t kt => X.iaload hx (by rw [eT]; exact A.1) (State.isArrayOf_alike hZ.alike A.2.1) A.2.2 (own_in r1 h0 hj hi) (by rw [hj]; exact r3 i hi) (g := mkF m pc Ls (.int j :: .ref a :: rest)) rfl rfl (hb hby hd) t kt) k
theorem g_baload (X : Stand p l e R s m args below meth c T locs cells slots) (hx : p.tables.exec = Jvm.exec) (hby : c.code = bytes) {Z : State} (hZ : Z.Warmed39 s.vm) {h : Heap} {a : Addr} {n : Nat} {f : Nat → Int32} {j : Int32} (eT : T.heap = h) (F : AI Z h a .byte n f) (hd : decode bytes pc = .ok (.baload, 1)) (h0 : ¬ j < 0) (i : Nat) (hj : j.toNatClampNeg = i) (hi : i < n) (x : Int32) (hfx : f i = x) (q : Nat) (hq : pc + 1 = q) (k : Goes p e below K (T.setTop (mkF m q Ls (.int x :: rest)))) : Goes p e below K (T.setTop (mkF m pc Ls (.int j :: .ref a :: rest))) := by
  subst hq hfx
  obtain ⟨cl, A, r1, r2, r3⟩ := F
  exact Goes.of (fun t kt => X.baloadBytes hx (by rw [eT]; exact A.1) (State.isArrayOf_alike hZ.alike A.2.1) A.2.2 (own_in r1 h0 hj hi) (by rw [hj]; exact r3 i hi) (g := mkF m pc Ls (.int j :: .ref a :: rest)) rfl rfl (hb hby hd) t kt) k
theorem g_laload (X : Stand p l e R s m args below meth c T locs cells slots) (hx : p.tables.exec = Jvm.exec) (hby : c.code = bytes) {Z : State} (hZ : Z.Warmed39 s.vm) {h : Heap} {a : Addr} {n : Nat} {f : Nat → Int64} {j : Int32} (eT : T.heap = h) (F : AJ Z h a n f) (hd : decode bytes pc = .ok (.laload, 1)) (h0 : ¬ j < 0) (i : Nat) (hj : j.toNatClampNeg = i) (hi : i < n) (x : Int64) (hfx : f i = x) (q : Nat) (hq : pc + 1 = q) (k : Goes p e below K (T.setTop (mkF m q Ls (.long x :: rest)))) : Goes p e below K (T.setTop (mkF m pc Ls (.int j :: .ref a :: rest))) := by
  subst hq hfx
  obtain ⟨cl, A, r1, r2, r3⟩ := F
  exact Goes.of (fun t kt => X.laload hx (by rw [eT]; exact A.1) (State.isArrayOf_alike hZ.alike A.2.1) A.2.2 (own_in r1 h0 hj hi) (by rw [hj]; exact r3 i hi) (g := mkF m pc Ls (.int j :: .ref a :: rest)) rfl rfl (hb hby hd) t kt) k
theorem g_aaload (X : Stand p l e R s m args below meth c T locs cells slots) (hx : p.tables.exec = Jvm.exec) (hby : c.code = bytes) {Z : State} (hZ : Z.Warmed39 s.vm) {h : Heap} {a : Addr} {n : Nat} {ty : FieldType} {f : Nat → Value} {j : Int32} (eT : T.heap = h) (F : ArF Z h a ty n f) (hty : ty.isReference = true) (hd : decode bytes pc = .ok (.aaload, 1)) (h0 : ¬ j < 0) (i : Nat) (hj : j.toNatClampNeg = i) (hi : i < n) (x : Value) (hfx : f i = x) (q : Nat) (hq : pc + 1 = q) (k : Goes p e below K (T.setTop (mkF m q Ls (x :: rest)))) : Goes p e below K (T.setTop (mkF m pc Ls (.int j :: .ref a :: rest))) := by
  subst hq hfx
  obtain ⟨cl, A, r1, r2, r3⟩ := F
  exact Goes.of (fun t kt => X.aaload hx (by rw [eT]; exact A.1) (State.isArrayOf_alike hZ.alike A.2.1) hty A.2.2 (own_in r1 h0 hj hi) (by rw [hj]; exact r3 i hi) (g := mkF m pc Ls (.int j :: .ref a :: rest)) rfl rfl (hb hby hd) t kt) k
theorem g_iastore (X : Stand p l e R s m args below meth c T locs cells slots) (hx : p.tables.exec = Jvm.exec) (hby : c.code = bytes) {Z : State} (hZ : Z.Warmed39 s.vm) {h : Heap} {a : Addr} {n : Nat} {f : Nat → Int32} {j : Int32} {x : Int32} (eT : T.heap = h) (F : AI Z h a .int n f) (hd : decode bytes pc = .ok (.iastore, 1)) (h0 : ¬ j < 0) (i : Nat) (hj : j.toNatClampNeg = i) (hi : i < n) (q : Nat) (hq : pc + 1 = q)
    (k : ∀ (T' : State) (h' : Heap), Stand p l e R s m args below meth c T' (locs ++ [⟨a, i⟩]) cells slots → T'.heap = h' → Wr h h' a i (.int x) → AI Z h' a .int n (upd f i x) → Goes p e below K (T'.setTop (mkF m q Ls rest))) : Goes p e below K (T.setTop (mkF m pc Ls (.int x :: .int j :: .ref a :: rest))) := by
  subst hq
  have F' := F
  obtain ⟨cl, A, r1, r2, r3⟩ := F'
  obtain ⟨T', h', X', e', W', st⟩ := stI X hx hZ eT A (own_in r1 h0 hj hi) (g := mkF m pc Ls (.int x :: .int j :: .ref a :: rest)) rfl rfl (hb hby hd)
  rw [hj] at X' W'
  exact Goes.of st (k _ _ X' e' W' (AI.set F W'))
theorem g_bastore (X : Stand p l e R s m args below meth c T locs cells slots) (hx : p.tables.exec = Jvm.exec) (hby : c.code = bytes) {Z : State} (hZ : Z.Warmed39 s.vm) {h : Heap} {a : Addr} {n : Nat} {f : Nat → Int32} {j : Int32} {x : Int32} (eT : T.heap = h) (F : AI Z h a .byte n f) (hd : decode bytes pc = .ok (.bastore, 1)) (h0 : ¬ j < 0) (i : Nat) (hj : j.toNatClampNeg = i) (hi : i < n) (y : Int32) (hxy : x.toInt8.toInt32 = y) (q : Nat) (hq : pc + 1 = q)
    (k : ∀ (T' : State) (h' : Heap), Stand p l e R s m args below meth c T' (locs ++ [⟨a, i⟩]) cells slots → T'.heap = h' → Wr h h' a i (.int y) → AI Z h' a .byte n (upd f i y) → Goes p e below K (T'.setTop (mkF m q Ls rest))) : Goes p e below K (T.setTop (mkF m pc Ls (.int x :: .int j :: .ref a :: rest))) := by
  subst hq hxy
  have F' := F
  obtain ⟨cl, A, r1, r2, r3⟩ := F'
  obtain ⟨T', h', X', e', W', st⟩ := stB X hx hZ eT A (own_in r1 h0 hj hi) (g := mkF m pc Ls (.int x :: .int j :: .ref a :: rest)) rfl rfl (hb hby hd)
  rw [hj] at X' W'
  exact Goes.of st (k _ _ X' e' W' (AI.set F W'))
theorem g_lastore (X : Stand p l e R s m args below meth c T locs cells slots) (hx : p.tables.exec = Jvm.exec) (hby : c.code = bytes) {Z : State} (hZ : Z.Warmed39 s.vm) {h : Heap} {a : Addr} {n : Nat} {f : Nat → Int64} {j : Int32} {x : Int64} (eT : T.heap = h) (F : AJ Z h a n f) (hd : decode bytes pc = .ok (.lastore, 1)) (h0 : ¬ j < 0) (i : Nat) (hj : j.toNatClampNeg = i) (hi : i < n) (q : Nat) (hq : pc + 1 = q)
    (k : ∀ (T' : State) (h' : Heap), Stand p l e R s m args below meth c T' (locs ++ [⟨a, i⟩]) cells slots → T'.heap = h' → Wr h h' a i (.long x) → AJ Z h' a n (upd f i x) → Goes p e below K (T'.setTop (mkF m q Ls rest))) : Goes p e below K (T.setTop (mkF m pc Ls (.long x :: .int j :: .ref a :: rest))) := by
  subst hq
  have F' := F
  obtain ⟨cl, A, r1, r2, r3⟩ := F'
  obtain ⟨T', h', X', e', W', st⟩ := stJ X hx hZ eT A (own_in r1 h0 hj hi) (g := mkF m pc Ls (.long x :: .int j :: .ref a :: rest)) rfl rfl (hb hby hd)
  rw [hj] at X' W'
  exact Goes.of st (k _ _ X' e' W' (AJ.set F W'))
def ArO (Z : State) (h : Heap) (a : Addr) (C : String) (n : Nat) (f : Nat → Value) : Prop := ∃ c : Cell, Arr Z h a c (.object C) ∧ c.slots.size = n ∧ n < 2 ^ 31 ∧ (∀ j, j < n → c.slots[j]? = some (f j)) ∧ Ovr Z c.cls C
section ArraysO
variable {Z : State} {h h' : Heap} {a b : Addr} {C : String} {n : Nat} {f : Nat → Value}
theorem ArO.toF (F : ArO Z h a C n f) : ArF Z h a (.object C) n f := by obtain ⟨c, A, r1, r2, r3, -⟩ := F; exact ⟨c, A, r1, r2, r3⟩
theorem ArO.lt (F : ArO Z h a C n f) : a < h.size := F.toF.lt
theorem ArO.ext (F : ArO Z h a C n f) (E : Ext h h') : ArO Z h' a C n f := by obtain ⟨c, A, r⟩ := F; exact ⟨c, A.ext E, r⟩
theorem ArO.other {sl : Nat} {v : Value} (F : ArO Z h b C n f) (W : Wr h h' a sl v) (q : b ≠ a) : ArO Z h' b C n f := by obtain ⟨c, A, r⟩ := F; exact ⟨c, A.other W q, r⟩
theorem ArO.keep {ws : List Addr} (F : ArO Z h a C n f) (K : Keep h h' ws) (q : a ∉ ws) : ArO Z h' a C n f := by obtain ⟨c, A, r⟩ := F; exact ⟨c, ⟨K.2.1 a c A.1 q, A.2⟩, r⟩
theorem ArO.congr {g : Nat → Value} (F : ArO Z h a C n f) (q : ∀ i, i < n → f i = g i) : ArO Z h a C n g := by obtain ⟨c, A, r1, r2, r3, r4⟩ := F; exact ⟨c, A, r1, r2, fun j hj => by rw [r3 j hj, q j hj], r4⟩
theorem ArO.fresh {k : ClassId} {z : Int32} (A : Arr Z h a (newA k (.object C) z) (.object C)) (O : Ovr Z k C) (q : ¬ z < 0) (e : z.toNatClampNeg = n) : ArO Z h a C n (fun _ => .null) := by
  subst e
  refine ⟨_, A, sz_new _ _ _, (back32 q).2, fun j hj => ?_, O⟩
  simp [newA, hj, defaultValue]
theorem ArO.set {j : Nat} {v : Value} (F : ArO Z h a C n f) (W : Wr h h' a j v) : ArO Z h' a C n (upd f j v) := by
  obtain ⟨c, A, r1, r2, r3, r4⟩ := F
  refine ⟨_, A.same W, (sz_set _ _ _).trans r1, r2, fun i hi => ?_, r4⟩
  by_cases q : i = j
  · subst q; rw [upd_hit]; simp [Cell.setSlot, r1, hi]
  · rw [upd_miss _ _ q, ← r3 i hi]
    simp only [Cell.setSlot]
    exact Array.getElem?_setIfInBounds_ne (fun y => q y.symm)
theorem ArO.sto {y : Addr} (F : ArO Z h a C n f) (I : Ins Z h y C true) : Sto Z h a (.ref y) := by obtain ⟨c, A, -, -, -, O⟩ := F; exact Sto.of A O I
end ArraysO
theorem g_anewarray (X : Stand p l e R s m args below meth c T locs cells slots) (hx : p.tables.exec = Jvm.exec) (hby : c.code = bytes) {Z : State} {a0 : Array Value} (hZ : Z.Warmed39 s.vm) {own C : String} {index : Nat} {h : Heap} {z : Int32} (hown : s.vm.findClass own = some m.cls) (w1 : (Jvm.Cond.classLink own index C).before a0 Z = true) (w2 : (Jvm.Cond.arrayOver (.object C)).before a0 Z = true) (eT : T.heap = h) (hd : decode bytes pc = .ok (.anewarray index, 3)) (hz : ¬ z < 0) (n : Nat) (hn : z.toNatClampNeg = n) (cap : Nat) (hcap : n ≤ cap) (hbig : cap * 8 ≤ 536870912) (hc : cells + 1 ≤ R.cells) (hl : slots + cap ≤ R.slots) (q : Nat) (hq : pc + 3 = q)
    (k : ∀ (T' : State) (h' : Heap) (a : Addr), a = h.size → Stand p l e R s m args below meth c T' locs (cells + 1) (slots + cap) → T'.heap = h' → Ext h h' → ArO Z h' a C n (fun _ => .null) → Goes p e below K (T'.setTop (mkF m q Ls (.ref a :: rest)))) : Goes p e below K (T.setTop (mkF m pc Ls (.int z :: rest))) := by
  subst hq
  obtain ⟨T', h', cA, X', e', E', A', O', st⟩ := newR X hx hZ hown w1 w2 eT (g := mkF m pc Ls (.int z :: rest)) rfl (hb hby hd) rfl hz (cap := cap) (by rw [hn]; exact hcap) hbig hc hl
  exact Goes.of st (k _ _ _ rfl X' e' E' (ArO.fresh A' O' hz hn))
theorem g_aastore (X : Stand p l e R s m args below meth c T locs cells slots) (hx : p.tables.exec = Jvm.exec) (hby : c.code = bytes) {Z : State} (hZ : Z.Warmed39 s.vm) {h : Heap} {a : Addr} {n : Nat} {C : String} {f : Nat → Value} {j : Int32} {x : Value} (eT : T.heap = h) (F : ArO Z h a C n f) (S : Sto Z h a x) (hd : decode bytes pc = .ok (.aastore, 1)) (h0 : ¬ j < 0) (i : Nat) (hj : j.toNatClampNeg = i) (hi : i < n) (q : Nat) (hq : pc + 1 = q)
    (k : ∀ (T' : State) (h' : Heap), Stand p l e R s m args below meth c T' (locs ++ [⟨a, i⟩]) cells slots → T'.heap = h' → Wr h h' a i x → ArO Z h' a C n (upd f i x) → Goes p e below K (T'.setTop (mkF m q Ls rest))) : Goes p e below K (T.setTop (mkF m pc Ls (x :: .int j :: .ref a :: rest))) := by
  subst hq
  have F' := F
  obtain ⟨cl, A, r1, r2, r3, r4⟩ := F'
  obtain ⟨T', h', X', e', W', st⟩ := stR X hx hZ eT A (own_in r1 h0 hj hi) rfl S (g := mkF m pc Ls (x :: .int j :: .ref a :: rest)) rfl rfl (hb hby hd)
  rw [hj] at X' W'
  exact Goes.of st (k _ _ X' e' W' (ArO.set F W'))
theorem g_checkcast (X : Stand p l e R s m args below meth c T locs cells slots) (hx : p.tables.exec = Jvm.exec) (hby : c.code = bytes) {Z : State} {a0 : Array Value} (hZ : Z.Warmed39 s.vm) {own C : String} {index : Nat} {h : Heap} {a : Addr} (hown : s.vm.findClass own = some m.cls) (w : (Jvm.Cond.classLink own index C).before a0 Z = true) (eT : T.heap = h) (I : Ins Z h a C true) (hd : decode bytes pc = .ok (.checkcast index, 3)) (q : Nat) (hq : pc + 3 = q)
    (k : ∀ T' : State, Stand p l e R s m args below meth c T' locs cells slots → T'.heap = h → Goes p e below K (T'.setTop (mkF m q Ls (.ref a :: rest)))) : Goes p e below K (T.setTop (mkF m pc Ls (.ref a :: rest))) := by
  subst hq
  obtain ⟨T', X', e', st⟩ := castY X hx hZ hown w eT I (g := mkF m pc Ls (.ref a :: rest)) rfl rfl (hb hby hd)
  exact Goes.of st (k _ X' e')
theorem g_getstatic (X : Stand p l e R s m args below meth c T locs cells slots) (hx : p.tables.exec = Jvm.exec) (hby : c.code = bytes) {Z : State} {a0 : Array Value} (hZ : Z.Warmed39 s.vm) {own R0 O n d host : String} {index : Nat} {h : Heap} {v : Value} (hown : s.vm.findClass own = some m.cls) (w : (Jvm.Cond.fieldLink own index R0 n d).before a0 Z = true ∨ (Jvm.Cond.fieldLinkNest own index R0 n d host).before a0 Z = true) (via : Via Z R0 O n d) (eT : T.heap = h) (F : Sta Z h O n d v) (hd : decode bytes pc = .ok (.getstatic index, 3)) (q : Nat) (hq : pc + 3 = q)
    (k : ∀ T' : State, Stand p l e R s m args below meth c T' locs cells slots → T'.heap = h → Goes p e below K (T'.setTop (mkF m q Ls (v :: rest)))) : Goes p e below K (T.setTop (mkF m pc Ls rest)) := by
  subst hq
  obtain ⟨T', X', e', st⟩ := getS2 X hx hZ hown w via eT F (g := mkF m pc Ls rest) rfl (hb hby hd)
  exact Goes.of st (k _ X' e')
theorem own_fm {r n d : String} (h1 : r ≠ "java/lang/invoke/MethodHandle") (h2 : r ≠ "java/lang/invoke/VarHandle") : ((Jvm.Cond.interfaceMethod r r n d).onTables && (Jvm.Cond.interfaceMethod r r n d).keepsFace) = true := by
  have e : ((Jvm.Cond.interfaceMethod r r n d).onTables && (Jvm.Cond.interfaceMethod r r n d).keepsFace) = (r == r && r != "java/lang/invoke/MethodHandle" && r != "java/lang/invoke/VarHandle") := rfl
  rw [e]; simp [h1, h2]
theorem g_interface (X : Stand p l e R s m args below meth c T locs cells slots) (hx : p.tables.exec = Jvm.exec) (hby : c.code = bytes) {Z : State} {a0 : Array Value} (hZ : Z.Warmed39 s.vm) {own : String} {index : Nat} {y : MethodName} {cb : ByteArray} {maxL : Nat} {ret : Option FieldType} {rm : Room} {Q : Option Value → Heap → List Loc → Prop} {h : Heap} {z : MethodName} {C : String} {count : Nat} (hown : s.vm.findClass own = some m.cls) (w1 : (Jvm.Cond.methodLink own index y).before a0 Z = true) (w2 : (Jvm.Cond.declares y).before a0 Z = true) (w7 : (Jvm.Cond.interfaceMethod y.cls y.cls y.name y.desc).before a0 Z = true) (w5 : (Jvm.Cond.selects C y z).before a0 Z = true) (w6 : (Jvm.Cond.instanceMethod z).before a0 Z = true) (w8 : (Jvm.Cond.publicMethod z).before a0 Z = true) (w9 : (Jvm.Cond.unhidden C y.name y.desc).before a0 Z = true) (w10 : (Jvm.Cond.castable C y.cls).before a0 Z = true) (w3 : (Jvm.Cond.initialized z.cls).before a0 Z = true) (w4 : (Jvm.Cond.code z cb maxL ret).before a0 Z = true)
    (hd : decode bytes pc = .ok (.invokeinterface index count, 5)) (a : Addr) (E : Exa Z h a C) (argsL rest : List Value) {st : List Value} (hM : Ctr l z cb maxL ret [] rm (.ref a :: argsL).toArray Z h Q) (eT : T.heap = h) (hst : st = argsL.reverse ++ .ref a :: rest) (hsz : Ls.size = c.maxLocals) {ps : List FieldType} {rt : Option FieldType} (hpd : parseMethodDescriptor y.desc = some ⟨ps, rt⟩) (hlen : argsL.length = ps.length)
    (hy : y.cls ≠ "java/lang/invoke/MethodHandle" ∧ y.cls ≠ "java/lang/invoke/VarHandle") (W : Nat) (hW : (rest.map fun v => v.category).sum ≤ W) (hf : rm.frames + 1 ≤ R.frames) (hl : W + (maxL + 11) + rm.locals ≤ R.locals) (hc : cells + rm.cells ≤ R.cells) (hs : slots + rm.slots ≤ R.slots) (q : Nat) (hq : pc + 5 = q)
    (k : ∀ (T' : State) (v : Option Value) (L : List Loc), Stand p l e R s m args below meth c T' (locs ++ L) (cells + rm.cells) (slots + rm.slots) → Q v T'.heap L → Goes p e below K (T'.setTop (mkF m q Ls (v.toList ++ rest)))) : Goes p e below K (T.setTop (mkF m pc Ls st)) := by
  subst hq hst
  obtain ⟨cq, kq, qa, qb, qc⟩ := isOf hZ eT E
  obtain ⟨v, _, ⟨T', L', k', n'⟩, -, X', ⟨Lc, hQ, l1, y1, z1⟩, st⟩ := X.interfaceBack hx (xi := y) (y := z) hown (mvT hZ w1) (mvT hZ w2) (mvT hZ w7 (own_fm hy.1 hy.2)) (mvT hZ w5) (mvT hZ w6) (mvT hZ w8) (mvT hZ w9) (mvT hZ w10) hy (backOf (W := W) hM hZ w4 w3 hf hl) qa qb qc (g := mkF m pc Ls (argsL.reverse ++ .ref a :: rest)) rfl hsz (Steps.refl _) (argsL := argsL) (rest := rest) (lenOf hpd hlen) rfl (by show 2 * 0 + _ ≤ _; omega) (hb hby hd) (fun _ _ => ⟨rfl, eT, hc, hs⟩)
  dsimp only [Pt.U, Pt.locs, Pt.cells, Pt.slots] at X' l1 y1 z1 st hQ
  subst l1 y1 z1
  exact Goes.of (fun t kt => st.trans kt) (k _ _ _ X' hQ)
end OwnKit
theorem byte2 (x : Int32) : x.toInt8.toInt32.toInt8.toInt32 = x.toInt8.toInt32 := by simp
theorem own_ite01 {P : Prop} [Decidable P] : (if P then (1 : Int32) else 0) = 0 ∨ (if P then (1 : Int32) else 0) = 1 := by by_cases h : P <;> simp [h]
theorem own_and31 (x : Int32) : (x &&& (2147483647 : Int32)).toInt = x.toInt % 2147483648 := c_mask x 2147483647 31 (by decide) (by decide)
theorem own_rem (x k : Int32) (d : Int) (hk : k.toInt = d) (hd : 0 < d) : 0 ≤ ((x &&& (2147483647 : Int32)) % k).toInt ∧ ((x &&& (2147483647 : Int32)) % k).toInt < d := by
  have h1 := own_and31 x
  have h2 := (c_irem (x &&& (2147483647 : Int32)) k d hk).1 (by omega)
  rw [h2]; exact ⟨Int.emod_nonneg _ (by omega), Int.emod_lt_of_pos _ hd⟩
theorem own_nn {j : Int32} (h : 0 ≤ j.toInt) : ¬ j < 0 := by
  rw [Int32.lt_iff_toInt_lt]; show ¬ j.toInt < 0; omega
theorem own_lt {j : Int32} {n : Nat} (h : j.toInt < n) (hn : 0 < n) : j.toNatClampNeg < n := by
  show j.toInt.toNat < n; omega

theorem d1_0 : decode prog_16_method_1_code 0 = .ok (.aload_n 0, 1) := by decide +kernel
theorem d1_1 : decode prog_16_method_1_code 1 = .ok (.invokespecial 1, 3) := by decide +kernel
theorem d1_4 : decode prog_16_method_1_code 4 = .ok (.aload_n 0, 1) := by decide +kernel
theorem d1_5 : decode prog_16_method_1_code 5 = .ok (.lload_n 1, 1) := by decide +kernel
theorem d1_6 : decode prog_16_method_1_code 6 = .ok (.putfield 7, 3) := by decide +kernel
theorem d1_9 : decode prog_16_method_1_code 9 = .ok (.aload_n 0, 1) := by decide +kernel
theorem d1_10 : decode prog_16_method_1_code 10 = .ok (.iload_n 3, 1) := by decide +kernel
theorem d1_11 : decode prog_16_method_1_code 11 = .ok (.putfield 13, 3) := by decide +kernel
theorem d1_14 : decode prog_16_method_1_code 14 = .ok (.aload_n 0, 1) := by decide +kernel
theorem d1_15 : decode prog_16_method_1_code 15 = .ok (.iload 4, 2) := by decide +kernel
theorem d1_17 : decode prog_16_method_1_code 17 = .ok (.putfield 17, 3) := by decide +kernel
theorem d1_20 : decode prog_16_method_1_code 20 = .ok (.aload_n 0, 1) := by decide +kernel
theorem d1_21 : decode prog_16_method_1_code 21 = .ok (.aload 5, 2) := by decide +kernel
theorem d1_23 : decode prog_16_method_1_code 23 = .ok (.putfield 20, 3) := by decide +kernel
theorem d1_26 : decode prog_16_method_1_code 26 = .ok (.return_, 1) := by decide +kernel
theorem pn1 : plainFor (⟨"com/example/measured_match/measuredmatch/Match", "<init>", "(JII[I)V"⟩ : MethodName) = true := plainFor_of_name (by first | (simp [plainName, overriddenIn]; done) | decide +kernel)
theorem ef1 (m : MethodId) (o : Addr) (sc : Int64) (dp : Int32) (ln : Int32) (ps : Addr) : entryFrame m #[(.ref o), (.long sc), (.int dp), (.int ln), (.ref ps)] 6 = mkF m 0 #[.val (.ref o), .val (.long sc), .second, .val (.int dp), .val (.int ln), .val (.ref ps)] [] := by first | (simp [entryFrame, mkF, argsToLocals, Value.category]; done) | rfl
def Q1 (o : Addr) (sc : Int64) (dp : Int32) (ln : Int32) (ps : Addr) (Z : State) (h0 : Heap) (n0 : Nat) (v : Option Value) (h : Heap) (L : List Loc) : Prop := v = none ∧ Fr n0 L ∧ Keep h0 h [o] ∧ Exa Z h o "com/example/measured_match/measuredmatch/Match" ∧ Fld Z h o "com/example/measured_match/measuredmatch/Match" "score" "J" (.long sc) ∧ Fld Z h o "com/example/measured_match/measuredmatch/Match" "depth" "I" (.int dp) ∧ Fld Z h o "com/example/measured_match/measuredmatch/Match" "length" "I" (.int ln) ∧ Fld Z h o "com/example/measured_match/measuredmatch/Match" "positions" "[I" (.ref ps)
set_option maxRecDepth 65536 in
set_option maxHeartbeats 40000000 in
theorem rm1 (l : Launch) (Z : State) (a0 : Array Value) (hw : ∀ d ∈ tables_1, d.before a0 Z = true) (ws : List Jvm.Cond) (o : Addr) (sc : Int64) (dp : Int32) (ln : Int32) (ps : Addr) (h0 : Heap) (n0 : Nat) (Z0 : n0 ≤ h0.size) (E_o_0 : Exa Z h0 o "com/example/measured_match/measuredmatch/Match") (F_o_score_0 : Fld Z h0 o "com/example/measured_match/measuredmatch/Match" "score" "J" (.long (0 : Int64))) (F_o_depth_0 : Fld Z h0 o "com/example/measured_match/measuredmatch/Match" "depth" "I" (.int (0 : Int32))) (F_o_length_0 : Fld Z h0 o "com/example/measured_match/measuredmatch/Match" "length" "I" (.int (0 : Int32))) (F_o_positions_0 : Fld Z h0 o "com/example/measured_match/measuredmatch/Match" "positions" "[I" .null) (gn_o : n0 ≤ o) : Ctr l (⟨"com/example/measured_match/measuredmatch/Match", "<init>", "(JII[I)V"⟩ : MethodName) prog_16_method_1_code 6 none ws ({ frames := 1, cells := 0, slots := 0, locals := 12 } : Room) #[(.ref o), (.long sc), (.int dp), (.int ln), (.ref ps)] Z h0 (Q1 o sc dp ln ps Z h0 n0) := by
  refine own_body pn1 ?_
  intro p e s m below meth c T0 hx hby hml hown hnm hret hlk hZ X0 e0
  have N0 := Fr.nil n0
  have K0 : Keep h0 h0 [o] := Keep.refl _ _
  refine Goes.entry (ef1 m o sc dp ln ps) ?_
  refine g_aloadN X0 hx hby d1_0 rfl rfl 1 rfl ?_
  refine g_initO X0 hx hby hZ hown (hw _ (List.mem_of_getElem? (i := 8) rfl)) (hw _ (List.mem_of_getElem? (i := 9) rfl)) (hw _ (List.mem_of_getElem? (i := 10) rfl)) d1_1 e0 (by rw [hml]; rfl) 0 (Nat.le_of_eq rfl) (by decide) (by decide) 4 rfl ?_
  intro T1 X1 e1
  refine g_aloadN X1 hx hby d1_4 rfl rfl 5 rfl ?_
  refine g_lloadN X1 hx hby d1_5 rfl 6 rfl ?_
  refine g_putfield X1 hx hby hZ hown (host := "") (Or.inl (hw _ (List.mem_of_getElem? (i := 11) rfl))) Via.refl e1 F_o_score_0 E_o_0 (Or.inr ⟨(hw _ (List.mem_of_getElem? (i := 12) rfl)), rfl, hnm⟩) (hw _ (List.mem_of_getElem? (i := 2) rfl)) (ty := .long) (by decide) rfl rfl d1_6 9 rfl ?_
  intro T2 h2 X2 e2 W2
  have N2 := Fr.snoc X2 N0 gn_o
  have K2 := K0.wr W2 (Or.inl (List.mem_of_getElem? (i := 0) rfl))
  have Z2 : n0 ≤ h2.size := Nat.le_trans Z0 (Keep.of_wr W2).1
  have E_o_2 := E_o_0.wr W2
  have F_o_score_2 := F_o_score_0.same W2
  have F_o_depth_2 := F_o_depth_0.other W2 (Or.inr (slot_ne (Or.inr (hw _ (List.mem_of_getElem? (i := 14) rfl))) (Or.inr (hw _ (List.mem_of_getElem? (i := 12) rfl))) (by decide) (t := .int) (t' := .long) (by decide) (by decide)))
  have F_o_length_2 := F_o_length_0.other W2 (Or.inr (slot_ne (Or.inr (hw _ (List.mem_of_getElem? (i := 16) rfl))) (Or.inr (hw _ (List.mem_of_getElem? (i := 12) rfl))) (by decide) (t := .int) (t' := .long) (by decide) (by decide)))
  have F_o_positions_2 := F_o_positions_0.other W2 (Or.inr (slot_ne (Or.inr (hw _ (List.mem_of_getElem? (i := 18) rfl))) (Or.inr (hw _ (List.mem_of_getElem? (i := 12) rfl))) (by decide) (t := (.array .int)) (t' := .long) (by decide) (by decide)))
  refine g_aloadN X2 hx hby d1_9 rfl rfl 10 rfl ?_
  refine g_iloadN X2 hx hby d1_10 rfl 11 rfl ?_
  refine g_putfield X2 hx hby hZ hown (host := "") (Or.inl (hw _ (List.mem_of_getElem? (i := 13) rfl))) Via.refl e2 F_o_depth_2 E_o_2 (Or.inr ⟨(hw _ (List.mem_of_getElem? (i := 14) rfl)), rfl, hnm⟩) (hw _ (List.mem_of_getElem? (i := 2) rfl)) (ty := .int) (by decide) rfl rfl d1_11 14 rfl ?_
  intro T3 h3 X3 e3 W3
  have N3 := Fr.snoc X3 N2 gn_o
  have K3 := K2.wr W3 (Or.inl (List.mem_of_getElem? (i := 0) rfl))
  have Z3 : n0 ≤ h3.size := Nat.le_trans Z2 (Keep.of_wr W3).1
  have E_o_3 := E_o_2.wr W3
  have F_o_score_3 := F_o_score_2.other W3 (Or.inr (slot_ne (Or.inr (hw _ (List.mem_of_getElem? (i := 12) rfl))) (Or.inr (hw _ (List.mem_of_getElem? (i := 14) rfl))) (by decide) (t := .long) (t' := .int) (by decide) (by decide)))
  have F_o_depth_3 := F_o_depth_2.same W3
  have F_o_length_3 := F_o_length_2.other W3 (Or.inr (slot_ne (Or.inr (hw _ (List.mem_of_getElem? (i := 16) rfl))) (Or.inr (hw _ (List.mem_of_getElem? (i := 14) rfl))) (by decide) (t := .int) (t' := .int) (by decide) (by decide)))
  have F_o_positions_3 := F_o_positions_2.other W3 (Or.inr (slot_ne (Or.inr (hw _ (List.mem_of_getElem? (i := 18) rfl))) (Or.inr (hw _ (List.mem_of_getElem? (i := 14) rfl))) (by decide) (t := (.array .int)) (t' := .int) (by decide) (by decide)))
  refine g_aloadN X3 hx hby d1_14 rfl rfl 15 rfl ?_
  refine g_iload X3 hx hby d1_15 rfl 17 rfl ?_
  refine g_putfield X3 hx hby hZ hown (host := "") (Or.inl (hw _ (List.mem_of_getElem? (i := 15) rfl))) Via.refl e3 F_o_length_3 E_o_3 (Or.inr ⟨(hw _ (List.mem_of_getElem? (i := 16) rfl)), rfl, hnm⟩) (hw _ (List.mem_of_getElem? (i := 2) rfl)) (ty := .int) (by decide) rfl rfl d1_17 20 rfl ?_
  intro T4 h4 X4 e4 W4
  have N4 := Fr.snoc X4 N3 gn_o
  have K4 := K3.wr W4 (Or.inl (List.mem_of_getElem? (i := 0) rfl))
  have Z4 : n0 ≤ h4.size := Nat.le_trans Z3 (Keep.of_wr W4).1
  have E_o_4 := E_o_3.wr W4
  have F_o_score_4 := F_o_score_3.other W4 (Or.inr (slot_ne (Or.inr (hw _ (List.mem_of_getElem? (i := 12) rfl))) (Or.inr (hw _ (List.mem_of_getElem? (i := 16) rfl))) (by decide) (t := .long) (t' := .int) (by decide) (by decide)))
  have F_o_depth_4 := F_o_depth_3.other W4 (Or.inr (slot_ne (Or.inr (hw _ (List.mem_of_getElem? (i := 14) rfl))) (Or.inr (hw _ (List.mem_of_getElem? (i := 16) rfl))) (by decide) (t := .int) (t' := .int) (by decide) (by decide)))
  have F_o_length_4 := F_o_length_3.same W4
  have F_o_positions_4 := F_o_positions_3.other W4 (Or.inr (slot_ne (Or.inr (hw _ (List.mem_of_getElem? (i := 18) rfl))) (Or.inr (hw _ (List.mem_of_getElem? (i := 16) rfl))) (by decide) (t := (.array .int)) (t' := .int) (by decide) (by decide)))
  refine g_aloadN X4 hx hby d1_20 rfl rfl 21 rfl ?_
  refine g_aload X4 hx hby d1_21 rfl rfl 23 rfl ?_
  refine g_putfield X4 hx hby hZ hown (host := "") (Or.inl (hw _ (List.mem_of_getElem? (i := 17) rfl))) Via.refl e4 F_o_positions_4 E_o_4 (Or.inr ⟨(hw _ (List.mem_of_getElem? (i := 18) rfl)), rfl, hnm⟩) (hw _ (List.mem_of_getElem? (i := 2) rfl)) (ty := (.array .int)) (by decide) rfl rfl d1_23 26 rfl ?_
  intro T5 h5 X5 e5 W5
  have N5 := Fr.snoc X5 N4 gn_o
  have K5 := K4.wr W5 (Or.inl (List.mem_of_getElem? (i := 0) rfl))
  have Z5 : n0 ≤ h5.size := Nat.le_trans Z4 (Keep.of_wr W5).1
  have E_o_5 := E_o_4.wr W5
  have F_o_score_5 := F_o_score_4.other W5 (Or.inr (slot_ne (Or.inr (hw _ (List.mem_of_getElem? (i := 12) rfl))) (Or.inr (hw _ (List.mem_of_getElem? (i := 18) rfl))) (by decide) (t := .long) (t' := (.array .int)) (by decide) (by decide)))
  have F_o_depth_5 := F_o_depth_4.other W5 (Or.inr (slot_ne (Or.inr (hw _ (List.mem_of_getElem? (i := 14) rfl))) (Or.inr (hw _ (List.mem_of_getElem? (i := 18) rfl))) (by decide) (t := .int) (t' := (.array .int)) (by decide) (by decide)))
  have F_o_length_5 := F_o_length_4.other W5 (Or.inr (slot_ne (Or.inr (hw _ (List.mem_of_getElem? (i := 16) rfl))) (Or.inr (hw _ (List.mem_of_getElem? (i := 18) rfl))) (by decide) (t := .int) (t' := (.array .int)) (by decide) (by decide)))
  have F_o_positions_5 := F_o_positions_4.same W5
  exact g_return X5 hx hby hret hlk d1_26 (by rw [e5]; exact ⟨rfl, N5, K5, E_o_5, F_o_score_5, F_o_depth_5, F_o_length_5, F_o_positions_5⟩) (by decide) (by decide)
def tie (dp : Int32) (ln : Int32) : Int64 := (((dp.toInt64) <<< ((32 : Int32) &&& 0x3f).toInt64) ||| (ln.toInt64))
theorem d3_0 : decode prog_16_method_4_code 0 = .ok (.aload_n 0, 1) := by decide +kernel
theorem d3_1 : decode prog_16_method_4_code 1 = .ok (.getfield 13, 3) := by decide +kernel
theorem d3_4 : decode prog_16_method_4_code 4 = .ok (.i2l, 1) := by decide +kernel
theorem d3_5 : decode prog_16_method_4_code 5 = .ok (.bipush 32, 2) := by decide +kernel
theorem d3_7 : decode prog_16_method_4_code 7 = .ok (.lshl, 1) := by decide +kernel
theorem d3_8 : decode prog_16_method_4_code 8 = .ok (.aload_n 0, 1) := by decide +kernel
theorem d3_9 : decode prog_16_method_4_code 9 = .ok (.getfield 17, 3) := by decide +kernel
theorem d3_12 : decode prog_16_method_4_code 12 = .ok (.i2l, 1) := by decide +kernel
theorem d3_13 : decode prog_16_method_4_code 13 = .ok (.lor, 1) := by decide +kernel
theorem d3_14 : decode prog_16_method_4_code 14 = .ok (.lreturn, 1) := by decide +kernel
theorem pn3 : plainFor (⟨"com/example/measured_match/measuredmatch/Match", "tieBreak", "()J"⟩ : MethodName) = true := plainFor_of_name (by first | (simp [plainName, overriddenIn]; done) | decide +kernel)
theorem ef3 (m : MethodId) (o : Addr) (dp : Int32) (ln : Int32) : entryFrame m #[(.ref o)] 1 = mkF m 0 #[.val (.ref o)] [] := by first | (simp [entryFrame, mkF, argsToLocals, Value.category]; done) | rfl
def Q3 (o : Addr) (dp : Int32) (ln : Int32) (Z : State) (h0 : Heap) (n0 : Nat) (v : Option Value) (h : Heap) (L : List Loc) : Prop := v = some (.long (tie dp ln)) ∧ Fr n0 L ∧ h = h0
set_option maxRecDepth 65536 in
set_option maxHeartbeats 40000000 in
theorem rm3 (l : Launch) (Z : State) (a0 : Array Value) (hw : ∀ d ∈ tables_1, d.before a0 Z = true) (ws : List Jvm.Cond) (o : Addr) (dp : Int32) (ln : Int32) (h0 : Heap) (n0 : Nat) (Z0 : n0 ≤ h0.size) (F_o_depth_0 : Fld Z h0 o "com/example/measured_match/measuredmatch/Match" "depth" "I" (.int dp)) (F_o_length_0 : Fld Z h0 o "com/example/measured_match/measuredmatch/Match" "length" "I" (.int ln)) : Ctr l (⟨"com/example/measured_match/measuredmatch/Match", "tieBreak", "()J"⟩ : MethodName) prog_16_method_4_code 1 (some .long) ws ({ frames := 0, cells := 0, slots := 0, locals := 0 } : Room) #[(.ref o)] Z h0 (Q3 o dp ln Z h0 n0) := by
  refine own_body pn3 ?_
  intro p e s m below meth c T0 hx hby hml hown hnm hret hlk hZ X0 e0
  have N0 := Fr.nil n0
  refine Goes.entry (ef3 m o dp ln) ?_
  refine g_aloadN X0 hx hby d3_0 rfl rfl 1 rfl ?_
  refine g_getfield X0 hx hby hZ hown (host := "") (Or.inl (hw _ (List.mem_of_getElem? (i := 13) rfl))) Via.refl e0 F_o_depth_0 d3_1 4 rfl ?_
  intro T1 X1 e1
  refine g_i2l X1 hx hby d3_4 5 rfl ?_
  refine g_bipush X1 hx hby d3_5 (32 : Int32) rfl 7 rfl ?_
  refine g_lshl X1 hx hby d3_7 8 rfl ?_
  refine g_aloadN X1 hx hby d3_8 rfl rfl 9 rfl ?_
  refine g_getfield X1 hx hby hZ hown (host := "") (Or.inl (hw _ (List.mem_of_getElem? (i := 15) rfl))) Via.refl e1 F_o_length_0 d3_9 12 rfl ?_
  intro T2 X2 e2
  refine g_i2l X2 hx hby d3_12 13 rfl ?_
  refine g_lor X2 hx hby d3_13 14 rfl ?_
  exact g_lreturn X2 hx hby hret hlk d3_14 (by exact ⟨congrArg (fun z => some (Value.long z)) rfl, N0, e2⟩) (by decide) (by decide)
theorem own_tie (dp ln : Int32) (h1 : 0 ≤ dp.toInt) (h2 : 0 ≤ ln.toInt) : (tie dp ln).toInt = dp.toInt * 4294967296 + ln.toInt := by
  have r1 := rng32 dp
  have r2 := rng32 ln
  have a1 := c_i2l dp
  have a2 := c_i2l ln
  have a3 := c_lshl dp.toInt64 32 32 (by decide)
  have r3 := rng64 (dp.toInt64 <<< ((32 : Int32) &&& 0x3f).toInt64)
  have e3 : (dp.toInt64 <<< ((32 : Int32) &&& 0x3f).toInt64).toInt = dp.toInt * 4294967296 := by
    rw [a1] at a3; have : ((2 ^ 32 : Nat) : Int) = 4294967296 := by decide
    rw [this] at a3; omega
  have a4 := c_orL (dp.toInt64 <<< ((32 : Int32) &&& 0x3f).toInt64) ln.toInt64 32 (by decide) 4294967296 (by decide) (by omega) (by omega) (by omega)
  have r4 := rng64 (tie dp ln)
  unfold tie at *
  omega
theorem own_dec {dp ln : Int32} {t1 : Int64} (h1 : 0 ≤ dp.toInt) (h2 : 0 ≤ ln.toInt) (ht : tie dp ln = t1) : ((t1.toUInt64 >>> ((32 : Int32) &&& 0x3f).toInt64.toUInt64).toInt64) = dp.toInt64 ∧ (t1 &&& (4294967295 : Int64)) = ln.toInt64 := by
  have q := own_tie dp ln h1 h2
  rw [ht] at q
  have r1 := rng32 dp
  have r2 := rng32 ln
  have a1 := c_i2l dp
  have a2 := c_i2l ln
  have a3 := c_lushr t1 32 32 (by decide) (by decide)
  have a4 := c_maskL t1 4294967295 32 (by decide) (by decide)
  have e0 : ((2 ^ 32 : Nat) : Int) = 4294967296 := by decide
  rw [e0] at a3 a4
  constructor
  · apply Int64.toInt_inj.mp; rw [a3, a1]; omega
  · apply Int64.toInt_inj.mp; rw [a4, a2]; omega
theorem own_i3 {P A B C : Prop} [Decidable P] [Decidable A] [Decidable B] [Decidable C] (h : P ↔ A ∨ (B ∧ C)) : (if P then (1 : Int32) else 0) = if A then 1 else (if B then (if C then 1 else 0) else 0) := by
  by_cases a : A <;> by_cases b : B <;> by_cases c : C <;> simp [h, a, b, c]
theorem own_i2 {P B C : Prop} [Decidable P] [Decidable B] [Decidable C] (h : P ↔ (B ∧ C)) : (if P then (1 : Int32) else 0) = if B then (if C then 1 else 0) else 0 := by
  by_cases b : B <;> by_cases c : C <;> simp [h, b, c]
theorem own_cmp {d1 l1 d2 l2 b q e z : Int32} {t1 t2 : Int64} (p1 : 0 ≤ d1.toInt) (p2 : 0 ≤ l1.toInt) (p3 : 0 ≤ d2.toInt) (p4 : 0 ≤ l2.toInt) (h1 : tie d1 l1 = t1) (h2 : tie d2 l2 = t2)
    (hb : b = if d1 < d2 then 1 else (if d1 = d2 then (if l1 < l2 then 1 else 0) else 0)) (he : e = if d1 = d2 then (if l1 = l2 then 1 else 0) else 0) (hq : q = if t1 < t2 then 1 else 0) (hz : z = if t1 = t2 then 1 else 0) : q = b ∧ z = e := by
  have a1 := own_tie d1 l1 p1 p2
  have a2 := own_tie d2 l2 p3 p4
  rw [h1] at a1; rw [h2] at a2
  have r1 := rng32 d1
  have r2 := rng32 l1
  have r3 := rng32 d2
  have r4 := rng32 l2
  subst hb he hq hz
  constructor
  · apply own_i3; rw [Int64.lt_iff_toInt_lt, Int32.lt_iff_toInt_lt, Int32.lt_iff_toInt_lt, ← Int32.toInt_inj, a1, a2]; omega
  · apply own_i2; rw [← Int64.toInt_inj, ← Int32.toInt_inj, ← Int32.toInt_inj, a1, a2]; omega

theorem pd0 : parseMethodDescriptor "(JII[I)V" = some ⟨[.long, .int, .int, (.array .int)], none⟩ := by decide +kernel
theorem pd1 : parseMethodDescriptor "()J" = some ⟨[], some .long⟩ := by decide +kernel
theorem pn0 : plainFor (⟨"com/example/measured_match/measuredmatch/MatchTieBreakPinLaw", "law", "(IIIIJ)Z"⟩ : MethodName) = true := plainFor_of_name (by first | (simp [plainName, overriddenIn]; done) | decide +kernel)
theorem ef0 (m : MethodId) (d1 : Int32) (l1 : Int32) (d2 : Int32) (l2 : Int32) (score : Int64) : entryFrame m #[(.int d1), (.int l1), (.int d2), (.int l2), (.long score)] maxLocals = mkF m 0 #[.val (.int d1), .val (.int l1), .val (.int d2), .val (.int l2), .val (.long score), .second, .unset, .unset, .unset, .unset, .unset, .unset, .unset, .unset, .unset, .unset, .unset, .unset, .unset, .unset] [] := by first | (simp [entryFrame, mkF, argsToLocals, Value.category, maxLocals]; done) | rfl
def Q0 (d1 : Int32) (l1 : Int32) (d2 : Int32) (l2 : Int32) (score : Int64) (Z : State) (h0 : Heap) (n0 : Nat) (v : Option Value) (h : Heap) (L : List Loc) : Prop := v = some (.int 1) ∧ Fr n0 L
set_option maxRecDepth 65536 in
set_option maxHeartbeats 40000000 in
theorem rm0 (l : Launch) (Z : State) (a0 : Array Value) (hw : ∀ d ∈ tables_1, d.before a0 Z = true) (ws : List Jvm.Cond) (d1 : Int32) (l1 : Int32) (d2 : Int32) (l2 : Int32) (score : Int64) (h0 : Heap) (n0 : Nat) (Z0 : n0 ≤ h0.size) : Ctr l x code maxLocals ret ws room_1 #[(.int d1), (.int l1), (.int d2), (.int l2), (.long score)] Z h0 (Q0 d1 l1 d2 l2 score Z h0 n0) := by
  refine own_body pn0 ?_
  intro p e s m below meth c T0 hx hby hml hown hnm hret hlk hZ X0 e0
  have N0 := Fr.nil n0
  refine Goes.entry (ef0 m d1 l1 d2 l2 score) ?_
  refine g_iloadN X0 hx hby at_0 rfl 1 rfl ?_
  refine g_ldc X0 hx hby hZ hown (hw _ (List.mem_of_getElem? (i := 0) rfl)) at_1 3 rfl ?_
  refine g_iand X0 hx hby at_3 4 rfl ?_
  obtain ⟨u1, hu1⟩ : ∃ z : Int32, (d1 &&& (2147483647 : Int32)) = z := ⟨_, rfl⟩
  refine g_istore X0 hx hby at_4 u1 hu1 #[.val (.int d1), .val (.int l1), .val (.int d2), .val (.int l2), .val (.long score), .second, .val (.int u1), .unset, .unset, .unset, .unset, .unset, .unset, .unset, .unset, .unset, .unset, .unset, .unset, .unset] rfl 6 rfl ?_
  refine g_iloadN X0 hx hby at_6 rfl 7 rfl ?_
  refine g_ldc X0 hx hby hZ hown (hw _ (List.mem_of_getElem? (i := 0) rfl)) at_7 9 rfl ?_
  refine g_iand X0 hx hby at_9 10 rfl ?_
  obtain ⟨w1, hw1⟩ : ∃ z : Int32, (l1 &&& (2147483647 : Int32)) = z := ⟨_, rfl⟩
  refine g_istore X0 hx hby at_10 w1 hw1 #[.val (.int d1), .val (.int l1), .val (.int d2), .val (.int l2), .val (.long score), .second, .val (.int u1), .val (.int w1), .unset, .unset, .unset, .unset, .unset, .unset, .unset, .unset, .unset, .unset, .unset, .unset] rfl 12 rfl ?_
  refine g_iloadN X0 hx hby at_12 rfl 13 rfl ?_
  refine g_ldc X0 hx hby hZ hown (hw _ (List.mem_of_getElem? (i := 0) rfl)) at_13 15 rfl ?_
  refine g_iand X0 hx hby at_15 16 rfl ?_
  obtain ⟨u2, hu2⟩ : ∃ z : Int32, (d2 &&& (2147483647 : Int32)) = z := ⟨_, rfl⟩
  refine g_istore X0 hx hby at_16 u2 hu2 #[.val (.int d1), .val (.int l1), .val (.int d2), .val (.int l2), .val (.long score), .second, .val (.int u1), .val (.int w1), .val (.int u2), .unset, .unset, .unset, .unset, .unset, .unset, .unset, .unset, .unset, .unset, .unset] rfl 18 rfl ?_
  refine g_iloadN X0 hx hby at_18 rfl 19 rfl ?_
  refine g_ldc X0 hx hby hZ hown (hw _ (List.mem_of_getElem? (i := 0) rfl)) at_19 21 rfl ?_
  refine g_iand X0 hx hby at_21 22 rfl ?_
  obtain ⟨w2, hw2⟩ : ∃ z : Int32, (l2 &&& (2147483647 : Int32)) = z := ⟨_, rfl⟩
  refine g_istore X0 hx hby at_22 w2 hw2 #[.val (.int d1), .val (.int l1), .val (.int d2), .val (.int l2), .val (.long score), .second, .val (.int u1), .val (.int w1), .val (.int u2), .val (.int w2), .unset, .unset, .unset, .unset, .unset, .unset, .unset, .unset, .unset, .unset] rfl 24 rfl ?_
  have pu1 : 0 ≤ u1.toInt := by rw [← hu1, own_and31]; omega
  have pw1 : 0 ≤ w1.toInt := by rw [← hw1, own_and31]; omega
  have pu2 : 0 ≤ u2.toInt := by rw [← hu2, own_and31]; omega
  have pw2 : 0 ≤ w2.toInt := by rw [← hw2, own_and31]; omega
  refine g_new X0 hx hby hZ hown (hw _ (List.mem_of_getElem? (i := 1) rfl)) (hw _ (List.mem_of_getElem? (i := 2) rfl)) (hw _ (List.mem_of_getElem? (i := 3) rfl)) e0 at_24 (by decide) (by decide) 27 rfl ?_
  intro T1 h1 b1 g1 X1 e1 E1 A1 D1
  have gn_b1 : n0 ≤ b1 := Nat.le_trans Z0 (Nat.le_of_eq g1.symm)
  have Z1 : n0 ≤ h1.size := Nat.le_trans Z0 E1.1
  have Fb1_score_0 : Fld Z h1 b1 "com/example/measured_match/measuredmatch/Match" "score" "J" (.long (0 : Int64)) := D1 (Or.inr (hw _ (List.mem_of_getElem? (i := 12) rfl))) (ty := .long) (by decide)
  have Fb1_depth_0 : Fld Z h1 b1 "com/example/measured_match/measuredmatch/Match" "depth" "I" (.int (0 : Int32)) := D1 (Or.inr (hw _ (List.mem_of_getElem? (i := 14) rfl))) (ty := .int) (by decide)
  have Fb1_length_0 : Fld Z h1 b1 "com/example/measured_match/measuredmatch/Match" "length" "I" (.int (0 : Int32)) := D1 (Or.inr (hw _ (List.mem_of_getElem? (i := 16) rfl))) (ty := .int) (by decide)
  have Fb1_positions_0 : Fld Z h1 b1 "com/example/measured_match/measuredmatch/Match" "positions" "[I" .null := D1 (Or.inr (hw _ (List.mem_of_getElem? (i := 18) rfl))) (ty := (.array .int)) (by decide)
  refine g_dup X1 hx hby at_27 rfl 28 rfl ?_
  refine g_lload X1 hx hby at_28 rfl 30 rfl ?_
  refine g_iload X1 hx hby at_30 rfl 32 rfl ?_
  refine g_iload X1 hx hby at_32 rfl 34 rfl ?_
  refine g_iconst X1 hx hby at_34 (0 : Int32) rfl 35 rfl ?_
  refine g_newarray X1 hx hby hZ (hw _ (List.mem_of_getElem? (i := 4) rfl)) e1 at_35 (by decide) 0 rfl 0 (by decide) (by decide) (by decide) (by decide) 37 rfl ?_
  intro T2 h2 b2 g2 X2 e2 E2 A2
  have gn_b2 : n0 ≤ b2 := Nat.le_trans Z1 (Nat.le_of_eq g2.symm)
  have Z2 : n0 ≤ h2.size := Nat.le_trans Z1 E2.1
  have ne_b1_b2 : b1 ≠ b2 := Nat.ne_of_lt (Nat.lt_of_lt_of_le (A1.lt) (Nat.le_of_eq g2.symm))
  have A1_2 := A1.ext E2
  have Fb1_score_2 := Fld.ext E2 Fb1_score_0
  have Fb1_depth_2 := Fld.ext E2 Fb1_depth_0
  have Fb1_length_2 := Fld.ext E2 Fb1_length_0
  have Fb1_positions_2 := Fld.ext E2 Fb1_positions_0
  have Vb2 : AI Z h2 b2 .int 0 (fun _ => (0 : Int32)) := A2
  refine g_special X2 hx hby hZ hown rfl (hw _ (List.mem_of_getElem? (i := 5) rfl)) (hw _ (List.mem_of_getElem? (i := 6) rfl)) (hw _ (List.mem_of_getElem? (i := 3) rfl)) (hw _ (List.mem_of_getElem? (i := 7) rfl)) at_37 b1 [(.long score), (.int u1), (.int w1), (.ref b2)] [(.ref b1)] (rm1 l Z a0 hw [] b1 score u1 w1 b2 h2 n0 Z2 A1_2 Fb1_score_2 Fb1_depth_2 Fb1_length_2 Fb1_positions_2 gn_b1) e2 rfl (by rw [hml]; rfl) pd0 rfl (by decide) 1 (Nat.le_of_eq rfl) (by decide) (by decide) (by decide) (by decide) 40 rfl ?_
  intro T3 v3 L3 X3 Q3
  obtain ⟨rfl, N3', K3', P3x0, P3x1, P3x2, P3x3, P3x4⟩ := Q3
  have N3 := Fr.app N0 N3'
  have Z3 : n0 ≤ T3.heap.size := Nat.le_trans Z2 K3'.1
  have A1_3 := A1_2.keep K3'
  have Vb2_3 := ArF.keep Vb2 K3' (ninS (Ne.symm ne_b1_b2) nin0)
  show Goes p e below _ (T3.setTop (mkF m 40 _ [(.ref b1)]))
  refine g_astore X3 hx hby at_40 rfl #[.val (.int d1), .val (.int l1), .val (.int d2), .val (.int l2), .val (.long score), .second, .val (.int u1), .val (.int w1), .val (.int u2), .val (.int w2), .val (.ref b1), .unset, .unset, .unset, .unset, .unset, .unset, .unset, .unset, .unset] rfl 42 rfl ?_
  refine g_new X3 hx hby hZ hown (hw _ (List.mem_of_getElem? (i := 1) rfl)) (hw _ (List.mem_of_getElem? (i := 2) rfl)) (hw _ (List.mem_of_getElem? (i := 3) rfl)) rfl at_42 (by decide) (by decide) 45 rfl ?_
  intro T4 h4 b4 g4 X4 e4 E4 A4 D4
  have gn_b4 : n0 ≤ b4 := Nat.le_trans Z3 (Nat.le_of_eq g4.symm)
  have Z4 : n0 ≤ h4.size := Nat.le_trans Z3 E4.1
  have ne_b1_b4 : b1 ≠ b4 := Nat.ne_of_lt (Nat.lt_of_lt_of_le (P3x0.lt) (Nat.le_of_eq g4.symm))
  have ne_b2_b4 : b2 ≠ b4 := Nat.ne_of_lt (Nat.lt_of_lt_of_le (Vb2_3.lt) (Nat.le_of_eq g4.symm))
  have P3x0_4 := P3x0.ext E4
  have Vb2_4 := ArF.ext Vb2_3 E4
  have P3x1_4 := Fld.ext E4 P3x1
  have P3x2_4 := Fld.ext E4 P3x2
  have P3x3_4 := Fld.ext E4 P3x3
  have P3x4_4 := Fld.ext E4 P3x4
  have Fb4_score_0 : Fld Z h4 b4 "com/example/measured_match/measuredmatch/Match" "score" "J" (.long (0 : Int64)) := D4 (Or.inr (hw _ (List.mem_of_getElem? (i := 12) rfl))) (ty := .long) (by decide)
  have Fb4_depth_0 : Fld Z h4 b4 "com/example/measured_match/measuredmatch/Match" "depth" "I" (.int (0 : Int32)) := D4 (Or.inr (hw _ (List.mem_of_getElem? (i := 14) rfl))) (ty := .int) (by decide)
  have Fb4_length_0 : Fld Z h4 b4 "com/example/measured_match/measuredmatch/Match" "length" "I" (.int (0 : Int32)) := D4 (Or.inr (hw _ (List.mem_of_getElem? (i := 16) rfl))) (ty := .int) (by decide)
  have Fb4_positions_0 : Fld Z h4 b4 "com/example/measured_match/measuredmatch/Match" "positions" "[I" .null := D4 (Or.inr (hw _ (List.mem_of_getElem? (i := 18) rfl))) (ty := (.array .int)) (by decide)
  refine g_dup X4 hx hby at_45 rfl 46 rfl ?_
  refine g_lload X4 hx hby at_46 rfl 48 rfl ?_
  refine g_iload X4 hx hby at_48 rfl 50 rfl ?_
  refine g_iload X4 hx hby at_50 rfl 52 rfl ?_
  refine g_iconst X4 hx hby at_52 (0 : Int32) rfl 53 rfl ?_
  refine g_newarray X4 hx hby hZ (hw _ (List.mem_of_getElem? (i := 4) rfl)) e4 at_53 (by decide) 0 rfl 0 (by decide) (by decide) (by decide) (by decide) 55 rfl ?_
  intro T5 h5 b5 g5 X5 e5 E5 A5
  have gn_b5 : n0 ≤ b5 := Nat.le_trans Z4 (Nat.le_of_eq g5.symm)
  have Z5 : n0 ≤ h5.size := Nat.le_trans Z4 E5.1
  have ne_b1_b5 : b1 ≠ b5 := Nat.ne_of_lt (Nat.lt_of_lt_of_le (P3x0_4.lt) (Nat.le_of_eq g5.symm))
  have ne_b2_b5 : b2 ≠ b5 := Nat.ne_of_lt (Nat.lt_of_lt_of_le (Vb2_4.lt) (Nat.le_of_eq g5.symm))
  have ne_b4_b5 : b4 ≠ b5 := Nat.ne_of_lt (Nat.lt_of_lt_of_le (A4.lt) (Nat.le_of_eq g5.symm))
  have P3x0_5 := P3x0_4.ext E5
  have Vb2_5 := ArF.ext Vb2_4 E5
  have P3x1_5 := Fld.ext E5 P3x1_4
  have P3x2_5 := Fld.ext E5 P3x2_4
  have P3x3_5 := Fld.ext E5 P3x3_4
  have P3x4_5 := Fld.ext E5 P3x4_4
  have A4_5 := A4.ext E5
  have Fb4_score_5 := Fld.ext E5 Fb4_score_0
  have Fb4_depth_5 := Fld.ext E5 Fb4_depth_0
  have Fb4_length_5 := Fld.ext E5 Fb4_length_0
  have Fb4_positions_5 := Fld.ext E5 Fb4_positions_0
  have Vb5 : AI Z h5 b5 .int 0 (fun _ => (0 : Int32)) := A5
  refine g_special X5 hx hby hZ hown rfl (hw _ (List.mem_of_getElem? (i := 5) rfl)) (hw _ (List.mem_of_getElem? (i := 6) rfl)) (hw _ (List.mem_of_getElem? (i := 3) rfl)) (hw _ (List.mem_of_getElem? (i := 7) rfl)) at_55 b4 [(.long score), (.int u2), (.int w2), (.ref b5)] [(.ref b4)] (rm1 l Z a0 hw [] b4 score u2 w2 b5 h5 n0 Z5 A4_5 Fb4_score_5 Fb4_depth_5 Fb4_length_5 Fb4_positions_5 gn_b4) e5 rfl (by rw [hml]; rfl) pd0 rfl (by decide) 1 (Nat.le_of_eq rfl) (by decide) (by decide) (by decide) (by decide) 58 rfl ?_
  intro T6 v6 L6 X6 Q6
  obtain ⟨rfl, N6', K6', P6x0, P6x1, P6x2, P6x3, P6x4⟩ := Q6
  have N6 := Fr.app N3 N6'
  have Z6 : n0 ≤ T6.heap.size := Nat.le_trans Z5 K6'.1
  have P3x0_6 := P3x0_5.keep K6'
  have Vb2_6 := ArF.keep Vb2_5 K6' (ninS ne_b2_b4 nin0)
  have P3x1_6 := Fld.keep P3x1_5 K6' (ninS ne_b1_b4 nin0)
  have P3x2_6 := Fld.keep P3x2_5 K6' (ninS ne_b1_b4 nin0)
  have P3x3_6 := Fld.keep P3x3_5 K6' (ninS ne_b1_b4 nin0)
  have P3x4_6 := Fld.keep P3x4_5 K6' (ninS ne_b1_b4 nin0)
  have A4_6 := A4_5.keep K6'
  have Vb5_6 := ArF.keep Vb5 K6' (ninS (Ne.symm ne_b4_b5) nin0)
  show Goes p e below _ (T6.setTop (mkF m 58 _ [(.ref b4)]))
  refine g_astore X6 hx hby at_58 rfl #[.val (.int d1), .val (.int l1), .val (.int d2), .val (.int l2), .val (.long score), .second, .val (.int u1), .val (.int w1), .val (.int u2), .val (.int w2), .val (.ref b1), .val (.ref b4), .unset, .unset, .unset, .unset, .unset, .unset, .unset, .unset] rfl 60 rfl ?_
  refine g_aload X6 hx hby at_60 rfl rfl 62 rfl ?_
  refine g_virtual X6 hx hby hZ hown (hw _ (List.mem_of_getElem? (i := 19) rfl)) (hw _ (List.mem_of_getElem? (i := 20) rfl)) (notFace_of_selects (args := #[]) (mvT hZ (hw _ (List.mem_of_getElem? (i := 22) rfl)))) (hw _ (List.mem_of_getElem? (i := 22) rfl)) (hw _ (List.mem_of_getElem? (i := 21) rfl)) (hw _ (List.mem_of_getElem? (i := 3) rfl)) (hw _ (List.mem_of_getElem? (i := 23) rfl)) at_62 b1 P3x0_6 [] [] (rm3 l Z a0 hw [] b1 u1 w1 T6.heap n0 Z6 P3x2_6 P3x3_6) rfl rfl (by rw [hml]; rfl) pd1 rfl (by decide) 0 (Nat.le_of_eq rfl) (by decide) (by decide) (by decide) (by decide) 65 rfl ?_
  intro T7 v7 L7 X7 Q7
  obtain ⟨rfl, N7', e7⟩ := Q7
  have N7 := Fr.app N6 N7'
  show Goes p e below _ (T7.setTop (mkF m 65 _ [(.long (tie u1 w1))]))
  obtain ⟨t1, ht1⟩ : ∃ z : Int64, (tie u1 w1) = z := ⟨_, rfl⟩
  refine g_lstore X7 hx hby at_65 t1 ht1 #[.val (.int d1), .val (.int l1), .val (.int d2), .val (.int l2), .val (.long score), .second, .val (.int u1), .val (.int w1), .val (.int u2), .val (.int w2), .val (.ref b1), .val (.ref b4), .val (.long t1), .second, .unset, .unset, .unset, .unset, .unset, .unset] rfl 67 rfl ?_
  refine g_aload X7 hx hby at_67 rfl rfl 69 rfl ?_
  refine g_virtual X7 hx hby hZ hown (hw _ (List.mem_of_getElem? (i := 19) rfl)) (hw _ (List.mem_of_getElem? (i := 20) rfl)) (notFace_of_selects (args := #[]) (mvT hZ (hw _ (List.mem_of_getElem? (i := 22) rfl)))) (hw _ (List.mem_of_getElem? (i := 22) rfl)) (hw _ (List.mem_of_getElem? (i := 21) rfl)) (hw _ (List.mem_of_getElem? (i := 3) rfl)) (hw _ (List.mem_of_getElem? (i := 23) rfl)) at_69 b4 P6x0 [] [] (rm3 l Z a0 hw [] b4 u2 w2 T6.heap n0 Z6 P6x2 P6x3) e7 rfl (by rw [hml]; rfl) pd1 rfl (by decide) 0 (Nat.le_of_eq rfl) (by decide) (by decide) (by decide) (by decide) 72 rfl ?_
  intro T8 v8 L8 X8 Q8
  obtain ⟨rfl, N8', e8⟩ := Q8
  have N8 := Fr.app N7 N8'
  show Goes p e below _ (T8.setTop (mkF m 72 _ [(.long (tie u2 w2))]))
  obtain ⟨t2, ht2⟩ : ∃ z : Int64, (tie u2 w2) = z := ⟨_, rfl⟩
  refine g_lstore X8 hx hby at_72 t2 ht2 #[.val (.int d1), .val (.int l1), .val (.int d2), .val (.int l2), .val (.long score), .second, .val (.int u1), .val (.int w1), .val (.int u2), .val (.int w2), .val (.ref b1), .val (.ref b4), .val (.long t1), .second, .val (.long t2), .second, .unset, .unset, .unset, .unset] rfl 74 rfl ?_
  have hd1 := own_dec pu1 pw1 ht1
  have hd2 := own_dec pu2 pw2 ht2
  refine g_lload X8 hx hby at_74 rfl 76 rfl ?_
  refine g_bipush X8 hx hby at_76 (32 : Int32) rfl 78 rfl ?_
  refine g_lushr X8 hx hby at_78 79 rfl ?_
  refine g_iload X8 hx hby at_79 rfl 81 rfl ?_
  refine g_i2l X8 hx hby at_81 82 rfl ?_
  refine g_lcmp_ne X8 hx hby at_82 at_83 103 86 rfl (by decide) (by decide) rfl (fun _ => ?_) (fun q => absurd hd1.1 q)
  refine g_lload X8 hx hby at_86 rfl 88 rfl ?_
  refine g_ldc2 X8 hx hby hZ hown (hw _ (List.mem_of_getElem? (i := 24) rfl)) at_88 91 rfl ?_
  refine g_land X8 hx hby at_91 92 rfl ?_
  refine g_iload X8 hx hby at_92 rfl 94 rfl ?_
  refine g_i2l X8 hx hby at_94 95 rfl ?_
  refine g_lcmp_ne X8 hx hby at_95 at_96 103 99 rfl (by decide) (by decide) rfl (fun _ => ?_) (fun q => absurd hd1.2 q)
  refine g_iconst X8 hx hby at_99 (1 : Int32) rfl 100 rfl ?_
  refine g_goto X8 hx hby at_100 104 (by decide) (by decide) ?_
  refine g_istore X8 hx hby at_104 (1 : Int32) rfl #[.val (.int d1), .val (.int l1), .val (.int d2), .val (.int l2), .val (.long score), .second, .val (.int u1), .val (.int w1), .val (.int u2), .val (.int w2), .val (.ref b1), .val (.ref b4), .val (.long t1), .second, .val (.long t2), .second, .val (.int (1 : Int32)), .unset, .unset, .unset] rfl 106 rfl ?_
  refine g_lload X8 hx hby at_106 rfl 108 rfl ?_
  refine g_bipush X8 hx hby at_108 (32 : Int32) rfl 110 rfl ?_
  refine g_lushr X8 hx hby at_110 111 rfl ?_
  refine g_iload X8 hx hby at_111 rfl 113 rfl ?_
  refine g_i2l X8 hx hby at_113 114 rfl ?_
  refine g_lcmp_ne X8 hx hby at_114 at_115 135 118 rfl (by decide) (by decide) rfl (fun _ => ?_) (fun q => absurd hd2.1 q)
  refine g_lload X8 hx hby at_118 rfl 120 rfl ?_
  refine g_ldc2 X8 hx hby hZ hown (hw _ (List.mem_of_getElem? (i := 24) rfl)) at_120 123 rfl ?_
  refine g_land X8 hx hby at_123 124 rfl ?_
  refine g_iload X8 hx hby at_124 rfl 126 rfl ?_
  refine g_i2l X8 hx hby at_126 127 rfl ?_
  refine g_lcmp_ne X8 hx hby at_127 at_128 135 131 rfl (by decide) (by decide) rfl (fun _ => ?_) (fun q => absurd hd2.2 q)
  refine g_iconst X8 hx hby at_131 (1 : Int32) rfl 132 rfl ?_
  refine g_goto X8 hx hby at_132 136 (by decide) (by decide) ?_
  refine g_istore X8 hx hby at_136 (1 : Int32) rfl #[.val (.int d1), .val (.int l1), .val (.int d2), .val (.int l2), .val (.long score), .second, .val (.int u1), .val (.int w1), .val (.int u2), .val (.int w2), .val (.ref b1), .val (.ref b4), .val (.long t1), .second, .val (.long t2), .second, .val (.int (1 : Int32)), .val (.int (1 : Int32)), .unset, .unset] rfl 138 rfl ?_
  refine g_iload X8 hx hby at_138 rfl 140 rfl ?_
  refine g_iload X8 hx hby at_140 rfl 142 rfl ?_
  suffices J9 : ∀ bef : Int32, bef = (if u1 < u2 then (1 : Int32) else (if u1 = u2 then (if w1 < w2 then (1 : Int32) else (0 : Int32)) else (0 : Int32))) → Goes p e below (Kend s below (Q0 d1 l1 d2 l2 score Z h0 n0) room_1.cells room_1.slots) (T8.setTop (mkF m 164 #[.val (.int d1), .val (.int l1), .val (.int d2), .val (.int l2), .val (.long score), .second, .val (.int u1), .val (.int w1), .val (.int u2), .val (.int w2), .val (.ref b1), .val (.ref b4), .val (.long t1), .second, .val (.long t2), .second, .val (.int (1 : Int32)), .val (.int (1 : Int32)), .unset, .unset] [(.int bef)])) by
    refine g_icmp_lt X8 hx hby at_142 159 145 (by decide) (by decide) rfl (fun c10 => ?_) (fun c10 => ?_)
    · -- c10
      refine g_iconst X8 hx hby at_159 (1 : Int32) rfl 160 rfl ?_
      refine g_goto X8 hx hby at_160 164 (by decide) (by decide) ?_
      exact J9 _ (if_pos c10).symm
    · -- not c10
      refine g_iload X8 hx hby at_145 rfl 147 rfl ?_
      refine g_iload X8 hx hby at_147 rfl 149 rfl ?_
      refine g_icmp_ne X8 hx hby at_149 163 152 (by decide) (by decide) rfl (fun c11 => ?_) (fun c11 => ?_)
      · -- c11
        refine g_iload X8 hx hby at_152 rfl 154 rfl ?_
        refine g_iload X8 hx hby at_154 rfl 156 rfl ?_
        refine g_icmp_ge X8 hx hby at_156 163 159 (by decide) (by decide) rfl (fun c12 => ?_) (fun c12 => ?_)
        · -- c12
          refine g_iconst X8 hx hby at_159 (1 : Int32) rfl 160 rfl ?_
          refine g_goto X8 hx hby at_160 164 (by decide) (by decide) ?_
          exact J9 _ ((if_neg c10).trans ((if_pos c11).trans (if_pos c12))).symm
        · -- not c12
          refine g_iconst X8 hx hby at_163 (0 : Int32) rfl 164 rfl ?_
          exact J9 _ ((if_neg c10).trans ((if_pos c11).trans (if_neg c12))).symm
      · -- not c11
        refine g_iconst X8 hx hby at_163 (0 : Int32) rfl 164 rfl ?_
        exact J9 _ ((if_neg c10).trans (if_neg c11)).symm
  intro bef hbef
  refine g_istore X8 hx hby at_164 bef rfl #[.val (.int d1), .val (.int l1), .val (.int d2), .val (.int l2), .val (.long score), .second, .val (.int u1), .val (.int w1), .val (.int u2), .val (.int w2), .val (.ref b1), .val (.ref b4), .val (.long t1), .second, .val (.long t2), .second, .val (.int (1 : Int32)), .val (.int (1 : Int32)), .val (.int bef), .unset] rfl 166 rfl ?_
  refine g_iload X8 hx hby at_166 rfl 168 rfl ?_
  refine g_iload X8 hx hby at_168 rfl 170 rfl ?_
  suffices J13 : ∀ eqq : Int32, eqq = (if u1 = u2 then (if w1 = w2 then (1 : Int32) else (0 : Int32)) else (0 : Int32)) → Goes p e below (Kend s below (Q0 d1 l1 d2 l2 score Z h0 n0) room_1.cells room_1.slots) (T8.setTop (mkF m 185 #[.val (.int d1), .val (.int l1), .val (.int d2), .val (.int l2), .val (.long score), .second, .val (.int u1), .val (.int w1), .val (.int u2), .val (.int w2), .val (.ref b1), .val (.ref b4), .val (.long t1), .second, .val (.long t2), .second, .val (.int (1 : Int32)), .val (.int (1 : Int32)), .val (.int bef), .unset] [(.int eqq)])) by
    refine g_icmp_ne X8 hx hby at_170 184 173 (by decide) (by decide) rfl (fun c14 => ?_) (fun c14 => ?_)
    · -- c14
      refine g_iload X8 hx hby at_173 rfl 175 rfl ?_
      refine g_iload X8 hx hby at_175 rfl 177 rfl ?_
      refine g_icmp_ne X8 hx hby at_177 184 180 (by decide) (by decide) rfl (fun c15 => ?_) (fun c15 => ?_)
      · -- c15
        refine g_iconst X8 hx hby at_180 (1 : Int32) rfl 181 rfl ?_
        refine g_goto X8 hx hby at_181 185 (by decide) (by decide) ?_
        exact J13 _ ((if_pos c14).trans (if_pos c15)).symm
      · -- not c15
        refine g_iconst X8 hx hby at_184 (0 : Int32) rfl 185 rfl ?_
        exact J13 _ ((if_pos c14).trans (if_neg c15)).symm
    · -- not c14
      refine g_iconst X8 hx hby at_184 (0 : Int32) rfl 185 rfl ?_
      exact J13 _ (if_neg c14).symm
  intro eqq heqq
  refine g_istore X8 hx hby at_185 eqq rfl #[.val (.int d1), .val (.int l1), .val (.int d2), .val (.int l2), .val (.long score), .second, .val (.int u1), .val (.int w1), .val (.int u2), .val (.int w2), .val (.ref b1), .val (.ref b4), .val (.long t1), .second, .val (.long t2), .second, .val (.int (1 : Int32)), .val (.int (1 : Int32)), .val (.int bef), .val (.int eqq)] rfl 187 rfl ?_
  refine g_iload X8 hx hby at_187 rfl 189 rfl ?_
  refine g_if_eq X8 hx hby at_189 237 192 (by decide) (by decide) rfl (fun q => absurd q (by decide)) (fun _ => ?_)
  refine g_iload X8 hx hby at_192 rfl 194 rfl ?_
  refine g_if_eq X8 hx hby at_194 237 197 (by decide) (by decide) rfl (fun q => absurd q (by decide)) (fun _ => ?_)
  refine g_lload X8 hx hby at_197 rfl 199 rfl ?_
  refine g_lload X8 hx hby at_199 rfl 201 rfl ?_
  suffices J16 : ∀ zb : Int32, zb = (if t1 < t2 then (1 : Int32) else (0 : Int32)) → Goes p e below (Kend s below (Q0 d1 l1 d2 l2 score Z h0 n0) room_1.cells room_1.slots) (T8.setTop (mkF m 210 #[.val (.int d1), .val (.int l1), .val (.int d2), .val (.int l2), .val (.long score), .second, .val (.int u1), .val (.int w1), .val (.int u2), .val (.int w2), .val (.ref b1), .val (.ref b4), .val (.long t1), .second, .val (.long t2), .second, .val (.int (1 : Int32)), .val (.int (1 : Int32)), .val (.int bef), .val (.int eqq)] [(.int zb)])) by
    refine g_lcmp_ge X8 hx hby at_201 at_202 209 205 rfl (by decide) (by decide) rfl (fun c17 => ?_) (fun c17 => ?_)
    · -- c17
      refine g_iconst X8 hx hby at_205 (1 : Int32) rfl 206 rfl ?_
      refine g_goto X8 hx hby at_206 210 (by decide) (by decide) ?_
      exact J16 _ (if_pos c17).symm
    · -- not c17
      refine g_iconst X8 hx hby at_209 (0 : Int32) rfl 210 rfl ?_
      exact J16 _ (if_neg c17).symm
  intro zb hzb
  refine g_iload X8 hx hby at_210 rfl 212 rfl ?_
  refine g_icmp_ne X8 hx hby at_212 237 215 (by decide) (by decide) rfl (fun _ => ?_) (fun q => absurd (own_cmp pu1 pw1 pu2 pw2 ht1 ht2 hbef heqq hzb rfl).1 q)
  refine g_lload X8 hx hby at_215 rfl 217 rfl ?_
  refine g_lload X8 hx hby at_217 rfl 219 rfl ?_
  suffices J18 : ∀ ze : Int32, ze = (if t1 = t2 then (1 : Int32) else (0 : Int32)) → Goes p e below (Kend s below (Q0 d1 l1 d2 l2 score Z h0 n0) room_1.cells room_1.slots) (T8.setTop (mkF m 228 #[.val (.int d1), .val (.int l1), .val (.int d2), .val (.int l2), .val (.long score), .second, .val (.int u1), .val (.int w1), .val (.int u2), .val (.int w2), .val (.ref b1), .val (.ref b4), .val (.long t1), .second, .val (.long t2), .second, .val (.int (1 : Int32)), .val (.int (1 : Int32)), .val (.int bef), .val (.int eqq)] [(.int ze)])) by
    refine g_lcmp_ne X8 hx hby at_219 at_220 227 223 rfl (by decide) (by decide) rfl (fun c19 => ?_) (fun c19 => ?_)
    · -- c19
      refine g_iconst X8 hx hby at_223 (1 : Int32) rfl 224 rfl ?_
      refine g_goto X8 hx hby at_224 228 (by decide) (by decide) ?_
      exact J18 _ (if_pos c19).symm
    · -- not c19
      refine g_iconst X8 hx hby at_227 (0 : Int32) rfl 228 rfl ?_
      exact J18 _ (if_neg c19).symm
  intro ze hze
  refine g_iload X8 hx hby at_228 rfl 230 rfl ?_
  have hcc := own_cmp pu1 pw1 pu2 pw2 ht1 ht2 hbef heqq hzb hze
  refine g_icmp_ne X8 hx hby at_230 237 233 (by decide) (by decide) rfl (fun _ => ?_) (fun q => absurd hcc.2 q)
  refine g_iconst X8 hx hby at_233 (1 : Int32) rfl 234 rfl ?_
  refine g_goto X8 hx hby at_234 238 (by decide) (by decide) ?_
  exact g_ireturn X8 hx hby hret hlk (Or.inr (Or.inl rfl)) (nar_bool (Or.inr rfl)) at_238 ⟨rfl, N8⟩ (by decide) (by decide)
set_option maxRecDepth 65536 in
set_option maxHeartbeats 40000000 in
theorem comes_1 {Post : Tables → Env → Array Value → State → Outcome → State → Prop} (hpost : ∀ tb e args s v u, (limb_1_1.after args s (.returned v) u = true ∧ limb_1_2.after args s (.returned v) u = true ∧ True) → FrameEnd s (.returned v) u (Jvm.fieldLocs frame_1_writes args s ++ Jvm.arrayLocs frame_1_arrays args s ++ Jvm.staticLocs frame_1_statics s) 16 128 → Post tb e args s (.returned v) u) :
    ArmFor flags0 classFile x code maxLocals ret World_1 tables_1 room_1 Calls_1 rest_1 Pre_1 Post := by
  intro l hfl _ _ p e ha hc hk s m args below hf hA hF happ hP
  obtain ⟨hcalls, hrest, hpre⟩ := hP
  obtain ⟨-, -, -, hnamed, -, -, -, hat⟩ := (Spec.applies_iff hf).mp happ
  obtain ⟨hg, hn⟩ := and_e (Cond.before_iff.mp (show (Jvm.Cond.and given_1 narrow_1).before args s = true from hpre))
  obtain ⟨q0, r0⟩ := and_e hg
  obtain ⟨q1, r1⟩ := and_e r0
  obtain ⟨q2, r2⟩ := and_e r1
  obtain ⟨q3, r3⟩ := and_e r2
  obtain ⟨q4, r4⟩ := and_e r3
  obtain ⟨w0, w1, w2, w3, w4, rfl⟩ : ∃ w0 w1 w2 w3 w4 : Value, args = #[w0, w1, w2, w3, w4] := by
    have hs : args.size = 5 := by simpa [Cond.value, given_1] using q0
    obtain ⟨L⟩ := args
    match L, hs with
    | [w0, w1, w2, w3, w4], _ => exact ⟨w0, w1, w2, w3, w4, rfl⟩
  have hw := fun d (hd : d ∈ tables_1) => atoms_spec (ws := Jvm.Cond.code x code maxLocals ret :: tables_1) hat d (List.mem_cons_of_mem _ hd)
  obtain ⟨i0, ei0⟩ := is_v q1
  obtain rfl : w0 = (.int i0) := Option.some.inj ei0
  obtain ⟨i1, ei1⟩ := is_v q2
  obtain rfl : w1 = (.int i1) := Option.some.inj ei1
  obtain ⟨i2, ei2⟩ := is_v q3
  obtain rfl : w2 = (.int i2) := Option.some.inj ei2
  obtain ⟨i3, ei3⟩ := is_v q4
  obtain rfl : w3 = (.int i3) := Option.some.inj ei3
  obtain ⟨i4, ei4⟩ := isL_v r4
  obtain rfl : w4 = (.long i4) := Option.some.inj ei4
  obtain ⟨n, o, h1, h2, h3, _, L, rfl, ⟨rfl, N⟩, hq⟩ := rm0 l s _ hw tables_1 i0 i1 i2 i3 i4 s.heap s.heap.size (Nat.le_refl _) p e ha hc hk s m _ below hf ((Spec.applies_iff_loose hf).mp happ).1 ⟨rfl, State.Warmed39.refl s, rfl⟩ trivial
  refine ⟨n, _, h1, h2, h3, hpost _ _ _ _ _ _ ⟨Cond.after_iff.mpr rfl, Cond.after_iff.mpr (eq_i res_at (Term.int_eval (1)) rfl), trivial⟩ ⟨hq.1, hq.2.1, (hq.2.2.sift fun y hy => Or.inr (N y hy)).mono (by decide) (by decide)⟩⟩
theorem main_1_1 : Claimed_1_1 := comes_1 fun _ _ _ _ _ _ h hF => ⟨h.1, hF⟩
theorem main_1_2 : Claimed_1_2 := comes_1 fun _ _ _ _ _ _ h hF => ⟨h.2.1, hF⟩
end Jvm.Pilot.@@N@@
namespace Jvm.Pilot.@@N@@
open Jvm Jvm.ClassFile Sem Op Lib Jvm.Free Jvm.Stand Jvm.Pilot.@@N@@.Jvm.D
/-! MADE BY PROGRAM (witnessworld.py) out of the Statement's table words and the real class files: 9 classes; the members and pool entries that the words name. The judged class is class 1, her method 1. -/
namespace start1
open Jvm.ClassFile
def u (s : String) : CpInfo := .utf8 (stringToUtf16 s)
/-- a pool by its gaps: so many unusable entries, then the entry; so many at the end -/
def gap : Nat → List CpInfo → List CpInfo
  | 0, r => r
  | n + 1, r => .unusable :: gap n r
def poolList (es : List (Nat × CpInfo)) (last : Nat) : List CpInfo := es.foldr (fun e r => gap e.1 (e.2 :: r)) (gap last [])
def pool (es : List (Nat × CpInfo)) (last : Nat) : Array CpInfo := ⟨poolList es last⟩
def fileOf (pool : Array CpInfo) (this : Nat) (attrs : Array Attribute := #[]) (ms : Array MethodInfo := #[]) (fl : Nat := 33) (sup : Nat := 0) (ifs : Array Nat := #[]) (fds : Array FieldInfo := #[]) : ClassFile where
  minorVersion := 0
  majorVersion := 65
  constantPool := pool
  accessFlags := fl
  thisClass := this
  superClass := sup
  interfaces := ifs
  fields := fds
  methods := ms
  attributes := attrs
def plain (name : String) (sup : Option ClassId) : Class where
  name := name
  kind := .ordinary
  loader := none
  accessFlags := 33
  super := sup
  interfaces := #[]
  cf := none
  fields := #[]
  methods := #[]
  instanceTypes := #[]
  staticTypes := #[]
  resolved := #[]
  callSites := []
  init := .initialized
  statics := none
  mirror := none

def pool0 : Array CpInfo := pool [(5, u "<init>"), (0, u "()V"), (1, .class_ 10), (1, u "java/lang/Object")] 113

def k0c0 : Code := { maxStack := 0, maxLocals := 1, code := object_method_1_code, exceptionTable := #[], attributes := #[] }
def k0m0 : Method := { name := "<init>", desc := "()V", sig := { parameters := [], returnType := none }, accessFlags := 1, code := some k0c0 }
/-- java/lang/Object -/
def k0 : Class := { plain "java/lang/Object" none with
  accessFlags := 33
  interfaces := #[]
  cf := some (fileOf pool0 8 #[] #[{ accessFlags := 1, nameIndex := 5, descriptorIndex := 6, attributes := #[] }] 33 0 #[] #[])
  fields := #[]
  methods := #[k0m0]
  instanceTypes := #[]
  staticTypes := #[]
  resolved := Array.replicate 124 none
  statics := none }

def pool1 : Array CpInfo := pool [(2, .class_ 4), (1, u "java/lang/Object"), (0, u "<init>"), (0, u "()V"), (0, .integer 2147483647), (0, .class_ 9), (0, u "com/example/measured_match/measuredmatch/Match"), (0, .methodref 8 11), (0, .nameAndType 5 12), (0, u "(JII[I)V"), (0, .methodref 8 14), (0, .nameAndType 15 16), (0, u "tieBreak"), (0, u "()J"), (0, .long 4294967295), (1, .class_ 20), (0, u "com/example/measured_match/measuredmatch/MatchTieBreakPinLaw"), (2, u "law"), (0, u "(IIIIJ)Z")] 3

def k1m0 : Method := { name := "<init>", desc := "()V", sig := { parameters := [], returnType := none }, accessFlags := 2, code := none }
def k1c1 : Code := { maxStack := 7, maxLocals := 20, code := code, exceptionTable := #[], attributes := #[] }
def k1m1 : Method := { name := "law", desc := "(IIIIJ)Z", sig := { parameters := [.int, .int, .int, .int, .long], returnType := some .boolean }, accessFlags := 9, code := some k1c1 }
/-- com/example/measured_match/measuredmatch/MatchTieBreakPinLaw -/
def k1 : Class := { plain "com/example/measured_match/measuredmatch/MatchTieBreakPinLaw" (some 0) with
  accessFlags := 49
  interfaces := #[]
  cf := some (fileOf pool1 19 #[] #[{ accessFlags := 2, nameIndex := 5, descriptorIndex := 6, attributes := #[] }, { accessFlags := 9, nameIndex := 23, descriptorIndex := 24, attributes := #[] }] 49 2 #[] #[])
  fields := #[]
  methods := #[k1m0, k1m1]
  instanceTypes := #[]
  staticTypes := #[]
  resolved := Array.replicate 28 none
  statics := none }

def pool2 : Array CpInfo := pool [(1, .methodref 2 3), (0, .class_ 4), (0, .nameAndType 5 6), (0, u "java/lang/Object"), (0, u "<init>"), (0, u "()V"), (0, .fieldref 8 9), (0, .class_ 10), (0, .nameAndType 11 12), (0, u "com/example/measured_match/measuredmatch/Match"), (0, u "score"), (0, u "J"), (0, .fieldref 8 14), (0, .nameAndType 15 16), (0, u "depth"), (0, u "I"), (0, .fieldref 8 18), (0, .nameAndType 19 16), (0, u "length"), (0, .fieldref 8 21), (0, .nameAndType 22 23), (0, u "positions"), (0, u "[I"), (6, u "(JII[I)V"), (12, u "()J"), (0, u "tieBreak")] 7

def k2c0 : Code := { maxStack := 3, maxLocals := 6, code := prog_16_method_1_code, exceptionTable := #[], attributes := #[] }
def k2m0 : Method := { name := "<init>", desc := "(JII[I)V", sig := { parameters := [.long, .int, .int, (.array .int)], returnType := none }, accessFlags := 0, code := some k2c0 }
def k2c1 : Code := { maxStack := 4, maxLocals := 1, code := prog_16_method_4_code, exceptionTable := #[], attributes := #[] }
def k2m1 : Method := { name := "tieBreak", desc := "()J", sig := { parameters := [], returnType := some .long }, accessFlags := 0, code := some k2c1 }
/-- com/example/measured_match/measuredmatch/Match -/
def k2 : Class := { plain "com/example/measured_match/measuredmatch/Match" (some 0) with
  accessFlags := 32
  interfaces := #[]
  cf := some (fileOf pool2 8 #[] #[{ accessFlags := 0, nameIndex := 5, descriptorIndex := 30, attributes := #[] }, { accessFlags := 0, nameIndex := 44, descriptorIndex := 43, attributes := #[] }] 32 2 #[] #[{ accessFlags := 18, nameIndex := 11, descriptorIndex := 12, attributes := #[] }, { accessFlags := 18, nameIndex := 15, descriptorIndex := 16, attributes := #[] }, { accessFlags := 18, nameIndex := 19, descriptorIndex := 16, attributes := #[] }, { accessFlags := 18, nameIndex := 22, descriptorIndex := 23, attributes := #[] }])
  fields := #[{ name := "score", type := .long, accessFlags := 18, slot := 0, constantValue := 0 }, { name := "depth", type := .int, accessFlags := 18, slot := 1, constantValue := 0 }, { name := "length", type := .int, accessFlags := 18, slot := 2, constantValue := 0 }, { name := "positions", type := (.array .int), accessFlags := 18, slot := 3, constantValue := 0 }]
  methods := #[k2m0, k2m1]
  instanceTypes := #[.long, .int, .int, (.array .int)]
  staticTypes := #[]
  resolved := Array.replicate 52 none
  statics := none }

def pool3 : Array CpInfo := pool [(1, u "java/lang/Cloneable"), (0, .class_ 1), (0, u "java/lang/Object"), (0, .class_ 3)] 3

/-- java/lang/Cloneable -/
def k3 : Class := { plain "java/lang/Cloneable" (some 0) with
  accessFlags := 1537
  interfaces := #[]
  cf := some (fileOf pool3 2 #[] #[] 1537 4 #[] #[])
  fields := #[]
  methods := #[]
  instanceTypes := #[]
  staticTypes := #[]
  resolved := Array.replicate 8 none
  statics := none }

def pool4 : Array CpInfo := pool [(1, u "java/io/Serializable"), (0, .class_ 1), (0, u "java/lang/Object"), (0, .class_ 3)] 3

/-- java/io/Serializable -/
def k4 : Class := { plain "java/io/Serializable" (some 0) with
  accessFlags := 1537
  interfaces := #[]
  cf := some (fileOf pool4 2 #[] #[] 1537 4 #[] #[])
  fields := #[]
  methods := #[]
  instanceTypes := #[]
  staticTypes := #[]
  resolved := Array.replicate 8 none
  statics := none }

/-- the primitive byte -/
def k5 : Class := { plain "byte" none with kind := .primitive 'B', accessFlags := 0x411 }
/-- [B -/
def k6 : Class := { plain "[B" (some 0) with kind := .array 5 .byte, interfaces := #[3, 4], accessFlags := 1041 }

/-- the primitive int -/
def k7 : Class := { plain "int" none with kind := .primitive 'I', accessFlags := 0x411 }
/-- [I -/
def k8 : Class := { plain "[I" (some 0) with kind := .array 7 .int, interfaces := #[3, 4], accessFlags := 1041 }

def heap : Heap := #[]
def classes : Array Class := #[k0, k1, k2, k3, k4, k5, k6, k7, k8]
def interned : List (Array UInt16 × Addr) := []
def slotsUsed : Nat := 0
def theMethod : MethodId := ⟨1, 1⟩
def args0 : Array Value := #[.int 5, .int 5, .int 5, .int 5, .long 5]
def aboutOver (below : List Frame) : State where
  vm := { classes := classes, interned := interned.toArray }
  heap := heap
  slotsUsed := slotsUsed
  threads := #[{ frames := .invoking theMethod args0 :: below }]
def below0 : List Frame := [.native { method := ⟨0, 0⟩, args := #[] }]
def about1 : State := aboutOver below0
def p0 : Program := .bare "" "" ""
def e0 : Env := launch0.env 0 0 0
theorem w_frames : about1.frames = Frame.invoking theMethod args0 :: below0 := rfl
set_option maxRecDepth 65536 in
theorem w_args : argsFit about1.vm theMethod args0 = true := by decide +kernel
set_option maxRecDepth 65536 in
theorem w_heap : heapFits about1 = true := by decide +kernel
set_option maxRecDepth 65536 in
theorem w_runnable : about1.curStatus? = some .runnable := by decide +kernel
set_option maxRecDepth 65536 in
theorem w_alone : about1.alone = true := by decide +kernel
set_option maxRecDepth 65536 in
theorem w_named : about1.methodNamed? x = some theMethod := by decide +kernel
set_option maxRecDepth 65536 in
theorem w_hears : about1.hears theMethod below0 = true := by decide +kernel
set_option maxRecDepth 65536 in
theorem w_ripe : about1.ripe theMethod args0 below0 = true := by decide +kernel
theorem w_running : about1.status = .running := rfl
set_option maxRecDepth 65536 in
theorem w_room : about1.hasRoom e0.platform room_1 = true :=
  launch0.hasRoom_least _ room_1 (by decide +kernel) (by decide +kernel) (by decide +kernel) (by decide +kernel) (by decide +kernel) (by decide +kernel)
theorem allAtoms_all (ts : List Jvm.Cond) (a : Array Jvm.Value) (st : Jvm.State) : (allAtoms ts).before a st = ts.all (fun c => c.before a st) := by
  induction ts with
  | nil => rfl
  | cons c t ih =>
    show (Jvm.Cond.and c (allAtoms t)).before a st = _
    rw [Jvm.Cond.before_and, ih, List.all_cons]
def words1 : List Jvm.Cond := Jvm.Cond.code x code maxLocals ret :: tables_1
/-- a 'code' word, met by the world's own term for the bytes: nothing is compared byte by byte -/
theorem code_word {y : MethodName} {bytes : ByteArray} {mx : Nat} {rt : Option FieldType} {a : Array Value} {s : State} {m : MethodId} {meth : Method} {c : Code} (h1 : s.methodNamed? y = some m) (h2 : s.vm.method? m = some meth) (h3 : meth.code = some c) (h4 : c.code = bytes)
    (h5 : (c.maxLocals == mx && c.exceptionTable.isEmpty && decide (c.maxStack ≤ mostOperands) && decide (meth.sig.returnType = rt) && !meth.locks && decide (parseMethodDescriptor y.desc = some meth.sig)) = true) : (Jvm.Cond.code y bytes mx rt).before a s = true := by
  simp only [Bool.and_eq_true, beq_iff_eq, Bool.not_eq_true', decide_eq_true_eq] at h5
  obtain ⟨⟨⟨⟨⟨g1, g2⟩, g3⟩, g4⟩, g5⟩, g6⟩ := h5
  simp [Cond.before, Cond.holds, Cond.value, h1, h2, h3, h4, g1, g2, g3, g4, g5, g6]
def isCode : Jvm.Cond → Bool
  | .code _ _ _ _ => true
  | _ => false
theorem all_split {L : List Jvm.Cond} {P : Jvm.Cond → Bool} (h1 : L.all (fun c => isCode c || P c) = true) (h2 : ∀ c ∈ L.filter isCode, P c = true) : L.all P = true := by
  refine List.all_eq_true.mpr fun c hc => ?_
  have h := List.all_eq_true.mp h1 c hc
  rcases Bool.eq_false_or_eq_true (isCode c) with hi | hi
  · exact h2 c (List.mem_filter.mpr ⟨hc, hi⟩)
  · simpa [hi] using h
set_option maxRecDepth 65536 in
theorem w_c0 : (Jvm.Cond.code x code maxLocals ret).before args0 about1 = true := code_word (m := ⟨1, 1⟩) (meth := k1m1) (c := k1c1) (by decide +kernel) rfl rfl rfl (by decide +kernel)
set_option maxRecDepth 65536 in
theorem w_c1 : (Jvm.Cond.code ({ cls := "com/example/measured_match/measuredmatch/Match", name := "<init>", desc := "(JII[I)V" } : Jvm.MethodName) prog_16_method_1_code (6 : Nat) (Option.none : Option Jvm.ClassFile.FieldType)).before args0 about1 = true := code_word (m := ⟨2, 0⟩) (meth := k2m0) (c := k2c0) (by decide +kernel) rfl rfl rfl (by decide +kernel)
set_option maxRecDepth 65536 in
theorem w_c2 : (Jvm.Cond.code ({ cls := "java/lang/Object", name := "<init>", desc := "()V" } : Jvm.MethodName) object_method_1_code (1 : Nat) (Option.none : Option Jvm.ClassFile.FieldType)).before args0 about1 = true := code_word (m := ⟨0, 0⟩) (meth := k0m0) (c := k0c0) (by decide +kernel) rfl rfl rfl (by decide +kernel)
set_option maxRecDepth 65536 in
theorem w_c3 : (Jvm.Cond.code ({ cls := "com/example/measured_match/measuredmatch/Match", name := "tieBreak", desc := "()J" } : Jvm.MethodName) prog_16_method_4_code (1 : Nat) (Option.some Jvm.ClassFile.FieldType.long)).before args0 about1 = true := code_word (m := ⟨2, 1⟩) (meth := k2m1) (c := k2c1) (by decide +kernel) rfl rfl rfl (by decide +kernel)
def codes1 : List Jvm.Cond := [Jvm.Cond.code x code maxLocals ret, Jvm.Cond.code ({ cls := "com/example/measured_match/measuredmatch/Match", name := "<init>", desc := "(JII[I)V" } : Jvm.MethodName) prog_16_method_1_code (6 : Nat) (Option.none : Option Jvm.ClassFile.FieldType), Jvm.Cond.code ({ cls := "java/lang/Object", name := "<init>", desc := "()V" } : Jvm.MethodName) object_method_1_code (1 : Nat) (Option.none : Option Jvm.ClassFile.FieldType), Jvm.Cond.code ({ cls := "com/example/measured_match/measuredmatch/Match", name := "tieBreak", desc := "()J" } : Jvm.MethodName) prog_16_method_4_code (1 : Nat) (Option.some Jvm.ClassFile.FieldType.long)]
set_option maxRecDepth 65536 in
theorem codes_eq : words1.filter isCode = codes1 := rfl
theorem w_codes : ∀ c ∈ words1.filter isCode, c.before args0 about1 = true := by
  rw [codes_eq]
  intro c hc
  simp only [codes1, List.mem_cons, List.not_mem_nil, or_false] at hc
  rcases hc with rfl | rfl | rfl | rfl
  · exact w_c0
  · exact w_c1
  · exact w_c2
  · exact w_c3
set_option maxRecDepth 65536 in
theorem w_t1 : (words1.take 24).all (fun c => isCode c || c.before args0 about1) = true := by decide +kernel
set_option maxRecDepth 65536 in
theorem w_t2 : (words1.drop 24).all (fun c => isCode c || c.before args0 about1) = true := by decide +kernel
theorem w_tables : (allAtoms (Jvm.Cond.code x code maxLocals ret :: tables_1)).before args0 about1 = true := by
  rw [allAtoms_all]
  show words1.all (fun c => c.before args0 about1) = true
  refine all_split ?_ w_codes
  rw [← List.take_append_drop 24 words1, List.all_append, w_t1, w_t2]
  rfl
set_option maxRecDepth 65536 in
theorem w_case : (Jvm.Cond.and given_1 narrow_1).before args0 about1 = true := by decide +kernel
theorem w_applies : (headSpec (Jvm.Cond.code x code maxLocals ret :: tables_1) room_1).applies x e0.platform about1 = true :=
  (Spec.applies_iff w_frames).mpr ⟨w_running, w_runnable, w_alone, w_named, w_hears, w_ripe, w_room, w_tables⟩
theorem atStart : AtStart classFile x code maxLocals ret World_1 tables_1 room_1 Calls_1 rest_1 Pre_1 launch0 p0 e0 about1 theMethod args0 below0 :=
  ⟨lists_1, trivial, launch0.admits_env _ _ _, launch0.least_env, fairChoices_fair.cas, fairChoices_fair.clock, w_frames, w_args, w_heap, w_applies, trivial, trivial, w_case⟩
end start1
theorem witness_1 : WitnessClaimed_1 := ⟨start1.p0, start1.e0, start1.about1, start1.theMethod, start1.args0, start1.below0, start1.atStart⟩
end Jvm.Pilot.@@N@@
