import JvmDerived
import JvmDerived.Pilot.@@N@@Statement
import JvmDerived.Pilot.@@N@@Code
set_option linter.unusedVariables false
set_option linter.unusedSimpArgs false
namespace Jvm.Pilot.@@N@@
open Jvm Jvm.ClassFile Sem Op Lib Jvm.Free Jvm.Stand Jvm.LawKit Jvm.RoadKit Bundle Jvm.Pilot.@@N@@.Jvm.D
section OwnKit
variable {p : Program} {l : Launch} {e : Env} {R : Room} {s : State} {m : MethodId} {args : Array Value} {below : List Frame} {meth : Method} {c : Code} {T : State} {locs : List Loc} {cells slots : Nat} {K : State → Prop} {Ls : Array Slot} {rest : List Value} {pc : Nat} {bytes : ByteArray}
def Goes (p : Program) (e : Env) (below : List Frame) (K : State → Prop) (S : State) : Prop := ∃ t, Steps p.tables e below S t ∧ K t
theorem Goes.of {S S' : State} (st : ∀ t, Steps p.tables e below S' t → Steps p.tables e below S t) (h : Goes p e below K S') : Goes p e below K S := h.elim fun t ht => ⟨t, st t ht.1, ht.2⟩
theorem Goes.entry {g g' : JFrame} (q : g = g') (k : Goes p e below K (T.setTop g')) : Goes p e below K (T.setTop g) := q ▸ k
def Kend (s : State) (below : List Frame) (Q : Option Value → Heap → List Loc → Prop) (C S : Nat) (t : State) : Prop := ∃ o, t.status = .running ∧ Ended t below o ∧ ∃ v L, o = .returned v ∧ Q v t.heap L ∧ FrameEnd s o t L C S
def Ctr (l : Launch) (y : MethodName) (bytes : ByteArray) (maxL : Nat) (ret : Option FieldType) (ws : List Jvm.Cond) (rm : Room) (as' : Array Value) (Z : State) (h0 : Heap) (Q : Option Value → Heap → List Loc → Prop) : Prop :=
  MetFree l y (head1 (Jvm.Cond.code y bytes maxL ret :: ws) rm) (fun a U => a = as' ∧ Z.Warmed39 U.vm ∧ U.heap = h0) (fun _ _ _ _ _ => True) (fun _ U o U' => ∃ v L, o = .returned v ∧ Q v U'.heap L ∧ FrameEnd U o U' L rm.cells rm.slots)
theorem own_body {y : MethodName} {maxL : Nat} {ret : Option FieldType} {ws : List Jvm.Cond} {rm : Room} {as' : Array Value} {Z : State} {h0 : Heap} {Q : Option Value → Heap → List Loc → Prop} (hpl : plainFor y = true)
    (H : ∀ (p : Program) (e : Env) (s : State) (m : MethodId) (below : List Frame) (meth : Method) (c : Code) (s₁ : State), p.tables.exec = Jvm.exec → c.code = bytes → c.maxLocals = maxL → s.vm.findClass y.cls = some m.cls → meth.name = y.name → meth.sig.returnType = ret → meth.locks = false → Z.Warmed39 s.vm →
      Stand p l e rm s m as' below meth c s₁ [] 0 0 → s₁.heap = h0 → Goes p e below (Kend s below Q rm.cells rm.slots) (s₁.setTop (entryFrame m as' maxL))) : Ctr l y bytes maxL ret ws rm as' Z h0 Q := by
  refine MetFree.of_bodySF hpl hisR ?_
  intro p e s m args below meth c s₁ Bd hml0 hP hK
  obtain ⟨rfl, hZ, hh⟩ := hP
  obtain ⟨t, h1, o, h2, h3, h4⟩ := H p e s m below meth c s₁ Bd.exec Bd.bytes hml0 (findClass_of_methodNamed Bd.named) (name_of_methodNamed Bd.named Bd.method).1 Bd.returns Bd.notSynchronized hZ (Stand.of_body Bd) (by rw [← hh, Bd.state]; rfl)
  exact ⟨t, o, h1, h2, h3, h4⟩

theorem own_store1 {l l' : Array Slot} {i : Nat} {v : Value} {o : Slot} (hold : l[i]? = some o) (ho : One o) (hv : v.category = 1) (e : l.setIfInBounds i (.val v) = l') : storeLocals l i v = some l' := e ▸ XS.store1 hold ho hv
theorem g_iadd (X : Stand p l e R s m args below meth c T locs cells slots) (hx : p.tables.exec = Jvm.exec) (hby : c.code = bytes) {x y : Int32} (hd : decode bytes pc = .ok (.iadd, 1)) (q : Nat) (hq : pc + 1 = q) (k : Goes p e below K (T.setTop (mkF m q Ls (.int (x + y) :: rest)))) : Goes p e below K (T.setTop (mkF m pc Ls (.int y :: .int x :: rest))) := by
  subst hq; exact Goes.of (fun t kt => XS.iadd X.here hx rfl (hb hby hd) rfl kt) k
theorem g_isub (X : Stand p l e R s m args below meth c T locs cells slots) (hx : p.tables.exec = Jvm.exec) (hby : c.code = bytes) {x y : Int32} (hd : decode bytes pc = .ok (.isub, 1)) (q : Nat) (hq : pc + 1 = q) (k : Goes p e below K (T.setTop (mkF m q Ls (.int (x - y) :: rest)))) : Goes p e below K (T.setTop (mkF m pc Ls (.int y :: .int x :: rest))) := by
  subst hq; exact Goes.of (fun t kt => XS.isub X.here hx rfl (hb hby hd) rfl kt) k
theorem g_imul (X : Stand p l e R s m args below meth c T locs cells slots) (hx : p.tables.exec = Jvm.exec) (hby : c.code = bytes) {x y : Int32} (hd : decode bytes pc = .ok (.imul, 1)) (q : Nat) (hq : pc + 1 = q) (k : Goes p e below K (T.setTop (mkF m q Ls (.int (x * y) :: rest)))) : Goes p e below K (T.setTop (mkF m pc Ls (.int y :: .int x :: rest))) := by
  subst hq; exact Goes.of (fun t kt => XS.imul X.here hx rfl (hb hby hd) rfl kt) k
theorem g_iand (X : Stand p l e R s m args below meth c T locs cells slots) (hx : p.tables.exec = Jvm.exec) (hby : c.code = bytes) {x y : Int32} (hd : decode bytes pc = .ok (.iand, 1)) (q : Nat) (hq : pc + 1 = q) (k : Goes p e below K (T.setTop (mkF m q Ls (.int (x &&& y) :: rest)))) : Goes p e below K (T.setTop (mkF m pc Ls (.int y :: .int x :: rest))) := by
  subst hq; exact Goes.of (fun t kt => XS.iand X.here hx rfl (hb hby hd) rfl kt) k
theorem g_ior (X : Stand p l e R s m args below meth c T locs cells slots) (hx : p.tables.exec = Jvm.exec) (hby : c.code = bytes) {x y : Int32} (hd : decode bytes pc = .ok (.ior, 1)) (q : Nat) (hq : pc + 1 = q) (k : Goes p e below K (T.setTop (mkF m q Ls (.int (x ||| y) :: rest)))) : Goes p e below K (T.setTop (mkF m pc Ls (.int y :: .int x :: rest))) := by
  subst hq; exact Goes.of (fun t kt => XS.ior X.here hx rfl (hb hby hd) rfl kt) k
theorem g_ixor (X : Stand p l e R s m args below meth c T locs cells slots) (hx : p.tables.exec = Jvm.exec) (hby : c.code = bytes) {x y : Int32} (hd : decode bytes pc = .ok (.ixor, 1)) (q : Nat) (hq : pc + 1 = q) (k : Goes p e below K (T.setTop (mkF m q Ls (.int (x ^^^ y) :: rest)))) : Goes p e below K (T.setTop (mkF m pc Ls (.int y :: .int x :: rest))) := by
  subst hq; exact Goes.of (fun t kt => XS.ixor X.here hx rfl (hb hby hd) rfl kt) k
theorem g_ishl (X : Stand p l e R s m args below meth c T locs cells slots) (hx : p.tables.exec = Jvm.exec) (hby : c.code = bytes) {x y : Int32} (hd : decode bytes pc = .ok (.ishl, 1)) (q : Nat) (hq : pc + 1 = q) (k : Goes p e below K (T.setTop (mkF m q Ls (.int (x <<< (y &&& 31)) :: rest)))) : Goes p e below K (T.setTop (mkF m pc Ls (.int y :: .int x :: rest))) := by
  subst hq; exact Goes.of (fun t kt => XS.ishl X.here hx rfl (hb hby hd) rfl kt) k
theorem g_ishr (X : Stand p l e R s m args below meth c T locs cells slots) (hx : p.tables.exec = Jvm.exec) (hby : c.code = bytes) {x y : Int32} (hd : decode bytes pc = .ok (.ishr, 1)) (q : Nat) (hq : pc + 1 = q) (k : Goes p e below K (T.setTop (mkF m q Ls (.int (x >>> (y &&& 31)) :: rest)))) : Goes p e below K (T.setTop (mkF m pc Ls (.int y :: .int x :: rest))) := by
  subst hq; exact Goes.of (fun t kt => XS.ishr X.here hx rfl (hb hby hd) rfl kt) k
theorem g_iushr (X : Stand p l e R s m args below meth c T locs cells slots) (hx : p.tables.exec = Jvm.exec) (hby : c.code = bytes) {x y : Int32} (hd : decode bytes pc = .ok (.iushr, 1)) (q : Nat) (hq : pc + 1 = q) (k : Goes p e below K (T.setTop (mkF m q Ls (.int ((x.toUInt32 >>> (y &&& 31).toUInt32).toInt32) :: rest)))) : Goes p e below K (T.setTop (mkF m pc Ls (.int y :: .int x :: rest))) := by
  subst hq; exact Goes.of (fun t kt => XS.iushr X.here hx rfl (hb hby hd) rfl kt) k
theorem g_ladd (X : Stand p l e R s m args below meth c T locs cells slots) (hx : p.tables.exec = Jvm.exec) (hby : c.code = bytes) {x y : Int64} (hd : decode bytes pc = .ok (.ladd, 1)) (q : Nat) (hq : pc + 1 = q) (k : Goes p e below K (T.setTop (mkF m q Ls (.long (x + y) :: rest)))) : Goes p e below K (T.setTop (mkF m pc Ls (.long y :: .long x :: rest))) := by
  subst hq; exact Goes.of (fun t kt => XS.ladd X.here hx rfl (hb hby hd) rfl kt) k
theorem g_lsub (X : Stand p l e R s m args below meth c T locs cells slots) (hx : p.tables.exec = Jvm.exec) (hby : c.code = bytes) {x y : Int64} (hd : decode bytes pc = .ok (.lsub, 1)) (q : Nat) (hq : pc + 1 = q) (k : Goes p e below K (T.setTop (mkF m q Ls (.long (x - y) :: rest)))) : Goes p e below K (T.setTop (mkF m pc Ls (.long y :: .long x :: rest))) := by
  subst hq; exact Goes.of (fun t kt => XS.lsub X.here hx rfl (hb hby hd) rfl kt) k
theorem g_lmul (X : Stand p l e R s m args below meth c T locs cells slots) (hx : p.tables.exec = Jvm.exec) (hby : c.code = bytes) {x y : Int64} (hd : decode bytes pc = .ok (.lmul, 1)) (q : Nat) (hq : pc + 1 = q) (k : Goes p e below K (T.setTop (mkF m q Ls (.long (x * y) :: rest)))) : Goes p e below K (T.setTop (mkF m pc Ls (.long y :: .long x :: rest))) := by
  subst hq; exact Goes.of (fun t kt => XS.lmul X.here hx rfl (hb hby hd) rfl kt) k
theorem g_land (X : Stand p l e R s m args below meth c T locs cells slots) (hx : p.tables.exec = Jvm.exec) (hby : c.code = bytes) {x y : Int64} (hd : decode bytes pc = .ok (.land, 1)) (q : Nat) (hq : pc + 1 = q) (k : Goes p e below K (T.setTop (mkF m q Ls (.long (x &&& y) :: rest)))) : Goes p e below K (T.setTop (mkF m pc Ls (.long y :: .long x :: rest))) := by
  subst hq; exact Goes.of (fun t kt => XS.land X.here hx rfl (hb hby hd) rfl kt) k
theorem g_lor (X : Stand p l e R s m args below meth c T locs cells slots) (hx : p.tables.exec = Jvm.exec) (hby : c.code = bytes) {x y : Int64} (hd : decode bytes pc = .ok (.lor, 1)) (q : Nat) (hq : pc + 1 = q) (k : Goes p e below K (T.setTop (mkF m q Ls (.long (x ||| y) :: rest)))) : Goes p e below K (T.setTop (mkF m pc Ls (.long y :: .long x :: rest))) := by
  subst hq; exact Goes.of (fun t kt => XS.lor X.here hx rfl (hb hby hd) rfl kt) k
theorem g_lxor (X : Stand p l e R s m args below meth c T locs cells slots) (hx : p.tables.exec = Jvm.exec) (hby : c.code = bytes) {x y : Int64} (hd : decode bytes pc = .ok (.lxor, 1)) (q : Nat) (hq : pc + 1 = q) (k : Goes p e below K (T.setTop (mkF m q Ls (.long (x ^^^ y) :: rest)))) : Goes p e below K (T.setTop (mkF m pc Ls (.long y :: .long x :: rest))) := by
  subst hq; exact Goes.of (fun t kt => XS.lxor X.here hx rfl (hb hby hd) rfl kt) k
theorem g_lshl (X : Stand p l e R s m args below meth c T locs cells slots) (hx : p.tables.exec = Jvm.exec) (hby : c.code = bytes) {x : Int64} {y : Int32} (hd : decode bytes pc = .ok (.lshl, 1)) (q : Nat) (hq : pc + 1 = q) (k : Goes p e below K (T.setTop (mkF m q Ls (.long (x <<< (y &&& 0x3f).toInt64) :: rest)))) : Goes p e below K (T.setTop (mkF m pc Ls (.int y :: .long x :: rest))) := by
  subst hq; exact Goes.of (fun t kt => XS.lshl X.here hx rfl (hb hby hd) rfl kt) k
theorem g_lshr (X : Stand p l e R s m args below meth c T locs cells slots) (hx : p.tables.exec = Jvm.exec) (hby : c.code = bytes) {x : Int64} {y : Int32} (hd : decode bytes pc = .ok (.lshr, 1)) (q : Nat) (hq : pc + 1 = q) (k : Goes p e below K (T.setTop (mkF m q Ls (.long (x >>> (y &&& 0x3f).toInt64) :: rest)))) : Goes p e below K (T.setTop (mkF m pc Ls (.int y :: .long x :: rest))) := by
  subst hq; exact Goes.of (fun t kt => XS.lshr X.here hx rfl (hb hby hd) rfl kt) k
theorem g_lushr (X : Stand p l e R s m args below meth c T locs cells slots) (hx : p.tables.exec = Jvm.exec) (hby : c.code = bytes) {x : Int64} {y : Int32} (hd : decode bytes pc = .ok (.lushr, 1)) (q : Nat) (hq : pc + 1 = q) (k : Goes p e below K (T.setTop (mkF m q Ls (.long ((x.toUInt64 >>> (y &&& 0x3f).toInt64.toUInt64).toInt64) :: rest)))) : Goes p e below K (T.setTop (mkF m pc Ls (.int y :: .long x :: rest))) := by
  subst hq; exact Goes.of (fun t kt => XS.lushr X.here hx rfl (hb hby hd) rfl kt) k
theorem g_idiv (X : Stand p l e R s m args below meth c T locs cells slots) (hx : p.tables.exec = Jvm.exec) (hby : c.code = bytes) {x y : Int32} (hd : decode bytes pc = .ok (.idiv, 1)) (hy : y ≠ 0) (q : Nat) (hq : pc + 1 = q) (k : Goes p e below K (T.setTop (mkF m q Ls (.int (x / y) :: rest)))) : Goes p e below K (T.setTop (mkF m pc Ls (.int y :: .int x :: rest))) := by
  subst hq; exact Goes.of (fun t kt => XS.idiv X.here hx rfl (hb hby hd) rfl hy kt) k
theorem g_ldiv (X : Stand p l e R s m args below meth c T locs cells slots) (hx : p.tables.exec = Jvm.exec) (hby : c.code = bytes) {x y : Int64} (hd : decode bytes pc = .ok (.ldiv, 1)) (hy : y ≠ 0) (q : Nat) (hq : pc + 1 = q) (k : Goes p e below K (T.setTop (mkF m q Ls (.long (x / y) :: rest)))) : Goes p e below K (T.setTop (mkF m pc Ls (.long y :: .long x :: rest))) := by
  subst hq; exact Goes.of (fun t kt => XS.ldiv X.here hx rfl (hb hby hd) rfl hy kt) k
theorem g_irem (X : Stand p l e R s m args below meth c T locs cells slots) (hx : p.tables.exec = Jvm.exec) (hby : c.code = bytes) {x y : Int32} (hd : decode bytes pc = .ok (.irem, 1)) (hy : y ≠ 0) (q : Nat) (hq : pc + 1 = q) (k : Goes p e below K (T.setTop (mkF m q Ls (.int (x % y) :: rest)))) : Goes p e below K (T.setTop (mkF m pc Ls (.int y :: .int x :: rest))) := by
  subst hq; exact Goes.of (fun t kt => iremM X hx rfl (hb hby hd) rfl hy kt) k
theorem g_lrem (X : Stand p l e R s m args below meth c T locs cells slots) (hx : p.tables.exec = Jvm.exec) (hby : c.code = bytes) {x y : Int64} (hd : decode bytes pc = .ok (.lrem, 1)) (hy : y ≠ 0) (q : Nat) (hq : pc + 1 = q) (k : Goes p e below K (T.setTop (mkF m q Ls (.long (x % y) :: rest)))) : Goes p e below K (T.setTop (mkF m pc Ls (.long y :: .long x :: rest))) := by
  subst hq; rw [← lrem_mod x y] at k; exact Goes.of (fun t kt => XS.lrem X.here hx rfl (hb hby hd) rfl hy kt) k
theorem g_ineg (X : Stand p l e R s m args below meth c T locs cells slots) (hx : p.tables.exec = Jvm.exec) (hby : c.code = bytes) {x : Int32} (hd : decode bytes pc = .ok (.ineg, 1)) (q : Nat) (hq : pc + 1 = q) (k : Goes p e below K (T.setTop (mkF m q Ls (.int (-x) :: rest)))) : Goes p e below K (T.setTop (mkF m pc Ls (.int x :: rest))) := by
  subst hq; exact Goes.of (fun t kt => XS.ineg X.here hx rfl (hb hby hd) rfl kt) k
theorem g_lneg (X : Stand p l e R s m args below meth c T locs cells slots) (hx : p.tables.exec = Jvm.exec) (hby : c.code = bytes) {x : Int64} (hd : decode bytes pc = .ok (.lneg, 1)) (q : Nat) (hq : pc + 1 = q) (k : Goes p e below K (T.setTop (mkF m q Ls (.long (-x) :: rest)))) : Goes p e below K (T.setTop (mkF m pc Ls (.long x :: rest))) := by
  subst hq; exact Goes.of (fun t kt => XS.lneg X.here hx rfl (hb hby hd) rfl kt) k
theorem g_i2l (X : Stand p l e R s m args below meth c T locs cells slots) (hx : p.tables.exec = Jvm.exec) (hby : c.code = bytes) {x : Int32} (hd : decode bytes pc = .ok (.i2l, 1)) (q : Nat) (hq : pc + 1 = q) (k : Goes p e below K (T.setTop (mkF m q Ls (.long (x.toInt64) :: rest)))) : Goes p e below K (T.setTop (mkF m pc Ls (.int x :: rest))) := by
  subst hq; exact Goes.of (fun t kt => XS.i2l X.here hx rfl (hb hby hd) rfl kt) k
theorem g_l2i (X : Stand p l e R s m args below meth c T locs cells slots) (hx : p.tables.exec = Jvm.exec) (hby : c.code = bytes) {x : Int64} (hd : decode bytes pc = .ok (.l2i, 1)) (q : Nat) (hq : pc + 1 = q) (k : Goes p e below K (T.setTop (mkF m q Ls (.int (x.toInt32) :: rest)))) : Goes p e below K (T.setTop (mkF m pc Ls (.long x :: rest))) := by
  subst hq; exact Goes.of (fun t kt => XS.l2i X.here hx rfl (hb hby hd) rfl kt) k
theorem g_i2b (X : Stand p l e R s m args below meth c T locs cells slots) (hx : p.tables.exec = Jvm.exec) (hby : c.code = bytes) {x : Int32} (hd : decode bytes pc = .ok (.i2b, 1)) (q : Nat) (hq : pc + 1 = q) (k : Goes p e below K (T.setTop (mkF m q Ls (.int (x.toInt8.toInt32) :: rest)))) : Goes p e below K (T.setTop (mkF m pc Ls (.int x :: rest))) := by
  subst hq; exact Goes.of (fun t kt => XS.i2b X.here hx rfl (hb hby hd) rfl kt) k
theorem g_i2s (X : Stand p l e R s m args below meth c T locs cells slots) (hx : p.tables.exec = Jvm.exec) (hby : c.code = bytes) {x : Int32} (hd : decode bytes pc = .ok (.i2s, 1)) (q : Nat) (hq : pc + 1 = q) (k : Goes p e below K (T.setTop (mkF m q Ls (.int (x.toInt16.toInt32) :: rest)))) : Goes p e below K (T.setTop (mkF m pc Ls (.int x :: rest))) := by
  subst hq; exact Goes.of (fun t kt => XS.i2s X.here hx rfl (hb hby hd) rfl kt) k
theorem g_i2c (X : Stand p l e R s m args below meth c T locs cells slots) (hx : p.tables.exec = Jvm.exec) (hby : c.code = bytes) {x : Int32} (hd : decode bytes pc = .ok (.i2c, 1)) (q : Nat) (hq : pc + 1 = q) (k : Goes p e below K (T.setTop (mkF m q Ls (.int (x.toUInt32.toUInt16.toUInt32.toInt32) :: rest)))) : Goes p e below K (T.setTop (mkF m pc Ls (.int x :: rest))) := by
  subst hq; exact Goes.of (fun t kt => XS.i2c X.here hx rfl (hb hby hd) rfl kt) k
theorem g_iloadN (X : Stand p l e R s m args below meth c T locs cells slots) (hx : p.tables.exec = Jvm.exec) (hby : c.code = bytes) {k : Fin 4} {v : Int32} (hd : decode bytes pc = .ok (.iload_n k, 1)) (hl : Ls[k.val]? = some (.val (.int v))) (q : Nat) (hq : pc + 1 = q) (k : Goes p e below K (T.setTop (mkF m q Ls (.int v :: rest)))) : Goes p e below K (T.setTop (mkF m pc Ls rest)) := by
  subst hq; exact Goes.of (fun t kt => XS.iloadN X.here hx rfl (hb hby hd) hl kt) k
theorem g_iload (X : Stand p l e R s m args below meth c T locs cells slots) (hx : p.tables.exec = Jvm.exec) (hby : c.code = bytes) {k : Nat} {v : Int32} (hd : decode bytes pc = .ok (.iload k, 2)) (hl : Ls[k]? = some (.val (.int v))) (q : Nat) (hq : pc + 2 = q) (k : Goes p e below K (T.setTop (mkF m q Ls (.int v :: rest)))) : Goes p e below K (T.setTop (mkF m pc Ls rest)) := by
  subst hq; exact Goes.of (fun t kt => XS.iload X.here hx rfl (hb hby hd) hl kt) k
theorem g_lloadN (X : Stand p l e R s m args below meth c T locs cells slots) (hx : p.tables.exec = Jvm.exec) (hby : c.code = bytes) {k : Fin 4} {v : Int64} (hd : decode bytes pc = .ok (.lload_n k, 1)) (hl : Ls[k.val]? = some (.val (.long v))) (q : Nat) (hq : pc + 1 = q) (k : Goes p e below K (T.setTop (mkF m q Ls (.long v :: rest)))) : Goes p e below K (T.setTop (mkF m pc Ls rest)) := by
  subst hq; exact Goes.of (fun t kt => XS.lloadN X.here hx rfl (hb hby hd) hl kt) k
theorem g_lload (X : Stand p l e R s m args below meth c T locs cells slots) (hx : p.tables.exec = Jvm.exec) (hby : c.code = bytes) {k : Nat} {v : Int64} (hd : decode bytes pc = .ok (.lload k, 2)) (hl : Ls[k]? = some (.val (.long v))) (q : Nat) (hq : pc + 2 = q) (k : Goes p e below K (T.setTop (mkF m q Ls (.long v :: rest)))) : Goes p e below K (T.setTop (mkF m pc Ls rest)) := by
  subst hq; exact Goes.of (fun t kt => XS.lload X.here hx rfl (hb hby hd) hl kt) k
theorem g_aloadN (X : Stand p l e R s m args below meth c T locs cells slots) (hx : p.tables.exec = Jvm.exec) (hby : c.code = bytes) {k : Fin 4} {v : Value} (hd : decode bytes pc = .ok (.aload_n k, 1)) (hl : Ls[k.val]? = some (.val v)) (hv : v.isRef = true) (q : Nat) (hq : pc + 1 = q) (k : Goes p e below K (T.setTop (mkF m q Ls (v :: rest)))) : Goes p e below K (T.setTop (mkF m pc Ls rest)) := by
  subst hq; exact Goes.of (fun t kt => XS.aloadN X.here hx rfl (hb hby hd) hl hv kt) k
theorem g_aload (X : Stand p l e R s m args below meth c T locs cells slots) (hx : p.tables.exec = Jvm.exec) (hby : c.code = bytes) {k : Nat} {v : Value} (hd : decode bytes pc = .ok (.aload k, 2)) (hl : Ls[k]? = some (.val v)) (hv : v.isRef = true) (q : Nat) (hq : pc + 2 = q) (k : Goes p e below K (T.setTop (mkF m q Ls (v :: rest)))) : Goes p e below K (T.setTop (mkF m pc Ls rest)) := by
  subst hq; exact Goes.of (fun t kt => XS.aload X.here hx rfl (hb hby hd) hl hv kt) k
theorem g_istoreN (X : Stand p l e R s m args below meth c T locs cells slots) (hx : p.tables.exec = Jvm.exec) (hby : c.code = bytes) {k : Fin 4} {x : Int32} (hd : decode bytes pc = .ok (.istore_n k, 1)) (y : Int32) (hxy : x = y) (L' : Array Slot) (hl : storeLocals Ls k.val (.int y) = some L') (q : Nat) (hq : pc + 1 = q) (k : Goes p e below K (T.setTop (mkF m q L' rest))) : Goes p e below K (T.setTop (mkF m pc Ls (.int x :: rest))) := by
  subst hq hxy; exact Goes.of (fun t kt => XS.istoreN X.here hx rfl (hb hby hd) rfl hl kt) k
theorem g_istore (X : Stand p l e R s m args below meth c T locs cells slots) (hx : p.tables.exec = Jvm.exec) (hby : c.code = bytes) {k : Nat} {x : Int32} (hd : decode bytes pc = .ok (.istore k, 2)) (y : Int32) (hxy : x = y) (L' : Array Slot) (hl : storeLocals Ls k (.int y) = some L') (q : Nat) (hq : pc + 2 = q) (k : Goes p e below K (T.setTop (mkF m q L' rest))) : Goes p e below K (T.setTop (mkF m pc Ls (.int x :: rest))) := by
  subst hq hxy; exact Goes.of (fun t kt => XS.istore X.here hx rfl (hb hby hd) rfl hl kt) k
theorem g_lstoreN (X : Stand p l e R s m args below meth c T locs cells slots) (hx : p.tables.exec = Jvm.exec) (hby : c.code = bytes) {k : Fin 4} {x : Int64} (hd : decode bytes pc = .ok (.lstore_n k, 1)) (y : Int64) (hxy : x = y) (L' : Array Slot) (hl : storeLocals Ls k.val (.long y) = some L') (q : Nat) (hq : pc + 1 = q) (k : Goes p e below K (T.setTop (mkF m q L' rest))) : Goes p e below K (T.setTop (mkF m pc Ls (.long x :: rest))) := by
  subst hq hxy; exact Goes.of (fun t kt => XS.lstoreN X.here hx rfl (hb hby hd) rfl hl kt) k
theorem g_lstore (X : Stand p l e R s m args below meth c T locs cells slots) (hx : p.tables.exec = Jvm.exec) (hby : c.code = bytes) {k : Nat} {x : Int64} (hd : decode bytes pc = .ok (.lstore k, 2)) (y : Int64) (hxy : x = y) (L' : Array Slot) (hl : storeLocals Ls k (.long y) = some L') (q : Nat) (hq : pc + 2 = q) (k : Goes p e below K (T.setTop (mkF m q L' rest))) : Goes p e below K (T.setTop (mkF m pc Ls (.long x :: rest))) := by
  subst hq hxy; exact Goes.of (fun t kt => XS.lstore X.here hx rfl (hb hby hd) rfl hl kt) k
theorem g_astoreN (X : Stand p l e R s m args below meth c T locs cells slots) (hx : p.tables.exec = Jvm.exec) (hby : c.code = bytes) {k : Fin 4} {x : Value} (hd : decode bytes pc = .ok (.astore_n k, 1)) (hv : x.isRef = true) (L' : Array Slot) (hl : storeLocals Ls k.val x = some L') (q : Nat) (hq : pc + 1 = q) (k : Goes p e below K (T.setTop (mkF m q L' rest))) : Goes p e below K (T.setTop (mkF m pc Ls (x :: rest))) := by
  subst hq; exact Goes.of (fun t kt => XS.astoreN X.here hx rfl (hb hby hd) rfl hv hl kt) k
theorem g_astore (X : Stand p l e R s m args below meth c T locs cells slots) (hx : p.tables.exec = Jvm.exec) (hby : c.code = bytes) {k : Nat} {x : Value} (hd : decode bytes pc = .ok (.astore k, 2)) (hv : x.isRef = true) (L' : Array Slot) (hl : storeLocals Ls k x = some L') (q : Nat) (hq : pc + 2 = q) (k : Goes p e below K (T.setTop (mkF m q L' rest))) : Goes p e below K (T.setTop (mkF m pc Ls (x :: rest))) := by
  subst hq; exact Goes.of (fun t kt => XS.astore X.here hx rfl (hb hby hd) rfl hv hl kt) k
theorem g_iconst (X : Stand p l e R s m args below meth c T locs cells slots) (hx : p.tables.exec = Jvm.exec) (hby : c.code = bytes) {i : Int} (hd : decode bytes pc = .ok (.iconst i, 1)) (v : Int32) (hv : Int32.ofInt i = v) (q : Nat) (hq : pc + 1 = q) (k : Goes p e below K (T.setTop (mkF m q Ls (.int v :: rest)))) : Goes p e below K (T.setTop (mkF m pc Ls rest)) := by
  subst hq hv; exact Goes.of (fun t kt => XS.iconst X.here hx rfl (hb hby hd) kt) k
theorem g_bipush (X : Stand p l e R s m args below meth c T locs cells slots) (hx : p.tables.exec = Jvm.exec) (hby : c.code = bytes) {i : Int} (hd : decode bytes pc = .ok (.bipush i, 2)) (v : Int32) (hv : (Int8.ofInt i).toInt32 = v) (q : Nat) (hq : pc + 2 = q) (k : Goes p e below K (T.setTop (mkF m q Ls (.int v :: rest)))) : Goes p e below K (T.setTop (mkF m pc Ls rest)) := by
  subst hq hv; exact Goes.of (fun t kt => XS.bipush X.here hx rfl (hb hby hd) kt) k
theorem g_sipush (X : Stand p l e R s m args below meth c T locs cells slots) (hx : p.tables.exec = Jvm.exec) (hby : c.code = bytes) {i : Int} (hd : decode bytes pc = .ok (.sipush i, 3)) (v : Int32) (hv : (Int16.ofInt i).toInt32 = v) (q : Nat) (hq : pc + 3 = q) (k : Goes p e below K (T.setTop (mkF m q Ls (.int v :: rest)))) : Goes p e below K (T.setTop (mkF m pc Ls rest)) := by
  subst hq hv; exact Goes.of (fun t kt => XS.sipush X.here hx rfl (hb hby hd) kt) k
theorem g_lconst (X : Stand p l e R s m args below meth c T locs cells slots) (hx : p.tables.exec = Jvm.exec) (hby : c.code = bytes) {i : Fin 2} (hd : decode bytes pc = .ok (.lconst i, 1)) (v : Int64) (hv : Int64.ofNat i = v) (q : Nat) (hq : pc + 1 = q) (k : Goes p e below K (T.setTop (mkF m q Ls (.long v :: rest)))) : Goes p e below K (T.setTop (mkF m pc Ls rest)) := by
  subst hq hv; exact Goes.of (fun t kt => XS.lconst X.here hx rfl (hb hby hd) kt) k
theorem g_aconst_null (X : Stand p l e R s m args below meth c T locs cells slots) (hx : p.tables.exec = Jvm.exec) (hby : c.code = bytes)  (hd : decode bytes pc = .ok (.aconst_null, 1)) (q : Nat) (hq : pc + 1 = q) (k : Goes p e below K (T.setTop (mkF m q Ls (.null :: rest)))) : Goes p e below K (T.setTop (mkF m pc Ls rest)) := by
  subst hq; exact Goes.of (fun t kt => XS.aconstNull X.here hx rfl (hb hby hd) kt) k
theorem g_dup (X : Stand p l e R s m args below meth c T locs cells slots) (hx : p.tables.exec = Jvm.exec) (hby : c.code = bytes) {x : Value} (hd : decode bytes pc = .ok (.dup, 1)) (hc : x.category = 1) (q : Nat) (hq : pc + 1 = q) (k : Goes p e below K (T.setTop (mkF m q Ls (x :: x :: rest)))) : Goes p e below K (T.setTop (mkF m pc Ls (x :: rest))) := by
  subst hq; exact Goes.of (fun t kt => XS.dup X.here hx rfl (hb hby hd) rfl hc kt) k
theorem g_pop (X : Stand p l e R s m args below meth c T locs cells slots) (hx : p.tables.exec = Jvm.exec) (hby : c.code = bytes) {x : Value} (hd : decode bytes pc = .ok (.pop, 1)) (hc : x.category = 1) (q : Nat) (hq : pc + 1 = q) (k : Goes p e below K (T.setTop (mkF m q Ls rest))) : Goes p e below K (T.setTop (mkF m pc Ls (x :: rest))) := by
  subst hq; exact Goes.of (fun t kt => XS.pop X.here hx rfl (hb hby hd) rfl hc kt) k
theorem g_dup_x1 (X : Stand p l e R s m args below meth c T locs cells slots) (hx : p.tables.exec = Jvm.exec) (hby : c.code = bytes) {x y : Value} (hd : decode bytes pc = .ok (.dup_x1, 1)) (hc : x.category = 1) (hc' : y.category = 1) (q : Nat) (hq : pc + 1 = q) (k : Goes p e below K (T.setTop (mkF m q Ls (x :: y :: x :: rest)))) : Goes p e below K (T.setTop (mkF m pc Ls (x :: y :: rest))) := by
  subst hq; exact Goes.of (fun t kt => XS.dupX1 X.here hx rfl (hb hby hd) rfl hc hc' kt) k
theorem g_dup2 (X : Stand p l e R s m args below meth c T locs cells slots) (hx : p.tables.exec = Jvm.exec) (hby : c.code = bytes) {x y : Value} (hd : decode bytes pc = .ok (.dup2, 1)) (hc : x.category = 1) (hc' : y.category = 1) (q : Nat) (hq : pc + 1 = q) (k : Goes p e below K (T.setTop (mkF m q Ls (x :: y :: x :: y :: rest)))) : Goes p e below K (T.setTop (mkF m pc Ls (x :: y :: rest))) := by
  subst hq; exact Goes.of (fun t kt => Jvm.Free.XT.dup2 X.here hx rfl (hb hby hd) rfl hc hc' kt) k
theorem g_iinc (X : Stand p l e R s m args below meth c T locs cells slots) (hx : p.tables.exec = Jvm.exec) (hby : c.code = bytes) {i : Int} {kk : Nat} {x : Int32} (hd : decode bytes pc = .ok (.iinc kk i, 3)) (v : Int32) (hv : Int32.ofInt i = v) (hl : Ls[kk]? = some (.val (.int x))) (y : Int32) (hxy : x + v = y) (L' : Array Slot) (hl' : storeLocals Ls kk (.int y) = some L') (q : Nat) (hq : pc + 3 = q) (k : Goes p e below K (T.setTop (mkF m q L' rest))) : Goes p e below K (T.setTop (mkF m pc Ls rest)) := by
  subst hq hv hxy; exact Goes.of (fun t kt => XS.iinc X.here hx rfl (hb hby hd) hl hl' kt) k
theorem g_goto (X : Stand p l e R s m args below meth c T locs cells slots) (hx : p.tables.exec = Jvm.exec) (hby : c.code = bytes) {o : Int} (hd : decode bytes pc = .ok (.goto o, 3)) (q : Nat) (ho : 0 ≤ (pc : Int) + o) (hq : ((pc : Int) + o).toNat = q) (k : Goes p e below K (T.setTop (mkF m q Ls rest))) : Goes p e below K (T.setTop (mkF m pc Ls rest)) :=
  Goes.of (fun t kt => XS.goto X.here hx rfl rfl (hb hby hd) ho hq kt) k
theorem g_icmp_eq (X : Stand p l e R s m args below meth c T locs cells slots) (hx : p.tables.exec = Jvm.exec) (hby : c.code = bytes) {x y : Int32} {o : Int} (hd : decode bytes pc = .ok (.if_icmp .eq o, 3)) (q r : Nat) (ho : 0 ≤ (pc : Int) + o) (hq : ((pc : Int) + o).toNat = q) (hr : pc + 3 = r) (kt : x = y → Goes p e below K (T.setTop (mkF m q Ls rest))) (kf : ¬ (x = y) → Goes p e below K (T.setTop (mkF m r Ls rest))) : Goes p e below K (T.setTop (mkF m pc Ls (.int y :: .int x :: rest))) := by
  subst hr
  by_cases h : x = y
  · exact Goes.of (fun t kt => XS.icmpYes X.here hx rfl rfl (hb hby hd) rfl (teq h).1 ho hq kt) (kt h)
  · exact Goes.of (fun t kt => XS.icmpNo X.here hx rfl (hb hby hd) rfl (feq h).1 kt) (kf h)
theorem g_if_eq (X : Stand p l e R s m args below meth c T locs cells slots) (hx : p.tables.exec = Jvm.exec) (hby : c.code = bytes) {x : Int32} {o : Int} (hd : decode bytes pc = .ok (.ifCond .eq o, 3)) (q r : Nat) (ho : 0 ≤ (pc : Int) + o) (hq : ((pc : Int) + o).toNat = q) (hr : pc + 3 = r) (kt : x = 0 → Goes p e below K (T.setTop (mkF m q Ls rest))) (kf : ¬ (x = 0) → Goes p e below K (T.setTop (mkF m r Ls rest))) : Goes p e below K (T.setTop (mkF m pc Ls (.int x :: rest))) := by
  subst hr
  by_cases h : x = 0
  · exact Goes.of (fun t kt => XS.ifYes X.here hx rfl rfl (hb hby hd) rfl ((if0 _ _).trans (teq h).1) ho hq kt) (kt h)
  · exact Goes.of (fun t kt => XS.ifNo X.here hx rfl (hb hby hd) rfl ((if0 _ _).trans (feq h).1) kt) (kf h)
theorem g_lcmp_eq (X : Stand p l e R s m args below meth c T locs cells slots) (hx : p.tables.exec = Jvm.exec) (hby : c.code = bytes) {x y : Int64} {o : Int} {pc2 : Nat} (hd : decode bytes pc = .ok (.lcmp, 1)) (hd2 : decode bytes pc2 = .ok (.ifCond .eq o, 3)) (q r : Nat) (h2 : pc + 1 = pc2) (ho : 0 ≤ (pc2 : Int) + o) (hq : ((pc2 : Int) + o).toNat = q) (hr : pc2 + 3 = r) (kt : x = y → Goes p e below K (T.setTop (mkF m q Ls rest))) (kf : ¬ (x = y) → Goes p e below K (T.setTop (mkF m r Ls rest))) : Goes p e below K (T.setTop (mkF m pc Ls (.long y :: .long x :: rest))) := by
  subst h2
  refine Goes.of (fun t kt => XS.lcmp X.here hx rfl (hb hby hd) rfl kt) ?_
  exact g_if_eq X hx hby hd2 q r ho hq hr (fun h => kt ((lw_eq x y).mp h)) (fun h => kf fun h' => h ((lw_eq x y).mpr h'))
theorem g_icmp_ne (X : Stand p l e R s m args below meth c T locs cells slots) (hx : p.tables.exec = Jvm.exec) (hby : c.code = bytes) {x y : Int32} {o : Int} (hd : decode bytes pc = .ok (.if_icmp .ne o, 3)) (q r : Nat) (ho : 0 ≤ (pc : Int) + o) (hq : ((pc : Int) + o).toNat = q) (hr : pc + 3 = r) (kt : x = y → Goes p e below K (T.setTop (mkF m r Ls rest))) (kf : ¬ (x = y) → Goes p e below K (T.setTop (mkF m q Ls rest))) : Goes p e below K (T.setTop (mkF m pc Ls (.int y :: .int x :: rest))) := by
  subst hr
  by_cases h : x = y
  · exact Goes.of (fun t kt => XS.icmpNo X.here hx rfl (hb hby hd) rfl (teq h).2 kt) (kt h)
  · exact Goes.of (fun t kt => XS.icmpYes X.here hx rfl rfl (hb hby hd) rfl (feq h).2 ho hq kt) (kf h)
theorem g_if_ne (X : Stand p l e R s m args below meth c T locs cells slots) (hx : p.tables.exec = Jvm.exec) (hby : c.code = bytes) {x : Int32} {o : Int} (hd : decode bytes pc = .ok (.ifCond .ne o, 3)) (q r : Nat) (ho : 0 ≤ (pc : Int) + o) (hq : ((pc : Int) + o).toNat = q) (hr : pc + 3 = r) (kt : x = 0 → Goes p e below K (T.setTop (mkF m r Ls rest))) (kf : ¬ (x = 0) → Goes p e below K (T.setTop (mkF m q Ls rest))) : Goes p e below K (T.setTop (mkF m pc Ls (.int x :: rest))) := by
  subst hr
  by_cases h : x = 0
  · exact Goes.of (fun t kt => XS.ifNo X.here hx rfl (hb hby hd) rfl ((if0 _ _).trans (teq h).2) kt) (kt h)
  · exact Goes.of (fun t kt => XS.ifYes X.here hx rfl rfl (hb hby hd) rfl ((if0 _ _).trans (feq h).2) ho hq kt) (kf h)
theorem g_lcmp_ne (X : Stand p l e R s m args below meth c T locs cells slots) (hx : p.tables.exec = Jvm.exec) (hby : c.code = bytes) {x y : Int64} {o : Int} {pc2 : Nat} (hd : decode bytes pc = .ok (.lcmp, 1)) (hd2 : decode bytes pc2 = .ok (.ifCond .ne o, 3)) (q r : Nat) (h2 : pc + 1 = pc2) (ho : 0 ≤ (pc2 : Int) + o) (hq : ((pc2 : Int) + o).toNat = q) (hr : pc2 + 3 = r) (kt : x = y → Goes p e below K (T.setTop (mkF m r Ls rest))) (kf : ¬ (x = y) → Goes p e below K (T.setTop (mkF m q Ls rest))) : Goes p e below K (T.setTop (mkF m pc Ls (.long y :: .long x :: rest))) := by
  subst h2
  refine Goes.of (fun t kt => XS.lcmp X.here hx rfl (hb hby hd) rfl kt) ?_
  exact g_if_ne X hx hby hd2 q r ho hq hr (fun h => kt ((lw_eq x y).mp h)) (fun h => kf fun h' => h ((lw_eq x y).mpr h'))
theorem g_icmp_lt (X : Stand p l e R s m args below meth c T locs cells slots) (hx : p.tables.exec = Jvm.exec) (hby : c.code = bytes) {x y : Int32} {o : Int} (hd : decode bytes pc = .ok (.if_icmp .lt o, 3)) (q r : Nat) (ho : 0 ≤ (pc : Int) + o) (hq : ((pc : Int) + o).toNat = q) (hr : pc + 3 = r) (kt : x < y → Goes p e below K (T.setTop (mkF m q Ls rest))) (kf : ¬ (x < y) → Goes p e below K (T.setTop (mkF m r Ls rest))) : Goes p e below K (T.setTop (mkF m pc Ls (.int y :: .int x :: rest))) := by
  subst hr
  by_cases h : x < y
  · exact Goes.of (fun t kt => XS.icmpYes X.here hx rfl rfl (hb hby hd) rfl (tlt h).1 ho hq kt) (kt h)
  · exact Goes.of (fun t kt => XS.icmpNo X.here hx rfl (hb hby hd) rfl (flt h).1 kt) (kf h)
theorem g_if_lt (X : Stand p l e R s m args below meth c T locs cells slots) (hx : p.tables.exec = Jvm.exec) (hby : c.code = bytes) {x : Int32} {o : Int} (hd : decode bytes pc = .ok (.ifCond .lt o, 3)) (q r : Nat) (ho : 0 ≤ (pc : Int) + o) (hq : ((pc : Int) + o).toNat = q) (hr : pc + 3 = r) (kt : x < 0 → Goes p e below K (T.setTop (mkF m q Ls rest))) (kf : ¬ (x < 0) → Goes p e below K (T.setTop (mkF m r Ls rest))) : Goes p e below K (T.setTop (mkF m pc Ls (.int x :: rest))) := by
  subst hr
  by_cases h : x < 0
  · exact Goes.of (fun t kt => XS.ifYes X.here hx rfl rfl (hb hby hd) rfl ((if0 _ _).trans (tlt h).1) ho hq kt) (kt h)
  · exact Goes.of (fun t kt => XS.ifNo X.here hx rfl (hb hby hd) rfl ((if0 _ _).trans (flt h).1) kt) (kf h)
theorem g_lcmp_lt (X : Stand p l e R s m args below meth c T locs cells slots) (hx : p.tables.exec = Jvm.exec) (hby : c.code = bytes) {x y : Int64} {o : Int} {pc2 : Nat} (hd : decode bytes pc = .ok (.lcmp, 1)) (hd2 : decode bytes pc2 = .ok (.ifCond .lt o, 3)) (q r : Nat) (h2 : pc + 1 = pc2) (ho : 0 ≤ (pc2 : Int) + o) (hq : ((pc2 : Int) + o).toNat = q) (hr : pc2 + 3 = r) (kt : x < y → Goes p e below K (T.setTop (mkF m q Ls rest))) (kf : ¬ (x < y) → Goes p e below K (T.setTop (mkF m r Ls rest))) : Goes p e below K (T.setTop (mkF m pc Ls (.long y :: .long x :: rest))) := by
  subst h2
  refine Goes.of (fun t kt => XS.lcmp X.here hx rfl (hb hby hd) rfl kt) ?_
  exact g_if_lt X hx hby hd2 q r ho hq hr (fun h => kt ((lw_lt x y).mp h)) (fun h => kf fun h' => h ((lw_lt x y).mpr h'))
theorem g_icmp_ge (X : Stand p l e R s m args below meth c T locs cells slots) (hx : p.tables.exec = Jvm.exec) (hby : c.code = bytes) {x y : Int32} {o : Int} (hd : decode bytes pc = .ok (.if_icmp .ge o, 3)) (q r : Nat) (ho : 0 ≤ (pc : Int) + o) (hq : ((pc : Int) + o).toNat = q) (hr : pc + 3 = r) (kt : x < y → Goes p e below K (T.setTop (mkF m r Ls rest))) (kf : ¬ (x < y) → Goes p e below K (T.setTop (mkF m q Ls rest))) : Goes p e below K (T.setTop (mkF m pc Ls (.int y :: .int x :: rest))) := by
  subst hr
  by_cases h : x < y
  · exact Goes.of (fun t kt => XS.icmpNo X.here hx rfl (hb hby hd) rfl (tlt h).2.1 kt) (kt h)
  · exact Goes.of (fun t kt => XS.icmpYes X.here hx rfl rfl (hb hby hd) rfl (flt h).2.1 ho hq kt) (kf h)
theorem g_if_ge (X : Stand p l e R s m args below meth c T locs cells slots) (hx : p.tables.exec = Jvm.exec) (hby : c.code = bytes) {x : Int32} {o : Int} (hd : decode bytes pc = .ok (.ifCond .ge o, 3)) (q r : Nat) (ho : 0 ≤ (pc : Int) + o) (hq : ((pc : Int) + o).toNat = q) (hr : pc + 3 = r) (kt : x < 0 → Goes p e below K (T.setTop (mkF m r Ls rest))) (kf : ¬ (x < 0) → Goes p e below K (T.setTop (mkF m q Ls rest))) : Goes p e below K (T.setTop (mkF m pc Ls (.int x :: rest))) := by
  subst hr
  by_cases h : x < 0
  · exact Goes.of (fun t kt => XS.ifNo X.here hx rfl (hb hby hd) rfl ((if0 _ _).trans (tlt h).2.1) kt) (kt h)
  · exact Goes.of (fun t kt => XS.ifYes X.here hx rfl rfl (hb hby hd) rfl ((if0 _ _).trans (flt h).2.1) ho hq kt) (kf h)
theorem g_lcmp_ge (X : Stand p l e R s m args below meth c T locs cells slots) (hx : p.tables.exec = Jvm.exec) (hby : c.code = bytes) {x y : Int64} {o : Int} {pc2 : Nat} (hd : decode bytes pc = .ok (.lcmp, 1)) (hd2 : decode bytes pc2 = .ok (.ifCond .ge o, 3)) (q r : Nat) (h2 : pc + 1 = pc2) (ho : 0 ≤ (pc2 : Int) + o) (hq : ((pc2 : Int) + o).toNat = q) (hr : pc2 + 3 = r) (kt : x < y → Goes p e below K (T.setTop (mkF m r Ls rest))) (kf : ¬ (x < y) → Goes p e below K (T.setTop (mkF m q Ls rest))) : Goes p e below K (T.setTop (mkF m pc Ls (.long y :: .long x :: rest))) := by
  subst h2
  refine Goes.of (fun t kt => XS.lcmp X.here hx rfl (hb hby hd) rfl kt) ?_
  exact g_if_ge X hx hby hd2 q r ho hq hr (fun h => kt ((lw_lt x y).mp h)) (fun h => kf fun h' => h ((lw_lt x y).mpr h'))
theorem g_icmp_gt (X : Stand p l e R s m args below meth c T locs cells slots) (hx : p.tables.exec = Jvm.exec) (hby : c.code = bytes) {x y : Int32} {o : Int} (hd : decode bytes pc = .ok (.if_icmp .gt o, 3)) (q r : Nat) (ho : 0 ≤ (pc : Int) + o) (hq : ((pc : Int) + o).toNat = q) (hr : pc + 3 = r) (kt : y < x → Goes p e below K (T.setTop (mkF m q Ls rest))) (kf : ¬ (y < x) → Goes p e below K (T.setTop (mkF m r Ls rest))) : Goes p e below K (T.setTop (mkF m pc Ls (.int y :: .int x :: rest))) := by
  subst hr
  by_cases h : y < x
  · exact Goes.of (fun t kt => XS.icmpYes X.here hx rfl rfl (hb hby hd) rfl (tlt h).2.2.1 ho hq kt) (kt h)
  · exact Goes.of (fun t kt => XS.icmpNo X.here hx rfl (hb hby hd) rfl (flt h).2.2.1 kt) (kf h)
theorem g_if_gt (X : Stand p l e R s m args below meth c T locs cells slots) (hx : p.tables.exec = Jvm.exec) (hby : c.code = bytes) {x : Int32} {o : Int} (hd : decode bytes pc = .ok (.ifCond .gt o, 3)) (q r : Nat) (ho : 0 ≤ (pc : Int) + o) (hq : ((pc : Int) + o).toNat = q) (hr : pc + 3 = r) (kt : 0 < x → Goes p e below K (T.setTop (mkF m q Ls rest))) (kf : ¬ (0 < x) → Goes p e below K (T.setTop (mkF m r Ls rest))) : Goes p e below K (T.setTop (mkF m pc Ls (.int x :: rest))) := by
  subst hr
  by_cases h : 0 < x
  · exact Goes.of (fun t kt => XS.ifYes X.here hx rfl rfl (hb hby hd) rfl ((if0 _ _).trans (tlt h).2.2.1) ho hq kt) (kt h)
  · exact Goes.of (fun t kt => XS.ifNo X.here hx rfl (hb hby hd) rfl ((if0 _ _).trans (flt h).2.2.1) kt) (kf h)
theorem g_lcmp_gt (X : Stand p l e R s m args below meth c T locs cells slots) (hx : p.tables.exec = Jvm.exec) (hby : c.code = bytes) {x y : Int64} {o : Int} {pc2 : Nat} (hd : decode bytes pc = .ok (.lcmp, 1)) (hd2 : decode bytes pc2 = .ok (.ifCond .gt o, 3)) (q r : Nat) (h2 : pc + 1 = pc2) (ho : 0 ≤ (pc2 : Int) + o) (hq : ((pc2 : Int) + o).toNat = q) (hr : pc2 + 3 = r) (kt : y < x → Goes p e below K (T.setTop (mkF m q Ls rest))) (kf : ¬ (y < x) → Goes p e below K (T.setTop (mkF m r Ls rest))) : Goes p e below K (T.setTop (mkF m pc Ls (.long y :: .long x :: rest))) := by
  subst h2
  refine Goes.of (fun t kt => XS.lcmp X.here hx rfl (hb hby hd) rfl kt) ?_
  exact g_if_gt X hx hby hd2 q r ho hq hr (fun h => kt ((lw_gt x y).mp h)) (fun h => kf fun h' => h ((lw_gt x y).mpr h'))
theorem g_icmp_le (X : Stand p l e R s m args below meth c T locs cells slots) (hx : p.tables.exec = Jvm.exec) (hby : c.code = bytes) {x y : Int32} {o : Int} (hd : decode bytes pc = .ok (.if_icmp .le o, 3)) (q r : Nat) (ho : 0 ≤ (pc : Int) + o) (hq : ((pc : Int) + o).toNat = q) (hr : pc + 3 = r) (kt : y < x → Goes p e below K (T.setTop (mkF m r Ls rest))) (kf : ¬ (y < x) → Goes p e below K (T.setTop (mkF m q Ls rest))) : Goes p e below K (T.setTop (mkF m pc Ls (.int y :: .int x :: rest))) := by
  subst hr
  by_cases h : y < x
  · exact Goes.of (fun t kt => XS.icmpNo X.here hx rfl (hb hby hd) rfl (tlt h).2.2.2 kt) (kt h)
  · exact Goes.of (fun t kt => XS.icmpYes X.here hx rfl rfl (hb hby hd) rfl (flt h).2.2.2 ho hq kt) (kf h)
theorem g_if_le (X : Stand p l e R s m args below meth c T locs cells slots) (hx : p.tables.exec = Jvm.exec) (hby : c.code = bytes) {x : Int32} {o : Int} (hd : decode bytes pc = .ok (.ifCond .le o, 3)) (q r : Nat) (ho : 0 ≤ (pc : Int) + o) (hq : ((pc : Int) + o).toNat = q) (hr : pc + 3 = r) (kt : 0 < x → Goes p e below K (T.setTop (mkF m r Ls rest))) (kf : ¬ (0 < x) → Goes p e below K (T.setTop (mkF m q Ls rest))) : Goes p e below K (T.setTop (mkF m pc Ls (.int x :: rest))) := by
  subst hr
  by_cases h : 0 < x
  · exact Goes.of (fun t kt => XS.ifNo X.here hx rfl (hb hby hd) rfl ((if0 _ _).trans (tlt h).2.2.2) kt) (kt h)
  · exact Goes.of (fun t kt => XS.ifYes X.here hx rfl rfl (hb hby hd) rfl ((if0 _ _).trans (flt h).2.2.2) ho hq kt) (kf h)
theorem g_lcmp_le (X : Stand p l e R s m args below meth c T locs cells slots) (hx : p.tables.exec = Jvm.exec) (hby : c.code = bytes) {x y : Int64} {o : Int} {pc2 : Nat} (hd : decode bytes pc = .ok (.lcmp, 1)) (hd2 : decode bytes pc2 = .ok (.ifCond .le o, 3)) (q r : Nat) (h2 : pc + 1 = pc2) (ho : 0 ≤ (pc2 : Int) + o) (hq : ((pc2 : Int) + o).toNat = q) (hr : pc2 + 3 = r) (kt : y < x → Goes p e below K (T.setTop (mkF m r Ls rest))) (kf : ¬ (y < x) → Goes p e below K (T.setTop (mkF m q Ls rest))) : Goes p e below K (T.setTop (mkF m pc Ls (.long y :: .long x :: rest))) := by
  subst h2
  refine Goes.of (fun t kt => XS.lcmp X.here hx rfl (hb hby hd) rfl kt) ?_
  exact g_if_le X hx hby hd2 q r ho hq hr (fun h => kt ((lw_gt x y).mp h)) (fun h => kf fun h' => h ((lw_gt x y).mpr h'))
theorem g_ifnull_yes (X : Stand p l e R s m args below meth c T locs cells slots) (hx : p.tables.exec = Jvm.exec) (hby : c.code = bytes) {o : Int} (hd : decode bytes pc = .ok (.ifnull o, 3)) (q : Nat) (ho : 0 ≤ (pc : Int) + o) (hq : ((pc : Int) + o).toNat = q) (k : Goes p e below K (T.setTop (mkF m q Ls rest))) : Goes p e below K (T.setTop (mkF m pc Ls (.null :: rest))) :=
  Goes.of (fun t kt => XS.ifnullYes X.here hx rfl rfl (hb hby hd) rfl ho hq kt) k
theorem g_ifnull_no (X : Stand p l e R s m args below meth c T locs cells slots) (hx : p.tables.exec = Jvm.exec) (hby : c.code = bytes) {a : Addr} {o : Int} (hd : decode bytes pc = .ok (.ifnull o, 3)) (q : Nat) (hq : pc + 3 = q) (k : Goes p e below K (T.setTop (mkF m q Ls rest))) : Goes p e below K (T.setTop (mkF m pc Ls (.ref a :: rest))) := by
  subst hq; exact Goes.of (fun t kt => XS.ifnullNo X.here hx rfl (hb hby hd) rfl kt) k
theorem g_ifnonnull_yes (X : Stand p l e R s m args below meth c T locs cells slots) (hx : p.tables.exec = Jvm.exec) (hby : c.code = bytes) {a : Addr} {o : Int} (hd : decode bytes pc = .ok (.ifnonnull o, 3)) (q : Nat) (ho : 0 ≤ (pc : Int) + o) (hq : ((pc : Int) + o).toNat = q) (k : Goes p e below K (T.setTop (mkF m q Ls rest))) : Goes p e below K (T.setTop (mkF m pc Ls (.ref a :: rest))) :=
  Goes.of (fun t kt => XS.ifnonnullYes X.here hx rfl rfl (hb hby hd) rfl ho hq kt) k
theorem g_ifnonnull_no (X : Stand p l e R s m args below meth c T locs cells slots) (hx : p.tables.exec = Jvm.exec) (hby : c.code = bytes) {o : Int} (hd : decode bytes pc = .ok (.ifnonnull o, 3)) (q : Nat) (hq : pc + 3 = q) (k : Goes p e below K (T.setTop (mkF m q Ls rest))) : Goes p e below K (T.setTop (mkF m pc Ls (.null :: rest))) := by
  subst hq; exact Goes.of (fun t kt => XS.ifnonnullNo X.here hx rfl (hb hby hd) rfl kt) k
theorem g_acmp (X : Stand p l e R s m args below meth c T locs cells slots) (hx : p.tables.exec = Jvm.exec) (hby : c.code = bytes) {cd : ACond} {x y : Value} {o : Int} (hd : decode bytes pc = .ok (.if_acmp cd o, 3)) (h1 : x.isRef = true) (h2 : y.isRef = true) (same : Bool) (hs : decide (x = y) = same) (q : Nat) (ho : 0 ≤ (pc : Int) + o) (hq : q = if acV cd same = true then ((pc : Int) + o).toNat else pc + 3) (k : Goes p e below K (T.setTop (mkF m q Ls rest))) : Goes p e below K (T.setTop (mkF m pc Ls (y :: x :: rest))) :=
  Goes.of (fun t kt => Jvm.RoadKit.acmp X hx rfl h1 h2 rfl (hb hby hd) rfl hs ho hq kt) k
theorem g_ldc (X : Stand p l e R s m args below meth c T locs cells slots) (hx : p.tables.exec = Jvm.exec) (hby : c.code = bytes) {Z : State} {a0 : Array Value} (hZ : Z.Warmed39 s.vm) {own : String} {index : Nat} {v : Int32} (hown : s.vm.findClass own = some m.cls) (w : (Jvm.Cond.constant own index v).before a0 Z = true) (hd : decode bytes pc = .ok (.ldc index, 2)) (q : Nat) (hq : pc + 2 = q) (k : Goes p e below K (T.setTop (mkF m q Ls (.int v :: rest)))) : Goes p e below K (T.setTop (mkF m pc Ls rest)) := by
  subst hq; exact Goes.of (fun t kt => X.ldcInt hx hown (mvT hZ w) (g := mkF m pc Ls rest) rfl (hb hby hd) t kt) k
theorem g_ldc_w (X : Stand p l e R s m args below meth c T locs cells slots) (hx : p.tables.exec = Jvm.exec) (hby : c.code = bytes) {Z : State} {a0 : Array Value} (hZ : Z.Warmed39 s.vm) {own : String} {index : Nat} {v : Int32} (hown : s.vm.findClass own = some m.cls) (w : (Jvm.Cond.constant own index v).before a0 Z = true) (hd : decode bytes pc = .ok (.ldc_w index, 3)) (q : Nat) (hq : pc + 3 = q) (k : Goes p e below K (T.setTop (mkF m q Ls (.int v :: rest)))) : Goes p e below K (T.setTop (mkF m pc Ls rest)) := by
  subst hq; exact Goes.of (fun t kt => X.ldcwInt hx hown (mvT hZ w) (g := mkF m pc Ls rest) rfl (hb hby hd) t kt) k
theorem g_ldc2 (X : Stand p l e R s m args below meth c T locs cells slots) (hx : p.tables.exec = Jvm.exec) (hby : c.code = bytes) {Z : State} {a0 : Array Value} (hZ : Z.Warmed39 s.vm) {own : String} {index : Nat} {v : Int64} (hown : s.vm.findClass own = some m.cls) (w : (Jvm.Cond.constantLong own index v).before a0 Z = true) (hd : decode bytes pc = .ok (.ldc2_w index, 3)) (q : Nat) (hq : pc + 3 = q) (k : Goes p e below K (T.setTop (mkF m q Ls (.long v :: rest)))) : Goes p e below K (T.setTop (mkF m pc Ls rest)) := by
  subst hq; exact Goes.of (fun t kt => X.ldc2Long hx hown (mvT hZ w) (g := mkF m pc Ls rest) rfl (hb hby hd) t kt) k
theorem g_leave (X : Stand p l e R s m args below meth c T locs cells slots) {Q : Option Value → Heap → List Loc → Prop} {C S : Nat} {v : Option Value} (hv : meth.sig.returnType = none → v = none) (hlk : meth.locks = false) (hQ : Q v T.heap locs) (hc : cells ≤ C) (hs : slots ≤ S) {F : State}
    (st : ∀ fs : List Frame, (∀ (f : JFrame) (acts : List Action), f.method = m → f.locked = none → f.entered = [] → (doReturn e (T.setTop f) acts v).1 = T.setFrames fs) → Steps p.tables e below F (T.setFrames fs)) : Goes p e below (Kend s below Q C S) F := by
  obtain ⟨fs, hr, hrun, hended, hW, hsame⟩ := X.leave (v := v) hv hlk
  exact ⟨_, st fs hr, _, hrun, hended, v, locs, rfl, hQ, ⟨_, rfl⟩, hW, hsame.mono hc hs⟩
theorem g_ireturn (X : Stand p l e R s m args below meth c T locs cells slots) (hx : p.tables.exec = Jvm.exec) (hby : c.code = bytes) {Q : Option Value → Heap → List Loc → Prop} {C S : Nat} {z : Int32} {t : FieldType} (hret : meth.sig.returnType = some t) (hlk : meth.locks = false) (ht : t = .int ∨ t = .boolean ∨ t = .byte ∨ t = .char ∨ t = .short) (hn : narrow t (.int z) = .int z) (hd : decode bytes pc = .ok (.ireturn, 1)) (hQ : Q (some (.int z)) T.heap locs) (hc : cells ≤ C) (hs : slots ≤ S) : Goes p e below (Kend s below Q C S) (T.setTop (mkF m pc Ls (.int z :: rest))) :=
  g_leave X (v := some (.int z)) (fun h => by rw [hret] at h; cases h) hlk hQ hc hs fun fs hr => retOut X hx hret hn (Or.inl ⟨rfl, ht, z, rfl⟩) (hb hby hd) hr
theorem g_lreturn (X : Stand p l e R s m args below meth c T locs cells slots) (hx : p.tables.exec = Jvm.exec) (hby : c.code = bytes) {Q : Option Value → Heap → List Loc → Prop} {C S : Nat} {z : Int64} (hret : meth.sig.returnType = some .long) (hlk : meth.locks = false) (hd : decode bytes pc = .ok (.lreturn, 1)) (hQ : Q (some (.long z)) T.heap locs) (hc : cells ≤ C) (hs : slots ≤ S) : Goes p e below (Kend s below Q C S) (T.setTop (mkF m pc Ls (.long z :: rest))) :=
  g_leave X (v := some (.long z)) (fun h => by rw [hret] at h; cases h) hlk hQ hc hs fun fs hr => retOut X hx hret rfl (Or.inr (Or.inl ⟨rfl, rfl, z, rfl⟩)) (hb hby hd) hr
theorem g_areturn (X : Stand p l e R s m args below meth c T locs cells slots) (hx : p.tables.exec = Jvm.exec) (hby : c.code = bytes) {Q : Option Value → Heap → List Loc → Prop} {C S : Nat} {w : Value} {t : FieldType} (hret : meth.sig.returnType = some t) (hlk : meth.locks = false) (ht : t.isReference = true) (hw : w.isRef = true) (hn : narrow t w = w) (hd : decode bytes pc = .ok (.areturn, 1)) (hQ : Q (some w) T.heap locs) (hc : cells ≤ C) (hs : slots ≤ S) : Goes p e below (Kend s below Q C S) (T.setTop (mkF m pc Ls (w :: rest))) :=
  g_leave X (v := some w) (fun h => by rw [hret] at h; cases h) hlk hQ hc hs fun fs hr => retOut X hx hret hn (Or.inr (Or.inr (Or.inr (Or.inr ⟨rfl, ht, hw⟩)))) (hb hby hd) hr
theorem g_return (X : Stand p l e R s m args below meth c T locs cells slots) (hx : p.tables.exec = Jvm.exec) (hby : c.code = bytes) {Q : Option Value → Heap → List Loc → Prop} {C S : Nat} (hret : meth.sig.returnType = none) (hlk : meth.locks = false) (hd : decode bytes pc = .ok (.return_, 1)) (hQ : Q none T.heap locs) (hc : cells ≤ C) (hs : slots ≤ S) : Goes p e below (Kend s below Q C S) (T.setTop (mkF m pc Ls [])) :=
  g_leave X (v := none) (fun _ => rfl) hlk hQ hc hs fun fs hr => X.returnOut hx hret (hb hby hd) hr
theorem nar_bool {z : Int32} (h : z = 0 ∨ z = 1) : narrow .boolean (.int z) = .int z := by rcases h with rfl | rfl <;> rfl
theorem g_callS (X : Stand p l e R s m args below meth c T locs cells slots) (hx : p.tables.exec = Jvm.exec) (hby : c.code = bytes) {Z : State} {a0 : Array Value} (hZ : Z.Warmed39 s.vm) {own : String} {index : Nat} {y : MethodName} {cb : ByteArray} {maxL : Nat} {ret : Option FieldType} {rm : Room} {Q : Option Value → Heap → List Loc → Prop} {h : Heap} (hown : s.vm.findClass own = some m.cls) (w1 : (Jvm.Cond.methodLink own index y).before a0 Z = true) (w2 : (Jvm.Cond.static y).before a0 Z = true) (w3 : (Jvm.Cond.initialized y.cls).before a0 Z = true) (w4 : (Jvm.Cond.code y cb maxL ret).before a0 Z = true)
    (hd : decode bytes pc = .ok (.invokestatic index, 3)) (argsL rest : List Value) {st : List Value} (hM : Ctr l y cb maxL ret [] rm argsL.toArray Z h Q) (eT : T.heap = h) (hst : st = argsL.reverse ++ rest) (hsz : Ls.size = c.maxLocals) {ps : List FieldType} {rt : Option FieldType} (hpd : parseMethodDescriptor y.desc = some ⟨ps, rt⟩) (hlen : argsL.length = ps.length)
    (hy : y.cls ≠ "java/lang/invoke/MethodHandle" ∧ y.cls ≠ "java/lang/invoke/VarHandle") (W : Nat) (hW : (rest.map fun v => v.category).sum ≤ W) (hf : rm.frames + 1 ≤ R.frames) (hl : W + (maxL + 11) + rm.locals ≤ R.locals) (hc : cells + rm.cells ≤ R.cells) (hs : slots + rm.slots ≤ R.slots) (q : Nat) (hq : pc + 3 = q)
    (k : ∀ (T' : State) (v : Option Value) (L : List Loc), Stand p l e R s m args below meth c T' (locs ++ L) (cells + rm.cells) (slots + rm.slots) → Q v T'.heap L → Goes p e below K (T'.setTop (mkF m q Ls (v.toList ++ rest)))) : Goes p e below K (T.setTop (mkF m pc Ls st)) := by
  subst hq hst
  obtain ⟨v, _, ⟨T', L', k', n'⟩, -, X', ⟨Lc, hQ, l1, y1, z1⟩, st⟩ := Jvm.LawKit.callS X hx hown (mvT hZ w1) (mvT hZ w2) (mvT hZ w3) (mvT hZ w4) hy (backOf (W := W) hM hZ w4 w3 hf hl) (g := mkF m pc Ls (argsL.reverse ++ rest)) rfl hsz (argsL := argsL) (rest := rest) (lenOf hpd hlen) rfl (by show 2 * 0 + _ ≤ _; omega) (hb hby hd) (fun _ _ => ⟨rfl, eT, hc, hs⟩)
  dsimp only [Pt.U, Pt.locs, Pt.cells, Pt.slots] at X' l1 y1 z1 st hQ
  subst l1 y1 z1
  exact Goes.of st (k _ _ _ X' hQ)
theorem g_special (X : Stand p l e R s m args below meth c T locs cells slots) (hx : p.tables.exec = Jvm.exec) (hby : c.code = bytes) {Z : State} {a0 : Array Value} (hZ : Z.Warmed39 s.vm) {own : String} {index : Nat} {y : MethodName} {cb : ByteArray} {maxL : Nat} {rm : Room} {Q : Option Value → Heap → List Loc → Prop} {h : Heap} (hown : s.vm.findClass own = some m.cls) (hy1 : y.name = "<init>") (w1 : (Jvm.Cond.methodLink own index y).before a0 Z = true) (w2 : (Jvm.Cond.instanceMethod y).before a0 Z = true) (w3 : (Jvm.Cond.initialized y.cls).before a0 Z = true) (w4 : (Jvm.Cond.code y cb maxL none).before a0 Z = true)
    (hd : decode bytes pc = .ok (.invokespecial index, 3)) (a : Addr) (argsL rest : List Value) {st : List Value} (hM : Ctr l y cb maxL none [] rm (.ref a :: argsL).toArray Z h Q) (eT : T.heap = h) (hst : st = argsL.reverse ++ .ref a :: rest) (hsz : Ls.size = c.maxLocals) {ps : List FieldType} {rt : Option FieldType} (hpd : parseMethodDescriptor y.desc = some ⟨ps, rt⟩) (hlen : argsL.length = ps.length)
    (hy : y.cls ≠ "java/lang/invoke/MethodHandle" ∧ y.cls ≠ "java/lang/invoke/VarHandle") (W : Nat) (hW : (rest.map fun v => v.category).sum ≤ W) (hf : rm.frames + 1 ≤ R.frames) (hl : W + (maxL + 11) + rm.locals ≤ R.locals) (hc : cells + rm.cells ≤ R.cells) (hs : slots + rm.slots ≤ R.slots) (q : Nat) (hq : pc + 3 = q)
    (k : ∀ (T' : State) (v : Option Value) (L : List Loc), Stand p l e R s m args below meth c T' (locs ++ L) (cells + rm.cells) (slots + rm.slots) → Q v T'.heap L → Goes p e below K (T'.setTop (mkF m q Ls (v.toList ++ rest)))) : Goes p e below K (T.setTop (mkF m pc Ls st)) := by
  subst hq hst
  obtain ⟨v, _, ⟨T', L', k', n'⟩, -, X', ⟨Lc, hQ, l1, y1, z1⟩, st⟩ := X.specialBack hx hy1 hown (mvT hZ w1) (mvT hZ w2) (mvT hZ w4) hy (backOf (W := W) hM hZ w4 w3 hf hl) (g := mkF m pc Ls (argsL.reverse ++ .ref a :: rest)) rfl hsz (Steps.refl _) (a := a) (argsL := argsL) (rest := rest) (lenOf hpd hlen) rfl (by show 2 * 0 + _ ≤ _; omega) (hb hby hd) (fun _ _ => ⟨rfl, eT, hc, hs⟩)
  dsimp only [Pt.U, Pt.locs, Pt.cells, Pt.slots] at X' l1 y1 z1 st hQ
  subst l1 y1 z1
  exact Goes.of (fun t kt => st.trans kt) (k _ _ _ X' hQ)
theorem g_virtual (X : Stand p l e R s m args below meth c T locs cells slots) (hx : p.tables.exec = Jvm.exec) (hby : c.code = bytes) {Z : State} {a0 : Array Value} (hZ : Z.Warmed39 s.vm) {own : String} {index : Nat} {y : MethodName} {cb : ByteArray} {maxL : Nat} {ret : Option FieldType} {rm : Room} {Q : Option Value → Heap → List Loc → Prop} {h : Heap} {z : MethodName} {C : String} (hown : s.vm.findClass own = some m.cls) (w1 : (Jvm.Cond.methodLink own index y).before a0 Z = true) (w2 : (Jvm.Cond.declares y).before a0 Z = true) (nf : NotFace s y) (w5 : (Jvm.Cond.selects C y z).before a0 Z = true) (w6 : (Jvm.Cond.instanceMethod z).before a0 Z = true) (w3 : (Jvm.Cond.initialized z.cls).before a0 Z = true) (w4 : (Jvm.Cond.code z cb maxL ret).before a0 Z = true)
    (hd : decode bytes pc = .ok (.invokevirtual index, 3)) (a : Addr) (E : Exa Z h a C) (argsL rest : List Value) {st : List Value} (hM : Ctr l z cb maxL ret [] rm (.ref a :: argsL).toArray Z h Q) (eT : T.heap = h) (hst : st = argsL.reverse ++ .ref a :: rest) (hsz : Ls.size = c.maxLocals) {ps : List FieldType} {rt : Option FieldType} (hpd : parseMethodDescriptor y.desc = some ⟨ps, rt⟩) (hlen : argsL.length = ps.length)
    (hy : y.cls ≠ "java/lang/invoke/MethodHandle" ∧ y.cls ≠ "java/lang/invoke/VarHandle") (W : Nat) (hW : (rest.map fun v => v.category).sum ≤ W) (hf : rm.frames + 1 ≤ R.frames) (hl : W + (maxL + 11) + rm.locals ≤ R.locals) (hc : cells + rm.cells ≤ R.cells) (hs : slots + rm.slots ≤ R.slots) (q : Nat) (hq : pc + 3 = q)
    (k : ∀ (T' : State) (v : Option Value) (L : List Loc), Stand p l e R s m args below meth c T' (locs ++ L) (cells + rm.cells) (slots + rm.slots) → Q v T'.heap L → Goes p e below K (T'.setTop (mkF m q Ls (v.toList ++ rest)))) : Goes p e below K (T.setTop (mkF m pc Ls st)) := by
  subst hq hst
  obtain ⟨cq, kq, qa, qb, qc⟩ := isOf hZ eT E
  obtain ⟨v, _, ⟨T', L', k', n'⟩, -, X', ⟨Lc, hQ, l1, y1, z1⟩, st⟩ := X.virtualBack hx (y := y) (z := z) hown (mvT hZ w1) (mvT hZ w2) nf (mvT hZ w5) (mvT hZ w6) hy (backOf (W := W) hM hZ w4 w3 hf hl) qa qc (g := mkF m pc Ls (argsL.reverse ++ .ref a :: rest)) rfl hsz (Steps.refl _) (argsL := argsL) (rest := rest) (lenOf hpd hlen) rfl (by show 2 * 0 + _ ≤ _; omega) (hb hby hd) (fun _ _ => ⟨rfl, eT, hc, hs⟩)
  dsimp only [Pt.U, Pt.locs, Pt.cells, Pt.slots] at X' l1 y1 z1 st hQ
  subst l1 y1 z1
  exact Goes.of (fun t kt => st.trans kt) (k _ _ _ X' hQ)
theorem g_initO (X : Stand p l e R s m args below meth c T locs cells slots) (hx : p.tables.exec = Jvm.exec) (hby : c.code = bytes) {Z : State} {a0 : Array Value} (hZ : Z.Warmed39 s.vm) {own : String} {index : Nat} {h : Heap} {a : Addr} (hown : s.vm.findClass own = some m.cls) (w1 : (Jvm.Cond.methodLink own index Lib.objectInit).before a0 Z = true) (w2 : (Jvm.Cond.instanceMethod Lib.objectInit).before a0 Z = true) (w3 : (Jvm.Cond.code Lib.objectInit ⟨#[0xb1]⟩ 1 none).before a0 Z = true)
    (hd : decode bytes pc = .ok (.invokespecial index, 3)) (eT : T.heap = h) (hsz : Ls.size = c.maxLocals) (W : Nat) (hW : (rest.map fun v => v.category).sum ≤ W) (hf : 1 ≤ R.frames) (hl : W + 12 ≤ R.locals) (q : Nat) (hq : pc + 3 = q)
    (k : ∀ T' : State, Stand p l e R s m args below meth c T' locs cells slots → T'.heap = h → Goes p e below K (T'.setTop (mkF m q Ls rest))) : Goes p e below K (T.setTop (mkF m pc Ls (.ref a :: rest))) := by
  subst hq
  obtain ⟨T', X', e', st⟩ := initO X hx hZ hown w1 w2 w3 eT (g := mkF m pc Ls (.ref a :: rest)) rfl hsz rfl (hb hby hd) hf (W := W) (by show 2 * 0 + _ ≤ _; omega) hl
  exact Goes.of st (k _ X' e')
theorem g_getfield (X : Stand p l e R s m args below meth c T locs cells slots) (hx : p.tables.exec = Jvm.exec) (hby : c.code = bytes) {Z : State} {a0 : Array Value} (hZ : Z.Warmed39 s.vm) {own R0 O n d host : String} {index : Nat} {h : Heap} {a : Addr} {v : Value} (hown : s.vm.findClass own = some m.cls) (w : (Jvm.Cond.fieldLink own index R0 n d).before a0 Z = true ∨ (Jvm.Cond.fieldLinkNest own index R0 n d host).before a0 Z = true) (via : Via Z R0 O n d) (eT : T.heap = h) (F : Fld Z h a O n d v)
    (hd : decode bytes pc = .ok (.getfield index, 3)) (q : Nat) (hq : pc + 3 = q) (k : ∀ T' : State, Stand p l e R s m args below meth c T' locs cells slots → T'.heap = h → Goes p e below K (T'.setTop (mkF m q Ls (v :: rest)))) : Goes p e below K (T.setTop (mkF m pc Ls (.ref a :: rest))) := by
  subst hq
  obtain ⟨T', X', e', st⟩ := getF X hx hZ hown w via eT F (g := mkF m pc Ls (.ref a :: rest)) rfl rfl (hb hby hd)
  exact Goes.of st (k _ X' e')
theorem g_putfield (X : Stand p l e R s m args below meth c T locs cells slots) (hx : p.tables.exec = Jvm.exec) (hby : c.code = bytes) {Z : State} {a0 : Array Value} (hZ : Z.Warmed39 s.vm) {own R0 O n d host C : String} {index kk : Nat} {ty : FieldType} {h : Heap} {a : Addr} {v old : Value} (hown : s.vm.findClass own = some m.cls) (w : (Jvm.Cond.fieldLink own index R0 n d).before a0 Z = true ∨ (Jvm.Cond.fieldLinkNest own index R0 n d host).before a0 Z = true) (via : Via Z R0 O n d) (eT : T.heap = h) (F : Fld Z h a O n d old) (E : Exa Z h a C)
    (L : (Jvm.Cond.lays C O n d).before a0 Z = true ∨ ((Jvm.Cond.laysFinal C O n d).before a0 Z = true ∧ own = O ∧ meth.name = "<init>")) (wi : (Jvm.Cond.instantiable C kk).before a0 Z = true) (hty : parseFieldDescriptor d = some ty) (hn : narrow ty v = v) (hf : fits ty v = true) (hd : decode bytes pc = .ok (.putfield index, 3)) (q : Nat) (hq : pc + 3 = q)
    (k : ∀ (T' : State) (h' : Heap), Stand p l e R s m args below meth c T' (locs ++ [⟨a, Jvm.RoadKit.slotOf Z O n d⟩]) cells slots → T'.heap = h' → Wr h h' a (Jvm.RoadKit.slotOf Z O n d) v → Goes p e below K (T'.setTop (mkF m q Ls rest))) : Goes p e below K (T.setTop (mkF m pc Ls (v :: .ref a :: rest))) := by
  subst hq
  obtain ⟨T', h', X', e', W', st⟩ := putF X hx hZ hown w via eT F E L wi hty hn hf (g := mkF m pc Ls (v :: .ref a :: rest)) rfl rfl (hb hby hd)
  exact Goes.of st (k _ _ X' e' W')
theorem g_new (X : Stand p l e R s m args below meth c T locs cells slots) (hx : p.tables.exec = Jvm.exec) (hby : c.code = bytes) {Z : State} {a0 : Array Value} (hZ : Z.Warmed39 s.vm) {own C : String} {index n : Nat} {h : Heap} (hown : s.vm.findClass own = some m.cls) (w : (Jvm.Cond.classLink own index C).before a0 Z = true) (wi : (Jvm.Cond.instantiable C n).before a0 Z = true) (wz : (Jvm.Cond.initialized C).before a0 Z = true) (eT : T.heap = h) (hd : decode bytes pc = .ok (.new index, 3)) (hc : cells + 1 ≤ R.cells) (hl : slots + n ≤ R.slots) (q : Nat) (hq : pc + 3 = q)
    (k : ∀ (T' : State) (h' : Heap) (a : Addr), a = h.size → Stand p l e R s m args below meth c T' locs (cells + 1) (slots + n) → T'.heap = h' → Ext h h' → Exa Z h' a C → (∀ {O nm d : String} {ty : FieldType}, Laid Z a0 C O nm d → parseFieldDescriptor d = some ty → Fld Z h' a O nm d (defaultValue ty)) → Goes p e below K (T'.setTop (mkF m q Ls (.ref a :: rest)))) : Goes p e below K (T.setTop (mkF m pc Ls rest)) := by
  subst hq
  obtain ⟨T', h', X', e', E', A', D', -, st⟩ := newO X hx hZ hown w wi wz eT (g := mkF m pc Ls rest) rfl (hb hby hd) hc hl
  exact Goes.of st (k _ _ _ rfl X' e' E' A' D')
def upd {α : Type} (f : Nat → α) (k : Nat) (x : α) : Nat → α := fun i => if i = k then x else f i
theorem upd_hit {α : Type} (f : Nat → α) (k : Nat) (x : α) : upd f k x k = x := if_pos rfl
theorem upd_miss {α : Type} (f : Nat → α) {k i : Nat} (x : α) (h : i ≠ k) : upd f k x i = f i := if_neg h
def ArF (Z : State) (h : Heap) (a : Addr) (ty : FieldType) (n : Nat) (f : Nat → Value) : Prop := ∃ c : Cell, Arr Z h a c ty ∧ c.slots.size = n ∧ n < 2 ^ 31 ∧ ∀ j, j < n → c.slots[j]? = some (f j)
abbrev AI (Z : State) (h : Heap) (a : Addr) (ty : FieldType) (n : Nat) (f : Nat → Int32) : Prop := ArF Z h a ty n (fun i => .int (f i))
abbrev AJ (Z : State) (h : Heap) (a : Addr) (n : Nat) (f : Nat → Int64) : Prop := ArF Z h a .long n (fun i => .long (f i))
section Arrays
variable {Z : State} {h h' : Heap} {a b : Addr} {ty : FieldType} {n : Nat} {f : Nat → Value}
theorem ArF.lt (F : ArF Z h a ty n f) : a < h.size := by obtain ⟨c, A, -⟩ := F; exact A.lt
theorem ArF.len (F : ArF Z h a ty n f) : n < 2 ^ 31 := by obtain ⟨c, -, -, q, -⟩ := F; exact q
theorem ArF.ext (F : ArF Z h a ty n f) (E : Ext h h') : ArF Z h' a ty n f := by obtain ⟨c, A, r⟩ := F; exact ⟨c, A.ext E, r⟩
theorem ArF.other {sl : Nat} {v : Value} (F : ArF Z h b ty n f) (W : Wr h h' a sl v) (q : b ≠ a) : ArF Z h' b ty n f := by obtain ⟨c, A, r⟩ := F; exact ⟨c, A.other W q, r⟩
theorem ArF.keep {ws : List Addr} (F : ArF Z h a ty n f) (K : Keep h h' ws) (q : a ∉ ws) : ArF Z h' a ty n f := by obtain ⟨c, A, r⟩ := F; exact ⟨c, ⟨K.2.1 a c A.1 q, A.2⟩, r⟩
theorem ArF.congr {g : Nat → Value} (F : ArF Z h a ty n f) (q : ∀ i, i < n → f i = g i) : ArF Z h a ty n g := by obtain ⟨c, A, r1, r2, r3⟩ := F; exact ⟨c, A, r1, r2, fun j hj => by rw [r3 j hj, q j hj]⟩
theorem ArF.fresh {k : ClassId} {z : Int32} (A : Arr Z h a (newA k ty z) ty) (q : ¬ z < 0) (e : z.toNatClampNeg = n) : ArF Z h a ty n (fun _ => defaultValue ty) := by
  subst e
  refine ⟨_, A, sz_new _ _ _, (back32 q).2, fun j hj => ?_⟩
  simp [newA, hj]
theorem ArF.set {j : Nat} {v : Value} (F : ArF Z h a ty n f) (W : Wr h h' a j v) : ArF Z h' a ty n (upd f j v) := by
  obtain ⟨c, A, r1, r2, r3⟩ := F
  refine ⟨_, A.same W, (sz_set _ _ _).trans r1, r2, fun i hi => ?_⟩
  by_cases q : i = j
  · subst q; rw [upd_hit]; simp [Cell.setSlot, r1, hi]
  · rw [upd_miss _ _ q, ← r3 i hi]
    simp only [Cell.setSlot]
    exact Array.getElem?_setIfInBounds_ne (fun y => q y.symm)
theorem AI.set {j : Nat} {x : Int32} {g : Nat → Int32} (F : AI Z h a ty n g) (W : Wr h h' a j (.int x)) : AI Z h' a ty n (upd g j x) := (ArF.set F W).congr fun i _ => by by_cases q : i = j <;> simp [upd, q]
theorem AJ.set {j : Nat} {x : Int64} {g : Nat → Int64} (F : AJ Z h a n g) (W : Wr h h' a j (.long x)) : AJ Z h' a n (upd g j x) := (ArF.set F W).congr fun i _ => by by_cases q : i = j <;> simp [upd, q]
theorem own_in {c : Cell} {j : Int32} {k : Nat} (hs : c.slots.size = n) (h0 : ¬ j < 0) (hj : j.toNatClampNeg = k) (hk : k < n) : ¬ (j < 0 ∨ c.slots.size ≤ j.toNatClampNeg) := by
  subst hs hj; exact fun y => y.elim h0 (Nat.not_le.mpr hk)
end Arrays
theorem g_newarray (X : Stand p l e R s m args below meth c T locs cells slots) (hx : p.tables.exec = Jvm.exec) (hby : c.code = bytes) {Z : State} {a0 : Array Value} (hZ : Z.Warmed39 s.vm) {aty : ArrayType} {h : Heap} {z : Int32} (w : (Jvm.Cond.arrayClass (newarray.typeOf aty)).before a0 Z = true) (eT : T.heap = h) (hd : decode bytes pc = .ok (.newarray aty, 2)) (hz : ¬ z < 0) (n : Nat) (hn : z.toNatClampNeg = n) (cap : Nat) (hcap : n ≤ cap) (hbig : cap * 8 ≤ 536870912) (hc : cells + 1 ≤ R.cells) (hl : slots + cap ≤ R.slots) (q : Nat) (hq : pc + 2 = q)
    (k : ∀ (T' : State) (h' : Heap) (a : Addr), a = h.size → Stand p l e R s m args below meth c T' locs (cells + 1) (slots + cap) → T'.heap = h' → Ext h h' → ArF Z h' a (newarray.typeOf aty) n (fun _ => defaultValue (newarray.typeOf aty)) → Goes p e below K (T'.setTop (mkF m q Ls (.ref a :: rest)))) : Goes p e below K (T.setTop (mkF m pc Ls (.int z :: rest))) := by
  subst hq
  obtain ⟨T', h', cA, X', e', E', A', st⟩ := newP X hx hZ w eT (g := mkF m pc Ls (.int z :: rest)) rfl (hb hby hd) rfl hz (cap := cap) (by rw [hn]; exact hcap) hbig hc hl
  exact Goes.of st (k _ _ _ rfl X' e' E' (ArF.fresh A' hz hn))
theorem g_arraylength (X : Stand p l e R s m args below meth c T locs cells slots) (hx : p.tables.exec = Jvm.exec) (hby : c.code = bytes) {Z : State} (hZ : Z.Warmed39 s.vm) {h : Heap} {a : Addr} {ty : FieldType} {n : Nat} {f : Nat → Value} (eT : T.heap = h) (F : ArF Z h a ty n f) (hd : decode bytes pc = .ok (.arraylength, 1)) (z : Int32) (hz : n.toInt32 = z) (q : Nat) (hq : pc + 1 = q) (k : Goes p e below K (T.setTop (mkF m q Ls (.int z :: rest)))) : Goes p e below K (T.setTop (mkF m pc Ls (.ref a :: rest))) := by
  subst hq hz
  obtain ⟨cl, A, r1, r2, r3⟩ := F
  exact Goes.of (fun t kt => X.arraylength hx (by rw [eT]; exact A.1) (State.isArrayOf_alike hZ.alike A.2.1) (g := mkF m pc Ls (.ref a :: rest)) rfl rfl (hb hby hd) t (by rw [r1]; exact kt)) k
theorem g_iaload (X : Stand p l e R s m args below meth c T locs cells slots) (hx : p.tables.exec = Jvm.exec) (hby : c.code = bytes) {Z : State} (hZ : Z.Warmed39 s.vm) {h : Heap} {a : Addr} {n : Nat} {f : Nat → Int32} {j : Int32} (eT : T.heap = h) (F : AI Z h a .int n f) (hd : decode bytes pc = .ok (.iaload, 1)) (h0 : ¬ j < 0) (i : Nat) (hj : j.toNatClampNeg = i) (hi : i < n) (x : Int32) (hfx : f i = x) (q : Nat) (hq : pc + 1 = q) (k : Goes p e below K (T.setTop (mkF m q Ls (.int x :: rest)))) : Goes p e below K (T.setTop (mkF m pc Ls (.int j :: .ref a :: rest))) := by
  subst hq hfx
  obtain ⟨cl, A, r1, r2, r3⟩ := F
  exact Goes.of (fun t kt => X.iaload hx (by rw [eT]; exact A.1) (State.isArrayOf_alike hZ.alike A.2.1) A.2.2 (own_in r1 h0 hj hi) (by rw [hj]; exact r3 i hi) (g := mkF m pc Ls (.int j :: .ref a :: rest)) rfl rfl (hb hby hd) t kt) k
theorem g_baload (X : Stand p l e R s m args below meth c T locs cells slots) (hx : p.tables.exec = Jvm.exec) (hby : c.code = bytes) {Z : State} (hZ : Z.Warmed39 s.vm) {h : Heap} {a : Addr} {n : Nat} {f : Nat → Int32} {j : Int32} (eT : T.heap = h) (F : AI Z h a .byte n f) (hd : decode bytes pc = .ok (.baload, 1)) (h0 : ¬ j < 0) (i : Nat) (hj : j.toNatClampNeg = i) (hi : i < n) (x : Int32) (hfx : f i = x) (q : Nat) (hq : pc + 1 = q) (k : Goes p e below K (T.setTop (mkF m q Ls (.int x :: rest)))) : Goes p e below K (T.setTop (mkF m pc Ls (.int j :: .ref a :: rest))) := by
  subst hq hfx
  obtain ⟨cl, A, r1, r2, r3⟩ := F
  exact Goes.of (fun t kt => X.baloadBytes hx (by rw [eT]; exact A.1) (State.isArrayOf_alike hZ.alike A.2.1) A.2.2 (own_in r1 h0 hj hi) (by rw [hj]; exact r3 i hi) (g := mkF m pc Ls (.int j :: .ref a :: rest)) rfl rfl (hb hby hd) t kt) k
theorem g_laload (X : Stand p l e R s m args below meth c T locs cells slots) (hx : p.tables.exec = Jvm.exec) (hby : c.code = bytes) {Z : State} (hZ : Z.Warmed39 s.vm) {h : Heap} {a : Addr} {n : Nat} {f : Nat → Int64} {j : Int32} (eT : T.heap = h) (F : AJ Z h a n f) (hd : decode bytes pc = .ok (.laload, 1)) (h0 : ¬ j < 0) (i : Nat) (hj : j.toNatClampNeg = i) (hi : i < n) (x : Int64) (hfx : f i = x) (q : Nat) (hq : pc + 1 = q) (k : Goes p e below K (T.setTop (mkF m q Ls (.long x :: rest)))) : Goes p e below K (T.setTop (mkF m pc Ls (.int j :: .ref a :: rest))) := by
  subst hq hfx
  obtain ⟨cl, A, r1, r2, r3⟩ := F
  exact Goes.of (fun t kt => X.laload hx (by rw [eT]; exact A.1) (State.isArrayOf_alike hZ.alike A.2.1) A.2.2 (own_in r1 h0 hj hi) (by rw [hj]; exact r3 i hi) (g := mkF m pc Ls (.int j :: .ref a :: rest)) rfl rfl (hb hby hd) t kt) k
theorem g_aaload (X : Stand p l e R s m args below meth c T locs cells slots) (hx : p.tables.exec = Jvm.exec) (hby : c.code = bytes) {Z : State} (hZ : Z.Warmed39 s.vm) {h : Heap} {a : Addr} {n : Nat} {ty : FieldType} {f : Nat → Value} {j : Int32} (eT : T.heap = h) (F : ArF Z h a ty n f) (hty : ty.isReference = true) (hd : decode bytes pc = .ok (.aaload, 1)) (h0 : ¬ j < 0) (i : Nat) (hj : j.toNatClampNeg = i) (hi : i < n) (x : Value) (hfx : f i = x) (q : Nat) (hq : pc + 1 = q) (k : Goes p e below K (T.setTop (mkF m q Ls (x :: rest)))) : Goes p e below K (T.setTop (mkF m pc Ls (.int j :: .ref a :: rest))) := by
  subst hq hfx
  obtain ⟨cl, A, r1, r2, r3⟩ := F
  exact Goes.of (fun t kt => X.aaload hx (by rw [eT]; exact A.1) (State.isArrayOf_alike hZ.alike A.2.1) hty A.2.2 (own_in r1 h0 hj hi) (by rw [hj]; exact r3 i hi) (g := mkF m pc Ls (.int j :: .ref a :: rest)) rfl rfl (hb hby hd) t kt) k
theorem g_iastore (X : Stand p l e R s m args below meth c T locs cells slots) (hx : p.tables.exec = Jvm.exec) (hby : c.code = bytes) {Z : State} (hZ : Z.Warmed39 s.vm) {h : Heap} {a : Addr} {n : Nat} {f : Nat → Int32} {j : Int32} {x : Int32} (eT : T.heap = h) (F : AI Z h a .int n f) (hd : decode bytes pc = .ok (.iastore, 1)) (h0 : ¬ j < 0) (i : Nat) (hj : j.toNatClampNeg = i) (hi : i < n) (q : Nat) (hq : pc + 1 = q)
    (k : ∀ (T' : State) (h' : Heap), Stand p l e R s m args below meth c T' (locs ++ [⟨a, i⟩]) cells slots → T'.heap = h' → Wr h h' a i (.int x) → AI Z h' a .int n (upd f i x) → Goes p e below K (T'.setTop (mkF m q Ls rest))) : Goes p e below K (T.setTop (mkF m pc Ls (.int x :: .int j :: .ref a :: rest))) := by
  subst hq
  have F' := F
  obtain ⟨cl, A, r1, r2, r3⟩ := F'
  obtain ⟨T', h', X', e', W', st⟩ := stI X hx hZ eT A (own_in r1 h0 hj hi) (g := mkF m pc Ls (.int x :: .int j :: .ref a :: rest)) rfl rfl (hb hby hd)
  rw [hj] at X' W'
  exact Goes.of st (k _ _ X' e' W' (AI.set F W'))
theorem g_bastore (X : Stand p l e R s m args below meth c T locs cells slots) (hx : p.tables.exec = Jvm.exec) (hby : c.code = bytes) {Z : State} (hZ : Z.Warmed39 s.vm) {h : Heap} {a : Addr} {n : Nat} {f : Nat → Int32} {j : Int32} {x : Int32} (eT : T.heap = h) (F : AI Z h a .byte n f) (hd : decode bytes pc = .ok (.bastore, 1)) (h0 : ¬ j < 0) (i : Nat) (hj : j.toNatClampNeg = i) (hi : i < n) (y : Int32) (hxy : x.toInt8.toInt32 = y) (q : Nat) (hq : pc + 1 = q)
    (k : ∀ (T' : State) (h' : Heap), Stand p l e R s m args below meth c T' (locs ++ [⟨a, i⟩]) cells slots → T'.heap = h' → Wr h h' a i (.int y) → AI Z h' a .byte n (upd f i y) → Goes p e below K (T'.setTop (mkF m q Ls rest))) : Goes p e below K (T.setTop (mkF m pc Ls (.int x :: .int j :: .ref a :: rest))) := by
  subst hq hxy
  have F' := F
  obtain ⟨cl, A, r1, r2, r3⟩ := F'
  obtain ⟨T', h', X', e', W', st⟩ := stB X hx hZ eT A (own_in r1 h0 hj hi) (g := mkF m pc Ls (.int x :: .int j :: .ref a :: rest)) rfl rfl (hb hby hd)
  rw [hj] at X' W'
  exact Goes.of st (k _ _ X' e' W' (AI.set F W'))
theorem g_lastore (X : Stand p l e R s m args below meth c T locs cells slots) (hx : p.tables.exec = Jvm.exec) (hby : c.code = bytes) {Z : State} (hZ : Z.Warmed39 s.vm) {h : Heap} {a : Addr} {n : Nat} {f : Nat → Int64} {j : Int32} {x : Int64} (eT : T.heap = h) (F : AJ Z h a n f) (hd : decode bytes pc = .ok (.lastore, 1)) (h0 : ¬ j < 0) (i : Nat) (hj : j.toNatClampNeg = i) (hi : i < n) (q : Nat) (hq : pc + 1 = q)
    (k : ∀ (T' : State) (h' : Heap), Stand p l e R s m args below meth c T' (locs ++ [⟨a, i⟩]) cells slots → T'.heap = h' → Wr h h' a i (.long x) → AJ Z h' a n (upd f i x) → Goes p e below K (T'.setTop (mkF m q Ls rest))) : Goes p e below K (T.setTop (mkF m pc Ls (.long x :: .int j :: .ref a :: rest))) := by
  subst hq
  have F' := F
  obtain ⟨cl, A, r1, r2, r3⟩ := F'
  obtain ⟨T', h', X', e', W', st⟩ := stJ X hx hZ eT A (own_in r1 h0 hj hi) (g := mkF m pc Ls (.long x :: .int j :: .ref a :: rest)) rfl rfl (hb hby hd)
  rw [hj] at X' W'
  exact Goes.of st (k _ _ X' e' W' (AJ.set F W'))
def ArO (Z : State) (h : Heap) (a : Addr) (C : String) (n : Nat) (f : Nat → Value) : Prop := ∃ c : Cell, Arr Z h a c (.object C) ∧ c.slots.size = n ∧ n < 2 ^ 31 ∧ (∀ j, j < n → c.slots[j]? = some (f j)) ∧ Ovr Z c.cls C
section ArraysO
variable {Z : State} {h h' : Heap} {a b : Addr} {C : String} {n : Nat} {f : Nat → Value}
theorem ArO.toF (F : ArO Z h a C n f) : ArF Z h a (.object C) n f := by obtain ⟨c, A, r1, r2, r3, -⟩ := F; exact ⟨c, A, r1, r2, r3⟩
theorem ArO.lt (F : ArO Z h a C n f) : a < h.size := F.toF.lt
theorem ArO.ext (F : ArO Z h a C n f) (E : Ext h h') : ArO Z h' a C n f := by obtain ⟨c, A, r⟩ := F; exact ⟨c, A.ext E, r⟩
theorem ArO.other {sl : Nat} {v : Value} (F : ArO Z h b C n f) (W : Wr h h' a sl v) (q : b ≠ a) : ArO Z h' b C n f := by obtain ⟨c, A, r⟩ := F; exact ⟨c, A.other W q, r⟩
theorem ArO.keep {ws : List Addr} (F : ArO Z h a C n f) (K : Keep h h' ws) (q : a ∉ ws) : ArO Z h' a C n f := by obtain ⟨c, A, r⟩ := F; exact ⟨c, ⟨K.2.1 a c A.1 q, A.2⟩, r⟩
theorem ArO.congr {g : Nat → Value} (F : ArO Z h a C n f) (q : ∀ i, i < n → f i = g i) : ArO Z h a C n g := by obtain ⟨c, A, r1, r2, r3, r4⟩ := F; exact ⟨c, A, r1, r2, fun j hj => by rw [r3 j hj, q j hj], r4⟩
theorem ArO.fresh {k : ClassId} {z : Int32} (A : Arr Z h a (newA k (.object C) z) (.object C)) (O : Ovr Z k C) (q : ¬ z < 0) (e : z.toNatClampNeg = n) : ArO Z h a C n (fun _ => .null) := by
  subst e
  refine ⟨_, A, sz_new _ _ _, (back32 q).2, fun j hj => ?_, O⟩
  simp [newA, hj, defaultValue]
theorem ArO.set {j : Nat} {v : Value} (F : ArO Z h a C n f) (W : Wr h h' a j v) : ArO Z h' a C n (upd f j v) := by
  obtain ⟨c, A, r1, r2, r3, r4⟩ := F
  refine ⟨_, A.same W, (sz_set _ _ _).trans r1, r2, fun i hi => ?_, r4⟩
  by_cases q : i = j
  · subst q; rw [upd_hit]; simp [Cell.setSlot, r1, hi]
  · rw [upd_miss _ _ q, ← r3 i hi]
    simp only [Cell.setSlot]
    exact Array.getElem?_setIfInBounds_ne (fun y => q y.symm)
theorem ArO.sto {y : Addr} (F : ArO Z h a C n f) (I : Ins Z h y C true) : Sto Z h a (.ref y) := by obtain ⟨c, A, -, -, -, O⟩ := F; exact Sto.of A O I
end ArraysO
theorem g_anewarray (X : Stand p l e R s m args below meth c T locs cells slots) (hx : p.tables.exec = Jvm.exec) (hby : c.code = bytes) {Z : State} {a0 : Array Value} (hZ : Z.Warmed39 s.vm) {own C : String} {index : Nat} {h : Heap} {z : Int32} (hown : s.vm.findClass own = some m.cls) (w1 : (Jvm.Cond.classLink own index C).before a0 Z = true) (w2 : (Jvm.Cond.arrayOver (.object C)).before a0 Z = true) (eT : T.heap = h) (hd : decode bytes pc = .ok (.anewarray index, 3)) (hz : ¬ z < 0) (n : Nat) (hn : z.toNatClampNeg = n) (cap : Nat) (hcap : n ≤ cap) (hbig : cap * 8 ≤ 536870912) (hc : cells + 1 ≤ R.cells) (hl : slots + cap ≤ R.slots) (q : Nat) (hq : pc + 3 = q)
    (k : ∀ (T' : State) (h' : Heap) (a : Addr), a = h.size → Stand p l e R s m args below meth c T' locs (cells + 1) (slots + cap) → T'.heap = h' → Ext h h' → ArO Z h' a C n (fun _ => .null) → Goes p e below K (T'.setTop (mkF m q Ls (.ref a :: rest)))) : Goes p e below K (T.setTop (mkF m pc Ls (.int z :: rest))) := by
  subst hq
  obtain ⟨T', h', cA, X', e', E', A', O', st⟩ := newR X hx hZ hown w1 w2 eT (g := mkF m pc Ls (.int z :: rest)) rfl (hb hby hd) rfl hz (cap := cap) (by rw [hn]; exact hcap) hbig hc hl
  exact Goes.of st (k _ _ _ rfl X' e' E' (ArO.fresh A' O' hz hn))
theorem g_aastore (X : Stand p l e R s m args below meth c T locs cells slots) (hx : p.tables.exec = Jvm.exec) (hby : c.code = bytes) {Z : State} (hZ : Z.Warmed39 s.vm) {h : Heap} {a : Addr} {n : Nat} {C : String} {f : Nat → Value} {j : Int32} {x : Value} (eT : T.heap = h) (F : ArO Z h a C n f) (S : Sto Z h a x) (hd : decode bytes pc = .ok (.aastore, 1)) (h0 : ¬ j < 0) (i : Nat) (hj : j.toNatClampNeg = i) (hi : i < n) (q : Nat) (hq : pc + 1 = q)
    (k : ∀ (T' : State) (h' : Heap), Stand p l e R s m args below meth c T' (locs ++ [⟨a, i⟩]) cells slots → T'.heap = h' → Wr h h' a i x → ArO Z h' a C n (upd f i x) → Goes p e below K (T'.setTop (mkF m q Ls rest))) : Goes p e below K (T.setTop (mkF m pc Ls (x :: .int j :: .ref a :: rest))) := by
  subst hq
  have F' := F
  obtain ⟨cl, A, r1, r2, r3, r4⟩ := F'
  obtain ⟨T', h', X', e', W', st⟩ := stR X hx hZ eT A (own_in r1 h0 hj hi) rfl S (g := mkF m pc Ls (x :: .int j :: .ref a :: rest)) rfl rfl (hb hby hd)
  rw [hj] at X' W'
  exact Goes.of st (k _ _ X' e' W' (ArO.set F W'))
theorem g_checkcast (X : Stand p l e R s m args below meth c T locs cells slots) (hx : p.tables.exec = Jvm.exec) (hby : c.code = bytes) {Z : State} {a0 : Array Value} (hZ : Z.Warmed39 s.vm) {own C : String} {index : Nat} {h : Heap} {a : Addr} (hown : s.vm.findClass own = some m.cls) (w : (Jvm.Cond.classLink own index C).before a0 Z = true) (eT : T.heap = h) (I : Ins Z h a C true) (hd : decode bytes pc = .ok (.checkcast index, 3)) (q : Nat) (hq : pc + 3 = q)
    (k : ∀ T' : State, Stand p l e R s m args below meth c T' locs cells slots → T'.heap = h → Goes p e below K (T'.setTop (mkF m q Ls (.ref a :: rest)))) : Goes p e below K (T.setTop (mkF m pc Ls (.ref a :: rest))) := by
  subst hq
  obtain ⟨T', X', e', st⟩ := castY X hx hZ hown w eT I (g := mkF m pc Ls (.ref a :: rest)) rfl rfl (hb hby hd)
  exact Goes.of st (k _ X' e')
theorem g_getstatic (X : Stand p l e R s m args below meth c T locs cells slots) (hx : p.tables.exec = Jvm.exec) (hby : c.code = bytes) {Z : State} {a0 : Array Value} (hZ : Z.Warmed39 s.vm) {own R0 O n d host : String} {index : Nat} {h : Heap} {v : Value} (hown : s.vm.findClass own = some m.cls) (w : (Jvm.Cond.fieldLink own index R0 n d).before a0 Z = true ∨ (Jvm.Cond.fieldLinkNest own index R0 n d host).before a0 Z = true) (via : Via Z R0 O n d) (eT : T.heap = h) (F : Sta Z h O n d v) (hd : decode bytes pc = .ok (.getstatic index, 3)) (q : Nat) (hq : pc + 3 = q)
    (k : ∀ T' : State, Stand p l e R s m args below meth c T' locs cells slots → T'.heap = h → Goes p e below K (T'.setTop (mkF m q Ls (v :: rest)))) : Goes p e below K (T.setTop (mkF m pc Ls rest)) := by
  subst hq
  obtain ⟨T', X', e', st⟩ := getS2 X hx hZ hown w via eT F (g := mkF m pc Ls rest) rfl (hb hby hd)
  exact Goes.of st (k _ X' e')
theorem own_fm {r n d : String} (h1 : r ≠ "java/lang/invoke/MethodHandle") (h2 : r ≠ "java/lang/invoke/VarHandle") : ((Jvm.Cond.interfaceMethod r r n d).onTables && (Jvm.Cond.interfaceMethod r r n d).keepsFace) = true := by
  have e : ((Jvm.Cond.interfaceMethod r r n d).onTables && (Jvm.Cond.interfaceMethod r r n d).keepsFace) = (r == r && r != "java/lang/invoke/MethodHandle" && r != "java/lang/invoke/VarHandle") := rfl
  rw [e]; simp [h1, h2]
theorem g_interface (X : Stand p l e R s m args below meth c T locs cells slots) (hx : p.tables.exec = Jvm.exec) (hby : c.code = bytes) {Z : State} {a0 : Array Value} (hZ : Z.Warmed39 s.vm) {own : String} {index : Nat} {y : MethodName} {cb : ByteArray} {maxL : Nat} {ret : Option FieldType} {rm : Room} {Q : Option Value → Heap → List Loc → Prop} {h : Heap} {z : MethodName} {C : String} {count : Nat} (hown : s.vm.findClass own = some m.cls) (w1 : (Jvm.Cond.methodLink own index y).before a0 Z = true) (w2 : (Jvm.Cond.declares y).before a0 Z = true) (w7 : (Jvm.Cond.interfaceMethod y.cls y.cls y.name y.desc).before a0 Z = true) (w5 : (Jvm.Cond.selects C y z).before a0 Z = true) (w6 : (Jvm.Cond.instanceMethod z).before a0 Z = true) (w8 : (Jvm.Cond.publicMethod z).before a0 Z = true) (w9 : (Jvm.Cond.unhidden C y.name y.desc).before a0 Z = true) (w10 : (Jvm.Cond.castable C y.cls).before a0 Z = true) (w3 : (Jvm.Cond.initialized z.cls).before a0 Z = true) (w4 : (Jvm.Cond.code z cb maxL ret).before a0 Z = true)
    (hd : decode bytes pc = .ok (.invokeinterface index count, 5)) (a : Addr) (E : Exa Z h a C) (argsL rest : List Value) {st : List Value} (hM : Ctr l z cb maxL ret [] rm (.ref a :: argsL).toArray Z h Q) (eT : T.heap = h) (hst : st = argsL.reverse ++ .ref a :: rest) (hsz : Ls.size = c.maxLocals) {ps : List FieldType} {rt : Option FieldType} (hpd : parseMethodDescriptor y.desc = some ⟨ps, rt⟩) (hlen : argsL.length = ps.length)
    (hy : y.cls ≠ "java/lang/invoke/MethodHandle" ∧ y.cls ≠ "java/lang/invoke/VarHandle") (W : Nat) (hW : (rest.map fun v => v.category).sum ≤ W) (hf : rm.frames + 1 ≤ R.frames) (hl : W + (maxL + 11) + rm.locals ≤ R.locals) (hc : cells + rm.cells ≤ R.cells) (hs : slots + rm.slots ≤ R.slots) (q : Nat) (hq : pc + 5 = q)
    (k : ∀ (T' : State) (v : Option Value) (L : List Loc), Stand p l e R s m args below meth c T' (locs ++ L) (cells + rm.cells) (slots + rm.slots) → Q v T'.heap L → Goes p e below K (T'.setTop (mkF m q Ls (v.toList ++ rest)))) : Goes p e below K (T.setTop (mkF m pc Ls st)) := by
  subst hq hst
  obtain ⟨cq, kq, qa, qb, qc⟩ := isOf hZ eT E
  obtain ⟨v, _, ⟨T', L', k', n'⟩, -, X', ⟨Lc, hQ, l1, y1, z1⟩, st⟩ := X.interfaceBack hx (xi := y) (y := z) hown (mvT hZ w1) (mvT hZ w2) (mvT hZ w7 (own_fm hy.1 hy.2)) (mvT hZ w5) (mvT hZ w6) (mvT hZ w8) (mvT hZ w9) (mvT hZ w10) hy (backOf (W := W) hM hZ w4 w3 hf hl) qa qb qc (g := mkF m pc Ls (argsL.reverse ++ .ref a :: rest)) rfl hsz (Steps.refl _) (argsL := argsL) (rest := rest) (lenOf hpd hlen) rfl (by show 2 * 0 + _ ≤ _; omega) (hb hby hd) (fun _ _ => ⟨rfl, eT, hc, hs⟩)
  dsimp only [Pt.U, Pt.locs, Pt.cells, Pt.slots] at X' l1 y1 z1 st hQ
  subst l1 y1 z1
  exact Goes.of (fun t kt => st.trans kt) (k _ _ _ X' hQ)
end OwnKit
theorem byte2 (x : Int32) : x.toInt8.toInt32.toInt8.toInt32 = x.toInt8.toInt32 := by simp
theorem own_ite01 {P : Prop} [Decidable P] : (if P then (1 : Int32) else 0) = 0 ∨ (if P then (1 : Int32) else 0) = 1 := by by_cases h : P <;> simp [h]
theorem own_and31 (x : Int32) : (x &&& (2147483647 : Int32)).toInt = x.toInt % 2147483648 := c_mask x 2147483647 31 (by decide) (by decide)
theorem own_rem (x k : Int32) (d : Int) (hk : k.toInt = d) (hd : 0 < d) : 0 ≤ ((x &&& (2147483647 : Int32)) % k).toInt ∧ ((x &&& (2147483647 : Int32)) % k).toInt < d := by
  have h1 := own_and31 x
  have h2 := (c_irem (x &&& (2147483647 : Int32)) k d hk).1 (by omega)
  rw [h2]; exact ⟨Int.emod_nonneg _ (by omega), Int.emod_lt_of_pos _ hd⟩
theorem own_nn {j : Int32} (h : 0 ≤ j.toInt) : ¬ j < 0 := by
  rw [Int32.lt_iff_toInt_lt]; show ¬ j.toInt < 0; omega
theorem own_lt {j : Int32} {n : Nat} (h : j.toInt < n) (hn : 0 < n) : j.toNatClampNeg < n := by
  show j.toInt.toNat < n; omega

theorem d1_0 : decode prog_2_method_1_code 0 = .ok (.aload_n 0, 1) := by decide +kernel
theorem d1_1 : decode prog_2_method_1_code 1 = .ok (.invokespecial 3, 3) := by decide +kernel
theorem d1_4 : decode prog_2_method_1_code 4 = .ok (.aload_n 0, 1) := by decide +kernel
theorem d1_5 : decode prog_2_method_1_code 5 = .ok (.iconst 0, 1) := by decide +kernel
theorem d1_6 : decode prog_2_method_1_code 6 = .ok (.newarray .byte, 2) := by decide +kernel
theorem d1_8 : decode prog_2_method_1_code 8 = .ok (.putfield 9, 3) := by decide +kernel
theorem d1_11 : decode prog_2_method_1_code 11 = .ok (.return_, 1) := by decide +kernel
theorem pn1 : plainFor (⟨"com/example/brevicode/brevicode/BitWriter", "<init>", "()V"⟩ : MethodName) = true := plainFor_of_name (by first | (simp [plainName, overriddenIn]; done) | decide +kernel)
theorem ef1 (m : MethodId) (o : Addr) : entryFrame m #[(.ref o)] 1 = mkF m 0 #[.val (.ref o)] [] := by first | (simp [entryFrame, mkF, argsToLocals, Value.category]; done) | rfl
def Q1 (o : Addr) (Z : State) (h0 : Heap) (n0 : Nat) (v : Option Value) (h : Heap) (L : List Loc) : Prop := ∃ b2 : Addr, v = none ∧ Fr n0 L ∧ Keep h0 h [o] ∧ (n0 ≤ b2 ∧ h0.size ≤ b2) ∧ Exa Z h o "com/example/brevicode/brevicode/BitWriter" ∧ Fld Z h o "com/example/brevicode/brevicode/BitWriter" "bytes" "[B" (.ref b2) ∧ Fld Z h o "com/example/brevicode/brevicode/BitWriter" "position" "I" (.int (0 : Int32)) ∧ Fld Z h o "com/example/brevicode/brevicode/BitWriter" "pending" "J" (.long (0 : Int64)) ∧ Fld Z h o "com/example/brevicode/brevicode/BitWriter" "pendingBits" "I" (.int (0 : Int32)) ∧ AI Z h b2 .byte 0 (fun _ => (0 : Int32))
set_option maxRecDepth 65536 in
set_option maxHeartbeats 40000000 in
theorem rm1 (l : Launch) (Z : State) (a0 : Array Value) (hw : ∀ d ∈ tables_1, d.before a0 Z = true) (ws : List Jvm.Cond) (o : Addr) (h0 : Heap) (n0 : Nat) (Z0 : n0 ≤ h0.size) (E_o_0 : Exa Z h0 o "com/example/brevicode/brevicode/BitWriter") (F_o_bytes_0 : Fld Z h0 o "com/example/brevicode/brevicode/BitWriter" "bytes" "[B" .null) (F_o_position_0 : Fld Z h0 o "com/example/brevicode/brevicode/BitWriter" "position" "I" (.int (0 : Int32))) (F_o_pending_0 : Fld Z h0 o "com/example/brevicode/brevicode/BitWriter" "pending" "J" (.long (0 : Int64))) (F_o_pendingBits_0 : Fld Z h0 o "com/example/brevicode/brevicode/BitWriter" "pendingBits" "I" (.int (0 : Int32))) (gn_o : n0 ≤ o) : Ctr l (⟨"com/example/brevicode/brevicode/BitWriter", "<init>", "()V"⟩ : MethodName) prog_2_method_1_code 1 none ws ({ frames := 1, cells := 1, slots := 0, locals := 12 } : Room) #[(.ref o)] Z h0 (Q1 o Z h0 n0) := by
  refine own_body pn1 ?_
  intro p e s m below meth c T0 hx hby hml hown hnm hret hlk hZ X0 e0
  have N0 := Fr.nil n0
  have K0 : Keep h0 h0 [o] := Keep.refl _ _
  refine Goes.entry (ef1 m o) ?_
  refine g_aloadN X0 hx hby d1_0 rfl rfl 1 rfl ?_
  refine g_initO X0 hx hby hZ hown (hw _ (List.mem_of_getElem? (i := 8) rfl)) (hw _ (List.mem_of_getElem? (i := 9) rfl)) (hw _ (List.mem_of_getElem? (i := 10) rfl)) d1_1 e0 (by rw [hml]; rfl) 0 (Nat.le_of_eq rfl) (by decide) (by decide) 4 rfl ?_
  intro T1 X1 e1
  refine g_aloadN X1 hx hby d1_4 rfl rfl 5 rfl ?_
  refine g_iconst X1 hx hby d1_5 (0 : Int32) rfl 6 rfl ?_
  refine g_newarray X1 hx hby hZ (hw _ (List.mem_of_getElem? (i := 1) rfl)) e1 d1_6 (by decide) 0 rfl 0 (by decide) (by decide) (by decide) (by decide) 8 rfl ?_
  intro T2 h2 b2 g2 X2 e2 E2 A2
  have gn_b2 : n0 ≤ b2 := Nat.le_trans Z0 (Nat.le_of_eq g2.symm)
  have sz_b2 : h0.size ≤ b2 := Nat.le_trans K0.1 (Nat.le_of_eq g2.symm)
  have K2 := K0.ext E2
  have Z2 : n0 ≤ h2.size := Nat.le_trans Z0 E2.1
  have ne_o_b2 : o ≠ b2 := Nat.ne_of_lt (Nat.lt_of_lt_of_le (E_o_0.lt) (Nat.le_of_eq g2.symm))
  have E_o_2 := E_o_0.ext E2
  have F_o_bytes_2 := Fld.ext E2 F_o_bytes_0
  have F_o_position_2 := Fld.ext E2 F_o_position_0
  have F_o_pending_2 := Fld.ext E2 F_o_pending_0
  have F_o_pendingBits_2 := Fld.ext E2 F_o_pendingBits_0
  have Vb2 : AI Z h2 b2 .byte 0 (fun _ => (0 : Int32)) := A2
  refine g_putfield X2 hx hby hZ hown (host := "") (Or.inl (hw _ (List.mem_of_getElem? (i := 11) rfl))) Via.refl e2 F_o_bytes_2 E_o_2 (Or.inl (hw _ (List.mem_of_getElem? (i := 12) rfl))) (hw _ (List.mem_of_getElem? (i := 3) rfl)) (ty := (.array .byte)) (by decide) rfl rfl d1_8 11 rfl ?_
  intro T3 h3 X3 e3 W3
  have N3 := Fr.snoc X3 N0 gn_o
  have K3 := K2.wr W3 (Or.inl (List.mem_of_getElem? (i := 0) rfl))
  have Z3 : n0 ≤ h3.size := Nat.le_trans Z2 (Keep.of_wr W3).1
  have E_o_3 := E_o_2.wr W3
  have F_o_bytes_3 := F_o_bytes_2.same W3
  have F_o_position_3 := F_o_position_2.other W3 (Or.inr (slot_ne (Or.inl (hw _ (List.mem_of_getElem? (i := 19) rfl))) (Or.inl (hw _ (List.mem_of_getElem? (i := 12) rfl))) (by decide) (t := .int) (t' := (.array .byte)) (by decide) (by decide)))
  have F_o_pending_3 := F_o_pending_2.other W3 (Or.inr (slot_ne (Or.inl (hw _ (List.mem_of_getElem? (i := 21) rfl))) (Or.inl (hw _ (List.mem_of_getElem? (i := 12) rfl))) (by decide) (t := .long) (t' := (.array .byte)) (by decide) (by decide)))
  have F_o_pendingBits_3 := F_o_pendingBits_2.other W3 (Or.inr (slot_ne (Or.inl (hw _ (List.mem_of_getElem? (i := 23) rfl))) (Or.inl (hw _ (List.mem_of_getElem? (i := 12) rfl))) (by decide) (t := .int) (t' := (.array .byte)) (by decide) (by decide)))
  have Vb2_3 := ArF.other Vb2 W3 (Ne.symm ne_o_b2)
  exact g_return X3 hx hby hret hlk d1_11 (by rw [e3]; exact ⟨b2, rfl, N3, K3, ⟨gn_b2, sz_b2⟩, E_o_3, F_o_bytes_3, F_o_position_3, F_o_pending_3, F_o_pendingBits_3, Vb2_3⟩) (by decide) (by decide)
theorem d3_0 : decode prog_2_method_2_code 0 = .ok (.aload_n 0, 1) := by decide +kernel
theorem d3_1 : decode prog_2_method_2_code 1 = .ok (.aload_n 1, 1) := by decide +kernel
theorem d3_2 : decode prog_2_method_2_code 2 = .ok (.putfield 9, 3) := by decide +kernel
theorem d3_5 : decode prog_2_method_2_code 5 = .ok (.aload_n 0, 1) := by decide +kernel
theorem d3_6 : decode prog_2_method_2_code 6 = .ok (.iload_n 2, 1) := by decide +kernel
theorem d3_7 : decode prog_2_method_2_code 7 = .ok (.putfield 15, 3) := by decide +kernel
theorem d3_10 : decode prog_2_method_2_code 10 = .ok (.aload_n 0, 1) := by decide +kernel
theorem d3_11 : decode prog_2_method_2_code 11 = .ok (.lconst 0, 1) := by decide +kernel
theorem d3_12 : decode prog_2_method_2_code 12 = .ok (.putfield 19, 3) := by decide +kernel
theorem d3_15 : decode prog_2_method_2_code 15 = .ok (.aload_n 0, 1) := by decide +kernel
theorem d3_16 : decode prog_2_method_2_code 16 = .ok (.iconst 0, 1) := by decide +kernel
theorem d3_17 : decode prog_2_method_2_code 17 = .ok (.putfield 23, 3) := by decide +kernel
theorem d3_20 : decode prog_2_method_2_code 20 = .ok (.return_, 1) := by decide +kernel
theorem pn3 : plainFor (⟨"com/example/brevicode/brevicode/BitWriter", "start", "([BI)V"⟩ : MethodName) = true := plainFor_of_name (by first | (simp [plainName, overriddenIn]; done) | decide +kernel)
theorem ef3 (m : MethodId) (o : Addr) (arr : Addr) (st : Int32) (ob : Addr) (p1 : Int32) (p2 : Int64) (p3 : Int32) : entryFrame m #[(.ref o), (.ref arr), (.int st)] 3 = mkF m 0 #[.val (.ref o), .val (.ref arr), .val (.int st)] [] := by first | (simp [entryFrame, mkF, argsToLocals, Value.category]; done) | rfl
def Q3 (o : Addr) (arr : Addr) (st : Int32) (ob : Addr) (p1 : Int32) (p2 : Int64) (p3 : Int32) (Z : State) (h0 : Heap) (n0 : Nat) (v : Option Value) (h : Heap) (L : List Loc) : Prop := v = none ∧ Fr n0 L ∧ Keep h0 h [o] ∧ Exa Z h o "com/example/brevicode/brevicode/BitWriter" ∧ Fld Z h o "com/example/brevicode/brevicode/BitWriter" "bytes" "[B" (.ref arr) ∧ Fld Z h o "com/example/brevicode/brevicode/BitWriter" "position" "I" (.int st) ∧ Fld Z h o "com/example/brevicode/brevicode/BitWriter" "pending" "J" (.long (0 : Int64)) ∧ Fld Z h o "com/example/brevicode/brevicode/BitWriter" "pendingBits" "I" (.int (0 : Int32))
set_option maxRecDepth 65536 in
set_option maxHeartbeats 40000000 in
theorem rm3 (l : Launch) (Z : State) (a0 : Array Value) (hw : ∀ d ∈ tables_1, d.before a0 Z = true) (ws : List Jvm.Cond) (o : Addr) (arr : Addr) (st : Int32) (ob : Addr) (p1 : Int32) (p2 : Int64) (p3 : Int32) (h0 : Heap) (n0 : Nat) (Z0 : n0 ≤ h0.size) (E_o_0 : Exa Z h0 o "com/example/brevicode/brevicode/BitWriter") (F_o_bytes_0 : Fld Z h0 o "com/example/brevicode/brevicode/BitWriter" "bytes" "[B" (.ref ob)) (F_o_position_0 : Fld Z h0 o "com/example/brevicode/brevicode/BitWriter" "position" "I" (.int p1)) (F_o_pending_0 : Fld Z h0 o "com/example/brevicode/brevicode/BitWriter" "pending" "J" (.long p2)) (F_o_pendingBits_0 : Fld Z h0 o "com/example/brevicode/brevicode/BitWriter" "pendingBits" "I" (.int p3)) (gn_o : n0 ≤ o) : Ctr l (⟨"com/example/brevicode/brevicode/BitWriter", "start", "([BI)V"⟩ : MethodName) prog_2_method_2_code 3 none ws ({ frames := 0, cells := 0, slots := 0, locals := 0 } : Room) #[(.ref o), (.ref arr), (.int st)] Z h0 (Q3 o arr st ob p1 p2 p3 Z h0 n0) := by
  refine own_body pn3 ?_
  intro p e s m below meth c T0 hx hby hml hown hnm hret hlk hZ X0 e0
  have N0 := Fr.nil n0
  have K0 : Keep h0 h0 [o] := Keep.refl _ _
  refine Goes.entry (ef3 m o arr st ob p1 p2 p3) ?_
  refine g_aloadN X0 hx hby d3_0 rfl rfl 1 rfl ?_
  refine g_aloadN X0 hx hby d3_1 rfl rfl 2 rfl ?_
  refine g_putfield X0 hx hby hZ hown (host := "") (Or.inl (hw _ (List.mem_of_getElem? (i := 11) rfl))) Via.refl e0 F_o_bytes_0 E_o_0 (Or.inl (hw _ (List.mem_of_getElem? (i := 12) rfl))) (hw _ (List.mem_of_getElem? (i := 3) rfl)) (ty := (.array .byte)) (by decide) rfl rfl d3_2 5 rfl ?_
  intro T1 h1 X1 e1 W1
  have N1 := Fr.snoc X1 N0 gn_o
  have K1 := K0.wr W1 (Or.inl (List.mem_of_getElem? (i := 0) rfl))
  have Z1 : n0 ≤ h1.size := Nat.le_trans Z0 (Keep.of_wr W1).1
  have E_o_1 := E_o_0.wr W1
  have F_o_bytes_1 := F_o_bytes_0.same W1
  have F_o_position_1 := F_o_position_0.other W1 (Or.inr (slot_ne (Or.inl (hw _ (List.mem_of_getElem? (i := 19) rfl))) (Or.inl (hw _ (List.mem_of_getElem? (i := 12) rfl))) (by decide) (t := .int) (t' := (.array .byte)) (by decide) (by decide)))
  have F_o_pending_1 := F_o_pending_0.other W1 (Or.inr (slot_ne (Or.inl (hw _ (List.mem_of_getElem? (i := 21) rfl))) (Or.inl (hw _ (List.mem_of_getElem? (i := 12) rfl))) (by decide) (t := .long) (t' := (.array .byte)) (by decide) (by decide)))
  have F_o_pendingBits_1 := F_o_pendingBits_0.other W1 (Or.inr (slot_ne (Or.inl (hw _ (List.mem_of_getElem? (i := 23) rfl))) (Or.inl (hw _ (List.mem_of_getElem? (i := 12) rfl))) (by decide) (t := .int) (t' := (.array .byte)) (by decide) (by decide)))
  refine g_aloadN X1 hx hby d3_5 rfl rfl 6 rfl ?_
  refine g_iloadN X1 hx hby d3_6 rfl 7 rfl ?_
  refine g_putfield X1 hx hby hZ hown (host := "") (Or.inl (hw _ (List.mem_of_getElem? (i := 18) rfl))) Via.refl e1 F_o_position_1 E_o_1 (Or.inl (hw _ (List.mem_of_getElem? (i := 19) rfl))) (hw _ (List.mem_of_getElem? (i := 3) rfl)) (ty := .int) (by decide) rfl rfl d3_7 10 rfl ?_
  intro T2 h2 X2 e2 W2
  have N2 := Fr.snoc X2 N1 gn_o
  have K2 := K1.wr W2 (Or.inl (List.mem_of_getElem? (i := 0) rfl))
  have Z2 : n0 ≤ h2.size := Nat.le_trans Z1 (Keep.of_wr W2).1
  have E_o_2 := E_o_1.wr W2
  have F_o_bytes_2 := F_o_bytes_1.other W2 (Or.inr (slot_ne (Or.inl (hw _ (List.mem_of_getElem? (i := 12) rfl))) (Or.inl (hw _ (List.mem_of_getElem? (i := 19) rfl))) (by decide) (t := (.array .byte)) (t' := .int) (by decide) (by decide)))
  have F_o_position_2 := F_o_position_1.same W2
  have F_o_pending_2 := F_o_pending_1.other W2 (Or.inr (slot_ne (Or.inl (hw _ (List.mem_of_getElem? (i := 21) rfl))) (Or.inl (hw _ (List.mem_of_getElem? (i := 19) rfl))) (by decide) (t := .long) (t' := .int) (by decide) (by decide)))
  have F_o_pendingBits_2 := F_o_pendingBits_1.other W2 (Or.inr (slot_ne (Or.inl (hw _ (List.mem_of_getElem? (i := 23) rfl))) (Or.inl (hw _ (List.mem_of_getElem? (i := 19) rfl))) (by decide) (t := .int) (t' := .int) (by decide) (by decide)))
  refine g_aloadN X2 hx hby d3_10 rfl rfl 11 rfl ?_
  refine g_lconst X2 hx hby d3_11 (0 : Int64) rfl 12 rfl ?_
  refine g_putfield X2 hx hby hZ hown (host := "") (Or.inl (hw _ (List.mem_of_getElem? (i := 20) rfl))) Via.refl e2 F_o_pending_2 E_o_2 (Or.inl (hw _ (List.mem_of_getElem? (i := 21) rfl))) (hw _ (List.mem_of_getElem? (i := 3) rfl)) (ty := .long) (by decide) rfl rfl d3_12 15 rfl ?_
  intro T3 h3 X3 e3 W3
  have N3 := Fr.snoc X3 N2 gn_o
  have K3 := K2.wr W3 (Or.inl (List.mem_of_getElem? (i := 0) rfl))
  have Z3 : n0 ≤ h3.size := Nat.le_trans Z2 (Keep.of_wr W3).1
  have E_o_3 := E_o_2.wr W3
  have F_o_bytes_3 := F_o_bytes_2.other W3 (Or.inr (slot_ne (Or.inl (hw _ (List.mem_of_getElem? (i := 12) rfl))) (Or.inl (hw _ (List.mem_of_getElem? (i := 21) rfl))) (by decide) (t := (.array .byte)) (t' := .long) (by decide) (by decide)))
  have F_o_position_3 := F_o_position_2.other W3 (Or.inr (slot_ne (Or.inl (hw _ (List.mem_of_getElem? (i := 19) rfl))) (Or.inl (hw _ (List.mem_of_getElem? (i := 21) rfl))) (by decide) (t := .int) (t' := .long) (by decide) (by decide)))
  have F_o_pending_3 := F_o_pending_2.same W3
  have F_o_pendingBits_3 := F_o_pendingBits_2.other W3 (Or.inr (slot_ne (Or.inl (hw _ (List.mem_of_getElem? (i := 23) rfl))) (Or.inl (hw _ (List.mem_of_getElem? (i := 21) rfl))) (by decide) (t := .int) (t' := .long) (by decide) (by decide)))
  refine g_aloadN X3 hx hby d3_15 rfl rfl 16 rfl ?_
  refine g_iconst X3 hx hby d3_16 (0 : Int32) rfl 17 rfl ?_
  refine g_putfield X3 hx hby hZ hown (host := "") (Or.inl (hw _ (List.mem_of_getElem? (i := 22) rfl))) Via.refl e3 F_o_pendingBits_3 E_o_3 (Or.inl (hw _ (List.mem_of_getElem? (i := 23) rfl))) (hw _ (List.mem_of_getElem? (i := 3) rfl)) (ty := .int) (by decide) rfl rfl d3_17 20 rfl ?_
  intro T4 h4 X4 e4 W4
  have N4 := Fr.snoc X4 N3 gn_o
  have K4 := K3.wr W4 (Or.inl (List.mem_of_getElem? (i := 0) rfl))
  have Z4 : n0 ≤ h4.size := Nat.le_trans Z3 (Keep.of_wr W4).1
  have E_o_4 := E_o_3.wr W4
  have F_o_bytes_4 := F_o_bytes_3.other W4 (Or.inr (slot_ne (Or.inl (hw _ (List.mem_of_getElem? (i := 12) rfl))) (Or.inl (hw _ (List.mem_of_getElem? (i := 23) rfl))) (by decide) (t := (.array .byte)) (t' := .int) (by decide) (by decide)))
  have F_o_position_4 := F_o_position_3.other W4 (Or.inr (slot_ne (Or.inl (hw _ (List.mem_of_getElem? (i := 19) rfl))) (Or.inl (hw _ (List.mem_of_getElem? (i := 23) rfl))) (by decide) (t := .int) (t' := .int) (by decide) (by decide)))
  have F_o_pending_4 := F_o_pending_3.other W4 (Or.inr (slot_ne (Or.inl (hw _ (List.mem_of_getElem? (i := 21) rfl))) (Or.inl (hw _ (List.mem_of_getElem? (i := 23) rfl))) (by decide) (t := .long) (t' := .int) (by decide) (by decide)))
  have F_o_pendingBits_4 := F_o_pendingBits_3.same W4
  exact g_return X4 hx hby hret hlk d3_20 (by rw [e4]; exact ⟨rfl, N4, K4, E_o_4, F_o_bytes_4, F_o_position_4, F_o_pending_4, F_o_pendingBits_4⟩) (by decide) (by decide)
def shrB (d : Int64) (k : Int32) : Int32 := (((d.toUInt64 >>> (k &&& 0x3f).toInt64.toUInt64).toInt64).toInt32).toInt8.toInt32
def emitB (d : Int64) : Nat → (Nat → Int32) → Nat → Nat → (Nat → Int32)
  | 0, f, _, _ => f
  | q + 1, f, p, t => emitB d q (upd f p (shrB d (Int32.ofNat (t - 8)))) (p + 1) (t - 8)
def pendN (pd vl : Int64) (ln : Int32) : Int64 := (pd <<< (ln &&& 0x3f).toInt64) ||| (vl &&& (((1 : Int64) <<< (ln &&& 0x3f).toInt64) - (1 : Int64)))
theorem own_clamp {i : Int32} {n : Nat} (h : i.toInt = n) : i.toNatClampNeg = n := by
  show i.toInt.toNat = n; omega
theorem own_nat32 {i : Int32} {n : Nat} (h : i.toInt = n) : i = Int32.ofNat n := by
  apply Int32.toInt_inj.mp
  have r := rng32 i
  rw [h]; exact (len_toInt (by omega)).symm
theorem own_turn {pb ps : Int32} {t q p : Nat} (hb : pb.toInt = t) (hp : ps.toInt = p) (ht : t < 100) (hp12 : p + t / 8 ≤ 12) (c : ¬ pb < 8) : ¬ ps < 0 ∧ ps.toNatClampNeg = p ∧ p < 12 ∧ (pb - 8).toInt = (t - 8 : Nat) ∧ (ps + 1).toInt = (p + 1 : Nat) ∧ t / 8 = (t - 8) / 8 + 1 ∧ 8 ≤ t := by
  have a1 := c_isub pb 8
  have a2 := rng32 (pb - 8)
  have a3 := c_iadd ps 1
  have a4 := rng32 (ps + 1)
  have e8 : (8 : Int32).toInt = 8 := rfl
  have e1 : (1 : Int32).toInt = 1 := rfl
  rw [Int32.lt_iff_toInt_lt] at c
  exact ⟨own_nn (by omega), own_clamp hp, by omega, by omega, by omega, by omega, by omega⟩
theorem own_stop {pb : Int32} {t : Nat} (hb : pb.toInt = t) (c : pb < 8) : t / 8 = 0 ∧ t < 8 := by
  have e8 : (8 : Int32).toInt = 8 := rfl
  rw [Int32.lt_iff_toInt_lt] at c; omega

theorem d4_0 : decode prog_2_method_3_code 0 = .ok (.lconst 1, 1) := by decide +kernel
theorem d4_1 : decode prog_2_method_3_code 1 = .ok (.iload_n 3, 1) := by decide +kernel
theorem d4_2 : decode prog_2_method_3_code 2 = .ok (.lshl, 1) := by decide +kernel
theorem d4_3 : decode prog_2_method_3_code 3 = .ok (.lconst 1, 1) := by decide +kernel
theorem d4_4 : decode prog_2_method_3_code 4 = .ok (.lsub, 1) := by decide +kernel
theorem d4_5 : decode prog_2_method_3_code 5 = .ok (.lstore 4, 2) := by decide +kernel
theorem d4_7 : decode prog_2_method_3_code 7 = .ok (.aload_n 0, 1) := by decide +kernel
theorem d4_8 : decode prog_2_method_3_code 8 = .ok (.aload_n 0, 1) := by decide +kernel
theorem d4_9 : decode prog_2_method_3_code 9 = .ok (.getfield 19, 3) := by decide +kernel
theorem d4_12 : decode prog_2_method_3_code 12 = .ok (.iload_n 3, 1) := by decide +kernel
theorem d4_13 : decode prog_2_method_3_code 13 = .ok (.lshl, 1) := by decide +kernel
theorem d4_14 : decode prog_2_method_3_code 14 = .ok (.lload_n 1, 1) := by decide +kernel
theorem d4_15 : decode prog_2_method_3_code 15 = .ok (.lload 4, 2) := by decide +kernel
theorem d4_17 : decode prog_2_method_3_code 17 = .ok (.land, 1) := by decide +kernel
theorem d4_18 : decode prog_2_method_3_code 18 = .ok (.lor, 1) := by decide +kernel
theorem d4_19 : decode prog_2_method_3_code 19 = .ok (.putfield 19, 3) := by decide +kernel
theorem d4_22 : decode prog_2_method_3_code 22 = .ok (.aload_n 0, 1) := by decide +kernel
theorem d4_23 : decode prog_2_method_3_code 23 = .ok (.dup, 1) := by decide +kernel
theorem d4_24 : decode prog_2_method_3_code 24 = .ok (.getfield 23, 3) := by decide +kernel
theorem d4_27 : decode prog_2_method_3_code 27 = .ok (.iload_n 3, 1) := by decide +kernel
theorem d4_28 : decode prog_2_method_3_code 28 = .ok (.iadd, 1) := by decide +kernel
theorem d4_29 : decode prog_2_method_3_code 29 = .ok (.putfield 23, 3) := by decide +kernel
theorem d4_32 : decode prog_2_method_3_code 32 = .ok (.aload_n 0, 1) := by decide +kernel
theorem d4_33 : decode prog_2_method_3_code 33 = .ok (.getfield 23, 3) := by decide +kernel
theorem d4_36 : decode prog_2_method_3_code 36 = .ok (.bipush 8, 2) := by decide +kernel
theorem d4_38 : decode prog_2_method_3_code 38 = .ok (.if_icmp .lt 44, 3) := by decide +kernel
theorem d4_41 : decode prog_2_method_3_code 41 = .ok (.aload_n 0, 1) := by decide +kernel
theorem d4_42 : decode prog_2_method_3_code 42 = .ok (.dup, 1) := by decide +kernel
theorem d4_43 : decode prog_2_method_3_code 43 = .ok (.getfield 23, 3) := by decide +kernel
theorem d4_46 : decode prog_2_method_3_code 46 = .ok (.bipush 8, 2) := by decide +kernel
theorem d4_48 : decode prog_2_method_3_code 48 = .ok (.isub, 1) := by decide +kernel
theorem d4_49 : decode prog_2_method_3_code 49 = .ok (.putfield 23, 3) := by decide +kernel
theorem d4_52 : decode prog_2_method_3_code 52 = .ok (.aload_n 0, 1) := by decide +kernel
theorem d4_53 : decode prog_2_method_3_code 53 = .ok (.getfield 9, 3) := by decide +kernel
theorem d4_56 : decode prog_2_method_3_code 56 = .ok (.aload_n 0, 1) := by decide +kernel
theorem d4_57 : decode prog_2_method_3_code 57 = .ok (.dup, 1) := by decide +kernel
theorem d4_58 : decode prog_2_method_3_code 58 = .ok (.getfield 15, 3) := by decide +kernel
theorem d4_61 : decode prog_2_method_3_code 61 = .ok (.dup_x1, 1) := by decide +kernel
theorem d4_62 : decode prog_2_method_3_code 62 = .ok (.iconst 1, 1) := by decide +kernel
theorem d4_63 : decode prog_2_method_3_code 63 = .ok (.iadd, 1) := by decide +kernel
theorem d4_64 : decode prog_2_method_3_code 64 = .ok (.putfield 15, 3) := by decide +kernel
theorem d4_67 : decode prog_2_method_3_code 67 = .ok (.aload_n 0, 1) := by decide +kernel
theorem d4_68 : decode prog_2_method_3_code 68 = .ok (.getfield 19, 3) := by decide +kernel
theorem d4_71 : decode prog_2_method_3_code 71 = .ok (.aload_n 0, 1) := by decide +kernel
theorem d4_72 : decode prog_2_method_3_code 72 = .ok (.getfield 23, 3) := by decide +kernel
theorem d4_75 : decode prog_2_method_3_code 75 = .ok (.lushr, 1) := by decide +kernel
theorem d4_76 : decode prog_2_method_3_code 76 = .ok (.l2i, 1) := by decide +kernel
theorem d4_77 : decode prog_2_method_3_code 77 = .ok (.i2b, 1) := by decide +kernel
theorem d4_78 : decode prog_2_method_3_code 78 = .ok (.bastore, 1) := by decide +kernel
theorem d4_79 : decode prog_2_method_3_code 79 = .ok (.goto (-47), 3) := by decide +kernel
theorem d4_82 : decode prog_2_method_3_code 82 = .ok (.return_, 1) := by decide +kernel
theorem pn4 : plainFor (⟨"com/example/brevicode/brevicode/BitWriter", "write", "(JI)V"⟩ : MethodName) = true := plainFor_of_name (by first | (simp [plainName, overriddenIn]; done) | decide +kernel)
theorem ef4 (m : MethodId) (o : Addr) (vl : Int64) (ln : Int32) (arr : Addr) (ps : Int32) (pd : Int64) (pb : Int32) (f : Nat → Int32) (pN : Nat) (tN : Nat) : entryFrame m #[(.ref o), (.long vl), (.int ln)] 6 = mkF m 0 #[.val (.ref o), .val (.long vl), .second, .val (.int ln), .unset, .unset] [] := by first | (simp [entryFrame, mkF, argsToLocals, Value.category]; done) | rfl
def Q4 (o : Addr) (vl : Int64) (ln : Int32) (arr : Addr) (ps : Int32) (pd : Int64) (pb : Int32) (f : Nat → Int32) (pN : Nat) (tN : Nat) (Z : State) (h0 : Heap) (n0 : Nat) (v : Option Value) (h : Heap) (L : List Loc) : Prop := ∃ ps' pb' : Int32, v = none ∧ Fr n0 L ∧ Keep h0 h [o, arr] ∧ ps'.toInt = (pN + tN / 8 : Nat) ∧ pb'.toInt = (tN % 8 : Nat) ∧ Exa Z h o "com/example/brevicode/brevicode/BitWriter" ∧ Fld Z h o "com/example/brevicode/brevicode/BitWriter" "bytes" "[B" (.ref arr) ∧ Fld Z h o "com/example/brevicode/brevicode/BitWriter" "position" "I" (.int ps') ∧ Fld Z h o "com/example/brevicode/brevicode/BitWriter" "pending" "J" (.long (pendN pd vl ln)) ∧ Fld Z h o "com/example/brevicode/brevicode/BitWriter" "pendingBits" "I" (.int pb') ∧ AI Z h arr .byte 12 (emitB (pendN pd vl ln) (tN / 8) f pN tN)
set_option maxRecDepth 65536 in
set_option maxHeartbeats 40000000 in
theorem rm4 (l : Launch) (Z : State) (a0 : Array Value) (hw : ∀ d ∈ tables_1, d.before a0 Z = true) (ws : List Jvm.Cond) (o : Addr) (vl : Int64) (ln : Int32) (arr : Addr) (ps : Int32) (pd : Int64) (pb : Int32) (f : Nat → Int32) (pN : Nat) (tN : Nat) (h0 : Heap) (n0 : Nat) (Z0 : n0 ≤ h0.size) (E_o_0 : Exa Z h0 o "com/example/brevicode/brevicode/BitWriter") (F_o_bytes_0 : Fld Z h0 o "com/example/brevicode/brevicode/BitWriter" "bytes" "[B" (.ref arr)) (F_o_position_0 : Fld Z h0 o "com/example/brevicode/brevicode/BitWriter" "position" "I" (.int ps)) (F_o_pending_0 : Fld Z h0 o "com/example/brevicode/brevicode/BitWriter" "pending" "J" (.long pd)) (F_o_pendingBits_0 : Fld Z h0 o "com/example/brevicode/brevicode/BitWriter" "pendingBits" "I" (.int pb)) (A_arr_0 : AI Z h0 arr .byte 12 f) (gn_o : n0 ≤ o) (gn_arr : n0 ≤ arr) (ne_o_arr : o ≠ arr) (hps : ps.toInt = pN) (hpb0 : 0 ≤ pb.toInt) (hln : 0 ≤ ln.toInt) (htN : pb.toInt + ln.toInt = tN) (ht : tN < 100) (hfit : pN + tN / 8 ≤ 12) : Ctr l (⟨"com/example/brevicode/brevicode/BitWriter", "write", "(JI)V"⟩ : MethodName) prog_2_method_3_code 6 none ws ({ frames := 0, cells := 0, slots := 0, locals := 0 } : Room) #[(.ref o), (.long vl), (.int ln)] Z h0 (Q4 o vl ln arr ps pd pb f pN tN Z h0 n0) := by
  refine own_body pn4 ?_
  intro p e s m below meth c T0 hx hby hml hown hnm hret hlk hZ X0 e0
  have N0 := Fr.nil n0
  have K0 : Keep h0 h0 [o, arr] := Keep.refl _ _
  refine Goes.entry (ef4 m o vl ln arr ps pd pb f pN tN) ?_
  refine g_lconst X0 hx hby d4_0 (1 : Int64) rfl 1 rfl ?_
  refine g_iloadN X0 hx hby d4_1 rfl 2 rfl ?_
  refine g_lshl X0 hx hby d4_2 3 rfl ?_
  refine g_lconst X0 hx hby d4_3 (1 : Int64) rfl 4 rfl ?_
  refine g_lsub X0 hx hby d4_4 5 rfl ?_
  refine g_lstore X0 hx hby d4_5 (((1 : Int64) <<< (ln &&& 0x3f).toInt64) - (1 : Int64)) rfl #[.val (.ref o), .val (.long vl), .second, .val (.int ln), .val (.long (((1 : Int64) <<< (ln &&& 0x3f).toInt64) - (1 : Int64))), .second] rfl 7 rfl ?_
  refine g_aloadN X0 hx hby d4_7 rfl rfl 8 rfl ?_
  refine g_aloadN X0 hx hby d4_8 rfl rfl 9 rfl ?_
  refine g_getfield X0 hx hby hZ hown (host := "") (Or.inl (hw _ (List.mem_of_getElem? (i := 20) rfl))) Via.refl e0 F_o_pending_0 d4_9 12 rfl ?_
  intro T1 X1 e1
  refine g_iloadN X1 hx hby d4_12 rfl 13 rfl ?_
  refine g_lshl X1 hx hby d4_13 14 rfl ?_
  refine g_lloadN X1 hx hby d4_14 rfl 15 rfl ?_
  refine g_lload X1 hx hby d4_15 rfl 17 rfl ?_
  refine g_land X1 hx hby d4_17 18 rfl ?_
  refine g_lor X1 hx hby d4_18 19 rfl ?_
  refine g_putfield X1 hx hby hZ hown (host := "") (Or.inl (hw _ (List.mem_of_getElem? (i := 20) rfl))) Via.refl e1 F_o_pending_0 E_o_0 (Or.inl (hw _ (List.mem_of_getElem? (i := 21) rfl))) (hw _ (List.mem_of_getElem? (i := 3) rfl)) (ty := .long) (by decide) rfl rfl d4_19 22 rfl ?_
  intro T2 h2 X2 e2 W2
  have N2 := Fr.snoc X2 N0 gn_o
  have K2 := K0.wr W2 (Or.inl (List.mem_of_getElem? (i := 0) rfl))
  have Z2 : n0 ≤ h2.size := Nat.le_trans Z0 (Keep.of_wr W2).1
  have E_o_2 := E_o_0.wr W2
  have F_o_bytes_2 := F_o_bytes_0.other W2 (Or.inr (slot_ne (Or.inl (hw _ (List.mem_of_getElem? (i := 12) rfl))) (Or.inl (hw _ (List.mem_of_getElem? (i := 21) rfl))) (by decide) (t := (.array .byte)) (t' := .long) (by decide) (by decide)))
  have F_o_position_2 := F_o_position_0.other W2 (Or.inr (slot_ne (Or.inl (hw _ (List.mem_of_getElem? (i := 19) rfl))) (Or.inl (hw _ (List.mem_of_getElem? (i := 21) rfl))) (by decide) (t := .int) (t' := .long) (by decide) (by decide)))
  have F_o_pending_2 := F_o_pending_0.same W2
  have F_o_pendingBits_2 := F_o_pendingBits_0.other W2 (Or.inr (slot_ne (Or.inl (hw _ (List.mem_of_getElem? (i := 23) rfl))) (Or.inl (hw _ (List.mem_of_getElem? (i := 21) rfl))) (by decide) (t := .int) (t' := .long) (by decide) (by decide)))
  have A_arr_2 := ArF.other A_arr_0 W2 (Ne.symm ne_o_arr)
  refine g_aloadN X2 hx hby d4_22 rfl rfl 23 rfl ?_
  refine g_dup X2 hx hby d4_23 rfl 24 rfl ?_
  refine g_getfield X2 hx hby hZ hown (host := "") (Or.inl (hw _ (List.mem_of_getElem? (i := 22) rfl))) Via.refl e2 F_o_pendingBits_2 d4_24 27 rfl ?_
  intro T3 X3 e3
  refine g_iloadN X3 hx hby d4_27 rfl 28 rfl ?_
  refine g_iadd X3 hx hby d4_28 29 rfl ?_
  refine g_putfield X3 hx hby hZ hown (host := "") (Or.inl (hw _ (List.mem_of_getElem? (i := 22) rfl))) Via.refl e3 F_o_pendingBits_2 E_o_2 (Or.inl (hw _ (List.mem_of_getElem? (i := 23) rfl))) (hw _ (List.mem_of_getElem? (i := 3) rfl)) (ty := .int) (by decide) rfl rfl d4_29 32 rfl ?_
  intro T4 h4 X4 e4 W4
  have N4 := Fr.snoc X4 N2 gn_o
  have K4 := K2.wr W4 (Or.inl (List.mem_of_getElem? (i := 0) rfl))
  have Z4 : n0 ≤ h4.size := Nat.le_trans Z2 (Keep.of_wr W4).1
  have E_o_4 := E_o_2.wr W4
  have F_o_bytes_4 := F_o_bytes_2.other W4 (Or.inr (slot_ne (Or.inl (hw _ (List.mem_of_getElem? (i := 12) rfl))) (Or.inl (hw _ (List.mem_of_getElem? (i := 23) rfl))) (by decide) (t := (.array .byte)) (t' := .int) (by decide) (by decide)))
  have F_o_position_4 := F_o_position_2.other W4 (Or.inr (slot_ne (Or.inl (hw _ (List.mem_of_getElem? (i := 19) rfl))) (Or.inl (hw _ (List.mem_of_getElem? (i := 23) rfl))) (by decide) (t := .int) (t' := .int) (by decide) (by decide)))
  have F_o_pending_4 := F_o_pending_2.other W4 (Or.inr (slot_ne (Or.inl (hw _ (List.mem_of_getElem? (i := 21) rfl))) (Or.inl (hw _ (List.mem_of_getElem? (i := 23) rfl))) (by decide) (t := .long) (t' := .int) (by decide) (by decide)))
  have F_o_pendingBits_4 := F_o_pendingBits_2.same W4
  have A_arr_4 := ArF.other A_arr_2 W4 (Ne.symm ne_o_arr)
  have Fp : Fld Z h4 o "com/example/brevicode/brevicode/BitWriter" "pending" "J" (.long (pendN pd vl ln)) := F_o_pending_4
  have hpb1 : (pb + ln).toInt = (tN : Nat) := by have q1 := c_iadd pb ln; have q2 := rng32 (pb + ln); omega
  suffices loop : ∀ (k : Nat) (t : Nat) (q : Nat) (ps' : Int32) (pb' : Int32) (g : Nat → Int32) (T5 : State) (L5 : List Loc) (h5 : Heap), t < k → pb'.toInt = t → ps'.toInt = q → q + t / 8 = pN + tN / 8 → t % 8 = tN % 8 → t ≤ tN → emitB (pendN pd vl ln) (t / 8) g q t = emitB (pendN pd vl ln) (tN / 8) f pN tN → Stand p l e ({ frames := 0, cells := 0, slots := 0, locals := 0 } : Room) s m #[(.ref o), (.long vl), (.int ln)] below meth c T5 L5 (0) (0) → T5.heap = h5 → Fr n0 L5 → n0 ≤ h5.size → Keep h0 h5 [o, arr] → Exa Z h5 o "com/example/brevicode/brevicode/BitWriter" → Fld Z h5 o "com/example/brevicode/brevicode/BitWriter" "bytes" "[B" (.ref arr) → Fld Z h5 o "com/example/brevicode/brevicode/BitWriter" "position" "I" (.int ps') → Fld Z h5 o "com/example/brevicode/brevicode/BitWriter" "pending" "J" (.long (pendN pd vl ln)) → Fld Z h5 o "com/example/brevicode/brevicode/BitWriter" "pendingBits" "I" (.int pb') → AI Z h5 arr .byte 12 g → Goes p e below (Kend s below (Q4 o vl ln arr ps pd pb f pN tN Z h0 n0) ({ frames := 0, cells := 0, slots := 0, locals := 0 } : Room).cells ({ frames := 0, cells := 0, slots := 0, locals := 0 } : Room).slots) (T5.setTop (mkF m 32 #[.val (.ref o), .val (.long vl), .second, .val (.int ln), .val (.long (((1 : Int64) <<< (ln &&& 0x3f).toInt64) - (1 : Int64))), .second] [])) by
    exact loop (tN + 1) tN pN ps (pb + ln) f _ _ _ (Nat.lt_succ_self _) hpb1 hps rfl rfl (Nat.le_refl _) rfl X4 e4 N4 Z4 K4 E_o_4 F_o_bytes_4 F_o_position_4 Fp F_o_pendingBits_4 A_arr_4
  intro k
  induction k with
  | zero => intro t q ps' pb' g T5 L5 h5 hk hb hp hq hm hle hg X5 e5 N5 Z5 K5 E_o_5 F_o_bytes_5 F_o_position_5 Fp_5 F_o_pendingBits_5 A_arr_5; exact absurd hk (Nat.not_lt_zero _)
  | succ k ih =>
    intro t q ps' pb' g T5 L5 h5 hk hb hp hq hm hle hg X5 e5 N5 Z5 K5 E_o_5 F_o_bytes_5 F_o_position_5 Fp_5 F_o_pendingBits_5 A_arr_5
    refine g_aloadN X5 hx hby d4_32 rfl rfl 33 rfl ?_
    refine g_getfield X5 hx hby hZ hown (host := "") (Or.inl (hw _ (List.mem_of_getElem? (i := 22) rfl))) Via.refl e5 F_o_pendingBits_5 d4_33 36 rfl ?_
    intro T6 X6 e6
    refine g_bipush X6 hx hby d4_36 (8 : Int32) rfl 38 rfl ?_
    refine g_icmp_lt X6 hx hby d4_38 82 41 (by decide) (by decide) rfl (fun c7 => ?_) (fun c7 => ?_)
    · -- c7
      exact g_return X6 hx hby hret hlk d4_82 (by obtain ⟨z1, z2⟩ := own_stop hb c7; rw [z1] at hg; rw [e6]; exact ⟨ps', pb', rfl, N5, K5, by omega, by omega, E_o_5, F_o_bytes_5, F_o_position_5, Fp_5, F_o_pendingBits_5, hg ▸ A_arr_5⟩) (by decide) (by decide)
    · -- not c7
      obtain ⟨c1, c2, c3, c4, c5, c6, c7⟩ := own_turn (q := q) hb hp (by omega) (by omega) c7
      refine g_aloadN X6 hx hby d4_41 rfl rfl 42 rfl ?_
      refine g_dup X6 hx hby d4_42 rfl 43 rfl ?_
      refine g_getfield X6 hx hby hZ hown (host := "") (Or.inl (hw _ (List.mem_of_getElem? (i := 22) rfl))) Via.refl e6 F_o_pendingBits_5 d4_43 46 rfl ?_
      intro T8 X8 e8
      refine g_bipush X8 hx hby d4_46 (8 : Int32) rfl 48 rfl ?_
      refine g_isub X8 hx hby d4_48 49 rfl ?_
      refine g_putfield X8 hx hby hZ hown (host := "") (Or.inl (hw _ (List.mem_of_getElem? (i := 22) rfl))) Via.refl e8 F_o_pendingBits_5 E_o_5 (Or.inl (hw _ (List.mem_of_getElem? (i := 23) rfl))) (hw _ (List.mem_of_getElem? (i := 3) rfl)) (ty := .int) (by decide) rfl rfl d4_49 52 rfl ?_
      intro T9 h9 X9 e9 W9
      have N9 := Fr.snoc X9 N5 gn_o
      have K9 := K5.wr W9 (Or.inl (List.mem_of_getElem? (i := 0) rfl))
      have Z9 : n0 ≤ h9.size := Nat.le_trans Z5 (Keep.of_wr W9).1
      have E_o_9 := E_o_5.wr W9
      have F_o_bytes_9 := F_o_bytes_5.other W9 (Or.inr (slot_ne (Or.inl (hw _ (List.mem_of_getElem? (i := 12) rfl))) (Or.inl (hw _ (List.mem_of_getElem? (i := 23) rfl))) (by decide) (t := (.array .byte)) (t' := .int) (by decide) (by decide)))
      have F_o_position_9 := F_o_position_5.other W9 (Or.inr (slot_ne (Or.inl (hw _ (List.mem_of_getElem? (i := 19) rfl))) (Or.inl (hw _ (List.mem_of_getElem? (i := 23) rfl))) (by decide) (t := .int) (t' := .int) (by decide) (by decide)))
      have Fp_9 := Fp_5.other W9 (Or.inr (slot_ne (Or.inl (hw _ (List.mem_of_getElem? (i := 21) rfl))) (Or.inl (hw _ (List.mem_of_getElem? (i := 23) rfl))) (by decide) (t := .long) (t' := .int) (by decide) (by decide)))
      have F_o_pendingBits_9 := F_o_pendingBits_5.same W9
      have A_arr_9 := ArF.other A_arr_5 W9 (Ne.symm ne_o_arr)
      refine g_aloadN X9 hx hby d4_52 rfl rfl 53 rfl ?_
      refine g_getfield X9 hx hby hZ hown (host := "") (Or.inl (hw _ (List.mem_of_getElem? (i := 11) rfl))) Via.refl e9 F_o_bytes_9 d4_53 56 rfl ?_
      intro T10 X10 e10
      refine g_aloadN X10 hx hby d4_56 rfl rfl 57 rfl ?_
      refine g_dup X10 hx hby d4_57 rfl 58 rfl ?_
      refine g_getfield X10 hx hby hZ hown (host := "") (Or.inl (hw _ (List.mem_of_getElem? (i := 18) rfl))) Via.refl e10 F_o_position_9 d4_58 61 rfl ?_
      intro T11 X11 e11
      refine g_dup_x1 X11 hx hby d4_61 rfl rfl 62 rfl ?_
      refine g_iconst X11 hx hby d4_62 (1 : Int32) rfl 63 rfl ?_
      refine g_iadd X11 hx hby d4_63 64 rfl ?_
      refine g_putfield X11 hx hby hZ hown (host := "") (Or.inl (hw _ (List.mem_of_getElem? (i := 18) rfl))) Via.refl e11 F_o_position_9 E_o_9 (Or.inl (hw _ (List.mem_of_getElem? (i := 19) rfl))) (hw _ (List.mem_of_getElem? (i := 3) rfl)) (ty := .int) (by decide) rfl rfl d4_64 67 rfl ?_
      intro T12 h12 X12 e12 W12
      have N12 := Fr.snoc X12 N9 gn_o
      have K12 := K9.wr W12 (Or.inl (List.mem_of_getElem? (i := 0) rfl))
      have Z12 : n0 ≤ h12.size := Nat.le_trans Z9 (Keep.of_wr W12).1
      have E_o_12 := E_o_9.wr W12
      have F_o_bytes_12 := F_o_bytes_9.other W12 (Or.inr (slot_ne (Or.inl (hw _ (List.mem_of_getElem? (i := 12) rfl))) (Or.inl (hw _ (List.mem_of_getElem? (i := 19) rfl))) (by decide) (t := (.array .byte)) (t' := .int) (by decide) (by decide)))
      have F_o_position_12 := F_o_position_9.same W12
      have Fp_12 := Fp_9.other W12 (Or.inr (slot_ne (Or.inl (hw _ (List.mem_of_getElem? (i := 21) rfl))) (Or.inl (hw _ (List.mem_of_getElem? (i := 19) rfl))) (by decide) (t := .long) (t' := .int) (by decide) (by decide)))
      have F_o_pendingBits_12 := F_o_pendingBits_9.other W12 (Or.inr (slot_ne (Or.inl (hw _ (List.mem_of_getElem? (i := 23) rfl))) (Or.inl (hw _ (List.mem_of_getElem? (i := 19) rfl))) (by decide) (t := .int) (t' := .int) (by decide) (by decide)))
      have A_arr_12 := ArF.other A_arr_9 W12 (Ne.symm ne_o_arr)
      refine g_aloadN X12 hx hby d4_67 rfl rfl 68 rfl ?_
      refine g_getfield X12 hx hby hZ hown (host := "") (Or.inl (hw _ (List.mem_of_getElem? (i := 20) rfl))) Via.refl e12 Fp_12 d4_68 71 rfl ?_
      intro T13 X13 e13
      refine g_aloadN X13 hx hby d4_71 rfl rfl 72 rfl ?_
      refine g_getfield X13 hx hby hZ hown (host := "") (Or.inl (hw _ (List.mem_of_getElem? (i := 22) rfl))) Via.refl e13 F_o_pendingBits_12 d4_72 75 rfl ?_
      intro T14 X14 e14
      refine g_lushr X14 hx hby d4_75 76 rfl ?_
      refine g_l2i X14 hx hby d4_76 77 rfl ?_
      refine g_i2b X14 hx hby d4_77 78 rfl ?_
      refine g_bastore X14 hx hby hZ e14 A_arr_12 d4_78 c1 q c2 c3 (shrB (pendN pd vl ln) (Int32.ofNat (t - 8))) (by rw [own_nat32 c4]; exact byte2 _) 79 rfl ?_
      intro T15 h15 X15 e15 W15 V15
      have N15 := Fr.snoc X15 N12 gn_arr
      have K15 := K12.wr W15 (Or.inl (List.mem_of_getElem? (i := 1) rfl))
      have Z15 : n0 ≤ h15.size := Nat.le_trans Z12 (Keep.of_wr W15).1
      have E_o_15 := E_o_12.wr W15
      have F_o_bytes_15 := Fld.other W15 F_o_bytes_12 (Or.inl ne_o_arr)
      have F_o_position_15 := Fld.other W15 F_o_position_12 (Or.inl ne_o_arr)
      have Fp_15 := Fld.other W15 Fp_12 (Or.inl ne_o_arr)
      have F_o_pendingBits_15 := Fld.other W15 F_o_pendingBits_12 (Or.inl ne_o_arr)
      refine g_goto X15 hx hby d4_79 32 (by decide) (by decide) ?_
      exact ih (t - 8) (q + 1) _ _ _ _ _ _ (by omega) c4 c5 (by omega) (by omega) (by omega) (by rw [← hg, c6, emitB]) X15 e15 N15 Z15 K15 E_o_15 F_o_bytes_15 F_o_position_15 Fp_15 F_o_pendingBits_15 V15
theorem own_8 {pb : Int32} (h0 : 0 ≤ pb.toInt) (h8 : pb.toInt < 8) : 0 ≤ ((8 : Int32) - pb).toInt ∧ pb.toInt + ((8 : Int32) - pb).toInt = (8 : Nat) := by
  have a1 := c_isub 8 pb
  have a2 := rng32 (8 - pb)
  have e8 : (8 : Int32).toInt = 8 := rfl
  omega
theorem own_fit {pb : Int32} {pN : Nat} (h : 0 < pb.toInt → pN < 12) (q : 0 < pb) : pN + 8 / 8 ≤ 12 := by
  rw [Int32.lt_iff_toInt_lt] at q
  have := h q
  omega

theorem pd0 : parseMethodDescriptor "(JI)V" = some ⟨[.long, .int], none⟩ := by decide +kernel
theorem d5_0 : decode prog_2_method_7_code 0 = .ok (.aload_n 0, 1) := by decide +kernel
theorem d5_1 : decode prog_2_method_7_code 1 = .ok (.getfield 23, 3) := by decide +kernel
theorem d5_4 : decode prog_2_method_7_code 4 = .ok (.ifCond .le 15, 3) := by decide +kernel
theorem d5_7 : decode prog_2_method_7_code 7 = .ok (.aload_n 0, 1) := by decide +kernel
theorem d5_8 : decode prog_2_method_7_code 8 = .ok (.lconst 0, 1) := by decide +kernel
theorem d5_9 : decode prog_2_method_7_code 9 = .ok (.bipush 8, 2) := by decide +kernel
theorem d5_11 : decode prog_2_method_7_code 11 = .ok (.aload_n 0, 1) := by decide +kernel
theorem d5_12 : decode prog_2_method_7_code 12 = .ok (.getfield 23, 3) := by decide +kernel
theorem d5_15 : decode prog_2_method_7_code 15 = .ok (.isub, 1) := by decide +kernel
theorem d5_16 : decode prog_2_method_7_code 16 = .ok (.invokevirtual 66, 3) := by decide +kernel
theorem d5_19 : decode prog_2_method_7_code 19 = .ok (.aload_n 0, 1) := by decide +kernel
theorem d5_20 : decode prog_2_method_7_code 20 = .ok (.getfield 15, 3) := by decide +kernel
theorem d5_23 : decode prog_2_method_7_code 23 = .ok (.ireturn, 1) := by decide +kernel
theorem pn5 : plainFor (⟨"com/example/brevicode/brevicode/BitWriter", "finish", "()I"⟩ : MethodName) = true := plainFor_of_name (by first | (simp [plainName, overriddenIn]; done) | decide +kernel)
theorem ef5 (m : MethodId) (o : Addr) (arr : Addr) (ps : Int32) (pd : Int64) (pb : Int32) (f : Nat → Int32) (pN : Nat) : entryFrame m #[(.ref o)] 1 = mkF m 0 #[.val (.ref o)] [] := by first | (simp [entryFrame, mkF, argsToLocals, Value.category]; done) | rfl
def Q5 (o : Addr) (arr : Addr) (ps : Int32) (pd : Int64) (pb : Int32) (f : Nat → Int32) (pN : Nat) (Z : State) (h0 : Heap) (n0 : Nat) (v : Option Value) (h : Heap) (L : List Loc) : Prop := ∃ z : Int32, v = some (.int z) ∧ Fr n0 L ∧ Keep h0 h [o, arr] ∧ z.toInt = (if 0 < pb then ((pN + 8 / 8 : Nat) : Int) else pN) ∧ AI Z h arr .byte 12 (if 0 < pb then emitB (pendN pd 0 ((8 : Int32) - pb)) (8 / 8) f pN 8 else f)
set_option maxRecDepth 65536 in
set_option maxHeartbeats 40000000 in
theorem rm5 (l : Launch) (Z : State) (a0 : Array Value) (hw : ∀ d ∈ tables_1, d.before a0 Z = true) (ws : List Jvm.Cond) (o : Addr) (arr : Addr) (ps : Int32) (pd : Int64) (pb : Int32) (f : Nat → Int32) (pN : Nat) (h0 : Heap) (n0 : Nat) (Z0 : n0 ≤ h0.size) (E_o_0 : Exa Z h0 o "com/example/brevicode/brevicode/BitWriter") (F_o_bytes_0 : Fld Z h0 o "com/example/brevicode/brevicode/BitWriter" "bytes" "[B" (.ref arr)) (F_o_position_0 : Fld Z h0 o "com/example/brevicode/brevicode/BitWriter" "position" "I" (.int ps)) (F_o_pending_0 : Fld Z h0 o "com/example/brevicode/brevicode/BitWriter" "pending" "J" (.long pd)) (F_o_pendingBits_0 : Fld Z h0 o "com/example/brevicode/brevicode/BitWriter" "pendingBits" "I" (.int pb)) (A_arr_0 : AI Z h0 arr .byte 12 f) (gn_o : n0 ≤ o) (gn_arr : n0 ≤ arr) (ne_o_arr : o ≠ arr) (hps : ps.toInt = pN) (hpb0 : 0 ≤ pb.toInt) (hpb8 : pb.toInt < 8) (hfit : 0 < pb.toInt → pN < 12) : Ctr l (⟨"com/example/brevicode/brevicode/BitWriter", "finish", "()I"⟩ : MethodName) prog_2_method_7_code 1 (some .int) ws ({ frames := 1, cells := 0, slots := 0, locals := 17 } : Room) #[(.ref o)] Z h0 (Q5 o arr ps pd pb f pN Z h0 n0) := by
  refine own_body pn5 ?_
  intro p e s m below meth c T0 hx hby hml hown hnm hret hlk hZ X0 e0
  have N0 := Fr.nil n0
  have K0 : Keep h0 h0 [o, arr] := Keep.refl _ _
  refine Goes.entry (ef5 m o arr ps pd pb f pN) ?_
  refine g_aloadN X0 hx hby d5_0 rfl rfl 1 rfl ?_
  refine g_getfield X0 hx hby hZ hown (host := "") (Or.inl (hw _ (List.mem_of_getElem? (i := 22) rfl))) Via.refl e0 F_o_pendingBits_0 d5_1 4 rfl ?_
  intro T1 X1 e1
  refine g_if_le X1 hx hby d5_4 19 7 (by decide) (by decide) rfl (fun c2 => ?_) (fun c2 => ?_)
  · -- c2
    refine g_aloadN X1 hx hby d5_7 rfl rfl 8 rfl ?_
    refine g_lconst X1 hx hby d5_8 (0 : Int64) rfl 9 rfl ?_
    refine g_bipush X1 hx hby d5_9 (8 : Int32) rfl 11 rfl ?_
    refine g_aloadN X1 hx hby d5_11 rfl rfl 12 rfl ?_
    refine g_getfield X1 hx hby hZ hown (host := "") (Or.inl (hw _ (List.mem_of_getElem? (i := 22) rfl))) Via.refl e1 F_o_pendingBits_0 d5_12 15 rfl ?_
    intro T3 X3 e3
    refine g_isub X3 hx hby d5_15 16 rfl ?_
    refine g_virtual X3 hx hby hZ hown (hw _ (List.mem_of_getElem? (i := 34) rfl)) (hw _ (List.mem_of_getElem? (i := 25) rfl)) (notFace_of_selects (args := #[]) (mvT hZ (hw _ (List.mem_of_getElem? (i := 27) rfl)))) (hw _ (List.mem_of_getElem? (i := 27) rfl)) (hw _ (List.mem_of_getElem? (i := 26) rfl)) (hw _ (List.mem_of_getElem? (i := 4) rfl)) (hw _ (List.mem_of_getElem? (i := 28) rfl)) d5_16 o E_o_0 [(.long (0 : Int64)), (.int ((8 : Int32) - pb))] [] (rm4 l Z a0 hw [] o (0 : Int64) ((8 : Int32) - pb) arr ps pd pb f pN 8 h0 n0 Z0 E_o_0 F_o_bytes_0 F_o_position_0 F_o_pending_0 F_o_pendingBits_0 A_arr_0 gn_o gn_arr ne_o_arr hps hpb0 (own_8 hpb0 hpb8).1 (own_8 hpb0 hpb8).2 (by decide) (own_fit hfit c2)) e3 rfl (by rw [hml]; rfl) pd0 rfl (by decide) 0 (Nat.le_of_eq rfl) (by decide) (by decide) (by decide) (by decide) 19 rfl ?_
    intro T4 v4 L4 X4 Q4
    obtain ⟨ps4, pb4, rfl, N4', K4', hps4, hpb4, P4x1, P4x2, P4x3, P4x4, P4x5, P4x6⟩ := Q4
    have N4 := Fr.app N0 N4'
    have Z4 : n0 ≤ T4.heap.size := Nat.le_trans Z0 K4'.1
    have K4 := K0.trans K4' (allS (Or.inl (List.mem_of_getElem? (i := 0) rfl)) (allS (Or.inl (List.mem_of_getElem? (i := 1) rfl)) all0))
    show Goes p e below _ (T4.setTop (mkF m 19 _ []))
    refine g_aloadN X4 hx hby d5_19 rfl rfl 20 rfl ?_
    refine g_getfield X4 hx hby hZ hown (host := "") (Or.inl (hw _ (List.mem_of_getElem? (i := 18) rfl))) Via.refl rfl P4x3 d5_20 23 rfl ?_
    intro T5 X5 e5
    exact g_ireturn X5 hx hby hret hlk (Or.inl rfl) rfl d5_23 (by rw [e5]; exact ⟨_, rfl, N4, K4, by rw [if_pos c2]; exact hps4, by rw [if_pos c2]; exact P4x6⟩) (by decide) (by decide)
  · -- not c2
    refine g_aloadN X1 hx hby d5_19 rfl rfl 20 rfl ?_
    refine g_getfield X1 hx hby hZ hown (host := "") (Or.inl (hw _ (List.mem_of_getElem? (i := 18) rfl))) Via.refl e1 F_o_position_0 d5_20 23 rfl ?_
    intro T6 X6 e6
    exact g_ireturn X6 hx hby hret hlk (Or.inl rfl) rfl d5_23 (by rw [e6]; exact ⟨_, rfl, N0, K0, by rw [if_neg c2]; exact hps, by rw [if_neg c2]; exact A_arr_0⟩) (by decide) (by decide)
def atF (sr : Int64) (ss : Int32) (ii : Int32) (f : Nat → Int32) : Int32 := if (ii - ss) < 0 then (if (f ii.toNatClampNeg) = (0 : Int32) then ((1 : Int32)) else ((0 : Int32))) else (if (ii - ss) < (8 : Int32) then (if (f ii.toNatClampNeg) = ((((sr.toUInt64 >>> (((56 : Int32) - ((8 : Int32) * (ii - ss))) &&& 0x3f).toInt64.toUInt64).toInt64).toInt32).toInt8.toInt32) then ((1 : Int32)) else ((0 : Int32))) else (if (f ii.toNatClampNeg) = (0 : Int32) then ((1 : Int32)) else ((0 : Int32))))
theorem d6_0 : decode method_3_code 0 = .ok (.iload 4, 2) := by decide +kernel
theorem d6_2 : decode method_3_code 2 = .ok (.iload_n 3, 1) := by decide +kernel
theorem d6_3 : decode method_3_code 3 = .ok (.isub, 1) := by decide +kernel
theorem d6_4 : decode method_3_code 4 = .ok (.istore 5, 2) := by decide +kernel
theorem d6_6 : decode method_3_code 6 = .ok (.iload 5, 2) := by decide +kernel
theorem d6_8 : decode method_3_code 8 = .ok (.ifCond .lt 10, 3) := by decide +kernel
theorem d6_11 : decode method_3_code 11 = .ok (.iload 5, 2) := by decide +kernel
theorem d6_13 : decode method_3_code 13 = .ok (.bipush 8, 2) := by decide +kernel
theorem d6_15 : decode method_3_code 15 = .ok (.if_icmp .lt 7, 3) := by decide +kernel
theorem d6_18 : decode method_3_code 18 = .ok (.iconst 0, 1) := by decide +kernel
theorem d6_19 : decode method_3_code 19 = .ok (.goto 15, 3) := by decide +kernel
theorem d6_22 : decode method_3_code 22 = .ok (.lload_n 1, 1) := by decide +kernel
theorem d6_23 : decode method_3_code 23 = .ok (.bipush 56, 2) := by decide +kernel
theorem d6_25 : decode method_3_code 25 = .ok (.bipush 8, 2) := by decide +kernel
theorem d6_27 : decode method_3_code 27 = .ok (.iload 5, 2) := by decide +kernel
theorem d6_29 : decode method_3_code 29 = .ok (.imul, 1) := by decide +kernel
theorem d6_30 : decode method_3_code 30 = .ok (.isub, 1) := by decide +kernel
theorem d6_31 : decode method_3_code 31 = .ok (.lushr, 1) := by decide +kernel
theorem d6_32 : decode method_3_code 32 = .ok (.l2i, 1) := by decide +kernel
theorem d6_33 : decode method_3_code 33 = .ok (.i2b, 1) := by decide +kernel
theorem d6_34 : decode method_3_code 34 = .ok (.istore 6, 2) := by decide +kernel
theorem d6_36 : decode method_3_code 36 = .ok (.aload_n 0, 1) := by decide +kernel
theorem d6_37 : decode method_3_code 37 = .ok (.iload 4, 2) := by decide +kernel
theorem d6_39 : decode method_3_code 39 = .ok (.baload, 1) := by decide +kernel
theorem d6_40 : decode method_3_code 40 = .ok (.iload 6, 2) := by decide +kernel
theorem d6_42 : decode method_3_code 42 = .ok (.if_icmp .ne 7, 3) := by decide +kernel
theorem d6_45 : decode method_3_code 45 = .ok (.iconst 1, 1) := by decide +kernel
theorem d6_46 : decode method_3_code 46 = .ok (.goto 4, 3) := by decide +kernel
theorem d6_49 : decode method_3_code 49 = .ok (.iconst 0, 1) := by decide +kernel
theorem d6_50 : decode method_3_code 50 = .ok (.ireturn, 1) := by decide +kernel
theorem pn6 : plainFor (⟨"com/example/brevicode/brevicode/BitWriterWritePinLaw", "at", "([BJII)Z"⟩ : MethodName) = true := plainFor_of_name (by first | (simp [plainName, overriddenIn]; done) | decide +kernel)
theorem ef6 (m : MethodId) (arr : Addr) (sr : Int64) (ss : Int32) (ii : Int32) (f : Nat → Int32) : entryFrame m #[(.ref arr), (.long sr), (.int ss), (.int ii)] 7 = mkF m 0 #[.val (.ref arr), .val (.long sr), .second, .val (.int ss), .val (.int ii), .unset, .unset] [] := by first | (simp [entryFrame, mkF, argsToLocals, Value.category]; done) | rfl
def Q6 (arr : Addr) (sr : Int64) (ss : Int32) (ii : Int32) (f : Nat → Int32) (Z : State) (h0 : Heap) (n0 : Nat) (v : Option Value) (h : Heap) (L : List Loc) : Prop := v = some (.int (atF sr ss ii f)) ∧ Fr n0 L ∧ h = h0
set_option maxRecDepth 65536 in
set_option maxHeartbeats 40000000 in
theorem rm6 (l : Launch) (Z : State) (a0 : Array Value) (hw : ∀ d ∈ tables_1, d.before a0 Z = true) (ws : List Jvm.Cond) (arr : Addr) (sr : Int64) (ss : Int32) (ii : Int32) (f : Nat → Int32) (h0 : Heap) (n0 : Nat) (Z0 : n0 ≤ h0.size) (A_arr_0 : AI Z h0 arr .byte 12 f) (hk0 : ¬ ii < 0) (hk1 : ii.toNatClampNeg < 12) : Ctr l (⟨"com/example/brevicode/brevicode/BitWriterWritePinLaw", "at", "([BJII)Z"⟩ : MethodName) method_3_code 7 (some .boolean) ws ({ frames := 0, cells := 0, slots := 0, locals := 0 } : Room) #[(.ref arr), (.long sr), (.int ss), (.int ii)] Z h0 (Q6 arr sr ss ii f Z h0 n0) := by
  refine own_body pn6 ?_
  intro p e s m below meth c T0 hx hby hml hown hnm hret hlk hZ X0 e0
  have N0 := Fr.nil n0
  refine Goes.entry (ef6 m arr sr ss ii f) ?_
  refine g_iload X0 hx hby d6_0 rfl 2 rfl ?_
  refine g_iloadN X0 hx hby d6_2 rfl 3 rfl ?_
  refine g_isub X0 hx hby d6_3 4 rfl ?_
  refine g_istore X0 hx hby d6_4 (ii - ss) rfl #[.val (.ref arr), .val (.long sr), .second, .val (.int ss), .val (.int ii), .val (.int (ii - ss)), .unset] rfl 6 rfl ?_
  refine g_iload X0 hx hby d6_6 rfl 8 rfl ?_
  refine g_if_lt X0 hx hby d6_8 18 11 (by decide) (by decide) rfl (fun c1 => ?_) (fun c1 => ?_)
  · -- c1
    refine g_iconst X0 hx hby d6_18 (0 : Int32) rfl 19 rfl ?_
    refine g_goto X0 hx hby d6_19 34 (by decide) (by decide) ?_
    refine g_istore X0 hx hby d6_34 (0 : Int32) rfl #[.val (.ref arr), .val (.long sr), .second, .val (.int ss), .val (.int ii), .val (.int (ii - ss)), .val (.int (0 : Int32))] rfl 36 rfl ?_
    refine g_aloadN X0 hx hby d6_36 rfl rfl 37 rfl ?_
    refine g_iload X0 hx hby d6_37 rfl 39 rfl ?_
    refine g_baload X0 hx hby hZ e0 A_arr_0 d6_39 hk0 ii.toNatClampNeg rfl hk1 (f ii.toNatClampNeg) rfl 40 rfl ?_
    refine g_iload X0 hx hby d6_40 rfl 42 rfl ?_
    refine g_icmp_ne X0 hx hby d6_42 49 45 (by decide) (by decide) rfl (fun c2 => ?_) (fun c2 => ?_)
    · -- c2
      refine g_iconst X0 hx hby d6_45 (1 : Int32) rfl 46 rfl ?_
      refine g_goto X0 hx hby d6_46 50 (by decide) (by decide) ?_
      exact g_ireturn X0 hx hby hret hlk (Or.inr (Or.inl rfl)) (nar_bool (Or.inr rfl)) d6_50 (by exact ⟨congrArg (fun z => some (Value.int z)) ((if_pos c1).trans (if_pos c2)).symm, N0, e0⟩) (by decide) (by decide)
    · -- not c2
      refine g_iconst X0 hx hby d6_49 (0 : Int32) rfl 50 rfl ?_
      exact g_ireturn X0 hx hby hret hlk (Or.inr (Or.inl rfl)) (nar_bool (Or.inl rfl)) d6_50 (by exact ⟨congrArg (fun z => some (Value.int z)) ((if_pos c1).trans (if_neg c2)).symm, N0, e0⟩) (by decide) (by decide)
  · -- not c1
    refine g_iload X0 hx hby d6_11 rfl 13 rfl ?_
    refine g_bipush X0 hx hby d6_13 (8 : Int32) rfl 15 rfl ?_
    refine g_icmp_lt X0 hx hby d6_15 22 18 (by decide) (by decide) rfl (fun c3 => ?_) (fun c3 => ?_)
    · -- c3
      refine g_lloadN X0 hx hby d6_22 rfl 23 rfl ?_
      refine g_bipush X0 hx hby d6_23 (56 : Int32) rfl 25 rfl ?_
      refine g_bipush X0 hx hby d6_25 (8 : Int32) rfl 27 rfl ?_
      refine g_iload X0 hx hby d6_27 rfl 29 rfl ?_
      refine g_imul X0 hx hby d6_29 30 rfl ?_
      refine g_isub X0 hx hby d6_30 31 rfl ?_
      refine g_lushr X0 hx hby d6_31 32 rfl ?_
      refine g_l2i X0 hx hby d6_32 33 rfl ?_
      refine g_i2b X0 hx hby d6_33 34 rfl ?_
      refine g_istore X0 hx hby d6_34 ((((sr.toUInt64 >>> (((56 : Int32) - ((8 : Int32) * (ii - ss))) &&& 0x3f).toInt64.toUInt64).toInt64).toInt32).toInt8.toInt32) rfl #[.val (.ref arr), .val (.long sr), .second, .val (.int ss), .val (.int ii), .val (.int (ii - ss)), .val (.int ((((sr.toUInt64 >>> (((56 : Int32) - ((8 : Int32) * (ii - ss))) &&& 0x3f).toInt64.toUInt64).toInt64).toInt32).toInt8.toInt32))] rfl 36 rfl ?_
      refine g_aloadN X0 hx hby d6_36 rfl rfl 37 rfl ?_
      refine g_iload X0 hx hby d6_37 rfl 39 rfl ?_
      refine g_baload X0 hx hby hZ e0 A_arr_0 d6_39 hk0 ii.toNatClampNeg rfl hk1 (f ii.toNatClampNeg) rfl 40 rfl ?_
      refine g_iload X0 hx hby d6_40 rfl 42 rfl ?_
      refine g_icmp_ne X0 hx hby d6_42 49 45 (by decide) (by decide) rfl (fun c4 => ?_) (fun c4 => ?_)
      · -- c4
        refine g_iconst X0 hx hby d6_45 (1 : Int32) rfl 46 rfl ?_
        refine g_goto X0 hx hby d6_46 50 (by decide) (by decide) ?_
        exact g_ireturn X0 hx hby hret hlk (Or.inr (Or.inl rfl)) (nar_bool (Or.inr rfl)) d6_50 (by exact ⟨congrArg (fun z => some (Value.int z)) ((if_neg c1).trans ((if_pos c3).trans (if_pos c4))).symm, N0, e0⟩) (by decide) (by decide)
      · -- not c4
        refine g_iconst X0 hx hby d6_49 (0 : Int32) rfl 50 rfl ?_
        exact g_ireturn X0 hx hby hret hlk (Or.inr (Or.inl rfl)) (nar_bool (Or.inl rfl)) d6_50 (by exact ⟨congrArg (fun z => some (Value.int z)) ((if_neg c1).trans ((if_pos c3).trans (if_neg c4))).symm, N0, e0⟩) (by decide) (by decide)
    · -- not c3
      refine g_iconst X0 hx hby d6_18 (0 : Int32) rfl 19 rfl ?_
      refine g_goto X0 hx hby d6_19 34 (by decide) (by decide) ?_
      refine g_istore X0 hx hby d6_34 (0 : Int32) rfl #[.val (.ref arr), .val (.long sr), .second, .val (.int ss), .val (.int ii), .val (.int (ii - ss)), .val (.int (0 : Int32))] rfl 36 rfl ?_
      refine g_aloadN X0 hx hby d6_36 rfl rfl 37 rfl ?_
      refine g_iload X0 hx hby d6_37 rfl 39 rfl ?_
      refine g_baload X0 hx hby hZ e0 A_arr_0 d6_39 hk0 ii.toNatClampNeg rfl hk1 (f ii.toNatClampNeg) rfl 40 rfl ?_
      refine g_iload X0 hx hby d6_40 rfl 42 rfl ?_
      refine g_icmp_ne X0 hx hby d6_42 49 45 (by decide) (by decide) rfl (fun c5 => ?_) (fun c5 => ?_)
      · -- c5
        refine g_iconst X0 hx hby d6_45 (1 : Int32) rfl 46 rfl ?_
        refine g_goto X0 hx hby d6_46 50 (by decide) (by decide) ?_
        exact g_ireturn X0 hx hby hret hlk (Or.inr (Or.inl rfl)) (nar_bool (Or.inr rfl)) d6_50 (by exact ⟨congrArg (fun z => some (Value.int z)) ((if_neg c1).trans ((if_neg c3).trans (if_pos c5))).symm, N0, e0⟩) (by decide) (by decide)
      · -- not c5
        refine g_iconst X0 hx hby d6_49 (0 : Int32) rfl 50 rfl ?_
        exact g_ireturn X0 hx hby hret hlk (Or.inr (Or.inl rfl)) (nar_bool (Or.inl rfl)) d6_50 (by exact ⟨congrArg (fun z => some (Value.int z)) ((if_neg c1).trans ((if_neg c3).trans (if_neg c5))).symm, N0, e0⟩) (by decide) (by decide)
def U (d : Int64) : Nat := d.toBitVec.toNat
theorem U_int (d : Int64) : (U d : Int) = d.toInt % 18446744073709551616 := by
  have h : d.toInt = d.toBitVec.toInt := rfl
  rw [h]
  have q := BitVec.toInt_eq_toNat_bmod d.toBitVec
  rw [q]
  have : (U d) < 18446744073709551616 := d.toBitVec.isLt
  show (U d : Int) = Int.bmod (U d) (2 ^ 64) % 18446744073709551616
  rw [show ((18446744073709551616 : Int)) = ((2 ^ 64 : Nat) : Int) by decide, Int.bmod_emod]
  omega
theorem sb_eq {x y : Int64} (h : U x % 256 = U y % 256) : x.toInt32.toInt8.toInt32 = y.toInt32.toInt8.toInt32 := by
  have a1 := U_int x
  have a2 := U_int y
  have b1 := c_i2b x.toInt32
  have b2 := c_i2b y.toInt32
  have c1 := c_l2i x
  have c2 := c_l2i y
  apply Int32.toInt_inj.mp
  omega
theorem k64 {k : Int32} {n : Nat} (h : k.toInt = n) (hn : n < 64) : k.toBitVec.toNat % 64 = n := by
  have q : k.toInt = k.toBitVec.toInt := rfl
  rw [q, BitVec.toInt_eq_toNat_cond] at h
  have := k.toBitVec.isLt
  split at h <;> omega
theorem U_shr (z : Int64) (k : Int32) (n : Nat) (hk : k.toBitVec.toNat % 64 = n) : U ((z.toUInt64 >>> (k &&& 0x3f).toInt64.toUInt64).toInt64) = U z / 2 ^ n := by
  obtain ⟨h1, h2⟩ := sm64 k n hk
  show (z.toBitVec >>> ((k &&& 0x3f).toInt64.toBitVec % 64#64)).toNat = _
  rw [h1]
  have : (BitVec.ofNat 64 n % 64#64) = BitVec.ofNat 64 n := by
    apply BitVec.eq_of_toNat_eq; simp; omega
  rw [this, BitVec.ushiftRight_eq', BitVec.toNat_ushiftRight, Nat.shiftRight_eq_div_pow]
  show U z / _ = _
  congr 2; simp; omega
theorem U_shl (z : Int64) (k : Int32) (n : Nat) (hk : k.toBitVec.toNat % 64 = n) : U (z <<< (k &&& 0x3f).toInt64) = U z * 2 ^ n % 2 ^ 64 := by
  obtain ⟨h1, h2⟩ := sm64 k n hk
  show (z.toBitVec <<< ((k &&& 0x3f).toInt64.toBitVec.smod 64)).toNat = _
  rw [h1, BitVec.shiftLeft_eq', BitVec.toNat_shiftLeft, smod64 n h2, Nat.shiftLeft_eq]; rfl
theorem U_or (a b : Int64) : U (a ||| b) = U a ||| U b := by show (a.toBitVec ||| b.toBitVec).toNat = _; rw [BitVec.toNat_or]; rfl
theorem U_and (a b : Int64) : U (a &&& b) = U a &&& U b := by show (a.toBitVec &&& b.toBitVec).toNat = _; rw [BitVec.toNat_and]; rfl
theorem U_mask (ln : Int32) (L : Nat) (hL : ln.toInt = L) (h32 : L ≤ 32) : U (((1 : Int64) <<< (ln &&& 0x3f).toInt64) - (1 : Int64)) = 2 ^ L - 1 := by
  have q := U_shl 1 ln L (k64 hL (by omega))
  have e1 : U 1 = 1 := rfl
  have p : 2 ^ L ≤ 2 ^ 32 := Nat.pow_le_pow_right (by decide) h32
  have p0 : 0 < 2 ^ L := Nat.two_pow_pos L
  rw [e1, Nat.one_mul, Nat.mod_eq_of_lt (by omega)] at q
  show (((1 : Int64) <<< (ln &&& 0x3f).toInt64).toBitVec - 1#64).toNat = _
  rw [BitVec.toNat_sub]
  have : ((1 : Int64) <<< (ln &&& 0x3f).toInt64).toBitVec.toNat = 2 ^ L := q
  rw [this]
  have e : (1#64).toNat = 1 := rfl
  rw [e]; omega
theorem U_low (vl : Int64) (ln : Int32) (L : Nat) (hL : ln.toInt = L) (h32 : L ≤ 32) : U (vl &&& (((1 : Int64) <<< (ln &&& 0x3f).toInt64) - (1 : Int64))) = U vl % 2 ^ L := by
  rw [U_and, U_mask ln L hL h32, Nat.and_two_pow_sub_one_eq_mod]
theorem U_pend (pd vl : Int64) (ln : Int32) (L : Nat) (hL : ln.toInt = L) (h32 : L ≤ 32) (hp : U pd < 2 ^ 32) : U (pendN pd vl ln) = U pd * 2 ^ L + U vl % 2 ^ L := by
  have p : 2 ^ L ≤ 2 ^ 32 := Nat.pow_le_pow_right (by decide) h32
  have b : U pd * 2 ^ L < 2 ^ 64 := by
    calc U pd * 2 ^ L ≤ U pd * 2 ^ 32 := Nat.mul_le_mul_left _ p
      _ < 2 ^ 32 * 2 ^ 32 := Nat.mul_lt_mul_of_pos_right hp (by decide)
      _ = 2 ^ 64 := by decide
  unfold pendN
  rw [U_or, U_low vl ln L hL h32, U_shl pd ln L (k64 hL (by omega)), Nat.mod_eq_of_lt b, Nat.mul_comm, Nat.two_pow_add_eq_or_of_lt (Nat.mod_lt _ (Nat.two_pow_pos L))]
theorem U_pend0 (pd : Int64) (ln : Int32) (L : Nat) (hL : ln.toInt = L) (h8 : L ≤ 8) : U (pendN pd 0 ln) % 256 = U pd * 2 ^ L % 256 := by
  unfold pendN
  rw [U_or, U_low 0 ln L hL (by omega), U_shl pd ln L (k64 hL (by omega))]
  have : U 0 = 0 := rfl
  rw [this, Nat.zero_mod, Nat.or_zero]; omega
theorem sh_at (d : Int64) (k : Nat) (hk : k < 64) : ∃ x : Int64, shrB d (Int32.ofNat k) = x.toInt32.toInt8.toInt32 ∧ U x = U d / 2 ^ k := by
  refine ⟨_, rfl, U_shr d _ k ?_⟩
  have : (Int32.ofNat k).toBitVec.toNat = k := by
    show (BitVec.ofNat 32 k).toNat = k; simp; omega
  rw [this]; omega
theorem emit_at (d : Int64) : ∀ (q : Nat) (f : Nat → Int32) (p t i : Nat), 8 * q ≤ t → emitB d q f p t i = if p ≤ i ∧ i < p + q then shrB d (Int32.ofNat (t - 8 * (i - p + 1))) else f i
  | 0, f, p, t, i, h => by
    have : ¬ (p ≤ i ∧ i < p + 0) := by omega
    rw [emitB, if_neg this]
  | q + 1, f, p, t, i, h => by
    rw [emitB, emit_at d q _ (p + 1) (t - 8) i (by omega)]
    by_cases c : p + 1 ≤ i ∧ i < p + 1 + q
    · rw [if_pos c, if_pos (by omega)]
      congr 2; omega
    · rw [if_neg c]
      by_cases c2 : i = p
      · subst c2; rw [upd_hit, if_pos (by omega)]; congr 2; omega
      · rw [upd_miss _ _ c2, if_neg (by omega)]

theorem pow_split (a x y : Nat) : a * 2 ^ x / 2 ^ (x + y) = a / 2 ^ y := by
  rw [Nat.pow_add, Nat.mul_comm a, Nat.mul_div_mul_left _ _ (Nat.two_pow_pos x)]
theorem pow_keep (a x y : Nat) : a * 2 ^ (x + y) / 2 ^ y = a * 2 ^ x := by
  rw [Nat.pow_add, ← Nat.mul_assoc, Nat.mul_div_cancel _ (Nat.two_pow_pos y)]
theorem own_str {P L : Nat} {str d2 : Int64} {k : Nat} (hP : U d2 < 2 ^ (P + L)) (hW : P + L ≤ 64) (hs : U str = U d2 * 2 ^ (64 - (P + L))) (hk : k < 8) : U str / 2 ^ (56 - 8 * k) = if 8 * k + 8 ≤ P + L then U d2 / 2 ^ (P + L - 8 * k - 8) else U d2 * 2 ^ (8 * k + 8 - (P + L)) := by
  rw [hs]
  by_cases c : 8 * k + 8 ≤ P + L
  · rw [if_pos c, show 56 - 8 * k = (64 - (P + L)) + (P + L - 8 * k - 8) by omega, pow_split]
  · rw [if_neg c, show 64 - (P + L) = (8 * k + 8 - (P + L)) + (56 - 8 * k) by omega, pow_keep]
def FIN (d1 d2 : Int64) (pb2 : Int32) (S P L : Nat) : Nat → Int32 :=
  if 0 < pb2 then emitB (pendN d2 0 ((8 : Int32) - pb2)) (8 / 8) (emitB d2 ((P % 8 + L) / 8) (emitB d1 (P / 8) (fun _ => (0 : Int32)) S P) (S + P / 8) (P % 8 + L)) (S + P / 8 + (P % 8 + L) / 8) 8
  else emitB d2 ((P % 8 + L) / 8) (emitB d1 (P / 8) (fun _ => (0 : Int32)) S P) (S + P / 8) (P % 8 + L)
theorem fin_out {d1 d2 : Int64} {pb2 : Int32} {S P L i : Nat} (h2 : pb2.toInt = ((P % 8 + L) % 8 : Nat)) (hi : i < S ∨ S + (P + L + 7) / 8 ≤ i) : FIN d1 d2 pb2 S P L i = 0 := by
  have z0 : (0 : Int32).toInt = 0 := rfl
  unfold FIN
  split <;> rename_i q <;> rw [Int32.lt_iff_toInt_lt] at q
  · rw [emit_at _ _ _ _ _ _ (by omega), if_neg (by omega), emit_at _ _ _ _ _ _ (by omega), if_neg (by omega), emit_at _ _ _ _ _ _ (by omega), if_neg (by omega)]
  · rw [emit_at _ _ _ _ _ _ (by omega), if_neg (by omega), emit_at _ _ _ _ _ _ (by omega), if_neg (by omega)]
theorem fin_in {d1 d2 : Int64} {pb2 : Int32} {S P L k : Nat} (h2 : pb2.toInt = ((P % 8 + L) % 8 : Nat)) (hP : P ≤ 32) (hL : L ≤ 32) (hk : k < (P + L + 7) / 8) (e2 : U d2 / 2 ^ L = U d1) : ∃ y : Int64, FIN d1 d2 pb2 S P L (S + k) = y.toInt32.toInt8.toInt32 ∧ U y % 256 = (if 8 * k + 8 ≤ P + L then U d2 / 2 ^ (P + L - 8 * k - 8) else U d2 * 2 ^ (8 * k + 8 - (P + L))) % 256 := by
  have z0 : (0 : Int32).toInt = 0 := rfl
  have e8 : (8 : Int32).toInt = 8 := rfl
  have core : 8 * k + 8 ≤ P + L → ∃ y : Int64, emitB d2 ((P % 8 + L) / 8) (emitB d1 (P / 8) (fun _ => (0 : Int32)) S P) (S + P / 8) (P % 8 + L) (S + k) = y.toInt32.toInt8.toInt32 ∧ U y = U d2 / 2 ^ (P + L - 8 * k - 8) := fun c => by
    rw [emit_at _ _ _ _ _ _ (by omega)]
    by_cases c1 : k < P / 8
    · rw [if_neg (by omega), emit_at _ _ _ _ _ _ (by omega), if_pos (by omega)]
      obtain ⟨y, y1, y2⟩ := sh_at d1 (P - 8 * (S + k - S + 1)) (by omega)
      refine ⟨y, y1, ?_⟩
      rw [y2, ← e2, Nat.div_div_eq_div_mul, ← Nat.pow_add]
      congr 2; omega
    · rw [if_pos (by omega)]
      obtain ⟨y, y1, y2⟩ := sh_at d2 (P % 8 + L - 8 * (S + k - (S + P / 8) + 1)) (by omega)
      refine ⟨y, y1, ?_⟩
      rw [y2]; congr 2; omega
  by_cases c : 8 * k + 8 ≤ P + L
  · rw [if_pos c]
    obtain ⟨y, y1, y2⟩ := core c
    refine ⟨y, ?_, by rw [y2]⟩
    unfold FIN
    split
    · rw [emit_at _ _ _ _ _ _ (by omega), if_neg (by omega), y1]
    · exact y1
  · rw [if_neg c]
    have q : 0 < pb2 := by rw [Int32.lt_iff_toInt_lt]; omega
    obtain ⟨y, y1, y2⟩ := sh_at (pendN d2 0 ((8 : Int32) - pb2)) (8 - 8 * (S + k - (S + P / 8 + (P % 8 + L) / 8) + 1)) (by omega)
    refine ⟨y, ?_, ?_⟩
    · unfold FIN
      rw [if_pos q, emit_at _ _ _ _ _ _ (by omega), if_pos (by omega), y1]
    · have a1 := c_isub 8 pb2
      have a2 := rng32 (8 - pb2)
      rw [y2, show 8 - 8 * (S + k - (S + P / 8 + (P % 8 + L) / 8) + 1) = 0 by omega, Nat.pow_zero, Nat.div_one, U_pend0 d2 _ (8 - (P % 8 + L) % 8) (by omega) (by omega)]
      congr 3; omega
theorem own_atF {d1 d2 str : Int64} {ss pb2 I : Int32} {S P L i : Nat} (hS : ss.toInt = S) (hS3 : S ≤ 3) (hI : I.toInt = i) (hi : i < 12) (hP : P ≤ 32) (hL : L ≤ 32) (h2 : pb2.toInt = ((P % 8 + L) % 8 : Nat)) (e2 : U d2 / 2 ^ L = U d1) (hb : U d2 < 2 ^ (P + L)) (hs : U str = U d2 * 2 ^ (64 - (P + L))) : ¬ atF str ss I (FIN d1 d2 pb2 S P L) = 0 := by
  have a1 := c_isub I ss
  have a2 := rng32 (I - ss)
  have eD : (I - ss).toInt = (i : Int) - S := by omega
  have z0 : (0 : Int32).toInt = 0 := rfl
  have e8 : (8 : Int32).toInt = 8 := rfl
  have L0 : (I - ss < 0) ↔ i < S := by rw [Int32.lt_iff_toInt_lt]; omega
  have L1 : (I - ss < 8) ↔ i < S + 8 := by rw [Int32.lt_iff_toInt_lt]; omega
  have one : atF str ss I (FIN d1 d2 pb2 S P L) = 1 := by
    unfold atF
    simp only [L0, L1]
    rw [own_clamp hI]
    by_cases c1 : i < S
    · simp [c1, fin_out h2 (Or.inl c1)]
    · by_cases c2 : i < S + 8
      · obtain ⟨k, rfl⟩ : ∃ k, i = S + k := ⟨i - S, by omega⟩
        have hk : k < 8 := by omega
        have b1 := c_imul 8 (I - ss)
        have b2 := rng32 (8 * (I - ss))
        have b3 := c_isub 56 ((8 : Int32) * (I - ss))
        have b4 := rng32 (56 - (8 : Int32) * (I - ss))
        have e56 : (56 : Int32).toInt = 56 := rfl
        rw [e8, eD] at b1
        have sh : (56 - (8 : Int32) * (I - ss)).toInt = (56 - 8 * k : Nat) := by omega
        have ux := U_shr str (56 - (8 : Int32) * (I - ss)) (56 - 8 * k) (k64 sh (by omega))
        rw [own_str hb (by omega) hs hk] at ux
        rw [if_neg c1, if_pos c2]
        by_cases c3 : k < (P + L + 7) / 8
        · obtain ⟨y, y1, y2⟩ := fin_in (S := S) h2 hP hL c3 e2
          rw [y1, if_pos (sb_eq (by rw [y2, ux]))]
        · rw [fin_out h2 (Or.inr (by omega))]
          have : U ((str.toUInt64 >>> ((56 - (8 : Int32) * (I - ss)) &&& 0x3f).toInt64.toUInt64).toInt64) % 256 = U 0 % 256 := by
            rw [ux, if_neg (by omega), show 8 * k + 8 - (P + L) = (8 * k - (P + L)) + 8 by omega, Nat.pow_add, ← Nat.mul_assoc]
            show _ * 256 % 256 = 0
            exact Nat.mul_mod_left _ _
          rw [sb_eq this]; rfl
      · rw [if_neg c1, if_neg c2, fin_out h2 (Or.inr (by omega))]; rfl
  rw [one]; decide
theorem own_33 (x y : Int32) (h : (x &&& (2147483647 : Int32)) % (33 : Int32) = y) : ∃ P : Nat, y.toInt = P ∧ P ≤ 32 := by
  have q := own_rem x 33 33 rfl (by decide)
  rw [h] at q
  exact ⟨y.toInt.toNat, by omega, by omega⟩
theorem own_s3 (x y : Int32) (h : x &&& (3 : Int32) = y) : ∃ S : Nat, y.toInt = S ∧ S ≤ 3 := by
  have q := c_mask x 3 2 (by decide) (by decide)
  have e : ((2 ^ 2 : Nat) : Int) = 4 := by decide
  rw [e, h] at q
  exact ⟨y.toInt.toNat, by omega, by omega⟩
theorem own_d1 {a : Int64} {p : Int32} {P : Nat} (hp : p.toInt = P) (h : P ≤ 32) : U (pendN 0 a p) = U a % 2 ^ P := by
  rw [U_pend 0 a p P hp h (by decide)]
  have : U 0 = 0 := rfl
  rw [this]; omega
theorem own_d2 {a b : Int64} {p q : Int32} {P L : Nat} (hp : p.toInt = P) (h : P ≤ 32) (hq : q.toInt = L) (hL : L ≤ 32) : U (pendN (pendN 0 a p) b q) = (U a % 2 ^ P) * 2 ^ L + U b % 2 ^ L := by
  have m : U a % 2 ^ P < 2 ^ P := Nat.mod_lt _ (Nat.two_pow_pos P)
  have p2 : 2 ^ P ≤ 2 ^ 32 := Nat.pow_le_pow_right (by decide) h
  rw [U_pend _ b q L hq hL (by rw [own_d1 hp h]; omega), own_d1 hp h]
theorem own_top {y : Int64} {k : Int32} {n z : Nat} (hk : k.toInt = n) (hn : n < 64) (hy : U y < 2 ^ z) (hz : z + n ≤ 64) : U (y <<< (k &&& 0x3f).toInt64) = U y * 2 ^ n := by
  rw [U_shl y k n (k64 hk hn), Nat.mod_eq_of_lt]
  calc U y * 2 ^ n < 2 ^ z * 2 ^ n := Nat.mul_lt_mul_of_pos_right hy (Nat.two_pow_pos n)
    _ = 2 ^ (z + n) := (Nat.pow_add 2 z n).symm
    _ ≤ 2 ^ 64 := Nat.pow_le_pow_right (by decide) hz
theorem own_stream {a b hi lo str : Int64} {p q : Int32} {P L : Nat} (hp : p.toInt = P) (h : P ≤ 32) (hq : q.toInt = L) (hL : L ≤ 32)
    (hhi : hi = if p = 0 then (0 : Int64) else (a &&& (((1 : Int64) <<< (p &&& 0x3f).toInt64) - (1 : Int64))) <<< (((64 : Int32) - p) &&& 0x3f).toInt64)
    (hlo : lo = if q = 0 then (0 : Int64) else (b &&& (((1 : Int64) <<< (q &&& 0x3f).toInt64) - (1 : Int64))) <<< ((((64 : Int32) - p) - q) &&& 0x3f).toInt64) (hs : hi ||| lo = str) :
    U str = U (pendN (pendN 0 a p) b q) * 2 ^ (64 - (P + L)) := by
  have z0 : (0 : Int32).toInt = 0 := rfl
  have e64 : (64 : Int32).toInt = 64 := rfl
  have a1 := c_isub 64 p
  have a2 := rng32 (64 - p)
  have a3 := c_isub (64 - p) q
  have a4 := rng32 (64 - p - q)
  have u0 : U 0 = 0 := rfl
  have uh : U hi = (U a % 2 ^ P) * 2 ^ (64 - P) := by
    by_cases c : p = 0
    · have : P = 0 := by rw [c, z0] at hp; omega
      subst this
      rw [hhi, if_pos c, u0]; simp [Nat.mod_one]
    · have : p.toInt ≠ (0 : Int32).toInt := fun y => c (Int32.toInt_inj.mp y)
      rw [hhi, if_neg c, own_top (n := 64 - P) (z := P) (by omega) (by omega) (by rw [U_low a p P hp h]; exact Nat.mod_lt _ (Nat.two_pow_pos P)) (by omega), U_low a p P hp h]
  have ul : U lo = (U b % 2 ^ L) * 2 ^ (64 - (P + L)) := by
    by_cases c : q = 0
    · have : L = 0 := by rw [c, z0] at hq; omega
      subst this
      rw [hlo, if_pos c, u0]; simp [Nat.mod_one]
    · have : q.toInt ≠ (0 : Int32).toInt := fun y => c (Int32.toInt_inj.mp y)
      rw [hlo, if_neg c, own_top (n := 64 - (P + L)) (z := L) (by omega) (by omega) (by rw [U_low b q L hq hL]; exact Nat.mod_lt _ (Nat.two_pow_pos L)) (by omega), U_low b q L hq hL]
  have lt : U lo < 2 ^ (64 - P) := by
    rw [ul]
    calc (U b % 2 ^ L) * 2 ^ (64 - (P + L)) < 2 ^ L * 2 ^ (64 - (P + L)) := Nat.mul_lt_mul_of_pos_right (Nat.mod_lt _ (Nat.two_pow_pos L)) (Nat.two_pow_pos _)
      _ = 2 ^ (64 - P) := by rw [← Nat.pow_add]; congr 1; omega
  rw [← hs, U_or, uh, Nat.mul_comm, ← Nat.two_pow_add_eq_or_of_lt lt, ul, own_d2 hp h hq hL, Nat.add_mul, Nat.mul_assoc, ← Nat.pow_add, Nat.mul_comm (2 ^ (64 - P))]
  congr 3; omega
theorem own_end {ze ss p q pb2 : Int32} {S P L : Nat} (hS : ss.toInt = S) (hS3 : S ≤ 3) (hp : p.toInt = P) (h : P ≤ 32) (hq : q.toInt = L) (hL : L ≤ 32) (h2 : pb2.toInt = ((P % 8 + L) % 8 : Nat)) (hze : ze.toInt = (if 0 < pb2 then ((S + P / 8 + (P % 8 + L) / 8 + 8 / 8 : Nat) : Int) else (S + P / 8 + (P % 8 + L) / 8 : Nat))) : ze = ss + ((((p + q) + (7 : Int32)).toUInt32 >>> ((3 : Int32) &&& 31).toUInt32).toInt32) := by
  have z0 : (0 : Int32).toInt = 0 := rfl
  have e7 : (7 : Int32).toInt = 7 := rfl
  have a1 := c_iadd p q
  have r1 := rng32 (p + q)
  have a2 := c_iadd (p + q) 7
  have r2 := rng32 (p + q + 7)
  have a3 := c_iushr ((p + q) + (7 : Int32)) 3 3 (by decide) (by decide)
  have e : ((2 ^ 3 : Nat) : Int) = 8 := by decide
  rw [e] at a3
  have a4 := c_iadd ss ((((p + q) + (7 : Int32)).toUInt32 >>> ((3 : Int32) &&& 31).toUInt32).toInt32)
  have r4 := rng32 (ss + ((((p + q) + (7 : Int32)).toUInt32 >>> ((3 : Int32) &&& 31).toUInt32).toInt32))
  apply Int32.toInt_inj.mp
  split at hze <;> rename_i c <;> rw [Int32.lt_iff_toInt_lt] at c <;> omega

theorem pd1 : parseMethodDescriptor "()V" = some ⟨[], none⟩ := by decide +kernel
theorem pd2 : parseMethodDescriptor "([BI)V" = some ⟨[(.array .byte), .int], none⟩ := by decide +kernel
theorem pd3 : parseMethodDescriptor "()I" = some ⟨[], some .int⟩ := by decide +kernel
theorem pd4 : parseMethodDescriptor "([BJII)Z" = some ⟨[(.array .byte), .long, .int, .int], some .boolean⟩ := by decide +kernel
theorem pn0 : plainFor (⟨"com/example/brevicode/brevicode/BitWriterWritePinLaw", "law", "(JIJII)Z"⟩ : MethodName) = true := plainFor_of_name (by first | (simp [plainName, overriddenIn]; done) | decide +kernel)
theorem ef0 (m : MethodId) (aa : Int64) (p0 : Int32) (vv : Int64) (l0 : Int32) (s0 : Int32) : entryFrame m #[(.long aa), (.int p0), (.long vv), (.int l0), (.int s0)] maxLocals = mkF m 0 #[.val (.long aa), .second, .val (.int p0), .val (.long vv), .second, .val (.int l0), .val (.int s0), .unset, .unset, .unset, .unset, .unset, .unset, .unset, .unset, .unset, .unset, .unset, .unset, .unset] [] := by first | (simp [entryFrame, mkF, argsToLocals, Value.category, maxLocals]; done) | rfl
def Q0 (aa : Int64) (p0 : Int32) (vv : Int64) (l0 : Int32) (s0 : Int32) (Z : State) (h0 : Heap) (n0 : Nat) (v : Option Value) (h : Heap) (L : List Loc) : Prop := v = some (.int 1) ∧ Fr n0 L
set_option maxRecDepth 65536 in
set_option maxHeartbeats 40000000 in
theorem rm0 (l : Launch) (Z : State) (a0 : Array Value) (hw : ∀ d ∈ tables_1, d.before a0 Z = true) (ws : List Jvm.Cond) (aa : Int64) (p0 : Int32) (vv : Int64) (l0 : Int32) (s0 : Int32) (h0 : Heap) (n0 : Nat) (Z0 : n0 ≤ h0.size) : Ctr l x code maxLocals ret ws room_1 #[(.long aa), (.int p0), (.long vv), (.int l0), (.int s0)] Z h0 (Q0 aa p0 vv l0 s0 Z h0 n0) := by
  refine own_body pn0 ?_
  intro p e s m below meth c T0 hx hby hml hown hnm hret hlk hZ X0 e0
  have N0 := Fr.nil n0
  refine Goes.entry (ef0 m aa p0 vv l0 s0) ?_
  refine g_iloadN X0 hx hby at_0 rfl 1 rfl ?_
  refine g_ldc X0 hx hby hZ hown (hw _ (List.mem_of_getElem? (i := 0) rfl)) at_1 3 rfl ?_
  refine g_iand X0 hx hby at_3 4 rfl ?_
  refine g_bipush X0 hx hby at_4 (33 : Int32) rfl 6 rfl ?_
  refine g_irem X0 hx hby at_6 (by decide) 7 rfl ?_
  obtain ⟨pp, hpp⟩ : ∃ z : Int32, ((p0 &&& (2147483647 : Int32)) % (33 : Int32)) = z := ⟨_, rfl⟩
  refine g_istore X0 hx hby at_7 pp hpp #[.val (.long aa), .second, .val (.int p0), .val (.long vv), .second, .val (.int l0), .val (.int s0), .val (.int pp), .unset, .unset, .unset, .unset, .unset, .unset, .unset, .unset, .unset, .unset, .unset, .unset] rfl 9 rfl ?_
  refine g_iload X0 hx hby at_9 rfl 11 rfl ?_
  refine g_ldc X0 hx hby hZ hown (hw _ (List.mem_of_getElem? (i := 0) rfl)) at_11 13 rfl ?_
  refine g_iand X0 hx hby at_13 14 rfl ?_
  refine g_bipush X0 hx hby at_14 (33 : Int32) rfl 16 rfl ?_
  refine g_irem X0 hx hby at_16 (by decide) 17 rfl ?_
  obtain ⟨ll, hll⟩ : ∃ z : Int32, ((l0 &&& (2147483647 : Int32)) % (33 : Int32)) = z := ⟨_, rfl⟩
  refine g_istore X0 hx hby at_17 ll hll #[.val (.long aa), .second, .val (.int p0), .val (.long vv), .second, .val (.int l0), .val (.int s0), .val (.int pp), .val (.int ll), .unset, .unset, .unset, .unset, .unset, .unset, .unset, .unset, .unset, .unset, .unset] rfl 19 rfl ?_
  refine g_iload X0 hx hby at_19 rfl 21 rfl ?_
  refine g_iconst X0 hx hby at_21 (3 : Int32) rfl 22 rfl ?_
  refine g_iand X0 hx hby at_22 23 rfl ?_
  obtain ⟨ss, hss⟩ : ∃ z : Int32, (s0 &&& (3 : Int32)) = z := ⟨_, rfl⟩
  refine g_istore X0 hx hby at_23 ss hss #[.val (.long aa), .second, .val (.int p0), .val (.long vv), .second, .val (.int l0), .val (.int s0), .val (.int pp), .val (.int ll), .val (.int ss), .unset, .unset, .unset, .unset, .unset, .unset, .unset, .unset, .unset, .unset] rfl 25 rfl ?_
  obtain ⟨P, hP, hP32⟩ := own_33 _ _ hpp
  obtain ⟨L, hL, hL32⟩ := own_33 _ _ hll
  obtain ⟨S, hS, hS3⟩ := own_s3 _ _ hss
  refine g_bipush X0 hx hby at_25 (12 : Int32) rfl 27 rfl ?_
  refine g_newarray X0 hx hby hZ (hw _ (List.mem_of_getElem? (i := 1) rfl)) e0 at_27 (by decide) 12 rfl 12 (by decide) (by decide) (by decide) (by decide) 29 rfl ?_
  intro T1 h1 b1 g1 X1 e1 E1 A1
  have gn_b1 : n0 ≤ b1 := Nat.le_trans Z0 (Nat.le_of_eq g1.symm)
  have Z1 : n0 ≤ h1.size := Nat.le_trans Z0 E1.1
  have Vb1 : AI Z h1 b1 .byte 12 (fun _ => (0 : Int32)) := A1
  refine g_astore X1 hx hby at_29 rfl #[.val (.long aa), .second, .val (.int p0), .val (.long vv), .second, .val (.int l0), .val (.int s0), .val (.int pp), .val (.int ll), .val (.int ss), .val (.ref b1), .unset, .unset, .unset, .unset, .unset, .unset, .unset, .unset, .unset] rfl 31 rfl ?_
  refine g_new X1 hx hby hZ hown (hw _ (List.mem_of_getElem? (i := 2) rfl)) (hw _ (List.mem_of_getElem? (i := 3) rfl)) (hw _ (List.mem_of_getElem? (i := 4) rfl)) e1 at_31 (by decide) (by decide) 34 rfl ?_
  intro T2 h2 b2 g2 X2 e2 E2 A2 D2
  have gn_b2 : n0 ≤ b2 := Nat.le_trans Z1 (Nat.le_of_eq g2.symm)
  have Z2 : n0 ≤ h2.size := Nat.le_trans Z1 E2.1
  have ne_b1_b2 : b1 ≠ b2 := Nat.ne_of_lt (Nat.lt_of_lt_of_le (Vb1.lt) (Nat.le_of_eq g2.symm))
  have Vb1_2 := ArF.ext Vb1 E2
  have Fb2_bytes_0 : Fld Z h2 b2 "com/example/brevicode/brevicode/BitWriter" "bytes" "[B" .null := D2 (Or.inl (hw _ (List.mem_of_getElem? (i := 12) rfl))) (ty := (.array .byte)) (by decide)
  have Fb2_position_0 : Fld Z h2 b2 "com/example/brevicode/brevicode/BitWriter" "position" "I" (.int (0 : Int32)) := D2 (Or.inl (hw _ (List.mem_of_getElem? (i := 19) rfl))) (ty := .int) (by decide)
  have Fb2_pending_0 : Fld Z h2 b2 "com/example/brevicode/brevicode/BitWriter" "pending" "J" (.long (0 : Int64)) := D2 (Or.inl (hw _ (List.mem_of_getElem? (i := 21) rfl))) (ty := .long) (by decide)
  have Fb2_pendingBits_0 : Fld Z h2 b2 "com/example/brevicode/brevicode/BitWriter" "pendingBits" "I" (.int (0 : Int32)) := D2 (Or.inl (hw _ (List.mem_of_getElem? (i := 23) rfl))) (ty := .int) (by decide)
  refine g_dup X2 hx hby at_34 rfl 35 rfl ?_
  refine g_special X2 hx hby hZ hown rfl (hw _ (List.mem_of_getElem? (i := 5) rfl)) (hw _ (List.mem_of_getElem? (i := 6) rfl)) (hw _ (List.mem_of_getElem? (i := 4) rfl)) (hw _ (List.mem_of_getElem? (i := 7) rfl)) at_35 b2 [] [(.ref b2)] (rm1 l Z a0 hw [] b2 h2 n0 Z2 A2 Fb2_bytes_0 Fb2_position_0 Fb2_pending_0 Fb2_pendingBits_0 gn_b2) e2 rfl (by rw [hml]; rfl) pd1 rfl (by decide) 1 (Nat.le_of_eq rfl) (by decide) (by decide) (by decide) (by decide) 38 rfl ?_
  intro T3 v3 L3 X3 Q3
  obtain ⟨r3_0, rfl, N3', K3', ⟨gn_r3_0, sq_r3_0⟩, P3x0, P3x1, P3x2, P3x3, P3x4, P3x5⟩ := Q3
  have N3 := Fr.app N0 N3'
  have Z3 : n0 ≤ T3.heap.size := Nat.le_trans Z2 K3'.1
  have ne_b1_r3_0 : b1 ≠ r3_0 := Nat.ne_of_lt (Nat.lt_of_lt_of_le Vb1_2.lt sq_r3_0)
  have ne_b2_r3_0 : b2 ≠ r3_0 := Nat.ne_of_lt (Nat.lt_of_lt_of_le A2.lt sq_r3_0)
  have Vb1_3 := ArF.keep Vb1_2 K3' (ninS ne_b1_b2 nin0)
  have A2_3 := A2.keep K3'
  show Goes p e below _ (T3.setTop (mkF m 38 _ [(.ref b2)]))
  refine g_astore X3 hx hby at_38 rfl #[.val (.long aa), .second, .val (.int p0), .val (.long vv), .second, .val (.int l0), .val (.int s0), .val (.int pp), .val (.int ll), .val (.int ss), .val (.ref b1), .val (.ref b2), .unset, .unset, .unset, .unset, .unset, .unset, .unset, .unset] rfl 40 rfl ?_
  refine g_aload X3 hx hby at_40 rfl rfl 42 rfl ?_
  refine g_aload X3 hx hby at_42 rfl rfl 44 rfl ?_
  refine g_iload X3 hx hby at_44 rfl 46 rfl ?_
  refine g_virtual X3 hx hby hZ hown (hw _ (List.mem_of_getElem? (i := 13) rfl)) (hw _ (List.mem_of_getElem? (i := 14) rfl)) (notFace_of_selects (args := #[]) (mvT hZ (hw _ (List.mem_of_getElem? (i := 16) rfl)))) (hw _ (List.mem_of_getElem? (i := 16) rfl)) (hw _ (List.mem_of_getElem? (i := 15) rfl)) (hw _ (List.mem_of_getElem? (i := 4) rfl)) (hw _ (List.mem_of_getElem? (i := 17) rfl)) at_46 b2 P3x0 [(.ref b1), (.int ss)] [] (rm3 l Z a0 hw [] b2 b1 ss r3_0 (0 : Int32) (0 : Int64) (0 : Int32) T3.heap n0 Z3 P3x0 P3x1 P3x2 P3x3 P3x4 gn_b2) rfl rfl (by rw [hml]; rfl) pd2 rfl (by decide) 0 (Nat.le_of_eq rfl) (by decide) (by decide) (by decide) (by decide) 49 rfl ?_
  intro T4 v4 L4 X4 Q4
  obtain ⟨rfl, N4', K4', P4x0, P4x1, P4x2, P4x3, P4x4⟩ := Q4
  have N4 := Fr.app N3 N4'
  have Z4 : n0 ≤ T4.heap.size := Nat.le_trans Z3 K4'.1
  have Vb1_4 := ArF.keep Vb1_3 K4' (ninS ne_b1_b2 nin0)
  have P3x0_4 := P3x0.keep K4'
  have P3x5_4 := ArF.keep P3x5 K4' (ninS (Ne.symm ne_b2_r3_0) nin0)
  show Goes p e below _ (T4.setTop (mkF m 49 _ []))
  refine g_aload X4 hx hby at_49 rfl rfl 51 rfl ?_
  refine g_lloadN X4 hx hby at_51 rfl 52 rfl ?_
  refine g_iload X4 hx hby at_52 rfl 54 rfl ?_
  refine g_virtual X4 hx hby hZ hown (hw _ (List.mem_of_getElem? (i := 24) rfl)) (hw _ (List.mem_of_getElem? (i := 25) rfl)) (notFace_of_selects (args := #[]) (mvT hZ (hw _ (List.mem_of_getElem? (i := 27) rfl)))) (hw _ (List.mem_of_getElem? (i := 27) rfl)) (hw _ (List.mem_of_getElem? (i := 26) rfl)) (hw _ (List.mem_of_getElem? (i := 4) rfl)) (hw _ (List.mem_of_getElem? (i := 28) rfl)) at_54 b2 P4x0 [(.long aa), (.int pp)] [] (rm4 l Z a0 hw [] b2 aa pp b1 ss (0 : Int64) (0 : Int32) (fun _ => (0 : Int32)) S P T4.heap n0 Z4 P4x0 P4x1 P4x2 P4x3 P4x4 Vb1_4 gn_b2 gn_b1 (Ne.symm ne_b1_b2) hS (by decide) (by omega) (by rw [hP]; show (0 : Int) + _ = _; omega) (by omega) (by omega)) rfl rfl (by rw [hml]; rfl) pd0 rfl (by decide) 0 (Nat.le_of_eq rfl) (by decide) (by decide) (by decide) (by decide) 57 rfl ?_
  intro T5 v5 L5 X5 Q5
  obtain ⟨ps5, pb5, rfl, N5', K5', hps5, hpb5, P5x1, P5x2, P5x3, P5x4, P5x5, P5x6⟩ := Q5
  have N5 := Fr.app N4 N5'
  have Z5 : n0 ≤ T5.heap.size := Nat.le_trans Z4 K5'.1
  show Goes p e below _ (T5.setTop (mkF m 57 _ []))
  refine g_aload X5 hx hby at_57 rfl rfl 59 rfl ?_
  refine g_lloadN X5 hx hby at_59 rfl 60 rfl ?_
  refine g_iload X5 hx hby at_60 rfl 62 rfl ?_
  refine g_virtual X5 hx hby hZ hown (hw _ (List.mem_of_getElem? (i := 24) rfl)) (hw _ (List.mem_of_getElem? (i := 25) rfl)) (notFace_of_selects (args := #[]) (mvT hZ (hw _ (List.mem_of_getElem? (i := 27) rfl)))) (hw _ (List.mem_of_getElem? (i := 27) rfl)) (hw _ (List.mem_of_getElem? (i := 26) rfl)) (hw _ (List.mem_of_getElem? (i := 4) rfl)) (hw _ (List.mem_of_getElem? (i := 28) rfl)) at_62 b2 P5x1 [(.long vv), (.int ll)] [] (rm4 l Z a0 hw [] b2 vv ll b1 ps5 (pendN (0 : Int64) aa pp) pb5 (emitB (pendN (0 : Int64) aa pp) (P / 8) (fun _ => (0 : Int32)) S P) (S + P / 8) (P % 8 + L) T5.heap n0 Z5 P5x1 P5x2 P5x3 P5x4 P5x5 P5x6 gn_b2 gn_b1 (Ne.symm ne_b1_b2) hps5 (by rw [hpb5]; omega) (by omega) (by rw [hpb5, hL]; omega) (by omega) (by omega)) rfl rfl (by rw [hml]; rfl) pd0 rfl (by decide) 0 (Nat.le_of_eq rfl) (by decide) (by decide) (by decide) (by decide) 65 rfl ?_
  intro T6 v6 L6 X6 Q6
  obtain ⟨ps6, pb6, rfl, N6', K6', hps6, hpb6, P6x1, P6x2, P6x3, P6x4, P6x5, P6x6⟩ := Q6
  have N6 := Fr.app N5 N6'
  have Z6 : n0 ≤ T6.heap.size := Nat.le_trans Z5 K6'.1
  show Goes p e below _ (T6.setTop (mkF m 65 _ []))
  refine g_aload X6 hx hby at_65 rfl rfl 67 rfl ?_
  have hpb2 := hpb6
  refine g_virtual X6 hx hby hZ hown (hw _ (List.mem_of_getElem? (i := 29) rfl)) (hw _ (List.mem_of_getElem? (i := 30) rfl)) (notFace_of_selects (args := #[]) (mvT hZ (hw _ (List.mem_of_getElem? (i := 32) rfl)))) (hw _ (List.mem_of_getElem? (i := 32) rfl)) (hw _ (List.mem_of_getElem? (i := 31) rfl)) (hw _ (List.mem_of_getElem? (i := 4) rfl)) (hw _ (List.mem_of_getElem? (i := 33) rfl)) at_67 b2 P6x1 [] [] (rm5 l Z a0 hw [] b2 b1 ps6 (pendN (pendN (0 : Int64) aa pp) vv ll) pb6 (emitB (pendN (pendN (0 : Int64) aa pp) vv ll) ((P % 8 + L) / 8) (emitB (pendN (0 : Int64) aa pp) (P / 8) (fun _ => (0 : Int32)) S P) (S + P / 8) (P % 8 + L)) (S + P / 8 + (P % 8 + L) / 8) T6.heap n0 Z6 P6x1 P6x2 P6x3 P6x4 P6x5 P6x6 gn_b2 gn_b1 (Ne.symm ne_b1_b2) hps6 (by rw [hpb6]; omega) (by rw [hpb6]; omega) (fun z => by rw [hpb6] at z; omega)) rfl rfl (by rw [hml]; rfl) pd3 rfl (by decide) 0 (Nat.le_of_eq rfl) (by decide) (by decide) (by decide) (by decide) 70 rfl ?_
  intro T7 v7 L7 X7 Q7
  obtain ⟨ze, rfl, N7', K7', hze, P7⟩ := Q7
  have N7 := Fr.app N6 N7'
  have Z7 : n0 ≤ T7.heap.size := Nat.le_trans Z6 K7'.1
  show Goes p e below _ (T7.setTop (mkF m 70 _ [(.int ze)]))
  refine g_istore X7 hx hby at_70 ze rfl #[.val (.long aa), .second, .val (.int p0), .val (.long vv), .second, .val (.int l0), .val (.int s0), .val (.int pp), .val (.int ll), .val (.int ss), .val (.ref b1), .val (.ref b2), .val (.int ze), .unset, .unset, .unset, .unset, .unset, .unset, .unset] rfl 72 rfl ?_
  refine g_iload X7 hx hby at_72 rfl 74 rfl ?_
  suffices J8 : ∀ hi : Int64, hi = (if pp = 0 then (0 : Int64) else ((aa &&& (((1 : Int64) <<< (pp &&& 0x3f).toInt64) - (1 : Int64))) <<< (((64 : Int32) - pp) &&& 0x3f).toInt64)) → Goes p e below (Kend s below (Q0 aa p0 vv l0 s0 Z h0 n0) room_1.cells room_1.slots) (T7.setTop (mkF m 95 #[.val (.long aa), .second, .val (.int p0), .val (.long vv), .second, .val (.int l0), .val (.int s0), .val (.int pp), .val (.int ll), .val (.int ss), .val (.ref b1), .val (.ref b2), .val (.int ze), .unset, .unset, .unset, .unset, .unset, .unset, .unset] [(.long hi)])) by
    refine g_if_ne X7 hx hby at_74 81 77 (by decide) (by decide) rfl (fun c9 => ?_) (fun c9 => ?_)
    · -- c9
      refine g_lconst X7 hx hby at_77 (0 : Int64) rfl 78 rfl ?_
      refine g_goto X7 hx hby at_78 95 (by decide) (by decide) ?_
      exact J8 _ (if_pos c9).symm
    · -- not c9
      refine g_lloadN X7 hx hby at_81 rfl 82 rfl ?_
      refine g_lconst X7 hx hby at_82 (1 : Int64) rfl 83 rfl ?_
      refine g_iload X7 hx hby at_83 rfl 85 rfl ?_
      refine g_lshl X7 hx hby at_85 86 rfl ?_
      refine g_lconst X7 hx hby at_86 (1 : Int64) rfl 87 rfl ?_
      refine g_lsub X7 hx hby at_87 88 rfl ?_
      refine g_land X7 hx hby at_88 89 rfl ?_
      refine g_bipush X7 hx hby at_89 (64 : Int32) rfl 91 rfl ?_
      refine g_iload X7 hx hby at_91 rfl 93 rfl ?_
      refine g_isub X7 hx hby at_93 94 rfl ?_
      refine g_lshl X7 hx hby at_94 95 rfl ?_
      exact J8 _ (if_neg c9).symm
  intro hi hhi
  refine g_lstore X7 hx hby at_95 hi rfl #[.val (.long aa), .second, .val (.int p0), .val (.long vv), .second, .val (.int l0), .val (.int s0), .val (.int pp), .val (.int ll), .val (.int ss), .val (.ref b1), .val (.ref b2), .val (.int ze), .val (.long hi), .second, .unset, .unset, .unset, .unset, .unset] rfl 97 rfl ?_
  refine g_iload X7 hx hby at_97 rfl 99 rfl ?_
  suffices J10 : ∀ lo : Int64, lo = (if ll = 0 then (0 : Int64) else ((vv &&& (((1 : Int64) <<< (ll &&& 0x3f).toInt64) - (1 : Int64))) <<< ((((64 : Int32) - pp) - ll) &&& 0x3f).toInt64)) → Goes p e below (Kend s below (Q0 aa p0 vv l0 s0 Z h0 n0) room_1.cells room_1.slots) (T7.setTop (mkF m 123 #[.val (.long aa), .second, .val (.int p0), .val (.long vv), .second, .val (.int l0), .val (.int s0), .val (.int pp), .val (.int ll), .val (.int ss), .val (.ref b1), .val (.ref b2), .val (.int ze), .val (.long hi), .second, .unset, .unset, .unset, .unset, .unset] [(.long lo)])) by
    refine g_if_ne X7 hx hby at_99 106 102 (by decide) (by decide) rfl (fun c11 => ?_) (fun c11 => ?_)
    · -- c11
      refine g_lconst X7 hx hby at_102 (0 : Int64) rfl 103 rfl ?_
      refine g_goto X7 hx hby at_103 123 (by decide) (by decide) ?_
      exact J10 _ (if_pos c11).symm
    · -- not c11
      refine g_lloadN X7 hx hby at_106 rfl 107 rfl ?_
      refine g_lconst X7 hx hby at_107 (1 : Int64) rfl 108 rfl ?_
      refine g_iload X7 hx hby at_108 rfl 110 rfl ?_
      refine g_lshl X7 hx hby at_110 111 rfl ?_
      refine g_lconst X7 hx hby at_111 (1 : Int64) rfl 112 rfl ?_
      refine g_lsub X7 hx hby at_112 113 rfl ?_
      refine g_land X7 hx hby at_113 114 rfl ?_
      refine g_bipush X7 hx hby at_114 (64 : Int32) rfl 116 rfl ?_
      refine g_iload X7 hx hby at_116 rfl 118 rfl ?_
      refine g_isub X7 hx hby at_118 119 rfl ?_
      refine g_iload X7 hx hby at_119 rfl 121 rfl ?_
      refine g_isub X7 hx hby at_121 122 rfl ?_
      refine g_lshl X7 hx hby at_122 123 rfl ?_
      exact J10 _ (if_neg c11).symm
  intro lo hlo
  refine g_lstore X7 hx hby at_123 lo rfl #[.val (.long aa), .second, .val (.int p0), .val (.long vv), .second, .val (.int l0), .val (.int s0), .val (.int pp), .val (.int ll), .val (.int ss), .val (.ref b1), .val (.ref b2), .val (.int ze), .val (.long hi), .second, .val (.long lo), .second, .unset, .unset, .unset] rfl 125 rfl ?_
  refine g_lload X7 hx hby at_125 rfl 127 rfl ?_
  refine g_lload X7 hx hby at_127 rfl 129 rfl ?_
  refine g_lor X7 hx hby at_129 130 rfl ?_
  obtain ⟨str, hstr⟩ : ∃ z : Int64, (hi ||| lo) = z := ⟨_, rfl⟩
  refine g_lstore X7 hx hby at_130 str hstr #[.val (.long aa), .second, .val (.int p0), .val (.long vv), .second, .val (.int l0), .val (.int s0), .val (.int pp), .val (.int ll), .val (.int ss), .val (.ref b1), .val (.ref b2), .val (.int ze), .val (.long hi), .second, .val (.long lo), .second, .val (.long str), .second, .unset] rfl 132 rfl ?_
  have hq4 := own_stream hP hP32 hL hL32 hhi hlo hstr
  have hq2 : U (pendN (pendN 0 aa pp) vv ll) / 2 ^ L = U (pendN 0 aa pp) := by rw [own_d2 hP hP32 hL hL32, own_d1 hP hP32, Nat.mul_comm, Nat.mul_add_div (Nat.two_pow_pos L), Nat.div_eq_of_lt (Nat.mod_lt _ (Nat.two_pow_pos L))]; omega
  have hq3 : U (pendN (pendN 0 aa pp) vv ll) < 2 ^ (P + L) := by
    rw [own_d2 hP hP32 hL hL32, Nat.pow_add]
    have m1 : U aa % 2 ^ P + 1 ≤ 2 ^ P := Nat.mod_lt _ (Nat.two_pow_pos P)
    have m2 : U vv % 2 ^ L < 2 ^ L := Nat.mod_lt _ (Nat.two_pow_pos L)
    calc (U aa % 2 ^ P) * 2 ^ L + U vv % 2 ^ L < (U aa % 2 ^ P) * 2 ^ L + 2 ^ L := Nat.add_lt_add_left m2 _
      _ = (U aa % 2 ^ P + 1) * 2 ^ L := by rw [Nat.add_mul, Nat.one_mul]
      _ ≤ 2 ^ P * 2 ^ L := Nat.mul_le_mul_right _ m1
  have Vf : AI Z T7.heap b1 .byte 12 (FIN (pendN 0 aa pp) (pendN (pendN 0 aa pp) vv ll) pb6 S P L) := by unfold FIN; exact (by first | exact P7 | (split <;> simp_all))
  refine g_iload X7 hx hby at_132 rfl 134 rfl ?_
  refine g_iload X7 hx hby at_134 rfl 136 rfl ?_
  refine g_iload X7 hx hby at_136 rfl 138 rfl ?_
  refine g_iload X7 hx hby at_138 rfl 140 rfl ?_
  refine g_iadd X7 hx hby at_140 141 rfl ?_
  refine g_bipush X7 hx hby at_141 (7 : Int32) rfl 143 rfl ?_
  refine g_iadd X7 hx hby at_143 144 rfl ?_
  refine g_iconst X7 hx hby at_144 (3 : Int32) rfl 145 rfl ?_
  refine g_iushr X7 hx hby at_145 146 rfl ?_
  refine g_iadd X7 hx hby at_146 147 rfl ?_
  refine g_icmp_ne X7 hx hby at_147 154 150 (by decide) (by decide) rfl (fun _ => ?_) (fun q => absurd (own_end hS hS3 hP hP32 hL hL32 hpb2 hze) q)
  refine g_iconst X7 hx hby at_150 (1 : Int32) rfl 151 rfl ?_
  refine g_goto X7 hx hby at_151 155 (by decide) (by decide) ?_
  refine g_istore X7 hx hby at_155 (1 : Int32) rfl #[.val (.long aa), .second, .val (.int p0), .val (.long vv), .second, .val (.int l0), .val (.int s0), .val (.int pp), .val (.int ll), .val (.int ss), .val (.ref b1), .val (.ref b2), .val (.int ze), .val (.long hi), .second, .val (.long lo), .second, .val (.long str), .second, .val (.int (1 : Int32))] rfl 157 rfl ?_
  refine g_iload X7 hx hby at_157 rfl 159 rfl ?_
  refine g_if_eq X7 hx hby at_159 179 162 (by decide) (by decide) rfl (fun q => absurd q (by decide)) (fun _ => ?_)
  refine g_aload X7 hx hby at_162 rfl rfl 164 rfl ?_
  refine g_lload X7 hx hby at_164 rfl 166 rfl ?_
  refine g_iload X7 hx hby at_166 rfl 168 rfl ?_
  refine g_iconst X7 hx hby at_168 (0 : Int32) rfl 169 rfl ?_
  refine g_callS X7 hx hby hZ hown (hw _ (List.mem_of_getElem? (i := 35) rfl)) (hw _ (List.mem_of_getElem? (i := 36) rfl)) (hw _ (List.mem_of_getElem? (i := 37) rfl)) (hw _ (List.mem_of_getElem? (i := 38) rfl)) at_169 [(.ref b1), (.long str), (.int ss), (.int (0 : Int32))] [] (rm6 l Z a0 hw [] b1 str ss (0 : Int32) (FIN (pendN 0 aa pp) (pendN (pendN 0 aa pp) vv ll) pb6 S P L) T7.heap n0 Z7 Vf (by decide) (by decide)) rfl rfl (by rw [hml]; rfl) pd4 rfl (by decide) 0 (Nat.le_of_eq rfl) (by decide) (by decide) (by decide) (by decide) 172 rfl ?_
  intro T12 v12 L12 X12 Q12
  obtain ⟨rfl, N12', e12⟩ := Q12
  have N12 := Fr.app N7 N12'
  show Goes p e below _ (T12.setTop (mkF m 172 _ [(.int (atF str ss (0 : Int32) (FIN (pendN 0 aa pp) (pendN (pendN 0 aa pp) vv ll) pb6 S P L)))]))
  refine g_if_eq X12 hx hby at_172 179 175 (by decide) (by decide) rfl (fun q => absurd q (own_atF (i := 0) hS hS3 rfl (by decide) hP32 hL32 hpb2 hq2 hq3 hq4)) (fun _ => ?_)
  refine g_iconst X12 hx hby at_175 (1 : Int32) rfl 176 rfl ?_
  refine g_goto X12 hx hby at_176 180 (by decide) (by decide) ?_
  refine g_istore X12 hx hby at_180 (1 : Int32) rfl #[.val (.long aa), .second, .val (.int p0), .val (.long vv), .second, .val (.int l0), .val (.int s0), .val (.int pp), .val (.int ll), .val (.int ss), .val (.ref b1), .val (.ref b2), .val (.int ze), .val (.long hi), .second, .val (.long lo), .second, .val (.long str), .second, .val (.int (1 : Int32))] rfl 182 rfl ?_
  refine g_iload X12 hx hby at_182 rfl 184 rfl ?_
  refine g_if_eq X12 hx hby at_184 204 187 (by decide) (by decide) rfl (fun q => absurd q (by decide)) (fun _ => ?_)
  refine g_aload X12 hx hby at_187 rfl rfl 189 rfl ?_
  refine g_lload X12 hx hby at_189 rfl 191 rfl ?_
  refine g_iload X12 hx hby at_191 rfl 193 rfl ?_
  refine g_iconst X12 hx hby at_193 (1 : Int32) rfl 194 rfl ?_
  refine g_callS X12 hx hby hZ hown (hw _ (List.mem_of_getElem? (i := 35) rfl)) (hw _ (List.mem_of_getElem? (i := 36) rfl)) (hw _ (List.mem_of_getElem? (i := 37) rfl)) (hw _ (List.mem_of_getElem? (i := 38) rfl)) at_194 [(.ref b1), (.long str), (.int ss), (.int (1 : Int32))] [] (rm6 l Z a0 hw [] b1 str ss (1 : Int32) (FIN (pendN 0 aa pp) (pendN (pendN 0 aa pp) vv ll) pb6 S P L) T7.heap n0 Z7 Vf (by decide) (by decide)) e12 rfl (by rw [hml]; rfl) pd4 rfl (by decide) 0 (Nat.le_of_eq rfl) (by decide) (by decide) (by decide) (by decide) 197 rfl ?_
  intro T13 v13 L13 X13 Q13
  obtain ⟨rfl, N13', e13⟩ := Q13
  have N13 := Fr.app N12 N13'
  show Goes p e below _ (T13.setTop (mkF m 197 _ [(.int (atF str ss (1 : Int32) (FIN (pendN 0 aa pp) (pendN (pendN 0 aa pp) vv ll) pb6 S P L)))]))
  refine g_if_eq X13 hx hby at_197 204 200 (by decide) (by decide) rfl (fun q => absurd q (own_atF (i := 1) hS hS3 rfl (by decide) hP32 hL32 hpb2 hq2 hq3 hq4)) (fun _ => ?_)
  refine g_iconst X13 hx hby at_200 (1 : Int32) rfl 201 rfl ?_
  refine g_goto X13 hx hby at_201 205 (by decide) (by decide) ?_
  refine g_istore X13 hx hby at_205 (1 : Int32) rfl #[.val (.long aa), .second, .val (.int p0), .val (.long vv), .second, .val (.int l0), .val (.int s0), .val (.int pp), .val (.int ll), .val (.int ss), .val (.ref b1), .val (.ref b2), .val (.int ze), .val (.long hi), .second, .val (.long lo), .second, .val (.long str), .second, .val (.int (1 : Int32))] rfl 207 rfl ?_
  refine g_iload X13 hx hby at_207 rfl 209 rfl ?_
  refine g_if_eq X13 hx hby at_209 229 212 (by decide) (by decide) rfl (fun q => absurd q (by decide)) (fun _ => ?_)
  refine g_aload X13 hx hby at_212 rfl rfl 214 rfl ?_
  refine g_lload X13 hx hby at_214 rfl 216 rfl ?_
  refine g_iload X13 hx hby at_216 rfl 218 rfl ?_
  refine g_iconst X13 hx hby at_218 (2 : Int32) rfl 219 rfl ?_
  refine g_callS X13 hx hby hZ hown (hw _ (List.mem_of_getElem? (i := 35) rfl)) (hw _ (List.mem_of_getElem? (i := 36) rfl)) (hw _ (List.mem_of_getElem? (i := 37) rfl)) (hw _ (List.mem_of_getElem? (i := 38) rfl)) at_219 [(.ref b1), (.long str), (.int ss), (.int (2 : Int32))] [] (rm6 l Z a0 hw [] b1 str ss (2 : Int32) (FIN (pendN 0 aa pp) (pendN (pendN 0 aa pp) vv ll) pb6 S P L) T7.heap n0 Z7 Vf (by decide) (by decide)) e13 rfl (by rw [hml]; rfl) pd4 rfl (by decide) 0 (Nat.le_of_eq rfl) (by decide) (by decide) (by decide) (by decide) 222 rfl ?_
  intro T14 v14 L14 X14 Q14
  obtain ⟨rfl, N14', e14⟩ := Q14
  have N14 := Fr.app N13 N14'
  show Goes p e below _ (T14.setTop (mkF m 222 _ [(.int (atF str ss (2 : Int32) (FIN (pendN 0 aa pp) (pendN (pendN 0 aa pp) vv ll) pb6 S P L)))]))
  refine g_if_eq X14 hx hby at_222 229 225 (by decide) (by decide) rfl (fun q => absurd q (own_atF (i := 2) hS hS3 rfl (by decide) hP32 hL32 hpb2 hq2 hq3 hq4)) (fun _ => ?_)
  refine g_iconst X14 hx hby at_225 (1 : Int32) rfl 226 rfl ?_
  refine g_goto X14 hx hby at_226 230 (by decide) (by decide) ?_
  refine g_istore X14 hx hby at_230 (1 : Int32) rfl #[.val (.long aa), .second, .val (.int p0), .val (.long vv), .second, .val (.int l0), .val (.int s0), .val (.int pp), .val (.int ll), .val (.int ss), .val (.ref b1), .val (.ref b2), .val (.int ze), .val (.long hi), .second, .val (.long lo), .second, .val (.long str), .second, .val (.int (1 : Int32))] rfl 232 rfl ?_
  refine g_iload X14 hx hby at_232 rfl 234 rfl ?_
  refine g_if_eq X14 hx hby at_234 254 237 (by decide) (by decide) rfl (fun q => absurd q (by decide)) (fun _ => ?_)
  refine g_aload X14 hx hby at_237 rfl rfl 239 rfl ?_
  refine g_lload X14 hx hby at_239 rfl 241 rfl ?_
  refine g_iload X14 hx hby at_241 rfl 243 rfl ?_
  refine g_iconst X14 hx hby at_243 (3 : Int32) rfl 244 rfl ?_
  refine g_callS X14 hx hby hZ hown (hw _ (List.mem_of_getElem? (i := 35) rfl)) (hw _ (List.mem_of_getElem? (i := 36) rfl)) (hw _ (List.mem_of_getElem? (i := 37) rfl)) (hw _ (List.mem_of_getElem? (i := 38) rfl)) at_244 [(.ref b1), (.long str), (.int ss), (.int (3 : Int32))] [] (rm6 l Z a0 hw [] b1 str ss (3 : Int32) (FIN (pendN 0 aa pp) (pendN (pendN 0 aa pp) vv ll) pb6 S P L) T7.heap n0 Z7 Vf (by decide) (by decide)) e14 rfl (by rw [hml]; rfl) pd4 rfl (by decide) 0 (Nat.le_of_eq rfl) (by decide) (by decide) (by decide) (by decide) 247 rfl ?_
  intro T15 v15 L15 X15 Q15
  obtain ⟨rfl, N15', e15⟩ := Q15
  have N15 := Fr.app N14 N15'
  show Goes p e below _ (T15.setTop (mkF m 247 _ [(.int (atF str ss (3 : Int32) (FIN (pendN 0 aa pp) (pendN (pendN 0 aa pp) vv ll) pb6 S P L)))]))
  refine g_if_eq X15 hx hby at_247 254 250 (by decide) (by decide) rfl (fun q => absurd q (own_atF (i := 3) hS hS3 rfl (by decide) hP32 hL32 hpb2 hq2 hq3 hq4)) (fun _ => ?_)
  refine g_iconst X15 hx hby at_250 (1 : Int32) rfl 251 rfl ?_
  refine g_goto X15 hx hby at_251 255 (by decide) (by decide) ?_
  refine g_istore X15 hx hby at_255 (1 : Int32) rfl #[.val (.long aa), .second, .val (.int p0), .val (.long vv), .second, .val (.int l0), .val (.int s0), .val (.int pp), .val (.int ll), .val (.int ss), .val (.ref b1), .val (.ref b2), .val (.int ze), .val (.long hi), .second, .val (.long lo), .second, .val (.long str), .second, .val (.int (1 : Int32))] rfl 257 rfl ?_
  refine g_iload X15 hx hby at_257 rfl 259 rfl ?_
  refine g_if_eq X15 hx hby at_259 279 262 (by decide) (by decide) rfl (fun q => absurd q (by decide)) (fun _ => ?_)
  refine g_aload X15 hx hby at_262 rfl rfl 264 rfl ?_
  refine g_lload X15 hx hby at_264 rfl 266 rfl ?_
  refine g_iload X15 hx hby at_266 rfl 268 rfl ?_
  refine g_iconst X15 hx hby at_268 (4 : Int32) rfl 269 rfl ?_
  refine g_callS X15 hx hby hZ hown (hw _ (List.mem_of_getElem? (i := 35) rfl)) (hw _ (List.mem_of_getElem? (i := 36) rfl)) (hw _ (List.mem_of_getElem? (i := 37) rfl)) (hw _ (List.mem_of_getElem? (i := 38) rfl)) at_269 [(.ref b1), (.long str), (.int ss), (.int (4 : Int32))] [] (rm6 l Z a0 hw [] b1 str ss (4 : Int32) (FIN (pendN 0 aa pp) (pendN (pendN 0 aa pp) vv ll) pb6 S P L) T7.heap n0 Z7 Vf (by decide) (by decide)) e15 rfl (by rw [hml]; rfl) pd4 rfl (by decide) 0 (Nat.le_of_eq rfl) (by decide) (by decide) (by decide) (by decide) 272 rfl ?_
  intro T16 v16 L16 X16 Q16
  obtain ⟨rfl, N16', e16⟩ := Q16
  have N16 := Fr.app N15 N16'
  show Goes p e below _ (T16.setTop (mkF m 272 _ [(.int (atF str ss (4 : Int32) (FIN (pendN 0 aa pp) (pendN (pendN 0 aa pp) vv ll) pb6 S P L)))]))
  refine g_if_eq X16 hx hby at_272 279 275 (by decide) (by decide) rfl (fun q => absurd q (own_atF (i := 4) hS hS3 rfl (by decide) hP32 hL32 hpb2 hq2 hq3 hq4)) (fun _ => ?_)
  refine g_iconst X16 hx hby at_275 (1 : Int32) rfl 276 rfl ?_
  refine g_goto X16 hx hby at_276 280 (by decide) (by decide) ?_
  refine g_istore X16 hx hby at_280 (1 : Int32) rfl #[.val (.long aa), .second, .val (.int p0), .val (.long vv), .second, .val (.int l0), .val (.int s0), .val (.int pp), .val (.int ll), .val (.int ss), .val (.ref b1), .val (.ref b2), .val (.int ze), .val (.long hi), .second, .val (.long lo), .second, .val (.long str), .second, .val (.int (1 : Int32))] rfl 282 rfl ?_
  refine g_iload X16 hx hby at_282 rfl 284 rfl ?_
  refine g_if_eq X16 hx hby at_284 304 287 (by decide) (by decide) rfl (fun q => absurd q (by decide)) (fun _ => ?_)
  refine g_aload X16 hx hby at_287 rfl rfl 289 rfl ?_
  refine g_lload X16 hx hby at_289 rfl 291 rfl ?_
  refine g_iload X16 hx hby at_291 rfl 293 rfl ?_
  refine g_iconst X16 hx hby at_293 (5 : Int32) rfl 294 rfl ?_
  refine g_callS X16 hx hby hZ hown (hw _ (List.mem_of_getElem? (i := 35) rfl)) (hw _ (List.mem_of_getElem? (i := 36) rfl)) (hw _ (List.mem_of_getElem? (i := 37) rfl)) (hw _ (List.mem_of_getElem? (i := 38) rfl)) at_294 [(.ref b1), (.long str), (.int ss), (.int (5 : Int32))] [] (rm6 l Z a0 hw [] b1 str ss (5 : Int32) (FIN (pendN 0 aa pp) (pendN (pendN 0 aa pp) vv ll) pb6 S P L) T7.heap n0 Z7 Vf (by decide) (by decide)) e16 rfl (by rw [hml]; rfl) pd4 rfl (by decide) 0 (Nat.le_of_eq rfl) (by decide) (by decide) (by decide) (by decide) 297 rfl ?_
  intro T17 v17 L17 X17 Q17
  obtain ⟨rfl, N17', e17⟩ := Q17
  have N17 := Fr.app N16 N17'
  show Goes p e below _ (T17.setTop (mkF m 297 _ [(.int (atF str ss (5 : Int32) (FIN (pendN 0 aa pp) (pendN (pendN 0 aa pp) vv ll) pb6 S P L)))]))
  refine g_if_eq X17 hx hby at_297 304 300 (by decide) (by decide) rfl (fun q => absurd q (own_atF (i := 5) hS hS3 rfl (by decide) hP32 hL32 hpb2 hq2 hq3 hq4)) (fun _ => ?_)
  refine g_iconst X17 hx hby at_300 (1 : Int32) rfl 301 rfl ?_
  refine g_goto X17 hx hby at_301 305 (by decide) (by decide) ?_
  refine g_istore X17 hx hby at_305 (1 : Int32) rfl #[.val (.long aa), .second, .val (.int p0), .val (.long vv), .second, .val (.int l0), .val (.int s0), .val (.int pp), .val (.int ll), .val (.int ss), .val (.ref b1), .val (.ref b2), .val (.int ze), .val (.long hi), .second, .val (.long lo), .second, .val (.long str), .second, .val (.int (1 : Int32))] rfl 307 rfl ?_
  refine g_iload X17 hx hby at_307 rfl 309 rfl ?_
  refine g_if_eq X17 hx hby at_309 330 312 (by decide) (by decide) rfl (fun q => absurd q (by decide)) (fun _ => ?_)
  refine g_aload X17 hx hby at_312 rfl rfl 314 rfl ?_
  refine g_lload X17 hx hby at_314 rfl 316 rfl ?_
  refine g_iload X17 hx hby at_316 rfl 318 rfl ?_
  refine g_bipush X17 hx hby at_318 (6 : Int32) rfl 320 rfl ?_
  refine g_callS X17 hx hby hZ hown (hw _ (List.mem_of_getElem? (i := 35) rfl)) (hw _ (List.mem_of_getElem? (i := 36) rfl)) (hw _ (List.mem_of_getElem? (i := 37) rfl)) (hw _ (List.mem_of_getElem? (i := 38) rfl)) at_320 [(.ref b1), (.long str), (.int ss), (.int (6 : Int32))] [] (rm6 l Z a0 hw [] b1 str ss (6 : Int32) (FIN (pendN 0 aa pp) (pendN (pendN 0 aa pp) vv ll) pb6 S P L) T7.heap n0 Z7 Vf (by decide) (by decide)) e17 rfl (by rw [hml]; rfl) pd4 rfl (by decide) 0 (Nat.le_of_eq rfl) (by decide) (by decide) (by decide) (by decide) 323 rfl ?_
  intro T18 v18 L18 X18 Q18
  obtain ⟨rfl, N18', e18⟩ := Q18
  have N18 := Fr.app N17 N18'
  show Goes p e below _ (T18.setTop (mkF m 323 _ [(.int (atF str ss (6 : Int32) (FIN (pendN 0 aa pp) (pendN (pendN 0 aa pp) vv ll) pb6 S P L)))]))
  refine g_if_eq X18 hx hby at_323 330 326 (by decide) (by decide) rfl (fun q => absurd q (own_atF (i := 6) hS hS3 rfl (by decide) hP32 hL32 hpb2 hq2 hq3 hq4)) (fun _ => ?_)
  refine g_iconst X18 hx hby at_326 (1 : Int32) rfl 327 rfl ?_
  refine g_goto X18 hx hby at_327 331 (by decide) (by decide) ?_
  refine g_istore X18 hx hby at_331 (1 : Int32) rfl #[.val (.long aa), .second, .val (.int p0), .val (.long vv), .second, .val (.int l0), .val (.int s0), .val (.int pp), .val (.int ll), .val (.int ss), .val (.ref b1), .val (.ref b2), .val (.int ze), .val (.long hi), .second, .val (.long lo), .second, .val (.long str), .second, .val (.int (1 : Int32))] rfl 333 rfl ?_
  refine g_iload X18 hx hby at_333 rfl 335 rfl ?_
  refine g_if_eq X18 hx hby at_335 356 338 (by decide) (by decide) rfl (fun q => absurd q (by decide)) (fun _ => ?_)
  refine g_aload X18 hx hby at_338 rfl rfl 340 rfl ?_
  refine g_lload X18 hx hby at_340 rfl 342 rfl ?_
  refine g_iload X18 hx hby at_342 rfl 344 rfl ?_
  refine g_bipush X18 hx hby at_344 (7 : Int32) rfl 346 rfl ?_
  refine g_callS X18 hx hby hZ hown (hw _ (List.mem_of_getElem? (i := 35) rfl)) (hw _ (List.mem_of_getElem? (i := 36) rfl)) (hw _ (List.mem_of_getElem? (i := 37) rfl)) (hw _ (List.mem_of_getElem? (i := 38) rfl)) at_346 [(.ref b1), (.long str), (.int ss), (.int (7 : Int32))] [] (rm6 l Z a0 hw [] b1 str ss (7 : Int32) (FIN (pendN 0 aa pp) (pendN (pendN 0 aa pp) vv ll) pb6 S P L) T7.heap n0 Z7 Vf (by decide) (by decide)) e18 rfl (by rw [hml]; rfl) pd4 rfl (by decide) 0 (Nat.le_of_eq rfl) (by decide) (by decide) (by decide) (by decide) 349 rfl ?_
  intro T19 v19 L19 X19 Q19
  obtain ⟨rfl, N19', e19⟩ := Q19
  have N19 := Fr.app N18 N19'
  show Goes p e below _ (T19.setTop (mkF m 349 _ [(.int (atF str ss (7 : Int32) (FIN (pendN 0 aa pp) (pendN (pendN 0 aa pp) vv ll) pb6 S P L)))]))
  refine g_if_eq X19 hx hby at_349 356 352 (by decide) (by decide) rfl (fun q => absurd q (own_atF (i := 7) hS hS3 rfl (by decide) hP32 hL32 hpb2 hq2 hq3 hq4)) (fun _ => ?_)
  refine g_iconst X19 hx hby at_352 (1 : Int32) rfl 353 rfl ?_
  refine g_goto X19 hx hby at_353 357 (by decide) (by decide) ?_
  refine g_istore X19 hx hby at_357 (1 : Int32) rfl #[.val (.long aa), .second, .val (.int p0), .val (.long vv), .second, .val (.int l0), .val (.int s0), .val (.int pp), .val (.int ll), .val (.int ss), .val (.ref b1), .val (.ref b2), .val (.int ze), .val (.long hi), .second, .val (.long lo), .second, .val (.long str), .second, .val (.int (1 : Int32))] rfl 359 rfl ?_
  refine g_iload X19 hx hby at_359 rfl 361 rfl ?_
  refine g_if_eq X19 hx hby at_361 382 364 (by decide) (by decide) rfl (fun q => absurd q (by decide)) (fun _ => ?_)
  refine g_aload X19 hx hby at_364 rfl rfl 366 rfl ?_
  refine g_lload X19 hx hby at_366 rfl 368 rfl ?_
  refine g_iload X19 hx hby at_368 rfl 370 rfl ?_
  refine g_bipush X19 hx hby at_370 (8 : Int32) rfl 372 rfl ?_
  refine g_callS X19 hx hby hZ hown (hw _ (List.mem_of_getElem? (i := 35) rfl)) (hw _ (List.mem_of_getElem? (i := 36) rfl)) (hw _ (List.mem_of_getElem? (i := 37) rfl)) (hw _ (List.mem_of_getElem? (i := 38) rfl)) at_372 [(.ref b1), (.long str), (.int ss), (.int (8 : Int32))] [] (rm6 l Z a0 hw [] b1 str ss (8 : Int32) (FIN (pendN 0 aa pp) (pendN (pendN 0 aa pp) vv ll) pb6 S P L) T7.heap n0 Z7 Vf (by decide) (by decide)) e19 rfl (by rw [hml]; rfl) pd4 rfl (by decide) 0 (Nat.le_of_eq rfl) (by decide) (by decide) (by decide) (by decide) 375 rfl ?_
  intro T20 v20 L20 X20 Q20
  obtain ⟨rfl, N20', e20⟩ := Q20
  have N20 := Fr.app N19 N20'
  show Goes p e below _ (T20.setTop (mkF m 375 _ [(.int (atF str ss (8 : Int32) (FIN (pendN 0 aa pp) (pendN (pendN 0 aa pp) vv ll) pb6 S P L)))]))
  refine g_if_eq X20 hx hby at_375 382 378 (by decide) (by decide) rfl (fun q => absurd q (own_atF (i := 8) hS hS3 rfl (by decide) hP32 hL32 hpb2 hq2 hq3 hq4)) (fun _ => ?_)
  refine g_iconst X20 hx hby at_378 (1 : Int32) rfl 379 rfl ?_
  refine g_goto X20 hx hby at_379 383 (by decide) (by decide) ?_
  refine g_istore X20 hx hby at_383 (1 : Int32) rfl #[.val (.long aa), .second, .val (.int p0), .val (.long vv), .second, .val (.int l0), .val (.int s0), .val (.int pp), .val (.int ll), .val (.int ss), .val (.ref b1), .val (.ref b2), .val (.int ze), .val (.long hi), .second, .val (.long lo), .second, .val (.long str), .second, .val (.int (1 : Int32))] rfl 385 rfl ?_
  refine g_iload X20 hx hby at_385 rfl 387 rfl ?_
  refine g_if_eq X20 hx hby at_387 408 390 (by decide) (by decide) rfl (fun q => absurd q (by decide)) (fun _ => ?_)
  refine g_aload X20 hx hby at_390 rfl rfl 392 rfl ?_
  refine g_lload X20 hx hby at_392 rfl 394 rfl ?_
  refine g_iload X20 hx hby at_394 rfl 396 rfl ?_
  refine g_bipush X20 hx hby at_396 (9 : Int32) rfl 398 rfl ?_
  refine g_callS X20 hx hby hZ hown (hw _ (List.mem_of_getElem? (i := 35) rfl)) (hw _ (List.mem_of_getElem? (i := 36) rfl)) (hw _ (List.mem_of_getElem? (i := 37) rfl)) (hw _ (List.mem_of_getElem? (i := 38) rfl)) at_398 [(.ref b1), (.long str), (.int ss), (.int (9 : Int32))] [] (rm6 l Z a0 hw [] b1 str ss (9 : Int32) (FIN (pendN 0 aa pp) (pendN (pendN 0 aa pp) vv ll) pb6 S P L) T7.heap n0 Z7 Vf (by decide) (by decide)) e20 rfl (by rw [hml]; rfl) pd4 rfl (by decide) 0 (Nat.le_of_eq rfl) (by decide) (by decide) (by decide) (by decide) 401 rfl ?_
  intro T21 v21 L21 X21 Q21
  obtain ⟨rfl, N21', e21⟩ := Q21
  have N21 := Fr.app N20 N21'
  show Goes p e below _ (T21.setTop (mkF m 401 _ [(.int (atF str ss (9 : Int32) (FIN (pendN 0 aa pp) (pendN (pendN 0 aa pp) vv ll) pb6 S P L)))]))
  refine g_if_eq X21 hx hby at_401 408 404 (by decide) (by decide) rfl (fun q => absurd q (own_atF (i := 9) hS hS3 rfl (by decide) hP32 hL32 hpb2 hq2 hq3 hq4)) (fun _ => ?_)
  refine g_iconst X21 hx hby at_404 (1 : Int32) rfl 405 rfl ?_
  refine g_goto X21 hx hby at_405 409 (by decide) (by decide) ?_
  refine g_istore X21 hx hby at_409 (1 : Int32) rfl #[.val (.long aa), .second, .val (.int p0), .val (.long vv), .second, .val (.int l0), .val (.int s0), .val (.int pp), .val (.int ll), .val (.int ss), .val (.ref b1), .val (.ref b2), .val (.int ze), .val (.long hi), .second, .val (.long lo), .second, .val (.long str), .second, .val (.int (1 : Int32))] rfl 411 rfl ?_
  refine g_iload X21 hx hby at_411 rfl 413 rfl ?_
  refine g_if_eq X21 hx hby at_413 434 416 (by decide) (by decide) rfl (fun q => absurd q (by decide)) (fun _ => ?_)
  refine g_aload X21 hx hby at_416 rfl rfl 418 rfl ?_
  refine g_lload X21 hx hby at_418 rfl 420 rfl ?_
  refine g_iload X21 hx hby at_420 rfl 422 rfl ?_
  refine g_bipush X21 hx hby at_422 (10 : Int32) rfl 424 rfl ?_
  refine g_callS X21 hx hby hZ hown (hw _ (List.mem_of_getElem? (i := 35) rfl)) (hw _ (List.mem_of_getElem? (i := 36) rfl)) (hw _ (List.mem_of_getElem? (i := 37) rfl)) (hw _ (List.mem_of_getElem? (i := 38) rfl)) at_424 [(.ref b1), (.long str), (.int ss), (.int (10 : Int32))] [] (rm6 l Z a0 hw [] b1 str ss (10 : Int32) (FIN (pendN 0 aa pp) (pendN (pendN 0 aa pp) vv ll) pb6 S P L) T7.heap n0 Z7 Vf (by decide) (by decide)) e21 rfl (by rw [hml]; rfl) pd4 rfl (by decide) 0 (Nat.le_of_eq rfl) (by decide) (by decide) (by decide) (by decide) 427 rfl ?_
  intro T22 v22 L22 X22 Q22
  obtain ⟨rfl, N22', e22⟩ := Q22
  have N22 := Fr.app N21 N22'
  show Goes p e below _ (T22.setTop (mkF m 427 _ [(.int (atF str ss (10 : Int32) (FIN (pendN 0 aa pp) (pendN (pendN 0 aa pp) vv ll) pb6 S P L)))]))
  refine g_if_eq X22 hx hby at_427 434 430 (by decide) (by decide) rfl (fun q => absurd q (own_atF (i := 10) hS hS3 rfl (by decide) hP32 hL32 hpb2 hq2 hq3 hq4)) (fun _ => ?_)
  refine g_iconst X22 hx hby at_430 (1 : Int32) rfl 431 rfl ?_
  refine g_goto X22 hx hby at_431 435 (by decide) (by decide) ?_
  refine g_istore X22 hx hby at_435 (1 : Int32) rfl #[.val (.long aa), .second, .val (.int p0), .val (.long vv), .second, .val (.int l0), .val (.int s0), .val (.int pp), .val (.int ll), .val (.int ss), .val (.ref b1), .val (.ref b2), .val (.int ze), .val (.long hi), .second, .val (.long lo), .second, .val (.long str), .second, .val (.int (1 : Int32))] rfl 437 rfl ?_
  refine g_iload X22 hx hby at_437 rfl 439 rfl ?_
  refine g_if_eq X22 hx hby at_439 460 442 (by decide) (by decide) rfl (fun q => absurd q (by decide)) (fun _ => ?_)
  refine g_aload X22 hx hby at_442 rfl rfl 444 rfl ?_
  refine g_lload X22 hx hby at_444 rfl 446 rfl ?_
  refine g_iload X22 hx hby at_446 rfl 448 rfl ?_
  refine g_bipush X22 hx hby at_448 (11 : Int32) rfl 450 rfl ?_
  refine g_callS X22 hx hby hZ hown (hw _ (List.mem_of_getElem? (i := 35) rfl)) (hw _ (List.mem_of_getElem? (i := 36) rfl)) (hw _ (List.mem_of_getElem? (i := 37) rfl)) (hw _ (List.mem_of_getElem? (i := 38) rfl)) at_450 [(.ref b1), (.long str), (.int ss), (.int (11 : Int32))] [] (rm6 l Z a0 hw [] b1 str ss (11 : Int32) (FIN (pendN 0 aa pp) (pendN (pendN 0 aa pp) vv ll) pb6 S P L) T7.heap n0 Z7 Vf (by decide) (by decide)) e22 rfl (by rw [hml]; rfl) pd4 rfl (by decide) 0 (Nat.le_of_eq rfl) (by decide) (by decide) (by decide) (by decide) 453 rfl ?_
  intro T23 v23 L23 X23 Q23
  obtain ⟨rfl, N23', e23⟩ := Q23
  have N23 := Fr.app N22 N23'
  show Goes p e below _ (T23.setTop (mkF m 453 _ [(.int (atF str ss (11 : Int32) (FIN (pendN 0 aa pp) (pendN (pendN 0 aa pp) vv ll) pb6 S P L)))]))
  refine g_if_eq X23 hx hby at_453 460 456 (by decide) (by decide) rfl (fun q => absurd q (own_atF (i := 11) hS hS3 rfl (by decide) hP32 hL32 hpb2 hq2 hq3 hq4)) (fun _ => ?_)
  refine g_iconst X23 hx hby at_456 (1 : Int32) rfl 457 rfl ?_
  refine g_goto X23 hx hby at_457 461 (by decide) (by decide) ?_
  refine g_istore X23 hx hby at_461 (1 : Int32) rfl #[.val (.long aa), .second, .val (.int p0), .val (.long vv), .second, .val (.int l0), .val (.int s0), .val (.int pp), .val (.int ll), .val (.int ss), .val (.ref b1), .val (.ref b2), .val (.int ze), .val (.long hi), .second, .val (.long lo), .second, .val (.long str), .second, .val (.int (1 : Int32))] rfl 463 rfl ?_
  refine g_iload X23 hx hby at_463 rfl 465 rfl ?_
  exact g_ireturn X23 hx hby hret hlk (Or.inr (Or.inl rfl)) (nar_bool (Or.inr rfl)) at_465 ⟨rfl, N23⟩ (by decide) (by decide)
set_option maxRecDepth 65536 in
set_option maxHeartbeats 40000000 in
theorem comes_1 {Post : Tables → Env → Array Value → State → Outcome → State → Prop} (hpost : ∀ tb e args s v u, (limb_1_1.after args s (.returned v) u = true ∧ limb_1_2.after args s (.returned v) u = true ∧ True) → FrameEnd s (.returned v) u (Jvm.fieldLocs frame_1_writes args s ++ Jvm.arrayLocs frame_1_arrays args s ++ Jvm.staticLocs frame_1_statics s) 16 128 → Post tb e args s (.returned v) u) :
    ArmFor flags0 classFile x code maxLocals ret World_1 tables_1 room_1 Calls_1 rest_1 Pre_1 Post := by
  intro l hfl _ _ p e ha hc hk s m args below hf hA hF happ hP
  obtain ⟨hcalls, hrest, hpre⟩ := hP
  obtain ⟨-, -, -, hnamed, -, -, -, hat⟩ := (Spec.applies_iff hf).mp happ
  obtain ⟨hg, hn⟩ := and_e (Cond.before_iff.mp (show (Jvm.Cond.and given_1 narrow_1).before args s = true from hpre))
  obtain ⟨q0, r0⟩ := and_e hg
  obtain ⟨q1, r1⟩ := and_e r0
  obtain ⟨q2, r2⟩ := and_e r1
  obtain ⟨q3, r3⟩ := and_e r2
  obtain ⟨q4, r4⟩ := and_e r3
  obtain ⟨w0, w1, w2, w3, w4, rfl⟩ : ∃ w0 w1 w2 w3 w4 : Value, args = #[w0, w1, w2, w3, w4] := by
    have hs : args.size = 5 := by simpa [Cond.value, given_1] using q0
    obtain ⟨L⟩ := args
    match L, hs with
    | [w0, w1, w2, w3, w4], _ => exact ⟨w0, w1, w2, w3, w4, rfl⟩
  have hw := fun d (hd : d ∈ tables_1) => atoms_spec (ws := Jvm.Cond.code x code maxLocals ret :: tables_1) hat d (List.mem_cons_of_mem _ hd)
  obtain ⟨i0, ei0⟩ := isL_v q1
  obtain rfl : w0 = (.long i0) := Option.some.inj ei0
  obtain ⟨i1, ei1⟩ := is_v q2
  obtain rfl : w1 = (.int i1) := Option.some.inj ei1
  obtain ⟨i2, ei2⟩ := isL_v q3
  obtain rfl : w2 = (.long i2) := Option.some.inj ei2
  obtain ⟨i3, ei3⟩ := is_v q4
  obtain rfl : w3 = (.int i3) := Option.some.inj ei3
  obtain ⟨i4, ei4⟩ := is_v r4
  obtain rfl : w4 = (.int i4) := Option.some.inj ei4
  obtain ⟨n, o, h1, h2, h3, _, L, rfl, ⟨rfl, N⟩, hq⟩ := rm0 l s _ hw tables_1 i0 i1 i2 i3 i4 s.heap s.heap.size (Nat.le_refl _) p e ha hc hk s m _ below hf ((Spec.applies_iff_loose hf).mp happ).1 ⟨rfl, State.Warmed39.refl s, rfl⟩ trivial
  refine ⟨n, _, h1, h2, h3, hpost _ _ _ _ _ _ ⟨Cond.after_iff.mpr rfl, Cond.after_iff.mpr (eq_i res_at (Term.int_eval (1)) rfl), trivial⟩ ⟨hq.1, hq.2.1, (hq.2.2.sift fun y hy => Or.inr (N y hy)).mono (by decide) (by decide)⟩⟩
theorem main_1_1 : Claimed_1_1 := comes_1 fun _ _ _ _ _ _ h hF => ⟨h.1, hF⟩
theorem main_1_2 : Claimed_1_2 := comes_1 fun _ _ _ _ _ _ h hF => ⟨h.2.1, hF⟩
end Jvm.Pilot.@@N@@
namespace Jvm.Pilot.@@N@@
open Jvm Jvm.ClassFile Sem Op Lib Jvm.Free Jvm.Stand Jvm.Pilot.@@N@@.Jvm.D
/-! MADE BY PROGRAM (witnessworld.py) out of the Statement's table words and the real class files: 9 classes; the members and pool entries that the words name. The judged class is class 1, her method 1. -/
namespace start1
open Jvm.ClassFile
def u (s : String) : CpInfo := .utf8 (stringToUtf16 s)
/-- a pool by its gaps: so many unusable entries, then the entry; so many at the end -/
def gap : Nat → List CpInfo → List CpInfo
  | 0, r => r
  | n + 1, r => .unusable :: gap n r
def poolList (es : List (Nat × CpInfo)) (last : Nat) : List CpInfo := es.foldr (fun e r => gap e.1 (e.2 :: r)) (gap last [])
def pool (es : List (Nat × CpInfo)) (last : Nat) : Array CpInfo := ⟨poolList es last⟩
def fileOf (pool : Array CpInfo) (this : Nat) (attrs : Array Attribute := #[]) (ms : Array MethodInfo := #[]) (fl : Nat := 33) (sup : Nat := 0) (ifs : Array Nat := #[]) (fds : Array FieldInfo := #[]) : ClassFile where
  minorVersion := 0
  majorVersion := 65
  constantPool := pool
  accessFlags := fl
  thisClass := this
  superClass := sup
  interfaces := ifs
  fields := fds
  methods := ms
  attributes := attrs
def plain (name : String) (sup : Option ClassId) : Class where
  name := name
  kind := .ordinary
  loader := none
  accessFlags := 33
  super := sup
  interfaces := #[]
  cf := none
  fields := #[]
  methods := #[]
  instanceTypes := #[]
  staticTypes := #[]
  resolved := #[]
  callSites := []
  init := .initialized
  statics := none
  mirror := none

def pool0 : Array CpInfo := pool [(5, u "<init>"), (0, u "()V"), (1, .class_ 10), (1, u "java/lang/Object")] 113

def k0c0 : Code := { maxStack := 0, maxLocals := 1, code := object_method_1_code, exceptionTable := #[], attributes := #[] }
def k0m0 : Method := { name := "<init>", desc := "()V", sig := { parameters := [], returnType := none }, accessFlags := 1, code := some k0c0 }
/-- java/lang/Object -/
def k0 : Class := { plain "java/lang/Object" none with
  accessFlags := 33
  interfaces := #[]
  cf := some (fileOf pool0 8 #[] #[{ accessFlags := 1, nameIndex := 5, descriptorIndex := 6, attributes := #[] }] 33 0 #[] #[])
  fields := #[]
  methods := #[k0m0]
  instanceTypes := #[]
  staticTypes := #[]
  resolved := Array.replicate 124 none
  statics := none }

def pool1 : Array CpInfo := pool [(2, .class_ 4), (0, .nameAndType 5 6), (0, u "java/lang/Object"), (0, u "<init>"), (0, u "()V"), (0, .integer 2147483647), (0, .class_ 9), (0, u "com/example/brevicode/brevicode/BitWriter"), (0, .methodref 8 3), (0, .methodref 8 12), (0, .nameAndType 13 14), (0, u "start"), (0, u "([BI)V"), (0, .methodref 8 16), (0, .nameAndType 17 18), (0, u "write"), (0, u "(JI)V"), (0, .methodref 8 20), (0, .nameAndType 21 22), (0, u "finish"), (0, u "()I"), (0, .methodref 24 25), (0, .class_ 26), (0, .nameAndType 27 28), (0, u "com/example/brevicode/brevicode/BitWriterWritePinLaw"), (0, u "at"), (0, u "([BJII)Z"), (2, u "law"), (0, u "(JIJII)Z")] 5

def k1m0 : Method := { name := "<init>", desc := "()V", sig := { parameters := [], returnType := none }, accessFlags := 1, code := none }
def k1c1 : Code := { maxStack := 6, maxLocals := 20, code := code, exceptionTable := #[], attributes := #[] }
def k1m1 : Method := { name := "law", desc := "(JIJII)Z", sig := { parameters := [.long, .int, .long, .int, .int], returnType := some .boolean }, accessFlags := 9, code := some k1c1 }
def k1c2 : Code := { maxStack := 5, maxLocals := 7, code := method_3_code, exceptionTable := #[], attributes := #[] }
def k1m2 : Method := { name := "at", desc := "([BJII)Z", sig := { parameters := [(.array .byte), .long, .int, .int], returnType := some .boolean }, accessFlags := 10, code := some k1c2 }
/-- com/example/brevicode/brevicode/BitWriterWritePinLaw -/
def k1 : Class := { plain "com/example/brevicode/brevicode/BitWriterWritePinLaw" (some 0) with
  accessFlags := 49
  interfaces := #[]
  cf := some (fileOf pool1 24 #[] #[{ accessFlags := 1, nameIndex := 5, descriptorIndex := 6, attributes := #[] }, { accessFlags := 9, nameIndex := 31, descriptorIndex := 32, attributes := #[] }, { accessFlags := 10, nameIndex := 27, descriptorIndex := 28, attributes := #[] }] 49 2 #[] #[])
  fields := #[]
  methods := #[k1m0, k1m1, k1m2]
  instanceTypes := #[]
  staticTypes := #[]
  resolved := Array.replicate 38 none
  statics := none }

def pool2 : Array CpInfo := pool [(3, .methodref 4 5), (0, .class_ 6), (0, .nameAndType 7 8), (0, u "java/lang/Object"), (0, u "<init>"), (0, u "()V"), (0, .fieldref 10 11), (0, .class_ 12), (0, .nameAndType 13 14), (0, u "com/example/brevicode/brevicode/BitWriter"), (0, u "bytes"), (0, u "[B"), (0, .fieldref 10 16), (0, .nameAndType 17 18), (0, u "position"), (0, u "I"), (0, .fieldref 10 20), (0, .nameAndType 21 22), (0, u "pending"), (0, u "J"), (0, .fieldref 10 24), (0, .nameAndType 25 18), (0, u "pendingBits"), (25, u "LITTLE_ENDIAN_LONGS"), (0, u "Ljava/lang/invoke/VarHandle;"), (8, u "BIG_ENDIAN_LONGS"), (4, .methodref 10 67), (0, .nameAndType 68 69), (0, u "write"), (0, u "(JI)V"), (17, u "SLACK_BYTES"), (2, u "WORDS_A_STORE"), (1, u "BYTE_SHIFT"), (2, u "start"), (0, u "([BI)V"), (5, u "finish"), (0, u "()I")] 3

def k2c0 : Code := { maxStack := 2, maxLocals := 1, code := prog_2_method_1_code, exceptionTable := #[], attributes := #[] }
def k2m0 : Method := { name := "<init>", desc := "()V", sig := { parameters := [], returnType := none }, accessFlags := 0, code := some k2c0 }
def k2c1 : Code := { maxStack := 3, maxLocals := 3, code := prog_2_method_2_code, exceptionTable := #[], attributes := #[] }
def k2m1 : Method := { name := "start", desc := "([BI)V", sig := { parameters := [(.array .byte), .int], returnType := none }, accessFlags := 0, code := some k2c1 }
def k2c2 : Code := { maxStack := 7, maxLocals := 6, code := prog_2_method_3_code, exceptionTable := #[], attributes := #[] }
def k2m2 : Method := { name := "write", desc := "(JI)V", sig := { parameters := [.long, .int], returnType := none }, accessFlags := 0, code := some k2c2 }
def k2c3 : Code := { maxStack := 5, maxLocals := 1, code := prog_2_method_7_code, exceptionTable := #[], attributes := #[] }
def k2m3 : Method := { name := "finish", desc := "()I", sig := { parameters := [], returnType := some .int }, accessFlags := 0, code := some k2c3 }
/-- com/example/brevicode/brevicode/BitWriter -/
def k2 : Class := { plain "com/example/brevicode/brevicode/BitWriter" (some 0) with
  accessFlags := 48
  interfaces := #[]
  cf := some (fileOf pool2 10 #[] #[{ accessFlags := 0, nameIndex := 7, descriptorIndex := 8, attributes := #[] }, { accessFlags := 0, nameIndex := 95, descriptorIndex := 96, attributes := #[] }, { accessFlags := 0, nameIndex := 68, descriptorIndex := 69, attributes := #[] }, { accessFlags := 0, nameIndex := 102, descriptorIndex := 103, attributes := #[] }] 48 4 #[] #[{ accessFlags := 24, nameIndex := 87, descriptorIndex := 18, attributes := #[] }, { accessFlags := 26, nameIndex := 90, descriptorIndex := 18, attributes := #[] }, { accessFlags := 26, nameIndex := 92, descriptorIndex := 18, attributes := #[] }, { accessFlags := 26, nameIndex := 61, descriptorIndex := 52, attributes := #[] }, { accessFlags := 26, nameIndex := 51, descriptorIndex := 52, attributes := #[] }, { accessFlags := 2, nameIndex := 13, descriptorIndex := 14, attributes := #[] }, { accessFlags := 2, nameIndex := 17, descriptorIndex := 18, attributes := #[] }, { accessFlags := 2, nameIndex := 21, descriptorIndex := 22, attributes := #[] }, { accessFlags := 2, nameIndex := 25, descriptorIndex := 18, attributes := #[] }])
  fields := #[{ name := "SLACK_BYTES", type := .int, accessFlags := 24, slot := 0, constantValue := 0 }, { name := "WORDS_A_STORE", type := .int, accessFlags := 26, slot := 1, constantValue := 0 }, { name := "BYTE_SHIFT", type := .int, accessFlags := 26, slot := 2, constantValue := 0 }, { name := "BIG_ENDIAN_LONGS", type := (.object "java/lang/invoke/VarHandle"), accessFlags := 26, slot := 3, constantValue := 0 }, { name := "LITTLE_ENDIAN_LONGS", type := (.object "java/lang/invoke/VarHandle"), accessFlags := 26, slot := 4, constantValue := 0 }, { name := "bytes", type := (.array .byte), accessFlags := 2, slot := 0, constantValue := 0 }, { name := "position", type := .int, accessFlags := 2, slot := 1, constantValue := 0 }, { name := "pending", type := .long, accessFlags := 2, slot := 2, constantValue := 0 }, { name := "pendingBits", type := .int, accessFlags := 2, slot := 3, constantValue := 0 }]
  methods := #[k2m0, k2m1, k2m2, k2m3]
  instanceTypes := #[(.array .byte), .int, .long, .int]
  staticTypes := #[.int, .int, .int, (.object "java/lang/invoke/VarHandle"), (.object "java/lang/invoke/VarHandle")]
  resolved := Array.replicate 107 none
  statics := none }

def pool3 : Array CpInfo := pool [(1, u "java/lang/Cloneable"), (0, .class_ 1), (0, u "java/lang/Object"), (0, .class_ 3)] 3

/-- java/lang/Cloneable -/
def k3 : Class := { plain "java/lang/Cloneable" (some 0) with
  accessFlags := 1537
  interfaces := #[]
  cf := some (fileOf pool3 2 #[] #[] 1537 4 #[] #[])
  fields := #[]
  methods := #[]
  instanceTypes := #[]
  staticTypes := #[]
  resolved := Array.replicate 8 none
  statics := none }

def pool4 : Array CpInfo := pool [(1, u "java/io/Serializable"), (0, .class_ 1), (0, u "java/lang/Object"), (0, .class_ 3)] 3

/-- java/io/Serializable -/
def k4 : Class := { plain "java/io/Serializable" (some 0) with
  accessFlags := 1537
  interfaces := #[]
  cf := some (fileOf pool4 2 #[] #[] 1537 4 #[] #[])
  fields := #[]
  methods := #[]
  instanceTypes := #[]
  staticTypes := #[]
  resolved := Array.replicate 8 none
  statics := none }

/-- the primitive byte -/
def k5 : Class := { plain "byte" none with kind := .primitive 'B', accessFlags := 0x411 }
/-- [B -/
def k6 : Class := { plain "[B" (some 0) with kind := .array 5 .byte, interfaces := #[3, 4], accessFlags := 1041 }

/-- the primitive int -/
def k7 : Class := { plain "int" none with kind := .primitive 'I', accessFlags := 0x411 }
/-- [I -/
def k8 : Class := { plain "[I" (some 0) with kind := .array 7 .int, interfaces := #[3, 4], accessFlags := 1041 }

def heap : Heap := #[]
def classes : Array Class := #[k0, k1, k2, k3, k4, k5, k6, k7, k8]
def interned : List (Array UInt16 × Addr) := []
def slotsUsed : Nat := 0
def theMethod : MethodId := ⟨1, 1⟩
def args0 : Array Value := #[.long 5, .int 5, .long 5, .int 5, .int 5]
def aboutOver (below : List Frame) : State where
  vm := { classes := classes, interned := interned.toArray }
  heap := heap
  slotsUsed := slotsUsed
  threads := #[{ frames := .invoking theMethod args0 :: below }]
def below0 : List Frame := [.native { method := ⟨0, 0⟩, args := #[] }]
def about1 : State := aboutOver below0
def p0 : Program := .bare "" "" ""
def e0 : Env := launch0.env 0 0 0
theorem w_frames : about1.frames = Frame.invoking theMethod args0 :: below0 := rfl
set_option maxRecDepth 65536 in
theorem w_args : argsFit about1.vm theMethod args0 = true := by decide +kernel
set_option maxRecDepth 65536 in
theorem w_heap : heapFits about1 = true := by decide +kernel
set_option maxRecDepth 65536 in
theorem w_runnable : about1.curStatus? = some .runnable := by decide +kernel
set_option maxRecDepth 65536 in
theorem w_alone : about1.alone = true := by decide +kernel
set_option maxRecDepth 65536 in
theorem w_named : about1.methodNamed? x = some theMethod := by decide +kernel
set_option maxRecDepth 65536 in
theorem w_hears : about1.hears theMethod below0 = true := by decide +kernel
set_option maxRecDepth 65536 in
theorem w_ripe : about1.ripe theMethod args0 below0 = true := by decide +kernel
theorem w_running : about1.status = .running := rfl
set_option maxRecDepth 65536 in
theorem w_room : about1.hasRoom e0.platform room_1 = true :=
  launch0.hasRoom_least _ room_1 (by decide +kernel) (by decide +kernel) (by decide +kernel) (by decide +kernel) (by decide +kernel) (by decide +kernel)
theorem allAtoms_all (ts : List Jvm.Cond) (a : Array Jvm.Value) (st : Jvm.State) : (allAtoms ts).before a st = ts.all (fun c => c.before a st) := by
  induction ts with
  | nil => rfl
  | cons c t ih =>
    show (Jvm.Cond.and c (allAtoms t)).before a st = _
    rw [Jvm.Cond.before_and, ih, List.all_cons]
def words1 : List Jvm.Cond := Jvm.Cond.code x code maxLocals ret :: tables_1
/-- a 'code' word, met by the world's own term for the bytes: nothing is compared byte by byte -/
theorem code_word {y : MethodName} {bytes : ByteArray} {mx : Nat} {rt : Option FieldType} {a : Array Value} {s : State} {m : MethodId} {meth : Method} {c : Code} (h1 : s.methodNamed? y = some m) (h2 : s.vm.method? m = some meth) (h3 : meth.code = some c) (h4 : c.code = bytes)
    (h5 : (c.maxLocals == mx && c.exceptionTable.isEmpty && decide (c.maxStack ≤ mostOperands) && decide (meth.sig.returnType = rt) && !meth.locks && decide (parseMethodDescriptor y.desc = some meth.sig)) = true) : (Jvm.Cond.code y bytes mx rt).before a s = true := by
  simp only [Bool.and_eq_true, beq_iff_eq, Bool.not_eq_true', decide_eq_true_eq] at h5
  obtain ⟨⟨⟨⟨⟨g1, g2⟩, g3⟩, g4⟩, g5⟩, g6⟩ := h5
  simp [Cond.before, Cond.holds, Cond.value, h1, h2, h3, h4, g1, g2, g3, g4, g5, g6]
def isCode : Jvm.Cond → Bool
  | .code _ _ _ _ => true
  | _ => false
theorem all_split {L : List Jvm.Cond} {P : Jvm.Cond → Bool} (h1 : L.all (fun c => isCode c || P c) = true) (h2 : ∀ c ∈ L.filter isCode, P c = true) : L.all P = true := by
  refine List.all_eq_true.mpr fun c hc => ?_
  have h := List.all_eq_true.mp h1 c hc
  rcases Bool.eq_false_or_eq_true (isCode c) with hi | hi
  · exact h2 c (List.mem_filter.mpr ⟨hc, hi⟩)
  · simpa [hi] using h
set_option maxRecDepth 65536 in
theorem w_c0 : (Jvm.Cond.code x code maxLocals ret).before args0 about1 = true := code_word (m := ⟨1, 1⟩) (meth := k1m1) (c := k1c1) (by decide +kernel) rfl rfl rfl (by decide +kernel)
set_option maxRecDepth 65536 in
theorem w_c1 : (Jvm.Cond.code ({ cls := "com/example/brevicode/brevicode/BitWriter", name := "<init>", desc := "()V" } : Jvm.MethodName) prog_2_method_1_code (1 : Nat) (Option.none : Option Jvm.ClassFile.FieldType)).before args0 about1 = true := code_word (m := ⟨2, 0⟩) (meth := k2m0) (c := k2c0) (by decide +kernel) rfl rfl rfl (by decide +kernel)
set_option maxRecDepth 65536 in
theorem w_c2 : (Jvm.Cond.code ({ cls := "java/lang/Object", name := "<init>", desc := "()V" } : Jvm.MethodName) object_method_1_code (1 : Nat) (Option.none : Option Jvm.ClassFile.FieldType)).before args0 about1 = true := code_word (m := ⟨0, 0⟩) (meth := k0m0) (c := k0c0) (by decide +kernel) rfl rfl rfl (by decide +kernel)
set_option maxRecDepth 65536 in
theorem w_c3 : (Jvm.Cond.code ({ cls := "com/example/brevicode/brevicode/BitWriter", name := "start", desc := "([BI)V" } : Jvm.MethodName) prog_2_method_2_code (3 : Nat) (Option.none : Option Jvm.ClassFile.FieldType)).before args0 about1 = true := code_word (m := ⟨2, 1⟩) (meth := k2m1) (c := k2c1) (by decide +kernel) rfl rfl rfl (by decide +kernel)
set_option maxRecDepth 65536 in
theorem w_c4 : (Jvm.Cond.code ({ cls := "com/example/brevicode/brevicode/BitWriter", name := "write", desc := "(JI)V" } : Jvm.MethodName) prog_2_method_3_code (6 : Nat) (Option.none : Option Jvm.ClassFile.FieldType)).before args0 about1 = true := code_word (m := ⟨2, 2⟩) (meth := k2m2) (c := k2c2) (by decide +kernel) rfl rfl rfl (by decide +kernel)
set_option maxRecDepth 65536 in
theorem w_c5 : (Jvm.Cond.code ({ cls := "com/example/brevicode/brevicode/BitWriter", name := "finish", desc := "()I" } : Jvm.MethodName) prog_2_method_7_code (1 : Nat) (Option.some Jvm.ClassFile.FieldType.int)).before args0 about1 = true := code_word (m := ⟨2, 3⟩) (meth := k2m3) (c := k2c3) (by decide +kernel) rfl rfl rfl (by decide +kernel)
set_option maxRecDepth 65536 in
theorem w_c6 : (Jvm.Cond.code ({ cls := "com/example/brevicode/brevicode/BitWriterWritePinLaw", name := "at", desc := "([BJII)Z" } : Jvm.MethodName) method_3_code (7 : Nat) (Option.some Jvm.ClassFile.FieldType.boolean)).before args0 about1 = true := code_word (m := ⟨1, 2⟩) (meth := k1m2) (c := k1c2) (by decide +kernel) rfl rfl rfl (by decide +kernel)
def codes1 : List Jvm.Cond := [Jvm.Cond.code x code maxLocals ret, Jvm.Cond.code ({ cls := "com/example/brevicode/brevicode/BitWriter", name := "<init>", desc := "()V" } : Jvm.MethodName) prog_2_method_1_code (1 : Nat) (Option.none : Option Jvm.ClassFile.FieldType), Jvm.Cond.code ({ cls := "java/lang/Object", name := "<init>", desc := "()V" } : Jvm.MethodName) object_method_1_code (1 : Nat) (Option.none : Option Jvm.ClassFile.FieldType), Jvm.Cond.code ({ cls := "com/example/brevicode/brevicode/BitWriter", name := "start", desc := "([BI)V" } : Jvm.MethodName) prog_2_method_2_code (3 : Nat) (Option.none : Option Jvm.ClassFile.FieldType), Jvm.Cond.code ({ cls := "com/example/brevicode/brevicode/BitWriter", name := "write", desc := "(JI)V" } : Jvm.MethodName) prog_2_method_3_code (6 : Nat) (Option.none : Option Jvm.ClassFile.FieldType), Jvm.Cond.code ({ cls := "com/example/brevicode/brevicode/BitWriter", name := "finish", desc := "()I" } : Jvm.MethodName) prog_2_method_7_code (1 : Nat) (Option.some Jvm.ClassFile.FieldType.int), Jvm.Cond.code ({ cls := "com/example/brevicode/brevicode/BitWriterWritePinLaw", name := "at", desc := "([BJII)Z" } : Jvm.MethodName) method_3_code (7 : Nat) (Option.some Jvm.ClassFile.FieldType.boolean)]
set_option maxRecDepth 65536 in
theorem codes_eq : words1.filter isCode = codes1 := rfl
theorem w_codes : ∀ c ∈ words1.filter isCode, c.before args0 about1 = true := by
  rw [codes_eq]
  intro c hc
  simp only [codes1, List.mem_cons, List.not_mem_nil, or_false] at hc
  rcases hc with rfl | rfl | rfl | rfl | rfl | rfl | rfl
  · exact w_c0
  · exact w_c1
  · exact w_c2
  · exact w_c3
  · exact w_c4
  · exact w_c5
  · exact w_c6
set_option maxRecDepth 65536 in
theorem w_t1 : (words1.take 24).all (fun c => isCode c || c.before args0 about1) = true := by decide +kernel
set_option maxRecDepth 65536 in
theorem w_t2 : (words1.drop 24).all (fun c => isCode c || c.before args0 about1) = true := by decide +kernel
theorem w_tables : (allAtoms (Jvm.Cond.code x code maxLocals ret :: tables_1)).before args0 about1 = true := by
  rw [allAtoms_all]
  show words1.all (fun c => c.before args0 about1) = true
  refine all_split ?_ w_codes
  rw [← List.take_append_drop 24 words1, List.all_append, w_t1, w_t2]
  rfl
set_option maxRecDepth 65536 in
theorem w_case : (Jvm.Cond.and given_1 narrow_1).before args0 about1 = true := by decide +kernel
theorem w_applies : (headSpec (Jvm.Cond.code x code maxLocals ret :: tables_1) room_1).applies x e0.platform about1 = true :=
  (Spec.applies_iff w_frames).mpr ⟨w_running, w_runnable, w_alone, w_named, w_hears, w_ripe, w_room, w_tables⟩
theorem atStart : AtStart classFile x code maxLocals ret World_1 tables_1 room_1 Calls_1 rest_1 Pre_1 launch0 p0 e0 about1 theMethod args0 below0 :=
  ⟨lists_1, trivial, launch0.admits_env _ _ _, launch0.least_env, fairChoices_fair.cas, fairChoices_fair.clock, w_frames, w_args, w_heap, w_applies, trivial, trivial, w_case⟩
end start1
theorem witness_1 : WitnessClaimed_1 := ⟨start1.p0, start1.e0, start1.about1, start1.theMethod, start1.args0, start1.below0, start1.atStart⟩
end Jvm.Pilot.@@N@@
