import JvmDerived
import JvmDerived.Pilot.@@N@@Statement
import JvmDerived.Pilot.@@N@@Code
set_option linter.unusedVariables false
set_option linter.unusedSimpArgs false
namespace Jvm.Pilot.@@N@@
open Jvm Jvm.ClassFile Sem Op Lib Jvm.Free Jvm.Stand Jvm.LawKit Jvm.RoadKit Bundle Jvm.Pilot.@@N@@.Jvm.D
section OwnKit
variable {p : Program} {l : Launch} {e : Env} {R : Room} {s : State} {m : MethodId} {args : Array Value} {below : List Frame} {meth : Method} {c : Code} {T : State} {locs : List Loc} {cells slots : Nat} {K : State → Prop} {Ls : Array Slot} {rest : List Value} {pc : Nat} {bytes : ByteArray}
def Goes (p : Program) (e : Env) (below : List Frame) (K : State → Prop) (S : State) : Prop := ∃ t, Steps p.tables e below S t ∧ K t
theorem Goes.of {S S' : State} (st : ∀ t, Steps p.tables e below S' t → Steps p.tables e below S t) (h : Goes p e below K S') : Goes p e below K S := h.elim fun t ht => ⟨t, st t ht.1, ht.2⟩
theorem Goes.entry {g g' : JFrame} (q : g = g') (k : Goes p e below K (T.setTop g')) : Goes p e below K (T.setTop g) := q ▸ k
def Kend (s : State) (below : List Frame) (Q : Option Value → Heap → List Loc → Prop) (C S : Nat) (t : State) : Prop := ∃ o, t.status = .running ∧ Ended t below o ∧ ∃ v L, o = .returned v ∧ Q v t.heap L ∧ FrameEnd s o t L C S
def Ctr (l : Launch) (y : MethodName) (bytes : ByteArray) (maxL : Nat) (ret : Option FieldType) (ws : List Jvm.Cond) (rm : Room) (as' : Array Value) (Z : State) (h0 : Heap) (Q : Option Value → Heap → List Loc → Prop) : Prop :=
  MetFree l y (head1 (Jvm.Cond.code y bytes maxL ret :: ws) rm) (fun a U => a = as' ∧ Z.Warmed39 U.vm ∧ U.heap = h0) (fun _ _ _ _ _ => True) (fun _ U o U' => ∃ v L, o = .returned v ∧ Q v U'.heap L ∧ FrameEnd U o U' L rm.cells rm.slots)
theorem own_body {y : MethodName} {maxL : Nat} {ret : Option FieldType} {ws : List Jvm.Cond} {rm : Room} {as' : Array Value} {Z : State} {h0 : Heap} {Q : Option Value → Heap → List Loc → Prop} (hpl : plainFor y = true)
    (H : ∀ (p : Program) (e : Env) (s : State) (m : MethodId) (below : List Frame) (meth : Method) (c : Code) (s₁ : State), p.tables.exec = Jvm.exec → c.code = bytes → c.maxLocals = maxL → s.vm.findClass y.cls = some m.cls → meth.name = y.name → meth.sig.returnType = ret → meth.locks = false → Z.Warmed39 s.vm →
      Stand p l e rm s m as' below meth c s₁ [] 0 0 → s₁.heap = h0 → Goes p e below (Kend s below Q rm.cells rm.slots) (s₁.setTop (entryFrame m as' maxL))) : Ctr l y bytes maxL ret ws rm as' Z h0 Q := by
  refine MetFree.of_bodySF hpl hisR ?_
  intro p e s m args below meth c s₁ Bd hml0 hP hK
  obtain ⟨rfl, hZ, hh⟩ := hP
  obtain ⟨t, h1, o, h2, h3, h4⟩ := H p e s m below meth c s₁ Bd.exec Bd.bytes hml0 (findClass_of_methodNamed Bd.named) (name_of_methodNamed Bd.named Bd.method).1 Bd.returns Bd.notSynchronized hZ (Stand.of_body Bd) (by rw [← hh, Bd.state]; rfl)
  exact ⟨t, o, h1, h2, h3, h4⟩

theorem own_store1 {l l' : Array Slot} {i : Nat} {v : Value} {o : Slot} (hold : l[i]? = some o) (ho : One o) (hv : v.category = 1) (e : l.setIfInBounds i (.val v) = l') : storeLocals l i v = some l' := e ▸ XS.store1 hold ho hv
theorem g_iadd (X : Stand p l e R s m args below meth c T locs cells slots) (hx : p.tables.exec = Jvm.exec) (hby : c.code = bytes) {x y : Int32} (hd : decode bytes pc = .ok (.iadd, 1)) (q : Nat) (hq : pc + 1 = q) (k : Goes p e below K (T.setTop (mkF m q Ls (.int (x + y) :: rest)))) : Goes p e below K (T.setTop (mkF m pc Ls (.int y :: .int x :: rest))) := by
  subst hq; exact Goes.of (fun t kt => XS.iadd X.here hx rfl (hb hby hd) rfl kt) k
theorem g_isub (X : Stand p l e R s m args below meth c T locs cells slots) (hx : p.tables.exec = Jvm.exec) (hby : c.code = bytes) {x y : Int32} (hd : decode bytes pc = .ok (.isub, 1)) (q : Nat) (hq : pc + 1 = q) (k : Goes p e below K (T.setTop (mkF m q Ls (.int (x - y) :: rest)))) : Goes p e below K (T.setTop (mkF m pc Ls (.int y :: .int x :: rest))) := by
  subst hq; exact Goes.of (fun t kt => XS.isub X.here hx rfl (hb hby hd) rfl kt) k
theorem g_imul (X : Stand p l e R s m args below meth c T locs cells slots) (hx : p.tables.exec = Jvm.exec) (hby : c.code = bytes) {x y : Int32} (hd : decode bytes pc = .ok (.imul, 1)) (q : Nat) (hq : pc + 1 = q) (k : Goes p e below K (T.setTop (mkF m q Ls (.int (x * y) :: rest)))) : Goes p e below K (T.setTop (mkF m pc Ls (.int y :: .int x :: rest))) := by
  subst hq; exact Goes.of (fun t kt => XS.imul X.here hx rfl (hb hby hd) rfl kt) k
theorem g_iand (X : Stand p l e R s m args below meth c T locs cells slots) (hx : p.tables.exec = Jvm.exec) (hby : c.code = bytes) {x y : Int32} (hd : decode bytes pc = .ok (.iand, 1)) (q : Nat) (hq : pc + 1 = q) (k : Goes p e below K (T.setTop (mkF m q Ls (.int (x &&& y) :: rest)))) : Goes p e below K (T.setTop (mkF m pc Ls (.int y :: .int x :: rest))) := by
  subst hq; exact Goes.of (fun t kt => XS.iand X.here hx rfl (hb hby hd) rfl kt) k
theorem g_ior (X : Stand p l e R s m args below meth c T locs cells slots) (hx : p.tables.exec = Jvm.exec) (hby : c.code = bytes) {x y : Int32} (hd : decode bytes pc = .ok (.ior, 1)) (q : Nat) (hq : pc + 1 = q) (k : Goes p e below K (T.setTop (mkF m q Ls (.int (x ||| y) :: rest)))) : Goes p e below K (T.setTop (mkF m pc Ls (.int y :: .int x :: rest))) := by
  subst hq; exact Goes.of (fun t kt => XS.ior X.here hx rfl (hb hby hd) rfl kt) k
theorem g_ixor (X : Stand p l e R s m args below meth c T locs cells slots) (hx : p.tables.exec = Jvm.exec) (hby : c.code = bytes) {x y : Int32} (hd : decode bytes pc = .ok (.ixor, 1)) (q : Nat) (hq : pc + 1 = q) (k : Goes p e below K (T.setTop (mkF m q Ls (.int (x ^^^ y) :: rest)))) : Goes p e below K (T.setTop (mkF m pc Ls (.int y :: .int x :: rest))) := by
  subst hq; exact Goes.of (fun t kt => XS.ixor X.here hx rfl (hb hby hd) rfl kt) k
theorem g_ishl (X : Stand p l e R s m args below meth c T locs cells slots) (hx : p.tables.exec = Jvm.exec) (hby : c.code = bytes) {x y : Int32} (hd : decode bytes pc = .ok (.ishl, 1)) (q : Nat) (hq : pc + 1 = q) (k : Goes p e below K (T.setTop (mkF m q Ls (.int (x <<< (y &&& 31)) :: rest)))) : Goes p e below K (T.setTop (mkF m pc Ls (.int y :: .int x :: rest))) := by
  subst hq; exact Goes.of (fun t kt => XS.ishl X.here hx rfl (hb hby hd) rfl kt) k
theorem g_ishr (X : Stand p l e R s m args below meth c T locs cells slots) (hx : p.tables.exec = Jvm.exec) (hby : c.code = bytes) {x y : Int32} (hd : decode bytes pc = .ok (.ishr, 1)) (q : Nat) (hq : pc + 1 = q) (k : Goes p e below K (T.setTop (mkF m q Ls (.int (x >>> (y &&& 31)) :: rest)))) : Goes p e below K (T.setTop (mkF m pc Ls (.int y :: .int x :: rest))) := by
  subst hq; exact Goes.of (fun t kt => XS.ishr X.here hx rfl (hb hby hd) rfl kt) k
theorem g_iushr (X : Stand p l e R s m args below meth c T locs cells slots) (hx : p.tables.exec = Jvm.exec) (hby : c.code = bytes) {x y : Int32} (hd : decode bytes pc = .ok (.iushr, 1)) (q : Nat) (hq : pc + 1 = q) (k : Goes p e below K (T.setTop (mkF m q Ls (.int ((x.toUInt32 >>> (y &&& 31).toUInt32).toInt32) :: rest)))) : Goes p e below K (T.setTop (mkF m pc Ls (.int y :: .int x :: rest))) := by
  subst hq; exact Goes.of (fun t kt => XS.iushr X.here hx rfl (hb hby hd) rfl kt) k
theorem g_ladd (X : Stand p l e R s m args below meth c T locs cells slots) (hx : p.tables.exec = Jvm.exec) (hby : c.code = bytes) {x y : Int64} (hd : decode bytes pc = .ok (.ladd, 1)) (q : Nat) (hq : pc + 1 = q) (k : Goes p e below K (T.setTop (mkF m q Ls (.long (x + y) :: rest)))) : Goes p e below K (T.setTop (mkF m pc Ls (.long y :: .long x :: rest))) := by
  subst hq; exact Goes.of (fun t kt => XS.ladd X.here hx rfl (hb hby hd) rfl kt) k
theorem g_lsub (X : Stand p l e R s m args below meth c T locs cells slots) (hx : p.tables.exec = Jvm.exec) (hby : c.code = bytes) {x y : Int64} (hd : decode bytes pc = .ok (.lsub, 1)) (q : Nat) (hq : pc + 1 = q) (k : Goes p e below K (T.setTop (mkF m q Ls (.long (x - y) :: rest)))) : Goes p e below K (T.setTop (mkF m pc Ls (.long y :: .long x :: rest))) := by
  subst hq; exact Goes.of (fun t kt => XS.lsub X.here hx rfl (hb hby hd) rfl kt) k
theorem g_lmul (X : Stand p l e R s m args below meth c T locs cells slots) (hx : p.tables.exec = Jvm.exec) (hby : c.code = bytes) {x y : Int64} (hd : decode bytes pc = .ok (.lmul, 1)) (q : Nat) (hq : pc + 1 = q) (k : Goes p e below K (T.setTop (mkF m q Ls (.long (x * y) :: rest)))) : Goes p e below K (T.setTop (mkF m pc Ls (.long y :: .long x :: rest))) := by
  subst hq; exact Goes.of (fun t kt => XS.lmul X.here hx rfl (hb hby hd) rfl kt) k
theorem g_land (X : Stand p l e R s m args below meth c T locs cells slots) (hx : p.tables.exec = Jvm.exec) (hby : c.code = bytes) {x y : Int64} (hd : decode bytes pc = .ok (.land, 1)) (q : Nat) (hq : pc + 1 = q) (k : Goes p e below K (T.setTop (mkF m q Ls (.long (x &&& y) :: rest)))) : Goes p e below K (T.setTop (mkF m pc Ls (.long y :: .long x :: rest))) := by
  subst hq; exact Goes.of (fun t kt => XS.land X.here hx rfl (hb hby hd) rfl kt) k
theorem g_lor (X : Stand p l e R s m args below meth c T locs cells slots) (hx : p.tables.exec = Jvm.exec) (hby : c.code = bytes) {x y : Int64} (hd : decode bytes pc = .ok (.lor, 1)) (q : Nat) (hq : pc + 1 = q) (k : Goes p e below K (T.setTop (mkF m q Ls (.long (x ||| y) :: rest)))) : Goes p e below K (T.setTop (mkF m pc Ls (.long y :: .long x :: rest))) := by
  subst hq; exact Goes.of (fun t kt => XS.lor X.here hx rfl (hb hby hd) rfl kt) k
theorem g_lxor (X : Stand p l e R s m args below meth c T locs cells slots) (hx : p.tables.exec = Jvm.exec) (hby : c.code = bytes) {x y : Int64} (hd : decode bytes pc = .ok (.lxor, 1)) (q : Nat) (hq : pc + 1 = q) (k : Goes p e below K (T.setTop (mkF m q Ls (.long (x ^^^ y) :: rest)))) : Goes p e below K (T.setTop (mkF m pc Ls (.long y :: .long x :: rest))) := by
  subst hq; exact Goes.of (fun t kt => XS.lxor X.here hx rfl (hb hby hd) rfl kt) k
theorem g_lshl (X : Stand p l e R s m args below meth c T locs cells slots) (hx : p.tables.exec = Jvm.exec) (hby : c.code = bytes) {x : Int64} {y : Int32} (hd : decode bytes pc = .ok (.lshl, 1)) (q : Nat) (hq : pc + 1 = q) (k : Goes p e below K (T.setTop (mkF m q Ls (.long (x <<< (y &&& 0x3f).toInt64) :: rest)))) : Goes p e below K (T.setTop (mkF m pc Ls (.int y :: .long x :: rest))) := by
  subst hq; exact Goes.of (fun t kt => XS.lshl X.here hx rfl (hb hby hd) rfl kt) k
theorem g_lshr (X : Stand p l e R s m args below meth c T locs cells slots) (hx : p.tables.exec = Jvm.exec) (hby : c.code = bytes) {x : Int64} {y : Int32} (hd : decode bytes pc = .ok (.lshr, 1)) (q : Nat) (hq : pc + 1 = q) (k : Goes p e below K (T.setTop (mkF m q Ls (.long (x >>> (y &&& 0x3f).toInt64) :: rest)))) : Goes p e below K (T.setTop (mkF m pc Ls (.int y :: .long x :: rest))) := by
  subst hq; exact Goes.of (fun t kt => XS.lshr X.here hx rfl (hb hby hd) rfl kt) k
theorem g_lushr (X : Stand p l e R s m args below meth c T locs cells slots) (hx : p.tables.exec = Jvm.exec) (hby : c.code = bytes) {x : Int64} {y : Int32} (hd : decode bytes pc = .ok (.lushr, 1)) (q : Nat) (hq : pc + 1 = q) (k : Goes p e below K (T.setTop (mkF m q Ls (.long ((x.toUInt64 >>> (y &&& 0x3f).toInt64.toUInt64).toInt64) :: rest)))) : Goes p e below K (T.setTop (mkF m pc Ls (.int y :: .long x :: rest))) := by
  subst hq; exact Goes.of (fun t kt => XS.lushr X.here hx rfl (hb hby hd) rfl kt) k
theorem g_idiv (X : Stand p l e R s m args below meth c T locs cells slots) (hx : p.tables.exec = Jvm.exec) (hby : c.code = bytes) {x y : Int32} (hd : decode bytes pc = .ok (.idiv, 1)) (hy : y ≠ 0) (q : Nat) (hq : pc + 1 = q) (k : Goes p e below K (T.setTop (mkF m q Ls (.int (x / y) :: rest)))) : Goes p e below K (T.setTop (mkF m pc Ls (.int y :: .int x :: rest))) := by
  subst hq; exact Goes.of (fun t kt => XS.idiv X.here hx rfl (hb hby hd) rfl hy kt) k
theorem g_ldiv (X : Stand p l e R s m args below meth c T locs cells slots) (hx : p.tables.exec = Jvm.exec) (hby : c.code = bytes) {x y : Int64} (hd : decode bytes pc = .ok (.ldiv, 1)) (hy : y ≠ 0) (q : Nat) (hq : pc + 1 = q) (k : Goes p e below K (T.setTop (mkF m q Ls (.long (x / y) :: rest)))) : Goes p e below K (T.setTop (mkF m pc Ls (.long y :: .long x :: rest))) := by
  subst hq; exact Goes.of (fun t kt => XS.ldiv X.here hx rfl (hb hby hd) rfl hy kt) k
theorem g_irem (X : Stand p l e R s m args below meth c T locs cells slots) (hx : p.tables.exec = Jvm.exec) (hby : c.code = bytes) {x y : Int32} (hd : decode bytes pc = .ok (.irem, 1)) (hy : y ≠ 0) (q : Nat) (hq : pc + 1 = q) (k : Goes p e below K (T.setTop (mkF m q Ls (.int (x % y) :: rest)))) : Goes p e below K (T.setTop (mkF m pc Ls (.int y :: .int x :: rest))) := by
  subst hq; exact Goes.of (fun t kt => iremM X hx rfl (hb hby hd) rfl hy kt) k
theorem g_lrem (X : Stand p l e R s m args below meth c T locs cells slots) (hx : p.tables.exec = Jvm.exec) (hby : c.code = bytes) {x y : Int64} (hd : decode bytes pc = .ok (.lrem, 1)) (hy : y ≠ 0) (q : Nat) (hq : pc + 1 = q) (k : Goes p e below K (T.setTop (mkF m q Ls (.long (x % y) :: rest)))) : Goes p e below K (T.setTop (mkF m pc Ls (.long y :: .long x :: rest))) := by
  subst hq; rw [← lrem_mod x y] at k; exact Goes.of (fun t kt => XS.lrem X.here hx rfl (hb hby hd) rfl hy kt) k
theorem g_ineg (X : Stand p l e R s m args below meth c T locs cells slots) (hx : p.tables.exec = Jvm.exec) (hby : c.code = bytes) {x : Int32} (hd : decode bytes pc = .ok (.ineg, 1)) (q : Nat) (hq : pc + 1 = q) (k : Goes p e below K (T.setTop (mkF m q Ls (.int (-x) :: rest)))) : Goes p e below K (T.setTop (mkF m pc Ls (.int x :: rest))) := by
  subst hq; exact Goes.of (fun t kt => XS.ineg X.here hx rfl (hb hby hd) rfl kt) k
theorem g_lneg (X : Stand p l e R s m args below meth c T locs cells slots) (hx : p.tables.exec = Jvm.exec) (hby : c.code = bytes) {x : Int64} (hd : decode bytes pc = .ok (.lneg, 1)) (q : Nat) (hq : pc + 1 = q) (k : Goes p e below K (T.setTop (mkF m q Ls (.long (-x) :: rest)))) : Goes p e below K (T.setTop (mkF m pc Ls (.long x :: rest))) := by
  subst hq; exact Goes.of (fun t kt => XS.lneg X.here hx rfl (hb hby hd) rfl kt) k
theorem g_i2l (X : Stand p l e R s m args below meth c T locs cells slots) (hx : p.tables.exec = Jvm.exec) (hby : c.code = bytes) {x : Int32} (hd : decode bytes pc = .ok (.i2l, 1)) (q : Nat) (hq : pc + 1 = q) (k : Goes p e below K (T.setTop (mkF m q Ls (.long (x.toInt64) :: rest)))) : Goes p e below K (T.setTop (mkF m pc Ls (.int x :: rest))) := by
  subst hq; exact Goes.of (fun t kt => XS.i2l X.here hx rfl (hb hby hd) rfl kt) k
theorem g_l2i (X : Stand p l e R s m args below meth c T locs cells slots) (hx : p.tables.exec = Jvm.exec) (hby : c.code = bytes) {x : Int64} (hd : decode bytes pc = .ok (.l2i, 1)) (q : Nat) (hq : pc + 1 = q) (k : Goes p e below K (T.setTop (mkF m q Ls (.int (x.toInt32) :: rest)))) : Goes p e below K (T.setTop (mkF m pc Ls (.long x :: rest))) := by
  subst hq; exact Goes.of (fun t kt => XS.l2i X.here hx rfl (hb hby hd) rfl kt) k
theorem g_i2b (X : Stand p l e R s m args below meth c T locs cells slots) (hx : p.tables.exec = Jvm.exec) (hby : c.code = bytes) {x : Int32} (hd : decode bytes pc = .ok (.i2b, 1)) (q : Nat) (hq : pc + 1 = q) (k : Goes p e below K (T.setTop (mkF m q Ls (.int (x.toInt8.toInt32) :: rest)))) : Goes p e below K (T.setTop (mkF m pc Ls (.int x :: rest))) := by
  subst hq; exact Goes.of (fun t kt => XS.i2b X.here hx rfl (hb hby hd) rfl kt) k
theorem g_i2s (X : Stand p l e R s m args below meth c T locs cells slots) (hx : p.tables.exec = Jvm.exec) (hby : c.code = bytes) {x : Int32} (hd : decode bytes pc = .ok (.i2s, 1)) (q : Nat) (hq : pc + 1 = q) (k : Goes p e below K (T.setTop (mkF m q Ls (.int (x.toInt16.toInt32) :: rest)))) : Goes p e below K (T.setTop (mkF m pc Ls (.int x :: rest))) := by
  subst hq; exact Goes.of (fun t kt => XS.i2s X.here hx rfl (hb hby hd) rfl kt) k
theorem g_i2c (X : Stand p l e R s m args below meth c T locs cells slots) (hx : p.tables.exec = Jvm.exec) (hby : c.code = bytes) {x : Int32} (hd : decode bytes pc = .ok (.i2c, 1)) (q : Nat) (hq : pc + 1 = q) (k : Goes p e below K (T.setTop (mkF m q Ls (.int (x.toUInt32.toUInt16.toUInt32.toInt32) :: rest)))) : Goes p e below K (T.setTop (mkF m pc Ls (.int x :: rest))) := by
  subst hq; exact Goes.of (fun t kt => XS.i2c X.here hx rfl (hb hby hd) rfl kt) k
theorem g_iloadN (X : Stand p l e R s m args below meth c T locs cells slots) (hx : p.tables.exec = Jvm.exec) (hby : c.code = bytes) {k : Fin 4} {v : Int32} (hd : decode bytes pc = .ok (.iload_n k, 1)) (hl : Ls[k.val]? = some (.val (.int v))) (q : Nat) (hq : pc + 1 = q) (k : Goes p e below K (T.setTop (mkF m q Ls (.int v :: rest)))) : Goes p e below K (T.setTop (mkF m pc Ls rest)) := by
  subst hq; exact Goes.of (fun t kt => XS.iloadN X.here hx rfl (hb hby hd) hl kt) k
theorem g_iload (X : Stand p l e R s m args below meth c T locs cells slots) (hx : p.tables.exec = Jvm.exec) (hby : c.code = bytes) {k : Nat} {v : Int32} (hd : decode bytes pc = .ok (.iload k, 2)) (hl : Ls[k]? = some (.val (.int v))) (q : Nat) (hq : pc + 2 = q) (k : Goes p e below K (T.setTop (mkF m q Ls (.int v :: rest)))) : Goes p e below K (T.setTop (mkF m pc Ls rest)) := by
  subst hq; exact Goes.of (fun t kt => XS.iload X.here hx rfl (hb hby hd) hl kt) k
theorem g_lloadN (X : Stand p l e R s m args below meth c T locs cells slots) (hx : p.tables.exec = Jvm.exec) (hby : c.code = bytes) {k : Fin 4} {v : Int64} (hd : decode bytes pc = .ok (.lload_n k, 1)) (hl : Ls[k.val]? = some (.val (.long v))) (q : Nat) (hq : pc + 1 = q) (k : Goes p e below K (T.setTop (mkF m q Ls (.long v :: rest)))) : Goes p e below K (T.setTop (mkF m pc Ls rest)) := by
  subst hq; exact Goes.of (fun t kt => XS.lloadN X.here hx rfl (hb hby hd) hl kt) k
theorem g_lload (X : Stand p l e R s m args below meth c T locs cells slots) (hx : p.tables.exec = Jvm.exec) (hby : c.code = bytes) {k : Nat} {v : Int64} (hd : decode bytes pc = .ok (.lload k, 2)) (hl : Ls[k]? = some (.val (.long v))) (q : Nat) (hq : pc + 2 = q) (k : Goes p e below K (T.setTop (mkF m q Ls (.long v :: rest)))) : Goes p e below K (T.setTop (mkF m pc Ls rest)) := by
  subst hq; exact Goes.of (fun t kt => XS.lload X.here hx rfl (hb hby hd) hl kt) k
theorem g_aloadN (X : Stand p l e R s m args below meth c T locs cells slots) (hx : p.tables.exec = Jvm.exec) (hby : c.code = bytes) {k : Fin 4} {v : Value} (hd : decode bytes pc = .ok (.aload_n k, 1)) (hl : Ls[k.val]? = some (.val v)) (hv : v.isRef = true) (q : Nat) (hq : pc + 1 = q) (k : Goes p e below K (T.setTop (mkF m q Ls (v :: rest)))) : Goes p e below K (T.setTop (mkF m pc Ls rest)) := by
  subst hq; exact Goes.of (fun t kt => XS.aloadN X.here hx rfl (hb hby hd) hl hv kt) k
theorem g_aload (X : Stand p l e R s m args below meth c T locs cells slots) (hx : p.tables.exec = Jvm.exec) (hby : c.code = bytes) {k : Nat} {v : Value} (hd : decode bytes pc = .ok (.aload k, 2)) (hl : Ls[k]? = some (.val v)) (hv : v.isRef = true) (q : Nat) (hq : pc + 2 = q) (k : Goes p e below K (T.setTop (mkF m q Ls (v :: rest)))) : Goes p e below K (T.setTop (mkF m pc Ls rest)) := by
  subst hq; exact Goes.of (fun t kt => XS.aload X.here hx rfl (hb hby hd) hl hv kt) k
theorem g_istoreN (X : Stand p l e R s m args below meth c T locs cells slots) (hx : p.tables.exec = Jvm.exec) (hby : c.code = bytes) {k : Fin 4} {x : Int32} (hd : decode bytes pc = .ok (.istore_n k, 1)) (y : Int32) (hxy : x = y) (L' : Array Slot) (hl : storeLocals Ls k.val (.int y) = some L') (q : Nat) (hq : pc + 1 = q) (k : Goes p e below K (T.setTop (mkF m q L' rest))) : Goes p e below K (T.setTop (mkF m pc Ls (.int x :: rest))) := by
  subst hq hxy; exact Goes.of (fun t kt => XS.istoreN X.here hx rfl (hb hby hd) rfl hl kt) k
theorem g_istore (X : Stand p l e R s m args below meth c T locs cells slots) (hx : p.tables.exec = Jvm.exec) (hby : c.code = bytes) {k : Nat} {x : Int32} (hd : decode bytes pc = .ok (.istore k, 2)) (y : Int32) (hxy : x = y) (L' : Array Slot) (hl : storeLocals Ls k (.int y) = some L') (q : Nat) (hq : pc + 2 = q) (k : Goes p e below K (T.setTop (mkF m q L' rest))) : Goes p e below K (T.setTop (mkF m pc Ls (.int x :: rest))) := by
  subst hq hxy; exact Goes.of (fun t kt => XS.istore X.here hx rfl (hb hby hd) rfl hl kt) k
theorem g_lstoreN (X : Stand p l e R s m args below meth c T locs cells slots) (hx : p.tables.exec = Jvm.exec) (hby : c.code = bytes) {k : Fin 4} {x : Int64} (hd : decode bytes pc = .ok (.lstore_n k, 1)) (y : Int64) (hxy : x = y) (L' : Array Slot) (hl : storeLocals Ls k.val (.long y) = some L') (q : Nat) (hq : pc + 1 = q) (k : Goes p e below K (T.setTop (mkF m q L' rest))) : Goes p e below K (T.setTop (mkF m pc Ls (.long x :: rest))) := by
  subst hq hxy; exact Goes.of (fun t kt => XS.lstoreN X.here hx rfl (hb hby hd) rfl hl kt) k
theorem g_lstore (X : Stand p l e R s m args below meth c T locs cells slots) (hx : p.tables.exec = Jvm.exec) (hby : c.code = bytes) {k : Nat} {x : Int64} (hd : decode bytes pc = .ok (.lstore k, 2)) (y : Int64) (hxy : x = y) (L' : Array Slot) (hl : storeLocals Ls k (.long y) = some L') (q : Nat) (hq : pc + 2 = q) (k : Goes p e below K (T.setTop (mkF m q L' rest))) : Goes p e below K (T.setTop (mkF m pc Ls (.long x :: rest))) := by
  subst hq hxy; exact Goes.of (fun t kt => XS.lstore X.here hx rfl (hb hby hd) rfl hl kt) k
theorem g_astoreN (X : Stand p l e R s m args below meth c T locs cells slots) (hx : p.tables.exec = Jvm.exec) (hby : c.code = bytes) {k : Fin 4} {x : Value} (hd : decode bytes pc = .ok (.astore_n k, 1)) (hv : x.isRef = true) (L' : Array Slot) (hl : storeLocals Ls k.val x = some L') (q : Nat) (hq : pc + 1 = q) (k : Goes p e below K (T.setTop (mkF m q L' rest))) : Goes p e below K (T.setTop (mkF m pc Ls (x :: rest))) := by
  subst hq; exact Goes.of (fun t kt => XS.astoreN X.here hx rfl (hb hby hd) rfl hv hl kt) k
theorem g_astore (X : Stand p l e R s m args below meth c T locs cells slots) (hx : p.tables.exec = Jvm.exec) (hby : c.code = bytes) {k : Nat} {x : Value} (hd : decode bytes pc = .ok (.astore k, 2)) (hv : x.isRef = true) (L' : Array Slot) (hl : storeLocals Ls k x = some L') (q : Nat) (hq : pc + 2 = q) (k : Goes p e below K (T.setTop (mkF m q L' rest))) : Goes p e below K (T.setTop (mkF m pc Ls (x :: rest))) := by
  subst hq; exact Goes.of (fun t kt => XS.astore X.here hx rfl (hb hby hd) rfl hv hl kt) k
theorem g_iconst (X : Stand p l e R s m args below meth c T locs cells slots) (hx : p.tables.exec = Jvm.exec) (hby : c.code = bytes) {i : Int} (hd : decode bytes pc = .ok (.iconst i, 1)) (v : Int32) (hv : Int32.ofInt i = v) (q : Nat) (hq : pc + 1 = q) (k : Goes p e below K (T.setTop (mkF m q Ls (.int v :: rest)))) : Goes p e below K (T.setTop (mkF m pc Ls rest)) := by
  subst hq hv; exact Goes.of (fun t kt => XS.iconst X.here hx rfl (hb hby hd) kt) k
theorem g_bipush (X : Stand p l e R s m args below meth c T locs cells slots) (hx : p.tables.exec = Jvm.exec) (hby : c.code = bytes) {i : Int} (hd : decode bytes pc = .ok (.bipush i, 2)) (v : Int32) (hv : (Int8.ofInt i).toInt32 = v) (q : Nat) (hq : pc + 2 = q) (k : Goes p e below K (T.setTop (mkF m q Ls (.int v :: rest)))) : Goes p e below K (T.setTop (mkF m pc Ls rest)) := by
  subst hq hv; exact Goes.of (fun t kt => XS.bipush X.here hx rfl (hb hby hd) kt) k
theorem g_sipush (X : Stand p l e R s m args below meth c T locs cells slots) (hx : p.tables.exec = Jvm.exec) (hby : c.code = bytes) {i : Int} (hd : decode bytes pc = .ok (.sipush i, 3)) (v : Int32) (hv : (Int16.ofInt i).toInt32 = v) (q : Nat) (hq : pc + 3 = q) (k : Goes p e below K (T.setTop (mkF m q Ls (.int v :: rest)))) : Goes p e below K (T.setTop (mkF m pc Ls rest)) := by
  subst hq hv; exact Goes.of (fun t kt => XS.sipush X.here hx rfl (hb hby hd) kt) k
theorem g_lconst (X : Stand p l e R s m args below meth c T locs cells slots) (hx : p.tables.exec = Jvm.exec) (hby : c.code = bytes) {i : Fin 2} (hd : decode bytes pc = .ok (.lconst i, 1)) (v : Int64) (hv : Int64.ofNat i = v) (q : Nat) (hq : pc + 1 = q) (k : Goes p e below K (T.setTop (mkF m q Ls (.long v :: rest)))) : Goes p e below K (T.setTop (mkF m pc Ls rest)) := by
  subst hq hv; exact Goes.of (fun t kt => XS.lconst X.here hx rfl (hb hby hd) kt) k
theorem g_aconst_null (X : Stand p l e R s m args below meth c T locs cells slots) (hx : p.tables.exec = Jvm.exec) (hby : c.code = bytes)  (hd : decode bytes pc = .ok (.aconst_null, 1)) (q : Nat) (hq : pc + 1 = q) (k : Goes p e below K (T.setTop (mkF m q Ls (.null :: rest)))) : Goes p e below K (T.setTop (mkF m pc Ls rest)) := by
  subst hq; exact Goes.of (fun t kt => XS.aconstNull X.here hx rfl (hb hby hd) kt) k
theorem g_dup (X : Stand p l e R s m args below meth c T locs cells slots) (hx : p.tables.exec = Jvm.exec) (hby : c.code = bytes) {x : Value} (hd : decode bytes pc = .ok (.dup, 1)) (hc : x.category = 1) (q : Nat) (hq : pc + 1 = q) (k : Goes p e below K (T.setTop (mkF m q Ls (x :: x :: rest)))) : Goes p e below K (T.setTop (mkF m pc Ls (x :: rest))) := by
  subst hq; exact Goes.of (fun t kt => XS.dup X.here hx rfl (hb hby hd) rfl hc kt) k
theorem g_pop (X : Stand p l e R s m args below meth c T locs cells slots) (hx : p.tables.exec = Jvm.exec) (hby : c.code = bytes) {x : Value} (hd : decode bytes pc = .ok (.pop, 1)) (hc : x.category = 1) (q : Nat) (hq : pc + 1 = q) (k : Goes p e below K (T.setTop (mkF m q Ls rest))) : Goes p e below K (T.setTop (mkF m pc Ls (x :: rest))) := by
  subst hq; exact Goes.of (fun t kt => XS.pop X.here hx rfl (hb hby hd) rfl hc kt) k
theorem g_dup_x1 (X : Stand p l e R s m args below meth c T locs cells slots) (hx : p.tables.exec = Jvm.exec) (hby : c.code = bytes) {x y : Value} (hd : decode bytes pc = .ok (.dup_x1, 1)) (hc : x.category = 1) (hc' : y.category = 1) (q : Nat) (hq : pc + 1 = q) (k : Goes p e below K (T.setTop (mkF m q Ls (x :: y :: x :: rest)))) : Goes p e below K (T.setTop (mkF m pc Ls (x :: y :: rest))) := by
  subst hq; exact Goes.of (fun t kt => XS.dupX1 X.here hx rfl (hb hby hd) rfl hc hc' kt) k
theorem g_dup2 (X : Stand p l e R s m args below meth c T locs cells slots) (hx : p.tables.exec = Jvm.exec) (hby : c.code = bytes) {x y : Value} (hd : decode bytes pc = .ok (.dup2, 1)) (hc : x.category = 1) (hc' : y.category = 1) (q : Nat) (hq : pc + 1 = q) (k : Goes p e below K (T.setTop (mkF m q Ls (x :: y :: x :: y :: rest)))) : Goes p e below K (T.setTop (mkF m pc Ls (x :: y :: rest))) := by
  subst hq; exact Goes.of (fun t kt => Jvm.Free.XT.dup2 X.here hx rfl (hb hby hd) rfl hc hc' kt) k
theorem g_iinc (X : Stand p l e R s m args below meth c T locs cells slots) (hx : p.tables.exec = Jvm.exec) (hby : c.code = bytes) {i : Int} {kk : Nat} {x : Int32} (hd : decode bytes pc = .ok (.iinc kk i, 3)) (v : Int32) (hv : Int32.ofInt i = v) (hl : Ls[kk]? = some (.val (.int x))) (y : Int32) (hxy : x + v = y) (L' : Array Slot) (hl' : storeLocals Ls kk (.int y) = some L') (q : Nat) (hq : pc + 3 = q) (k : Goes p e below K (T.setTop (mkF m q L' rest))) : Goes p e below K (T.setTop (mkF m pc Ls rest)) := by
  subst hq hv hxy; exact Goes.of (fun t kt => XS.iinc X.here hx rfl (hb hby hd) hl hl' kt) k
theorem g_goto (X : Stand p l e R s m args below meth c T locs cells slots) (hx : p.tables.exec = Jvm.exec) (hby : c.code = bytes) {o : Int} (hd : decode bytes pc = .ok (.goto o, 3)) (q : Nat) (ho : 0 ≤ (pc : Int) + o) (hq : ((pc : Int) + o).toNat = q) (k : Goes p e below K (T.setTop (mkF m q Ls rest))) : Goes p e below K (T.setTop (mkF m pc Ls rest)) :=
  Goes.of (fun t kt => XS.goto X.here hx rfl rfl (hb hby hd) ho hq kt) k
theorem g_icmp_eq (X : Stand p l e R s m args below meth c T locs cells slots) (hx : p.tables.exec = Jvm.exec) (hby : c.code = bytes) {x y : Int32} {o : Int} (hd : decode bytes pc = .ok (.if_icmp .eq o, 3)) (q r : Nat) (ho : 0 ≤ (pc : Int) + o) (hq : ((pc : Int) + o).toNat = q) (hr : pc + 3 = r) (kt : x = y → Goes p e below K (T.setTop (mkF m q Ls rest))) (kf : ¬ (x = y) → Goes p e below K (T.setTop (mkF m r Ls rest))) : Goes p e below K (T.setTop (mkF m pc Ls (.int y :: .int x :: rest))) := by
  subst hr
  by_cases h : x = y
  · exact Goes.of (fun t kt => XS.icmpYes X.here hx rfl rfl (hb hby hd) rfl (teq h).1 ho hq kt) (kt h)
  · exact Goes.of (fun t kt => XS.icmpNo X.here hx rfl (hb hby hd) rfl (feq h).1 kt) (kf h)
theorem g_if_eq (X : Stand p l e R s m args below meth c T locs cells slots) (hx : p.tables.exec = Jvm.exec) (hby : c.code = bytes) {x : Int32} {o : Int} (hd : decode bytes pc = .ok (.ifCond .eq o, 3)) (q r : Nat) (ho : 0 ≤ (pc : Int) + o) (hq : ((pc : Int) + o).toNat = q) (hr : pc + 3 = r) (kt : x = 0 → Goes p e below K (T.setTop (mkF m q Ls rest))) (kf : ¬ (x = 0) → Goes p e below K (T.setTop (mkF m r Ls rest))) : Goes p e below K (T.setTop (mkF m pc Ls (.int x :: rest))) := by
  subst hr
  by_cases h : x = 0
  · exact Goes.of (fun t kt => XS.ifYes X.here hx rfl rfl (hb hby hd) rfl ((if0 _ _).trans (teq h).1) ho hq kt) (kt h)
  · exact Goes.of (fun t kt => XS.ifNo X.here hx rfl (hb hby hd) rfl ((if0 _ _).trans (feq h).1) kt) (kf h)
theorem g_lcmp_eq (X : Stand p l e R s m args below meth c T locs cells slots) (hx : p.tables.exec = Jvm.exec) (hby : c.code = bytes) {x y : Int64} {o : Int} {pc2 : Nat} (hd : decode bytes pc = .ok (.lcmp, 1)) (hd2 : decode bytes pc2 = .ok (.ifCond .eq o, 3)) (q r : Nat) (h2 : pc + 1 = pc2) (ho : 0 ≤ (pc2 : Int) + o) (hq : ((pc2 : Int) + o).toNat = q) (hr : pc2 + 3 = r) (kt : x = y → Goes p e below K (T.setTop (mkF m q Ls rest))) (kf : ¬ (x = y) → Goes p e below K (T.setTop (mkF m r Ls rest))) : Goes p e below K (T.setTop (mkF m pc Ls (.long y :: .long x :: rest))) := by
  subst h2
  refine Goes.of (fun t kt => XS.lcmp X.here hx rfl (hb hby hd) rfl kt) ?_
  exact g_if_eq X hx hby hd2 q r ho hq hr (fun h => kt ((lw_eq x y).mp h)) (fun h => kf fun h' => h ((lw_eq x y).mpr h'))
theorem g_icmp_ne (X : Stand p l e R s m args below meth c T locs cells slots) (hx : p.tables.exec = Jvm.exec) (hby : c.code = bytes) {x y : Int32} {o : Int} (hd : decode bytes pc = .ok (.if_icmp .ne o, 3)) (q r : Nat) (ho : 0 ≤ (pc : Int) + o) (hq : ((pc : Int) + o).toNat = q) (hr : pc + 3 = r) (kt : x = y → Goes p e below K (T.setTop (mkF m r Ls rest))) (kf : ¬ (x = y) → Goes p e below K (T.setTop (mkF m q Ls rest))) : Goes p e below K (T.setTop (mkF m pc Ls (.int y :: .int x :: rest))) := by
  subst hr
  by_cases h : x = y
  · exact Goes.of (fun t kt => XS.icmpNo X.here hx rfl (hb hby hd) rfl (teq h).2 kt) (kt h)
  · exact Goes.of (fun t kt => XS.icmpYes X.here hx rfl rfl (hb hby hd) rfl (feq h).2 ho hq kt) (kf h)
theorem g_if_ne (X : Stand p l e R s m args below meth c T locs cells slots) (hx : p.tables.exec = Jvm.exec) (hby : c.code = bytes) {x : Int32} {o : Int} (hd : decode bytes pc = .ok (.ifCond .ne o, 3)) (q r : Nat) (ho : 0 ≤ (pc : Int) + o) (hq : ((pc : Int) + o).toNat = q) (hr : pc + 3 = r) (kt : x = 0 → Goes p e below K (T.setTop (mkF m r Ls rest))) (kf : ¬ (x = 0) → Goes p e below K (T.setTop (mkF m q Ls rest))) : Goes p e below K (T.setTop (mkF m pc Ls (.int x :: rest))) := by
  subst hr
  by_cases h : x = 0
  · exact Goes.of (fun t kt => XS.ifNo X.here hx rfl (hb hby hd) rfl ((if0 _ _).trans (teq h).2) kt) (kt h)
  · exact Goes.of (fun t kt => XS.ifYes X.here hx rfl rfl (hb hby hd) rfl ((if0 _ _).trans (feq h).2) ho hq kt) (kf h)
theorem g_lcmp_ne (X : Stand p l e R s m args below meth c T locs cells slots) (hx : p.tables.exec = Jvm.exec) (hby : c.code = bytes) {x y : Int64} {o : Int} {pc2 : Nat} (hd : decode bytes pc = .ok (.lcmp, 1)) (hd2 : decode bytes pc2 = .ok (.ifCond .ne o, 3)) (q r : Nat) (h2 : pc + 1 = pc2) (ho : 0 ≤ (pc2 : Int) + o) (hq : ((pc2 : Int) + o).toNat = q) (hr : pc2 + 3 = r) (kt : x = y → Goes p e below K (T.setTop (mkF m r Ls rest))) (kf : ¬ (x = y) → Goes p e below K (T.setTop (mkF m q Ls rest))) : Goes p e below K (T.setTop (mkF m pc Ls (.long y :: .long x :: rest))) := by
  subst h2
  refine Goes.of (fun t kt => XS.lcmp X.here hx rfl (hb hby hd) rfl kt) ?_
  exact g_if_ne X hx hby hd2 q r ho hq hr (fun h => kt ((lw_eq x y).mp h)) (fun h => kf fun h' => h ((lw_eq x y).mpr h'))
theorem g_icmp_lt (X : Stand p l e R s m args below meth c T locs cells slots) (hx : p.tables.exec = Jvm.exec) (hby : c.code = bytes) {x y : Int32} {o : Int} (hd : decode bytes pc = .ok (.if_icmp .lt o, 3)) (q r : Nat) (ho : 0 ≤ (pc : Int) + o) (hq : ((pc : Int) + o).toNat = q) (hr : pc + 3 = r) (kt : x < y → Goes p e below K (T.setTop (mkF m q Ls rest))) (kf : ¬ (x < y) → Goes p e below K (T.setTop (mkF m r Ls rest))) : Goes p e below K (T.setTop (mkF m pc Ls (.int y :: .int x :: rest))) := by
  subst hr
  by_cases h : x < y
  · exact Goes.of (fun t kt => XS.icmpYes X.here hx rfl rfl (hb hby hd) rfl (tlt h).1 ho hq kt) (kt h)
  · exact Goes.of (fun t kt => XS.icmpNo X.here hx rfl (hb hby hd) rfl (flt h).1 kt) (kf h)
theorem g_if_lt (X : Stand p l e R s m args below meth c T locs cells slots) (hx : p.tables.exec = Jvm.exec) (hby : c.code = bytes) {x : Int32} {o : Int} (hd : decode bytes pc = .ok (.ifCond .lt o, 3)) (q r : Nat) (ho : 0 ≤ (pc : Int) + o) (hq : ((pc : Int) + o).toNat = q) (hr : pc + 3 = r) (kt : x < 0 → Goes p e below K (T.setTop (mkF m q Ls rest))) (kf : ¬ (x < 0) → Goes p e below K (T.setTop (mkF m r Ls rest))) : Goes p e below K (T.setTop (mkF m pc Ls (.int x :: rest))) := by
  subst hr
  by_cases h : x < 0
  · exact Goes.of (fun t kt => XS.ifYes X.here hx rfl rfl (hb hby hd) rfl ((if0 _ _).trans (tlt h).1) ho hq kt) (kt h)
  · exact Goes.of (fun t kt => XS.ifNo X.here hx rfl (hb hby hd) rfl ((if0 _ _).trans (flt h).1) kt) (kf h)
theorem g_lcmp_lt (X : Stand p l e R s m args below meth c T locs cells slots) (hx : p.tables.exec = Jvm.exec) (hby : c.code = bytes) {x y : Int64} {o : Int} {pc2 : Nat} (hd : decode bytes pc = .ok (.lcmp, 1)) (hd2 : decode bytes pc2 = .ok (.ifCond .lt o, 3)) (q r : Nat) (h2 : pc + 1 = pc2) (ho : 0 ≤ (pc2 : Int) + o) (hq : ((pc2 : Int) + o).toNat = q) (hr : pc2 + 3 = r) (kt : x < y → Goes p e below K (T.setTop (mkF m q Ls rest))) (kf : ¬ (x < y) → Goes p e below K (T.setTop (mkF m r Ls rest))) : Goes p e below K (T.setTop (mkF m pc Ls (.long y :: .long x :: rest))) := by
  subst h2
  refine Goes.of (fun t kt => XS.lcmp X.here hx rfl (hb hby hd) rfl kt) ?_
  exact g_if_lt X hx hby hd2 q r ho hq hr (fun h => kt ((lw_lt x y).mp h)) (fun h => kf fun h' => h ((lw_lt x y).mpr h'))
theorem g_icmp_ge (X : Stand p l e R s m args below meth c T locs cells slots) (hx : p.tables.exec = Jvm.exec) (hby : c.code = bytes) {x y : Int32} {o : Int} (hd : decode bytes pc = .ok (.if_icmp .ge o, 3)) (q r : Nat) (ho : 0 ≤ (pc : Int) + o) (hq : ((pc : Int) + o).toNat = q) (hr : pc + 3 = r) (kt : x < y → Goes p e below K (T.setTop (mkF m r Ls rest))) (kf : ¬ (x < y) → Goes p e below K (T.setTop (mkF m q Ls rest))) : Goes p e below K (T.setTop (mkF m pc Ls (.int y :: .int x :: rest))) := by
  subst hr
  by_cases h : x < y
  · exact Goes.of (fun t kt => XS.icmpNo X.here hx rfl (hb hby hd) rfl (tlt h).2.1 kt) (kt h)
  · exact Goes.of (fun t kt => XS.icmpYes X.here hx rfl rfl (hb hby hd) rfl (flt h).2.1 ho hq kt) (kf h)
theorem g_if_ge (X : Stand p l e R s m args below meth c T locs cells slots) (hx : p.tables.exec = Jvm.exec) (hby : c.code = bytes) {x : Int32} {o : Int} (hd : decode bytes pc = .ok (.ifCond .ge o, 3)) (q r : Nat) (ho : 0 ≤ (pc : Int) + o) (hq : ((pc : Int) + o).toNat = q) (hr : pc + 3 = r) (kt : x < 0 → Goes p e below K (T.setTop (mkF m r Ls rest))) (kf : ¬ (x < 0) → Goes p e below K (T.setTop (mkF m q Ls rest))) : Goes p e below K (T.setTop (mkF m pc Ls (.int x :: rest))) := by
  subst hr
  by_cases h : x < 0
  · exact Goes.of (fun t kt => XS.ifNo X.here hx rfl (hb hby hd) rfl ((if0 _ _).trans (tlt h).2.1) kt) (kt h)
  · exact Goes.of (fun t kt => XS.ifYes X.here hx rfl rfl (hb hby hd) rfl ((if0 _ _).trans (flt h).2.1) ho hq kt) (kf h)
theorem g_lcmp_ge (X : Stand p l e R s m args below meth c T locs cells slots) (hx : p.tables.exec = Jvm.exec) (hby : c.code = bytes) {x y : Int64} {o : Int} {pc2 : Nat} (hd : decode bytes pc = .ok (.lcmp, 1)) (hd2 : decode bytes pc2 = .ok (.ifCond .ge o, 3)) (q r : Nat) (h2 : pc + 1 = pc2) (ho : 0 ≤ (pc2 : Int) + o) (hq : ((pc2 : Int) + o).toNat = q) (hr : pc2 + 3 = r) (kt : x < y → Goes p e below K (T.setTop (mkF m r Ls rest))) (kf : ¬ (x < y) → Goes p e below K (T.setTop (mkF m q Ls rest))) : Goes p e below K (T.setTop (mkF m pc Ls (.long y :: .long x :: rest))) := by
  subst h2
  refine Goes.of (fun t kt => XS.lcmp X.here hx rfl (hb hby hd) rfl kt) ?_
  exact g_if_ge X hx hby hd2 q r ho hq hr (fun h => kt ((lw_lt x y).mp h)) (fun h => kf fun h' => h ((lw_lt x y).mpr h'))
theorem g_icmp_gt (X : Stand p l e R s m args below meth c T locs cells slots) (hx : p.tables.exec = Jvm.exec) (hby : c.code = bytes) {x y : Int32} {o : Int} (hd : decode bytes pc = .ok (.if_icmp .gt o, 3)) (q r : Nat) (ho : 0 ≤ (pc : Int) + o) (hq : ((pc : Int) + o).toNat = q) (hr : pc + 3 = r) (kt : y < x → Goes p e below K (T.setTop (mkF m q Ls rest))) (kf : ¬ (y < x) → Goes p e below K (T.setTop (mkF m r Ls rest))) : Goes p e below K (T.setTop (mkF m pc Ls (.int y :: .int x :: rest))) := by
  subst hr
  by_cases h : y < x
  · exact Goes.of (fun t kt => XS.icmpYes X.here hx rfl rfl (hb hby hd) rfl (tlt h).2.2.1 ho hq kt) (kt h)
  · exact Goes.of (fun t kt => XS.icmpNo X.here hx rfl (hb hby hd) rfl (flt h).2.2.1 kt) (kf h)
theorem g_if_gt (X : Stand p l e R s m args below meth c T locs cells slots) (hx : p.tables.exec = Jvm.exec) (hby : c.code = bytes) {x : Int32} {o : Int} (hd : decode bytes pc = .ok (.ifCond .gt o, 3)) (q r : Nat) (ho : 0 ≤ (pc : Int) + o) (hq : ((pc : Int) + o).toNat = q) (hr : pc + 3 = r) (kt : 0 < x → Goes p e below K (T.setTop (mkF m q Ls rest))) (kf : ¬ (0 < x) → Goes p e below K (T.setTop (mkF m r Ls rest))) : Goes p e below K (T.setTop (mkF m pc Ls (.int x :: rest))) := by
  subst hr
  by_cases h : 0 < x
  · exact Goes.of (fun t kt => XS.ifYes X.here hx rfl rfl (hb hby hd) rfl ((if0 _ _).trans (tlt h).2.2.1) ho hq kt) (kt h)
  · exact Goes.of (fun t kt => XS.ifNo X.here hx rfl (hb hby hd) rfl ((if0 _ _).trans (flt h).2.2.1) kt) (kf h)
theorem g_lcmp_gt (X : Stand p l e R s m args below meth c T locs cells slots) (hx : p.tables.exec = Jvm.exec) (hby : c.code = bytes) {x y : Int64} {o : Int} {pc2 : Nat} (hd : decode bytes pc = .ok (.lcmp, 1)) (hd2 : decode bytes pc2 = .ok (.ifCond .gt o, 3)) (q r : Nat) (h2 : pc + 1 = pc2) (ho : 0 ≤ (pc2 : Int) + o) (hq : ((pc2 : Int) + o).toNat = q) (hr : pc2 + 3 = r) (kt : y < x → Goes p e below K (T.setTop (mkF m q Ls rest))) (kf : ¬ (y < x) → Goes p e below K (T.setTop (mkF m r Ls rest))) : Goes p e below K (T.setTop (mkF m pc Ls (.long y :: .long x :: rest))) := by
  subst h2
  refine Goes.of (fun t kt => XS.lcmp X.here hx rfl (hb hby hd) rfl kt) ?_
  exact g_if_gt X hx hby hd2 q r ho hq hr (fun h => kt ((lw_gt x y).mp h)) (fun h => kf fun h' => h ((lw_gt x y).mpr h'))
theorem g_icmp_le (X : Stand p l e R s m args below meth c T locs cells slots) (hx : p.tables.exec = Jvm.exec) (hby : c.code = bytes) {x y : Int32} {o : Int} (hd : decode bytes pc = .ok (.if_icmp .le o, 3)) (q r : Nat) (ho : 0 ≤ (pc : Int) + o) (hq : ((pc : Int) + o).toNat = q) (hr : pc + 3 = r) (kt : y < x → Goes p e below K (T.setTop (mkF m r Ls rest))) (kf : ¬ (y < x) → Goes p e below K (T.setTop (mkF m q Ls rest))) : Goes p e below K (T.setTop (mkF m pc Ls (.int y :: .int x :: rest))) := by
  subst hr
  by_cases h : y < x
  · exact Goes.of (fun t kt => XS.icmpNo X.here hx rfl (hb hby hd) rfl (tlt h).2.2.2 kt) (kt h)
  · exact Goes.of (fun t kt => XS.icmpYes X.here hx rfl rfl (hb hby hd) rfl (flt h).2.2.2 ho hq kt) (kf h)
theorem g_if_le (X : Stand p l e R s m args below meth c T locs cells slots) (hx : p.tables.exec = Jvm.exec) (hby : c.code = bytes) {x : Int32} {o : Int} (hd : decode bytes pc = .ok (.ifCond .le o, 3)) (q r : Nat) (ho : 0 ≤ (pc : Int) + o) (hq : ((pc : Int) + o).toNat = q) (hr : pc + 3 = r) (kt : 0 < x → Goes p e below K (T.setTop (mkF m r Ls rest))) (kf : ¬ (0 < x) → Goes p e below K (T.setTop (mkF m q Ls rest))) : Goes p e below K (T.setTop (mkF m pc Ls (.int x :: rest))) := by
  subst hr
  by_cases h : 0 < x
  · exact Goes.of (fun t kt => XS.ifNo X.here hx rfl (hb hby hd) rfl ((if0 _ _).trans (tlt h).2.2.2) kt) (kt h)
  · exact Goes.of (fun t kt => XS.ifYes X.here hx rfl rfl (hb hby hd) rfl ((if0 _ _).trans (flt h).2.2.2) ho hq kt) (kf h)
theorem g_lcmp_le (X : Stand p l e R s m args below meth c T locs cells slots) (hx : p.tables.exec = Jvm.exec) (hby : c.code = bytes) {x y : Int64} {o : Int} {pc2 : Nat} (hd : decode bytes pc = .ok (.lcmp, 1)) (hd2 : decode bytes pc2 = .ok (.ifCond .le o, 3)) (q r : Nat) (h2 : pc + 1 = pc2) (ho : 0 ≤ (pc2 : Int) + o) (hq : ((pc2 : Int) + o).toNat = q) (hr : pc2 + 3 = r) (kt : y < x → Goes p e below K (T.setTop (mkF m r Ls rest))) (kf : ¬ (y < x) → Goes p e below K (T.setTop (mkF m q Ls rest))) : Goes p e below K (T.setTop (mkF m pc Ls (.long y :: .long x :: rest))) := by
  subst h2
  refine Goes.of (fun t kt => XS.lcmp X.here hx rfl (hb hby hd) rfl kt) ?_
  exact g_if_le X hx hby hd2 q r ho hq hr (fun h => kt ((lw_gt x y).mp h)) (fun h => kf fun h' => h ((lw_gt x y).mpr h'))
theorem g_ifnull_yes (X : Stand p l e R s m args below meth c T locs cells slots) (hx : p.tables.exec = Jvm.exec) (hby : c.code = bytes) {o : Int} (hd : decode bytes pc = .ok (.ifnull o, 3)) (q : Nat) (ho : 0 ≤ (pc : Int) + o) (hq : ((pc : Int) + o).toNat = q) (k : Goes p e below K (T.setTop (mkF m q Ls rest))) : Goes p e below K (T.setTop (mkF m pc Ls (.null :: rest))) :=
  Goes.of (fun t kt => XS.ifnullYes X.here hx rfl rfl (hb hby hd) rfl ho hq kt) k
theorem g_ifnull_no (X : Stand p l e R s m args below meth c T locs cells slots) (hx : p.tables.exec = Jvm.exec) (hby : c.code = bytes) {a : Addr} {o : Int} (hd : decode bytes pc = .ok (.ifnull o, 3)) (q : Nat) (hq : pc + 3 = q) (k : Goes p e below K (T.setTop (mkF m q Ls rest))) : Goes p e below K (T.setTop (mkF m pc Ls (.ref a :: rest))) := by
  subst hq; exact Goes.of (fun t kt => XS.ifnullNo X.here hx rfl (hb hby hd) rfl kt) k
theorem g_ifnonnull_yes (X : Stand p l e R s m args below meth c T locs cells slots) (hx : p.tables.exec = Jvm.exec) (hby : c.code = bytes) {a : Addr} {o : Int} (hd : decode bytes pc = .ok (.ifnonnull o, 3)) (q : Nat) (ho : 0 ≤ (pc : Int) + o) (hq : ((pc : Int) + o).toNat = q) (k : Goes p e below K (T.setTop (mkF m q Ls rest))) : Goes p e below K (T.setTop (mkF m pc Ls (.ref a :: rest))) :=
  Goes.of (fun t kt => XS.ifnonnullYes X.here hx rfl rfl (hb hby hd) rfl ho hq kt) k
theorem g_ifnonnull_no (X : Stand p l e R s m args below meth c T locs cells slots) (hx : p.tables.exec = Jvm.exec) (hby : c.code = bytes) {o : Int} (hd : decode bytes pc = .ok (.ifnonnull o, 3)) (q : Nat) (hq : pc + 3 = q) (k : Goes p e below K (T.setTop (mkF m q Ls rest))) : Goes p e below K (T.setTop (mkF m pc Ls (.null :: rest))) := by
  subst hq; exact Goes.of (fun t kt => XS.ifnonnullNo X.here hx rfl (hb hby hd) rfl kt) k
theorem g_acmp (X : Stand p l e R s m args below meth c T locs cells slots) (hx : p.tables.exec = Jvm.exec) (hby : c.code = bytes) {cd : ACond} {x y : Value} {o : Int} (hd : decode bytes pc = .ok (.if_acmp cd o, 3)) (h1 : x.isRef = true) (h2 : y.isRef = true) (same : Bool) (hs : decide (x = y) = same) (q : Nat) (ho : 0 ≤ (pc : Int) + o) (hq : q = if acV cd same = true then ((pc : Int) + o).toNat else pc + 3) (k : Goes p e below K (T.setTop (mkF m q Ls rest))) : Goes p e below K (T.setTop (mkF m pc Ls (y :: x :: rest))) :=
  Goes.of (fun t kt => Jvm.RoadKit.acmp X hx rfl h1 h2 rfl (hb hby hd) rfl hs ho hq kt) k
theorem g_ldc (X : Stand p l e R s m args below meth c T locs cells slots) (hx : p.tables.exec = Jvm.exec) (hby : c.code = bytes) {Z : State} {a0 : Array Value} (hZ : Z.Warmed39 s.vm) {own : String} {index : Nat} {v : Int32} (hown : s.vm.findClass own = some m.cls) (w : (Jvm.Cond.constant own index v).before a0 Z = true) (hd : decode bytes pc = .ok (.ldc index, 2)) (q : Nat) (hq : pc + 2 = q) (k : Goes p e below K (T.setTop (mkF m q Ls (.int v :: rest)))) : Goes p e below K (T.setTop (mkF m pc Ls rest)) := by
  subst hq; exact Goes.of (fun t kt => X.ldcInt hx hown (mvT hZ w) (g := mkF m pc Ls rest) rfl (hb hby hd) t kt) k
theorem g_ldc_w (X : Stand p l e R s m args below meth c T locs cells slots) (hx : p.tables.exec = Jvm.exec) (hby : c.code = bytes) {Z : State} {a0 : Array Value} (hZ : Z.Warmed39 s.vm) {own : String} {index : Nat} {v : Int32} (hown : s.vm.findClass own = some m.cls) (w : (Jvm.Cond.constant own index v).before a0 Z = true) (hd : decode bytes pc = .ok (.ldc_w index, 3)) (q : Nat) (hq : pc + 3 = q) (k : Goes p e below K (T.setTop (mkF m q Ls (.int v :: rest)))) : Goes p e below K (T.setTop (mkF m pc Ls rest)) := by
  subst hq; exact Goes.of (fun t kt => X.ldcwInt hx hown (mvT hZ w) (g := mkF m pc Ls rest) rfl (hb hby hd) t kt) k
theorem g_ldc2 (X : Stand p l e R s m args below meth c T locs cells slots) (hx : p.tables.exec = Jvm.exec) (hby : c.code = bytes) {Z : State} {a0 : Array Value} (hZ : Z.Warmed39 s.vm) {own : String} {index : Nat} {v : Int64} (hown : s.vm.findClass own = some m.cls) (w : (Jvm.Cond.constantLong own index v).before a0 Z = true) (hd : decode bytes pc = .ok (.ldc2_w index, 3)) (q : Nat) (hq : pc + 3 = q) (k : Goes p e below K (T.setTop (mkF m q Ls (.long v :: rest)))) : Goes p e below K (T.setTop (mkF m pc Ls rest)) := by
  subst hq; exact Goes.of (fun t kt => X.ldc2Long hx hown (mvT hZ w) (g := mkF m pc Ls rest) rfl (hb hby hd) t kt) k
theorem g_leave (X : Stand p l e R s m args below meth c T locs cells slots) {Q : Option Value → Heap → List Loc → Prop} {C S : Nat} {v : Option Value} (hv : meth.sig.returnType = none → v = none) (hlk : meth.locks = false) (hQ : Q v T.heap locs) (hc : cells ≤ C) (hs : slots ≤ S) {F : State}
    (st : ∀ fs : List Frame, (∀ (f : JFrame) (acts : List Action), f.method = m → f.locked = none → f.entered = [] → (doReturn e (T.setTop f) acts v).1 = T.setFrames fs) → Steps p.tables e below F (T.setFrames fs)) : Goes p e below (Kend s below Q C S) F := by
  obtain ⟨fs, hr, hrun, hended, hW, hsame⟩ := X.leave (v := v) hv hlk
  exact ⟨_, st fs hr, _, hrun, hended, v, locs, rfl, hQ, ⟨_, rfl⟩, hW, hsame.mono hc hs⟩
theorem g_ireturn (X : Stand p l e R s m args below meth c T locs cells slots) (hx : p.tables.exec = Jvm.exec) (hby : c.code = bytes) {Q : Option Value → Heap → List Loc → Prop} {C S : Nat} {z : Int32} {t : FieldType} (hret : meth.sig.returnType = some t) (hlk : meth.locks = false) (ht : t = .int ∨ t = .boolean ∨ t = .byte ∨ t = .char ∨ t = .short) (hn : narrow t (.int z) = .int z) (hd : decode bytes pc = .ok (.ireturn, 1)) (hQ : Q (some (.int z)) T.heap locs) (hc : cells ≤ C) (hs : slots ≤ S) : Goes p e below (Kend s below Q C S) (T.setTop (mkF m pc Ls (.int z :: rest))) :=
  g_leave X (v := some (.int z)) (fun h => by rw [hret] at h; cases h) hlk hQ hc hs fun fs hr => retOut X hx hret hn (Or.inl ⟨rfl, ht, z, rfl⟩) (hb hby hd) hr
theorem g_lreturn (X : Stand p l e R s m args below meth c T locs cells slots) (hx : p.tables.exec = Jvm.exec) (hby : c.code = bytes) {Q : Option Value → Heap → List Loc → Prop} {C S : Nat} {z : Int64} (hret : meth.sig.returnType = some .long) (hlk : meth.locks = false) (hd : decode bytes pc = .ok (.lreturn, 1)) (hQ : Q (some (.long z)) T.heap locs) (hc : cells ≤ C) (hs : slots ≤ S) : Goes p e below (Kend s below Q C S) (T.setTop (mkF m pc Ls (.long z :: rest))) :=
  g_leave X (v := some (.long z)) (fun h => by rw [hret] at h; cases h) hlk hQ hc hs fun fs hr => retOut X hx hret rfl (Or.inr (Or.inl ⟨rfl, rfl, z, rfl⟩)) (hb hby hd) hr
theorem g_areturn (X : Stand p l e R s m args below meth c T locs cells slots) (hx : p.tables.exec = Jvm.exec) (hby : c.code = bytes) {Q : Option Value → Heap → List Loc → Prop} {C S : Nat} {w : Value} {t : FieldType} (hret : meth.sig.returnType = some t) (hlk : meth.locks = false) (ht : t.isReference = true) (hw : w.isRef = true) (hn : narrow t w = w) (hd : decode bytes pc = .ok (.areturn, 1)) (hQ : Q (some w) T.heap locs) (hc : cells ≤ C) (hs : slots ≤ S) : Goes p e below (Kend s below Q C S) (T.setTop (mkF m pc Ls (w :: rest))) :=
  g_leave X (v := some w) (fun h => by rw [hret] at h; cases h) hlk hQ hc hs fun fs hr => retOut X hx hret hn (Or.inr (Or.inr (Or.inr (Or.inr ⟨rfl, ht, hw⟩)))) (hb hby hd) hr
theorem g_return (X : Stand p l e R s m args below meth c T locs cells slots) (hx : p.tables.exec = Jvm.exec) (hby : c.code = bytes) {Q : Option Value → Heap → List Loc → Prop} {C S : Nat} (hret : meth.sig.returnType = none) (hlk : meth.locks = false) (hd : decode bytes pc = .ok (.return_, 1)) (hQ : Q none T.heap locs) (hc : cells ≤ C) (hs : slots ≤ S) : Goes p e below (Kend s below Q C S) (T.setTop (mkF m pc Ls [])) :=
  g_leave X (v := none) (fun _ => rfl) hlk hQ hc hs fun fs hr => X.returnOut hx hret (hb hby hd) hr
theorem nar_bool {z : Int32} (h : z = 0 ∨ z = 1) : narrow .boolean (.int z) = .int z := by rcases h with rfl | rfl <;> rfl
theorem g_callS (X : Stand p l e R s m args below meth c T locs cells slots) (hx : p.tables.exec = Jvm.exec) (hby : c.code = bytes) {Z : State} {a0 : Array Value} (hZ : Z.Warmed39 s.vm) {own : String} {index : Nat} {y : MethodName} {cb : ByteArray} {maxL : Nat} {ret : Option FieldType} {rm : Room} {Q : Option Value → Heap → List Loc → Prop} {h : Heap} (hown : s.vm.findClass own = some m.cls) (w1 : (Jvm.Cond.methodLink own index y).before a0 Z = true) (w2 : (Jvm.Cond.static y).before a0 Z = true) (w3 : (Jvm.Cond.initialized y.cls).before a0 Z = true) (w4 : (Jvm.Cond.code y cb maxL ret).before a0 Z = true)
    (hd : decode bytes pc = .ok (.invokestatic index, 3)) (argsL rest : List Value) {st : List Value} (hM : Ctr l y cb maxL ret [] rm argsL.toArray Z h Q) (eT : T.heap = h) (hst : st = argsL.reverse ++ rest) (hsz : Ls.size = c.maxLocals) {ps : List FieldType} {rt : Option FieldType} (hpd : parseMethodDescriptor y.desc = some ⟨ps, rt⟩) (hlen : argsL.length = ps.length)
    (hy : y.cls ≠ "java/lang/invoke/MethodHandle" ∧ y.cls ≠ "java/lang/invoke/VarHandle") (W : Nat) (hW : (rest.map fun v => v.category).sum ≤ W) (hf : rm.frames + 1 ≤ R.frames) (hl : W + (maxL + 11) + rm.locals ≤ R.locals) (hc : cells + rm.cells ≤ R.cells) (hs : slots + rm.slots ≤ R.slots) (q : Nat) (hq : pc + 3 = q)
    (k : ∀ (T' : State) (v : Option Value) (L : List Loc), Stand p l e R s m args below meth c T' (locs ++ L) (cells + rm.cells) (slots + rm.slots) → Q v T'.heap L → Goes p e below K (T'.setTop (mkF m q Ls (v.toList ++ rest)))) : Goes p e below K (T.setTop (mkF m pc Ls st)) := by
  subst hq hst
  obtain ⟨v, _, ⟨T', L', k', n'⟩, -, X', ⟨Lc, hQ, l1, y1, z1⟩, st⟩ := Jvm.LawKit.callS X hx hown (mvT hZ w1) (mvT hZ w2) (mvT hZ w3) (mvT hZ w4) hy (backOf (W := W) hM hZ w4 w3 hf hl) (g := mkF m pc Ls (argsL.reverse ++ rest)) rfl hsz (argsL := argsL) (rest := rest) (lenOf hpd hlen) rfl (by show 2 * 0 + _ ≤ _; omega) (hb hby hd) (fun _ _ => ⟨rfl, eT, hc, hs⟩)
  dsimp only [Pt.U, Pt.locs, Pt.cells, Pt.slots] at X' l1 y1 z1 st hQ
  subst l1 y1 z1
  exact Goes.of st (k _ _ _ X' hQ)
theorem g_special (X : Stand p l e R s m args below meth c T locs cells slots) (hx : p.tables.exec = Jvm.exec) (hby : c.code = bytes) {Z : State} {a0 : Array Value} (hZ : Z.Warmed39 s.vm) {own : String} {index : Nat} {y : MethodName} {cb : ByteArray} {maxL : Nat} {rm : Room} {Q : Option Value → Heap → List Loc → Prop} {h : Heap} (hown : s.vm.findClass own = some m.cls) (hy1 : y.name = "<init>") (w1 : (Jvm.Cond.methodLink own index y).before a0 Z = true) (w2 : (Jvm.Cond.instanceMethod y).before a0 Z = true) (w3 : (Jvm.Cond.initialized y.cls).before a0 Z = true) (w4 : (Jvm.Cond.code y cb maxL none).before a0 Z = true)
    (hd : decode bytes pc = .ok (.invokespecial index, 3)) (a : Addr) (argsL rest : List Value) {st : List Value} (hM : Ctr l y cb maxL none [] rm (.ref a :: argsL).toArray Z h Q) (eT : T.heap = h) (hst : st = argsL.reverse ++ .ref a :: rest) (hsz : Ls.size = c.maxLocals) {ps : List FieldType} {rt : Option FieldType} (hpd : parseMethodDescriptor y.desc = some ⟨ps, rt⟩) (hlen : argsL.length = ps.length)
    (hy : y.cls ≠ "java/lang/invoke/MethodHandle" ∧ y.cls ≠ "java/lang/invoke/VarHandle") (W : Nat) (hW : (rest.map fun v => v.category).sum ≤ W) (hf : rm.frames + 1 ≤ R.frames) (hl : W + (maxL + 11) + rm.locals ≤ R.locals) (hc : cells + rm.cells ≤ R.cells) (hs : slots + rm.slots ≤ R.slots) (q : Nat) (hq : pc + 3 = q)
    (k : ∀ (T' : State) (v : Option Value) (L : List Loc), Stand p l e R s m args below meth c T' (locs ++ L) (cells + rm.cells) (slots + rm.slots) → Q v T'.heap L → Goes p e below K (T'.setTop (mkF m q Ls (v.toList ++ rest)))) : Goes p e below K (T.setTop (mkF m pc Ls st)) := by
  subst hq hst
  obtain ⟨v, _, ⟨T', L', k', n'⟩, -, X', ⟨Lc, hQ, l1, y1, z1⟩, st⟩ := X.specialBack hx hy1 hown (mvT hZ w1) (mvT hZ w2) (mvT hZ w4) hy (backOf (W := W) hM hZ w4 w3 hf hl) (g := mkF m pc Ls (argsL.reverse ++ .ref a :: rest)) rfl hsz (Steps.refl _) (a := a) (argsL := argsL) (rest := rest) (lenOf hpd hlen) rfl (by show 2 * 0 + _ ≤ _; omega) (hb hby hd) (fun _ _ => ⟨rfl, eT, hc, hs⟩)
  dsimp only [Pt.U, Pt.locs, Pt.cells, Pt.slots] at X' l1 y1 z1 st hQ
  subst l1 y1 z1
  exact Goes.of (fun t kt => st.trans kt) (k _ _ _ X' hQ)
theorem g_virtual (X : Stand p l e R s m args below meth c T locs cells slots) (hx : p.tables.exec = Jvm.exec) (hby : c.code = bytes) {Z : State} {a0 : Array Value} (hZ : Z.Warmed39 s.vm) {own : String} {index : Nat} {y : MethodName} {cb : ByteArray} {maxL : Nat} {ret : Option FieldType} {rm : Room} {Q : Option Value → Heap → List Loc → Prop} {h : Heap} {z : MethodName} {C : String} (hown : s.vm.findClass own = some m.cls) (w1 : (Jvm.Cond.methodLink own index y).before a0 Z = true) (w2 : (Jvm.Cond.declares y).before a0 Z = true) (nf : NotFace s y) (w5 : (Jvm.Cond.selects C y z).before a0 Z = true) (w6 : (Jvm.Cond.instanceMethod z).before a0 Z = true) (w3 : (Jvm.Cond.initialized z.cls).before a0 Z = true) (w4 : (Jvm.Cond.code z cb maxL ret).before a0 Z = true)
    (hd : decode bytes pc = .ok (.invokevirtual index, 3)) (a : Addr) (E : Exa Z h a C) (argsL rest : List Value) {st : List Value} (hM : Ctr l z cb maxL ret [] rm (.ref a :: argsL).toArray Z h Q) (eT : T.heap = h) (hst : st = argsL.reverse ++ .ref a :: rest) (hsz : Ls.size = c.maxLocals) {ps : List FieldType} {rt : Option FieldType} (hpd : parseMethodDescriptor y.desc = some ⟨ps, rt⟩) (hlen : argsL.length = ps.length)
    (hy : y.cls ≠ "java/lang/invoke/MethodHandle" ∧ y.cls ≠ "java/lang/invoke/VarHandle") (W : Nat) (hW : (rest.map fun v => v.category).sum ≤ W) (hf : rm.frames + 1 ≤ R.frames) (hl : W + (maxL + 11) + rm.locals ≤ R.locals) (hc : cells + rm.cells ≤ R.cells) (hs : slots + rm.slots ≤ R.slots) (q : Nat) (hq : pc + 3 = q)
    (k : ∀ (T' : State) (v : Option Value) (L : List Loc), Stand p l e R s m args below meth c T' (locs ++ L) (cells + rm.cells) (slots + rm.slots) → Q v T'.heap L → Goes p e below K (T'.setTop (mkF m q Ls (v.toList ++ rest)))) : Goes p e below K (T.setTop (mkF m pc Ls st)) := by
  subst hq hst
  obtain ⟨cq, kq, qa, qb, qc⟩ := isOf hZ eT E
  obtain ⟨v, _, ⟨T', L', k', n'⟩, -, X', ⟨Lc, hQ, l1, y1, z1⟩, st⟩ := X.virtualBack hx (y := y) (z := z) hown (mvT hZ w1) (mvT hZ w2) nf (mvT hZ w5) (mvT hZ w6) hy (backOf (W := W) hM hZ w4 w3 hf hl) qa qc (g := mkF m pc Ls (argsL.reverse ++ .ref a :: rest)) rfl hsz (Steps.refl _) (argsL := argsL) (rest := rest) (lenOf hpd hlen) rfl (by show 2 * 0 + _ ≤ _; omega) (hb hby hd) (fun _ _ => ⟨rfl, eT, hc, hs⟩)
  dsimp only [Pt.U, Pt.locs, Pt.cells, Pt.slots] at X' l1 y1 z1 st hQ
  subst l1 y1 z1
  exact Goes.of (fun t kt => st.trans kt) (k _ _ _ X' hQ)
theorem g_initO (X : Stand p l e R s m args below meth c T locs cells slots) (hx : p.tables.exec = Jvm.exec) (hby : c.code = bytes) {Z : State} {a0 : Array Value} (hZ : Z.Warmed39 s.vm) {own : String} {index : Nat} {h : Heap} {a : Addr} (hown : s.vm.findClass own = some m.cls) (w1 : (Jvm.Cond.methodLink own index Lib.objectInit).before a0 Z = true) (w2 : (Jvm.Cond.instanceMethod Lib.objectInit).before a0 Z = true) (w3 : (Jvm.Cond.code Lib.objectInit ⟨#[0xb1]⟩ 1 none).before a0 Z = true)
    (hd : decode bytes pc = .ok (.invokespecial index, 3)) (eT : T.heap = h) (hsz : Ls.size = c.maxLocals) (W : Nat) (hW : (rest.map fun v => v.category).sum ≤ W) (hf : 1 ≤ R.frames) (hl : W + 12 ≤ R.locals) (q : Nat) (hq : pc + 3 = q)
    (k : ∀ T' : State, Stand p l e R s m args below meth c T' locs cells slots → T'.heap = h → Goes p e below K (T'.setTop (mkF m q Ls rest))) : Goes p e below K (T.setTop (mkF m pc Ls (.ref a :: rest))) := by
  subst hq
  obtain ⟨T', X', e', st⟩ := initO X hx hZ hown w1 w2 w3 eT (g := mkF m pc Ls (.ref a :: rest)) rfl hsz rfl (hb hby hd) hf (W := W) (by show 2 * 0 + _ ≤ _; omega) hl
  exact Goes.of st (k _ X' e')
theorem g_getfield (X : Stand p l e R s m args below meth c T locs cells slots) (hx : p.tables.exec = Jvm.exec) (hby : c.code = bytes) {Z : State} {a0 : Array Value} (hZ : Z.Warmed39 s.vm) {own R0 O n d host : String} {index : Nat} {h : Heap} {a : Addr} {v : Value} (hown : s.vm.findClass own = some m.cls) (w : (Jvm.Cond.fieldLink own index R0 n d).before a0 Z = true ∨ (Jvm.Cond.fieldLinkNest own index R0 n d host).before a0 Z = true) (via : Via Z R0 O n d) (eT : T.heap = h) (F : Fld Z h a O n d v)
    (hd : decode bytes pc = .ok (.getfield index, 3)) (q : Nat) (hq : pc + 3 = q) (k : ∀ T' : State, Stand p l e R s m args below meth c T' locs cells slots → T'.heap = h → Goes p e below K (T'.setTop (mkF m q Ls (v :: rest)))) : Goes p e below K (T.setTop (mkF m pc Ls (.ref a :: rest))) := by
  subst hq
  obtain ⟨T', X', e', st⟩ := getF X hx hZ hown w via eT F (g := mkF m pc Ls (.ref a :: rest)) rfl rfl (hb hby hd)
  exact Goes.of st (k _ X' e')
theorem g_putfield (X : Stand p l e R s m args below meth c T locs cells slots) (hx : p.tables.exec = Jvm.exec) (hby : c.code = bytes) {Z : State} {a0 : Array Value} (hZ : Z.Warmed39 s.vm) {own R0 O n d host C : String} {index kk : Nat} {ty : FieldType} {h : Heap} {a : Addr} {v old : Value} (hown : s.vm.findClass own = some m.cls) (w : (Jvm.Cond.fieldLink own index R0 n d).before a0 Z = true ∨ (Jvm.Cond.fieldLinkNest own index R0 n d host).before a0 Z = true) (via : Via Z R0 O n d) (eT : T.heap = h) (F : Fld Z h a O n d old) (E : Exa Z h a C)
    (L : (Jvm.Cond.lays C O n d).before a0 Z = true ∨ ((Jvm.Cond.laysFinal C O n d).before a0 Z = true ∧ own = O ∧ meth.name = "<init>")) (wi : (Jvm.Cond.instantiable C kk).before a0 Z = true) (hty : parseFieldDescriptor d = some ty) (hn : narrow ty v = v) (hf : fits ty v = true) (hd : decode bytes pc = .ok (.putfield index, 3)) (q : Nat) (hq : pc + 3 = q)
    (k : ∀ (T' : State) (h' : Heap), Stand p l e R s m args below meth c T' (locs ++ [⟨a, Jvm.RoadKit.slotOf Z O n d⟩]) cells slots → T'.heap = h' → Wr h h' a (Jvm.RoadKit.slotOf Z O n d) v → Goes p e below K (T'.setTop (mkF m q Ls rest))) : Goes p e below K (T.setTop (mkF m pc Ls (v :: .ref a :: rest))) := by
  subst hq
  obtain ⟨T', h', X', e', W', st⟩ := putF X hx hZ hown w via eT F E L wi hty hn hf (g := mkF m pc Ls (v :: .ref a :: rest)) rfl rfl (hb hby hd)
  exact Goes.of st (k _ _ X' e' W')
theorem g_new (X : Stand p l e R s m args below meth c T locs cells slots) (hx : p.tables.exec = Jvm.exec) (hby : c.code = bytes) {Z : State} {a0 : Array Value} (hZ : Z.Warmed39 s.vm) {own C : String} {index n : Nat} {h : Heap} (hown : s.vm.findClass own = some m.cls) (w : (Jvm.Cond.classLink own index C).before a0 Z = true) (wi : (Jvm.Cond.instantiable C n).before a0 Z = true) (wz : (Jvm.Cond.initialized C).before a0 Z = true) (eT : T.heap = h) (hd : decode bytes pc = .ok (.new index, 3)) (hc : cells + 1 ≤ R.cells) (hl : slots + n ≤ R.slots) (q : Nat) (hq : pc + 3 = q)
    (k : ∀ (T' : State) (h' : Heap) (a : Addr), a = h.size → Stand p l e R s m args below meth c T' locs (cells + 1) (slots + n) → T'.heap = h' → Ext h h' → Exa Z h' a C → (∀ {O nm d : String} {ty : FieldType}, Laid Z a0 C O nm d → parseFieldDescriptor d = some ty → Fld Z h' a O nm d (defaultValue ty)) → Goes p e below K (T'.setTop (mkF m q Ls (.ref a :: rest)))) : Goes p e below K (T.setTop (mkF m pc Ls rest)) := by
  subst hq
  obtain ⟨T', h', X', e', E', A', D', -, st⟩ := newO X hx hZ hown w wi wz eT (g := mkF m pc Ls rest) rfl (hb hby hd) hc hl
  exact Goes.of st (k _ _ _ rfl X' e' E' A' D')
def upd {α : Type} (f : Nat → α) (k : Nat) (x : α) : Nat → α := fun i => if i = k then x else f i
theorem upd_hit {α : Type} (f : Nat → α) (k : Nat) (x : α) : upd f k x k = x := if_pos rfl
theorem upd_miss {α : Type} (f : Nat → α) {k i : Nat} (x : α) (h : i ≠ k) : upd f k x i = f i := if_neg h
def ArF (Z : State) (h : Heap) (a : Addr) (ty : FieldType) (n : Nat) (f : Nat → Value) : Prop := ∃ c : Cell, Arr Z h a c ty ∧ c.slots.size = n ∧ n < 2 ^ 31 ∧ ∀ j, j < n → c.slots[j]? = some (f j)
abbrev AI (Z : State) (h : Heap) (a : Addr) (ty : FieldType) (n : Nat) (f : Nat → Int32) : Prop := ArF Z h a ty n (fun i => .int (f i))
abbrev AJ (Z : State) (h : Heap) (a : Addr) (n : Nat) (f : Nat → Int64) : Prop := ArF Z h a .long n (fun i => .long (f i))
section Arrays
variable {Z : State} {h h' : Heap} {a b : Addr} {ty : FieldType} {n : Nat} {f : Nat → Value}
theorem ArF.lt (F : ArF Z h a ty n f) : a < h.size := by obtain ⟨c, A, -⟩ := F; exact A.lt
theorem ArF.len (F : ArF Z h a ty n f) : n < 2 ^ 31 := by obtain ⟨c, -, -, q, -⟩ := F; exact q
theorem ArF.ext (F : ArF Z h a ty n f) (E : Ext h h') : ArF Z h' a ty n f := by obtain ⟨c, A, r⟩ := F; exact ⟨c, A.ext E, r⟩
theorem ArF.other {sl : Nat} {v : Value} (F : ArF Z h b ty n f) (W : Wr h h' a sl v) (q : b ≠ a) : ArF Z h' b ty n f := by obtain ⟨c, A, r⟩ := F; exact ⟨c, A.other W q, r⟩
theorem ArF.keep {ws : List Addr} (F : ArF Z h a ty n f) (K : Keep h h' ws) (q : a ∉ ws) : ArF Z h' a ty n f := by obtain ⟨c, A, r⟩ := F; exact ⟨c, ⟨K.2.1 a c A.1 q, A.2⟩, r⟩
theorem ArF.congr {g : Nat → Value} (F : ArF Z h a ty n f) (q : ∀ i, i < n → f i = g i) : ArF Z h a ty n g := by obtain ⟨c, A, r1, r2, r3⟩ := F; exact ⟨c, A, r1, r2, fun j hj => by rw [r3 j hj, q j hj]⟩
theorem ArF.fresh {k : ClassId} {z : Int32} (A : Arr Z h a (newA k ty z) ty) (q : ¬ z < 0) (e : z.toNatClampNeg = n) : ArF Z h a ty n (fun _ => defaultValue ty) := by
  subst e
  refine ⟨_, A, sz_new _ _ _, (back32 q).2, fun j hj => ?_⟩
  simp [newA, hj]
theorem ArF.set {j : Nat} {v : Value} (F : ArF Z h a ty n f) (W : Wr h h' a j v) : ArF Z h' a ty n (upd f j v) := by
  obtain ⟨c, A, r1, r2, r3⟩ := F
  refine ⟨_, A.same W, (sz_set _ _ _).trans r1, r2, fun i hi => ?_⟩
  by_cases q : i = j
  · subst q; rw [upd_hit]; simp [Cell.setSlot, r1, hi]
  · rw [upd_miss _ _ q, ← r3 i hi]
    simp only [Cell.setSlot]
    exact Array.getElem?_setIfInBounds_ne (fun y => q y.symm)
theorem AI.set {j : Nat} {x : Int32} {g : Nat → Int32} (F : AI Z h a ty n g) (W : Wr h h' a j (.int x)) : AI Z h' a ty n (upd g j x) := (ArF.set F W).congr fun i _ => by by_cases q : i = j <;> simp [upd, q]
theorem AJ.set {j : Nat} {x : Int64} {g : Nat → Int64} (F : AJ Z h a n g) (W : Wr h h' a j (.long x)) : AJ Z h' a n (upd g j x) := (ArF.set F W).congr fun i _ => by by_cases q : i = j <;> simp [upd, q]
theorem own_in {c : Cell} {j : Int32} {k : Nat} (hs : c.slots.size = n) (h0 : ¬ j < 0) (hj : j.toNatClampNeg = k) (hk : k < n) : ¬ (j < 0 ∨ c.slots.size ≤ j.toNatClampNeg) := by
  subst hs hj; exact fun y => y.elim h0 (Nat.not_le.mpr hk)
end Arrays
theorem g_newarray (X : Stand p l e R s m args below meth c T locs cells slots) (hx : p.tables.exec = Jvm.exec) (hby : c.code = bytes) {Z : State} {a0 : Array Value} (hZ : Z.Warmed39 s.vm) {aty : ArrayType} {h : Heap} {z : Int32} (w : (Jvm.Cond.arrayClass (newarray.typeOf aty)).before a0 Z = true) (eT : T.heap = h) (hd : decode bytes pc = .ok (.newarray aty, 2)) (hz : ¬ z < 0) (n : Nat) (hn : z.toNatClampNeg = n) (cap : Nat) (hcap : n ≤ cap) (hbig : cap * 8 ≤ 536870912) (hc : cells + 1 ≤ R.cells) (hl : slots + cap ≤ R.slots) (q : Nat) (hq : pc + 2 = q)
    (k : ∀ (T' : State) (h' : Heap) (a : Addr), a = h.size → Stand p l e R s m args below meth c T' locs (cells + 1) (slots + cap) → T'.heap = h' → Ext h h' → ArF Z h' a (newarray.typeOf aty) n (fun _ => defaultValue (newarray.typeOf aty)) → Goes p e below K (T'.setTop (mkF m q Ls (.ref a :: rest)))) : Goes p e below K (T.setTop (mkF m pc Ls (.int z :: rest))) := by
  subst hq
  obtain ⟨T', h', cA, X', e', E', A', st⟩ := newP X hx hZ w eT (g := mkF m pc Ls (.int z :: rest)) rfl (hb hby hd) rfl hz (cap := cap) (by rw [hn]; exact hcap) hbig hc hl
  exact Goes.of st (k _ _ _ rfl X' e' E' (ArF.fresh A' hz hn))
theorem g_arraylength (X : Stand p l e R s m args below meth c T locs cells slots) (hx : p.tables.exec = Jvm.exec) (hby : c.code = bytes) {Z : State} (hZ : Z.Warmed39 s.vm) {h : Heap} {a : Addr} {ty : FieldType} {n : Nat} {f : Nat → Value} (eT : T.heap = h) (F : ArF Z h a ty n f) (hd : decode bytes pc = .ok (.arraylength, 1)) (z : Int32) (hz : n.toInt32 = z) (q : Nat) (hq : pc + 1 = q) (k : Goes p e below K (T.setTop (mkF m q Ls (.int z :: rest)))) : Goes p e below K (T.setTop (mkF m pc Ls (.ref a :: rest))) := by
  subst hq hz
  obtain ⟨cl, A, r1, r2, r3⟩ := F
  exact Goes.of (fun t kt => X.arraylength hx (by rw [eT]; exact A.1) (State.isArrayOf_alike hZ.alike A.2.1) (g := mkF m pc Ls (.ref a :: rest)) rfl rfl (hb hby hd) t (by rw [r1]; exact kt)) k
theorem g_iaload (X : Stand p l e R s m args below meth c T locs cells slots) (hx : p.tables.exec = Jvm.exec) (hby : c.code = bytes) {Z : State} (hZ : Z.Warmed39 s.vm) {h : Heap} {a : Addr} {n : Nat} {f : Nat → Int32} {j : Int32} (eT : T.heap = h) (F : AI Z h a .int n f) (hd : decode bytes pc = .ok (.iaload, 1)) (h0 : ¬ j < 0) (i : Nat) (hj : j.toNatClampNeg = i) (hi : i < n) (x : Int32) (hfx : f i = x) (q : Nat) (hq : pc + 1 = q) (k : Goes p e below K (T.setTop (mkF m q Ls (.int x :: rest)))) : Goes p e below K (T.setTop (mkF m pc Ls (.int j :: .ref a :: rest))) := by
  subst hq hfx
  obtain ⟨cl, A, r1, r2, r3⟩ := F
  exact Goes.of (fun t kt => X.iaload hx (by rw [eT]; exact A.1) (State.isArrayOf_alike hZ.alike A.2.1) A.2.2 (own_in r1 h0 hj hi) (by rw [hj]; exact r3 i hi) (g := mkF m pc Ls (.int j :: .ref a :: rest)) rfl rfl (hb hby hd) t kt) k
theorem g_baload (X : Stand p l e R s m args below meth c T locs cells slots) (hx : p.tables.exec = Jvm.exec) (hby : c.code = bytes) {Z : State} (hZ : Z.Warmed39 s.vm) {h : Heap} {a : Addr} {n : Nat} {f : Nat → Int32} {j : Int32} (eT : T.heap = h) (F : AI Z h a .byte n f) (hd : decode bytes pc = .ok (.baload, 1)) (h0 : ¬ j < 0) (i : Nat) (hj : j.toNatClampNeg = i) (hi : i < n) (x : Int32) (hfx : f i = x) (q : Nat) (hq : pc + 1 = q) (k : Goes p e below K (T.setTop (mkF m q Ls (.int x :: rest)))) : Goes p e below K (T.setTop (mkF m pc Ls (.int j :: .ref a :: rest))) := by
  subst hq hfx
  obtain ⟨cl, A, r1, r2, r3⟩ := F
  exact Goes.of (fun t kt => X.baloadBytes hx (by rw [eT]; exact A.1) (State.isArrayOf_alike hZ.alike A.2.1) A.2.2 (own_in r1 h0 hj hi) (by rw [hj]; exact r3 i hi) (g := mkF m pc Ls (.int j :: .ref a :: rest)) rfl rfl (hb hby hd) t kt) k
theorem g_laload (X : Stand p l e R s m args below meth c T locs cells slots) (hx : p.tables.exec = Jvm.exec) (hby : c.code = bytes) {Z : State} (hZ : Z.Warmed39 s.vm) {h : Heap} {a : Addr} {n : Nat} {f : Nat → Int64} {j : Int32} (eT : T.heap = h) (F : AJ Z h a n f) (hd : decode bytes pc = .ok (.laload, 1)) (h0 : ¬ j < 0) (i : Nat) (hj : j.toNatClampNeg = i) (hi : i < n) (x : Int64) (hfx : f i = x) (q : Nat) (hq : pc + 1 = q) (k : Goes p e below K (T.setTop (mkF m q Ls (.long x :: rest)))) : Goes p e below K (T.setTop (mkF m pc Ls (.int j :: .ref a :: rest))) := by
  subst hq hfx
  obtain ⟨cl, A, r1, r2, r3⟩ := F
  exact Goes.of (fun t kt => X.laload hx (by rw [eT]; exact A.1) (State.isArrayOf_alike hZ.alike A.2.1) A.2.2 (own_in r1 h0 hj hi) (by rw [hj]; exact r3 i hi) (g := mkF m pc Ls (.int j :: .ref a :: rest)) rfl rfl (hb hby hd) t kt) k
theorem g_aaload (X : Stand p l e R s m args below meth c T locs cells slots) (hx : p.tables.exec = Jvm.exec) (hby : c.code = bytes) {Z : State} (hZ : Z.Warmed39 s.vm) {h : Heap} {a : Addr} {n : Nat} {ty : FieldType} {f : Nat → Value} {j : Int32} (eT : T.heap = h) (F : ArF Z h a ty n f) (hty : ty.isReference = true) (hd : decode bytes pc = .ok (.aaload, 1)) (h0 : ¬ j < 0) (i : Nat) (hj : j.toNatClampNeg = i) (hi : i < n) (x : Value) (hfx : f i = x) (q : Nat) (hq : pc + 1 = q) (k : Goes p e below K (T.setTop (mkF m q Ls (x :: rest)))) : Goes p e below K (T.setTop (mkF m pc Ls (.int j :: .ref a :: rest))) := by
  subst hq hfx
  obtain ⟨cl, A, r1, r2, r3⟩ := F
  exact Goes.of (fun t kt => X.aaload hx (by rw [eT]; exact A.1) (State.isArrayOf_alike hZ.alike A.2.1) hty A.2.2 (own_in r1 h0 hj hi) (by rw [hj]; exact r3 i hi) (g := mkF m pc Ls (.int j :: .ref a :: rest)) rfl rfl (hb hby hd) t kt) k
theorem g_iastore (X : Stand p l e R s m args below meth c T locs cells slots) (hx : p.tables.exec = Jvm.exec) (hby : c.code = bytes) {Z : State} (hZ : Z.Warmed39 s.vm) {h : Heap} {a : Addr} {n : Nat} {f : Nat → Int32} {j : Int32} {x : Int32} (eT : T.heap = h) (F : AI Z h a .int n f) (hd : decode bytes pc = .ok (.iastore, 1)) (h0 : ¬ j < 0) (i : Nat) (hj : j.toNatClampNeg = i) (hi : i < n) (q : Nat) (hq : pc + 1 = q)
    (k : ∀ (T' : State) (h' : Heap), Stand p l e R s m args below meth c T' (locs ++ [⟨a, i⟩]) cells slots → T'.heap = h' → Wr h h' a i (.int x) → AI Z h' a .int n (upd f i x) → Goes p e below K (T'.setTop (mkF m q Ls rest))) : Goes p e below K (T.setTop (mkF m pc Ls (.int x :: .int j :: .ref a :: rest))) := by
  subst hq
  have F' := F
  obtain ⟨cl, A, r1, r2, r3⟩ := F'
  obtain ⟨T', h', X', e', W', st⟩ := stI X hx hZ eT A (own_in r1 h0 hj hi) (g := mkF m pc Ls (.int x :: .int j :: .ref a :: rest)) rfl rfl (hb hby hd)
  rw [hj] at X' W'
  exact Goes.of st (k _ _ X' e' W' (AI.set F W'))
theorem g_bastore (X : Stand p l e R s m args below meth c T locs cells slots) (hx : p.tables.exec = Jvm.exec) (hby : c.code = bytes) {Z : State} (hZ : Z.Warmed39 s.vm) {h : Heap} {a : Addr} {n : Nat} {f : Nat → Int32} {j : Int32} {x : Int32} (eT : T.heap = h) (F : AI Z h a .byte n f) (hd : decode bytes pc = .ok (.bastore, 1)) (h0 : ¬ j < 0) (i : Nat) (hj : j.toNatClampNeg = i) (hi : i < n) (y : Int32) (hxy : x.toInt8.toInt32 = y) (q : Nat) (hq : pc + 1 = q)
    (k : ∀ (T' : State) (h' : Heap), Stand p l e R s m args below meth c T' (locs ++ [⟨a, i⟩]) cells slots → T'.heap = h' → Wr h h' a i (.int y) → AI Z h' a .byte n (upd f i y) → Goes p e below K (T'.setTop (mkF m q Ls rest))) : Goes p e below K (T.setTop (mkF m pc Ls (.int x :: .int j :: .ref a :: rest))) := by
  subst hq hxy
  have F' := F
  obtain ⟨cl, A, r1, r2, r3⟩ := F'
  obtain ⟨T', h', X', e', W', st⟩ := stB X hx hZ eT A (own_in r1 h0 hj hi) (g := mkF m pc Ls (.int x :: .int j :: .ref a :: rest)) rfl rfl (hb hby hd)
  rw [hj] at X' W'
  exact Goes.of st (k _ _ X' e' W' (AI.set F W'))
theorem g_lastore (X : Stand p l e R s m args below meth c T locs cells slots) (hx : p.tables.exec = Jvm.exec) (hby : c.code = bytes) {Z : State} (hZ : Z.Warmed39 s.vm) {h : Heap} {a : Addr} {n : Nat} {f : Nat → Int64} {j : Int32} {x : Int64} (eT : T.heap = h) (F : AJ Z h a n f) (hd : decode bytes pc = .ok (.lastore, 1)) (h0 : ¬ j < 0) (i : Nat) (hj : j.toNatClampNeg = i) (hi : i < n) (q : Nat) (hq : pc + 1 = q)
    (k : ∀ (T' : State) (h' : Heap), Stand p l e R s m args below meth c T' (locs ++ [⟨a, i⟩]) cells slots → T'.heap = h' → Wr h h' a i (.long x) → AJ Z h' a n (upd f i x) → Goes p e below K (T'.setTop (mkF m q Ls rest))) : Goes p e below K (T.setTop (mkF m pc Ls (.long x :: .int j :: .ref a :: rest))) := by
  subst hq
  have F' := F
  obtain ⟨cl, A, r1, r2, r3⟩ := F'
  obtain ⟨T', h', X', e', W', st⟩ := stJ X hx hZ eT A (own_in r1 h0 hj hi) (g := mkF m pc Ls (.long x :: .int j :: .ref a :: rest)) rfl rfl (hb hby hd)
  rw [hj] at X' W'
  exact Goes.of st (k _ _ X' e' W' (AJ.set F W'))
def ArO (Z : State) (h : Heap) (a : Addr) (C : String) (n : Nat) (f : Nat → Value) : Prop := ∃ c : Cell, Arr Z h a c (.object C) ∧ c.slots.size = n ∧ n < 2 ^ 31 ∧ (∀ j, j < n → c.slots[j]? = some (f j)) ∧ Ovr Z c.cls C
section ArraysO
variable {Z : State} {h h' : Heap} {a b : Addr} {C : String} {n : Nat} {f : Nat → Value}
theorem ArO.toF (F : ArO Z h a C n f) : ArF Z h a (.object C) n f := by obtain ⟨c, A, r1, r2, r3, -⟩ := F; exact ⟨c, A, r1, r2, r3⟩
theorem ArO.lt (F : ArO Z h a C n f) : a < h.size := F.toF.lt
theorem ArO.ext (F : ArO Z h a C n f) (E : Ext h h') : ArO Z h' a C n f := by obtain ⟨c, A, r⟩ := F; exact ⟨c, A.ext E, r⟩
theorem ArO.other {sl : Nat} {v : Value} (F : ArO Z h b C n f) (W : Wr h h' a sl v) (q : b ≠ a) : ArO Z h' b C n f := by obtain ⟨c, A, r⟩ := F; exact ⟨c, A.other W q, r⟩
theorem ArO.keep {ws : List Addr} (F : ArO Z h a C n f) (K : Keep h h' ws) (q : a ∉ ws) : ArO Z h' a C n f := by obtain ⟨c, A, r⟩ := F; exact ⟨c, ⟨K.2.1 a c A.1 q, A.2⟩, r⟩
theorem ArO.congr {g : Nat → Value} (F : ArO Z h a C n f) (q : ∀ i, i < n → f i = g i) : ArO Z h a C n g := by obtain ⟨c, A, r1, r2, r3, r4⟩ := F; exact ⟨c, A, r1, r2, fun j hj => by rw [r3 j hj, q j hj], r4⟩
theorem ArO.fresh {k : ClassId} {z : Int32} (A : Arr Z h a (newA k (.object C) z) (.object C)) (O : Ovr Z k C) (q : ¬ z < 0) (e : z.toNatClampNeg = n) : ArO Z h a C n (fun _ => .null) := by
  subst e
  refine ⟨_, A, sz_new _ _ _, (back32 q).2, fun j hj => ?_, O⟩
  simp [newA, hj, defaultValue]
theorem ArO.set {j : Nat} {v : Value} (F : ArO Z h a C n f) (W : Wr h h' a j v) : ArO Z h' a C n (upd f j v) := by
  obtain ⟨c, A, r1, r2, r3, r4⟩ := F
  refine ⟨_, A.same W, (sz_set _ _ _).trans r1, r2, fun i hi => ?_, r4⟩
  by_cases q : i = j
  · subst q; rw [upd_hit]; simp [Cell.setSlot, r1, hi]
  · rw [upd_miss _ _ q, ← r3 i hi]
    simp only [Cell.setSlot]
    exact Array.getElem?_setIfInBounds_ne (fun y => q y.symm)
theorem ArO.sto {y : Addr} (F : ArO Z h a C n f) (I : Ins Z h y C true) : Sto Z h a (.ref y) := by obtain ⟨c, A, -, -, -, O⟩ := F; exact Sto.of A O I
end ArraysO
theorem g_anewarray (X : Stand p l e R s m args below meth c T locs cells slots) (hx : p.tables.exec = Jvm.exec) (hby : c.code = bytes) {Z : State} {a0 : Array Value} (hZ : Z.Warmed39 s.vm) {own C : String} {index : Nat} {h : Heap} {z : Int32} (hown : s.vm.findClass own = some m.cls) (w1 : (Jvm.Cond.classLink own index C).before a0 Z = true) (w2 : (Jvm.Cond.arrayOver (.object C)).before a0 Z = true) (eT : T.heap = h) (hd : decode bytes pc = .ok (.anewarray index, 3)) (hz : ¬ z < 0) (n : Nat) (hn : z.toNatClampNeg = n) (cap : Nat) (hcap : n ≤ cap) (hbig : cap * 8 ≤ 536870912) (hc : cells + 1 ≤ R.cells) (hl : slots + cap ≤ R.slots) (q : Nat) (hq : pc + 3 = q)
    (k : ∀ (T' : State) (h' : Heap) (a : Addr), a = h.size → Stand p l e R s m args below meth c T' locs (cells + 1) (slots + cap) → T'.heap = h' → Ext h h' → ArO Z h' a C n (fun _ => .null) → Goes p e below K (T'.setTop (mkF m q Ls (.ref a :: rest)))) : Goes p e below K (T.setTop (mkF m pc Ls (.int z :: rest))) := by
  subst hq
  obtain ⟨T', h', cA, X', e', E', A', O', st⟩ := newR X hx hZ hown w1 w2 eT (g := mkF m pc Ls (.int z :: rest)) rfl (hb hby hd) rfl hz (cap := cap) (by rw [hn]; exact hcap) hbig hc hl
  exact Goes.of st (k _ _ _ rfl X' e' E' (ArO.fresh A' O' hz hn))
theorem g_aastore (X : Stand p l e R s m args below meth c T locs cells slots) (hx : p.tables.exec = Jvm.exec) (hby : c.code = bytes) {Z : State} (hZ : Z.Warmed39 s.vm) {h : Heap} {a : Addr} {n : Nat} {C : String} {f : Nat → Value} {j : Int32} {x : Value} (eT : T.heap = h) (F : ArO Z h a C n f) (S : Sto Z h a x) (hd : decode bytes pc = .ok (.aastore, 1)) (h0 : ¬ j < 0) (i : Nat) (hj : j.toNatClampNeg = i) (hi : i < n) (q : Nat) (hq : pc + 1 = q)
    (k : ∀ (T' : State) (h' : Heap), Stand p l e R s m args below meth c T' (locs ++ [⟨a, i⟩]) cells slots → T'.heap = h' → Wr h h' a i x → ArO Z h' a C n (upd f i x) → Goes p e below K (T'.setTop (mkF m q Ls rest))) : Goes p e below K (T.setTop (mkF m pc Ls (x :: .int j :: .ref a :: rest))) := by
  subst hq
  have F' := F
  obtain ⟨cl, A, r1, r2, r3, r4⟩ := F'
  obtain ⟨T', h', X', e', W', st⟩ := stR X hx hZ eT A (own_in r1 h0 hj hi) rfl S (g := mkF m pc Ls (x :: .int j :: .ref a :: rest)) rfl rfl (hb hby hd)
  rw [hj] at X' W'
  exact Goes.of st (k _ _ X' e' W' (ArO.set F W'))
theorem g_checkcast (X : Stand p l e R s m args below meth c T locs cells slots) (hx : p.tables.exec = Jvm.exec) (hby : c.code = bytes) {Z : State} {a0 : Array Value} (hZ : Z.Warmed39 s.vm) {own C : String} {index : Nat} {h : Heap} {a : Addr} (hown : s.vm.findClass own = some m.cls) (w : (Jvm.Cond.classLink own index C).before a0 Z = true) (eT : T.heap = h) (I : Ins Z h a C true) (hd : decode bytes pc = .ok (.checkcast index, 3)) (q : Nat) (hq : pc + 3 = q)
    (k : ∀ T' : State, Stand p l e R s m args below meth c T' locs cells slots → T'.heap = h → Goes p e below K (T'.setTop (mkF m q Ls (.ref a :: rest)))) : Goes p e below K (T.setTop (mkF m pc Ls (.ref a :: rest))) := by
  subst hq
  obtain ⟨T', X', e', st⟩ := castY X hx hZ hown w eT I (g := mkF m pc Ls (.ref a :: rest)) rfl rfl (hb hby hd)
  exact Goes.of st (k _ X' e')
theorem g_getstatic (X : Stand p l e R s m args below meth c T locs cells slots) (hx : p.tables.exec = Jvm.exec) (hby : c.code = bytes) {Z : State} {a0 : Array Value} (hZ : Z.Warmed39 s.vm) {own R0 O n d host : String} {index : Nat} {h : Heap} {v : Value} (hown : s.vm.findClass own = some m.cls) (w : (Jvm.Cond.fieldLink own index R0 n d).before a0 Z = true ∨ (Jvm.Cond.fieldLinkNest own index R0 n d host).before a0 Z = true) (via : Via Z R0 O n d) (eT : T.heap = h) (F : Sta Z h O n d v) (hd : decode bytes pc = .ok (.getstatic index, 3)) (q : Nat) (hq : pc + 3 = q)
    (k : ∀ T' : State, Stand p l e R s m args below meth c T' locs cells slots → T'.heap = h → Goes p e below K (T'.setTop (mkF m q Ls (v :: rest)))) : Goes p e below K (T.setTop (mkF m pc Ls rest)) := by
  subst hq
  obtain ⟨T', X', e', st⟩ := getS2 X hx hZ hown w via eT F (g := mkF m pc Ls rest) rfl (hb hby hd)
  exact Goes.of st (k _ X' e')
theorem own_fm {r n d : String} (h1 : r ≠ "java/lang/invoke/MethodHandle") (h2 : r ≠ "java/lang/invoke/VarHandle") : ((Jvm.Cond.interfaceMethod r r n d).onTables && (Jvm.Cond.interfaceMethod r r n d).keepsFace) = true := by
  have e : ((Jvm.Cond.interfaceMethod r r n d).onTables && (Jvm.Cond.interfaceMethod r r n d).keepsFace) = (r == r && r != "java/lang/invoke/MethodHandle" && r != "java/lang/invoke/VarHandle") := rfl
  rw [e]; simp [h1, h2]
theorem g_interface (X : Stand p l e R s m args below meth c T locs cells slots) (hx : p.tables.exec = Jvm.exec) (hby : c.code = bytes) {Z : State} {a0 : Array Value} (hZ : Z.Warmed39 s.vm) {own : String} {index : Nat} {y : MethodName} {cb : ByteArray} {maxL : Nat} {ret : Option FieldType} {rm : Room} {Q : Option Value → Heap → List Loc → Prop} {h : Heap} {z : MethodName} {C : String} {count : Nat} (hown : s.vm.findClass own = some m.cls) (w1 : (Jvm.Cond.methodLink own index y).before a0 Z = true) (w2 : (Jvm.Cond.declares y).before a0 Z = true) (w7 : (Jvm.Cond.interfaceMethod y.cls y.cls y.name y.desc).before a0 Z = true) (w5 : (Jvm.Cond.selects C y z).before a0 Z = true) (w6 : (Jvm.Cond.instanceMethod z).before a0 Z = true) (w8 : (Jvm.Cond.publicMethod z).before a0 Z = true) (w9 : (Jvm.Cond.unhidden C y.name y.desc).before a0 Z = true) (w10 : (Jvm.Cond.castable C y.cls).before a0 Z = true) (w3 : (Jvm.Cond.initialized z.cls).before a0 Z = true) (w4 : (Jvm.Cond.code z cb maxL ret).before a0 Z = true)
    (hd : decode bytes pc = .ok (.invokeinterface index count, 5)) (a : Addr) (E : Exa Z h a C) (argsL rest : List Value) {st : List Value} (hM : Ctr l z cb maxL ret [] rm (.ref a :: argsL).toArray Z h Q) (eT : T.heap = h) (hst : st = argsL.reverse ++ .ref a :: rest) (hsz : Ls.size = c.maxLocals) {ps : List FieldType} {rt : Option FieldType} (hpd : parseMethodDescriptor y.desc = some ⟨ps, rt⟩) (hlen : argsL.length = ps.length)
    (hy : y.cls ≠ "java/lang/invoke/MethodHandle" ∧ y.cls ≠ "java/lang/invoke/VarHandle") (W : Nat) (hW : (rest.map fun v => v.category).sum ≤ W) (hf : rm.frames + 1 ≤ R.frames) (hl : W + (maxL + 11) + rm.locals ≤ R.locals) (hc : cells + rm.cells ≤ R.cells) (hs : slots + rm.slots ≤ R.slots) (q : Nat) (hq : pc + 5 = q)
    (k : ∀ (T' : State) (v : Option Value) (L : List Loc), Stand p l e R s m args below meth c T' (locs ++ L) (cells + rm.cells) (slots + rm.slots) → Q v T'.heap L → Goes p e below K (T'.setTop (mkF m q Ls (v.toList ++ rest)))) : Goes p e below K (T.setTop (mkF m pc Ls st)) := by
  subst hq hst
  obtain ⟨cq, kq, qa, qb, qc⟩ := isOf hZ eT E
  obtain ⟨v, _, ⟨T', L', k', n'⟩, -, X', ⟨Lc, hQ, l1, y1, z1⟩, st⟩ := X.interfaceBack hx (xi := y) (y := z) hown (mvT hZ w1) (mvT hZ w2) (mvT hZ w7 (own_fm hy.1 hy.2)) (mvT hZ w5) (mvT hZ w6) (mvT hZ w8) (mvT hZ w9) (mvT hZ w10) hy (backOf (W := W) hM hZ w4 w3 hf hl) qa qb qc (g := mkF m pc Ls (argsL.reverse ++ .ref a :: rest)) rfl hsz (Steps.refl _) (argsL := argsL) (rest := rest) (lenOf hpd hlen) rfl (by show 2 * 0 + _ ≤ _; omega) (hb hby hd) (fun _ _ => ⟨rfl, eT, hc, hs⟩)
  dsimp only [Pt.U, Pt.locs, Pt.cells, Pt.slots] at X' l1 y1 z1 st hQ
  subst l1 y1 z1
  exact Goes.of (fun t kt => st.trans kt) (k _ _ _ X' hQ)
end OwnKit
theorem byte2 (x : Int32) : x.toInt8.toInt32.toInt8.toInt32 = x.toInt8.toInt32 := by simp
theorem own_ite01 {P : Prop} [Decidable P] : (if P then (1 : Int32) else 0) = 0 ∨ (if P then (1 : Int32) else 0) = 1 := by by_cases h : P <;> simp [h]
theorem own_and31 (x : Int32) : (x &&& (2147483647 : Int32)).toInt = x.toInt % 2147483648 := c_mask x 2147483647 31 (by decide) (by decide)
theorem own_rem (x k : Int32) (d : Int) (hk : k.toInt = d) (hd : 0 < d) : 0 ≤ ((x &&& (2147483647 : Int32)) % k).toInt ∧ ((x &&& (2147483647 : Int32)) % k).toInt < d := by
  have h1 := own_and31 x
  have h2 := (c_irem (x &&& (2147483647 : Int32)) k d hk).1 (by omega)
  rw [h2]; exact ⟨Int.emod_nonneg _ (by omega), Int.emod_lt_of_pos _ hd⟩
theorem own_nn {j : Int32} (h : 0 ≤ j.toInt) : ¬ j < 0 := by
  rw [Int32.lt_iff_toInt_lt]; show ¬ j.toInt < 0; omega
theorem own_lt {j : Int32} {n : Nat} (h : j.toInt < n) (hn : 0 < n) : j.toNatClampNeg < n := by
  show j.toInt.toNat < n; omega

def sh7 (r : Int32) : Int32 := ((r.toUInt32 >>> ((7 : Int32) &&& 31).toUInt32).toInt32)
def lo7 (r : Int32) : Int32 := (((r &&& (127 : Int32)) ||| (128 : Int32)).toInt8.toInt32)
def its : Nat → Int32 → Int32
  | 0, r => r
  | k + 1, r => its k (sh7 r)
def putF (f : Nat → Int32) (i : Nat) (r : Int32) : Nat → (Nat → Int32)
  | 0 => upd f i r.toInt8.toInt32
  | k + 1 => putF (upd f i (lo7 r)) (i + 1) (sh7 r) k
def Put (i : Nat) (r : Int32) (g : Nat → Int32) (i' : Nat) (fin : Nat → Int32) : Prop := ∃ k, k ≤ 3 ∧ fin = putF g i r k ∧ i' = i + k + 1 ∧ its k r < 128 ∧ ∀ j, j < k → ¬ its j r < 128
theorem own_sh7 (r : Int32) (h : 0 ≤ r.toInt) : (sh7 r).toInt = r.toInt / 128 := by
  have q := c_iushr r 7 7 (by decide) (by decide)
  have e : ((2 ^ 7 : Nat) : Int) = 128 := by decide
  rw [e] at q
  have r1 := rng32 r
  show ((r.toUInt32 >>> ((7 : Int32) &&& 31).toUInt32).toInt32).toInt = _
  rw [q]; omega
theorem own_clamp {i : Int32} {n : Nat} (h : i.toInt = n) : i.toNatClampNeg = n := by
  show i.toInt.toNat = n; omega
theorem own_i1 {i : Int32} {n : Nat} (h : i.toInt = n) (hn : n < 100) : (i + 1).toInt = (n + 1 : Nat) := by
  have h1 := c_iadd i 1
  have h2 := rng32 (i + 1)
  have e1 : (1 : Int32).toInt = 1 := rfl
  omega
theorem own_turn {fu i : Nat} {a r : Int32} (ha : a.toInt = i) (hi : i + fu ≤ 10) (h0 : 0 ≤ r.toInt) (hb : r.toInt < 128 ^ (fu + 1)) (hf : fu ≤ 3) (q : ¬ r < 128) :
    ∃ fu', fu = fu' + 1 ∧ (a + 1).toInt = (i + 1 : Nat) ∧ i + 1 + fu' ≤ 10 ∧ 0 ≤ (sh7 r).toInt ∧ (sh7 r).toInt < 128 ^ (fu' + 1) ∧ fu' ≤ 3 := by
  rw [Int32.lt_iff_toInt_lt] at q
  have e : (128 : Int32).toInt = 128 := rfl
  have a1 := own_i1 ha (by omega)
  have a2 := own_sh7 r h0
  have p1 : (128 : Int) ^ 1 = 128 := by decide
  have p2 : (128 : Int) ^ 2 = 16384 := by decide
  have p3 : (128 : Int) ^ 3 = 2097152 := by decide
  have p4 : (128 : Int) ^ 4 = 268435456 := by decide
  match fu, hf with
  | 0, _ => exfalso; simp only [Nat.zero_add, p1] at hb; omega
  | 1, _ => simp only [p2, Nat.reduceAdd] at hb; exact ⟨0, rfl, a1, by omega, by omega, by simp only [Nat.zero_add, p1]; omega, by omega⟩
  | 2, _ => simp only [p3, Nat.reduceAdd] at hb; exact ⟨1, rfl, a1, by omega, by omega, by simp only [p2, Nat.reduceAdd]; omega, by omega⟩
  | 3, _ => simp only [p4, Nat.reduceAdd] at hb; exact ⟨2, rfl, a1, by omega, by omega, by simp only [p3, Nat.reduceAdd]; omega, by omega⟩
theorem Put.more {i i' fu : Nat} {r : Int32} {g fin : Nat → Int32} (q : ¬ r < 128) (h : ∃ k, k ≤ fu ∧ fin = putF (upd g i (lo7 r)) (i + 1) (sh7 r) k ∧ i' = i + 1 + k + 1 ∧ its k (sh7 r) < 128 ∧ ∀ j, j < k → ¬ its j (sh7 r) < 128) :
    ∃ k, k ≤ fu + 1 ∧ fin = putF g i r k ∧ i' = i + k + 1 ∧ its k r < 128 ∧ ∀ j, j < k → ¬ its j r < 128 := by
  obtain ⟨k, h1, h2, h3, h4, h5⟩ := h
  refine ⟨k + 1, by omega, h2, by omega, h4, fun j hj => ?_⟩
  match j with
  | 0 => exact q
  | j + 1 => exact h5 j (by omega)

theorem d1_0 : decode prog_15_method_6_code 0 = .ok (.iload_n 1, 1) := by decide +kernel
theorem d1_1 : decode prog_15_method_6_code 1 = .ok (.istore_n 3, 1) := by decide +kernel
theorem d1_2 : decode prog_15_method_6_code 2 = .ok (.iload_n 2, 1) := by decide +kernel
theorem d1_3 : decode prog_15_method_6_code 3 = .ok (.istore 4, 2) := by decide +kernel
theorem d1_5 : decode prog_15_method_6_code 5 = .ok (.iload 4, 2) := by decide +kernel
theorem d1_7 : decode prog_15_method_6_code 7 = .ok (.sipush 128, 3) := by decide +kernel
theorem d1_10 : decode prog_15_method_6_code 10 = .ok (.if_icmp .lt 29, 3) := by decide +kernel
theorem d1_13 : decode prog_15_method_6_code 13 = .ok (.aload_n 0, 1) := by decide +kernel
theorem d1_14 : decode prog_15_method_6_code 14 = .ok (.iload_n 3, 1) := by decide +kernel
theorem d1_15 : decode prog_15_method_6_code 15 = .ok (.iinc 3 1, 3) := by decide +kernel
theorem d1_18 : decode prog_15_method_6_code 18 = .ok (.iload 4, 2) := by decide +kernel
theorem d1_20 : decode prog_15_method_6_code 20 = .ok (.bipush 127, 2) := by decide +kernel
theorem d1_22 : decode prog_15_method_6_code 22 = .ok (.iand, 1) := by decide +kernel
theorem d1_23 : decode prog_15_method_6_code 23 = .ok (.sipush 128, 3) := by decide +kernel
theorem d1_26 : decode prog_15_method_6_code 26 = .ok (.ior, 1) := by decide +kernel
theorem d1_27 : decode prog_15_method_6_code 27 = .ok (.i2b, 1) := by decide +kernel
theorem d1_28 : decode prog_15_method_6_code 28 = .ok (.bastore, 1) := by decide +kernel
theorem d1_29 : decode prog_15_method_6_code 29 = .ok (.iload 4, 2) := by decide +kernel
theorem d1_31 : decode prog_15_method_6_code 31 = .ok (.bipush 7, 2) := by decide +kernel
theorem d1_33 : decode prog_15_method_6_code 33 = .ok (.iushr, 1) := by decide +kernel
theorem d1_34 : decode prog_15_method_6_code 34 = .ok (.istore 4, 2) := by decide +kernel
theorem d1_36 : decode prog_15_method_6_code 36 = .ok (.goto (-31), 3) := by decide +kernel
theorem d1_39 : decode prog_15_method_6_code 39 = .ok (.aload_n 0, 1) := by decide +kernel
theorem d1_40 : decode prog_15_method_6_code 40 = .ok (.iload_n 3, 1) := by decide +kernel
theorem d1_41 : decode prog_15_method_6_code 41 = .ok (.iinc 3 1, 3) := by decide +kernel
theorem d1_44 : decode prog_15_method_6_code 44 = .ok (.iload 4, 2) := by decide +kernel
theorem d1_46 : decode prog_15_method_6_code 46 = .ok (.i2b, 1) := by decide +kernel
theorem d1_47 : decode prog_15_method_6_code 47 = .ok (.bastore, 1) := by decide +kernel
theorem d1_48 : decode prog_15_method_6_code 48 = .ok (.iload_n 3, 1) := by decide +kernel
theorem d1_49 : decode prog_15_method_6_code 49 = .ok (.ireturn, 1) := by decide +kernel
theorem pn1 : plainFor (⟨"com/example/brevicode/brevicode/Format", "putSize", "([BII)I"⟩ : MethodName) = true := plainFor_of_name (by first | (simp [plainName, overriddenIn]; done) | decide +kernel)
theorem ef1 (m : MethodId) (arr : Addr) (pos : Int32) (sz : Int32) (f : Nat → Int32) (pn : Nat) : entryFrame m #[(.ref arr), (.int pos), (.int sz)] 5 = mkF m 0 #[.val (.ref arr), .val (.int pos), .val (.int sz), .unset, .unset] [] := by first | (simp [entryFrame, mkF, argsToLocals, Value.category]; done) | rfl
def Q1 (arr : Addr) (pos : Int32) (sz : Int32) (f : Nat → Int32) (pn : Nat) (Z : State) (h0 : Heap) (n0 : Nat) (v : Option Value) (h : Heap) (L : List Loc) : Prop := ∃ (af : Int32) (i' : Nat) (fin : Nat → Int32), v = some (.int af) ∧ af.toInt = i' ∧ Put pn sz f i' fin ∧ Fr n0 L ∧ Keep h0 h [arr] ∧ AI Z h arr .byte 12 fin
set_option maxRecDepth 65536 in
set_option maxHeartbeats 40000000 in
theorem rm1 (l : Launch) (Z : State) (a0 : Array Value) (hw : ∀ d ∈ tables_1, d.before a0 Z = true) (ws : List Jvm.Cond) (arr : Addr) (pos : Int32) (sz : Int32) (f : Nat → Int32) (pn : Nat) (h0 : Heap) (n0 : Nat) (Z0 : n0 ≤ h0.size) (A_arr_0 : AI Z h0 arr .byte 12 f) (gn_arr : n0 ≤ arr) (hpos : pos.toInt = pn) (hpn : pn ≤ 7) (hs0 : 0 ≤ sz.toInt) (hsb : sz.toInt < 128 ^ 4) : Ctr l (⟨"com/example/brevicode/brevicode/Format", "putSize", "([BII)I"⟩ : MethodName) prog_15_method_6_code 5 (some .int) ws ({ frames := 0, cells := 0, slots := 0, locals := 0 } : Room) #[(.ref arr), (.int pos), (.int sz)] Z h0 (Q1 arr pos sz f pn Z h0 n0) := by
  refine own_body pn1 ?_
  intro p e s m below meth c T0 hx hby hml hown hnm hret hlk hZ X0 e0
  have N0 := Fr.nil n0
  have K0 : Keep h0 h0 [arr] := Keep.refl _ _
  refine Goes.entry (ef1 m arr pos sz f pn) ?_
  refine g_iloadN X0 hx hby d1_0 rfl 1 rfl ?_
  refine g_istoreN X0 hx hby d1_1 pos rfl #[.val (.ref arr), .val (.int pos), .val (.int sz), .val (.int pos), .unset] rfl 2 rfl ?_
  refine g_iloadN X0 hx hby d1_2 rfl 3 rfl ?_
  refine g_istore X0 hx hby d1_3 sz rfl #[.val (.ref arr), .val (.int pos), .val (.int sz), .val (.int pos), .val (.int sz)] rfl 5 rfl ?_
  suffices loop : ∀ (k : Nat) (fu : Nat) (i : Nat) (a : Int32) (r : Int32) (g : Nat → Int32) (T1 : State) (L1 : List Loc) (h1 : Heap), fu < k → a.toInt = i → i + fu ≤ 10 → 0 ≤ r.toInt → r.toInt < 128 ^ (fu + 1) → fu ≤ 3 → (∀ i' fin, (∃ k, k ≤ fu ∧ fin = putF g i r k ∧ i' = i + k + 1 ∧ its k r < 128 ∧ ∀ j, j < k → ¬ its j r < 128) → Put pn sz f i' fin) → Stand p l e ({ frames := 0, cells := 0, slots := 0, locals := 0 } : Room) s m #[(.ref arr), (.int pos), (.int sz)] below meth c T1 L1 (0) (0) → T1.heap = h1 → Fr n0 L1 → n0 ≤ h1.size → Keep h0 h1 [arr] → AI Z h1 arr .byte 12 g → Goes p e below (Kend s below (Q1 arr pos sz f pn Z h0 n0) ({ frames := 0, cells := 0, slots := 0, locals := 0 } : Room).cells ({ frames := 0, cells := 0, slots := 0, locals := 0 } : Room).slots) (T1.setTop (mkF m 5 #[.val (.ref arr), .val (.int pos), .val (.int sz), .val (.int a), .val (.int r)] [])) by
    exact loop 4 3 pn pos sz f _ _ _ (by decide) hpos (by omega) hs0 hsb (by decide) (fun i' fin h => h) X0 e0 N0 Z0 K0 A_arr_0
  intro k
  induction k with
  | zero => intro fu i a r g T1 L1 h1 hk ha hi hr0 hrb hf hP X1 e1 N1 Z1 K1 A_arr_1; exact absurd hk (Nat.not_lt_zero _)
  | succ k ih =>
    intro fu i a r g T1 L1 h1 hk ha hi hr0 hrb hf hP X1 e1 N1 Z1 K1 A_arr_1
    refine g_iload X1 hx hby d1_5 rfl 7 rfl ?_
    refine g_sipush X1 hx hby d1_7 (128 : Int32) rfl 10 rfl ?_
    refine g_icmp_lt X1 hx hby d1_10 39 13 (by decide) (by decide) rfl (fun c2 => ?_) (fun c2 => ?_)
    · -- c2
      refine g_aloadN X1 hx hby d1_39 rfl rfl 40 rfl ?_
      refine g_iloadN X1 hx hby d1_40 rfl 41 rfl ?_
      refine g_iinc X1 hx hby d1_41 (1 : Int32) rfl rfl (a + (1 : Int32)) rfl #[.val (.ref arr), .val (.int pos), .val (.int sz), .val (.int (a + (1 : Int32))), .val (.int r)] rfl 44 rfl ?_
      refine g_iload X1 hx hby d1_44 rfl 46 rfl ?_
      refine g_i2b X1 hx hby d1_46 47 rfl ?_
      refine g_bastore X1 hx hby hZ e1 A_arr_1 d1_47 (own_nn (by omega)) i (own_clamp ha) (by omega) r.toInt8.toInt32 (byte2 _) 48 rfl ?_
      intro T3 h3 X3 e3 W3 V3
      have N3 := Fr.snoc X3 N1 gn_arr
      have K3 := K1.wr W3 (Or.inl (List.mem_of_getElem? (i := 0) rfl))
      have Z3 : n0 ≤ h3.size := Nat.le_trans Z1 (Keep.of_wr W3).1
      refine g_iloadN X3 hx hby d1_48 rfl 49 rfl ?_
      exact g_ireturn X3 hx hby hret hlk (Or.inl rfl) rfl d1_49 (by rw [e3]; exact ⟨_, _, _, rfl, own_i1 ha (by omega), hP (i + 1) _ ⟨0, Nat.zero_le _, rfl, rfl, c2, fun j hj => absurd hj (Nat.not_lt_zero _)⟩, N3, K3, V3⟩) (by decide) (by decide)
    · -- not c2
      obtain ⟨fu', rfl, q2, q3, q4, q5, q6⟩ := own_turn ha hi hr0 hrb hf c2
      refine g_aloadN X1 hx hby d1_13 rfl rfl 14 rfl ?_
      refine g_iloadN X1 hx hby d1_14 rfl 15 rfl ?_
      refine g_iinc X1 hx hby d1_15 (1 : Int32) rfl rfl (a + (1 : Int32)) rfl #[.val (.ref arr), .val (.int pos), .val (.int sz), .val (.int (a + (1 : Int32))), .val (.int r)] rfl 18 rfl ?_
      refine g_iload X1 hx hby d1_18 rfl 20 rfl ?_
      refine g_bipush X1 hx hby d1_20 (127 : Int32) rfl 22 rfl ?_
      refine g_iand X1 hx hby d1_22 23 rfl ?_
      refine g_sipush X1 hx hby d1_23 (128 : Int32) rfl 26 rfl ?_
      refine g_ior X1 hx hby d1_26 27 rfl ?_
      refine g_i2b X1 hx hby d1_27 28 rfl ?_
      refine g_bastore X1 hx hby hZ e1 A_arr_1 d1_28 (own_nn (by omega)) i (own_clamp ha) (by omega) (lo7 r) (byte2 _) 29 rfl ?_
      intro T4 h4 X4 e4 W4 V4
      have N4 := Fr.snoc X4 N1 gn_arr
      have K4 := K1.wr W4 (Or.inl (List.mem_of_getElem? (i := 0) rfl))
      have Z4 : n0 ≤ h4.size := Nat.le_trans Z1 (Keep.of_wr W4).1
      refine g_iload X4 hx hby d1_29 rfl 31 rfl ?_
      refine g_bipush X4 hx hby d1_31 (7 : Int32) rfl 33 rfl ?_
      refine g_iushr X4 hx hby d1_33 34 rfl ?_
      refine g_istore X4 hx hby d1_34 (sh7 r) rfl #[.val (.ref arr), .val (.int pos), .val (.int sz), .val (.int (a + (1 : Int32))), .val (.int (sh7 r))] rfl 36 rfl ?_
      refine g_goto X4 hx hby d1_36 5 (by decide) (by decide) ?_
      exact ih fu' (i + 1) _ _ _ _ _ _ (by omega) q2 q3 q4 q5 q6 (fun i' fin h => hP i' fin (Put.more c2 h)) X4 e4 N4 Z4 K4 V4
def okF (ii : Int32) (pos : Int32) (sz : Int32) (nn : Int32) (fl : Int32) (f : Nat → Int32) : Int32 := if (ii - pos) < 0 then (if (f ii.toNatClampNeg) = (fl.toInt8.toInt32) then ((1 : Int32)) else ((0 : Int32))) else (if (ii - pos) < nn then (if (ii - pos) < (nn - (1 : Int32)) then (if (f ii.toNatClampNeg) = (((((sz.toUInt32 >>> (((7 : Int32) * (ii - pos)) &&& 31).toUInt32).toInt32) &&& (127 : Int32)) ||| (128 : Int32)).toInt8.toInt32) then ((1 : Int32)) else ((0 : Int32))) else (if (f ii.toNatClampNeg) = (((((sz.toUInt32 >>> (((7 : Int32) * (ii - pos)) &&& 31).toUInt32).toInt32) &&& (127 : Int32)) ||| (0 : Int32)).toInt8.toInt32) then ((1 : Int32)) else ((0 : Int32)))) else (if (f ii.toNatClampNeg) = (fl.toInt8.toInt32) then ((1 : Int32)) else ((0 : Int32))))
theorem d2_0 : decode method_3_code 0 = .ok (.iload_n 1, 1) := by decide +kernel
theorem d2_1 : decode method_3_code 1 = .ok (.iload_n 2, 1) := by decide +kernel
theorem d2_2 : decode method_3_code 2 = .ok (.isub, 1) := by decide +kernel
theorem d2_3 : decode method_3_code 3 = .ok (.istore 6, 2) := by decide +kernel
theorem d2_5 : decode method_3_code 5 = .ok (.iload 6, 2) := by decide +kernel
theorem d2_7 : decode method_3_code 7 = .ok (.ifCond .lt 10, 3) := by decide +kernel
theorem d2_10 : decode method_3_code 10 = .ok (.iload 6, 2) := by decide +kernel
theorem d2_12 : decode method_3_code 12 = .ok (.iload 4, 2) := by decide +kernel
theorem d2_14 : decode method_3_code 14 = .ok (.if_icmp .lt 10, 3) := by decide +kernel
theorem d2_17 : decode method_3_code 17 = .ok (.iload 5, 2) := by decide +kernel
theorem d2_19 : decode method_3_code 19 = .ok (.istore 7, 2) := by decide +kernel
theorem d2_21 : decode method_3_code 21 = .ok (.goto 32, 3) := by decide +kernel
theorem d2_24 : decode method_3_code 24 = .ok (.iload_n 3, 1) := by decide +kernel
theorem d2_25 : decode method_3_code 25 = .ok (.bipush 7, 2) := by decide +kernel
theorem d2_27 : decode method_3_code 27 = .ok (.iload 6, 2) := by decide +kernel
theorem d2_29 : decode method_3_code 29 = .ok (.imul, 1) := by decide +kernel
theorem d2_30 : decode method_3_code 30 = .ok (.iushr, 1) := by decide +kernel
theorem d2_31 : decode method_3_code 31 = .ok (.bipush 127, 2) := by decide +kernel
theorem d2_33 : decode method_3_code 33 = .ok (.iand, 1) := by decide +kernel
theorem d2_34 : decode method_3_code 34 = .ok (.iload 6, 2) := by decide +kernel
theorem d2_36 : decode method_3_code 36 = .ok (.iload 4, 2) := by decide +kernel
theorem d2_38 : decode method_3_code 38 = .ok (.iconst 1, 1) := by decide +kernel
theorem d2_39 : decode method_3_code 39 = .ok (.isub, 1) := by decide +kernel
theorem d2_40 : decode method_3_code 40 = .ok (.if_icmp .ge 9, 3) := by decide +kernel
theorem d2_43 : decode method_3_code 43 = .ok (.sipush 128, 3) := by decide +kernel
theorem d2_46 : decode method_3_code 46 = .ok (.goto 4, 3) := by decide +kernel
theorem d2_49 : decode method_3_code 49 = .ok (.iconst 0, 1) := by decide +kernel
theorem d2_50 : decode method_3_code 50 = .ok (.ior, 1) := by decide +kernel
theorem d2_51 : decode method_3_code 51 = .ok (.istore 7, 2) := by decide +kernel
theorem d2_53 : decode method_3_code 53 = .ok (.aload_n 0, 1) := by decide +kernel
theorem d2_54 : decode method_3_code 54 = .ok (.iload_n 1, 1) := by decide +kernel
theorem d2_55 : decode method_3_code 55 = .ok (.baload, 1) := by decide +kernel
theorem d2_56 : decode method_3_code 56 = .ok (.iload 7, 2) := by decide +kernel
theorem d2_58 : decode method_3_code 58 = .ok (.i2b, 1) := by decide +kernel
theorem d2_59 : decode method_3_code 59 = .ok (.if_icmp .ne 7, 3) := by decide +kernel
theorem d2_62 : decode method_3_code 62 = .ok (.iconst 1, 1) := by decide +kernel
theorem d2_63 : decode method_3_code 63 = .ok (.goto 4, 3) := by decide +kernel
theorem d2_66 : decode method_3_code 66 = .ok (.iconst 0, 1) := by decide +kernel
theorem d2_67 : decode method_3_code 67 = .ok (.ireturn, 1) := by decide +kernel
theorem pn2 : plainFor (⟨"com/example/brevicode/brevicode/FormatPutSizePinLaw", "ok", "([BIIIIB)Z"⟩ : MethodName) = true := plainFor_of_name (by first | (simp [plainName, overriddenIn]; done) | decide +kernel)
theorem ef2 (m : MethodId) (arr : Addr) (ii : Int32) (pos : Int32) (sz : Int32) (nn : Int32) (fl : Int32) (f : Nat → Int32) : entryFrame m #[(.ref arr), (.int ii), (.int pos), (.int sz), (.int nn), (.int fl)] 8 = mkF m 0 #[.val (.ref arr), .val (.int ii), .val (.int pos), .val (.int sz), .val (.int nn), .val (.int fl), .unset, .unset] [] := by first | (simp [entryFrame, mkF, argsToLocals, Value.category]; done) | rfl
def Q2 (arr : Addr) (ii : Int32) (pos : Int32) (sz : Int32) (nn : Int32) (fl : Int32) (f : Nat → Int32) (Z : State) (h0 : Heap) (n0 : Nat) (v : Option Value) (h : Heap) (L : List Loc) : Prop := v = some (.int (okF ii pos sz nn fl f)) ∧ Fr n0 L ∧ h = h0
set_option maxRecDepth 65536 in
set_option maxHeartbeats 40000000 in
theorem rm2 (l : Launch) (Z : State) (a0 : Array Value) (hw : ∀ d ∈ tables_1, d.before a0 Z = true) (ws : List Jvm.Cond) (arr : Addr) (ii : Int32) (pos : Int32) (sz : Int32) (nn : Int32) (fl : Int32) (f : Nat → Int32) (h0 : Heap) (n0 : Nat) (Z0 : n0 ≤ h0.size) (A_arr_0 : AI Z h0 arr .byte 12 f) (hk0 : ¬ ii < 0) (hk1 : ii.toNatClampNeg < 12) : Ctr l (⟨"com/example/brevicode/brevicode/FormatPutSizePinLaw", "ok", "([BIIIIB)Z"⟩ : MethodName) method_3_code 8 (some .boolean) ws ({ frames := 0, cells := 0, slots := 0, locals := 0 } : Room) #[(.ref arr), (.int ii), (.int pos), (.int sz), (.int nn), (.int fl)] Z h0 (Q2 arr ii pos sz nn fl f Z h0 n0) := by
  refine own_body pn2 ?_
  intro p e s m below meth c T0 hx hby hml hown hnm hret hlk hZ X0 e0
  have N0 := Fr.nil n0
  refine Goes.entry (ef2 m arr ii pos sz nn fl f) ?_
  refine g_iloadN X0 hx hby d2_0 rfl 1 rfl ?_
  refine g_iloadN X0 hx hby d2_1 rfl 2 rfl ?_
  refine g_isub X0 hx hby d2_2 3 rfl ?_
  refine g_istore X0 hx hby d2_3 (ii - pos) rfl #[.val (.ref arr), .val (.int ii), .val (.int pos), .val (.int sz), .val (.int nn), .val (.int fl), .val (.int (ii - pos)), .unset] rfl 5 rfl ?_
  refine g_iload X0 hx hby d2_5 rfl 7 rfl ?_
  refine g_if_lt X0 hx hby d2_7 17 10 (by decide) (by decide) rfl (fun c1 => ?_) (fun c1 => ?_)
  · -- c1
    refine g_iload X0 hx hby d2_17 rfl 19 rfl ?_
    refine g_istore X0 hx hby d2_19 fl rfl #[.val (.ref arr), .val (.int ii), .val (.int pos), .val (.int sz), .val (.int nn), .val (.int fl), .val (.int (ii - pos)), .val (.int fl)] rfl 21 rfl ?_
    refine g_goto X0 hx hby d2_21 53 (by decide) (by decide) ?_
    refine g_aloadN X0 hx hby d2_53 rfl rfl 54 rfl ?_
    refine g_iloadN X0 hx hby d2_54 rfl 55 rfl ?_
    refine g_baload X0 hx hby hZ e0 A_arr_0 d2_55 hk0 ii.toNatClampNeg rfl hk1 (f ii.toNatClampNeg) rfl 56 rfl ?_
    refine g_iload X0 hx hby d2_56 rfl 58 rfl ?_
    refine g_i2b X0 hx hby d2_58 59 rfl ?_
    refine g_icmp_ne X0 hx hby d2_59 66 62 (by decide) (by decide) rfl (fun c2 => ?_) (fun c2 => ?_)
    · -- c2
      refine g_iconst X0 hx hby d2_62 (1 : Int32) rfl 63 rfl ?_
      refine g_goto X0 hx hby d2_63 67 (by decide) (by decide) ?_
      exact g_ireturn X0 hx hby hret hlk (Or.inr (Or.inl rfl)) (nar_bool (Or.inr rfl)) d2_67 (by exact ⟨congrArg (fun z => some (Value.int z)) ((if_pos c1).trans (if_pos c2)).symm, N0, e0⟩) (by decide) (by decide)
    · -- not c2
      refine g_iconst X0 hx hby d2_66 (0 : Int32) rfl 67 rfl ?_
      exact g_ireturn X0 hx hby hret hlk (Or.inr (Or.inl rfl)) (nar_bool (Or.inl rfl)) d2_67 (by exact ⟨congrArg (fun z => some (Value.int z)) ((if_pos c1).trans (if_neg c2)).symm, N0, e0⟩) (by decide) (by decide)
  · -- not c1
    refine g_iload X0 hx hby d2_10 rfl 12 rfl ?_
    refine g_iload X0 hx hby d2_12 rfl 14 rfl ?_
    refine g_icmp_lt X0 hx hby d2_14 24 17 (by decide) (by decide) rfl (fun c3 => ?_) (fun c3 => ?_)
    · -- c3
      refine g_iloadN X0 hx hby d2_24 rfl 25 rfl ?_
      refine g_bipush X0 hx hby d2_25 (7 : Int32) rfl 27 rfl ?_
      refine g_iload X0 hx hby d2_27 rfl 29 rfl ?_
      refine g_imul X0 hx hby d2_29 30 rfl ?_
      refine g_iushr X0 hx hby d2_30 31 rfl ?_
      refine g_bipush X0 hx hby d2_31 (127 : Int32) rfl 33 rfl ?_
      refine g_iand X0 hx hby d2_33 34 rfl ?_
      refine g_iload X0 hx hby d2_34 rfl 36 rfl ?_
      refine g_iload X0 hx hby d2_36 rfl 38 rfl ?_
      refine g_iconst X0 hx hby d2_38 (1 : Int32) rfl 39 rfl ?_
      refine g_isub X0 hx hby d2_39 40 rfl ?_
      refine g_icmp_ge X0 hx hby d2_40 49 43 (by decide) (by decide) rfl (fun c4 => ?_) (fun c4 => ?_)
      · -- c4
        refine g_sipush X0 hx hby d2_43 (128 : Int32) rfl 46 rfl ?_
        refine g_goto X0 hx hby d2_46 50 (by decide) (by decide) ?_
        refine g_ior X0 hx hby d2_50 51 rfl ?_
        refine g_istore X0 hx hby d2_51 ((((sz.toUInt32 >>> (((7 : Int32) * (ii - pos)) &&& 31).toUInt32).toInt32) &&& (127 : Int32)) ||| (128 : Int32)) rfl #[.val (.ref arr), .val (.int ii), .val (.int pos), .val (.int sz), .val (.int nn), .val (.int fl), .val (.int (ii - pos)), .val (.int ((((sz.toUInt32 >>> (((7 : Int32) * (ii - pos)) &&& 31).toUInt32).toInt32) &&& (127 : Int32)) ||| (128 : Int32)))] rfl 53 rfl ?_
        refine g_aloadN X0 hx hby d2_53 rfl rfl 54 rfl ?_
        refine g_iloadN X0 hx hby d2_54 rfl 55 rfl ?_
        refine g_baload X0 hx hby hZ e0 A_arr_0 d2_55 hk0 ii.toNatClampNeg rfl hk1 (f ii.toNatClampNeg) rfl 56 rfl ?_
        refine g_iload X0 hx hby d2_56 rfl 58 rfl ?_
        refine g_i2b X0 hx hby d2_58 59 rfl ?_
        refine g_icmp_ne X0 hx hby d2_59 66 62 (by decide) (by decide) rfl (fun c5 => ?_) (fun c5 => ?_)
        · -- c5
          refine g_iconst X0 hx hby d2_62 (1 : Int32) rfl 63 rfl ?_
          refine g_goto X0 hx hby d2_63 67 (by decide) (by decide) ?_
          exact g_ireturn X0 hx hby hret hlk (Or.inr (Or.inl rfl)) (nar_bool (Or.inr rfl)) d2_67 (by exact ⟨congrArg (fun z => some (Value.int z)) ((if_neg c1).trans ((if_pos c3).trans ((if_pos c4).trans (if_pos c5)))).symm, N0, e0⟩) (by decide) (by decide)
        · -- not c5
          refine g_iconst X0 hx hby d2_66 (0 : Int32) rfl 67 rfl ?_
          exact g_ireturn X0 hx hby hret hlk (Or.inr (Or.inl rfl)) (nar_bool (Or.inl rfl)) d2_67 (by exact ⟨congrArg (fun z => some (Value.int z)) ((if_neg c1).trans ((if_pos c3).trans ((if_pos c4).trans (if_neg c5)))).symm, N0, e0⟩) (by decide) (by decide)
      · -- not c4
        refine g_iconst X0 hx hby d2_49 (0 : Int32) rfl 50 rfl ?_
        refine g_ior X0 hx hby d2_50 51 rfl ?_
        refine g_istore X0 hx hby d2_51 ((((sz.toUInt32 >>> (((7 : Int32) * (ii - pos)) &&& 31).toUInt32).toInt32) &&& (127 : Int32)) ||| (0 : Int32)) rfl #[.val (.ref arr), .val (.int ii), .val (.int pos), .val (.int sz), .val (.int nn), .val (.int fl), .val (.int (ii - pos)), .val (.int ((((sz.toUInt32 >>> (((7 : Int32) * (ii - pos)) &&& 31).toUInt32).toInt32) &&& (127 : Int32)) ||| (0 : Int32)))] rfl 53 rfl ?_
        refine g_aloadN X0 hx hby d2_53 rfl rfl 54 rfl ?_
        refine g_iloadN X0 hx hby d2_54 rfl 55 rfl ?_
        refine g_baload X0 hx hby hZ e0 A_arr_0 d2_55 hk0 ii.toNatClampNeg rfl hk1 (f ii.toNatClampNeg) rfl 56 rfl ?_
        refine g_iload X0 hx hby d2_56 rfl 58 rfl ?_
        refine g_i2b X0 hx hby d2_58 59 rfl ?_
        refine g_icmp_ne X0 hx hby d2_59 66 62 (by decide) (by decide) rfl (fun c6 => ?_) (fun c6 => ?_)
        · -- c6
          refine g_iconst X0 hx hby d2_62 (1 : Int32) rfl 63 rfl ?_
          refine g_goto X0 hx hby d2_63 67 (by decide) (by decide) ?_
          exact g_ireturn X0 hx hby hret hlk (Or.inr (Or.inl rfl)) (nar_bool (Or.inr rfl)) d2_67 (by exact ⟨congrArg (fun z => some (Value.int z)) ((if_neg c1).trans ((if_pos c3).trans ((if_neg c4).trans (if_pos c6)))).symm, N0, e0⟩) (by decide) (by decide)
        · -- not c6
          refine g_iconst X0 hx hby d2_66 (0 : Int32) rfl 67 rfl ?_
          exact g_ireturn X0 hx hby hret hlk (Or.inr (Or.inl rfl)) (nar_bool (Or.inl rfl)) d2_67 (by exact ⟨congrArg (fun z => some (Value.int z)) ((if_neg c1).trans ((if_pos c3).trans ((if_neg c4).trans (if_neg c6)))).symm, N0, e0⟩) (by decide) (by decide)
    · -- not c3
      refine g_iload X0 hx hby d2_17 rfl 19 rfl ?_
      refine g_istore X0 hx hby d2_19 fl rfl #[.val (.ref arr), .val (.int ii), .val (.int pos), .val (.int sz), .val (.int nn), .val (.int fl), .val (.int (ii - pos)), .val (.int fl)] rfl 21 rfl ?_
      refine g_goto X0 hx hby d2_21 53 (by decide) (by decide) ?_
      refine g_aloadN X0 hx hby d2_53 rfl rfl 54 rfl ?_
      refine g_iloadN X0 hx hby d2_54 rfl 55 rfl ?_
      refine g_baload X0 hx hby hZ e0 A_arr_0 d2_55 hk0 ii.toNatClampNeg rfl hk1 (f ii.toNatClampNeg) rfl 56 rfl ?_
      refine g_iload X0 hx hby d2_56 rfl 58 rfl ?_
      refine g_i2b X0 hx hby d2_58 59 rfl ?_
      refine g_icmp_ne X0 hx hby d2_59 66 62 (by decide) (by decide) rfl (fun c7 => ?_) (fun c7 => ?_)
      · -- c7
        refine g_iconst X0 hx hby d2_62 (1 : Int32) rfl 63 rfl ?_
        refine g_goto X0 hx hby d2_63 67 (by decide) (by decide) ?_
        exact g_ireturn X0 hx hby hret hlk (Or.inr (Or.inl rfl)) (nar_bool (Or.inr rfl)) d2_67 (by exact ⟨congrArg (fun z => some (Value.int z)) ((if_neg c1).trans ((if_neg c3).trans (if_pos c7))).symm, N0, e0⟩) (by decide) (by decide)
      · -- not c7
        refine g_iconst X0 hx hby d2_66 (0 : Int32) rfl 67 rfl ?_
        exact g_ireturn X0 hx hby hret hlk (Or.inr (Or.inl rfl)) (nar_bool (Or.inl rfl)) d2_67 (by exact ⟨congrArg (fun z => some (Value.int z)) ((if_neg c1).trans ((if_neg c3).trans (if_neg c7))).symm, N0, e0⟩) (by decide) (by decide)
theorem putF_at : ∀ (k : Nat) (f : Nat → Int32) (i : Nat) (r : Int32) (m : Nat), putF f i r k m = if m < i then f m else if m < i + k then lo7 (its (m - i) r) else if m = i + k then (its k r).toInt8.toInt32 else f m
  | 0, f, i, r, m => by
    rw [putF]
    by_cases q : m = i
    · subst q; simp [upd, its]
    · by_cases q2 : m < i
      · simp [upd, q, q2]
      · have : ¬ m < i + 0 := by omega
        have q' : ¬ m = i + 0 := by omega
        simp [upd, q, q2]
  | k + 1, f, i, r, m => by
    rw [putF, putF_at k]
    by_cases q : m < i
    · have a : m < i + 1 := by omega
      have b : ¬ m = i := by omega
      simp [upd, q, a, b]
    · by_cases q2 : m = i
      · subst q2
        have a : m < m + 1 := by omega
        have b : m < m + (k + 1) := by omega
        simp [upd, a, b, its]
      · have a : ¬ m < i + 1 := by omega
        have e : m - i = (m - (i + 1)) + 1 := by omega
        have e2 : i + 1 + k = i + (k + 1) := by omega
        rw [if_neg a, if_neg q, e2, e]
        simp only [its, upd, q2, if_false]
theorem its_int {r : Int32} (h : 0 ≤ r.toInt) : (its 1 r).toInt = r.toInt / 128 ∧ (its 2 r).toInt = r.toInt / 16384 ∧ (its 3 r).toInt = r.toInt / 2097152 := by
  have a1 := own_sh7 r h
  have a2 := own_sh7 (sh7 r) (by omega)
  have a3 := own_sh7 (sh7 (sh7 r)) (by omega)
  refine ⟨a1, ?_, ?_⟩
  · show (sh7 (sh7 r)).toInt = _; omega
  · show (sh7 (sh7 (sh7 r))).toInt = _; omega
theorem its_shr {r D : Int32} {j : Nat} (h : 0 ≤ r.toInt) (hj : j ≤ 3) (hD : D.toInt = j) : ((r.toUInt32 >>> (((7 : Int32) * D) &&& 31).toUInt32).toInt32) = its j r := by
  have i := its_int h
  have rr := rng32 r
  have n7 : ((2 ^ 7 : Nat) : Int) = 128 := by decide
  have n14 : ((2 ^ 14 : Nat) : Int) = 16384 := by decide
  have n21 : ((2 ^ 21 : Nat) : Int) = 2097152 := by decide
  match j, hj with
  | 0, _ =>
    obtain rfl : D = 0 := Int32.toInt_inj.mp hD
    show (r.toUInt32 >>> (0 : UInt32)).toInt32 = r
    simp
  | 1, _ =>
    obtain rfl : D = 1 := Int32.toInt_inj.mp hD
    rfl
  | 2, _ =>
    obtain rfl : D = 2 := Int32.toInt_inj.mp hD
    have q := c_iushr r ((7 : Int32) * 2) 14 (by decide) (by decide)
    rw [n14] at q
    apply Int32.toInt_inj.mp
    omega
  | 3, _ =>
    obtain rfl : D = 3 := Int32.toInt_inj.mp hD
    have q := c_iushr r ((7 : Int32) * 3) 21 (by decide) (by decide)
    rw [n21] at q
    apply Int32.toInt_inj.mp
    omega
theorem own_127 {y : Int32} (h0 : 0 ≤ y.toInt) (h : y < 128) : (y &&& (127 : Int32)) ||| (0 : Int32) = y := by
  rw [Int32.lt_iff_toInt_lt] at h
  have e : (128 : Int32).toInt = 128 := rfl
  have q := c_mask y 127 7 (by decide) (by decide)
  have n7 : ((2 ^ 7 : Nat) : Int) = 128 := by decide
  rw [n7] at q
  rw [Int32.or_zero]
  apply Int32.toInt_inj.mp; omega
theorem own_nnk {sz nn : Int32} {k : Nat} (h0 : 0 ≤ sz.toInt) (hb : sz.toInt < 128 ^ 4) (hk : k ≤ 3) (h4 : its k sz < 128) (h5 : ∀ j, j < k → ¬ its j sz < 128) (hnn : nn = if sz < (128 : Int32) then (1 : Int32) else (if sz < (16384 : Int32) then (2 : Int32) else (if sz < (2097152 : Int32) then (3 : Int32) else (4 : Int32)))) : nn.toInt = k + 1 := by
  have i := its_int h0
  have e : (128 : Int32).toInt = 128 := rfl
  have e2 : (16384 : Int32).toInt = 16384 := rfl
  have e3 : (2097152 : Int32).toInt = 2097152 := rfl
  have g0 : 0 < k → ¬ sz.toInt < 128 := fun q z => h5 0 q (by rw [Int32.lt_iff_toInt_lt]; exact z)
  have g1 : 1 < k → ¬ sz.toInt / 128 < 128 := fun q z => h5 1 q (by rw [Int32.lt_iff_toInt_lt, i.1]; exact z)
  have g2 : 2 < k → ¬ sz.toInt / 16384 < 128 := fun q z => h5 2 q (by rw [Int32.lt_iff_toInt_lt, i.2.1]; exact z)
  rw [Int32.lt_iff_toInt_lt, e] at h4
  simp only [Int32.lt_iff_toInt_lt, e, e2, e3] at hnn
  have o1 : (1 : Int32).toInt = 1 := rfl
  have o2 : (2 : Int32).toInt = 2 := rfl
  have o3 : (3 : Int32).toInt = 3 := rfl
  have o4 : (4 : Int32).toInt = 4 := rfl
  match k, hk with
  | 0, _ =>
    have : sz.toInt < 128 := h4
    rw [if_pos this] at hnn; rw [hnn, o1]; rfl
  | 1, _ =>
    rw [i.1] at h4
    rw [if_neg (g0 (by decide)), if_pos (by omega)] at hnn; rw [hnn, o2]; rfl
  | 2, _ =>
    rw [i.2.1] at h4
    have := g1 (by decide)
    rw [if_neg (g0 (by decide)), if_neg (by omega), if_pos (by omega)] at hnn; rw [hnn, o3]; rfl
  | 3, _ =>
    have := g1 (by decide)
    have := g2 (by decide)
    rw [if_neg (g0 (by decide)), if_neg (by omega), if_neg (by omega)] at hnn; rw [hnn, o4]; rfl
theorem its_nn {sz : Int32} {k : Nat} (h0 : 0 ≤ sz.toInt) (hk : k ≤ 3) : 0 ≤ (its k sz).toInt := by
  have i := its_int h0
  match k, hk with
  | 0, _ => exact h0
  | 1, _ => rw [i.1]; omega
  | 2, _ => rw [i.2.1]; omega
  | 3, _ => rw [i.2.2]; omega
theorem own_ok {M pos sz nn fl : Int32} {m pn i' : Nat} {f0 fin : Nat → Int32} (hM : M.toInt = m) (hm : m < 12) (hpos : pos.toInt = pn) (hpn : pn ≤ 7) (h0 : 0 ≤ sz.toInt) (hb : sz.toInt < 128 ^ 4) (hfl : fl.toInt8.toInt32 = fl) (hbase : ∀ j, j < 12 → f0 j = fl) (hput : Put pn sz f0 i' fin)
    (hnn : nn = if sz < (128 : Int32) then (1 : Int32) else (if sz < (16384 : Int32) then (2 : Int32) else (if sz < (2097152 : Int32) then (3 : Int32) else (4 : Int32)))) : ¬ okF M pos sz nn fl fin = 0 := by
  obtain ⟨k, hk, rfl, -, h4, h5⟩ := hput
  have nk := own_nnk h0 hb hk h4 h5 hnn
  have a1 := c_isub M pos
  have a2 := rng32 (M - pos)
  have eD : (M - pos).toInt = (m : Int) - pn := by omega
  have a3 := c_isub nn 1
  have a4 := rng32 (nn - 1)
  have o1 : (1 : Int32).toInt = 1 := rfl
  have z0 : (0 : Int32).toInt = 0 := rfl
  have en : (nn - 1).toInt = k := by omega
  have L0 : (M - pos < 0) ↔ m < pn := by rw [Int32.lt_iff_toInt_lt]; omega
  have L1 : (M - pos < nn) ↔ m < pn + k + 1 := by rw [Int32.lt_iff_toInt_lt]; omega
  have L2 : (M - pos < nn - 1) ↔ m < pn + k := by rw [Int32.lt_iff_toInt_lt]; omega
  have one : okF M pos sz nn fl (putF f0 pn sz k) = 1 := by
    unfold okF
    simp only [L0, L1, L2]
    rw [own_clamp hM, putF_at]
    by_cases c1 : m < pn
    · simp [c1, hbase m hm, hfl]
    · by_cases c2 : m < pn + k
      · have c3 : m < pn + k + 1 := by omega
        rw [its_shr (j := m - pn) h0 (by omega) (by omega)]
        simp [c1, c2, c3, lo7]
      · by_cases c3 : m < pn + k + 1
        · have c4 : m = pn + k := by omega
          rw [its_shr (j := k) h0 hk (by omega), own_127 (its_nn h0 hk) h4]
          subst c4
          simp [c1, c2, c3]
        · have c4 : ¬ m = pn + k := by omega
          simp [c1, c2, c3, c4, hbase m hm, hfl]
  rw [one]; decide
theorem own_after {af pos nn sz : Int32} {pn i' : Nat} {f0 fin : Nat → Int32} (haf : af.toInt = i') (hpos : pos.toInt = pn) (hpn : pn ≤ 7) (h0 : 0 ≤ sz.toInt) (hb : sz.toInt < 128 ^ 4) (hput : Put pn sz f0 i' fin) (hnn : nn = if sz < (128 : Int32) then (1 : Int32) else (if sz < (16384 : Int32) then (2 : Int32) else (if sz < (2097152 : Int32) then (3 : Int32) else (4 : Int32)))) : af = pos + nn := by
  obtain ⟨k, hk, rfl, h3, h4, h5⟩ := hput
  have nk := own_nnk h0 hb hk h4 h5 hnn
  have a1 := c_iadd pos nn
  have a2 := rng32 (pos + nn)
  apply Int32.toInt_inj.mp; omega
theorem own_sz {ss sel kk sz : Int32} (hk : sel &&& (3 : Int32) = kk) (h : ss &&& (((1 : Int32) <<< (((7 : Int32) * (kk + (1 : Int32))) &&& 31)) - (1 : Int32)) = sz) : 0 ≤ sz.toInt ∧ sz.toInt < 128 ^ 4 := by
  have m := c_mask sel 3 2 (by decide) (by decide)
  have n2 : ((2 ^ 2 : Nat) : Int) = 4 := by decide
  rw [n2, hk] at m
  have e0 : (0 : Int32).toInt = 0 := rfl
  have e1 : (1 : Int32).toInt = 1 := rfl
  have e2 : (2 : Int32).toInt = 2 := rfl
  have e3 : (3 : Int32).toInt = 3 := rfl
  have c : kk = 0 ∨ kk = 1 ∨ kk = 2 ∨ kk = 3 := by simp only [← Int32.toInt_inj, e0, e1, e2, e3]; omega
  have p4 : (128 : Int) ^ 4 = 268435456 := by decide
  rw [p4, ← h]
  rcases c with rfl | rfl | rfl | rfl
  · have q := c_and ss (((1 : Int32) <<< (((7 : Int32) * (0 + (1 : Int32))) &&& 31)) - (1 : Int32)) (by decide)
    have w : ((((1 : Int32) <<< (((7 : Int32) * (0 + (1 : Int32))) &&& 31)) - (1 : Int32))).toInt = 127 := by decide
    omega
  · have q := c_and ss (((1 : Int32) <<< (((7 : Int32) * (1 + (1 : Int32))) &&& 31)) - (1 : Int32)) (by decide)
    have w : ((((1 : Int32) <<< (((7 : Int32) * (1 + (1 : Int32))) &&& 31)) - (1 : Int32))).toInt = 16383 := by decide
    omega
  · have q := c_and ss (((1 : Int32) <<< (((7 : Int32) * (2 + (1 : Int32))) &&& 31)) - (1 : Int32)) (by decide)
    have w : ((((1 : Int32) <<< (((7 : Int32) * (2 + (1 : Int32))) &&& 31)) - (1 : Int32))).toInt = 2097151 := by decide
    omega
  · have q := c_and ss (((1 : Int32) <<< (((7 : Int32) * (3 + (1 : Int32))) &&& 31)) - (1 : Int32)) (by decide)
    have w : ((((1 : Int32) <<< (((7 : Int32) * (3 + (1 : Int32))) &&& 31)) - (1 : Int32))).toInt = 268435455 := by decide
    omega
theorem own_pos {pp pos : Int32} (h : pp &&& (7 : Int32) = pos) : ∃ pn : Nat, pos.toInt = pn ∧ pn ≤ 7 := by
  have m := c_mask pp 7 3 (by decide) (by decide)
  have n2 : ((2 ^ 3 : Nat) : Int) = 8 := by decide
  rw [n2, h] at m
  exact ⟨pos.toInt.toNat, by omega, by omega⟩

theorem pd0 : parseMethodDescriptor "([BII)I" = some ⟨[(.array .byte), .int, .int], some .int⟩ := by decide +kernel
theorem pd1 : parseMethodDescriptor "([BIIIIB)Z" = some ⟨[(.array .byte), .int, .int, .int, .int, .byte], some .boolean⟩ := by decide +kernel
theorem pn0 : plainFor (⟨"com/example/brevicode/brevicode/FormatPutSizePinLaw", "law", "(IIII)Z"⟩ : MethodName) = true := plainFor_of_name (by first | (simp [plainName, overriddenIn]; done) | decide +kernel)
theorem ef0 (m : MethodId) (ss : Int32) (sel : Int32) (pp : Int32) (fill : Int32) : entryFrame m #[(.int ss), (.int sel), (.int pp), (.int fill)] maxLocals = mkF m 0 #[.val (.int ss), .val (.int sel), .val (.int pp), .val (.int fill), .unset, .unset, .unset, .unset, .unset, .unset, .unset] [] := by first | (simp [entryFrame, mkF, argsToLocals, Value.category, maxLocals]; done) | rfl
def Q0 (ss : Int32) (sel : Int32) (pp : Int32) (fill : Int32) (Z : State) (h0 : Heap) (n0 : Nat) (v : Option Value) (h : Heap) (L : List Loc) : Prop := v = some (.int 1) ∧ Fr n0 L
set_option maxRecDepth 65536 in
set_option maxHeartbeats 40000000 in
theorem rm0 (l : Launch) (Z : State) (a0 : Array Value) (hw : ∀ d ∈ tables_1, d.before a0 Z = true) (ws : List Jvm.Cond) (ss : Int32) (sel : Int32) (pp : Int32) (fill : Int32) (h0 : Heap) (n0 : Nat) (Z0 : n0 ≤ h0.size) : Ctr l x code maxLocals ret ws room_1 #[(.int ss), (.int sel), (.int pp), (.int fill)] Z h0 (Q0 ss sel pp fill Z h0 n0) := by
  refine own_body pn0 ?_
  intro p e s m below meth c T0 hx hby hml hown hnm hret hlk hZ X0 e0
  have N0 := Fr.nil n0
  refine Goes.entry (ef0 m ss sel pp fill) ?_
  refine g_iloadN X0 hx hby at_0 rfl 1 rfl ?_
  refine g_iconst X0 hx hby at_1 (3 : Int32) rfl 2 rfl ?_
  refine g_iand X0 hx hby at_2 3 rfl ?_
  obtain ⟨kk, hkk⟩ : ∃ z : Int32, (sel &&& (3 : Int32)) = z := ⟨_, rfl⟩
  refine g_istore X0 hx hby at_3 kk hkk #[.val (.int ss), .val (.int sel), .val (.int pp), .val (.int fill), .val (.int kk), .unset, .unset, .unset, .unset, .unset, .unset] rfl 5 rfl ?_
  refine g_iloadN X0 hx hby at_5 rfl 6 rfl ?_
  refine g_iconst X0 hx hby at_6 (1 : Int32) rfl 7 rfl ?_
  refine g_bipush X0 hx hby at_7 (7 : Int32) rfl 9 rfl ?_
  refine g_iload X0 hx hby at_9 rfl 11 rfl ?_
  refine g_iconst X0 hx hby at_11 (1 : Int32) rfl 12 rfl ?_
  refine g_iadd X0 hx hby at_12 13 rfl ?_
  refine g_imul X0 hx hby at_13 14 rfl ?_
  refine g_ishl X0 hx hby at_14 15 rfl ?_
  refine g_iconst X0 hx hby at_15 (1 : Int32) rfl 16 rfl ?_
  refine g_isub X0 hx hby at_16 17 rfl ?_
  refine g_iand X0 hx hby at_17 18 rfl ?_
  obtain ⟨sz, hsz⟩ : ∃ z : Int32, (ss &&& (((1 : Int32) <<< (((7 : Int32) * (kk + (1 : Int32))) &&& 31)) - (1 : Int32))) = z := ⟨_, rfl⟩
  refine g_istore X0 hx hby at_18 sz hsz #[.val (.int ss), .val (.int sel), .val (.int pp), .val (.int fill), .val (.int kk), .val (.int sz), .unset, .unset, .unset, .unset, .unset] rfl 20 rfl ?_
  refine g_iloadN X0 hx hby at_20 rfl 21 rfl ?_
  refine g_bipush X0 hx hby at_21 (7 : Int32) rfl 23 rfl ?_
  refine g_iand X0 hx hby at_23 24 rfl ?_
  obtain ⟨pos, hpos⟩ : ∃ z : Int32, (pp &&& (7 : Int32)) = z := ⟨_, rfl⟩
  refine g_istore X0 hx hby at_24 pos hpos #[.val (.int ss), .val (.int sel), .val (.int pp), .val (.int fill), .val (.int kk), .val (.int sz), .val (.int pos), .unset, .unset, .unset, .unset] rfl 26 rfl ?_
  refine g_iloadN X0 hx hby at_26 rfl 27 rfl ?_
  refine g_i2b X0 hx hby at_27 28 rfl ?_
  obtain ⟨fb, hfb⟩ : ∃ z : Int32, (fill.toInt8.toInt32) = z := ⟨_, rfl⟩
  refine g_istore X0 hx hby at_28 fb hfb #[.val (.int ss), .val (.int sel), .val (.int pp), .val (.int fill), .val (.int kk), .val (.int sz), .val (.int pos), .val (.int fb), .unset, .unset, .unset] rfl 30 rfl ?_
  have hfb' : fb.toInt8.toInt32 = fb := by rw [← hfb]; exact byte2 _
  refine g_bipush X0 hx hby at_30 (12 : Int32) rfl 32 rfl ?_
  refine g_newarray X0 hx hby hZ (hw _ (List.mem_of_getElem? (i := 0) rfl)) e0 at_32 (by decide) 12 rfl 12 (by decide) (by decide) (by decide) (by decide) 34 rfl ?_
  intro T1 h1 b1 g1 X1 e1 E1 A1
  have gn_b1 : n0 ≤ b1 := Nat.le_trans Z0 (Nat.le_of_eq g1.symm)
  have Z1 : n0 ≤ h1.size := Nat.le_trans Z0 E1.1
  have Vb1 : AI Z h1 b1 .byte 12 (fun _ => (0 : Int32)) := A1
  refine g_astore X1 hx hby at_34 rfl #[.val (.int ss), .val (.int sel), .val (.int pp), .val (.int fill), .val (.int kk), .val (.int sz), .val (.int pos), .val (.int fb), .val (.ref b1), .unset, .unset] rfl 36 rfl ?_
  refine g_aload X1 hx hby at_36 rfl rfl 38 rfl ?_
  refine g_iconst X1 hx hby at_38 (0 : Int32) rfl 39 rfl ?_
  refine g_iload X1 hx hby at_39 rfl 41 rfl ?_
  refine g_bastore X1 hx hby hZ e1 Vb1 at_41 (by decide) 0 rfl (by decide) fb hfb' 42 rfl ?_
  intro T2 h2 X2 e2 W2 V2
  have N2 := Fr.snoc X2 N0 gn_b1
  have Z2 : n0 ≤ h2.size := Nat.le_trans Z1 (Keep.of_wr W2).1
  refine g_aload X2 hx hby at_42 rfl rfl 44 rfl ?_
  refine g_iconst X2 hx hby at_44 (1 : Int32) rfl 45 rfl ?_
  refine g_iload X2 hx hby at_45 rfl 47 rfl ?_
  refine g_bastore X2 hx hby hZ e2 V2 at_47 (by decide) 1 rfl (by decide) fb hfb' 48 rfl ?_
  intro T3 h3 X3 e3 W3 V3
  have N3 := Fr.snoc X3 N2 gn_b1
  have Z3 : n0 ≤ h3.size := Nat.le_trans Z2 (Keep.of_wr W3).1
  refine g_aload X3 hx hby at_48 rfl rfl 50 rfl ?_
  refine g_iconst X3 hx hby at_50 (2 : Int32) rfl 51 rfl ?_
  refine g_iload X3 hx hby at_51 rfl 53 rfl ?_
  refine g_bastore X3 hx hby hZ e3 V3 at_53 (by decide) 2 rfl (by decide) fb hfb' 54 rfl ?_
  intro T4 h4 X4 e4 W4 V4
  have N4 := Fr.snoc X4 N3 gn_b1
  have Z4 : n0 ≤ h4.size := Nat.le_trans Z3 (Keep.of_wr W4).1
  refine g_aload X4 hx hby at_54 rfl rfl 56 rfl ?_
  refine g_iconst X4 hx hby at_56 (3 : Int32) rfl 57 rfl ?_
  refine g_iload X4 hx hby at_57 rfl 59 rfl ?_
  refine g_bastore X4 hx hby hZ e4 V4 at_59 (by decide) 3 rfl (by decide) fb hfb' 60 rfl ?_
  intro T5 h5 X5 e5 W5 V5
  have N5 := Fr.snoc X5 N4 gn_b1
  have Z5 : n0 ≤ h5.size := Nat.le_trans Z4 (Keep.of_wr W5).1
  refine g_aload X5 hx hby at_60 rfl rfl 62 rfl ?_
  refine g_iconst X5 hx hby at_62 (4 : Int32) rfl 63 rfl ?_
  refine g_iload X5 hx hby at_63 rfl 65 rfl ?_
  refine g_bastore X5 hx hby hZ e5 V5 at_65 (by decide) 4 rfl (by decide) fb hfb' 66 rfl ?_
  intro T6 h6 X6 e6 W6 V6
  have N6 := Fr.snoc X6 N5 gn_b1
  have Z6 : n0 ≤ h6.size := Nat.le_trans Z5 (Keep.of_wr W6).1
  refine g_aload X6 hx hby at_66 rfl rfl 68 rfl ?_
  refine g_iconst X6 hx hby at_68 (5 : Int32) rfl 69 rfl ?_
  refine g_iload X6 hx hby at_69 rfl 71 rfl ?_
  refine g_bastore X6 hx hby hZ e6 V6 at_71 (by decide) 5 rfl (by decide) fb hfb' 72 rfl ?_
  intro T7 h7 X7 e7 W7 V7
  have N7 := Fr.snoc X7 N6 gn_b1
  have Z7 : n0 ≤ h7.size := Nat.le_trans Z6 (Keep.of_wr W7).1
  refine g_aload X7 hx hby at_72 rfl rfl 74 rfl ?_
  refine g_bipush X7 hx hby at_74 (6 : Int32) rfl 76 rfl ?_
  refine g_iload X7 hx hby at_76 rfl 78 rfl ?_
  refine g_bastore X7 hx hby hZ e7 V7 at_78 (by decide) 6 rfl (by decide) fb hfb' 79 rfl ?_
  intro T8 h8 X8 e8 W8 V8
  have N8 := Fr.snoc X8 N7 gn_b1
  have Z8 : n0 ≤ h8.size := Nat.le_trans Z7 (Keep.of_wr W8).1
  refine g_aload X8 hx hby at_79 rfl rfl 81 rfl ?_
  refine g_bipush X8 hx hby at_81 (7 : Int32) rfl 83 rfl ?_
  refine g_iload X8 hx hby at_83 rfl 85 rfl ?_
  refine g_bastore X8 hx hby hZ e8 V8 at_85 (by decide) 7 rfl (by decide) fb hfb' 86 rfl ?_
  intro T9 h9 X9 e9 W9 V9
  have N9 := Fr.snoc X9 N8 gn_b1
  have Z9 : n0 ≤ h9.size := Nat.le_trans Z8 (Keep.of_wr W9).1
  refine g_aload X9 hx hby at_86 rfl rfl 88 rfl ?_
  refine g_bipush X9 hx hby at_88 (8 : Int32) rfl 90 rfl ?_
  refine g_iload X9 hx hby at_90 rfl 92 rfl ?_
  refine g_bastore X9 hx hby hZ e9 V9 at_92 (by decide) 8 rfl (by decide) fb hfb' 93 rfl ?_
  intro T10 h10 X10 e10 W10 V10
  have N10 := Fr.snoc X10 N9 gn_b1
  have Z10 : n0 ≤ h10.size := Nat.le_trans Z9 (Keep.of_wr W10).1
  refine g_aload X10 hx hby at_93 rfl rfl 95 rfl ?_
  refine g_bipush X10 hx hby at_95 (9 : Int32) rfl 97 rfl ?_
  refine g_iload X10 hx hby at_97 rfl 99 rfl ?_
  refine g_bastore X10 hx hby hZ e10 V10 at_99 (by decide) 9 rfl (by decide) fb hfb' 100 rfl ?_
  intro T11 h11 X11 e11 W11 V11
  have N11 := Fr.snoc X11 N10 gn_b1
  have Z11 : n0 ≤ h11.size := Nat.le_trans Z10 (Keep.of_wr W11).1
  refine g_aload X11 hx hby at_100 rfl rfl 102 rfl ?_
  refine g_bipush X11 hx hby at_102 (10 : Int32) rfl 104 rfl ?_
  refine g_iload X11 hx hby at_104 rfl 106 rfl ?_
  refine g_bastore X11 hx hby hZ e11 V11 at_106 (by decide) 10 rfl (by decide) fb hfb' 107 rfl ?_
  intro T12 h12 X12 e12 W12 V12
  have N12 := Fr.snoc X12 N11 gn_b1
  have Z12 : n0 ≤ h12.size := Nat.le_trans Z11 (Keep.of_wr W12).1
  refine g_aload X12 hx hby at_107 rfl rfl 109 rfl ?_
  refine g_bipush X12 hx hby at_109 (11 : Int32) rfl 111 rfl ?_
  refine g_iload X12 hx hby at_111 rfl 113 rfl ?_
  refine g_bastore X12 hx hby hZ e12 V12 at_113 (by decide) 11 rfl (by decide) fb hfb' 114 rfl ?_
  intro T13 h13 X13 e13 W13 V13
  have N13 := Fr.snoc X13 N12 gn_b1
  have Z13 : n0 ≤ h13.size := Nat.le_trans Z12 (Keep.of_wr W13).1
  obtain ⟨f0, hf0⟩ : ∃ f : Nat → Int32, (upd (upd (upd (upd (upd (upd (upd (upd (upd (upd (upd (upd (fun _ => (0 : Int32)) 0 fb) 1 fb) 2 fb) 3 fb) 4 fb) 5 fb) 6 fb) 7 fb) 8 fb) 9 fb) 10 fb) 11 fb) = f := ⟨_, rfl⟩
  have V0 : AI Z h13 b1 .byte 12 f0 := hf0 ▸ V13
  have hbase : ∀ j, j < 12 → f0 j = fb := by (intro j hj; rw [← hf0]; simp only [upd]; repeat' split) <;> first | rfl | omega
  have hsz' := own_sz hkk hsz
  obtain ⟨pn, hpn, hpn7⟩ := own_pos hpos
  refine g_iload X13 hx hby at_114 rfl 116 rfl ?_
  refine g_sipush X13 hx hby at_116 (128 : Int32) rfl 119 rfl ?_
  suffices J14 : ∀ nn : Int32, nn = (if sz < (128 : Int32) then (1 : Int32) else (if sz < (16384 : Int32) then (2 : Int32) else (if sz < (2097152 : Int32) then (3 : Int32) else (4 : Int32)))) → Goes p e below (Kend s below (Q0 ss sel pp fill Z h0 n0) room_1.cells room_1.slots) (T13.setTop (mkF m 150 #[.val (.int ss), .val (.int sel), .val (.int pp), .val (.int fill), .val (.int kk), .val (.int sz), .val (.int pos), .val (.int fb), .val (.ref b1), .unset, .unset] [(.int nn)])) by
    refine g_icmp_ge X13 hx hby at_119 126 122 (by decide) (by decide) rfl (fun c15 => ?_) (fun c15 => ?_)
    · -- c15
      refine g_iconst X13 hx hby at_122 (1 : Int32) rfl 123 rfl ?_
      refine g_goto X13 hx hby at_123 150 (by decide) (by decide) ?_
      exact J14 _ (if_pos c15).symm
    · -- not c15
      refine g_iload X13 hx hby at_126 rfl 128 rfl ?_
      refine g_sipush X13 hx hby at_128 (16384 : Int32) rfl 131 rfl ?_
      refine g_icmp_ge X13 hx hby at_131 138 134 (by decide) (by decide) rfl (fun c16 => ?_) (fun c16 => ?_)
      · -- c16
        refine g_iconst X13 hx hby at_134 (2 : Int32) rfl 135 rfl ?_
        refine g_goto X13 hx hby at_135 150 (by decide) (by decide) ?_
        exact J14 _ ((if_neg c15).trans (if_pos c16)).symm
      · -- not c16
        refine g_iload X13 hx hby at_138 rfl 140 rfl ?_
        refine g_ldc X13 hx hby hZ hown (hw _ (List.mem_of_getElem? (i := 9) rfl)) at_140 142 rfl ?_
        refine g_icmp_ge X13 hx hby at_142 149 145 (by decide) (by decide) rfl (fun c17 => ?_) (fun c17 => ?_)
        · -- c17
          refine g_iconst X13 hx hby at_145 (3 : Int32) rfl 146 rfl ?_
          refine g_goto X13 hx hby at_146 150 (by decide) (by decide) ?_
          exact J14 _ ((if_neg c15).trans ((if_neg c16).trans (if_pos c17))).symm
        · -- not c17
          refine g_iconst X13 hx hby at_149 (4 : Int32) rfl 150 rfl ?_
          exact J14 _ ((if_neg c15).trans ((if_neg c16).trans (if_neg c17))).symm
  intro nn hnn
  refine g_istore X13 hx hby at_150 nn rfl #[.val (.int ss), .val (.int sel), .val (.int pp), .val (.int fill), .val (.int kk), .val (.int sz), .val (.int pos), .val (.int fb), .val (.ref b1), .val (.int nn), .unset] rfl 152 rfl ?_
  refine g_aload X13 hx hby at_152 rfl rfl 154 rfl ?_
  refine g_iload X13 hx hby at_154 rfl 156 rfl ?_
  refine g_iload X13 hx hby at_156 rfl 158 rfl ?_
  refine g_callS X13 hx hby hZ hown (hw _ (List.mem_of_getElem? (i := 1) rfl)) (hw _ (List.mem_of_getElem? (i := 2) rfl)) (hw _ (List.mem_of_getElem? (i := 3) rfl)) (hw _ (List.mem_of_getElem? (i := 4) rfl)) at_158 [(.ref b1), (.int pos), (.int sz)] [] (rm1 l Z a0 hw [] b1 pos sz f0 pn h13 n0 Z13 V0 gn_b1 hpn hpn7 hsz'.1 hsz'.2) e13 rfl (by rw [hml]; rfl) pd0 rfl (by decide) 0 (Nat.le_of_eq rfl) (by decide) (by decide) (by decide) (by decide) 161 rfl ?_
  intro T18 v18 L18 X18 Q18
  obtain ⟨af, iN, fin, rfl, haf, hput, N18', K18', P18⟩ := Q18
  have N18 := Fr.app N13 N18'
  have Z18 : n0 ≤ T18.heap.size := Nat.le_trans Z13 K18'.1
  show Goes p e below _ (T18.setTop (mkF m 161 _ [(.int af)]))
  refine g_istore X18 hx hby at_161 af rfl #[.val (.int ss), .val (.int sel), .val (.int pp), .val (.int fill), .val (.int kk), .val (.int sz), .val (.int pos), .val (.int fb), .val (.ref b1), .val (.int nn), .val (.int af)] rfl 163 rfl ?_
  refine g_iload X18 hx hby at_163 rfl 165 rfl ?_
  refine g_iload X18 hx hby at_165 rfl 167 rfl ?_
  refine g_iload X18 hx hby at_167 rfl 169 rfl ?_
  refine g_iadd X18 hx hby at_169 170 rfl ?_
  refine g_icmp_ne X18 hx hby at_170 387 173 (by decide) (by decide) rfl (fun _ => ?_) (fun q => absurd (own_after haf hpn hpn7 hsz'.1 hsz'.2 hput hnn) q)
  refine g_aload X18 hx hby at_173 rfl rfl 175 rfl ?_
  refine g_iconst X18 hx hby at_175 (0 : Int32) rfl 176 rfl ?_
  refine g_iload X18 hx hby at_176 rfl 178 rfl ?_
  refine g_iload X18 hx hby at_178 rfl 180 rfl ?_
  refine g_iload X18 hx hby at_180 rfl 182 rfl ?_
  refine g_iload X18 hx hby at_182 rfl 184 rfl ?_
  refine g_callS X18 hx hby hZ hown (hw _ (List.mem_of_getElem? (i := 5) rfl)) (hw _ (List.mem_of_getElem? (i := 6) rfl)) (hw _ (List.mem_of_getElem? (i := 7) rfl)) (hw _ (List.mem_of_getElem? (i := 8) rfl)) at_184 [(.ref b1), (.int (0 : Int32)), (.int pos), (.int sz), (.int nn), (.int fb)] [] (rm2 l Z a0 hw [] b1 (0 : Int32) pos sz nn fb fin T18.heap n0 Z18 P18 (by decide) (by decide)) rfl rfl (by rw [hml]; rfl) pd1 rfl (by decide) 0 (Nat.le_of_eq rfl) (by decide) (by decide) (by decide) (by decide) 187 rfl ?_
  intro T19 v19 L19 X19 Q19
  obtain ⟨rfl, N19', e19⟩ := Q19
  have N19 := Fr.app N18 N19'
  show Goes p e below _ (T19.setTop (mkF m 187 _ [(.int (okF (0 : Int32) pos sz nn fb fin))]))
  refine g_if_eq X19 hx hby at_187 387 190 (by decide) (by decide) rfl (fun q => absurd q (own_ok (m := 0) rfl (by decide) hpn hpn7 hsz'.1 hsz'.2 hfb' hbase hput hnn)) (fun _ => ?_)
  refine g_aload X19 hx hby at_190 rfl rfl 192 rfl ?_
  refine g_iconst X19 hx hby at_192 (1 : Int32) rfl 193 rfl ?_
  refine g_iload X19 hx hby at_193 rfl 195 rfl ?_
  refine g_iload X19 hx hby at_195 rfl 197 rfl ?_
  refine g_iload X19 hx hby at_197 rfl 199 rfl ?_
  refine g_iload X19 hx hby at_199 rfl 201 rfl ?_
  refine g_callS X19 hx hby hZ hown (hw _ (List.mem_of_getElem? (i := 5) rfl)) (hw _ (List.mem_of_getElem? (i := 6) rfl)) (hw _ (List.mem_of_getElem? (i := 7) rfl)) (hw _ (List.mem_of_getElem? (i := 8) rfl)) at_201 [(.ref b1), (.int (1 : Int32)), (.int pos), (.int sz), (.int nn), (.int fb)] [] (rm2 l Z a0 hw [] b1 (1 : Int32) pos sz nn fb fin T18.heap n0 Z18 P18 (by decide) (by decide)) e19 rfl (by rw [hml]; rfl) pd1 rfl (by decide) 0 (Nat.le_of_eq rfl) (by decide) (by decide) (by decide) (by decide) 204 rfl ?_
  intro T20 v20 L20 X20 Q20
  obtain ⟨rfl, N20', e20⟩ := Q20
  have N20 := Fr.app N19 N20'
  show Goes p e below _ (T20.setTop (mkF m 204 _ [(.int (okF (1 : Int32) pos sz nn fb fin))]))
  refine g_if_eq X20 hx hby at_204 387 207 (by decide) (by decide) rfl (fun q => absurd q (own_ok (m := 1) rfl (by decide) hpn hpn7 hsz'.1 hsz'.2 hfb' hbase hput hnn)) (fun _ => ?_)
  refine g_aload X20 hx hby at_207 rfl rfl 209 rfl ?_
  refine g_iconst X20 hx hby at_209 (2 : Int32) rfl 210 rfl ?_
  refine g_iload X20 hx hby at_210 rfl 212 rfl ?_
  refine g_iload X20 hx hby at_212 rfl 214 rfl ?_
  refine g_iload X20 hx hby at_214 rfl 216 rfl ?_
  refine g_iload X20 hx hby at_216 rfl 218 rfl ?_
  refine g_callS X20 hx hby hZ hown (hw _ (List.mem_of_getElem? (i := 5) rfl)) (hw _ (List.mem_of_getElem? (i := 6) rfl)) (hw _ (List.mem_of_getElem? (i := 7) rfl)) (hw _ (List.mem_of_getElem? (i := 8) rfl)) at_218 [(.ref b1), (.int (2 : Int32)), (.int pos), (.int sz), (.int nn), (.int fb)] [] (rm2 l Z a0 hw [] b1 (2 : Int32) pos sz nn fb fin T18.heap n0 Z18 P18 (by decide) (by decide)) e20 rfl (by rw [hml]; rfl) pd1 rfl (by decide) 0 (Nat.le_of_eq rfl) (by decide) (by decide) (by decide) (by decide) 221 rfl ?_
  intro T21 v21 L21 X21 Q21
  obtain ⟨rfl, N21', e21⟩ := Q21
  have N21 := Fr.app N20 N21'
  show Goes p e below _ (T21.setTop (mkF m 221 _ [(.int (okF (2 : Int32) pos sz nn fb fin))]))
  refine g_if_eq X21 hx hby at_221 387 224 (by decide) (by decide) rfl (fun q => absurd q (own_ok (m := 2) rfl (by decide) hpn hpn7 hsz'.1 hsz'.2 hfb' hbase hput hnn)) (fun _ => ?_)
  refine g_aload X21 hx hby at_224 rfl rfl 226 rfl ?_
  refine g_iconst X21 hx hby at_226 (3 : Int32) rfl 227 rfl ?_
  refine g_iload X21 hx hby at_227 rfl 229 rfl ?_
  refine g_iload X21 hx hby at_229 rfl 231 rfl ?_
  refine g_iload X21 hx hby at_231 rfl 233 rfl ?_
  refine g_iload X21 hx hby at_233 rfl 235 rfl ?_
  refine g_callS X21 hx hby hZ hown (hw _ (List.mem_of_getElem? (i := 5) rfl)) (hw _ (List.mem_of_getElem? (i := 6) rfl)) (hw _ (List.mem_of_getElem? (i := 7) rfl)) (hw _ (List.mem_of_getElem? (i := 8) rfl)) at_235 [(.ref b1), (.int (3 : Int32)), (.int pos), (.int sz), (.int nn), (.int fb)] [] (rm2 l Z a0 hw [] b1 (3 : Int32) pos sz nn fb fin T18.heap n0 Z18 P18 (by decide) (by decide)) e21 rfl (by rw [hml]; rfl) pd1 rfl (by decide) 0 (Nat.le_of_eq rfl) (by decide) (by decide) (by decide) (by decide) 238 rfl ?_
  intro T22 v22 L22 X22 Q22
  obtain ⟨rfl, N22', e22⟩ := Q22
  have N22 := Fr.app N21 N22'
  show Goes p e below _ (T22.setTop (mkF m 238 _ [(.int (okF (3 : Int32) pos sz nn fb fin))]))
  refine g_if_eq X22 hx hby at_238 387 241 (by decide) (by decide) rfl (fun q => absurd q (own_ok (m := 3) rfl (by decide) hpn hpn7 hsz'.1 hsz'.2 hfb' hbase hput hnn)) (fun _ => ?_)
  refine g_aload X22 hx hby at_241 rfl rfl 243 rfl ?_
  refine g_iconst X22 hx hby at_243 (4 : Int32) rfl 244 rfl ?_
  refine g_iload X22 hx hby at_244 rfl 246 rfl ?_
  refine g_iload X22 hx hby at_246 rfl 248 rfl ?_
  refine g_iload X22 hx hby at_248 rfl 250 rfl ?_
  refine g_iload X22 hx hby at_250 rfl 252 rfl ?_
  refine g_callS X22 hx hby hZ hown (hw _ (List.mem_of_getElem? (i := 5) rfl)) (hw _ (List.mem_of_getElem? (i := 6) rfl)) (hw _ (List.mem_of_getElem? (i := 7) rfl)) (hw _ (List.mem_of_getElem? (i := 8) rfl)) at_252 [(.ref b1), (.int (4 : Int32)), (.int pos), (.int sz), (.int nn), (.int fb)] [] (rm2 l Z a0 hw [] b1 (4 : Int32) pos sz nn fb fin T18.heap n0 Z18 P18 (by decide) (by decide)) e22 rfl (by rw [hml]; rfl) pd1 rfl (by decide) 0 (Nat.le_of_eq rfl) (by decide) (by decide) (by decide) (by decide) 255 rfl ?_
  intro T23 v23 L23 X23 Q23
  obtain ⟨rfl, N23', e23⟩ := Q23
  have N23 := Fr.app N22 N23'
  show Goes p e below _ (T23.setTop (mkF m 255 _ [(.int (okF (4 : Int32) pos sz nn fb fin))]))
  refine g_if_eq X23 hx hby at_255 387 258 (by decide) (by decide) rfl (fun q => absurd q (own_ok (m := 4) rfl (by decide) hpn hpn7 hsz'.1 hsz'.2 hfb' hbase hput hnn)) (fun _ => ?_)
  refine g_aload X23 hx hby at_258 rfl rfl 260 rfl ?_
  refine g_iconst X23 hx hby at_260 (5 : Int32) rfl 261 rfl ?_
  refine g_iload X23 hx hby at_261 rfl 263 rfl ?_
  refine g_iload X23 hx hby at_263 rfl 265 rfl ?_
  refine g_iload X23 hx hby at_265 rfl 267 rfl ?_
  refine g_iload X23 hx hby at_267 rfl 269 rfl ?_
  refine g_callS X23 hx hby hZ hown (hw _ (List.mem_of_getElem? (i := 5) rfl)) (hw _ (List.mem_of_getElem? (i := 6) rfl)) (hw _ (List.mem_of_getElem? (i := 7) rfl)) (hw _ (List.mem_of_getElem? (i := 8) rfl)) at_269 [(.ref b1), (.int (5 : Int32)), (.int pos), (.int sz), (.int nn), (.int fb)] [] (rm2 l Z a0 hw [] b1 (5 : Int32) pos sz nn fb fin T18.heap n0 Z18 P18 (by decide) (by decide)) e23 rfl (by rw [hml]; rfl) pd1 rfl (by decide) 0 (Nat.le_of_eq rfl) (by decide) (by decide) (by decide) (by decide) 272 rfl ?_
  intro T24 v24 L24 X24 Q24
  obtain ⟨rfl, N24', e24⟩ := Q24
  have N24 := Fr.app N23 N24'
  show Goes p e below _ (T24.setTop (mkF m 272 _ [(.int (okF (5 : Int32) pos sz nn fb fin))]))
  refine g_if_eq X24 hx hby at_272 387 275 (by decide) (by decide) rfl (fun q => absurd q (own_ok (m := 5) rfl (by decide) hpn hpn7 hsz'.1 hsz'.2 hfb' hbase hput hnn)) (fun _ => ?_)
  refine g_aload X24 hx hby at_275 rfl rfl 277 rfl ?_
  refine g_bipush X24 hx hby at_277 (6 : Int32) rfl 279 rfl ?_
  refine g_iload X24 hx hby at_279 rfl 281 rfl ?_
  refine g_iload X24 hx hby at_281 rfl 283 rfl ?_
  refine g_iload X24 hx hby at_283 rfl 285 rfl ?_
  refine g_iload X24 hx hby at_285 rfl 287 rfl ?_
  refine g_callS X24 hx hby hZ hown (hw _ (List.mem_of_getElem? (i := 5) rfl)) (hw _ (List.mem_of_getElem? (i := 6) rfl)) (hw _ (List.mem_of_getElem? (i := 7) rfl)) (hw _ (List.mem_of_getElem? (i := 8) rfl)) at_287 [(.ref b1), (.int (6 : Int32)), (.int pos), (.int sz), (.int nn), (.int fb)] [] (rm2 l Z a0 hw [] b1 (6 : Int32) pos sz nn fb fin T18.heap n0 Z18 P18 (by decide) (by decide)) e24 rfl (by rw [hml]; rfl) pd1 rfl (by decide) 0 (Nat.le_of_eq rfl) (by decide) (by decide) (by decide) (by decide) 290 rfl ?_
  intro T25 v25 L25 X25 Q25
  obtain ⟨rfl, N25', e25⟩ := Q25
  have N25 := Fr.app N24 N25'
  show Goes p e below _ (T25.setTop (mkF m 290 _ [(.int (okF (6 : Int32) pos sz nn fb fin))]))
  refine g_if_eq X25 hx hby at_290 387 293 (by decide) (by decide) rfl (fun q => absurd q (own_ok (m := 6) rfl (by decide) hpn hpn7 hsz'.1 hsz'.2 hfb' hbase hput hnn)) (fun _ => ?_)
  refine g_aload X25 hx hby at_293 rfl rfl 295 rfl ?_
  refine g_bipush X25 hx hby at_295 (7 : Int32) rfl 297 rfl ?_
  refine g_iload X25 hx hby at_297 rfl 299 rfl ?_
  refine g_iload X25 hx hby at_299 rfl 301 rfl ?_
  refine g_iload X25 hx hby at_301 rfl 303 rfl ?_
  refine g_iload X25 hx hby at_303 rfl 305 rfl ?_
  refine g_callS X25 hx hby hZ hown (hw _ (List.mem_of_getElem? (i := 5) rfl)) (hw _ (List.mem_of_getElem? (i := 6) rfl)) (hw _ (List.mem_of_getElem? (i := 7) rfl)) (hw _ (List.mem_of_getElem? (i := 8) rfl)) at_305 [(.ref b1), (.int (7 : Int32)), (.int pos), (.int sz), (.int nn), (.int fb)] [] (rm2 l Z a0 hw [] b1 (7 : Int32) pos sz nn fb fin T18.heap n0 Z18 P18 (by decide) (by decide)) e25 rfl (by rw [hml]; rfl) pd1 rfl (by decide) 0 (Nat.le_of_eq rfl) (by decide) (by decide) (by decide) (by decide) 308 rfl ?_
  intro T26 v26 L26 X26 Q26
  obtain ⟨rfl, N26', e26⟩ := Q26
  have N26 := Fr.app N25 N26'
  show Goes p e below _ (T26.setTop (mkF m 308 _ [(.int (okF (7 : Int32) pos sz nn fb fin))]))
  refine g_if_eq X26 hx hby at_308 387 311 (by decide) (by decide) rfl (fun q => absurd q (own_ok (m := 7) rfl (by decide) hpn hpn7 hsz'.1 hsz'.2 hfb' hbase hput hnn)) (fun _ => ?_)
  refine g_aload X26 hx hby at_311 rfl rfl 313 rfl ?_
  refine g_bipush X26 hx hby at_313 (8 : Int32) rfl 315 rfl ?_
  refine g_iload X26 hx hby at_315 rfl 317 rfl ?_
  refine g_iload X26 hx hby at_317 rfl 319 rfl ?_
  refine g_iload X26 hx hby at_319 rfl 321 rfl ?_
  refine g_iload X26 hx hby at_321 rfl 323 rfl ?_
  refine g_callS X26 hx hby hZ hown (hw _ (List.mem_of_getElem? (i := 5) rfl)) (hw _ (List.mem_of_getElem? (i := 6) rfl)) (hw _ (List.mem_of_getElem? (i := 7) rfl)) (hw _ (List.mem_of_getElem? (i := 8) rfl)) at_323 [(.ref b1), (.int (8 : Int32)), (.int pos), (.int sz), (.int nn), (.int fb)] [] (rm2 l Z a0 hw [] b1 (8 : Int32) pos sz nn fb fin T18.heap n0 Z18 P18 (by decide) (by decide)) e26 rfl (by rw [hml]; rfl) pd1 rfl (by decide) 0 (Nat.le_of_eq rfl) (by decide) (by decide) (by decide) (by decide) 326 rfl ?_
  intro T27 v27 L27 X27 Q27
  obtain ⟨rfl, N27', e27⟩ := Q27
  have N27 := Fr.app N26 N27'
  show Goes p e below _ (T27.setTop (mkF m 326 _ [(.int (okF (8 : Int32) pos sz nn fb fin))]))
  refine g_if_eq X27 hx hby at_326 387 329 (by decide) (by decide) rfl (fun q => absurd q (own_ok (m := 8) rfl (by decide) hpn hpn7 hsz'.1 hsz'.2 hfb' hbase hput hnn)) (fun _ => ?_)
  refine g_aload X27 hx hby at_329 rfl rfl 331 rfl ?_
  refine g_bipush X27 hx hby at_331 (9 : Int32) rfl 333 rfl ?_
  refine g_iload X27 hx hby at_333 rfl 335 rfl ?_
  refine g_iload X27 hx hby at_335 rfl 337 rfl ?_
  refine g_iload X27 hx hby at_337 rfl 339 rfl ?_
  refine g_iload X27 hx hby at_339 rfl 341 rfl ?_
  refine g_callS X27 hx hby hZ hown (hw _ (List.mem_of_getElem? (i := 5) rfl)) (hw _ (List.mem_of_getElem? (i := 6) rfl)) (hw _ (List.mem_of_getElem? (i := 7) rfl)) (hw _ (List.mem_of_getElem? (i := 8) rfl)) at_341 [(.ref b1), (.int (9 : Int32)), (.int pos), (.int sz), (.int nn), (.int fb)] [] (rm2 l Z a0 hw [] b1 (9 : Int32) pos sz nn fb fin T18.heap n0 Z18 P18 (by decide) (by decide)) e27 rfl (by rw [hml]; rfl) pd1 rfl (by decide) 0 (Nat.le_of_eq rfl) (by decide) (by decide) (by decide) (by decide) 344 rfl ?_
  intro T28 v28 L28 X28 Q28
  obtain ⟨rfl, N28', e28⟩ := Q28
  have N28 := Fr.app N27 N28'
  show Goes p e below _ (T28.setTop (mkF m 344 _ [(.int (okF (9 : Int32) pos sz nn fb fin))]))
  refine g_if_eq X28 hx hby at_344 387 347 (by decide) (by decide) rfl (fun q => absurd q (own_ok (m := 9) rfl (by decide) hpn hpn7 hsz'.1 hsz'.2 hfb' hbase hput hnn)) (fun _ => ?_)
  refine g_aload X28 hx hby at_347 rfl rfl 349 rfl ?_
  refine g_bipush X28 hx hby at_349 (10 : Int32) rfl 351 rfl ?_
  refine g_iload X28 hx hby at_351 rfl 353 rfl ?_
  refine g_iload X28 hx hby at_353 rfl 355 rfl ?_
  refine g_iload X28 hx hby at_355 rfl 357 rfl ?_
  refine g_iload X28 hx hby at_357 rfl 359 rfl ?_
  refine g_callS X28 hx hby hZ hown (hw _ (List.mem_of_getElem? (i := 5) rfl)) (hw _ (List.mem_of_getElem? (i := 6) rfl)) (hw _ (List.mem_of_getElem? (i := 7) rfl)) (hw _ (List.mem_of_getElem? (i := 8) rfl)) at_359 [(.ref b1), (.int (10 : Int32)), (.int pos), (.int sz), (.int nn), (.int fb)] [] (rm2 l Z a0 hw [] b1 (10 : Int32) pos sz nn fb fin T18.heap n0 Z18 P18 (by decide) (by decide)) e28 rfl (by rw [hml]; rfl) pd1 rfl (by decide) 0 (Nat.le_of_eq rfl) (by decide) (by decide) (by decide) (by decide) 362 rfl ?_
  intro T29 v29 L29 X29 Q29
  obtain ⟨rfl, N29', e29⟩ := Q29
  have N29 := Fr.app N28 N29'
  show Goes p e below _ (T29.setTop (mkF m 362 _ [(.int (okF (10 : Int32) pos sz nn fb fin))]))
  refine g_if_eq X29 hx hby at_362 387 365 (by decide) (by decide) rfl (fun q => absurd q (own_ok (m := 10) rfl (by decide) hpn hpn7 hsz'.1 hsz'.2 hfb' hbase hput hnn)) (fun _ => ?_)
  refine g_aload X29 hx hby at_365 rfl rfl 367 rfl ?_
  refine g_bipush X29 hx hby at_367 (11 : Int32) rfl 369 rfl ?_
  refine g_iload X29 hx hby at_369 rfl 371 rfl ?_
  refine g_iload X29 hx hby at_371 rfl 373 rfl ?_
  refine g_iload X29 hx hby at_373 rfl 375 rfl ?_
  refine g_iload X29 hx hby at_375 rfl 377 rfl ?_
  refine g_callS X29 hx hby hZ hown (hw _ (List.mem_of_getElem? (i := 5) rfl)) (hw _ (List.mem_of_getElem? (i := 6) rfl)) (hw _ (List.mem_of_getElem? (i := 7) rfl)) (hw _ (List.mem_of_getElem? (i := 8) rfl)) at_377 [(.ref b1), (.int (11 : Int32)), (.int pos), (.int sz), (.int nn), (.int fb)] [] (rm2 l Z a0 hw [] b1 (11 : Int32) pos sz nn fb fin T18.heap n0 Z18 P18 (by decide) (by decide)) e29 rfl (by rw [hml]; rfl) pd1 rfl (by decide) 0 (Nat.le_of_eq rfl) (by decide) (by decide) (by decide) (by decide) 380 rfl ?_
  intro T30 v30 L30 X30 Q30
  obtain ⟨rfl, N30', e30⟩ := Q30
  have N30 := Fr.app N29 N30'
  show Goes p e below _ (T30.setTop (mkF m 380 _ [(.int (okF (11 : Int32) pos sz nn fb fin))]))
  refine g_if_eq X30 hx hby at_380 387 383 (by decide) (by decide) rfl (fun q => absurd q (own_ok (m := 11) rfl (by decide) hpn hpn7 hsz'.1 hsz'.2 hfb' hbase hput hnn)) (fun _ => ?_)
  refine g_iconst X30 hx hby at_383 (1 : Int32) rfl 384 rfl ?_
  refine g_goto X30 hx hby at_384 388 (by decide) (by decide) ?_
  exact g_ireturn X30 hx hby hret hlk (Or.inr (Or.inl rfl)) (nar_bool (Or.inr rfl)) at_388 ⟨rfl, N30⟩ (by decide) (by decide)
set_option maxRecDepth 65536 in
set_option maxHeartbeats 40000000 in
theorem comes_1 {Post : Tables → Env → Array Value → State → Outcome → State → Prop} (hpost : ∀ tb e args s v u, (limb_1_1.after args s (.returned v) u = true ∧ limb_1_2.after args s (.returned v) u = true ∧ True) → FrameEnd s (.returned v) u (Jvm.fieldLocs frame_1_writes args s ++ Jvm.arrayLocs frame_1_arrays args s ++ Jvm.staticLocs frame_1_statics s) 16 128 → Post tb e args s (.returned v) u) :
    ArmFor flags0 classFile x code maxLocals ret World_1 tables_1 room_1 Calls_1 rest_1 Pre_1 Post := by
  intro l hfl _ _ p e ha hc hk s m args below hf hA hF happ hP
  obtain ⟨hcalls, hrest, hpre⟩ := hP
  obtain ⟨-, -, -, hnamed, -, -, -, hat⟩ := (Spec.applies_iff hf).mp happ
  obtain ⟨hg, hn⟩ := and_e (Cond.before_iff.mp (show (Jvm.Cond.and given_1 narrow_1).before args s = true from hpre))
  obtain ⟨q0, r0⟩ := and_e hg
  obtain ⟨q1, r1⟩ := and_e r0
  obtain ⟨q2, r2⟩ := and_e r1
  obtain ⟨q3, r3⟩ := and_e r2
  obtain ⟨w0, w1, w2, w3, rfl⟩ : ∃ w0 w1 w2 w3 : Value, args = #[w0, w1, w2, w3] := by
    have hs : args.size = 4 := by simpa [Cond.value, given_1] using q0
    obtain ⟨L⟩ := args
    match L, hs with
    | [w0, w1, w2, w3], _ => exact ⟨w0, w1, w2, w3, rfl⟩
  have hw := fun d (hd : d ∈ tables_1) => atoms_spec (ws := Jvm.Cond.code x code maxLocals ret :: tables_1) hat d (List.mem_cons_of_mem _ hd)
  obtain ⟨i0, ei0⟩ := is_v q1
  obtain rfl : w0 = (.int i0) := Option.some.inj ei0
  obtain ⟨i1, ei1⟩ := is_v q2
  obtain rfl : w1 = (.int i1) := Option.some.inj ei1
  obtain ⟨i2, ei2⟩ := is_v q3
  obtain rfl : w2 = (.int i2) := Option.some.inj ei2
  obtain ⟨i3, ei3⟩ := is_v r3
  obtain rfl : w3 = (.int i3) := Option.some.inj ei3
  obtain ⟨n, o, h1, h2, h3, _, L, rfl, ⟨rfl, N⟩, hq⟩ := rm0 l s _ hw tables_1 i0 i1 i2 i3 s.heap s.heap.size (Nat.le_refl _) p e ha hc hk s m _ below hf ((Spec.applies_iff_loose hf).mp happ).1 ⟨rfl, State.Warmed39.refl s, rfl⟩ trivial
  refine ⟨n, _, h1, h2, h3, hpost _ _ _ _ _ _ ⟨Cond.after_iff.mpr rfl, Cond.after_iff.mpr (eq_i res_at (Term.int_eval (1)) rfl), trivial⟩ ⟨hq.1, hq.2.1, (hq.2.2.sift fun y hy => Or.inr (N y hy)).mono (by decide) (by decide)⟩⟩
theorem main_1_1 : Claimed_1_1 := comes_1 fun _ _ _ _ _ _ h hF => ⟨h.1, hF⟩
theorem main_1_2 : Claimed_1_2 := comes_1 fun _ _ _ _ _ _ h hF => ⟨h.2.1, hF⟩
end Jvm.Pilot.@@N@@
namespace Jvm.Pilot.@@N@@
open Jvm Jvm.ClassFile Sem Op Lib Jvm.Free Jvm.Stand Jvm.Pilot.@@N@@.Jvm.D
/-! MADE BY PROGRAM (witnessworld.py) out of the Statement's table words and the real class files: 9 classes; the members and pool entries that the words name. The judged class is class 1, her method 1. -/
namespace start1
open Jvm.ClassFile
def u (s : String) : CpInfo := .utf8 (stringToUtf16 s)
/-- a pool by its gaps: so many unusable entries, then the entry; so many at the end -/
def gap : Nat → List CpInfo → List CpInfo
  | 0, r => r
  | n + 1, r => .unusable :: gap n r
def poolList (es : List (Nat × CpInfo)) (last : Nat) : List CpInfo := es.foldr (fun e r => gap e.1 (e.2 :: r)) (gap last [])
def pool (es : List (Nat × CpInfo)) (last : Nat) : Array CpInfo := ⟨poolList es last⟩
def fileOf (pool : Array CpInfo) (this : Nat) (attrs : Array Attribute := #[]) (ms : Array MethodInfo := #[]) (fl : Nat := 33) (sup : Nat := 0) (ifs : Array Nat := #[]) (fds : Array FieldInfo := #[]) : ClassFile where
  minorVersion := 0
  majorVersion := 65
  constantPool := pool
  accessFlags := fl
  thisClass := this
  superClass := sup
  interfaces := ifs
  fields := fds
  methods := ms
  attributes := attrs
def plain (name : String) (sup : Option ClassId) : Class where
  name := name
  kind := .ordinary
  loader := none
  accessFlags := 33
  super := sup
  interfaces := #[]
  cf := none
  fields := #[]
  methods := #[]
  instanceTypes := #[]
  staticTypes := #[]
  resolved := #[]
  callSites := []
  init := .initialized
  statics := none
  mirror := none

def pool0 : Array CpInfo := pool [(5, u "<init>"), (0, u "()V"), (1, .class_ 10), (1, u "java/lang/Object")] 113

def k0m0 : Method := { name := "<init>", desc := "()V", sig := { parameters := [], returnType := none }, accessFlags := 1, code := none }
/-- java/lang/Object -/
def k0 : Class := { plain "java/lang/Object" none with
  accessFlags := 33
  interfaces := #[]
  cf := some (fileOf pool0 8 #[] #[{ accessFlags := 1, nameIndex := 5, descriptorIndex := 6, attributes := #[] }] 33 0 #[] #[])
  fields := #[]
  methods := #[k0m0]
  instanceTypes := #[]
  staticTypes := #[]
  resolved := Array.replicate 124 none
  statics := none }

def pool1 : Array CpInfo := pool [(2, .class_ 4), (1, u "java/lang/Object"), (0, u "<init>"), (0, u "()V"), (0, .integer 2097152), (0, .methodref 9 10), (0, .class_ 11), (0, .nameAndType 12 13), (0, u "com/example/brevicode/brevicode/Format"), (0, u "putSize"), (0, u "([BII)I"), (0, .methodref 15 16), (0, .class_ 17), (0, .nameAndType 18 19), (0, u "com/example/brevicode/brevicode/FormatPutSizePinLaw"), (0, u "ok"), (0, u "([BIIIIB)Z"), (2, u "law"), (0, u "(IIII)Z")] 5

def k1m0 : Method := { name := "<init>", desc := "()V", sig := { parameters := [], returnType := none }, accessFlags := 1, code := none }
def k1c1 : Code := { maxStack := 6, maxLocals := 11, code := code, exceptionTable := #[], attributes := #[] }
def k1m1 : Method := { name := "law", desc := "(IIII)Z", sig := { parameters := [.int, .int, .int, .int], returnType := some .boolean }, accessFlags := 9, code := some k1c1 }
def k1c2 : Code := { maxStack := 4, maxLocals := 8, code := method_3_code, exceptionTable := #[], attributes := #[] }
def k1m2 : Method := { name := "ok", desc := "([BIIIIB)Z", sig := { parameters := [(.array .byte), .int, .int, .int, .int, .byte], returnType := some .boolean }, accessFlags := 10, code := some k1c2 }
/-- com/example/brevicode/brevicode/FormatPutSizePinLaw -/
def k1 : Class := { plain "com/example/brevicode/brevicode/FormatPutSizePinLaw" (some 0) with
  accessFlags := 49
  interfaces := #[]
  cf := some (fileOf pool1 15 #[] #[{ accessFlags := 1, nameIndex := 5, descriptorIndex := 6, attributes := #[] }, { accessFlags := 9, nameIndex := 22, descriptorIndex := 23, attributes := #[] }, { accessFlags := 10, nameIndex := 18, descriptorIndex := 19, attributes := #[] }] 49 2 #[] #[])
  fields := #[]
  methods := #[k1m0, k1m1, k1m2]
  instanceTypes := #[]
  staticTypes := #[]
  resolved := Array.replicate 29 none
  statics := none }

def pool2 : Array CpInfo := pool [(2, .class_ 4), (1, u "java/lang/Object"), (0, u "<init>"), (0, u "()V"), (0, .class_ 8), (0, u "com/example/brevicode/brevicode/Format"), (76, u "SIGNATURE"), (0, u "[B"), (0, u "VERSION"), (0, u "I"), (2, u "MAX_BLOCK_SIZE"), (1, u "MAX_CODE_LENGTH"), (1, u "CHECK_BYTES"), (1, u "MAX_SIZE_BYTES"), (0, u "LAST"), (1, u "STORED"), (1, u "FLAG_BITS"), (0, u "SIZE_BITS"), (1, u "MORE"), (1, u "LENGTH_BITS"), (0, u "SYMBOLS_BITS"), (1, u "MAX_GAP_ZEROS"), (9, u "putSize"), (0, u "([BII)I")] 19

def k2m0 : Method := { name := "<init>", desc := "()V", sig := { parameters := [], returnType := none }, accessFlags := 2, code := none }
def k2c1 : Code := { maxStack := 4, maxLocals := 5, code := prog_15_method_6_code, exceptionTable := #[], attributes := #[] }
def k2m1 : Method := { name := "putSize", desc := "([BII)I", sig := { parameters := [(.array .byte), .int, .int], returnType := some .int }, accessFlags := 8, code := some k2c1 }
/-- com/example/brevicode/brevicode/Format -/
def k2 : Class := { plain "com/example/brevicode/brevicode/Format" (some 0) with
  accessFlags := 48
  interfaces := #[]
  cf := some (fileOf pool2 7 #[] #[{ accessFlags := 2, nameIndex := 5, descriptorIndex := 6, attributes := #[] }, { accessFlags := 8, nameIndex := 120, descriptorIndex := 121, attributes := #[] }] 48 2 #[] #[{ accessFlags := 24, nameIndex := 85, descriptorIndex := 86, attributes := #[] }, { accessFlags := 24, nameIndex := 87, descriptorIndex := 88, attributes := #[] }, { accessFlags := 24, nameIndex := 91, descriptorIndex := 88, attributes := #[] }, { accessFlags := 24, nameIndex := 93, descriptorIndex := 88, attributes := #[] }, { accessFlags := 24, nameIndex := 95, descriptorIndex := 88, attributes := #[] }, { accessFlags := 24, nameIndex := 97, descriptorIndex := 88, attributes := #[] }, { accessFlags := 26, nameIndex := 98, descriptorIndex := 88, attributes := #[] }, { accessFlags := 26, nameIndex := 100, descriptorIndex := 88, attributes := #[] }, { accessFlags := 26, nameIndex := 102, descriptorIndex := 88, attributes := #[] }, { accessFlags := 26, nameIndex := 103, descriptorIndex := 88, attributes := #[] }, { accessFlags := 26, nameIndex := 105, descriptorIndex := 88, attributes := #[] }, { accessFlags := 26, nameIndex := 107, descriptorIndex := 88, attributes := #[] }, { accessFlags := 26, nameIndex := 108, descriptorIndex := 88, attributes := #[] }, { accessFlags := 26, nameIndex := 110, descriptorIndex := 88, attributes := #[] }])
  fields := #[{ name := "SIGNATURE", type := (.array .byte), accessFlags := 24, slot := 0, constantValue := 0 }, { name := "VERSION", type := .int, accessFlags := 24, slot := 1, constantValue := 0 }, { name := "MAX_BLOCK_SIZE", type := .int, accessFlags := 24, slot := 2, constantValue := 0 }, { name := "MAX_CODE_LENGTH", type := .int, accessFlags := 24, slot := 3, constantValue := 0 }, { name := "CHECK_BYTES", type := .int, accessFlags := 24, slot := 4, constantValue := 0 }, { name := "MAX_SIZE_BYTES", type := .int, accessFlags := 24, slot := 5, constantValue := 0 }, { name := "LAST", type := .int, accessFlags := 26, slot := 6, constantValue := 0 }, { name := "STORED", type := .int, accessFlags := 26, slot := 7, constantValue := 0 }, { name := "FLAG_BITS", type := .int, accessFlags := 26, slot := 8, constantValue := 0 }, { name := "SIZE_BITS", type := .int, accessFlags := 26, slot := 9, constantValue := 0 }, { name := "MORE", type := .int, accessFlags := 26, slot := 10, constantValue := 0 }, { name := "LENGTH_BITS", type := .int, accessFlags := 26, slot := 11, constantValue := 0 }, { name := "SYMBOLS_BITS", type := .int, accessFlags := 26, slot := 12, constantValue := 0 }, { name := "MAX_GAP_ZEROS", type := .int, accessFlags := 26, slot := 13, constantValue := 0 }]
  methods := #[k2m0, k2m1]
  instanceTypes := #[]
  staticTypes := #[(.array .byte), .int, .int, .int, .int, .int, .int, .int, .int, .int, .int, .int, .int, .int]
  resolved := Array.replicate 141 none
  statics := none }

def pool3 : Array CpInfo := pool [(1, u "java/lang/Cloneable"), (0, .class_ 1), (0, u "java/lang/Object"), (0, .class_ 3)] 3

/-- java/lang/Cloneable -/
def k3 : Class := { plain "java/lang/Cloneable" (some 0) with
  accessFlags := 1537
  interfaces := #[]
  cf := some (fileOf pool3 2 #[] #[] 1537 4 #[] #[])
  fields := #[]
  methods := #[]
  instanceTypes := #[]
  staticTypes := #[]
  resolved := Array.replicate 8 none
  statics := none }

def pool4 : Array CpInfo := pool [(1, u "java/io/Serializable"), (0, .class_ 1), (0, u "java/lang/Object"), (0, .class_ 3)] 3

/-- java/io/Serializable -/
def k4 : Class := { plain "java/io/Serializable" (some 0) with
  accessFlags := 1537
  interfaces := #[]
  cf := some (fileOf pool4 2 #[] #[] 1537 4 #[] #[])
  fields := #[]
  methods := #[]
  instanceTypes := #[]
  staticTypes := #[]
  resolved := Array.replicate 8 none
  statics := none }

/-- the primitive byte -/
def k5 : Class := { plain "byte" none with kind := .primitive 'B', accessFlags := 0x411 }
/-- [B -/
def k6 : Class := { plain "[B" (some 0) with kind := .array 5 .byte, interfaces := #[3, 4], accessFlags := 1041 }

/-- the primitive int -/
def k7 : Class := { plain "int" none with kind := .primitive 'I', accessFlags := 0x411 }
/-- [I -/
def k8 : Class := { plain "[I" (some 0) with kind := .array 7 .int, interfaces := #[3, 4], accessFlags := 1041 }

def heap : Heap := #[]
def classes : Array Class := #[k0, k1, k2, k3, k4, k5, k6, k7, k8]
def interned : List (Array UInt16 × Addr) := []
def slotsUsed : Nat := 0
def theMethod : MethodId := ⟨1, 1⟩
def args0 : Array Value := #[.int 5, .int 5, .int 5, .int 5]
def aboutOver (below : List Frame) : State where
  vm := { classes := classes, interned := interned.toArray }
  heap := heap
  slotsUsed := slotsUsed
  threads := #[{ frames := .invoking theMethod args0 :: below }]
def below0 : List Frame := [.native { method := ⟨0, 0⟩, args := #[] }]
def about1 : State := aboutOver below0
def p0 : Program := .bare "" "" ""
def e0 : Env := launch0.env 0 0 0
theorem w_frames : about1.frames = Frame.invoking theMethod args0 :: below0 := rfl
set_option maxRecDepth 65536 in
theorem w_args : argsFit about1.vm theMethod args0 = true := by decide +kernel
set_option maxRecDepth 65536 in
theorem w_heap : heapFits about1 = true := by decide +kernel
set_option maxRecDepth 65536 in
theorem w_runnable : about1.curStatus? = some .runnable := by decide +kernel
set_option maxRecDepth 65536 in
theorem w_alone : about1.alone = true := by decide +kernel
set_option maxRecDepth 65536 in
theorem w_named : about1.methodNamed? x = some theMethod := by decide +kernel
set_option maxRecDepth 65536 in
theorem w_hears : about1.hears theMethod below0 = true := by decide +kernel
set_option maxRecDepth 65536 in
theorem w_ripe : about1.ripe theMethod args0 below0 = true := by decide +kernel
theorem w_running : about1.status = .running := rfl
set_option maxRecDepth 65536 in
theorem w_room : about1.hasRoom e0.platform room_1 = true :=
  launch0.hasRoom_least _ room_1 (by decide +kernel) (by decide +kernel) (by decide +kernel) (by decide +kernel) (by decide +kernel) (by decide +kernel)
theorem allAtoms_all (ts : List Jvm.Cond) (a : Array Jvm.Value) (st : Jvm.State) : (allAtoms ts).before a st = ts.all (fun c => c.before a st) := by
  induction ts with
  | nil => rfl
  | cons c t ih =>
    show (Jvm.Cond.and c (allAtoms t)).before a st = _
    rw [Jvm.Cond.before_and, ih, List.all_cons]
def words1 : List Jvm.Cond := Jvm.Cond.code x code maxLocals ret :: tables_1
/-- a 'code' word, met by the world's own term for the bytes: nothing is compared byte by byte -/
theorem code_word {y : MethodName} {bytes : ByteArray} {mx : Nat} {rt : Option FieldType} {a : Array Value} {s : State} {m : MethodId} {meth : Method} {c : Code} (h1 : s.methodNamed? y = some m) (h2 : s.vm.method? m = some meth) (h3 : meth.code = some c) (h4 : c.code = bytes)
    (h5 : (c.maxLocals == mx && c.exceptionTable.isEmpty && decide (c.maxStack ≤ mostOperands) && decide (meth.sig.returnType = rt) && !meth.locks && decide (parseMethodDescriptor y.desc = some meth.sig)) = true) : (Jvm.Cond.code y bytes mx rt).before a s = true := by
  simp only [Bool.and_eq_true, beq_iff_eq, Bool.not_eq_true', decide_eq_true_eq] at h5
  obtain ⟨⟨⟨⟨⟨g1, g2⟩, g3⟩, g4⟩, g5⟩, g6⟩ := h5
  simp [Cond.before, Cond.holds, Cond.value, h1, h2, h3, h4, g1, g2, g3, g4, g5, g6]
def isCode : Jvm.Cond → Bool
  | .code _ _ _ _ => true
  | _ => false
theorem all_split {L : List Jvm.Cond} {P : Jvm.Cond → Bool} (h1 : L.all (fun c => isCode c || P c) = true) (h2 : ∀ c ∈ L.filter isCode, P c = true) : L.all P = true := by
  refine List.all_eq_true.mpr fun c hc => ?_
  have h := List.all_eq_true.mp h1 c hc
  rcases Bool.eq_false_or_eq_true (isCode c) with hi | hi
  · exact h2 c (List.mem_filter.mpr ⟨hc, hi⟩)
  · simpa [hi] using h
set_option maxRecDepth 65536 in
theorem w_c0 : (Jvm.Cond.code x code maxLocals ret).before args0 about1 = true := code_word (m := ⟨1, 1⟩) (meth := k1m1) (c := k1c1) (by decide +kernel) rfl rfl rfl (by decide +kernel)
set_option maxRecDepth 65536 in
theorem w_c1 : (Jvm.Cond.code ({ cls := "com/example/brevicode/brevicode/Format", name := "putSize", desc := "([BII)I" } : Jvm.MethodName) prog_15_method_6_code (5 : Nat) (Option.some Jvm.ClassFile.FieldType.int)).before args0 about1 = true := code_word (m := ⟨2, 1⟩) (meth := k2m1) (c := k2c1) (by decide +kernel) rfl rfl rfl (by decide +kernel)
set_option maxRecDepth 65536 in
theorem w_c2 : (Jvm.Cond.code ({ cls := "com/example/brevicode/brevicode/FormatPutSizePinLaw", name := "ok", desc := "([BIIIIB)Z" } : Jvm.MethodName) method_3_code (8 : Nat) (Option.some Jvm.ClassFile.FieldType.boolean)).before args0 about1 = true := code_word (m := ⟨1, 2⟩) (meth := k1m2) (c := k1c2) (by decide +kernel) rfl rfl rfl (by decide +kernel)
def codes1 : List Jvm.Cond := [Jvm.Cond.code x code maxLocals ret, Jvm.Cond.code ({ cls := "com/example/brevicode/brevicode/Format", name := "putSize", desc := "([BII)I" } : Jvm.MethodName) prog_15_method_6_code (5 : Nat) (Option.some Jvm.ClassFile.FieldType.int), Jvm.Cond.code ({ cls := "com/example/brevicode/brevicode/FormatPutSizePinLaw", name := "ok", desc := "([BIIIIB)Z" } : Jvm.MethodName) method_3_code (8 : Nat) (Option.some Jvm.ClassFile.FieldType.boolean)]
set_option maxRecDepth 65536 in
theorem codes_eq : words1.filter isCode = codes1 := rfl
theorem w_codes : ∀ c ∈ words1.filter isCode, c.before args0 about1 = true := by
  rw [codes_eq]
  intro c hc
  simp only [codes1, List.mem_cons, List.not_mem_nil, or_false] at hc
  rcases hc with rfl | rfl | rfl
  · exact w_c0
  · exact w_c1
  · exact w_c2
set_option maxRecDepth 65536 in
theorem w_t1 : words1.all (fun c => isCode c || c.before args0 about1) = true := by decide +kernel
theorem w_tables : (allAtoms (Jvm.Cond.code x code maxLocals ret :: tables_1)).before args0 about1 = true := by
  rw [allAtoms_all]
  show words1.all (fun c => c.before args0 about1) = true
  refine all_split ?_ w_codes
  rw [w_t1]
set_option maxRecDepth 65536 in
theorem w_case : (Jvm.Cond.and given_1 narrow_1).before args0 about1 = true := by decide +kernel
theorem w_applies : (headSpec (Jvm.Cond.code x code maxLocals ret :: tables_1) room_1).applies x e0.platform about1 = true :=
  (Spec.applies_iff w_frames).mpr ⟨w_running, w_runnable, w_alone, w_named, w_hears, w_ripe, w_room, w_tables⟩
theorem atStart : AtStart classFile x code maxLocals ret World_1 tables_1 room_1 Calls_1 rest_1 Pre_1 launch0 p0 e0 about1 theMethod args0 below0 :=
  ⟨lists_1, trivial, launch0.admits_env _ _ _, launch0.least_env, fairChoices_fair.cas, fairChoices_fair.clock, w_frames, w_args, w_heap, w_applies, trivial, trivial, w_case⟩
end start1
theorem witness_1 : WitnessClaimed_1 := ⟨start1.p0, start1.e0, start1.about1, start1.theMethod, start1.args0, start1.below0, start1.atStart⟩
end Jvm.Pilot.@@N@@
