import JvmDerived
import JvmDerived.Pilot.@@N@@Statement
import JvmDerived.Pilot.@@N@@Code
set_option linter.unusedVariables false
set_option linter.unusedSimpArgs false
namespace Jvm.Pilot.@@N@@
open Jvm Jvm.ClassFile Sem Op Lib Jvm.Free Jvm.Stand Jvm.LawKit Jvm.RoadKit Bundle Jvm.Pilot.@@N@@.Jvm.D
section OwnKit
variable {p : Program} {l : Launch} {e : Env} {R : Room} {s : State} {m : MethodId} {args : Array Value} {below : List Frame} {meth : Method} {c : Code} {T : State} {locs : List Loc} {cells slots : Nat} {K : State → Prop} {Ls : Array Slot} {rest : List Value} {pc : Nat} {bytes : ByteArray}
def Goes (p : Program) (e : Env) (below : List Frame) (K : State → Prop) (S : State) : Prop := ∃ t, Steps p.tables e below S t ∧ K t
theorem Goes.of {S S' : State} (st : ∀ t, Steps p.tables e below S' t → Steps p.tables e below S t) (h : Goes p e below K S') : Goes p e below K S := h.elim fun t ht => ⟨t, st t ht.1, ht.2⟩
theorem Goes.entry {g g' : JFrame} (q : g = g') (k : Goes p e below K (T.setTop g')) : Goes p e below K (T.setTop g) := q ▸ k
def Kend (s : State) (below : List Frame) (Q : Option Value → Heap → List Loc → Prop) (C S : Nat) (t : State) : Prop := ∃ o, t.status = .running ∧ Ended t below o ∧ ∃ v L, o = .returned v ∧ Q v t.heap L ∧ FrameEnd s o t L C S
def Ctr (l : Launch) (y : MethodName) (bytes : ByteArray) (maxL : Nat) (ret : Option FieldType) (ws : List Jvm.Cond) (rm : Room) (as' : Array Value) (Z : State) (h0 : Heap) (Q : Option Value → Heap → List Loc → Prop) : Prop :=
  MetFree l y (head1 (Jvm.Cond.code y bytes maxL ret :: ws) rm) (fun a U => a = as' ∧ Z.Warmed39 U.vm ∧ U.heap = h0) (fun _ _ _ _ _ => True) (fun _ U o U' => ∃ v L, o = .returned v ∧ Q v U'.heap L ∧ FrameEnd U o U' L rm.cells rm.slots)
theorem own_body {y : MethodName} {maxL : Nat} {ret : Option FieldType} {ws : List Jvm.Cond} {rm : Room} {as' : Array Value} {Z : State} {h0 : Heap} {Q : Option Value → Heap → List Loc → Prop} (hpl : plainFor y = true)
    (H : ∀ (p : Program) (e : Env) (s : State) (m : MethodId) (below : List Frame) (meth : Method) (c : Code) (s₁ : State), p.tables.exec = Jvm.exec → c.code = bytes → c.maxLocals = maxL → s.vm.findClass y.cls = some m.cls → meth.name = y.name → meth.sig.returnType = ret → meth.locks = false → Z.Warmed39 s.vm →
      Stand p l e rm s m as' below meth c s₁ [] 0 0 → s₁.heap = h0 → Goes p e below (Kend s below Q rm.cells rm.slots) (s₁.setTop (entryFrame m as' maxL))) : Ctr l y bytes maxL ret ws rm as' Z h0 Q := by
  refine MetFree.of_bodySF hpl hisR ?_
  intro p e s m args below meth c s₁ Bd hml0 hP hK
  obtain ⟨rfl, hZ, hh⟩ := hP
  obtain ⟨t, h1, o, h2, h3, h4⟩ := H p e s m below meth c s₁ Bd.exec Bd.bytes hml0 (findClass_of_methodNamed Bd.named) (name_of_methodNamed Bd.named Bd.method).1 Bd.returns Bd.notSynchronized hZ (Stand.of_body Bd) (by rw [← hh, Bd.state]; rfl)
  exact ⟨t, o, h1, h2, h3, h4⟩

theorem own_store1 {l l' : Array Slot} {i : Nat} {v : Value} {o : Slot} (hold : l[i]? = some o) (ho : One o) (hv : v.category = 1) (e : l.setIfInBounds i (.val v) = l') : storeLocals l i v = some l' := e ▸ XS.store1 hold ho hv
theorem g_iadd (X : Stand p l e R s m args below meth c T locs cells slots) (hx : p.tables.exec = Jvm.exec) (hby : c.code = bytes) {x y : Int32} (hd : decode bytes pc = .ok (.iadd, 1)) (q : Nat) (hq : pc + 1 = q) (k : Goes p e below K (T.setTop (mkF m q Ls (.int (x + y) :: rest)))) : Goes p e below K (T.setTop (mkF m pc Ls (.int y :: .int x :: rest))) := by
  subst hq; exact Goes.of (fun t kt => XS.iadd X.here hx rfl (hb hby hd) rfl kt) k
theorem g_isub (X : Stand p l e R s m args below meth c T locs cells slots) (hx : p.tables.exec = Jvm.exec) (hby : c.code = bytes) {x y : Int32} (hd : decode bytes pc = .ok (.isub, 1)) (q : Nat) (hq : pc + 1 = q) (k : Goes p e below K (T.setTop (mkF m q Ls (.int (x - y) :: rest)))) : Goes p e below K (T.setTop (mkF m pc Ls (.int y :: .int x :: rest))) := by
  subst hq; exact Goes.of (fun t kt => XS.isub X.here hx rfl (hb hby hd) rfl kt) k
theorem g_imul (X : Stand p l e R s m args below meth c T locs cells slots) (hx : p.tables.exec = Jvm.exec) (hby : c.code = bytes) {x y : Int32} (hd : decode bytes pc = .ok (.imul, 1)) (q : Nat) (hq : pc + 1 = q) (k : Goes p e below K (T.setTop (mkF m q Ls (.int (x * y) :: rest)))) : Goes p e below K (T.setTop (mkF m pc Ls (.int y :: .int x :: rest))) := by
  subst hq; exact Goes.of (fun t kt => XS.imul X.here hx rfl (hb hby hd) rfl kt) k
theorem g_iand (X : Stand p l e R s m args below meth c T locs cells slots) (hx : p.tables.exec = Jvm.exec) (hby : c.code = bytes) {x y : Int32} (hd : decode bytes pc = .ok (.iand, 1)) (q : Nat) (hq : pc + 1 = q) (k : Goes p e below K (T.setTop (mkF m q Ls (.int (x &&& y) :: rest)))) : Goes p e below K (T.setTop (mkF m pc Ls (.int y :: .int x :: rest))) := by
  subst hq; exact Goes.of (fun t kt => XS.iand X.here hx rfl (hb hby hd) rfl kt) k
theorem g_ior (X : Stand p l e R s m args below meth c T locs cells slots) (hx : p.tables.exec = Jvm.exec) (hby : c.code = bytes) {x y : Int32} (hd : decode bytes pc = .ok (.ior, 1)) (q : Nat) (hq : pc + 1 = q) (k : Goes p e below K (T.setTop (mkF m q Ls (.int (x ||| y) :: rest)))) : Goes p e below K (T.setTop (mkF m pc Ls (.int y :: .int x :: rest))) := by
  subst hq; exact Goes.of (fun t kt => XS.ior X.here hx rfl (hb hby hd) rfl kt) k
theorem g_ixor (X : Stand p l e R s m args below meth c T locs cells slots) (hx : p.tables.exec = Jvm.exec) (hby : c.code = bytes) {x y : Int32} (hd : decode bytes pc = .ok (.ixor, 1)) (q : Nat) (hq : pc + 1 = q) (k : Goes p e below K (T.setTop (mkF m q Ls (.int (x ^^^ y) :: rest)))) : Goes p e below K (T.setTop (mkF m pc Ls (.int y :: .int x :: rest))) := by
  subst hq; exact Goes.of (fun t kt => XS.ixor X.here hx rfl (hb hby hd) rfl kt) k
theorem g_ishl (X : Stand p l e R s m args below meth c T locs cells slots) (hx : p.tables.exec = Jvm.exec) (hby : c.code = bytes) {x y : Int32} (hd : decode bytes pc = .ok (.ishl, 1)) (q : Nat) (hq : pc + 1 = q) (k : Goes p e below K (T.setTop (mkF m q Ls (.int (x <<< (y &&& 31)) :: rest)))) : Goes p e below K (T.setTop (mkF m pc Ls (.int y :: .int x :: rest))) := by
  subst hq; exact Goes.of (fun t kt => XS.ishl X.here hx rfl (hb hby hd) rfl kt) k
theorem g_ishr (X : Stand p l e R s m args below meth c T locs cells slots) (hx : p.tables.exec = Jvm.exec) (hby : c.code = bytes) {x y : Int32} (hd : decode bytes pc = .ok (.ishr, 1)) (q : Nat) (hq : pc + 1 = q) (k : Goes p e below K (T.setTop (mkF m q Ls (.int (x >>> (y &&& 31)) :: rest)))) : Goes p e below K (T.setTop (mkF m pc Ls (.int y :: .int x :: rest))) := by
  subst hq; exact Goes.of (fun t kt => XS.ishr X.here hx rfl (hb hby hd) rfl kt) k
theorem g_iushr (X : Stand p l e R s m args below meth c T locs cells slots) (hx : p.tables.exec = Jvm.exec) (hby : c.code = bytes) {x y : Int32} (hd : decode bytes pc = .ok (.iushr, 1)) (q : Nat) (hq : pc + 1 = q) (k : Goes p e below K (T.setTop (mkF m q Ls (.int ((x.toUInt32 >>> (y &&& 31).toUInt32).toInt32) :: rest)))) : Goes p e below K (T.setTop (mkF m pc Ls (.int y :: .int x :: rest))) := by
  subst hq; exact Goes.of (fun t kt => XS.iushr X.here hx rfl (hb hby hd) rfl kt) k
theorem g_ladd (X : Stand p l e R s m args below meth c T locs cells slots) (hx : p.tables.exec = Jvm.exec) (hby : c.code = bytes) {x y : Int64} (hd : decode bytes pc = .ok (.ladd, 1)) (q : Nat) (hq : pc + 1 = q) (k : Goes p e below K (T.setTop (mkF m q Ls (.long (x + y) :: rest)))) : Goes p e below K (T.setTop (mkF m pc Ls (.long y :: .long x :: rest))) := by
  subst hq; exact Goes.of (fun t kt => XS.ladd X.here hx rfl (hb hby hd) rfl kt) k
theorem g_lsub (X : Stand p l e R s m args below meth c T locs cells slots) (hx : p.tables.exec = Jvm.exec) (hby : c.code = bytes) {x y : Int64} (hd : decode bytes pc = .ok (.lsub, 1)) (q : Nat) (hq : pc + 1 = q) (k : Goes p e below K (T.setTop (mkF m q Ls (.long (x - y) :: rest)))) : Goes p e below K (T.setTop (mkF m pc Ls (.long y :: .long x :: rest))) := by
  subst hq; exact Goes.of (fun t kt => XS.lsub X.here hx rfl (hb hby hd) rfl kt) k
theorem g_lmul (X : Stand p l e R s m args below meth c T locs cells slots) (hx : p.tables.exec = Jvm.exec) (hby : c.code = bytes) {x y : Int64} (hd : decode bytes pc = .ok (.lmul, 1)) (q : Nat) (hq : pc + 1 = q) (k : Goes p e below K (T.setTop (mkF m q Ls (.long (x * y) :: rest)))) : Goes p e below K (T.setTop (mkF m pc Ls (.long y :: .long x :: rest))) := by
  subst hq; exact Goes.of (fun t kt => XS.lmul X.here hx rfl (hb hby hd) rfl kt) k
theorem g_land (X : Stand p l e R s m args below meth c T locs cells slots) (hx : p.tables.exec = Jvm.exec) (hby : c.code = bytes) {x y : Int64} (hd : decode bytes pc = .ok (.land, 1)) (q : Nat) (hq : pc + 1 = q) (k : Goes p e below K (T.setTop (mkF m q Ls (.long (x &&& y) :: rest)))) : Goes p e below K (T.setTop (mkF m pc Ls (.long y :: .long x :: rest))) := by
  subst hq; exact Goes.of (fun t kt => XS.land X.here hx rfl (hb hby hd) rfl kt) k
theorem g_lor (X : Stand p l e R s m args below meth c T locs cells slots) (hx : p.tables.exec = Jvm.exec) (hby : c.code = bytes) {x y : Int64} (hd : decode bytes pc = .ok (.lor, 1)) (q : Nat) (hq : pc + 1 = q) (k : Goes p e below K (T.setTop (mkF m q Ls (.long (x ||| y) :: rest)))) : Goes p e below K (T.setTop (mkF m pc Ls (.long y :: .long x :: rest))) := by
  subst hq; exact Goes.of (fun t kt => XS.lor X.here hx rfl (hb hby hd) rfl kt) k
theorem g_lxor (X : Stand p l e R s m args below meth c T locs cells slots) (hx : p.tables.exec = Jvm.exec) (hby : c.code = bytes) {x y : Int64} (hd : decode bytes pc = .ok (.lxor, 1)) (q : Nat) (hq : pc + 1 = q) (k : Goes p e below K (T.setTop (mkF m q Ls (.long (x ^^^ y) :: rest)))) : Goes p e below K (T.setTop (mkF m pc Ls (.long y :: .long x :: rest))) := by
  subst hq; exact Goes.of (fun t kt => XS.lxor X.here hx rfl (hb hby hd) rfl kt) k
theorem g_lshl (X : Stand p l e R s m args below meth c T locs cells slots) (hx : p.tables.exec = Jvm.exec) (hby : c.code = bytes) {x : Int64} {y : Int32} (hd : decode bytes pc = .ok (.lshl, 1)) (q : Nat) (hq : pc + 1 = q) (k : Goes p e below K (T.setTop (mkF m q Ls (.long (x <<< (y &&& 0x3f).toInt64) :: rest)))) : Goes p e below K (T.setTop (mkF m pc Ls (.int y :: .long x :: rest))) := by
  subst hq; exact Goes.of (fun t kt => XS.lshl X.here hx rfl (hb hby hd) rfl kt) k
theorem g_lshr (X : Stand p l e R s m args below meth c T locs cells slots) (hx : p.tables.exec = Jvm.exec) (hby : c.code = bytes) {x : Int64} {y : Int32} (hd : decode bytes pc = .ok (.lshr, 1)) (q : Nat) (hq : pc + 1 = q) (k : Goes p e below K (T.setTop (mkF m q Ls (.long (x >>> (y &&& 0x3f).toInt64) :: rest)))) : Goes p e below K (T.setTop (mkF m pc Ls (.int y :: .long x :: rest))) := by
  subst hq; exact Goes.of (fun t kt => XS.lshr X.here hx rfl (hb hby hd) rfl kt) k
theorem g_lushr (X : Stand p l e R s m args below meth c T locs cells slots) (hx : p.tables.exec = Jvm.exec) (hby : c.code = bytes) {x : Int64} {y : Int32} (hd : decode bytes pc = .ok (.lushr, 1)) (q : Nat) (hq : pc + 1 = q) (k : Goes p e below K (T.setTop (mkF m q Ls (.long ((x.toUInt64 >>> (y &&& 0x3f).toInt64.toUInt64).toInt64) :: rest)))) : Goes p e below K (T.setTop (mkF m pc Ls (.int y :: .long x :: rest))) := by
  subst hq; exact Goes.of (fun t kt => XS.lushr X.here hx rfl (hb hby hd) rfl kt) k
theorem g_idiv (X : Stand p l e R s m args below meth c T locs cells slots) (hx : p.tables.exec = Jvm.exec) (hby : c.code = bytes) {x y : Int32} (hd : decode bytes pc = .ok (.idiv, 1)) (hy : y ≠ 0) (q : Nat) (hq : pc + 1 = q) (k : Goes p e below K (T.setTop (mkF m q Ls (.int (x / y) :: rest)))) : Goes p e below K (T.setTop (mkF m pc Ls (.int y :: .int x :: rest))) := by
  subst hq; exact Goes.of (fun t kt => XS.idiv X.here hx rfl (hb hby hd) rfl hy kt) k
theorem g_ldiv (X : Stand p l e R s m args below meth c T locs cells slots) (hx : p.tables.exec = Jvm.exec) (hby : c.code = bytes) {x y : Int64} (hd : decode bytes pc = .ok (.ldiv, 1)) (hy : y ≠ 0) (q : Nat) (hq : pc + 1 = q) (k : Goes p e below K (T.setTop (mkF m q Ls (.long (x / y) :: rest)))) : Goes p e below K (T.setTop (mkF m pc Ls (.long y :: .long x :: rest))) := by
  subst hq; exact Goes.of (fun t kt => XS.ldiv X.here hx rfl (hb hby hd) rfl hy kt) k
theorem g_irem (X : Stand p l e R s m args below meth c T locs cells slots) (hx : p.tables.exec = Jvm.exec) (hby : c.code = bytes) {x y : Int32} (hd : decode bytes pc = .ok (.irem, 1)) (hy : y ≠ 0) (q : Nat) (hq : pc + 1 = q) (k : Goes p e below K (T.setTop (mkF m q Ls (.int (x % y) :: rest)))) : Goes p e below K (T.setTop (mkF m pc Ls (.int y :: .int x :: rest))) := by
  subst hq; exact Goes.of (fun t kt => iremM X hx rfl (hb hby hd) rfl hy kt) k
theorem g_lrem (X : Stand p l e R s m args below meth c T locs cells slots) (hx : p.tables.exec = Jvm.exec) (hby : c.code = bytes) {x y : Int64} (hd : decode bytes pc = .ok (.lrem, 1)) (hy : y ≠ 0) (q : Nat) (hq : pc + 1 = q) (k : Goes p e below K (T.setTop (mkF m q Ls (.long (x % y) :: rest)))) : Goes p e below K (T.setTop (mkF m pc Ls (.long y :: .long x :: rest))) := by
  subst hq; rw [← lrem_mod x y] at k; exact Goes.of (fun t kt => XS.lrem X.here hx rfl (hb hby hd) rfl hy kt) k
theorem g_ineg (X : Stand p l e R s m args below meth c T locs cells slots) (hx : p.tables.exec = Jvm.exec) (hby : c.code = bytes) {x : Int32} (hd : decode bytes pc = .ok (.ineg, 1)) (q : Nat) (hq : pc + 1 = q) (k : Goes p e below K (T.setTop (mkF m q Ls (.int (-x) :: rest)))) : Goes p e below K (T.setTop (mkF m pc Ls (.int x :: rest))) := by
  subst hq; exact Goes.of (fun t kt => XS.ineg X.here hx rfl (hb hby hd) rfl kt) k
theorem g_lneg (X : Stand p l e R s m args below meth c T locs cells slots) (hx : p.tables.exec = Jvm.exec) (hby : c.code = bytes) {x : Int64} (hd : decode bytes pc = .ok (.lneg, 1)) (q : Nat) (hq : pc + 1 = q) (k : Goes p e below K (T.setTop (mkF m q Ls (.long (-x) :: rest)))) : Goes p e below K (T.setTop (mkF m pc Ls (.long x :: rest))) := by
  subst hq; exact Goes.of (fun t kt => XS.lneg X.here hx rfl (hb hby hd) rfl kt) k
theorem g_i2l (X : Stand p l e R s m args below meth c T locs cells slots) (hx : p.tables.exec = Jvm.exec) (hby : c.code = bytes) {x : Int32} (hd : decode bytes pc = .ok (.i2l, 1)) (q : Nat) (hq : pc + 1 = q) (k : Goes p e below K (T.setTop (mkF m q Ls (.long (x.toInt64) :: rest)))) : Goes p e below K (T.setTop (mkF m pc Ls (.int x :: rest))) := by
  subst hq; exact Goes.of (fun t kt => XS.i2l X.here hx rfl (hb hby hd) rfl kt) k
theorem g_l2i (X : Stand p l e R s m args below meth c T locs cells slots) (hx : p.tables.exec = Jvm.exec) (hby : c.code = bytes) {x : Int64} (hd : decode bytes pc = .ok (.l2i, 1)) (q : Nat) (hq : pc + 1 = q) (k : Goes p e below K (T.setTop (mkF m q Ls (.int (x.toInt32) :: rest)))) : Goes p e below K (T.setTop (mkF m pc Ls (.long x :: rest))) := by
  subst hq; exact Goes.of (fun t kt => XS.l2i X.here hx rfl (hb hby hd) rfl kt) k
theorem g_i2b (X : Stand p l e R s m args below meth c T locs cells slots) (hx : p.tables.exec = Jvm.exec) (hby : c.code = bytes) {x : Int32} (hd : decode bytes pc = .ok (.i2b, 1)) (q : Nat) (hq : pc + 1 = q) (k : Goes p e below K (T.setTop (mkF m q Ls (.int (x.toInt8.toInt32) :: rest)))) : Goes p e below K (T.setTop (mkF m pc Ls (.int x :: rest))) := by
  subst hq; exact Goes.of (fun t kt => XS.i2b X.here hx rfl (hb hby hd) rfl kt) k
theorem g_i2s (X : Stand p l e R s m args below meth c T locs cells slots) (hx : p.tables.exec = Jvm.exec) (hby : c.code = bytes) {x : Int32} (hd : decode bytes pc = .ok (.i2s, 1)) (q : Nat) (hq : pc + 1 = q) (k : Goes p e below K (T.setTop (mkF m q Ls (.int (x.toInt16.toInt32) :: rest)))) : Goes p e below K (T.setTop (mkF m pc Ls (.int x :: rest))) := by
  subst hq; exact Goes.of (fun t kt => XS.i2s X.here hx rfl (hb hby hd) rfl kt) k
theorem g_i2c (X : Stand p l e R s m args below meth c T locs cells slots) (hx : p.tables.exec = Jvm.exec) (hby : c.code = bytes) {x : Int32} (hd : decode bytes pc = .ok (.i2c, 1)) (q : Nat) (hq : pc + 1 = q) (k : Goes p e below K (T.setTop (mkF m q Ls (.int (x.toUInt32.toUInt16.toUInt32.toInt32) :: rest)))) : Goes p e below K (T.setTop (mkF m pc Ls (.int x :: rest))) := by
  subst hq; exact Goes.of (fun t kt => XS.i2c X.here hx rfl (hb hby hd) rfl kt) k
theorem g_iloadN (X : Stand p l e R s m args below meth c T locs cells slots) (hx : p.tables.exec = Jvm.exec) (hby : c.code = bytes) {k : Fin 4} {v : Int32} (hd : decode bytes pc = .ok (.iload_n k, 1)) (hl : Ls[k.val]? = some (.val (.int v))) (q : Nat) (hq : pc + 1 = q) (k : Goes p e below K (T.setTop (mkF m q Ls (.int v :: rest)))) : Goes p e below K (T.setTop (mkF m pc Ls rest)) := by
  subst hq; exact Goes.of (fun t kt => XS.iloadN X.here hx rfl (hb hby hd) hl kt) k
theorem g_iload (X : Stand p l e R s m args below meth c T locs cells slots) (hx : p.tables.exec = Jvm.exec) (hby : c.code = bytes) {k : Nat} {v : Int32} (hd : decode bytes pc = .ok (.iload k, 2)) (hl : Ls[k]? = some (.val (.int v))) (q : Nat) (hq : pc + 2 = q) (k : Goes p e below K (T.setTop (mkF m q Ls (.int v :: rest)))) : Goes p e below K (T.setTop (mkF m pc Ls rest)) := by
  subst hq; exact Goes.of (fun t kt => XS.iload X.here hx rfl (hb hby hd) hl kt) k
theorem g_lloadN (X : Stand p l e R s m args below meth c T locs cells slots) (hx : p.tables.exec = Jvm.exec) (hby : c.code = bytes) {k : Fin 4} {v : Int64} (hd : decode bytes pc = .ok (.lload_n k, 1)) (hl : Ls[k.val]? = some (.val (.long v))) (q : Nat) (hq : pc + 1 = q) (k : Goes p e below K (T.setTop (mkF m q Ls (.long v :: rest)))) : Goes p e below K (T.setTop (mkF m pc Ls rest)) := by
  subst hq; exact Goes.of (fun t kt => XS.lloadN X.here hx rfl (hb hby hd) hl kt) k
theorem g_lload (X : Stand p l e R s m args below meth c T locs cells slots) (hx : p.tables.exec = Jvm.exec) (hby : c.code = bytes) {k : Nat} {v : Int64} (hd : decode bytes pc = .ok (.lload k, 2)) (hl : Ls[k]? = some (.val (.long v))) (q : Nat) (hq : pc + 2 = q) (k : Goes p e below K (T.setTop (mkF m q Ls (.long v :: rest)))) : Goes p e below K (T.setTop (mkF m pc Ls rest)) := by
  subst hq; exact Goes.of (fun t kt => XS.lload X.here hx rfl (hb hby hd) hl kt) k
theorem g_aloadN (X : Stand p l e R s m args below meth c T locs cells slots) (hx : p.tables.exec = Jvm.exec) (hby : c.code = bytes) {k : Fin 4} {v : Value} (hd : decode bytes pc = .ok (.aload_n k, 1)) (hl : Ls[k.val]? = some (.val v)) (hv : v.isRef = true) (q : Nat) (hq : pc + 1 = q) (k : Goes p e below K (T.setTop (mkF m q Ls (v :: rest)))) : Goes p e below K (T.setTop (mkF m pc Ls rest)) := by
  subst hq; exact Goes.of (fun t kt => XS.aloadN X.here hx rfl (hb hby hd) hl hv kt) k
theorem g_aload (X : Stand p l e R s m args below meth c T locs cells slots) (hx : p.tables.exec = Jvm.exec) (hby : c.code = bytes) {k : Nat} {v : Value} (hd : decode bytes pc = .ok (.aload k, 2)) (hl : Ls[k]? = some (.val v)) (hv : v.isRef = true) (q : Nat) (hq : pc + 2 = q) (k : Goes p e below K (T.setTop (mkF m q Ls (v :: rest)))) : Goes p e below K (T.setTop (mkF m pc Ls rest)) := by
  subst hq; exact Goes.of (fun t kt => XS.aload X.here hx rfl (hb hby hd) hl hv kt) k
theorem g_istoreN (X : Stand p l e R s m args below meth c T locs cells slots) (hx : p.tables.exec = Jvm.exec) (hby : c.code = bytes) {k : Fin 4} {x : Int32} (hd : decode bytes pc = .ok (.istore_n k, 1)) (y : Int32) (hxy : x = y) (L' : Array Slot) (hl : storeLocals Ls k.val (.int y) = some L') (q : Nat) (hq : pc + 1 = q) (k : Goes p e below K (T.setTop (mkF m q L' rest))) : Goes p e below K (T.setTop (mkF m pc Ls (.int x :: rest))) := by
  subst hq hxy; exact Goes.of (fun t kt => XS.istoreN X.here hx rfl (hb hby hd) rfl hl kt) k
theorem g_istore (X : Stand p l e R s m args below meth c T locs cells slots) (hx : p.tables.exec = Jvm.exec) (hby : c.code = bytes) {k : Nat} {x : Int32} (hd : decode bytes pc = .ok (.istore k, 2)) (y : Int32) (hxy : x = y) (L' : Array Slot) (hl : storeLocals Ls k (.int y) = some L') (q : Nat) (hq : pc + 2 = q) (k : Goes p e below K (T.setTop (mkF m q L' rest))) : Goes p e below K (T.setTop (mkF m pc Ls (.int x :: rest))) := by
  subst hq hxy; exact Goes.of (fun t kt => XS.istore X.here hx rfl (hb hby hd) rfl hl kt) k
theorem g_lstoreN (X : Stand p l e R s m args below meth c T locs cells slots) (hx : p.tables.exec = Jvm.exec) (hby : c.code = bytes) {k : Fin 4} {x : Int64} (hd : decode bytes pc = .ok (.lstore_n k, 1)) (y : Int64) (hxy : x = y) (L' : Array Slot) (hl : storeLocals Ls k.val (.long y) = some L') (q : Nat) (hq : pc + 1 = q) (k : Goes p e below K (T.setTop (mkF m q L' rest))) : Goes p e below K (T.setTop (mkF m pc Ls (.long x :: rest))) := by
  subst hq hxy; exact Goes.of (fun t kt => XS.lstoreN X.here hx rfl (hb hby hd) rfl hl kt) k
theorem g_lstore (X : Stand p l e R s m args below meth c T locs cells slots) (hx : p.tables.exec = Jvm.exec) (hby : c.code = bytes) {k : Nat} {x : Int64} (hd : decode bytes pc = .ok (.lstore k, 2)) (y : Int64) (hxy : x = y) (L' : Array Slot) (hl : storeLocals Ls k (.long y) = some L') (q : Nat) (hq : pc + 2 = q) (k : Goes p e below K (T.setTop (mkF m q L' rest))) : Goes p e below K (T.setTop (mkF m pc Ls (.long x :: rest))) := by
  subst hq hxy; exact Goes.of (fun t kt => XS.lstore X.here hx rfl (hb hby hd) rfl hl kt) k
theorem g_astoreN (X : Stand p l e R s m args below meth c T locs cells slots) (hx : p.tables.exec = Jvm.exec) (hby : c.code = bytes) {k : Fin 4} {x : Value} (hd : decode bytes pc = .ok (.astore_n k, 1)) (hv : x.isRef = true) (L' : Array Slot) (hl : storeLocals Ls k.val x = some L') (q : Nat) (hq : pc + 1 = q) (k : Goes p e below K (T.setTop (mkF m q L' rest))) : Goes p e below K (T.setTop (mkF m pc Ls (x :: rest))) := by
  subst hq; exact Goes.of (fun t kt => XS.astoreN X.here hx rfl (hb hby hd) rfl hv hl kt) k
theorem g_astore (X : Stand p l e R s m args below meth c T locs cells slots) (hx : p.tables.exec = Jvm.exec) (hby : c.code = bytes) {k : Nat} {x : Value} (hd : decode bytes pc = .ok (.astore k, 2)) (hv : x.isRef = true) (L' : Array Slot) (hl : storeLocals Ls k x = some L') (q : Nat) (hq : pc + 2 = q) (k : Goes p e below K (T.setTop (mkF m q L' rest))) : Goes p e below K (T.setTop (mkF m pc Ls (x :: rest))) := by
  subst hq; exact Goes.of (fun t kt => XS.astore X.here hx rfl (hb hby hd) rfl hv hl kt) k
theorem g_iconst (X : Stand p l e R s m args below meth c T locs cells slots) (hx : p.tables.exec = Jvm.exec) (hby : c.code = bytes) {i : Int} (hd : decode bytes pc = .ok (.iconst i, 1)) (v : Int32) (hv : Int32.ofInt i = v) (q : Nat) (hq : pc + 1 = q) (k : Goes p e below K (T.setTop (mkF m q Ls (.int v :: rest)))) : Goes p e below K (T.setTop (mkF m pc Ls rest)) := by
  subst hq hv; exact Goes.of (fun t kt => XS.iconst X.here hx rfl (hb hby hd) kt) k
theorem g_bipush (X : Stand p l e R s m args below meth c T locs cells slots) (hx : p.tables.exec = Jvm.exec) (hby : c.code = bytes) {i : Int} (hd : decode bytes pc = .ok (.bipush i, 2)) (v : Int32) (hv : (Int8.ofInt i).toInt32 = v) (q : Nat) (hq : pc + 2 = q) (k : Goes p e below K (T.setTop (mkF m q Ls (.int v :: rest)))) : Goes p e below K (T.setTop (mkF m pc Ls rest)) := by
  subst hq hv; exact Goes.of (fun t kt => XS.bipush X.here hx rfl (hb hby hd) kt) k
theorem g_sipush (X : Stand p l e R s m args below meth c T locs cells slots) (hx : p.tables.exec = Jvm.exec) (hby : c.code = bytes) {i : Int} (hd : decode bytes pc = .ok (.sipush i, 3)) (v : Int32) (hv : (Int16.ofInt i).toInt32 = v) (q : Nat) (hq : pc + 3 = q) (k : Goes p e below K (T.setTop (mkF m q Ls (.int v :: rest)))) : Goes p e below K (T.setTop (mkF m pc Ls rest)) := by
  subst hq hv; exact Goes.of (fun t kt => XS.sipush X.here hx rfl (hb hby hd) kt) k
theorem g_lconst (X : Stand p l e R s m args below meth c T locs cells slots) (hx : p.tables.exec = Jvm.exec) (hby : c.code = bytes) {i : Fin 2} (hd : decode bytes pc = .ok (.lconst i, 1)) (v : Int64) (hv : Int64.ofNat i = v) (q : Nat) (hq : pc + 1 = q) (k : Goes p e below K (T.setTop (mkF m q Ls (.long v :: rest)))) : Goes p e below K (T.setTop (mkF m pc Ls rest)) := by
  subst hq hv; exact Goes.of (fun t kt => XS.lconst X.here hx rfl (hb hby hd) kt) k
theorem g_aconst_null (X : Stand p l e R s m args below meth c T locs cells slots) (hx : p.tables.exec = Jvm.exec) (hby : c.code = bytes)  (hd : decode bytes pc = .ok (.aconst_null, 1)) (q : Nat) (hq : pc + 1 = q) (k : Goes p e below K (T.setTop (mkF m q Ls (.null :: rest)))) : Goes p e below K (T.setTop (mkF m pc Ls rest)) := by
  subst hq; exact Goes.of (fun t kt => XS.aconstNull X.here hx rfl (hb hby hd) kt) k
theorem g_dup (X : Stand p l e R s m args below meth c T locs cells slots) (hx : p.tables.exec = Jvm.exec) (hby : c.code = bytes) {x : Value} (hd : decode bytes pc = .ok (.dup, 1)) (hc : x.category = 1) (q : Nat) (hq : pc + 1 = q) (k : Goes p e below K (T.setTop (mkF m q Ls (x :: x :: rest)))) : Goes p e below K (T.setTop (mkF m pc Ls (x :: rest))) := by
  subst hq; exact Goes.of (fun t kt => XS.dup X.here hx rfl (hb hby hd) rfl hc kt) k
theorem g_pop (X : Stand p l e R s m args below meth c T locs cells slots) (hx : p.tables.exec = Jvm.exec) (hby : c.code = bytes) {x : Value} (hd : decode bytes pc = .ok (.pop, 1)) (hc : x.category = 1) (q : Nat) (hq : pc + 1 = q) (k : Goes p e below K (T.setTop (mkF m q Ls rest))) : Goes p e below K (T.setTop (mkF m pc Ls (x :: rest))) := by
  subst hq; exact Goes.of (fun t kt => XS.pop X.here hx rfl (hb hby hd) rfl hc kt) k
theorem g_dup_x1 (X : Stand p l e R s m args below meth c T locs cells slots) (hx : p.tables.exec = Jvm.exec) (hby : c.code = bytes) {x y : Value} (hd : decode bytes pc = .ok (.dup_x1, 1)) (hc : x.category = 1) (hc' : y.category = 1) (q : Nat) (hq : pc + 1 = q) (k : Goes p e below K (T.setTop (mkF m q Ls (x :: y :: x :: rest)))) : Goes p e below K (T.setTop (mkF m pc Ls (x :: y :: rest))) := by
  subst hq; exact Goes.of (fun t kt => XS.dupX1 X.here hx rfl (hb hby hd) rfl hc hc' kt) k
theorem g_dup2 (X : Stand p l e R s m args below meth c T locs cells slots) (hx : p.tables.exec = Jvm.exec) (hby : c.code = bytes) {x y : Value} (hd : decode bytes pc = .ok (.dup2, 1)) (hc : x.category = 1) (hc' : y.category = 1) (q : Nat) (hq : pc + 1 = q) (k : Goes p e below K (T.setTop (mkF m q Ls (x :: y :: x :: y :: rest)))) : Goes p e below K (T.setTop (mkF m pc Ls (x :: y :: rest))) := by
  subst hq; exact Goes.of (fun t kt => Jvm.Free.XT.dup2 X.here hx rfl (hb hby hd) rfl hc hc' kt) k
theorem g_iinc (X : Stand p l e R s m args below meth c T locs cells slots) (hx : p.tables.exec = Jvm.exec) (hby : c.code = bytes) {i : Int} {kk : Nat} {x : Int32} (hd : decode bytes pc = .ok (.iinc kk i, 3)) (v : Int32) (hv : Int32.ofInt i = v) (hl : Ls[kk]? = some (.val (.int x))) (y : Int32) (hxy : x + v = y) (L' : Array Slot) (hl' : storeLocals Ls kk (.int y) = some L') (q : Nat) (hq : pc + 3 = q) (k : Goes p e below K (T.setTop (mkF m q L' rest))) : Goes p e below K (T.setTop (mkF m pc Ls rest)) := by
  subst hq hv hxy; exact Goes.of (fun t kt => XS.iinc X.here hx rfl (hb hby hd) hl hl' kt) k
theorem g_goto (X : Stand p l e R s m args below meth c T locs cells slots) (hx : p.tables.exec = Jvm.exec) (hby : c.code = bytes) {o : Int} (hd : decode bytes pc = .ok (.goto o, 3)) (q : Nat) (ho : 0 ≤ (pc : Int) + o) (hq : ((pc : Int) + o).toNat = q) (k : Goes p e below K (T.setTop (mkF m q Ls rest))) : Goes p e below K (T.setTop (mkF m pc Ls rest)) :=
  Goes.of (fun t kt => XS.goto X.here hx rfl rfl (hb hby hd) ho hq kt) k
theorem g_icmp_eq (X : Stand p l e R s m args below meth c T locs cells slots) (hx : p.tables.exec = Jvm.exec) (hby : c.code = bytes) {x y : Int32} {o : Int} (hd : decode bytes pc = .ok (.if_icmp .eq o, 3)) (q r : Nat) (ho : 0 ≤ (pc : Int) + o) (hq : ((pc : Int) + o).toNat = q) (hr : pc + 3 = r) (kt : x = y → Goes p e below K (T.setTop (mkF m q Ls rest))) (kf : ¬ (x = y) → Goes p e below K (T.setTop (mkF m r Ls rest))) : Goes p e below K (T.setTop (mkF m pc Ls (.int y :: .int x :: rest))) := by
  subst hr
  by_cases h : x = y
  · exact Goes.of (fun t kt => XS.icmpYes X.here hx rfl rfl (hb hby hd) rfl (teq h).1 ho hq kt) (kt h)
  · exact Goes.of (fun t kt => XS.icmpNo X.here hx rfl (hb hby hd) rfl (feq h).1 kt) (kf h)
theorem g_if_eq (X : Stand p l e R s m args below meth c T locs cells slots) (hx : p.tables.exec = Jvm.exec) (hby : c.code = bytes) {x : Int32} {o : Int} (hd : decode bytes pc = .ok (.ifCond .eq o, 3)) (q r : Nat) (ho : 0 ≤ (pc : Int) + o) (hq : ((pc : Int) + o).toNat = q) (hr : pc + 3 = r) (kt : x = 0 → Goes p e below K (T.setTop (mkF m q Ls rest))) (kf : ¬ (x = 0) → Goes p e below K (T.setTop (mkF m r Ls rest))) : Goes p e below K (T.setTop (mkF m pc Ls (.int x :: rest))) := by
  subst hr
  by_cases h : x = 0
  · exact Goes.of (fun t kt => XS.ifYes X.here hx rfl rfl (hb hby hd) rfl ((if0 _ _).trans (teq h).1) ho hq kt) (kt h)
  · exact Goes.of (fun t kt => XS.ifNo X.here hx rfl (hb hby hd) rfl ((if0 _ _).trans (feq h).1) kt) (kf h)
theorem g_lcmp_eq (X : Stand p l e R s m args below meth c T locs cells slots) (hx : p.tables.exec = Jvm.exec) (hby : c.code = bytes) {x y : Int64} {o : Int} {pc2 : Nat} (hd : decode bytes pc = .ok (.lcmp, 1)) (hd2 : decode bytes pc2 = .ok (.ifCond .eq o, 3)) (q r : Nat) (h2 : pc + 1 = pc2) (ho : 0 ≤ (pc2 : Int) + o) (hq : ((pc2 : Int) + o).toNat = q) (hr : pc2 + 3 = r) (kt : x = y → Goes p e below K (T.setTop (mkF m q Ls rest))) (kf : ¬ (x = y) → Goes p e below K (T.setTop (mkF m r Ls rest))) : Goes p e below K (T.setTop (mkF m pc Ls (.long y :: .long x :: rest))) := by
  subst h2
  refine Goes.of (fun t kt => XS.lcmp X.here hx rfl (hb hby hd) rfl kt) ?_
  exact g_if_eq X hx hby hd2 q r ho hq hr (fun h => kt ((lw_eq x y).mp h)) (fun h => kf fun h' => h ((lw_eq x y).mpr h'))
theorem g_icmp_ne (X : Stand p l e R s m args below meth c T locs cells slots) (hx : p.tables.exec = Jvm.exec) (hby : c.code = bytes) {x y : Int32} {o : Int} (hd : decode bytes pc = .ok (.if_icmp .ne o, 3)) (q r : Nat) (ho : 0 ≤ (pc : Int) + o) (hq : ((pc : Int) + o).toNat = q) (hr : pc + 3 = r) (kt : x = y → Goes p e below K (T.setTop (mkF m r Ls rest))) (kf : ¬ (x = y) → Goes p e below K (T.setTop (mkF m q Ls rest))) : Goes p e below K (T.setTop (mkF m pc Ls (.int y :: .int x :: rest))) := by
  subst hr
  by_cases h : x = y
  · exact Goes.of (fun t kt => XS.icmpNo X.here hx rfl (hb hby hd) rfl (teq h).2 kt) (kt h)
  · exact Goes.of (fun t kt => XS.icmpYes X.here hx rfl rfl (hb hby hd) rfl (feq h).2 ho hq kt) (kf h)
theorem g_if_ne (X : Stand p l e R s m args below meth c T locs cells slots) (hx : p.tables.exec = Jvm.exec) (hby : c.code = bytes) {x : Int32} {o : Int} (hd : decode bytes pc = .ok (.ifCond .ne o, 3)) (q r : Nat) (ho : 0 ≤ (pc : Int) + o) (hq : ((pc : Int) + o).toNat = q) (hr : pc + 3 = r) (kt : x = 0 → Goes p e below K (T.setTop (mkF m r Ls rest))) (kf : ¬ (x = 0) → Goes p e below K (T.setTop (mkF m q Ls rest))) : Goes p e below K (T.setTop (mkF m pc Ls (.int x :: rest))) := by
  subst hr
  by_cases h : x = 0
  · exact Goes.of (fun t kt => XS.ifNo X.here hx rfl (hb hby hd) rfl ((if0 _ _).trans (teq h).2) kt) (kt h)
  · exact Goes.of (fun t kt => XS.ifYes X.here hx rfl rfl (hb hby hd) rfl ((if0 _ _).trans (feq h).2) ho hq kt) (kf h)
theorem g_lcmp_ne (X : Stand p l e R s m args below meth c T locs cells slots) (hx : p.tables.exec = Jvm.exec) (hby : c.code = bytes) {x y : Int64} {o : Int} {pc2 : Nat} (hd : decode bytes pc = .ok (.lcmp, 1)) (hd2 : decode bytes pc2 = .ok (.ifCond .ne o, 3)) (q r : Nat) (h2 : pc + 1 = pc2) (ho : 0 ≤ (pc2 : Int) + o) (hq : ((pc2 : Int) + o).toNat = q) (hr : pc2 + 3 = r) (kt : x = y → Goes p e below K (T.setTop (mkF m r Ls rest))) (kf : ¬ (x = y) → Goes p e below K (T.setTop (mkF m q Ls rest))) : Goes p e below K (T.setTop (mkF m pc Ls (.long y :: .long x :: rest))) := by
  subst h2
  refine Goes.of (fun t kt => XS.lcmp X.here hx rfl (hb hby hd) rfl kt) ?_
  exact g_if_ne X hx hby hd2 q r ho hq hr (fun h => kt ((lw_eq x y).mp h)) (fun h => kf fun h' => h ((lw_eq x y).mpr h'))
theorem g_icmp_lt (X : Stand p l e R s m args below meth c T locs cells slots) (hx : p.tables.exec = Jvm.exec) (hby : c.code = bytes) {x y : Int32} {o : Int} (hd : decode bytes pc = .ok (.if_icmp .lt o, 3)) (q r : Nat) (ho : 0 ≤ (pc : Int) + o) (hq : ((pc : Int) + o).toNat = q) (hr : pc + 3 = r) (kt : x < y → Goes p e below K (T.setTop (mkF m q Ls rest))) (kf : ¬ (x < y) → Goes p e below K (T.setTop (mkF m r Ls rest))) : Goes p e below K (T.setTop (mkF m pc Ls (.int y :: .int x :: rest))) := by
  subst hr
  by_cases h : x < y
  · exact Goes.of (fun t kt => XS.icmpYes X.here hx rfl rfl (hb hby hd) rfl (tlt h).1 ho hq kt) (kt h)
  · exact Goes.of (fun t kt => XS.icmpNo X.here hx rfl (hb hby hd) rfl (flt h).1 kt) (kf h)
theorem g_if_lt (X : Stand p l e R s m args below meth c T locs cells slots) (hx : p.tables.exec = Jvm.exec) (hby : c.code = bytes) {x : Int32} {o : Int} (hd : decode bytes pc = .ok (.ifCond .lt o, 3)) (q r : Nat) (ho : 0 ≤ (pc : Int) + o) (hq : ((pc : Int) + o).toNat = q) (hr : pc + 3 = r) (kt : x < 0 → Goes p e below K (T.setTop (mkF m q Ls rest))) (kf : ¬ (x < 0) → Goes p e below K (T.setTop (mkF m r Ls rest))) : Goes p e below K (T.setTop (mkF m pc Ls (.int x :: rest))) := by
  subst hr
  by_cases h : x < 0
  · exact Goes.of (fun t kt => XS.ifYes X.here hx rfl rfl (hb hby hd) rfl ((if0 _ _).trans (tlt h).1) ho hq kt) (kt h)
  · exact Goes.of (fun t kt => XS.ifNo X.here hx rfl (hb hby hd) rfl ((if0 _ _).trans (flt h).1) kt) (kf h)
theorem g_lcmp_lt (X : Stand p l e R s m args below meth c T locs cells slots) (hx : p.tables.exec = Jvm.exec) (hby : c.code = bytes) {x y : Int64} {o : Int} {pc2 : Nat} (hd : decode bytes pc = .ok (.lcmp, 1)) (hd2 : decode bytes pc2 = .ok (.ifCond .lt o, 3)) (q r : Nat) (h2 : pc + 1 = pc2) (ho : 0 ≤ (pc2 : Int) + o) (hq : ((pc2 : Int) + o).toNat = q) (hr : pc2 + 3 = r) (kt : x < y → Goes p e below K (T.setTop (mkF m q Ls rest))) (kf : ¬ (x < y) → Goes p e below K (T.setTop (mkF m r Ls rest))) : Goes p e below K (T.setTop (mkF m pc Ls (.long y :: .long x :: rest))) := by
  subst h2
  refine Goes.of (fun t kt => XS.lcmp X.here hx rfl (hb hby hd) rfl kt) ?_
  exact g_if_lt X hx hby hd2 q r ho hq hr (fun h => kt ((lw_lt x y).mp h)) (fun h => kf fun h' => h ((lw_lt x y).mpr h'))
theorem g_icmp_ge (X : Stand p l e R s m args below meth c T locs cells slots) (hx : p.tables.exec = Jvm.exec) (hby : c.code = bytes) {x y : Int32} {o : Int} (hd : decode bytes pc = .ok (.if_icmp .ge o, 3)) (q r : Nat) (ho : 0 ≤ (pc : Int) + o) (hq : ((pc : Int) + o).toNat = q) (hr : pc + 3 = r) (kt : x < y → Goes p e below K (T.setTop (mkF m r Ls rest))) (kf : ¬ (x < y) → Goes p e below K (T.setTop (mkF m q Ls rest))) : Goes p e below K (T.setTop (mkF m pc Ls (.int y :: .int x :: rest))) := by
  subst hr
  by_cases h : x < y
  · exact Goes.of (fun t kt => XS.icmpNo X.here hx rfl (hb hby hd) rfl (tlt h).2.1 kt) (kt h)
  · exact Goes.of (fun t kt => XS.icmpYes X.here hx rfl rfl (hb hby hd) rfl (flt h).2.1 ho hq kt) (kf h)
theorem g_if_ge (X : Stand p l e R s m args below meth c T locs cells slots) (hx : p.tables.exec = Jvm.exec) (hby : c.code = bytes) {x : Int32} {o : Int} (hd : decode bytes pc = .ok (.ifCond .ge o, 3)) (q r : Nat) (ho : 0 ≤ (pc : Int) + o) (hq : ((pc : Int) + o).toNat = q) (hr : pc + 3 = r) (kt : x < 0 → Goes p e below K (T.setTop (mkF m r Ls rest))) (kf : ¬ (x < 0) → Goes p e below K (T.setTop (mkF m q Ls rest))) : Goes p e below K (T.setTop (mkF m pc Ls (.int x :: rest))) := by
  subst hr
  by_cases h : x < 0
  · exact Goes.of (fun t kt => XS.ifNo X.here hx rfl (hb hby hd) rfl ((if0 _ _).trans (tlt h).2.1) kt) (kt h)
  · exact Goes.of (fun t kt => XS.ifYes X.here hx rfl rfl (hb hby hd) rfl ((if0 _ _).trans (flt h).2.1) ho hq kt) (kf h)
theorem g_lcmp_ge (X : Stand p l e R s m args below meth c T locs cells slots) (hx : p.tables.exec = Jvm.exec) (hby : c.code = bytes) {x y : Int64} {o : Int} {pc2 : Nat} (hd : decode bytes pc = .ok (.lcmp, 1)) (hd2 : decode bytes pc2 = .ok (.ifCond .ge o, 3)) (q r : Nat) (h2 : pc + 1 = pc2) (ho : 0 ≤ (pc2 : Int) + o) (hq : ((pc2 : Int) + o).toNat = q) (hr : pc2 + 3 = r) (kt : x < y → Goes p e below K (T.setTop (mkF m r Ls rest))) (kf : ¬ (x < y) → Goes p e below K (T.setTop (mkF m q Ls rest))) : Goes p e below K (T.setTop (mkF m pc Ls (.long y :: .long x :: rest))) := by
  subst h2
  refine Goes.of (fun t kt => XS.lcmp X.here hx rfl (hb hby hd) rfl kt) ?_
  exact g_if_ge X hx hby hd2 q r ho hq hr (fun h => kt ((lw_lt x y).mp h)) (fun h => kf fun h' => h ((lw_lt x y).mpr h'))
theorem g_icmp_gt (X : Stand p l e R s m args below meth c T locs cells slots) (hx : p.tables.exec = Jvm.exec) (hby : c.code = bytes) {x y : Int32} {o : Int} (hd : decode bytes pc = .ok (.if_icmp .gt o, 3)) (q r : Nat) (ho : 0 ≤ (pc : Int) + o) (hq : ((pc : Int) + o).toNat = q) (hr : pc + 3 = r) (kt : y < x → Goes p e below K (T.setTop (mkF m q Ls rest))) (kf : ¬ (y < x) → Goes p e below K (T.setTop (mkF m r Ls rest))) : Goes p e below K (T.setTop (mkF m pc Ls (.int y :: .int x :: rest))) := by
  subst hr
  by_cases h : y < x
  · exact Goes.of (fun t kt => XS.icmpYes X.here hx rfl rfl (hb hby hd) rfl (tlt h).2.2.1 ho hq kt) (kt h)
  · exact Goes.of (fun t kt => XS.icmpNo X.here hx rfl (hb hby hd) rfl (flt h).2.2.1 kt) (kf h)
theorem g_if_gt (X : Stand p l e R s m args below meth c T locs cells slots) (hx : p.tables.exec = Jvm.exec) (hby : c.code = bytes) {x : Int32} {o : Int} (hd : decode bytes pc = .ok (.ifCond .gt o, 3)) (q r : Nat) (ho : 0 ≤ (pc : Int) + o) (hq : ((pc : Int) + o).toNat = q) (hr : pc + 3 = r) (kt : 0 < x → Goes p e below K (T.setTop (mkF m q Ls rest))) (kf : ¬ (0 < x) → Goes p e below K (T.setTop (mkF m r Ls rest))) : Goes p e below K (T.setTop (mkF m pc Ls (.int x :: rest))) := by
  subst hr
  by_cases h : 0 < x
  · exact Goes.of (fun t kt => XS.ifYes X.here hx rfl rfl (hb hby hd) rfl ((if0 _ _).trans (tlt h).2.2.1) ho hq kt) (kt h)
  · exact Goes.of (fun t kt => XS.ifNo X.here hx rfl (hb hby hd) rfl ((if0 _ _).trans (flt h).2.2.1) kt) (kf h)
theorem g_lcmp_gt (X : Stand p l e R s m args below meth c T locs cells slots) (hx : p.tables.exec = Jvm.exec) (hby : c.code = bytes) {x y : Int64} {o : Int} {pc2 : Nat} (hd : decode bytes pc = .ok (.lcmp, 1)) (hd2 : decode bytes pc2 = .ok (.ifCond .gt o, 3)) (q r : Nat) (h2 : pc + 1 = pc2) (ho : 0 ≤ (pc2 : Int) + o) (hq : ((pc2 : Int) + o).toNat = q) (hr : pc2 + 3 = r) (kt : y < x → Goes p e below K (T.setTop (mkF m q Ls rest))) (kf : ¬ (y < x) → Goes p e below K (T.setTop (mkF m r Ls rest))) : Goes p e below K (T.setTop (mkF m pc Ls (.long y :: .long x :: rest))) := by
  subst h2
  refine Goes.of (fun t kt => XS.lcmp X.here hx rfl (hb hby hd) rfl kt) ?_
  exact g_if_gt X hx hby hd2 q r ho hq hr (fun h => kt ((lw_gt x y).mp h)) (fun h => kf fun h' => h ((lw_gt x y).mpr h'))
theorem g_icmp_le (X : Stand p l e R s m args below meth c T locs cells slots) (hx : p.tables.exec = Jvm.exec) (hby : c.code = bytes) {x y : Int32} {o : Int} (hd : decode bytes pc = .ok (.if_icmp .le o, 3)) (q r : Nat) (ho : 0 ≤ (pc : Int) + o) (hq : ((pc : Int) + o).toNat = q) (hr : pc + 3 = r) (kt : y < x → Goes p e below K (T.setTop (mkF m r Ls rest))) (kf : ¬ (y < x) → Goes p e below K (T.setTop (mkF m q Ls rest))) : Goes p e below K (T.setTop (mkF m pc Ls (.int y :: .int x :: rest))) := by
  subst hr
  by_cases h : y < x
  · exact Goes.of (fun t kt => XS.icmpNo X.here hx rfl (hb hby hd) rfl (tlt h).2.2.2 kt) (kt h)
  · exact Goes.of (fun t kt => XS.icmpYes X.here hx rfl rfl (hb hby hd) rfl (flt h).2.2.2 ho hq kt) (kf h)
theorem g_if_le (X : Stand p l e R s m args below meth c T locs cells slots) (hx : p.tables.exec = Jvm.exec) (hby : c.code = bytes) {x : Int32} {o : Int} (hd : decode bytes pc = .ok (.ifCond .le o, 3)) (q r : Nat) (ho : 0 ≤ (pc : Int) + o) (hq : ((pc : Int) + o).toNat = q) (hr : pc + 3 = r) (kt : 0 < x → Goes p e below K (T.setTop (mkF m r Ls rest))) (kf : ¬ (0 < x) → Goes p e below K (T.setTop (mkF m q Ls rest))) : Goes p e below K (T.setTop (mkF m pc Ls (.int x :: rest))) := by
  subst hr
  by_cases h : 0 < x
  · exact Goes.of (fun t kt => XS.ifNo X.here hx rfl (hb hby hd) rfl ((if0 _ _).trans (tlt h).2.2.2) kt) (kt h)
  · exact Goes.of (fun t kt => XS.ifYes X.here hx rfl rfl (hb hby hd) rfl ((if0 _ _).trans (flt h).2.2.2) ho hq kt) (kf h)
theorem g_lcmp_le (X : Stand p l e R s m args below meth c T locs cells slots) (hx : p.tables.exec = Jvm.exec) (hby : c.code = bytes) {x y : Int64} {o : Int} {pc2 : Nat} (hd : decode bytes pc = .ok (.lcmp, 1)) (hd2 : decode bytes pc2 = .ok (.ifCond .le o, 3)) (q r : Nat) (h2 : pc + 1 = pc2) (ho : 0 ≤ (pc2 : Int) + o) (hq : ((pc2 : Int) + o).toNat = q) (hr : pc2 + 3 = r) (kt : y < x → Goes p e below K (T.setTop (mkF m r Ls rest))) (kf : ¬ (y < x) → Goes p e below K (T.setTop (mkF m q Ls rest))) : Goes p e below K (T.setTop (mkF m pc Ls (.long y :: .long x :: rest))) := by
  subst h2
  refine Goes.of (fun t kt => XS.lcmp X.here hx rfl (hb hby hd) rfl kt) ?_
  exact g_if_le X hx hby hd2 q r ho hq hr (fun h => kt ((lw_gt x y).mp h)) (fun h => kf fun h' => h ((lw_gt x y).mpr h'))
theorem g_ifnull_yes (X : Stand p l e R s m args below meth c T locs cells slots) (hx : p.tables.exec = Jvm.exec) (hby : c.code = bytes) {o : Int} (hd : decode bytes pc = .ok (.ifnull o, 3)) (q : Nat) (ho : 0 ≤ (pc : Int) + o) (hq : ((pc : Int) + o).toNat = q) (k : Goes p e below K (T.setTop (mkF m q Ls rest))) : Goes p e below K (T.setTop (mkF m pc Ls (.null :: rest))) :=
  Goes.of (fun t kt => XS.ifnullYes X.here hx rfl rfl (hb hby hd) rfl ho hq kt) k
theorem g_ifnull_no (X : Stand p l e R s m args below meth c T locs cells slots) (hx : p.tables.exec = Jvm.exec) (hby : c.code = bytes) {a : Addr} {o : Int} (hd : decode bytes pc = .ok (.ifnull o, 3)) (q : Nat) (hq : pc + 3 = q) (k : Goes p e below K (T.setTop (mkF m q Ls rest))) : Goes p e below K (T.setTop (mkF m pc Ls (.ref a :: rest))) := by
  subst hq; exact Goes.of (fun t kt => XS.ifnullNo X.here hx rfl (hb hby hd) rfl kt) k
theorem g_ifnonnull_yes (X : Stand p l e R s m args below meth c T locs cells slots) (hx : p.tables.exec = Jvm.exec) (hby : c.code = bytes) {a : Addr} {o : Int} (hd : decode bytes pc = .ok (.ifnonnull o, 3)) (q : Nat) (ho : 0 ≤ (pc : Int) + o) (hq : ((pc : Int) + o).toNat = q) (k : Goes p e below K (T.setTop (mkF m q Ls rest))) : Goes p e below K (T.setTop (mkF m pc Ls (.ref a :: rest))) :=
  Goes.of (fun t kt => XS.ifnonnullYes X.here hx rfl rfl (hb hby hd) rfl ho hq kt) k
theorem g_ifnonnull_no (X : Stand p l e R s m args below meth c T locs cells slots) (hx : p.tables.exec = Jvm.exec) (hby : c.code = bytes) {o : Int} (hd : decode bytes pc = .ok (.ifnonnull o, 3)) (q : Nat) (hq : pc + 3 = q) (k : Goes p e below K (T.setTop (mkF m q Ls rest))) : Goes p e below K (T.setTop (mkF m pc Ls (.null :: rest))) := by
  subst hq; exact Goes.of (fun t kt => XS.ifnonnullNo X.here hx rfl (hb hby hd) rfl kt) k
theorem g_acmp (X : Stand p l e R s m args below meth c T locs cells slots) (hx : p.tables.exec = Jvm.exec) (hby : c.code = bytes) {cd : ACond} {x y : Value} {o : Int} (hd : decode bytes pc = .ok (.if_acmp cd o, 3)) (h1 : x.isRef = true) (h2 : y.isRef = true) (same : Bool) (hs : decide (x = y) = same) (q : Nat) (ho : 0 ≤ (pc : Int) + o) (hq : q = if acV cd same = true then ((pc : Int) + o).toNat else pc + 3) (k : Goes p e below K (T.setTop (mkF m q Ls rest))) : Goes p e below K (T.setTop (mkF m pc Ls (y :: x :: rest))) :=
  Goes.of (fun t kt => Jvm.RoadKit.acmp X hx rfl h1 h2 rfl (hb hby hd) rfl hs ho hq kt) k
theorem g_ldc (X : Stand p l e R s m args below meth c T locs cells slots) (hx : p.tables.exec = Jvm.exec) (hby : c.code = bytes) {Z : State} {a0 : Array Value} (hZ : Z.Warmed39 s.vm) {own : String} {index : Nat} {v : Int32} (hown : s.vm.findClass own = some m.cls) (w : (Jvm.Cond.constant own index v).before a0 Z = true) (hd : decode bytes pc = .ok (.ldc index, 2)) (q : Nat) (hq : pc + 2 = q) (k : Goes p e below K (T.setTop (mkF m q Ls (.int v :: rest)))) : Goes p e below K (T.setTop (mkF m pc Ls rest)) := by
  subst hq; exact Goes.of (fun t kt => X.ldcInt hx hown (mvT hZ w) (g := mkF m pc Ls rest) rfl (hb hby hd) t kt) k
theorem g_ldc_w (X : Stand p l e R s m args below meth c T locs cells slots) (hx : p.tables.exec = Jvm.exec) (hby : c.code = bytes) {Z : State} {a0 : Array Value} (hZ : Z.Warmed39 s.vm) {own : String} {index : Nat} {v : Int32} (hown : s.vm.findClass own = some m.cls) (w : (Jvm.Cond.constant own index v).before a0 Z = true) (hd : decode bytes pc = .ok (.ldc_w index, 3)) (q : Nat) (hq : pc + 3 = q) (k : Goes p e below K (T.setTop (mkF m q Ls (.int v :: rest)))) : Goes p e below K (T.setTop (mkF m pc Ls rest)) := by
  subst hq; exact Goes.of (fun t kt => X.ldcwInt hx hown (mvT hZ w) (g := mkF m pc Ls rest) rfl (hb hby hd) t kt) k
theorem g_ldc2 (X : Stand p l e R s m args below meth c T locs cells slots) (hx : p.tables.exec = Jvm.exec) (hby : c.code = bytes) {Z : State} {a0 : Array Value} (hZ : Z.Warmed39 s.vm) {own : String} {index : Nat} {v : Int64} (hown : s.vm.findClass own = some m.cls) (w : (Jvm.Cond.constantLong own index v).before a0 Z = true) (hd : decode bytes pc = .ok (.ldc2_w index, 3)) (q : Nat) (hq : pc + 3 = q) (k : Goes p e below K (T.setTop (mkF m q Ls (.long v :: rest)))) : Goes p e below K (T.setTop (mkF m pc Ls rest)) := by
  subst hq; exact Goes.of (fun t kt => X.ldc2Long hx hown (mvT hZ w) (g := mkF m pc Ls rest) rfl (hb hby hd) t kt) k
theorem g_leave (X : Stand p l e R s m args below meth c T locs cells slots) {Q : Option Value → Heap → List Loc → Prop} {C S : Nat} {v : Option Value} (hv : meth.sig.returnType = none → v = none) (hlk : meth.locks = false) (hQ : Q v T.heap locs) (hc : cells ≤ C) (hs : slots ≤ S) {F : State}
    (st : ∀ fs : List Frame, (∀ (f : JFrame) (acts : List Action), f.method = m → f.locked = none → f.entered = [] → (doReturn e (T.setTop f) acts v).1 = T.setFrames fs) → Steps p.tables e below F (T.setFrames fs)) : Goes p e below (Kend s below Q C S) F := by
  obtain ⟨fs, hr, hrun, hended, hW, hsame⟩ := X.leave (v := v) hv hlk
  exact ⟨_, st fs hr, _, hrun, hended, v, locs, rfl, hQ, ⟨_, rfl⟩, hW, hsame.mono hc hs⟩
theorem g_ireturn (X : Stand p l e R s m args below meth c T locs cells slots) (hx : p.tables.exec = Jvm.exec) (hby : c.code = bytes) {Q : Option Value → Heap → List Loc → Prop} {C S : Nat} {z : Int32} {t : FieldType} (hret : meth.sig.returnType = some t) (hlk : meth.locks = false) (ht : t = .int ∨ t = .boolean ∨ t = .byte ∨ t = .char ∨ t = .short) (hn : narrow t (.int z) = .int z) (hd : decode bytes pc = .ok (.ireturn, 1)) (hQ : Q (some (.int z)) T.heap locs) (hc : cells ≤ C) (hs : slots ≤ S) : Goes p e below (Kend s below Q C S) (T.setTop (mkF m pc Ls (.int z :: rest))) :=
  g_leave X (v := some (.int z)) (fun h => by rw [hret] at h; cases h) hlk hQ hc hs fun fs hr => retOut X hx hret hn (Or.inl ⟨rfl, ht, z, rfl⟩) (hb hby hd) hr
theorem g_lreturn (X : Stand p l e R s m args below meth c T locs cells slots) (hx : p.tables.exec = Jvm.exec) (hby : c.code = bytes) {Q : Option Value → Heap → List Loc → Prop} {C S : Nat} {z : Int64} (hret : meth.sig.returnType = some .long) (hlk : meth.locks = false) (hd : decode bytes pc = .ok (.lreturn, 1)) (hQ : Q (some (.long z)) T.heap locs) (hc : cells ≤ C) (hs : slots ≤ S) : Goes p e below (Kend s below Q C S) (T.setTop (mkF m pc Ls (.long z :: rest))) :=
  g_leave X (v := some (.long z)) (fun h => by rw [hret] at h; cases h) hlk hQ hc hs fun fs hr => retOut X hx hret rfl (Or.inr (Or.inl ⟨rfl, rfl, z, rfl⟩)) (hb hby hd) hr
theorem g_areturn (X : Stand p l e R s m args below meth c T locs cells slots) (hx : p.tables.exec = Jvm.exec) (hby : c.code = bytes) {Q : Option Value → Heap → List Loc → Prop} {C S : Nat} {w : Value} {t : FieldType} (hret : meth.sig.returnType = some t) (hlk : meth.locks = false) (ht : t.isReference = true) (hw : w.isRef = true) (hn : narrow t w = w) (hd : decode bytes pc = .ok (.areturn, 1)) (hQ : Q (some w) T.heap locs) (hc : cells ≤ C) (hs : slots ≤ S) : Goes p e below (Kend s below Q C S) (T.setTop (mkF m pc Ls (w :: rest))) :=
  g_leave X (v := some w) (fun h => by rw [hret] at h; cases h) hlk hQ hc hs fun fs hr => retOut X hx hret hn (Or.inr (Or.inr (Or.inr (Or.inr ⟨rfl, ht, hw⟩)))) (hb hby hd) hr
theorem g_return (X : Stand p l e R s m args below meth c T locs cells slots) (hx : p.tables.exec = Jvm.exec) (hby : c.code = bytes) {Q : Option Value → Heap → List Loc → Prop} {C S : Nat} (hret : meth.sig.returnType = none) (hlk : meth.locks = false) (hd : decode bytes pc = .ok (.return_, 1)) (hQ : Q none T.heap locs) (hc : cells ≤ C) (hs : slots ≤ S) : Goes p e below (Kend s below Q C S) (T.setTop (mkF m pc Ls [])) :=
  g_leave X (v := none) (fun _ => rfl) hlk hQ hc hs fun fs hr => X.returnOut hx hret (hb hby hd) hr
theorem nar_bool {z : Int32} (h : z = 0 ∨ z = 1) : narrow .boolean (.int z) = .int z := by rcases h with rfl | rfl <;> rfl
theorem g_callS (X : Stand p l e R s m args below meth c T locs cells slots) (hx : p.tables.exec = Jvm.exec) (hby : c.code = bytes) {Z : State} {a0 : Array Value} (hZ : Z.Warmed39 s.vm) {own : String} {index : Nat} {y : MethodName} {cb : ByteArray} {maxL : Nat} {ret : Option FieldType} {rm : Room} {Q : Option Value → Heap → List Loc → Prop} {h : Heap} (hown : s.vm.findClass own = some m.cls) (w1 : (Jvm.Cond.methodLink own index y).before a0 Z = true) (w2 : (Jvm.Cond.static y).before a0 Z = true) (w3 : (Jvm.Cond.initialized y.cls).before a0 Z = true) (w4 : (Jvm.Cond.code y cb maxL ret).before a0 Z = true)
    (hd : decode bytes pc = .ok (.invokestatic index, 3)) (argsL rest : List Value) {st : List Value} (hM : Ctr l y cb maxL ret [] rm argsL.toArray Z h Q) (eT : T.heap = h) (hst : st = argsL.reverse ++ rest) (hsz : Ls.size = c.maxLocals) {ps : List FieldType} {rt : Option FieldType} (hpd : parseMethodDescriptor y.desc = some ⟨ps, rt⟩) (hlen : argsL.length = ps.length)
    (hy : y.cls ≠ "java/lang/invoke/MethodHandle" ∧ y.cls ≠ "java/lang/invoke/VarHandle") (W : Nat) (hW : (rest.map fun v => v.category).sum ≤ W) (hf : rm.frames + 1 ≤ R.frames) (hl : W + (maxL + 11) + rm.locals ≤ R.locals) (hc : cells + rm.cells ≤ R.cells) (hs : slots + rm.slots ≤ R.slots) (q : Nat) (hq : pc + 3 = q)
    (k : ∀ (T' : State) (v : Option Value) (L : List Loc), Stand p l e R s m args below meth c T' (locs ++ L) (cells + rm.cells) (slots + rm.slots) → Q v T'.heap L → Goes p e below K (T'.setTop (mkF m q Ls (v.toList ++ rest)))) : Goes p e below K (T.setTop (mkF m pc Ls st)) := by
  subst hq hst
  obtain ⟨v, _, ⟨T', L', k', n'⟩, -, X', ⟨Lc, hQ, l1, y1, z1⟩, st⟩ := Jvm.LawKit.callS X hx hown (mvT hZ w1) (mvT hZ w2) (mvT hZ w3) (mvT hZ w4) hy (backOf (W := W) hM hZ w4 w3 hf hl) (g := mkF m pc Ls (argsL.reverse ++ rest)) rfl hsz (argsL := argsL) (rest := rest) (lenOf hpd hlen) rfl (by show 2 * 0 + _ ≤ _; omega) (hb hby hd) (fun _ _ => ⟨rfl, eT, hc, hs⟩)
  dsimp only [Pt.U, Pt.locs, Pt.cells, Pt.slots] at X' l1 y1 z1 st hQ
  subst l1 y1 z1
  exact Goes.of st (k _ _ _ X' hQ)
theorem g_special (X : Stand p l e R s m args below meth c T locs cells slots) (hx : p.tables.exec = Jvm.exec) (hby : c.code = bytes) {Z : State} {a0 : Array Value} (hZ : Z.Warmed39 s.vm) {own : String} {index : Nat} {y : MethodName} {cb : ByteArray} {maxL : Nat} {rm : Room} {Q : Option Value → Heap → List Loc → Prop} {h : Heap} (hown : s.vm.findClass own = some m.cls) (hy1 : y.name = "<init>") (w1 : (Jvm.Cond.methodLink own index y).before a0 Z = true) (w2 : (Jvm.Cond.instanceMethod y).before a0 Z = true) (w3 : (Jvm.Cond.initialized y.cls).before a0 Z = true) (w4 : (Jvm.Cond.code y cb maxL none).before a0 Z = true)
    (hd : decode bytes pc = .ok (.invokespecial index, 3)) (a : Addr) (argsL rest : List Value) {st : List Value} (hM : Ctr l y cb maxL none [] rm (.ref a :: argsL).toArray Z h Q) (eT : T.heap = h) (hst : st = argsL.reverse ++ .ref a :: rest) (hsz : Ls.size = c.maxLocals) {ps : List FieldType} {rt : Option FieldType} (hpd : parseMethodDescriptor y.desc = some ⟨ps, rt⟩) (hlen : argsL.length = ps.length)
    (hy : y.cls ≠ "java/lang/invoke/MethodHandle" ∧ y.cls ≠ "java/lang/invoke/VarHandle") (W : Nat) (hW : (rest.map fun v => v.category).sum ≤ W) (hf : rm.frames + 1 ≤ R.frames) (hl : W + (maxL + 11) + rm.locals ≤ R.locals) (hc : cells + rm.cells ≤ R.cells) (hs : slots + rm.slots ≤ R.slots) (q : Nat) (hq : pc + 3 = q)
    (k : ∀ (T' : State) (v : Option Value) (L : List Loc), Stand p l e R s m args below meth c T' (locs ++ L) (cells + rm.cells) (slots + rm.slots) → Q v T'.heap L → Goes p e below K (T'.setTop (mkF m q Ls (v.toList ++ rest)))) : Goes p e below K (T.setTop (mkF m pc Ls st)) := by
  subst hq hst
  obtain ⟨v, _, ⟨T', L', k', n'⟩, -, X', ⟨Lc, hQ, l1, y1, z1⟩, st⟩ := X.specialBack hx hy1 hown (mvT hZ w1) (mvT hZ w2) (mvT hZ w4) hy (backOf (W := W) hM hZ w4 w3 hf hl) (g := mkF m pc Ls (argsL.reverse ++ .ref a :: rest)) rfl hsz (Steps.refl _) (a := a) (argsL := argsL) (rest := rest) (lenOf hpd hlen) rfl (by show 2 * 0 + _ ≤ _; omega) (hb hby hd) (fun _ _ => ⟨rfl, eT, hc, hs⟩)
  dsimp only [Pt.U, Pt.locs, Pt.cells, Pt.slots] at X' l1 y1 z1 st hQ
  subst l1 y1 z1
  exact Goes.of (fun t kt => st.trans kt) (k _ _ _ X' hQ)
theorem g_virtual (X : Stand p l e R s m args below meth c T locs cells slots) (hx : p.tables.exec = Jvm.exec) (hby : c.code = bytes) {Z : State} {a0 : Array Value} (hZ : Z.Warmed39 s.vm) {own : String} {index : Nat} {y : MethodName} {cb : ByteArray} {maxL : Nat} {ret : Option FieldType} {rm : Room} {Q : Option Value → Heap → List Loc → Prop} {h : Heap} {z : MethodName} {C : String} (hown : s.vm.findClass own = some m.cls) (w1 : (Jvm.Cond.methodLink own index y).before a0 Z = true) (w2 : (Jvm.Cond.declares y).before a0 Z = true) (nf : NotFace s y) (w5 : (Jvm.Cond.selects C y z).before a0 Z = true) (w6 : (Jvm.Cond.instanceMethod z).before a0 Z = true) (w3 : (Jvm.Cond.initialized z.cls).before a0 Z = true) (w4 : (Jvm.Cond.code z cb maxL ret).before a0 Z = true)
    (hd : decode bytes pc = .ok (.invokevirtual index, 3)) (a : Addr) (E : Exa Z h a C) (argsL rest : List Value) {st : List Value} (hM : Ctr l z cb maxL ret [] rm (.ref a :: argsL).toArray Z h Q) (eT : T.heap = h) (hst : st = argsL.reverse ++ .ref a :: rest) (hsz : Ls.size = c.maxLocals) {ps : List FieldType} {rt : Option FieldType} (hpd : parseMethodDescriptor y.desc = some ⟨ps, rt⟩) (hlen : argsL.length = ps.length)
    (hy : y.cls ≠ "java/lang/invoke/MethodHandle" ∧ y.cls ≠ "java/lang/invoke/VarHandle") (W : Nat) (hW : (rest.map fun v => v.category).sum ≤ W) (hf : rm.frames + 1 ≤ R.frames) (hl : W + (maxL + 11) + rm.locals ≤ R.locals) (hc : cells + rm.cells ≤ R.cells) (hs : slots + rm.slots ≤ R.slots) (q : Nat) (hq : pc + 3 = q)
    (k : ∀ (T' : State) (v : Option Value) (L : List Loc), Stand p l e R s m args below meth c T' (locs ++ L) (cells + rm.cells) (slots + rm.slots) → Q v T'.heap L → Goes p e below K (T'.setTop (mkF m q Ls (v.toList ++ rest)))) : Goes p e below K (T.setTop (mkF m pc Ls st)) := by
  subst hq hst
  obtain ⟨cq, kq, qa, qb, qc⟩ := isOf hZ eT E
  obtain ⟨v, _, ⟨T', L', k', n'⟩, -, X', ⟨Lc, hQ, l1, y1, z1⟩, st⟩ := X.virtualBack hx (y := y) (z := z) hown (mvT hZ w1) (mvT hZ w2) nf (mvT hZ w5) (mvT hZ w6) hy (backOf (W := W) hM hZ w4 w3 hf hl) qa qc (g := mkF m pc Ls (argsL.reverse ++ .ref a :: rest)) rfl hsz (Steps.refl _) (argsL := argsL) (rest := rest) (lenOf hpd hlen) rfl (by show 2 * 0 + _ ≤ _; omega) (hb hby hd) (fun _ _ => ⟨rfl, eT, hc, hs⟩)
  dsimp only [Pt.U, Pt.locs, Pt.cells, Pt.slots] at X' l1 y1 z1 st hQ
  subst l1 y1 z1
  exact Goes.of (fun t kt => st.trans kt) (k _ _ _ X' hQ)
theorem g_initO (X : Stand p l e R s m args below meth c T locs cells slots) (hx : p.tables.exec = Jvm.exec) (hby : c.code = bytes) {Z : State} {a0 : Array Value} (hZ : Z.Warmed39 s.vm) {own : String} {index : Nat} {h : Heap} {a : Addr} (hown : s.vm.findClass own = some m.cls) (w1 : (Jvm.Cond.methodLink own index Lib.objectInit).before a0 Z = true) (w2 : (Jvm.Cond.instanceMethod Lib.objectInit).before a0 Z = true) (w3 : (Jvm.Cond.code Lib.objectInit ⟨#[0xb1]⟩ 1 none).before a0 Z = true)
    (hd : decode bytes pc = .ok (.invokespecial index, 3)) (eT : T.heap = h) (hsz : Ls.size = c.maxLocals) (W : Nat) (hW : (rest.map fun v => v.category).sum ≤ W) (hf : 1 ≤ R.frames) (hl : W + 12 ≤ R.locals) (q : Nat) (hq : pc + 3 = q)
    (k : ∀ T' : State, Stand p l e R s m args below meth c T' locs cells slots → T'.heap = h → Goes p e below K (T'.setTop (mkF m q Ls rest))) : Goes p e below K (T.setTop (mkF m pc Ls (.ref a :: rest))) := by
  subst hq
  obtain ⟨T', X', e', st⟩ := initO X hx hZ hown w1 w2 w3 eT (g := mkF m pc Ls (.ref a :: rest)) rfl hsz rfl (hb hby hd) hf (W := W) (by show 2 * 0 + _ ≤ _; omega) hl
  exact Goes.of st (k _ X' e')
theorem g_getfield (X : Stand p l e R s m args below meth c T locs cells slots) (hx : p.tables.exec = Jvm.exec) (hby : c.code = bytes) {Z : State} {a0 : Array Value} (hZ : Z.Warmed39 s.vm) {own R0 O n d host : String} {index : Nat} {h : Heap} {a : Addr} {v : Value} (hown : s.vm.findClass own = some m.cls) (w : (Jvm.Cond.fieldLink own index R0 n d).before a0 Z = true ∨ (Jvm.Cond.fieldLinkNest own index R0 n d host).before a0 Z = true) (via : Via Z R0 O n d) (eT : T.heap = h) (F : Fld Z h a O n d v)
    (hd : decode bytes pc = .ok (.getfield index, 3)) (q : Nat) (hq : pc + 3 = q) (k : ∀ T' : State, Stand p l e R s m args below meth c T' locs cells slots → T'.heap = h → Goes p e below K (T'.setTop (mkF m q Ls (v :: rest)))) : Goes p e below K (T.setTop (mkF m pc Ls (.ref a :: rest))) := by
  subst hq
  obtain ⟨T', X', e', st⟩ := getF X hx hZ hown w via eT F (g := mkF m pc Ls (.ref a :: rest)) rfl rfl (hb hby hd)
  exact Goes.of st (k _ X' e')
theorem g_putfield (X : Stand p l e R s m args below meth c T locs cells slots) (hx : p.tables.exec = Jvm.exec) (hby : c.code = bytes) {Z : State} {a0 : Array Value} (hZ : Z.Warmed39 s.vm) {own R0 O n d host C : String} {index kk : Nat} {ty : FieldType} {h : Heap} {a : Addr} {v old : Value} (hown : s.vm.findClass own = some m.cls) (w : (Jvm.Cond.fieldLink own index R0 n d).before a0 Z = true ∨ (Jvm.Cond.fieldLinkNest own index R0 n d host).before a0 Z = true) (via : Via Z R0 O n d) (eT : T.heap = h) (F : Fld Z h a O n d old) (E : Exa Z h a C)
    (L : (Jvm.Cond.lays C O n d).before a0 Z = true ∨ ((Jvm.Cond.laysFinal C O n d).before a0 Z = true ∧ own = O ∧ meth.name = "<init>")) (wi : (Jvm.Cond.instantiable C kk).before a0 Z = true) (hty : parseFieldDescriptor d = some ty) (hn : narrow ty v = v) (hf : fits ty v = true) (hd : decode bytes pc = .ok (.putfield index, 3)) (q : Nat) (hq : pc + 3 = q)
    (k : ∀ (T' : State) (h' : Heap), Stand p l e R s m args below meth c T' (locs ++ [⟨a, Jvm.RoadKit.slotOf Z O n d⟩]) cells slots → T'.heap = h' → Wr h h' a (Jvm.RoadKit.slotOf Z O n d) v → Goes p e below K (T'.setTop (mkF m q Ls rest))) : Goes p e below K (T.setTop (mkF m pc Ls (v :: .ref a :: rest))) := by
  subst hq
  obtain ⟨T', h', X', e', W', st⟩ := putF X hx hZ hown w via eT F E L wi hty hn hf (g := mkF m pc Ls (v :: .ref a :: rest)) rfl rfl (hb hby hd)
  exact Goes.of st (k _ _ X' e' W')
theorem g_new (X : Stand p l e R s m args below meth c T locs cells slots) (hx : p.tables.exec = Jvm.exec) (hby : c.code = bytes) {Z : State} {a0 : Array Value} (hZ : Z.Warmed39 s.vm) {own C : String} {index n : Nat} {h : Heap} (hown : s.vm.findClass own = some m.cls) (w : (Jvm.Cond.classLink own index C).before a0 Z = true) (wi : (Jvm.Cond.instantiable C n).before a0 Z = true) (wz : (Jvm.Cond.initialized C).before a0 Z = true) (eT : T.heap = h) (hd : decode bytes pc = .ok (.new index, 3)) (hc : cells + 1 ≤ R.cells) (hl : slots + n ≤ R.slots) (q : Nat) (hq : pc + 3 = q)
    (k : ∀ (T' : State) (h' : Heap) (a : Addr), a = h.size → Stand p l e R s m args below meth c T' locs (cells + 1) (slots + n) → T'.heap = h' → Ext h h' → Exa Z h' a C → (∀ {O nm d : String} {ty : FieldType}, Laid Z a0 C O nm d → parseFieldDescriptor d = some ty → Fld Z h' a O nm d (defaultValue ty)) → Goes p e below K (T'.setTop (mkF m q Ls (.ref a :: rest)))) : Goes p e below K (T.setTop (mkF m pc Ls rest)) := by
  subst hq
  obtain ⟨T', h', X', e', E', A', D', -, st⟩ := newO X hx hZ hown w wi wz eT (g := mkF m pc Ls rest) rfl (hb hby hd) hc hl
  exact Goes.of st (k _ _ _ rfl X' e' E' A' D')
def upd {α : Type} (f : Nat → α) (k : Nat) (x : α) : Nat → α := fun i => if i = k then x else f i
theorem upd_hit {α : Type} (f : Nat → α) (k : Nat) (x : α) : upd f k x k = x := if_pos rfl
theorem upd_miss {α : Type} (f : Nat → α) {k i : Nat} (x : α) (h : i ≠ k) : upd f k x i = f i := if_neg h
def ArF (Z : State) (h : Heap) (a : Addr) (ty : FieldType) (n : Nat) (f : Nat → Value) : Prop := ∃ c : Cell, Arr Z h a c ty ∧ c.slots.size = n ∧ n < 2 ^ 31 ∧ ∀ j, j < n → c.slots[j]? = some (f j)
abbrev AI (Z : State) (h : Heap) (a : Addr) (ty : FieldType) (n : Nat) (f : Nat → Int32) : Prop := ArF Z h a ty n (fun i => .int (f i))
abbrev AJ (Z : State) (h : Heap) (a : Addr) (n : Nat) (f : Nat → Int64) : Prop := ArF Z h a .long n (fun i => .long (f i))
section Arrays
variable {Z : State} {h h' : Heap} {a b : Addr} {ty : FieldType} {n : Nat} {f : Nat → Value}
theorem ArF.lt (F : ArF Z h a ty n f) : a < h.size := by obtain ⟨c, A, -⟩ := F; exact A.lt
theorem ArF.len (F : ArF Z h a ty n f) : n < 2 ^ 31 := by obtain ⟨c, -, -, q, -⟩ := F; exact q
theorem ArF.ext (F : ArF Z h a ty n f) (E : Ext h h') : ArF Z h' a ty n f := by obtain ⟨c, A, r⟩ := F; exact ⟨c, A.ext E, r⟩
theorem ArF.other {sl : Nat} {v : Value} (F : ArF Z h b ty n f) (W : Wr h h' a sl v) (q : b ≠ a) : ArF Z h' b ty n f := by obtain ⟨c, A, r⟩ := F; exact ⟨c, A.other W q, r⟩
theorem ArF.keep {ws : List Addr} (F : ArF Z h a ty n f) (K : Keep h h' ws) (q : a ∉ ws) : ArF Z h' a ty n f := by obtain ⟨c, A, r⟩ := F; exact ⟨c, ⟨K.2.1 a c A.1 q, A.2⟩, r⟩
theorem ArF.congr {g : Nat → Value} (F : ArF Z h a ty n f) (q : ∀ i, i < n → f i = g i) : ArF Z h a ty n g := by obtain ⟨c, A, r1, r2, r3⟩ := F; exact ⟨c, A, r1, r2, fun j hj => by rw [r3 j hj, q j hj]⟩
theorem ArF.fresh {k : ClassId} {z : Int32} (A : Arr Z h a (newA k ty z) ty) (q : ¬ z < 0) (e : z.toNatClampNeg = n) : ArF Z h a ty n (fun _ => defaultValue ty) := by
  subst e
  refine ⟨_, A, sz_new _ _ _, (back32 q).2, fun j hj => ?_⟩
  simp [newA, hj]
theorem ArF.set {j : Nat} {v : Value} (F : ArF Z h a ty n f) (W : Wr h h' a j v) : ArF Z h' a ty n (upd f j v) := by
  obtain ⟨c, A, r1, r2, r3⟩ := F
  refine ⟨_, A.same W, (sz_set _ _ _).trans r1, r2, fun i hi => ?_⟩
  by_cases q : i = j
  · subst q; rw [upd_hit]; simp [Cell.setSlot, r1, hi]
  · rw [upd_miss _ _ q, ← r3 i hi]
    simp only [Cell.setSlot]
    exact Array.getElem?_setIfInBounds_ne (fun y => q y.symm)
theorem AI.set {j : Nat} {x : Int32} {g : Nat → Int32} (F : AI Z h a ty n g) (W : Wr h h' a j (.int x)) : AI Z h' a ty n (upd g j x) := (ArF.set F W).congr fun i _ => by by_cases q : i = j <;> simp [upd, q]
theorem AJ.set {j : Nat} {x : Int64} {g : Nat → Int64} (F : AJ Z h a n g) (W : Wr h h' a j (.long x)) : AJ Z h' a n (upd g j x) := (ArF.set F W).congr fun i _ => by by_cases q : i = j <;> simp [upd, q]
theorem own_in {c : Cell} {j : Int32} {k : Nat} (hs : c.slots.size = n) (h0 : ¬ j < 0) (hj : j.toNatClampNeg = k) (hk : k < n) : ¬ (j < 0 ∨ c.slots.size ≤ j.toNatClampNeg) := by
  subst hs hj; exact fun y => y.elim h0 (Nat.not_le.mpr hk)
end Arrays
theorem g_newarray (X : Stand p l e R s m args below meth c T locs cells slots) (hx : p.tables.exec = Jvm.exec) (hby : c.code = bytes) {Z : State} {a0 : Array Value} (hZ : Z.Warmed39 s.vm) {aty : ArrayType} {h : Heap} {z : Int32} (w : (Jvm.Cond.arrayClass (newarray.typeOf aty)).before a0 Z = true) (eT : T.heap = h) (hd : decode bytes pc = .ok (.newarray aty, 2)) (hz : ¬ z < 0) (n : Nat) (hn : z.toNatClampNeg = n) (cap : Nat) (hcap : n ≤ cap) (hbig : cap * 8 ≤ 536870912) (hc : cells + 1 ≤ R.cells) (hl : slots + cap ≤ R.slots) (q : Nat) (hq : pc + 2 = q)
    (k : ∀ (T' : State) (h' : Heap) (a : Addr), a = h.size → Stand p l e R s m args below meth c T' locs (cells + 1) (slots + cap) → T'.heap = h' → Ext h h' → ArF Z h' a (newarray.typeOf aty) n (fun _ => defaultValue (newarray.typeOf aty)) → Goes p e below K (T'.setTop (mkF m q Ls (.ref a :: rest)))) : Goes p e below K (T.setTop (mkF m pc Ls (.int z :: rest))) := by
  subst hq
  obtain ⟨T', h', cA, X', e', E', A', st⟩ := newP X hx hZ w eT (g := mkF m pc Ls (.int z :: rest)) rfl (hb hby hd) rfl hz (cap := cap) (by rw [hn]; exact hcap) hbig hc hl
  exact Goes.of st (k _ _ _ rfl X' e' E' (ArF.fresh A' hz hn))
theorem g_arraylength (X : Stand p l e R s m args below meth c T locs cells slots) (hx : p.tables.exec = Jvm.exec) (hby : c.code = bytes) {Z : State} (hZ : Z.Warmed39 s.vm) {h : Heap} {a : Addr} {ty : FieldType} {n : Nat} {f : Nat → Value} (eT : T.heap = h) (F : ArF Z h a ty n f) (hd : decode bytes pc = .ok (.arraylength, 1)) (z : Int32) (hz : n.toInt32 = z) (q : Nat) (hq : pc + 1 = q) (k : Goes p e below K (T.setTop (mkF m q Ls (.int z :: rest)))) : Goes p e below K (T.setTop (mkF m pc Ls (.ref a :: rest))) := by
  subst hq hz
  obtain ⟨cl, A, r1, r2, r3⟩ := F
  exact Goes.of (fun t kt => X.arraylength hx (by rw [eT]; exact A.1) (State.isArrayOf_alike hZ.alike A.2.1) (g := mkF m pc Ls (.ref a :: rest)) rfl rfl (hb hby hd) t (by rw [r1]; exact kt)) k
theorem g_iaload (X : Stand p l e R s m args below meth c T locs cells slots) (hx : p.tables.exec = Jvm.exec) (hby : c.code = bytes) {Z : State} (hZ : Z.Warmed39 s.vm) {h : Heap} {a : Addr} {n : Nat} {f : Nat → Int32} {j : Int32} (eT : T.heap = h) (F : AI Z h a .int n f) (hd : decode bytes pc = .ok (.iaload, 1)) (h0 : ¬ j < 0) (i : Nat) (hj : j.toNatClampNeg = i) (hi : i < n) (x : Int32) (hfx : f i = x) (q : Nat) (hq : pc + 1 = q) (k : Goes p e below K (T.setTop (mkF m q Ls (.int x :: rest)))) : Goes p e below K (T.setTop (mkF m pc Ls (.int j :: .ref a :: rest))) := by
  subst hq hfx
  obtain ⟨cl, A, r1, r2, r3⟩ := F
  exact Goes.of (fun t kt => X.iaload hx (by rw [eT]; exact A.1) (State.isArrayOf_alike hZ.alike A.2.1) A.2.2 (own_in r1 h0 hj hi) (by rw [hj]; exact r3 i hi) (g := mkF m pc Ls (.int j :: .ref a :: rest)) rfl rfl (hb hby hd) t kt) k
theorem g_baload (X : Stand p l e R s m args below meth c T locs cells slots) (hx : p.tables.exec = Jvm.exec) (hby : c.code = bytes) {Z : State} (hZ : Z.Warmed39 s.vm) {h : Heap} {a : Addr} {n : Nat} {f : Nat → Int32} {j : Int32} (eT : T.heap = h) (F : AI Z h a .byte n f) (hd : decode bytes pc = .ok (.baload, 1)) (h0 : ¬ j < 0) (i : Nat) (hj : j.toNatClampNeg = i) (hi : i < n) (x : Int32) (hfx : f i = x) (q : Nat) (hq : pc + 1 = q) (k : Goes p e below K (T.setTop (mkF m q Ls (.int x :: rest)))) : Goes p e below K (T.setTop (mkF m pc Ls (.int j :: .ref a :: rest))) := by
  subst hq hfx
  obtain ⟨cl, A, r1, r2, r3⟩ := F
  exact Goes.of (fun t kt => X.baloadBytes hx (by rw [eT]; exact A.1) (State.isArrayOf_alike hZ.alike A.2.1) A.2.2 (own_in r1 h0 hj hi) (by rw [hj]; exact r3 i hi) (g := mkF m pc Ls (.int j :: .ref a :: rest)) rfl rfl (hb hby hd) t kt) k
theorem g_laload (X : Stand p l e R s m args below meth c T locs cells slots) (hx : p.tables.exec = Jvm.exec) (hby : c.code = bytes) {Z : State} (hZ : Z.Warmed39 s.vm) {h : Heap} {a : Addr} {n : Nat} {f : Nat → Int64} {j : Int32} (eT : T.heap = h) (F : AJ Z h a n f) (hd : decode bytes pc = .ok (.laload, 1)) (h0 : ¬ j < 0) (i : Nat) (hj : j.toNatClampNeg = i) (hi : i < n) (x : Int64) (hfx : f i = x) (q : Nat) (hq : pc + 1 = q) (k : Goes p e below K (T.setTop (mkF m q Ls (.long x :: rest)))) : Goes p e below K (T.setTop (mkF m pc Ls (.int j :: .ref a :: rest))) := by
  subst hq hfx
  obtain ⟨cl, A, r1, r2, r3⟩ := F
  exact Goes.of (fun t kt => X.laload hx (by rw [eT]; exact A.1) (State.isArrayOf_alike hZ.alike A.2.1) A.2.2 (own_in r1 h0 hj hi) (by rw [hj]; exact r3 i hi) (g := mkF m pc Ls (.int j :: .ref a :: rest)) rfl rfl (hb hby hd) t kt) k
theorem g_aaload (X : Stand p l e R s m args below meth c T locs cells slots) (hx : p.tables.exec = Jvm.exec) (hby : c.code = bytes) {Z : State} (hZ : Z.Warmed39 s.vm) {h : Heap} {a : Addr} {n : Nat} {ty : FieldType} {f : Nat → Value} {j : Int32} (eT : T.heap = h) (F : ArF Z h a ty n f) (hty : ty.isReference = true) (hd : decode bytes pc = .ok (.aaload, 1)) (h0 : ¬ j < 0) (i : Nat) (hj : j.toNatClampNeg = i) (hi : i < n) (x : Value) (hfx : f i = x) (q : Nat) (hq : pc + 1 = q) (k : Goes p e below K (T.setTop (mkF m q Ls (x :: rest)))) : Goes p e below K (T.setTop (mkF m pc Ls (.int j :: .ref a :: rest))) := by
  subst hq hfx
  obtain ⟨cl, A, r1, r2, r3⟩ := F
  exact Goes.of (fun t kt => X.aaload hx (by rw [eT]; exact A.1) (State.isArrayOf_alike hZ.alike A.2.1) hty A.2.2 (own_in r1 h0 hj hi) (by rw [hj]; exact r3 i hi) (g := mkF m pc Ls (.int j :: .ref a :: rest)) rfl rfl (hb hby hd) t kt) k
theorem g_iastore (X : Stand p l e R s m args below meth c T locs cells slots) (hx : p.tables.exec = Jvm.exec) (hby : c.code = bytes) {Z : State} (hZ : Z.Warmed39 s.vm) {h : Heap} {a : Addr} {n : Nat} {f : Nat → Int32} {j : Int32} {x : Int32} (eT : T.heap = h) (F : AI Z h a .int n f) (hd : decode bytes pc = .ok (.iastore, 1)) (h0 : ¬ j < 0) (i : Nat) (hj : j.toNatClampNeg = i) (hi : i < n) (q : Nat) (hq : pc + 1 = q)
    (k : ∀ (T' : State) (h' : Heap), Stand p l e R s m args below meth c T' (locs ++ [⟨a, i⟩]) cells slots → T'.heap = h' → Wr h h' a i (.int x) → AI Z h' a .int n (upd f i x) → Goes p e below K (T'.setTop (mkF m q Ls rest))) : Goes p e below K (T.setTop (mkF m pc Ls (.int x :: .int j :: .ref a :: rest))) := by
  subst hq
  have F' := F
  obtain ⟨cl, A, r1, r2, r3⟩ := F'
  obtain ⟨T', h', X', e', W', st⟩ := stI X hx hZ eT A (own_in r1 h0 hj hi) (g := mkF m pc Ls (.int x :: .int j :: .ref a :: rest)) rfl rfl (hb hby hd)
  rw [hj] at X' W'
  exact Goes.of st (k _ _ X' e' W' (AI.set F W'))
theorem g_bastore (X : Stand p l e R s m args below meth c T locs cells slots) (hx : p.tables.exec = Jvm.exec) (hby : c.code = bytes) {Z : State} (hZ : Z.Warmed39 s.vm) {h : Heap} {a : Addr} {n : Nat} {f : Nat → Int32} {j : Int32} {x : Int32} (eT : T.heap = h) (F : AI Z h a .byte n f) (hd : decode bytes pc = .ok (.bastore, 1)) (h0 : ¬ j < 0) (i : Nat) (hj : j.toNatClampNeg = i) (hi : i < n) (y : Int32) (hxy : x.toInt8.toInt32 = y) (q : Nat) (hq : pc + 1 = q)
    (k : ∀ (T' : State) (h' : Heap), Stand p l e R s m args below meth c T' (locs ++ [⟨a, i⟩]) cells slots → T'.heap = h' → Wr h h' a i (.int y) → AI Z h' a .byte n (upd f i y) → Goes p e below K (T'.setTop (mkF m q Ls rest))) : Goes p e below K (T.setTop (mkF m pc Ls (.int x :: .int j :: .ref a :: rest))) := by
  subst hq hxy
  have F' := F
  obtain ⟨cl, A, r1, r2, r3⟩ := F'
  obtain ⟨T', h', X', e', W', st⟩ := stB X hx hZ eT A (own_in r1 h0 hj hi) (g := mkF m pc Ls (.int x :: .int j :: .ref a :: rest)) rfl rfl (hb hby hd)
  rw [hj] at X' W'
  exact Goes.of st (k _ _ X' e' W' (AI.set F W'))
theorem g_lastore (X : Stand p l e R s m args below meth c T locs cells slots) (hx : p.tables.exec = Jvm.exec) (hby : c.code = bytes) {Z : State} (hZ : Z.Warmed39 s.vm) {h : Heap} {a : Addr} {n : Nat} {f : Nat → Int64} {j : Int32} {x : Int64} (eT : T.heap = h) (F : AJ Z h a n f) (hd : decode bytes pc = .ok (.lastore, 1)) (h0 : ¬ j < 0) (i : Nat) (hj : j.toNatClampNeg = i) (hi : i < n) (q : Nat) (hq : pc + 1 = q)
    (k : ∀ (T' : State) (h' : Heap), Stand p l e R s m args below meth c T' (locs ++ [⟨a, i⟩]) cells slots → T'.heap = h' → Wr h h' a i (.long x) → AJ Z h' a n (upd f i x) → Goes p e below K (T'.setTop (mkF m q Ls rest))) : Goes p e below K (T.setTop (mkF m pc Ls (.long x :: .int j :: .ref a :: rest))) := by
  subst hq
  have F' := F
  obtain ⟨cl, A, r1, r2, r3⟩ := F'
  obtain ⟨T', h', X', e', W', st⟩ := stJ X hx hZ eT A (own_in r1 h0 hj hi) (g := mkF m pc Ls (.long x :: .int j :: .ref a :: rest)) rfl rfl (hb hby hd)
  rw [hj] at X' W'
  exact Goes.of st (k _ _ X' e' W' (AJ.set F W'))
def ArO (Z : State) (h : Heap) (a : Addr) (C : String) (n : Nat) (f : Nat → Value) : Prop := ∃ c : Cell, Arr Z h a c (.object C) ∧ c.slots.size = n ∧ n < 2 ^ 31 ∧ (∀ j, j < n → c.slots[j]? = some (f j)) ∧ Ovr Z c.cls C
section ArraysO
variable {Z : State} {h h' : Heap} {a b : Addr} {C : String} {n : Nat} {f : Nat → Value}
theorem ArO.toF (F : ArO Z h a C n f) : ArF Z h a (.object C) n f := by obtain ⟨c, A, r1, r2, r3, -⟩ := F; exact ⟨c, A, r1, r2, r3⟩
theorem ArO.lt (F : ArO Z h a C n f) : a < h.size := F.toF.lt
theorem ArO.ext (F : ArO Z h a C n f) (E : Ext h h') : ArO Z h' a C n f := by obtain ⟨c, A, r⟩ := F; exact ⟨c, A.ext E, r⟩
theorem ArO.other {sl : Nat} {v : Value} (F : ArO Z h b C n f) (W : Wr h h' a sl v) (q : b ≠ a) : ArO Z h' b C n f := by obtain ⟨c, A, r⟩ := F; exact ⟨c, A.other W q, r⟩
theorem ArO.keep {ws : List Addr} (F : ArO Z h a C n f) (K : Keep h h' ws) (q : a ∉ ws) : ArO Z h' a C n f := by obtain ⟨c, A, r⟩ := F; exact ⟨c, ⟨K.2.1 a c A.1 q, A.2⟩, r⟩
theorem ArO.congr {g : Nat → Value} (F : ArO Z h a C n f) (q : ∀ i, i < n → f i = g i) : ArO Z h a C n g := by obtain ⟨c, A, r1, r2, r3, r4⟩ := F; exact ⟨c, A, r1, r2, fun j hj => by rw [r3 j hj, q j hj], r4⟩
theorem ArO.fresh {k : ClassId} {z : Int32} (A : Arr Z h a (newA k (.object C) z) (.object C)) (O : Ovr Z k C) (q : ¬ z < 0) (e : z.toNatClampNeg = n) : ArO Z h a C n (fun _ => .null) := by
  subst e
  refine ⟨_, A, sz_new _ _ _, (back32 q).2, fun j hj => ?_, O⟩
  simp [newA, hj, defaultValue]
theorem ArO.set {j : Nat} {v : Value} (F : ArO Z h a C n f) (W : Wr h h' a j v) : ArO Z h' a C n (upd f j v) := by
  obtain ⟨c, A, r1, r2, r3, r4⟩ := F
  refine ⟨_, A.same W, (sz_set _ _ _).trans r1, r2, fun i hi => ?_, r4⟩
  by_cases q : i = j
  · subst q; rw [upd_hit]; simp [Cell.setSlot, r1, hi]
  · rw [upd_miss _ _ q, ← r3 i hi]
    simp only [Cell.setSlot]
    exact Array.getElem?_setIfInBounds_ne (fun y => q y.symm)
theorem ArO.sto {y : Addr} (F : ArO Z h a C n f) (I : Ins Z h y C true) : Sto Z h a (.ref y) := by obtain ⟨c, A, -, -, -, O⟩ := F; exact Sto.of A O I
end ArraysO
theorem g_anewarray (X : Stand p l e R s m args below meth c T locs cells slots) (hx : p.tables.exec = Jvm.exec) (hby : c.code = bytes) {Z : State} {a0 : Array Value} (hZ : Z.Warmed39 s.vm) {own C : String} {index : Nat} {h : Heap} {z : Int32} (hown : s.vm.findClass own = some m.cls) (w1 : (Jvm.Cond.classLink own index C).before a0 Z = true) (w2 : (Jvm.Cond.arrayOver (.object C)).before a0 Z = true) (eT : T.heap = h) (hd : decode bytes pc = .ok (.anewarray index, 3)) (hz : ¬ z < 0) (n : Nat) (hn : z.toNatClampNeg = n) (cap : Nat) (hcap : n ≤ cap) (hbig : cap * 8 ≤ 536870912) (hc : cells + 1 ≤ R.cells) (hl : slots + cap ≤ R.slots) (q : Nat) (hq : pc + 3 = q)
    (k : ∀ (T' : State) (h' : Heap) (a : Addr), a = h.size → Stand p l e R s m args below meth c T' locs (cells + 1) (slots + cap) → T'.heap = h' → Ext h h' → ArO Z h' a C n (fun _ => .null) → Goes p e below K (T'.setTop (mkF m q Ls (.ref a :: rest)))) : Goes p e below K (T.setTop (mkF m pc Ls (.int z :: rest))) := by
  subst hq
  obtain ⟨T', h', cA, X', e', E', A', O', st⟩ := newR X hx hZ hown w1 w2 eT (g := mkF m pc Ls (.int z :: rest)) rfl (hb hby hd) rfl hz (cap := cap) (by rw [hn]; exact hcap) hbig hc hl
  exact Goes.of st (k _ _ _ rfl X' e' E' (ArO.fresh A' O' hz hn))
theorem g_aastore (X : Stand p l e R s m args below meth c T locs cells slots) (hx : p.tables.exec = Jvm.exec) (hby : c.code = bytes) {Z : State} (hZ : Z.Warmed39 s.vm) {h : Heap} {a : Addr} {n : Nat} {C : String} {f : Nat → Value} {j : Int32} {x : Value} (eT : T.heap = h) (F : ArO Z h a C n f) (S : Sto Z h a x) (hd : decode bytes pc = .ok (.aastore, 1)) (h0 : ¬ j < 0) (i : Nat) (hj : j.toNatClampNeg = i) (hi : i < n) (q : Nat) (hq : pc + 1 = q)
    (k : ∀ (T' : State) (h' : Heap), Stand p l e R s m args below meth c T' (locs ++ [⟨a, i⟩]) cells slots → T'.heap = h' → Wr h h' a i x → ArO Z h' a C n (upd f i x) → Goes p e below K (T'.setTop (mkF m q Ls rest))) : Goes p e below K (T.setTop (mkF m pc Ls (x :: .int j :: .ref a :: rest))) := by
  subst hq
  have F' := F
  obtain ⟨cl, A, r1, r2, r3, r4⟩ := F'
  obtain ⟨T', h', X', e', W', st⟩ := stR X hx hZ eT A (own_in r1 h0 hj hi) rfl S (g := mkF m pc Ls (x :: .int j :: .ref a :: rest)) rfl rfl (hb hby hd)
  rw [hj] at X' W'
  exact Goes.of st (k _ _ X' e' W' (ArO.set F W'))
theorem g_checkcast (X : Stand p l e R s m args below meth c T locs cells slots) (hx : p.tables.exec = Jvm.exec) (hby : c.code = bytes) {Z : State} {a0 : Array Value} (hZ : Z.Warmed39 s.vm) {own C : String} {index : Nat} {h : Heap} {a : Addr} (hown : s.vm.findClass own = some m.cls) (w : (Jvm.Cond.classLink own index C).before a0 Z = true) (eT : T.heap = h) (I : Ins Z h a C true) (hd : decode bytes pc = .ok (.checkcast index, 3)) (q : Nat) (hq : pc + 3 = q)
    (k : ∀ T' : State, Stand p l e R s m args below meth c T' locs cells slots → T'.heap = h → Goes p e below K (T'.setTop (mkF m q Ls (.ref a :: rest)))) : Goes p e below K (T.setTop (mkF m pc Ls (.ref a :: rest))) := by
  subst hq
  obtain ⟨T', X', e', st⟩ := castY X hx hZ hown w eT I (g := mkF m pc Ls (.ref a :: rest)) rfl rfl (hb hby hd)
  exact Goes.of st (k _ X' e')
theorem g_getstatic (X : Stand p l e R s m args below meth c T locs cells slots) (hx : p.tables.exec = Jvm.exec) (hby : c.code = bytes) {Z : State} {a0 : Array Value} (hZ : Z.Warmed39 s.vm) {own R0 O n d host : String} {index : Nat} {h : Heap} {v : Value} (hown : s.vm.findClass own = some m.cls) (w : (Jvm.Cond.fieldLink own index R0 n d).before a0 Z = true ∨ (Jvm.Cond.fieldLinkNest own index R0 n d host).before a0 Z = true) (via : Via Z R0 O n d) (eT : T.heap = h) (F : Sta Z h O n d v) (hd : decode bytes pc = .ok (.getstatic index, 3)) (q : Nat) (hq : pc + 3 = q)
    (k : ∀ T' : State, Stand p l e R s m args below meth c T' locs cells slots → T'.heap = h → Goes p e below K (T'.setTop (mkF m q Ls (v :: rest)))) : Goes p e below K (T.setTop (mkF m pc Ls rest)) := by
  subst hq
  obtain ⟨T', X', e', st⟩ := getS2 X hx hZ hown w via eT F (g := mkF m pc Ls rest) rfl (hb hby hd)
  exact Goes.of st (k _ X' e')
theorem own_fm {r n d : String} (h1 : r ≠ "java/lang/invoke/MethodHandle") (h2 : r ≠ "java/lang/invoke/VarHandle") : ((Jvm.Cond.interfaceMethod r r n d).onTables && (Jvm.Cond.interfaceMethod r r n d).keepsFace) = true := by
  have e : ((Jvm.Cond.interfaceMethod r r n d).onTables && (Jvm.Cond.interfaceMethod r r n d).keepsFace) = (r == r && r != "java/lang/invoke/MethodHandle" && r != "java/lang/invoke/VarHandle") := rfl
  rw [e]; simp [h1, h2]
theorem g_interface (X : Stand p l e R s m args below meth c T locs cells slots) (hx : p.tables.exec = Jvm.exec) (hby : c.code = bytes) {Z : State} {a0 : Array Value} (hZ : Z.Warmed39 s.vm) {own : String} {index : Nat} {y : MethodName} {cb : ByteArray} {maxL : Nat} {ret : Option FieldType} {rm : Room} {Q : Option Value → Heap → List Loc → Prop} {h : Heap} {z : MethodName} {C : String} {count : Nat} (hown : s.vm.findClass own = some m.cls) (w1 : (Jvm.Cond.methodLink own index y).before a0 Z = true) (w2 : (Jvm.Cond.declares y).before a0 Z = true) (w7 : (Jvm.Cond.interfaceMethod y.cls y.cls y.name y.desc).before a0 Z = true) (w5 : (Jvm.Cond.selects C y z).before a0 Z = true) (w6 : (Jvm.Cond.instanceMethod z).before a0 Z = true) (w8 : (Jvm.Cond.publicMethod z).before a0 Z = true) (w9 : (Jvm.Cond.unhidden C y.name y.desc).before a0 Z = true) (w10 : (Jvm.Cond.castable C y.cls).before a0 Z = true) (w3 : (Jvm.Cond.initialized z.cls).before a0 Z = true) (w4 : (Jvm.Cond.code z cb maxL ret).before a0 Z = true)
    (hd : decode bytes pc = .ok (.invokeinterface index count, 5)) (a : Addr) (E : Exa Z h a C) (argsL rest : List Value) {st : List Value} (hM : Ctr l z cb maxL ret [] rm (.ref a :: argsL).toArray Z h Q) (eT : T.heap = h) (hst : st = argsL.reverse ++ .ref a :: rest) (hsz : Ls.size = c.maxLocals) {ps : List FieldType} {rt : Option FieldType} (hpd : parseMethodDescriptor y.desc = some ⟨ps, rt⟩) (hlen : argsL.length = ps.length)
    (hy : y.cls ≠ "java/lang/invoke/MethodHandle" ∧ y.cls ≠ "java/lang/invoke/VarHandle") (W : Nat) (hW : (rest.map fun v => v.category).sum ≤ W) (hf : rm.frames + 1 ≤ R.frames) (hl : W + (maxL + 11) + rm.locals ≤ R.locals) (hc : cells + rm.cells ≤ R.cells) (hs : slots + rm.slots ≤ R.slots) (q : Nat) (hq : pc + 5 = q)
    (k : ∀ (T' : State) (v : Option Value) (L : List Loc), Stand p l e R s m args below meth c T' (locs ++ L) (cells + rm.cells) (slots + rm.slots) → Q v T'.heap L → Goes p e below K (T'.setTop (mkF m q Ls (v.toList ++ rest)))) : Goes p e below K (T.setTop (mkF m pc Ls st)) := by
  subst hq hst
  obtain ⟨cq, kq, qa, qb, qc⟩ := isOf hZ eT E
  obtain ⟨v, _, ⟨T', L', k', n'⟩, -, X', ⟨Lc, hQ, l1, y1, z1⟩, st⟩ := X.interfaceBack hx (xi := y) (y := z) hown (mvT hZ w1) (mvT hZ w2) (mvT hZ w7 (own_fm hy.1 hy.2)) (mvT hZ w5) (mvT hZ w6) (mvT hZ w8) (mvT hZ w9) (mvT hZ w10) hy (backOf (W := W) hM hZ w4 w3 hf hl) qa qb qc (g := mkF m pc Ls (argsL.reverse ++ .ref a :: rest)) rfl hsz (Steps.refl _) (argsL := argsL) (rest := rest) (lenOf hpd hlen) rfl (by show 2 * 0 + _ ≤ _; omega) (hb hby hd) (fun _ _ => ⟨rfl, eT, hc, hs⟩)
  dsimp only [Pt.U, Pt.locs, Pt.cells, Pt.slots] at X' l1 y1 z1 st hQ
  subst l1 y1 z1
  exact Goes.of (fun t kt => st.trans kt) (k _ _ _ X' hQ)
end OwnKit
theorem byte2 (x : Int32) : x.toInt8.toInt32.toInt8.toInt32 = x.toInt8.toInt32 := by simp
theorem own_ite01 {P : Prop} [Decidable P] : (if P then (1 : Int32) else 0) = 0 ∨ (if P then (1 : Int32) else 0) = 1 := by by_cases h : P <;> simp [h]
theorem own_and31 (x : Int32) : (x &&& (2147483647 : Int32)).toInt = x.toInt % 2147483648 := c_mask x 2147483647 31 (by decide) (by decide)
theorem own_rem (x k : Int32) (d : Int) (hk : k.toInt = d) (hd : 0 < d) : 0 ≤ ((x &&& (2147483647 : Int32)) % k).toInt ∧ ((x &&& (2147483647 : Int32)) % k).toInt < d := by
  have h1 := own_and31 x
  have h2 := (c_irem (x &&& (2147483647 : Int32)) k d hk).1 (by omega)
  rw [h2]; exact ⟨Int.emod_nonneg _ (by omega), Int.emod_lt_of_pos _ hd⟩
theorem own_nn {j : Int32} (h : 0 ≤ j.toInt) : ¬ j < 0 := by
  rw [Int32.lt_iff_toInt_lt]; show ¬ j.toInt < 0; omega
theorem own_lt {j : Int32} {n : Nat} (h : j.toInt < n) (hn : 0 < n) : j.toNatClampNeg < n := by
  show j.toInt.toNat < n; omega

def bix (x : Int32) : Nat := (x &&& (255 : Int32)).toNatClampNeg
def cnts (fb : Nat → Int32) : Nat → Nat → (Nat → Int64) → (Nat → Int64)
  | _, 0, fc => fc
  | i, r + 1, fc => cnts fb (i + 1) r (upd fc (bix (fb i)) (fc (bix (fb i)) + 1))
def occN (fb : Nat → Int32) (v : Nat) : Nat → Nat → Int64
  | _, 0 => 0
  | i, r + 1 => (if bix (fb i) = v then 1 else 0) + occN fb v (i + 1) r
theorem cnts_at (fb : Nat → Int32) (v : Nat) : ∀ (r i : Nat) (fc : Nat → Int64), cnts fb i r fc v = fc v + occN fb v i r
  | 0, i, fc => by simp [cnts, occN]
  | r + 1, i, fc => by
    rw [cnts, cnts_at fb v r, occN]
    by_cases q : bix (fb i) = v
    · subst q; rw [upd_hit, if_pos rfl, Int64.add_assoc]
    · rw [upd_miss _ _ (fun y => q y.symm), if_neg q, Int64.zero_add]
theorem own_u8 (x : Int32) : 0 ≤ (x &&& (255 : Int32)).toInt ∧ (x &&& (255 : Int32)).toInt < 256 := by
  have h := c_mask x 255 8 (by decide) (by decide)
  rw [h]; omega
theorem bix_in (x : Int32) : ¬ (x &&& (255 : Int32)) < 0 ∧ bix x < 256 := by
  have h := own_u8 x
  exact ⟨own_nn h.1, own_lt (n := 256) h.2 (by decide)⟩
theorem own_i1 {i : Int32} {n : Nat} (h : i.toInt = n) (hn : n < 100) : (i + 1).toInt = (n + 1 : Nat) := by
  have h1 := c_iadd i 1
  have h2 := rng32 (i + 1)
  have e1 : (1 : Int32).toInt = 1 := rfl
  omega
theorem own_clamp {i : Int32} {n : Nat} (h : i.toInt = n) : i.toNatClampNeg = n := by
  show i.toInt.toNat = n; omega
theorem own_turn {i off len : Int32} {n r on ln : Nat} (hi : i.toInt = n) (ho : off.toInt = on) (hl : len.toInt = ln) (hE : on + ln ≤ 8) (hr : n + r = on + ln) (q : i < off + len) : (¬ i < 0) ∧ i.toNatClampNeg = n ∧ n < 8 ∧ (i + 1).toInt = (n + 1 : Nat) ∧ ∃ r', r = r' + 1 ∧ n + 1 + r' = on + ln := by
  have a1 := own_i1 hi (by omega)
  have q1 := c_iadd off len
  have q2 := rng32 (off + len)
  rw [Int32.lt_iff_toInt_lt] at q
  exact ⟨own_nn (by omega), own_clamp hi, by omega, a1, r - 1, by omega, by omega⟩
theorem own_none {i off len : Int32} {n r on ln : Nat} (hi : i.toInt = n) (ho : off.toInt = on) (hl : len.toInt = ln) (hE : on + ln ≤ 8) (hr : n + r = on + ln) (q : ¬ i < off + len) : r = 0 := by
  have q1 := c_iadd off len
  have q2 := rng32 (off + len)
  rw [Int32.lt_iff_toInt_lt] at q; omega

theorem d1_0 : decode prog_7_method_3_code 0 = .ok (.iload_n 2, 1) := by decide +kernel
theorem d1_1 : decode prog_7_method_3_code 1 = .ok (.istore 4, 2) := by decide +kernel
theorem d1_3 : decode prog_7_method_3_code 3 = .ok (.iload 4, 2) := by decide +kernel
theorem d1_5 : decode prog_7_method_3_code 5 = .ok (.iload_n 2, 1) := by decide +kernel
theorem d1_6 : decode prog_7_method_3_code 6 = .ok (.iload_n 3, 1) := by decide +kernel
theorem d1_7 : decode prog_7_method_3_code 7 = .ok (.iadd, 1) := by decide +kernel
theorem d1_8 : decode prog_7_method_3_code 8 = .ok (.if_icmp .ge 23, 3) := by decide +kernel
theorem d1_11 : decode prog_7_method_3_code 11 = .ok (.aload_n 0, 1) := by decide +kernel
theorem d1_12 : decode prog_7_method_3_code 12 = .ok (.aload_n 1, 1) := by decide +kernel
theorem d1_13 : decode prog_7_method_3_code 13 = .ok (.iload 4, 2) := by decide +kernel
theorem d1_15 : decode prog_7_method_3_code 15 = .ok (.baload, 1) := by decide +kernel
theorem d1_16 : decode prog_7_method_3_code 16 = .ok (.sipush 255, 3) := by decide +kernel
theorem d1_19 : decode prog_7_method_3_code 19 = .ok (.iand, 1) := by decide +kernel
theorem d1_20 : decode prog_7_method_3_code 20 = .ok (.dup2, 1) := by decide +kernel
theorem d1_21 : decode prog_7_method_3_code 21 = .ok (.laload, 1) := by decide +kernel
theorem d1_22 : decode prog_7_method_3_code 22 = .ok (.lconst 1, 1) := by decide +kernel
theorem d1_23 : decode prog_7_method_3_code 23 = .ok (.ladd, 1) := by decide +kernel
theorem d1_24 : decode prog_7_method_3_code 24 = .ok (.lastore, 1) := by decide +kernel
theorem d1_25 : decode prog_7_method_3_code 25 = .ok (.iinc 4 1, 3) := by decide +kernel
theorem d1_28 : decode prog_7_method_3_code 28 = .ok (.goto (-25), 3) := by decide +kernel
theorem d1_31 : decode prog_7_method_3_code 31 = .ok (.return_, 1) := by decide +kernel
theorem pn1 : plainFor (⟨"com/example/brevicode/brevicode/ByteCounts", "add", "([J[BII)V"⟩ : MethodName) = true := plainFor_of_name (by first | (simp [plainName, overriddenIn]; done) | decide +kernel)
theorem ef1 (m : MethodId) (cn : Addr) (dt : Addr) (off : Int32) (len : Int32) (fc : Nat → Int64) (fb : Nat → Int32) (on : Nat) (ln : Nat) : entryFrame m #[(.ref cn), (.ref dt), (.int off), (.int len)] 5 = mkF m 0 #[.val (.ref cn), .val (.ref dt), .val (.int off), .val (.int len), .unset] [] := by first | (simp [entryFrame, mkF, argsToLocals, Value.category]; done) | rfl
def Q1 (cn : Addr) (dt : Addr) (off : Int32) (len : Int32) (fc : Nat → Int64) (fb : Nat → Int32) (on : Nat) (ln : Nat) (Z : State) (h0 : Heap) (n0 : Nat) (v : Option Value) (h : Heap) (L : List Loc) : Prop := v = none ∧ Fr n0 L ∧ Keep h0 h [cn] ∧ AJ Z h cn 256 (cnts fb on ln fc)
set_option maxRecDepth 65536 in
set_option maxHeartbeats 40000000 in
theorem rm1 (l : Launch) (Z : State) (a0 : Array Value) (hw : ∀ d ∈ tables_1, d.before a0 Z = true) (ws : List Jvm.Cond) (cn : Addr) (dt : Addr) (off : Int32) (len : Int32) (fc : Nat → Int64) (fb : Nat → Int32) (on : Nat) (ln : Nat) (h0 : Heap) (n0 : Nat) (Z0 : n0 ≤ h0.size) (A_cn_0 : AJ Z h0 cn 256 fc) (A_dt_0 : AI Z h0 dt .byte 8 fb) (gn_cn : n0 ≤ cn) (ne_dt_cn : dt ≠ cn) (hoff : off.toInt = on) (hlen : len.toInt = ln) (hE : on + ln ≤ 8) : Ctr l (⟨"com/example/brevicode/brevicode/ByteCounts", "add", "([J[BII)V"⟩ : MethodName) prog_7_method_3_code 5 none ws ({ frames := 0, cells := 0, slots := 0, locals := 0 } : Room) #[(.ref cn), (.ref dt), (.int off), (.int len)] Z h0 (Q1 cn dt off len fc fb on ln Z h0 n0) := by
  refine own_body pn1 ?_
  intro p e s m below meth c T0 hx hby hml hown hnm hret hlk hZ X0 e0
  have N0 := Fr.nil n0
  have K0 : Keep h0 h0 [cn] := Keep.refl _ _
  refine Goes.entry (ef1 m cn dt off len fc fb on ln) ?_
  refine g_iloadN X0 hx hby d1_0 rfl 1 rfl ?_
  refine g_istore X0 hx hby d1_1 off rfl #[.val (.ref cn), .val (.ref dt), .val (.int off), .val (.int len), .val (.int off)] rfl 3 rfl ?_
  suffices loop : ∀ (k : Nat) (r : Nat) (n : Nat) (i : Int32) (g : Nat → Int64) (T1 : State) (L1 : List Loc) (h1 : Heap), r < k → i.toInt = n → n + r = on + ln → cnts fb n r g = cnts fb on ln fc → Stand p l e ({ frames := 0, cells := 0, slots := 0, locals := 0 } : Room) s m #[(.ref cn), (.ref dt), (.int off), (.int len)] below meth c T1 L1 (0) (0) → T1.heap = h1 → Fr n0 L1 → n0 ≤ h1.size → Keep h0 h1 [cn] → AJ Z h1 cn 256 g → AI Z h1 dt .byte 8 fb → Goes p e below (Kend s below (Q1 cn dt off len fc fb on ln Z h0 n0) ({ frames := 0, cells := 0, slots := 0, locals := 0 } : Room).cells ({ frames := 0, cells := 0, slots := 0, locals := 0 } : Room).slots) (T1.setTop (mkF m 3 #[.val (.ref cn), .val (.ref dt), .val (.int off), .val (.int len), .val (.int i)] [])) by
    exact loop (ln + 1) ln on off fc _ _ _ (Nat.lt_succ_self _) hoff rfl rfl X0 e0 N0 Z0 K0 A_cn_0 A_dt_0
  intro k
  induction k with
  | zero => intro r n i g T1 L1 h1 hk hi hr hg X1 e1 N1 Z1 K1 A_cn_1 A_dt_1; exact absurd hk (Nat.not_lt_zero _)
  | succ k ih =>
    intro r n i g T1 L1 h1 hk hi hr hg X1 e1 N1 Z1 K1 A_cn_1 A_dt_1
    refine g_iload X1 hx hby d1_3 rfl 5 rfl ?_
    refine g_iloadN X1 hx hby d1_5 rfl 6 rfl ?_
    refine g_iloadN X1 hx hby d1_6 rfl 7 rfl ?_
    refine g_iadd X1 hx hby d1_7 8 rfl ?_
    refine g_icmp_ge X1 hx hby d1_8 31 11 (by decide) (by decide) rfl (fun c2 => ?_) (fun c2 => ?_)
    · -- c2
      obtain ⟨q1, q2, q3, q4, r', rfl, q5⟩ := own_turn hi hoff hlen hE hr c2
      refine g_aloadN X1 hx hby d1_11 rfl rfl 12 rfl ?_
      refine g_aloadN X1 hx hby d1_12 rfl rfl 13 rfl ?_
      refine g_iload X1 hx hby d1_13 rfl 15 rfl ?_
      refine g_baload X1 hx hby hZ e1 A_dt_1 d1_15 q1 n q2 q3 (fb n) rfl 16 rfl ?_
      refine g_sipush X1 hx hby d1_16 (255 : Int32) rfl 19 rfl ?_
      refine g_iand X1 hx hby d1_19 20 rfl ?_
      refine g_dup2 X1 hx hby d1_20 rfl rfl 21 rfl ?_
      refine g_laload X1 hx hby hZ e1 A_cn_1 d1_21 (bix_in _).1 (bix (fb n)) rfl (bix_in _).2 (g (bix (fb n))) rfl 22 rfl ?_
      refine g_lconst X1 hx hby d1_22 (1 : Int64) rfl 23 rfl ?_
      refine g_ladd X1 hx hby d1_23 24 rfl ?_
      refine g_lastore X1 hx hby hZ e1 A_cn_1 d1_24 (bix_in _).1 (bix (fb n)) rfl (bix_in _).2 25 rfl ?_
      intro T3 h3 X3 e3 W3 V3
      have N3 := Fr.snoc X3 N1 gn_cn
      have K3 := K1.wr W3 (Or.inl (List.mem_of_getElem? (i := 0) rfl))
      have Z3 : n0 ≤ h3.size := Nat.le_trans Z1 (Keep.of_wr W3).1
      have A_dt_3 := ArF.other A_dt_1 W3 ne_dt_cn
      refine g_iinc X3 hx hby d1_25 (1 : Int32) rfl rfl (i + (1 : Int32)) rfl #[.val (.ref cn), .val (.ref dt), .val (.int off), .val (.int len), .val (.int (i + (1 : Int32)))] rfl 28 rfl ?_
      refine g_goto X3 hx hby d1_28 3 (by decide) (by decide) ?_
      exact ih r' (n + 1) _ _ _ _ _ (by omega) q4 q5 (by rw [← hg]; rfl) X3 e3 N3 Z3 K3 V3 A_dt_3
    · -- not c2
      exact g_return X1 hx hby hret hlk d1_31 (by have q := own_none hi hoff hlen hE hr c2; subst q; rw [e1]; exact ⟨rfl, N1, K1, hg ▸ A_cn_1⟩) (by decide) (by decide)
def hit (dd : Int64) (kk : Int32) (off : Int32) (len : Int32) (vv : Int32) : Int64 := if kk < off then ((0 : Int64)) else (if kk < (off + len) then (if ((((dd.toUInt64 >>> (((8 : Int32) * kk) &&& 0x3f).toInt64.toUInt64).toInt64) &&& (255 : Int64)).toInt32) = vv then ((1 : Int64)) else ((0 : Int64))) else ((0 : Int64)))
theorem d3_0 : decode method_2_code 0 = .ok (.iload_n 2, 1) := by decide +kernel
theorem d3_1 : decode method_2_code 1 = .ok (.iload_n 3, 1) := by decide +kernel
theorem d3_2 : decode method_2_code 2 = .ok (.if_icmp .lt 29, 3) := by decide +kernel
theorem d3_5 : decode method_2_code 5 = .ok (.iload_n 2, 1) := by decide +kernel
theorem d3_6 : decode method_2_code 6 = .ok (.iload_n 3, 1) := by decide +kernel
theorem d3_7 : decode method_2_code 7 = .ok (.iload 4, 2) := by decide +kernel
theorem d3_9 : decode method_2_code 9 = .ok (.iadd, 1) := by decide +kernel
theorem d3_10 : decode method_2_code 10 = .ok (.if_icmp .ge 21, 3) := by decide +kernel
theorem d3_13 : decode method_2_code 13 = .ok (.lload_n 0, 1) := by decide +kernel
theorem d3_14 : decode method_2_code 14 = .ok (.bipush 8, 2) := by decide +kernel
theorem d3_16 : decode method_2_code 16 = .ok (.iload_n 2, 1) := by decide +kernel
theorem d3_17 : decode method_2_code 17 = .ok (.imul, 1) := by decide +kernel
theorem d3_18 : decode method_2_code 18 = .ok (.lushr, 1) := by decide +kernel
theorem d3_19 : decode method_2_code 19 = .ok (.ldc2_w 7, 3) := by decide +kernel
theorem d3_22 : decode method_2_code 22 = .ok (.land, 1) := by decide +kernel
theorem d3_23 : decode method_2_code 23 = .ok (.l2i, 1) := by decide +kernel
theorem d3_24 : decode method_2_code 24 = .ok (.iload 5, 2) := by decide +kernel
theorem d3_26 : decode method_2_code 26 = .ok (.if_icmp .ne 5, 3) := by decide +kernel
theorem d3_29 : decode method_2_code 29 = .ok (.lconst 1, 1) := by decide +kernel
theorem d3_30 : decode method_2_code 30 = .ok (.lreturn, 1) := by decide +kernel
theorem d3_31 : decode method_2_code 31 = .ok (.lconst 0, 1) := by decide +kernel
theorem d3_32 : decode method_2_code 32 = .ok (.lreturn, 1) := by decide +kernel
theorem pn3 : plainFor (⟨"com/example/brevicode/brevicode/ByteCountsAddPinLaw", "hit", "(JIIII)J"⟩ : MethodName) = true := plainFor_of_name (by first | (simp [plainName, overriddenIn]; done) | decide +kernel)
theorem ef3 (m : MethodId) (dd : Int64) (kk : Int32) (off : Int32) (len : Int32) (vv : Int32) : entryFrame m #[(.long dd), (.int kk), (.int off), (.int len), (.int vv)] 6 = mkF m 0 #[.val (.long dd), .second, .val (.int kk), .val (.int off), .val (.int len), .val (.int vv)] [] := by first | (simp [entryFrame, mkF, argsToLocals, Value.category]; done) | rfl
def Q3 (dd : Int64) (kk : Int32) (off : Int32) (len : Int32) (vv : Int32) (Z : State) (h0 : Heap) (n0 : Nat) (v : Option Value) (h : Heap) (L : List Loc) : Prop := v = some (.long (hit dd kk off len vv)) ∧ Fr n0 L ∧ h = h0
set_option maxRecDepth 65536 in
set_option maxHeartbeats 40000000 in
theorem rm3 (l : Launch) (Z : State) (a0 : Array Value) (hw : ∀ d ∈ tables_1, d.before a0 Z = true) (ws : List Jvm.Cond) (dd : Int64) (kk : Int32) (off : Int32) (len : Int32) (vv : Int32) (h0 : Heap) (n0 : Nat) (Z0 : n0 ≤ h0.size) : Ctr l (⟨"com/example/brevicode/brevicode/ByteCountsAddPinLaw", "hit", "(JIIII)J"⟩ : MethodName) method_2_code 6 (some .long) ws ({ frames := 0, cells := 0, slots := 0, locals := 0 } : Room) #[(.long dd), (.int kk), (.int off), (.int len), (.int vv)] Z h0 (Q3 dd kk off len vv Z h0 n0) := by
  refine own_body pn3 ?_
  intro p e s m below meth c T0 hx hby hml hown hnm hret hlk hZ X0 e0
  have N0 := Fr.nil n0
  refine Goes.entry (ef3 m dd kk off len vv) ?_
  refine g_iloadN X0 hx hby d3_0 rfl 1 rfl ?_
  refine g_iloadN X0 hx hby d3_1 rfl 2 rfl ?_
  refine g_icmp_lt X0 hx hby d3_2 31 5 (by decide) (by decide) rfl (fun c1 => ?_) (fun c1 => ?_)
  · -- c1
    refine g_lconst X0 hx hby d3_31 (0 : Int64) rfl 32 rfl ?_
    exact g_lreturn X0 hx hby hret hlk d3_32 (by exact ⟨congrArg (fun z => some (Value.long z)) (if_pos c1).symm, N0, e0⟩) (by decide) (by decide)
  · -- not c1
    refine g_iloadN X0 hx hby d3_5 rfl 6 rfl ?_
    refine g_iloadN X0 hx hby d3_6 rfl 7 rfl ?_
    refine g_iload X0 hx hby d3_7 rfl 9 rfl ?_
    refine g_iadd X0 hx hby d3_9 10 rfl ?_
    refine g_icmp_ge X0 hx hby d3_10 31 13 (by decide) (by decide) rfl (fun c2 => ?_) (fun c2 => ?_)
    · -- c2
      refine g_lloadN X0 hx hby d3_13 rfl 14 rfl ?_
      refine g_bipush X0 hx hby d3_14 (8 : Int32) rfl 16 rfl ?_
      refine g_iloadN X0 hx hby d3_16 rfl 17 rfl ?_
      refine g_imul X0 hx hby d3_17 18 rfl ?_
      refine g_lushr X0 hx hby d3_18 19 rfl ?_
      refine g_ldc2 X0 hx hby hZ hown (hw _ (List.mem_of_getElem? (i := 14) rfl)) d3_19 22 rfl ?_
      refine g_land X0 hx hby d3_22 23 rfl ?_
      refine g_l2i X0 hx hby d3_23 24 rfl ?_
      refine g_iload X0 hx hby d3_24 rfl 26 rfl ?_
      refine g_icmp_ne X0 hx hby d3_26 31 29 (by decide) (by decide) rfl (fun c3 => ?_) (fun c3 => ?_)
      · -- c3
        refine g_lconst X0 hx hby d3_29 (1 : Int64) rfl 30 rfl ?_
        exact g_lreturn X0 hx hby hret hlk d3_30 (by exact ⟨congrArg (fun z => some (Value.long z)) ((if_neg c1).trans ((if_pos c2).trans (if_pos c3))).symm, N0, e0⟩) (by decide) (by decide)
      · -- not c3
        refine g_lconst X0 hx hby d3_31 (0 : Int64) rfl 32 rfl ?_
        exact g_lreturn X0 hx hby hret hlk d3_32 (by exact ⟨congrArg (fun z => some (Value.long z)) ((if_neg c1).trans ((if_pos c2).trans (if_neg c3))).symm, N0, e0⟩) (by decide) (by decide)
    · -- not c2
      refine g_lconst X0 hx hby d3_31 (0 : Int64) rfl 32 rfl ?_
      exact g_lreturn X0 hx hby hret hlk d3_32 (by exact ⟨congrArg (fun z => some (Value.long z)) ((if_neg c1).trans (if_neg c2)).symm, N0, e0⟩) (by decide) (by decide)
def occ (dd : Int64) (off : Int32) (len : Int32) (vv : Int32) : Int64 := ((((((((hit dd (0 : Int32) off len vv) + (hit dd (1 : Int32) off len vv)) + (hit dd (2 : Int32) off len vv)) + (hit dd (3 : Int32) off len vv)) + (hit dd (4 : Int32) off len vv)) + (hit dd (5 : Int32) off len vv)) + (hit dd (6 : Int32) off len vv)) + (hit dd (7 : Int32) off len vv))
theorem pd0 : parseMethodDescriptor "(JIIII)J" = some ⟨[.long, .int, .int, .int, .int], some .long⟩ := by decide +kernel
theorem d2_0 : decode method_3_code 0 = .ok (.lload_n 0, 1) := by decide +kernel
theorem d2_1 : decode method_3_code 1 = .ok (.iconst 0, 1) := by decide +kernel
theorem d2_2 : decode method_3_code 2 = .ok (.iload_n 2, 1) := by decide +kernel
theorem d2_3 : decode method_3_code 3 = .ok (.iload_n 3, 1) := by decide +kernel
theorem d2_4 : decode method_3_code 4 = .ok (.iload 4, 2) := by decide +kernel
theorem d2_6 : decode method_3_code 6 = .ok (.invokestatic 9, 3) := by decide +kernel
theorem d2_9 : decode method_3_code 9 = .ok (.lload_n 0, 1) := by decide +kernel
theorem d2_10 : decode method_3_code 10 = .ok (.iconst 1, 1) := by decide +kernel
theorem d2_11 : decode method_3_code 11 = .ok (.iload_n 2, 1) := by decide +kernel
theorem d2_12 : decode method_3_code 12 = .ok (.iload_n 3, 1) := by decide +kernel
theorem d2_13 : decode method_3_code 13 = .ok (.iload 4, 2) := by decide +kernel
theorem d2_15 : decode method_3_code 15 = .ok (.invokestatic 9, 3) := by decide +kernel
theorem d2_18 : decode method_3_code 18 = .ok (.ladd, 1) := by decide +kernel
theorem d2_19 : decode method_3_code 19 = .ok (.lload_n 0, 1) := by decide +kernel
theorem d2_20 : decode method_3_code 20 = .ok (.iconst 2, 1) := by decide +kernel
theorem d2_21 : decode method_3_code 21 = .ok (.iload_n 2, 1) := by decide +kernel
theorem d2_22 : decode method_3_code 22 = .ok (.iload_n 3, 1) := by decide +kernel
theorem d2_23 : decode method_3_code 23 = .ok (.iload 4, 2) := by decide +kernel
theorem d2_25 : decode method_3_code 25 = .ok (.invokestatic 9, 3) := by decide +kernel
theorem d2_28 : decode method_3_code 28 = .ok (.ladd, 1) := by decide +kernel
theorem d2_29 : decode method_3_code 29 = .ok (.lload_n 0, 1) := by decide +kernel
theorem d2_30 : decode method_3_code 30 = .ok (.iconst 3, 1) := by decide +kernel
theorem d2_31 : decode method_3_code 31 = .ok (.iload_n 2, 1) := by decide +kernel
theorem d2_32 : decode method_3_code 32 = .ok (.iload_n 3, 1) := by decide +kernel
theorem d2_33 : decode method_3_code 33 = .ok (.iload 4, 2) := by decide +kernel
theorem d2_35 : decode method_3_code 35 = .ok (.invokestatic 9, 3) := by decide +kernel
theorem d2_38 : decode method_3_code 38 = .ok (.ladd, 1) := by decide +kernel
theorem d2_39 : decode method_3_code 39 = .ok (.lload_n 0, 1) := by decide +kernel
theorem d2_40 : decode method_3_code 40 = .ok (.iconst 4, 1) := by decide +kernel
theorem d2_41 : decode method_3_code 41 = .ok (.iload_n 2, 1) := by decide +kernel
theorem d2_42 : decode method_3_code 42 = .ok (.iload_n 3, 1) := by decide +kernel
theorem d2_43 : decode method_3_code 43 = .ok (.iload 4, 2) := by decide +kernel
theorem d2_45 : decode method_3_code 45 = .ok (.invokestatic 9, 3) := by decide +kernel
theorem d2_48 : decode method_3_code 48 = .ok (.ladd, 1) := by decide +kernel
theorem d2_49 : decode method_3_code 49 = .ok (.lload_n 0, 1) := by decide +kernel
theorem d2_50 : decode method_3_code 50 = .ok (.iconst 5, 1) := by decide +kernel
theorem d2_51 : decode method_3_code 51 = .ok (.iload_n 2, 1) := by decide +kernel
theorem d2_52 : decode method_3_code 52 = .ok (.iload_n 3, 1) := by decide +kernel
theorem d2_53 : decode method_3_code 53 = .ok (.iload 4, 2) := by decide +kernel
theorem d2_55 : decode method_3_code 55 = .ok (.invokestatic 9, 3) := by decide +kernel
theorem d2_58 : decode method_3_code 58 = .ok (.ladd, 1) := by decide +kernel
theorem d2_59 : decode method_3_code 59 = .ok (.lload_n 0, 1) := by decide +kernel
theorem d2_60 : decode method_3_code 60 = .ok (.bipush 6, 2) := by decide +kernel
theorem d2_62 : decode method_3_code 62 = .ok (.iload_n 2, 1) := by decide +kernel
theorem d2_63 : decode method_3_code 63 = .ok (.iload_n 3, 1) := by decide +kernel
theorem d2_64 : decode method_3_code 64 = .ok (.iload 4, 2) := by decide +kernel
theorem d2_66 : decode method_3_code 66 = .ok (.invokestatic 9, 3) := by decide +kernel
theorem d2_69 : decode method_3_code 69 = .ok (.ladd, 1) := by decide +kernel
theorem d2_70 : decode method_3_code 70 = .ok (.lload_n 0, 1) := by decide +kernel
theorem d2_71 : decode method_3_code 71 = .ok (.bipush 7, 2) := by decide +kernel
theorem d2_73 : decode method_3_code 73 = .ok (.iload_n 2, 1) := by decide +kernel
theorem d2_74 : decode method_3_code 74 = .ok (.iload_n 3, 1) := by decide +kernel
theorem d2_75 : decode method_3_code 75 = .ok (.iload 4, 2) := by decide +kernel
theorem d2_77 : decode method_3_code 77 = .ok (.invokestatic 9, 3) := by decide +kernel
theorem d2_80 : decode method_3_code 80 = .ok (.ladd, 1) := by decide +kernel
theorem d2_81 : decode method_3_code 81 = .ok (.lreturn, 1) := by decide +kernel
theorem pn2 : plainFor (⟨"com/example/brevicode/brevicode/ByteCountsAddPinLaw", "occurrences", "(JIII)J"⟩ : MethodName) = true := plainFor_of_name (by first | (simp [plainName, overriddenIn]; done) | decide +kernel)
theorem ef2 (m : MethodId) (dd : Int64) (off : Int32) (len : Int32) (vv : Int32) : entryFrame m #[(.long dd), (.int off), (.int len), (.int vv)] 5 = mkF m 0 #[.val (.long dd), .second, .val (.int off), .val (.int len), .val (.int vv)] [] := by first | (simp [entryFrame, mkF, argsToLocals, Value.category]; done) | rfl
def Q2 (dd : Int64) (off : Int32) (len : Int32) (vv : Int32) (Z : State) (h0 : Heap) (n0 : Nat) (v : Option Value) (h : Heap) (L : List Loc) : Prop := v = some (.long (occ dd off len vv)) ∧ Fr n0 L ∧ h = h0
set_option maxRecDepth 65536 in
set_option maxHeartbeats 40000000 in
theorem rm2 (l : Launch) (Z : State) (a0 : Array Value) (hw : ∀ d ∈ tables_1, d.before a0 Z = true) (ws : List Jvm.Cond) (dd : Int64) (off : Int32) (len : Int32) (vv : Int32) (h0 : Heap) (n0 : Nat) (Z0 : n0 ≤ h0.size) : Ctr l (⟨"com/example/brevicode/brevicode/ByteCountsAddPinLaw", "occurrences", "(JIII)J"⟩ : MethodName) method_3_code 5 (some .long) ws ({ frames := 1, cells := 0, slots := 0, locals := 19 } : Room) #[(.long dd), (.int off), (.int len), (.int vv)] Z h0 (Q2 dd off len vv Z h0 n0) := by
  refine own_body pn2 ?_
  intro p e s m below meth c T0 hx hby hml hown hnm hret hlk hZ X0 e0
  have N0 := Fr.nil n0
  refine Goes.entry (ef2 m dd off len vv) ?_
  refine g_lloadN X0 hx hby d2_0 rfl 1 rfl ?_
  refine g_iconst X0 hx hby d2_1 (0 : Int32) rfl 2 rfl ?_
  refine g_iloadN X0 hx hby d2_2 rfl 3 rfl ?_
  refine g_iloadN X0 hx hby d2_3 rfl 4 rfl ?_
  refine g_iload X0 hx hby d2_4 rfl 6 rfl ?_
  refine g_callS X0 hx hby hZ hown (hw _ (List.mem_of_getElem? (i := 11) rfl)) (hw _ (List.mem_of_getElem? (i := 12) rfl)) (hw _ (List.mem_of_getElem? (i := 9) rfl)) (hw _ (List.mem_of_getElem? (i := 13) rfl)) d2_6 [(.long dd), (.int (0 : Int32)), (.int off), (.int len), (.int vv)] [] (rm3 l Z a0 hw [] dd (0 : Int32) off len vv h0 n0 Z0) e0 rfl (by rw [hml]; rfl) pd0 rfl (by decide) 0 (Nat.le_of_eq rfl) (by decide) (by decide) (by decide) (by decide) 9 rfl ?_
  intro T1 v1 L1 X1 Q1
  obtain ⟨rfl, N1', e1⟩ := Q1
  have N1 := Fr.app N0 N1'
  show Goes p e below _ (T1.setTop (mkF m 9 _ [(.long (hit dd (0 : Int32) off len vv))]))
  refine g_lloadN X1 hx hby d2_9 rfl 10 rfl ?_
  refine g_iconst X1 hx hby d2_10 (1 : Int32) rfl 11 rfl ?_
  refine g_iloadN X1 hx hby d2_11 rfl 12 rfl ?_
  refine g_iloadN X1 hx hby d2_12 rfl 13 rfl ?_
  refine g_iload X1 hx hby d2_13 rfl 15 rfl ?_
  refine g_callS X1 hx hby hZ hown (hw _ (List.mem_of_getElem? (i := 11) rfl)) (hw _ (List.mem_of_getElem? (i := 12) rfl)) (hw _ (List.mem_of_getElem? (i := 9) rfl)) (hw _ (List.mem_of_getElem? (i := 13) rfl)) d2_15 [(.long dd), (.int (1 : Int32)), (.int off), (.int len), (.int vv)] [(.long (hit dd (0 : Int32) off len vv))] (rm3 l Z a0 hw [] dd (1 : Int32) off len vv h0 n0 Z0) e1 rfl (by rw [hml]; rfl) pd0 rfl (by decide) 2 (Nat.le_of_eq rfl) (by decide) (by decide) (by decide) (by decide) 18 rfl ?_
  intro T2 v2 L2 X2 Q2
  obtain ⟨rfl, N2', e2⟩ := Q2
  have N2 := Fr.app N1 N2'
  show Goes p e below _ (T2.setTop (mkF m 18 _ [(.long (hit dd (1 : Int32) off len vv)), (.long (hit dd (0 : Int32) off len vv))]))
  refine g_ladd X2 hx hby d2_18 19 rfl ?_
  refine g_lloadN X2 hx hby d2_19 rfl 20 rfl ?_
  refine g_iconst X2 hx hby d2_20 (2 : Int32) rfl 21 rfl ?_
  refine g_iloadN X2 hx hby d2_21 rfl 22 rfl ?_
  refine g_iloadN X2 hx hby d2_22 rfl 23 rfl ?_
  refine g_iload X2 hx hby d2_23 rfl 25 rfl ?_
  refine g_callS X2 hx hby hZ hown (hw _ (List.mem_of_getElem? (i := 11) rfl)) (hw _ (List.mem_of_getElem? (i := 12) rfl)) (hw _ (List.mem_of_getElem? (i := 9) rfl)) (hw _ (List.mem_of_getElem? (i := 13) rfl)) d2_25 [(.long dd), (.int (2 : Int32)), (.int off), (.int len), (.int vv)] [(.long ((hit dd (0 : Int32) off len vv) + (hit dd (1 : Int32) off len vv)))] (rm3 l Z a0 hw [] dd (2 : Int32) off len vv h0 n0 Z0) e2 rfl (by rw [hml]; rfl) pd0 rfl (by decide) 2 (Nat.le_of_eq rfl) (by decide) (by decide) (by decide) (by decide) 28 rfl ?_
  intro T3 v3 L3 X3 Q3
  obtain ⟨rfl, N3', e3⟩ := Q3
  have N3 := Fr.app N2 N3'
  show Goes p e below _ (T3.setTop (mkF m 28 _ [(.long (hit dd (2 : Int32) off len vv)), (.long ((hit dd (0 : Int32) off len vv) + (hit dd (1 : Int32) off len vv)))]))
  refine g_ladd X3 hx hby d2_28 29 rfl ?_
  refine g_lloadN X3 hx hby d2_29 rfl 30 rfl ?_
  refine g_iconst X3 hx hby d2_30 (3 : Int32) rfl 31 rfl ?_
  refine g_iloadN X3 hx hby d2_31 rfl 32 rfl ?_
  refine g_iloadN X3 hx hby d2_32 rfl 33 rfl ?_
  refine g_iload X3 hx hby d2_33 rfl 35 rfl ?_
  refine g_callS X3 hx hby hZ hown (hw _ (List.mem_of_getElem? (i := 11) rfl)) (hw _ (List.mem_of_getElem? (i := 12) rfl)) (hw _ (List.mem_of_getElem? (i := 9) rfl)) (hw _ (List.mem_of_getElem? (i := 13) rfl)) d2_35 [(.long dd), (.int (3 : Int32)), (.int off), (.int len), (.int vv)] [(.long (((hit dd (0 : Int32) off len vv) + (hit dd (1 : Int32) off len vv)) + (hit dd (2 : Int32) off len vv)))] (rm3 l Z a0 hw [] dd (3 : Int32) off len vv h0 n0 Z0) e3 rfl (by rw [hml]; rfl) pd0 rfl (by decide) 2 (Nat.le_of_eq rfl) (by decide) (by decide) (by decide) (by decide) 38 rfl ?_
  intro T4 v4 L4 X4 Q4
  obtain ⟨rfl, N4', e4⟩ := Q4
  have N4 := Fr.app N3 N4'
  show Goes p e below _ (T4.setTop (mkF m 38 _ [(.long (hit dd (3 : Int32) off len vv)), (.long (((hit dd (0 : Int32) off len vv) + (hit dd (1 : Int32) off len vv)) + (hit dd (2 : Int32) off len vv)))]))
  refine g_ladd X4 hx hby d2_38 39 rfl ?_
  refine g_lloadN X4 hx hby d2_39 rfl 40 rfl ?_
  refine g_iconst X4 hx hby d2_40 (4 : Int32) rfl 41 rfl ?_
  refine g_iloadN X4 hx hby d2_41 rfl 42 rfl ?_
  refine g_iloadN X4 hx hby d2_42 rfl 43 rfl ?_
  refine g_iload X4 hx hby d2_43 rfl 45 rfl ?_
  refine g_callS X4 hx hby hZ hown (hw _ (List.mem_of_getElem? (i := 11) rfl)) (hw _ (List.mem_of_getElem? (i := 12) rfl)) (hw _ (List.mem_of_getElem? (i := 9) rfl)) (hw _ (List.mem_of_getElem? (i := 13) rfl)) d2_45 [(.long dd), (.int (4 : Int32)), (.int off), (.int len), (.int vv)] [(.long ((((hit dd (0 : Int32) off len vv) + (hit dd (1 : Int32) off len vv)) + (hit dd (2 : Int32) off len vv)) + (hit dd (3 : Int32) off len vv)))] (rm3 l Z a0 hw [] dd (4 : Int32) off len vv h0 n0 Z0) e4 rfl (by rw [hml]; rfl) pd0 rfl (by decide) 2 (Nat.le_of_eq rfl) (by decide) (by decide) (by decide) (by decide) 48 rfl ?_
  intro T5 v5 L5 X5 Q5
  obtain ⟨rfl, N5', e5⟩ := Q5
  have N5 := Fr.app N4 N5'
  show Goes p e below _ (T5.setTop (mkF m 48 _ [(.long (hit dd (4 : Int32) off len vv)), (.long ((((hit dd (0 : Int32) off len vv) + (hit dd (1 : Int32) off len vv)) + (hit dd (2 : Int32) off len vv)) + (hit dd (3 : Int32) off len vv)))]))
  refine g_ladd X5 hx hby d2_48 49 rfl ?_
  refine g_lloadN X5 hx hby d2_49 rfl 50 rfl ?_
  refine g_iconst X5 hx hby d2_50 (5 : Int32) rfl 51 rfl ?_
  refine g_iloadN X5 hx hby d2_51 rfl 52 rfl ?_
  refine g_iloadN X5 hx hby d2_52 rfl 53 rfl ?_
  refine g_iload X5 hx hby d2_53 rfl 55 rfl ?_
  refine g_callS X5 hx hby hZ hown (hw _ (List.mem_of_getElem? (i := 11) rfl)) (hw _ (List.mem_of_getElem? (i := 12) rfl)) (hw _ (List.mem_of_getElem? (i := 9) rfl)) (hw _ (List.mem_of_getElem? (i := 13) rfl)) d2_55 [(.long dd), (.int (5 : Int32)), (.int off), (.int len), (.int vv)] [(.long (((((hit dd (0 : Int32) off len vv) + (hit dd (1 : Int32) off len vv)) + (hit dd (2 : Int32) off len vv)) + (hit dd (3 : Int32) off len vv)) + (hit dd (4 : Int32) off len vv)))] (rm3 l Z a0 hw [] dd (5 : Int32) off len vv h0 n0 Z0) e5 rfl (by rw [hml]; rfl) pd0 rfl (by decide) 2 (Nat.le_of_eq rfl) (by decide) (by decide) (by decide) (by decide) 58 rfl ?_
  intro T6 v6 L6 X6 Q6
  obtain ⟨rfl, N6', e6⟩ := Q6
  have N6 := Fr.app N5 N6'
  show Goes p e below _ (T6.setTop (mkF m 58 _ [(.long (hit dd (5 : Int32) off len vv)), (.long (((((hit dd (0 : Int32) off len vv) + (hit dd (1 : Int32) off len vv)) + (hit dd (2 : Int32) off len vv)) + (hit dd (3 : Int32) off len vv)) + (hit dd (4 : Int32) off len vv)))]))
  refine g_ladd X6 hx hby d2_58 59 rfl ?_
  refine g_lloadN X6 hx hby d2_59 rfl 60 rfl ?_
  refine g_bipush X6 hx hby d2_60 (6 : Int32) rfl 62 rfl ?_
  refine g_iloadN X6 hx hby d2_62 rfl 63 rfl ?_
  refine g_iloadN X6 hx hby d2_63 rfl 64 rfl ?_
  refine g_iload X6 hx hby d2_64 rfl 66 rfl ?_
  refine g_callS X6 hx hby hZ hown (hw _ (List.mem_of_getElem? (i := 11) rfl)) (hw _ (List.mem_of_getElem? (i := 12) rfl)) (hw _ (List.mem_of_getElem? (i := 9) rfl)) (hw _ (List.mem_of_getElem? (i := 13) rfl)) d2_66 [(.long dd), (.int (6 : Int32)), (.int off), (.int len), (.int vv)] [(.long ((((((hit dd (0 : Int32) off len vv) + (hit dd (1 : Int32) off len vv)) + (hit dd (2 : Int32) off len vv)) + (hit dd (3 : Int32) off len vv)) + (hit dd (4 : Int32) off len vv)) + (hit dd (5 : Int32) off len vv)))] (rm3 l Z a0 hw [] dd (6 : Int32) off len vv h0 n0 Z0) e6 rfl (by rw [hml]; rfl) pd0 rfl (by decide) 2 (Nat.le_of_eq rfl) (by decide) (by decide) (by decide) (by decide) 69 rfl ?_
  intro T7 v7 L7 X7 Q7
  obtain ⟨rfl, N7', e7⟩ := Q7
  have N7 := Fr.app N6 N7'
  show Goes p e below _ (T7.setTop (mkF m 69 _ [(.long (hit dd (6 : Int32) off len vv)), (.long ((((((hit dd (0 : Int32) off len vv) + (hit dd (1 : Int32) off len vv)) + (hit dd (2 : Int32) off len vv)) + (hit dd (3 : Int32) off len vv)) + (hit dd (4 : Int32) off len vv)) + (hit dd (5 : Int32) off len vv)))]))
  refine g_ladd X7 hx hby d2_69 70 rfl ?_
  refine g_lloadN X7 hx hby d2_70 rfl 71 rfl ?_
  refine g_bipush X7 hx hby d2_71 (7 : Int32) rfl 73 rfl ?_
  refine g_iloadN X7 hx hby d2_73 rfl 74 rfl ?_
  refine g_iloadN X7 hx hby d2_74 rfl 75 rfl ?_
  refine g_iload X7 hx hby d2_75 rfl 77 rfl ?_
  refine g_callS X7 hx hby hZ hown (hw _ (List.mem_of_getElem? (i := 11) rfl)) (hw _ (List.mem_of_getElem? (i := 12) rfl)) (hw _ (List.mem_of_getElem? (i := 9) rfl)) (hw _ (List.mem_of_getElem? (i := 13) rfl)) d2_77 [(.long dd), (.int (7 : Int32)), (.int off), (.int len), (.int vv)] [(.long (((((((hit dd (0 : Int32) off len vv) + (hit dd (1 : Int32) off len vv)) + (hit dd (2 : Int32) off len vv)) + (hit dd (3 : Int32) off len vv)) + (hit dd (4 : Int32) off len vv)) + (hit dd (5 : Int32) off len vv)) + (hit dd (6 : Int32) off len vv)))] (rm3 l Z a0 hw [] dd (7 : Int32) off len vv h0 n0 Z0) e7 rfl (by rw [hml]; rfl) pd0 rfl (by decide) 2 (Nat.le_of_eq rfl) (by decide) (by decide) (by decide) (by decide) 80 rfl ?_
  intro T8 v8 L8 X8 Q8
  obtain ⟨rfl, N8', e8⟩ := Q8
  have N8 := Fr.app N7 N8'
  show Goes p e below _ (T8.setTop (mkF m 80 _ [(.long (hit dd (7 : Int32) off len vv)), (.long (((((((hit dd (0 : Int32) off len vv) + (hit dd (1 : Int32) off len vv)) + (hit dd (2 : Int32) off len vv)) + (hit dd (3 : Int32) off len vv)) + (hit dd (4 : Int32) off len vv)) + (hit dd (5 : Int32) off len vv)) + (hit dd (6 : Int32) off len vv)))]))
  refine g_ladd X8 hx hby d2_80 81 rfl ?_
  exact g_lreturn X8 hx hby hret hlk d2_81 (by exact ⟨congrArg (fun z => some (Value.long z)) rfl, N8, e8⟩) (by decide) (by decide)
def same (dd : Int64) (f : Nat → Int32) : Int32 := if (f 0) = ((dd.toInt32).toInt8.toInt32) then (if (f 1) = ((((dd.toUInt64 >>> ((8 : Int32) &&& 0x3f).toInt64.toUInt64).toInt64).toInt32).toInt8.toInt32) then (if (f 2) = ((((dd.toUInt64 >>> ((16 : Int32) &&& 0x3f).toInt64.toUInt64).toInt64).toInt32).toInt8.toInt32) then (if (f 3) = ((((dd.toUInt64 >>> ((24 : Int32) &&& 0x3f).toInt64.toUInt64).toInt64).toInt32).toInt8.toInt32) then (if (f 4) = ((((dd.toUInt64 >>> ((32 : Int32) &&& 0x3f).toInt64.toUInt64).toInt64).toInt32).toInt8.toInt32) then (if (f 5) = ((((dd.toUInt64 >>> ((40 : Int32) &&& 0x3f).toInt64.toUInt64).toInt64).toInt32).toInt8.toInt32) then (if (f 6) = ((((dd.toUInt64 >>> ((48 : Int32) &&& 0x3f).toInt64.toUInt64).toInt64).toInt32).toInt8.toInt32) then (if (f 7) = ((((dd.toUInt64 >>> ((56 : Int32) &&& 0x3f).toInt64.toUInt64).toInt64).toInt32).toInt8.toInt32) then ((1 : Int32)) else ((0 : Int32))) else ((0 : Int32))) else ((0 : Int32))) else ((0 : Int32))) else ((0 : Int32))) else ((0 : Int32))) else ((0 : Int32))) else ((0 : Int32))
theorem d4_0 : decode method_4_code 0 = .ok (.aload_n 0, 1) := by decide +kernel
theorem d4_1 : decode method_4_code 1 = .ok (.iconst 0, 1) := by decide +kernel
theorem d4_2 : decode method_4_code 2 = .ok (.baload, 1) := by decide +kernel
theorem d4_3 : decode method_4_code 3 = .ok (.lload_n 1, 1) := by decide +kernel
theorem d4_4 : decode method_4_code 4 = .ok (.l2i, 1) := by decide +kernel
theorem d4_5 : decode method_4_code 5 = .ok (.i2b, 1) := by decide +kernel
theorem d4_6 : decode method_4_code 6 = .ok (.if_icmp .ne 93, 3) := by decide +kernel
theorem d4_9 : decode method_4_code 9 = .ok (.aload_n 0, 1) := by decide +kernel
theorem d4_10 : decode method_4_code 10 = .ok (.iconst 1, 1) := by decide +kernel
theorem d4_11 : decode method_4_code 11 = .ok (.baload, 1) := by decide +kernel
theorem d4_12 : decode method_4_code 12 = .ok (.lload_n 1, 1) := by decide +kernel
theorem d4_13 : decode method_4_code 13 = .ok (.bipush 8, 2) := by decide +kernel
theorem d4_15 : decode method_4_code 15 = .ok (.lushr, 1) := by decide +kernel
theorem d4_16 : decode method_4_code 16 = .ok (.l2i, 1) := by decide +kernel
theorem d4_17 : decode method_4_code 17 = .ok (.i2b, 1) := by decide +kernel
theorem d4_18 : decode method_4_code 18 = .ok (.if_icmp .ne 81, 3) := by decide +kernel
theorem d4_21 : decode method_4_code 21 = .ok (.aload_n 0, 1) := by decide +kernel
theorem d4_22 : decode method_4_code 22 = .ok (.iconst 2, 1) := by decide +kernel
theorem d4_23 : decode method_4_code 23 = .ok (.baload, 1) := by decide +kernel
theorem d4_24 : decode method_4_code 24 = .ok (.lload_n 1, 1) := by decide +kernel
theorem d4_25 : decode method_4_code 25 = .ok (.bipush 16, 2) := by decide +kernel
theorem d4_27 : decode method_4_code 27 = .ok (.lushr, 1) := by decide +kernel
theorem d4_28 : decode method_4_code 28 = .ok (.l2i, 1) := by decide +kernel
theorem d4_29 : decode method_4_code 29 = .ok (.i2b, 1) := by decide +kernel
theorem d4_30 : decode method_4_code 30 = .ok (.if_icmp .ne 69, 3) := by decide +kernel
theorem d4_33 : decode method_4_code 33 = .ok (.aload_n 0, 1) := by decide +kernel
theorem d4_34 : decode method_4_code 34 = .ok (.iconst 3, 1) := by decide +kernel
theorem d4_35 : decode method_4_code 35 = .ok (.baload, 1) := by decide +kernel
theorem d4_36 : decode method_4_code 36 = .ok (.lload_n 1, 1) := by decide +kernel
theorem d4_37 : decode method_4_code 37 = .ok (.bipush 24, 2) := by decide +kernel
theorem d4_39 : decode method_4_code 39 = .ok (.lushr, 1) := by decide +kernel
theorem d4_40 : decode method_4_code 40 = .ok (.l2i, 1) := by decide +kernel
theorem d4_41 : decode method_4_code 41 = .ok (.i2b, 1) := by decide +kernel
theorem d4_42 : decode method_4_code 42 = .ok (.if_icmp .ne 57, 3) := by decide +kernel
theorem d4_45 : decode method_4_code 45 = .ok (.aload_n 0, 1) := by decide +kernel
theorem d4_46 : decode method_4_code 46 = .ok (.iconst 4, 1) := by decide +kernel
theorem d4_47 : decode method_4_code 47 = .ok (.baload, 1) := by decide +kernel
theorem d4_48 : decode method_4_code 48 = .ok (.lload_n 1, 1) := by decide +kernel
theorem d4_49 : decode method_4_code 49 = .ok (.bipush 32, 2) := by decide +kernel
theorem d4_51 : decode method_4_code 51 = .ok (.lushr, 1) := by decide +kernel
theorem d4_52 : decode method_4_code 52 = .ok (.l2i, 1) := by decide +kernel
theorem d4_53 : decode method_4_code 53 = .ok (.i2b, 1) := by decide +kernel
theorem d4_54 : decode method_4_code 54 = .ok (.if_icmp .ne 45, 3) := by decide +kernel
theorem d4_57 : decode method_4_code 57 = .ok (.aload_n 0, 1) := by decide +kernel
theorem d4_58 : decode method_4_code 58 = .ok (.iconst 5, 1) := by decide +kernel
theorem d4_59 : decode method_4_code 59 = .ok (.baload, 1) := by decide +kernel
theorem d4_60 : decode method_4_code 60 = .ok (.lload_n 1, 1) := by decide +kernel
theorem d4_61 : decode method_4_code 61 = .ok (.bipush 40, 2) := by decide +kernel
theorem d4_63 : decode method_4_code 63 = .ok (.lushr, 1) := by decide +kernel
theorem d4_64 : decode method_4_code 64 = .ok (.l2i, 1) := by decide +kernel
theorem d4_65 : decode method_4_code 65 = .ok (.i2b, 1) := by decide +kernel
theorem d4_66 : decode method_4_code 66 = .ok (.if_icmp .ne 33, 3) := by decide +kernel
theorem d4_69 : decode method_4_code 69 = .ok (.aload_n 0, 1) := by decide +kernel
theorem d4_70 : decode method_4_code 70 = .ok (.bipush 6, 2) := by decide +kernel
theorem d4_72 : decode method_4_code 72 = .ok (.baload, 1) := by decide +kernel
theorem d4_73 : decode method_4_code 73 = .ok (.lload_n 1, 1) := by decide +kernel
theorem d4_74 : decode method_4_code 74 = .ok (.bipush 48, 2) := by decide +kernel
theorem d4_76 : decode method_4_code 76 = .ok (.lushr, 1) := by decide +kernel
theorem d4_77 : decode method_4_code 77 = .ok (.l2i, 1) := by decide +kernel
theorem d4_78 : decode method_4_code 78 = .ok (.i2b, 1) := by decide +kernel
theorem d4_79 : decode method_4_code 79 = .ok (.if_icmp .ne 20, 3) := by decide +kernel
theorem d4_82 : decode method_4_code 82 = .ok (.aload_n 0, 1) := by decide +kernel
theorem d4_83 : decode method_4_code 83 = .ok (.bipush 7, 2) := by decide +kernel
theorem d4_85 : decode method_4_code 85 = .ok (.baload, 1) := by decide +kernel
theorem d4_86 : decode method_4_code 86 = .ok (.lload_n 1, 1) := by decide +kernel
theorem d4_87 : decode method_4_code 87 = .ok (.bipush 56, 2) := by decide +kernel
theorem d4_89 : decode method_4_code 89 = .ok (.lushr, 1) := by decide +kernel
theorem d4_90 : decode method_4_code 90 = .ok (.l2i, 1) := by decide +kernel
theorem d4_91 : decode method_4_code 91 = .ok (.i2b, 1) := by decide +kernel
theorem d4_92 : decode method_4_code 92 = .ok (.if_icmp .ne 7, 3) := by decide +kernel
theorem d4_95 : decode method_4_code 95 = .ok (.iconst 1, 1) := by decide +kernel
theorem d4_96 : decode method_4_code 96 = .ok (.goto 4, 3) := by decide +kernel
theorem d4_99 : decode method_4_code 99 = .ok (.iconst 0, 1) := by decide +kernel
theorem d4_100 : decode method_4_code 100 = .ok (.ireturn, 1) := by decide +kernel
theorem pn4 : plainFor (⟨"com/example/brevicode/brevicode/ByteCountsAddPinLaw", "same", "([BJ)Z"⟩ : MethodName) = true := plainFor_of_name (by first | (simp [plainName, overriddenIn]; done) | decide +kernel)
theorem ef4 (m : MethodId) (dt : Addr) (dd : Int64) (f : Nat → Int32) : entryFrame m #[(.ref dt), (.long dd)] 3 = mkF m 0 #[.val (.ref dt), .val (.long dd), .second] [] := by first | (simp [entryFrame, mkF, argsToLocals, Value.category]; done) | rfl
def Q4 (dt : Addr) (dd : Int64) (f : Nat → Int32) (Z : State) (h0 : Heap) (n0 : Nat) (v : Option Value) (h : Heap) (L : List Loc) : Prop := v = some (.int (same dd f)) ∧ Fr n0 L ∧ h = h0
set_option maxRecDepth 65536 in
set_option maxHeartbeats 40000000 in
theorem rm4 (l : Launch) (Z : State) (a0 : Array Value) (hw : ∀ d ∈ tables_1, d.before a0 Z = true) (ws : List Jvm.Cond) (dt : Addr) (dd : Int64) (f : Nat → Int32) (h0 : Heap) (n0 : Nat) (Z0 : n0 ≤ h0.size) (A_dt_0 : AI Z h0 dt .byte 8 f) : Ctr l (⟨"com/example/brevicode/brevicode/ByteCountsAddPinLaw", "same", "([BJ)Z"⟩ : MethodName) method_4_code 3 (some .boolean) ws ({ frames := 0, cells := 0, slots := 0, locals := 0 } : Room) #[(.ref dt), (.long dd)] Z h0 (Q4 dt dd f Z h0 n0) := by
  refine own_body pn4 ?_
  intro p e s m below meth c T0 hx hby hml hown hnm hret hlk hZ X0 e0
  have N0 := Fr.nil n0
  refine Goes.entry (ef4 m dt dd f) ?_
  refine g_aloadN X0 hx hby d4_0 rfl rfl 1 rfl ?_
  refine g_iconst X0 hx hby d4_1 (0 : Int32) rfl 2 rfl ?_
  refine g_baload X0 hx hby hZ e0 A_dt_0 d4_2 (by decide) 0 rfl (by decide) (f 0) rfl 3 rfl ?_
  refine g_lloadN X0 hx hby d4_3 rfl 4 rfl ?_
  refine g_l2i X0 hx hby d4_4 5 rfl ?_
  refine g_i2b X0 hx hby d4_5 6 rfl ?_
  refine g_icmp_ne X0 hx hby d4_6 99 9 (by decide) (by decide) rfl (fun c1 => ?_) (fun c1 => ?_)
  · -- c1
    refine g_aloadN X0 hx hby d4_9 rfl rfl 10 rfl ?_
    refine g_iconst X0 hx hby d4_10 (1 : Int32) rfl 11 rfl ?_
    refine g_baload X0 hx hby hZ e0 A_dt_0 d4_11 (by decide) 1 rfl (by decide) (f 1) rfl 12 rfl ?_
    refine g_lloadN X0 hx hby d4_12 rfl 13 rfl ?_
    refine g_bipush X0 hx hby d4_13 (8 : Int32) rfl 15 rfl ?_
    refine g_lushr X0 hx hby d4_15 16 rfl ?_
    refine g_l2i X0 hx hby d4_16 17 rfl ?_
    refine g_i2b X0 hx hby d4_17 18 rfl ?_
    refine g_icmp_ne X0 hx hby d4_18 99 21 (by decide) (by decide) rfl (fun c2 => ?_) (fun c2 => ?_)
    · -- c2
      refine g_aloadN X0 hx hby d4_21 rfl rfl 22 rfl ?_
      refine g_iconst X0 hx hby d4_22 (2 : Int32) rfl 23 rfl ?_
      refine g_baload X0 hx hby hZ e0 A_dt_0 d4_23 (by decide) 2 rfl (by decide) (f 2) rfl 24 rfl ?_
      refine g_lloadN X0 hx hby d4_24 rfl 25 rfl ?_
      refine g_bipush X0 hx hby d4_25 (16 : Int32) rfl 27 rfl ?_
      refine g_lushr X0 hx hby d4_27 28 rfl ?_
      refine g_l2i X0 hx hby d4_28 29 rfl ?_
      refine g_i2b X0 hx hby d4_29 30 rfl ?_
      refine g_icmp_ne X0 hx hby d4_30 99 33 (by decide) (by decide) rfl (fun c3 => ?_) (fun c3 => ?_)
      · -- c3
        refine g_aloadN X0 hx hby d4_33 rfl rfl 34 rfl ?_
        refine g_iconst X0 hx hby d4_34 (3 : Int32) rfl 35 rfl ?_
        refine g_baload X0 hx hby hZ e0 A_dt_0 d4_35 (by decide) 3 rfl (by decide) (f 3) rfl 36 rfl ?_
        refine g_lloadN X0 hx hby d4_36 rfl 37 rfl ?_
        refine g_bipush X0 hx hby d4_37 (24 : Int32) rfl 39 rfl ?_
        refine g_lushr X0 hx hby d4_39 40 rfl ?_
        refine g_l2i X0 hx hby d4_40 41 rfl ?_
        refine g_i2b X0 hx hby d4_41 42 rfl ?_
        refine g_icmp_ne X0 hx hby d4_42 99 45 (by decide) (by decide) rfl (fun c4 => ?_) (fun c4 => ?_)
        · -- c4
          refine g_aloadN X0 hx hby d4_45 rfl rfl 46 rfl ?_
          refine g_iconst X0 hx hby d4_46 (4 : Int32) rfl 47 rfl ?_
          refine g_baload X0 hx hby hZ e0 A_dt_0 d4_47 (by decide) 4 rfl (by decide) (f 4) rfl 48 rfl ?_
          refine g_lloadN X0 hx hby d4_48 rfl 49 rfl ?_
          refine g_bipush X0 hx hby d4_49 (32 : Int32) rfl 51 rfl ?_
          refine g_lushr X0 hx hby d4_51 52 rfl ?_
          refine g_l2i X0 hx hby d4_52 53 rfl ?_
          refine g_i2b X0 hx hby d4_53 54 rfl ?_
          refine g_icmp_ne X0 hx hby d4_54 99 57 (by decide) (by decide) rfl (fun c5 => ?_) (fun c5 => ?_)
          · -- c5
            refine g_aloadN X0 hx hby d4_57 rfl rfl 58 rfl ?_
            refine g_iconst X0 hx hby d4_58 (5 : Int32) rfl 59 rfl ?_
            refine g_baload X0 hx hby hZ e0 A_dt_0 d4_59 (by decide) 5 rfl (by decide) (f 5) rfl 60 rfl ?_
            refine g_lloadN X0 hx hby d4_60 rfl 61 rfl ?_
            refine g_bipush X0 hx hby d4_61 (40 : Int32) rfl 63 rfl ?_
            refine g_lushr X0 hx hby d4_63 64 rfl ?_
            refine g_l2i X0 hx hby d4_64 65 rfl ?_
            refine g_i2b X0 hx hby d4_65 66 rfl ?_
            refine g_icmp_ne X0 hx hby d4_66 99 69 (by decide) (by decide) rfl (fun c6 => ?_) (fun c6 => ?_)
            · -- c6
              refine g_aloadN X0 hx hby d4_69 rfl rfl 70 rfl ?_
              refine g_bipush X0 hx hby d4_70 (6 : Int32) rfl 72 rfl ?_
              refine g_baload X0 hx hby hZ e0 A_dt_0 d4_72 (by decide) 6 rfl (by decide) (f 6) rfl 73 rfl ?_
              refine g_lloadN X0 hx hby d4_73 rfl 74 rfl ?_
              refine g_bipush X0 hx hby d4_74 (48 : Int32) rfl 76 rfl ?_
              refine g_lushr X0 hx hby d4_76 77 rfl ?_
              refine g_l2i X0 hx hby d4_77 78 rfl ?_
              refine g_i2b X0 hx hby d4_78 79 rfl ?_
              refine g_icmp_ne X0 hx hby d4_79 99 82 (by decide) (by decide) rfl (fun c7 => ?_) (fun c7 => ?_)
              · -- c7
                refine g_aloadN X0 hx hby d4_82 rfl rfl 83 rfl ?_
                refine g_bipush X0 hx hby d4_83 (7 : Int32) rfl 85 rfl ?_
                refine g_baload X0 hx hby hZ e0 A_dt_0 d4_85 (by decide) 7 rfl (by decide) (f 7) rfl 86 rfl ?_
                refine g_lloadN X0 hx hby d4_86 rfl 87 rfl ?_
                refine g_bipush X0 hx hby d4_87 (56 : Int32) rfl 89 rfl ?_
                refine g_lushr X0 hx hby d4_89 90 rfl ?_
                refine g_l2i X0 hx hby d4_90 91 rfl ?_
                refine g_i2b X0 hx hby d4_91 92 rfl ?_
                refine g_icmp_ne X0 hx hby d4_92 99 95 (by decide) (by decide) rfl (fun c8 => ?_) (fun c8 => ?_)
                · -- c8
                  refine g_iconst X0 hx hby d4_95 (1 : Int32) rfl 96 rfl ?_
                  refine g_goto X0 hx hby d4_96 100 (by decide) (by decide) ?_
                  exact g_ireturn X0 hx hby hret hlk (Or.inr (Or.inl rfl)) (nar_bool (Or.inr rfl)) d4_100 (by exact ⟨congrArg (fun z => some (Value.int z)) ((if_pos c1).trans ((if_pos c2).trans ((if_pos c3).trans ((if_pos c4).trans ((if_pos c5).trans ((if_pos c6).trans ((if_pos c7).trans (if_pos c8)))))))).symm, N0, e0⟩) (by decide) (by decide)
                · -- not c8
                  refine g_iconst X0 hx hby d4_99 (0 : Int32) rfl 100 rfl ?_
                  exact g_ireturn X0 hx hby hret hlk (Or.inr (Or.inl rfl)) (nar_bool (Or.inl rfl)) d4_100 (by exact ⟨congrArg (fun z => some (Value.int z)) ((if_pos c1).trans ((if_pos c2).trans ((if_pos c3).trans ((if_pos c4).trans ((if_pos c5).trans ((if_pos c6).trans ((if_pos c7).trans (if_neg c8)))))))).symm, N0, e0⟩) (by decide) (by decide)
              · -- not c7
                refine g_iconst X0 hx hby d4_99 (0 : Int32) rfl 100 rfl ?_
                exact g_ireturn X0 hx hby hret hlk (Or.inr (Or.inl rfl)) (nar_bool (Or.inl rfl)) d4_100 (by exact ⟨congrArg (fun z => some (Value.int z)) ((if_pos c1).trans ((if_pos c2).trans ((if_pos c3).trans ((if_pos c4).trans ((if_pos c5).trans ((if_pos c6).trans (if_neg c7))))))).symm, N0, e0⟩) (by decide) (by decide)
            · -- not c6
              refine g_iconst X0 hx hby d4_99 (0 : Int32) rfl 100 rfl ?_
              exact g_ireturn X0 hx hby hret hlk (Or.inr (Or.inl rfl)) (nar_bool (Or.inl rfl)) d4_100 (by exact ⟨congrArg (fun z => some (Value.int z)) ((if_pos c1).trans ((if_pos c2).trans ((if_pos c3).trans ((if_pos c4).trans ((if_pos c5).trans (if_neg c6)))))).symm, N0, e0⟩) (by decide) (by decide)
          · -- not c5
            refine g_iconst X0 hx hby d4_99 (0 : Int32) rfl 100 rfl ?_
            exact g_ireturn X0 hx hby hret hlk (Or.inr (Or.inl rfl)) (nar_bool (Or.inl rfl)) d4_100 (by exact ⟨congrArg (fun z => some (Value.int z)) ((if_pos c1).trans ((if_pos c2).trans ((if_pos c3).trans ((if_pos c4).trans (if_neg c5))))).symm, N0, e0⟩) (by decide) (by decide)
        · -- not c4
          refine g_iconst X0 hx hby d4_99 (0 : Int32) rfl 100 rfl ?_
          exact g_ireturn X0 hx hby hret hlk (Or.inr (Or.inl rfl)) (nar_bool (Or.inl rfl)) d4_100 (by exact ⟨congrArg (fun z => some (Value.int z)) ((if_pos c1).trans ((if_pos c2).trans ((if_pos c3).trans (if_neg c4)))).symm, N0, e0⟩) (by decide) (by decide)
      · -- not c3
        refine g_iconst X0 hx hby d4_99 (0 : Int32) rfl 100 rfl ?_
        exact g_ireturn X0 hx hby hret hlk (Or.inr (Or.inl rfl)) (nar_bool (Or.inl rfl)) d4_100 (by exact ⟨congrArg (fun z => some (Value.int z)) ((if_pos c1).trans ((if_pos c2).trans (if_neg c3))).symm, N0, e0⟩) (by decide) (by decide)
    · -- not c2
      refine g_iconst X0 hx hby d4_99 (0 : Int32) rfl 100 rfl ?_
      exact g_ireturn X0 hx hby hret hlk (Or.inr (Or.inl rfl)) (nar_bool (Or.inl rfl)) d4_100 (by exact ⟨congrArg (fun z => some (Value.int z)) ((if_pos c1).trans (if_neg c2)).symm, N0, e0⟩) (by decide) (by decide)
  · -- not c1
    refine g_iconst X0 hx hby d4_99 (0 : Int32) rfl 100 rfl ?_
    exact g_ireturn X0 hx hby hret hlk (Or.inr (Or.inl rfl)) (nar_bool (Or.inl rfl)) d4_100 (by exact ⟨congrArg (fun z => some (Value.int z)) (if_neg c1).symm, N0, e0⟩) (by decide) (by decide)
theorem own_byte (x : Int64) : (x.toInt32.toInt8.toInt32 &&& (255 : Int32)) = (x &&& (255 : Int64)).toInt32 := by
  apply Int32.toInt_inj.mp
  have h1 := c_mask x.toInt32.toInt8.toInt32 255 8 (by decide) (by decide)
  have h2 := c_i2b x.toInt32
  have h3 := c_l2i x
  have h4 := c_maskL x 255 8 (by decide) (by decide)
  have h5 := c_l2i (x &&& (255 : Int64))
  have h6 := rng32 (x &&& (255 : Int64)).toInt32
  have e1 : ((2 ^ 8 : Nat) : Int) = 256 := by decide
  rw [e1] at h1 h4
  omega
theorem own_eqv {a v : Int32} (ha : 0 ≤ a.toInt) (hv : 0 ≤ v.toInt) : a.toNatClampNeg = v.toNatClampNeg ↔ a = v := by
  constructor
  · intro h; apply Int32.toInt_inj.mp; have : a.toInt.toNat = v.toInt.toNat := h; omega
  · rintro rfl; rfl
theorem own_rem9 (y off : Int32) (ho : 0 ≤ off.toInt ∧ off.toInt < 9) : (9 : Int32) - off ≠ 0 ∧ 0 ≤ ((y &&& (2147483647 : Int32)) % (9 - off)).toInt ∧ off.toInt + ((y &&& (2147483647 : Int32)) % (9 - off)).toInt ≤ 8 := by
  have h1 := c_isub 9 off
  have h2 := rng32 (9 - off)
  have e9 : (9 : Int32).toInt = 9 := rfl
  have h3 := own_and31 y
  have h4 := (c_iremV (y &&& (2147483647 : Int32)) (9 - off)).1 (by omega) (by omega)
  refine ⟨fun q => ?_, by omega, by omega⟩
  have : (9 - off).toInt = 0 := by rw [q]; rfl
  omega
theorem own_cl {j : Int32} (h : 0 ≤ j.toInt) : j.toInt = (j.toNatClampNeg : Nat) := by
  show j.toInt = (j.toInt.toNat : Int); omega
theorem own_sum8 {off len : Int32} (ho : 0 ≤ off.toInt) (hl : 0 ≤ len.toInt) (h : off.toInt + len.toInt ≤ 8) : off.toNatClampNeg + len.toNatClampNeg ≤ 8 := by
  show off.toInt.toNat + len.toInt.toNat ≤ 8; omega
theorem own_alc (a b c : Int64) : a + (b + c) = b + (a + c) := by rw [← Int64.add_assoc, Int64.add_comm a b, Int64.add_assoc]
def B8 (dd : Int64) (k : Nat) : Int32 := (((dd.toUInt64 >>> ((((8 : Int32) * Int32.ofNat k)) &&& 0x3f).toInt64.toUInt64).toInt64) &&& (255 : Int64)).toInt32
theorem hit_at (dd : Int64) (K off len vv : Int32) (k on ln : Nat) (hK : K = Int32.ofNat k) (hk : k < 8) (ho : off.toInt = on) (hl : len.toInt = ln) (hE : on + ln ≤ 8) : hit dd K off len vv = if on ≤ k ∧ k < on + ln ∧ B8 dd k = vv then 1 else 0 := by
  have eK : K.toInt = k := by rw [hK]; exact len_toInt (by omega)
  have a1 := c_iadd off len
  have a2 := rng32 (off + len)
  have q1 : K < off ↔ k < on := by rw [Int32.lt_iff_toInt_lt]; omega
  have q2 : K < off + len ↔ k < on + ln := by rw [Int32.lt_iff_toInt_lt]; omega
  unfold hit
  simp only [q1, q2]
  subst hK
  show (if k < on then (0 : Int64) else if k < on + ln then (if B8 dd k = vv then 1 else 0) else 0) = _
  by_cases c1 : k < on
  · have : ¬ on ≤ k := by omega
    simp [c1, this]
  · have c1' : on ≤ k := by omega
    by_cases c2 : k < on + ln
    · simp [c1, c1', c2]
    · simp [c1, c2]
theorem occN_eq (fb : Nat → Int32) (v : Nat) (b : Nat → Prop) [DecidablePred b] (hb : ∀ k, k < 8 → (bix (fb k) = v ↔ b k)) : ∀ (ln on : Nat), on + ln ≤ 8 → occN fb v on ln =
    (((((((if on ≤ 0 ∧ 0 < on + ln ∧ b 0 then (1 : Int64) else 0) + (if on ≤ 1 ∧ 1 < on + ln ∧ b 1 then 1 else 0)) + (if on ≤ 2 ∧ 2 < on + ln ∧ b 2 then 1 else 0)) + (if on ≤ 3 ∧ 3 < on + ln ∧ b 3 then 1 else 0)) + (if on ≤ 4 ∧ 4 < on + ln ∧ b 4 then 1 else 0)) + (if on ≤ 5 ∧ 5 < on + ln ∧ b 5 then 1 else 0)) + (if on ≤ 6 ∧ 6 < on + ln ∧ b 6 then 1 else 0)) + (if on ≤ 7 ∧ 7 < on + ln ∧ b 7 then 1 else 0) := by
  intro ln
  induction ln with
  | zero =>
    intro on h
    have n : ∀ k, ¬ (on ≤ k ∧ k < on + 0 ∧ b k) := fun k q => by omega
    simp only [occN, n, if_false]
    rfl
  | succ ln ih =>
    intro on h
    have e : on + 1 + ln = on + (ln + 1) := by omega
    rw [occN, ih (on + 1) (by omega), e]
    have hon : on < 8 := by omega
    have hcond : (bix (fb on) = v) = b on := propext (hb on hon)
    simp only [hcond]
    have T : ∀ k, (on + 1 ≤ k ∧ k < on + (ln + 1) ∧ b k) = (on ≤ k ∧ k < on + (ln + 1) ∧ b k ∧ k ≠ on) := fun k => propext ⟨fun ⟨a, c, d⟩ => ⟨by omega, c, d, by omega⟩, fun ⟨a, c, d, f⟩ => ⟨by omega, c, d⟩⟩
    simp only [T]
    match on, hon with
    | 0, _ => by_cases q : b 0 <;> simp [q, Int64.add_assoc, Int64.add_comm, own_alc]
    | 1, _ => by_cases q : b 1 <;> simp [q, Int64.add_assoc, Int64.add_comm, own_alc]
    | 2, _ => by_cases q : b 2 <;> simp [q, Int64.add_assoc, Int64.add_comm, own_alc]
    | 3, _ => by_cases q : b 3 <;> simp [q, Int64.add_assoc, Int64.add_comm, own_alc]
    | 4, _ => by_cases q : b 4 <;> simp [q, Int64.add_assoc, Int64.add_comm, own_alc]
    | 5, _ => by_cases q : b 5 <;> simp [q, Int64.add_assoc, Int64.add_comm, own_alc]
    | 6, _ => by_cases q : b 6 <;> simp [q, Int64.add_assoc, Int64.add_comm, own_alc]
    | 7, _ => by_cases q : b 7 <;> simp [q, Int64.add_assoc, Int64.add_comm, own_alc]
theorem own_occ {dd : Int64} {fb : Nat → Int32} {off len vv : Int32} {on ln : Nat} (ho : off.toInt = on) (hl : len.toInt = ln) (hE : on + ln ≤ 8) (hf : ∀ k, k < 8 → (bix (fb k) = vv.toNatClampNeg ↔ B8 dd k = vv)) :
    occN fb vv.toNatClampNeg on ln = occ dd off len vv := by
  rw [occN_eq fb _ (fun k => B8 dd k = vv) hf ln on hE]
  unfold occ
  rw [hit_at dd 0 off len vv 0 on ln rfl (by decide) ho hl hE, hit_at dd 1 off len vv 1 on ln rfl (by decide) ho hl hE, hit_at dd 2 off len vv 2 on ln rfl (by decide) ho hl hE, hit_at dd 3 off len vv 3 on ln rfl (by decide) ho hl hE, hit_at dd 4 off len vv 4 on ln rfl (by decide) ho hl hE, hit_at dd 5 off len vv 5 on ln rfl (by decide) ho hl hE, hit_at dd 6 off len vv 6 on ln rfl (by decide) ho hl hE, hit_at dd 7 off len vv 7 on ln rfl (by decide) ho hl hE]
def datB (dd : Int64) : Nat → Int32 := upd (upd (upd (upd (upd (upd (upd (upd (fun _ => (0 : Int32)) 0 ((dd.toInt32).toInt8.toInt32)) 1 ((((dd.toUInt64 >>> ((8 : Int32) &&& 0x3f).toInt64.toUInt64).toInt64).toInt32).toInt8.toInt32)) 2 ((((dd.toUInt64 >>> ((16 : Int32) &&& 0x3f).toInt64.toUInt64).toInt64).toInt32).toInt8.toInt32)) 3 ((((dd.toUInt64 >>> ((24 : Int32) &&& 0x3f).toInt64.toUInt64).toInt64).toInt32).toInt8.toInt32)) 4 ((((dd.toUInt64 >>> ((32 : Int32) &&& 0x3f).toInt64.toUInt64).toInt64).toInt32).toInt8.toInt32)) 5 ((((dd.toUInt64 >>> ((40 : Int32) &&& 0x3f).toInt64.toUInt64).toInt64).toInt32).toInt8.toInt32)) 6 ((((dd.toUInt64 >>> ((48 : Int32) &&& 0x3f).toInt64.toUInt64).toInt64).toInt32).toInt8.toInt32)) 7 ((((dd.toUInt64 >>> ((56 : Int32) &&& 0x3f).toInt64.toUInt64).toInt64).toInt32).toInt8.toInt32)
theorem shr0 (x : Int64) : ((x.toUInt64 >>> ((((8 : Int32) * Int32.ofNat 0)) &&& 0x3f).toInt64.toUInt64).toInt64) = x := by
  show (x.toUInt64 >>> (0 : UInt64)).toInt64 = x
  simp
theorem own_f {dd : Int64} {vv : Int32} (hv : 0 ≤ vv.toInt) : ∀ k, k < 8 → (bix (datB dd k) = vv.toNatClampNeg ↔ B8 dd k = vv) := by
  intro k hk
  have key : (datB dd k &&& (255 : Int32)) = B8 dd k := by
    unfold B8
    match k, hk with
    | 0, _ => rw [shr0]; exact own_byte dd
    | 1, _ => exact own_byte _
    | 2, _ => exact own_byte _
    | 3, _ => exact own_byte _
    | 4, _ => exact own_byte _
    | 5, _ => exact own_byte _
    | 6, _ => exact own_byte _
    | 7, _ => exact own_byte _
  have h := own_u8 (datB dd k)
  unfold bix
  rw [key] at h ⊢
  exact own_eqv h.1 hv
theorem own_same (dd : Int64) : ¬ same dd (datB dd) = 0 := by
  have : same dd (datB dd) = 1 := by simp [same, datB, upd]
  rw [this]; decide
theorem own_v {dd cc : Int64} {off len vv : Int32} {on ln : Nat} (hv : 0 ≤ vv.toInt) (ho : off.toInt = on) (hl : len.toInt = ln) (hE : on + ln ≤ 8) : cnts (datB dd) on ln (upd (fun _ => (0 : Int64)) vv.toNatClampNeg cc) vv.toNatClampNeg = cc + occ dd off len vv := by
  rw [cnts_at, upd_hit, own_occ ho hl hE (own_f hv)]
theorem own_w {dd cc : Int64} {off len vv ww : Int32} {on ln : Nat} (hv : 0 ≤ vv.toInt) (hw : 0 ≤ ww.toInt) (hne : ¬ ww = vv) (ho : off.toInt = on) (hl : len.toInt = ln) (hE : on + ln ≤ 8) : cnts (datB dd) on ln (upd (fun _ => (0 : Int64)) vv.toNatClampNeg cc) ww.toNatClampNeg = occ dd off len ww := by
  rw [cnts_at, upd_miss _ _ (fun q => hne ((own_eqv hw hv).mp q)), own_occ ho hl hE (own_f hw), Int64.zero_add]

theorem pd1 : parseMethodDescriptor "([J[BII)V" = some ⟨[(.array .long), (.array .byte), .int, .int], none⟩ := by decide +kernel
theorem pd2 : parseMethodDescriptor "(JIII)J" = some ⟨[.long, .int, .int, .int], some .long⟩ := by decide +kernel
theorem pd3 : parseMethodDescriptor "([BJ)Z" = some ⟨[(.array .byte), .long], some .boolean⟩ := by decide +kernel
theorem pn0 : plainFor (⟨"com/example/brevicode/brevicode/ByteCountsAddPinLaw", "law", "(JIIIJ)Z"⟩ : MethodName) = true := plainFor_of_name (by first | (simp [plainName, overriddenIn]; done) | decide +kernel)
theorem ef0 (m : MethodId) (dd : Int64) (oo : Int32) (ll : Int32) (pp : Int32) (cc : Int64) : entryFrame m #[(.long dd), (.int oo), (.int ll), (.int pp), (.long cc)] maxLocals = mkF m 0 #[.val (.long dd), .second, .val (.int oo), .val (.int ll), .val (.int pp), .val (.long cc), .second, .unset, .unset, .unset, .unset, .unset, .unset, .unset] [] := by first | (simp [entryFrame, mkF, argsToLocals, Value.category, maxLocals]; done) | rfl
def Q0 (dd : Int64) (oo : Int32) (ll : Int32) (pp : Int32) (cc : Int64) (Z : State) (h0 : Heap) (n0 : Nat) (v : Option Value) (h : Heap) (L : List Loc) : Prop := v = some (.int 1) ∧ Fr n0 L
set_option maxRecDepth 65536 in
set_option maxHeartbeats 40000000 in
theorem rm0 (l : Launch) (Z : State) (a0 : Array Value) (hw : ∀ d ∈ tables_1, d.before a0 Z = true) (ws : List Jvm.Cond) (dd : Int64) (oo : Int32) (ll : Int32) (pp : Int32) (cc : Int64) (h0 : Heap) (n0 : Nat) (Z0 : n0 ≤ h0.size) : Ctr l x code maxLocals ret ws room_1 #[(.long dd), (.int oo), (.int ll), (.int pp), (.long cc)] Z h0 (Q0 dd oo ll pp cc Z h0 n0) := by
  refine own_body pn0 ?_
  intro p e s m below meth c T0 hx hby hml hown hnm hret hlk hZ X0 e0
  have N0 := Fr.nil n0
  refine Goes.entry (ef0 m dd oo ll pp cc) ?_
  refine g_bipush X0 hx hby at_0 (8 : Int32) rfl 2 rfl ?_
  refine g_newarray X0 hx hby hZ (hw _ (List.mem_of_getElem? (i := 0) rfl)) e0 at_2 (by decide) 8 rfl 8 (by decide) (by decide) (by decide) (by decide) 4 rfl ?_
  intro T1 h1 b1 g1 X1 e1 E1 A1
  have gn_b1 : n0 ≤ b1 := Nat.le_trans Z0 (Nat.le_of_eq g1.symm)
  have Z1 : n0 ≤ h1.size := Nat.le_trans Z0 E1.1
  have Vb1 : AI Z h1 b1 .byte 8 (fun _ => (0 : Int32)) := A1
  refine g_astore X1 hx hby at_4 rfl #[.val (.long dd), .second, .val (.int oo), .val (.int ll), .val (.int pp), .val (.long cc), .second, .val (.ref b1), .unset, .unset, .unset, .unset, .unset, .unset] rfl 6 rfl ?_
  refine g_aload X1 hx hby at_6 rfl rfl 8 rfl ?_
  refine g_iconst X1 hx hby at_8 (0 : Int32) rfl 9 rfl ?_
  refine g_lloadN X1 hx hby at_9 rfl 10 rfl ?_
  refine g_l2i X1 hx hby at_10 11 rfl ?_
  refine g_i2b X1 hx hby at_11 12 rfl ?_
  refine g_bastore X1 hx hby hZ e1 Vb1 at_12 (by decide) 0 rfl (by decide) ((dd.toInt32).toInt8.toInt32) (byte2 _) 13 rfl ?_
  intro T2 h2 X2 e2 W2 V2
  have N2 := Fr.snoc X2 N0 gn_b1
  have Z2 : n0 ≤ h2.size := Nat.le_trans Z1 (Keep.of_wr W2).1
  refine g_aload X2 hx hby at_13 rfl rfl 15 rfl ?_
  refine g_iconst X2 hx hby at_15 (1 : Int32) rfl 16 rfl ?_
  refine g_lloadN X2 hx hby at_16 rfl 17 rfl ?_
  refine g_bipush X2 hx hby at_17 (8 : Int32) rfl 19 rfl ?_
  refine g_lushr X2 hx hby at_19 20 rfl ?_
  refine g_l2i X2 hx hby at_20 21 rfl ?_
  refine g_i2b X2 hx hby at_21 22 rfl ?_
  refine g_bastore X2 hx hby hZ e2 V2 at_22 (by decide) 1 rfl (by decide) ((((dd.toUInt64 >>> ((8 : Int32) &&& 0x3f).toInt64.toUInt64).toInt64).toInt32).toInt8.toInt32) (byte2 _) 23 rfl ?_
  intro T3 h3 X3 e3 W3 V3
  have N3 := Fr.snoc X3 N2 gn_b1
  have Z3 : n0 ≤ h3.size := Nat.le_trans Z2 (Keep.of_wr W3).1
  refine g_aload X3 hx hby at_23 rfl rfl 25 rfl ?_
  refine g_iconst X3 hx hby at_25 (2 : Int32) rfl 26 rfl ?_
  refine g_lloadN X3 hx hby at_26 rfl 27 rfl ?_
  refine g_bipush X3 hx hby at_27 (16 : Int32) rfl 29 rfl ?_
  refine g_lushr X3 hx hby at_29 30 rfl ?_
  refine g_l2i X3 hx hby at_30 31 rfl ?_
  refine g_i2b X3 hx hby at_31 32 rfl ?_
  refine g_bastore X3 hx hby hZ e3 V3 at_32 (by decide) 2 rfl (by decide) ((((dd.toUInt64 >>> ((16 : Int32) &&& 0x3f).toInt64.toUInt64).toInt64).toInt32).toInt8.toInt32) (byte2 _) 33 rfl ?_
  intro T4 h4 X4 e4 W4 V4
  have N4 := Fr.snoc X4 N3 gn_b1
  have Z4 : n0 ≤ h4.size := Nat.le_trans Z3 (Keep.of_wr W4).1
  refine g_aload X4 hx hby at_33 rfl rfl 35 rfl ?_
  refine g_iconst X4 hx hby at_35 (3 : Int32) rfl 36 rfl ?_
  refine g_lloadN X4 hx hby at_36 rfl 37 rfl ?_
  refine g_bipush X4 hx hby at_37 (24 : Int32) rfl 39 rfl ?_
  refine g_lushr X4 hx hby at_39 40 rfl ?_
  refine g_l2i X4 hx hby at_40 41 rfl ?_
  refine g_i2b X4 hx hby at_41 42 rfl ?_
  refine g_bastore X4 hx hby hZ e4 V4 at_42 (by decide) 3 rfl (by decide) ((((dd.toUInt64 >>> ((24 : Int32) &&& 0x3f).toInt64.toUInt64).toInt64).toInt32).toInt8.toInt32) (byte2 _) 43 rfl ?_
  intro T5 h5 X5 e5 W5 V5
  have N5 := Fr.snoc X5 N4 gn_b1
  have Z5 : n0 ≤ h5.size := Nat.le_trans Z4 (Keep.of_wr W5).1
  refine g_aload X5 hx hby at_43 rfl rfl 45 rfl ?_
  refine g_iconst X5 hx hby at_45 (4 : Int32) rfl 46 rfl ?_
  refine g_lloadN X5 hx hby at_46 rfl 47 rfl ?_
  refine g_bipush X5 hx hby at_47 (32 : Int32) rfl 49 rfl ?_
  refine g_lushr X5 hx hby at_49 50 rfl ?_
  refine g_l2i X5 hx hby at_50 51 rfl ?_
  refine g_i2b X5 hx hby at_51 52 rfl ?_
  refine g_bastore X5 hx hby hZ e5 V5 at_52 (by decide) 4 rfl (by decide) ((((dd.toUInt64 >>> ((32 : Int32) &&& 0x3f).toInt64.toUInt64).toInt64).toInt32).toInt8.toInt32) (byte2 _) 53 rfl ?_
  intro T6 h6 X6 e6 W6 V6
  have N6 := Fr.snoc X6 N5 gn_b1
  have Z6 : n0 ≤ h6.size := Nat.le_trans Z5 (Keep.of_wr W6).1
  refine g_aload X6 hx hby at_53 rfl rfl 55 rfl ?_
  refine g_iconst X6 hx hby at_55 (5 : Int32) rfl 56 rfl ?_
  refine g_lloadN X6 hx hby at_56 rfl 57 rfl ?_
  refine g_bipush X6 hx hby at_57 (40 : Int32) rfl 59 rfl ?_
  refine g_lushr X6 hx hby at_59 60 rfl ?_
  refine g_l2i X6 hx hby at_60 61 rfl ?_
  refine g_i2b X6 hx hby at_61 62 rfl ?_
  refine g_bastore X6 hx hby hZ e6 V6 at_62 (by decide) 5 rfl (by decide) ((((dd.toUInt64 >>> ((40 : Int32) &&& 0x3f).toInt64.toUInt64).toInt64).toInt32).toInt8.toInt32) (byte2 _) 63 rfl ?_
  intro T7 h7 X7 e7 W7 V7
  have N7 := Fr.snoc X7 N6 gn_b1
  have Z7 : n0 ≤ h7.size := Nat.le_trans Z6 (Keep.of_wr W7).1
  refine g_aload X7 hx hby at_63 rfl rfl 65 rfl ?_
  refine g_bipush X7 hx hby at_65 (6 : Int32) rfl 67 rfl ?_
  refine g_lloadN X7 hx hby at_67 rfl 68 rfl ?_
  refine g_bipush X7 hx hby at_68 (48 : Int32) rfl 70 rfl ?_
  refine g_lushr X7 hx hby at_70 71 rfl ?_
  refine g_l2i X7 hx hby at_71 72 rfl ?_
  refine g_i2b X7 hx hby at_72 73 rfl ?_
  refine g_bastore X7 hx hby hZ e7 V7 at_73 (by decide) 6 rfl (by decide) ((((dd.toUInt64 >>> ((48 : Int32) &&& 0x3f).toInt64.toUInt64).toInt64).toInt32).toInt8.toInt32) (byte2 _) 74 rfl ?_
  intro T8 h8 X8 e8 W8 V8
  have N8 := Fr.snoc X8 N7 gn_b1
  have Z8 : n0 ≤ h8.size := Nat.le_trans Z7 (Keep.of_wr W8).1
  refine g_aload X8 hx hby at_74 rfl rfl 76 rfl ?_
  refine g_bipush X8 hx hby at_76 (7 : Int32) rfl 78 rfl ?_
  refine g_lloadN X8 hx hby at_78 rfl 79 rfl ?_
  refine g_bipush X8 hx hby at_79 (56 : Int32) rfl 81 rfl ?_
  refine g_lushr X8 hx hby at_81 82 rfl ?_
  refine g_l2i X8 hx hby at_82 83 rfl ?_
  refine g_i2b X8 hx hby at_83 84 rfl ?_
  refine g_bastore X8 hx hby hZ e8 V8 at_84 (by decide) 7 rfl (by decide) ((((dd.toUInt64 >>> ((56 : Int32) &&& 0x3f).toInt64.toUInt64).toInt64).toInt32).toInt8.toInt32) (byte2 _) 85 rfl ?_
  intro T9 h9 X9 e9 W9 V9
  have N9 := Fr.snoc X9 N8 gn_b1
  have Z9 : n0 ≤ h9.size := Nat.le_trans Z8 (Keep.of_wr W9).1
  have Vd : AI Z h9 b1 .byte 8 (datB dd) := V9
  refine g_iloadN X9 hx hby at_85 rfl 86 rfl ?_
  refine g_ldc X9 hx hby hZ hown (hw _ (List.mem_of_getElem? (i := 1) rfl)) at_86 88 rfl ?_
  refine g_iand X9 hx hby at_88 89 rfl ?_
  refine g_bipush X9 hx hby at_89 (9 : Int32) rfl 91 rfl ?_
  refine g_irem X9 hx hby at_91 (by decide) 92 rfl ?_
  obtain ⟨off, hoff⟩ : ∃ z : Int32, ((oo &&& (2147483647 : Int32)) % (9 : Int32)) = z := ⟨_, rfl⟩
  refine g_istore X9 hx hby at_92 off hoff #[.val (.long dd), .second, .val (.int oo), .val (.int ll), .val (.int pp), .val (.long cc), .second, .val (.ref b1), .val (.int off), .unset, .unset, .unset, .unset, .unset] rfl 94 rfl ?_
  have ho := own_rem oo 9 9 rfl (by decide)
  rw [hoff] at ho
  have hl := own_rem9 ll off ho
  refine g_iloadN X9 hx hby at_94 rfl 95 rfl ?_
  refine g_ldc X9 hx hby hZ hown (hw _ (List.mem_of_getElem? (i := 1) rfl)) at_95 97 rfl ?_
  refine g_iand X9 hx hby at_97 98 rfl ?_
  refine g_bipush X9 hx hby at_98 (9 : Int32) rfl 100 rfl ?_
  refine g_iload X9 hx hby at_100 rfl 102 rfl ?_
  refine g_isub X9 hx hby at_102 103 rfl ?_
  refine g_irem X9 hx hby at_103 hl.1 104 rfl ?_
  obtain ⟨len, hlen⟩ : ∃ z : Int32, ((ll &&& (2147483647 : Int32)) % ((9 : Int32) - off)) = z := ⟨_, rfl⟩
  refine g_istore X9 hx hby at_104 len hlen #[.val (.long dd), .second, .val (.int oo), .val (.int ll), .val (.int pp), .val (.long cc), .second, .val (.ref b1), .val (.int off), .val (.int len), .unset, .unset, .unset, .unset] rfl 106 rfl ?_
  rw [hlen] at hl
  have hon := own_cl ho.1
  have hln := own_cl hl.2.1
  have hE := own_sum8 ho.1 hl.2.1 hl.2.2
  refine g_iload X9 hx hby at_106 rfl 108 rfl ?_
  refine g_sipush X9 hx hby at_108 (255 : Int32) rfl 111 rfl ?_
  refine g_iand X9 hx hby at_111 112 rfl ?_
  obtain ⟨vv, hvv⟩ : ∃ z : Int32, (pp &&& (255 : Int32)) = z := ⟨_, rfl⟩
  refine g_istore X9 hx hby at_112 vv hvv #[.val (.long dd), .second, .val (.int oo), .val (.int ll), .val (.int pp), .val (.long cc), .second, .val (.ref b1), .val (.int off), .val (.int len), .val (.int vv), .unset, .unset, .unset] rfl 114 rfl ?_
  refine g_iload X9 hx hby at_114 rfl 116 rfl ?_
  refine g_bipush X9 hx hby at_116 (8 : Int32) rfl 118 rfl ?_
  refine g_iushr X9 hx hby at_118 119 rfl ?_
  refine g_sipush X9 hx hby at_119 (255 : Int32) rfl 122 rfl ?_
  refine g_iand X9 hx hby at_122 123 rfl ?_
  obtain ⟨ww, hww⟩ : ∃ z : Int32, (((pp.toUInt32 >>> ((8 : Int32) &&& 31).toUInt32).toInt32) &&& (255 : Int32)) = z := ⟨_, rfl⟩
  refine g_istore X9 hx hby at_123 ww hww #[.val (.long dd), .second, .val (.int oo), .val (.int ll), .val (.int pp), .val (.long cc), .second, .val (.ref b1), .val (.int off), .val (.int len), .val (.int vv), .val (.int ww), .unset, .unset] rfl 125 rfl ?_
  have hv : 0 ≤ vv.toInt ∧ vv.toInt < 256 := hvv ▸ own_u8 _
  have hwv : 0 ≤ ww.toInt ∧ ww.toInt < 256 := hww ▸ own_u8 _
  refine g_sipush X9 hx hby at_125 (256 : Int32) rfl 128 rfl ?_
  refine g_newarray X9 hx hby hZ (hw _ (List.mem_of_getElem? (i := 2) rfl)) e9 at_128 (by decide) 256 rfl 256 (by decide) (by decide) (by decide) (by decide) 130 rfl ?_
  intro T10 h10 b10 g10 X10 e10 E10 A10
  have gn_b10 : n0 ≤ b10 := Nat.le_trans Z9 (Nat.le_of_eq g10.symm)
  have Z10 : n0 ≤ h10.size := Nat.le_trans Z9 E10.1
  have ne_b1_b10 : b1 ≠ b10 := Nat.ne_of_lt (Nat.lt_of_lt_of_le (Vd.lt) (Nat.le_of_eq g10.symm))
  have Vd_10 := ArF.ext Vd E10
  have Vb10 : AJ Z h10 b10 256 (fun _ => (0 : Int64)) := A10
  refine g_astore X10 hx hby at_130 rfl #[.val (.long dd), .second, .val (.int oo), .val (.int ll), .val (.int pp), .val (.long cc), .second, .val (.ref b1), .val (.int off), .val (.int len), .val (.int vv), .val (.int ww), .val (.ref b10), .unset] rfl 132 rfl ?_
  refine g_aload X10 hx hby at_132 rfl rfl 134 rfl ?_
  refine g_iload X10 hx hby at_134 rfl 136 rfl ?_
  refine g_lload X10 hx hby at_136 rfl 138 rfl ?_
  refine g_lastore X10 hx hby hZ e10 Vb10 at_138 (own_nn hv.1) vv.toNatClampNeg rfl (own_lt (n := 256) hv.2 (by decide)) 139 rfl ?_
  intro T11 h11 X11 e11 W11 V11
  have N11 := Fr.snoc X11 N9 gn_b10
  have Z11 : n0 ≤ h11.size := Nat.le_trans Z10 (Keep.of_wr W11).1
  have Vd_11 := ArF.other Vd_10 W11 ne_b1_b10
  refine g_aload X11 hx hby at_139 rfl rfl 141 rfl ?_
  refine g_aload X11 hx hby at_141 rfl rfl 143 rfl ?_
  refine g_iload X11 hx hby at_143 rfl 145 rfl ?_
  refine g_iload X11 hx hby at_145 rfl 147 rfl ?_
  refine g_callS X11 hx hby hZ hown (hw _ (List.mem_of_getElem? (i := 3) rfl)) (hw _ (List.mem_of_getElem? (i := 4) rfl)) (hw _ (List.mem_of_getElem? (i := 5) rfl)) (hw _ (List.mem_of_getElem? (i := 6) rfl)) at_147 [(.ref b10), (.ref b1), (.int off), (.int len)] [] (rm1 l Z a0 hw [] b10 b1 off len (upd (fun _ => (0 : Int64)) vv.toNatClampNeg cc) (datB dd) off.toNatClampNeg len.toNatClampNeg h11 n0 Z11 V11 Vd_11 gn_b10 ne_b1_b10 hon hln hE) e11 rfl (by rw [hml]; rfl) pd1 rfl (by decide) 0 (Nat.le_of_eq rfl) (by decide) (by decide) (by decide) (by decide) 150 rfl ?_
  intro T12 v12 L12 X12 Q12
  obtain ⟨rfl, N12', K12', P12⟩ := Q12
  have N12 := Fr.app N11 N12'
  have Z12 : n0 ≤ T12.heap.size := Nat.le_trans Z11 K12'.1
  have Vd_12 := ArF.keep Vd_11 K12' (ninS ne_b1_b10 nin0)
  show Goes p e below _ (T12.setTop (mkF m 150 _ []))
  refine g_aload X12 hx hby at_150 rfl rfl 152 rfl ?_
  refine g_iload X12 hx hby at_152 rfl 154 rfl ?_
  refine g_laload X12 hx hby hZ rfl P12 at_154 (own_nn hv.1) vv.toNatClampNeg rfl (own_lt (n := 256) hv.2 (by decide)) ((cnts (datB dd) off.toNatClampNeg len.toNatClampNeg (upd (fun _ => (0 : Int64)) vv.toNatClampNeg cc)) vv.toNatClampNeg) rfl 155 rfl ?_
  refine g_lload X12 hx hby at_155 rfl 157 rfl ?_
  refine g_lloadN X12 hx hby at_157 rfl 158 rfl ?_
  refine g_iload X12 hx hby at_158 rfl 160 rfl ?_
  refine g_iload X12 hx hby at_160 rfl 162 rfl ?_
  refine g_iload X12 hx hby at_162 rfl 164 rfl ?_
  refine g_callS X12 hx hby hZ hown (hw _ (List.mem_of_getElem? (i := 7) rfl)) (hw _ (List.mem_of_getElem? (i := 8) rfl)) (hw _ (List.mem_of_getElem? (i := 9) rfl)) (hw _ (List.mem_of_getElem? (i := 10) rfl)) at_164 [(.long dd), (.int off), (.int len), (.int vv)] [(.long cc), (.long ((cnts (datB dd) off.toNatClampNeg len.toNatClampNeg (upd (fun _ => (0 : Int64)) vv.toNatClampNeg cc)) vv.toNatClampNeg))] (rm2 l Z a0 hw [] dd off len vv T12.heap n0 Z12) rfl rfl (by rw [hml]; rfl) pd2 rfl (by decide) 4 (Nat.le_of_eq rfl) (by decide) (by decide) (by decide) (by decide) 167 rfl ?_
  intro T13 v13 L13 X13 Q13
  obtain ⟨rfl, N13', e13⟩ := Q13
  have N13 := Fr.app N12 N13'
  show Goes p e below _ (T13.setTop (mkF m 167 _ [(.long (occ dd off len vv)), (.long cc), (.long ((cnts (datB dd) off.toNatClampNeg len.toNatClampNeg (upd (fun _ => (0 : Int64)) vv.toNatClampNeg cc)) vv.toNatClampNeg))]))
  refine g_ladd X13 hx hby at_167 168 rfl ?_
  refine g_lcmp_ne X13 hx hby at_168 at_169 176 172 rfl (by decide) (by decide) rfl (fun _ => ?_) (fun q => absurd (own_v hv.1 hon hln hE) q)
  refine g_iconst X13 hx hby at_172 (1 : Int32) rfl 173 rfl ?_
  refine g_goto X13 hx hby at_173 177 (by decide) (by decide) ?_
  refine g_istore X13 hx hby at_177 (1 : Int32) rfl #[.val (.long dd), .second, .val (.int oo), .val (.int ll), .val (.int pp), .val (.long cc), .second, .val (.ref b1), .val (.int off), .val (.int len), .val (.int vv), .val (.int ww), .val (.ref b10), .val (.int (1 : Int32))] rfl 179 rfl ?_
  refine g_iload X13 hx hby at_179 rfl 181 rfl ?_
  refine g_iload X13 hx hby at_181 rfl 183 rfl ?_
  refine g_icmp_eq X13 hx hby at_183 217 186 (by decide) (by decide) rfl (fun c14 => ?_) (fun c14 => ?_)
  · -- c14
    refine g_iload X13 hx hby at_217 rfl 219 rfl ?_
    refine g_if_eq X13 hx hby at_219 244 222 (by decide) (by decide) rfl (fun q => absurd q (by decide)) (fun _ => ?_)
    refine g_aload X13 hx hby at_222 rfl rfl 224 rfl ?_
    refine g_arraylength X13 hx hby hZ e13 P12 at_224 (256 : Int32) rfl 225 rfl ?_
    refine g_sipush X13 hx hby at_225 (256 : Int32) rfl 228 rfl ?_
    refine g_icmp_ne X13 hx hby at_228 244 231 (by decide) (by decide) rfl (fun _ => ?_) (fun q => absurd (by decide) q)
    refine g_aload X13 hx hby at_231 rfl rfl 233 rfl ?_
    refine g_lloadN X13 hx hby at_233 rfl 234 rfl ?_
    refine g_callS X13 hx hby hZ hown (hw _ (List.mem_of_getElem? (i := 15) rfl)) (hw _ (List.mem_of_getElem? (i := 16) rfl)) (hw _ (List.mem_of_getElem? (i := 9) rfl)) (hw _ (List.mem_of_getElem? (i := 17) rfl)) at_234 [(.ref b1), (.long dd)] [] (rm4 l Z a0 hw [] b1 dd (datB dd) T12.heap n0 Z12 Vd_12) e13 rfl (by rw [hml]; rfl) pd3 rfl (by decide) 0 (Nat.le_of_eq rfl) (by decide) (by decide) (by decide) (by decide) 237 rfl ?_
    intro T15 v15 L15 X15 Q15
    obtain ⟨rfl, N15', e15⟩ := Q15
    have N15 := Fr.app N13 N15'
    show Goes p e below _ (T15.setTop (mkF m 237 _ [(.int (same dd (datB dd)))]))
    refine g_if_eq X15 hx hby at_237 244 240 (by decide) (by decide) rfl (fun q => absurd q (own_same dd)) (fun _ => ?_)
    refine g_iconst X15 hx hby at_240 (1 : Int32) rfl 241 rfl ?_
    refine g_goto X15 hx hby at_241 245 (by decide) (by decide) ?_
    exact g_ireturn X15 hx hby hret hlk (Or.inr (Or.inl rfl)) (nar_bool (Or.inr rfl)) at_245 ⟨rfl, N15⟩ (by decide) (by decide)
  · -- not c14
    refine g_iload X13 hx hby at_186 rfl 188 rfl ?_
    refine g_if_eq X13 hx hby at_188 214 191 (by decide) (by decide) rfl (fun q => absurd q (by decide)) (fun _ => ?_)
    refine g_aload X13 hx hby at_191 rfl rfl 193 rfl ?_
    refine g_iload X13 hx hby at_193 rfl 195 rfl ?_
    refine g_laload X13 hx hby hZ e13 P12 at_195 (own_nn hwv.1) ww.toNatClampNeg rfl (own_lt (n := 256) hwv.2 (by decide)) ((cnts (datB dd) off.toNatClampNeg len.toNatClampNeg (upd (fun _ => (0 : Int64)) vv.toNatClampNeg cc)) ww.toNatClampNeg) rfl 196 rfl ?_
    refine g_lloadN X13 hx hby at_196 rfl 197 rfl ?_
    refine g_iload X13 hx hby at_197 rfl 199 rfl ?_
    refine g_iload X13 hx hby at_199 rfl 201 rfl ?_
    refine g_iload X13 hx hby at_201 rfl 203 rfl ?_
    refine g_callS X13 hx hby hZ hown (hw _ (List.mem_of_getElem? (i := 7) rfl)) (hw _ (List.mem_of_getElem? (i := 8) rfl)) (hw _ (List.mem_of_getElem? (i := 9) rfl)) (hw _ (List.mem_of_getElem? (i := 10) rfl)) at_203 [(.long dd), (.int off), (.int len), (.int ww)] [(.long ((cnts (datB dd) off.toNatClampNeg len.toNatClampNeg (upd (fun _ => (0 : Int64)) vv.toNatClampNeg cc)) ww.toNatClampNeg))] (rm2 l Z a0 hw [] dd off len ww T12.heap n0 Z12) e13 rfl (by rw [hml]; rfl) pd2 rfl (by decide) 2 (Nat.le_of_eq rfl) (by decide) (by decide) (by decide) (by decide) 206 rfl ?_
    intro T16 v16 L16 X16 Q16
    obtain ⟨rfl, N16', e16⟩ := Q16
    have N16 := Fr.app N13 N16'
    show Goes p e below _ (T16.setTop (mkF m 206 _ [(.long (occ dd off len ww)), (.long ((cnts (datB dd) off.toNatClampNeg len.toNatClampNeg (upd (fun _ => (0 : Int64)) vv.toNatClampNeg cc)) ww.toNatClampNeg))]))
    refine g_lcmp_ne X16 hx hby at_206 at_207 214 210 rfl (by decide) (by decide) rfl (fun _ => ?_) (fun q => absurd (own_w hv.1 hwv.1 c14 hon hln hE) q)
    refine g_iconst X16 hx hby at_210 (1 : Int32) rfl 211 rfl ?_
    refine g_goto X16 hx hby at_211 215 (by decide) (by decide) ?_
    refine g_istore X16 hx hby at_215 (1 : Int32) rfl #[.val (.long dd), .second, .val (.int oo), .val (.int ll), .val (.int pp), .val (.long cc), .second, .val (.ref b1), .val (.int off), .val (.int len), .val (.int vv), .val (.int ww), .val (.ref b10), .val (.int (1 : Int32))] rfl 217 rfl ?_
    refine g_iload X16 hx hby at_217 rfl 219 rfl ?_
    refine g_if_eq X16 hx hby at_219 244 222 (by decide) (by decide) rfl (fun q => absurd q (by decide)) (fun _ => ?_)
    refine g_aload X16 hx hby at_222 rfl rfl 224 rfl ?_
    refine g_arraylength X16 hx hby hZ e16 P12 at_224 (256 : Int32) rfl 225 rfl ?_
    refine g_sipush X16 hx hby at_225 (256 : Int32) rfl 228 rfl ?_
    refine g_icmp_ne X16 hx hby at_228 244 231 (by decide) (by decide) rfl (fun _ => ?_) (fun q => absurd (by decide) q)
    refine g_aload X16 hx hby at_231 rfl rfl 233 rfl ?_
    refine g_lloadN X16 hx hby at_233 rfl 234 rfl ?_
    refine g_callS X16 hx hby hZ hown (hw _ (List.mem_of_getElem? (i := 15) rfl)) (hw _ (List.mem_of_getElem? (i := 16) rfl)) (hw _ (List.mem_of_getElem? (i := 9) rfl)) (hw _ (List.mem_of_getElem? (i := 17) rfl)) at_234 [(.ref b1), (.long dd)] [] (rm4 l Z a0 hw [] b1 dd (datB dd) T12.heap n0 Z12 Vd_12) e16 rfl (by rw [hml]; rfl) pd3 rfl (by decide) 0 (Nat.le_of_eq rfl) (by decide) (by decide) (by decide) (by decide) 237 rfl ?_
    intro T17 v17 L17 X17 Q17
    obtain ⟨rfl, N17', e17⟩ := Q17
    have N17 := Fr.app N16 N17'
    show Goes p e below _ (T17.setTop (mkF m 237 _ [(.int (same dd (datB dd)))]))
    refine g_if_eq X17 hx hby at_237 244 240 (by decide) (by decide) rfl (fun q => absurd q (own_same dd)) (fun _ => ?_)
    refine g_iconst X17 hx hby at_240 (1 : Int32) rfl 241 rfl ?_
    refine g_goto X17 hx hby at_241 245 (by decide) (by decide) ?_
    exact g_ireturn X17 hx hby hret hlk (Or.inr (Or.inl rfl)) (nar_bool (Or.inr rfl)) at_245 ⟨rfl, N17⟩ (by decide) (by decide)
set_option maxRecDepth 65536 in
set_option maxHeartbeats 40000000 in
theorem comes_1 {Post : Tables → Env → Array Value → State → Outcome → State → Prop} (hpost : ∀ tb e args s v u, (limb_1_1.after args s (.returned v) u = true ∧ limb_1_2.after args s (.returned v) u = true ∧ True) → FrameEnd s (.returned v) u (Jvm.fieldLocs frame_1_writes args s ++ Jvm.arrayLocs frame_1_arrays args s ++ Jvm.staticLocs frame_1_statics s) 16 640 → Post tb e args s (.returned v) u) :
    ArmFor flags0 classFile x code maxLocals ret World_1 tables_1 room_1 Calls_1 rest_1 Pre_1 Post := by
  intro l hfl _ _ p e ha hc hk s m args below hf hA hF happ hP
  obtain ⟨hcalls, hrest, hpre⟩ := hP
  obtain ⟨-, -, -, hnamed, -, -, -, hat⟩ := (Spec.applies_iff hf).mp happ
  obtain ⟨hg, hn⟩ := and_e (Cond.before_iff.mp (show (Jvm.Cond.and given_1 narrow_1).before args s = true from hpre))
  obtain ⟨q0, r0⟩ := and_e hg
  obtain ⟨q1, r1⟩ := and_e r0
  obtain ⟨q2, r2⟩ := and_e r1
  obtain ⟨q3, r3⟩ := and_e r2
  obtain ⟨q4, r4⟩ := and_e r3
  obtain ⟨w0, w1, w2, w3, w4, rfl⟩ : ∃ w0 w1 w2 w3 w4 : Value, args = #[w0, w1, w2, w3, w4] := by
    have hs : args.size = 5 := by simpa [Cond.value, given_1] using q0
    obtain ⟨L⟩ := args
    match L, hs with
    | [w0, w1, w2, w3, w4], _ => exact ⟨w0, w1, w2, w3, w4, rfl⟩
  have hw := fun d (hd : d ∈ tables_1) => atoms_spec (ws := Jvm.Cond.code x code maxLocals ret :: tables_1) hat d (List.mem_cons_of_mem _ hd)
  obtain ⟨i0, ei0⟩ := isL_v q1
  obtain rfl : w0 = (.long i0) := Option.some.inj ei0
  obtain ⟨i1, ei1⟩ := is_v q2
  obtain rfl : w1 = (.int i1) := Option.some.inj ei1
  obtain ⟨i2, ei2⟩ := is_v q3
  obtain rfl : w2 = (.int i2) := Option.some.inj ei2
  obtain ⟨i3, ei3⟩ := is_v q4
  obtain rfl : w3 = (.int i3) := Option.some.inj ei3
  obtain ⟨i4, ei4⟩ := isL_v r4
  obtain rfl : w4 = (.long i4) := Option.some.inj ei4
  obtain ⟨n, o, h1, h2, h3, _, L, rfl, ⟨rfl, N⟩, hq⟩ := rm0 l s _ hw tables_1 i0 i1 i2 i3 i4 s.heap s.heap.size (Nat.le_refl _) p e ha hc hk s m _ below hf ((Spec.applies_iff_loose hf).mp happ).1 ⟨rfl, State.Warmed39.refl s, rfl⟩ trivial
  refine ⟨n, _, h1, h2, h3, hpost _ _ _ _ _ _ ⟨Cond.after_iff.mpr rfl, Cond.after_iff.mpr (eq_i res_at (Term.int_eval (1)) rfl), trivial⟩ ⟨hq.1, hq.2.1, (hq.2.2.sift fun y hy => Or.inr (N y hy)).mono (by decide) (by decide)⟩⟩
theorem main_1_1 : Claimed_1_1 := comes_1 fun _ _ _ _ _ _ h hF => ⟨h.1, hF⟩
theorem main_1_2 : Claimed_1_2 := comes_1 fun _ _ _ _ _ _ h hF => ⟨h.2.1, hF⟩
end Jvm.Pilot.@@N@@
namespace Jvm.Pilot.@@N@@
open Jvm Jvm.ClassFile Sem Op Lib Jvm.Free Jvm.Stand Jvm.Pilot.@@N@@.Jvm.D
/-! MADE BY PROGRAM (witnessworld.py) out of the Statement's table words and the real class files: 11 classes; the members and pool entries that the words name. The judged class is class 1, her method 4. -/
namespace start1
open Jvm.ClassFile
def u (s : String) : CpInfo := .utf8 (stringToUtf16 s)
/-- a pool by its gaps: so many unusable entries, then the entry; so many at the end -/
def gap : Nat → List CpInfo → List CpInfo
  | 0, r => r
  | n + 1, r => .unusable :: gap n r
def poolList (es : List (Nat × CpInfo)) (last : Nat) : List CpInfo := es.foldr (fun e r => gap e.1 (e.2 :: r)) (gap last [])
def pool (es : List (Nat × CpInfo)) (last : Nat) : Array CpInfo := ⟨poolList es last⟩
def fileOf (pool : Array CpInfo) (this : Nat) (attrs : Array Attribute := #[]) (ms : Array MethodInfo := #[]) (fl : Nat := 33) (sup : Nat := 0) (ifs : Array Nat := #[]) (fds : Array FieldInfo := #[]) : ClassFile where
  minorVersion := 0
  majorVersion := 65
  constantPool := pool
  accessFlags := fl
  thisClass := this
  superClass := sup
  interfaces := ifs
  fields := fds
  methods := ms
  attributes := attrs
def plain (name : String) (sup : Option ClassId) : Class where
  name := name
  kind := .ordinary
  loader := none
  accessFlags := 33
  super := sup
  interfaces := #[]
  cf := none
  fields := #[]
  methods := #[]
  instanceTypes := #[]
  staticTypes := #[]
  resolved := #[]
  callSites := []
  init := .initialized
  statics := none
  mirror := none

def pool0 : Array CpInfo := pool [(5, u "<init>"), (0, u "()V"), (1, .class_ 10), (1, u "java/lang/Object")] 113

def k0m0 : Method := { name := "<init>", desc := "()V", sig := { parameters := [], returnType := none }, accessFlags := 1, code := none }
/-- java/lang/Object -/
def k0 : Class := { plain "java/lang/Object" none with
  accessFlags := 33
  interfaces := #[]
  cf := some (fileOf pool0 8 #[] #[{ accessFlags := 1, nameIndex := 5, descriptorIndex := 6, attributes := #[] }] 33 0 #[] #[])
  fields := #[]
  methods := #[k0m0]
  instanceTypes := #[]
  staticTypes := #[]
  resolved := Array.replicate 124 none
  statics := none }

def pool1 : Array CpInfo := pool [(2, .class_ 4), (1, u "java/lang/Object"), (0, u "<init>"), (0, u "()V"), (0, .long 255), (1, .methodref 10 11), (0, .class_ 12), (0, .nameAndType 13 14), (0, u "com/example/brevicode/brevicode/ByteCountsAddPinLaw"), (0, u "hit"), (0, u "(JIIII)J"), (0, .integer 2147483647), (0, .methodref 17 18), (0, .class_ 19), (0, .nameAndType 20 21), (0, u "com/example/brevicode/brevicode/ByteCounts"), (0, u "add"), (0, u "([J[BII)V"), (0, .methodref 10 23), (0, .nameAndType 24 25), (0, u "occurrences"), (0, u "(JIII)J"), (0, .methodref 10 27), (0, .nameAndType 28 29), (0, u "same"), (0, u "([BJ)Z"), (3, u "law"), (0, u "(JIIIJ)Z")] 6

def k1m0 : Method := { name := "<init>", desc := "()V", sig := { parameters := [], returnType := none }, accessFlags := 1, code := none }
def k1c1 : Code := { maxStack := 4, maxLocals := 6, code := method_2_code, exceptionTable := #[], attributes := #[] }
def k1m1 : Method := { name := "hit", desc := "(JIIII)J", sig := { parameters := [.long, .int, .int, .int, .int], returnType := some .long }, accessFlags := 10, code := some k1c1 }
def k1c2 : Code := { maxStack := 8, maxLocals := 5, code := method_3_code, exceptionTable := #[], attributes := #[] }
def k1m2 : Method := { name := "occurrences", desc := "(JIII)J", sig := { parameters := [.long, .int, .int, .int], returnType := some .long }, accessFlags := 10, code := some k1c2 }
def k1c3 : Code := { maxStack := 4, maxLocals := 3, code := method_4_code, exceptionTable := #[], attributes := #[] }
def k1m3 : Method := { name := "same", desc := "([BJ)Z", sig := { parameters := [(.array .byte), .long], returnType := some .boolean }, accessFlags := 10, code := some k1c3 }
def k1c4 : Code := { maxStack := 9, maxLocals := 14, code := code, exceptionTable := #[], attributes := #[] }
def k1m4 : Method := { name := "law", desc := "(JIIIJ)Z", sig := { parameters := [.long, .int, .int, .int, .long], returnType := some .boolean }, accessFlags := 9, code := some k1c4 }
/-- com/example/brevicode/brevicode/ByteCountsAddPinLaw -/
def k1 : Class := { plain "com/example/brevicode/brevicode/ByteCountsAddPinLaw" (some 0) with
  accessFlags := 49
  interfaces := #[]
  cf := some (fileOf pool1 10 #[] #[{ accessFlags := 1, nameIndex := 5, descriptorIndex := 6, attributes := #[] }, { accessFlags := 10, nameIndex := 13, descriptorIndex := 14, attributes := #[] }, { accessFlags := 10, nameIndex := 24, descriptorIndex := 25, attributes := #[] }, { accessFlags := 10, nameIndex := 28, descriptorIndex := 29, attributes := #[] }, { accessFlags := 9, nameIndex := 33, descriptorIndex := 34, attributes := #[] }] 49 2 #[] #[])
  fields := #[]
  methods := #[k1m0, k1m1, k1m2, k1m3, k1m4]
  instanceTypes := #[]
  staticTypes := #[]
  resolved := Array.replicate 41 none
  statics := none }

def pool2 : Array CpInfo := pool [(2, .class_ 4), (1, u "java/lang/Object"), (3, .class_ 10), (1, u "com/example/brevicode/brevicode/ByteCounts"), (0, u "counts"), (0, u "[J"), (2, u "total"), (0, u "J"), (9, u "add"), (0, u "([J[BII)V"), (8, u "VALUES"), (0, u "I"), (2, u "BUFFER_SIZE")] 17

def k2c0 : Code := { maxStack := 6, maxLocals := 5, code := prog_7_method_3_code, exceptionTable := #[], attributes := #[] }
def k2m0 : Method := { name := "add", desc := "([J[BII)V", sig := { parameters := [(.array .long), (.array .byte), .int, .int], returnType := none }, accessFlags := 8, code := some k2c0 }
/-- com/example/brevicode/brevicode/ByteCounts -/
def k2 : Class := { plain "com/example/brevicode/brevicode/ByteCounts" (some 0) with
  accessFlags := 49
  interfaces := #[]
  cf := some (fileOf pool2 8 #[] #[{ accessFlags := 8, nameIndex := 26, descriptorIndex := 27, attributes := #[] }] 49 2 #[] #[{ accessFlags := 25, nameIndex := 36, descriptorIndex := 37, attributes := #[] }, { accessFlags := 26, nameIndex := 40, descriptorIndex := 37, attributes := #[] }, { accessFlags := 18, nameIndex := 11, descriptorIndex := 12, attributes := #[] }, { accessFlags := 18, nameIndex := 15, descriptorIndex := 16, attributes := #[] }])
  fields := #[{ name := "VALUES", type := .int, accessFlags := 25, slot := 0, constantValue := 0 }, { name := "BUFFER_SIZE", type := .int, accessFlags := 26, slot := 1, constantValue := 0 }, { name := "counts", type := (.array .long), accessFlags := 18, slot := 0, constantValue := 0 }, { name := "total", type := .long, accessFlags := 18, slot := 1, constantValue := 0 }]
  methods := #[k2m0]
  instanceTypes := #[(.array .long), .long]
  staticTypes := #[.int, .int]
  resolved := Array.replicate 58 none
  statics := none }

def pool3 : Array CpInfo := pool [(1, u "java/lang/Cloneable"), (0, .class_ 1), (0, u "java/lang/Object"), (0, .class_ 3)] 3

/-- java/lang/Cloneable -/
def k3 : Class := { plain "java/lang/Cloneable" (some 0) with
  accessFlags := 1537
  interfaces := #[]
  cf := some (fileOf pool3 2 #[] #[] 1537 4 #[] #[])
  fields := #[]
  methods := #[]
  instanceTypes := #[]
  staticTypes := #[]
  resolved := Array.replicate 8 none
  statics := none }

def pool4 : Array CpInfo := pool [(1, u "java/io/Serializable"), (0, .class_ 1), (0, u "java/lang/Object"), (0, .class_ 3)] 3

/-- java/io/Serializable -/
def k4 : Class := { plain "java/io/Serializable" (some 0) with
  accessFlags := 1537
  interfaces := #[]
  cf := some (fileOf pool4 2 #[] #[] 1537 4 #[] #[])
  fields := #[]
  methods := #[]
  instanceTypes := #[]
  staticTypes := #[]
  resolved := Array.replicate 8 none
  statics := none }

/-- the primitive byte -/
def k5 : Class := { plain "byte" none with kind := .primitive 'B', accessFlags := 0x411 }
/-- [B -/
def k6 : Class := { plain "[B" (some 0) with kind := .array 5 .byte, interfaces := #[3, 4], accessFlags := 1041 }

/-- the primitive int -/
def k7 : Class := { plain "int" none with kind := .primitive 'I', accessFlags := 0x411 }
/-- [I -/
def k8 : Class := { plain "[I" (some 0) with kind := .array 7 .int, interfaces := #[3, 4], accessFlags := 1041 }

/-- the primitive long -/
def k9 : Class := { plain "long" none with kind := .primitive 'J', accessFlags := 0x411 }
/-- [J -/
def k10 : Class := { plain "[J" (some 0) with kind := .array 9 .long, interfaces := #[3, 4], accessFlags := 1041 }

def heap : Heap := #[]
def classes : Array Class := #[k0, k1, k2, k3, k4, k5, k6, k7, k8, k9, k10]
def interned : List (Array UInt16 × Addr) := []
def slotsUsed : Nat := 0
def theMethod : MethodId := ⟨1, 4⟩
def args0 : Array Value := #[.long 5, .int 5, .int 5, .int 5, .long 5]
def aboutOver (below : List Frame) : State where
  vm := { classes := classes, interned := interned.toArray }
  heap := heap
  slotsUsed := slotsUsed
  threads := #[{ frames := .invoking theMethod args0 :: below }]
def below0 : List Frame := [.native { method := ⟨0, 0⟩, args := #[] }]
def about1 : State := aboutOver below0
def p0 : Program := .bare "" "" ""
def e0 : Env := launch0.env 0 0 0
theorem w_frames : about1.frames = Frame.invoking theMethod args0 :: below0 := rfl
set_option maxRecDepth 65536 in
theorem w_args : argsFit about1.vm theMethod args0 = true := by decide +kernel
set_option maxRecDepth 65536 in
theorem w_heap : heapFits about1 = true := by decide +kernel
set_option maxRecDepth 65536 in
theorem w_runnable : about1.curStatus? = some .runnable := by decide +kernel
set_option maxRecDepth 65536 in
theorem w_alone : about1.alone = true := by decide +kernel
set_option maxRecDepth 65536 in
theorem w_named : about1.methodNamed? x = some theMethod := by decide +kernel
set_option maxRecDepth 65536 in
theorem w_hears : about1.hears theMethod below0 = true := by decide +kernel
set_option maxRecDepth 65536 in
theorem w_ripe : about1.ripe theMethod args0 below0 = true := by decide +kernel
theorem w_running : about1.status = .running := rfl
set_option maxRecDepth 65536 in
theorem w_room : about1.hasRoom e0.platform room_1 = true :=
  launch0.hasRoom_least _ room_1 (by decide +kernel) (by decide +kernel) (by decide +kernel) (by decide +kernel) (by decide +kernel) (by decide +kernel)
theorem allAtoms_all (ts : List Jvm.Cond) (a : Array Jvm.Value) (st : Jvm.State) : (allAtoms ts).before a st = ts.all (fun c => c.before a st) := by
  induction ts with
  | nil => rfl
  | cons c t ih =>
    show (Jvm.Cond.and c (allAtoms t)).before a st = _
    rw [Jvm.Cond.before_and, ih, List.all_cons]
def words1 : List Jvm.Cond := Jvm.Cond.code x code maxLocals ret :: tables_1
/-- a 'code' word, met by the world's own term for the bytes: nothing is compared byte by byte -/
theorem code_word {y : MethodName} {bytes : ByteArray} {mx : Nat} {rt : Option FieldType} {a : Array Value} {s : State} {m : MethodId} {meth : Method} {c : Code} (h1 : s.methodNamed? y = some m) (h2 : s.vm.method? m = some meth) (h3 : meth.code = some c) (h4 : c.code = bytes)
    (h5 : (c.maxLocals == mx && c.exceptionTable.isEmpty && decide (c.maxStack ≤ mostOperands) && decide (meth.sig.returnType = rt) && !meth.locks && decide (parseMethodDescriptor y.desc = some meth.sig)) = true) : (Jvm.Cond.code y bytes mx rt).before a s = true := by
  simp only [Bool.and_eq_true, beq_iff_eq, Bool.not_eq_true', decide_eq_true_eq] at h5
  obtain ⟨⟨⟨⟨⟨g1, g2⟩, g3⟩, g4⟩, g5⟩, g6⟩ := h5
  simp [Cond.before, Cond.holds, Cond.value, h1, h2, h3, h4, g1, g2, g3, g4, g5, g6]
def isCode : Jvm.Cond → Bool
  | .code _ _ _ _ => true
  | _ => false
theorem all_split {L : List Jvm.Cond} {P : Jvm.Cond → Bool} (h1 : L.all (fun c => isCode c || P c) = true) (h2 : ∀ c ∈ L.filter isCode, P c = true) : L.all P = true := by
  refine List.all_eq_true.mpr fun c hc => ?_
  have h := List.all_eq_true.mp h1 c hc
  rcases Bool.eq_false_or_eq_true (isCode c) with hi | hi
  · exact h2 c (List.mem_filter.mpr ⟨hc, hi⟩)
  · simpa [hi] using h
set_option maxRecDepth 65536 in
theorem w_c0 : (Jvm.Cond.code x code maxLocals ret).before args0 about1 = true := code_word (m := ⟨1, 4⟩) (meth := k1m4) (c := k1c4) (by decide +kernel) rfl rfl rfl (by decide +kernel)
set_option maxRecDepth 65536 in
theorem w_c1 : (Jvm.Cond.code ({ cls := "com/example/brevicode/brevicode/ByteCounts", name := "add", desc := "([J[BII)V" } : Jvm.MethodName) prog_7_method_3_code (5 : Nat) (Option.none : Option Jvm.ClassFile.FieldType)).before args0 about1 = true := code_word (m := ⟨2, 0⟩) (meth := k2m0) (c := k2c0) (by decide +kernel) rfl rfl rfl (by decide +kernel)
set_option maxRecDepth 65536 in
theorem w_c2 : (Jvm.Cond.code ({ cls := "com/example/brevicode/brevicode/ByteCountsAddPinLaw", name := "occurrences", desc := "(JIII)J" } : Jvm.MethodName) method_3_code (5 : Nat) (Option.some Jvm.ClassFile.FieldType.long)).before args0 about1 = true := code_word (m := ⟨1, 2⟩) (meth := k1m2) (c := k1c2) (by decide +kernel) rfl rfl rfl (by decide +kernel)
set_option maxRecDepth 65536 in
theorem w_c3 : (Jvm.Cond.code ({ cls := "com/example/brevicode/brevicode/ByteCountsAddPinLaw", name := "hit", desc := "(JIIII)J" } : Jvm.MethodName) method_2_code (6 : Nat) (Option.some Jvm.ClassFile.FieldType.long)).before args0 about1 = true := code_word (m := ⟨1, 1⟩) (meth := k1m1) (c := k1c1) (by decide +kernel) rfl rfl rfl (by decide +kernel)
set_option maxRecDepth 65536 in
theorem w_c4 : (Jvm.Cond.code ({ cls := "com/example/brevicode/brevicode/ByteCountsAddPinLaw", name := "same", desc := "([BJ)Z" } : Jvm.MethodName) method_4_code (3 : Nat) (Option.some Jvm.ClassFile.FieldType.boolean)).before args0 about1 = true := code_word (m := ⟨1, 3⟩) (meth := k1m3) (c := k1c3) (by decide +kernel) rfl rfl rfl (by decide +kernel)
def codes1 : List Jvm.Cond := [Jvm.Cond.code x code maxLocals ret, Jvm.Cond.code ({ cls := "com/example/brevicode/brevicode/ByteCounts", name := "add", desc := "([J[BII)V" } : Jvm.MethodName) prog_7_method_3_code (5 : Nat) (Option.none : Option Jvm.ClassFile.FieldType), Jvm.Cond.code ({ cls := "com/example/brevicode/brevicode/ByteCountsAddPinLaw", name := "occurrences", desc := "(JIII)J" } : Jvm.MethodName) method_3_code (5 : Nat) (Option.some Jvm.ClassFile.FieldType.long), Jvm.Cond.code ({ cls := "com/example/brevicode/brevicode/ByteCountsAddPinLaw", name := "hit", desc := "(JIIII)J" } : Jvm.MethodName) method_2_code (6 : Nat) (Option.some Jvm.ClassFile.FieldType.long), Jvm.Cond.code ({ cls := "com/example/brevicode/brevicode/ByteCountsAddPinLaw", name := "same", desc := "([BJ)Z" } : Jvm.MethodName) method_4_code (3 : Nat) (Option.some Jvm.ClassFile.FieldType.boolean)]
set_option maxRecDepth 65536 in
theorem codes_eq : words1.filter isCode = codes1 := rfl
theorem w_codes : ∀ c ∈ words1.filter isCode, c.before args0 about1 = true := by
  rw [codes_eq]
  intro c hc
  simp only [codes1, List.mem_cons, List.not_mem_nil, or_false] at hc
  rcases hc with rfl | rfl | rfl | rfl | rfl
  · exact w_c0
  · exact w_c1
  · exact w_c2
  · exact w_c3
  · exact w_c4
set_option maxRecDepth 65536 in
theorem w_t1 : words1.all (fun c => isCode c || c.before args0 about1) = true := by decide +kernel
theorem w_tables : (allAtoms (Jvm.Cond.code x code maxLocals ret :: tables_1)).before args0 about1 = true := by
  rw [allAtoms_all]
  show words1.all (fun c => c.before args0 about1) = true
  refine all_split ?_ w_codes
  rw [w_t1]
set_option maxRecDepth 65536 in
theorem w_case : (Jvm.Cond.and given_1 narrow_1).before args0 about1 = true := by decide +kernel
theorem w_applies : (headSpec (Jvm.Cond.code x code maxLocals ret :: tables_1) room_1).applies x e0.platform about1 = true :=
  (Spec.applies_iff w_frames).mpr ⟨w_running, w_runnable, w_alone, w_named, w_hears, w_ripe, w_room, w_tables⟩
theorem atStart : AtStart classFile x code maxLocals ret World_1 tables_1 room_1 Calls_1 rest_1 Pre_1 launch0 p0 e0 about1 theMethod args0 below0 :=
  ⟨lists_1, trivial, launch0.admits_env _ _ _, launch0.least_env, fairChoices_fair.cas, fairChoices_fair.clock, w_frames, w_args, w_heap, w_applies, trivial, trivial, w_case⟩
end start1
theorem witness_1 : WitnessClaimed_1 := ⟨start1.p0, start1.e0, start1.about1, start1.theMethod, start1.args0, start1.below0, start1.atStart⟩
end Jvm.Pilot.@@N@@
