import JvmDerived
import JvmDerived.Pilot.@@N@@Statement
import JvmDerived.Pilot.@@N@@Code
set_option linter.unusedVariables false
set_option linter.unusedSimpArgs false
namespace Jvm.Pilot.@@N@@
open Jvm Jvm.ClassFile Sem Op Lib Jvm.Free Jvm.Stand Jvm.LawKit Jvm.RoadKit Bundle Jvm.Pilot.@@N@@.Jvm.D
section OwnKit
variable {p : Program} {l : Launch} {e : Env} {R : Room} {s : State} {m : MethodId} {args : Array Value} {below : List Frame} {meth : Method} {c : Code} {T : State} {locs : List Loc} {cells slots : Nat} {K : State → Prop} {Ls : Array Slot} {rest : List Value} {pc : Nat} {bytes : ByteArray}
def Goes (p : Program) (e : Env) (below : List Frame) (K : State → Prop) (S : State) : Prop := ∃ t, Steps p.tables e below S t ∧ K t
theorem Goes.of {S S' : State} (st : ∀ t, Steps p.tables e below S' t → Steps p.tables e below S t) (h : Goes p e below K S') : Goes p e below K S := h.elim fun t ht => ⟨t, st t ht.1, ht.2⟩
theorem Goes.entry {g g' : JFrame} (q : g = g') (k : Goes p e below K (T.setTop g')) : Goes p e below K (T.setTop g) := q ▸ k
def Kend (s : State) (below : List Frame) (Q : Option Value → Heap → List Loc → Prop) (C S : Nat) (t : State) : Prop := ∃ o, t.status = .running ∧ Ended t below o ∧ ∃ v L, o = .returned v ∧ Q v t.heap L ∧ FrameEnd s o t L C S
def Ctr (l : Launch) (y : MethodName) (bytes : ByteArray) (maxL : Nat) (ret : Option FieldType) (ws : List Jvm.Cond) (rm : Room) (as' : Array Value) (Z : State) (h0 : Heap) (Q : Option Value → Heap → List Loc → Prop) : Prop :=
  MetFree l y (head1 (Jvm.Cond.code y bytes maxL ret :: ws) rm) (fun a U => a = as' ∧ Z.Warmed39 U.vm ∧ U.heap = h0) (fun _ _ _ _ _ => True) (fun _ U o U' => ∃ v L, o = .returned v ∧ Q v U'.heap L ∧ FrameEnd U o U' L rm.cells rm.slots)
theorem own_body {y : MethodName} {maxL : Nat} {ret : Option FieldType} {ws : List Jvm.Cond} {rm : Room} {as' : Array Value} {Z : State} {h0 : Heap} {Q : Option Value → Heap → List Loc → Prop} (hpl : plainFor y = true)
    (H : ∀ (p : Program) (e : Env) (s : State) (m : MethodId) (below : List Frame) (meth : Method) (c : Code) (s₁ : State), p.tables.exec = Jvm.exec → c.code = bytes → c.maxLocals = maxL → s.vm.findClass y.cls = some m.cls → meth.name = y.name → meth.sig.returnType = ret → meth.locks = false → Z.Warmed39 s.vm →
      Stand p l e rm s m as' below meth c s₁ [] 0 0 → s₁.heap = h0 → Goes p e below (Kend s below Q rm.cells rm.slots) (s₁.setTop (entryFrame m as' maxL))) : Ctr l y bytes maxL ret ws rm as' Z h0 Q := by
  refine MetFree.of_bodySF hpl hisR ?_
  intro p e s m args below meth c s₁ Bd hml0 hP hK
  obtain ⟨rfl, hZ, hh⟩ := hP
  obtain ⟨t, h1, o, h2, h3, h4⟩ := H p e s m below meth c s₁ Bd.exec Bd.bytes hml0 (findClass_of_methodNamed Bd.named) (name_of_methodNamed Bd.named Bd.method).1 Bd.returns Bd.notSynchronized hZ (Stand.of_body Bd) (by rw [← hh, Bd.state]; rfl)
  exact ⟨t, o, h1, h2, h3, h4⟩

theorem own_store1 {l l' : Array Slot} {i : Nat} {v : Value} {o : Slot} (hold : l[i]? = some o) (ho : One o) (hv : v.category = 1) (e : l.setIfInBounds i (.val v) = l') : storeLocals l i v = some l' := e ▸ XS.store1 hold ho hv
theorem g_iadd (X : Stand p l e R s m args below meth c T locs cells slots) (hx : p.tables.exec = Jvm.exec) (hby : c.code = bytes) {x y : Int32} (hd : decode bytes pc = .ok (.iadd, 1)) (q : Nat) (hq : pc + 1 = q) (k : Goes p e below K (T.setTop (mkF m q Ls (.int (x + y) :: rest)))) : Goes p e below K (T.setTop (mkF m pc Ls (.int y :: .int x :: rest))) := by
  subst hq; exact Goes.of (fun t kt => XS.iadd X.here hx rfl (hb hby hd) rfl kt) k
theorem g_isub (X : Stand p l e R s m args below meth c T locs cells slots) (hx : p.tables.exec = Jvm.exec) (hby : c.code = bytes) {x y : Int32} (hd : decode bytes pc = .ok (.isub, 1)) (q : Nat) (hq : pc + 1 = q) (k : Goes p e below K (T.setTop (mkF m q Ls (.int (x - y) :: rest)))) : Goes p e below K (T.setTop (mkF m pc Ls (.int y :: .int x :: rest))) := by
  subst hq; exact Goes.of (fun t kt => XS.isub X.here hx rfl (hb hby hd) rfl kt) k
theorem g_imul (X : Stand p l e R s m args below meth c T locs cells slots) (hx : p.tables.exec = Jvm.exec) (hby : c.code = bytes) {x y : Int32} (hd : decode bytes pc = .ok (.imul, 1)) (q : Nat) (hq : pc + 1 = q) (k : Goes p e below K (T.setTop (mkF m q Ls (.int (x * y) :: rest)))) : Goes p e below K (T.setTop (mkF m pc Ls (.int y :: .int x :: rest))) := by
  subst hq; exact Goes.of (fun t kt => XS.imul X.here hx rfl (hb hby hd) rfl kt) k
theorem g_iand (X : Stand p l e R s m args below meth c T locs cells slots) (hx : p.tables.exec = Jvm.exec) (hby : c.code = bytes) {x y : Int32} (hd : decode bytes pc = .ok (.iand, 1)) (q : Nat) (hq : pc + 1 = q) (k : Goes p e below K (T.setTop (mkF m q Ls (.int (x &&& y) :: rest)))) : Goes p e below K (T.setTop (mkF m pc Ls (.int y :: .int x :: rest))) := by
  subst hq; exact Goes.of (fun t kt => XS.iand X.here hx rfl (hb hby hd) rfl kt) k
theorem g_ior (X : Stand p l e R s m args below meth c T locs cells slots) (hx : p.tables.exec = Jvm.exec) (hby : c.code = bytes) {x y : Int32} (hd : decode bytes pc = .ok (.ior, 1)) (q : Nat) (hq : pc + 1 = q) (k : Goes p e below K (T.setTop (mkF m q Ls (.int (x ||| y) :: rest)))) : Goes p e below K (T.setTop (mkF m pc Ls (.int y :: .int x :: rest))) := by
  subst hq; exact Goes.of (fun t kt => XS.ior X.here hx rfl (hb hby hd) rfl kt) k
theorem g_ixor (X : Stand p l e R s m args below meth c T locs cells slots) (hx : p.tables.exec = Jvm.exec) (hby : c.code = bytes) {x y : Int32} (hd : decode bytes pc = .ok (.ixor, 1)) (q : Nat) (hq : pc + 1 = q) (k : Goes p e below K (T.setTop (mkF m q Ls (.int (x ^^^ y) :: rest)))) : Goes p e below K (T.setTop (mkF m pc Ls (.int y :: .int x :: rest))) := by
  subst hq; exact Goes.of (fun t kt => XS.ixor X.here hx rfl (hb hby hd) rfl kt) k
theorem g_ishl (X : Stand p l e R s m args below meth c T locs cells slots) (hx : p.tables.exec = Jvm.exec) (hby : c.code = bytes) {x y : Int32} (hd : decode bytes pc = .ok (.ishl, 1)) (q : Nat) (hq : pc + 1 = q) (k : Goes p e below K (T.setTop (mkF m q Ls (.int (x <<< (y &&& 31)) :: rest)))) : Goes p e below K (T.setTop (mkF m pc Ls (.int y :: .int x :: rest))) := by
  subst hq; exact Goes.of (fun t kt => XS.ishl X.here hx rfl (hb hby hd) rfl kt) k
theorem g_ishr (X : Stand p l e R s m args below meth c T locs cells slots) (hx : p.tables.exec = Jvm.exec) (hby : c.code = bytes) {x y : Int32} (hd : decode bytes pc = .ok (.ishr, 1)) (q : Nat) (hq : pc + 1 = q) (k : Goes p e below K (T.setTop (mkF m q Ls (.int (x >>> (y &&& 31)) :: rest)))) : Goes p e below K (T.setTop (mkF m pc Ls (.int y :: .int x :: rest))) := by
  subst hq; exact Goes.of (fun t kt => XS.ishr X.here hx rfl (hb hby hd) rfl kt) k
theorem g_iushr (X : Stand p l e R s m args below meth c T locs cells slots) (hx : p.tables.exec = Jvm.exec) (hby : c.code = bytes) {x y : Int32} (hd : decode bytes pc = .ok (.iushr, 1)) (q : Nat) (hq : pc + 1 = q) (k : Goes p e below K (T.setTop (mkF m q Ls (.int ((x.toUInt32 >>> (y &&& 31).toUInt32).toInt32) :: rest)))) : Goes p e below K (T.setTop (mkF m pc Ls (.int y :: .int x :: rest))) := by
  subst hq; exact Goes.of (fun t kt => XS.iushr X.here hx rfl (hb hby hd) rfl kt) k
theorem g_ladd (X : Stand p l e R s m args below meth c T locs cells slots) (hx : p.tables.exec = Jvm.exec) (hby : c.code = bytes) {x y : Int64} (hd : decode bytes pc = .ok (.ladd, 1)) (q : Nat) (hq : pc + 1 = q) (k : Goes p e below K (T.setTop (mkF m q Ls (.long (x + y) :: rest)))) : Goes p e below K (T.setTop (mkF m pc Ls (.long y :: .long x :: rest))) := by
  subst hq; exact Goes.of (fun t kt => XS.ladd X.here hx rfl (hb hby hd) rfl kt) k
theorem g_lsub (X : Stand p l e R s m args below meth c T locs cells slots) (hx : p.tables.exec = Jvm.exec) (hby : c.code = bytes) {x y : Int64} (hd : decode bytes pc = .ok (.lsub, 1)) (q : Nat) (hq : pc + 1 = q) (k : Goes p e below K (T.setTop (mkF m q Ls (.long (x - y) :: rest)))) : Goes p e below K (T.setTop (mkF m pc Ls (.long y :: .long x :: rest))) := by
  subst hq; exact Goes.of (fun t kt => XS.lsub X.here hx rfl (hb hby hd) rfl kt) k
theorem g_lmul (X : Stand p l e R s m args below meth c T locs cells slots) (hx : p.tables.exec = Jvm.exec) (hby : c.code = bytes) {x y : Int64} (hd : decode bytes pc = .ok (.lmul, 1)) (q : Nat) (hq : pc + 1 = q) (k : Goes p e below K (T.setTop (mkF m q Ls (.long (x * y) :: rest)))) : Goes p e below K (T.setTop (mkF m pc Ls (.long y :: .long x :: rest))) := by
  subst hq; exact Goes.of (fun t kt => XS.lmul X.here hx rfl (hb hby hd) rfl kt) k
theorem g_land (X : Stand p l e R s m args below meth c T locs cells slots) (hx : p.tables.exec = Jvm.exec) (hby : c.code = bytes) {x y : Int64} (hd : decode bytes pc = .ok (.land, 1)) (q : Nat) (hq : pc + 1 = q) (k : Goes p e below K (T.setTop (mkF m q Ls (.long (x &&& y) :: rest)))) : Goes p e below K (T.setTop (mkF m pc Ls (.long y :: .long x :: rest))) := by
  subst hq; exact Goes.of (fun t kt => XS.land X.here hx rfl (hb hby hd) rfl kt) k
theorem g_lor (X : Stand p l e R s m args below meth c T locs cells slots) (hx : p.tables.exec = Jvm.exec) (hby : c.code = bytes) {x y : Int64} (hd : decode bytes pc = .ok (.lor, 1)) (q : Nat) (hq : pc + 1 = q) (k : Goes p e below K (T.setTop (mkF m q Ls (.long (x ||| y) :: rest)))) : Goes p e below K (T.setTop (mkF m pc Ls (.long y :: .long x :: rest))) := by
  subst hq; exact Goes.of (fun t kt => XS.lor X.here hx rfl (hb hby hd) rfl kt) k
theorem g_lxor (X : Stand p l e R s m args below meth c T locs cells slots) (hx : p.tables.exec = Jvm.exec) (hby : c.code = bytes) {x y : Int64} (hd : decode bytes pc = .ok (.lxor, 1)) (q : Nat) (hq : pc + 1 = q) (k : Goes p e below K (T.setTop (mkF m q Ls (.long (x ^^^ y) :: rest)))) : Goes p e below K (T.setTop (mkF m pc Ls (.long y :: .long x :: rest))) := by
  subst hq; exact Goes.of (fun t kt => XS.lxor X.here hx rfl (hb hby hd) rfl kt) k
theorem g_lshl (X : Stand p l e R s m args below meth c T locs cells slots) (hx : p.tables.exec = Jvm.exec) (hby : c.code = bytes) {x : Int64} {y : Int32} (hd : decode bytes pc = .ok (.lshl, 1)) (q : Nat) (hq : pc + 1 = q) (k : Goes p e below K (T.setTop (mkF m q Ls (.long (x <<< (y &&& 0x3f).toInt64) :: rest)))) : Goes p e below K (T.setTop (mkF m pc Ls (.int y :: .long x :: rest))) := by
  subst hq; exact Goes.of (fun t kt => XS.lshl X.here hx rfl (hb hby hd) rfl kt) k
theorem g_lshr (X : Stand p l e R s m args below meth c T locs cells slots) (hx : p.tables.exec = Jvm.exec) (hby : c.code = bytes) {x : Int64} {y : Int32} (hd : decode bytes pc = .ok (.lshr, 1)) (q : Nat) (hq : pc + 1 = q) (k : Goes p e below K (T.setTop (mkF m q Ls (.long (x >>> (y &&& 0x3f).toInt64) :: rest)))) : Goes p e below K (T.setTop (mkF m pc Ls (.int y :: .long x :: rest))) := by
  subst hq; exact Goes.of (fun t kt => XS.lshr X.here hx rfl (hb hby hd) rfl kt) k
theorem g_lushr (X : Stand p l e R s m args below meth c T locs cells slots) (hx : p.tables.exec = Jvm.exec) (hby : c.code = bytes) {x : Int64} {y : Int32} (hd : decode bytes pc = .ok (.lushr, 1)) (q : Nat) (hq : pc + 1 = q) (k : Goes p e below K (T.setTop (mkF m q Ls (.long ((x.toUInt64 >>> (y &&& 0x3f).toInt64.toUInt64).toInt64) :: rest)))) : Goes p e below K (T.setTop (mkF m pc Ls (.int y :: .long x :: rest))) := by
  subst hq; exact Goes.of (fun t kt => XS.lushr X.here hx rfl (hb hby hd) rfl kt) k
theorem g_idiv (X : Stand p l e R s m args below meth c T locs cells slots) (hx : p.tables.exec = Jvm.exec) (hby : c.code = bytes) {x y : Int32} (hd : decode bytes pc = .ok (.idiv, 1)) (hy : y ≠ 0) (q : Nat) (hq : pc + 1 = q) (k : Goes p e below K (T.setTop (mkF m q Ls (.int (x / y) :: rest)))) : Goes p e below K (T.setTop (mkF m pc Ls (.int y :: .int x :: rest))) := by
  subst hq; exact Goes.of (fun t kt => XS.idiv X.here hx rfl (hb hby hd) rfl hy kt) k
theorem g_ldiv (X : Stand p l e R s m args below meth c T locs cells slots) (hx : p.tables.exec = Jvm.exec) (hby : c.code = bytes) {x y : Int64} (hd : decode bytes pc = .ok (.ldiv, 1)) (hy : y ≠ 0) (q : Nat) (hq : pc + 1 = q) (k : Goes p e below K (T.setTop (mkF m q Ls (.long (x / y) :: rest)))) : Goes p e below K (T.setTop (mkF m pc Ls (.long y :: .long x :: rest))) := by
  subst hq; exact Goes.of (fun t kt => XS.ldiv X.here hx rfl (hb hby hd) rfl hy kt) k
theorem g_irem (X : Stand p l e R s m args below meth c T locs cells slots) (hx : p.tables.exec = Jvm.exec) (hby : c.code = bytes) {x y : Int32} (hd : decode bytes pc = .ok (.irem, 1)) (hy : y ≠ 0) (q : Nat) (hq : pc + 1 = q) (k : Goes p e below K (T.setTop (mkF m q Ls (.int (x % y) :: rest)))) : Goes p e below K (T.setTop (mkF m pc Ls (.int y :: .int x :: rest))) := by
  subst hq; exact Goes.of (fun t kt => iremM X hx rfl (hb hby hd) rfl hy kt) k
theorem g_lrem (X : Stand p l e R s m args below meth c T locs cells slots) (hx : p.tables.exec = Jvm.exec) (hby : c.code = bytes) {x y : Int64} (hd : decode bytes pc = .ok (.lrem, 1)) (hy : y ≠ 0) (q : Nat) (hq : pc + 1 = q) (k : Goes p e below K (T.setTop (mkF m q Ls (.long (x % y) :: rest)))) : Goes p e below K (T.setTop (mkF m pc Ls (.long y :: .long x :: rest))) := by
  subst hq; rw [← lrem_mod x y] at k; exact Goes.of (fun t kt => XS.lrem X.here hx rfl (hb hby hd) rfl hy kt) k
theorem g_ineg (X : Stand p l e R s m args below meth c T locs cells slots) (hx : p.tables.exec = Jvm.exec) (hby : c.code = bytes) {x : Int32} (hd : decode bytes pc = .ok (.ineg, 1)) (q : Nat) (hq : pc + 1 = q) (k : Goes p e below K (T.setTop (mkF m q Ls (.int (-x) :: rest)))) : Goes p e below K (T.setTop (mkF m pc Ls (.int x :: rest))) := by
  subst hq; exact Goes.of (fun t kt => XS.ineg X.here hx rfl (hb hby hd) rfl kt) k
theorem g_lneg (X : Stand p l e R s m args below meth c T locs cells slots) (hx : p.tables.exec = Jvm.exec) (hby : c.code = bytes) {x : Int64} (hd : decode bytes pc = .ok (.lneg, 1)) (q : Nat) (hq : pc + 1 = q) (k : Goes p e below K (T.setTop (mkF m q Ls (.long (-x) :: rest)))) : Goes p e below K (T.setTop (mkF m pc Ls (.long x :: rest))) := by
  subst hq; exact Goes.of (fun t kt => XS.lneg X.here hx rfl (hb hby hd) rfl kt) k
theorem g_i2l (X : Stand p l e R s m args below meth c T locs cells slots) (hx : p.tables.exec = Jvm.exec) (hby : c.code = bytes) {x : Int32} (hd : decode bytes pc = .ok (.i2l, 1)) (q : Nat) (hq : pc + 1 = q) (k : Goes p e below K (T.setTop (mkF m q Ls (.long (x.toInt64) :: rest)))) : Goes p e below K (T.setTop (mkF m pc Ls (.int x :: rest))) := by
  subst hq; exact Goes.of (fun t kt => XS.i2l X.here hx rfl (hb hby hd) rfl kt) k
theorem g_l2i (X : Stand p l e R s m args below meth c T locs cells slots) (hx : p.tables.exec = Jvm.exec) (hby : c.code = bytes) {x : Int64} (hd : decode bytes pc = .ok (.l2i, 1)) (q : Nat) (hq : pc + 1 = q) (k : Goes p e below K (T.setTop (mkF m q Ls (.int (x.toInt32) :: rest)))) : Goes p e below K (T.setTop (mkF m pc Ls (.long x :: rest))) := by
  subst hq; exact Goes.of (fun t kt => XS.l2i X.here hx rfl (hb hby hd) rfl kt) k
theorem g_i2b (X : Stand p l e R s m args below meth c T locs cells slots) (hx : p.tables.exec = Jvm.exec) (hby : c.code = bytes) {x : Int32} (hd : decode bytes pc = .ok (.i2b, 1)) (q : Nat) (hq : pc + 1 = q) (k : Goes p e below K (T.setTop (mkF m q Ls (.int (x.toInt8.toInt32) :: rest)))) : Goes p e below K (T.setTop (mkF m pc Ls (.int x :: rest))) := by
  subst hq; exact Goes.of (fun t kt => XS.i2b X.here hx rfl (hb hby hd) rfl kt) k
theorem g_i2s (X : Stand p l e R s m args below meth c T locs cells slots) (hx : p.tables.exec = Jvm.exec) (hby : c.code = bytes) {x : Int32} (hd : decode bytes pc = .ok (.i2s, 1)) (q : Nat) (hq : pc + 1 = q) (k : Goes p e below K (T.setTop (mkF m q Ls (.int (x.toInt16.toInt32) :: rest)))) : Goes p e below K (T.setTop (mkF m pc Ls (.int x :: rest))) := by
  subst hq; exact Goes.of (fun t kt => XS.i2s X.here hx rfl (hb hby hd) rfl kt) k
theorem g_i2c (X : Stand p l e R s m args below meth c T locs cells slots) (hx : p.tables.exec = Jvm.exec) (hby : c.code = bytes) {x : Int32} (hd : decode bytes pc = .ok (.i2c, 1)) (q : Nat) (hq : pc + 1 = q) (k : Goes p e below K (T.setTop (mkF m q Ls (.int (x.toUInt32.toUInt16.toUInt32.toInt32) :: rest)))) : Goes p e below K (T.setTop (mkF m pc Ls (.int x :: rest))) := by
  subst hq; exact Goes.of (fun t kt => XS.i2c X.here hx rfl (hb hby hd) rfl kt) k
theorem g_iloadN (X : Stand p l e R s m args below meth c T locs cells slots) (hx : p.tables.exec = Jvm.exec) (hby : c.code = bytes) {k : Fin 4} {v : Int32} (hd : decode bytes pc = .ok (.iload_n k, 1)) (hl : Ls[k.val]? = some (.val (.int v))) (q : Nat) (hq : pc + 1 = q) (k : Goes p e below K (T.setTop (mkF m q Ls (.int v :: rest)))) : Goes p e below K (T.setTop (mkF m pc Ls rest)) := by
  subst hq; exact Goes.of (fun t kt => XS.iloadN X.here hx rfl (hb hby hd) hl kt) k
theorem g_iload (X : Stand p l e R s m args below meth c T locs cells slots) (hx : p.tables.exec = Jvm.exec) (hby : c.code = bytes) {k : Nat} {v : Int32} (hd : decode bytes pc = .ok (.iload k, 2)) (hl : Ls[k]? = some (.val (.int v))) (q : Nat) (hq : pc + 2 = q) (k : Goes p e below K (T.setTop (mkF m q Ls (.int v :: rest)))) : Goes p e below K (T.setTop (mkF m pc Ls rest)) := by
  subst hq; exact Goes.of (fun t kt => XS.iload X.here hx rfl (hb hby hd) hl kt) k
theorem g_lloadN (X : Stand p l e R s m args below meth c T locs cells slots) (hx : p.tables.exec = Jvm.exec) (hby : c.code = bytes) {k : Fin 4} {v : Int64} (hd : decode bytes pc = .ok (.lload_n k, 1)) (hl : Ls[k.val]? = some (.val (.long v))) (q : Nat) (hq : pc + 1 = q) (k : Goes p e below K (T.setTop (mkF m q Ls (.long v :: rest)))) : Goes p e below K (T.setTop (mkF m pc Ls rest)) := by
  subst hq; exact Goes.of (fun t kt => XS.lloadN X.here hx rfl (hb hby hd) hl kt) k
theorem g_lload (X : Stand p l e R s m args below meth c T locs cells slots) (hx : p.tables.exec = Jvm.exec) (hby : c.code = bytes) {k : Nat} {v : Int64} (hd : decode bytes pc = .ok (.lload k, 2)) (hl : Ls[k]? = some (.val (.long v))) (q : Nat) (hq : pc + 2 = q) (k : Goes p e below K (T.setTop (mkF m q Ls (.long v :: rest)))) : Goes p e below K (T.setTop (mkF m pc Ls rest)) := by
  subst hq; exact Goes.of (fun t kt => XS.lload X.here hx rfl (hb hby hd) hl kt) k
theorem g_aloadN (X : Stand p l e R s m args below meth c T locs cells slots) (hx : p.tables.exec = Jvm.exec) (hby : c.code = bytes) {k : Fin 4} {v : Value} (hd : decode bytes pc = .ok (.aload_n k, 1)) (hl : Ls[k.val]? = some (.val v)) (hv : v.isRef = true) (q : Nat) (hq : pc + 1 = q) (k : Goes p e below K (T.setTop (mkF m q Ls (v :: rest)))) : Goes p e below K (T.setTop (mkF m pc Ls rest)) := by
  subst hq; exact Goes.of (fun t kt => XS.aloadN X.here hx rfl (hb hby hd) hl hv kt) k
theorem g_aload (X : Stand p l e R s m args below meth c T locs cells slots) (hx : p.tables.exec = Jvm.exec) (hby : c.code = bytes) {k : Nat} {v : Value} (hd : decode bytes pc = .ok (.aload k, 2)) (hl : Ls[k]? = some (.val v)) (hv : v.isRef = true) (q : Nat) (hq : pc + 2 = q) (k : Goes p e below K (T.setTop (mkF m q Ls (v :: rest)))) : Goes p e below K (T.setTop (mkF m pc Ls rest)) := by
  subst hq; exact Goes.of (fun t kt => XS.aload X.here hx rfl (hb hby hd) hl hv kt) k
theorem g_istoreN (X : Stand p l e R s m args below meth c T locs cells slots) (hx : p.tables.exec = Jvm.exec) (hby : c.code = bytes) {k : Fin 4} {x : Int32} (hd : decode bytes pc = .ok (.istore_n k, 1)) (y : Int32) (hxy : x = y) (L' : Array Slot) (hl : storeLocals Ls k.val (.int y) = some L') (q : Nat) (hq : pc + 1 = q) (k : Goes p e below K (T.setTop (mkF m q L' rest))) : Goes p e below K (T.setTop (mkF m pc Ls (.int x :: rest))) := by
  subst hq hxy; exact Goes.of (fun t kt => XS.istoreN X.here hx rfl (hb hby hd) rfl hl kt) k
theorem g_istore (X : Stand p l e R s m args below meth c T locs cells slots) (hx : p.tables.exec = Jvm.exec) (hby : c.code = bytes) {k : Nat} {x : Int32} (hd : decode bytes pc = .ok (.istore k, 2)) (y : Int32) (hxy : x = y) (L' : Array Slot) (hl : storeLocals Ls k (.int y) = some L') (q : Nat) (hq : pc + 2 = q) (k : Goes p e below K (T.setTop (mkF m q L' rest))) : Goes p e below K (T.setTop (mkF m pc Ls (.int x :: rest))) := by
  subst hq hxy; exact Goes.of (fun t kt => XS.istore X.here hx rfl (hb hby hd) rfl hl kt) k
theorem g_lstoreN (X : Stand p l e R s m args below meth c T locs cells slots) (hx : p.tables.exec = Jvm.exec) (hby : c.code = bytes) {k : Fin 4} {x : Int64} (hd : decode bytes pc = .ok (.lstore_n k, 1)) (y : Int64) (hxy : x = y) (L' : Array Slot) (hl : storeLocals Ls k.val (.long y) = some L') (q : Nat) (hq : pc + 1 = q) (k : Goes p e below K (T.setTop (mkF m q L' rest))) : Goes p e below K (T.setTop (mkF m pc Ls (.long x :: rest))) := by
  subst hq hxy; exact Goes.of (fun t kt => XS.lstoreN X.here hx rfl (hb hby hd) rfl hl kt) k
theorem g_lstore (X : Stand p l e R s m args below meth c T locs cells slots) (hx : p.tables.exec = Jvm.exec) (hby : c.code = bytes) {k : Nat} {x : Int64} (hd : decode bytes pc = .ok (.lstore k, 2)) (y : Int64) (hxy : x = y) (L' : Array Slot) (hl : storeLocals Ls k (.long y) = some L') (q : Nat) (hq : pc + 2 = q) (k : Goes p e below K (T.setTop (mkF m q L' rest))) : Goes p e below K (T.setTop (mkF m pc Ls (.long x :: rest))) := by
  subst hq hxy; exact Goes.of (fun t kt => XS.lstore X.here hx rfl (hb hby hd) rfl hl kt) k
theorem g_astoreN (X : Stand p l e R s m args below meth c T locs cells slots) (hx : p.tables.exec = Jvm.exec) (hby : c.code = bytes) {k : Fin 4} {x : Value} (hd : decode bytes pc = .ok (.astore_n k, 1)) (hv : x.isRef = true) (L' : Array Slot) (hl : storeLocals Ls k.val x = some L') (q : Nat) (hq : pc + 1 = q) (k : Goes p e below K (T.setTop (mkF m q L' rest))) : Goes p e below K (T.setTop (mkF m pc Ls (x :: rest))) := by
  subst hq; exact Goes.of (fun t kt => XS.astoreN X.here hx rfl (hb hby hd) rfl hv hl kt) k
theorem g_astore (X : Stand p l e R s m args below meth c T locs cells slots) (hx : p.tables.exec = Jvm.exec) (hby : c.code = bytes) {k : Nat} {x : Value} (hd : decode bytes pc = .ok (.astore k, 2)) (hv : x.isRef = true) (L' : Array Slot) (hl : storeLocals Ls k x = some L') (q : Nat) (hq : pc + 2 = q) (k : Goes p e below K (T.setTop (mkF m q L' rest))) : Goes p e below K (T.setTop (mkF m pc Ls (x :: rest))) := by
  subst hq; exact Goes.of (fun t kt => XS.astore X.here hx rfl (hb hby hd) rfl hv hl kt) k
theorem g_iconst (X : Stand p l e R s m args below meth c T locs cells slots) (hx : p.tables.exec = Jvm.exec) (hby : c.code = bytes) {i : Int} (hd : decode bytes pc = .ok (.iconst i, 1)) (v : Int32) (hv : Int32.ofInt i = v) (q : Nat) (hq : pc + 1 = q) (k : Goes p e below K (T.setTop (mkF m q Ls (.int v :: rest)))) : Goes p e below K (T.setTop (mkF m pc Ls rest)) := by
  subst hq hv; exact Goes.of (fun t kt => XS.iconst X.here hx rfl (hb hby hd) kt) k
theorem g_bipush (X : Stand p l e R s m args below meth c T locs cells slots) (hx : p.tables.exec = Jvm.exec) (hby : c.code = bytes) {i : Int} (hd : decode bytes pc = .ok (.bipush i, 2)) (v : Int32) (hv : (Int8.ofInt i).toInt32 = v) (q : Nat) (hq : pc + 2 = q) (k : Goes p e below K (T.setTop (mkF m q Ls (.int v :: rest)))) : Goes p e below K (T.setTop (mkF m pc Ls rest)) := by
  subst hq hv; exact Goes.of (fun t kt => XS.bipush X.here hx rfl (hb hby hd) kt) k
theorem g_sipush (X : Stand p l e R s m args below meth c T locs cells slots) (hx : p.tables.exec = Jvm.exec) (hby : c.code = bytes) {i : Int} (hd : decode bytes pc = .ok (.sipush i, 3)) (v : Int32) (hv : (Int16.ofInt i).toInt32 = v) (q : Nat) (hq : pc + 3 = q) (k : Goes p e below K (T.setTop (mkF m q Ls (.int v :: rest)))) : Goes p e below K (T.setTop (mkF m pc Ls rest)) := by
  subst hq hv; exact Goes.of (fun t kt => XS.sipush X.here hx rfl (hb hby hd) kt) k
theorem g_lconst (X : Stand p l e R s m args below meth c T locs cells slots) (hx : p.tables.exec = Jvm.exec) (hby : c.code = bytes) {i : Fin 2} (hd : decode bytes pc = .ok (.lconst i, 1)) (v : Int64) (hv : Int64.ofNat i = v) (q : Nat) (hq : pc + 1 = q) (k : Goes p e below K (T.setTop (mkF m q Ls (.long v :: rest)))) : Goes p e below K (T.setTop (mkF m pc Ls rest)) := by
  subst hq hv; exact Goes.of (fun t kt => XS.lconst X.here hx rfl (hb hby hd) kt) k
theorem g_aconst_null (X : Stand p l e R s m args below meth c T locs cells slots) (hx : p.tables.exec = Jvm.exec) (hby : c.code = bytes)  (hd : decode bytes pc = .ok (.aconst_null, 1)) (q : Nat) (hq : pc + 1 = q) (k : Goes p e below K (T.setTop (mkF m q Ls (.null :: rest)))) : Goes p e below K (T.setTop (mkF m pc Ls rest)) := by
  subst hq; exact Goes.of (fun t kt => XS.aconstNull X.here hx rfl (hb hby hd) kt) k
theorem g_dup (X : Stand p l e R s m args below meth c T locs cells slots) (hx : p.tables.exec = Jvm.exec) (hby : c.code = bytes) {x : Value} (hd : decode bytes pc = .ok (.dup, 1)) (hc : x.category = 1) (q : Nat) (hq : pc + 1 = q) (k : Goes p e below K (T.setTop (mkF m q Ls (x :: x :: rest)))) : Goes p e below K (T.setTop (mkF m pc Ls (x :: rest))) := by
  subst hq; exact Goes.of (fun t kt => XS.dup X.here hx rfl (hb hby hd) rfl hc kt) k
theorem g_pop (X : Stand p l e R s m args below meth c T locs cells slots) (hx : p.tables.exec = Jvm.exec) (hby : c.code = bytes) {x : Value} (hd : decode bytes pc = .ok (.pop, 1)) (hc : x.category = 1) (q : Nat) (hq : pc + 1 = q) (k : Goes p e below K (T.setTop (mkF m q Ls rest))) : Goes p e below K (T.setTop (mkF m pc Ls (x :: rest))) := by
  subst hq; exact Goes.of (fun t kt => XS.pop X.here hx rfl (hb hby hd) rfl hc kt) k
theorem g_dup_x1 (X : Stand p l e R s m args below meth c T locs cells slots) (hx : p.tables.exec = Jvm.exec) (hby : c.code = bytes) {x y : Value} (hd : decode bytes pc = .ok (.dup_x1, 1)) (hc : x.category = 1) (hc' : y.category = 1) (q : Nat) (hq : pc + 1 = q) (k : Goes p e below K (T.setTop (mkF m q Ls (x :: y :: x :: rest)))) : Goes p e below K (T.setTop (mkF m pc Ls (x :: y :: rest))) := by
  subst hq; exact Goes.of (fun t kt => XS.dupX1 X.here hx rfl (hb hby hd) rfl hc hc' kt) k
theorem g_dup2 (X : Stand p l e R s m args below meth c T locs cells slots) (hx : p.tables.exec = Jvm.exec) (hby : c.code = bytes) {x y : Value} (hd : decode bytes pc = .ok (.dup2, 1)) (hc : x.category = 1) (hc' : y.category = 1) (q : Nat) (hq : pc + 1 = q) (k : Goes p e below K (T.setTop (mkF m q Ls (x :: y :: x :: y :: rest)))) : Goes p e below K (T.setTop (mkF m pc Ls (x :: y :: rest))) := by
  subst hq; exact Goes.of (fun t kt => Jvm.Free.XT.dup2 X.here hx rfl (hb hby hd) rfl hc hc' kt) k
theorem g_iinc (X : Stand p l e R s m args below meth c T locs cells slots) (hx : p.tables.exec = Jvm.exec) (hby : c.code = bytes) {i : Int} {kk : Nat} {x : Int32} (hd : decode bytes pc = .ok (.iinc kk i, 3)) (v : Int32) (hv : Int32.ofInt i = v) (hl : Ls[kk]? = some (.val (.int x))) (y : Int32) (hxy : x + v = y) (L' : Array Slot) (hl' : storeLocals Ls kk (.int y) = some L') (q : Nat) (hq : pc + 3 = q) (k : Goes p e below K (T.setTop (mkF m q L' rest))) : Goes p e below K (T.setTop (mkF m pc Ls rest)) := by
  subst hq hv hxy; exact Goes.of (fun t kt => XS.iinc X.here hx rfl (hb hby hd) hl hl' kt) k
theorem g_goto (X : Stand p l e R s m args below meth c T locs cells slots) (hx : p.tables.exec = Jvm.exec) (hby : c.code = bytes) {o : Int} (hd : decode bytes pc = .ok (.goto o, 3)) (q : Nat) (ho : 0 ≤ (pc : Int) + o) (hq : ((pc : Int) + o).toNat = q) (k : Goes p e below K (T.setTop (mkF m q Ls rest))) : Goes p e below K (T.setTop (mkF m pc Ls rest)) :=
  Goes.of (fun t kt => XS.goto X.here hx rfl rfl (hb hby hd) ho hq kt) k
theorem g_icmp_eq (X : Stand p l e R s m args below meth c T locs cells slots) (hx : p.tables.exec = Jvm.exec) (hby : c.code = bytes) {x y : Int32} {o : Int} (hd : decode bytes pc = .ok (.if_icmp .eq o, 3)) (q r : Nat) (ho : 0 ≤ (pc : Int) + o) (hq : ((pc : Int) + o).toNat = q) (hr : pc + 3 = r) (kt : x = y → Goes p e below K (T.setTop (mkF m q Ls rest))) (kf : ¬ (x = y) → Goes p e below K (T.setTop (mkF m r Ls rest))) : Goes p e below K (T.setTop (mkF m pc Ls (.int y :: .int x :: rest))) := by
  subst hr
  by_cases h : x = y
  · exact Goes.of (fun t kt => XS.icmpYes X.here hx rfl rfl (hb hby hd) rfl (teq h).1 ho hq kt) (kt h)
  · exact Goes.of (fun t kt => XS.icmpNo X.here hx rfl (hb hby hd) rfl (feq h).1 kt) (kf h)
theorem g_if_eq (X : Stand p l e R s m args below meth c T locs cells slots) (hx : p.tables.exec = Jvm.exec) (hby : c.code = bytes) {x : Int32} {o : Int} (hd : decode bytes pc = .ok (.ifCond .eq o, 3)) (q r : Nat) (ho : 0 ≤ (pc : Int) + o) (hq : ((pc : Int) + o).toNat = q) (hr : pc + 3 = r) (kt : x = 0 → Goes p e below K (T.setTop (mkF m q Ls rest))) (kf : ¬ (x = 0) → Goes p e below K (T.setTop (mkF m r Ls rest))) : Goes p e below K (T.setTop (mkF m pc Ls (.int x :: rest))) := by
  subst hr
  by_cases h : x = 0
  · exact Goes.of (fun t kt => XS.ifYes X.here hx rfl rfl (hb hby hd) rfl ((if0 _ _).trans (teq h).1) ho hq kt) (kt h)
  · exact Goes.of (fun t kt => XS.ifNo X.here hx rfl (hb hby hd) rfl ((if0 _ _).trans (feq h).1) kt) (kf h)
theorem g_lcmp_eq (X : Stand p l e R s m args below meth c T locs cells slots) (hx : p.tables.exec = Jvm.exec) (hby : c.code = bytes) {x y : Int64} {o : Int} {pc2 : Nat} (hd : decode bytes pc = .ok (.lcmp, 1)) (hd2 : decode bytes pc2 = .ok (.ifCond .eq o, 3)) (q r : Nat) (h2 : pc + 1 = pc2) (ho : 0 ≤ (pc2 : Int) + o) (hq : ((pc2 : Int) + o).toNat = q) (hr : pc2 + 3 = r) (kt : x = y → Goes p e below K (T.setTop (mkF m q Ls rest))) (kf : ¬ (x = y) → Goes p e below K (T.setTop (mkF m r Ls rest))) : Goes p e below K (T.setTop (mkF m pc Ls (.long y :: .long x :: rest))) := by
  subst h2
  refine Goes.of (fun t kt => XS.lcmp X.here hx rfl (hb hby hd) rfl kt) ?_
  exact g_if_eq X hx hby hd2 q r ho hq hr (fun h => kt ((lw_eq x y).mp h)) (fun h => kf fun h' => h ((lw_eq x y).mpr h'))
theorem g_icmp_ne (X : Stand p l e R s m args below meth c T locs cells slots) (hx : p.tables.exec = Jvm.exec) (hby : c.code = bytes) {x y : Int32} {o : Int} (hd : decode bytes pc = .ok (.if_icmp .ne o, 3)) (q r : Nat) (ho : 0 ≤ (pc : Int) + o) (hq : ((pc : Int) + o).toNat = q) (hr : pc + 3 = r) (kt : x = y → Goes p e below K (T.setTop (mkF m r Ls rest))) (kf : ¬ (x = y) → Goes p e below K (T.setTop (mkF m q Ls rest))) : Goes p e below K (T.setTop (mkF m pc Ls (.int y :: .int x :: rest))) := by
  subst hr
  by_cases h : x = y
  · exact Goes.of (fun t kt => XS.icmpNo X.here hx rfl (hb hby hd) rfl (teq h).2 kt) (kt h)
  · exact Goes.of (fun t kt => XS.icmpYes X.here hx rfl rfl (hb hby hd) rfl (feq h).2 ho hq kt) (kf h)
theorem g_if_ne (X : Stand p l e R s m args below meth c T locs cells slots) (hx : p.tables.exec = Jvm.exec) (hby : c.code = bytes) {x : Int32} {o : Int} (hd : decode bytes pc = .ok (.ifCond .ne o, 3)) (q r : Nat) (ho : 0 ≤ (pc : Int) + o) (hq : ((pc : Int) + o).toNat = q) (hr : pc + 3 = r) (kt : x = 0 → Goes p e below K (T.setTop (mkF m r Ls rest))) (kf : ¬ (x = 0) → Goes p e below K (T.setTop (mkF m q Ls rest))) : Goes p e below K (T.setTop (mkF m pc Ls (.int x :: rest))) := by
  subst hr
  by_cases h : x = 0
  · exact Goes.of (fun t kt => XS.ifNo X.here hx rfl (hb hby hd) rfl ((if0 _ _).trans (teq h).2) kt) (kt h)
  · exact Goes.of (fun t kt => XS.ifYes X.here hx rfl rfl (hb hby hd) rfl ((if0 _ _).trans (feq h).2) ho hq kt) (kf h)
theorem g_lcmp_ne (X : Stand p l e R s m args below meth c T locs cells slots) (hx : p.tables.exec = Jvm.exec) (hby : c.code = bytes) {x y : Int64} {o : Int} {pc2 : Nat} (hd : decode bytes pc = .ok (.lcmp, 1)) (hd2 : decode bytes pc2 = .ok (.ifCond .ne o, 3)) (q r : Nat) (h2 : pc + 1 = pc2) (ho : 0 ≤ (pc2 : Int) + o) (hq : ((pc2 : Int) + o).toNat = q) (hr : pc2 + 3 = r) (kt : x = y → Goes p e below K (T.setTop (mkF m r Ls rest))) (kf : ¬ (x = y) → Goes p e below K (T.setTop (mkF m q Ls rest))) : Goes p e below K (T.setTop (mkF m pc Ls (.long y :: .long x :: rest))) := by
  subst h2
  refine Goes.of (fun t kt => XS.lcmp X.here hx rfl (hb hby hd) rfl kt) ?_
  exact g_if_ne X hx hby hd2 q r ho hq hr (fun h => kt ((lw_eq x y).mp h)) (fun h => kf fun h' => h ((lw_eq x y).mpr h'))
theorem g_icmp_lt (X : Stand p l e R s m args below meth c T locs cells slots) (hx : p.tables.exec = Jvm.exec) (hby : c.code = bytes) {x y : Int32} {o : Int} (hd : decode bytes pc = .ok (.if_icmp .lt o, 3)) (q r : Nat) (ho : 0 ≤ (pc : Int) + o) (hq : ((pc : Int) + o).toNat = q) (hr : pc + 3 = r) (kt : x < y → Goes p e below K (T.setTop (mkF m q Ls rest))) (kf : ¬ (x < y) → Goes p e below K (T.setTop (mkF m r Ls rest))) : Goes p e below K (T.setTop (mkF m pc Ls (.int y :: .int x :: rest))) := by
  subst hr
  by_cases h : x < y
  · exact Goes.of (fun t kt => XS.icmpYes X.here hx rfl rfl (hb hby hd) rfl (tlt h).1 ho hq kt) (kt h)
  · exact Goes.of (fun t kt => XS.icmpNo X.here hx rfl (hb hby hd) rfl (flt h).1 kt) (kf h)
theorem g_if_lt (X : Stand p l e R s m args below meth c T locs cells slots) (hx : p.tables.exec = Jvm.exec) (hby : c.code = bytes) {x : Int32} {o : Int} (hd : decode bytes pc = .ok (.ifCond .lt o, 3)) (q r : Nat) (ho : 0 ≤ (pc : Int) + o) (hq : ((pc : Int) + o).toNat = q) (hr : pc + 3 = r) (kt : x < 0 → Goes p e below K (T.setTop (mkF m q Ls rest))) (kf : ¬ (x < 0) → Goes p e below K (T.setTop (mkF m r Ls rest))) : Goes p e below K (T.setTop (mkF m pc Ls (.int x :: rest))) := by
  subst hr
  by_cases h : x < 0
  · exact Goes.of (fun t kt => XS.ifYes X.here hx rfl rfl (hb hby hd) rfl ((if0 _ _).trans (tlt h).1) ho hq kt) (kt h)
  · exact Goes.of (fun t kt => XS.ifNo X.here hx rfl (hb hby hd) rfl ((if0 _ _).trans (flt h).1) kt) (kf h)
theorem g_lcmp_lt (X : Stand p l e R s m args below meth c T locs cells slots) (hx : p.tables.exec = Jvm.exec) (hby : c.code = bytes) {x y : Int64} {o : Int} {pc2 : Nat} (hd : decode bytes pc = .ok (.lcmp, 1)) (hd2 : decode bytes pc2 = .ok (.ifCond .lt o, 3)) (q r : Nat) (h2 : pc + 1 = pc2) (ho : 0 ≤ (pc2 : Int) + o) (hq : ((pc2 : Int) + o).toNat = q) (hr : pc2 + 3 = r) (kt : x < y → Goes p e below K (T.setTop (mkF m q Ls rest))) (kf : ¬ (x < y) → Goes p e below K (T.setTop (mkF m r Ls rest))) : Goes p e below K (T.setTop (mkF m pc Ls (.long y :: .long x :: rest))) := by
  subst h2
  refine Goes.of (fun t kt => XS.lcmp X.here hx rfl (hb hby hd) rfl kt) ?_
  exact g_if_lt X hx hby hd2 q r ho hq hr (fun h => kt ((lw_lt x y).mp h)) (fun h => kf fun h' => h ((lw_lt x y).mpr h'))
theorem g_icmp_ge (X : Stand p l e R s m args below meth c T locs cells slots) (hx : p.tables.exec = Jvm.exec) (hby : c.code = bytes) {x y : Int32} {o : Int} (hd : decode bytes pc = .ok (.if_icmp .ge o, 3)) (q r : Nat) (ho : 0 ≤ (pc : Int) + o) (hq : ((pc : Int) + o).toNat = q) (hr : pc + 3 = r) (kt : x < y → Goes p e below K (T.setTop (mkF m r Ls rest))) (kf : ¬ (x < y) → Goes p e below K (T.setTop (mkF m q Ls rest))) : Goes p e below K (T.setTop (mkF m pc Ls (.int y :: .int x :: rest))) := by
  subst hr
  by_cases h : x < y
  · exact Goes.of (fun t kt => XS.icmpNo X.here hx rfl (hb hby hd) rfl (tlt h).2.1 kt) (kt h)
  · exact Goes.of (fun t kt => XS.icmpYes X.here hx rfl rfl (hb hby hd) rfl (flt h).2.1 ho hq kt) (kf h)
theorem g_if_ge (X : Stand p l e R s m args below meth c T locs cells slots) (hx : p.tables.exec = Jvm.exec) (hby : c.code = bytes) {x : Int32} {o : Int} (hd : decode bytes pc = .ok (.ifCond .ge o, 3)) (q r : Nat) (ho : 0 ≤ (pc : Int) + o) (hq : ((pc : Int) + o).toNat = q) (hr : pc + 3 = r) (kt : x < 0 → Goes p e below K (T.setTop (mkF m r Ls rest))) (kf : ¬ (x < 0) → Goes p e below K (T.setTop (mkF m q Ls rest))) : Goes p e below K (T.setTop (mkF m pc Ls (.int x :: rest))) := by
  subst hr
  by_cases h : x < 0
  · exact Goes.of (fun t kt => XS.ifNo X.here hx rfl (hb hby hd) rfl ((if0 _ _).trans (tlt h).2.1) kt) (kt h)
  · exact Goes.of (fun t kt => XS.ifYes X.here hx rfl rfl (hb hby hd) rfl ((if0 _ _).trans (flt h).2.1) ho hq kt) (kf h)
theorem g_lcmp_ge (X : Stand p l e R s m args below meth c T locs cells slots) (hx : p.tables.exec = Jvm.exec) (hby : c.code = bytes) {x y : Int64} {o : Int} {pc2 : Nat} (hd : decode bytes pc = .ok (.lcmp, 1)) (hd2 : decode bytes pc2 = .ok (.ifCond .ge o, 3)) (q r : Nat) (h2 : pc + 1 = pc2) (ho : 0 ≤ (pc2 : Int) + o) (hq : ((pc2 : Int) + o).toNat = q) (hr : pc2 + 3 = r) (kt : x < y → Goes p e below K (T.setTop (mkF m r Ls rest))) (kf : ¬ (x < y) → Goes p e below K (T.setTop (mkF m q Ls rest))) : Goes p e below K (T.setTop (mkF m pc Ls (.long y :: .long x :: rest))) := by
  subst h2
  refine Goes.of (fun t kt => XS.lcmp X.here hx rfl (hb hby hd) rfl kt) ?_
  exact g_if_ge X hx hby hd2 q r ho hq hr (fun h => kt ((lw_lt x y).mp h)) (fun h => kf fun h' => h ((lw_lt x y).mpr h'))
theorem g_icmp_gt (X : Stand p l e R s m args below meth c T locs cells slots) (hx : p.tables.exec = Jvm.exec) (hby : c.code = bytes) {x y : Int32} {o : Int} (hd : decode bytes pc = .ok (.if_icmp .gt o, 3)) (q r : Nat) (ho : 0 ≤ (pc : Int) + o) (hq : ((pc : Int) + o).toNat = q) (hr : pc + 3 = r) (kt : y < x → Goes p e below K (T.setTop (mkF m q Ls rest))) (kf : ¬ (y < x) → Goes p e below K (T.setTop (mkF m r Ls rest))) : Goes p e below K (T.setTop (mkF m pc Ls (.int y :: .int x :: rest))) := by
  subst hr
  by_cases h : y < x
  · exact Goes.of (fun t kt => XS.icmpYes X.here hx rfl rfl (hb hby hd) rfl (tlt h).2.2.1 ho hq kt) (kt h)
  · exact Goes.of (fun t kt => XS.icmpNo X.here hx rfl (hb hby hd) rfl (flt h).2.2.1 kt) (kf h)
theorem g_if_gt (X : Stand p l e R s m args below meth c T locs cells slots) (hx : p.tables.exec = Jvm.exec) (hby : c.code = bytes) {x : Int32} {o : Int} (hd : decode bytes pc = .ok (.ifCond .gt o, 3)) (q r : Nat) (ho : 0 ≤ (pc : Int) + o) (hq : ((pc : Int) + o).toNat = q) (hr : pc + 3 = r) (kt : 0 < x → Goes p e below K (T.setTop (mkF m q Ls rest))) (kf : ¬ (0 < x) → Goes p e below K (T.setTop (mkF m r Ls rest))) : Goes p e below K (T.setTop (mkF m pc Ls (.int x :: rest))) := by
  subst hr
  by_cases h : 0 < x
  · exact Goes.of (fun t kt => XS.ifYes X.here hx rfl rfl (hb hby hd) rfl ((if0 _ _).trans (tlt h).2.2.1) ho hq kt) (kt h)
  · exact Goes.of (fun t kt => XS.ifNo X.here hx rfl (hb hby hd) rfl ((if0 _ _).trans (flt h).2.2.1) kt) (kf h)
theorem g_lcmp_gt (X : Stand p l e R s m args below meth c T locs cells slots) (hx : p.tables.exec = Jvm.exec) (hby : c.code = bytes) {x y : Int64} {o : Int} {pc2 : Nat} (hd : decode bytes pc = .ok (.lcmp, 1)) (hd2 : decode bytes pc2 = .ok (.ifCond .gt o, 3)) (q r : Nat) (h2 : pc + 1 = pc2) (ho : 0 ≤ (pc2 : Int) + o) (hq : ((pc2 : Int) + o).toNat = q) (hr : pc2 + 3 = r) (kt : y < x → Goes p e below K (T.setTop (mkF m q Ls rest))) (kf : ¬ (y < x) → Goes p e below K (T.setTop (mkF m r Ls rest))) : Goes p e below K (T.setTop (mkF m pc Ls (.long y :: .long x :: rest))) := by
  subst h2
  refine Goes.of (fun t kt => XS.lcmp X.here hx rfl (hb hby hd) rfl kt) ?_
  exact g_if_gt X hx hby hd2 q r ho hq hr (fun h => kt ((lw_gt x y).mp h)) (fun h => kf fun h' => h ((lw_gt x y).mpr h'))
theorem g_icmp_le (X : Stand p l e R s m args below meth c T locs cells slots) (hx : p.tables.exec = Jvm.exec) (hby : c.code = bytes) {x y : Int32} {o : Int} (hd : decode bytes pc = .ok (.if_icmp .le o, 3)) (q r : Nat) (ho : 0 ≤ (pc : Int) + o) (hq : ((pc : Int) + o).toNat = q) (hr : pc + 3 = r) (kt : y < x → Goes p e below K (T.setTop (mkF m r Ls rest))) (kf : ¬ (y < x) → Goes p e below K (T.setTop (mkF m q Ls rest))) : Goes p e below K (T.setTop (mkF m pc Ls (.int y :: .int x :: rest))) := by
  subst hr
  by_cases h : y < x
  · exact Goes.of (fun t kt => XS.icmpNo X.here hx rfl (hb hby hd) rfl (tlt h).2.2.2 kt) (kt h)
  · exact Goes.of (fun t kt => XS.icmpYes X.here hx rfl rfl (hb hby hd) rfl (flt h).2.2.2 ho hq kt) (kf h)
theorem g_if_le (X : Stand p l e R s m args below meth c T locs cells slots) (hx : p.tables.exec = Jvm.exec) (hby : c.code = bytes) {x : Int32} {o : Int} (hd : decode bytes pc = .ok (.ifCond .le o, 3)) (q r : Nat) (ho : 0 ≤ (pc : Int) + o) (hq : ((pc : Int) + o).toNat = q) (hr : pc + 3 = r) (kt : 0 < x → Goes p e below K (T.setTop (mkF m r Ls rest))) (kf : ¬ (0 < x) → Goes p e below K (T.setTop (mkF m q Ls rest))) : Goes p e below K (T.setTop (mkF m pc Ls (.int x :: rest))) := by
  subst hr
  by_cases h : 0 < x
  · exact Goes.of (fun t kt => XS.ifNo X.here hx rfl (hb hby hd) rfl ((if0 _ _).trans (tlt h).2.2.2) kt) (kt h)
  · exact Goes.of (fun t kt => XS.ifYes X.here hx rfl rfl (hb hby hd) rfl ((if0 _ _).trans (flt h).2.2.2) ho hq kt) (kf h)
theorem g_lcmp_le (X : Stand p l e R s m args below meth c T locs cells slots) (hx : p.tables.exec = Jvm.exec) (hby : c.code = bytes) {x y : Int64} {o : Int} {pc2 : Nat} (hd : decode bytes pc = .ok (.lcmp, 1)) (hd2 : decode bytes pc2 = .ok (.ifCond .le o, 3)) (q r : Nat) (h2 : pc + 1 = pc2) (ho : 0 ≤ (pc2 : Int) + o) (hq : ((pc2 : Int) + o).toNat = q) (hr : pc2 + 3 = r) (kt : y < x → Goes p e below K (T.setTop (mkF m r Ls rest))) (kf : ¬ (y < x) → Goes p e below K (T.setTop (mkF m q Ls rest))) : Goes p e below K (T.setTop (mkF m pc Ls (.long y :: .long x :: rest))) := by
  subst h2
  refine Goes.of (fun t kt => XS.lcmp X.here hx rfl (hb hby hd) rfl kt) ?_
  exact g_if_le X hx hby hd2 q r ho hq hr (fun h => kt ((lw_gt x y).mp h)) (fun h => kf fun h' => h ((lw_gt x y).mpr h'))
theorem g_ifnull_yes (X : Stand p l e R s m args below meth c T locs cells slots) (hx : p.tables.exec = Jvm.exec) (hby : c.code = bytes) {o : Int} (hd : decode bytes pc = .ok (.ifnull o, 3)) (q : Nat) (ho : 0 ≤ (pc : Int) + o) (hq : ((pc : Int) + o).toNat = q) (k : Goes p e below K (T.setTop (mkF m q Ls rest))) : Goes p e below K (T.setTop (mkF m pc Ls (.null :: rest))) :=
  Goes.of (fun t kt => XS.ifnullYes X.here hx rfl rfl (hb hby hd) rfl ho hq kt) k
theorem g_ifnull_no (X : Stand p l e R s m args below meth c T locs cells slots) (hx : p.tables.exec = Jvm.exec) (hby : c.code = bytes) {a : Addr} {o : Int} (hd : decode bytes pc = .ok (.ifnull o, 3)) (q : Nat) (hq : pc + 3 = q) (k : Goes p e below K (T.setTop (mkF m q Ls rest))) : Goes p e below K (T.setTop (mkF m pc Ls (.ref a :: rest))) := by
  subst hq; exact Goes.of (fun t kt => XS.ifnullNo X.here hx rfl (hb hby hd) rfl kt) k
theorem g_ifnonnull_yes (X : Stand p l e R s m args below meth c T locs cells slots) (hx : p.tables.exec = Jvm.exec) (hby : c.code = bytes) {a : Addr} {o : Int} (hd : decode bytes pc = .ok (.ifnonnull o, 3)) (q : Nat) (ho : 0 ≤ (pc : Int) + o) (hq : ((pc : Int) + o).toNat = q) (k : Goes p e below K (T.setTop (mkF m q Ls rest))) : Goes p e below K (T.setTop (mkF m pc Ls (.ref a :: rest))) :=
  Goes.of (fun t kt => XS.ifnonnullYes X.here hx rfl rfl (hb hby hd) rfl ho hq kt) k
theorem g_ifnonnull_no (X : Stand p l e R s m args below meth c T locs cells slots) (hx : p.tables.exec = Jvm.exec) (hby : c.code = bytes) {o : Int} (hd : decode bytes pc = .ok (.ifnonnull o, 3)) (q : Nat) (hq : pc + 3 = q) (k : Goes p e below K (T.setTop (mkF m q Ls rest))) : Goes p e below K (T.setTop (mkF m pc Ls (.null :: rest))) := by
  subst hq; exact Goes.of (fun t kt => XS.ifnonnullNo X.here hx rfl (hb hby hd) rfl kt) k
theorem g_acmp (X : Stand p l e R s m args below meth c T locs cells slots) (hx : p.tables.exec = Jvm.exec) (hby : c.code = bytes) {cd : ACond} {x y : Value} {o : Int} (hd : decode bytes pc = .ok (.if_acmp cd o, 3)) (h1 : x.isRef = true) (h2 : y.isRef = true) (same : Bool) (hs : decide (x = y) = same) (q : Nat) (ho : 0 ≤ (pc : Int) + o) (hq : q = if acV cd same = true then ((pc : Int) + o).toNat else pc + 3) (k : Goes p e below K (T.setTop (mkF m q Ls rest))) : Goes p e below K (T.setTop (mkF m pc Ls (y :: x :: rest))) :=
  Goes.of (fun t kt => Jvm.RoadKit.acmp X hx rfl h1 h2 rfl (hb hby hd) rfl hs ho hq kt) k
theorem g_ldc (X : Stand p l e R s m args below meth c T locs cells slots) (hx : p.tables.exec = Jvm.exec) (hby : c.code = bytes) {Z : State} {a0 : Array Value} (hZ : Z.Warmed39 s.vm) {own : String} {index : Nat} {v : Int32} (hown : s.vm.findClass own = some m.cls) (w : (Jvm.Cond.constant own index v).before a0 Z = true) (hd : decode bytes pc = .ok (.ldc index, 2)) (q : Nat) (hq : pc + 2 = q) (k : Goes p e below K (T.setTop (mkF m q Ls (.int v :: rest)))) : Goes p e below K (T.setTop (mkF m pc Ls rest)) := by
  subst hq; exact Goes.of (fun t kt => X.ldcInt hx hown (mvT hZ w) (g := mkF m pc Ls rest) rfl (hb hby hd) t kt) k
theorem g_ldc_w (X : Stand p l e R s m args below meth c T locs cells slots) (hx : p.tables.exec = Jvm.exec) (hby : c.code = bytes) {Z : State} {a0 : Array Value} (hZ : Z.Warmed39 s.vm) {own : String} {index : Nat} {v : Int32} (hown : s.vm.findClass own = some m.cls) (w : (Jvm.Cond.constant own index v).before a0 Z = true) (hd : decode bytes pc = .ok (.ldc_w index, 3)) (q : Nat) (hq : pc + 3 = q) (k : Goes p e below K (T.setTop (mkF m q Ls (.int v :: rest)))) : Goes p e below K (T.setTop (mkF m pc Ls rest)) := by
  subst hq; exact Goes.of (fun t kt => X.ldcwInt hx hown (mvT hZ w) (g := mkF m pc Ls rest) rfl (hb hby hd) t kt) k
theorem g_ldc2 (X : Stand p l e R s m args below meth c T locs cells slots) (hx : p.tables.exec = Jvm.exec) (hby : c.code = bytes) {Z : State} {a0 : Array Value} (hZ : Z.Warmed39 s.vm) {own : String} {index : Nat} {v : Int64} (hown : s.vm.findClass own = some m.cls) (w : (Jvm.Cond.constantLong own index v).before a0 Z = true) (hd : decode bytes pc = .ok (.ldc2_w index, 3)) (q : Nat) (hq : pc + 3 = q) (k : Goes p e below K (T.setTop (mkF m q Ls (.long v :: rest)))) : Goes p e below K (T.setTop (mkF m pc Ls rest)) := by
  subst hq; exact Goes.of (fun t kt => X.ldc2Long hx hown (mvT hZ w) (g := mkF m pc Ls rest) rfl (hb hby hd) t kt) k
theorem g_leave (X : Stand p l e R s m args below meth c T locs cells slots) {Q : Option Value → Heap → List Loc → Prop} {C S : Nat} {v : Option Value} (hv : meth.sig.returnType = none → v = none) (hlk : meth.locks = false) (hQ : Q v T.heap locs) (hc : cells ≤ C) (hs : slots ≤ S) {F : State}
    (st : ∀ fs : List Frame, (∀ (f : JFrame) (acts : List Action), f.method = m → f.locked = none → f.entered = [] → (doReturn e (T.setTop f) acts v).1 = T.setFrames fs) → Steps p.tables e below F (T.setFrames fs)) : Goes p e below (Kend s below Q C S) F := by
  obtain ⟨fs, hr, hrun, hended, hW, hsame⟩ := X.leave (v := v) hv hlk
  exact ⟨_, st fs hr, _, hrun, hended, v, locs, rfl, hQ, ⟨_, rfl⟩, hW, hsame.mono hc hs⟩
theorem g_ireturn (X : Stand p l e R s m args below meth c T locs cells slots) (hx : p.tables.exec = Jvm.exec) (hby : c.code = bytes) {Q : Option Value → Heap → List Loc → Prop} {C S : Nat} {z : Int32} {t : FieldType} (hret : meth.sig.returnType = some t) (hlk : meth.locks = false) (ht : t = .int ∨ t = .boolean ∨ t = .byte ∨ t = .char ∨ t = .short) (hn : narrow t (.int z) = .int z) (hd : decode bytes pc = .ok (.ireturn, 1)) (hQ : Q (some (.int z)) T.heap locs) (hc : cells ≤ C) (hs : slots ≤ S) : Goes p e below (Kend s below Q C S) (T.setTop (mkF m pc Ls (.int z :: rest))) :=
  g_leave X (v := some (.int z)) (fun h => by rw [hret] at h; cases h) hlk hQ hc hs fun fs hr => retOut X hx hret hn (Or.inl ⟨rfl, ht, z, rfl⟩) (hb hby hd) hr
theorem g_lreturn (X : Stand p l e R s m args below meth c T locs cells slots) (hx : p.tables.exec = Jvm.exec) (hby : c.code = bytes) {Q : Option Value → Heap → List Loc → Prop} {C S : Nat} {z : Int64} (hret : meth.sig.returnType = some .long) (hlk : meth.locks = false) (hd : decode bytes pc = .ok (.lreturn, 1)) (hQ : Q (some (.long z)) T.heap locs) (hc : cells ≤ C) (hs : slots ≤ S) : Goes p e below (Kend s below Q C S) (T.setTop (mkF m pc Ls (.long z :: rest))) :=
  g_leave X (v := some (.long z)) (fun h => by rw [hret] at h; cases h) hlk hQ hc hs fun fs hr => retOut X hx hret rfl (Or.inr (Or.inl ⟨rfl, rfl, z, rfl⟩)) (hb hby hd) hr
theorem g_areturn (X : Stand p l e R s m args below meth c T locs cells slots) (hx : p.tables.exec = Jvm.exec) (hby : c.code = bytes) {Q : Option Value → Heap → List Loc → Prop} {C S : Nat} {w : Value} {t : FieldType} (hret : meth.sig.returnType = some t) (hlk : meth.locks = false) (ht : t.isReference = true) (hw : w.isRef = true) (hn : narrow t w = w) (hd : decode bytes pc = .ok (.areturn, 1)) (hQ : Q (some w) T.heap locs) (hc : cells ≤ C) (hs : slots ≤ S) : Goes p e below (Kend s below Q C S) (T.setTop (mkF m pc Ls (w :: rest))) :=
  g_leave X (v := some w) (fun h => by rw [hret] at h; cases h) hlk hQ hc hs fun fs hr => retOut X hx hret hn (Or.inr (Or.inr (Or.inr (Or.inr ⟨rfl, ht, hw⟩)))) (hb hby hd) hr
theorem g_return (X : Stand p l e R s m args below meth c T locs cells slots) (hx : p.tables.exec = Jvm.exec) (hby : c.code = bytes) {Q : Option Value → Heap → List Loc → Prop} {C S : Nat} (hret : meth.sig.returnType = none) (hlk : meth.locks = false) (hd : decode bytes pc = .ok (.return_, 1)) (hQ : Q none T.heap locs) (hc : cells ≤ C) (hs : slots ≤ S) : Goes p e below (Kend s below Q C S) (T.setTop (mkF m pc Ls [])) :=
  g_leave X (v := none) (fun _ => rfl) hlk hQ hc hs fun fs hr => X.returnOut hx hret (hb hby hd) hr
theorem nar_bool {z : Int32} (h : z = 0 ∨ z = 1) : narrow .boolean (.int z) = .int z := by rcases h with rfl | rfl <;> rfl
theorem g_callS (X : Stand p l e R s m args below meth c T locs cells slots) (hx : p.tables.exec = Jvm.exec) (hby : c.code = bytes) {Z : State} {a0 : Array Value} (hZ : Z.Warmed39 s.vm) {own : String} {index : Nat} {y : MethodName} {cb : ByteArray} {maxL : Nat} {ret : Option FieldType} {rm : Room} {Q : Option Value → Heap → List Loc → Prop} {h : Heap} (hown : s.vm.findClass own = some m.cls) (w1 : (Jvm.Cond.methodLink own index y).before a0 Z = true) (w2 : (Jvm.Cond.static y).before a0 Z = true) (w3 : (Jvm.Cond.initialized y.cls).before a0 Z = true) (w4 : (Jvm.Cond.code y cb maxL ret).before a0 Z = true)
    (hd : decode bytes pc = .ok (.invokestatic index, 3)) (argsL rest : List Value) {st : List Value} (hM : Ctr l y cb maxL ret [] rm argsL.toArray Z h Q) (eT : T.heap = h) (hst : st = argsL.reverse ++ rest) (hsz : Ls.size = c.maxLocals) {ps : List FieldType} {rt : Option FieldType} (hpd : parseMethodDescriptor y.desc = some ⟨ps, rt⟩) (hlen : argsL.length = ps.length)
    (hy : y.cls ≠ "java/lang/invoke/MethodHandle" ∧ y.cls ≠ "java/lang/invoke/VarHandle") (W : Nat) (hW : (rest.map fun v => v.category).sum ≤ W) (hf : rm.frames + 1 ≤ R.frames) (hl : W + (maxL + 11) + rm.locals ≤ R.locals) (hc : cells + rm.cells ≤ R.cells) (hs : slots + rm.slots ≤ R.slots) (q : Nat) (hq : pc + 3 = q)
    (k : ∀ (T' : State) (v : Option Value) (L : List Loc), Stand p l e R s m args below meth c T' (locs ++ L) (cells + rm.cells) (slots + rm.slots) → Q v T'.heap L → Goes p e below K (T'.setTop (mkF m q Ls (v.toList ++ rest)))) : Goes p e below K (T.setTop (mkF m pc Ls st)) := by
  subst hq hst
  obtain ⟨v, _, ⟨T', L', k', n'⟩, -, X', ⟨Lc, hQ, l1, y1, z1⟩, st⟩ := Jvm.LawKit.callS X hx hown (mvT hZ w1) (mvT hZ w2) (mvT hZ w3) (mvT hZ w4) hy (backOf (W := W) hM hZ w4 w3 hf hl) (g := mkF m pc Ls (argsL.reverse ++ rest)) rfl hsz (argsL := argsL) (rest := rest) (lenOf hpd hlen) rfl (by show 2 * 0 + _ ≤ _; omega) (hb hby hd) (fun _ _ => ⟨rfl, eT, hc, hs⟩)
  dsimp only [Pt.U, Pt.locs, Pt.cells, Pt.slots] at X' l1 y1 z1 st hQ
  subst l1 y1 z1
  exact Goes.of st (k _ _ _ X' hQ)
theorem g_special (X : Stand p l e R s m args below meth c T locs cells slots) (hx : p.tables.exec = Jvm.exec) (hby : c.code = bytes) {Z : State} {a0 : Array Value} (hZ : Z.Warmed39 s.vm) {own : String} {index : Nat} {y : MethodName} {cb : ByteArray} {maxL : Nat} {rm : Room} {Q : Option Value → Heap → List Loc → Prop} {h : Heap} (hown : s.vm.findClass own = some m.cls) (hy1 : y.name = "<init>") (w1 : (Jvm.Cond.methodLink own index y).before a0 Z = true) (w2 : (Jvm.Cond.instanceMethod y).before a0 Z = true) (w3 : (Jvm.Cond.initialized y.cls).before a0 Z = true) (w4 : (Jvm.Cond.code y cb maxL none).before a0 Z = true)
    (hd : decode bytes pc = .ok (.invokespecial index, 3)) (a : Addr) (argsL rest : List Value) {st : List Value} (hM : Ctr l y cb maxL none [] rm (.ref a :: argsL).toArray Z h Q) (eT : T.heap = h) (hst : st = argsL.reverse ++ .ref a :: rest) (hsz : Ls.size = c.maxLocals) {ps : List FieldType} {rt : Option FieldType} (hpd : parseMethodDescriptor y.desc = some ⟨ps, rt⟩) (hlen : argsL.length = ps.length)
    (hy : y.cls ≠ "java/lang/invoke/MethodHandle" ∧ y.cls ≠ "java/lang/invoke/VarHandle") (W : Nat) (hW : (rest.map fun v => v.category).sum ≤ W) (hf : rm.frames + 1 ≤ R.frames) (hl : W + (maxL + 11) + rm.locals ≤ R.locals) (hc : cells + rm.cells ≤ R.cells) (hs : slots + rm.slots ≤ R.slots) (q : Nat) (hq : pc + 3 = q)
    (k : ∀ (T' : State) (v : Option Value) (L : List Loc), Stand p l e R s m args below meth c T' (locs ++ L) (cells + rm.cells) (slots + rm.slots) → Q v T'.heap L → Goes p e below K (T'.setTop (mkF m q Ls (v.toList ++ rest)))) : Goes p e below K (T.setTop (mkF m pc Ls st)) := by
  subst hq hst
  obtain ⟨v, _, ⟨T', L', k', n'⟩, -, X', ⟨Lc, hQ, l1, y1, z1⟩, st⟩ := X.specialBack hx hy1 hown (mvT hZ w1) (mvT hZ w2) (mvT hZ w4) hy (backOf (W := W) hM hZ w4 w3 hf hl) (g := mkF m pc Ls (argsL.reverse ++ .ref a :: rest)) rfl hsz (Steps.refl _) (a := a) (argsL := argsL) (rest := rest) (lenOf hpd hlen) rfl (by show 2 * 0 + _ ≤ _; omega) (hb hby hd) (fun _ _ => ⟨rfl, eT, hc, hs⟩)
  dsimp only [Pt.U, Pt.locs, Pt.cells, Pt.slots] at X' l1 y1 z1 st hQ
  subst l1 y1 z1
  exact Goes.of (fun t kt => st.trans kt) (k _ _ _ X' hQ)
theorem g_virtual (X : Stand p l e R s m args below meth c T locs cells slots) (hx : p.tables.exec = Jvm.exec) (hby : c.code = bytes) {Z : State} {a0 : Array Value} (hZ : Z.Warmed39 s.vm) {own : String} {index : Nat} {y : MethodName} {cb : ByteArray} {maxL : Nat} {ret : Option FieldType} {rm : Room} {Q : Option Value → Heap → List Loc → Prop} {h : Heap} {z : MethodName} {C : String} (hown : s.vm.findClass own = some m.cls) (w1 : (Jvm.Cond.methodLink own index y).before a0 Z = true) (w2 : (Jvm.Cond.declares y).before a0 Z = true) (nf : NotFace s y) (w5 : (Jvm.Cond.selects C y z).before a0 Z = true) (w6 : (Jvm.Cond.instanceMethod z).before a0 Z = true) (w3 : (Jvm.Cond.initialized z.cls).before a0 Z = true) (w4 : (Jvm.Cond.code z cb maxL ret).before a0 Z = true)
    (hd : decode bytes pc = .ok (.invokevirtual index, 3)) (a : Addr) (E : Exa Z h a C) (argsL rest : List Value) {st : List Value} (hM : Ctr l z cb maxL ret [] rm (.ref a :: argsL).toArray Z h Q) (eT : T.heap = h) (hst : st = argsL.reverse ++ .ref a :: rest) (hsz : Ls.size = c.maxLocals) {ps : List FieldType} {rt : Option FieldType} (hpd : parseMethodDescriptor y.desc = some ⟨ps, rt⟩) (hlen : argsL.length = ps.length)
    (hy : y.cls ≠ "java/lang/invoke/MethodHandle" ∧ y.cls ≠ "java/lang/invoke/VarHandle") (W : Nat) (hW : (rest.map fun v => v.category).sum ≤ W) (hf : rm.frames + 1 ≤ R.frames) (hl : W + (maxL + 11) + rm.locals ≤ R.locals) (hc : cells + rm.cells ≤ R.cells) (hs : slots + rm.slots ≤ R.slots) (q : Nat) (hq : pc + 3 = q)
    (k : ∀ (T' : State) (v : Option Value) (L : List Loc), Stand p l e R s m args below meth c T' (locs ++ L) (cells + rm.cells) (slots + rm.slots) → Q v T'.heap L → Goes p e below K (T'.setTop (mkF m q Ls (v.toList ++ rest)))) : Goes p e below K (T.setTop (mkF m pc Ls st)) := by
  subst hq hst
  obtain ⟨cq, kq, qa, qb, qc⟩ := isOf hZ eT E
  obtain ⟨v, _, ⟨T', L', k', n'⟩, -, X', ⟨Lc, hQ, l1, y1, z1⟩, st⟩ := X.virtualBack hx (y := y) (z := z) hown (mvT hZ w1) (mvT hZ w2) nf (mvT hZ w5) (mvT hZ w6) hy (backOf (W := W) hM hZ w4 w3 hf hl) qa qc (g := mkF m pc Ls (argsL.reverse ++ .ref a :: rest)) rfl hsz (Steps.refl _) (argsL := argsL) (rest := rest) (lenOf hpd hlen) rfl (by show 2 * 0 + _ ≤ _; omega) (hb hby hd) (fun _ _ => ⟨rfl, eT, hc, hs⟩)
  dsimp only [Pt.U, Pt.locs, Pt.cells, Pt.slots] at X' l1 y1 z1 st hQ
  subst l1 y1 z1
  exact Goes.of (fun t kt => st.trans kt) (k _ _ _ X' hQ)
theorem g_initO (X : Stand p l e R s m args below meth c T locs cells slots) (hx : p.tables.exec = Jvm.exec) (hby : c.code = bytes) {Z : State} {a0 : Array Value} (hZ : Z.Warmed39 s.vm) {own : String} {index : Nat} {h : Heap} {a : Addr} (hown : s.vm.findClass own = some m.cls) (w1 : (Jvm.Cond.methodLink own index Lib.objectInit).before a0 Z = true) (w2 : (Jvm.Cond.instanceMethod Lib.objectInit).before a0 Z = true) (w3 : (Jvm.Cond.code Lib.objectInit ⟨#[0xb1]⟩ 1 none).before a0 Z = true)
    (hd : decode bytes pc = .ok (.invokespecial index, 3)) (eT : T.heap = h) (hsz : Ls.size = c.maxLocals) (W : Nat) (hW : (rest.map fun v => v.category).sum ≤ W) (hf : 1 ≤ R.frames) (hl : W + 12 ≤ R.locals) (q : Nat) (hq : pc + 3 = q)
    (k : ∀ T' : State, Stand p l e R s m args below meth c T' locs cells slots → T'.heap = h → Goes p e below K (T'.setTop (mkF m q Ls rest))) : Goes p e below K (T.setTop (mkF m pc Ls (.ref a :: rest))) := by
  subst hq
  obtain ⟨T', X', e', st⟩ := initO X hx hZ hown w1 w2 w3 eT (g := mkF m pc Ls (.ref a :: rest)) rfl hsz rfl (hb hby hd) hf (W := W) (by show 2 * 0 + _ ≤ _; omega) hl
  exact Goes.of st (k _ X' e')
theorem g_getfield (X : Stand p l e R s m args below meth c T locs cells slots) (hx : p.tables.exec = Jvm.exec) (hby : c.code = bytes) {Z : State} {a0 : Array Value} (hZ : Z.Warmed39 s.vm) {own R0 O n d host : String} {index : Nat} {h : Heap} {a : Addr} {v : Value} (hown : s.vm.findClass own = some m.cls) (w : (Jvm.Cond.fieldLink own index R0 n d).before a0 Z = true ∨ (Jvm.Cond.fieldLinkNest own index R0 n d host).before a0 Z = true) (via : Via Z R0 O n d) (eT : T.heap = h) (F : Fld Z h a O n d v)
    (hd : decode bytes pc = .ok (.getfield index, 3)) (q : Nat) (hq : pc + 3 = q) (k : ∀ T' : State, Stand p l e R s m args below meth c T' locs cells slots → T'.heap = h → Goes p e below K (T'.setTop (mkF m q Ls (v :: rest)))) : Goes p e below K (T.setTop (mkF m pc Ls (.ref a :: rest))) := by
  subst hq
  obtain ⟨T', X', e', st⟩ := getF X hx hZ hown w via eT F (g := mkF m pc Ls (.ref a :: rest)) rfl rfl (hb hby hd)
  exact Goes.of st (k _ X' e')
theorem g_putfield (X : Stand p l e R s m args below meth c T locs cells slots) (hx : p.tables.exec = Jvm.exec) (hby : c.code = bytes) {Z : State} {a0 : Array Value} (hZ : Z.Warmed39 s.vm) {own R0 O n d host C : String} {index kk : Nat} {ty : FieldType} {h : Heap} {a : Addr} {v old : Value} (hown : s.vm.findClass own = some m.cls) (w : (Jvm.Cond.fieldLink own index R0 n d).before a0 Z = true ∨ (Jvm.Cond.fieldLinkNest own index R0 n d host).before a0 Z = true) (via : Via Z R0 O n d) (eT : T.heap = h) (F : Fld Z h a O n d old) (E : Exa Z h a C)
    (L : (Jvm.Cond.lays C O n d).before a0 Z = true ∨ ((Jvm.Cond.laysFinal C O n d).before a0 Z = true ∧ own = O ∧ meth.name = "<init>")) (wi : (Jvm.Cond.instantiable C kk).before a0 Z = true) (hty : parseFieldDescriptor d = some ty) (hn : narrow ty v = v) (hf : fits ty v = true) (hd : decode bytes pc = .ok (.putfield index, 3)) (q : Nat) (hq : pc + 3 = q)
    (k : ∀ (T' : State) (h' : Heap), Stand p l e R s m args below meth c T' (locs ++ [⟨a, Jvm.RoadKit.slotOf Z O n d⟩]) cells slots → T'.heap = h' → Wr h h' a (Jvm.RoadKit.slotOf Z O n d) v → Goes p e below K (T'.setTop (mkF m q Ls rest))) : Goes p e below K (T.setTop (mkF m pc Ls (v :: .ref a :: rest))) := by
  subst hq
  obtain ⟨T', h', X', e', W', st⟩ := putF X hx hZ hown w via eT F E L wi hty hn hf (g := mkF m pc Ls (v :: .ref a :: rest)) rfl rfl (hb hby hd)
  exact Goes.of st (k _ _ X' e' W')
theorem g_new (X : Stand p l e R s m args below meth c T locs cells slots) (hx : p.tables.exec = Jvm.exec) (hby : c.code = bytes) {Z : State} {a0 : Array Value} (hZ : Z.Warmed39 s.vm) {own C : String} {index n : Nat} {h : Heap} (hown : s.vm.findClass own = some m.cls) (w : (Jvm.Cond.classLink own index C).before a0 Z = true) (wi : (Jvm.Cond.instantiable C n).before a0 Z = true) (wz : (Jvm.Cond.initialized C).before a0 Z = true) (eT : T.heap = h) (hd : decode bytes pc = .ok (.new index, 3)) (hc : cells + 1 ≤ R.cells) (hl : slots + n ≤ R.slots) (q : Nat) (hq : pc + 3 = q)
    (k : ∀ (T' : State) (h' : Heap) (a : Addr), a = h.size → Stand p l e R s m args below meth c T' locs (cells + 1) (slots + n) → T'.heap = h' → Ext h h' → Exa Z h' a C → (∀ {O nm d : String} {ty : FieldType}, Laid Z a0 C O nm d → parseFieldDescriptor d = some ty → Fld Z h' a O nm d (defaultValue ty)) → Goes p e below K (T'.setTop (mkF m q Ls (.ref a :: rest)))) : Goes p e below K (T.setTop (mkF m pc Ls rest)) := by
  subst hq
  obtain ⟨T', h', X', e', E', A', D', -, st⟩ := newO X hx hZ hown w wi wz eT (g := mkF m pc Ls rest) rfl (hb hby hd) hc hl
  exact Goes.of st (k _ _ _ rfl X' e' E' A' D')
def upd {α : Type} (f : Nat → α) (k : Nat) (x : α) : Nat → α := fun i => if i = k then x else f i
theorem upd_hit {α : Type} (f : Nat → α) (k : Nat) (x : α) : upd f k x k = x := if_pos rfl
theorem upd_miss {α : Type} (f : Nat → α) {k i : Nat} (x : α) (h : i ≠ k) : upd f k x i = f i := if_neg h
def ArF (Z : State) (h : Heap) (a : Addr) (ty : FieldType) (n : Nat) (f : Nat → Value) : Prop := ∃ c : Cell, Arr Z h a c ty ∧ c.slots.size = n ∧ n < 2 ^ 31 ∧ ∀ j, j < n → c.slots[j]? = some (f j)
abbrev AI (Z : State) (h : Heap) (a : Addr) (ty : FieldType) (n : Nat) (f : Nat → Int32) : Prop := ArF Z h a ty n (fun i => .int (f i))
abbrev AJ (Z : State) (h : Heap) (a : Addr) (n : Nat) (f : Nat → Int64) : Prop := ArF Z h a .long n (fun i => .long (f i))
section Arrays
variable {Z : State} {h h' : Heap} {a b : Addr} {ty : FieldType} {n : Nat} {f : Nat → Value}
theorem ArF.lt (F : ArF Z h a ty n f) : a < h.size := by obtain ⟨c, A, -⟩ := F; exact A.lt
theorem ArF.len (F : ArF Z h a ty n f) : n < 2 ^ 31 := by obtain ⟨c, -, -, q, -⟩ := F; exact q
theorem ArF.ext (F : ArF Z h a ty n f) (E : Ext h h') : ArF Z h' a ty n f := by obtain ⟨c, A, r⟩ := F; exact ⟨c, A.ext E, r⟩
theorem ArF.other {sl : Nat} {v : Value} (F : ArF Z h b ty n f) (W : Wr h h' a sl v) (q : b ≠ a) : ArF Z h' b ty n f := by obtain ⟨c, A, r⟩ := F; exact ⟨c, A.other W q, r⟩
theorem ArF.keep {ws : List Addr} (F : ArF Z h a ty n f) (K : Keep h h' ws) (q : a ∉ ws) : ArF Z h' a ty n f := by obtain ⟨c, A, r⟩ := F; exact ⟨c, ⟨K.2.1 a c A.1 q, A.2⟩, r⟩
theorem ArF.congr {g : Nat → Value} (F : ArF Z h a ty n f) (q : ∀ i, i < n → f i = g i) : ArF Z h a ty n g := by obtain ⟨c, A, r1, r2, r3⟩ := F; exact ⟨c, A, r1, r2, fun j hj => by rw [r3 j hj, q j hj]⟩
theorem ArF.fresh {k : ClassId} {z : Int32} (A : Arr Z h a (newA k ty z) ty) (q : ¬ z < 0) (e : z.toNatClampNeg = n) : ArF Z h a ty n (fun _ => defaultValue ty) := by
  subst e
  refine ⟨_, A, sz_new _ _ _, (back32 q).2, fun j hj => ?_⟩
  simp [newA, hj]
theorem ArF.set {j : Nat} {v : Value} (F : ArF Z h a ty n f) (W : Wr h h' a j v) : ArF Z h' a ty n (upd f j v) := by
  obtain ⟨c, A, r1, r2, r3⟩ := F
  refine ⟨_, A.same W, (sz_set _ _ _).trans r1, r2, fun i hi => ?_⟩
  by_cases q : i = j
  · subst q; rw [upd_hit]; simp [Cell.setSlot, r1, hi]
  · rw [upd_miss _ _ q, ← r3 i hi]
    simp only [Cell.setSlot]
    exact Array.getElem?_setIfInBounds_ne (fun y => q y.symm)
theorem AI.set {j : Nat} {x : Int32} {g : Nat → Int32} (F : AI Z h a ty n g) (W : Wr h h' a j (.int x)) : AI Z h' a ty n (upd g j x) := (ArF.set F W).congr fun i _ => by by_cases q : i = j <;> simp [upd, q]
theorem AJ.set {j : Nat} {x : Int64} {g : Nat → Int64} (F : AJ Z h a n g) (W : Wr h h' a j (.long x)) : AJ Z h' a n (upd g j x) := (ArF.set F W).congr fun i _ => by by_cases q : i = j <;> simp [upd, q]
theorem own_in {c : Cell} {j : Int32} {k : Nat} (hs : c.slots.size = n) (h0 : ¬ j < 0) (hj : j.toNatClampNeg = k) (hk : k < n) : ¬ (j < 0 ∨ c.slots.size ≤ j.toNatClampNeg) := by
  subst hs hj; exact fun y => y.elim h0 (Nat.not_le.mpr hk)
end Arrays
theorem g_newarray (X : Stand p l e R s m args below meth c T locs cells slots) (hx : p.tables.exec = Jvm.exec) (hby : c.code = bytes) {Z : State} {a0 : Array Value} (hZ : Z.Warmed39 s.vm) {aty : ArrayType} {h : Heap} {z : Int32} (w : (Jvm.Cond.arrayClass (newarray.typeOf aty)).before a0 Z = true) (eT : T.heap = h) (hd : decode bytes pc = .ok (.newarray aty, 2)) (hz : ¬ z < 0) (n : Nat) (hn : z.toNatClampNeg = n) (cap : Nat) (hcap : n ≤ cap) (hbig : cap * 8 ≤ 536870912) (hc : cells + 1 ≤ R.cells) (hl : slots + cap ≤ R.slots) (q : Nat) (hq : pc + 2 = q)
    (k : ∀ (T' : State) (h' : Heap) (a : Addr), a = h.size → Stand p l e R s m args below meth c T' locs (cells + 1) (slots + cap) → T'.heap = h' → Ext h h' → ArF Z h' a (newarray.typeOf aty) n (fun _ => defaultValue (newarray.typeOf aty)) → Goes p e below K (T'.setTop (mkF m q Ls (.ref a :: rest)))) : Goes p e below K (T.setTop (mkF m pc Ls (.int z :: rest))) := by
  subst hq
  obtain ⟨T', h', cA, X', e', E', A', st⟩ := newP X hx hZ w eT (g := mkF m pc Ls (.int z :: rest)) rfl (hb hby hd) rfl hz (cap := cap) (by rw [hn]; exact hcap) hbig hc hl
  exact Goes.of st (k _ _ _ rfl X' e' E' (ArF.fresh A' hz hn))
theorem g_arraylength (X : Stand p l e R s m args below meth c T locs cells slots) (hx : p.tables.exec = Jvm.exec) (hby : c.code = bytes) {Z : State} (hZ : Z.Warmed39 s.vm) {h : Heap} {a : Addr} {ty : FieldType} {n : Nat} {f : Nat → Value} (eT : T.heap = h) (F : ArF Z h a ty n f) (hd : decode bytes pc = .ok (.arraylength, 1)) (z : Int32) (hz : n.toInt32 = z) (q : Nat) (hq : pc + 1 = q) (k : Goes p e below K (T.setTop (mkF m q Ls (.int z :: rest)))) : Goes p e below K (T.setTop (mkF m pc Ls (.ref a :: rest))) := by
  subst hq hz
  obtain ⟨cl, A, r1, r2, r3⟩ := F
  exact Goes.of (fun t kt => X.arraylength hx (by rw [eT]; exact A.1) (State.isArrayOf_alike hZ.alike A.2.1) (g := mkF m pc Ls (.ref a :: rest)) rfl rfl (hb hby hd) t (by rw [r1]; exact kt)) k
theorem g_iaload (X : Stand p l e R s m args below meth c T locs cells slots) (hx : p.tables.exec = Jvm.exec) (hby : c.code = bytes) {Z : State} (hZ : Z.Warmed39 s.vm) {h : Heap} {a : Addr} {n : Nat} {f : Nat → Int32} {j : Int32} (eT : T.heap = h) (F : AI Z h a .int n f) (hd : decode bytes pc = .ok (.iaload, 1)) (h0 : ¬ j < 0) (i : Nat) (hj : j.toNatClampNeg = i) (hi : i < n) (x : Int32) (hfx : f i = x) (q : Nat) (hq : pc + 1 = q) (k : Goes p e below K (T.setTop (mkF m q Ls (.int x :: rest)))) : Goes p e below K (T.setTop (mkF m pc Ls (.int j :: .ref a :: rest))) := by
  subst hq hfx
  obtain ⟨cl, A, r1, r2, r3⟩ := F
  exact Goes.of (fun t kt => X.iaload hx (by rw [eT]; exact A.1) (State.isArrayOf_alike hZ.alike A.2.1) A.2.2 (own_in r1 h0 hj hi) (by rw [hj]; exact r3 i hi) (g := mkF m pc Ls (.int j :: .ref a :: rest)) rfl rfl (hb hby hd) t kt) k
theorem g_baload (X : Stand p l e R s m args below meth c T locs cells slots) (hx : p.tables.exec = Jvm.exec) (hby : c.code = bytes) {Z : State} (hZ : Z.Warmed39 s.vm) {h : Heap} {a : Addr} {n : Nat} {f : Nat → Int32} {j : Int32} (eT : T.heap = h) (F : AI Z h a .byte n f) (hd : decode bytes pc = .ok (.baload, 1)) (h0 : ¬ j < 0) (i : Nat) (hj : j.toNatClampNeg = i) (hi : i < n) (x : Int32) (hfx : f i = x) (q : Nat) (hq : pc + 1 = q) (k : Goes p e below K (T.setTop (mkF m q Ls (.int x :: rest)))) : Goes p e below K (T.setTop (mkF m pc Ls (.int j :: .ref a :: rest))) := by
  subst hq hfx
  obtain ⟨cl, A, r1, r2, r3⟩ := F
  exact Goes.of (fun t kt => X.baloadBytes hx (by rw [eT]; exact A.1) (State.isArrayOf_alike hZ.alike A.2.1) A.2.2 (own_in r1 h0 hj hi) (by rw [hj]; exact r3 i hi) (g := mkF m pc Ls (.int j :: .ref a :: rest)) rfl rfl (hb hby hd) t kt) k
theorem g_laload (X : Stand p l e R s m args below meth c T locs cells slots) (hx : p.tables.exec = Jvm.exec) (hby : c.code = bytes) {Z : State} (hZ : Z.Warmed39 s.vm) {h : Heap} {a : Addr} {n : Nat} {f : Nat → Int64} {j : Int32} (eT : T.heap = h) (F : AJ Z h a n f) (hd : decode bytes pc = .ok (.laload, 1)) (h0 : ¬ j < 0) (i : Nat) (hj : j.toNatClampNeg = i) (hi : i < n) (x : Int64) (hfx : f i = x) (q : Nat) (hq : pc + 1 = q) (k : Goes p e below K (T.setTop (mkF m q Ls (.long x :: rest)))) : Goes p e below K (T.setTop (mkF m pc Ls (.int j :: .ref a :: rest))) := by
  subst hq hfx
  obtain ⟨cl, A, r1, r2, r3⟩ := F
  exact Goes.of (fun t kt => X.laload hx (by rw [eT]; exact A.1) (State.isArrayOf_alike hZ.alike A.2.1) A.2.2 (own_in r1 h0 hj hi) (by rw [hj]; exact r3 i hi) (g := mkF m pc Ls (.int j :: .ref a :: rest)) rfl rfl (hb hby hd) t kt) k
theorem g_aaload (X : Stand p l e R s m args below meth c T locs cells slots) (hx : p.tables.exec = Jvm.exec) (hby : c.code = bytes) {Z : State} (hZ : Z.Warmed39 s.vm) {h : Heap} {a : Addr} {n : Nat} {ty : FieldType} {f : Nat → Value} {j : Int32} (eT : T.heap = h) (F : ArF Z h a ty n f) (hty : ty.isReference = true) (hd : decode bytes pc = .ok (.aaload, 1)) (h0 : ¬ j < 0) (i : Nat) (hj : j.toNatClampNeg = i) (hi : i < n) (x : Value) (hfx : f i = x) (q : Nat) (hq : pc + 1 = q) (k : Goes p e below K (T.setTop (mkF m q Ls (x :: rest)))) : Goes p e below K (T.setTop (mkF m pc Ls (.int j :: .ref a :: rest))) := by
  subst hq hfx
  obtain ⟨cl, A, r1, r2, r3⟩ := F
  exact Goes.of (fun t kt => X.aaload hx (by rw [eT]; exact A.1) (State.isArrayOf_alike hZ.alike A.2.1) hty A.2.2 (own_in r1 h0 hj hi) (by rw [hj]; exact r3 i hi) (g := mkF m pc Ls (.int j :: .ref a :: rest)) rfl rfl (hb hby hd) t kt) k
theorem g_iastore (X : Stand p l e R s m args below meth c T locs cells slots) (hx : p.tables.exec = Jvm.exec) (hby : c.code = bytes) {Z : State} (hZ : Z.Warmed39 s.vm) {h : Heap} {a : Addr} {n : Nat} {f : Nat → Int32} {j : Int32} {x : Int32} (eT : T.heap = h) (F : AI Z h a .int n f) (hd : decode bytes pc = .ok (.iastore, 1)) (h0 : ¬ j < 0) (i : Nat) (hj : j.toNatClampNeg = i) (hi : i < n) (q : Nat) (hq : pc + 1 = q)
    (k : ∀ (T' : State) (h' : Heap), Stand p l e R s m args below meth c T' (locs ++ [⟨a, i⟩]) cells slots → T'.heap = h' → Wr h h' a i (.int x) → AI Z h' a .int n (upd f i x) → Goes p e below K (T'.setTop (mkF m q Ls rest))) : Goes p e below K (T.setTop (mkF m pc Ls (.int x :: .int j :: .ref a :: rest))) := by
  subst hq
  have F' := F
  obtain ⟨cl, A, r1, r2, r3⟩ := F'
  obtain ⟨T', h', X', e', W', st⟩ := stI X hx hZ eT A (own_in r1 h0 hj hi) (g := mkF m pc Ls (.int x :: .int j :: .ref a :: rest)) rfl rfl (hb hby hd)
  rw [hj] at X' W'
  exact Goes.of st (k _ _ X' e' W' (AI.set F W'))
theorem g_bastore (X : Stand p l e R s m args below meth c T locs cells slots) (hx : p.tables.exec = Jvm.exec) (hby : c.code = bytes) {Z : State} (hZ : Z.Warmed39 s.vm) {h : Heap} {a : Addr} {n : Nat} {f : Nat → Int32} {j : Int32} {x : Int32} (eT : T.heap = h) (F : AI Z h a .byte n f) (hd : decode bytes pc = .ok (.bastore, 1)) (h0 : ¬ j < 0) (i : Nat) (hj : j.toNatClampNeg = i) (hi : i < n) (y : Int32) (hxy : x.toInt8.toInt32 = y) (q : Nat) (hq : pc + 1 = q)
    (k : ∀ (T' : State) (h' : Heap), Stand p l e R s m args below meth c T' (locs ++ [⟨a, i⟩]) cells slots → T'.heap = h' → Wr h h' a i (.int y) → AI Z h' a .byte n (upd f i y) → Goes p e below K (T'.setTop (mkF m q Ls rest))) : Goes p e below K (T.setTop (mkF m pc Ls (.int x :: .int j :: .ref a :: rest))) := by
  subst hq hxy
  have F' := F
  obtain ⟨cl, A, r1, r2, r3⟩ := F'
  obtain ⟨T', h', X', e', W', st⟩ := stB X hx hZ eT A (own_in r1 h0 hj hi) (g := mkF m pc Ls (.int x :: .int j :: .ref a :: rest)) rfl rfl (hb hby hd)
  rw [hj] at X' W'
  exact Goes.of st (k _ _ X' e' W' (AI.set F W'))
theorem g_lastore (X : Stand p l e R s m args below meth c T locs cells slots) (hx : p.tables.exec = Jvm.exec) (hby : c.code = bytes) {Z : State} (hZ : Z.Warmed39 s.vm) {h : Heap} {a : Addr} {n : Nat} {f : Nat → Int64} {j : Int32} {x : Int64} (eT : T.heap = h) (F : AJ Z h a n f) (hd : decode bytes pc = .ok (.lastore, 1)) (h0 : ¬ j < 0) (i : Nat) (hj : j.toNatClampNeg = i) (hi : i < n) (q : Nat) (hq : pc + 1 = q)
    (k : ∀ (T' : State) (h' : Heap), Stand p l e R s m args below meth c T' (locs ++ [⟨a, i⟩]) cells slots → T'.heap = h' → Wr h h' a i (.long x) → AJ Z h' a n (upd f i x) → Goes p e below K (T'.setTop (mkF m q Ls rest))) : Goes p e below K (T.setTop (mkF m pc Ls (.long x :: .int j :: .ref a :: rest))) := by
  subst hq
  have F' := F
  obtain ⟨cl, A, r1, r2, r3⟩ := F'
  obtain ⟨T', h', X', e', W', st⟩ := stJ X hx hZ eT A (own_in r1 h0 hj hi) (g := mkF m pc Ls (.long x :: .int j :: .ref a :: rest)) rfl rfl (hb hby hd)
  rw [hj] at X' W'
  exact Goes.of st (k _ _ X' e' W' (AJ.set F W'))
def ArO (Z : State) (h : Heap) (a : Addr) (C : String) (n : Nat) (f : Nat → Value) : Prop := ∃ c : Cell, Arr Z h a c (.object C) ∧ c.slots.size = n ∧ n < 2 ^ 31 ∧ (∀ j, j < n → c.slots[j]? = some (f j)) ∧ Ovr Z c.cls C
section ArraysO
variable {Z : State} {h h' : Heap} {a b : Addr} {C : String} {n : Nat} {f : Nat → Value}
theorem ArO.toF (F : ArO Z h a C n f) : ArF Z h a (.object C) n f := by obtain ⟨c, A, r1, r2, r3, -⟩ := F; exact ⟨c, A, r1, r2, r3⟩
theorem ArO.lt (F : ArO Z h a C n f) : a < h.size := F.toF.lt
theorem ArO.ext (F : ArO Z h a C n f) (E : Ext h h') : ArO Z h' a C n f := by obtain ⟨c, A, r⟩ := F; exact ⟨c, A.ext E, r⟩
theorem ArO.other {sl : Nat} {v : Value} (F : ArO Z h b C n f) (W : Wr h h' a sl v) (q : b ≠ a) : ArO Z h' b C n f := by obtain ⟨c, A, r⟩ := F; exact ⟨c, A.other W q, r⟩
theorem ArO.keep {ws : List Addr} (F : ArO Z h a C n f) (K : Keep h h' ws) (q : a ∉ ws) : ArO Z h' a C n f := by obtain ⟨c, A, r⟩ := F; exact ⟨c, ⟨K.2.1 a c A.1 q, A.2⟩, r⟩
theorem ArO.congr {g : Nat → Value} (F : ArO Z h a C n f) (q : ∀ i, i < n → f i = g i) : ArO Z h a C n g := by obtain ⟨c, A, r1, r2, r3, r4⟩ := F; exact ⟨c, A, r1, r2, fun j hj => by rw [r3 j hj, q j hj], r4⟩
theorem ArO.fresh {k : ClassId} {z : Int32} (A : Arr Z h a (newA k (.object C) z) (.object C)) (O : Ovr Z k C) (q : ¬ z < 0) (e : z.toNatClampNeg = n) : ArO Z h a C n (fun _ => .null) := by
  subst e
  refine ⟨_, A, sz_new _ _ _, (back32 q).2, fun j hj => ?_, O⟩
  simp [newA, hj, defaultValue]
theorem ArO.set {j : Nat} {v : Value} (F : ArO Z h a C n f) (W : Wr h h' a j v) : ArO Z h' a C n (upd f j v) := by
  obtain ⟨c, A, r1, r2, r3, r4⟩ := F
  refine ⟨_, A.same W, (sz_set _ _ _).trans r1, r2, fun i hi => ?_, r4⟩
  by_cases q : i = j
  · subst q; rw [upd_hit]; simp [Cell.setSlot, r1, hi]
  · rw [upd_miss _ _ q, ← r3 i hi]
    simp only [Cell.setSlot]
    exact Array.getElem?_setIfInBounds_ne (fun y => q y.symm)
theorem ArO.sto {y : Addr} (F : ArO Z h a C n f) (I : Ins Z h y C true) : Sto Z h a (.ref y) := by obtain ⟨c, A, -, -, -, O⟩ := F; exact Sto.of A O I
end ArraysO
theorem g_anewarray (X : Stand p l e R s m args below meth c T locs cells slots) (hx : p.tables.exec = Jvm.exec) (hby : c.code = bytes) {Z : State} {a0 : Array Value} (hZ : Z.Warmed39 s.vm) {own C : String} {index : Nat} {h : Heap} {z : Int32} (hown : s.vm.findClass own = some m.cls) (w1 : (Jvm.Cond.classLink own index C).before a0 Z = true) (w2 : (Jvm.Cond.arrayOver (.object C)).before a0 Z = true) (eT : T.heap = h) (hd : decode bytes pc = .ok (.anewarray index, 3)) (hz : ¬ z < 0) (n : Nat) (hn : z.toNatClampNeg = n) (cap : Nat) (hcap : n ≤ cap) (hbig : cap * 8 ≤ 536870912) (hc : cells + 1 ≤ R.cells) (hl : slots + cap ≤ R.slots) (q : Nat) (hq : pc + 3 = q)
    (k : ∀ (T' : State) (h' : Heap) (a : Addr), a = h.size → Stand p l e R s m args below meth c T' locs (cells + 1) (slots + cap) → T'.heap = h' → Ext h h' → ArO Z h' a C n (fun _ => .null) → Goes p e below K (T'.setTop (mkF m q Ls (.ref a :: rest)))) : Goes p e below K (T.setTop (mkF m pc Ls (.int z :: rest))) := by
  subst hq
  obtain ⟨T', h', cA, X', e', E', A', O', st⟩ := newR X hx hZ hown w1 w2 eT (g := mkF m pc Ls (.int z :: rest)) rfl (hb hby hd) rfl hz (cap := cap) (by rw [hn]; exact hcap) hbig hc hl
  exact Goes.of st (k _ _ _ rfl X' e' E' (ArO.fresh A' O' hz hn))
theorem g_aastore (X : Stand p l e R s m args below meth c T locs cells slots) (hx : p.tables.exec = Jvm.exec) (hby : c.code = bytes) {Z : State} (hZ : Z.Warmed39 s.vm) {h : Heap} {a : Addr} {n : Nat} {C : String} {f : Nat → Value} {j : Int32} {x : Value} (eT : T.heap = h) (F : ArO Z h a C n f) (S : Sto Z h a x) (hd : decode bytes pc = .ok (.aastore, 1)) (h0 : ¬ j < 0) (i : Nat) (hj : j.toNatClampNeg = i) (hi : i < n) (q : Nat) (hq : pc + 1 = q)
    (k : ∀ (T' : State) (h' : Heap), Stand p l e R s m args below meth c T' (locs ++ [⟨a, i⟩]) cells slots → T'.heap = h' → Wr h h' a i x → ArO Z h' a C n (upd f i x) → Goes p e below K (T'.setTop (mkF m q Ls rest))) : Goes p e below K (T.setTop (mkF m pc Ls (x :: .int j :: .ref a :: rest))) := by
  subst hq
  have F' := F
  obtain ⟨cl, A, r1, r2, r3, r4⟩ := F'
  obtain ⟨T', h', X', e', W', st⟩ := stR X hx hZ eT A (own_in r1 h0 hj hi) rfl S (g := mkF m pc Ls (x :: .int j :: .ref a :: rest)) rfl rfl (hb hby hd)
  rw [hj] at X' W'
  exact Goes.of st (k _ _ X' e' W' (ArO.set F W'))
theorem g_checkcast (X : Stand p l e R s m args below meth c T locs cells slots) (hx : p.tables.exec = Jvm.exec) (hby : c.code = bytes) {Z : State} {a0 : Array Value} (hZ : Z.Warmed39 s.vm) {own C : String} {index : Nat} {h : Heap} {a : Addr} (hown : s.vm.findClass own = some m.cls) (w : (Jvm.Cond.classLink own index C).before a0 Z = true) (eT : T.heap = h) (I : Ins Z h a C true) (hd : decode bytes pc = .ok (.checkcast index, 3)) (q : Nat) (hq : pc + 3 = q)
    (k : ∀ T' : State, Stand p l e R s m args below meth c T' locs cells slots → T'.heap = h → Goes p e below K (T'.setTop (mkF m q Ls (.ref a :: rest)))) : Goes p e below K (T.setTop (mkF m pc Ls (.ref a :: rest))) := by
  subst hq
  obtain ⟨T', X', e', st⟩ := castY X hx hZ hown w eT I (g := mkF m pc Ls (.ref a :: rest)) rfl rfl (hb hby hd)
  exact Goes.of st (k _ X' e')
theorem g_getstatic (X : Stand p l e R s m args below meth c T locs cells slots) (hx : p.tables.exec = Jvm.exec) (hby : c.code = bytes) {Z : State} {a0 : Array Value} (hZ : Z.Warmed39 s.vm) {own R0 O n d host : String} {index : Nat} {h : Heap} {v : Value} (hown : s.vm.findClass own = some m.cls) (w : (Jvm.Cond.fieldLink own index R0 n d).before a0 Z = true ∨ (Jvm.Cond.fieldLinkNest own index R0 n d host).before a0 Z = true) (via : Via Z R0 O n d) (eT : T.heap = h) (F : Sta Z h O n d v) (hd : decode bytes pc = .ok (.getstatic index, 3)) (q : Nat) (hq : pc + 3 = q)
    (k : ∀ T' : State, Stand p l e R s m args below meth c T' locs cells slots → T'.heap = h → Goes p e below K (T'.setTop (mkF m q Ls (v :: rest)))) : Goes p e below K (T.setTop (mkF m pc Ls rest)) := by
  subst hq
  obtain ⟨T', X', e', st⟩ := getS2 X hx hZ hown w via eT F (g := mkF m pc Ls rest) rfl (hb hby hd)
  exact Goes.of st (k _ X' e')
theorem own_fm {r n d : String} (h1 : r ≠ "java/lang/invoke/MethodHandle") (h2 : r ≠ "java/lang/invoke/VarHandle") : ((Jvm.Cond.interfaceMethod r r n d).onTables && (Jvm.Cond.interfaceMethod r r n d).keepsFace) = true := by
  have e : ((Jvm.Cond.interfaceMethod r r n d).onTables && (Jvm.Cond.interfaceMethod r r n d).keepsFace) = (r == r && r != "java/lang/invoke/MethodHandle" && r != "java/lang/invoke/VarHandle") := rfl
  rw [e]; simp [h1, h2]
theorem g_interface (X : Stand p l e R s m args below meth c T locs cells slots) (hx : p.tables.exec = Jvm.exec) (hby : c.code = bytes) {Z : State} {a0 : Array Value} (hZ : Z.Warmed39 s.vm) {own : String} {index : Nat} {y : MethodName} {cb : ByteArray} {maxL : Nat} {ret : Option FieldType} {rm : Room} {Q : Option Value → Heap → List Loc → Prop} {h : Heap} {z : MethodName} {C : String} {count : Nat} (hown : s.vm.findClass own = some m.cls) (w1 : (Jvm.Cond.methodLink own index y).before a0 Z = true) (w2 : (Jvm.Cond.declares y).before a0 Z = true) (w7 : (Jvm.Cond.interfaceMethod y.cls y.cls y.name y.desc).before a0 Z = true) (w5 : (Jvm.Cond.selects C y z).before a0 Z = true) (w6 : (Jvm.Cond.instanceMethod z).before a0 Z = true) (w8 : (Jvm.Cond.publicMethod z).before a0 Z = true) (w9 : (Jvm.Cond.unhidden C y.name y.desc).before a0 Z = true) (w10 : (Jvm.Cond.castable C y.cls).before a0 Z = true) (w3 : (Jvm.Cond.initialized z.cls).before a0 Z = true) (w4 : (Jvm.Cond.code z cb maxL ret).before a0 Z = true)
    (hd : decode bytes pc = .ok (.invokeinterface index count, 5)) (a : Addr) (E : Exa Z h a C) (argsL rest : List Value) {st : List Value} (hM : Ctr l z cb maxL ret [] rm (.ref a :: argsL).toArray Z h Q) (eT : T.heap = h) (hst : st = argsL.reverse ++ .ref a :: rest) (hsz : Ls.size = c.maxLocals) {ps : List FieldType} {rt : Option FieldType} (hpd : parseMethodDescriptor y.desc = some ⟨ps, rt⟩) (hlen : argsL.length = ps.length)
    (hy : y.cls ≠ "java/lang/invoke/MethodHandle" ∧ y.cls ≠ "java/lang/invoke/VarHandle") (W : Nat) (hW : (rest.map fun v => v.category).sum ≤ W) (hf : rm.frames + 1 ≤ R.frames) (hl : W + (maxL + 11) + rm.locals ≤ R.locals) (hc : cells + rm.cells ≤ R.cells) (hs : slots + rm.slots ≤ R.slots) (q : Nat) (hq : pc + 5 = q)
    (k : ∀ (T' : State) (v : Option Value) (L : List Loc), Stand p l e R s m args below meth c T' (locs ++ L) (cells + rm.cells) (slots + rm.slots) → Q v T'.heap L → Goes p e below K (T'.setTop (mkF m q Ls (v.toList ++ rest)))) : Goes p e below K (T.setTop (mkF m pc Ls st)) := by
  subst hq hst
  obtain ⟨cq, kq, qa, qb, qc⟩ := isOf hZ eT E
  obtain ⟨v, _, ⟨T', L', k', n'⟩, -, X', ⟨Lc, hQ, l1, y1, z1⟩, st⟩ := X.interfaceBack hx (xi := y) (y := z) hown (mvT hZ w1) (mvT hZ w2) (mvT hZ w7 (own_fm hy.1 hy.2)) (mvT hZ w5) (mvT hZ w6) (mvT hZ w8) (mvT hZ w9) (mvT hZ w10) hy (backOf (W := W) hM hZ w4 w3 hf hl) qa qb qc (g := mkF m pc Ls (argsL.reverse ++ .ref a :: rest)) rfl hsz (Steps.refl _) (argsL := argsL) (rest := rest) (lenOf hpd hlen) rfl (by show 2 * 0 + _ ≤ _; omega) (hb hby hd) (fun _ _ => ⟨rfl, eT, hc, hs⟩)
  dsimp only [Pt.U, Pt.locs, Pt.cells, Pt.slots] at X' l1 y1 z1 st hQ
  subst l1 y1 z1
  exact Goes.of (fun t kt => st.trans kt) (k _ _ _ X' hQ)
end OwnKit
theorem byte2 (x : Int32) : x.toInt8.toInt32.toInt8.toInt32 = x.toInt8.toInt32 := by simp
theorem own_ite01 {P : Prop} [Decidable P] : (if P then (1 : Int32) else 0) = 0 ∨ (if P then (1 : Int32) else 0) = 1 := by by_cases h : P <;> simp [h]
theorem own_and31 (x : Int32) : (x &&& (2147483647 : Int32)).toInt = x.toInt % 2147483648 := c_mask x 2147483647 31 (by decide) (by decide)
theorem own_rem (x k : Int32) (d : Int) (hk : k.toInt = d) (hd : 0 < d) : 0 ≤ ((x &&& (2147483647 : Int32)) % k).toInt ∧ ((x &&& (2147483647 : Int32)) % k).toInt < d := by
  have h1 := own_and31 x
  have h2 := (c_irem (x &&& (2147483647 : Int32)) k d hk).1 (by omega)
  rw [h2]; exact ⟨Int.emod_nonneg _ (by omega), Int.emod_lt_of_pos _ hd⟩
theorem own_nn {j : Int32} (h : 0 ≤ j.toInt) : ¬ j < 0 := by
  rw [Int32.lt_iff_toInt_lt]; show ¬ j.toInt < 0; omega
theorem own_lt {j : Int32} {n : Nat} (h : j.toInt < n) (hn : 0 < n) : j.toNatClampNeg < n := by
  show j.toInt.toNat < n; omega

def psum (f : Nat → Int32) : Nat → Nat → Int32
  | _, 0 => 0
  | i, 1 => (f i &&& 255) <<< ((8 : Int32) &&& 31)
  | i, r + 2 => (((f i &&& 255) <<< ((8 : Int32) &&& 31)) ||| (f (i + 1) &&& 255)) + psum f (i + 2) r
theorem own_i1 {i : Int32} {n : Nat} (h : i.toInt = n) (hn : n < 100) : (i + 1).toInt = (n + 1 : Nat) := by
  have h1 := c_iadd i 1
  have h2 := rng32 (i + 1)
  have e1 : (1 : Int32).toInt = 1 := rfl
  omega
theorem own_i2 {i : Int32} {n : Nat} (h : i.toInt = n) (hn : n < 100) : (i + 2).toInt = (n + 2 : Nat) := by
  have h1 := c_iadd i 2
  have h2 := rng32 (i + 2)
  have e1 : (2 : Int32).toInt = 2 := rfl
  omega
theorem own_clamp {i : Int32} {n : Nat} (h : i.toInt = n) : i.toNatClampNeg = n := by
  show i.toInt.toNat = n; omega
theorem own_turn {i en : Int32} {n r E : Nat} (hi : i.toInt = n) (he : en.toInt = E) (hE : E ≤ 5) (hr : n + r = E) (q : (i + 1) < en) : (¬ i < 0) ∧ i.toNatClampNeg = n ∧ n < 5 ∧ (¬ (i + 1) < 0) ∧ (i + 1).toNatClampNeg = n + 1 ∧ n + 1 < 5 ∧ (i + 2).toInt = (n + 2 : Nat) ∧ ∃ r', r = r' + 2 ∧ n + 2 + r' = E := by
  have a1 := own_i1 hi (by omega)
  have a2 := own_i2 hi (by omega)
  rw [Int32.lt_iff_toInt_lt] at q
  refine ⟨own_nn (by omega), own_clamp hi, by omega, own_nn (by omega), own_clamp a1, by omega, a2, r - 2, by omega, by omega⟩
theorem own_last {i en : Int32} {n r E : Nat} (hi : i.toInt = n) (he : en.toInt = E) (hE : E ≤ 5) (hr : n + r = E) (q : ¬ (i + 1) < en) (q2 : i < en) : (¬ i < 0) ∧ i.toNatClampNeg = n ∧ n < 5 ∧ r = 1 := by
  have a1 := own_i1 hi (by omega)
  rw [Int32.lt_iff_toInt_lt] at q q2
  exact ⟨own_nn (by omega), own_clamp hi, by omega, by omega⟩
theorem own_none {i en : Int32} {n r E : Nat} (hi : i.toInt = n) (he : en.toInt = E) (hr : n + r = E) (q2 : ¬ i < en) : r = 0 := by
  rw [Int32.lt_iff_toInt_lt] at q2; omega

theorem d2_0 : decode prog_29_method_2_code 0 = .ok (.iload_n 2, 1) := by decide +kernel
theorem d2_1 : decode prog_29_method_2_code 1 = .ok (.iload_n 3, 1) := by decide +kernel
theorem d2_2 : decode prog_29_method_2_code 2 = .ok (.iadd, 1) := by decide +kernel
theorem d2_3 : decode prog_29_method_2_code 3 = .ok (.istore 4, 2) := by decide +kernel
theorem d2_5 : decode prog_29_method_2_code 5 = .ok (.iload_n 2, 1) := by decide +kernel
theorem d2_6 : decode prog_29_method_2_code 6 = .ok (.istore 5, 2) := by decide +kernel
theorem d2_8 : decode prog_29_method_2_code 8 = .ok (.iload 5, 2) := by decide +kernel
theorem d2_10 : decode prog_29_method_2_code 10 = .ok (.iconst 1, 1) := by decide +kernel
theorem d2_11 : decode prog_29_method_2_code 11 = .ok (.iadd, 1) := by decide +kernel
theorem d2_12 : decode prog_29_method_2_code 12 = .ok (.iload 4, 2) := by decide +kernel
theorem d2_14 : decode prog_29_method_2_code 14 = .ok (.if_icmp .ge 34, 3) := by decide +kernel
theorem d2_17 : decode prog_29_method_2_code 17 = .ok (.iload_n 0, 1) := by decide +kernel
theorem d2_18 : decode prog_29_method_2_code 18 = .ok (.aload_n 1, 1) := by decide +kernel
theorem d2_19 : decode prog_29_method_2_code 19 = .ok (.iload 5, 2) := by decide +kernel
theorem d2_21 : decode prog_29_method_2_code 21 = .ok (.baload, 1) := by decide +kernel
theorem d2_22 : decode prog_29_method_2_code 22 = .ok (.sipush 255, 3) := by decide +kernel
theorem d2_25 : decode prog_29_method_2_code 25 = .ok (.iand, 1) := by decide +kernel
theorem d2_26 : decode prog_29_method_2_code 26 = .ok (.bipush 8, 2) := by decide +kernel
theorem d2_28 : decode prog_29_method_2_code 28 = .ok (.ishl, 1) := by decide +kernel
theorem d2_29 : decode prog_29_method_2_code 29 = .ok (.aload_n 1, 1) := by decide +kernel
theorem d2_30 : decode prog_29_method_2_code 30 = .ok (.iload 5, 2) := by decide +kernel
theorem d2_32 : decode prog_29_method_2_code 32 = .ok (.iconst 1, 1) := by decide +kernel
theorem d2_33 : decode prog_29_method_2_code 33 = .ok (.iadd, 1) := by decide +kernel
theorem d2_34 : decode prog_29_method_2_code 34 = .ok (.baload, 1) := by decide +kernel
theorem d2_35 : decode prog_29_method_2_code 35 = .ok (.sipush 255, 3) := by decide +kernel
theorem d2_38 : decode prog_29_method_2_code 38 = .ok (.iand, 1) := by decide +kernel
theorem d2_39 : decode prog_29_method_2_code 39 = .ok (.ior, 1) := by decide +kernel
theorem d2_40 : decode prog_29_method_2_code 40 = .ok (.iadd, 1) := by decide +kernel
theorem d2_41 : decode prog_29_method_2_code 41 = .ok (.istore_n 0, 1) := by decide +kernel
theorem d2_42 : decode prog_29_method_2_code 42 = .ok (.iinc 5 2, 3) := by decide +kernel
theorem d2_45 : decode prog_29_method_2_code 45 = .ok (.goto (-37), 3) := by decide +kernel
theorem d2_48 : decode prog_29_method_2_code 48 = .ok (.iload 5, 2) := by decide +kernel
theorem d2_50 : decode prog_29_method_2_code 50 = .ok (.iload 4, 2) := by decide +kernel
theorem d2_52 : decode prog_29_method_2_code 52 = .ok (.if_icmp .ge 17, 3) := by decide +kernel
theorem d2_55 : decode prog_29_method_2_code 55 = .ok (.iload_n 0, 1) := by decide +kernel
theorem d2_56 : decode prog_29_method_2_code 56 = .ok (.aload_n 1, 1) := by decide +kernel
theorem d2_57 : decode prog_29_method_2_code 57 = .ok (.iload 5, 2) := by decide +kernel
theorem d2_59 : decode prog_29_method_2_code 59 = .ok (.baload, 1) := by decide +kernel
theorem d2_60 : decode prog_29_method_2_code 60 = .ok (.sipush 255, 3) := by decide +kernel
theorem d2_63 : decode prog_29_method_2_code 63 = .ok (.iand, 1) := by decide +kernel
theorem d2_64 : decode prog_29_method_2_code 64 = .ok (.bipush 8, 2) := by decide +kernel
theorem d2_66 : decode prog_29_method_2_code 66 = .ok (.ishl, 1) := by decide +kernel
theorem d2_67 : decode prog_29_method_2_code 67 = .ok (.iadd, 1) := by decide +kernel
theorem d2_68 : decode prog_29_method_2_code 68 = .ok (.istore_n 0, 1) := by decide +kernel
theorem d2_69 : decode prog_29_method_2_code 69 = .ok (.iload_n 0, 1) := by decide +kernel
theorem d2_70 : decode prog_29_method_2_code 70 = .ok (.ireturn, 1) := by decide +kernel
theorem pn2 : plainFor (⟨"com/example/marchgate/marchgate/InternetChecksum", "add", "(I[BII)I"⟩ : MethodName) = true := plainFor_of_name (by first | (simp [plainName, overriddenIn]; done) | decide +kernel)
theorem ef2 (m : MethodId) (sm : Int32) (dd : Addr) (off : Int32) (len : Int32) (f : Nat → Int32) (on : Nat) (ln : Nat) : entryFrame m #[(.int sm), (.ref dd), (.int off), (.int len)] 6 = mkF m 0 #[.val (.int sm), .val (.ref dd), .val (.int off), .val (.int len), .unset, .unset] [] := by first | (simp [entryFrame, mkF, argsToLocals, Value.category]; done) | rfl
def Q2 (sm : Int32) (dd : Addr) (off : Int32) (len : Int32) (f : Nat → Int32) (on : Nat) (ln : Nat) (Z : State) (h0 : Heap) (n0 : Nat) (v : Option Value) (h : Heap) (L : List Loc) : Prop := v = some (.int (sm + psum f on ln)) ∧ Fr n0 L ∧ h = h0
set_option maxRecDepth 65536 in
set_option maxHeartbeats 40000000 in
theorem rm2 (l : Launch) (Z : State) (a0 : Array Value) (hw : ∀ d ∈ tables_1, d.before a0 Z = true) (ws : List Jvm.Cond) (sm : Int32) (dd : Addr) (off : Int32) (len : Int32) (f : Nat → Int32) (on : Nat) (ln : Nat) (h0 : Heap) (n0 : Nat) (Z0 : n0 ≤ h0.size) (A_dd_0 : AI Z h0 dd .byte 5 f) (hoff : off.toInt = on) (hlen : len.toInt = ln) (hE : on + ln ≤ 5) : Ctr l (⟨"com/example/marchgate/marchgate/InternetChecksum", "add", "(I[BII)I"⟩ : MethodName) prog_29_method_2_code 6 (some .int) ws ({ frames := 0, cells := 0, slots := 0, locals := 0 } : Room) #[(.int sm), (.ref dd), (.int off), (.int len)] Z h0 (Q2 sm dd off len f on ln Z h0 n0) := by
  refine own_body pn2 ?_
  intro p e s m below meth c T0 hx hby hml hown hnm hret hlk hZ X0 e0
  have N0 := Fr.nil n0
  refine Goes.entry (ef2 m sm dd off len f on ln) ?_
  refine g_iloadN X0 hx hby d2_0 rfl 1 rfl ?_
  refine g_iloadN X0 hx hby d2_1 rfl 2 rfl ?_
  refine g_iadd X0 hx hby d2_2 3 rfl ?_
  refine g_istore X0 hx hby d2_3 (off + len) rfl #[.val (.int sm), .val (.ref dd), .val (.int off), .val (.int len), .val (.int (off + len)), .unset] rfl 5 rfl ?_
  refine g_iloadN X0 hx hby d2_5 rfl 6 rfl ?_
  refine g_istore X0 hx hby d2_6 off rfl #[.val (.int sm), .val (.ref dd), .val (.int off), .val (.int len), .val (.int (off + len)), .val (.int off)] rfl 8 rfl ?_
  have hen : (off + len).toInt = (on + ln : Nat) := by have q1 := c_iadd off len; have q2 := rng32 (off + len); omega
  obtain ⟨en, hen'⟩ : ∃ z : Int32, (off + len) = z := ⟨_, rfl⟩
  rw [hen'] at hen ⊢
  suffices loop : ∀ (k r n : Nat) (i y : Int32), r < k → i.toInt = n → n + r = on + ln → y + psum f n r = sm + psum f on ln → Goes p e below (Kend s below (Q2 sm dd off len f on ln Z h0 n0) ({ frames := 0, cells := 0, slots := 0, locals := 0 } : Room).cells ({ frames := 0, cells := 0, slots := 0, locals := 0 } : Room).slots) (T0.setTop (mkF m 8 #[.val (.int y), .val (.ref dd), .val (.int off), .val (.int len), .val (.int en), .val (.int i)] [])) by
    exact loop (ln + 1) ln on off sm (Nat.lt_succ_self _) hoff rfl rfl
  intro k
  induction k with
  | zero => intro r n i y hk; exact absurd hk (Nat.not_lt_zero _)
  | succ k ih =>
    intro r n i y hk hi hr hy
    refine g_iload X0 hx hby d2_8 rfl 10 rfl ?_
    refine g_iconst X0 hx hby d2_10 (1 : Int32) rfl 11 rfl ?_
    refine g_iadd X0 hx hby d2_11 12 rfl ?_
    refine g_iload X0 hx hby d2_12 rfl 14 rfl ?_
    refine g_icmp_ge X0 hx hby d2_14 48 17 (by decide) (by decide) rfl (fun c1 => ?_) (fun c1 => ?_)
    · -- c1
      obtain ⟨q1, q2, q3, q4, q5, q6, q7, r', rfl, q8⟩ := own_turn hi hen hE hr c1
      refine g_iloadN X0 hx hby d2_17 rfl 18 rfl ?_
      refine g_aloadN X0 hx hby d2_18 rfl rfl 19 rfl ?_
      refine g_iload X0 hx hby d2_19 rfl 21 rfl ?_
      refine g_baload X0 hx hby hZ e0 A_dd_0 d2_21 q1 n q2 q3 (f n) rfl 22 rfl ?_
      refine g_sipush X0 hx hby d2_22 (255 : Int32) rfl 25 rfl ?_
      refine g_iand X0 hx hby d2_25 26 rfl ?_
      refine g_bipush X0 hx hby d2_26 (8 : Int32) rfl 28 rfl ?_
      refine g_ishl X0 hx hby d2_28 29 rfl ?_
      refine g_aloadN X0 hx hby d2_29 rfl rfl 30 rfl ?_
      refine g_iload X0 hx hby d2_30 rfl 32 rfl ?_
      refine g_iconst X0 hx hby d2_32 (1 : Int32) rfl 33 rfl ?_
      refine g_iadd X0 hx hby d2_33 34 rfl ?_
      refine g_baload X0 hx hby hZ e0 A_dd_0 d2_34 q4 (n + 1) q5 q6 (f (n + 1)) rfl 35 rfl ?_
      refine g_sipush X0 hx hby d2_35 (255 : Int32) rfl 38 rfl ?_
      refine g_iand X0 hx hby d2_38 39 rfl ?_
      refine g_ior X0 hx hby d2_39 40 rfl ?_
      refine g_iadd X0 hx hby d2_40 41 rfl ?_
      refine g_istoreN X0 hx hby d2_41 (y + ((((f n) &&& (255 : Int32)) <<< ((8 : Int32) &&& 31)) ||| ((f (n + 1)) &&& (255 : Int32)))) rfl #[.val (.int (y + ((((f n) &&& (255 : Int32)) <<< ((8 : Int32) &&& 31)) ||| ((f (n + 1)) &&& (255 : Int32))))), .val (.ref dd), .val (.int off), .val (.int len), .val (.int en), .val (.int i)] rfl 42 rfl ?_
      refine g_iinc X0 hx hby d2_42 (2 : Int32) rfl rfl (i + (2 : Int32)) rfl #[.val (.int (y + ((((f n) &&& (255 : Int32)) <<< ((8 : Int32) &&& 31)) ||| ((f (n + 1)) &&& (255 : Int32))))), .val (.ref dd), .val (.int off), .val (.int len), .val (.int en), .val (.int (i + (2 : Int32)))] rfl 45 rfl ?_
      refine g_goto X0 hx hby d2_45 8 (by decide) (by decide) ?_
      exact ih r' (n + 2) _ _ (by omega) q7 q8 (by rw [← hy]; show _ = y + (_ + _); rw [Int32.add_assoc])
    · -- not c1
      refine g_iload X0 hx hby d2_48 rfl 50 rfl ?_
      refine g_iload X0 hx hby d2_50 rfl 52 rfl ?_
      refine g_icmp_ge X0 hx hby d2_52 69 55 (by decide) (by decide) rfl (fun c2 => ?_) (fun c2 => ?_)
      · -- c2
        obtain ⟨q1, q2, q3, rfl⟩ := own_last hi hen hE hr c1 c2
        refine g_iloadN X0 hx hby d2_55 rfl 56 rfl ?_
        refine g_aloadN X0 hx hby d2_56 rfl rfl 57 rfl ?_
        refine g_iload X0 hx hby d2_57 rfl 59 rfl ?_
        refine g_baload X0 hx hby hZ e0 A_dd_0 d2_59 q1 n q2 q3 (f n) rfl 60 rfl ?_
        refine g_sipush X0 hx hby d2_60 (255 : Int32) rfl 63 rfl ?_
        refine g_iand X0 hx hby d2_63 64 rfl ?_
        refine g_bipush X0 hx hby d2_64 (8 : Int32) rfl 66 rfl ?_
        refine g_ishl X0 hx hby d2_66 67 rfl ?_
        refine g_iadd X0 hx hby d2_67 68 rfl ?_
        refine g_istoreN X0 hx hby d2_68 (y + (((f n) &&& (255 : Int32)) <<< ((8 : Int32) &&& 31))) rfl #[.val (.int (y + (((f n) &&& (255 : Int32)) <<< ((8 : Int32) &&& 31)))), .val (.ref dd), .val (.int off), .val (.int len), .val (.int en), .val (.int i)] rfl 69 rfl ?_
        refine g_iloadN X0 hx hby d2_69 rfl 70 rfl ?_
        exact g_ireturn X0 hx hby hret hlk (Or.inl rfl) rfl d2_70 ⟨by rw [← hy]; rfl, N0, e0⟩ (by decide) (by decide)
      · -- not c2
        refine g_iloadN X0 hx hby d2_69 rfl 70 rfl ?_
        exact g_ireturn X0 hx hby hret hlk (Or.inl rfl) rfl d2_70 ⟨by rw [← hy, own_none hi hen hr c2]; show _ = some (Value.int (y + 0)); rw [Int32.add_zero], N0, e0⟩ (by decide) (by decide)
def contrib (kk : Int32) (off : Int32) (en : Int32) (f : Nat → Int32) : Int32 := if kk < off then ((0 : Int32)) else (if kk < en then (if ((kk - off) &&& (1 : Int32)) = 0 then ((((f kk.toNatClampNeg) &&& (255 : Int32)) <<< ((8 : Int32) &&& 31))) else (((f kk.toNatClampNeg) &&& (255 : Int32)))) else ((0 : Int32)))
theorem d1_0 : decode method_3_code 0 = .ok (.iload_n 1, 1) := by decide +kernel
theorem d1_1 : decode method_3_code 1 = .ok (.iload_n 2, 1) := by decide +kernel
theorem d1_2 : decode method_3_code 2 = .ok (.if_icmp .lt 8, 3) := by decide +kernel
theorem d1_5 : decode method_3_code 5 = .ok (.iload_n 1, 1) := by decide +kernel
theorem d1_6 : decode method_3_code 6 = .ok (.iload_n 3, 1) := by decide +kernel
theorem d1_7 : decode method_3_code 7 = .ok (.if_icmp .lt 5, 3) := by decide +kernel
theorem d1_10 : decode method_3_code 10 = .ok (.iconst 0, 1) := by decide +kernel
theorem d1_11 : decode method_3_code 11 = .ok (.ireturn, 1) := by decide +kernel
theorem d1_12 : decode method_3_code 12 = .ok (.aload_n 0, 1) := by decide +kernel
theorem d1_13 : decode method_3_code 13 = .ok (.iload_n 1, 1) := by decide +kernel
theorem d1_14 : decode method_3_code 14 = .ok (.baload, 1) := by decide +kernel
theorem d1_15 : decode method_3_code 15 = .ok (.sipush 255, 3) := by decide +kernel
theorem d1_18 : decode method_3_code 18 = .ok (.iand, 1) := by decide +kernel
theorem d1_19 : decode method_3_code 19 = .ok (.istore 4, 2) := by decide +kernel
theorem d1_21 : decode method_3_code 21 = .ok (.iload_n 1, 1) := by decide +kernel
theorem d1_22 : decode method_3_code 22 = .ok (.iload_n 2, 1) := by decide +kernel
theorem d1_23 : decode method_3_code 23 = .ok (.isub, 1) := by decide +kernel
theorem d1_24 : decode method_3_code 24 = .ok (.iconst 1, 1) := by decide +kernel
theorem d1_25 : decode method_3_code 25 = .ok (.iand, 1) := by decide +kernel
theorem d1_26 : decode method_3_code 26 = .ok (.ifCond .ne 9, 3) := by decide +kernel
theorem d1_29 : decode method_3_code 29 = .ok (.iload 4, 2) := by decide +kernel
theorem d1_31 : decode method_3_code 31 = .ok (.bipush 8, 2) := by decide +kernel
theorem d1_33 : decode method_3_code 33 = .ok (.ishl, 1) := by decide +kernel
theorem d1_34 : decode method_3_code 34 = .ok (.ireturn, 1) := by decide +kernel
theorem d1_35 : decode method_3_code 35 = .ok (.iload 4, 2) := by decide +kernel
theorem d1_37 : decode method_3_code 37 = .ok (.ireturn, 1) := by decide +kernel
theorem pn1 : plainFor (⟨"com/example/marchgate/marchgate/InternetChecksumAddPinLaw", "contrib", "([BIII)I"⟩ : MethodName) = true := plainFor_of_name (by first | (simp [plainName, overriddenIn]; done) | decide +kernel)
theorem ef1 (m : MethodId) (dd : Addr) (kk : Int32) (off : Int32) (en : Int32) (f : Nat → Int32) : entryFrame m #[(.ref dd), (.int kk), (.int off), (.int en)] 5 = mkF m 0 #[.val (.ref dd), .val (.int kk), .val (.int off), .val (.int en), .unset] [] := by first | (simp [entryFrame, mkF, argsToLocals, Value.category]; done) | rfl
def Q1 (dd : Addr) (kk : Int32) (off : Int32) (en : Int32) (f : Nat → Int32) (Z : State) (h0 : Heap) (n0 : Nat) (v : Option Value) (h : Heap) (L : List Loc) : Prop := v = some (.int (contrib kk off en f)) ∧ Fr n0 L ∧ h = h0
set_option maxRecDepth 65536 in
set_option maxHeartbeats 40000000 in
theorem rm1 (l : Launch) (Z : State) (a0 : Array Value) (hw : ∀ d ∈ tables_1, d.before a0 Z = true) (ws : List Jvm.Cond) (dd : Addr) (kk : Int32) (off : Int32) (en : Int32) (f : Nat → Int32) (h0 : Heap) (n0 : Nat) (Z0 : n0 ≤ h0.size) (A_dd_0 : AI Z h0 dd .byte 5 f) (hk0 : ¬ kk < 0) (hk1 : kk.toNatClampNeg < 5) : Ctr l (⟨"com/example/marchgate/marchgate/InternetChecksumAddPinLaw", "contrib", "([BIII)I"⟩ : MethodName) method_3_code 5 (some .int) ws ({ frames := 0, cells := 0, slots := 0, locals := 0 } : Room) #[(.ref dd), (.int kk), (.int off), (.int en)] Z h0 (Q1 dd kk off en f Z h0 n0) := by
  refine own_body pn1 ?_
  intro p e s m below meth c T0 hx hby hml hown hnm hret hlk hZ X0 e0
  have N0 := Fr.nil n0
  refine Goes.entry (ef1 m dd kk off en f) ?_
  refine g_iloadN X0 hx hby d1_0 rfl 1 rfl ?_
  refine g_iloadN X0 hx hby d1_1 rfl 2 rfl ?_
  refine g_icmp_lt X0 hx hby d1_2 10 5 (by decide) (by decide) rfl (fun c1 => ?_) (fun c1 => ?_)
  · -- c1
    refine g_iconst X0 hx hby d1_10 (0 : Int32) rfl 11 rfl ?_
    exact g_ireturn X0 hx hby hret hlk (Or.inl rfl) rfl d1_11 (by exact ⟨congrArg (fun z => some (Value.int z)) (if_pos c1).symm, N0, e0⟩) (by decide) (by decide)
  · -- not c1
    refine g_iloadN X0 hx hby d1_5 rfl 6 rfl ?_
    refine g_iloadN X0 hx hby d1_6 rfl 7 rfl ?_
    refine g_icmp_lt X0 hx hby d1_7 12 10 (by decide) (by decide) rfl (fun c2 => ?_) (fun c2 => ?_)
    · -- c2
      refine g_aloadN X0 hx hby d1_12 rfl rfl 13 rfl ?_
      refine g_iloadN X0 hx hby d1_13 rfl 14 rfl ?_
      refine g_baload X0 hx hby hZ e0 A_dd_0 d1_14 hk0 kk.toNatClampNeg rfl hk1 (f kk.toNatClampNeg) rfl 15 rfl ?_
      refine g_sipush X0 hx hby d1_15 (255 : Int32) rfl 18 rfl ?_
      refine g_iand X0 hx hby d1_18 19 rfl ?_
      refine g_istore X0 hx hby d1_19 ((f kk.toNatClampNeg) &&& (255 : Int32)) rfl #[.val (.ref dd), .val (.int kk), .val (.int off), .val (.int en), .val (.int ((f kk.toNatClampNeg) &&& (255 : Int32)))] rfl 21 rfl ?_
      refine g_iloadN X0 hx hby d1_21 rfl 22 rfl ?_
      refine g_iloadN X0 hx hby d1_22 rfl 23 rfl ?_
      refine g_isub X0 hx hby d1_23 24 rfl ?_
      refine g_iconst X0 hx hby d1_24 (1 : Int32) rfl 25 rfl ?_
      refine g_iand X0 hx hby d1_25 26 rfl ?_
      refine g_if_ne X0 hx hby d1_26 35 29 (by decide) (by decide) rfl (fun c3 => ?_) (fun c3 => ?_)
      · -- c3
        refine g_iload X0 hx hby d1_29 rfl 31 rfl ?_
        refine g_bipush X0 hx hby d1_31 (8 : Int32) rfl 33 rfl ?_
        refine g_ishl X0 hx hby d1_33 34 rfl ?_
        exact g_ireturn X0 hx hby hret hlk (Or.inl rfl) rfl d1_34 (by exact ⟨congrArg (fun z => some (Value.int z)) ((if_neg c1).trans ((if_pos c2).trans (if_pos c3))).symm, N0, e0⟩) (by decide) (by decide)
      · -- not c3
        refine g_iload X0 hx hby d1_35 rfl 37 rfl ?_
        exact g_ireturn X0 hx hby hret hlk (Or.inl rfl) rfl d1_37 (by exact ⟨congrArg (fun z => some (Value.int z)) ((if_neg c1).trans ((if_pos c2).trans (if_neg c3))).symm, N0, e0⟩) (by decide) (by decide)
    · -- not c2
      refine g_iconst X0 hx hby d1_10 (0 : Int32) rfl 11 rfl ?_
      exact g_ireturn X0 hx hby hret hlk (Or.inl rfl) rfl d1_11 (by exact ⟨congrArg (fun z => some (Value.int z)) ((if_neg c1).trans (if_neg c2)).symm, N0, e0⟩) (by decide) (by decide)
theorem own_u8 (x : Int32) : 0 ≤ (x &&& (255 : Int32)).toInt ∧ (x &&& (255 : Int32)).toInt < 256 := by
  have h := c_mask x 255 8 (by decide) (by decide)
  rw [h]; omega
theorem own_u16 (a b : Int32) : ((a &&& 255) <<< ((8 : Int32) &&& 31)) ||| (b &&& 255) = ((a &&& 255) <<< ((8 : Int32) &&& 31)) + (b &&& 255) := by
  have hu := own_u8 a
  have hv := own_u8 b
  have h1 := c_ishl (a &&& 255) 8 8 (by decide)
  have r1 := rng32 ((a &&& 255) <<< ((8 : Int32) &&& 31))
  have h2 := c_or ((a &&& 255) <<< ((8 : Int32) &&& 31)) (b &&& 255) 8 (by decide) 256 (by decide) (by omega) hv.1 hv.2
  have r2 := rng32 (((a &&& 255) <<< ((8 : Int32) &&& 31)) ||| (b &&& 255))
  have h4 := c_iadd ((a &&& 255) <<< ((8 : Int32) &&& 31)) (b &&& 255)
  have r4 := rng32 (((a &&& 255) <<< ((8 : Int32) &&& 31)) + (b &&& 255))
  exact Int32.toInt_inj.mp (by omega)
theorem own_off {xx off : Int32} (h : ((((xx.toUInt32 >>> ((8 : Int32) &&& 31).toUInt32).toInt32) &&& (255 : Int32)) % 6) = off) : 0 ≤ off.toInt ∧ off.toInt ≤ 5 := by
  have q := own_u8 ((xx.toUInt32 >>> ((8 : Int32) &&& 31).toUInt32).toInt32)
  have h2 := (c_irem (((xx.toUInt32 >>> ((8 : Int32) &&& 31).toUInt32).toInt32) &&& (255 : Int32)) 6 6 rfl).1 q.1
  rw [h] at h2; omega
theorem own_six {off : Int32} (h : 0 ≤ off.toInt ∧ off.toInt ≤ 5) : (6 - off).toInt = 6 - off.toInt := by
  have h1 := c_isub 6 off
  have h2 := rng32 (6 - off)
  have e6 : (6 : Int32).toInt = 6 := rfl
  omega
theorem own_six0 {off : Int32} (h : 0 ≤ off.toInt ∧ off.toInt ≤ 5) : (6 : Int32) - off ≠ 0 := by
  have h1 := own_six h
  intro q; have : (6 - off).toInt = 0 := by rw [q]; rfl
  omega
theorem own_len {y off len : Int32} (ho : 0 ≤ off.toInt ∧ off.toInt ≤ 5) (h : (y &&& (255 : Int32)) % (6 - off) = len) : 0 ≤ len.toInt ∧ off.toInt + len.toInt ≤ 5 := by
  have q := own_u8 y
  have h1 := own_six ho
  have h2 := (c_iremV (y &&& (255 : Int32)) (6 - off)).1 q.1 (by omega)
  rw [h] at h2; omega
theorem own_fin {f : Nat → Int32} {sm off len en : Int32} (ho : 0 ≤ off.toInt ∧ off.toInt ≤ 5) (hl : 0 ≤ len.toInt ∧ off.toInt + len.toInt ≤ 5) (hen : off + len = en) :
    sm + psum f off.toNatClampNeg len.toNatClampNeg = ((((sm + contrib 0 off en f) + contrib 1 off en f) + contrib 2 off en f) + contrib 3 off en f) + contrib 4 off en f := by
  have e0 : (0 : Int32).toInt = 0 := rfl
  have e1 : (1 : Int32).toInt = 1 := rfl
  have e2 : (2 : Int32).toInt = 2 := rfl
  have e3 : (3 : Int32).toInt = 3 := rfl
  have e4 : (4 : Int32).toInt = 4 := rfl
  have e5 : (5 : Int32).toInt = 5 := rfl
  have a1 : off = 0 ∨ off = 1 ∨ off = 2 ∨ off = 3 ∨ off = 4 ∨ off = 5 := by simp only [← Int32.toInt_inj, e0, e1, e2, e3, e4, e5]; omega
  have a2 : len = 0 ∨ len = 1 ∨ len = 2 ∨ len = 3 ∨ len = 4 ∨ len = 5 := by simp only [← Int32.toInt_inj, e0, e1, e2, e3, e4, e5]; omega
  subst hen
  rcases a1 with rfl | rfl | rfl | rfl | rfl | rfl <;> rcases a2 with rfl | rfl | rfl | rfl | rfl | rfl <;>
    first
    | (exfalso; omega)
    | (show sm + psum f _ _ = _
       simp +decide only [show (0 : Int32).toNatClampNeg = 0 from rfl, show (1 : Int32).toNatClampNeg = 1 from rfl, show (2 : Int32).toNatClampNeg = 2 from rfl, show (3 : Int32).toNatClampNeg = 3 from rfl, show (4 : Int32).toNatClampNeg = 4 from rfl, show (5 : Int32).toNatClampNeg = 5 from rfl, psum, own_u16, contrib, Int32.reduceAdd, Int32.reduceSub, Int32.reduceLT, if_true, if_false, ↓reduceIte, Int32.add_zero, Int32.zero_add, Int32.add_assoc, Nat.reduceAdd])

theorem own_cl {j : Int32} (h : 0 ≤ j.toInt) : j.toInt = (j.toNatClampNeg : Nat) := by
  show j.toInt = (j.toInt.toNat : Int); omega
theorem own_sum5 {off len : Int32} (ho : 0 ≤ off.toInt ∧ off.toInt ≤ 5) (hl : 0 ≤ len.toInt ∧ off.toInt + len.toInt ≤ 5) : off.toNatClampNeg + len.toNatClampNeg ≤ 5 := by
  show off.toInt.toNat + len.toInt.toNat ≤ 5; omega

theorem pd0 : parseMethodDescriptor "([BIII)I" = some ⟨[(.array .byte), .int, .int, .int], some .int⟩ := by decide +kernel
theorem pd1 : parseMethodDescriptor "(I[BII)I" = some ⟨[.int, (.array .byte), .int, .int], some .int⟩ := by decide +kernel
theorem pn0 : plainFor (⟨"com/example/marchgate/marchgate/InternetChecksumAddPinLaw", "law", "(III)Z"⟩ : MethodName) = true := plainFor_of_name (by first | (simp [plainName, overriddenIn]; done) | decide +kernel)
theorem ef0 (m : MethodId) (sum : Int32) (ww : Int32) (xx : Int32) : entryFrame m #[(.int sum), (.int ww), (.int xx)] maxLocals = mkF m 0 #[.val (.int sum), .val (.int ww), .val (.int xx), .unset, .unset, .unset, .unset, .unset, .unset] [] := by first | (simp [entryFrame, mkF, argsToLocals, Value.category, maxLocals]; done) | rfl
def Q0 (sum : Int32) (ww : Int32) (xx : Int32) (Z : State) (h0 : Heap) (n0 : Nat) (v : Option Value) (h : Heap) (L : List Loc) : Prop := v = some (.int 1) ∧ Fr n0 L
set_option maxRecDepth 65536 in
set_option maxHeartbeats 40000000 in
theorem rm0 (l : Launch) (Z : State) (a0 : Array Value) (hw : ∀ d ∈ tables_1, d.before a0 Z = true) (ws : List Jvm.Cond) (sum : Int32) (ww : Int32) (xx : Int32) (h0 : Heap) (n0 : Nat) (Z0 : n0 ≤ h0.size) : Ctr l x code maxLocals ret ws room_1 #[(.int sum), (.int ww), (.int xx)] Z h0 (Q0 sum ww xx Z h0 n0) := by
  refine own_body pn0 ?_
  intro p e s m below meth c T0 hx hby hml hown hnm hret hlk hZ X0 e0
  have N0 := Fr.nil n0
  refine Goes.entry (ef0 m sum ww xx) ?_
  refine g_iconst X0 hx hby at_0 (5 : Int32) rfl 1 rfl ?_
  refine g_newarray X0 hx hby hZ (hw _ (List.mem_of_getElem? (i := 0) rfl)) e0 at_1 (by decide) 5 rfl 5 (by decide) (by decide) (by decide) (by decide) 3 rfl ?_
  intro T1 h1 b1 g1 X1 e1 E1 A1
  have gn_b1 : n0 ≤ b1 := Nat.le_trans Z0 (Nat.le_of_eq g1.symm)
  have Z1 : n0 ≤ h1.size := Nat.le_trans Z0 E1.1
  have Vb1 : AI Z h1 b1 .byte 5 (fun _ => (0 : Int32)) := A1
  refine g_astoreN X1 hx hby at_3 rfl #[.val (.int sum), .val (.int ww), .val (.int xx), .val (.ref b1), .unset, .unset, .unset, .unset, .unset] rfl 4 rfl ?_
  refine g_aloadN X1 hx hby at_4 rfl rfl 5 rfl ?_
  refine g_iconst X1 hx hby at_5 (0 : Int32) rfl 6 rfl ?_
  refine g_iloadN X1 hx hby at_6 rfl 7 rfl ?_
  refine g_bipush X1 hx hby at_7 (24 : Int32) rfl 9 rfl ?_
  refine g_iushr X1 hx hby at_9 10 rfl ?_
  refine g_i2b X1 hx hby at_10 11 rfl ?_
  refine g_bastore X1 hx hby hZ e1 Vb1 at_11 (by decide) 0 rfl (by decide) (((ww.toUInt32 >>> ((24 : Int32) &&& 31).toUInt32).toInt32).toInt8.toInt32) (byte2 _) 12 rfl ?_
  intro T2 h2 X2 e2 W2 V2
  have N2 := Fr.snoc X2 N0 gn_b1
  have Z2 : n0 ≤ h2.size := Nat.le_trans Z1 (Keep.of_wr W2).1
  refine g_aloadN X2 hx hby at_12 rfl rfl 13 rfl ?_
  refine g_iconst X2 hx hby at_13 (1 : Int32) rfl 14 rfl ?_
  refine g_iloadN X2 hx hby at_14 rfl 15 rfl ?_
  refine g_bipush X2 hx hby at_15 (16 : Int32) rfl 17 rfl ?_
  refine g_iushr X2 hx hby at_17 18 rfl ?_
  refine g_i2b X2 hx hby at_18 19 rfl ?_
  refine g_bastore X2 hx hby hZ e2 V2 at_19 (by decide) 1 rfl (by decide) (((ww.toUInt32 >>> ((16 : Int32) &&& 31).toUInt32).toInt32).toInt8.toInt32) (byte2 _) 20 rfl ?_
  intro T3 h3 X3 e3 W3 V3
  have N3 := Fr.snoc X3 N2 gn_b1
  have Z3 : n0 ≤ h3.size := Nat.le_trans Z2 (Keep.of_wr W3).1
  refine g_aloadN X3 hx hby at_20 rfl rfl 21 rfl ?_
  refine g_iconst X3 hx hby at_21 (2 : Int32) rfl 22 rfl ?_
  refine g_iloadN X3 hx hby at_22 rfl 23 rfl ?_
  refine g_bipush X3 hx hby at_23 (8 : Int32) rfl 25 rfl ?_
  refine g_iushr X3 hx hby at_25 26 rfl ?_
  refine g_i2b X3 hx hby at_26 27 rfl ?_
  refine g_bastore X3 hx hby hZ e3 V3 at_27 (by decide) 2 rfl (by decide) (((ww.toUInt32 >>> ((8 : Int32) &&& 31).toUInt32).toInt32).toInt8.toInt32) (byte2 _) 28 rfl ?_
  intro T4 h4 X4 e4 W4 V4
  have N4 := Fr.snoc X4 N3 gn_b1
  have Z4 : n0 ≤ h4.size := Nat.le_trans Z3 (Keep.of_wr W4).1
  refine g_aloadN X4 hx hby at_28 rfl rfl 29 rfl ?_
  refine g_iconst X4 hx hby at_29 (3 : Int32) rfl 30 rfl ?_
  refine g_iloadN X4 hx hby at_30 rfl 31 rfl ?_
  refine g_i2b X4 hx hby at_31 32 rfl ?_
  refine g_bastore X4 hx hby hZ e4 V4 at_32 (by decide) 3 rfl (by decide) (ww.toInt8.toInt32) (byte2 _) 33 rfl ?_
  intro T5 h5 X5 e5 W5 V5
  have N5 := Fr.snoc X5 N4 gn_b1
  have Z5 : n0 ≤ h5.size := Nat.le_trans Z4 (Keep.of_wr W5).1
  refine g_aloadN X5 hx hby at_33 rfl rfl 34 rfl ?_
  refine g_iconst X5 hx hby at_34 (4 : Int32) rfl 35 rfl ?_
  refine g_iloadN X5 hx hby at_35 rfl 36 rfl ?_
  refine g_i2b X5 hx hby at_36 37 rfl ?_
  refine g_bastore X5 hx hby hZ e5 V5 at_37 (by decide) 4 rfl (by decide) (xx.toInt8.toInt32) (byte2 _) 38 rfl ?_
  intro T6 h6 X6 e6 W6 V6
  have N6 := Fr.snoc X6 N5 gn_b1
  have Z6 : n0 ≤ h6.size := Nat.le_trans Z5 (Keep.of_wr W6).1
  obtain ⟨f, hf⟩ : ∃ f : Nat → Int32, (upd (upd (upd (upd (upd (fun _ => (0 : Int32)) 0 (((ww.toUInt32 >>> ((24 : Int32) &&& 31).toUInt32).toInt32).toInt8.toInt32)) 1 (((ww.toUInt32 >>> ((16 : Int32) &&& 31).toUInt32).toInt32).toInt8.toInt32)) 2 (((ww.toUInt32 >>> ((8 : Int32) &&& 31).toUInt32).toInt32).toInt8.toInt32)) 3 (ww.toInt8.toInt32)) 4 (xx.toInt8.toInt32)) = f := ⟨_, rfl⟩
  have Vf : AI Z h6 b1 .byte 5 f := hf ▸ V6
  refine g_iloadN X6 hx hby at_38 rfl 39 rfl ?_
  refine g_bipush X6 hx hby at_39 (8 : Int32) rfl 41 rfl ?_
  refine g_iushr X6 hx hby at_41 42 rfl ?_
  refine g_sipush X6 hx hby at_42 (255 : Int32) rfl 45 rfl ?_
  refine g_iand X6 hx hby at_45 46 rfl ?_
  refine g_bipush X6 hx hby at_46 (6 : Int32) rfl 48 rfl ?_
  refine g_irem X6 hx hby at_48 (by decide) 49 rfl ?_
  obtain ⟨off, hoff⟩ : ∃ z : Int32, ((((xx.toUInt32 >>> ((8 : Int32) &&& 31).toUInt32).toInt32) &&& (255 : Int32)) % (6 : Int32)) = z := ⟨_, rfl⟩
  refine g_istore X6 hx hby at_49 off hoff #[.val (.int sum), .val (.int ww), .val (.int xx), .val (.ref b1), .val (.int off), .unset, .unset, .unset, .unset] rfl 51 rfl ?_
  have ho := own_off hoff
  refine g_iloadN X6 hx hby at_51 rfl 52 rfl ?_
  refine g_bipush X6 hx hby at_52 (16 : Int32) rfl 54 rfl ?_
  refine g_iushr X6 hx hby at_54 55 rfl ?_
  refine g_sipush X6 hx hby at_55 (255 : Int32) rfl 58 rfl ?_
  refine g_iand X6 hx hby at_58 59 rfl ?_
  refine g_bipush X6 hx hby at_59 (6 : Int32) rfl 61 rfl ?_
  refine g_iload X6 hx hby at_61 rfl 63 rfl ?_
  refine g_isub X6 hx hby at_63 64 rfl ?_
  refine g_irem X6 hx hby at_64 (own_six0 ho) 65 rfl ?_
  obtain ⟨len, hlen⟩ : ∃ z : Int32, ((((xx.toUInt32 >>> ((16 : Int32) &&& 31).toUInt32).toInt32) &&& (255 : Int32)) % ((6 : Int32) - off)) = z := ⟨_, rfl⟩
  refine g_istore X6 hx hby at_65 len hlen #[.val (.int sum), .val (.int ww), .val (.int xx), .val (.ref b1), .val (.int off), .val (.int len), .unset, .unset, .unset] rfl 67 rfl ?_
  have hl := own_len ho hlen
  refine g_iload X6 hx hby at_67 rfl 69 rfl ?_
  refine g_iload X6 hx hby at_69 rfl 71 rfl ?_
  refine g_iadd X6 hx hby at_71 72 rfl ?_
  obtain ⟨en, hen⟩ : ∃ z : Int32, (off + len) = z := ⟨_, rfl⟩
  refine g_istore X6 hx hby at_72 en hen #[.val (.int sum), .val (.int ww), .val (.int xx), .val (.ref b1), .val (.int off), .val (.int len), .val (.int en), .unset, .unset] rfl 74 rfl ?_
  refine g_iloadN X6 hx hby at_74 rfl 75 rfl ?_
  refine g_aloadN X6 hx hby at_75 rfl rfl 76 rfl ?_
  refine g_iconst X6 hx hby at_76 (0 : Int32) rfl 77 rfl ?_
  refine g_iload X6 hx hby at_77 rfl 79 rfl ?_
  refine g_iload X6 hx hby at_79 rfl 81 rfl ?_
  refine g_callS X6 hx hby hZ hown (hw _ (List.mem_of_getElem? (i := 1) rfl)) (hw _ (List.mem_of_getElem? (i := 2) rfl)) (hw _ (List.mem_of_getElem? (i := 3) rfl)) (hw _ (List.mem_of_getElem? (i := 4) rfl)) at_81 [(.ref b1), (.int (0 : Int32)), (.int off), (.int en)] [(.int sum)] (rm1 l Z a0 hw [] b1 (0 : Int32) off en f h6 n0 Z6 Vf (by decide) (by decide)) e6 rfl (by rw [hml]; rfl) pd0 rfl (by decide) 1 (Nat.le_of_eq rfl) (by decide) (by decide) (by decide) (by decide) 84 rfl ?_
  intro T7 v7 L7 X7 Q7
  obtain ⟨rfl, N7', e7⟩ := Q7
  have N7 := Fr.app N6 N7'
  show Goes p e below _ (T7.setTop (mkF m 84 _ [(.int (contrib (0 : Int32) off en f)), (.int sum)]))
  refine g_iadd X7 hx hby at_84 85 rfl ?_
  refine g_aloadN X7 hx hby at_85 rfl rfl 86 rfl ?_
  refine g_iconst X7 hx hby at_86 (1 : Int32) rfl 87 rfl ?_
  refine g_iload X7 hx hby at_87 rfl 89 rfl ?_
  refine g_iload X7 hx hby at_89 rfl 91 rfl ?_
  refine g_callS X7 hx hby hZ hown (hw _ (List.mem_of_getElem? (i := 1) rfl)) (hw _ (List.mem_of_getElem? (i := 2) rfl)) (hw _ (List.mem_of_getElem? (i := 3) rfl)) (hw _ (List.mem_of_getElem? (i := 4) rfl)) at_91 [(.ref b1), (.int (1 : Int32)), (.int off), (.int en)] [(.int (sum + (contrib (0 : Int32) off en f)))] (rm1 l Z a0 hw [] b1 (1 : Int32) off en f h6 n0 Z6 Vf (by decide) (by decide)) e7 rfl (by rw [hml]; rfl) pd0 rfl (by decide) 1 (Nat.le_of_eq rfl) (by decide) (by decide) (by decide) (by decide) 94 rfl ?_
  intro T8 v8 L8 X8 Q8
  obtain ⟨rfl, N8', e8⟩ := Q8
  have N8 := Fr.app N7 N8'
  show Goes p e below _ (T8.setTop (mkF m 94 _ [(.int (contrib (1 : Int32) off en f)), (.int (sum + (contrib (0 : Int32) off en f)))]))
  refine g_iadd X8 hx hby at_94 95 rfl ?_
  refine g_aloadN X8 hx hby at_95 rfl rfl 96 rfl ?_
  refine g_iconst X8 hx hby at_96 (2 : Int32) rfl 97 rfl ?_
  refine g_iload X8 hx hby at_97 rfl 99 rfl ?_
  refine g_iload X8 hx hby at_99 rfl 101 rfl ?_
  refine g_callS X8 hx hby hZ hown (hw _ (List.mem_of_getElem? (i := 1) rfl)) (hw _ (List.mem_of_getElem? (i := 2) rfl)) (hw _ (List.mem_of_getElem? (i := 3) rfl)) (hw _ (List.mem_of_getElem? (i := 4) rfl)) at_101 [(.ref b1), (.int (2 : Int32)), (.int off), (.int en)] [(.int ((sum + (contrib (0 : Int32) off en f)) + (contrib (1 : Int32) off en f)))] (rm1 l Z a0 hw [] b1 (2 : Int32) off en f h6 n0 Z6 Vf (by decide) (by decide)) e8 rfl (by rw [hml]; rfl) pd0 rfl (by decide) 1 (Nat.le_of_eq rfl) (by decide) (by decide) (by decide) (by decide) 104 rfl ?_
  intro T9 v9 L9 X9 Q9
  obtain ⟨rfl, N9', e9⟩ := Q9
  have N9 := Fr.app N8 N9'
  show Goes p e below _ (T9.setTop (mkF m 104 _ [(.int (contrib (2 : Int32) off en f)), (.int ((sum + (contrib (0 : Int32) off en f)) + (contrib (1 : Int32) off en f)))]))
  refine g_iadd X9 hx hby at_104 105 rfl ?_
  refine g_aloadN X9 hx hby at_105 rfl rfl 106 rfl ?_
  refine g_iconst X9 hx hby at_106 (3 : Int32) rfl 107 rfl ?_
  refine g_iload X9 hx hby at_107 rfl 109 rfl ?_
  refine g_iload X9 hx hby at_109 rfl 111 rfl ?_
  refine g_callS X9 hx hby hZ hown (hw _ (List.mem_of_getElem? (i := 1) rfl)) (hw _ (List.mem_of_getElem? (i := 2) rfl)) (hw _ (List.mem_of_getElem? (i := 3) rfl)) (hw _ (List.mem_of_getElem? (i := 4) rfl)) at_111 [(.ref b1), (.int (3 : Int32)), (.int off), (.int en)] [(.int (((sum + (contrib (0 : Int32) off en f)) + (contrib (1 : Int32) off en f)) + (contrib (2 : Int32) off en f)))] (rm1 l Z a0 hw [] b1 (3 : Int32) off en f h6 n0 Z6 Vf (by decide) (by decide)) e9 rfl (by rw [hml]; rfl) pd0 rfl (by decide) 1 (Nat.le_of_eq rfl) (by decide) (by decide) (by decide) (by decide) 114 rfl ?_
  intro T10 v10 L10 X10 Q10
  obtain ⟨rfl, N10', e10⟩ := Q10
  have N10 := Fr.app N9 N10'
  show Goes p e below _ (T10.setTop (mkF m 114 _ [(.int (contrib (3 : Int32) off en f)), (.int (((sum + (contrib (0 : Int32) off en f)) + (contrib (1 : Int32) off en f)) + (contrib (2 : Int32) off en f)))]))
  refine g_iadd X10 hx hby at_114 115 rfl ?_
  refine g_aloadN X10 hx hby at_115 rfl rfl 116 rfl ?_
  refine g_iconst X10 hx hby at_116 (4 : Int32) rfl 117 rfl ?_
  refine g_iload X10 hx hby at_117 rfl 119 rfl ?_
  refine g_iload X10 hx hby at_119 rfl 121 rfl ?_
  refine g_callS X10 hx hby hZ hown (hw _ (List.mem_of_getElem? (i := 1) rfl)) (hw _ (List.mem_of_getElem? (i := 2) rfl)) (hw _ (List.mem_of_getElem? (i := 3) rfl)) (hw _ (List.mem_of_getElem? (i := 4) rfl)) at_121 [(.ref b1), (.int (4 : Int32)), (.int off), (.int en)] [(.int ((((sum + (contrib (0 : Int32) off en f)) + (contrib (1 : Int32) off en f)) + (contrib (2 : Int32) off en f)) + (contrib (3 : Int32) off en f)))] (rm1 l Z a0 hw [] b1 (4 : Int32) off en f h6 n0 Z6 Vf (by decide) (by decide)) e10 rfl (by rw [hml]; rfl) pd0 rfl (by decide) 1 (Nat.le_of_eq rfl) (by decide) (by decide) (by decide) (by decide) 124 rfl ?_
  intro T11 v11 L11 X11 Q11
  obtain ⟨rfl, N11', e11⟩ := Q11
  have N11 := Fr.app N10 N11'
  show Goes p e below _ (T11.setTop (mkF m 124 _ [(.int (contrib (4 : Int32) off en f)), (.int ((((sum + (contrib (0 : Int32) off en f)) + (contrib (1 : Int32) off en f)) + (contrib (2 : Int32) off en f)) + (contrib (3 : Int32) off en f)))]))
  refine g_iadd X11 hx hby at_124 125 rfl ?_
  obtain ⟨ex, hex⟩ : ∃ z : Int32, (((((sum + (contrib (0 : Int32) off en f)) + (contrib (1 : Int32) off en f)) + (contrib (2 : Int32) off en f)) + (contrib (3 : Int32) off en f)) + (contrib (4 : Int32) off en f)) = z := ⟨_, rfl⟩
  refine g_istore X11 hx hby at_125 ex hex #[.val (.int sum), .val (.int ww), .val (.int xx), .val (.ref b1), .val (.int off), .val (.int len), .val (.int en), .val (.int ex), .unset] rfl 127 rfl ?_
  refine g_iloadN X11 hx hby at_127 rfl 128 rfl ?_
  refine g_aloadN X11 hx hby at_128 rfl rfl 129 rfl ?_
  refine g_iload X11 hx hby at_129 rfl 131 rfl ?_
  refine g_iload X11 hx hby at_131 rfl 133 rfl ?_
  refine g_callS X11 hx hby hZ hown (hw _ (List.mem_of_getElem? (i := 5) rfl)) (hw _ (List.mem_of_getElem? (i := 6) rfl)) (hw _ (List.mem_of_getElem? (i := 7) rfl)) (hw _ (List.mem_of_getElem? (i := 8) rfl)) at_133 [(.int sum), (.ref b1), (.int off), (.int len)] [] (rm2 l Z a0 hw [] sum b1 off len f off.toNatClampNeg len.toNatClampNeg h6 n0 Z6 Vf (own_cl ho.1) (own_cl hl.1) (own_sum5 ho hl)) e11 rfl (by rw [hml]; rfl) pd1 rfl (by decide) 0 (Nat.le_of_eq rfl) (by decide) (by decide) (by decide) (by decide) 136 rfl ?_
  intro T12 v12 L12 X12 Q12
  obtain ⟨rfl, N12', e12⟩ := Q12
  have N12 := Fr.app N11 N12'
  show Goes p e below _ (T12.setTop (mkF m 136 _ [(.int (sum + psum f off.toNatClampNeg len.toNatClampNeg))]))
  obtain ⟨got, hgot⟩ : ∃ z : Int32, (sum + psum f off.toNatClampNeg len.toNatClampNeg) = z := ⟨_, rfl⟩
  refine g_istore X12 hx hby at_136 got hgot #[.val (.int sum), .val (.int ww), .val (.int xx), .val (.ref b1), .val (.int off), .val (.int len), .val (.int en), .val (.int ex), .val (.int got)] rfl 138 rfl ?_
  refine g_iload X12 hx hby at_138 rfl 140 rfl ?_
  refine g_iload X12 hx hby at_140 rfl 142 rfl ?_
  refine g_icmp_ne X12 hx hby at_142 149 145 (by decide) (by decide) rfl (fun _ => ?_) (fun q => absurd (hgot.symm.trans ((own_fin ho hl hen).trans hex)) q)
  refine g_iconst X12 hx hby at_145 (1 : Int32) rfl 146 rfl ?_
  refine g_goto X12 hx hby at_146 150 (by decide) (by decide) ?_
  exact g_ireturn X12 hx hby hret hlk (Or.inr (Or.inl rfl)) (nar_bool (Or.inr rfl)) at_150 ⟨rfl, N12⟩ (by decide) (by decide)
set_option maxRecDepth 65536 in
set_option maxHeartbeats 40000000 in
theorem comes_1 {Post : Tables → Env → Array Value → State → Outcome → State → Prop} (hpost : ∀ tb e args s v u, (limb_1_1.after args s (.returned v) u = true ∧ limb_1_2.after args s (.returned v) u = true ∧ True) → FrameEnd s (.returned v) u (Jvm.fieldLocs frame_1_writes args s ++ Jvm.arrayLocs frame_1_arrays args s ++ Jvm.staticLocs frame_1_statics s) 16 128 → Post tb e args s (.returned v) u) :
    ArmFor flags0 classFile x code maxLocals ret World_1 tables_1 room_1 Calls_1 rest_1 Pre_1 Post := by
  intro l hfl _ _ p e ha hc hk s m args below hf hA hF happ hP
  obtain ⟨hcalls, hrest, hpre⟩ := hP
  obtain ⟨-, -, -, hnamed, -, -, -, hat⟩ := (Spec.applies_iff hf).mp happ
  obtain ⟨hg, hn⟩ := and_e (Cond.before_iff.mp (show (Jvm.Cond.and given_1 narrow_1).before args s = true from hpre))
  obtain ⟨q0, r0⟩ := and_e hg
  obtain ⟨q1, r1⟩ := and_e r0
  obtain ⟨q2, r2⟩ := and_e r1
  obtain ⟨w0, w1, w2, rfl⟩ : ∃ w0 w1 w2 : Value, args = #[w0, w1, w2] := by
    have hs : args.size = 3 := by simpa [Cond.value, given_1] using q0
    obtain ⟨L⟩ := args
    match L, hs with
    | [w0, w1, w2], _ => exact ⟨w0, w1, w2, rfl⟩
  have hw := fun d (hd : d ∈ tables_1) => atoms_spec (ws := Jvm.Cond.code x code maxLocals ret :: tables_1) hat d (List.mem_cons_of_mem _ hd)
  obtain ⟨i0, ei0⟩ := is_v q1
  obtain rfl : w0 = (.int i0) := Option.some.inj ei0
  obtain ⟨i1, ei1⟩ := is_v q2
  obtain rfl : w1 = (.int i1) := Option.some.inj ei1
  obtain ⟨i2, ei2⟩ := is_v r2
  obtain rfl : w2 = (.int i2) := Option.some.inj ei2
  obtain ⟨n, o, h1, h2, h3, _, L, rfl, ⟨rfl, N⟩, hq⟩ := rm0 l s _ hw tables_1 i0 i1 i2 s.heap s.heap.size (Nat.le_refl _) p e ha hc hk s m _ below hf ((Spec.applies_iff_loose hf).mp happ).1 ⟨rfl, State.Warmed39.refl s, rfl⟩ trivial
  refine ⟨n, _, h1, h2, h3, hpost _ _ _ _ _ _ ⟨Cond.after_iff.mpr rfl, Cond.after_iff.mpr (eq_i res_at (Term.int_eval (1)) rfl), trivial⟩ ⟨hq.1, hq.2.1, (hq.2.2.sift fun y hy => Or.inr (N y hy)).mono (by decide) (by decide)⟩⟩
theorem main_1_1 : Claimed_1_1 := comes_1 fun _ _ _ _ _ _ h hF => ⟨h.1, hF⟩
theorem main_1_2 : Claimed_1_2 := comes_1 fun _ _ _ _ _ _ h hF => ⟨h.2.1, hF⟩
end Jvm.Pilot.@@N@@
namespace Jvm.Pilot.@@N@@
open Jvm Jvm.ClassFile Sem Op Lib Jvm.Free Jvm.Stand Jvm.Pilot.@@N@@.Jvm.D
/-! MADE BY PROGRAM (witnessworld.py) out of the Statement's table words and the real class files: 9 classes; the members and pool entries that the words name. The judged class is class 1, her method 1. -/
namespace start1
open Jvm.ClassFile
def u (s : String) : CpInfo := .utf8 (stringToUtf16 s)
/-- a pool by its gaps: so many unusable entries, then the entry; so many at the end -/
def gap : Nat → List CpInfo → List CpInfo
  | 0, r => r
  | n + 1, r => .unusable :: gap n r
def poolList (es : List (Nat × CpInfo)) (last : Nat) : List CpInfo := es.foldr (fun e r => gap e.1 (e.2 :: r)) (gap last [])
def pool (es : List (Nat × CpInfo)) (last : Nat) : Array CpInfo := ⟨poolList es last⟩
def fileOf (pool : Array CpInfo) (this : Nat) (attrs : Array Attribute := #[]) (ms : Array MethodInfo := #[]) (fl : Nat := 33) (sup : Nat := 0) (ifs : Array Nat := #[]) (fds : Array FieldInfo := #[]) : ClassFile where
  minorVersion := 0
  majorVersion := 65
  constantPool := pool
  accessFlags := fl
  thisClass := this
  superClass := sup
  interfaces := ifs
  fields := fds
  methods := ms
  attributes := attrs
def plain (name : String) (sup : Option ClassId) : Class where
  name := name
  kind := .ordinary
  loader := none
  accessFlags := 33
  super := sup
  interfaces := #[]
  cf := none
  fields := #[]
  methods := #[]
  instanceTypes := #[]
  staticTypes := #[]
  resolved := #[]
  callSites := []
  init := .initialized
  statics := none
  mirror := none

def pool0 : Array CpInfo := pool [(5, u "<init>"), (0, u "()V"), (1, .class_ 10), (1, u "java/lang/Object")] 113

def k0m0 : Method := { name := "<init>", desc := "()V", sig := { parameters := [], returnType := none }, accessFlags := 1, code := none }
/-- java/lang/Object -/
def k0 : Class := { plain "java/lang/Object" none with
  accessFlags := 33
  interfaces := #[]
  cf := some (fileOf pool0 8 #[] #[{ accessFlags := 1, nameIndex := 5, descriptorIndex := 6, attributes := #[] }] 33 0 #[] #[])
  fields := #[]
  methods := #[k0m0]
  instanceTypes := #[]
  staticTypes := #[]
  resolved := Array.replicate 124 none
  statics := none }

def pool1 : Array CpInfo := pool [(2, .class_ 4), (1, u "java/lang/Object"), (0, u "<init>"), (0, u "()V"), (0, .methodref 8 9), (0, .class_ 10), (0, .nameAndType 11 12), (0, u "com/example/marchgate/marchgate/InternetChecksumAddPinLaw"), (0, u "contrib"), (0, u "([BIII)I"), (0, .methodref 14 15), (0, .class_ 16), (0, .nameAndType 17 18), (0, u "com/example/marchgate/marchgate/InternetChecksum"), (0, u "add"), (0, u "(I[BII)I"), (2, u "law"), (0, u "(III)Z")] 5

def k1m0 : Method := { name := "<init>", desc := "()V", sig := { parameters := [], returnType := none }, accessFlags := 2, code := none }
def k1c1 : Code := { maxStack := 5, maxLocals := 9, code := code, exceptionTable := #[], attributes := #[] }
def k1m1 : Method := { name := "law", desc := "(III)Z", sig := { parameters := [.int, .int, .int], returnType := some .boolean }, accessFlags := 9, code := some k1c1 }
def k1c2 : Code := { maxStack := 2, maxLocals := 5, code := method_3_code, exceptionTable := #[], attributes := #[] }
def k1m2 : Method := { name := "contrib", desc := "([BIII)I", sig := { parameters := [(.array .byte), .int, .int, .int], returnType := some .int }, accessFlags := 10, code := some k1c2 }
/-- com/example/marchgate/marchgate/InternetChecksumAddPinLaw -/
def k1 : Class := { plain "com/example/marchgate/marchgate/InternetChecksumAddPinLaw" (some 0) with
  accessFlags := 49
  interfaces := #[]
  cf := some (fileOf pool1 8 #[] #[{ accessFlags := 2, nameIndex := 5, descriptorIndex := 6, attributes := #[] }, { accessFlags := 9, nameIndex := 21, descriptorIndex := 22, attributes := #[] }, { accessFlags := 10, nameIndex := 11, descriptorIndex := 12, attributes := #[] }] 49 2 #[] #[])
  fields := #[]
  methods := #[k1m0, k1m1, k1m2]
  instanceTypes := #[]
  staticTypes := #[]
  resolved := Array.replicate 28 none
  statics := none }

def pool2 : Array CpInfo := pool [(2, .class_ 4), (1, u "java/lang/Object"), (0, u "<init>"), (0, u "()V"), (2, .class_ 11), (1, u "com/example/marchgate/marchgate/InternetChecksum"), (7, u "add"), (0, u "(I[BII)I")] 9

def k2m0 : Method := { name := "<init>", desc := "()V", sig := { parameters := [], returnType := none }, accessFlags := 2, code := none }
def k2c1 : Code := { maxStack := 5, maxLocals := 6, code := prog_29_method_2_code, exceptionTable := #[], attributes := #[] }
def k2m1 : Method := { name := "add", desc := "(I[BII)I", sig := { parameters := [.int, (.array .byte), .int, .int], returnType := some .int }, accessFlags := 8, code := some k2c1 }
/-- com/example/marchgate/marchgate/InternetChecksum -/
def k2 : Class := { plain "com/example/marchgate/marchgate/InternetChecksum" (some 0) with
  accessFlags := 48
  interfaces := #[]
  cf := some (fileOf pool2 9 #[] #[{ accessFlags := 2, nameIndex := 5, descriptorIndex := 6, attributes := #[] }, { accessFlags := 8, nameIndex := 19, descriptorIndex := 20, attributes := #[] }] 48 2 #[] #[])
  fields := #[]
  methods := #[k2m0, k2m1]
  instanceTypes := #[]
  staticTypes := #[]
  resolved := Array.replicate 30 none
  statics := none }

def pool3 : Array CpInfo := pool [(1, u "java/lang/Cloneable"), (0, .class_ 1), (0, u "java/lang/Object"), (0, .class_ 3)] 3

/-- java/lang/Cloneable -/
def k3 : Class := { plain "java/lang/Cloneable" (some 0) with
  accessFlags := 1537
  interfaces := #[]
  cf := some (fileOf pool3 2 #[] #[] 1537 4 #[] #[])
  fields := #[]
  methods := #[]
  instanceTypes := #[]
  staticTypes := #[]
  resolved := Array.replicate 8 none
  statics := none }

def pool4 : Array CpInfo := pool [(1, u "java/io/Serializable"), (0, .class_ 1), (0, u "java/lang/Object"), (0, .class_ 3)] 3

/-- java/io/Serializable -/
def k4 : Class := { plain "java/io/Serializable" (some 0) with
  accessFlags := 1537
  interfaces := #[]
  cf := some (fileOf pool4 2 #[] #[] 1537 4 #[] #[])
  fields := #[]
  methods := #[]
  instanceTypes := #[]
  staticTypes := #[]
  resolved := Array.replicate 8 none
  statics := none }

/-- the primitive byte -/
def k5 : Class := { plain "byte" none with kind := .primitive 'B', accessFlags := 0x411 }
/-- [B -/
def k6 : Class := { plain "[B" (some 0) with kind := .array 5 .byte, interfaces := #[3, 4], accessFlags := 1041 }

/-- the primitive int -/
def k7 : Class := { plain "int" none with kind := .primitive 'I', accessFlags := 0x411 }
/-- [I -/
def k8 : Class := { plain "[I" (some 0) with kind := .array 7 .int, interfaces := #[3, 4], accessFlags := 1041 }

def heap : Heap := #[]
def classes : Array Class := #[k0, k1, k2, k3, k4, k5, k6, k7, k8]
def interned : List (Array UInt16 × Addr) := []
def slotsUsed : Nat := 0
def theMethod : MethodId := ⟨1, 1⟩
def args0 : Array Value := #[.int 5, .int 5, .int 5]
def aboutOver (below : List Frame) : State where
  vm := { classes := classes, interned := interned.toArray }
  heap := heap
  slotsUsed := slotsUsed
  threads := #[{ frames := .invoking theMethod args0 :: below }]
def below0 : List Frame := [.native { method := ⟨0, 0⟩, args := #[] }]
def about1 : State := aboutOver below0
def p0 : Program := .bare "" "" ""
def e0 : Env := launch0.env 0 0 0
theorem w_frames : about1.frames = Frame.invoking theMethod args0 :: below0 := rfl
set_option maxRecDepth 65536 in
theorem w_args : argsFit about1.vm theMethod args0 = true := by decide +kernel
set_option maxRecDepth 65536 in
theorem w_heap : heapFits about1 = true := by decide +kernel
set_option maxRecDepth 65536 in
theorem w_runnable : about1.curStatus? = some .runnable := by decide +kernel
set_option maxRecDepth 65536 in
theorem w_alone : about1.alone = true := by decide +kernel
set_option maxRecDepth 65536 in
theorem w_named : about1.methodNamed? x = some theMethod := by decide +kernel
set_option maxRecDepth 65536 in
theorem w_hears : about1.hears theMethod below0 = true := by decide +kernel
set_option maxRecDepth 65536 in
theorem w_ripe : about1.ripe theMethod args0 below0 = true := by decide +kernel
theorem w_running : about1.status = .running := rfl
set_option maxRecDepth 65536 in
theorem w_room : about1.hasRoom e0.platform room_1 = true :=
  launch0.hasRoom_least _ room_1 (by decide +kernel) (by decide +kernel) (by decide +kernel) (by decide +kernel) (by decide +kernel) (by decide +kernel)
theorem allAtoms_all (ts : List Jvm.Cond) (a : Array Jvm.Value) (st : Jvm.State) : (allAtoms ts).before a st = ts.all (fun c => c.before a st) := by
  induction ts with
  | nil => rfl
  | cons c t ih =>
    show (Jvm.Cond.and c (allAtoms t)).before a st = _
    rw [Jvm.Cond.before_and, ih, List.all_cons]
def words1 : List Jvm.Cond := Jvm.Cond.code x code maxLocals ret :: tables_1
/-- a 'code' word, met by the world's own term for the bytes: nothing is compared byte by byte -/
theorem code_word {y : MethodName} {bytes : ByteArray} {mx : Nat} {rt : Option FieldType} {a : Array Value} {s : State} {m : MethodId} {meth : Method} {c : Code} (h1 : s.methodNamed? y = some m) (h2 : s.vm.method? m = some meth) (h3 : meth.code = some c) (h4 : c.code = bytes)
    (h5 : (c.maxLocals == mx && c.exceptionTable.isEmpty && decide (c.maxStack ≤ mostOperands) && decide (meth.sig.returnType = rt) && !meth.locks && decide (parseMethodDescriptor y.desc = some meth.sig)) = true) : (Jvm.Cond.code y bytes mx rt).before a s = true := by
  simp only [Bool.and_eq_true, beq_iff_eq, Bool.not_eq_true', decide_eq_true_eq] at h5
  obtain ⟨⟨⟨⟨⟨g1, g2⟩, g3⟩, g4⟩, g5⟩, g6⟩ := h5
  simp [Cond.before, Cond.holds, Cond.value, h1, h2, h3, h4, g1, g2, g3, g4, g5, g6]
def isCode : Jvm.Cond → Bool
  | .code _ _ _ _ => true
  | _ => false
theorem all_split {L : List Jvm.Cond} {P : Jvm.Cond → Bool} (h1 : L.all (fun c => isCode c || P c) = true) (h2 : ∀ c ∈ L.filter isCode, P c = true) : L.all P = true := by
  refine List.all_eq_true.mpr fun c hc => ?_
  have h := List.all_eq_true.mp h1 c hc
  rcases Bool.eq_false_or_eq_true (isCode c) with hi | hi
  · exact h2 c (List.mem_filter.mpr ⟨hc, hi⟩)
  · simpa [hi] using h
set_option maxRecDepth 65536 in
theorem w_c0 : (Jvm.Cond.code x code maxLocals ret).before args0 about1 = true := code_word (m := ⟨1, 1⟩) (meth := k1m1) (c := k1c1) (by decide +kernel) rfl rfl rfl (by decide +kernel)
set_option maxRecDepth 65536 in
theorem w_c1 : (Jvm.Cond.code ({ cls := "com/example/marchgate/marchgate/InternetChecksumAddPinLaw", name := "contrib", desc := "([BIII)I" } : Jvm.MethodName) method_3_code (5 : Nat) (Option.some Jvm.ClassFile.FieldType.int)).before args0 about1 = true := code_word (m := ⟨1, 2⟩) (meth := k1m2) (c := k1c2) (by decide +kernel) rfl rfl rfl (by decide +kernel)
set_option maxRecDepth 65536 in
theorem w_c2 : (Jvm.Cond.code ({ cls := "com/example/marchgate/marchgate/InternetChecksum", name := "add", desc := "(I[BII)I" } : Jvm.MethodName) prog_29_method_2_code (6 : Nat) (Option.some Jvm.ClassFile.FieldType.int)).before args0 about1 = true := code_word (m := ⟨2, 1⟩) (meth := k2m1) (c := k2c1) (by decide +kernel) rfl rfl rfl (by decide +kernel)
def codes1 : List Jvm.Cond := [Jvm.Cond.code x code maxLocals ret, Jvm.Cond.code ({ cls := "com/example/marchgate/marchgate/InternetChecksumAddPinLaw", name := "contrib", desc := "([BIII)I" } : Jvm.MethodName) method_3_code (5 : Nat) (Option.some Jvm.ClassFile.FieldType.int), Jvm.Cond.code ({ cls := "com/example/marchgate/marchgate/InternetChecksum", name := "add", desc := "(I[BII)I" } : Jvm.MethodName) prog_29_method_2_code (6 : Nat) (Option.some Jvm.ClassFile.FieldType.int)]
set_option maxRecDepth 65536 in
theorem codes_eq : words1.filter isCode = codes1 := rfl
theorem w_codes : ∀ c ∈ words1.filter isCode, c.before args0 about1 = true := by
  rw [codes_eq]
  intro c hc
  simp only [codes1, List.mem_cons, List.not_mem_nil, or_false] at hc
  rcases hc with rfl | rfl | rfl
  · exact w_c0
  · exact w_c1
  · exact w_c2
set_option maxRecDepth 65536 in
theorem w_t1 : words1.all (fun c => isCode c || c.before args0 about1) = true := by decide +kernel
theorem w_tables : (allAtoms (Jvm.Cond.code x code maxLocals ret :: tables_1)).before args0 about1 = true := by
  rw [allAtoms_all]
  show words1.all (fun c => c.before args0 about1) = true
  refine all_split ?_ w_codes
  rw [w_t1]
set_option maxRecDepth 65536 in
theorem w_case : (Jvm.Cond.and given_1 narrow_1).before args0 about1 = true := by decide +kernel
theorem w_applies : (headSpec (Jvm.Cond.code x code maxLocals ret :: tables_1) room_1).applies x e0.platform about1 = true :=
  (Spec.applies_iff w_frames).mpr ⟨w_running, w_runnable, w_alone, w_named, w_hears, w_ripe, w_room, w_tables⟩
theorem atStart : AtStart classFile x code maxLocals ret World_1 tables_1 room_1 Calls_1 rest_1 Pre_1 launch0 p0 e0 about1 theMethod args0 below0 :=
  ⟨lists_1, trivial, launch0.admits_env _ _ _, launch0.least_env, fairChoices_fair.cas, fairChoices_fair.clock, w_frames, w_args, w_heap, w_applies, trivial, trivial, w_case⟩
end start1
theorem witness_1 : WitnessClaimed_1 := ⟨start1.p0, start1.e0, start1.about1, start1.theMethod, start1.args0, start1.below0, start1.atStart⟩
end Jvm.Pilot.@@N@@
