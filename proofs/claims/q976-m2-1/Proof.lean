import JvmDerived
import JvmDerived.Pilot.@@N@@Statement
import JvmDerived.Pilot.@@N@@Code
set_option linter.unusedVariables false
set_option linter.unusedSimpArgs false
namespace Jvm.Pilot.@@N@@
open Jvm Jvm.ClassFile Sem Op Lib Jvm.Free Jvm.Stand Jvm.LawKit Jvm.RoadKit Bundle Jvm.Pilot.@@N@@.Jvm.D
section OwnKit
variable {p : Program} {l : Launch} {e : Env} {R : Room} {s : State} {m : MethodId} {args : Array Value} {below : List Frame} {meth : Method} {c : Code} {T : State} {locs : List Loc} {cells slots : Nat} {K : State → Prop} {Ls : Array Slot} {rest : List Value} {pc : Nat} {bytes : ByteArray}
def Goes (p : Program) (e : Env) (below : List Frame) (K : State → Prop) (S : State) : Prop := ∃ t, Steps p.tables e below S t ∧ K t
theorem Goes.of {S S' : State} (st : ∀ t, Steps p.tables e below S' t → Steps p.tables e below S t) (h : Goes p e below K S') : Goes p e below K S := h.elim fun t ht => ⟨t, st t ht.1, ht.2⟩
theorem Goes.entry {g g' : JFrame} (q : g = g') (k : Goes p e below K (T.setTop g')) : Goes p e below K (T.setTop g) := q ▸ k
def Kend (s : State) (below : List Frame) (Q : Option Value → Heap → List Loc → Prop) (C S : Nat) (t : State) : Prop := ∃ o, t.status = .running ∧ Ended t below o ∧ ∃ v L, o = .returned v ∧ Q v t.heap L ∧ FrameEnd s o t L C S
def Ctr (l : Launch) (y : MethodName) (bytes : ByteArray) (maxL : Nat) (ret : Option FieldType) (ws : List Jvm.Cond) (rm : Room) (as' : Array Value) (Z : State) (h0 : Heap) (Q : Option Value → Heap → List Loc → Prop) : Prop :=
  MetFree l y (head1 (Jvm.Cond.code y bytes maxL ret :: ws) rm) (fun a U => a = as' ∧ Z.Warmed39 U.vm ∧ U.heap = h0) (fun _ _ _ _ _ => True) (fun _ U o U' => ∃ v L, o = .returned v ∧ Q v U'.heap L ∧ FrameEnd U o U' L rm.cells rm.slots)
theorem own_body {y : MethodName} {maxL : Nat} {ret : Option FieldType} {ws : List Jvm.Cond} {rm : Room} {as' : Array Value} {Z : State} {h0 : Heap} {Q : Option Value → Heap → List Loc → Prop} (hpl : plainFor y = true)
    (H : ∀ (p : Program) (e : Env) (s : State) (m : MethodId) (below : List Frame) (meth : Method) (c : Code) (s₁ : State), p.tables.exec = Jvm.exec → c.code = bytes → c.maxLocals = maxL → s.vm.findClass y.cls = some m.cls → meth.name = y.name → meth.sig.returnType = ret → meth.locks = false → Z.Warmed39 s.vm →
      Stand p l e rm s m as' below meth c s₁ [] 0 0 → s₁.heap = h0 → Goes p e below (Kend s below Q rm.cells rm.slots) (s₁.setTop (entryFrame m as' maxL))) : Ctr l y bytes maxL ret ws rm as' Z h0 Q := by
  refine MetFree.of_bodySF hpl hisR ?_
  intro p e s m args below meth c s₁ Bd hml0 hP hK
  obtain ⟨rfl, hZ, hh⟩ := hP
  obtain ⟨t, h1, o, h2, h3, h4⟩ := H p e s m below meth c s₁ Bd.exec Bd.bytes hml0 (findClass_of_methodNamed Bd.named) (name_of_methodNamed Bd.named Bd.method).1 Bd.returns Bd.notSynchronized hZ (Stand.of_body Bd) (by rw [← hh, Bd.state]; rfl)
  exact ⟨t, o, h1, h2, h3, h4⟩

theorem own_store1 {l l' : Array Slot} {i : Nat} {v : Value} {o : Slot} (hold : l[i]? = some o) (ho : One o) (hv : v.category = 1) (e : l.setIfInBounds i (.val v) = l') : storeLocals l i v = some l' := e ▸ XS.store1 hold ho hv
theorem g_iadd (X : Stand p l e R s m args below meth c T locs cells slots) (hx : p.tables.exec = Jvm.exec) (hby : c.code = bytes) {x y : Int32} (hd : decode bytes pc = .ok (.iadd, 1)) (q : Nat) (hq : pc + 1 = q) (k : Goes p e below K (T.setTop (mkF m q Ls (.int (x + y) :: rest)))) : Goes p e below K (T.setTop (mkF m pc Ls (.int y :: .int x :: rest))) := by
  subst hq; exact Goes.of (fun t kt => XS.iadd X.here hx rfl (hb hby hd) rfl kt) k
theorem g_isub (X : Stand p l e R s m args below meth c T locs cells slots) (hx : p.tables.exec = Jvm.exec) (hby : c.code = bytes) {x y : Int32} (hd : decode bytes pc = .ok (.isub, 1)) (q : Nat) (hq : pc + 1 = q) (k : Goes p e below K (T.setTop (mkF m q Ls (.int (x - y) :: rest)))) : Goes p e below K (T.setTop (mkF m pc Ls (.int y :: .int x :: rest))) := by
  subst hq; exact Goes.of (fun t kt => XS.isub X.here hx rfl (hb hby hd) rfl kt) k
theorem g_imul (X : Stand p l e R s m args below meth c T locs cells slots) (hx : p.tables.exec = Jvm.exec) (hby : c.code = bytes) {x y : Int32} (hd : decode bytes pc = .ok (.imul, 1)) (q : Nat) (hq : pc + 1 = q) (k : Goes p e below K (T.setTop (mkF m q Ls (.int (x * y) :: rest)))) : Goes p e below K (T.setTop (mkF m pc Ls (.int y :: .int x :: rest))) := by
  subst hq; exact Goes.of (fun t kt => XS.imul X.here hx rfl (hb hby hd) rfl kt) k
theorem g_iand (X : Stand p l e R s m args below meth c T locs cells slots) (hx : p.tables.exec = Jvm.exec) (hby : c.code = bytes) {x y : Int32} (hd : decode bytes pc = .ok (.iand, 1)) (q : Nat) (hq : pc + 1 = q) (k : Goes p e below K (T.setTop (mkF m q Ls (.int (x &&& y) :: rest)))) : Goes p e below K (T.setTop (mkF m pc Ls (.int y :: .int x :: rest))) := by
  subst hq; exact Goes.of (fun t kt => XS.iand X.here hx rfl (hb hby hd) rfl kt) k
theorem g_ior (X : Stand p l e R s m args below meth c T locs cells slots) (hx : p.tables.exec = Jvm.exec) (hby : c.code = bytes) {x y : Int32} (hd : decode bytes pc = .ok (.ior, 1)) (q : Nat) (hq : pc + 1 = q) (k : Goes p e below K (T.setTop (mkF m q Ls (.int (x ||| y) :: rest)))) : Goes p e below K (T.setTop (mkF m pc Ls (.int y :: .int x :: rest))) := by
  subst hq; exact Goes.of (fun t kt => XS.ior X.here hx rfl (hb hby hd) rfl kt) k
theorem g_ixor (X : Stand p l e R s m args below meth c T locs cells slots) (hx : p.tables.exec = Jvm.exec) (hby : c.code = bytes) {x y : Int32} (hd : decode bytes pc = .ok (.ixor, 1)) (q : Nat) (hq : pc + 1 = q) (k : Goes p e below K (T.setTop (mkF m q Ls (.int (x ^^^ y) :: rest)))) : Goes p e below K (T.setTop (mkF m pc Ls (.int y :: .int x :: rest))) := by
  subst hq; exact Goes.of (fun t kt => XS.ixor X.here hx rfl (hb hby hd) rfl kt) k
theorem g_ishl (X : Stand p l e R s m args below meth c T locs cells slots) (hx : p.tables.exec = Jvm.exec) (hby : c.code = bytes) {x y : Int32} (hd : decode bytes pc = .ok (.ishl, 1)) (q : Nat) (hq : pc + 1 = q) (k : Goes p e below K (T.setTop (mkF m q Ls (.int (x <<< (y &&& 31)) :: rest)))) : Goes p e below K (T.setTop (mkF m pc Ls (.int y :: .int x :: rest))) := by
  subst hq; exact Goes.of (fun t kt => XS.ishl X.here hx rfl (hb hby hd) rfl kt) k
theorem g_ishr (X : Stand p l e R s m args below meth c T locs cells slots) (hx : p.tables.exec = Jvm.exec) (hby : c.code = bytes) {x y : Int32} (hd : decode bytes pc = .ok (.ishr, 1)) (q : Nat) (hq : pc + 1 = q) (k : Goes p e below K (T.setTop (mkF m q Ls (.int (x >>> (y &&& 31)) :: rest)))) : Goes p e below K (T.setTop (mkF m pc Ls (.int y :: .int x :: rest))) := by
  subst hq; exact Goes.of (fun t kt => XS.ishr X.here hx rfl (hb hby hd) rfl kt) k
theorem g_iushr (X : Stand p l e R s m args below meth c T locs cells slots) (hx : p.tables.exec = Jvm.exec) (hby : c.code = bytes) {x y : Int32} (hd : decode bytes pc = .ok (.iushr, 1)) (q : Nat) (hq : pc + 1 = q) (k : Goes p e below K (T.setTop (mkF m q Ls (.int ((x.toUInt32 >>> (y &&& 31).toUInt32).toInt32) :: rest)))) : Goes p e below K (T.setTop (mkF m pc Ls (.int y :: .int x :: rest))) := by
  subst hq; exact Goes.of (fun t kt => XS.iushr X.here hx rfl (hb hby hd) rfl kt) k
theorem g_ladd (X : Stand p l e R s m args below meth c T locs cells slots) (hx : p.tables.exec = Jvm.exec) (hby : c.code = bytes) {x y : Int64} (hd : decode bytes pc = .ok (.ladd, 1)) (q : Nat) (hq : pc + 1 = q) (k : Goes p e below K (T.setTop (mkF m q Ls (.long (x + y) :: rest)))) : Goes p e below K (T.setTop (mkF m pc Ls (.long y :: .long x :: rest))) := by
  subst hq; exact Goes.of (fun t kt => XS.ladd X.here hx rfl (hb hby hd) rfl kt) k
theorem g_lsub (X : Stand p l e R s m args below meth c T locs cells slots) (hx : p.tables.exec = Jvm.exec) (hby : c.code = bytes) {x y : Int64} (hd : decode bytes pc = .ok (.lsub, 1)) (q : Nat) (hq : pc + 1 = q) (k : Goes p e below K (T.setTop (mkF m q Ls (.long (x - y) :: rest)))) : Goes p e below K (T.setTop (mkF m pc Ls (.long y :: .long x :: rest))) := by
  subst hq; exact Goes.of (fun t kt => XS.lsub X.here hx rfl (hb hby hd) rfl kt) k
theorem g_lmul (X : Stand p l e R s m args below meth c T locs cells slots) (hx : p.tables.exec = Jvm.exec) (hby : c.code = bytes) {x y : Int64} (hd : decode bytes pc = .ok (.lmul, 1)) (q : Nat) (hq : pc + 1 = q) (k : Goes p e below K (T.setTop (mkF m q Ls (.long (x * y) :: rest)))) : Goes p e below K (T.setTop (mkF m pc Ls (.long y :: .long x :: rest))) := by
  subst hq; exact Goes.of (fun t kt => XS.lmul X.here hx rfl (hb hby hd) rfl kt) k
theorem g_land (X : Stand p l e R s m args below meth c T locs cells slots) (hx : p.tables.exec = Jvm.exec) (hby : c.code = bytes) {x y : Int64} (hd : decode bytes pc = .ok (.land, 1)) (q : Nat) (hq : pc + 1 = q) (k : Goes p e below K (T.setTop (mkF m q Ls (.long (x &&& y) :: rest)))) : Goes p e below K (T.setTop (mkF m pc Ls (.long y :: .long x :: rest))) := by
  subst hq; exact Goes.of (fun t kt => XS.land X.here hx rfl (hb hby hd) rfl kt) k
theorem g_lor (X : Stand p l e R s m args below meth c T locs cells slots) (hx : p.tables.exec = Jvm.exec) (hby : c.code = bytes) {x y : Int64} (hd : decode bytes pc = .ok (.lor, 1)) (q : Nat) (hq : pc + 1 = q) (k : Goes p e below K (T.setTop (mkF m q Ls (.long (x ||| y) :: rest)))) : Goes p e below K (T.setTop (mkF m pc Ls (.long y :: .long x :: rest))) := by
  subst hq; exact Goes.of (fun t kt => XS.lor X.here hx rfl (hb hby hd) rfl kt) k
theorem g_lxor (X : Stand p l e R s m args below meth c T locs cells slots) (hx : p.tables.exec = Jvm.exec) (hby : c.code = bytes) {x y : Int64} (hd : decode bytes pc = .ok (.lxor, 1)) (q : Nat) (hq : pc + 1 = q) (k : Goes p e below K (T.setTop (mkF m q Ls (.long (x ^^^ y) :: rest)))) : Goes p e below K (T.setTop (mkF m pc Ls (.long y :: .long x :: rest))) := by
  subst hq; exact Goes.of (fun t kt => XS.lxor X.here hx rfl (hb hby hd) rfl kt) k
theorem g_lshl (X : Stand p l e R s m args below meth c T locs cells slots) (hx : p.tables.exec = Jvm.exec) (hby : c.code = bytes) {x : Int64} {y : Int32} (hd : decode bytes pc = .ok (.lshl, 1)) (q : Nat) (hq : pc + 1 = q) (k : Goes p e below K (T.setTop (mkF m q Ls (.long (x <<< (y &&& 0x3f).toInt64) :: rest)))) : Goes p e below K (T.setTop (mkF m pc Ls (.int y :: .long x :: rest))) := by
  subst hq; exact Goes.of (fun t kt => XS.lshl X.here hx rfl (hb hby hd) rfl kt) k
theorem g_lshr (X : Stand p l e R s m args below meth c T locs cells slots) (hx : p.tables.exec = Jvm.exec) (hby : c.code = bytes) {x : Int64} {y : Int32} (hd : decode bytes pc = .ok (.lshr, 1)) (q : Nat) (hq : pc + 1 = q) (k : Goes p e below K (T.setTop (mkF m q Ls (.long (x >>> (y &&& 0x3f).toInt64) :: rest)))) : Goes p e below K (T.setTop (mkF m pc Ls (.int y :: .long x :: rest))) := by
  subst hq; exact Goes.of (fun t kt => XS.lshr X.here hx rfl (hb hby hd) rfl kt) k
theorem g_lushr (X : Stand p l e R s m args below meth c T locs cells slots) (hx : p.tables.exec = Jvm.exec) (hby : c.code = bytes) {x : Int64} {y : Int32} (hd : decode bytes pc = .ok (.lushr, 1)) (q : Nat) (hq : pc + 1 = q) (k : Goes p e below K (T.setTop (mkF m q Ls (.long ((x.toUInt64 >>> (y &&& 0x3f).toInt64.toUInt64).toInt64) :: rest)))) : Goes p e below K (T.setTop (mkF m pc Ls (.int y :: .long x :: rest))) := by
  subst hq; exact Goes.of (fun t kt => XS.lushr X.here hx rfl (hb hby hd) rfl kt) k
theorem g_idiv (X : Stand p l e R s m args below meth c T locs cells slots) (hx : p.tables.exec = Jvm.exec) (hby : c.code = bytes) {x y : Int32} (hd : decode bytes pc = .ok (.idiv, 1)) (hy : y ≠ 0) (q : Nat) (hq : pc + 1 = q) (k : Goes p e below K (T.setTop (mkF m q Ls (.int (x / y) :: rest)))) : Goes p e below K (T.setTop (mkF m pc Ls (.int y :: .int x :: rest))) := by
  subst hq; exact Goes.of (fun t kt => XS.idiv X.here hx rfl (hb hby hd) rfl hy kt) k
theorem g_ldiv (X : Stand p l e R s m args below meth c T locs cells slots) (hx : p.tables.exec = Jvm.exec) (hby : c.code = bytes) {x y : Int64} (hd : decode bytes pc = .ok (.ldiv, 1)) (hy : y ≠ 0) (q : Nat) (hq : pc + 1 = q) (k : Goes p e below K (T.setTop (mkF m q Ls (.long (x / y) :: rest)))) : Goes p e below K (T.setTop (mkF m pc Ls (.long y :: .long x :: rest))) := by
  subst hq; exact Goes.of (fun t kt => XS.ldiv X.here hx rfl (hb hby hd) rfl hy kt) k
theorem g_irem (X : Stand p l e R s m args below meth c T locs cells slots) (hx : p.tables.exec = Jvm.exec) (hby : c.code = bytes) {x y : Int32} (hd : decode bytes pc = .ok (.irem, 1)) (hy : y ≠ 0) (q : Nat) (hq : pc + 1 = q) (k : Goes p e below K (T.setTop (mkF m q Ls (.int (x % y) :: rest)))) : Goes p e below K (T.setTop (mkF m pc Ls (.int y :: .int x :: rest))) := by
  subst hq; exact Goes.of (fun t kt => iremM X hx rfl (hb hby hd) rfl hy kt) k
theorem g_lrem (X : Stand p l e R s m args below meth c T locs cells slots) (hx : p.tables.exec = Jvm.exec) (hby : c.code = bytes) {x y : Int64} (hd : decode bytes pc = .ok (.lrem, 1)) (hy : y ≠ 0) (q : Nat) (hq : pc + 1 = q) (k : Goes p e below K (T.setTop (mkF m q Ls (.long (x % y) :: rest)))) : Goes p e below K (T.setTop (mkF m pc Ls (.long y :: .long x :: rest))) := by
  subst hq; rw [← lrem_mod x y] at k; exact Goes.of (fun t kt => XS.lrem X.here hx rfl (hb hby hd) rfl hy kt) k
theorem g_ineg (X : Stand p l e R s m args below meth c T locs cells slots) (hx : p.tables.exec = Jvm.exec) (hby : c.code = bytes) {x : Int32} (hd : decode bytes pc = .ok (.ineg, 1)) (q : Nat) (hq : pc + 1 = q) (k : Goes p e below K (T.setTop (mkF m q Ls (.int (-x) :: rest)))) : Goes p e below K (T.setTop (mkF m pc Ls (.int x :: rest))) := by
  subst hq; exact Goes.of (fun t kt => XS.ineg X.here hx rfl (hb hby hd) rfl kt) k
theorem g_lneg (X : Stand p l e R s m args below meth c T locs cells slots) (hx : p.tables.exec = Jvm.exec) (hby : c.code = bytes) {x : Int64} (hd : decode bytes pc = .ok (.lneg, 1)) (q : Nat) (hq : pc + 1 = q) (k : Goes p e below K (T.setTop (mkF m q Ls (.long (-x) :: rest)))) : Goes p e below K (T.setTop (mkF m pc Ls (.long x :: rest))) := by
  subst hq; exact Goes.of (fun t kt => XS.lneg X.here hx rfl (hb hby hd) rfl kt) k
theorem g_i2l (X : Stand p l e R s m args below meth c T locs cells slots) (hx : p.tables.exec = Jvm.exec) (hby : c.code = bytes) {x : Int32} (hd : decode bytes pc = .ok (.i2l, 1)) (q : Nat) (hq : pc + 1 = q) (k : Goes p e below K (T.setTop (mkF m q Ls (.long (x.toInt64) :: rest)))) : Goes p e below K (T.setTop (mkF m pc Ls (.int x :: rest))) := by
  subst hq; exact Goes.of (fun t kt => XS.i2l X.here hx rfl (hb hby hd) rfl kt) k
theorem g_l2i (X : Stand p l e R s m args below meth c T locs cells slots) (hx : p.tables.exec = Jvm.exec) (hby : c.code = bytes) {x : Int64} (hd : decode bytes pc = .ok (.l2i, 1)) (q : Nat) (hq : pc + 1 = q) (k : Goes p e below K (T.setTop (mkF m q Ls (.int (x.toInt32) :: rest)))) : Goes p e below K (T.setTop (mkF m pc Ls (.long x :: rest))) := by
  subst hq; exact Goes.of (fun t kt => XS.l2i X.here hx rfl (hb hby hd) rfl kt) k
theorem g_i2b (X : Stand p l e R s m args below meth c T locs cells slots) (hx : p.tables.exec = Jvm.exec) (hby : c.code = bytes) {x : Int32} (hd : decode bytes pc = .ok (.i2b, 1)) (q : Nat) (hq : pc + 1 = q) (k : Goes p e below K (T.setTop (mkF m q Ls (.int (x.toInt8.toInt32) :: rest)))) : Goes p e below K (T.setTop (mkF m pc Ls (.int x :: rest))) := by
  subst hq; exact Goes.of (fun t kt => XS.i2b X.here hx rfl (hb hby hd) rfl kt) k
theorem g_i2s (X : Stand p l e R s m args below meth c T locs cells slots) (hx : p.tables.exec = Jvm.exec) (hby : c.code = bytes) {x : Int32} (hd : decode bytes pc = .ok (.i2s, 1)) (q : Nat) (hq : pc + 1 = q) (k : Goes p e below K (T.setTop (mkF m q Ls (.int (x.toInt16.toInt32) :: rest)))) : Goes p e below K (T.setTop (mkF m pc Ls (.int x :: rest))) := by
  subst hq; exact Goes.of (fun t kt => XS.i2s X.here hx rfl (hb hby hd) rfl kt) k
theorem g_i2c (X : Stand p l e R s m args below meth c T locs cells slots) (hx : p.tables.exec = Jvm.exec) (hby : c.code = bytes) {x : Int32} (hd : decode bytes pc = .ok (.i2c, 1)) (q : Nat) (hq : pc + 1 = q) (k : Goes p e below K (T.setTop (mkF m q Ls (.int (x.toUInt32.toUInt16.toUInt32.toInt32) :: rest)))) : Goes p e below K (T.setTop (mkF m pc Ls (.int x :: rest))) := by
  subst hq; exact Goes.of (fun t kt => XS.i2c X.here hx rfl (hb hby hd) rfl kt) k
theorem g_iloadN (X : Stand p l e R s m args below meth c T locs cells slots) (hx : p.tables.exec = Jvm.exec) (hby : c.code = bytes) {k : Fin 4} {v : Int32} (hd : decode bytes pc = .ok (.iload_n k, 1)) (hl : Ls[k.val]? = some (.val (.int v))) (q : Nat) (hq : pc + 1 = q) (k : Goes p e below K (T.setTop (mkF m q Ls (.int v :: rest)))) : Goes p e below K (T.setTop (mkF m pc Ls rest)) := by
  subst hq; exact Goes.of (fun t kt => XS.iloadN X.here hx rfl (hb hby hd) hl kt) k
theorem g_iload (X : Stand p l e R s m args below meth c T locs cells slots) (hx : p.tables.exec = Jvm.exec) (hby : c.code = bytes) {k : Nat} {v : Int32} (hd : decode bytes pc = .ok (.iload k, 2)) (hl : Ls[k]? = some (.val (.int v))) (q : Nat) (hq : pc + 2 = q) (k : Goes p e below K (T.setTop (mkF m q Ls (.int v :: rest)))) : Goes p e below K (T.setTop (mkF m pc Ls rest)) := by
  subst hq; exact Goes.of (fun t kt => XS.iload X.here hx rfl (hb hby hd) hl kt) k
theorem g_lloadN (X : Stand p l e R s m args below meth c T locs cells slots) (hx : p.tables.exec = Jvm.exec) (hby : c.code = bytes) {k : Fin 4} {v : Int64} (hd : decode bytes pc = .ok (.lload_n k, 1)) (hl : Ls[k.val]? = some (.val (.long v))) (q : Nat) (hq : pc + 1 = q) (k : Goes p e below K (T.setTop (mkF m q Ls (.long v :: rest)))) : Goes p e below K (T.setTop (mkF m pc Ls rest)) := by
  subst hq; exact Goes.of (fun t kt => XS.lloadN X.here hx rfl (hb hby hd) hl kt) k
theorem g_lload (X : Stand p l e R s m args below meth c T locs cells slots) (hx : p.tables.exec = Jvm.exec) (hby : c.code = bytes) {k : Nat} {v : Int64} (hd : decode bytes pc = .ok (.lload k, 2)) (hl : Ls[k]? = some (.val (.long v))) (q : Nat) (hq : pc + 2 = q) (k : Goes p e below K (T.setTop (mkF m q Ls (.long v :: rest)))) : Goes p e below K (T.setTop (mkF m pc Ls rest)) := by
  subst hq; exact Goes.of (fun t kt => XS.lload X.here hx rfl (hb hby hd) hl kt) k
theorem g_aloadN (X : Stand p l e R s m args below meth c T locs cells slots) (hx : p.tables.exec = Jvm.exec) (hby : c.code = bytes) {k : Fin 4} {v : Value} (hd : decode bytes pc = .ok (.aload_n k, 1)) (hl : Ls[k.val]? = some (.val v)) (hv : v.isRef = true) (q : Nat) (hq : pc + 1 = q) (k : Goes p e below K (T.setTop (mkF m q Ls (v :: rest)))) : Goes p e below K (T.setTop (mkF m pc Ls rest)) := by
  subst hq; exact Goes.of (fun t kt => XS.aloadN X.here hx rfl (hb hby hd) hl hv kt) k
theorem g_aload (X : Stand p l e R s m args below meth c T locs cells slots) (hx : p.tables.exec = Jvm.exec) (hby : c.code = bytes) {k : Nat} {v : Value} (hd : decode bytes pc = .ok (.aload k, 2)) (hl : Ls[k]? = some (.val v)) (hv : v.isRef = true) (q : Nat) (hq : pc + 2 = q) (k : Goes p e below K (T.setTop (mkF m q Ls (v :: rest)))) : Goes p e below K (T.setTop (mkF m pc Ls rest)) := by
  subst hq; exact Goes.of (fun t kt => XS.aload X.here hx rfl (hb hby hd) hl hv kt) k
theorem g_istoreN (X : Stand p l e R s m args below meth c T locs cells slots) (hx : p.tables.exec = Jvm.exec) (hby : c.code = bytes) {k : Fin 4} {x : Int32} (hd : decode bytes pc = .ok (.istore_n k, 1)) (y : Int32) (hxy : x = y) (L' : Array Slot) (hl : storeLocals Ls k.val (.int y) = some L') (q : Nat) (hq : pc + 1 = q) (k : Goes p e below K (T.setTop (mkF m q L' rest))) : Goes p e below K (T.setTop (mkF m pc Ls (.int x :: rest))) := by
  subst hq hxy; exact Goes.of (fun t kt => XS.istoreN X.here hx rfl (hb hby hd) rfl hl kt) k
theorem g_istore (X : Stand p l e R s m args below meth c T locs cells slots) (hx : p.tables.exec = Jvm.exec) (hby : c.code = bytes) {k : Nat} {x : Int32} (hd : decode bytes pc = .ok (.istore k, 2)) (y : Int32) (hxy : x = y) (L' : Array Slot) (hl : storeLocals Ls k (.int y) = some L') (q : Nat) (hq : pc + 2 = q) (k : Goes p e below K (T.setTop (mkF m q L' rest))) : Goes p e below K (T.setTop (mkF m pc Ls (.int x :: rest))) := by
  subst hq hxy; exact Goes.of (fun t kt => XS.istore X.here hx rfl (hb hby hd) rfl hl kt) k
theorem g_lstoreN (X : Stand p l e R s m args below meth c T locs cells slots) (hx : p.tables.exec = Jvm.exec) (hby : c.code = bytes) {k : Fin 4} {x : Int64} (hd : decode bytes pc = .ok (.lstore_n k, 1)) (y : Int64) (hxy : x = y) (L' : Array Slot) (hl : storeLocals Ls k.val (.long y) = some L') (q : Nat) (hq : pc + 1 = q) (k : Goes p e below K (T.setTop (mkF m q L' rest))) : Goes p e below K (T.setTop (mkF m pc Ls (.long x :: rest))) := by
  subst hq hxy; exact Goes.of (fun t kt => XS.lstoreN X.here hx rfl (hb hby hd) rfl hl kt) k
theorem g_lstore (X : Stand p l e R s m args below meth c T locs cells slots) (hx : p.tables.exec = Jvm.exec) (hby : c.code = bytes) {k : Nat} {x : Int64} (hd : decode bytes pc = .ok (.lstore k, 2)) (y : Int64) (hxy : x = y) (L' : Array Slot) (hl : storeLocals Ls k (.long y) = some L') (q : Nat) (hq : pc + 2 = q) (k : Goes p e below K (T.setTop (mkF m q L' rest))) : Goes p e below K (T.setTop (mkF m pc Ls (.long x :: rest))) := by
  subst hq hxy; exact Goes.of (fun t kt => XS.lstore X.here hx rfl (hb hby hd) rfl hl kt) k
theorem g_astoreN (X : Stand p l e R s m args below meth c T locs cells slots) (hx : p.tables.exec = Jvm.exec) (hby : c.code = bytes) {k : Fin 4} {x : Value} (hd : decode bytes pc = .ok (.astore_n k, 1)) (hv : x.isRef = true) (L' : Array Slot) (hl : storeLocals Ls k.val x = some L') (q : Nat) (hq : pc + 1 = q) (k : Goes p e below K (T.setTop (mkF m q L' rest))) : Goes p e below K (T.setTop (mkF m pc Ls (x :: rest))) := by
  subst hq; exact Goes.of (fun t kt => XS.astoreN X.here hx rfl (hb hby hd) rfl hv hl kt) k
theorem g_astore (X : Stand p l e R s m args below meth c T locs cells slots) (hx : p.tables.exec = Jvm.exec) (hby : c.code = bytes) {k : Nat} {x : Value} (hd : decode bytes pc = .ok (.astore k, 2)) (hv : x.isRef = true) (L' : Array Slot) (hl : storeLocals Ls k x = some L') (q : Nat) (hq : pc + 2 = q) (k : Goes p e below K (T.setTop (mkF m q L' rest))) : Goes p e below K (T.setTop (mkF m pc Ls (x :: rest))) := by
  subst hq; exact Goes.of (fun t kt => XS.astore X.here hx rfl (hb hby hd) rfl hv hl kt) k
theorem g_iconst (X : Stand p l e R s m args below meth c T locs cells slots) (hx : p.tables.exec = Jvm.exec) (hby : c.code = bytes) {i : Int} (hd : decode bytes pc = .ok (.iconst i, 1)) (v : Int32) (hv : Int32.ofInt i = v) (q : Nat) (hq : pc + 1 = q) (k : Goes p e below K (T.setTop (mkF m q Ls (.int v :: rest)))) : Goes p e below K (T.setTop (mkF m pc Ls rest)) := by
  subst hq hv; exact Goes.of (fun t kt => XS.iconst X.here hx rfl (hb hby hd) kt) k
theorem g_bipush (X : Stand p l e R s m args below meth c T locs cells slots) (hx : p.tables.exec = Jvm.exec) (hby : c.code = bytes) {i : Int} (hd : decode bytes pc = .ok (.bipush i, 2)) (v : Int32) (hv : (Int8.ofInt i).toInt32 = v) (q : Nat) (hq : pc + 2 = q) (k : Goes p e below K (T.setTop (mkF m q Ls (.int v :: rest)))) : Goes p e below K (T.setTop (mkF m pc Ls rest)) := by
  subst hq hv; exact Goes.of (fun t kt => XS.bipush X.here hx rfl (hb hby hd) kt) k
theorem g_sipush (X : Stand p l e R s m args below meth c T locs cells slots) (hx : p.tables.exec = Jvm.exec) (hby : c.code = bytes) {i : Int} (hd : decode bytes pc = .ok (.sipush i, 3)) (v : Int32) (hv : (Int16.ofInt i).toInt32 = v) (q : Nat) (hq : pc + 3 = q) (k : Goes p e below K (T.setTop (mkF m q Ls (.int v :: rest)))) : Goes p e below K (T.setTop (mkF m pc Ls rest)) := by
  subst hq hv; exact Goes.of (fun t kt => XS.sipush X.here hx rfl (hb hby hd) kt) k
theorem g_lconst (X : Stand p l e R s m args below meth c T locs cells slots) (hx : p.tables.exec = Jvm.exec) (hby : c.code = bytes) {i : Fin 2} (hd : decode bytes pc = .ok (.lconst i, 1)) (v : Int64) (hv : Int64.ofNat i = v) (q : Nat) (hq : pc + 1 = q) (k : Goes p e below K (T.setTop (mkF m q Ls (.long v :: rest)))) : Goes p e below K (T.setTop (mkF m pc Ls rest)) := by
  subst hq hv; exact Goes.of (fun t kt => XS.lconst X.here hx rfl (hb hby hd) kt) k
theorem g_aconst_null (X : Stand p l e R s m args below meth c T locs cells slots) (hx : p.tables.exec = Jvm.exec) (hby : c.code = bytes)  (hd : decode bytes pc = .ok (.aconst_null, 1)) (q : Nat) (hq : pc + 1 = q) (k : Goes p e below K (T.setTop (mkF m q Ls (.null :: rest)))) : Goes p e below K (T.setTop (mkF m pc Ls rest)) := by
  subst hq; exact Goes.of (fun t kt => XS.aconstNull X.here hx rfl (hb hby hd) kt) k
theorem g_dup (X : Stand p l e R s m args below meth c T locs cells slots) (hx : p.tables.exec = Jvm.exec) (hby : c.code = bytes) {x : Value} (hd : decode bytes pc = .ok (.dup, 1)) (hc : x.category = 1) (q : Nat) (hq : pc + 1 = q) (k : Goes p e below K (T.setTop (mkF m q Ls (x :: x :: rest)))) : Goes p e below K (T.setTop (mkF m pc Ls (x :: rest))) := by
  subst hq; exact Goes.of (fun t kt => XS.dup X.here hx rfl (hb hby hd) rfl hc kt) k
theorem g_pop (X : Stand p l e R s m args below meth c T locs cells slots) (hx : p.tables.exec = Jvm.exec) (hby : c.code = bytes) {x : Value} (hd : decode bytes pc = .ok (.pop, 1)) (hc : x.category = 1) (q : Nat) (hq : pc + 1 = q) (k : Goes p e below K (T.setTop (mkF m q Ls rest))) : Goes p e below K (T.setTop (mkF m pc Ls (x :: rest))) := by
  subst hq; exact Goes.of (fun t kt => XS.pop X.here hx rfl (hb hby hd) rfl hc kt) k
theorem g_dup_x1 (X : Stand p l e R s m args below meth c T locs cells slots) (hx : p.tables.exec = Jvm.exec) (hby : c.code = bytes) {x y : Value} (hd : decode bytes pc = .ok (.dup_x1, 1)) (hc : x.category = 1) (hc' : y.category = 1) (q : Nat) (hq : pc + 1 = q) (k : Goes p e below K (T.setTop (mkF m q Ls (x :: y :: x :: rest)))) : Goes p e below K (T.setTop (mkF m pc Ls (x :: y :: rest))) := by
  subst hq; exact Goes.of (fun t kt => XS.dupX1 X.here hx rfl (hb hby hd) rfl hc hc' kt) k
theorem g_dup2 (X : Stand p l e R s m args below meth c T locs cells slots) (hx : p.tables.exec = Jvm.exec) (hby : c.code = bytes) {x y : Value} (hd : decode bytes pc = .ok (.dup2, 1)) (hc : x.category = 1) (hc' : y.category = 1) (q : Nat) (hq : pc + 1 = q) (k : Goes p e below K (T.setTop (mkF m q Ls (x :: y :: x :: y :: rest)))) : Goes p e below K (T.setTop (mkF m pc Ls (x :: y :: rest))) := by
  subst hq; exact Goes.of (fun t kt => Jvm.Free.XT.dup2 X.here hx rfl (hb hby hd) rfl hc hc' kt) k
theorem g_iinc (X : Stand p l e R s m args below meth c T locs cells slots) (hx : p.tables.exec = Jvm.exec) (hby : c.code = bytes) {i : Int} {kk : Nat} {x : Int32} (hd : decode bytes pc = .ok (.iinc kk i, 3)) (v : Int32) (hv : Int32.ofInt i = v) (hl : Ls[kk]? = some (.val (.int x))) (y : Int32) (hxy : x + v = y) (L' : Array Slot) (hl' : storeLocals Ls kk (.int y) = some L') (q : Nat) (hq : pc + 3 = q) (k : Goes p e below K (T.setTop (mkF m q L' rest))) : Goes p e below K (T.setTop (mkF m pc Ls rest)) := by
  subst hq hv hxy; exact Goes.of (fun t kt => XS.iinc X.here hx rfl (hb hby hd) hl hl' kt) k
theorem g_goto (X : Stand p l e R s m args below meth c T locs cells slots) (hx : p.tables.exec = Jvm.exec) (hby : c.code = bytes) {o : Int} (hd : decode bytes pc = .ok (.goto o, 3)) (q : Nat) (ho : 0 ≤ (pc : Int) + o) (hq : ((pc : Int) + o).toNat = q) (k : Goes p e below K (T.setTop (mkF m q Ls rest))) : Goes p e below K (T.setTop (mkF m pc Ls rest)) :=
  Goes.of (fun t kt => XS.goto X.here hx rfl rfl (hb hby hd) ho hq kt) k
theorem g_icmp_eq (X : Stand p l e R s m args below meth c T locs cells slots) (hx : p.tables.exec = Jvm.exec) (hby : c.code = bytes) {x y : Int32} {o : Int} (hd : decode bytes pc = .ok (.if_icmp .eq o, 3)) (q r : Nat) (ho : 0 ≤ (pc : Int) + o) (hq : ((pc : Int) + o).toNat = q) (hr : pc + 3 = r) (kt : x = y → Goes p e below K (T.setTop (mkF m q Ls rest))) (kf : ¬ (x = y) → Goes p e below K (T.setTop (mkF m r Ls rest))) : Goes p e below K (T.setTop (mkF m pc Ls (.int y :: .int x :: rest))) := by
  subst hr
  by_cases h : x = y
  · exact Goes.of (fun t kt => XS.icmpYes X.here hx rfl rfl (hb hby hd) rfl (teq h).1 ho hq kt) (kt h)
  · exact Goes.of (fun t kt => XS.icmpNo X.here hx rfl (hb hby hd) rfl (feq h).1 kt) (kf h)
theorem g_if_eq (X : Stand p l e R s m args below meth c T locs cells slots) (hx : p.tables.exec = Jvm.exec) (hby : c.code = bytes) {x : Int32} {o : Int} (hd : decode bytes pc = .ok (.ifCond .eq o, 3)) (q r : Nat) (ho : 0 ≤ (pc : Int) + o) (hq : ((pc : Int) + o).toNat = q) (hr : pc + 3 = r) (kt : x = 0 → Goes p e below K (T.setTop (mkF m q Ls rest))) (kf : ¬ (x = 0) → Goes p e below K (T.setTop (mkF m r Ls rest))) : Goes p e below K (T.setTop (mkF m pc Ls (.int x :: rest))) := by
  subst hr
  by_cases h : x = 0
  · exact Goes.of (fun t kt => XS.ifYes X.here hx rfl rfl (hb hby hd) rfl ((if0 _ _).trans (teq h).1) ho hq kt) (kt h)
  · exact Goes.of (fun t kt => XS.ifNo X.here hx rfl (hb hby hd) rfl ((if0 _ _).trans (feq h).1) kt) (kf h)
theorem g_lcmp_eq (X : Stand p l e R s m args below meth c T locs cells slots) (hx : p.tables.exec = Jvm.exec) (hby : c.code = bytes) {x y : Int64} {o : Int} {pc2 : Nat} (hd : decode bytes pc = .ok (.lcmp, 1)) (hd2 : decode bytes pc2 = .ok (.ifCond .eq o, 3)) (q r : Nat) (h2 : pc + 1 = pc2) (ho : 0 ≤ (pc2 : Int) + o) (hq : ((pc2 : Int) + o).toNat = q) (hr : pc2 + 3 = r) (kt : x = y → Goes p e below K (T.setTop (mkF m q Ls rest))) (kf : ¬ (x = y) → Goes p e below K (T.setTop (mkF m r Ls rest))) : Goes p e below K (T.setTop (mkF m pc Ls (.long y :: .long x :: rest))) := by
  subst h2
  refine Goes.of (fun t kt => XS.lcmp X.here hx rfl (hb hby hd) rfl kt) ?_
  exact g_if_eq X hx hby hd2 q r ho hq hr (fun h => kt ((lw_eq x y).mp h)) (fun h => kf fun h' => h ((lw_eq x y).mpr h'))
theorem g_icmp_ne (X : Stand p l e R s m args below meth c T locs cells slots) (hx : p.tables.exec = Jvm.exec) (hby : c.code = bytes) {x y : Int32} {o : Int} (hd : decode bytes pc = .ok (.if_icmp .ne o, 3)) (q r : Nat) (ho : 0 ≤ (pc : Int) + o) (hq : ((pc : Int) + o).toNat = q) (hr : pc + 3 = r) (kt : x = y → Goes p e below K (T.setTop (mkF m r Ls rest))) (kf : ¬ (x = y) → Goes p e below K (T.setTop (mkF m q Ls rest))) : Goes p e below K (T.setTop (mkF m pc Ls (.int y :: .int x :: rest))) := by
  subst hr
  by_cases h : x = y
  · exact Goes.of (fun t kt => XS.icmpNo X.here hx rfl (hb hby hd) rfl (teq h).2 kt) (kt h)
  · exact Goes.of (fun t kt => XS.icmpYes X.here hx rfl rfl (hb hby hd) rfl (feq h).2 ho hq kt) (kf h)
theorem g_if_ne (X : Stand p l e R s m args below meth c T locs cells slots) (hx : p.tables.exec = Jvm.exec) (hby : c.code = bytes) {x : Int32} {o : Int} (hd : decode bytes pc = .ok (.ifCond .ne o, 3)) (q r : Nat) (ho : 0 ≤ (pc : Int) + o) (hq : ((pc : Int) + o).toNat = q) (hr : pc + 3 = r) (kt : x = 0 → Goes p e below K (T.setTop (mkF m r Ls rest))) (kf : ¬ (x = 0) → Goes p e below K (T.setTop (mkF m q Ls rest))) : Goes p e below K (T.setTop (mkF m pc Ls (.int x :: rest))) := by
  subst hr
  by_cases h : x = 0
  · exact Goes.of (fun t kt => XS.ifNo X.here hx rfl (hb hby hd) rfl ((if0 _ _).trans (teq h).2) kt) (kt h)
  · exact Goes.of (fun t kt => XS.ifYes X.here hx rfl rfl (hb hby hd) rfl ((if0 _ _).trans (feq h).2) ho hq kt) (kf h)
theorem g_lcmp_ne (X : Stand p l e R s m args below meth c T locs cells slots) (hx : p.tables.exec = Jvm.exec) (hby : c.code = bytes) {x y : Int64} {o : Int} {pc2 : Nat} (hd : decode bytes pc = .ok (.lcmp, 1)) (hd2 : decode bytes pc2 = .ok (.ifCond .ne o, 3)) (q r : Nat) (h2 : pc + 1 = pc2) (ho : 0 ≤ (pc2 : Int) + o) (hq : ((pc2 : Int) + o).toNat = q) (hr : pc2 + 3 = r) (kt : x = y → Goes p e below K (T.setTop (mkF m r Ls rest))) (kf : ¬ (x = y) → Goes p e below K (T.setTop (mkF m q Ls rest))) : Goes p e below K (T.setTop (mkF m pc Ls (.long y :: .long x :: rest))) := by
  subst h2
  refine Goes.of (fun t kt => XS.lcmp X.here hx rfl (hb hby hd) rfl kt) ?_
  exact g_if_ne X hx hby hd2 q r ho hq hr (fun h => kt ((lw_eq x y).mp h)) (fun h => kf fun h' => h ((lw_eq x y).mpr h'))
theorem g_icmp_lt (X : Stand p l e R s m args below meth c T locs cells slots) (hx : p.tables.exec = Jvm.exec) (hby : c.code = bytes) {x y : Int32} {o : Int} (hd : decode bytes pc = .ok (.if_icmp .lt o, 3)) (q r : Nat) (ho : 0 ≤ (pc : Int) + o) (hq : ((pc : Int) + o).toNat = q) (hr : pc + 3 = r) (kt : x < y → Goes p e below K (T.setTop (mkF m q Ls rest))) (kf : ¬ (x < y) → Goes p e below K (T.setTop (mkF m r Ls rest))) : Goes p e below K (T.setTop (mkF m pc Ls (.int y :: .int x :: rest))) := by
  subst hr
  by_cases h : x < y
  · exact Goes.of (fun t kt => XS.icmpYes X.here hx rfl rfl (hb hby hd) rfl (tlt h).1 ho hq kt) (kt h)
  · exact Goes.of (fun t kt => XS.icmpNo X.here hx rfl (hb hby hd) rfl (flt h).1 kt) (kf h)
theorem g_if_lt (X : Stand p l e R s m args below meth c T locs cells slots) (hx : p.tables.exec = Jvm.exec) (hby : c.code = bytes) {x : Int32} {o : Int} (hd : decode bytes pc = .ok (.ifCond .lt o, 3)) (q r : Nat) (ho : 0 ≤ (pc : Int) + o) (hq : ((pc : Int) + o).toNat = q) (hr : pc + 3 = r) (kt : x < 0 → Goes p e below K (T.setTop (mkF m q Ls rest))) (kf : ¬ (x < 0) → Goes p e below K (T.setTop (mkF m r Ls rest))) : Goes p e below K (T.setTop (mkF m pc Ls (.int x :: rest))) := by
  subst hr
  by_cases h : x < 0
  · exact Goes.of (fun t kt => XS.ifYes X.here hx rfl rfl (hb hby hd) rfl ((if0 _ _).trans (tlt h).1) ho hq kt) (kt h)
  · exact Goes.of (fun t kt => XS.ifNo X.here hx rfl (hb hby hd) rfl ((if0 _ _).trans (flt h).1) kt) (kf h)
theorem g_lcmp_lt (X : Stand p l e R s m args below meth c T locs cells slots) (hx : p.tables.exec = Jvm.exec) (hby : c.code = bytes) {x y : Int64} {o : Int} {pc2 : Nat} (hd : decode bytes pc = .ok (.lcmp, 1)) (hd2 : decode bytes pc2 = .ok (.ifCond .lt o, 3)) (q r : Nat) (h2 : pc + 1 = pc2) (ho : 0 ≤ (pc2 : Int) + o) (hq : ((pc2 : Int) + o).toNat = q) (hr : pc2 + 3 = r) (kt : x < y → Goes p e below K (T.setTop (mkF m q Ls rest))) (kf : ¬ (x < y) → Goes p e below K (T.setTop (mkF m r Ls rest))) : Goes p e below K (T.setTop (mkF m pc Ls (.long y :: .long x :: rest))) := by
  subst h2
  refine Goes.of (fun t kt => XS.lcmp X.here hx rfl (hb hby hd) rfl kt) ?_
  exact g_if_lt X hx hby hd2 q r ho hq hr (fun h => kt ((lw_lt x y).mp h)) (fun h => kf fun h' => h ((lw_lt x y).mpr h'))
theorem g_icmp_ge (X : Stand p l e R s m args below meth c T locs cells slots) (hx : p.tables.exec = Jvm.exec) (hby : c.code = bytes) {x y : Int32} {o : Int} (hd : decode bytes pc = .ok (.if_icmp .ge o, 3)) (q r : Nat) (ho : 0 ≤ (pc : Int) + o) (hq : ((pc : Int) + o).toNat = q) (hr : pc + 3 = r) (kt : x < y → Goes p e below K (T.setTop (mkF m r Ls rest))) (kf : ¬ (x < y) → Goes p e below K (T.setTop (mkF m q Ls rest))) : Goes p e below K (T.setTop (mkF m pc Ls (.int y :: .int x :: rest))) := by
  subst hr
  by_cases h : x < y
  · exact Goes.of (fun t kt => XS.icmpNo X.here hx rfl (hb hby hd) rfl (tlt h).2.1 kt) (kt h)
  · exact Goes.of (fun t kt => XS.icmpYes X.here hx rfl rfl (hb hby hd) rfl (flt h).2.1 ho hq kt) (kf h)
theorem g_if_ge (X : Stand p l e R s m args below meth c T locs cells slots) (hx : p.tables.exec = Jvm.exec) (hby : c.code = bytes) {x : Int32} {o : Int} (hd : decode bytes pc = .ok (.ifCond .ge o, 3)) (q r : Nat) (ho : 0 ≤ (pc : Int) + o) (hq : ((pc : Int) + o).toNat = q) (hr : pc + 3 = r) (kt : x < 0 → Goes p e below K (T.setTop (mkF m r Ls rest))) (kf : ¬ (x < 0) → Goes p e below K (T.setTop (mkF m q Ls rest))) : Goes p e below K (T.setTop (mkF m pc Ls (.int x :: rest))) := by
  subst hr
  by_cases h : x < 0
  · exact Goes.of (fun t kt => XS.ifNo X.here hx rfl (hb hby hd) rfl ((if0 _ _).trans (tlt h).2.1) kt) (kt h)
  · exact Goes.of (fun t kt => XS.ifYes X.here hx rfl rfl (hb hby hd) rfl ((if0 _ _).trans (flt h).2.1) ho hq kt) (kf h)
theorem g_lcmp_ge (X : Stand p l e R s m args below meth c T locs cells slots) (hx : p.tables.exec = Jvm.exec) (hby : c.code = bytes) {x y : Int64} {o : Int} {pc2 : Nat} (hd : decode bytes pc = .ok (.lcmp, 1)) (hd2 : decode bytes pc2 = .ok (.ifCond .ge o, 3)) (q r : Nat) (h2 : pc + 1 = pc2) (ho : 0 ≤ (pc2 : Int) + o) (hq : ((pc2 : Int) + o).toNat = q) (hr : pc2 + 3 = r) (kt : x < y → Goes p e below K (T.setTop (mkF m r Ls rest))) (kf : ¬ (x < y) → Goes p e below K (T.setTop (mkF m q Ls rest))) : Goes p e below K (T.setTop (mkF m pc Ls (.long y :: .long x :: rest))) := by
  subst h2
  refine Goes.of (fun t kt => XS.lcmp X.here hx rfl (hb hby hd) rfl kt) ?_
  exact g_if_ge X hx hby hd2 q r ho hq hr (fun h => kt ((lw_lt x y).mp h)) (fun h => kf fun h' => h ((lw_lt x y).mpr h'))
theorem g_icmp_gt (X : Stand p l e R s m args below meth c T locs cells slots) (hx : p.tables.exec = Jvm.exec) (hby : c.code = bytes) {x y : Int32} {o : Int} (hd : decode bytes pc = .ok (.if_icmp .gt o, 3)) (q r : Nat) (ho : 0 ≤ (pc : Int) + o) (hq : ((pc : Int) + o).toNat = q) (hr : pc + 3 = r) (kt : y < x → Goes p e below K (T.setTop (mkF m q Ls rest))) (kf : ¬ (y < x) → Goes p e below K (T.setTop (mkF m r Ls rest))) : Goes p e below K (T.setTop (mkF m pc Ls (.int y :: .int x :: rest))) := by
  subst hr
  by_cases h : y < x
  · exact Goes.of (fun t kt => XS.icmpYes X.here hx rfl rfl (hb hby hd) rfl (tlt h).2.2.1 ho hq kt) (kt h)
  · exact Goes.of (fun t kt => XS.icmpNo X.here hx rfl (hb hby hd) rfl (flt h).2.2.1 kt) (kf h)
theorem g_if_gt (X : Stand p l e R s m args below meth c T locs cells slots) (hx : p.tables.exec = Jvm.exec) (hby : c.code = bytes) {x : Int32} {o : Int} (hd : decode bytes pc = .ok (.ifCond .gt o, 3)) (q r : Nat) (ho : 0 ≤ (pc : Int) + o) (hq : ((pc : Int) + o).toNat = q) (hr : pc + 3 = r) (kt : 0 < x → Goes p e below K (T.setTop (mkF m q Ls rest))) (kf : ¬ (0 < x) → Goes p e below K (T.setTop (mkF m r Ls rest))) : Goes p e below K (T.setTop (mkF m pc Ls (.int x :: rest))) := by
  subst hr
  by_cases h : 0 < x
  · exact Goes.of (fun t kt => XS.ifYes X.here hx rfl rfl (hb hby hd) rfl ((if0 _ _).trans (tlt h).2.2.1) ho hq kt) (kt h)
  · exact Goes.of (fun t kt => XS.ifNo X.here hx rfl (hb hby hd) rfl ((if0 _ _).trans (flt h).2.2.1) kt) (kf h)
theorem g_lcmp_gt (X : Stand p l e R s m args below meth c T locs cells slots) (hx : p.tables.exec = Jvm.exec) (hby : c.code = bytes) {x y : Int64} {o : Int} {pc2 : Nat} (hd : decode bytes pc = .ok (.lcmp, 1)) (hd2 : decode bytes pc2 = .ok (.ifCond .gt o, 3)) (q r : Nat) (h2 : pc + 1 = pc2) (ho : 0 ≤ (pc2 : Int) + o) (hq : ((pc2 : Int) + o).toNat = q) (hr : pc2 + 3 = r) (kt : y < x → Goes p e below K (T.setTop (mkF m q Ls rest))) (kf : ¬ (y < x) → Goes p e below K (T.setTop (mkF m r Ls rest))) : Goes p e below K (T.setTop (mkF m pc Ls (.long y :: .long x :: rest))) := by
  subst h2
  refine Goes.of (fun t kt => XS.lcmp X.here hx rfl (hb hby hd) rfl kt) ?_
  exact g_if_gt X hx hby hd2 q r ho hq hr (fun h => kt ((lw_gt x y).mp h)) (fun h => kf fun h' => h ((lw_gt x y).mpr h'))
theorem g_icmp_le (X : Stand p l e R s m args below meth c T locs cells slots) (hx : p.tables.exec = Jvm.exec) (hby : c.code = bytes) {x y : Int32} {o : Int} (hd : decode bytes pc = .ok (.if_icmp .le o, 3)) (q r : Nat) (ho : 0 ≤ (pc : Int) + o) (hq : ((pc : Int) + o).toNat = q) (hr : pc + 3 = r) (kt : y < x → Goes p e below K (T.setTop (mkF m r Ls rest))) (kf : ¬ (y < x) → Goes p e below K (T.setTop (mkF m q Ls rest))) : Goes p e below K (T.setTop (mkF m pc Ls (.int y :: .int x :: rest))) := by
  subst hr
  by_cases h : y < x
  · exact Goes.of (fun t kt => XS.icmpNo X.here hx rfl (hb hby hd) rfl (tlt h).2.2.2 kt) (kt h)
  · exact Goes.of (fun t kt => XS.icmpYes X.here hx rfl rfl (hb hby hd) rfl (flt h).2.2.2 ho hq kt) (kf h)
theorem g_if_le (X : Stand p l e R s m args below meth c T locs cells slots) (hx : p.tables.exec = Jvm.exec) (hby : c.code = bytes) {x : Int32} {o : Int} (hd : decode bytes pc = .ok (.ifCond .le o, 3)) (q r : Nat) (ho : 0 ≤ (pc : Int) + o) (hq : ((pc : Int) + o).toNat = q) (hr : pc + 3 = r) (kt : 0 < x → Goes p e below K (T.setTop (mkF m r Ls rest))) (kf : ¬ (0 < x) → Goes p e below K (T.setTop (mkF m q Ls rest))) : Goes p e below K (T.setTop (mkF m pc Ls (.int x :: rest))) := by
  subst hr
  by_cases h : 0 < x
  · exact Goes.of (fun t kt => XS.ifNo X.here hx rfl (hb hby hd) rfl ((if0 _ _).trans (tlt h).2.2.2) kt) (kt h)
  · exact Goes.of (fun t kt => XS.ifYes X.here hx rfl rfl (hb hby hd) rfl ((if0 _ _).trans (flt h).2.2.2) ho hq kt) (kf h)
theorem g_lcmp_le (X : Stand p l e R s m args below meth c T locs cells slots) (hx : p.tables.exec = Jvm.exec) (hby : c.code = bytes) {x y : Int64} {o : Int} {pc2 : Nat} (hd : decode bytes pc = .ok (.lcmp, 1)) (hd2 : decode bytes pc2 = .ok (.ifCond .le o, 3)) (q r : Nat) (h2 : pc + 1 = pc2) (ho : 0 ≤ (pc2 : Int) + o) (hq : ((pc2 : Int) + o).toNat = q) (hr : pc2 + 3 = r) (kt : y < x → Goes p e below K (T.setTop (mkF m r Ls rest))) (kf : ¬ (y < x) → Goes p e below K (T.setTop (mkF m q Ls rest))) : Goes p e below K (T.setTop (mkF m pc Ls (.long y :: .long x :: rest))) := by
  subst h2
  refine Goes.of (fun t kt => XS.lcmp X.here hx rfl (hb hby hd) rfl kt) ?_
  exact g_if_le X hx hby hd2 q r ho hq hr (fun h => kt ((lw_gt x y).mp h)) (fun h => kf fun h' => h ((lw_gt x y).mpr h'))
theorem g_ifnull_yes (X : Stand p l e R s m args below meth c T locs cells slots) (hx : p.tables.exec = Jvm.exec) (hby : c.code = bytes) {o : Int} (hd : decode bytes pc = .ok (.ifnull o, 3)) (q : Nat) (ho : 0 ≤ (pc : Int) + o) (hq : ((pc : Int) + o).toNat = q) (k : Goes p e below K (T.setTop (mkF m q Ls rest))) : Goes p e below K (T.setTop (mkF m pc Ls (.null :: rest))) :=
  Goes.of (fun t kt => XS.ifnullYes X.here hx rfl rfl (hb hby hd) rfl ho hq kt) k
theorem g_ifnull_no (X : Stand p l e R s m args below meth c T locs cells slots) (hx : p.tables.exec = Jvm.exec) (hby : c.code = bytes) {a : Addr} {o : Int} (hd : decode bytes pc = .ok (.ifnull o, 3)) (q : Nat) (hq : pc + 3 = q) (k : Goes p e below K (T.setTop (mkF m q Ls rest))) : Goes p e below K (T.setTop (mkF m pc Ls (.ref a :: rest))) := by
  subst hq; exact Goes.of (fun t kt => XS.ifnullNo X.here hx rfl (hb hby hd) rfl kt) k
theorem g_ifnonnull_yes (X : Stand p l e R s m args below meth c T locs cells slots) (hx : p.tables.exec = Jvm.exec) (hby : c.code = bytes) {a : Addr} {o : Int} (hd : decode bytes pc = .ok (.ifnonnull o, 3)) (q : Nat) (ho : 0 ≤ (pc : Int) + o) (hq : ((pc : Int) + o).toNat = q) (k : Goes p e below K (T.setTop (mkF m q Ls rest))) : Goes p e below K (T.setTop (mkF m pc Ls (.ref a :: rest))) :=
  Goes.of (fun t kt => XS.ifnonnullYes X.here hx rfl rfl (hb hby hd) rfl ho hq kt) k
theorem g_ifnonnull_no (X : Stand p l e R s m args below meth c T locs cells slots) (hx : p.tables.exec = Jvm.exec) (hby : c.code = bytes) {o : Int} (hd : decode bytes pc = .ok (.ifnonnull o, 3)) (q : Nat) (hq : pc + 3 = q) (k : Goes p e below K (T.setTop (mkF m q Ls rest))) : Goes p e below K (T.setTop (mkF m pc Ls (.null :: rest))) := by
  subst hq; exact Goes.of (fun t kt => XS.ifnonnullNo X.here hx rfl (hb hby hd) rfl kt) k
theorem g_acmp (X : Stand p l e R s m args below meth c T locs cells slots) (hx : p.tables.exec = Jvm.exec) (hby : c.code = bytes) {cd : ACond} {x y : Value} {o : Int} (hd : decode bytes pc = .ok (.if_acmp cd o, 3)) (h1 : x.isRef = true) (h2 : y.isRef = true) (same : Bool) (hs : decide (x = y) = same) (q : Nat) (ho : 0 ≤ (pc : Int) + o) (hq : q = if acV cd same = true then ((pc : Int) + o).toNat else pc + 3) (k : Goes p e below K (T.setTop (mkF m q Ls rest))) : Goes p e below K (T.setTop (mkF m pc Ls (y :: x :: rest))) :=
  Goes.of (fun t kt => Jvm.RoadKit.acmp X hx rfl h1 h2 rfl (hb hby hd) rfl hs ho hq kt) k
theorem g_ldc (X : Stand p l e R s m args below meth c T locs cells slots) (hx : p.tables.exec = Jvm.exec) (hby : c.code = bytes) {Z : State} {a0 : Array Value} (hZ : Z.Warmed39 s.vm) {own : String} {index : Nat} {v : Int32} (hown : s.vm.findClass own = some m.cls) (w : (Jvm.Cond.constant own index v).before a0 Z = true) (hd : decode bytes pc = .ok (.ldc index, 2)) (q : Nat) (hq : pc + 2 = q) (k : Goes p e below K (T.setTop (mkF m q Ls (.int v :: rest)))) : Goes p e below K (T.setTop (mkF m pc Ls rest)) := by
  subst hq; exact Goes.of (fun t kt => X.ldcInt hx hown (mvT hZ w) (g := mkF m pc Ls rest) rfl (hb hby hd) t kt) k
theorem g_ldc_w (X : Stand p l e R s m args below meth c T locs cells slots) (hx : p.tables.exec = Jvm.exec) (hby : c.code = bytes) {Z : State} {a0 : Array Value} (hZ : Z.Warmed39 s.vm) {own : String} {index : Nat} {v : Int32} (hown : s.vm.findClass own = some m.cls) (w : (Jvm.Cond.constant own index v).before a0 Z = true) (hd : decode bytes pc = .ok (.ldc_w index, 3)) (q : Nat) (hq : pc + 3 = q) (k : Goes p e below K (T.setTop (mkF m q Ls (.int v :: rest)))) : Goes p e below K (T.setTop (mkF m pc Ls rest)) := by
  subst hq; exact Goes.of (fun t kt => X.ldcwInt hx hown (mvT hZ w) (g := mkF m pc Ls rest) rfl (hb hby hd) t kt) k
theorem g_ldc2 (X : Stand p l e R s m args below meth c T locs cells slots) (hx : p.tables.exec = Jvm.exec) (hby : c.code = bytes) {Z : State} {a0 : Array Value} (hZ : Z.Warmed39 s.vm) {own : String} {index : Nat} {v : Int64} (hown : s.vm.findClass own = some m.cls) (w : (Jvm.Cond.constantLong own index v).before a0 Z = true) (hd : decode bytes pc = .ok (.ldc2_w index, 3)) (q : Nat) (hq : pc + 3 = q) (k : Goes p e below K (T.setTop (mkF m q Ls (.long v :: rest)))) : Goes p e below K (T.setTop (mkF m pc Ls rest)) := by
  subst hq; exact Goes.of (fun t kt => X.ldc2Long hx hown (mvT hZ w) (g := mkF m pc Ls rest) rfl (hb hby hd) t kt) k
theorem g_leave (X : Stand p l e R s m args below meth c T locs cells slots) {Q : Option Value → Heap → List Loc → Prop} {C S : Nat} {v : Option Value} (hv : meth.sig.returnType = none → v = none) (hlk : meth.locks = false) (hQ : Q v T.heap locs) (hc : cells ≤ C) (hs : slots ≤ S) {F : State}
    (st : ∀ fs : List Frame, (∀ (f : JFrame) (acts : List Action), f.method = m → f.locked = none → f.entered = [] → (doReturn e (T.setTop f) acts v).1 = T.setFrames fs) → Steps p.tables e below F (T.setFrames fs)) : Goes p e below (Kend s below Q C S) F := by
  obtain ⟨fs, hr, hrun, hended, hW, hsame⟩ := X.leave (v := v) hv hlk
  exact ⟨_, st fs hr, _, hrun, hended, v, locs, rfl, hQ, ⟨_, rfl⟩, hW, hsame.mono hc hs⟩
theorem g_ireturn (X : Stand p l e R s m args below meth c T locs cells slots) (hx : p.tables.exec = Jvm.exec) (hby : c.code = bytes) {Q : Option Value → Heap → List Loc → Prop} {C S : Nat} {z : Int32} {t : FieldType} (hret : meth.sig.returnType = some t) (hlk : meth.locks = false) (ht : t = .int ∨ t = .boolean ∨ t = .byte ∨ t = .char ∨ t = .short) (hn : narrow t (.int z) = .int z) (hd : decode bytes pc = .ok (.ireturn, 1)) (hQ : Q (some (.int z)) T.heap locs) (hc : cells ≤ C) (hs : slots ≤ S) : Goes p e below (Kend s below Q C S) (T.setTop (mkF m pc Ls (.int z :: rest))) :=
  g_leave X (v := some (.int z)) (fun h => by rw [hret] at h; cases h) hlk hQ hc hs fun fs hr => retOut X hx hret hn (Or.inl ⟨rfl, ht, z, rfl⟩) (hb hby hd) hr
theorem g_lreturn (X : Stand p l e R s m args below meth c T locs cells slots) (hx : p.tables.exec = Jvm.exec) (hby : c.code = bytes) {Q : Option Value → Heap → List Loc → Prop} {C S : Nat} {z : Int64} (hret : meth.sig.returnType = some .long) (hlk : meth.locks = false) (hd : decode bytes pc = .ok (.lreturn, 1)) (hQ : Q (some (.long z)) T.heap locs) (hc : cells ≤ C) (hs : slots ≤ S) : Goes p e below (Kend s below Q C S) (T.setTop (mkF m pc Ls (.long z :: rest))) :=
  g_leave X (v := some (.long z)) (fun h => by rw [hret] at h; cases h) hlk hQ hc hs fun fs hr => retOut X hx hret rfl (Or.inr (Or.inl ⟨rfl, rfl, z, rfl⟩)) (hb hby hd) hr
theorem g_areturn (X : Stand p l e R s m args below meth c T locs cells slots) (hx : p.tables.exec = Jvm.exec) (hby : c.code = bytes) {Q : Option Value → Heap → List Loc → Prop} {C S : Nat} {w : Value} {t : FieldType} (hret : meth.sig.returnType = some t) (hlk : meth.locks = false) (ht : t.isReference = true) (hw : w.isRef = true) (hn : narrow t w = w) (hd : decode bytes pc = .ok (.areturn, 1)) (hQ : Q (some w) T.heap locs) (hc : cells ≤ C) (hs : slots ≤ S) : Goes p e below (Kend s below Q C S) (T.setTop (mkF m pc Ls (w :: rest))) :=
  g_leave X (v := some w) (fun h => by rw [hret] at h; cases h) hlk hQ hc hs fun fs hr => retOut X hx hret hn (Or.inr (Or.inr (Or.inr (Or.inr ⟨rfl, ht, hw⟩)))) (hb hby hd) hr
theorem g_return (X : Stand p l e R s m args below meth c T locs cells slots) (hx : p.tables.exec = Jvm.exec) (hby : c.code = bytes) {Q : Option Value → Heap → List Loc → Prop} {C S : Nat} (hret : meth.sig.returnType = none) (hlk : meth.locks = false) (hd : decode bytes pc = .ok (.return_, 1)) (hQ : Q none T.heap locs) (hc : cells ≤ C) (hs : slots ≤ S) : Goes p e below (Kend s below Q C S) (T.setTop (mkF m pc Ls [])) :=
  g_leave X (v := none) (fun _ => rfl) hlk hQ hc hs fun fs hr => X.returnOut hx hret (hb hby hd) hr
theorem nar_bool {z : Int32} (h : z = 0 ∨ z = 1) : narrow .boolean (.int z) = .int z := by rcases h with rfl | rfl <;> rfl
theorem g_callS (X : Stand p l e R s m args below meth c T locs cells slots) (hx : p.tables.exec = Jvm.exec) (hby : c.code = bytes) {Z : State} {a0 : Array Value} (hZ : Z.Warmed39 s.vm) {own : String} {index : Nat} {y : MethodName} {cb : ByteArray} {maxL : Nat} {ret : Option FieldType} {rm : Room} {Q : Option Value → Heap → List Loc → Prop} {h : Heap} (hown : s.vm.findClass own = some m.cls) (w1 : (Jvm.Cond.methodLink own index y).before a0 Z = true) (w2 : (Jvm.Cond.static y).before a0 Z = true) (w3 : (Jvm.Cond.initialized y.cls).before a0 Z = true) (w4 : (Jvm.Cond.code y cb maxL ret).before a0 Z = true)
    (hd : decode bytes pc = .ok (.invokestatic index, 3)) (argsL rest : List Value) {st : List Value} (hM : Ctr l y cb maxL ret [] rm argsL.toArray Z h Q) (eT : T.heap = h) (hst : st = argsL.reverse ++ rest) (hsz : Ls.size = c.maxLocals) {ps : List FieldType} {rt : Option FieldType} (hpd : parseMethodDescriptor y.desc = some ⟨ps, rt⟩) (hlen : argsL.length = ps.length)
    (hy : y.cls ≠ "java/lang/invoke/MethodHandle" ∧ y.cls ≠ "java/lang/invoke/VarHandle") (W : Nat) (hW : (rest.map fun v => v.category).sum ≤ W) (hf : rm.frames + 1 ≤ R.frames) (hl : W + (maxL + 11) + rm.locals ≤ R.locals) (hc : cells + rm.cells ≤ R.cells) (hs : slots + rm.slots ≤ R.slots) (q : Nat) (hq : pc + 3 = q)
    (k : ∀ (T' : State) (v : Option Value) (L : List Loc), Stand p l e R s m args below meth c T' (locs ++ L) (cells + rm.cells) (slots + rm.slots) → Q v T'.heap L → Goes p e below K (T'.setTop (mkF m q Ls (v.toList ++ rest)))) : Goes p e below K (T.setTop (mkF m pc Ls st)) := by
  subst hq hst
  obtain ⟨v, _, ⟨T', L', k', n'⟩, -, X', ⟨Lc, hQ, l1, y1, z1⟩, st⟩ := Jvm.LawKit.callS X hx hown (mvT hZ w1) (mvT hZ w2) (mvT hZ w3) (mvT hZ w4) hy (backOf (W := W) hM hZ w4 w3 hf hl) (g := mkF m pc Ls (argsL.reverse ++ rest)) rfl hsz (argsL := argsL) (rest := rest) (lenOf hpd hlen) rfl (by show 2 * 0 + _ ≤ _; omega) (hb hby hd) (fun _ _ => ⟨rfl, eT, hc, hs⟩)
  dsimp only [Pt.U, Pt.locs, Pt.cells, Pt.slots] at X' l1 y1 z1 st hQ
  subst l1 y1 z1
  exact Goes.of st (k _ _ _ X' hQ)
theorem g_special (X : Stand p l e R s m args below meth c T locs cells slots) (hx : p.tables.exec = Jvm.exec) (hby : c.code = bytes) {Z : State} {a0 : Array Value} (hZ : Z.Warmed39 s.vm) {own : String} {index : Nat} {y : MethodName} {cb : ByteArray} {maxL : Nat} {rm : Room} {Q : Option Value → Heap → List Loc → Prop} {h : Heap} (hown : s.vm.findClass own = some m.cls) (hy1 : y.name = "<init>") (w1 : (Jvm.Cond.methodLink own index y).before a0 Z = true) (w2 : (Jvm.Cond.instanceMethod y).before a0 Z = true) (w3 : (Jvm.Cond.initialized y.cls).before a0 Z = true) (w4 : (Jvm.Cond.code y cb maxL none).before a0 Z = true)
    (hd : decode bytes pc = .ok (.invokespecial index, 3)) (a : Addr) (argsL rest : List Value) {st : List Value} (hM : Ctr l y cb maxL none [] rm (.ref a :: argsL).toArray Z h Q) (eT : T.heap = h) (hst : st = argsL.reverse ++ .ref a :: rest) (hsz : Ls.size = c.maxLocals) {ps : List FieldType} {rt : Option FieldType} (hpd : parseMethodDescriptor y.desc = some ⟨ps, rt⟩) (hlen : argsL.length = ps.length)
    (hy : y.cls ≠ "java/lang/invoke/MethodHandle" ∧ y.cls ≠ "java/lang/invoke/VarHandle") (W : Nat) (hW : (rest.map fun v => v.category).sum ≤ W) (hf : rm.frames + 1 ≤ R.frames) (hl : W + (maxL + 11) + rm.locals ≤ R.locals) (hc : cells + rm.cells ≤ R.cells) (hs : slots + rm.slots ≤ R.slots) (q : Nat) (hq : pc + 3 = q)
    (k : ∀ (T' : State) (v : Option Value) (L : List Loc), Stand p l e R s m args below meth c T' (locs ++ L) (cells + rm.cells) (slots + rm.slots) → Q v T'.heap L → Goes p e below K (T'.setTop (mkF m q Ls (v.toList ++ rest)))) : Goes p e below K (T.setTop (mkF m pc Ls st)) := by
  subst hq hst
  obtain ⟨v, _, ⟨T', L', k', n'⟩, -, X', ⟨Lc, hQ, l1, y1, z1⟩, st⟩ := X.specialBack hx hy1 hown (mvT hZ w1) (mvT hZ w2) (mvT hZ w4) hy (backOf (W := W) hM hZ w4 w3 hf hl) (g := mkF m pc Ls (argsL.reverse ++ .ref a :: rest)) rfl hsz (Steps.refl _) (a := a) (argsL := argsL) (rest := rest) (lenOf hpd hlen) rfl (by show 2 * 0 + _ ≤ _; omega) (hb hby hd) (fun _ _ => ⟨rfl, eT, hc, hs⟩)
  dsimp only [Pt.U, Pt.locs, Pt.cells, Pt.slots] at X' l1 y1 z1 st hQ
  subst l1 y1 z1
  exact Goes.of (fun t kt => st.trans kt) (k _ _ _ X' hQ)
theorem g_virtual (X : Stand p l e R s m args below meth c T locs cells slots) (hx : p.tables.exec = Jvm.exec) (hby : c.code = bytes) {Z : State} {a0 : Array Value} (hZ : Z.Warmed39 s.vm) {own : String} {index : Nat} {y : MethodName} {cb : ByteArray} {maxL : Nat} {ret : Option FieldType} {rm : Room} {Q : Option Value → Heap → List Loc → Prop} {h : Heap} {z : MethodName} {C : String} (hown : s.vm.findClass own = some m.cls) (w1 : (Jvm.Cond.methodLink own index y).before a0 Z = true) (w2 : (Jvm.Cond.declares y).before a0 Z = true) (nf : NotFace s y) (w5 : (Jvm.Cond.selects C y z).before a0 Z = true) (w6 : (Jvm.Cond.instanceMethod z).before a0 Z = true) (w3 : (Jvm.Cond.initialized z.cls).before a0 Z = true) (w4 : (Jvm.Cond.code z cb maxL ret).before a0 Z = true)
    (hd : decode bytes pc = .ok (.invokevirtual index, 3)) (a : Addr) (E : Exa Z h a C) (argsL rest : List Value) {st : List Value} (hM : Ctr l z cb maxL ret [] rm (.ref a :: argsL).toArray Z h Q) (eT : T.heap = h) (hst : st = argsL.reverse ++ .ref a :: rest) (hsz : Ls.size = c.maxLocals) {ps : List FieldType} {rt : Option FieldType} (hpd : parseMethodDescriptor y.desc = some ⟨ps, rt⟩) (hlen : argsL.length = ps.length)
    (hy : y.cls ≠ "java/lang/invoke/MethodHandle" ∧ y.cls ≠ "java/lang/invoke/VarHandle") (W : Nat) (hW : (rest.map fun v => v.category).sum ≤ W) (hf : rm.frames + 1 ≤ R.frames) (hl : W + (maxL + 11) + rm.locals ≤ R.locals) (hc : cells + rm.cells ≤ R.cells) (hs : slots + rm.slots ≤ R.slots) (q : Nat) (hq : pc + 3 = q)
    (k : ∀ (T' : State) (v : Option Value) (L : List Loc), Stand p l e R s m args below meth c T' (locs ++ L) (cells + rm.cells) (slots + rm.slots) → Q v T'.heap L → Goes p e below K (T'.setTop (mkF m q Ls (v.toList ++ rest)))) : Goes p e below K (T.setTop (mkF m pc Ls st)) := by
  subst hq hst
  obtain ⟨cq, kq, qa, qb, qc⟩ := isOf hZ eT E
  obtain ⟨v, _, ⟨T', L', k', n'⟩, -, X', ⟨Lc, hQ, l1, y1, z1⟩, st⟩ := X.virtualBack hx (y := y) (z := z) hown (mvT hZ w1) (mvT hZ w2) nf (mvT hZ w5) (mvT hZ w6) hy (backOf (W := W) hM hZ w4 w3 hf hl) qa qc (g := mkF m pc Ls (argsL.reverse ++ .ref a :: rest)) rfl hsz (Steps.refl _) (argsL := argsL) (rest := rest) (lenOf hpd hlen) rfl (by show 2 * 0 + _ ≤ _; omega) (hb hby hd) (fun _ _ => ⟨rfl, eT, hc, hs⟩)
  dsimp only [Pt.U, Pt.locs, Pt.cells, Pt.slots] at X' l1 y1 z1 st hQ
  subst l1 y1 z1
  exact Goes.of (fun t kt => st.trans kt) (k _ _ _ X' hQ)
theorem g_initO (X : Stand p l e R s m args below meth c T locs cells slots) (hx : p.tables.exec = Jvm.exec) (hby : c.code = bytes) {Z : State} {a0 : Array Value} (hZ : Z.Warmed39 s.vm) {own : String} {index : Nat} {h : Heap} {a : Addr} (hown : s.vm.findClass own = some m.cls) (w1 : (Jvm.Cond.methodLink own index Lib.objectInit).before a0 Z = true) (w2 : (Jvm.Cond.instanceMethod Lib.objectInit).before a0 Z = true) (w3 : (Jvm.Cond.code Lib.objectInit ⟨#[0xb1]⟩ 1 none).before a0 Z = true)
    (hd : decode bytes pc = .ok (.invokespecial index, 3)) (eT : T.heap = h) (hsz : Ls.size = c.maxLocals) (W : Nat) (hW : (rest.map fun v => v.category).sum ≤ W) (hf : 1 ≤ R.frames) (hl : W + 12 ≤ R.locals) (q : Nat) (hq : pc + 3 = q)
    (k : ∀ T' : State, Stand p l e R s m args below meth c T' locs cells slots → T'.heap = h → Goes p e below K (T'.setTop (mkF m q Ls rest))) : Goes p e below K (T.setTop (mkF m pc Ls (.ref a :: rest))) := by
  subst hq
  obtain ⟨T', X', e', st⟩ := initO X hx hZ hown w1 w2 w3 eT (g := mkF m pc Ls (.ref a :: rest)) rfl hsz rfl (hb hby hd) hf (W := W) (by show 2 * 0 + _ ≤ _; omega) hl
  exact Goes.of st (k _ X' e')
theorem g_getfield (X : Stand p l e R s m args below meth c T locs cells slots) (hx : p.tables.exec = Jvm.exec) (hby : c.code = bytes) {Z : State} {a0 : Array Value} (hZ : Z.Warmed39 s.vm) {own R0 O n d host : String} {index : Nat} {h : Heap} {a : Addr} {v : Value} (hown : s.vm.findClass own = some m.cls) (w : (Jvm.Cond.fieldLink own index R0 n d).before a0 Z = true ∨ (Jvm.Cond.fieldLinkNest own index R0 n d host).before a0 Z = true) (via : Via Z R0 O n d) (eT : T.heap = h) (F : Fld Z h a O n d v)
    (hd : decode bytes pc = .ok (.getfield index, 3)) (q : Nat) (hq : pc + 3 = q) (k : ∀ T' : State, Stand p l e R s m args below meth c T' locs cells slots → T'.heap = h → Goes p e below K (T'.setTop (mkF m q Ls (v :: rest)))) : Goes p e below K (T.setTop (mkF m pc Ls (.ref a :: rest))) := by
  subst hq
  obtain ⟨T', X', e', st⟩ := getF X hx hZ hown w via eT F (g := mkF m pc Ls (.ref a :: rest)) rfl rfl (hb hby hd)
  exact Goes.of st (k _ X' e')
theorem g_putfield (X : Stand p l e R s m args below meth c T locs cells slots) (hx : p.tables.exec = Jvm.exec) (hby : c.code = bytes) {Z : State} {a0 : Array Value} (hZ : Z.Warmed39 s.vm) {own R0 O n d host C : String} {index kk : Nat} {ty : FieldType} {h : Heap} {a : Addr} {v old : Value} (hown : s.vm.findClass own = some m.cls) (w : (Jvm.Cond.fieldLink own index R0 n d).before a0 Z = true ∨ (Jvm.Cond.fieldLinkNest own index R0 n d host).before a0 Z = true) (via : Via Z R0 O n d) (eT : T.heap = h) (F : Fld Z h a O n d old) (E : Exa Z h a C)
    (L : (Jvm.Cond.lays C O n d).before a0 Z = true ∨ ((Jvm.Cond.laysFinal C O n d).before a0 Z = true ∧ own = O ∧ meth.name = "<init>")) (wi : (Jvm.Cond.instantiable C kk).before a0 Z = true) (hty : parseFieldDescriptor d = some ty) (hn : narrow ty v = v) (hf : fits ty v = true) (hd : decode bytes pc = .ok (.putfield index, 3)) (q : Nat) (hq : pc + 3 = q)
    (k : ∀ (T' : State) (h' : Heap), Stand p l e R s m args below meth c T' (locs ++ [⟨a, Jvm.RoadKit.slotOf Z O n d⟩]) cells slots → T'.heap = h' → Wr h h' a (Jvm.RoadKit.slotOf Z O n d) v → Goes p e below K (T'.setTop (mkF m q Ls rest))) : Goes p e below K (T.setTop (mkF m pc Ls (v :: .ref a :: rest))) := by
  subst hq
  obtain ⟨T', h', X', e', W', st⟩ := putF X hx hZ hown w via eT F E L wi hty hn hf (g := mkF m pc Ls (v :: .ref a :: rest)) rfl rfl (hb hby hd)
  exact Goes.of st (k _ _ X' e' W')
theorem g_new (X : Stand p l e R s m args below meth c T locs cells slots) (hx : p.tables.exec = Jvm.exec) (hby : c.code = bytes) {Z : State} {a0 : Array Value} (hZ : Z.Warmed39 s.vm) {own C : String} {index n : Nat} {h : Heap} (hown : s.vm.findClass own = some m.cls) (w : (Jvm.Cond.classLink own index C).before a0 Z = true) (wi : (Jvm.Cond.instantiable C n).before a0 Z = true) (wz : (Jvm.Cond.initialized C).before a0 Z = true) (eT : T.heap = h) (hd : decode bytes pc = .ok (.new index, 3)) (hc : cells + 1 ≤ R.cells) (hl : slots + n ≤ R.slots) (q : Nat) (hq : pc + 3 = q)
    (k : ∀ (T' : State) (h' : Heap) (a : Addr), a = h.size → Stand p l e R s m args below meth c T' locs (cells + 1) (slots + n) → T'.heap = h' → Ext h h' → Exa Z h' a C → (∀ {O nm d : String} {ty : FieldType}, Laid Z a0 C O nm d → parseFieldDescriptor d = some ty → Fld Z h' a O nm d (defaultValue ty)) → Goes p e below K (T'.setTop (mkF m q Ls (.ref a :: rest)))) : Goes p e below K (T.setTop (mkF m pc Ls rest)) := by
  subst hq
  obtain ⟨T', h', X', e', E', A', D', -, st⟩ := newO X hx hZ hown w wi wz eT (g := mkF m pc Ls rest) rfl (hb hby hd) hc hl
  exact Goes.of st (k _ _ _ rfl X' e' E' A' D')
def upd {α : Type} (f : Nat → α) (k : Nat) (x : α) : Nat → α := fun i => if i = k then x else f i
theorem upd_hit {α : Type} (f : Nat → α) (k : Nat) (x : α) : upd f k x k = x := if_pos rfl
theorem upd_miss {α : Type} (f : Nat → α) {k i : Nat} (x : α) (h : i ≠ k) : upd f k x i = f i := if_neg h
def ArF (Z : State) (h : Heap) (a : Addr) (ty : FieldType) (n : Nat) (f : Nat → Value) : Prop := ∃ c : Cell, Arr Z h a c ty ∧ c.slots.size = n ∧ n < 2 ^ 31 ∧ ∀ j, j < n → c.slots[j]? = some (f j)
abbrev AI (Z : State) (h : Heap) (a : Addr) (ty : FieldType) (n : Nat) (f : Nat → Int32) : Prop := ArF Z h a ty n (fun i => .int (f i))
abbrev AJ (Z : State) (h : Heap) (a : Addr) (n : Nat) (f : Nat → Int64) : Prop := ArF Z h a .long n (fun i => .long (f i))
section Arrays
variable {Z : State} {h h' : Heap} {a b : Addr} {ty : FieldType} {n : Nat} {f : Nat → Value}
theorem ArF.lt (F : ArF Z h a ty n f) : a < h.size := by obtain ⟨c, A, -⟩ := F; exact A.lt
theorem ArF.len (F : ArF Z h a ty n f) : n < 2 ^ 31 := by obtain ⟨c, -, -, q, -⟩ := F; exact q
theorem ArF.ext (F : ArF Z h a ty n f) (E : Ext h h') : ArF Z h' a ty n f := by obtain ⟨c, A, r⟩ := F; exact ⟨c, A.ext E, r⟩
theorem ArF.other {sl : Nat} {v : Value} (F : ArF Z h b ty n f) (W : Wr h h' a sl v) (q : b ≠ a) : ArF Z h' b ty n f := by obtain ⟨c, A, r⟩ := F; exact ⟨c, A.other W q, r⟩
theorem ArF.keep {ws : List Addr} (F : ArF Z h a ty n f) (K : Keep h h' ws) (q : a ∉ ws) : ArF Z h' a ty n f := by obtain ⟨c, A, r⟩ := F; exact ⟨c, ⟨K.2.1 a c A.1 q, A.2⟩, r⟩
theorem ArF.congr {g : Nat → Value} (F : ArF Z h a ty n f) (q : ∀ i, i < n → f i = g i) : ArF Z h a ty n g := by obtain ⟨c, A, r1, r2, r3⟩ := F; exact ⟨c, A, r1, r2, fun j hj => by rw [r3 j hj, q j hj]⟩
theorem ArF.fresh {k : ClassId} {z : Int32} (A : Arr Z h a (newA k ty z) ty) (q : ¬ z < 0) (e : z.toNatClampNeg = n) : ArF Z h a ty n (fun _ => defaultValue ty) := by
  subst e
  refine ⟨_, A, sz_new _ _ _, (back32 q).2, fun j hj => ?_⟩
  simp [newA, hj]
theorem ArF.set {j : Nat} {v : Value} (F : ArF Z h a ty n f) (W : Wr h h' a j v) : ArF Z h' a ty n (upd f j v) := by
  obtain ⟨c, A, r1, r2, r3⟩ := F
  refine ⟨_, A.same W, (sz_set _ _ _).trans r1, r2, fun i hi => ?_⟩
  by_cases q : i = j
  · subst q; rw [upd_hit]; simp [Cell.setSlot, r1, hi]
  · rw [upd_miss _ _ q, ← r3 i hi]
    simp only [Cell.setSlot]
    exact Array.getElem?_setIfInBounds_ne (fun y => q y.symm)
theorem AI.set {j : Nat} {x : Int32} {g : Nat → Int32} (F : AI Z h a ty n g) (W : Wr h h' a j (.int x)) : AI Z h' a ty n (upd g j x) := (ArF.set F W).congr fun i _ => by by_cases q : i = j <;> simp [upd, q]
theorem AJ.set {j : Nat} {x : Int64} {g : Nat → Int64} (F : AJ Z h a n g) (W : Wr h h' a j (.long x)) : AJ Z h' a n (upd g j x) := (ArF.set F W).congr fun i _ => by by_cases q : i = j <;> simp [upd, q]
theorem own_in {c : Cell} {j : Int32} {k : Nat} (hs : c.slots.size = n) (h0 : ¬ j < 0) (hj : j.toNatClampNeg = k) (hk : k < n) : ¬ (j < 0 ∨ c.slots.size ≤ j.toNatClampNeg) := by
  subst hs hj; exact fun y => y.elim h0 (Nat.not_le.mpr hk)
end Arrays
theorem g_newarray (X : Stand p l e R s m args below meth c T locs cells slots) (hx : p.tables.exec = Jvm.exec) (hby : c.code = bytes) {Z : State} {a0 : Array Value} (hZ : Z.Warmed39 s.vm) {aty : ArrayType} {h : Heap} {z : Int32} (w : (Jvm.Cond.arrayClass (newarray.typeOf aty)).before a0 Z = true) (eT : T.heap = h) (hd : decode bytes pc = .ok (.newarray aty, 2)) (hz : ¬ z < 0) (n : Nat) (hn : z.toNatClampNeg = n) (cap : Nat) (hcap : n ≤ cap) (hbig : cap * 8 ≤ 536870912) (hc : cells + 1 ≤ R.cells) (hl : slots + cap ≤ R.slots) (q : Nat) (hq : pc + 2 = q)
    (k : ∀ (T' : State) (h' : Heap) (a : Addr), a = h.size → Stand p l e R s m args below meth c T' locs (cells + 1) (slots + cap) → T'.heap = h' → Ext h h' → ArF Z h' a (newarray.typeOf aty) n (fun _ => defaultValue (newarray.typeOf aty)) → Goes p e below K (T'.setTop (mkF m q Ls (.ref a :: rest)))) : Goes p e below K (T.setTop (mkF m pc Ls (.int z :: rest))) := by
  subst hq
  obtain ⟨T', h', cA, X', e', E', A', st⟩ := newP X hx hZ w eT (g := mkF m pc Ls (.int z :: rest)) rfl (hb hby hd) rfl hz (cap := cap) (by rw [hn]; exact hcap) hbig hc hl
  exact Goes.of st (k _ _ _ rfl X' e' E' (ArF.fresh A' hz hn))
theorem g_arraylength (X : Stand p l e R s m args below meth c T locs cells slots) (hx : p.tables.exec = Jvm.exec) (hby : c.code = bytes) {Z : State} (hZ : Z.Warmed39 s.vm) {h : Heap} {a : Addr} {ty : FieldType} {n : Nat} {f : Nat → Value} (eT : T.heap = h) (F : ArF Z h a ty n f) (hd : decode bytes pc = .ok (.arraylength, 1)) (z : Int32) (hz : n.toInt32 = z) (q : Nat) (hq : pc + 1 = q) (k : Goes p e below K (T.setTop (mkF m q Ls (.int z :: rest)))) : Goes p e below K (T.setTop (mkF m pc Ls (.ref a :: rest))) := by
  subst hq hz
  obtain ⟨cl, A, r1, r2, r3⟩ := F
  exact Goes.of (fun t kt => X.arraylength hx (by rw [eT]; exact A.1) (State.isArrayOf_alike hZ.alike A.2.1) (g := mkF m pc Ls (.ref a :: rest)) rfl rfl (hb hby hd) t (by rw [r1]; exact kt)) k
theorem g_iaload (X : Stand p l e R s m args below meth c T locs cells slots) (hx : p.tables.exec = Jvm.exec) (hby : c.code = bytes) {Z : State} (hZ : Z.Warmed39 s.vm) {h : Heap} {a : Addr} {n : Nat} {f : Nat → Int32} {j : Int32} (eT : T.heap = h) (F : AI Z h a .int n f) (hd : decode bytes pc = .ok (.iaload, 1)) (h0 : ¬ j < 0) (i : Nat) (hj : j.toNatClampNeg = i) (hi : i < n) (x : Int32) (hfx : f i = x) (q : Nat) (hq : pc + 1 = q) (k : Goes p e below K (T.setTop (mkF m q Ls (.int x :: rest)))) : Goes p e below K (T.setTop (mkF m pc Ls (.int j :: .ref a :: rest))) := by
  subst hq hfx
  obtain ⟨cl, A, r1, r2, r3⟩ := F
  exact Goes.of (fun t kt => X.iaload hx (by rw [eT]; exact A.1) (State.isArrayOf_alike hZ.alike A.2.1) A.2.2 (own_in r1 h0 hj hi) (by rw [hj]; exact r3 i hi) (g := mkF m pc Ls (.int j :: .ref a :: rest)) rfl rfl (hb hby hd) t kt) k
theorem g_baload (X : Stand p l e R s m args below meth c T locs cells slots) (hx : p.tables.exec = Jvm.exec) (hby : c.code = bytes) {Z : State} (hZ : Z.Warmed39 s.vm) {h : Heap} {a : Addr} {n : Nat} {f : Nat → Int32} {j : Int32} (eT : T.heap = h) (F : AI Z h a .byte n f) (hd : decode bytes pc = .ok (.baload, 1)) (h0 : ¬ j < 0) (i : Nat) (hj : j.toNatClampNeg = i) (hi : i < n) (x : Int32) (hfx : f i = x) (q : Nat) (hq : pc + 1 = q) (k : Goes p e below K (T.setTop (mkF m q Ls (.int x :: rest)))) : Goes p e below K (T.setTop (mkF m pc Ls (.int j :: .ref a :: rest))) := by
  subst hq hfx
  obtain ⟨cl, A, r1, r2, r3⟩ := F
  exact Goes.of (fun t kt => X.baloadBytes hx (by rw [eT]; exact A.1) (State.isArrayOf_alike hZ.alike A.2.1) A.2.2 (own_in r1 h0 hj hi) (by rw [hj]; exact r3 i hi) (g := mkF m pc Ls (.int j :: .ref a :: rest)) rfl rfl (hb hby hd) t kt) k
theorem g_laload (X : Stand p l e R s m args below meth c T locs cells slots) (hx : p.tables.exec = Jvm.exec) (hby : c.code = bytes) {Z : State} (hZ : Z.Warmed39 s.vm) {h : Heap} {a : Addr} {n : Nat} {f : Nat → Int64} {j : Int32} (eT : T.heap = h) (F : AJ Z h a n f) (hd : decode bytes pc = .ok (.laload, 1)) (h0 : ¬ j < 0) (i : Nat) (hj : j.toNatClampNeg = i) (hi : i < n) (x : Int64) (hfx : f i = x) (q : Nat) (hq : pc + 1 = q) (k : Goes p e below K (T.setTop (mkF m q Ls (.long x :: rest)))) : Goes p e below K (T.setTop (mkF m pc Ls (.int j :: .ref a :: rest))) := by
  subst hq hfx
  obtain ⟨cl, A, r1, r2, r3⟩ := F
  exact Goes.of (fun t kt => X.laload hx (by rw [eT]; exact A.1) (State.isArrayOf_alike hZ.alike A.2.1) A.2.2 (own_in r1 h0 hj hi) (by rw [hj]; exact r3 i hi) (g := mkF m pc Ls (.int j :: .ref a :: rest)) rfl rfl (hb hby hd) t kt) k
theorem g_aaload (X : Stand p l e R s m args below meth c T locs cells slots) (hx : p.tables.exec = Jvm.exec) (hby : c.code = bytes) {Z : State} (hZ : Z.Warmed39 s.vm) {h : Heap} {a : Addr} {n : Nat} {ty : FieldType} {f : Nat → Value} {j : Int32} (eT : T.heap = h) (F : ArF Z h a ty n f) (hty : ty.isReference = true) (hd : decode bytes pc = .ok (.aaload, 1)) (h0 : ¬ j < 0) (i : Nat) (hj : j.toNatClampNeg = i) (hi : i < n) (x : Value) (hfx : f i = x) (q : Nat) (hq : pc + 1 = q) (k : Goes p e below K (T.setTop (mkF m q Ls (x :: rest)))) : Goes p e below K (T.setTop (mkF m pc Ls (.int j :: .ref a :: rest))) := by
  subst hq hfx
  obtain ⟨cl, A, r1, r2, r3⟩ := F
  exact Goes.of (fun t kt => X.aaload hx (by rw [eT]; exact A.1) (State.isArrayOf_alike hZ.alike A.2.1) hty A.2.2 (own_in r1 h0 hj hi) (by rw [hj]; exact r3 i hi) (g := mkF m pc Ls (.int j :: .ref a :: rest)) rfl rfl (hb hby hd) t kt) k
theorem g_iastore (X : Stand p l e R s m args below meth c T locs cells slots) (hx : p.tables.exec = Jvm.exec) (hby : c.code = bytes) {Z : State} (hZ : Z.Warmed39 s.vm) {h : Heap} {a : Addr} {n : Nat} {f : Nat → Int32} {j : Int32} {x : Int32} (eT : T.heap = h) (F : AI Z h a .int n f) (hd : decode bytes pc = .ok (.iastore, 1)) (h0 : ¬ j < 0) (i : Nat) (hj : j.toNatClampNeg = i) (hi : i < n) (q : Nat) (hq : pc + 1 = q)
    (k : ∀ (T' : State) (h' : Heap), Stand p l e R s m args below meth c T' (locs ++ [⟨a, i⟩]) cells slots → T'.heap = h' → Wr h h' a i (.int x) → AI Z h' a .int n (upd f i x) → Goes p e below K (T'.setTop (mkF m q Ls rest))) : Goes p e below K (T.setTop (mkF m pc Ls (.int x :: .int j :: .ref a :: rest))) := by
  subst hq
  have F' := F
  obtain ⟨cl, A, r1, r2, r3⟩ := F'
  obtain ⟨T', h', X', e', W', st⟩ := stI X hx hZ eT A (own_in r1 h0 hj hi) (g := mkF m pc Ls (.int x :: .int j :: .ref a :: rest)) rfl rfl (hb hby hd)
  rw [hj] at X' W'
  exact Goes.of st (k _ _ X' e' W' (AI.set F W'))
theorem g_bastore (X : Stand p l e R s m args below meth c T locs cells slots) (hx : p.tables.exec = Jvm.exec) (hby : c.code = bytes) {Z : State} (hZ : Z.Warmed39 s.vm) {h : Heap} {a : Addr} {n : Nat} {f : Nat → Int32} {j : Int32} {x : Int32} (eT : T.heap = h) (F : AI Z h a .byte n f) (hd : decode bytes pc = .ok (.bastore, 1)) (h0 : ¬ j < 0) (i : Nat) (hj : j.toNatClampNeg = i) (hi : i < n) (y : Int32) (hxy : x.toInt8.toInt32 = y) (q : Nat) (hq : pc + 1 = q)
    (k : ∀ (T' : State) (h' : Heap), Stand p l e R s m args below meth c T' (locs ++ [⟨a, i⟩]) cells slots → T'.heap = h' → Wr h h' a i (.int y) → AI Z h' a .byte n (upd f i y) → Goes p e below K (T'.setTop (mkF m q Ls rest))) : Goes p e below K (T.setTop (mkF m pc Ls (.int x :: .int j :: .ref a :: rest))) := by
  subst hq hxy
  have F' := F
  obtain ⟨cl, A, r1, r2, r3⟩ := F'
  obtain ⟨T', h', X', e', W', st⟩ := stB X hx hZ eT A (own_in r1 h0 hj hi) (g := mkF m pc Ls (.int x :: .int j :: .ref a :: rest)) rfl rfl (hb hby hd)
  rw [hj] at X' W'
  exact Goes.of st (k _ _ X' e' W' (AI.set F W'))
theorem g_lastore (X : Stand p l e R s m args below meth c T locs cells slots) (hx : p.tables.exec = Jvm.exec) (hby : c.code = bytes) {Z : State} (hZ : Z.Warmed39 s.vm) {h : Heap} {a : Addr} {n : Nat} {f : Nat → Int64} {j : Int32} {x : Int64} (eT : T.heap = h) (F : AJ Z h a n f) (hd : decode bytes pc = .ok (.lastore, 1)) (h0 : ¬ j < 0) (i : Nat) (hj : j.toNatClampNeg = i) (hi : i < n) (q : Nat) (hq : pc + 1 = q)
    (k : ∀ (T' : State) (h' : Heap), Stand p l e R s m args below meth c T' (locs ++ [⟨a, i⟩]) cells slots → T'.heap = h' → Wr h h' a i (.long x) → AJ Z h' a n (upd f i x) → Goes p e below K (T'.setTop (mkF m q Ls rest))) : Goes p e below K (T.setTop (mkF m pc Ls (.long x :: .int j :: .ref a :: rest))) := by
  subst hq
  have F' := F
  obtain ⟨cl, A, r1, r2, r3⟩ := F'
  obtain ⟨T', h', X', e', W', st⟩ := stJ X hx hZ eT A (own_in r1 h0 hj hi) (g := mkF m pc Ls (.long x :: .int j :: .ref a :: rest)) rfl rfl (hb hby hd)
  rw [hj] at X' W'
  exact Goes.of st (k _ _ X' e' W' (AJ.set F W'))
def ArO (Z : State) (h : Heap) (a : Addr) (C : String) (n : Nat) (f : Nat → Value) : Prop := ∃ c : Cell, Arr Z h a c (.object C) ∧ c.slots.size = n ∧ n < 2 ^ 31 ∧ (∀ j, j < n → c.slots[j]? = some (f j)) ∧ Ovr Z c.cls C
section ArraysO
variable {Z : State} {h h' : Heap} {a b : Addr} {C : String} {n : Nat} {f : Nat → Value}
theorem ArO.toF (F : ArO Z h a C n f) : ArF Z h a (.object C) n f := by obtain ⟨c, A, r1, r2, r3, -⟩ := F; exact ⟨c, A, r1, r2, r3⟩
theorem ArO.lt (F : ArO Z h a C n f) : a < h.size := F.toF.lt
theorem ArO.ext (F : ArO Z h a C n f) (E : Ext h h') : ArO Z h' a C n f := by obtain ⟨c, A, r⟩ := F; exact ⟨c, A.ext E, r⟩
theorem ArO.other {sl : Nat} {v : Value} (F : ArO Z h b C n f) (W : Wr h h' a sl v) (q : b ≠ a) : ArO Z h' b C n f := by obtain ⟨c, A, r⟩ := F; exact ⟨c, A.other W q, r⟩
theorem ArO.keep {ws : List Addr} (F : ArO Z h a C n f) (K : Keep h h' ws) (q : a ∉ ws) : ArO Z h' a C n f := by obtain ⟨c, A, r⟩ := F; exact ⟨c, ⟨K.2.1 a c A.1 q, A.2⟩, r⟩
theorem ArO.congr {g : Nat → Value} (F : ArO Z h a C n f) (q : ∀ i, i < n → f i = g i) : ArO Z h a C n g := by obtain ⟨c, A, r1, r2, r3, r4⟩ := F; exact ⟨c, A, r1, r2, fun j hj => by rw [r3 j hj, q j hj], r4⟩
theorem ArO.fresh {k : ClassId} {z : Int32} (A : Arr Z h a (newA k (.object C) z) (.object C)) (O : Ovr Z k C) (q : ¬ z < 0) (e : z.toNatClampNeg = n) : ArO Z h a C n (fun _ => .null) := by
  subst e
  refine ⟨_, A, sz_new _ _ _, (back32 q).2, fun j hj => ?_, O⟩
  simp [newA, hj, defaultValue]
theorem ArO.set {j : Nat} {v : Value} (F : ArO Z h a C n f) (W : Wr h h' a j v) : ArO Z h' a C n (upd f j v) := by
  obtain ⟨c, A, r1, r2, r3, r4⟩ := F
  refine ⟨_, A.same W, (sz_set _ _ _).trans r1, r2, fun i hi => ?_, r4⟩
  by_cases q : i = j
  · subst q; rw [upd_hit]; simp [Cell.setSlot, r1, hi]
  · rw [upd_miss _ _ q, ← r3 i hi]
    simp only [Cell.setSlot]
    exact Array.getElem?_setIfInBounds_ne (fun y => q y.symm)
theorem ArO.sto {y : Addr} (F : ArO Z h a C n f) (I : Ins Z h y C true) : Sto Z h a (.ref y) := by obtain ⟨c, A, -, -, -, O⟩ := F; exact Sto.of A O I
end ArraysO
theorem g_anewarray (X : Stand p l e R s m args below meth c T locs cells slots) (hx : p.tables.exec = Jvm.exec) (hby : c.code = bytes) {Z : State} {a0 : Array Value} (hZ : Z.Warmed39 s.vm) {own C : String} {index : Nat} {h : Heap} {z : Int32} (hown : s.vm.findClass own = some m.cls) (w1 : (Jvm.Cond.classLink own index C).before a0 Z = true) (w2 : (Jvm.Cond.arrayOver (.object C)).before a0 Z = true) (eT : T.heap = h) (hd : decode bytes pc = .ok (.anewarray index, 3)) (hz : ¬ z < 0) (n : Nat) (hn : z.toNatClampNeg = n) (cap : Nat) (hcap : n ≤ cap) (hbig : cap * 8 ≤ 536870912) (hc : cells + 1 ≤ R.cells) (hl : slots + cap ≤ R.slots) (q : Nat) (hq : pc + 3 = q)
    (k : ∀ (T' : State) (h' : Heap) (a : Addr), a = h.size → Stand p l e R s m args below meth c T' locs (cells + 1) (slots + cap) → T'.heap = h' → Ext h h' → ArO Z h' a C n (fun _ => .null) → Goes p e below K (T'.setTop (mkF m q Ls (.ref a :: rest)))) : Goes p e below K (T.setTop (mkF m pc Ls (.int z :: rest))) := by
  subst hq
  obtain ⟨T', h', cA, X', e', E', A', O', st⟩ := newR X hx hZ hown w1 w2 eT (g := mkF m pc Ls (.int z :: rest)) rfl (hb hby hd) rfl hz (cap := cap) (by rw [hn]; exact hcap) hbig hc hl
  exact Goes.of st (k _ _ _ rfl X' e' E' (ArO.fresh A' O' hz hn))
theorem g_aastore (X : Stand p l e R s m args below meth c T locs cells slots) (hx : p.tables.exec = Jvm.exec) (hby : c.code = bytes) {Z : State} (hZ : Z.Warmed39 s.vm) {h : Heap} {a : Addr} {n : Nat} {C : String} {f : Nat → Value} {j : Int32} {x : Value} (eT : T.heap = h) (F : ArO Z h a C n f) (S : Sto Z h a x) (hd : decode bytes pc = .ok (.aastore, 1)) (h0 : ¬ j < 0) (i : Nat) (hj : j.toNatClampNeg = i) (hi : i < n) (q : Nat) (hq : pc + 1 = q)
    (k : ∀ (T' : State) (h' : Heap), Stand p l e R s m args below meth c T' (locs ++ [⟨a, i⟩]) cells slots → T'.heap = h' → Wr h h' a i x → ArO Z h' a C n (upd f i x) → Goes p e below K (T'.setTop (mkF m q Ls rest))) : Goes p e below K (T.setTop (mkF m pc Ls (x :: .int j :: .ref a :: rest))) := by
  subst hq
  have F' := F
  obtain ⟨cl, A, r1, r2, r3, r4⟩ := F'
  obtain ⟨T', h', X', e', W', st⟩ := stR X hx hZ eT A (own_in r1 h0 hj hi) rfl S (g := mkF m pc Ls (x :: .int j :: .ref a :: rest)) rfl rfl (hb hby hd)
  rw [hj] at X' W'
  exact Goes.of st (k _ _ X' e' W' (ArO.set F W'))
theorem g_checkcast (X : Stand p l e R s m args below meth c T locs cells slots) (hx : p.tables.exec = Jvm.exec) (hby : c.code = bytes) {Z : State} {a0 : Array Value} (hZ : Z.Warmed39 s.vm) {own C : String} {index : Nat} {h : Heap} {a : Addr} (hown : s.vm.findClass own = some m.cls) (w : (Jvm.Cond.classLink own index C).before a0 Z = true) (eT : T.heap = h) (I : Ins Z h a C true) (hd : decode bytes pc = .ok (.checkcast index, 3)) (q : Nat) (hq : pc + 3 = q)
    (k : ∀ T' : State, Stand p l e R s m args below meth c T' locs cells slots → T'.heap = h → Goes p e below K (T'.setTop (mkF m q Ls (.ref a :: rest)))) : Goes p e below K (T.setTop (mkF m pc Ls (.ref a :: rest))) := by
  subst hq
  obtain ⟨T', X', e', st⟩ := castY X hx hZ hown w eT I (g := mkF m pc Ls (.ref a :: rest)) rfl rfl (hb hby hd)
  exact Goes.of st (k _ X' e')
theorem g_getstatic (X : Stand p l e R s m args below meth c T locs cells slots) (hx : p.tables.exec = Jvm.exec) (hby : c.code = bytes) {Z : State} {a0 : Array Value} (hZ : Z.Warmed39 s.vm) {own R0 O n d host : String} {index : Nat} {h : Heap} {v : Value} (hown : s.vm.findClass own = some m.cls) (w : (Jvm.Cond.fieldLink own index R0 n d).before a0 Z = true ∨ (Jvm.Cond.fieldLinkNest own index R0 n d host).before a0 Z = true) (via : Via Z R0 O n d) (eT : T.heap = h) (F : Sta Z h O n d v) (hd : decode bytes pc = .ok (.getstatic index, 3)) (q : Nat) (hq : pc + 3 = q)
    (k : ∀ T' : State, Stand p l e R s m args below meth c T' locs cells slots → T'.heap = h → Goes p e below K (T'.setTop (mkF m q Ls (v :: rest)))) : Goes p e below K (T.setTop (mkF m pc Ls rest)) := by
  subst hq
  obtain ⟨T', X', e', st⟩ := getS2 X hx hZ hown w via eT F (g := mkF m pc Ls rest) rfl (hb hby hd)
  exact Goes.of st (k _ X' e')
theorem own_fm {r n d : String} (h1 : r ≠ "java/lang/invoke/MethodHandle") (h2 : r ≠ "java/lang/invoke/VarHandle") : ((Jvm.Cond.interfaceMethod r r n d).onTables && (Jvm.Cond.interfaceMethod r r n d).keepsFace) = true := by
  have e : ((Jvm.Cond.interfaceMethod r r n d).onTables && (Jvm.Cond.interfaceMethod r r n d).keepsFace) = (r == r && r != "java/lang/invoke/MethodHandle" && r != "java/lang/invoke/VarHandle") := rfl
  rw [e]; simp [h1, h2]
theorem g_interface (X : Stand p l e R s m args below meth c T locs cells slots) (hx : p.tables.exec = Jvm.exec) (hby : c.code = bytes) {Z : State} {a0 : Array Value} (hZ : Z.Warmed39 s.vm) {own : String} {index : Nat} {y : MethodName} {cb : ByteArray} {maxL : Nat} {ret : Option FieldType} {rm : Room} {Q : Option Value → Heap → List Loc → Prop} {h : Heap} {z : MethodName} {C : String} {count : Nat} (hown : s.vm.findClass own = some m.cls) (w1 : (Jvm.Cond.methodLink own index y).before a0 Z = true) (w2 : (Jvm.Cond.declares y).before a0 Z = true) (w7 : (Jvm.Cond.interfaceMethod y.cls y.cls y.name y.desc).before a0 Z = true) (w5 : (Jvm.Cond.selects C y z).before a0 Z = true) (w6 : (Jvm.Cond.instanceMethod z).before a0 Z = true) (w8 : (Jvm.Cond.publicMethod z).before a0 Z = true) (w9 : (Jvm.Cond.unhidden C y.name y.desc).before a0 Z = true) (w10 : (Jvm.Cond.castable C y.cls).before a0 Z = true) (w3 : (Jvm.Cond.initialized z.cls).before a0 Z = true) (w4 : (Jvm.Cond.code z cb maxL ret).before a0 Z = true)
    (hd : decode bytes pc = .ok (.invokeinterface index count, 5)) (a : Addr) (E : Exa Z h a C) (argsL rest : List Value) {st : List Value} (hM : Ctr l z cb maxL ret [] rm (.ref a :: argsL).toArray Z h Q) (eT : T.heap = h) (hst : st = argsL.reverse ++ .ref a :: rest) (hsz : Ls.size = c.maxLocals) {ps : List FieldType} {rt : Option FieldType} (hpd : parseMethodDescriptor y.desc = some ⟨ps, rt⟩) (hlen : argsL.length = ps.length)
    (hy : y.cls ≠ "java/lang/invoke/MethodHandle" ∧ y.cls ≠ "java/lang/invoke/VarHandle") (W : Nat) (hW : (rest.map fun v => v.category).sum ≤ W) (hf : rm.frames + 1 ≤ R.frames) (hl : W + (maxL + 11) + rm.locals ≤ R.locals) (hc : cells + rm.cells ≤ R.cells) (hs : slots + rm.slots ≤ R.slots) (q : Nat) (hq : pc + 5 = q)
    (k : ∀ (T' : State) (v : Option Value) (L : List Loc), Stand p l e R s m args below meth c T' (locs ++ L) (cells + rm.cells) (slots + rm.slots) → Q v T'.heap L → Goes p e below K (T'.setTop (mkF m q Ls (v.toList ++ rest)))) : Goes p e below K (T.setTop (mkF m pc Ls st)) := by
  subst hq hst
  obtain ⟨cq, kq, qa, qb, qc⟩ := isOf hZ eT E
  obtain ⟨v, _, ⟨T', L', k', n'⟩, -, X', ⟨Lc, hQ, l1, y1, z1⟩, st⟩ := X.interfaceBack hx (xi := y) (y := z) hown (mvT hZ w1) (mvT hZ w2) (mvT hZ w7 (own_fm hy.1 hy.2)) (mvT hZ w5) (mvT hZ w6) (mvT hZ w8) (mvT hZ w9) (mvT hZ w10) hy (backOf (W := W) hM hZ w4 w3 hf hl) qa qb qc (g := mkF m pc Ls (argsL.reverse ++ .ref a :: rest)) rfl hsz (Steps.refl _) (argsL := argsL) (rest := rest) (lenOf hpd hlen) rfl (by show 2 * 0 + _ ≤ _; omega) (hb hby hd) (fun _ _ => ⟨rfl, eT, hc, hs⟩)
  dsimp only [Pt.U, Pt.locs, Pt.cells, Pt.slots] at X' l1 y1 z1 st hQ
  subst l1 y1 z1
  exact Goes.of (fun t kt => st.trans kt) (k _ _ _ X' hQ)
end OwnKit
theorem byte2 (x : Int32) : x.toInt8.toInt32.toInt8.toInt32 = x.toInt8.toInt32 := by simp
theorem own_ite01 {P : Prop} [Decidable P] : (if P then (1 : Int32) else 0) = 0 ∨ (if P then (1 : Int32) else 0) = 1 := by by_cases h : P <;> simp [h]
theorem own_and31 (x : Int32) : (x &&& (2147483647 : Int32)).toInt = x.toInt % 2147483648 := c_mask x 2147483647 31 (by decide) (by decide)
theorem own_rem (x k : Int32) (d : Int) (hk : k.toInt = d) (hd : 0 < d) : 0 ≤ ((x &&& (2147483647 : Int32)) % k).toInt ∧ ((x &&& (2147483647 : Int32)) % k).toInt < d := by
  have h1 := own_and31 x
  have h2 := (c_irem (x &&& (2147483647 : Int32)) k d hk).1 (by omega)
  rw [h2]; exact ⟨Int.emod_nonneg _ (by omega), Int.emod_lt_of_pos _ hd⟩
theorem own_nn {j : Int32} (h : 0 ≤ j.toInt) : ¬ j < 0 := by
  rw [Int32.lt_iff_toInt_lt]; show ¬ j.toInt < 0; omega
theorem own_lt {j : Int32} {n : Nat} (h : j.toInt < n) (hn : 0 < n) : j.toNatClampNeg < n := by
  show j.toInt.toNat < n; omega

def zeroBit (rr : Int32) : Int32 := if (rr &&& (1 : Int32)) = 0 then ((((rr.toUInt32 >>> ((1 : Int32) &&& 31).toUInt32).toInt32) ^^^ (0 : Int32))) else ((((rr.toUInt32 >>> ((1 : Int32) &&& 31).toUInt32).toInt32) ^^^ (-306674912 : Int32)))
theorem d2_0 : decode method_2_code 0 = .ok (.iload_n 0, 1) := by decide +kernel
theorem d2_1 : decode method_2_code 1 = .ok (.iconst 1, 1) := by decide +kernel
theorem d2_2 : decode method_2_code 2 = .ok (.iushr, 1) := by decide +kernel
theorem d2_3 : decode method_2_code 3 = .ok (.iload_n 0, 1) := by decide +kernel
theorem d2_4 : decode method_2_code 4 = .ok (.iconst 1, 1) := by decide +kernel
theorem d2_5 : decode method_2_code 5 = .ok (.iand, 1) := by decide +kernel
theorem d2_6 : decode method_2_code 6 = .ok (.ifCond .eq 8, 3) := by decide +kernel
theorem d2_9 : decode method_2_code 9 = .ok (.ldc 7, 2) := by decide +kernel
theorem d2_11 : decode method_2_code 11 = .ok (.goto 4, 3) := by decide +kernel
theorem d2_14 : decode method_2_code 14 = .ok (.iconst 0, 1) := by decide +kernel
theorem d2_15 : decode method_2_code 15 = .ok (.ixor, 1) := by decide +kernel
theorem d2_16 : decode method_2_code 16 = .ok (.ireturn, 1) := by decide +kernel
theorem pn2 : plainFor (⟨"com/example/lasting_record/lastingrecord/warc/GzipMemberEncodingConcatenatedPinLaw", "zeroBit", "(I)I"⟩ : MethodName) = true := plainFor_of_name (by first | (simp [plainName, overriddenIn]; done) | decide +kernel)
theorem ef2 (m : MethodId) (rr : Int32) : entryFrame m #[(.int rr)] 1 = mkF m 0 #[.val (.int rr)] [] := by first | (simp [entryFrame, mkF, argsToLocals, Value.category]; done) | rfl
def Q2 (rr : Int32) (Z : State) (h0 : Heap) (n0 : Nat) (v : Option Value) (h : Heap) (L : List Loc) : Prop := v = some (.int (zeroBit rr)) ∧ Fr n0 L ∧ h = h0
set_option maxRecDepth 65536 in
set_option maxHeartbeats 40000000 in
theorem rm2 (l : Launch) (Z : State) (a0 : Array Value) (hw : ∀ d ∈ tables_1, d.before a0 Z = true) (ws : List Jvm.Cond) (rr : Int32) (h0 : Heap) (n0 : Nat) (Z0 : n0 ≤ h0.size) : Ctr l (⟨"com/example/lasting_record/lastingrecord/warc/GzipMemberEncodingConcatenatedPinLaw", "zeroBit", "(I)I"⟩ : MethodName) method_2_code 1 (some .int) ws ({ frames := 0, cells := 0, slots := 0, locals := 0 } : Room) #[(.int rr)] Z h0 (Q2 rr Z h0 n0) := by
  refine own_body pn2 ?_
  intro p e s m below meth c T0 hx hby hml hown hnm hret hlk hZ X0 e0
  have N0 := Fr.nil n0
  refine Goes.entry (ef2 m rr) ?_
  refine g_iloadN X0 hx hby d2_0 rfl 1 rfl ?_
  refine g_iconst X0 hx hby d2_1 (1 : Int32) rfl 2 rfl ?_
  refine g_iushr X0 hx hby d2_2 3 rfl ?_
  refine g_iloadN X0 hx hby d2_3 rfl 4 rfl ?_
  refine g_iconst X0 hx hby d2_4 (1 : Int32) rfl 5 rfl ?_
  refine g_iand X0 hx hby d2_5 6 rfl ?_
  refine g_if_eq X0 hx hby d2_6 14 9 (by decide) (by decide) rfl (fun c1 => ?_) (fun c1 => ?_)
  · -- c1
    refine g_iconst X0 hx hby d2_14 (0 : Int32) rfl 15 rfl ?_
    refine g_ixor X0 hx hby d2_15 16 rfl ?_
    exact g_ireturn X0 hx hby hret hlk (Or.inl rfl) rfl d2_16 (by exact ⟨congrArg (fun z => some (Value.int z)) (if_pos c1).symm, N0, e0⟩) (by decide) (by decide)
  · -- not c1
    refine g_ldc X0 hx hby hZ hown (hw _ (List.mem_of_getElem? (i := 9) rfl)) d2_9 11 rfl ?_
    refine g_goto X0 hx hby d2_11 15 (by decide) (by decide) ?_
    refine g_ixor X0 hx hby d2_15 16 rfl ?_
    exact g_ireturn X0 hx hby hret hlk (Or.inl rfl) rfl d2_16 (by exact ⟨congrArg (fun z => some (Value.int z)) (if_neg c1).symm, N0, e0⟩) (by decide) (by decide)
def zeroByte (rr : Int32) : Int32 := (zeroBit (zeroBit (zeroBit (zeroBit (zeroBit (zeroBit (zeroBit (zeroBit rr))))))))
theorem pd0 : parseMethodDescriptor "(I)I" = some ⟨[.int], some .int⟩ := by decide +kernel
theorem d1_0 : decode method_3_code 0 = .ok (.iload_n 0, 1) := by decide +kernel
theorem d1_1 : decode method_3_code 1 = .ok (.invokestatic 8, 3) := by decide +kernel
theorem d1_4 : decode method_3_code 4 = .ok (.invokestatic 8, 3) := by decide +kernel
theorem d1_7 : decode method_3_code 7 = .ok (.invokestatic 8, 3) := by decide +kernel
theorem d1_10 : decode method_3_code 10 = .ok (.invokestatic 8, 3) := by decide +kernel
theorem d1_13 : decode method_3_code 13 = .ok (.invokestatic 8, 3) := by decide +kernel
theorem d1_16 : decode method_3_code 16 = .ok (.invokestatic 8, 3) := by decide +kernel
theorem d1_19 : decode method_3_code 19 = .ok (.invokestatic 8, 3) := by decide +kernel
theorem d1_22 : decode method_3_code 22 = .ok (.invokestatic 8, 3) := by decide +kernel
theorem d1_25 : decode method_3_code 25 = .ok (.ireturn, 1) := by decide +kernel
theorem pn1 : plainFor (⟨"com/example/lasting_record/lastingrecord/warc/GzipMemberEncodingConcatenatedPinLaw", "zeroByte", "(I)I"⟩ : MethodName) = true := plainFor_of_name (by first | (simp [plainName, overriddenIn]; done) | decide +kernel)
theorem ef1 (m : MethodId) (rr : Int32) : entryFrame m #[(.int rr)] 1 = mkF m 0 #[.val (.int rr)] [] := by first | (simp [entryFrame, mkF, argsToLocals, Value.category]; done) | rfl
def Q1 (rr : Int32) (Z : State) (h0 : Heap) (n0 : Nat) (v : Option Value) (h : Heap) (L : List Loc) : Prop := v = some (.int (zeroByte rr)) ∧ Fr n0 L ∧ h = h0
set_option maxRecDepth 65536 in
set_option maxHeartbeats 40000000 in
theorem rm1 (l : Launch) (Z : State) (a0 : Array Value) (hw : ∀ d ∈ tables_1, d.before a0 Z = true) (ws : List Jvm.Cond) (rr : Int32) (h0 : Heap) (n0 : Nat) (Z0 : n0 ≤ h0.size) : Ctr l (⟨"com/example/lasting_record/lastingrecord/warc/GzipMemberEncodingConcatenatedPinLaw", "zeroByte", "(I)I"⟩ : MethodName) method_3_code 1 (some .int) ws ({ frames := 1, cells := 0, slots := 0, locals := 12 } : Room) #[(.int rr)] Z h0 (Q1 rr Z h0 n0) := by
  refine own_body pn1 ?_
  intro p e s m below meth c T0 hx hby hml hown hnm hret hlk hZ X0 e0
  have N0 := Fr.nil n0
  refine Goes.entry (ef1 m rr) ?_
  refine g_iloadN X0 hx hby d1_0 rfl 1 rfl ?_
  refine g_callS X0 hx hby hZ hown (hw _ (List.mem_of_getElem? (i := 6) rfl)) (hw _ (List.mem_of_getElem? (i := 7) rfl)) (hw _ (List.mem_of_getElem? (i := 4) rfl)) (hw _ (List.mem_of_getElem? (i := 8) rfl)) d1_1 [(.int rr)] [] (rm2 l Z a0 hw [] rr h0 n0 Z0) e0 rfl (by rw [hml]; rfl) pd0 rfl (by decide) 0 (Nat.le_of_eq rfl) (by decide) (by decide) (by decide) (by decide) 4 rfl ?_
  intro T1 v1 L1 X1 Q1
  obtain ⟨rfl, N1', e1⟩ := Q1
  have N1 := Fr.app N0 N1'
  show Goes p e below _ (T1.setTop (mkF m 4 _ [(.int (zeroBit rr))]))
  refine g_callS X1 hx hby hZ hown (hw _ (List.mem_of_getElem? (i := 6) rfl)) (hw _ (List.mem_of_getElem? (i := 7) rfl)) (hw _ (List.mem_of_getElem? (i := 4) rfl)) (hw _ (List.mem_of_getElem? (i := 8) rfl)) d1_4 [(.int (zeroBit rr))] [] (rm2 l Z a0 hw [] (zeroBit rr) h0 n0 Z0) e1 rfl (by rw [hml]; rfl) pd0 rfl (by decide) 0 (Nat.le_of_eq rfl) (by decide) (by decide) (by decide) (by decide) 7 rfl ?_
  intro T2 v2 L2 X2 Q2
  obtain ⟨rfl, N2', e2⟩ := Q2
  have N2 := Fr.app N1 N2'
  show Goes p e below _ (T2.setTop (mkF m 7 _ [(.int (zeroBit (zeroBit rr)))]))
  refine g_callS X2 hx hby hZ hown (hw _ (List.mem_of_getElem? (i := 6) rfl)) (hw _ (List.mem_of_getElem? (i := 7) rfl)) (hw _ (List.mem_of_getElem? (i := 4) rfl)) (hw _ (List.mem_of_getElem? (i := 8) rfl)) d1_7 [(.int (zeroBit (zeroBit rr)))] [] (rm2 l Z a0 hw [] (zeroBit (zeroBit rr)) h0 n0 Z0) e2 rfl (by rw [hml]; rfl) pd0 rfl (by decide) 0 (Nat.le_of_eq rfl) (by decide) (by decide) (by decide) (by decide) 10 rfl ?_
  intro T3 v3 L3 X3 Q3
  obtain ⟨rfl, N3', e3⟩ := Q3
  have N3 := Fr.app N2 N3'
  show Goes p e below _ (T3.setTop (mkF m 10 _ [(.int (zeroBit (zeroBit (zeroBit rr))))]))
  refine g_callS X3 hx hby hZ hown (hw _ (List.mem_of_getElem? (i := 6) rfl)) (hw _ (List.mem_of_getElem? (i := 7) rfl)) (hw _ (List.mem_of_getElem? (i := 4) rfl)) (hw _ (List.mem_of_getElem? (i := 8) rfl)) d1_10 [(.int (zeroBit (zeroBit (zeroBit rr))))] [] (rm2 l Z a0 hw [] (zeroBit (zeroBit (zeroBit rr))) h0 n0 Z0) e3 rfl (by rw [hml]; rfl) pd0 rfl (by decide) 0 (Nat.le_of_eq rfl) (by decide) (by decide) (by decide) (by decide) 13 rfl ?_
  intro T4 v4 L4 X4 Q4
  obtain ⟨rfl, N4', e4⟩ := Q4
  have N4 := Fr.app N3 N4'
  show Goes p e below _ (T4.setTop (mkF m 13 _ [(.int (zeroBit (zeroBit (zeroBit (zeroBit rr)))))]))
  refine g_callS X4 hx hby hZ hown (hw _ (List.mem_of_getElem? (i := 6) rfl)) (hw _ (List.mem_of_getElem? (i := 7) rfl)) (hw _ (List.mem_of_getElem? (i := 4) rfl)) (hw _ (List.mem_of_getElem? (i := 8) rfl)) d1_13 [(.int (zeroBit (zeroBit (zeroBit (zeroBit rr)))))] [] (rm2 l Z a0 hw [] (zeroBit (zeroBit (zeroBit (zeroBit rr)))) h0 n0 Z0) e4 rfl (by rw [hml]; rfl) pd0 rfl (by decide) 0 (Nat.le_of_eq rfl) (by decide) (by decide) (by decide) (by decide) 16 rfl ?_
  intro T5 v5 L5 X5 Q5
  obtain ⟨rfl, N5', e5⟩ := Q5
  have N5 := Fr.app N4 N5'
  show Goes p e below _ (T5.setTop (mkF m 16 _ [(.int (zeroBit (zeroBit (zeroBit (zeroBit (zeroBit rr))))))]))
  refine g_callS X5 hx hby hZ hown (hw _ (List.mem_of_getElem? (i := 6) rfl)) (hw _ (List.mem_of_getElem? (i := 7) rfl)) (hw _ (List.mem_of_getElem? (i := 4) rfl)) (hw _ (List.mem_of_getElem? (i := 8) rfl)) d1_16 [(.int (zeroBit (zeroBit (zeroBit (zeroBit (zeroBit rr))))))] [] (rm2 l Z a0 hw [] (zeroBit (zeroBit (zeroBit (zeroBit (zeroBit rr))))) h0 n0 Z0) e5 rfl (by rw [hml]; rfl) pd0 rfl (by decide) 0 (Nat.le_of_eq rfl) (by decide) (by decide) (by decide) (by decide) 19 rfl ?_
  intro T6 v6 L6 X6 Q6
  obtain ⟨rfl, N6', e6⟩ := Q6
  have N6 := Fr.app N5 N6'
  show Goes p e below _ (T6.setTop (mkF m 19 _ [(.int (zeroBit (zeroBit (zeroBit (zeroBit (zeroBit (zeroBit rr)))))))]))
  refine g_callS X6 hx hby hZ hown (hw _ (List.mem_of_getElem? (i := 6) rfl)) (hw _ (List.mem_of_getElem? (i := 7) rfl)) (hw _ (List.mem_of_getElem? (i := 4) rfl)) (hw _ (List.mem_of_getElem? (i := 8) rfl)) d1_19 [(.int (zeroBit (zeroBit (zeroBit (zeroBit (zeroBit (zeroBit rr)))))))] [] (rm2 l Z a0 hw [] (zeroBit (zeroBit (zeroBit (zeroBit (zeroBit (zeroBit rr)))))) h0 n0 Z0) e6 rfl (by rw [hml]; rfl) pd0 rfl (by decide) 0 (Nat.le_of_eq rfl) (by decide) (by decide) (by decide) (by decide) 22 rfl ?_
  intro T7 v7 L7 X7 Q7
  obtain ⟨rfl, N7', e7⟩ := Q7
  have N7 := Fr.app N6 N7'
  show Goes p e below _ (T7.setTop (mkF m 22 _ [(.int (zeroBit (zeroBit (zeroBit (zeroBit (zeroBit (zeroBit (zeroBit rr))))))))]))
  refine g_callS X7 hx hby hZ hown (hw _ (List.mem_of_getElem? (i := 6) rfl)) (hw _ (List.mem_of_getElem? (i := 7) rfl)) (hw _ (List.mem_of_getElem? (i := 4) rfl)) (hw _ (List.mem_of_getElem? (i := 8) rfl)) d1_22 [(.int (zeroBit (zeroBit (zeroBit (zeroBit (zeroBit (zeroBit (zeroBit rr))))))))] [] (rm2 l Z a0 hw [] (zeroBit (zeroBit (zeroBit (zeroBit (zeroBit (zeroBit (zeroBit rr))))))) h0 n0 Z0) e7 rfl (by rw [hml]; rfl) pd0 rfl (by decide) 0 (Nat.le_of_eq rfl) (by decide) (by decide) (by decide) (by decide) 25 rfl ?_
  intro T8 v8 L8 X8 Q8
  obtain ⟨rfl, N8', e8⟩ := Q8
  have N8 := Fr.app N7 N8'
  show Goes p e below _ (T8.setTop (mkF m 25 _ [(.int (zeroBit (zeroBit (zeroBit (zeroBit (zeroBit (zeroBit (zeroBit (zeroBit rr)))))))))]))
  exact g_ireturn X8 hx hby hret hlk (Or.inl rfl) rfl d1_25 (by exact ⟨congrArg (fun z => some (Value.int z)) rfl, N8, e8⟩) (by decide) (by decide)
abbrev bit0 (v : Int32) (k : Nat) : Prop := (((v.toUInt32 >>> ((Int32.ofNat k) &&& 31).toUInt32).toInt32) &&& (1 : Int32)) = 0
def tmR (f : Nat → Int32) (v : Int32) : Nat → Int32
  | 0 => 0
  | k + 1 => if bit0 v k then tmR f v k else tmR f v k ^^^ f k
theorem own_nat32 {i : Int32} {n : Nat} (h : i.toInt = n) : i = Int32.ofNat n := by
  apply Int32.toInt_inj.mp
  have r := rng32 i
  rw [h]; exact (len_toInt (by omega)).symm
theorem own_i1 {i : Int32} {n : Nat} (h : i.toInt = n) (hn : n < 100) : (i + 1).toInt = (n + 1 : Nat) := by
  have h1 := c_iadd i 1
  have h2 := rng32 (i + 1)
  have e1 : (1 : Int32).toInt = 1 := rfl
  omega
theorem own_clamp {i : Int32} {n : Nat} (h : i.toInt = n) : i.toNatClampNeg = n := by
  show i.toInt.toNat = n; omega
theorem own_lt32 {i : Int32} {n : Nat} (h : i.toInt = n) (q : i < 32) : n < 32 := by
  rw [Int32.lt_iff_toInt_lt] at q; have e : (32 : Int32).toInt = 32 := rfl
  omega
theorem own_ge32 {i : Int32} {n : Nat} (h : i.toInt = n) (hn : n ≤ 32) (q : ¬ i < 32) : n = 32 := by
  rw [Int32.lt_iff_toInt_lt] at q; have e : (32 : Int32).toInt = 32 := rfl
  omega
theorem tm_bit {i v : Int32} {n : Nat} (h : i.toInt = n) : ((((v.toUInt32 >>> (i &&& 31).toUInt32).toInt32) &&& (1 : Int32)) = 0) = bit0 v n := by rw [own_nat32 h]

theorem own_tn {i v y : Int32} {n : Nat} {f : Nat → Int32} (hi : i.toInt = n) (hy : y = tmR f v n) (q : (((v.toUInt32 >>> (i &&& 31).toUInt32).toInt32) &&& (1 : Int32)) = 0) : y = tmR f v (n + 1) := by
  rw [tm_bit hi] at q; rw [hy, tmR, if_pos q]
theorem own_tx {i v y : Int32} {n : Nat} {f : Nat → Int32} (hi : i.toInt = n) (hy : y = tmR f v n) (q : ¬ (((v.toUInt32 >>> (i &&& 31).toUInt32).toInt32) &&& (1 : Int32)) = 0) : y ^^^ f n = tmR f v (n + 1) := by
  rw [tm_bit hi] at q; rw [hy, tmR, if_neg q]

theorem d5_0 : decode prog_35_method_10_code 0 = .ok (.iconst 0, 1) := by decide +kernel
theorem d5_1 : decode prog_35_method_10_code 1 = .ok (.istore_n 2, 1) := by decide +kernel
theorem d5_2 : decode prog_35_method_10_code 2 = .ok (.iconst 0, 1) := by decide +kernel
theorem d5_3 : decode prog_35_method_10_code 3 = .ok (.istore_n 3, 1) := by decide +kernel
theorem d5_4 : decode prog_35_method_10_code 4 = .ok (.iload_n 3, 1) := by decide +kernel
theorem d5_5 : decode prog_35_method_10_code 5 = .ok (.bipush 32, 2) := by decide +kernel
theorem d5_7 : decode prog_35_method_10_code 7 = .ok (.if_icmp .ge 23, 3) := by decide +kernel
theorem d5_10 : decode prog_35_method_10_code 10 = .ok (.iload_n 1, 1) := by decide +kernel
theorem d5_11 : decode prog_35_method_10_code 11 = .ok (.iload_n 3, 1) := by decide +kernel
theorem d5_12 : decode prog_35_method_10_code 12 = .ok (.iushr, 1) := by decide +kernel
theorem d5_13 : decode prog_35_method_10_code 13 = .ok (.iconst 1, 1) := by decide +kernel
theorem d5_14 : decode prog_35_method_10_code 14 = .ok (.iand, 1) := by decide +kernel
theorem d5_15 : decode prog_35_method_10_code 15 = .ok (.ifCond .eq 9, 3) := by decide +kernel
theorem d5_18 : decode prog_35_method_10_code 18 = .ok (.iload_n 2, 1) := by decide +kernel
theorem d5_19 : decode prog_35_method_10_code 19 = .ok (.aload_n 0, 1) := by decide +kernel
theorem d5_20 : decode prog_35_method_10_code 20 = .ok (.iload_n 3, 1) := by decide +kernel
theorem d5_21 : decode prog_35_method_10_code 21 = .ok (.iaload, 1) := by decide +kernel
theorem d5_22 : decode prog_35_method_10_code 22 = .ok (.ixor, 1) := by decide +kernel
theorem d5_23 : decode prog_35_method_10_code 23 = .ok (.istore_n 2, 1) := by decide +kernel
theorem d5_24 : decode prog_35_method_10_code 24 = .ok (.iinc 3 1, 3) := by decide +kernel
theorem d5_27 : decode prog_35_method_10_code 27 = .ok (.goto (-23), 3) := by decide +kernel
theorem d5_30 : decode prog_35_method_10_code 30 = .ok (.iload_n 2, 1) := by decide +kernel
theorem d5_31 : decode prog_35_method_10_code 31 = .ok (.ireturn, 1) := by decide +kernel
theorem pn5 : plainFor (⟨"com/example/lasting_record/lastingrecord/warc/GzipMemberEncoding", "times", "([II)I"⟩ : MethodName) = true := plainFor_of_name (by first | (simp [plainName, overriddenIn]; done) | decide +kernel)
theorem ef5 (m : MethodId) (mat : Addr) (vec : Int32) (f : Nat → Int32) : entryFrame m #[(.ref mat), (.int vec)] 4 = mkF m 0 #[.val (.ref mat), .val (.int vec), .unset, .unset] [] := by first | (simp [entryFrame, mkF, argsToLocals, Value.category]; done) | rfl
def Q5 (mat : Addr) (vec : Int32) (f : Nat → Int32) (Z : State) (h0 : Heap) (n0 : Nat) (v : Option Value) (h : Heap) (L : List Loc) : Prop := v = some (.int (tmR f vec 32)) ∧ Fr n0 L ∧ h = h0
set_option maxRecDepth 65536 in
set_option maxHeartbeats 40000000 in
theorem rm5 (l : Launch) (Z : State) (a0 : Array Value) (hw : ∀ d ∈ tables_1, d.before a0 Z = true) (ws : List Jvm.Cond) (mat : Addr) (vec : Int32) (f : Nat → Int32) (h0 : Heap) (n0 : Nat) (Z0 : n0 ≤ h0.size) (A_mat_0 : AI Z h0 mat .int 32 f) : Ctr l (⟨"com/example/lasting_record/lastingrecord/warc/GzipMemberEncoding", "times", "([II)I"⟩ : MethodName) prog_35_method_10_code 4 (some .int) ws ({ frames := 0, cells := 0, slots := 0, locals := 0 } : Room) #[(.ref mat), (.int vec)] Z h0 (Q5 mat vec f Z h0 n0) := by
  refine own_body pn5 ?_
  intro p e s m below meth c T0 hx hby hml hown hnm hret hlk hZ X0 e0
  have N0 := Fr.nil n0
  refine Goes.entry (ef5 m mat vec f) ?_
  refine g_iconst X0 hx hby d5_0 (0 : Int32) rfl 1 rfl ?_
  refine g_istoreN X0 hx hby d5_1 (0 : Int32) rfl #[.val (.ref mat), .val (.int vec), .val (.int (0 : Int32)), .unset] rfl 2 rfl ?_
  refine g_iconst X0 hx hby d5_2 (0 : Int32) rfl 3 rfl ?_
  refine g_istoreN X0 hx hby d5_3 (0 : Int32) rfl #[.val (.ref mat), .val (.int vec), .val (.int (0 : Int32)), .val (.int (0 : Int32))] rfl 4 rfl ?_
  suffices loop : ∀ (k : Nat) (n : Nat) (i : Int32) (y : Int32), 32 - n < k → i.toInt = n → n ≤ 32 → y = tmR f vec n → Goes p e below (Kend s below (Q5 mat vec f Z h0 n0) ({ frames := 0, cells := 0, slots := 0, locals := 0 } : Room).cells ({ frames := 0, cells := 0, slots := 0, locals := 0 } : Room).slots) (T0.setTop (mkF m 4 #[.val (.ref mat), .val (.int vec), .val (.int y), .val (.int i)] [])) by
    exact loop 33 0 0 0 (by decide) rfl (by decide) rfl
  intro k
  induction k with
  | zero => intro n i y hk hi hn hy; exact absurd hk (Nat.not_lt_zero _)
  | succ k ih =>
    intro n i y hk hi hn hy
    refine g_iloadN X0 hx hby d5_4 rfl 5 rfl ?_
    refine g_bipush X0 hx hby d5_5 (32 : Int32) rfl 7 rfl ?_
    refine g_icmp_ge X0 hx hby d5_7 30 10 (by decide) (by decide) rfl (fun c2 => ?_) (fun c2 => ?_)
    · -- c2
      have hq := own_lt32 hi c2
      refine g_iloadN X0 hx hby d5_10 rfl 11 rfl ?_
      refine g_iloadN X0 hx hby d5_11 rfl 12 rfl ?_
      refine g_iushr X0 hx hby d5_12 13 rfl ?_
      refine g_iconst X0 hx hby d5_13 (1 : Int32) rfl 14 rfl ?_
      refine g_iand X0 hx hby d5_14 15 rfl ?_
      refine g_if_eq X0 hx hby d5_15 24 18 (by decide) (by decide) rfl (fun c3 => ?_) (fun c3 => ?_)
      · -- c3
        refine g_iinc X0 hx hby d5_24 (1 : Int32) rfl rfl (i + (1 : Int32)) rfl #[.val (.ref mat), .val (.int vec), .val (.int y), .val (.int (i + (1 : Int32)))] rfl 27 rfl ?_
        refine g_goto X0 hx hby d5_27 4 (by decide) (by decide) ?_
        exact ih (n + 1) _ _ (by omega) (own_i1 hi (by omega)) hq (own_tn hi hy c3)
      · -- not c3
        refine g_iloadN X0 hx hby d5_18 rfl 19 rfl ?_
        refine g_aloadN X0 hx hby d5_19 rfl rfl 20 rfl ?_
        refine g_iloadN X0 hx hby d5_20 rfl 21 rfl ?_
        refine g_iaload X0 hx hby hZ e0 A_mat_0 d5_21 (own_nn (by omega)) n (own_clamp hi) hq (f n) rfl 22 rfl ?_
        refine g_ixor X0 hx hby d5_22 23 rfl ?_
        refine g_istoreN X0 hx hby d5_23 (y ^^^ (f n)) rfl #[.val (.ref mat), .val (.int vec), .val (.int (y ^^^ (f n))), .val (.int i)] rfl 24 rfl ?_
        refine g_iinc X0 hx hby d5_24 (1 : Int32) rfl rfl (i + (1 : Int32)) rfl #[.val (.ref mat), .val (.int vec), .val (.int (y ^^^ (f n))), .val (.int (i + (1 : Int32)))] rfl 27 rfl ?_
        refine g_goto X0 hx hby d5_27 4 (by decide) (by decide) ?_
        exact ih (n + 1) _ _ (by omega) (own_i1 hi (by omega)) hq (own_tx hi hy c3)
    · -- not c2
      refine g_iloadN X0 hx hby d5_30 rfl 31 rfl ?_
      exact g_ireturn X0 hx hby hret hlk (Or.inl rfl) rfl d5_31 ⟨by rw [hy, own_ge32 hi hn c2], N0, e0⟩ (by decide) (by decide)
def sqF (f : Nat → Int32) : Nat → Int32 := fun j => tmR f (f j) 32
theorem sq_next {Z : State} {h : Heap} {a : Addr} {f : Nat → Int32} {n : Nat} (F : AI Z h a .int 32 (upd (fun j => if j < n then sqF f j else 0) n (tmR f (f n) 32))) : AI Z h a .int 32 (fun j => if j < n + 1 then sqF f j else 0) := by
  refine F.congr fun i _ => ?_
  by_cases q : i = n
  · subst q; simp [upd, sqF]
  · by_cases r : i < n
    · have : i < n + 1 := by omega
      simp [upd, q, r, this]
    · have : ¬ i < n + 1 := by omega
      simp [upd, q, r, this]
theorem sq_done {Z : State} {h : Heap} {a : Addr} {f : Nat → Int32} (F : AI Z h a .int 32 (fun j => if j < 32 then sqF f j else 0)) : AI Z h a .int 32 (sqF f) := F.congr fun i hi => by simp [hi]

theorem pd1 : parseMethodDescriptor "([II)I" = some ⟨[(.array .int), .int], some .int⟩ := by decide +kernel
theorem d4_0 : decode prog_35_method_11_code 0 = .ok (.bipush 32, 2) := by decide +kernel
theorem d4_2 : decode prog_35_method_11_code 2 = .ok (.newarray .int, 2) := by decide +kernel
theorem d4_4 : decode prog_35_method_11_code 4 = .ok (.astore_n 1, 1) := by decide +kernel
theorem d4_5 : decode prog_35_method_11_code 5 = .ok (.iconst 0, 1) := by decide +kernel
theorem d4_6 : decode prog_35_method_11_code 6 = .ok (.istore_n 2, 1) := by decide +kernel
theorem d4_7 : decode prog_35_method_11_code 7 = .ok (.iload_n 2, 1) := by decide +kernel
theorem d4_8 : decode prog_35_method_11_code 8 = .ok (.bipush 32, 2) := by decide +kernel
theorem d4_10 : decode prog_35_method_11_code 10 = .ok (.if_icmp .ge 19, 3) := by decide +kernel
theorem d4_13 : decode prog_35_method_11_code 13 = .ok (.aload_n 1, 1) := by decide +kernel
theorem d4_14 : decode prog_35_method_11_code 14 = .ok (.iload_n 2, 1) := by decide +kernel
theorem d4_15 : decode prog_35_method_11_code 15 = .ok (.aload_n 0, 1) := by decide +kernel
theorem d4_16 : decode prog_35_method_11_code 16 = .ok (.aload_n 0, 1) := by decide +kernel
theorem d4_17 : decode prog_35_method_11_code 17 = .ok (.iload_n 2, 1) := by decide +kernel
theorem d4_18 : decode prog_35_method_11_code 18 = .ok (.iaload, 1) := by decide +kernel
theorem d4_19 : decode prog_35_method_11_code 19 = .ok (.invokestatic 131, 3) := by decide +kernel
theorem d4_22 : decode prog_35_method_11_code 22 = .ok (.iastore, 1) := by decide +kernel
theorem d4_23 : decode prog_35_method_11_code 23 = .ok (.iinc 2 1, 3) := by decide +kernel
theorem d4_26 : decode prog_35_method_11_code 26 = .ok (.goto (-19), 3) := by decide +kernel
theorem d4_29 : decode prog_35_method_11_code 29 = .ok (.aload_n 1, 1) := by decide +kernel
theorem d4_30 : decode prog_35_method_11_code 30 = .ok (.areturn, 1) := by decide +kernel
theorem pn4 : plainFor (⟨"com/example/lasting_record/lastingrecord/warc/GzipMemberEncoding", "squared", "([I)[I"⟩ : MethodName) = true := plainFor_of_name (by first | (simp [plainName, overriddenIn]; done) | decide +kernel)
theorem ef4 (m : MethodId) (mat : Addr) (f : Nat → Int32) : entryFrame m #[(.ref mat)] 3 = mkF m 0 #[.val (.ref mat), .unset, .unset] [] := by first | (simp [entryFrame, mkF, argsToLocals, Value.category]; done) | rfl
def Q4 (mat : Addr) (f : Nat → Int32) (Z : State) (h0 : Heap) (n0 : Nat) (v : Option Value) (h : Heap) (L : List Loc) : Prop := ∃ r : Addr, v = some (.ref r) ∧ Fr n0 L ∧ Keep h0 h [] ∧ (n0 ≤ r ∧ h0.size ≤ r) ∧ AI Z h r .int 32 (sqF f)
set_option maxRecDepth 65536 in
set_option maxHeartbeats 40000000 in
theorem rm4 (l : Launch) (Z : State) (a0 : Array Value) (hw : ∀ d ∈ tables_1, d.before a0 Z = true) (ws : List Jvm.Cond) (mat : Addr) (f : Nat → Int32) (h0 : Heap) (n0 : Nat) (Z0 : n0 ≤ h0.size) (A_mat_0 : AI Z h0 mat .int 32 f) : Ctr l (⟨"com/example/lasting_record/lastingrecord/warc/GzipMemberEncoding", "squared", "([I)[I"⟩ : MethodName) prog_35_method_11_code 3 (some (.array .int)) ws ({ frames := 1, cells := 1, slots := 32, locals := 17 } : Room) #[(.ref mat)] Z h0 (Q4 mat f Z h0 n0) := by
  refine own_body pn4 ?_
  intro p e s m below meth c T0 hx hby hml hown hnm hret hlk hZ X0 e0
  have N0 := Fr.nil n0
  have K0 : Keep h0 h0 [] := Keep.refl _ _
  refine Goes.entry (ef4 m mat f) ?_
  refine g_bipush X0 hx hby d4_0 (32 : Int32) rfl 2 rfl ?_
  refine g_newarray X0 hx hby hZ (hw _ (List.mem_of_getElem? (i := 14) rfl)) e0 d4_2 (by decide) 32 rfl 32 (by decide) (by decide) (by decide) (by decide) 4 rfl ?_
  intro T1 h1 b1 g1 X1 e1 E1 A1
  have gn_b1 : n0 ≤ b1 := Nat.le_trans Z0 (Nat.le_of_eq g1.symm)
  have sz_b1 : h0.size ≤ b1 := Nat.le_trans K0.1 (Nat.le_of_eq g1.symm)
  have K1 := K0.ext E1
  have Z1 : n0 ≤ h1.size := Nat.le_trans Z0 E1.1
  have ne_mat_b1 : mat ≠ b1 := Nat.ne_of_lt (Nat.lt_of_lt_of_le (A_mat_0.lt) (Nat.le_of_eq g1.symm))
  have A_mat_1 := ArF.ext A_mat_0 E1
  have Vb1 : AI Z h1 b1 .int 32 (fun _ => (0 : Int32)) := A1
  refine g_astoreN X1 hx hby d4_4 rfl #[.val (.ref mat), .val (.ref b1), .unset] rfl 5 rfl ?_
  refine g_iconst X1 hx hby d4_5 (0 : Int32) rfl 6 rfl ?_
  refine g_istoreN X1 hx hby d4_6 (0 : Int32) rfl #[.val (.ref mat), .val (.ref b1), .val (.int (0 : Int32))] rfl 7 rfl ?_
  have Vs : AI Z h1 b1 .int 32 (fun j => if j < 0 then sqF f j else 0) := ArF.congr Vb1 (fun i _ => by simp)
  suffices loop : ∀ (k : Nat) (n : Nat) (i : Int32) (T2 : State) (L2 : List Loc) (h2 : Heap), 32 - n < k → i.toInt = n → n ≤ 32 → Stand p l e ({ frames := 1, cells := 1, slots := 32, locals := 17 } : Room) s m #[(.ref mat)] below meth c T2 L2 (1) (32) → T2.heap = h2 → Fr n0 L2 → n0 ≤ h2.size → Keep h0 h2 [] → AI Z h2 mat .int 32 f → AI Z h2 b1 .int 32 (fun j => if j < n then sqF f j else 0) → Goes p e below (Kend s below (Q4 mat f Z h0 n0) ({ frames := 1, cells := 1, slots := 32, locals := 17 } : Room).cells ({ frames := 1, cells := 1, slots := 32, locals := 17 } : Room).slots) (T2.setTop (mkF m 7 #[.val (.ref mat), .val (.ref b1), .val (.int i)] [])) by
    exact loop 33 0 0 _ _ _ (by decide) rfl (by decide) X1 e1 N0 Z1 K1 A_mat_1 Vs
  intro k
  induction k with
  | zero => intro n i T2 L2 h2 hk hi hn X2 e2 N2 Z2 K2 A_mat_2 Vs_2; exact absurd hk (Nat.not_lt_zero _)
  | succ k ih =>
    intro n i T2 L2 h2 hk hi hn X2 e2 N2 Z2 K2 A_mat_2 Vs_2
    refine g_iloadN X2 hx hby d4_7 rfl 8 rfl ?_
    refine g_bipush X2 hx hby d4_8 (32 : Int32) rfl 10 rfl ?_
    refine g_icmp_ge X2 hx hby d4_10 29 13 (by decide) (by decide) rfl (fun c3 => ?_) (fun c3 => ?_)
    · -- c3
      have hq := own_lt32 hi c3
      refine g_aloadN X2 hx hby d4_13 rfl rfl 14 rfl ?_
      refine g_iloadN X2 hx hby d4_14 rfl 15 rfl ?_
      refine g_aloadN X2 hx hby d4_15 rfl rfl 16 rfl ?_
      refine g_aloadN X2 hx hby d4_16 rfl rfl 17 rfl ?_
      refine g_iloadN X2 hx hby d4_17 rfl 18 rfl ?_
      refine g_iaload X2 hx hby hZ e2 A_mat_2 d4_18 (own_nn (by omega)) n (own_clamp hi) hq (f n) rfl 19 rfl ?_
      refine g_callS X2 hx hby hZ hown (hw _ (List.mem_of_getElem? (i := 19) rfl)) (hw _ (List.mem_of_getElem? (i := 20) rfl)) (hw _ (List.mem_of_getElem? (i := 12) rfl)) (hw _ (List.mem_of_getElem? (i := 21) rfl)) d4_19 [(.ref mat), (.int (f n))] [(.int i), (.ref b1)] (rm5 l Z a0 hw [] mat (f n) f h2 n0 Z2 A_mat_2) e2 rfl (by rw [hml]; rfl) pd1 rfl (by decide) 2 (Nat.le_of_eq rfl) (by decide) (by decide) (by decide) (by decide) 22 rfl ?_
      intro T4 v4 L4 X4 Q4
      obtain ⟨rfl, N4', e4⟩ := Q4
      have N4 := Fr.app N2 N4'
      show Goes p e below _ (T4.setTop (mkF m 22 _ [(.int (tmR f (f n) 32)), (.int i), (.ref b1)]))
      refine g_iastore X4 hx hby hZ e4 Vs_2 d4_22 (own_nn (by omega)) n (own_clamp hi) hq 23 rfl ?_
      intro T5 h5 X5 e5 W5 V5
      have N5 := Fr.snoc X5 N4 gn_b1
      have K5 := K2.wr W5 (Or.inr sz_b1)
      have Z5 : n0 ≤ h5.size := Nat.le_trans Z2 (Keep.of_wr W5).1
      have A_mat_5 := ArF.other A_mat_2 W5 ne_mat_b1
      refine g_iinc X5 hx hby d4_23 (1 : Int32) rfl rfl (i + (1 : Int32)) rfl #[.val (.ref mat), .val (.ref b1), .val (.int (i + (1 : Int32)))] rfl 26 rfl ?_
      refine g_goto X5 hx hby d4_26 7 (by decide) (by decide) ?_
      have Vn := sq_next V5
      exact ih (n + 1) _ _ _ _ (by omega) (own_i1 hi (by omega)) hq X5 e5 N5 Z5 K5 A_mat_5 Vn
    · -- not c3
      refine g_aloadN X2 hx hby d4_29 rfl rfl 30 rfl ?_
      exact g_areturn X2 hx hby hret hlk rfl rfl rfl d4_30 (by have q := own_ge32 hi hn c3; subst q; rw [e2]; exact ⟨b1, rfl, N2, K2, ⟨gn_b1, sz_b1⟩, sq_done Vs_2⟩) (by decide) (by decide)
def itr (g : Int32 → Int32) : Nat → Int32 → Int32
  | 0, v => v
  | k + 1, v => itr g k (g v)
theorem itr_add (g : Int32 → Int32) : ∀ (a b : Nat) (v : Int32), itr g (a + b) v = itr g a (itr g b v)
  | a, 0, v => rfl
  | a, b + 1, v => itr_add g a b (g v)
theorem own_xlc (a b c : Int32) : a ^^^ (b ^^^ c) = b ^^^ (a ^^^ c) := by rw [← Int32.xor_assoc, Int32.xor_comm a b, Int32.xor_assoc]
theorem own_xcc (a b : Int32) : a ^^^ (a ^^^ b) = b := by rw [← Int32.xor_assoc, Int32.xor_self, Int32.zero_xor]
theorem bv_bit (x : BitVec 32) (k : Nat) : ((x >>> k) &&& 1#32) = 0#32 ↔ x.getLsbD k = false := by
  rw [← BitVec.toNat_inj, BitVec.toNat_and, BitVec.toNat_ushiftRight, ← BitVec.testBit_toNat, Nat.testBit_eq_decide_div_mod_eq]
  have e1 : (1#32).toNat = 1 := rfl
  have e0 : (0#32).toNat = 0 := rfl
  rw [e1, e0, Nat.and_one_is_mod, Nat.shiftRight_eq_div_pow]
  generalize x.toNat / 2 ^ k = y
  rw [decide_eq_false_iff_not]; omega
theorem own_sh31 : ∀ i : Fin 32, ((((Int32.ofNat i.1) &&& 31).toUInt32.toBitVec % 32#32).toNat = i.1) := by decide +kernel
theorem bit0_iff (v : Int32) (k : Nat) (hk : k < 32) : bit0 v k ↔ v.toBitVec.getLsbD k = false := by
  show ((((v.toUInt32 >>> ((Int32.ofNat k) &&& 31).toUInt32).toInt32) &&& (1 : Int32)) = 0) ↔ _
  rw [← bv_bit, ← Int32.toBitVec_inj]
  have e : ((((v.toUInt32 >>> ((Int32.ofNat k) &&& 31).toUInt32).toInt32) &&& (1 : Int32))).toBitVec = (v.toBitVec >>> (((Int32.ofNat k) &&& 31).toUInt32.toBitVec % 32#32).toNat) &&& 1#32 := rfl
  rw [e, own_sh31 ⟨k, hk⟩]; exact Iff.rfl
def Rep (f : Nat → Int32) (n : Nat) : Prop := ∀ v, tmR f v 32 = itr zeroBit n v
theorem tm_lin (f : Nat → Int32) (u v : Int32) : ∀ k, k ≤ 32 → tmR f (u ^^^ v) k = tmR f u k ^^^ tmR f v k
  | 0, _ => by simp [tmR]
  | k + 1, hk => by
    have ih := tm_lin f u v k (by omega)
    have b1 := bit0_iff u k (by omega)
    have b2 := bit0_iff v k (by omega)
    have b3 := bit0_iff (u ^^^ v) k (by omega)
    have b4 : (u ^^^ v).toBitVec.getLsbD k = (u.toBitVec.getLsbD k ^^ v.toBitVec.getLsbD k) := by rw [Int32.toBitVec_xor, BitVec.getLsbD_xor]
    simp only [tmR, b1, b2, b3, b4, ih]
    cases u.toBitVec.getLsbD k <;> cases v.toBitVec.getLsbD k <;> simp [Int32.xor_assoc, Int32.xor_comm, own_xlc, own_xcc]
theorem tm_zero (f : Nat → Int32) : tmR f 0 32 = 0 := by
  have h := tm_lin f 0 0 32 (by decide)
  rw [show (0 : Int32) ^^^ 0 = 0 from by decide] at h
  rw [h]; exact Int32.xor_self
theorem tm_sq (f : Nat → Int32) (v : Int32) : ∀ k, k ≤ 32 → tmR (sqF f) v k = tmR f (tmR f v k) 32
  | 0, _ => (tm_zero f).symm
  | k + 1, hk => by
    have ih := tm_sq f v k (by omega)
    show (if bit0 v k then tmR (sqF f) v k else tmR (sqF f) v k ^^^ sqF f k) = tmR f (if bit0 v k then tmR f v k else tmR f v k ^^^ f k) 32
    by_cases q : bit0 v k
    · rw [if_pos q, if_pos q]; exact ih
    · rw [if_neg q, if_neg q, ih, tm_lin f _ _ 32 (by decide)]; rfl
theorem Rep.sq {f : Nat → Int32} {n : Nat} (h : Rep f n) : Rep (sqF f) (n + n) := fun v => by
  rw [tm_sq f v 32 (by decide), h, h, itr_add]

def f0 : Nat → Int32 := fun j => if j = 0 then (-306674912 : Int32) else (1 : Int32) <<< ((Int32.ofNat (j - 1)) &&& 31)
theorem f0_next {Z : State} {h : Heap} {a : Addr} {n : Nat} {i : Int32} (hi : i.toInt = n) (h1 : 1 ≤ n) (F : AI Z h a .int 32 (upd (fun j => if j < n then f0 j else 0) n ((1 : Int32) <<< ((i - 1) &&& 31)))) : AI Z h a .int 32 (fun j => if j < n + 1 then f0 j else 0) := by
  have e : i - 1 = Int32.ofNat (n - 1) := own_nat32 (by
    have h1 := c_isub i 1
    have h2 := rng32 (i - 1)
    have h3 := rng32 i
    have e1 : (1 : Int32).toInt = 1 := rfl
    omega)
  rw [e] at F
  refine F.congr fun k _ => ?_
  by_cases q : k = n
  · subst q
    have : ¬ k = 0 := by omega
    simp [upd, f0, this]
  · by_cases r : k < n
    · have : k < n + 1 := by omega
      simp [upd, q, r, this]
    · have : ¬ k < n + 1 := by omega
      simp [upd, q, r, this]
def s1 (w : Int32) : Int32 := (w.toUInt32 >>> ((1 : Int32) &&& 31).toUInt32).toInt32
theorem s1_lin (u v : Int32) : s1 (u ^^^ v) = s1 u ^^^ s1 v := by
  apply Int32.toBitVec_inj.mp
  have e : ∀ w : Int32, (s1 w).toBitVec = w.toBitVec >>> (((1 : Int32) &&& 31).toUInt32.toBitVec % 32#32).toNat := fun _ => rfl
  rw [Int32.toBitVec_xor, e, e, e, Int32.toBitVec_xor]; exact BitVec.ushiftRight_xor_distrib ..
theorem and1_lin (u v : Int32) : (u ^^^ v) &&& 1 = (u &&& 1) ^^^ (v &&& 1) := by
  apply Int32.toBitVec_inj.mp
  apply BitVec.eq_of_getLsbD_eq
  intro i hi
  rw [Int32.toBitVec_and, Int32.toBitVec_xor, Int32.toBitVec_xor, Int32.toBitVec_and, Int32.toBitVec_and, BitVec.getLsbD_and, BitVec.getLsbD_xor, BitVec.getLsbD_xor, BitVec.getLsbD_and, BitVec.getLsbD_and]
  cases u.toBitVec.getLsbD i <;> cases v.toBitVec.getLsbD i <;> cases (1 : Int32).toBitVec.getLsbD i <;> rfl
theorem own_low1 (w : Int32) : w &&& 1 = 0 ∨ w &&& 1 = 1 := by
  have a := c_mask w 1 1 (by decide) (by decide)
  have e : ((2 ^ 1 : Nat) : Int) = 2 := by decide
  rw [e] at a
  have z0 : (0 : Int32).toInt = 0 := rfl
  have z1 : (1 : Int32).toInt = 1 := rfl
  have : w.toInt % 2 = 0 ∨ w.toInt % 2 = 1 := by omega
  rcases this with q | q
  · left; apply Int32.toInt_inj.mp; rw [a, q, z0]
  · right; apply Int32.toInt_inj.mp; rw [a, q, z1]
theorem zb_eq (w : Int32) : zeroBit w = s1 w ^^^ (if w &&& 1 = 0 then 0 else (-306674912 : Int32)) := by
  unfold zeroBit s1; by_cases q : w &&& 1 = 0
  · rw [if_pos q, if_pos q]
  · rw [if_neg q, if_neg q]
theorem own_x4 (a b P : Int32) : (a ^^^ b) ^^^ 0 = (a ^^^ P) ^^^ (b ^^^ P) := by
  rw [Int32.xor_zero, Int32.xor_comm b P, ← Int32.xor_assoc, Int32.xor_assoc a P P, Int32.xor_self, Int32.xor_zero]
theorem zb_lin (u v : Int32) : zeroBit (u ^^^ v) = zeroBit u ^^^ zeroBit v := by
  rw [zb_eq, zb_eq, zb_eq, s1_lin, and1_lin]
  have n : ¬ (1 : Int32) = 0 := by decide
  generalize s1 u = a
  generalize s1 v = b
  rcases own_low1 u with q | q <;> rcases own_low1 v with r | r <;> rw [q, r]
  · rw [show (0 : Int32) ^^^ 0 = 0 from by decide, if_pos rfl, Int32.xor_zero, Int32.xor_zero, Int32.xor_zero]
  · rw [show (0 : Int32) ^^^ 1 = 1 from by decide, if_neg n, if_pos rfl, Int32.xor_zero, Int32.xor_assoc]
  · rw [show (1 : Int32) ^^^ 0 = 1 from by decide, if_neg n, if_pos rfl, Int32.xor_zero, Int32.xor_assoc, Int32.xor_assoc, Int32.xor_comm b]
  · rw [show (1 : Int32) ^^^ 1 = 0 from by decide, if_neg n, if_pos rfl]; exact own_x4 ..
theorem tm_one (v : Int32) : ∀ k, k ≤ 32 → ∀ j, (tmR (fun i => (1 : Int32) <<< ((Int32.ofNat i) &&& 31)) v k).toBitVec.getLsbD j = (decide (j < k) && v.toBitVec.getLsbD j)
  | 0, _, j => by simp [tmR]
  | k + 1, hk, j => by
    have ih := tm_one v k (by omega) j
    have b := bit0_iff v k (by omega)
    have o : ∀ i : Fin 32, ((1 : Int32) <<< ((Int32.ofNat i.1) &&& 31)).toBitVec = BitVec.twoPow 32 i.1 := by decide +kernel
    rw [tmR]
    by_cases q : bit0 v k
    · rw [if_pos q, ih]
      by_cases r : j = k
      · subst r; rw [b.mp q]; simp
      · have : (j < k + 1) ↔ (j < k) := by omega
        simp [this]
    · rw [if_neg q, Int32.toBitVec_xor, BitVec.getLsbD_xor, ih, o ⟨k, by omega⟩, BitVec.getLsbD_twoPow]
      have q' : v.toBitVec.getLsbD k = true := by
        cases y : v.toBitVec.getLsbD k
        · exact absurd (b.mpr y) q
        · rfl
      by_cases r : j = k
      · subst r; rw [q']; simp; omega
      · have : (j < k + 1) ↔ (j < k) := by omega
        have r' : ¬ k = j := fun y => r y.symm
        simp [this, r']
theorem rep0 : Rep f0 1 := fun v => by
  have h1 : v = tmR (fun i => (1 : Int32) <<< ((Int32.ofNat i) &&& 31)) v 32 := by
    apply Int32.toBitVec_inj.mp
    apply BitVec.eq_of_getLsbD_eq
    intro j hj
    rw [tm_one v 32 (by decide) j]; simp [hj]
  have h2 : ∀ k, k ≤ 32 → zeroBit (tmR (fun i => (1 : Int32) <<< ((Int32.ofNat i) &&& 31)) v k) = tmR f0 v k := by
    intro k
    induction k with
    | zero => intro _; show zeroBit 0 = 0; decide
    | succ k ih =>
      intro hk
      have q : zeroBit ((1 : Int32) <<< ((Int32.ofNat k) &&& 31)) = f0 k := by
        have : ∀ i : Fin 32, zeroBit ((1 : Int32) <<< ((Int32.ofNat i.1) &&& 31)) = f0 i.1 := by decide +kernel
        exact this ⟨k, by omega⟩
      simp only [tmR]
      split
      · exact ih (by omega)
      · rw [zb_lin, ih (by omega), q]
  show tmR f0 v 32 = zeroBit v
  rw [← h2 32 (by decide), ← h1]
theorem own_half {nn : Int64} (h : 0 ≤ nn.toInt) : ((nn.toUInt64 >>> ((1 : Int32) &&& 0x3f).toInt64.toUInt64).toInt64).toInt = nn.toInt / 2 := by
  have a := c_lushr nn 1 1 (by decide) (by decide)
  have r := rng64 nn
  have e : ((2 ^ 1 : Nat) : Int) = 2 := by decide
  rw [e] at a; omega
theorem own_low (nn : Int64) : (nn &&& (1 : Int64)) = 0 ↔ nn.toInt % 2 = 0 := by
  have a := c_maskL nn 1 1 (by decide) (by decide)
  have e : ((2 ^ 1 : Nat) : Int) = 2 := by decide
  rw [e] at a
  rw [← Int64.toInt_inj, a]; exact Iff.rfl
theorem own_fu {nn : Int64} {fu j : Nat} (h0 : 0 ≤ nn.toInt) (hb : nn.toInt < 2 ^ fu) (hj : fu + j = 63) (q : ¬ nn = 0) : ∃ fu', fu = fu' + 1 ∧ fu' + (j + 1) = 63 ∧ j ≤ 62 ∧ 0 ≤ ((nn.toUInt64 >>> ((1 : Int32) &&& 0x3f).toInt64.toUInt64).toInt64).toInt ∧ ((nn.toUInt64 >>> ((1 : Int32) &&& 0x3f).toInt64.toUInt64).toInt64).toInt < 2 ^ fu' := by
  have q' : nn.toInt ≠ (0 : Int64).toInt := fun y => q (Int64.toInt_inj.mp y)
  have z0 : (0 : Int64).toInt = 0 := rfl
  rw [own_half h0]
  match fu with
  | 0 => exfalso; simp at hb; omega
  | fu' + 1 =>
    have e : (2 : Int) ^ (fu' + 1) = 2 * 2 ^ fu' := by rw [Int.pow_succ, Int.mul_comm]
    rw [e] at hb
    exact ⟨fu', rfl, by omega, by omega, by omega, by omega⟩
theorem own_even {nn : Int64} {ex : Nat} {vc : Int32} {R : Int32} (h0 : 0 ≤ nn.toInt) (q : (nn &&& (1 : Int64)) = 0) (hv : itr zeroBit (ex * nn.toInt.toNat) vc = R) : itr zeroBit ((ex + ex) * ((nn.toUInt64 >>> ((1 : Int32) &&& 0x3f).toInt64.toUInt64).toInt64).toInt.toNat) vc = R := by
  rw [own_low] at q
  rw [own_half h0, ← hv]; congr 1
  have : nn.toInt.toNat = 2 * (nn.toInt / 2).toNat := by omega
  rw [this, Nat.add_mul, ← Nat.mul_assoc, Nat.mul_comm ex 2, Nat.mul_assoc]; omega
theorem own_odd {nn : Int64} {ex : Nat} {vc : Int32} {f : Nat → Int32} {R : Int32} (hR : Rep f ex) (h0 : 0 ≤ nn.toInt) (q : ¬ (nn &&& (1 : Int64)) = 0) (hv : itr zeroBit (ex * nn.toInt.toNat) vc = R) : itr zeroBit ((ex + ex) * ((nn.toUInt64 >>> ((1 : Int32) &&& 0x3f).toInt64.toUInt64).toInt64).toInt.toNat) (tmR f vc 32) = R := by
  rw [own_low] at q
  rw [own_half h0, hR, ← itr_add, ← hv]; congr 1
  have : nn.toInt.toNat = 2 * (nn.toInt / 2).toNat + 1 := by omega
  rw [this, Nat.add_mul, Nat.mul_add, ← Nat.mul_assoc, Nat.mul_comm ex 2, Nat.mul_assoc]; omega

def conc (fst snd len : Int64) : Int64 := (((itr zeroBit (8 * len.toInt.toNat) fst.toInt32).toInt64) ^^^ snd) &&& (4294967295 : Int64)
theorem pd2 : parseMethodDescriptor "([I)[I" = some ⟨[(.array .int)], some (.array .int)⟩ := by decide +kernel
theorem d3_0 : decode prog_35_method_9_code 0 = .ok (.bipush 32, 2) := by decide +kernel
theorem d3_2 : decode prog_35_method_9_code 2 = .ok (.newarray .int, 2) := by decide +kernel
theorem d3_4 : decode prog_35_method_9_code 4 = .ok (.astore 6, 2) := by decide +kernel
theorem d3_6 : decode prog_35_method_9_code 6 = .ok (.aload 6, 2) := by decide +kernel
theorem d3_8 : decode prog_35_method_9_code 8 = .ok (.iconst 0, 1) := by decide +kernel
theorem d3_9 : decode prog_35_method_9_code 9 = .ok (.ldc 126, 2) := by decide +kernel
theorem d3_11 : decode prog_35_method_9_code 11 = .ok (.iastore, 1) := by decide +kernel
theorem d3_12 : decode prog_35_method_9_code 12 = .ok (.iconst 1, 1) := by decide +kernel
theorem d3_13 : decode prog_35_method_9_code 13 = .ok (.istore 7, 2) := by decide +kernel
theorem d3_15 : decode prog_35_method_9_code 15 = .ok (.iload 7, 2) := by decide +kernel
theorem d3_17 : decode prog_35_method_9_code 17 = .ok (.bipush 32, 2) := by decide +kernel
theorem d3_19 : decode prog_35_method_9_code 19 = .ok (.if_icmp .ge 20, 3) := by decide +kernel
theorem d3_22 : decode prog_35_method_9_code 22 = .ok (.aload 6, 2) := by decide +kernel
theorem d3_24 : decode prog_35_method_9_code 24 = .ok (.iload 7, 2) := by decide +kernel
theorem d3_26 : decode prog_35_method_9_code 26 = .ok (.iconst 1, 1) := by decide +kernel
theorem d3_27 : decode prog_35_method_9_code 27 = .ok (.iload 7, 2) := by decide +kernel
theorem d3_29 : decode prog_35_method_9_code 29 = .ok (.iconst 1, 1) := by decide +kernel
theorem d3_30 : decode prog_35_method_9_code 30 = .ok (.isub, 1) := by decide +kernel
theorem d3_31 : decode prog_35_method_9_code 31 = .ok (.ishl, 1) := by decide +kernel
theorem d3_32 : decode prog_35_method_9_code 32 = .ok (.iastore, 1) := by decide +kernel
theorem d3_33 : decode prog_35_method_9_code 33 = .ok (.iinc 7 1, 3) := by decide +kernel
theorem d3_36 : decode prog_35_method_9_code 36 = .ok (.goto (-21), 3) := by decide +kernel
theorem d3_39 : decode prog_35_method_9_code 39 = .ok (.iconst 0, 1) := by decide +kernel
theorem d3_40 : decode prog_35_method_9_code 40 = .ok (.istore 7, 2) := by decide +kernel
theorem d3_42 : decode prog_35_method_9_code 42 = .ok (.iload 7, 2) := by decide +kernel
theorem d3_44 : decode prog_35_method_9_code 44 = .ok (.iconst 3, 1) := by decide +kernel
theorem d3_45 : decode prog_35_method_9_code 45 = .ok (.if_icmp .ge 16, 3) := by decide +kernel
theorem d3_48 : decode prog_35_method_9_code 48 = .ok (.aload 6, 2) := by decide +kernel
theorem d3_50 : decode prog_35_method_9_code 50 = .ok (.invokestatic 127, 3) := by decide +kernel
theorem d3_53 : decode prog_35_method_9_code 53 = .ok (.astore 6, 2) := by decide +kernel
theorem d3_55 : decode prog_35_method_9_code 55 = .ok (.iinc 7 1, 3) := by decide +kernel
theorem d3_58 : decode prog_35_method_9_code 58 = .ok (.goto (-16), 3) := by decide +kernel
theorem d3_61 : decode prog_35_method_9_code 61 = .ok (.lload_n 0, 1) := by decide +kernel
theorem d3_62 : decode prog_35_method_9_code 62 = .ok (.l2i, 1) := by decide +kernel
theorem d3_63 : decode prog_35_method_9_code 63 = .ok (.istore 7, 2) := by decide +kernel
theorem d3_65 : decode prog_35_method_9_code 65 = .ok (.lload 4, 2) := by decide +kernel
theorem d3_67 : decode prog_35_method_9_code 67 = .ok (.lstore 8, 2) := by decide +kernel
theorem d3_69 : decode prog_35_method_9_code 69 = .ok (.lload 8, 2) := by decide +kernel
theorem d3_71 : decode prog_35_method_9_code 71 = .ok (.lconst 0, 1) := by decide +kernel
theorem d3_72 : decode prog_35_method_9_code 72 = .ok (.lcmp, 1) := by decide +kernel
theorem d3_73 : decode prog_35_method_9_code 73 = .ok (.ifCond .eq 37, 3) := by decide +kernel
theorem d3_76 : decode prog_35_method_9_code 76 = .ok (.lload 8, 2) := by decide +kernel
theorem d3_78 : decode prog_35_method_9_code 78 = .ok (.lconst 1, 1) := by decide +kernel
theorem d3_79 : decode prog_35_method_9_code 79 = .ok (.land, 1) := by decide +kernel
theorem d3_80 : decode prog_35_method_9_code 80 = .ok (.lconst 0, 1) := by decide +kernel
theorem d3_81 : decode prog_35_method_9_code 81 = .ok (.lcmp, 1) := by decide +kernel
theorem d3_82 : decode prog_35_method_9_code 82 = .ok (.ifCond .eq 12, 3) := by decide +kernel
theorem d3_85 : decode prog_35_method_9_code 85 = .ok (.aload 6, 2) := by decide +kernel
theorem d3_87 : decode prog_35_method_9_code 87 = .ok (.iload 7, 2) := by decide +kernel
theorem d3_89 : decode prog_35_method_9_code 89 = .ok (.invokestatic 131, 3) := by decide +kernel
theorem d3_92 : decode prog_35_method_9_code 92 = .ok (.istore 7, 2) := by decide +kernel
theorem d3_94 : decode prog_35_method_9_code 94 = .ok (.aload 6, 2) := by decide +kernel
theorem d3_96 : decode prog_35_method_9_code 96 = .ok (.invokestatic 127, 3) := by decide +kernel
theorem d3_99 : decode prog_35_method_9_code 99 = .ok (.astore 6, 2) := by decide +kernel
theorem d3_101 : decode prog_35_method_9_code 101 = .ok (.lload 8, 2) := by decide +kernel
theorem d3_103 : decode prog_35_method_9_code 103 = .ok (.iconst 1, 1) := by decide +kernel
theorem d3_104 : decode prog_35_method_9_code 104 = .ok (.lushr, 1) := by decide +kernel
theorem d3_105 : decode prog_35_method_9_code 105 = .ok (.lstore 8, 2) := by decide +kernel
theorem d3_107 : decode prog_35_method_9_code 107 = .ok (.goto (-38), 3) := by decide +kernel
theorem d3_110 : decode prog_35_method_9_code 110 = .ok (.iload 7, 2) := by decide +kernel
theorem d3_112 : decode prog_35_method_9_code 112 = .ok (.i2l, 1) := by decide +kernel
theorem d3_113 : decode prog_35_method_9_code 113 = .ok (.lload_n 2, 1) := by decide +kernel
theorem d3_114 : decode prog_35_method_9_code 114 = .ok (.lxor, 1) := by decide +kernel
theorem d3_115 : decode prog_35_method_9_code 115 = .ok (.ldc2_w 135, 3) := by decide +kernel
theorem d3_118 : decode prog_35_method_9_code 118 = .ok (.land, 1) := by decide +kernel
theorem d3_119 : decode prog_35_method_9_code 119 = .ok (.lreturn, 1) := by decide +kernel
theorem pn3 : plainFor (⟨"com/example/lasting_record/lastingrecord/warc/GzipMemberEncoding", "concatenated", "(JJJ)J"⟩ : MethodName) = true := plainFor_of_name (by first | (simp [plainName, overriddenIn]; done) | decide +kernel)
theorem ef3 (m : MethodId) (fst : Int64) (snd : Int64) (len : Int64) : entryFrame m #[(.long fst), (.long snd), (.long len)] 10 = mkF m 0 #[.val (.long fst), .second, .val (.long snd), .second, .val (.long len), .second, .unset, .unset, .unset, .unset] [] := by first | (simp [entryFrame, mkF, argsToLocals, Value.category]; done) | rfl
def Q3 (fst : Int64) (snd : Int64) (len : Int64) (Z : State) (h0 : Heap) (n0 : Nat) (v : Option Value) (h : Heap) (L : List Loc) : Prop := v = some (.long (conc fst snd len)) ∧ Fr n0 L ∧ n0 ≤ h.size
set_option maxRecDepth 65536 in
set_option maxHeartbeats 40000000 in
theorem rm3 (l : Launch) (Z : State) (a0 : Array Value) (hw : ∀ d ∈ tables_1, d.before a0 Z = true) (ws : List Jvm.Cond) (fst : Int64) (snd : Int64) (len : Int64) (h0 : Heap) (n0 : Nat) (Z0 : n0 ≤ h0.size) (hlen : 0 ≤ len.toInt) : Ctr l (⟨"com/example/lasting_record/lastingrecord/warc/GzipMemberEncoding", "concatenated", "(JJJ)J"⟩ : MethodName) prog_35_method_9_code 10 (some .long) ws ({ frames := 2, cells := 67, slots := 2144, locals := 31 } : Room) #[(.long fst), (.long snd), (.long len)] Z h0 (Q3 fst snd len Z h0 n0) := by
  refine own_body pn3 ?_
  intro p e s m below meth c T0 hx hby hml hown hnm hret hlk hZ X0 e0
  have N0 := Fr.nil n0
  refine Goes.entry (ef3 m fst snd len) ?_
  refine g_bipush X0 hx hby d3_0 (32 : Int32) rfl 2 rfl ?_
  refine g_newarray X0 hx hby hZ (hw _ (List.mem_of_getElem? (i := 14) rfl)) e0 d3_2 (by decide) 32 rfl 32 (by decide) (by decide) (by decide) (by decide) 4 rfl ?_
  intro T1 h1 b1 g1 X1 e1 E1 A1
  have gn_b1 : n0 ≤ b1 := Nat.le_trans Z0 (Nat.le_of_eq g1.symm)
  have Z1 : n0 ≤ h1.size := Nat.le_trans Z0 E1.1
  have Vb1 : AI Z h1 b1 .int 32 (fun _ => (0 : Int32)) := A1
  refine g_astore X1 hx hby d3_4 rfl #[.val (.long fst), .second, .val (.long snd), .second, .val (.long len), .second, .val (.ref b1), .unset, .unset, .unset] rfl 6 rfl ?_
  refine g_aload X1 hx hby d3_6 rfl rfl 8 rfl ?_
  refine g_iconst X1 hx hby d3_8 (0 : Int32) rfl 9 rfl ?_
  refine g_ldc X1 hx hby hZ hown (hw _ (List.mem_of_getElem? (i := 15) rfl)) d3_9 11 rfl ?_
  refine g_iastore X1 hx hby hZ e1 Vb1 d3_11 (by decide) 0 rfl (by decide) 12 rfl ?_
  intro T2 h2 X2 e2 W2 V2
  have N2 := Fr.snoc X2 N0 gn_b1
  have Z2 : n0 ≤ h2.size := Nat.le_trans Z1 (Keep.of_wr W2).1
  refine g_iconst X2 hx hby d3_12 (1 : Int32) rfl 13 rfl ?_
  refine g_istore X2 hx hby d3_13 (1 : Int32) rfl #[.val (.long fst), .second, .val (.long snd), .second, .val (.long len), .second, .val (.ref b1), .val (.int (1 : Int32)), .unset, .unset] rfl 15 rfl ?_
  have Vs : AI Z h2 b1 .int 32 (fun j => if j < 1 then f0 j else 0) := ArF.congr V2 (fun i _ => by by_cases q : i = 0 <;> simp [upd, f0, q] <;> omega)
  suffices loop : ∀ (k : Nat) (n : Nat) (i : Int32) (T3 : State) (L3 : List Loc) (h3 : Heap), 32 - n < k → i.toInt = n → n ≤ 32 → 1 ≤ n → Stand p l e ({ frames := 2, cells := 67, slots := 2144, locals := 31 } : Room) s m #[(.long fst), (.long snd), (.long len)] below meth c T3 L3 (1) (32) → T3.heap = h3 → Fr n0 L3 → n0 ≤ h3.size → AI Z h3 b1 .int 32 (fun j => if j < n then f0 j else 0) → Goes p e below (Kend s below (Q3 fst snd len Z h0 n0) ({ frames := 2, cells := 67, slots := 2144, locals := 31 } : Room).cells ({ frames := 2, cells := 67, slots := 2144, locals := 31 } : Room).slots) (T3.setTop (mkF m 15 #[.val (.long fst), .second, .val (.long snd), .second, .val (.long len), .second, .val (.ref b1), .val (.int i), .unset, .unset] [])) by
    exact loop 33 1 1 _ _ _ (by decide) rfl (by decide) (by decide) X2 e2 N2 Z2 Vs
  intro k
  induction k with
  | zero => intro n i T3 L3 h3 hk hi hn hn1 X3 e3 N3 Z3 Vs_3; exact absurd hk (Nat.not_lt_zero _)
  | succ k ih =>
    intro n i T3 L3 h3 hk hi hn hn1 X3 e3 N3 Z3 Vs_3
    refine g_iload X3 hx hby d3_15 rfl 17 rfl ?_
    refine g_bipush X3 hx hby d3_17 (32 : Int32) rfl 19 rfl ?_
    refine g_icmp_ge X3 hx hby d3_19 39 22 (by decide) (by decide) rfl (fun c4 => ?_) (fun c4 => ?_)
    · -- c4
      have hq := own_lt32 hi c4
      refine g_aload X3 hx hby d3_22 rfl rfl 24 rfl ?_
      refine g_iload X3 hx hby d3_24 rfl 26 rfl ?_
      refine g_iconst X3 hx hby d3_26 (1 : Int32) rfl 27 rfl ?_
      refine g_iload X3 hx hby d3_27 rfl 29 rfl ?_
      refine g_iconst X3 hx hby d3_29 (1 : Int32) rfl 30 rfl ?_
      refine g_isub X3 hx hby d3_30 31 rfl ?_
      refine g_ishl X3 hx hby d3_31 32 rfl ?_
      refine g_iastore X3 hx hby hZ e3 Vs_3 d3_32 (own_nn (by omega)) n (own_clamp hi) hq 33 rfl ?_
      intro T5 h5 X5 e5 W5 V5
      have N5 := Fr.snoc X5 N3 gn_b1
      have Z5 : n0 ≤ h5.size := Nat.le_trans Z3 (Keep.of_wr W5).1
      refine g_iinc X5 hx hby d3_33 (1 : Int32) rfl rfl (i + (1 : Int32)) rfl #[.val (.long fst), .second, .val (.long snd), .second, .val (.long len), .second, .val (.ref b1), .val (.int (i + (1 : Int32))), .unset, .unset] rfl 36 rfl ?_
      refine g_goto X5 hx hby d3_36 15 (by decide) (by decide) ?_
      have Vn := f0_next hi hn1 V5
      exact ih (n + 1) _ _ _ _ (by omega) (own_i1 hi (by omega)) hq (by omega) X5 e5 N5 Z5 Vn
    · -- not c4
      have hq := own_ge32 hi hn c4
      have Vf : AI Z h3 b1 .int 32 f0 := ArF.congr Vs_3 (fun i hi' => by subst hq; simp [hi'])
      refine g_iconst X3 hx hby d3_39 (0 : Int32) rfl 40 rfl ?_
      refine g_istore X3 hx hby d3_40 (0 : Int32) rfl #[.val (.long fst), .second, .val (.long snd), .second, .val (.long len), .second, .val (.ref b1), .val (.int (0 : Int32)), .unset, .unset] rfl 42 rfl ?_
      refine g_iload X3 hx hby d3_42 rfl 44 rfl ?_
      refine g_iconst X3 hx hby d3_44 (3 : Int32) rfl 45 rfl ?_
      refine g_icmp_ge X3 hx hby d3_45 61 48 (by decide) (by decide) rfl (fun _ => ?_) (fun q => absurd (by decide) q)
      refine g_aload X3 hx hby d3_48 rfl rfl 50 rfl ?_
      refine g_callS X3 hx hby hZ hown (hw _ (List.mem_of_getElem? (i := 16) rfl)) (hw _ (List.mem_of_getElem? (i := 17) rfl)) (hw _ (List.mem_of_getElem? (i := 12) rfl)) (hw _ (List.mem_of_getElem? (i := 18) rfl)) d3_50 [(.ref b1)] [] (rm4 l Z a0 hw [] b1 f0 h3 n0 Z3 Vf) e3 rfl (by rw [hml]; rfl) pd2 rfl (by decide) 0 (Nat.le_of_eq rfl) (by decide) (by decide) (by decide) (by decide) 53 rfl ?_
      intro T6 v6 L6 X6 Q6
      obtain ⟨r6, rfl, N6', K6', ⟨gn_r6, sq_r6⟩, P6⟩ := Q6
      have N6 := Fr.app N3 N6'
      have Z6 : n0 ≤ T6.heap.size := Nat.le_trans Z3 K6'.1
      show Goes p e below _ (T6.setTop (mkF m 53 _ [(.ref r6)]))
      refine g_astore X6 hx hby d3_53 rfl #[.val (.long fst), .second, .val (.long snd), .second, .val (.long len), .second, .val (.ref r6), .val (.int (0 : Int32)), .unset, .unset] rfl 55 rfl ?_
      refine g_iinc X6 hx hby d3_55 (1 : Int32) rfl rfl ((0 : Int32) + (1 : Int32)) rfl #[.val (.long fst), .second, .val (.long snd), .second, .val (.long len), .second, .val (.ref r6), .val (.int ((0 : Int32) + (1 : Int32))), .unset, .unset] rfl 58 rfl ?_
      refine g_goto X6 hx hby d3_58 42 (by decide) (by decide) ?_
      refine g_iload X6 hx hby d3_42 rfl 44 rfl ?_
      refine g_iconst X6 hx hby d3_44 (3 : Int32) rfl 45 rfl ?_
      refine g_icmp_ge X6 hx hby d3_45 61 48 (by decide) (by decide) rfl (fun _ => ?_) (fun q => absurd (by decide) q)
      refine g_aload X6 hx hby d3_48 rfl rfl 50 rfl ?_
      refine g_callS X6 hx hby hZ hown (hw _ (List.mem_of_getElem? (i := 16) rfl)) (hw _ (List.mem_of_getElem? (i := 17) rfl)) (hw _ (List.mem_of_getElem? (i := 12) rfl)) (hw _ (List.mem_of_getElem? (i := 18) rfl)) d3_50 [(.ref r6)] [] (rm4 l Z a0 hw [] r6 (sqF f0) T6.heap n0 Z6 P6) rfl rfl (by rw [hml]; rfl) pd2 rfl (by decide) 0 (Nat.le_of_eq rfl) (by decide) (by decide) (by decide) (by decide) 53 rfl ?_
      intro T7 v7 L7 X7 Q7
      obtain ⟨r7, rfl, N7', K7', ⟨gn_r7, sq_r7⟩, P7⟩ := Q7
      have N7 := Fr.app N6 N7'
      have Z7 : n0 ≤ T7.heap.size := Nat.le_trans Z6 K7'.1
      show Goes p e below _ (T7.setTop (mkF m 53 _ [(.ref r7)]))
      refine g_astore X7 hx hby d3_53 rfl #[.val (.long fst), .second, .val (.long snd), .second, .val (.long len), .second, .val (.ref r7), .val (.int ((0 : Int32) + (1 : Int32))), .unset, .unset] rfl 55 rfl ?_
      refine g_iinc X7 hx hby d3_55 (1 : Int32) rfl rfl (((0 : Int32) + (1 : Int32)) + (1 : Int32)) rfl #[.val (.long fst), .second, .val (.long snd), .second, .val (.long len), .second, .val (.ref r7), .val (.int (((0 : Int32) + (1 : Int32)) + (1 : Int32))), .unset, .unset] rfl 58 rfl ?_
      refine g_goto X7 hx hby d3_58 42 (by decide) (by decide) ?_
      refine g_iload X7 hx hby d3_42 rfl 44 rfl ?_
      refine g_iconst X7 hx hby d3_44 (3 : Int32) rfl 45 rfl ?_
      refine g_icmp_ge X7 hx hby d3_45 61 48 (by decide) (by decide) rfl (fun _ => ?_) (fun q => absurd (by decide) q)
      refine g_aload X7 hx hby d3_48 rfl rfl 50 rfl ?_
      refine g_callS X7 hx hby hZ hown (hw _ (List.mem_of_getElem? (i := 16) rfl)) (hw _ (List.mem_of_getElem? (i := 17) rfl)) (hw _ (List.mem_of_getElem? (i := 12) rfl)) (hw _ (List.mem_of_getElem? (i := 18) rfl)) d3_50 [(.ref r7)] [] (rm4 l Z a0 hw [] r7 (sqF (sqF f0)) T7.heap n0 Z7 P7) rfl rfl (by rw [hml]; rfl) pd2 rfl (by decide) 0 (Nat.le_of_eq rfl) (by decide) (by decide) (by decide) (by decide) 53 rfl ?_
      intro T8 v8 L8 X8 Q8
      obtain ⟨r8, rfl, N8', K8', ⟨gn_r8, sq_r8⟩, P8⟩ := Q8
      have N8 := Fr.app N7 N8'
      have Z8 : n0 ≤ T8.heap.size := Nat.le_trans Z7 K8'.1
      show Goes p e below _ (T8.setTop (mkF m 53 _ [(.ref r8)]))
      refine g_astore X8 hx hby d3_53 rfl #[.val (.long fst), .second, .val (.long snd), .second, .val (.long len), .second, .val (.ref r8), .val (.int (((0 : Int32) + (1 : Int32)) + (1 : Int32))), .unset, .unset] rfl 55 rfl ?_
      refine g_iinc X8 hx hby d3_55 (1 : Int32) rfl rfl ((((0 : Int32) + (1 : Int32)) + (1 : Int32)) + (1 : Int32)) rfl #[.val (.long fst), .second, .val (.long snd), .second, .val (.long len), .second, .val (.ref r8), .val (.int ((((0 : Int32) + (1 : Int32)) + (1 : Int32)) + (1 : Int32))), .unset, .unset] rfl 58 rfl ?_
      refine g_goto X8 hx hby d3_58 42 (by decide) (by decide) ?_
      refine g_iload X8 hx hby d3_42 rfl 44 rfl ?_
      refine g_iconst X8 hx hby d3_44 (3 : Int32) rfl 45 rfl ?_
      refine g_icmp_ge X8 hx hby d3_45 61 48 (by decide) (by decide) rfl (fun q => absurd q (by decide)) (fun _ => ?_)
      refine g_lloadN X8 hx hby d3_61 rfl 62 rfl ?_
      refine g_l2i X8 hx hby d3_62 63 rfl ?_
      refine g_istore X8 hx hby d3_63 (fst.toInt32) rfl #[.val (.long fst), .second, .val (.long snd), .second, .val (.long len), .second, .val (.ref r8), .val (.int (fst.toInt32)), .unset, .unset] rfl 65 rfl ?_
      refine g_lload X8 hx hby d3_65 rfl 67 rfl ?_
      refine g_lstore X8 hx hby d3_67 len rfl #[.val (.long fst), .second, .val (.long snd), .second, .val (.long len), .second, .val (.ref r8), .val (.int (fst.toInt32)), .val (.long len), .second] rfl 69 rfl ?_
      suffices loop : ∀ (k : Nat) (fu : Nat) (j : Nat) (ex : Nat) (nn : Int64) (vc : Int32) (mt : Addr) (f : Nat → Int32) (T9 : State) (L9 : List Loc) (h9 : Heap), fu < k → fu + j = 63 → 0 ≤ nn.toInt → nn.toInt < 2 ^ fu → Rep f ex → itr zeroBit (ex * nn.toInt.toNat) vc = itr zeroBit (8 * len.toInt.toNat) fst.toInt32 → Stand p l e ({ frames := 2, cells := 67, slots := 2144, locals := 31 } : Room) s m #[(.long fst), (.long snd), (.long len)] below meth c T9 L9 (4 + j) (128 + 32 * j) → T9.heap = h9 → Fr n0 L9 → n0 ≤ h9.size → AI Z h9 mt .int 32 f → Goes p e below (Kend s below (Q3 fst snd len Z h0 n0) ({ frames := 2, cells := 67, slots := 2144, locals := 31 } : Room).cells ({ frames := 2, cells := 67, slots := 2144, locals := 31 } : Room).slots) (T9.setTop (mkF m 69 #[.val (.long fst), .second, .val (.long snd), .second, .val (.long len), .second, .val (.ref mt), .val (.int vc), .val (.long nn), .second] [])) by
        exact loop 64 63 0 8 len fst.toInt32 r8 (sqF (sqF (sqF f0))) _ _ _ (by decide) rfl hlen (rng64 len).2 rep0.sq.sq.sq rfl X8 rfl N8 Z8 P8
      intro k
      induction k with
      | zero => intro fu j ex nn vc mt f T9 L9 h9 hk hfj hn0 hnb hR hv X9 e9 N9 Z9 P8_9; exact absurd hk (Nat.not_lt_zero _)
      | succ k ih =>
        intro fu j ex nn vc mt f T9 L9 h9 hk hfj hn0 hnb hR hv X9 e9 N9 Z9 P8_9
        refine g_lload X9 hx hby d3_69 rfl 71 rfl ?_
        refine g_lconst X9 hx hby d3_71 (0 : Int64) rfl 72 rfl ?_
        refine g_lcmp_eq X9 hx hby d3_72 d3_73 110 76 rfl (by decide) (by decide) rfl (fun c10 => ?_) (fun c10 => ?_)
        · -- c10
          refine g_iload X9 hx hby d3_110 rfl 112 rfl ?_
          refine g_i2l X9 hx hby d3_112 113 rfl ?_
          refine g_lloadN X9 hx hby d3_113 rfl 114 rfl ?_
          refine g_lxor X9 hx hby d3_114 115 rfl ?_
          refine g_ldc2 X9 hx hby hZ hown (hw _ (List.mem_of_getElem? (i := 22) rfl)) d3_115 118 rfl ?_
          refine g_land X9 hx hby d3_118 119 rfl ?_
          exact g_lreturn X9 hx hby hret hlk d3_119 (by subst c10; rw [e9]; exact ⟨by unfold conc; rw [← hv]; rfl, N9, Z9⟩) (by show 4 + j ≤ 67; omega) (by show 128 + 32 * j ≤ 2144; omega)
        · -- not c10
          obtain ⟨fu', rfl, q1, q2, q3, q4⟩ := own_fu hn0 hnb hfj c10
          refine g_lload X9 hx hby d3_76 rfl 78 rfl ?_
          refine g_lconst X9 hx hby d3_78 (1 : Int64) rfl 79 rfl ?_
          refine g_land X9 hx hby d3_79 80 rfl ?_
          refine g_lconst X9 hx hby d3_80 (0 : Int64) rfl 81 rfl ?_
          refine g_lcmp_eq X9 hx hby d3_81 d3_82 94 85 rfl (by decide) (by decide) rfl (fun c11 => ?_) (fun c11 => ?_)
          · -- c11
            refine g_aload X9 hx hby d3_94 rfl rfl 96 rfl ?_
            refine g_callS X9 hx hby hZ hown (hw _ (List.mem_of_getElem? (i := 16) rfl)) (hw _ (List.mem_of_getElem? (i := 17) rfl)) (hw _ (List.mem_of_getElem? (i := 12) rfl)) (hw _ (List.mem_of_getElem? (i := 18) rfl)) d3_96 [(.ref mt)] [] (rm4 l Z a0 hw [] mt f h9 n0 Z9 P8_9) e9 rfl (by rw [hml]; rfl) pd2 rfl (by decide) 0 (Nat.le_of_eq rfl) (by decide) (by decide) (by show 4 + j + 1 ≤ 67; omega) (by show 128 + 32 * j + 32 ≤ 2144; omega) 99 rfl ?_
            intro T12 v12 L12 X12 Q12
            obtain ⟨r12, rfl, N12', K12', ⟨gn_r12, sq_r12⟩, P12⟩ := Q12
            have N12 := Fr.app N9 N12'
            have Z12 : n0 ≤ T12.heap.size := Nat.le_trans Z9 K12'.1
            show Goes p e below _ (T12.setTop (mkF m 99 _ [(.ref r12)]))
            refine g_astore X12 hx hby d3_99 rfl #[.val (.long fst), .second, .val (.long snd), .second, .val (.long len), .second, .val (.ref r12), .val (.int vc), .val (.long nn), .second] rfl 101 rfl ?_
            refine g_lload X12 hx hby d3_101 rfl 103 rfl ?_
            refine g_iconst X12 hx hby d3_103 (1 : Int32) rfl 104 rfl ?_
            refine g_lushr X12 hx hby d3_104 105 rfl ?_
            refine g_lstore X12 hx hby d3_105 ((nn.toUInt64 >>> ((1 : Int32) &&& 0x3f).toInt64.toUInt64).toInt64) rfl #[.val (.long fst), .second, .val (.long snd), .second, .val (.long len), .second, .val (.ref r12), .val (.int vc), .val (.long ((nn.toUInt64 >>> ((1 : Int32) &&& 0x3f).toInt64.toUInt64).toInt64)), .second] rfl 107 rfl ?_
            refine g_goto X12 hx hby d3_107 69 (by decide) (by decide) ?_
            exact ih fu' (j + 1) (ex + ex) _ _ _ _ _ _ _ (by omega) q1 q3 q4 hR.sq (own_even hn0 c11 hv) (X12.more (Nat.le_of_eq (by show 4 + j + 1 = 4 + (j + 1); omega)) (Nat.le_of_eq (by show 128 + 32 * j + 32 = 128 + 32 * (j + 1); omega))) rfl N12 Z12 P12
          · -- not c11
            refine g_aload X9 hx hby d3_85 rfl rfl 87 rfl ?_
            refine g_iload X9 hx hby d3_87 rfl 89 rfl ?_
            refine g_callS X9 hx hby hZ hown (hw _ (List.mem_of_getElem? (i := 19) rfl)) (hw _ (List.mem_of_getElem? (i := 20) rfl)) (hw _ (List.mem_of_getElem? (i := 12) rfl)) (hw _ (List.mem_of_getElem? (i := 21) rfl)) d3_89 [(.ref mt), (.int vc)] [] (rm5 l Z a0 hw [] mt vc f h9 n0 Z9 P8_9) e9 rfl (by rw [hml]; rfl) pd1 rfl (by decide) 0 (Nat.le_of_eq rfl) (by decide) (by decide) (by show 4 + j + 0 ≤ 67; omega) (by show 128 + 32 * j + 0 ≤ 2144; omega) 92 rfl ?_
            intro T13 v13 L13 X13 Q13
            obtain ⟨rfl, N13', e13⟩ := Q13
            have N13 := Fr.app N9 N13'
            show Goes p e below _ (T13.setTop (mkF m 92 _ [(.int (tmR f vc 32))]))
            refine g_istore X13 hx hby d3_92 (tmR f vc 32) rfl #[.val (.long fst), .second, .val (.long snd), .second, .val (.long len), .second, .val (.ref mt), .val (.int (tmR f vc 32)), .val (.long nn), .second] rfl 94 rfl ?_
            refine g_aload X13 hx hby d3_94 rfl rfl 96 rfl ?_
            refine g_callS X13 hx hby hZ hown (hw _ (List.mem_of_getElem? (i := 16) rfl)) (hw _ (List.mem_of_getElem? (i := 17) rfl)) (hw _ (List.mem_of_getElem? (i := 12) rfl)) (hw _ (List.mem_of_getElem? (i := 18) rfl)) d3_96 [(.ref mt)] [] (rm4 l Z a0 hw [] mt f h9 n0 Z9 P8_9) e13 rfl (by rw [hml]; rfl) pd2 rfl (by decide) 0 (Nat.le_of_eq rfl) (by decide) (by decide) (by show 4 + j + 0 + 1 ≤ 67; omega) (by show 128 + 32 * j + 0 + 32 ≤ 2144; omega) 99 rfl ?_
            intro T14 v14 L14 X14 Q14
            obtain ⟨r14, rfl, N14', K14', ⟨gn_r14, sq_r14⟩, P14⟩ := Q14
            have N14 := Fr.app N13 N14'
            have Z14 : n0 ≤ T14.heap.size := Nat.le_trans Z9 K14'.1
            show Goes p e below _ (T14.setTop (mkF m 99 _ [(.ref r14)]))
            refine g_astore X14 hx hby d3_99 rfl #[.val (.long fst), .second, .val (.long snd), .second, .val (.long len), .second, .val (.ref r14), .val (.int (tmR f vc 32)), .val (.long nn), .second] rfl 101 rfl ?_
            refine g_lload X14 hx hby d3_101 rfl 103 rfl ?_
            refine g_iconst X14 hx hby d3_103 (1 : Int32) rfl 104 rfl ?_
            refine g_lushr X14 hx hby d3_104 105 rfl ?_
            refine g_lstore X14 hx hby d3_105 ((nn.toUInt64 >>> ((1 : Int32) &&& 0x3f).toInt64.toUInt64).toInt64) rfl #[.val (.long fst), .second, .val (.long snd), .second, .val (.long len), .second, .val (.ref r14), .val (.int (tmR f vc 32)), .val (.long ((nn.toUInt64 >>> ((1 : Int32) &&& 0x3f).toInt64.toUInt64).toInt64)), .second] rfl 107 rfl ?_
            refine g_goto X14 hx hby d3_107 69 (by decide) (by decide) ?_
            exact ih fu' (j + 1) (ex + ex) _ _ _ _ _ _ _ (by omega) q1 q3 q4 hR.sq (own_odd hR hn0 c11 hv) (X14.more (Nat.le_of_eq (by show 4 + j + 1 = 4 + (j + 1); omega)) (Nat.le_of_eq (by show 128 + 32 * j + 32 = 128 + 32 * (j + 1); omega))) rfl N14 Z14 P14
theorem own_n62 {z nn : Int64} (h : z &&& (4611686018427387903 : Int64) = nn) : 0 ≤ nn.toInt ∧ nn.toInt < 4611686018427387904 := by
  rw [← h]
  have q := c_maskL z 4611686018427387903 62 (by decide) (by decide)
  have e : ((2 ^ 62 : Nat) : Int) = 4611686018427387904 := by decide
  rw [e] at q; omega
theorem own_n1 {nn : Int64} (h : 0 ≤ nn.toInt ∧ nn.toInt < 4611686018427387904) : 0 ≤ (nn + 1).toInt := by
  have h1 := c_ladd nn 1
  have h2 := rng64 (nn + 1)
  have o1 : (1 : Int64).toInt = 1 := rfl
  omega
theorem own_mask32 (y : Int64) : (y &&& (4294967295 : Int64)).toInt = y.toInt % 4294967296 := c_maskL y 4294967295 32 (by decide) (by decide)
theorem own_back (y : Int32) : ((y.toInt64) &&& (4294967295 : Int64)).toInt32 = y := by
  apply Int32.toInt_inj.mp
  have a := own_mask32 y.toInt64
  have b := c_l2i (y.toInt64 &&& (4294967295 : Int64))
  have r := rng32 (y.toInt64 &&& (4294967295 : Int64)).toInt32
  have r2 := rng32 y
  rw [c_i2l] at a; omega
theorem own_xm (a b : Int64) : ((a.toInt32.toInt64) ^^^ b) &&& (4294967295 : Int64) = (a ^^^ b) &&& (4294967295 : Int64) := by
  apply Int64.toBitVec_inj.mp
  apply BitVec.eq_of_getLsbD_eq
  intro i hi
  have mm : ∀ k : Fin 64, ((4294967295 : Int64).toBitVec).getLsbD k.1 = decide (k.1 < 32) := by decide +kernel
  have e : (a.toInt32.toInt64).toBitVec = (a.toBitVec.signExtend 32).signExtend 64 := rfl
  rw [Int64.toBitVec_and, Int64.toBitVec_and, Int64.toBitVec_xor, Int64.toBitVec_xor, BitVec.getLsbD_and, BitVec.getLsbD_and, mm ⟨i, hi⟩, BitVec.getLsbD_xor, BitVec.getLsbD_xor, e]
  by_cases q : i < 32
  · have q' : i < 64 := hi
    rw [BitVec.getLsbD_signExtend, BitVec.getLsbD_signExtend]; simp [q, q']
  · simp [q]
theorem zb8 (v : Int32) : zeroByte v = itr zeroBit 8 v := rfl
theorem own_step {a b n sh : Int64} (hn : 0 ≤ n.toInt ∧ n.toInt < 4611686018427387904) (hs : ((zeroByte a.toInt32).toInt64) &&& (4294967295 : Int64) = sh) : conc a b (n + 1) = conc sh b n := by
  unfold conc
  have e1 : (n + 1).toInt = n.toInt + 1 := by
    have h1 := c_ladd n 1
    have h2 := rng64 (n + 1)
    have o1 : (1 : Int64).toInt = 1 := rfl
    omega
  have e2 : 8 * (n + 1).toInt.toNat = 8 * n.toInt.toNat + 8 := by omega
  rw [← hs, own_back, zb8, ← itr_add, e2]

theorem pd3 : parseMethodDescriptor "(JJJ)J" = some ⟨[.long, .long, .long], some .long⟩ := by decide +kernel
theorem pn0 : plainFor (⟨"com/example/lasting_record/lastingrecord/warc/GzipMemberEncodingConcatenatedPinLaw", "law", "(JJJ)Z"⟩ : MethodName) = true := plainFor_of_name (by first | (simp [plainName, overriddenIn]; done) | decide +kernel)
theorem ef0 (m : MethodId) (fst : Int64) (snd : Int64) (sln : Int64) : entryFrame m #[(.long fst), (.long snd), (.long sln)] maxLocals = mkF m 0 #[.val (.long fst), .second, .val (.long snd), .second, .val (.long sln), .second, .unset, .unset, .unset, .unset, .unset, .unset, .unset, .unset, .unset, .unset, .unset, .unset] [] := by first | (simp [entryFrame, mkF, argsToLocals, Value.category, maxLocals]; done) | rfl
def Q0 (fst : Int64) (snd : Int64) (sln : Int64) (Z : State) (h0 : Heap) (n0 : Nat) (v : Option Value) (h : Heap) (L : List Loc) : Prop := v = some (.int 1) ∧ Fr n0 L
set_option maxRecDepth 65536 in
set_option maxHeartbeats 40000000 in
theorem rm0 (l : Launch) (Z : State) (a0 : Array Value) (hw : ∀ d ∈ tables_1, d.before a0 Z = true) (ws : List Jvm.Cond) (fst : Int64) (snd : Int64) (sln : Int64) (h0 : Heap) (n0 : Nat) (Z0 : n0 ≤ h0.size) : Ctr l x code maxLocals ret ws room_1 #[(.long fst), (.long snd), (.long sln)] Z h0 (Q0 fst snd sln Z h0 n0) := by
  refine own_body pn0 ?_
  intro p e s m below meth c T0 hx hby hml hown hnm hret hlk hZ X0 e0
  have N0 := Fr.nil n0
  refine Goes.entry (ef0 m fst snd sln) ?_
  refine g_ldc2 X0 hx hby hZ hown (hw _ (List.mem_of_getElem? (i := 0) rfl)) at_0 3 rfl ?_
  refine g_lstore X0 hx hby at_3 (4294967295 : Int64) rfl #[.val (.long fst), .second, .val (.long snd), .second, .val (.long sln), .second, .val (.long (4294967295 : Int64)), .second, .unset, .unset, .unset, .unset, .unset, .unset, .unset, .unset, .unset, .unset] rfl 5 rfl ?_
  refine g_lloadN X0 hx hby at_5 rfl 6 rfl ?_
  refine g_lload X0 hx hby at_6 rfl 8 rfl ?_
  refine g_land X0 hx hby at_8 9 rfl ?_
  obtain ⟨a, ha⟩ : ∃ z : Int64, (fst &&& (4294967295 : Int64)) = z := ⟨_, rfl⟩
  refine g_lstore X0 hx hby at_9 a ha #[.val (.long fst), .second, .val (.long snd), .second, .val (.long sln), .second, .val (.long (4294967295 : Int64)), .second, .val (.long a), .second, .unset, .unset, .unset, .unset, .unset, .unset, .unset, .unset] rfl 11 rfl ?_
  refine g_lloadN X0 hx hby at_11 rfl 12 rfl ?_
  refine g_lload X0 hx hby at_12 rfl 14 rfl ?_
  refine g_land X0 hx hby at_14 15 rfl ?_
  obtain ⟨b, hb⟩ : ∃ z : Int64, (snd &&& (4294967295 : Int64)) = z := ⟨_, rfl⟩
  refine g_lstore X0 hx hby at_15 b hb #[.val (.long fst), .second, .val (.long snd), .second, .val (.long sln), .second, .val (.long (4294967295 : Int64)), .second, .val (.long a), .second, .val (.long b), .second, .unset, .unset, .unset, .unset, .unset, .unset] rfl 17 rfl ?_
  refine g_lload X0 hx hby at_17 rfl 19 rfl ?_
  refine g_ldc2 X0 hx hby hZ hown (hw _ (List.mem_of_getElem? (i := 1) rfl)) at_19 22 rfl ?_
  refine g_land X0 hx hby at_22 23 rfl ?_
  obtain ⟨nn, hnn⟩ : ∃ z : Int64, (sln &&& (4611686018427387903 : Int64)) = z := ⟨_, rfl⟩
  refine g_lstore X0 hx hby at_23 nn hnn #[.val (.long fst), .second, .val (.long snd), .second, .val (.long sln), .second, .val (.long (4294967295 : Int64)), .second, .val (.long a), .second, .val (.long b), .second, .val (.long nn), .second, .unset, .unset, .unset, .unset] rfl 25 rfl ?_
  have hn := own_n62 hnn
  have hn1 := own_n1 hn
  refine g_lload X0 hx hby at_25 rfl 27 rfl ?_
  refine g_l2i X0 hx hby at_27 28 rfl ?_
  refine g_callS X0 hx hby hZ hown (hw _ (List.mem_of_getElem? (i := 2) rfl)) (hw _ (List.mem_of_getElem? (i := 3) rfl)) (hw _ (List.mem_of_getElem? (i := 4) rfl)) (hw _ (List.mem_of_getElem? (i := 5) rfl)) at_28 [(.int (a.toInt32))] [] (rm1 l Z a0 hw [] (a.toInt32) h0 n0 Z0) e0 rfl (by rw [hml]; rfl) pd0 rfl (by decide) 0 (Nat.le_of_eq rfl) (by decide) (by decide) (by decide) (by decide) 31 rfl ?_
  intro T1 v1 L1 X1 Q1
  obtain ⟨rfl, N1', e1⟩ := Q1
  have N1 := Fr.app N0 N1'
  show Goes p e below _ (T1.setTop (mkF m 31 _ [(.int (zeroByte (a.toInt32)))]))
  refine g_i2l X1 hx hby at_31 32 rfl ?_
  refine g_lload X1 hx hby at_32 rfl 34 rfl ?_
  refine g_land X1 hx hby at_34 35 rfl ?_
  obtain ⟨sh, hsh⟩ : ∃ z : Int64, (((zeroByte (a.toInt32)).toInt64) &&& (4294967295 : Int64)) = z := ⟨_, rfl⟩
  refine g_lstore X1 hx hby at_35 sh hsh #[.val (.long fst), .second, .val (.long snd), .second, .val (.long sln), .second, .val (.long (4294967295 : Int64)), .second, .val (.long a), .second, .val (.long b), .second, .val (.long nn), .second, .val (.long sh), .second, .unset, .unset] rfl 37 rfl ?_
  refine g_lload X1 hx hby at_37 rfl 39 rfl ?_
  refine g_lload X1 hx hby at_39 rfl 41 rfl ?_
  refine g_lconst X1 hx hby at_41 (0 : Int64) rfl 42 rfl ?_
  refine g_callS X1 hx hby hZ hown (hw _ (List.mem_of_getElem? (i := 10) rfl)) (hw _ (List.mem_of_getElem? (i := 11) rfl)) (hw _ (List.mem_of_getElem? (i := 12) rfl)) (hw _ (List.mem_of_getElem? (i := 13) rfl)) at_42 [(.long a), (.long b), (.long (0 : Int64))] [] (rm3 l Z a0 hw [] a b (0 : Int64) h0 n0 Z0 (by decide)) e1 rfl (by rw [hml]; rfl) pd3 rfl (by decide) 0 (Nat.le_of_eq rfl) (by decide) (by decide) (by decide) (by decide) 45 rfl ?_
  intro T2 v2 L2 X2 Q2
  obtain ⟨rfl, N2', Z2⟩ := Q2
  have N2 := Fr.app N1 N2'
  show Goes p e below _ (T2.setTop (mkF m 45 _ [(.long (conc a b (0 : Int64)))]))
  refine g_lload X2 hx hby at_45 rfl 47 rfl ?_
  refine g_lload X2 hx hby at_47 rfl 49 rfl ?_
  refine g_lxor X2 hx hby at_49 50 rfl ?_
  refine g_lload X2 hx hby at_50 rfl 52 rfl ?_
  refine g_land X2 hx hby at_52 53 rfl ?_
  refine g_lcmp_ne X2 hx hby at_53 at_54 61 57 rfl (by decide) (by decide) rfl (fun _ => ?_) (fun q => absurd (own_xm a b) q)
  refine g_iconst X2 hx hby at_57 (1 : Int32) rfl 58 rfl ?_
  refine g_goto X2 hx hby at_58 62 (by decide) (by decide) ?_
  refine g_istore X2 hx hby at_62 (1 : Int32) rfl #[.val (.long fst), .second, .val (.long snd), .second, .val (.long sln), .second, .val (.long (4294967295 : Int64)), .second, .val (.long a), .second, .val (.long b), .second, .val (.long nn), .second, .val (.long sh), .second, .val (.int (1 : Int32)), .unset] rfl 64 rfl ?_
  refine g_lload X2 hx hby at_64 rfl 66 rfl ?_
  refine g_lload X2 hx hby at_66 rfl 68 rfl ?_
  refine g_lload X2 hx hby at_68 rfl 70 rfl ?_
  refine g_lconst X2 hx hby at_70 (1 : Int64) rfl 71 rfl ?_
  refine g_ladd X2 hx hby at_71 72 rfl ?_
  refine g_callS X2 hx hby hZ hown (hw _ (List.mem_of_getElem? (i := 10) rfl)) (hw _ (List.mem_of_getElem? (i := 11) rfl)) (hw _ (List.mem_of_getElem? (i := 12) rfl)) (hw _ (List.mem_of_getElem? (i := 13) rfl)) at_72 [(.long a), (.long b), (.long (nn + (1 : Int64)))] [] (rm3 l Z a0 hw [] a b (nn + (1 : Int64)) T2.heap n0 Z2 hn1) rfl rfl (by rw [hml]; rfl) pd3 rfl (by decide) 0 (Nat.le_of_eq rfl) (by decide) (by decide) (by decide) (by decide) 75 rfl ?_
  intro T3 v3 L3 X3 Q3
  obtain ⟨rfl, N3', Z3⟩ := Q3
  have N3 := Fr.app N2 N3'
  show Goes p e below _ (T3.setTop (mkF m 75 _ [(.long (conc a b (nn + (1 : Int64))))]))
  refine g_lload X3 hx hby at_75 rfl 77 rfl ?_
  refine g_lload X3 hx hby at_77 rfl 79 rfl ?_
  refine g_lload X3 hx hby at_79 rfl 81 rfl ?_
  refine g_callS X3 hx hby hZ hown (hw _ (List.mem_of_getElem? (i := 10) rfl)) (hw _ (List.mem_of_getElem? (i := 11) rfl)) (hw _ (List.mem_of_getElem? (i := 12) rfl)) (hw _ (List.mem_of_getElem? (i := 13) rfl)) at_81 [(.long sh), (.long b), (.long nn)] [(.long (conc a b (nn + (1 : Int64))))] (rm3 l Z a0 hw [] sh b nn T3.heap n0 Z3 hn.1) rfl rfl (by rw [hml]; rfl) pd3 rfl (by decide) 2 (Nat.le_of_eq rfl) (by decide) (by decide) (by decide) (by decide) 84 rfl ?_
  intro T4 v4 L4 X4 Q4
  obtain ⟨rfl, N4', Z4⟩ := Q4
  have N4 := Fr.app N3 N4'
  show Goes p e below _ (T4.setTop (mkF m 84 _ [(.long (conc sh b nn)), (.long (conc a b (nn + (1 : Int64))))]))
  refine g_lcmp_ne X4 hx hby at_84 at_85 92 88 rfl (by decide) (by decide) rfl (fun _ => ?_) (fun q => absurd (own_step hn hsh) q)
  refine g_iconst X4 hx hby at_88 (1 : Int32) rfl 89 rfl ?_
  refine g_goto X4 hx hby at_89 93 (by decide) (by decide) ?_
  refine g_istore X4 hx hby at_93 (1 : Int32) rfl #[.val (.long fst), .second, .val (.long snd), .second, .val (.long sln), .second, .val (.long (4294967295 : Int64)), .second, .val (.long a), .second, .val (.long b), .second, .val (.long nn), .second, .val (.long sh), .second, .val (.int (1 : Int32)), .val (.int (1 : Int32))] rfl 95 rfl ?_
  refine g_iload X4 hx hby at_95 rfl 97 rfl ?_
  refine g_if_eq X4 hx hby at_97 109 100 (by decide) (by decide) rfl (fun q => absurd q (by decide)) (fun _ => ?_)
  refine g_iload X4 hx hby at_100 rfl 102 rfl ?_
  refine g_if_eq X4 hx hby at_102 109 105 (by decide) (by decide) rfl (fun q => absurd q (by decide)) (fun _ => ?_)
  refine g_iconst X4 hx hby at_105 (1 : Int32) rfl 106 rfl ?_
  refine g_goto X4 hx hby at_106 110 (by decide) (by decide) ?_
  exact g_ireturn X4 hx hby hret hlk (Or.inr (Or.inl rfl)) (nar_bool (Or.inr rfl)) at_110 ⟨rfl, N4⟩ (by decide) (by decide)
set_option maxRecDepth 65536 in
set_option maxHeartbeats 40000000 in
theorem comes_1 {Post : Tables → Env → Array Value → State → Outcome → State → Prop} (hpost : ∀ tb e args s v u, (limb_1_1.after args s (.returned v) u = true ∧ limb_1_2.after args s (.returned v) u = true ∧ True) → FrameEnd s (.returned v) u (Jvm.fieldLocs frame_1_writes args s ++ Jvm.arrayLocs frame_1_arrays args s ++ Jvm.staticLocs frame_1_statics s) 288 8832 → Post tb e args s (.returned v) u) :
    ArmFor flags0 classFile x code maxLocals ret World_1 tables_1 room_1 Calls_1 rest_1 Pre_1 Post := by
  intro l hfl _ _ p e ha hc hk s m args below hf hA hF happ hP
  obtain ⟨hcalls, hrest, hpre⟩ := hP
  obtain ⟨-, -, -, hnamed, -, -, -, hat⟩ := (Spec.applies_iff hf).mp happ
  obtain ⟨hg, hn⟩ := and_e (Cond.before_iff.mp (show (Jvm.Cond.and given_1 narrow_1).before args s = true from hpre))
  obtain ⟨q0, r0⟩ := and_e hg
  obtain ⟨q1, r1⟩ := and_e r0
  obtain ⟨q2, r2⟩ := and_e r1
  obtain ⟨w0, w1, w2, rfl⟩ : ∃ w0 w1 w2 : Value, args = #[w0, w1, w2] := by
    have hs : args.size = 3 := by simpa [Cond.value, given_1] using q0
    obtain ⟨L⟩ := args
    match L, hs with
    | [w0, w1, w2], _ => exact ⟨w0, w1, w2, rfl⟩
  have hw := fun d (hd : d ∈ tables_1) => atoms_spec (ws := Jvm.Cond.code x code maxLocals ret :: tables_1) hat d (List.mem_cons_of_mem _ hd)
  obtain ⟨i0, ei0⟩ := isL_v q1
  obtain rfl : w0 = (.long i0) := Option.some.inj ei0
  obtain ⟨i1, ei1⟩ := isL_v q2
  obtain rfl : w1 = (.long i1) := Option.some.inj ei1
  obtain ⟨i2, ei2⟩ := isL_v r2
  obtain rfl : w2 = (.long i2) := Option.some.inj ei2
  obtain ⟨n, o, h1, h2, h3, _, L, rfl, ⟨rfl, N⟩, hq⟩ := rm0 l s _ hw tables_1 i0 i1 i2 s.heap s.heap.size (Nat.le_refl _) p e ha hc hk s m _ below hf ((Spec.applies_iff_loose hf).mp happ).1 ⟨rfl, State.Warmed39.refl s, rfl⟩ trivial
  refine ⟨n, _, h1, h2, h3, hpost _ _ _ _ _ _ ⟨Cond.after_iff.mpr rfl, Cond.after_iff.mpr (eq_i res_at (Term.int_eval (1)) rfl), trivial⟩ ⟨hq.1, hq.2.1, (hq.2.2.sift fun y hy => Or.inr (N y hy)).mono (by decide) (by decide)⟩⟩
theorem main_1_1 : Claimed_1_1 := comes_1 fun _ _ _ _ _ _ h hF => ⟨h.1, hF⟩
theorem main_1_2 : Claimed_1_2 := comes_1 fun _ _ _ _ _ _ h hF => ⟨h.2.1, hF⟩
end Jvm.Pilot.@@N@@
namespace Jvm.Pilot.@@N@@
open Jvm Jvm.ClassFile Sem Op Lib Jvm.Free Jvm.Stand Jvm.Pilot.@@N@@.Jvm.D
/-! MADE BY PROGRAM (witnessworld.py) out of the Statement's table words and the real class files: 10 classes; the members and pool entries that the words name. The judged class is class 1, her method 3. -/
namespace start1
open Jvm.ClassFile
def u (s : String) : CpInfo := .utf8 (stringToUtf16 s)
/-- a pool by its gaps: so many unusable entries, then the entry; so many at the end -/
def gap : Nat → List CpInfo → List CpInfo
  | 0, r => r
  | n + 1, r => .unusable :: gap n r
def poolList (es : List (Nat × CpInfo)) (last : Nat) : List CpInfo := es.foldr (fun e r => gap e.1 (e.2 :: r)) (gap last [])
def pool (es : List (Nat × CpInfo)) (last : Nat) : Array CpInfo := ⟨poolList es last⟩
def fileOf (pool : Array CpInfo) (this : Nat) (attrs : Array Attribute := #[]) (ms : Array MethodInfo := #[]) (fl : Nat := 33) (sup : Nat := 0) (ifs : Array Nat := #[]) (fds : Array FieldInfo := #[]) : ClassFile where
  minorVersion := 0
  majorVersion := 65
  constantPool := pool
  accessFlags := fl
  thisClass := this
  superClass := sup
  interfaces := ifs
  fields := fds
  methods := ms
  attributes := attrs
def plain (name : String) (sup : Option ClassId) : Class where
  name := name
  kind := .ordinary
  loader := none
  accessFlags := 33
  super := sup
  interfaces := #[]
  cf := none
  fields := #[]
  methods := #[]
  instanceTypes := #[]
  staticTypes := #[]
  resolved := #[]
  callSites := []
  init := .initialized
  statics := none
  mirror := none

def pool0 : Array CpInfo := pool [(5, u "<init>"), (0, u "()V"), (1, .class_ 10), (1, u "java/lang/Object")] 113

def k0m0 : Method := { name := "<init>", desc := "()V", sig := { parameters := [], returnType := none }, accessFlags := 1, code := none }
/-- java/lang/Object -/
def k0 : Class := { plain "java/lang/Object" none with
  accessFlags := 33
  interfaces := #[]
  cf := some (fileOf pool0 8 #[] #[{ accessFlags := 1, nameIndex := 5, descriptorIndex := 6, attributes := #[] }] 33 0 #[] #[])
  fields := #[]
  methods := #[k0m0]
  instanceTypes := #[]
  staticTypes := #[]
  resolved := Array.replicate 124 none
  statics := none }

def pool1 : Array CpInfo := pool [(2, .class_ 4), (1, u "java/lang/Object"), (0, u "<init>"), (0, u "()V"), (0, .integer 3988292384), (0, .methodref 9 10), (0, .class_ 11), (0, .nameAndType 12 13), (0, u "com/example/lasting_record/lastingrecord/warc/GzipMemberEncodingConcatenatedPinLaw"), (0, u "zeroBit"), (0, u "(I)I"), (0, .long 4294967295), (1, .long 4611686018427387903), (1, .methodref 9 19), (0, .nameAndType 20 13), (0, u "zeroByte"), (0, .methodref 22 23), (0, .class_ 24), (0, .nameAndType 25 26), (0, u "com/example/lasting_record/lastingrecord/warc/GzipMemberEncoding"), (0, u "concatenated"), (0, u "(JJJ)J"), (3, u "law"), (0, u "(JJJ)Z")] 2

def k1m0 : Method := { name := "<init>", desc := "()V", sig := { parameters := [], returnType := none }, accessFlags := 1, code := none }
def k1c1 : Code := { maxStack := 3, maxLocals := 1, code := method_2_code, exceptionTable := #[], attributes := #[] }
def k1m1 : Method := { name := "zeroBit", desc := "(I)I", sig := { parameters := [.int], returnType := some .int }, accessFlags := 10, code := some k1c1 }
def k1c2 : Code := { maxStack := 1, maxLocals := 1, code := method_3_code, exceptionTable := #[], attributes := #[] }
def k1m2 : Method := { name := "zeroByte", desc := "(I)I", sig := { parameters := [.int], returnType := some .int }, accessFlags := 10, code := some k1c2 }
def k1c3 : Code := { maxStack := 8, maxLocals := 18, code := code, exceptionTable := #[], attributes := #[] }
def k1m3 : Method := { name := "law", desc := "(JJJ)Z", sig := { parameters := [.long, .long, .long], returnType := some .boolean }, accessFlags := 9, code := some k1c3 }
/-- com/example/lasting_record/lastingrecord/warc/GzipMemberEncodingConcatenatedPinLaw -/
def k1 : Class := { plain "com/example/lasting_record/lastingrecord/warc/GzipMemberEncodingConcatenatedPinLaw" (some 0) with
  accessFlags := 49
  interfaces := #[]
  cf := some (fileOf pool1 9 #[] #[{ accessFlags := 1, nameIndex := 5, descriptorIndex := 6, attributes := #[] }, { accessFlags := 10, nameIndex := 12, descriptorIndex := 13, attributes := #[] }, { accessFlags := 10, nameIndex := 20, descriptorIndex := 13, attributes := #[] }, { accessFlags := 9, nameIndex := 30, descriptorIndex := 31, attributes := #[] }] 49 2 #[] #[])
  fields := #[]
  methods := #[k1m0, k1m1, k1m2, k1m3]
  instanceTypes := #[]
  staticTypes := #[]
  resolved := Array.replicate 34 none
  statics := none }

def pool2 : Array CpInfo := pool [(1, .class_ 2), (0, u "com/example/lasting_record/lastingrecord/warc/RecordEncoding"), (0, .class_ 4), (0, u "java/lang/Object"), (15, .class_ 21), (0, u "com/example/lasting_record/lastingrecord/warc/RecordEncoding$Plain")] 2

/-- com/example/lasting_record/lastingrecord/warc/RecordEncoding -/
def k2 : Class := { plain "com/example/lasting_record/lastingrecord/warc/RecordEncoding" (some 0) with
  accessFlags := 1536
  interfaces := #[]
  cf := some (fileOf pool2 1 #[.nestMembers #[20]] #[] 1536 3 #[] #[])
  fields := #[]
  methods := #[]
  instanceTypes := #[]
  staticTypes := #[]
  resolved := Array.replicate 24 none
  statics := none }

def pool3 : Array CpInfo := pool [(2, .class_ 4), (1, u "java/lang/Object"), (8, .class_ 15), (1, u "com/example/lasting_record/lastingrecord/warc/GzipMemberEncoding"), (0, u "deflater"), (0, u "Ljava/util/zip/Deflater;"), (3, u "deflated"), (0, u "[B"), (5, u "crc"), (0, u "Ljava/util/zip/CRC32;"), (2, u "output"), (0, u "Lcom/example/lasting_record/lastingrecord/warc/ChannelOutput;"), (6, u "length"), (0, u "J"), (2, u "verbatim"), (2, u "HEADER"), (37, u "headCrc"), (2, u "headLength"), (5, u "verbatimAt"), (19, u "concatenated"), (0, u "(JJJ)J"), (10, .integer 3988292384), (0, .methodref 13 128), (0, .nameAndType 129 130), (0, u "squared"), (0, u "([I)[I"), (0, .methodref 13 132), (0, .nameAndType 133 134), (0, u "times"), (0, u "([II)I"), (0, .long 4294967295), (1, .class_ 138), (0, u "com/example/lasting_record/lastingrecord/warc/RecordEncoding"), (0, u "MAX_STORED"), (0, u "I"), (1, u "POLYNOMIAL")] 31

def k3c0 : Code := { maxStack := 5, maxLocals := 10, code := prog_35_method_9_code, exceptionTable := #[], attributes := #[] }
def k3m0 : Method := { name := "concatenated", desc := "(JJJ)J", sig := { parameters := [.long, .long, .long], returnType := some .long }, accessFlags := 8, code := some k3c0 }
def k3c1 : Code := { maxStack := 3, maxLocals := 4, code := prog_35_method_10_code, exceptionTable := #[], attributes := #[] }
def k3m1 : Method := { name := "times", desc := "([II)I", sig := { parameters := [(.array .int), .int], returnType := some .int }, accessFlags := 10, code := some k3c1 }
def k3c2 : Code := { maxStack := 5, maxLocals := 3, code := prog_35_method_11_code, exceptionTable := #[], attributes := #[] }
def k3m2 : Method := { name := "squared", desc := "([I)[I", sig := { parameters := [(.array .int)], returnType := some (.array .int) }, accessFlags := 10, code := some k3c2 }
/-- com/example/lasting_record/lastingrecord/warc/GzipMemberEncoding -/
def k3 : Class := { plain "com/example/lasting_record/lastingrecord/warc/GzipMemberEncoding" (some 0) with
  accessFlags := 48
  interfaces := #[2]
  cf := some (fileOf pool3 13 #[] #[{ accessFlags := 8, nameIndex := 114, descriptorIndex := 115, attributes := #[] }, { accessFlags := 10, nameIndex := 133, descriptorIndex := 134, attributes := #[] }, { accessFlags := 10, nameIndex := 129, descriptorIndex := 130, attributes := #[] }] 48 2 #[137] #[{ accessFlags := 26, nameIndex := 47, descriptorIndex := 22, attributes := #[] }, { accessFlags := 26, nameIndex := 139, descriptorIndex := 140, attributes := #[] }, { accessFlags := 26, nameIndex := 142, descriptorIndex := 140, attributes := #[] }, { accessFlags := 18, nameIndex := 32, descriptorIndex := 33, attributes := #[] }, { accessFlags := 18, nameIndex := 16, descriptorIndex := 17, attributes := #[] }, { accessFlags := 18, nameIndex := 21, descriptorIndex := 22, attributes := #[] }, { accessFlags := 18, nameIndex := 28, descriptorIndex := 29, attributes := #[] }, { accessFlags := 2, nameIndex := 40, descriptorIndex := 41, attributes := #[] }, { accessFlags := 2, nameIndex := 85, descriptorIndex := 41, attributes := #[] }, { accessFlags := 2, nameIndex := 88, descriptorIndex := 41, attributes := #[] }, { accessFlags := 2, nameIndex := 94, descriptorIndex := 41, attributes := #[] }, { accessFlags := 2, nameIndex := 44, descriptorIndex := 22, attributes := #[] }])
  fields := #[{ name := "HEADER", type := (.array .byte), accessFlags := 26, slot := 0, constantValue := 0 }, { name := "MAX_STORED", type := .int, accessFlags := 26, slot := 1, constantValue := 0 }, { name := "POLYNOMIAL", type := .int, accessFlags := 26, slot := 2, constantValue := 0 }, { name := "output", type := (.object "com/example/lasting_record/lastingrecord/warc/ChannelOutput"), accessFlags := 18, slot := 0, constantValue := 0 }, { name := "deflater", type := (.object "java/util/zip/Deflater"), accessFlags := 18, slot := 1, constantValue := 0 }, { name := "deflated", type := (.array .byte), accessFlags := 18, slot := 2, constantValue := 0 }, { name := "crc", type := (.object "java/util/zip/CRC32"), accessFlags := 18, slot := 3, constantValue := 0 }, { name := "length", type := .long, accessFlags := 2, slot := 4, constantValue := 0 }, { name := "headCrc", type := .long, accessFlags := 2, slot := 5, constantValue := 0 }, { name := "headLength", type := .long, accessFlags := 2, slot := 6, constantValue := 0 }, { name := "verbatimAt", type := .long, accessFlags := 2, slot := 7, constantValue := 0 }, { name := "verbatim", type := (.array .byte), accessFlags := 2, slot := 8, constantValue := 0 }]
  methods := #[k3m0, k3m1, k3m2]
  instanceTypes := #[(.object "com/example/lasting_record/lastingrecord/warc/ChannelOutput"), (.object "java/util/zip/Deflater"), (.array .byte), (.object "java/util/zip/CRC32"), .long, .long, .long, .long, (.array .byte)]
  staticTypes := #[(.array .byte), .int, .int]
  resolved := Array.replicate 174 none
  statics := none }

def pool4 : Array CpInfo := pool [(1, u "java/lang/Cloneable"), (0, .class_ 1), (0, u "java/lang/Object"), (0, .class_ 3)] 3

/-- java/lang/Cloneable -/
def k4 : Class := { plain "java/lang/Cloneable" (some 0) with
  accessFlags := 1537
  interfaces := #[]
  cf := some (fileOf pool4 2 #[] #[] 1537 4 #[] #[])
  fields := #[]
  methods := #[]
  instanceTypes := #[]
  staticTypes := #[]
  resolved := Array.replicate 8 none
  statics := none }

def pool5 : Array CpInfo := pool [(1, u "java/io/Serializable"), (0, .class_ 1), (0, u "java/lang/Object"), (0, .class_ 3)] 3

/-- java/io/Serializable -/
def k5 : Class := { plain "java/io/Serializable" (some 0) with
  accessFlags := 1537
  interfaces := #[]
  cf := some (fileOf pool5 2 #[] #[] 1537 4 #[] #[])
  fields := #[]
  methods := #[]
  instanceTypes := #[]
  staticTypes := #[]
  resolved := Array.replicate 8 none
  statics := none }

/-- the primitive byte -/
def k6 : Class := { plain "byte" none with kind := .primitive 'B', accessFlags := 0x411 }
/-- [B -/
def k7 : Class := { plain "[B" (some 0) with kind := .array 6 .byte, interfaces := #[4, 5], accessFlags := 1041 }

/-- the primitive int -/
def k8 : Class := { plain "int" none with kind := .primitive 'I', accessFlags := 0x411 }
/-- [I -/
def k9 : Class := { plain "[I" (some 0) with kind := .array 8 .int, interfaces := #[4, 5], accessFlags := 1041 }

def heap : Heap := #[]
def classes : Array Class := #[k0, k1, k2, k3, k4, k5, k6, k7, k8, k9]
def interned : List (Array UInt16 × Addr) := []
def slotsUsed : Nat := 0
def theMethod : MethodId := ⟨1, 3⟩
def args0 : Array Value := #[.long 5, .long 5, .long 5]
def aboutOver (below : List Frame) : State where
  vm := { classes := classes, interned := interned.toArray }
  heap := heap
  slotsUsed := slotsUsed
  threads := #[{ frames := .invoking theMethod args0 :: below }]
def below0 : List Frame := [.native { method := ⟨0, 0⟩, args := #[] }]
def about1 : State := aboutOver below0
def p0 : Program := .bare "" "" ""
def e0 : Env := launch0.env 0 0 0
theorem w_frames : about1.frames = Frame.invoking theMethod args0 :: below0 := rfl
set_option maxRecDepth 65536 in
theorem w_args : argsFit about1.vm theMethod args0 = true := by decide +kernel
set_option maxRecDepth 65536 in
theorem w_heap : heapFits about1 = true := by decide +kernel
set_option maxRecDepth 65536 in
theorem w_runnable : about1.curStatus? = some .runnable := by decide +kernel
set_option maxRecDepth 65536 in
theorem w_alone : about1.alone = true := by decide +kernel
set_option maxRecDepth 65536 in
theorem w_named : about1.methodNamed? x = some theMethod := by decide +kernel
set_option maxRecDepth 65536 in
theorem w_hears : about1.hears theMethod below0 = true := by decide +kernel
set_option maxRecDepth 65536 in
theorem w_ripe : about1.ripe theMethod args0 below0 = true := by decide +kernel
theorem w_running : about1.status = .running := rfl
set_option maxRecDepth 65536 in
theorem w_room : about1.hasRoom e0.platform room_1 = true :=
  launch0.hasRoom_least _ room_1 (by decide +kernel) (by decide +kernel) (by decide +kernel) (by decide +kernel) (by decide +kernel) (by decide +kernel)
theorem allAtoms_all (ts : List Jvm.Cond) (a : Array Jvm.Value) (st : Jvm.State) : (allAtoms ts).before a st = ts.all (fun c => c.before a st) := by
  induction ts with
  | nil => rfl
  | cons c t ih =>
    show (Jvm.Cond.and c (allAtoms t)).before a st = _
    rw [Jvm.Cond.before_and, ih, List.all_cons]
def words1 : List Jvm.Cond := Jvm.Cond.code x code maxLocals ret :: tables_1
/-- a 'code' word, met by the world's own term for the bytes: nothing is compared byte by byte -/
theorem code_word {y : MethodName} {bytes : ByteArray} {mx : Nat} {rt : Option FieldType} {a : Array Value} {s : State} {m : MethodId} {meth : Method} {c : Code} (h1 : s.methodNamed? y = some m) (h2 : s.vm.method? m = some meth) (h3 : meth.code = some c) (h4 : c.code = bytes)
    (h5 : (c.maxLocals == mx && c.exceptionTable.isEmpty && decide (c.maxStack ≤ mostOperands) && decide (meth.sig.returnType = rt) && !meth.locks && decide (parseMethodDescriptor y.desc = some meth.sig)) = true) : (Jvm.Cond.code y bytes mx rt).before a s = true := by
  simp only [Bool.and_eq_true, beq_iff_eq, Bool.not_eq_true', decide_eq_true_eq] at h5
  obtain ⟨⟨⟨⟨⟨g1, g2⟩, g3⟩, g4⟩, g5⟩, g6⟩ := h5
  simp [Cond.before, Cond.holds, Cond.value, h1, h2, h3, h4, g1, g2, g3, g4, g5, g6]
def isCode : Jvm.Cond → Bool
  | .code _ _ _ _ => true
  | _ => false
theorem all_split {L : List Jvm.Cond} {P : Jvm.Cond → Bool} (h1 : L.all (fun c => isCode c || P c) = true) (h2 : ∀ c ∈ L.filter isCode, P c = true) : L.all P = true := by
  refine List.all_eq_true.mpr fun c hc => ?_
  have h := List.all_eq_true.mp h1 c hc
  rcases Bool.eq_false_or_eq_true (isCode c) with hi | hi
  · exact h2 c (List.mem_filter.mpr ⟨hc, hi⟩)
  · simpa [hi] using h
set_option maxRecDepth 65536 in
theorem w_c0 : (Jvm.Cond.code x code maxLocals ret).before args0 about1 = true := code_word (m := ⟨1, 3⟩) (meth := k1m3) (c := k1c3) (by decide +kernel) rfl rfl rfl (by decide +kernel)
set_option maxRecDepth 65536 in
theorem w_c1 : (Jvm.Cond.code ({ cls := "com/example/lasting_record/lastingrecord/warc/GzipMemberEncodingConcatenatedPinLaw", name := "zeroByte", desc := "(I)I" } : Jvm.MethodName) method_3_code (1 : Nat) (Option.some Jvm.ClassFile.FieldType.int)).before args0 about1 = true := code_word (m := ⟨1, 2⟩) (meth := k1m2) (c := k1c2) (by decide +kernel) rfl rfl rfl (by decide +kernel)
set_option maxRecDepth 65536 in
theorem w_c2 : (Jvm.Cond.code ({ cls := "com/example/lasting_record/lastingrecord/warc/GzipMemberEncodingConcatenatedPinLaw", name := "zeroBit", desc := "(I)I" } : Jvm.MethodName) method_2_code (1 : Nat) (Option.some Jvm.ClassFile.FieldType.int)).before args0 about1 = true := code_word (m := ⟨1, 1⟩) (meth := k1m1) (c := k1c1) (by decide +kernel) rfl rfl rfl (by decide +kernel)
set_option maxRecDepth 65536 in
theorem w_c3 : (Jvm.Cond.code ({ cls := "com/example/lasting_record/lastingrecord/warc/GzipMemberEncoding", name := "concatenated", desc := "(JJJ)J" } : Jvm.MethodName) prog_35_method_9_code (10 : Nat) (Option.some Jvm.ClassFile.FieldType.long)).before args0 about1 = true := code_word (m := ⟨3, 0⟩) (meth := k3m0) (c := k3c0) (by decide +kernel) rfl rfl rfl (by decide +kernel)
set_option maxRecDepth 65536 in
theorem w_c4 : (Jvm.Cond.code ({ cls := "com/example/lasting_record/lastingrecord/warc/GzipMemberEncoding", name := "squared", desc := "([I)[I" } : Jvm.MethodName) prog_35_method_11_code (3 : Nat) (Option.some (Jvm.ClassFile.FieldType.array Jvm.ClassFile.FieldType.int))).before args0 about1 = true := code_word (m := ⟨3, 2⟩) (meth := k3m2) (c := k3c2) (by decide +kernel) rfl rfl rfl (by decide +kernel)
set_option maxRecDepth 65536 in
theorem w_c5 : (Jvm.Cond.code ({ cls := "com/example/lasting_record/lastingrecord/warc/GzipMemberEncoding", name := "times", desc := "([II)I" } : Jvm.MethodName) prog_35_method_10_code (4 : Nat) (Option.some Jvm.ClassFile.FieldType.int)).before args0 about1 = true := code_word (m := ⟨3, 1⟩) (meth := k3m1) (c := k3c1) (by decide +kernel) rfl rfl rfl (by decide +kernel)
def codes1 : List Jvm.Cond := [Jvm.Cond.code x code maxLocals ret, Jvm.Cond.code ({ cls := "com/example/lasting_record/lastingrecord/warc/GzipMemberEncodingConcatenatedPinLaw", name := "zeroByte", desc := "(I)I" } : Jvm.MethodName) method_3_code (1 : Nat) (Option.some Jvm.ClassFile.FieldType.int), Jvm.Cond.code ({ cls := "com/example/lasting_record/lastingrecord/warc/GzipMemberEncodingConcatenatedPinLaw", name := "zeroBit", desc := "(I)I" } : Jvm.MethodName) method_2_code (1 : Nat) (Option.some Jvm.ClassFile.FieldType.int), Jvm.Cond.code ({ cls := "com/example/lasting_record/lastingrecord/warc/GzipMemberEncoding", name := "concatenated", desc := "(JJJ)J" } : Jvm.MethodName) prog_35_method_9_code (10 : Nat) (Option.some Jvm.ClassFile.FieldType.long), Jvm.Cond.code ({ cls := "com/example/lasting_record/lastingrecord/warc/GzipMemberEncoding", name := "squared", desc := "([I)[I" } : Jvm.MethodName) prog_35_method_11_code (3 : Nat) (Option.some (Jvm.ClassFile.FieldType.array Jvm.ClassFile.FieldType.int)), Jvm.Cond.code ({ cls := "com/example/lasting_record/lastingrecord/warc/GzipMemberEncoding", name := "times", desc := "([II)I" } : Jvm.MethodName) prog_35_method_10_code (4 : Nat) (Option.some Jvm.ClassFile.FieldType.int)]
set_option maxRecDepth 65536 in
theorem codes_eq : words1.filter isCode = codes1 := rfl
theorem w_codes : ∀ c ∈ words1.filter isCode, c.before args0 about1 = true := by
  rw [codes_eq]
  intro c hc
  simp only [codes1, List.mem_cons, List.not_mem_nil, or_false] at hc
  rcases hc with rfl | rfl | rfl | rfl | rfl | rfl
  · exact w_c0
  · exact w_c1
  · exact w_c2
  · exact w_c3
  · exact w_c4
  · exact w_c5
set_option maxRecDepth 65536 in
theorem w_t1 : words1.all (fun c => isCode c || c.before args0 about1) = true := by decide +kernel
theorem w_tables : (allAtoms (Jvm.Cond.code x code maxLocals ret :: tables_1)).before args0 about1 = true := by
  rw [allAtoms_all]
  show words1.all (fun c => c.before args0 about1) = true
  refine all_split ?_ w_codes
  rw [w_t1]
set_option maxRecDepth 65536 in
theorem w_case : (Jvm.Cond.and given_1 narrow_1).before args0 about1 = true := by decide +kernel
theorem w_applies : (headSpec (Jvm.Cond.code x code maxLocals ret :: tables_1) room_1).applies x e0.platform about1 = true :=
  (Spec.applies_iff w_frames).mpr ⟨w_running, w_runnable, w_alone, w_named, w_hears, w_ripe, w_room, w_tables⟩
theorem atStart : AtStart classFile x code maxLocals ret World_1 tables_1 room_1 Calls_1 rest_1 Pre_1 launch0 p0 e0 about1 theMethod args0 below0 :=
  ⟨lists_1, trivial, launch0.admits_env _ _ _, launch0.least_env, fairChoices_fair.cas, fairChoices_fair.clock, w_frames, w_args, w_heap, w_applies, trivial, trivial, w_case⟩
end start1
theorem witness_1 : WitnessClaimed_1 := ⟨start1.p0, start1.e0, start1.about1, start1.theMethod, start1.args0, start1.below0, start1.atStart⟩
end Jvm.Pilot.@@N@@
