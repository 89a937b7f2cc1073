import JvmDerived
import JvmDerived.Pilot.@@N@@Statement
import JvmDerived.Pilot.@@N@@Code
set_option linter.unusedVariables false
set_option linter.unusedSimpArgs false
namespace Jvm.Pilot.@@N@@
open Jvm Jvm.ClassFile Sem Op Lib Jvm.Free Jvm.Stand Jvm.LawKit Jvm.RoadKit Bundle Jvm.Pilot.@@N@@.Jvm.D
section OwnKit
variable {p : Program} {l : Launch} {e : Env} {R : Room} {s : State} {m : MethodId} {args : Array Value} {below : List Frame} {meth : Method} {c : Code} {T : State} {locs : List Loc} {cells slots : Nat} {K : State → Prop} {Ls : Array Slot} {rest : List Value} {pc : Nat} {bytes : ByteArray}
def Goes (p : Program) (e : Env) (below : List Frame) (K : State → Prop) (S : State) : Prop := ∃ t, Steps p.tables e below S t ∧ K t
theorem Goes.of {S S' : State} (st : ∀ t, Steps p.tables e below S' t → Steps p.tables e below S t) (h : Goes p e below K S') : Goes p e below K S := h.elim fun t ht => ⟨t, st t ht.1, ht.2⟩
theorem Goes.entry {g g' : JFrame} (q : g = g') (k : Goes p e below K (T.setTop g')) : Goes p e below K (T.setTop g) := q ▸ k
def Kend (s : State) (below : List Frame) (Q : Option Value → Heap → List Loc → Prop) (C S : Nat) (t : State) : Prop := ∃ o, t.status = .running ∧ Ended t below o ∧ ∃ v L, o = .returned v ∧ Q v t.heap L ∧ FrameEnd s o t L C S
def Ctr (l : Launch) (y : MethodName) (bytes : ByteArray) (maxL : Nat) (ret : Option FieldType) (ws : List Jvm.Cond) (rm : Room) (as' : Array Value) (Z : State) (h0 : Heap) (Q : Option Value → Heap → List Loc → Prop) : Prop :=
  MetFree l y (head1 (Jvm.Cond.code y bytes maxL ret :: ws) rm) (fun a U => a = as' ∧ Z.Warmed39 U.vm ∧ U.heap = h0) (fun _ _ _ _ _ => True) (fun _ U o U' => ∃ v L, o = .returned v ∧ Q v U'.heap L ∧ FrameEnd U o U' L rm.cells rm.slots)
theorem own_body {y : MethodName} {maxL : Nat} {ret : Option FieldType} {ws : List Jvm.Cond} {rm : Room} {as' : Array Value} {Z : State} {h0 : Heap} {Q : Option Value → Heap → List Loc → Prop} (hpl : plainFor y = true)
    (H : ∀ (p : Program) (e : Env) (s : State) (m : MethodId) (below : List Frame) (meth : Method) (c : Code) (s₁ : State), p.tables.exec = Jvm.exec → c.code = bytes → c.maxLocals = maxL → s.vm.findClass y.cls = some m.cls → meth.name = y.name → meth.sig.returnType = ret → meth.locks = false → Z.Warmed39 s.vm →
      Stand p l e rm s m as' below meth c s₁ [] 0 0 → s₁.heap = h0 → Goes p e below (Kend s below Q rm.cells rm.slots) (s₁.setTop (entryFrame m as' maxL))) : Ctr l y bytes maxL ret ws rm as' Z h0 Q := by
  refine MetFree.of_bodySF hpl hisR ?_
  intro p e s m args below meth c s₁ Bd hml0 hP hK
  obtain ⟨rfl, hZ, hh⟩ := hP
  obtain ⟨t, h1, o, h2, h3, h4⟩ := H p e s m below meth c s₁ Bd.exec Bd.bytes hml0 (findClass_of_methodNamed Bd.named) (name_of_methodNamed Bd.named Bd.method).1 Bd.returns Bd.notSynchronized hZ (Stand.of_body Bd) (by rw [← hh, Bd.state]; rfl)
  exact ⟨t, o, h1, h2, h3, h4⟩

theorem own_store1 {l l' : Array Slot} {i : Nat} {v : Value} {o : Slot} (hold : l[i]? = some o) (ho : One o) (hv : v.category = 1) (e : l.setIfInBounds i (.val v) = l') : storeLocals l i v = some l' := e ▸ XS.store1 hold ho hv
theorem g_iadd (X : Stand p l e R s m args below meth c T locs cells slots) (hx : p.tables.exec = Jvm.exec) (hby : c.code = bytes) {x y : Int32} (hd : decode bytes pc = .ok (.iadd, 1)) (q : Nat) (hq : pc + 1 = q) (k : Goes p e below K (T.setTop (mkF m q Ls (.int (x + y) :: rest)))) : Goes p e below K (T.setTop (mkF m pc Ls (.int y :: .int x :: rest))) := by
  subst hq; exact Goes.of (fun t kt => XS.iadd X.here hx rfl (hb hby hd) rfl kt) k
theorem g_isub (X : Stand p l e R s m args below meth c T locs cells slots) (hx : p.tables.exec = Jvm.exec) (hby : c.code = bytes) {x y : Int32} (hd : decode bytes pc = .ok (.isub, 1)) (q : Nat) (hq : pc + 1 = q) (k : Goes p e below K (T.setTop (mkF m q Ls (.int (x - y) :: rest)))) : Goes p e below K (T.setTop (mkF m pc Ls (.int y :: .int x :: rest))) := by
  subst hq; exact Goes.of (fun t kt => XS.isub X.here hx rfl (hb hby hd) rfl kt) k
theorem g_imul (X : Stand p l e R s m args below meth c T locs cells slots) (hx : p.tables.exec = Jvm.exec) (hby : c.code = bytes) {x y : Int32} (hd : decode bytes pc = .ok (.imul, 1)) (q : Nat) (hq : pc + 1 = q) (k : Goes p e below K (T.setTop (mkF m q Ls (.int (x * y) :: rest)))) : Goes p e below K (T.setTop (mkF m pc Ls (.int y :: .int x :: rest))) := by
  subst hq; exact Goes.of (fun t kt => XS.imul X.here hx rfl (hb hby hd) rfl kt) k
theorem g_iand (X : Stand p l e R s m args below meth c T locs cells slots) (hx : p.tables.exec = Jvm.exec) (hby : c.code = bytes) {x y : Int32} (hd : decode bytes pc = .ok (.iand, 1)) (q : Nat) (hq : pc + 1 = q) (k : Goes p e below K (T.setTop (mkF m q Ls (.int (x &&& y) :: rest)))) : Goes p e below K (T.setTop (mkF m pc Ls (.int y :: .int x :: rest))) := by
  subst hq; exact Goes.of (fun t kt => XS.iand X.here hx rfl (hb hby hd) rfl kt) k
theorem g_ior (X : Stand p l e R s m args below meth c T locs cells slots) (hx : p.tables.exec = Jvm.exec) (hby : c.code = bytes) {x y : Int32} (hd : decode bytes pc = .ok (.ior, 1)) (q : Nat) (hq : pc + 1 = q) (k : Goes p e below K (T.setTop (mkF m q Ls (.int (x ||| y) :: rest)))) : Goes p e below K (T.setTop (mkF m pc Ls (.int y :: .int x :: rest))) := by
  subst hq; exact Goes.of (fun t kt => XS.ior X.here hx rfl (hb hby hd) rfl kt) k
theorem g_ixor (X : Stand p l e R s m args below meth c T locs cells slots) (hx : p.tables.exec = Jvm.exec) (hby : c.code = bytes) {x y : Int32} (hd : decode bytes pc = .ok (.ixor, 1)) (q : Nat) (hq : pc + 1 = q) (k : Goes p e below K (T.setTop (mkF m q Ls (.int (x ^^^ y) :: rest)))) : Goes p e below K (T.setTop (mkF m pc Ls (.int y :: .int x :: rest))) := by
  subst hq; exact Goes.of (fun t kt => XS.ixor X.here hx rfl (hb hby hd) rfl kt) k
theorem g_ishl (X : Stand p l e R s m args below meth c T locs cells slots) (hx : p.tables.exec = Jvm.exec) (hby : c.code = bytes) {x y : Int32} (hd : decode bytes pc = .ok (.ishl, 1)) (q : Nat) (hq : pc + 1 = q) (k : Goes p e below K (T.setTop (mkF m q Ls (.int (x <<< (y &&& 31)) :: rest)))) : Goes p e below K (T.setTop (mkF m pc Ls (.int y :: .int x :: rest))) := by
  subst hq; exact Goes.of (fun t kt => XS.ishl X.here hx rfl (hb hby hd) rfl kt) k
theorem g_ishr (X : Stand p l e R s m args below meth c T locs cells slots) (hx : p.tables.exec = Jvm.exec) (hby : c.code = bytes) {x y : Int32} (hd : decode bytes pc = .ok (.ishr, 1)) (q : Nat) (hq : pc + 1 = q) (k : Goes p e below K (T.setTop (mkF m q Ls (.int (x >>> (y &&& 31)) :: rest)))) : Goes p e below K (T.setTop (mkF m pc Ls (.int y :: .int x :: rest))) := by
  subst hq; exact Goes.of (fun t kt => XS.ishr X.here hx rfl (hb hby hd) rfl kt) k
theorem g_iushr (X : Stand p l e R s m args below meth c T locs cells slots) (hx : p.tables.exec = Jvm.exec) (hby : c.code = bytes) {x y : Int32} (hd : decode bytes pc = .ok (.iushr, 1)) (q : Nat) (hq : pc + 1 = q) (k : Goes p e below K (T.setTop (mkF m q Ls (.int ((x.toUInt32 >>> (y &&& 31).toUInt32).toInt32) :: rest)))) : Goes p e below K (T.setTop (mkF m pc Ls (.int y :: .int x :: rest))) := by
  subst hq; exact Goes.of (fun t kt => XS.iushr X.here hx rfl (hb hby hd) rfl kt) k
theorem g_ladd (X : Stand p l e R s m args below meth c T locs cells slots) (hx : p.tables.exec = Jvm.exec) (hby : c.code = bytes) {x y : Int64} (hd : decode bytes pc = .ok (.ladd, 1)) (q : Nat) (hq : pc + 1 = q) (k : Goes p e below K (T.setTop (mkF m q Ls (.long (x + y) :: rest)))) : Goes p e below K (T.setTop (mkF m pc Ls (.long y :: .long x :: rest))) := by
  subst hq; exact Goes.of (fun t kt => XS.ladd X.here hx rfl (hb hby hd) rfl kt) k
theorem g_lsub (X : Stand p l e R s m args below meth c T locs cells slots) (hx : p.tables.exec = Jvm.exec) (hby : c.code = bytes) {x y : Int64} (hd : decode bytes pc = .ok (.lsub, 1)) (q : Nat) (hq : pc + 1 = q) (k : Goes p e below K (T.setTop (mkF m q Ls (.long (x - y) :: rest)))) : Goes p e below K (T.setTop (mkF m pc Ls (.long y :: .long x :: rest))) := by
  subst hq; exact Goes.of (fun t kt => XS.lsub X.here hx rfl (hb hby hd) rfl kt) k
theorem g_lmul (X : Stand p l e R s m args below meth c T locs cells slots) (hx : p.tables.exec = Jvm.exec) (hby : c.code = bytes) {x y : Int64} (hd : decode bytes pc = .ok (.lmul, 1)) (q : Nat) (hq : pc + 1 = q) (k : Goes p e below K (T.setTop (mkF m q Ls (.long (x * y) :: rest)))) : Goes p e below K (T.setTop (mkF m pc Ls (.long y :: .long x :: rest))) := by
  subst hq; exact Goes.of (fun t kt => XS.lmul X.here hx rfl (hb hby hd) rfl kt) k
theorem g_land (X : Stand p l e R s m args below meth c T locs cells slots) (hx : p.tables.exec = Jvm.exec) (hby : c.code = bytes) {x y : Int64} (hd : decode bytes pc = .ok (.land, 1)) (q : Nat) (hq : pc + 1 = q) (k : Goes p e below K (T.setTop (mkF m q Ls (.long (x &&& y) :: rest)))) : Goes p e below K (T.setTop (mkF m pc Ls (.long y :: .long x :: rest))) := by
  subst hq; exact Goes.of (fun t kt => XS.land X.here hx rfl (hb hby hd) rfl kt) k
theorem g_lor (X : Stand p l e R s m args below meth c T locs cells slots) (hx : p.tables.exec = Jvm.exec) (hby : c.code = bytes) {x y : Int64} (hd : decode bytes pc = .ok (.lor, 1)) (q : Nat) (hq : pc + 1 = q) (k : Goes p e below K (T.setTop (mkF m q Ls (.long (x ||| y) :: rest)))) : Goes p e below K (T.setTop (mkF m pc Ls (.long y :: .long x :: rest))) := by
  subst hq; exact Goes.of (fun t kt => XS.lor X.here hx rfl (hb hby hd) rfl kt) k
theorem g_lxor (X : Stand p l e R s m args below meth c T locs cells slots) (hx : p.tables.exec = Jvm.exec) (hby : c.code = bytes) {x y : Int64} (hd : decode bytes pc = .ok (.lxor, 1)) (q : Nat) (hq : pc + 1 = q) (k : Goes p e below K (T.setTop (mkF m q Ls (.long (x ^^^ y) :: rest)))) : Goes p e below K (T.setTop (mkF m pc Ls (.long y :: .long x :: rest))) := by
  subst hq; exact Goes.of (fun t kt => XS.lxor X.here hx rfl (hb hby hd) rfl kt) k
theorem g_lshl (X : Stand p l e R s m args below meth c T locs cells slots) (hx : p.tables.exec = Jvm.exec) (hby : c.code = bytes) {x : Int64} {y : Int32} (hd : decode bytes pc = .ok (.lshl, 1)) (q : Nat) (hq : pc + 1 = q) (k : Goes p e below K (T.setTop (mkF m q Ls (.long (x <<< (y &&& 0x3f).toInt64) :: rest)))) : Goes p e below K (T.setTop (mkF m pc Ls (.int y :: .long x :: rest))) := by
  subst hq; exact Goes.of (fun t kt => XS.lshl X.here hx rfl (hb hby hd) rfl kt) k
theorem g_lshr (X : Stand p l e R s m args below meth c T locs cells slots) (hx : p.tables.exec = Jvm.exec) (hby : c.code = bytes) {x : Int64} {y : Int32} (hd : decode bytes pc = .ok (.lshr, 1)) (q : Nat) (hq : pc + 1 = q) (k : Goes p e below K (T.setTop (mkF m q Ls (.long (x >>> (y &&& 0x3f).toInt64) :: rest)))) : Goes p e below K (T.setTop (mkF m pc Ls (.int y :: .long x :: rest))) := by
  subst hq; exact Goes.of (fun t kt => XS.lshr X.here hx rfl (hb hby hd) rfl kt) k
theorem g_lushr (X : Stand p l e R s m args below meth c T locs cells slots) (hx : p.tables.exec = Jvm.exec) (hby : c.code = bytes) {x : Int64} {y : Int32} (hd : decode bytes pc = .ok (.lushr, 1)) (q : Nat) (hq : pc + 1 = q) (k : Goes p e below K (T.setTop (mkF m q Ls (.long ((x.toUInt64 >>> (y &&& 0x3f).toInt64.toUInt64).toInt64) :: rest)))) : Goes p e below K (T.setTop (mkF m pc Ls (.int y :: .long x :: rest))) := by
  subst hq; exact Goes.of (fun t kt => XS.lushr X.here hx rfl (hb hby hd) rfl kt) k
theorem g_idiv (X : Stand p l e R s m args below meth c T locs cells slots) (hx : p.tables.exec = Jvm.exec) (hby : c.code = bytes) {x y : Int32} (hd : decode bytes pc = .ok (.idiv, 1)) (hy : y ≠ 0) (q : Nat) (hq : pc + 1 = q) (k : Goes p e below K (T.setTop (mkF m q Ls (.int (x / y) :: rest)))) : Goes p e below K (T.setTop (mkF m pc Ls (.int y :: .int x :: rest))) := by
  subst hq; exact Goes.of (fun t kt => XS.idiv X.here hx rfl (hb hby hd) rfl hy kt) k
theorem g_ldiv (X : Stand p l e R s m args below meth c T locs cells slots) (hx : p.tables.exec = Jvm.exec) (hby : c.code = bytes) {x y : Int64} (hd : decode bytes pc = .ok (.ldiv, 1)) (hy : y ≠ 0) (q : Nat) (hq : pc + 1 = q) (k : Goes p e below K (T.setTop (mkF m q Ls (.long (x / y) :: rest)))) : Goes p e below K (T.setTop (mkF m pc Ls (.long y :: .long x :: rest))) := by
  subst hq; exact Goes.of (fun t kt => XS.ldiv X.here hx rfl (hb hby hd) rfl hy kt) k
theorem g_irem (X : Stand p l e R s m args below meth c T locs cells slots) (hx : p.tables.exec = Jvm.exec) (hby : c.code = bytes) {x y : Int32} (hd : decode bytes pc = .ok (.irem, 1)) (hy : y ≠ 0) (q : Nat) (hq : pc + 1 = q) (k : Goes p e below K (T.setTop (mkF m q Ls (.int (x % y) :: rest)))) : Goes p e below K (T.setTop (mkF m pc Ls (.int y :: .int x :: rest))) := by
  subst hq; exact Goes.of (fun t kt => iremM X hx rfl (hb hby hd) rfl hy kt) k
theorem g_lrem (X : Stand p l e R s m args below meth c T locs cells slots) (hx : p.tables.exec = Jvm.exec) (hby : c.code = bytes) {x y : Int64} (hd : decode bytes pc = .ok (.lrem, 1)) (hy : y ≠ 0) (q : Nat) (hq : pc + 1 = q) (k : Goes p e below K (T.setTop (mkF m q Ls (.long (x % y) :: rest)))) : Goes p e below K (T.setTop (mkF m pc Ls (.long y :: .long x :: rest))) := by
  subst hq; rw [← lrem_mod x y] at k; exact Goes.of (fun t kt => XS.lrem X.here hx rfl (hb hby hd) rfl hy kt) k
theorem g_ineg (X : Stand p l e R s m args below meth c T locs cells slots) (hx : p.tables.exec = Jvm.exec) (hby : c.code = bytes) {x : Int32} (hd : decode bytes pc = .ok (.ineg, 1)) (q : Nat) (hq : pc + 1 = q) (k : Goes p e below K (T.setTop (mkF m q Ls (.int (-x) :: rest)))) : Goes p e below K (T.setTop (mkF m pc Ls (.int x :: rest))) := by
  subst hq; exact Goes.of (fun t kt => XS.ineg X.here hx rfl (hb hby hd) rfl kt) k
theorem g_lneg (X : Stand p l e R s m args below meth c T locs cells slots) (hx : p.tables.exec = Jvm.exec) (hby : c.code = bytes) {x : Int64} (hd : decode bytes pc = .ok (.lneg, 1)) (q : Nat) (hq : pc + 1 = q) (k : Goes p e below K (T.setTop (mkF m q Ls (.long (-x) :: rest)))) : Goes p e below K (T.setTop (mkF m pc Ls (.long x :: rest))) := by
  subst hq; exact Goes.of (fun t kt => XS.lneg X.here hx rfl (hb hby hd) rfl kt) k
theorem g_i2l (X : Stand p l e R s m args below meth c T locs cells slots) (hx : p.tables.exec = Jvm.exec) (hby : c.code = bytes) {x : Int32} (hd : decode bytes pc = .ok (.i2l, 1)) (q : Nat) (hq : pc + 1 = q) (k : Goes p e below K (T.setTop (mkF m q Ls (.long (x.toInt64) :: rest)))) : Goes p e below K (T.setTop (mkF m pc Ls (.int x :: rest))) := by
  subst hq; exact Goes.of (fun t kt => XS.i2l X.here hx rfl (hb hby hd) rfl kt) k
theorem g_l2i (X : Stand p l e R s m args below meth c T locs cells slots) (hx : p.tables.exec = Jvm.exec) (hby : c.code = bytes) {x : Int64} (hd : decode bytes pc = .ok (.l2i, 1)) (q : Nat) (hq : pc + 1 = q) (k : Goes p e below K (T.setTop (mkF m q Ls (.int (x.toInt32) :: rest)))) : Goes p e below K (T.setTop (mkF m pc Ls (.long x :: rest))) := by
  subst hq; exact Goes.of (fun t kt => XS.l2i X.here hx rfl (hb hby hd) rfl kt) k
theorem g_i2b (X : Stand p l e R s m args below meth c T locs cells slots) (hx : p.tables.exec = Jvm.exec) (hby : c.code = bytes) {x : Int32} (hd : decode bytes pc = .ok (.i2b, 1)) (q : Nat) (hq : pc + 1 = q) (k : Goes p e below K (T.setTop (mkF m q Ls (.int (x.toInt8.toInt32) :: rest)))) : Goes p e below K (T.setTop (mkF m pc Ls (.int x :: rest))) := by
  subst hq; exact Goes.of (fun t kt => XS.i2b X.here hx rfl (hb hby hd) rfl kt) k
theorem g_i2s (X : Stand p l e R s m args below meth c T locs cells slots) (hx : p.tables.exec = Jvm.exec) (hby : c.code = bytes) {x : Int32} (hd : decode bytes pc = .ok (.i2s, 1)) (q : Nat) (hq : pc + 1 = q) (k : Goes p e below K (T.setTop (mkF m q Ls (.int (x.toInt16.toInt32) :: rest)))) : Goes p e below K (T.setTop (mkF m pc Ls (.int x :: rest))) := by
  subst hq; exact Goes.of (fun t kt => XS.i2s X.here hx rfl (hb hby hd) rfl kt) k
theorem g_i2c (X : Stand p l e R s m args below meth c T locs cells slots) (hx : p.tables.exec = Jvm.exec) (hby : c.code = bytes) {x : Int32} (hd : decode bytes pc = .ok (.i2c, 1)) (q : Nat) (hq : pc + 1 = q) (k : Goes p e below K (T.setTop (mkF m q Ls (.int (x.toUInt32.toUInt16.toUInt32.toInt32) :: rest)))) : Goes p e below K (T.setTop (mkF m pc Ls (.int x :: rest))) := by
  subst hq; exact Goes.of (fun t kt => XS.i2c X.here hx rfl (hb hby hd) rfl kt) k
theorem g_iloadN (X : Stand p l e R s m args below meth c T locs cells slots) (hx : p.tables.exec = Jvm.exec) (hby : c.code = bytes) {k : Fin 4} {v : Int32} (hd : decode bytes pc = .ok (.iload_n k, 1)) (hl : Ls[k.val]? = some (.val (.int v))) (q : Nat) (hq : pc + 1 = q) (k : Goes p e below K (T.setTop (mkF m q Ls (.int v :: rest)))) : Goes p e below K (T.setTop (mkF m pc Ls rest)) := by
  subst hq; exact Goes.of (fun t kt => XS.iloadN X.here hx rfl (hb hby hd) hl kt) k
theorem g_iload (X : Stand p l e R s m args below meth c T locs cells slots) (hx : p.tables.exec = Jvm.exec) (hby : c.code = bytes) {k : Nat} {v : Int32} (hd : decode bytes pc = .ok (.iload k, 2)) (hl : Ls[k]? = some (.val (.int v))) (q : Nat) (hq : pc + 2 = q) (k : Goes p e below K (T.setTop (mkF m q Ls (.int v :: rest)))) : Goes p e below K (T.setTop (mkF m pc Ls rest)) := by
  subst hq; exact Goes.of (fun t kt => XS.iload X.here hx rfl (hb hby hd) hl kt) k
theorem g_lloadN (X : Stand p l e R s m args below meth c T locs cells slots) (hx : p.tables.exec = Jvm.exec) (hby : c.code = bytes) {k : Fin 4} {v : Int64} (hd : decode bytes pc = .ok (.lload_n k, 1)) (hl : Ls[k.val]? = some (.val (.long v))) (q : Nat) (hq : pc + 1 = q) (k : Goes p e below K (T.setTop (mkF m q Ls (.long v :: rest)))) : Goes p e below K (T.setTop (mkF m pc Ls rest)) := by
  subst hq; exact Goes.of (fun t kt => XS.lloadN X.here hx rfl (hb hby hd) hl kt) k
theorem g_lload (X : Stand p l e R s m args below meth c T locs cells slots) (hx : p.tables.exec = Jvm.exec) (hby : c.code = bytes) {k : Nat} {v : Int64} (hd : decode bytes pc = .ok (.lload k, 2)) (hl : Ls[k]? = some (.val (.long v))) (q : Nat) (hq : pc + 2 = q) (k : Goes p e below K (T.setTop (mkF m q Ls (.long v :: rest)))) : Goes p e below K (T.setTop (mkF m pc Ls rest)) := by
  subst hq; exact Goes.of (fun t kt => XS.lload X.here hx rfl (hb hby hd) hl kt) k
theorem g_aloadN (X : Stand p l e R s m args below meth c T locs cells slots) (hx : p.tables.exec = Jvm.exec) (hby : c.code = bytes) {k : Fin 4} {v : Value} (hd : decode bytes pc = .ok (.aload_n k, 1)) (hl : Ls[k.val]? = some (.val v)) (hv : v.isRef = true) (q : Nat) (hq : pc + 1 = q) (k : Goes p e below K (T.setTop (mkF m q Ls (v :: rest)))) : Goes p e below K (T.setTop (mkF m pc Ls rest)) := by
  subst hq; exact Goes.of (fun t kt => XS.aloadN X.here hx rfl (hb hby hd) hl hv kt) k
theorem g_aload (X : Stand p l e R s m args below meth c T locs cells slots) (hx : p.tables.exec = Jvm.exec) (hby : c.code = bytes) {k : Nat} {v : Value} (hd : decode bytes pc = .ok (.aload k, 2)) (hl : Ls[k]? = some (.val v)) (hv : v.isRef = true) (q : Nat) (hq : pc + 2 = q) (k : Goes p e below K (T.setTop (mkF m q Ls (v :: rest)))) : Goes p e below K (T.setTop (mkF m pc Ls rest)) := by
  subst hq; exact Goes.of (fun t kt => XS.aload X.here hx rfl (hb hby hd) hl hv kt) k
theorem g_istoreN (X : Stand p l e R s m args below meth c T locs cells slots) (hx : p.tables.exec = Jvm.exec) (hby : c.code = bytes) {k : Fin 4} {x : Int32} (hd : decode bytes pc = .ok (.istore_n k, 1)) (y : Int32) (hxy : x = y) (L' : Array Slot) (hl : storeLocals Ls k.val (.int y) = some L') (q : Nat) (hq : pc + 1 = q) (k : Goes p e below K (T.setTop (mkF m q L' rest))) : Goes p e below K (T.setTop (mkF m pc Ls (.int x :: rest))) := by
  subst hq hxy; exact Goes.of (fun t kt => XS.istoreN X.here hx rfl (hb hby hd) rfl hl kt) k
theorem g_istore (X : Stand p l e R s m args below meth c T locs cells slots) (hx : p.tables.exec = Jvm.exec) (hby : c.code = bytes) {k : Nat} {x : Int32} (hd : decode bytes pc = .ok (.istore k, 2)) (y : Int32) (hxy : x = y) (L' : Array Slot) (hl : storeLocals Ls k (.int y) = some L') (q : Nat) (hq : pc + 2 = q) (k : Goes p e below K (T.setTop (mkF m q L' rest))) : Goes p e below K (T.setTop (mkF m pc Ls (.int x :: rest))) := by
  subst hq hxy; exact Goes.of (fun t kt => XS.istore X.here hx rfl (hb hby hd) rfl hl kt) k
theorem g_lstoreN (X : Stand p l e R s m args below meth c T locs cells slots) (hx : p.tables.exec = Jvm.exec) (hby : c.code = bytes) {k : Fin 4} {x : Int64} (hd : decode bytes pc = .ok (.lstore_n k, 1)) (y : Int64) (hxy : x = y) (L' : Array Slot) (hl : storeLocals Ls k.val (.long y) = some L') (q : Nat) (hq : pc + 1 = q) (k : Goes p e below K (T.setTop (mkF m q L' rest))) : Goes p e below K (T.setTop (mkF m pc Ls (.long x :: rest))) := by
  subst hq hxy; exact Goes.of (fun t kt => XS.lstoreN X.here hx rfl (hb hby hd) rfl hl kt) k
theorem g_lstore (X : Stand p l e R s m args below meth c T locs cells slots) (hx : p.tables.exec = Jvm.exec) (hby : c.code = bytes) {k : Nat} {x : Int64} (hd : decode bytes pc = .ok (.lstore k, 2)) (y : Int64) (hxy : x = y) (L' : Array Slot) (hl : storeLocals Ls k (.long y) = some L') (q : Nat) (hq : pc + 2 = q) (k : Goes p e below K (T.setTop (mkF m q L' rest))) : Goes p e below K (T.setTop (mkF m pc Ls (.long x :: rest))) := by
  subst hq hxy; exact Goes.of (fun t kt => XS.lstore X.here hx rfl (hb hby hd) rfl hl kt) k
theorem g_astoreN (X : Stand p l e R s m args below meth c T locs cells slots) (hx : p.tables.exec = Jvm.exec) (hby : c.code = bytes) {k : Fin 4} {x : Value} (hd : decode bytes pc = .ok (.astore_n k, 1)) (hv : x.isRef = true) (L' : Array Slot) (hl : storeLocals Ls k.val x = some L') (q : Nat) (hq : pc + 1 = q) (k : Goes p e below K (T.setTop (mkF m q L' rest))) : Goes p e below K (T.setTop (mkF m pc Ls (x :: rest))) := by
  subst hq; exact Goes.of (fun t kt => XS.astoreN X.here hx rfl (hb hby hd) rfl hv hl kt) k
theorem g_astore (X : Stand p l e R s m args below meth c T locs cells slots) (hx : p.tables.exec = Jvm.exec) (hby : c.code = bytes) {k : Nat} {x : Value} (hd : decode bytes pc = .ok (.astore k, 2)) (hv : x.isRef = true) (L' : Array Slot) (hl : storeLocals Ls k x = some L') (q : Nat) (hq : pc + 2 = q) (k : Goes p e below K (T.setTop (mkF m q L' rest))) : Goes p e below K (T.setTop (mkF m pc Ls (x :: rest))) := by
  subst hq; exact Goes.of (fun t kt => XS.astore X.here hx rfl (hb hby hd) rfl hv hl kt) k
theorem g_iconst (X : Stand p l e R s m args below meth c T locs cells slots) (hx : p.tables.exec = Jvm.exec) (hby : c.code = bytes) {i : Int} (hd : decode bytes pc = .ok (.iconst i, 1)) (v : Int32) (hv : Int32.ofInt i = v) (q : Nat) (hq : pc + 1 = q) (k : Goes p e below K (T.setTop (mkF m q Ls (.int v :: rest)))) : Goes p e below K (T.setTop (mkF m pc Ls rest)) := by
  subst hq hv; exact Goes.of (fun t kt => XS.iconst X.here hx rfl (hb hby hd) kt) k
theorem g_bipush (X : Stand p l e R s m args below meth c T locs cells slots) (hx : p.tables.exec = Jvm.exec) (hby : c.code = bytes) {i : Int} (hd : decode bytes pc = .ok (.bipush i, 2)) (v : Int32) (hv : (Int8.ofInt i).toInt32 = v) (q : Nat) (hq : pc + 2 = q) (k : Goes p e below K (T.setTop (mkF m q Ls (.int v :: rest)))) : Goes p e below K (T.setTop (mkF m pc Ls rest)) := by
  subst hq hv; exact Goes.of (fun t kt => XS.bipush X.here hx rfl (hb hby hd) kt) k
theorem g_sipush (X : Stand p l e R s m args below meth c T locs cells slots) (hx : p.tables.exec = Jvm.exec) (hby : c.code = bytes) {i : Int} (hd : decode bytes pc = .ok (.sipush i, 3)) (v : Int32) (hv : (Int16.ofInt i).toInt32 = v) (q : Nat) (hq : pc + 3 = q) (k : Goes p e below K (T.setTop (mkF m q Ls (.int v :: rest)))) : Goes p e below K (T.setTop (mkF m pc Ls rest)) := by
  subst hq hv; exact Goes.of (fun t kt => XS.sipush X.here hx rfl (hb hby hd) kt) k
theorem g_lconst (X : Stand p l e R s m args below meth c T locs cells slots) (hx : p.tables.exec = Jvm.exec) (hby : c.code = bytes) {i : Fin 2} (hd : decode bytes pc = .ok (.lconst i, 1)) (v : Int64) (hv : Int64.ofNat i = v) (q : Nat) (hq : pc + 1 = q) (k : Goes p e below K (T.setTop (mkF m q Ls (.long v :: rest)))) : Goes p e below K (T.setTop (mkF m pc Ls rest)) := by
  subst hq hv; exact Goes.of (fun t kt => XS.lconst X.here hx rfl (hb hby hd) kt) k
theorem g_aconst_null (X : Stand p l e R s m args below meth c T locs cells slots) (hx : p.tables.exec = Jvm.exec) (hby : c.code = bytes)  (hd : decode bytes pc = .ok (.aconst_null, 1)) (q : Nat) (hq : pc + 1 = q) (k : Goes p e below K (T.setTop (mkF m q Ls (.null :: rest)))) : Goes p e below K (T.setTop (mkF m pc Ls rest)) := by
  subst hq; exact Goes.of (fun t kt => XS.aconstNull X.here hx rfl (hb hby hd) kt) k
theorem g_dup (X : Stand p l e R s m args below meth c T locs cells slots) (hx : p.tables.exec = Jvm.exec) (hby : c.code = bytes) {x : Value} (hd : decode bytes pc = .ok (.dup, 1)) (hc : x.category = 1) (q : Nat) (hq : pc + 1 = q) (k : Goes p e below K (T.setTop (mkF m q Ls (x :: x :: rest)))) : Goes p e below K (T.setTop (mkF m pc Ls (x :: rest))) := by
  subst hq; exact Goes.of (fun t kt => XS.dup X.here hx rfl (hb hby hd) rfl hc kt) k
theorem g_pop (X : Stand p l e R s m args below meth c T locs cells slots) (hx : p.tables.exec = Jvm.exec) (hby : c.code = bytes) {x : Value} (hd : decode bytes pc = .ok (.pop, 1)) (hc : x.category = 1) (q : Nat) (hq : pc + 1 = q) (k : Goes p e below K (T.setTop (mkF m q Ls rest))) : Goes p e below K (T.setTop (mkF m pc Ls (x :: rest))) := by
  subst hq; exact Goes.of (fun t kt => XS.pop X.here hx rfl (hb hby hd) rfl hc kt) k
theorem g_dup_x1 (X : Stand p l e R s m args below meth c T locs cells slots) (hx : p.tables.exec = Jvm.exec) (hby : c.code = bytes) {x y : Value} (hd : decode bytes pc = .ok (.dup_x1, 1)) (hc : x.category = 1) (hc' : y.category = 1) (q : Nat) (hq : pc + 1 = q) (k : Goes p e below K (T.setTop (mkF m q Ls (x :: y :: x :: rest)))) : Goes p e below K (T.setTop (mkF m pc Ls (x :: y :: rest))) := by
  subst hq; exact Goes.of (fun t kt => XS.dupX1 X.here hx rfl (hb hby hd) rfl hc hc' kt) k
theorem g_dup2 (X : Stand p l e R s m args below meth c T locs cells slots) (hx : p.tables.exec = Jvm.exec) (hby : c.code = bytes) {x y : Value} (hd : decode bytes pc = .ok (.dup2, 1)) (hc : x.category = 1) (hc' : y.category = 1) (q : Nat) (hq : pc + 1 = q) (k : Goes p e below K (T.setTop (mkF m q Ls (x :: y :: x :: y :: rest)))) : Goes p e below K (T.setTop (mkF m pc Ls (x :: y :: rest))) := by
  subst hq; exact Goes.of (fun t kt => Jvm.Free.XT.dup2 X.here hx rfl (hb hby hd) rfl hc hc' kt) k
theorem g_iinc (X : Stand p l e R s m args below meth c T locs cells slots) (hx : p.tables.exec = Jvm.exec) (hby : c.code = bytes) {i : Int} {kk : Nat} {x : Int32} (hd : decode bytes pc = .ok (.iinc kk i, 3)) (v : Int32) (hv : Int32.ofInt i = v) (hl : Ls[kk]? = some (.val (.int x))) (y : Int32) (hxy : x + v = y) (L' : Array Slot) (hl' : storeLocals Ls kk (.int y) = some L') (q : Nat) (hq : pc + 3 = q) (k : Goes p e below K (T.setTop (mkF m q L' rest))) : Goes p e below K (T.setTop (mkF m pc Ls rest)) := by
  subst hq hv hxy; exact Goes.of (fun t kt => XS.iinc X.here hx rfl (hb hby hd) hl hl' kt) k
theorem g_goto (X : Stand p l e R s m args below meth c T locs cells slots) (hx : p.tables.exec = Jvm.exec) (hby : c.code = bytes) {o : Int} (hd : decode bytes pc = .ok (.goto o, 3)) (q : Nat) (ho : 0 ≤ (pc : Int) + o) (hq : ((pc : Int) + o).toNat = q) (k : Goes p e below K (T.setTop (mkF m q Ls rest))) : Goes p e below K (T.setTop (mkF m pc Ls rest)) :=
  Goes.of (fun t kt => XS.goto X.here hx rfl rfl (hb hby hd) ho hq kt) k
theorem g_icmp_eq (X : Stand p l e R s m args below meth c T locs cells slots) (hx : p.tables.exec = Jvm.exec) (hby : c.code = bytes) {x y : Int32} {o : Int} (hd : decode bytes pc = .ok (.if_icmp .eq o, 3)) (q r : Nat) (ho : 0 ≤ (pc : Int) + o) (hq : ((pc : Int) + o).toNat = q) (hr : pc + 3 = r) (kt : x = y → Goes p e below K (T.setTop (mkF m q Ls rest))) (kf : ¬ (x = y) → Goes p e below K (T.setTop (mkF m r Ls rest))) : Goes p e below K (T.setTop (mkF m pc Ls (.int y :: .int x :: rest))) := by
  subst hr
  by_cases h : x = y
  · exact Goes.of (fun t kt => XS.icmpYes X.here hx rfl rfl (hb hby hd) rfl (teq h).1 ho hq kt) (kt h)
  · exact Goes.of (fun t kt => XS.icmpNo X.here hx rfl (hb hby hd) rfl (feq h).1 kt) (kf h)
theorem g_if_eq (X : Stand p l e R s m args below meth c T locs cells slots) (hx : p.tables.exec = Jvm.exec) (hby : c.code = bytes) {x : Int32} {o : Int} (hd : decode bytes pc = .ok (.ifCond .eq o, 3)) (q r : Nat) (ho : 0 ≤ (pc : Int) + o) (hq : ((pc : Int) + o).toNat = q) (hr : pc + 3 = r) (kt : x = 0 → Goes p e below K (T.setTop (mkF m q Ls rest))) (kf : ¬ (x = 0) → Goes p e below K (T.setTop (mkF m r Ls rest))) : Goes p e below K (T.setTop (mkF m pc Ls (.int x :: rest))) := by
  subst hr
  by_cases h : x = 0
  · exact Goes.of (fun t kt => XS.ifYes X.here hx rfl rfl (hb hby hd) rfl ((if0 _ _).trans (teq h).1) ho hq kt) (kt h)
  · exact Goes.of (fun t kt => XS.ifNo X.here hx rfl (hb hby hd) rfl ((if0 _ _).trans (feq h).1) kt) (kf h)
theorem g_lcmp_eq (X : Stand p l e R s m args below meth c T locs cells slots) (hx : p.tables.exec = Jvm.exec) (hby : c.code = bytes) {x y : Int64} {o : Int} {pc2 : Nat} (hd : decode bytes pc = .ok (.lcmp, 1)) (hd2 : decode bytes pc2 = .ok (.ifCond .eq o, 3)) (q r : Nat) (h2 : pc + 1 = pc2) (ho : 0 ≤ (pc2 : Int) + o) (hq : ((pc2 : Int) + o).toNat = q) (hr : pc2 + 3 = r) (kt : x = y → Goes p e below K (T.setTop (mkF m q Ls rest))) (kf : ¬ (x = y) → Goes p e below K (T.setTop (mkF m r Ls rest))) : Goes p e below K (T.setTop (mkF m pc Ls (.long y :: .long x :: rest))) := by
  subst h2
  refine Goes.of (fun t kt => XS.lcmp X.here hx rfl (hb hby hd) rfl kt) ?_
  exact g_if_eq X hx hby hd2 q r ho hq hr (fun h => kt ((lw_eq x y).mp h)) (fun h => kf fun h' => h ((lw_eq x y).mpr h'))
theorem g_icmp_ne (X : Stand p l e R s m args below meth c T locs cells slots) (hx : p.tables.exec = Jvm.exec) (hby : c.code = bytes) {x y : Int32} {o : Int} (hd : decode bytes pc = .ok (.if_icmp .ne o, 3)) (q r : Nat) (ho : 0 ≤ (pc : Int) + o) (hq : ((pc : Int) + o).toNat = q) (hr : pc + 3 = r) (kt : x = y → Goes p e below K (T.setTop (mkF m r Ls rest))) (kf : ¬ (x = y) → Goes p e below K (T.setTop (mkF m q Ls rest))) : Goes p e below K (T.setTop (mkF m pc Ls (.int y :: .int x :: rest))) := by
  subst hr
  by_cases h : x = y
  · exact Goes.of (fun t kt => XS.icmpNo X.here hx rfl (hb hby hd) rfl (teq h).2 kt) (kt h)
  · exact Goes.of (fun t kt => XS.icmpYes X.here hx rfl rfl (hb hby hd) rfl (feq h).2 ho hq kt) (kf h)
theorem g_if_ne (X : Stand p l e R s m args below meth c T locs cells slots) (hx : p.tables.exec = Jvm.exec) (hby : c.code = bytes) {x : Int32} {o : Int} (hd : decode bytes pc = .ok (.ifCond .ne o, 3)) (q r : Nat) (ho : 0 ≤ (pc : Int) + o) (hq : ((pc : Int) + o).toNat = q) (hr : pc + 3 = r) (kt : x = 0 → Goes p e below K (T.setTop (mkF m r Ls rest))) (kf : ¬ (x = 0) → Goes p e below K (T.setTop (mkF m q Ls rest))) : Goes p e below K (T.setTop (mkF m pc Ls (.int x :: rest))) := by
  subst hr
  by_cases h : x = 0
  · exact Goes.of (fun t kt => XS.ifNo X.here hx rfl (hb hby hd) rfl ((if0 _ _).trans (teq h).2) kt) (kt h)
  · exact Goes.of (fun t kt => XS.ifYes X.here hx rfl rfl (hb hby hd) rfl ((if0 _ _).trans (feq h).2) ho hq kt) (kf h)
theorem g_lcmp_ne (X : Stand p l e R s m args below meth c T locs cells slots) (hx : p.tables.exec = Jvm.exec) (hby : c.code = bytes) {x y : Int64} {o : Int} {pc2 : Nat} (hd : decode bytes pc = .ok (.lcmp, 1)) (hd2 : decode bytes pc2 = .ok (.ifCond .ne o, 3)) (q r : Nat) (h2 : pc + 1 = pc2) (ho : 0 ≤ (pc2 : Int) + o) (hq : ((pc2 : Int) + o).toNat = q) (hr : pc2 + 3 = r) (kt : x = y → Goes p e below K (T.setTop (mkF m r Ls rest))) (kf : ¬ (x = y) → Goes p e below K (T.setTop (mkF m q Ls rest))) : Goes p e below K (T.setTop (mkF m pc Ls (.long y :: .long x :: rest))) := by
  subst h2
  refine Goes.of (fun t kt => XS.lcmp X.here hx rfl (hb hby hd) rfl kt) ?_
  exact g_if_ne X hx hby hd2 q r ho hq hr (fun h => kt ((lw_eq x y).mp h)) (fun h => kf fun h' => h ((lw_eq x y).mpr h'))
theorem g_icmp_lt (X : Stand p l e R s m args below meth c T locs cells slots) (hx : p.tables.exec = Jvm.exec) (hby : c.code = bytes) {x y : Int32} {o : Int} (hd : decode bytes pc = .ok (.if_icmp .lt o, 3)) (q r : Nat) (ho : 0 ≤ (pc : Int) + o) (hq : ((pc : Int) + o).toNat = q) (hr : pc + 3 = r) (kt : x < y → Goes p e below K (T.setTop (mkF m q Ls rest))) (kf : ¬ (x < y) → Goes p e below K (T.setTop (mkF m r Ls rest))) : Goes p e below K (T.setTop (mkF m pc Ls (.int y :: .int x :: rest))) := by
  subst hr
  by_cases h : x < y
  · exact Goes.of (fun t kt => XS.icmpYes X.here hx rfl rfl (hb hby hd) rfl (tlt h).1 ho hq kt) (kt h)
  · exact Goes.of (fun t kt => XS.icmpNo X.here hx rfl (hb hby hd) rfl (flt h).1 kt) (kf h)
theorem g_if_lt (X : Stand p l e R s m args below meth c T locs cells slots) (hx : p.tables.exec = Jvm.exec) (hby : c.code = bytes) {x : Int32} {o : Int} (hd : decode bytes pc = .ok (.ifCond .lt o, 3)) (q r : Nat) (ho : 0 ≤ (pc : Int) + o) (hq : ((pc : Int) + o).toNat = q) (hr : pc + 3 = r) (kt : x < 0 → Goes p e below K (T.setTop (mkF m q Ls rest))) (kf : ¬ (x < 0) → Goes p e below K (T.setTop (mkF m r Ls rest))) : Goes p e below K (T.setTop (mkF m pc Ls (.int x :: rest))) := by
  subst hr
  by_cases h : x < 0
  · exact Goes.of (fun t kt => XS.ifYes X.here hx rfl rfl (hb hby hd) rfl ((if0 _ _).trans (tlt h).1) ho hq kt) (kt h)
  · exact Goes.of (fun t kt => XS.ifNo X.here hx rfl (hb hby hd) rfl ((if0 _ _).trans (flt h).1) kt) (kf h)
theorem g_lcmp_lt (X : Stand p l e R s m args below meth c T locs cells slots) (hx : p.tables.exec = Jvm.exec) (hby : c.code = bytes) {x y : Int64} {o : Int} {pc2 : Nat} (hd : decode bytes pc = .ok (.lcmp, 1)) (hd2 : decode bytes pc2 = .ok (.ifCond .lt o, 3)) (q r : Nat) (h2 : pc + 1 = pc2) (ho : 0 ≤ (pc2 : Int) + o) (hq : ((pc2 : Int) + o).toNat = q) (hr : pc2 + 3 = r) (kt : x < y → Goes p e below K (T.setTop (mkF m q Ls rest))) (kf : ¬ (x < y) → Goes p e below K (T.setTop (mkF m r Ls rest))) : Goes p e below K (T.setTop (mkF m pc Ls (.long y :: .long x :: rest))) := by
  subst h2
  refine Goes.of (fun t kt => XS.lcmp X.here hx rfl (hb hby hd) rfl kt) ?_
  exact g_if_lt X hx hby hd2 q r ho hq hr (fun h => kt ((lw_lt x y).mp h)) (fun h => kf fun h' => h ((lw_lt x y).mpr h'))
theorem g_icmp_ge (X : Stand p l e R s m args below meth c T locs cells slots) (hx : p.tables.exec = Jvm.exec) (hby : c.code = bytes) {x y : Int32} {o : Int} (hd : decode bytes pc = .ok (.if_icmp .ge o, 3)) (q r : Nat) (ho : 0 ≤ (pc : Int) + o) (hq : ((pc : Int) + o).toNat = q) (hr : pc + 3 = r) (kt : x < y → Goes p e below K (T.setTop (mkF m r Ls rest))) (kf : ¬ (x < y) → Goes p e below K (T.setTop (mkF m q Ls rest))) : Goes p e below K (T.setTop (mkF m pc Ls (.int y :: .int x :: rest))) := by
  subst hr
  by_cases h : x < y
  · exact Goes.of (fun t kt => XS.icmpNo X.here hx rfl (hb hby hd) rfl (tlt h).2.1 kt) (kt h)
  · exact Goes.of (fun t kt => XS.icmpYes X.here hx rfl rfl (hb hby hd) rfl (flt h).2.1 ho hq kt) (kf h)
theorem g_if_ge (X : Stand p l e R s m args below meth c T locs cells slots) (hx : p.tables.exec = Jvm.exec) (hby : c.code = bytes) {x : Int32} {o : Int} (hd : decode bytes pc = .ok (.ifCond .ge o, 3)) (q r : Nat) (ho : 0 ≤ (pc : Int) + o) (hq : ((pc : Int) + o).toNat = q) (hr : pc + 3 = r) (kt : x < 0 → Goes p e below K (T.setTop (mkF m r Ls rest))) (kf : ¬ (x < 0) → Goes p e below K (T.setTop (mkF m q Ls rest))) : Goes p e below K (T.setTop (mkF m pc Ls (.int x :: rest))) := by
  subst hr
  by_cases h : x < 0
  · exact Goes.of (fun t kt => XS.ifNo X.here hx rfl (hb hby hd) rfl ((if0 _ _).trans (tlt h).2.1) kt) (kt h)
  · exact Goes.of (fun t kt => XS.ifYes X.here hx rfl rfl (hb hby hd) rfl ((if0 _ _).trans (flt h).2.1) ho hq kt) (kf h)
theorem g_lcmp_ge (X : Stand p l e R s m args below meth c T locs cells slots) (hx : p.tables.exec = Jvm.exec) (hby : c.code = bytes) {x y : Int64} {o : Int} {pc2 : Nat} (hd : decode bytes pc = .ok (.lcmp, 1)) (hd2 : decode bytes pc2 = .ok (.ifCond .ge o, 3)) (q r : Nat) (h2 : pc + 1 = pc2) (ho : 0 ≤ (pc2 : Int) + o) (hq : ((pc2 : Int) + o).toNat = q) (hr : pc2 + 3 = r) (kt : x < y → Goes p e below K (T.setTop (mkF m r Ls rest))) (kf : ¬ (x < y) → Goes p e below K (T.setTop (mkF m q Ls rest))) : Goes p e below K (T.setTop (mkF m pc Ls (.long y :: .long x :: rest))) := by
  subst h2
  refine Goes.of (fun t kt => XS.lcmp X.here hx rfl (hb hby hd) rfl kt) ?_
  exact g_if_ge X hx hby hd2 q r ho hq hr (fun h => kt ((lw_lt x y).mp h)) (fun h => kf fun h' => h ((lw_lt x y).mpr h'))
theorem g_icmp_gt (X : Stand p l e R s m args below meth c T locs cells slots) (hx : p.tables.exec = Jvm.exec) (hby : c.code = bytes) {x y : Int32} {o : Int} (hd : decode bytes pc = .ok (.if_icmp .gt o, 3)) (q r : Nat) (ho : 0 ≤ (pc : Int) + o) (hq : ((pc : Int) + o).toNat = q) (hr : pc + 3 = r) (kt : y < x → Goes p e below K (T.setTop (mkF m q Ls rest))) (kf : ¬ (y < x) → Goes p e below K (T.setTop (mkF m r Ls rest))) : Goes p e below K (T.setTop (mkF m pc Ls (.int y :: .int x :: rest))) := by
  subst hr
  by_cases h : y < x
  · exact Goes.of (fun t kt => XS.icmpYes X.here hx rfl rfl (hb hby hd) rfl (tlt h).2.2.1 ho hq kt) (kt h)
  · exact Goes.of (fun t kt => XS.icmpNo X.here hx rfl (hb hby hd) rfl (flt h).2.2.1 kt) (kf h)
theorem g_if_gt (X : Stand p l e R s m args below meth c T locs cells slots) (hx : p.tables.exec = Jvm.exec) (hby : c.code = bytes) {x : Int32} {o : Int} (hd : decode bytes pc = .ok (.ifCond .gt o, 3)) (q r : Nat) (ho : 0 ≤ (pc : Int) + o) (hq : ((pc : Int) + o).toNat = q) (hr : pc + 3 = r) (kt : 0 < x → Goes p e below K (T.setTop (mkF m q Ls rest))) (kf : ¬ (0 < x) → Goes p e below K (T.setTop (mkF m r Ls rest))) : Goes p e below K (T.setTop (mkF m pc Ls (.int x :: rest))) := by
  subst hr
  by_cases h : 0 < x
  · exact Goes.of (fun t kt => XS.ifYes X.here hx rfl rfl (hb hby hd) rfl ((if0 _ _).trans (tlt h).2.2.1) ho hq kt) (kt h)
  · exact Goes.of (fun t kt => XS.ifNo X.here hx rfl (hb hby hd) rfl ((if0 _ _).trans (flt h).2.2.1) kt) (kf h)
theorem g_lcmp_gt (X : Stand p l e R s m args below meth c T locs cells slots) (hx : p.tables.exec = Jvm.exec) (hby : c.code = bytes) {x y : Int64} {o : Int} {pc2 : Nat} (hd : decode bytes pc = .ok (.lcmp, 1)) (hd2 : decode bytes pc2 = .ok (.ifCond .gt o, 3)) (q r : Nat) (h2 : pc + 1 = pc2) (ho : 0 ≤ (pc2 : Int) + o) (hq : ((pc2 : Int) + o).toNat = q) (hr : pc2 + 3 = r) (kt : y < x → Goes p e below K (T.setTop (mkF m q Ls rest))) (kf : ¬ (y < x) → Goes p e below K (T.setTop (mkF m r Ls rest))) : Goes p e below K (T.setTop (mkF m pc Ls (.long y :: .long x :: rest))) := by
  subst h2
  refine Goes.of (fun t kt => XS.lcmp X.here hx rfl (hb hby hd) rfl kt) ?_
  exact g_if_gt X hx hby hd2 q r ho hq hr (fun h => kt ((lw_gt x y).mp h)) (fun h => kf fun h' => h ((lw_gt x y).mpr h'))
theorem g_icmp_le (X : Stand p l e R s m args below meth c T locs cells slots) (hx : p.tables.exec = Jvm.exec) (hby : c.code = bytes) {x y : Int32} {o : Int} (hd : decode bytes pc = .ok (.if_icmp .le o, 3)) (q r : Nat) (ho : 0 ≤ (pc : Int) + o) (hq : ((pc : Int) + o).toNat = q) (hr : pc + 3 = r) (kt : y < x → Goes p e below K (T.setTop (mkF m r Ls rest))) (kf : ¬ (y < x) → Goes p e below K (T.setTop (mkF m q Ls rest))) : Goes p e below K (T.setTop (mkF m pc Ls (.int y :: .int x :: rest))) := by
  subst hr
  by_cases h : y < x
  · exact Goes.of (fun t kt => XS.icmpNo X.here hx rfl (hb hby hd) rfl (tlt h).2.2.2 kt) (kt h)
  · exact Goes.of (fun t kt => XS.icmpYes X.here hx rfl rfl (hb hby hd) rfl (flt h).2.2.2 ho hq kt) (kf h)
theorem g_if_le (X : Stand p l e R s m args below meth c T locs cells slots) (hx : p.tables.exec = Jvm.exec) (hby : c.code = bytes) {x : Int32} {o : Int} (hd : decode bytes pc = .ok (.ifCond .le o, 3)) (q r : Nat) (ho : 0 ≤ (pc : Int) + o) (hq : ((pc : Int) + o).toNat = q) (hr : pc + 3 = r) (kt : 0 < x → Goes p e below K (T.setTop (mkF m r Ls rest))) (kf : ¬ (0 < x) → Goes p e below K (T.setTop (mkF m q Ls rest))) : Goes p e below K (T.setTop (mkF m pc Ls (.int x :: rest))) := by
  subst hr
  by_cases h : 0 < x
  · exact Goes.of (fun t kt => XS.ifNo X.here hx rfl (hb hby hd) rfl ((if0 _ _).trans (tlt h).2.2.2) kt) (kt h)
  · exact Goes.of (fun t kt => XS.ifYes X.here hx rfl rfl (hb hby hd) rfl ((if0 _ _).trans (flt h).2.2.2) ho hq kt) (kf h)
theorem g_lcmp_le (X : Stand p l e R s m args below meth c T locs cells slots) (hx : p.tables.exec = Jvm.exec) (hby : c.code = bytes) {x y : Int64} {o : Int} {pc2 : Nat} (hd : decode bytes pc = .ok (.lcmp, 1)) (hd2 : decode bytes pc2 = .ok (.ifCond .le o, 3)) (q r : Nat) (h2 : pc + 1 = pc2) (ho : 0 ≤ (pc2 : Int) + o) (hq : ((pc2 : Int) + o).toNat = q) (hr : pc2 + 3 = r) (kt : y < x → Goes p e below K (T.setTop (mkF m r Ls rest))) (kf : ¬ (y < x) → Goes p e below K (T.setTop (mkF m q Ls rest))) : Goes p e below K (T.setTop (mkF m pc Ls (.long y :: .long x :: rest))) := by
  subst h2
  refine Goes.of (fun t kt => XS.lcmp X.here hx rfl (hb hby hd) rfl kt) ?_
  exact g_if_le X hx hby hd2 q r ho hq hr (fun h => kt ((lw_gt x y).mp h)) (fun h => kf fun h' => h ((lw_gt x y).mpr h'))
theorem g_ifnull_yes (X : Stand p l e R s m args below meth c T locs cells slots) (hx : p.tables.exec = Jvm.exec) (hby : c.code = bytes) {o : Int} (hd : decode bytes pc = .ok (.ifnull o, 3)) (q : Nat) (ho : 0 ≤ (pc : Int) + o) (hq : ((pc : Int) + o).toNat = q) (k : Goes p e below K (T.setTop (mkF m q Ls rest))) : Goes p e below K (T.setTop (mkF m pc Ls (.null :: rest))) :=
  Goes.of (fun t kt => XS.ifnullYes X.here hx rfl rfl (hb hby hd) rfl ho hq kt) k
theorem g_ifnull_no (X : Stand p l e R s m args below meth c T locs cells slots) (hx : p.tables.exec = Jvm.exec) (hby : c.code = bytes) {a : Addr} {o : Int} (hd : decode bytes pc = .ok (.ifnull o, 3)) (q : Nat) (hq : pc + 3 = q) (k : Goes p e below K (T.setTop (mkF m q Ls rest))) : Goes p e below K (T.setTop (mkF m pc Ls (.ref a :: rest))) := by
  subst hq; exact Goes.of (fun t kt => XS.ifnullNo X.here hx rfl (hb hby hd) rfl kt) k
theorem g_ifnonnull_yes (X : Stand p l e R s m args below meth c T locs cells slots) (hx : p.tables.exec = Jvm.exec) (hby : c.code = bytes) {a : Addr} {o : Int} (hd : decode bytes pc = .ok (.ifnonnull o, 3)) (q : Nat) (ho : 0 ≤ (pc : Int) + o) (hq : ((pc : Int) + o).toNat = q) (k : Goes p e below K (T.setTop (mkF m q Ls rest))) : Goes p e below K (T.setTop (mkF m pc Ls (.ref a :: rest))) :=
  Goes.of (fun t kt => XS.ifnonnullYes X.here hx rfl rfl (hb hby hd) rfl ho hq kt) k
theorem g_ifnonnull_no (X : Stand p l e R s m args below meth c T locs cells slots) (hx : p.tables.exec = Jvm.exec) (hby : c.code = bytes) {o : Int} (hd : decode bytes pc = .ok (.ifnonnull o, 3)) (q : Nat) (hq : pc + 3 = q) (k : Goes p e below K (T.setTop (mkF m q Ls rest))) : Goes p e below K (T.setTop (mkF m pc Ls (.null :: rest))) := by
  subst hq; exact Goes.of (fun t kt => XS.ifnonnullNo X.here hx rfl (hb hby hd) rfl kt) k
theorem g_acmp (X : Stand p l e R s m args below meth c T locs cells slots) (hx : p.tables.exec = Jvm.exec) (hby : c.code = bytes) {cd : ACond} {x y : Value} {o : Int} (hd : decode bytes pc = .ok (.if_acmp cd o, 3)) (h1 : x.isRef = true) (h2 : y.isRef = true) (same : Bool) (hs : decide (x = y) = same) (q : Nat) (ho : 0 ≤ (pc : Int) + o) (hq : q = if acV cd same = true then ((pc : Int) + o).toNat else pc + 3) (k : Goes p e below K (T.setTop (mkF m q Ls rest))) : Goes p e below K (T.setTop (mkF m pc Ls (y :: x :: rest))) :=
  Goes.of (fun t kt => Jvm.RoadKit.acmp X hx rfl h1 h2 rfl (hb hby hd) rfl hs ho hq kt) k
theorem g_ldc (X : Stand p l e R s m args below meth c T locs cells slots) (hx : p.tables.exec = Jvm.exec) (hby : c.code = bytes) {Z : State} {a0 : Array Value} (hZ : Z.Warmed39 s.vm) {own : String} {index : Nat} {v : Int32} (hown : s.vm.findClass own = some m.cls) (w : (Jvm.Cond.constant own index v).before a0 Z = true) (hd : decode bytes pc = .ok (.ldc index, 2)) (q : Nat) (hq : pc + 2 = q) (k : Goes p e below K (T.setTop (mkF m q Ls (.int v :: rest)))) : Goes p e below K (T.setTop (mkF m pc Ls rest)) := by
  subst hq; exact Goes.of (fun t kt => X.ldcInt hx hown (mvT hZ w) (g := mkF m pc Ls rest) rfl (hb hby hd) t kt) k
theorem g_ldc_w (X : Stand p l e R s m args below meth c T locs cells slots) (hx : p.tables.exec = Jvm.exec) (hby : c.code = bytes) {Z : State} {a0 : Array Value} (hZ : Z.Warmed39 s.vm) {own : String} {index : Nat} {v : Int32} (hown : s.vm.findClass own = some m.cls) (w : (Jvm.Cond.constant own index v).before a0 Z = true) (hd : decode bytes pc = .ok (.ldc_w index, 3)) (q : Nat) (hq : pc + 3 = q) (k : Goes p e below K (T.setTop (mkF m q Ls (.int v :: rest)))) : Goes p e below K (T.setTop (mkF m pc Ls rest)) := by
  subst hq; exact Goes.of (fun t kt => X.ldcwInt hx hown (mvT hZ w) (g := mkF m pc Ls rest) rfl (hb hby hd) t kt) k
theorem g_ldc2 (X : Stand p l e R s m args below meth c T locs cells slots) (hx : p.tables.exec = Jvm.exec) (hby : c.code = bytes) {Z : State} {a0 : Array Value} (hZ : Z.Warmed39 s.vm) {own : String} {index : Nat} {v : Int64} (hown : s.vm.findClass own = some m.cls) (w : (Jvm.Cond.constantLong own index v).before a0 Z = true) (hd : decode bytes pc = .ok (.ldc2_w index, 3)) (q : Nat) (hq : pc + 3 = q) (k : Goes p e below K (T.setTop (mkF m q Ls (.long v :: rest)))) : Goes p e below K (T.setTop (mkF m pc Ls rest)) := by
  subst hq; exact Goes.of (fun t kt => X.ldc2Long hx hown (mvT hZ w) (g := mkF m pc Ls rest) rfl (hb hby hd) t kt) k
theorem g_leave (X : Stand p l e R s m args below meth c T locs cells slots) {Q : Option Value → Heap → List Loc → Prop} {C S : Nat} {v : Option Value} (hv : meth.sig.returnType = none → v = none) (hlk : meth.locks = false) (hQ : Q v T.heap locs) (hc : cells ≤ C) (hs : slots ≤ S) {F : State}
    (st : ∀ fs : List Frame, (∀ (f : JFrame) (acts : List Action), f.method = m → f.locked = none → f.entered = [] → (doReturn e (T.setTop f) acts v).1 = T.setFrames fs) → Steps p.tables e below F (T.setFrames fs)) : Goes p e below (Kend s below Q C S) F := by
  obtain ⟨fs, hr, hrun, hended, hW, hsame⟩ := X.leave (v := v) hv hlk
  exact ⟨_, st fs hr, _, hrun, hended, v, locs, rfl, hQ, ⟨_, rfl⟩, hW, hsame.mono hc hs⟩
theorem g_ireturn (X : Stand p l e R s m args below meth c T locs cells slots) (hx : p.tables.exec = Jvm.exec) (hby : c.code = bytes) {Q : Option Value → Heap → List Loc → Prop} {C S : Nat} {z : Int32} {t : FieldType} (hret : meth.sig.returnType = some t) (hlk : meth.locks = false) (ht : t = .int ∨ t = .boolean ∨ t = .byte ∨ t = .char ∨ t = .short) (hn : narrow t (.int z) = .int z) (hd : decode bytes pc = .ok (.ireturn, 1)) (hQ : Q (some (.int z)) T.heap locs) (hc : cells ≤ C) (hs : slots ≤ S) : Goes p e below (Kend s below Q C S) (T.setTop (mkF m pc Ls (.int z :: rest))) :=
  g_leave X (v := some (.int z)) (fun h => by rw [hret] at h; cases h) hlk hQ hc hs fun fs hr => retOut X hx hret hn (Or.inl ⟨rfl, ht, z, rfl⟩) (hb hby hd) hr
theorem g_lreturn (X : Stand p l e R s m args below meth c T locs cells slots) (hx : p.tables.exec = Jvm.exec) (hby : c.code = bytes) {Q : Option Value → Heap → List Loc → Prop} {C S : Nat} {z : Int64} (hret : meth.sig.returnType = some .long) (hlk : meth.locks = false) (hd : decode bytes pc = .ok (.lreturn, 1)) (hQ : Q (some (.long z)) T.heap locs) (hc : cells ≤ C) (hs : slots ≤ S) : Goes p e below (Kend s below Q C S) (T.setTop (mkF m pc Ls (.long z :: rest))) :=
  g_leave X (v := some (.long z)) (fun h => by rw [hret] at h; cases h) hlk hQ hc hs fun fs hr => retOut X hx hret rfl (Or.inr (Or.inl ⟨rfl, rfl, z, rfl⟩)) (hb hby hd) hr
theorem g_areturn (X : Stand p l e R s m args below meth c T locs cells slots) (hx : p.tables.exec = Jvm.exec) (hby : c.code = bytes) {Q : Option Value → Heap → List Loc → Prop} {C S : Nat} {w : Value} {t : FieldType} (hret : meth.sig.returnType = some t) (hlk : meth.locks = false) (ht : t.isReference = true) (hw : w.isRef = true) (hn : narrow t w = w) (hd : decode bytes pc = .ok (.areturn, 1)) (hQ : Q (some w) T.heap locs) (hc : cells ≤ C) (hs : slots ≤ S) : Goes p e below (Kend s below Q C S) (T.setTop (mkF m pc Ls (w :: rest))) :=
  g_leave X (v := some w) (fun h => by rw [hret] at h; cases h) hlk hQ hc hs fun fs hr => retOut X hx hret hn (Or.inr (Or.inr (Or.inr (Or.inr ⟨rfl, ht, hw⟩)))) (hb hby hd) hr
theorem g_return (X : Stand p l e R s m args below meth c T locs cells slots) (hx : p.tables.exec = Jvm.exec) (hby : c.code = bytes) {Q : Option Value → Heap → List Loc → Prop} {C S : Nat} (hret : meth.sig.returnType = none) (hlk : meth.locks = false) (hd : decode bytes pc = .ok (.return_, 1)) (hQ : Q none T.heap locs) (hc : cells ≤ C) (hs : slots ≤ S) : Goes p e below (Kend s below Q C S) (T.setTop (mkF m pc Ls [])) :=
  g_leave X (v := none) (fun _ => rfl) hlk hQ hc hs fun fs hr => X.returnOut hx hret (hb hby hd) hr
theorem nar_bool {z : Int32} (h : z = 0 ∨ z = 1) : narrow .boolean (.int z) = .int z := by rcases h with rfl | rfl <;> rfl
theorem g_callS (X : Stand p l e R s m args below meth c T locs cells slots) (hx : p.tables.exec = Jvm.exec) (hby : c.code = bytes) {Z : State} {a0 : Array Value} (hZ : Z.Warmed39 s.vm) {own : String} {index : Nat} {y : MethodName} {cb : ByteArray} {maxL : Nat} {ret : Option FieldType} {rm : Room} {Q : Option Value → Heap → List Loc → Prop} {h : Heap} (hown : s.vm.findClass own = some m.cls) (w1 : (Jvm.Cond.methodLink own index y).before a0 Z = true) (w2 : (Jvm.Cond.static y).before a0 Z = true) (w3 : (Jvm.Cond.initialized y.cls).before a0 Z = true) (w4 : (Jvm.Cond.code y cb maxL ret).before a0 Z = true)
    (hd : decode bytes pc = .ok (.invokestatic index, 3)) (argsL rest : List Value) {st : List Value} (hM : Ctr l y cb maxL ret [] rm argsL.toArray Z h Q) (eT : T.heap = h) (hst : st = argsL.reverse ++ rest) (hsz : Ls.size = c.maxLocals) {ps : List FieldType} {rt : Option FieldType} (hpd : parseMethodDescriptor y.desc = some ⟨ps, rt⟩) (hlen : argsL.length = ps.length)
    (hy : y.cls ≠ "java/lang/invoke/MethodHandle" ∧ y.cls ≠ "java/lang/invoke/VarHandle") (W : Nat) (hW : (rest.map fun v => v.category).sum ≤ W) (hf : rm.frames + 1 ≤ R.frames) (hl : W + (maxL + 11) + rm.locals ≤ R.locals) (hc : cells + rm.cells ≤ R.cells) (hs : slots + rm.slots ≤ R.slots) (q : Nat) (hq : pc + 3 = q)
    (k : ∀ (T' : State) (v : Option Value) (L : List Loc), Stand p l e R s m args below meth c T' (locs ++ L) (cells + rm.cells) (slots + rm.slots) → Q v T'.heap L → Goes p e below K (T'.setTop (mkF m q Ls (v.toList ++ rest)))) : Goes p e below K (T.setTop (mkF m pc Ls st)) := by
  subst hq hst
  obtain ⟨v, _, ⟨T', L', k', n'⟩, -, X', ⟨Lc, hQ, l1, y1, z1⟩, st⟩ := Jvm.LawKit.callS X hx hown (mvT hZ w1) (mvT hZ w2) (mvT hZ w3) (mvT hZ w4) hy (backOf (W := W) hM hZ w4 w3 hf hl) (g := mkF m pc Ls (argsL.reverse ++ rest)) rfl hsz (argsL := argsL) (rest := rest) (lenOf hpd hlen) rfl (by show 2 * 0 + _ ≤ _; omega) (hb hby hd) (fun _ _ => ⟨rfl, eT, hc, hs⟩)
  dsimp only [Pt.U, Pt.locs, Pt.cells, Pt.slots] at X' l1 y1 z1 st hQ
  subst l1 y1 z1
  exact Goes.of st (k _ _ _ X' hQ)
theorem g_special (X : Stand p l e R s m args below meth c T locs cells slots) (hx : p.tables.exec = Jvm.exec) (hby : c.code = bytes) {Z : State} {a0 : Array Value} (hZ : Z.Warmed39 s.vm) {own : String} {index : Nat} {y : MethodName} {cb : ByteArray} {maxL : Nat} {rm : Room} {Q : Option Value → Heap → List Loc → Prop} {h : Heap} (hown : s.vm.findClass own = some m.cls) (hy1 : y.name = "<init>") (w1 : (Jvm.Cond.methodLink own index y).before a0 Z = true) (w2 : (Jvm.Cond.instanceMethod y).before a0 Z = true) (w3 : (Jvm.Cond.initialized y.cls).before a0 Z = true) (w4 : (Jvm.Cond.code y cb maxL none).before a0 Z = true)
    (hd : decode bytes pc = .ok (.invokespecial index, 3)) (a : Addr) (argsL rest : List Value) {st : List Value} (hM : Ctr l y cb maxL none [] rm (.ref a :: argsL).toArray Z h Q) (eT : T.heap = h) (hst : st = argsL.reverse ++ .ref a :: rest) (hsz : Ls.size = c.maxLocals) {ps : List FieldType} {rt : Option FieldType} (hpd : parseMethodDescriptor y.desc = some ⟨ps, rt⟩) (hlen : argsL.length = ps.length)
    (hy : y.cls ≠ "java/lang/invoke/MethodHandle" ∧ y.cls ≠ "java/lang/invoke/VarHandle") (W : Nat) (hW : (rest.map fun v => v.category).sum ≤ W) (hf : rm.frames + 1 ≤ R.frames) (hl : W + (maxL + 11) + rm.locals ≤ R.locals) (hc : cells + rm.cells ≤ R.cells) (hs : slots + rm.slots ≤ R.slots) (q : Nat) (hq : pc + 3 = q)
    (k : ∀ (T' : State) (v : Option Value) (L : List Loc), Stand p l e R s m args below meth c T' (locs ++ L) (cells + rm.cells) (slots + rm.slots) → Q v T'.heap L → Goes p e below K (T'.setTop (mkF m q Ls (v.toList ++ rest)))) : Goes p e below K (T.setTop (mkF m pc Ls st)) := by
  subst hq hst
  obtain ⟨v, _, ⟨T', L', k', n'⟩, -, X', ⟨Lc, hQ, l1, y1, z1⟩, st⟩ := X.specialBack hx hy1 hown (mvT hZ w1) (mvT hZ w2) (mvT hZ w4) hy (backOf (W := W) hM hZ w4 w3 hf hl) (g := mkF m pc Ls (argsL.reverse ++ .ref a :: rest)) rfl hsz (Steps.refl _) (a := a) (argsL := argsL) (rest := rest) (lenOf hpd hlen) rfl (by show 2 * 0 + _ ≤ _; omega) (hb hby hd) (fun _ _ => ⟨rfl, eT, hc, hs⟩)
  dsimp only [Pt.U, Pt.locs, Pt.cells, Pt.slots] at X' l1 y1 z1 st hQ
  subst l1 y1 z1
  exact Goes.of (fun t kt => st.trans kt) (k _ _ _ X' hQ)
theorem g_virtual (X : Stand p l e R s m args below meth c T locs cells slots) (hx : p.tables.exec = Jvm.exec) (hby : c.code = bytes) {Z : State} {a0 : Array Value} (hZ : Z.Warmed39 s.vm) {own : String} {index : Nat} {y : MethodName} {cb : ByteArray} {maxL : Nat} {ret : Option FieldType} {rm : Room} {Q : Option Value → Heap → List Loc → Prop} {h : Heap} {z : MethodName} {C : String} (hown : s.vm.findClass own = some m.cls) (w1 : (Jvm.Cond.methodLink own index y).before a0 Z = true) (w2 : (Jvm.Cond.declares y).before a0 Z = true) (nf : NotFace s y) (w5 : (Jvm.Cond.selects C y z).before a0 Z = true) (w6 : (Jvm.Cond.instanceMethod z).before a0 Z = true) (w3 : (Jvm.Cond.initialized z.cls).before a0 Z = true) (w4 : (Jvm.Cond.code z cb maxL ret).before a0 Z = true)
    (hd : decode bytes pc = .ok (.invokevirtual index, 3)) (a : Addr) (E : Exa Z h a C) (argsL rest : List Value) {st : List Value} (hM : Ctr l z cb maxL ret [] rm (.ref a :: argsL).toArray Z h Q) (eT : T.heap = h) (hst : st = argsL.reverse ++ .ref a :: rest) (hsz : Ls.size = c.maxLocals) {ps : List FieldType} {rt : Option FieldType} (hpd : parseMethodDescriptor y.desc = some ⟨ps, rt⟩) (hlen : argsL.length = ps.length)
    (hy : y.cls ≠ "java/lang/invoke/MethodHandle" ∧ y.cls ≠ "java/lang/invoke/VarHandle") (W : Nat) (hW : (rest.map fun v => v.category).sum ≤ W) (hf : rm.frames + 1 ≤ R.frames) (hl : W + (maxL + 11) + rm.locals ≤ R.locals) (hc : cells + rm.cells ≤ R.cells) (hs : slots + rm.slots ≤ R.slots) (q : Nat) (hq : pc + 3 = q)
    (k : ∀ (T' : State) (v : Option Value) (L : List Loc), Stand p l e R s m args below meth c T' (locs ++ L) (cells + rm.cells) (slots + rm.slots) → Q v T'.heap L → Goes p e below K (T'.setTop (mkF m q Ls (v.toList ++ rest)))) : Goes p e below K (T.setTop (mkF m pc Ls st)) := by
  subst hq hst
  obtain ⟨cq, kq, qa, qb, qc⟩ := isOf hZ eT E
  obtain ⟨v, _, ⟨T', L', k', n'⟩, -, X', ⟨Lc, hQ, l1, y1, z1⟩, st⟩ := X.virtualBack hx (y := y) (z := z) hown (mvT hZ w1) (mvT hZ w2) nf (mvT hZ w5) (mvT hZ w6) hy (backOf (W := W) hM hZ w4 w3 hf hl) qa qc (g := mkF m pc Ls (argsL.reverse ++ .ref a :: rest)) rfl hsz (Steps.refl _) (argsL := argsL) (rest := rest) (lenOf hpd hlen) rfl (by show 2 * 0 + _ ≤ _; omega) (hb hby hd) (fun _ _ => ⟨rfl, eT, hc, hs⟩)
  dsimp only [Pt.U, Pt.locs, Pt.cells, Pt.slots] at X' l1 y1 z1 st hQ
  subst l1 y1 z1
  exact Goes.of (fun t kt => st.trans kt) (k _ _ _ X' hQ)
theorem g_initO (X : Stand p l e R s m args below meth c T locs cells slots) (hx : p.tables.exec = Jvm.exec) (hby : c.code = bytes) {Z : State} {a0 : Array Value} (hZ : Z.Warmed39 s.vm) {own : String} {index : Nat} {h : Heap} {a : Addr} (hown : s.vm.findClass own = some m.cls) (w1 : (Jvm.Cond.methodLink own index Lib.objectInit).before a0 Z = true) (w2 : (Jvm.Cond.instanceMethod Lib.objectInit).before a0 Z = true) (w3 : (Jvm.Cond.code Lib.objectInit ⟨#[0xb1]⟩ 1 none).before a0 Z = true)
    (hd : decode bytes pc = .ok (.invokespecial index, 3)) (eT : T.heap = h) (hsz : Ls.size = c.maxLocals) (W : Nat) (hW : (rest.map fun v => v.category).sum ≤ W) (hf : 1 ≤ R.frames) (hl : W + 12 ≤ R.locals) (q : Nat) (hq : pc + 3 = q)
    (k : ∀ T' : State, Stand p l e R s m args below meth c T' locs cells slots → T'.heap = h → Goes p e below K (T'.setTop (mkF m q Ls rest))) : Goes p e below K (T.setTop (mkF m pc Ls (.ref a :: rest))) := by
  subst hq
  obtain ⟨T', X', e', st⟩ := initO X hx hZ hown w1 w2 w3 eT (g := mkF m pc Ls (.ref a :: rest)) rfl hsz rfl (hb hby hd) hf (W := W) (by show 2 * 0 + _ ≤ _; omega) hl
  exact Goes.of st (k _ X' e')
theorem g_getfield (X : Stand p l e R s m args below meth c T locs cells slots) (hx : p.tables.exec = Jvm.exec) (hby : c.code = bytes) {Z : State} {a0 : Array Value} (hZ : Z.Warmed39 s.vm) {own R0 O n d host : String} {index : Nat} {h : Heap} {a : Addr} {v : Value} (hown : s.vm.findClass own = some m.cls) (w : (Jvm.Cond.fieldLink own index R0 n d).before a0 Z = true ∨ (Jvm.Cond.fieldLinkNest own index R0 n d host).before a0 Z = true) (via : Via Z R0 O n d) (eT : T.heap = h) (F : Fld Z h a O n d v)
    (hd : decode bytes pc = .ok (.getfield index, 3)) (q : Nat) (hq : pc + 3 = q) (k : ∀ T' : State, Stand p l e R s m args below meth c T' locs cells slots → T'.heap = h → Goes p e below K (T'.setTop (mkF m q Ls (v :: rest)))) : Goes p e below K (T.setTop (mkF m pc Ls (.ref a :: rest))) := by
  subst hq
  obtain ⟨T', X', e', st⟩ := getF X hx hZ hown w via eT F (g := mkF m pc Ls (.ref a :: rest)) rfl rfl (hb hby hd)
  exact Goes.of st (k _ X' e')
theorem g_putfield (X : Stand p l e R s m args below meth c T locs cells slots) (hx : p.tables.exec = Jvm.exec) (hby : c.code = bytes) {Z : State} {a0 : Array Value} (hZ : Z.Warmed39 s.vm) {own R0 O n d host C : String} {index kk : Nat} {ty : FieldType} {h : Heap} {a : Addr} {v old : Value} (hown : s.vm.findClass own = some m.cls) (w : (Jvm.Cond.fieldLink own index R0 n d).before a0 Z = true ∨ (Jvm.Cond.fieldLinkNest own index R0 n d host).before a0 Z = true) (via : Via Z R0 O n d) (eT : T.heap = h) (F : Fld Z h a O n d old) (E : Exa Z h a C)
    (L : (Jvm.Cond.lays C O n d).before a0 Z = true ∨ ((Jvm.Cond.laysFinal C O n d).before a0 Z = true ∧ own = O ∧ meth.name = "<init>")) (wi : (Jvm.Cond.instantiable C kk).before a0 Z = true) (hty : parseFieldDescriptor d = some ty) (hn : narrow ty v = v) (hf : fits ty v = true) (hd : decode bytes pc = .ok (.putfield index, 3)) (q : Nat) (hq : pc + 3 = q)
    (k : ∀ (T' : State) (h' : Heap), Stand p l e R s m args below meth c T' (locs ++ [⟨a, Jvm.RoadKit.slotOf Z O n d⟩]) cells slots → T'.heap = h' → Wr h h' a (Jvm.RoadKit.slotOf Z O n d) v → Goes p e below K (T'.setTop (mkF m q Ls rest))) : Goes p e below K (T.setTop (mkF m pc Ls (v :: .ref a :: rest))) := by
  subst hq
  obtain ⟨T', h', X', e', W', st⟩ := putF X hx hZ hown w via eT F E L wi hty hn hf (g := mkF m pc Ls (v :: .ref a :: rest)) rfl rfl (hb hby hd)
  exact Goes.of st (k _ _ X' e' W')
theorem g_new (X : Stand p l e R s m args below meth c T locs cells slots) (hx : p.tables.exec = Jvm.exec) (hby : c.code = bytes) {Z : State} {a0 : Array Value} (hZ : Z.Warmed39 s.vm) {own C : String} {index n : Nat} {h : Heap} (hown : s.vm.findClass own = some m.cls) (w : (Jvm.Cond.classLink own index C).before a0 Z = true) (wi : (Jvm.Cond.instantiable C n).before a0 Z = true) (wz : (Jvm.Cond.initialized C).before a0 Z = true) (eT : T.heap = h) (hd : decode bytes pc = .ok (.new index, 3)) (hc : cells + 1 ≤ R.cells) (hl : slots + n ≤ R.slots) (q : Nat) (hq : pc + 3 = q)
    (k : ∀ (T' : State) (h' : Heap) (a : Addr), a = h.size → Stand p l e R s m args below meth c T' locs (cells + 1) (slots + n) → T'.heap = h' → Ext h h' → Exa Z h' a C → (∀ {O nm d : String} {ty : FieldType}, Laid Z a0 C O nm d → parseFieldDescriptor d = some ty → Fld Z h' a O nm d (defaultValue ty)) → Goes p e below K (T'.setTop (mkF m q Ls (.ref a :: rest)))) : Goes p e below K (T.setTop (mkF m pc Ls rest)) := by
  subst hq
  obtain ⟨T', h', X', e', E', A', D', -, st⟩ := newO X hx hZ hown w wi wz eT (g := mkF m pc Ls rest) rfl (hb hby hd) hc hl
  exact Goes.of st (k _ _ _ rfl X' e' E' A' D')
def upd {α : Type} (f : Nat → α) (k : Nat) (x : α) : Nat → α := fun i => if i = k then x else f i
theorem upd_hit {α : Type} (f : Nat → α) (k : Nat) (x : α) : upd f k x k = x := if_pos rfl
theorem upd_miss {α : Type} (f : Nat → α) {k i : Nat} (x : α) (h : i ≠ k) : upd f k x i = f i := if_neg h
def ArF (Z : State) (h : Heap) (a : Addr) (ty : FieldType) (n : Nat) (f : Nat → Value) : Prop := ∃ c : Cell, Arr Z h a c ty ∧ c.slots.size = n ∧ n < 2 ^ 31 ∧ ∀ j, j < n → c.slots[j]? = some (f j)
abbrev AI (Z : State) (h : Heap) (a : Addr) (ty : FieldType) (n : Nat) (f : Nat → Int32) : Prop := ArF Z h a ty n (fun i => .int (f i))
abbrev AJ (Z : State) (h : Heap) (a : Addr) (n : Nat) (f : Nat → Int64) : Prop := ArF Z h a .long n (fun i => .long (f i))
section Arrays
variable {Z : State} {h h' : Heap} {a b : Addr} {ty : FieldType} {n : Nat} {f : Nat → Value}
theorem ArF.lt (F : ArF Z h a ty n f) : a < h.size := by obtain ⟨c, A, -⟩ := F; exact A.lt
theorem ArF.len (F : ArF Z h a ty n f) : n < 2 ^ 31 := by obtain ⟨c, -, -, q, -⟩ := F; exact q
theorem ArF.ext (F : ArF Z h a ty n f) (E : Ext h h') : ArF Z h' a ty n f := by obtain ⟨c, A, r⟩ := F; exact ⟨c, A.ext E, r⟩
theorem ArF.other {sl : Nat} {v : Value} (F : ArF Z h b ty n f) (W : Wr h h' a sl v) (q : b ≠ a) : ArF Z h' b ty n f := by obtain ⟨c, A, r⟩ := F; exact ⟨c, A.other W q, r⟩
theorem ArF.keep {ws : List Addr} (F : ArF Z h a ty n f) (K : Keep h h' ws) (q : a ∉ ws) : ArF Z h' a ty n f := by obtain ⟨c, A, r⟩ := F; exact ⟨c, ⟨K.2.1 a c A.1 q, A.2⟩, r⟩
theorem ArF.congr {g : Nat → Value} (F : ArF Z h a ty n f) (q : ∀ i, i < n → f i = g i) : ArF Z h a ty n g := by obtain ⟨c, A, r1, r2, r3⟩ := F; exact ⟨c, A, r1, r2, fun j hj => by rw [r3 j hj, q j hj]⟩
theorem ArF.fresh {k : ClassId} {z : Int32} (A : Arr Z h a (newA k ty z) ty) (q : ¬ z < 0) (e : z.toNatClampNeg = n) : ArF Z h a ty n (fun _ => defaultValue ty) := by
  subst e
  refine ⟨_, A, sz_new _ _ _, (back32 q).2, fun j hj => ?_⟩
  simp [newA, hj]
theorem ArF.set {j : Nat} {v : Value} (F : ArF Z h a ty n f) (W : Wr h h' a j v) : ArF Z h' a ty n (upd f j v) := by
  obtain ⟨c, A, r1, r2, r3⟩ := F
  refine ⟨_, A.same W, (sz_set _ _ _).trans r1, r2, fun i hi => ?_⟩
  by_cases q : i = j
  · subst q; rw [upd_hit]; simp [Cell.setSlot, r1, hi]
  · rw [upd_miss _ _ q, ← r3 i hi]
    simp only [Cell.setSlot]
    exact Array.getElem?_setIfInBounds_ne (fun y => q y.symm)
theorem AI.set {j : Nat} {x : Int32} {g : Nat → Int32} (F : AI Z h a ty n g) (W : Wr h h' a j (.int x)) : AI Z h' a ty n (upd g j x) := (ArF.set F W).congr fun i _ => by by_cases q : i = j <;> simp [upd, q]
theorem AJ.set {j : Nat} {x : Int64} {g : Nat → Int64} (F : AJ Z h a n g) (W : Wr h h' a j (.long x)) : AJ Z h' a n (upd g j x) := (ArF.set F W).congr fun i _ => by by_cases q : i = j <;> simp [upd, q]
theorem own_in {c : Cell} {j : Int32} {k : Nat} (hs : c.slots.size = n) (h0 : ¬ j < 0) (hj : j.toNatClampNeg = k) (hk : k < n) : ¬ (j < 0 ∨ c.slots.size ≤ j.toNatClampNeg) := by
  subst hs hj; exact fun y => y.elim h0 (Nat.not_le.mpr hk)
end Arrays
theorem g_newarray (X : Stand p l e R s m args below meth c T locs cells slots) (hx : p.tables.exec = Jvm.exec) (hby : c.code = bytes) {Z : State} {a0 : Array Value} (hZ : Z.Warmed39 s.vm) {aty : ArrayType} {h : Heap} {z : Int32} (w : (Jvm.Cond.arrayClass (newarray.typeOf aty)).before a0 Z = true) (eT : T.heap = h) (hd : decode bytes pc = .ok (.newarray aty, 2)) (hz : ¬ z < 0) (n : Nat) (hn : z.toNatClampNeg = n) (cap : Nat) (hcap : n ≤ cap) (hbig : cap * 8 ≤ 536870912) (hc : cells + 1 ≤ R.cells) (hl : slots + cap ≤ R.slots) (q : Nat) (hq : pc + 2 = q)
    (k : ∀ (T' : State) (h' : Heap) (a : Addr), a = h.size → Stand p l e R s m args below meth c T' locs (cells + 1) (slots + cap) → T'.heap = h' → Ext h h' → ArF Z h' a (newarray.typeOf aty) n (fun _ => defaultValue (newarray.typeOf aty)) → Goes p e below K (T'.setTop (mkF m q Ls (.ref a :: rest)))) : Goes p e below K (T.setTop (mkF m pc Ls (.int z :: rest))) := by
  subst hq
  obtain ⟨T', h', cA, X', e', E', A', st⟩ := newP X hx hZ w eT (g := mkF m pc Ls (.int z :: rest)) rfl (hb hby hd) rfl hz (cap := cap) (by rw [hn]; exact hcap) hbig hc hl
  exact Goes.of st (k _ _ _ rfl X' e' E' (ArF.fresh A' hz hn))
theorem g_arraylength (X : Stand p l e R s m args below meth c T locs cells slots) (hx : p.tables.exec = Jvm.exec) (hby : c.code = bytes) {Z : State} (hZ : Z.Warmed39 s.vm) {h : Heap} {a : Addr} {ty : FieldType} {n : Nat} {f : Nat → Value} (eT : T.heap = h) (F : ArF Z h a ty n f) (hd : decode bytes pc = .ok (.arraylength, 1)) (z : Int32) (hz : n.toInt32 = z) (q : Nat) (hq : pc + 1 = q) (k : Goes p e below K (T.setTop (mkF m q Ls (.int z :: rest)))) : Goes p e below K (T.setTop (mkF m pc Ls (.ref a :: rest))) := by
  subst hq hz
  obtain ⟨cl, A, r1, r2, r3⟩ := F
  exact Goes.of (fun t kt => X.arraylength hx (by rw [eT]; exact A.1) (State.isArrayOf_alike hZ.alike A.2.1) (g := mkF m pc Ls (.ref a :: rest)) rfl rfl (hb hby hd) t (by rw [r1]; exact kt)) k
theorem g_iaload (X : Stand p l e R s m args below meth c T locs cells slots) (hx : p.tables.exec = Jvm.exec) (hby : c.code = bytes) {Z : State} (hZ : Z.Warmed39 s.vm) {h : Heap} {a : Addr} {n : Nat} {f : Nat → Int32} {j : Int32} (eT : T.heap = h) (F : AI Z h a .int n f) (hd : decode bytes pc = .ok (.iaload, 1)) (h0 : ¬ j < 0) (i : Nat) (hj : j.toNatClampNeg = i) (hi : i < n) (x : Int32) (hfx : f i = x) (q : Nat) (hq : pc + 1 = q) (k : Goes p e below K (T.setTop (mkF m q Ls (.int x :: rest)))) : Goes p e below K (T.setTop (mkF m pc Ls (.int j :: .ref a :: rest))) := by
  subst hq hfx
  obtain ⟨cl, A, r1, r2, r3⟩ := F
  exact Goes.of (fun t kt => X.iaload hx (by rw [eT]; exact A.1) (State.isArrayOf_alike hZ.alike A.2.1) A.2.2 (own_in r1 h0 hj hi) (by rw [hj]; exact r3 i hi) (g := mkF m pc Ls (.int j :: .ref a :: rest)) rfl rfl (hb hby hd) t kt) k
theorem g_baload (X : Stand p l e R s m args below meth c T locs cells slots) (hx : p.tables.exec = Jvm.exec) (hby : c.code = bytes) {Z : State} (hZ : Z.Warmed39 s.vm) {h : Heap} {a : Addr} {n : Nat} {f : Nat → Int32} {j : Int32} (eT : T.heap = h) (F : AI Z h a .byte n f) (hd : decode bytes pc = .ok (.baload, 1)) (h0 : ¬ j < 0) (i : Nat) (hj : j.toNatClampNeg = i) (hi : i < n) (x : Int32) (hfx : f i = x) (q : Nat) (hq : pc + 1 = q) (k : Goes p e below K (T.setTop (mkF m q Ls (.int x :: rest)))) : Goes p e below K (T.setTop (mkF m pc Ls (.int j :: .ref a :: rest))) := by
  subst hq hfx
  obtain ⟨cl, A, r1, r2, r3⟩ := F
  exact Goes.of (fun t kt => X.baloadBytes hx (by rw [eT]; exact A.1) (State.isArrayOf_alike hZ.alike A.2.1) A.2.2 (own_in r1 h0 hj hi) (by rw [hj]; exact r3 i hi) (g := mkF m pc Ls (.int j :: .ref a :: rest)) rfl rfl (hb hby hd) t kt) k
theorem g_laload (X : Stand p l e R s m args below meth c T locs cells slots) (hx : p.tables.exec = Jvm.exec) (hby : c.code = bytes) {Z : State} (hZ : Z.Warmed39 s.vm) {h : Heap} {a : Addr} {n : Nat} {f : Nat → Int64} {j : Int32} (eT : T.heap = h) (F : AJ Z h a n f) (hd : decode bytes pc = .ok (.laload, 1)) (h0 : ¬ j < 0) (i : Nat) (hj : j.toNatClampNeg = i) (hi : i < n) (x : Int64) (hfx : f i = x) (q : Nat) (hq : pc + 1 = q) (k : Goes p e below K (T.setTop (mkF m q Ls (.long x :: rest)))) : Goes p e below K (T.setTop (mkF m pc Ls (.int j :: .ref a :: rest))) := by
  subst hq hfx
  obtain ⟨cl, A, r1, r2, r3⟩ := F
  exact Goes.of (fun t kt => X.laload hx (by rw [eT]; exact A.1) (State.isArrayOf_alike hZ.alike A.2.1) A.2.2 (own_in r1 h0 hj hi) (by rw [hj]; exact r3 i hi) (g := mkF m pc Ls (.int j :: .ref a :: rest)) rfl rfl (hb hby hd) t kt) k
theorem g_aaload (X : Stand p l e R s m args below meth c T locs cells slots) (hx : p.tables.exec = Jvm.exec) (hby : c.code = bytes) {Z : State} (hZ : Z.Warmed39 s.vm) {h : Heap} {a : Addr} {n : Nat} {ty : FieldType} {f : Nat → Value} {j : Int32} (eT : T.heap = h) (F : ArF Z h a ty n f) (hty : ty.isReference = true) (hd : decode bytes pc = .ok (.aaload, 1)) (h0 : ¬ j < 0) (i : Nat) (hj : j.toNatClampNeg = i) (hi : i < n) (x : Value) (hfx : f i = x) (q : Nat) (hq : pc + 1 = q) (k : Goes p e below K (T.setTop (mkF m q Ls (x :: rest)))) : Goes p e below K (T.setTop (mkF m pc Ls (.int j :: .ref a :: rest))) := by
  subst hq hfx
  obtain ⟨cl, A, r1, r2, r3⟩ := F
  exact Goes.of (fun t kt => X.aaload hx (by rw [eT]; exact A.1) (State.isArrayOf_alike hZ.alike A.2.1) hty A.2.2 (own_in r1 h0 hj hi) (by rw [hj]; exact r3 i hi) (g := mkF m pc Ls (.int j :: .ref a :: rest)) rfl rfl (hb hby hd) t kt) k
theorem g_iastore (X : Stand p l e R s m args below meth c T locs cells slots) (hx : p.tables.exec = Jvm.exec) (hby : c.code = bytes) {Z : State} (hZ : Z.Warmed39 s.vm) {h : Heap} {a : Addr} {n : Nat} {f : Nat → Int32} {j : Int32} {x : Int32} (eT : T.heap = h) (F : AI Z h a .int n f) (hd : decode bytes pc = .ok (.iastore, 1)) (h0 : ¬ j < 0) (i : Nat) (hj : j.toNatClampNeg = i) (hi : i < n) (q : Nat) (hq : pc + 1 = q)
    (k : ∀ (T' : State) (h' : Heap), Stand p l e R s m args below meth c T' (locs ++ [⟨a, i⟩]) cells slots → T'.heap = h' → Wr h h' a i (.int x) → AI Z h' a .int n (upd f i x) → Goes p e below K (T'.setTop (mkF m q Ls rest))) : Goes p e below K (T.setTop (mkF m pc Ls (.int x :: .int j :: .ref a :: rest))) := by
  subst hq
  have F' := F
  obtain ⟨cl, A, r1, r2, r3⟩ := F'
  obtain ⟨T', h', X', e', W', st⟩ := stI X hx hZ eT A (own_in r1 h0 hj hi) (g := mkF m pc Ls (.int x :: .int j :: .ref a :: rest)) rfl rfl (hb hby hd)
  rw [hj] at X' W'
  exact Goes.of st (k _ _ X' e' W' (AI.set F W'))
theorem g_bastore (X : Stand p l e R s m args below meth c T locs cells slots) (hx : p.tables.exec = Jvm.exec) (hby : c.code = bytes) {Z : State} (hZ : Z.Warmed39 s.vm) {h : Heap} {a : Addr} {n : Nat} {f : Nat → Int32} {j : Int32} {x : Int32} (eT : T.heap = h) (F : AI Z h a .byte n f) (hd : decode bytes pc = .ok (.bastore, 1)) (h0 : ¬ j < 0) (i : Nat) (hj : j.toNatClampNeg = i) (hi : i < n) (y : Int32) (hxy : x.toInt8.toInt32 = y) (q : Nat) (hq : pc + 1 = q)
    (k : ∀ (T' : State) (h' : Heap), Stand p l e R s m args below meth c T' (locs ++ [⟨a, i⟩]) cells slots → T'.heap = h' → Wr h h' a i (.int y) → AI Z h' a .byte n (upd f i y) → Goes p e below K (T'.setTop (mkF m q Ls rest))) : Goes p e below K (T.setTop (mkF m pc Ls (.int x :: .int j :: .ref a :: rest))) := by
  subst hq hxy
  have F' := F
  obtain ⟨cl, A, r1, r2, r3⟩ := F'
  obtain ⟨T', h', X', e', W', st⟩ := stB X hx hZ eT A (own_in r1 h0 hj hi) (g := mkF m pc Ls (.int x :: .int j :: .ref a :: rest)) rfl rfl (hb hby hd)
  rw [hj] at X' W'
  exact Goes.of st (k _ _ X' e' W' (AI.set F W'))
theorem g_lastore (X : Stand p l e R s m args below meth c T locs cells slots) (hx : p.tables.exec = Jvm.exec) (hby : c.code = bytes) {Z : State} (hZ : Z.Warmed39 s.vm) {h : Heap} {a : Addr} {n : Nat} {f : Nat → Int64} {j : Int32} {x : Int64} (eT : T.heap = h) (F : AJ Z h a n f) (hd : decode bytes pc = .ok (.lastore, 1)) (h0 : ¬ j < 0) (i : Nat) (hj : j.toNatClampNeg = i) (hi : i < n) (q : Nat) (hq : pc + 1 = q)
    (k : ∀ (T' : State) (h' : Heap), Stand p l e R s m args below meth c T' (locs ++ [⟨a, i⟩]) cells slots → T'.heap = h' → Wr h h' a i (.long x) → AJ Z h' a n (upd f i x) → Goes p e below K (T'.setTop (mkF m q Ls rest))) : Goes p e below K (T.setTop (mkF m pc Ls (.long x :: .int j :: .ref a :: rest))) := by
  subst hq
  have F' := F
  obtain ⟨cl, A, r1, r2, r3⟩ := F'
  obtain ⟨T', h', X', e', W', st⟩ := stJ X hx hZ eT A (own_in r1 h0 hj hi) (g := mkF m pc Ls (.long x :: .int j :: .ref a :: rest)) rfl rfl (hb hby hd)
  rw [hj] at X' W'
  exact Goes.of st (k _ _ X' e' W' (AJ.set F W'))
def ArO (Z : State) (h : Heap) (a : Addr) (C : String) (n : Nat) (f : Nat → Value) : Prop := ∃ c : Cell, Arr Z h a c (.object C) ∧ c.slots.size = n ∧ n < 2 ^ 31 ∧ (∀ j, j < n → c.slots[j]? = some (f j)) ∧ Ovr Z c.cls C
section ArraysO
variable {Z : State} {h h' : Heap} {a b : Addr} {C : String} {n : Nat} {f : Nat → Value}
theorem ArO.toF (F : ArO Z h a C n f) : ArF Z h a (.object C) n f := by obtain ⟨c, A, r1, r2, r3, -⟩ := F; exact ⟨c, A, r1, r2, r3⟩
theorem ArO.lt (F : ArO Z h a C n f) : a < h.size := F.toF.lt
theorem ArO.ext (F : ArO Z h a C n f) (E : Ext h h') : ArO Z h' a C n f := by obtain ⟨c, A, r⟩ := F; exact ⟨c, A.ext E, r⟩
theorem ArO.other {sl : Nat} {v : Value} (F : ArO Z h b C n f) (W : Wr h h' a sl v) (q : b ≠ a) : ArO Z h' b C n f := by obtain ⟨c, A, r⟩ := F; exact ⟨c, A.other W q, r⟩
theorem ArO.keep {ws : List Addr} (F : ArO Z h a C n f) (K : Keep h h' ws) (q : a ∉ ws) : ArO Z h' a C n f := by obtain ⟨c, A, r⟩ := F; exact ⟨c, ⟨K.2.1 a c A.1 q, A.2⟩, r⟩
theorem ArO.congr {g : Nat → Value} (F : ArO Z h a C n f) (q : ∀ i, i < n → f i = g i) : ArO Z h a C n g := by obtain ⟨c, A, r1, r2, r3, r4⟩ := F; exact ⟨c, A, r1, r2, fun j hj => by rw [r3 j hj, q j hj], r4⟩
theorem ArO.fresh {k : ClassId} {z : Int32} (A : Arr Z h a (newA k (.object C) z) (.object C)) (O : Ovr Z k C) (q : ¬ z < 0) (e : z.toNatClampNeg = n) : ArO Z h a C n (fun _ => .null) := by
  subst e
  refine ⟨_, A, sz_new _ _ _, (back32 q).2, fun j hj => ?_, O⟩
  simp [newA, hj, defaultValue]
theorem ArO.set {j : Nat} {v : Value} (F : ArO Z h a C n f) (W : Wr h h' a j v) : ArO Z h' a C n (upd f j v) := by
  obtain ⟨c, A, r1, r2, r3, r4⟩ := F
  refine ⟨_, A.same W, (sz_set _ _ _).trans r1, r2, fun i hi => ?_, r4⟩
  by_cases q : i = j
  · subst q; rw [upd_hit]; simp [Cell.setSlot, r1, hi]
  · rw [upd_miss _ _ q, ← r3 i hi]
    simp only [Cell.setSlot]
    exact Array.getElem?_setIfInBounds_ne (fun y => q y.symm)
theorem ArO.sto {y : Addr} (F : ArO Z h a C n f) (I : Ins Z h y C true) : Sto Z h a (.ref y) := by obtain ⟨c, A, -, -, -, O⟩ := F; exact Sto.of A O I
end ArraysO
theorem g_anewarray (X : Stand p l e R s m args below meth c T locs cells slots) (hx : p.tables.exec = Jvm.exec) (hby : c.code = bytes) {Z : State} {a0 : Array Value} (hZ : Z.Warmed39 s.vm) {own C : String} {index : Nat} {h : Heap} {z : Int32} (hown : s.vm.findClass own = some m.cls) (w1 : (Jvm.Cond.classLink own index C).before a0 Z = true) (w2 : (Jvm.Cond.arrayOver (.object C)).before a0 Z = true) (eT : T.heap = h) (hd : decode bytes pc = .ok (.anewarray index, 3)) (hz : ¬ z < 0) (n : Nat) (hn : z.toNatClampNeg = n) (cap : Nat) (hcap : n ≤ cap) (hbig : cap * 8 ≤ 536870912) (hc : cells + 1 ≤ R.cells) (hl : slots + cap ≤ R.slots) (q : Nat) (hq : pc + 3 = q)
    (k : ∀ (T' : State) (h' : Heap) (a : Addr), a = h.size → Stand p l e R s m args below meth c T' locs (cells + 1) (slots + cap) → T'.heap = h' → Ext h h' → ArO Z h' a C n (fun _ => .null) → Goes p e below K (T'.setTop (mkF m q Ls (.ref a :: rest)))) : Goes p e below K (T.setTop (mkF m pc Ls (.int z :: rest))) := by
  subst hq
  obtain ⟨T', h', cA, X', e', E', A', O', st⟩ := newR X hx hZ hown w1 w2 eT (g := mkF m pc Ls (.int z :: rest)) rfl (hb hby hd) rfl hz (cap := cap) (by rw [hn]; exact hcap) hbig hc hl
  exact Goes.of st (k _ _ _ rfl X' e' E' (ArO.fresh A' O' hz hn))
theorem g_aastore (X : Stand p l e R s m args below meth c T locs cells slots) (hx : p.tables.exec = Jvm.exec) (hby : c.code = bytes) {Z : State} (hZ : Z.Warmed39 s.vm) {h : Heap} {a : Addr} {n : Nat} {C : String} {f : Nat → Value} {j : Int32} {x : Value} (eT : T.heap = h) (F : ArO Z h a C n f) (S : Sto Z h a x) (hd : decode bytes pc = .ok (.aastore, 1)) (h0 : ¬ j < 0) (i : Nat) (hj : j.toNatClampNeg = i) (hi : i < n) (q : Nat) (hq : pc + 1 = q)
    (k : ∀ (T' : State) (h' : Heap), Stand p l e R s m args below meth c T' (locs ++ [⟨a, i⟩]) cells slots → T'.heap = h' → Wr h h' a i x → ArO Z h' a C n (upd f i x) → Goes p e below K (T'.setTop (mkF m q Ls rest))) : Goes p e below K (T.setTop (mkF m pc Ls (x :: .int j :: .ref a :: rest))) := by
  subst hq
  have F' := F
  obtain ⟨cl, A, r1, r2, r3, r4⟩ := F'
  obtain ⟨T', h', X', e', W', st⟩ := stR X hx hZ eT A (own_in r1 h0 hj hi) rfl S (g := mkF m pc Ls (x :: .int j :: .ref a :: rest)) rfl rfl (hb hby hd)
  rw [hj] at X' W'
  exact Goes.of st (k _ _ X' e' W' (ArO.set F W'))
theorem g_checkcast (X : Stand p l e R s m args below meth c T locs cells slots) (hx : p.tables.exec = Jvm.exec) (hby : c.code = bytes) {Z : State} {a0 : Array Value} (hZ : Z.Warmed39 s.vm) {own C : String} {index : Nat} {h : Heap} {a : Addr} (hown : s.vm.findClass own = some m.cls) (w : (Jvm.Cond.classLink own index C).before a0 Z = true) (eT : T.heap = h) (I : Ins Z h a C true) (hd : decode bytes pc = .ok (.checkcast index, 3)) (q : Nat) (hq : pc + 3 = q)
    (k : ∀ T' : State, Stand p l e R s m args below meth c T' locs cells slots → T'.heap = h → Goes p e below K (T'.setTop (mkF m q Ls (.ref a :: rest)))) : Goes p e below K (T.setTop (mkF m pc Ls (.ref a :: rest))) := by
  subst hq
  obtain ⟨T', X', e', st⟩ := castY X hx hZ hown w eT I (g := mkF m pc Ls (.ref a :: rest)) rfl rfl (hb hby hd)
  exact Goes.of st (k _ X' e')
theorem g_getstatic (X : Stand p l e R s m args below meth c T locs cells slots) (hx : p.tables.exec = Jvm.exec) (hby : c.code = bytes) {Z : State} {a0 : Array Value} (hZ : Z.Warmed39 s.vm) {own R0 O n d host : String} {index : Nat} {h : Heap} {v : Value} (hown : s.vm.findClass own = some m.cls) (w : (Jvm.Cond.fieldLink own index R0 n d).before a0 Z = true ∨ (Jvm.Cond.fieldLinkNest own index R0 n d host).before a0 Z = true) (via : Via Z R0 O n d) (eT : T.heap = h) (F : Sta Z h O n d v) (hd : decode bytes pc = .ok (.getstatic index, 3)) (q : Nat) (hq : pc + 3 = q)
    (k : ∀ T' : State, Stand p l e R s m args below meth c T' locs cells slots → T'.heap = h → Goes p e below K (T'.setTop (mkF m q Ls (v :: rest)))) : Goes p e below K (T.setTop (mkF m pc Ls rest)) := by
  subst hq
  obtain ⟨T', X', e', st⟩ := getS2 X hx hZ hown w via eT F (g := mkF m pc Ls rest) rfl (hb hby hd)
  exact Goes.of st (k _ X' e')
theorem own_fm {r n d : String} (h1 : r ≠ "java/lang/invoke/MethodHandle") (h2 : r ≠ "java/lang/invoke/VarHandle") : ((Jvm.Cond.interfaceMethod r r n d).onTables && (Jvm.Cond.interfaceMethod r r n d).keepsFace) = true := by
  have e : ((Jvm.Cond.interfaceMethod r r n d).onTables && (Jvm.Cond.interfaceMethod r r n d).keepsFace) = (r == r && r != "java/lang/invoke/MethodHandle" && r != "java/lang/invoke/VarHandle") := rfl
  rw [e]; simp [h1, h2]
theorem g_interface (X : Stand p l e R s m args below meth c T locs cells slots) (hx : p.tables.exec = Jvm.exec) (hby : c.code = bytes) {Z : State} {a0 : Array Value} (hZ : Z.Warmed39 s.vm) {own : String} {index : Nat} {y : MethodName} {cb : ByteArray} {maxL : Nat} {ret : Option FieldType} {rm : Room} {Q : Option Value → Heap → List Loc → Prop} {h : Heap} {z : MethodName} {C : String} {count : Nat} (hown : s.vm.findClass own = some m.cls) (w1 : (Jvm.Cond.methodLink own index y).before a0 Z = true) (w2 : (Jvm.Cond.declares y).before a0 Z = true) (w7 : (Jvm.Cond.interfaceMethod y.cls y.cls y.name y.desc).before a0 Z = true) (w5 : (Jvm.Cond.selects C y z).before a0 Z = true) (w6 : (Jvm.Cond.instanceMethod z).before a0 Z = true) (w8 : (Jvm.Cond.publicMethod z).before a0 Z = true) (w9 : (Jvm.Cond.unhidden C y.name y.desc).before a0 Z = true) (w10 : (Jvm.Cond.castable C y.cls).before a0 Z = true) (w3 : (Jvm.Cond.initialized z.cls).before a0 Z = true) (w4 : (Jvm.Cond.code z cb maxL ret).before a0 Z = true)
    (hd : decode bytes pc = .ok (.invokeinterface index count, 5)) (a : Addr) (E : Exa Z h a C) (argsL rest : List Value) {st : List Value} (hM : Ctr l z cb maxL ret [] rm (.ref a :: argsL).toArray Z h Q) (eT : T.heap = h) (hst : st = argsL.reverse ++ .ref a :: rest) (hsz : Ls.size = c.maxLocals) {ps : List FieldType} {rt : Option FieldType} (hpd : parseMethodDescriptor y.desc = some ⟨ps, rt⟩) (hlen : argsL.length = ps.length)
    (hy : y.cls ≠ "java/lang/invoke/MethodHandle" ∧ y.cls ≠ "java/lang/invoke/VarHandle") (W : Nat) (hW : (rest.map fun v => v.category).sum ≤ W) (hf : rm.frames + 1 ≤ R.frames) (hl : W + (maxL + 11) + rm.locals ≤ R.locals) (hc : cells + rm.cells ≤ R.cells) (hs : slots + rm.slots ≤ R.slots) (q : Nat) (hq : pc + 5 = q)
    (k : ∀ (T' : State) (v : Option Value) (L : List Loc), Stand p l e R s m args below meth c T' (locs ++ L) (cells + rm.cells) (slots + rm.slots) → Q v T'.heap L → Goes p e below K (T'.setTop (mkF m q Ls (v.toList ++ rest)))) : Goes p e below K (T.setTop (mkF m pc Ls st)) := by
  subst hq hst
  obtain ⟨cq, kq, qa, qb, qc⟩ := isOf hZ eT E
  obtain ⟨v, _, ⟨T', L', k', n'⟩, -, X', ⟨Lc, hQ, l1, y1, z1⟩, st⟩ := X.interfaceBack hx (xi := y) (y := z) hown (mvT hZ w1) (mvT hZ w2) (mvT hZ w7 (own_fm hy.1 hy.2)) (mvT hZ w5) (mvT hZ w6) (mvT hZ w8) (mvT hZ w9) (mvT hZ w10) hy (backOf (W := W) hM hZ w4 w3 hf hl) qa qb qc (g := mkF m pc Ls (argsL.reverse ++ .ref a :: rest)) rfl hsz (Steps.refl _) (argsL := argsL) (rest := rest) (lenOf hpd hlen) rfl (by show 2 * 0 + _ ≤ _; omega) (hb hby hd) (fun _ _ => ⟨rfl, eT, hc, hs⟩)
  dsimp only [Pt.U, Pt.locs, Pt.cells, Pt.slots] at X' l1 y1 z1 st hQ
  subst l1 y1 z1
  exact Goes.of (fun t kt => st.trans kt) (k _ _ _ X' hQ)
end OwnKit
theorem byte2 (x : Int32) : x.toInt8.toInt32.toInt8.toInt32 = x.toInt8.toInt32 := by simp
theorem own_ite01 {P : Prop} [Decidable P] : (if P then (1 : Int32) else 0) = 0 ∨ (if P then (1 : Int32) else 0) = 1 := by by_cases h : P <;> simp [h]
theorem pd1 : parseMethodDescriptor "(JJ)V" = some ⟨[.long, .long], none⟩ := by decide +kernel
theorem pd2 : parseMethodDescriptor "(J)V" = some ⟨[.long], none⟩ := by decide +kernel
theorem pd3 : parseMethodDescriptor "(J)J" = some ⟨[.long], some .long⟩ := by decide +kernel
theorem pd4 : parseMethodDescriptor "()J" = some ⟨[], some .long⟩ := by decide +kernel
def maxJ (aa : Int64) (bb : Int64) : Int64 := if aa < bb then (bb) else (aa)
theorem d1_0 : decode jdk_29_method_66_code 0 = .ok (.lload_n 0, 1) := by decide +kernel
theorem d1_1 : decode jdk_29_method_66_code 1 = .ok (.lload_n 2, 1) := by decide +kernel
theorem d1_2 : decode jdk_29_method_66_code 2 = .ok (.lcmp, 1) := by decide +kernel
theorem d1_3 : decode jdk_29_method_66_code 3 = .ok (.ifCond .lt 7, 3) := by decide +kernel
theorem d1_6 : decode jdk_29_method_66_code 6 = .ok (.lload_n 0, 1) := by decide +kernel
theorem d1_7 : decode jdk_29_method_66_code 7 = .ok (.goto 4, 3) := by decide +kernel
theorem d1_10 : decode jdk_29_method_66_code 10 = .ok (.lload_n 2, 1) := by decide +kernel
theorem d1_11 : decode jdk_29_method_66_code 11 = .ok (.lreturn, 1) := by decide +kernel
theorem pn1 : plainFor (⟨"java/lang/Math", "max", "(JJ)J"⟩ : MethodName) = true := Jvm.Free.JP.mathPlain rfl (by decide +kernel)
theorem ef1 (m : MethodId) (aa : Int64) (bb : Int64) : entryFrame m #[(.long aa), (.long bb)] 4 = mkF m 0 #[.val (.long aa), .second, .val (.long bb), .second] [] := by first | (simp [entryFrame, mkF, argsToLocals, Value.category]; done) | rfl
def Q1 (aa : Int64) (bb : Int64) (Z : State) (h0 : Heap) (n0 : Nat) (v : Option Value) (h : Heap) (L : List Loc) : Prop := v = some (.long (maxJ aa bb)) ∧ Fr n0 L ∧ h = h0
set_option maxRecDepth 65536 in
set_option maxHeartbeats 40000000 in
theorem rm1 (l : Launch) (Z : State) (a0 : Array Value) (hw : ∀ d ∈ tables_1, d.before a0 Z = true) (ws : List Jvm.Cond) (aa : Int64) (bb : Int64) (h0 : Heap) (n0 : Nat) (Z0 : n0 ≤ h0.size) : Ctr l (⟨"java/lang/Math", "max", "(JJ)J"⟩ : MethodName) jdk_29_method_66_code 4 (some .long) ws ({ frames := 0, cells := 0, slots := 0, locals := 0 } : Room) #[(.long aa), (.long bb)] Z h0 (Q1 aa bb Z h0 n0) := by
  refine own_body pn1 ?_
  intro p e s m below meth c T0 hx hby hml hown hnm hret hlk hZ X0 e0
  have N0 := Fr.nil n0
  refine Goes.entry (ef1 m aa bb) ?_
  refine g_lloadN X0 hx hby d1_0 rfl 1 rfl ?_
  refine g_lloadN X0 hx hby d1_1 rfl 2 rfl ?_
  refine g_lcmp_lt X0 hx hby d1_2 d1_3 10 6 rfl (by decide) (by decide) rfl (fun c1 => ?_) (fun c1 => ?_)
  · -- c1
    refine g_lloadN X0 hx hby d1_10 rfl 11 rfl ?_
    exact g_lreturn X0 hx hby hret hlk d1_11 (by exact ⟨congrArg (fun z => some (Value.long z)) (if_pos c1).symm, N0, e0⟩) (by decide) (by decide)
  · -- not c1
    refine g_lloadN X0 hx hby d1_6 rfl 7 rfl ?_
    refine g_goto X0 hx hby d1_7 11 (by decide) (by decide) ?_
    exact g_lreturn X0 hx hby hret hlk d1_11 (by exact ⟨congrArg (fun z => some (Value.long z)) (if_neg c1).symm, N0, e0⟩) (by decide) (by decide)
theorem d2_0 : decode prog_43_method_1_code 0 = .ok (.aload_n 0, 1) := by decide +kernel
theorem d2_1 : decode prog_43_method_1_code 1 = .ok (.invokespecial 1, 3) := by decide +kernel
theorem d2_4 : decode prog_43_method_1_code 4 = .ok (.aload_n 0, 1) := by decide +kernel
theorem d2_5 : decode prog_43_method_1_code 5 = .ok (.lload_n 1, 1) := by decide +kernel
theorem d2_6 : decode prog_43_method_1_code 6 = .ok (.putfield 7, 3) := by decide +kernel
theorem d2_9 : decode prog_43_method_1_code 9 = .ok (.aload_n 0, 1) := by decide +kernel
theorem d2_10 : decode prog_43_method_1_code 10 = .ok (.lload_n 3, 1) := by decide +kernel
theorem d2_11 : decode prog_43_method_1_code 11 = .ok (.lload_n 1, 1) := by decide +kernel
theorem d2_12 : decode prog_43_method_1_code 12 = .ok (.lsub, 1) := by decide +kernel
theorem d2_13 : decode prog_43_method_1_code 13 = .ok (.putfield 13, 3) := by decide +kernel
theorem d2_16 : decode prog_43_method_1_code 16 = .ok (.aload_n 0, 1) := by decide +kernel
theorem d2_17 : decode prog_43_method_1_code 17 = .ok (.lload_n 3, 1) := by decide +kernel
theorem d2_18 : decode prog_43_method_1_code 18 = .ok (.putfield 16, 3) := by decide +kernel
theorem d2_21 : decode prog_43_method_1_code 21 = .ok (.return_, 1) := by decide +kernel
theorem pn2 : plainFor (⟨"com/example/postlatch/postlatch/WalkStarts", "<init>", "(JJ)V"⟩ : MethodName) = true := plainFor_of_name (by first | (simp [plainName, overriddenIn]; done) | decide +kernel)
theorem ef2 (m : MethodId) (o : Addr) (iv : Int64) (tt : Int64) : entryFrame m #[(.ref o), (.long iv), (.long tt)] 5 = mkF m 0 #[.val (.ref o), .val (.long iv), .second, .val (.long tt), .second] [] := by first | (simp [entryFrame, mkF, argsToLocals, Value.category]; done) | rfl
def Q2 (o : Addr) (iv : Int64) (tt : Int64) (Z : State) (h0 : Heap) (n0 : Nat) (v : Option Value) (h : Heap) (L : List Loc) : Prop := v = none ∧ Fr n0 L ∧ Keep h0 h [o] ∧ Exa Z h o "com/example/postlatch/postlatch/WalkStarts" ∧ Fld Z h o "com/example/postlatch/postlatch/WalkStarts" "intervalNanos" "J" (.long iv) ∧ Fld Z h o "com/example/postlatch/postlatch/WalkStarts" "lowestAt" "J" (.long (tt - iv)) ∧ Fld Z h o "com/example/postlatch/postlatch/WalkStarts" "sampledAt" "J" (.long tt) ∧ Fld Z h o "com/example/postlatch/postlatch/WalkStarts" "newest" "J" (.long (0 : Int64)) ∧ Fld Z h o "com/example/postlatch/postlatch/WalkStarts" "floor" "J" (.long (0 : Int64)) ∧ Fld Z h o "com/example/postlatch/postlatch/WalkStarts" "sample" "J" (.long (0 : Int64))
set_option maxRecDepth 65536 in
set_option maxHeartbeats 40000000 in
theorem rm2 (l : Launch) (Z : State) (a0 : Array Value) (hw : ∀ d ∈ tables_1, d.before a0 Z = true) (ws : List Jvm.Cond) (o : Addr) (iv : Int64) (tt : Int64) (h0 : Heap) (n0 : Nat) (Z0 : n0 ≤ h0.size) (E_o_0 : Exa Z h0 o "com/example/postlatch/postlatch/WalkStarts") (F_o_intervalNanos_0 : Fld Z h0 o "com/example/postlatch/postlatch/WalkStarts" "intervalNanos" "J" (.long (0 : Int64))) (F_o_lowestAt_0 : Fld Z h0 o "com/example/postlatch/postlatch/WalkStarts" "lowestAt" "J" (.long (0 : Int64))) (F_o_sampledAt_0 : Fld Z h0 o "com/example/postlatch/postlatch/WalkStarts" "sampledAt" "J" (.long (0 : Int64))) (F_o_newest_0 : Fld Z h0 o "com/example/postlatch/postlatch/WalkStarts" "newest" "J" (.long (0 : Int64))) (F_o_floor_0 : Fld Z h0 o "com/example/postlatch/postlatch/WalkStarts" "floor" "J" (.long (0 : Int64))) (F_o_sample_0 : Fld Z h0 o "com/example/postlatch/postlatch/WalkStarts" "sample" "J" (.long (0 : Int64))) (gn_o : n0 ≤ o) : Ctr l (⟨"com/example/postlatch/postlatch/WalkStarts", "<init>", "(JJ)V"⟩ : MethodName) prog_43_method_1_code 5 none ws ({ frames := 1, cells := 0, slots := 0, locals := 12 } : Room) #[(.ref o), (.long iv), (.long tt)] Z h0 (Q2 o iv tt Z h0 n0) := by
  refine own_body pn2 ?_
  intro p e s m below meth c T0 hx hby hml hown hnm hret hlk hZ X0 e0
  have N0 := Fr.nil n0
  have K0 : Keep h0 h0 [o] := Keep.refl _ _
  refine Goes.entry (ef2 m o iv tt) ?_
  refine g_aloadN X0 hx hby d2_0 rfl rfl 1 rfl ?_
  refine g_initO X0 hx hby hZ hown (hw _ (List.mem_of_getElem? (i := 13) rfl)) (hw _ (List.mem_of_getElem? (i := 14) rfl)) (hw _ (List.mem_of_getElem? (i := 15) rfl)) d2_1 e0 (by rw [hml]; rfl) 0 (Nat.le_of_eq rfl) (by decide) (by decide) 4 rfl ?_
  intro T1 X1 e1
  refine g_aloadN X1 hx hby d2_4 rfl rfl 5 rfl ?_
  refine g_lloadN X1 hx hby d2_5 rfl 6 rfl ?_
  refine g_putfield X1 hx hby hZ hown (host := "") (Or.inl (hw _ (List.mem_of_getElem? (i := 16) rfl))) Via.refl e1 F_o_intervalNanos_0 E_o_0 (Or.inr ⟨(hw _ (List.mem_of_getElem? (i := 17) rfl)), rfl, hnm⟩) (hw _ (List.mem_of_getElem? (i := 8) rfl)) (ty := .long) (by decide) rfl rfl d2_6 9 rfl ?_
  intro T2 h2 X2 e2 W2
  have N2 := Fr.snoc X2 N0 gn_o
  have K2 := K0.wr W2 (Or.inl (List.mem_of_getElem? (i := 0) rfl))
  have Z2 : n0 ≤ h2.size := Nat.le_trans Z0 (Keep.of_wr W2).1
  have E_o_2 := E_o_0.wr W2
  have F_o_intervalNanos_2 := F_o_intervalNanos_0.same W2
  have F_o_lowestAt_2 := F_o_lowestAt_0.other W2 (Or.inr (slot_ne (Or.inl (hw _ (List.mem_of_getElem? (i := 19) rfl))) (Or.inr (hw _ (List.mem_of_getElem? (i := 17) rfl))) (by decide) (t := .long) (t' := .long) (by decide) (by decide)))
  have F_o_sampledAt_2 := F_o_sampledAt_0.other W2 (Or.inr (slot_ne (Or.inl (hw _ (List.mem_of_getElem? (i := 21) rfl))) (Or.inr (hw _ (List.mem_of_getElem? (i := 17) rfl))) (by decide) (t := .long) (t' := .long) (by decide) (by decide)))
  have F_o_newest_2 := F_o_newest_0.other W2 (Or.inr (slot_ne (Or.inl (hw _ (List.mem_of_getElem? (i := 28) rfl))) (Or.inr (hw _ (List.mem_of_getElem? (i := 17) rfl))) (by decide) (t := .long) (t' := .long) (by decide) (by decide)))
  have F_o_floor_2 := F_o_floor_0.other W2 (Or.inr (slot_ne (Or.inl (hw _ (List.mem_of_getElem? (i := 36) rfl))) (Or.inr (hw _ (List.mem_of_getElem? (i := 17) rfl))) (by decide) (t := .long) (t' := .long) (by decide) (by decide)))
  have F_o_sample_2 := F_o_sample_0.other W2 (Or.inr (slot_ne (Or.inl (hw _ (List.mem_of_getElem? (i := 38) rfl))) (Or.inr (hw _ (List.mem_of_getElem? (i := 17) rfl))) (by decide) (t := .long) (t' := .long) (by decide) (by decide)))
  refine g_aloadN X2 hx hby d2_9 rfl rfl 10 rfl ?_
  refine g_lloadN X2 hx hby d2_10 rfl 11 rfl ?_
  refine g_lloadN X2 hx hby d2_11 rfl 12 rfl ?_
  refine g_lsub X2 hx hby d2_12 13 rfl ?_
  refine g_putfield X2 hx hby hZ hown (host := "") (Or.inl (hw _ (List.mem_of_getElem? (i := 18) rfl))) Via.refl e2 F_o_lowestAt_2 E_o_2 (Or.inl (hw _ (List.mem_of_getElem? (i := 19) rfl))) (hw _ (List.mem_of_getElem? (i := 8) rfl)) (ty := .long) (by decide) rfl rfl d2_13 16 rfl ?_
  intro T3 h3 X3 e3 W3
  have N3 := Fr.snoc X3 N2 gn_o
  have K3 := K2.wr W3 (Or.inl (List.mem_of_getElem? (i := 0) rfl))
  have Z3 : n0 ≤ h3.size := Nat.le_trans Z2 (Keep.of_wr W3).1
  have E_o_3 := E_o_2.wr W3
  have F_o_intervalNanos_3 := F_o_intervalNanos_2.other W3 (Or.inr (slot_ne (Or.inr (hw _ (List.mem_of_getElem? (i := 17) rfl))) (Or.inl (hw _ (List.mem_of_getElem? (i := 19) rfl))) (by decide) (t := .long) (t' := .long) (by decide) (by decide)))
  have F_o_lowestAt_3 := F_o_lowestAt_2.same W3
  have F_o_sampledAt_3 := F_o_sampledAt_2.other W3 (Or.inr (slot_ne (Or.inl (hw _ (List.mem_of_getElem? (i := 21) rfl))) (Or.inl (hw _ (List.mem_of_getElem? (i := 19) rfl))) (by decide) (t := .long) (t' := .long) (by decide) (by decide)))
  have F_o_newest_3 := F_o_newest_2.other W3 (Or.inr (slot_ne (Or.inl (hw _ (List.mem_of_getElem? (i := 28) rfl))) (Or.inl (hw _ (List.mem_of_getElem? (i := 19) rfl))) (by decide) (t := .long) (t' := .long) (by decide) (by decide)))
  have F_o_floor_3 := F_o_floor_2.other W3 (Or.inr (slot_ne (Or.inl (hw _ (List.mem_of_getElem? (i := 36) rfl))) (Or.inl (hw _ (List.mem_of_getElem? (i := 19) rfl))) (by decide) (t := .long) (t' := .long) (by decide) (by decide)))
  have F_o_sample_3 := F_o_sample_2.other W3 (Or.inr (slot_ne (Or.inl (hw _ (List.mem_of_getElem? (i := 38) rfl))) (Or.inl (hw _ (List.mem_of_getElem? (i := 19) rfl))) (by decide) (t := .long) (t' := .long) (by decide) (by decide)))
  refine g_aloadN X3 hx hby d2_16 rfl rfl 17 rfl ?_
  refine g_lloadN X3 hx hby d2_17 rfl 18 rfl ?_
  refine g_putfield X3 hx hby hZ hown (host := "") (Or.inl (hw _ (List.mem_of_getElem? (i := 20) rfl))) Via.refl e3 F_o_sampledAt_3 E_o_3 (Or.inl (hw _ (List.mem_of_getElem? (i := 21) rfl))) (hw _ (List.mem_of_getElem? (i := 8) rfl)) (ty := .long) (by decide) rfl rfl d2_18 21 rfl ?_
  intro T4 h4 X4 e4 W4
  have N4 := Fr.snoc X4 N3 gn_o
  have K4 := K3.wr W4 (Or.inl (List.mem_of_getElem? (i := 0) rfl))
  have Z4 : n0 ≤ h4.size := Nat.le_trans Z3 (Keep.of_wr W4).1
  have E_o_4 := E_o_3.wr W4
  have F_o_intervalNanos_4 := F_o_intervalNanos_3.other W4 (Or.inr (slot_ne (Or.inr (hw _ (List.mem_of_getElem? (i := 17) rfl))) (Or.inl (hw _ (List.mem_of_getElem? (i := 21) rfl))) (by decide) (t := .long) (t' := .long) (by decide) (by decide)))
  have F_o_lowestAt_4 := F_o_lowestAt_3.other W4 (Or.inr (slot_ne (Or.inl (hw _ (List.mem_of_getElem? (i := 19) rfl))) (Or.inl (hw _ (List.mem_of_getElem? (i := 21) rfl))) (by decide) (t := .long) (t' := .long) (by decide) (by decide)))
  have F_o_sampledAt_4 := F_o_sampledAt_3.same W4
  have F_o_newest_4 := F_o_newest_3.other W4 (Or.inr (slot_ne (Or.inl (hw _ (List.mem_of_getElem? (i := 28) rfl))) (Or.inl (hw _ (List.mem_of_getElem? (i := 21) rfl))) (by decide) (t := .long) (t' := .long) (by decide) (by decide)))
  have F_o_floor_4 := F_o_floor_3.other W4 (Or.inr (slot_ne (Or.inl (hw _ (List.mem_of_getElem? (i := 36) rfl))) (Or.inl (hw _ (List.mem_of_getElem? (i := 21) rfl))) (by decide) (t := .long) (t' := .long) (by decide) (by decide)))
  have F_o_sample_4 := F_o_sample_3.other W4 (Or.inr (slot_ne (Or.inl (hw _ (List.mem_of_getElem? (i := 38) rfl))) (Or.inl (hw _ (List.mem_of_getElem? (i := 21) rfl))) (by decide) (t := .long) (t' := .long) (by decide) (by decide)))
  exact g_return X4 hx hby hret hlk d2_21 (by rw [e4]; exact ⟨rfl, N4, K4, E_o_4, F_o_intervalNanos_4, F_o_lowestAt_4, F_o_sampledAt_4, F_o_newest_4, F_o_floor_4, F_o_sample_4⟩) (by decide) (by decide)
theorem pd0 : parseMethodDescriptor "(JJ)J" = some ⟨[.long, .long], some .long⟩ := by decide +kernel
theorem d4_0 : decode prog_43_method_2_code 0 = .ok (.aload_n 0, 1) := by decide +kernel
theorem d4_1 : decode prog_43_method_2_code 1 = .ok (.aload_n 0, 1) := by decide +kernel
theorem d4_2 : decode prog_43_method_2_code 2 = .ok (.getfield 19, 3) := by decide +kernel
theorem d4_5 : decode prog_43_method_2_code 5 = .ok (.lload_n 1, 1) := by decide +kernel
theorem d4_6 : decode prog_43_method_2_code 6 = .ok (.invokestatic 22, 3) := by decide +kernel
theorem d4_9 : decode prog_43_method_2_code 9 = .ok (.putfield 19, 3) := by decide +kernel
theorem d4_12 : decode prog_43_method_2_code 12 = .ok (.return_, 1) := by decide +kernel
theorem pn4 : plainFor (⟨"com/example/postlatch/postlatch/WalkStarts", "seen", "(J)V"⟩ : MethodName) = true := plainFor_of_name (by first | (simp [plainName, overriddenIn]; done) | decide +kernel)
theorem ef4 (m : MethodId) (o : Addr) (aa : Int64) (iv : Int64) (lo : Int64) (sa : Int64) (nw : Int64) (fl : Int64) (sm : Int64) : entryFrame m #[(.ref o), (.long aa)] 3 = mkF m 0 #[.val (.ref o), .val (.long aa), .second] [] := by first | (simp [entryFrame, mkF, argsToLocals, Value.category]; done) | rfl
def Q4 (o : Addr) (aa : Int64) (iv : Int64) (lo : Int64) (sa : Int64) (nw : Int64) (fl : Int64) (sm : Int64) (Z : State) (h0 : Heap) (n0 : Nat) (v : Option Value) (h : Heap) (L : List Loc) : Prop := v = none ∧ Fr n0 L ∧ Keep h0 h [o] ∧ Exa Z h o "com/example/postlatch/postlatch/WalkStarts" ∧ Fld Z h o "com/example/postlatch/postlatch/WalkStarts" "intervalNanos" "J" (.long iv) ∧ Fld Z h o "com/example/postlatch/postlatch/WalkStarts" "lowestAt" "J" (.long lo) ∧ Fld Z h o "com/example/postlatch/postlatch/WalkStarts" "sampledAt" "J" (.long sa) ∧ Fld Z h o "com/example/postlatch/postlatch/WalkStarts" "newest" "J" (.long (maxJ nw aa)) ∧ Fld Z h o "com/example/postlatch/postlatch/WalkStarts" "floor" "J" (.long fl) ∧ Fld Z h o "com/example/postlatch/postlatch/WalkStarts" "sample" "J" (.long sm)
set_option maxRecDepth 65536 in
set_option maxHeartbeats 40000000 in
theorem rm4 (l : Launch) (Z : State) (a0 : Array Value) (hw : ∀ d ∈ tables_1, d.before a0 Z = true) (ws : List Jvm.Cond) (o : Addr) (aa : Int64) (iv : Int64) (lo : Int64) (sa : Int64) (nw : Int64) (fl : Int64) (sm : Int64) (h0 : Heap) (n0 : Nat) (Z0 : n0 ≤ h0.size) (E_o_0 : Exa Z h0 o "com/example/postlatch/postlatch/WalkStarts") (F_o_intervalNanos_0 : Fld Z h0 o "com/example/postlatch/postlatch/WalkStarts" "intervalNanos" "J" (.long iv)) (F_o_lowestAt_0 : Fld Z h0 o "com/example/postlatch/postlatch/WalkStarts" "lowestAt" "J" (.long lo)) (F_o_sampledAt_0 : Fld Z h0 o "com/example/postlatch/postlatch/WalkStarts" "sampledAt" "J" (.long sa)) (F_o_newest_0 : Fld Z h0 o "com/example/postlatch/postlatch/WalkStarts" "newest" "J" (.long nw)) (F_o_floor_0 : Fld Z h0 o "com/example/postlatch/postlatch/WalkStarts" "floor" "J" (.long fl)) (F_o_sample_0 : Fld Z h0 o "com/example/postlatch/postlatch/WalkStarts" "sample" "J" (.long sm)) (gn_o : n0 ≤ o) : Ctr l (⟨"com/example/postlatch/postlatch/WalkStarts", "seen", "(J)V"⟩ : MethodName) prog_43_method_2_code 3 none ws ({ frames := 1, cells := 0, slots := 0, locals := 16 } : Room) #[(.ref o), (.long aa)] Z h0 (Q4 o aa iv lo sa nw fl sm Z h0 n0) := by
  refine own_body pn4 ?_
  intro p e s m below meth c T0 hx hby hml hown hnm hret hlk hZ X0 e0
  have N0 := Fr.nil n0
  have K0 : Keep h0 h0 [o] := Keep.refl _ _
  refine Goes.entry (ef4 m o aa iv lo sa nw fl sm) ?_
  refine g_aloadN X0 hx hby d4_0 rfl rfl 1 rfl ?_
  refine g_aloadN X0 hx hby d4_1 rfl rfl 2 rfl ?_
  refine g_getfield X0 hx hby hZ hown (host := "") (Or.inl (hw _ (List.mem_of_getElem? (i := 27) rfl))) Via.refl e0 F_o_newest_0 d4_2 5 rfl ?_
  intro T1 X1 e1
  refine g_lloadN X1 hx hby d4_5 rfl 6 rfl ?_
  refine g_callS X1 hx hby hZ hown (hw _ (List.mem_of_getElem? (i := 29) rfl)) (hw _ (List.mem_of_getElem? (i := 4) rfl)) (hw _ (List.mem_of_getElem? (i := 5) rfl)) (hw _ (List.mem_of_getElem? (i := 6) rfl)) d4_6 [(.long nw), (.long aa)] [(.ref o)] (rm1 l Z a0 hw [] nw aa h0 n0 Z0) e1 rfl (by rw [hml]; rfl) pd0 rfl (by decide) 1 (Nat.le_of_eq rfl) (by decide) (by decide) (by decide) (by decide) 9 rfl ?_
  intro T2 v2 L2 X2 Q2
  obtain ⟨rfl, N2', e2⟩ := Q2
  have N2 := Fr.app N0 N2'
  show Goes p e below _ (T2.setTop (mkF m 9 _ [(.long (maxJ nw aa)), (.ref o)]))
  refine g_putfield X2 hx hby hZ hown (host := "") (Or.inl (hw _ (List.mem_of_getElem? (i := 27) rfl))) Via.refl e2 F_o_newest_0 E_o_0 (Or.inl (hw _ (List.mem_of_getElem? (i := 28) rfl))) (hw _ (List.mem_of_getElem? (i := 8) rfl)) (ty := .long) (by decide) rfl rfl d4_9 12 rfl ?_
  intro T3 h3 X3 e3 W3
  have N3 := Fr.snoc X3 N2 gn_o
  have K3 := K0.wr W3 (Or.inl (List.mem_of_getElem? (i := 0) rfl))
  have Z3 : n0 ≤ h3.size := Nat.le_trans Z0 (Keep.of_wr W3).1
  have E_o_3 := E_o_0.wr W3
  have F_o_intervalNanos_3 := F_o_intervalNanos_0.other W3 (Or.inr (slot_ne (Or.inr (hw _ (List.mem_of_getElem? (i := 17) rfl))) (Or.inl (hw _ (List.mem_of_getElem? (i := 28) rfl))) (by decide) (t := .long) (t' := .long) (by decide) (by decide)))
  have F_o_lowestAt_3 := F_o_lowestAt_0.other W3 (Or.inr (slot_ne (Or.inl (hw _ (List.mem_of_getElem? (i := 19) rfl))) (Or.inl (hw _ (List.mem_of_getElem? (i := 28) rfl))) (by decide) (t := .long) (t' := .long) (by decide) (by decide)))
  have F_o_sampledAt_3 := F_o_sampledAt_0.other W3 (Or.inr (slot_ne (Or.inl (hw _ (List.mem_of_getElem? (i := 21) rfl))) (Or.inl (hw _ (List.mem_of_getElem? (i := 28) rfl))) (by decide) (t := .long) (t' := .long) (by decide) (by decide)))
  have F_o_newest_3 := F_o_newest_0.same W3
  have F_o_floor_3 := F_o_floor_0.other W3 (Or.inr (slot_ne (Or.inl (hw _ (List.mem_of_getElem? (i := 36) rfl))) (Or.inl (hw _ (List.mem_of_getElem? (i := 28) rfl))) (by decide) (t := .long) (t' := .long) (by decide) (by decide)))
  have F_o_sample_3 := F_o_sample_0.other W3 (Or.inr (slot_ne (Or.inl (hw _ (List.mem_of_getElem? (i := 38) rfl))) (Or.inl (hw _ (List.mem_of_getElem? (i := 28) rfl))) (by decide) (t := .long) (t' := .long) (by decide) (by decide)))
  exact g_return X3 hx hby hret hlk d4_12 (by rw [e3]; exact ⟨rfl, N3, K3, E_o_3, F_o_intervalNanos_3, F_o_lowestAt_3, F_o_sampledAt_3, F_o_newest_3, F_o_floor_3, F_o_sample_3⟩) (by decide) (by decide)
theorem d5_0 : decode prog_43_method_4_code 0 = .ok (.aload_n 0, 1) := by decide +kernel
theorem d5_1 : decode prog_43_method_4_code 1 = .ok (.getfield 28, 3) := by decide +kernel
theorem d5_4 : decode prog_43_method_4_code 4 = .ok (.lstore_n 3, 1) := by decide +kernel
theorem d5_5 : decode prog_43_method_4_code 5 = .ok (.lload_n 1, 1) := by decide +kernel
theorem d5_6 : decode prog_43_method_4_code 6 = .ok (.aload_n 0, 1) := by decide +kernel
theorem d5_7 : decode prog_43_method_4_code 7 = .ok (.getfield 13, 3) := by decide +kernel
theorem d5_10 : decode prog_43_method_4_code 10 = .ok (.lsub, 1) := by decide +kernel
theorem d5_11 : decode prog_43_method_4_code 11 = .ok (.aload_n 0, 1) := by decide +kernel
theorem d5_12 : decode prog_43_method_4_code 12 = .ok (.getfield 7, 3) := by decide +kernel
theorem d5_15 : decode prog_43_method_4_code 15 = .ok (.lcmp, 1) := by decide +kernel
theorem d5_16 : decode prog_43_method_4_code 16 = .ok (.ifCond .lt 45, 3) := by decide +kernel
theorem d5_19 : decode prog_43_method_4_code 19 = .ok (.lload_n 1, 1) := by decide +kernel
theorem d5_20 : decode prog_43_method_4_code 20 = .ok (.aload_n 0, 1) := by decide +kernel
theorem d5_21 : decode prog_43_method_4_code 21 = .ok (.getfield 16, 3) := by decide +kernel
theorem d5_24 : decode prog_43_method_4_code 24 = .ok (.lsub, 1) := by decide +kernel
theorem d5_25 : decode prog_43_method_4_code 25 = .ok (.aload_n 0, 1) := by decide +kernel
theorem d5_26 : decode prog_43_method_4_code 26 = .ok (.getfield 7, 3) := by decide +kernel
theorem d5_29 : decode prog_43_method_4_code 29 = .ok (.lcmp, 1) := by decide +kernel
theorem d5_30 : decode prog_43_method_4_code 30 = .ok (.ifCond .lt 24, 3) := by decide +kernel
theorem d5_33 : decode prog_43_method_4_code 33 = .ok (.aload_n 0, 1) := by decide +kernel
theorem d5_34 : decode prog_43_method_4_code 34 = .ok (.aload_n 0, 1) := by decide +kernel
theorem d5_35 : decode prog_43_method_4_code 35 = .ok (.getfield 31, 3) := by decide +kernel
theorem d5_38 : decode prog_43_method_4_code 38 = .ok (.putfield 28, 3) := by decide +kernel
theorem d5_41 : decode prog_43_method_4_code 41 = .ok (.aload_n 0, 1) := by decide +kernel
theorem d5_42 : decode prog_43_method_4_code 42 = .ok (.aload_n 0, 1) := by decide +kernel
theorem d5_43 : decode prog_43_method_4_code 43 = .ok (.getfield 19, 3) := by decide +kernel
theorem d5_46 : decode prog_43_method_4_code 46 = .ok (.putfield 31, 3) := by decide +kernel
theorem d5_49 : decode prog_43_method_4_code 49 = .ok (.aload_n 0, 1) := by decide +kernel
theorem d5_50 : decode prog_43_method_4_code 50 = .ok (.lload_n 1, 1) := by decide +kernel
theorem d5_51 : decode prog_43_method_4_code 51 = .ok (.putfield 16, 3) := by decide +kernel
theorem d5_54 : decode prog_43_method_4_code 54 = .ok (.aload_n 0, 1) := by decide +kernel
theorem d5_55 : decode prog_43_method_4_code 55 = .ok (.lload_n 1, 1) := by decide +kernel
theorem d5_56 : decode prog_43_method_4_code 56 = .ok (.putfield 13, 3) := by decide +kernel
theorem d5_59 : decode prog_43_method_4_code 59 = .ok (.lconst 0, 1) := by decide +kernel
theorem d5_60 : decode prog_43_method_4_code 60 = .ok (.lstore_n 3, 1) := by decide +kernel
theorem d5_61 : decode prog_43_method_4_code 61 = .ok (.lload_n 3, 1) := by decide +kernel
theorem d5_62 : decode prog_43_method_4_code 62 = .ok (.lreturn, 1) := by decide +kernel
theorem pn5 : plainFor (⟨"com/example/postlatch/postlatch/WalkStarts", "next", "(J)J"⟩ : MethodName) = true := plainFor_of_name (by first | (simp [plainName, overriddenIn]; done) | decide +kernel)
theorem ef5 (m : MethodId) (o : Addr) (tt : Int64) (iv : Int64) (lo : Int64) (sa : Int64) (nw : Int64) (fl : Int64) (sm : Int64) : entryFrame m #[(.ref o), (.long tt)] 5 = mkF m 0 #[.val (.ref o), .val (.long tt), .second, .unset, .unset] [] := by first | (simp [entryFrame, mkF, argsToLocals, Value.category]; done) | rfl
def Q5 (o : Addr) (tt : Int64) (iv : Int64) (lo : Int64) (sa : Int64) (nw : Int64) (fl : Int64) (sm : Int64) (Z : State) (h0 : Heap) (n0 : Nat) (v : Option Value) (h : Heap) (L : List Loc) : Prop := v = some (.long ((if (tt - lo) < iv then fl else (0 : Int64)))) ∧ Fr n0 L ∧ Keep h0 h [o] ∧ Exa Z h o "com/example/postlatch/postlatch/WalkStarts" ∧ Fld Z h o "com/example/postlatch/postlatch/WalkStarts" "intervalNanos" "J" (.long iv) ∧ Fld Z h o "com/example/postlatch/postlatch/WalkStarts" "lowestAt" "J" (.long ((if (tt - lo) < iv then lo else tt))) ∧ Fld Z h o "com/example/postlatch/postlatch/WalkStarts" "sampledAt" "J" (.long ((if (tt - lo) < iv then sa else (if (tt - sa) < iv then sa else tt)))) ∧ Fld Z h o "com/example/postlatch/postlatch/WalkStarts" "newest" "J" (.long nw) ∧ Fld Z h o "com/example/postlatch/postlatch/WalkStarts" "floor" "J" (.long ((if (tt - lo) < iv then fl else (if (tt - sa) < iv then fl else sm)))) ∧ Fld Z h o "com/example/postlatch/postlatch/WalkStarts" "sample" "J" (.long ((if (tt - lo) < iv then sm else (if (tt - sa) < iv then sm else nw))))
set_option maxRecDepth 65536 in
set_option maxHeartbeats 40000000 in
theorem rm5 (l : Launch) (Z : State) (a0 : Array Value) (hw : ∀ d ∈ tables_1, d.before a0 Z = true) (ws : List Jvm.Cond) (o : Addr) (tt : Int64) (iv : Int64) (lo : Int64) (sa : Int64) (nw : Int64) (fl : Int64) (sm : Int64) (h0 : Heap) (n0 : Nat) (Z0 : n0 ≤ h0.size) (E_o_0 : Exa Z h0 o "com/example/postlatch/postlatch/WalkStarts") (F_o_intervalNanos_0 : Fld Z h0 o "com/example/postlatch/postlatch/WalkStarts" "intervalNanos" "J" (.long iv)) (F_o_lowestAt_0 : Fld Z h0 o "com/example/postlatch/postlatch/WalkStarts" "lowestAt" "J" (.long lo)) (F_o_sampledAt_0 : Fld Z h0 o "com/example/postlatch/postlatch/WalkStarts" "sampledAt" "J" (.long sa)) (F_o_newest_0 : Fld Z h0 o "com/example/postlatch/postlatch/WalkStarts" "newest" "J" (.long nw)) (F_o_floor_0 : Fld Z h0 o "com/example/postlatch/postlatch/WalkStarts" "floor" "J" (.long fl)) (F_o_sample_0 : Fld Z h0 o "com/example/postlatch/postlatch/WalkStarts" "sample" "J" (.long sm)) (gn_o : n0 ≤ o) : Ctr l (⟨"com/example/postlatch/postlatch/WalkStarts", "next", "(J)J"⟩ : MethodName) prog_43_method_4_code 5 (some .long) ws ({ frames := 0, cells := 0, slots := 0, locals := 0 } : Room) #[(.ref o), (.long tt)] Z h0 (Q5 o tt iv lo sa nw fl sm Z h0 n0) := by
  refine own_body pn5 ?_
  intro p e s m below meth c T0 hx hby hml hown hnm hret hlk hZ X0 e0
  have N0 := Fr.nil n0
  have K0 : Keep h0 h0 [o] := Keep.refl _ _
  refine Goes.entry (ef5 m o tt iv lo sa nw fl sm) ?_
  refine g_aloadN X0 hx hby d5_0 rfl rfl 1 rfl ?_
  refine g_getfield X0 hx hby hZ hown (host := "") (Or.inl (hw _ (List.mem_of_getElem? (i := 35) rfl))) Via.refl e0 F_o_floor_0 d5_1 4 rfl ?_
  intro T1 X1 e1
  refine g_lstoreN X1 hx hby d5_4 fl rfl #[.val (.ref o), .val (.long tt), .second, .val (.long fl), .second] rfl 5 rfl ?_
  refine g_lloadN X1 hx hby d5_5 rfl 6 rfl ?_
  refine g_aloadN X1 hx hby d5_6 rfl rfl 7 rfl ?_
  refine g_getfield X1 hx hby hZ hown (host := "") (Or.inl (hw _ (List.mem_of_getElem? (i := 18) rfl))) Via.refl e1 F_o_lowestAt_0 d5_7 10 rfl ?_
  intro T2 X2 e2
  refine g_lsub X2 hx hby d5_10 11 rfl ?_
  refine g_aloadN X2 hx hby d5_11 rfl rfl 12 rfl ?_
  refine g_getfield X2 hx hby hZ hown (host := "") (Or.inl (hw _ (List.mem_of_getElem? (i := 16) rfl))) Via.refl e2 F_o_intervalNanos_0 d5_12 15 rfl ?_
  intro T3 X3 e3
  suffices J5 : ∀ z4 : Int64, z4 = (if (tt - lo) < iv then fl else (0 : Int64)) → ∀ z6 : Int64, z6 = (if (tt - lo) < iv then lo else tt) → ∀ z7 : Int64, z7 = (if (tt - lo) < iv then sa else (if (tt - sa) < iv then sa else tt)) → ∀ z8 : Int64, z8 = (if (tt - lo) < iv then fl else (if (tt - sa) < iv then fl else sm)) → ∀ z9 : Int64, z9 = (if (tt - lo) < iv then sm else (if (tt - sa) < iv then sm else nw)) → ∀ (T5 : State) (L5 : List Loc) (h5 : Heap), Stand p l e ({ frames := 0, cells := 0, slots := 0, locals := 0 } : Room) s m #[(.ref o), (.long tt)] below meth c T5 L5 0 0 → T5.heap = h5 → Fr n0 L5 → n0 ≤ h5.size → Keep h0 h5 [o] → Exa Z h5 o "com/example/postlatch/postlatch/WalkStarts" → Fld Z h5 o "com/example/postlatch/postlatch/WalkStarts" "intervalNanos" "J" (.long iv) → Fld Z h5 o "com/example/postlatch/postlatch/WalkStarts" "lowestAt" "J" (.long z6) → Fld Z h5 o "com/example/postlatch/postlatch/WalkStarts" "sampledAt" "J" (.long z7) → Fld Z h5 o "com/example/postlatch/postlatch/WalkStarts" "newest" "J" (.long nw) → Fld Z h5 o "com/example/postlatch/postlatch/WalkStarts" "floor" "J" (.long z8) → Fld Z h5 o "com/example/postlatch/postlatch/WalkStarts" "sample" "J" (.long z9) → Goes p e below (Kend s below (Q5 o tt iv lo sa nw fl sm Z h0 n0) ({ frames := 0, cells := 0, slots := 0, locals := 0 } : Room).cells ({ frames := 0, cells := 0, slots := 0, locals := 0 } : Room).slots) (T5.setTop (mkF m 61 #[.val (.ref o), .val (.long tt), .second, .val (.long z4), .second] [])) by
    refine g_lcmp_lt X3 hx hby d5_15 d5_16 61 19 rfl (by decide) (by decide) rfl (fun c10 => ?_) (fun c10 => ?_)
    · -- c10
      exact J5 _ (if_pos c10).symm _ (if_pos c10).symm _ (if_pos c10).symm _ (if_pos c10).symm _ (if_pos c10).symm _ _ _ X3 e3 N0 Z0 K0 E_o_0 F_o_intervalNanos_0 F_o_lowestAt_0 F_o_sampledAt_0 F_o_newest_0 F_o_floor_0 F_o_sample_0
    · -- not c10
      refine g_lloadN X3 hx hby d5_19 rfl 20 rfl ?_
      refine g_aloadN X3 hx hby d5_20 rfl rfl 21 rfl ?_
      refine g_getfield X3 hx hby hZ hown (host := "") (Or.inl (hw _ (List.mem_of_getElem? (i := 20) rfl))) Via.refl e3 F_o_sampledAt_0 d5_21 24 rfl ?_
      intro T11 X11 e11
      refine g_lsub X11 hx hby d5_24 25 rfl ?_
      refine g_aloadN X11 hx hby d5_25 rfl rfl 26 rfl ?_
      refine g_getfield X11 hx hby hZ hown (host := "") (Or.inl (hw _ (List.mem_of_getElem? (i := 16) rfl))) Via.refl e11 F_o_intervalNanos_0 d5_26 29 rfl ?_
      intro T12 X12 e12
      refine g_lcmp_lt X12 hx hby d5_29 d5_30 54 33 rfl (by decide) (by decide) rfl (fun c13 => ?_) (fun c13 => ?_)
      · -- c13
        refine g_aloadN X12 hx hby d5_54 rfl rfl 55 rfl ?_
        refine g_lloadN X12 hx hby d5_55 rfl 56 rfl ?_
        refine g_putfield X12 hx hby hZ hown (host := "") (Or.inl (hw _ (List.mem_of_getElem? (i := 18) rfl))) Via.refl e12 F_o_lowestAt_0 E_o_0 (Or.inl (hw _ (List.mem_of_getElem? (i := 19) rfl))) (hw _ (List.mem_of_getElem? (i := 8) rfl)) (ty := .long) (by decide) rfl rfl d5_56 59 rfl ?_
        intro T14 h14 X14 e14 W14
        have N14 := Fr.snoc X14 N0 gn_o
        have K14 := K0.wr W14 (Or.inl (List.mem_of_getElem? (i := 0) rfl))
        have Z14 : n0 ≤ h14.size := Nat.le_trans Z0 (Keep.of_wr W14).1
        have E_o_14 := E_o_0.wr W14
        have F_o_intervalNanos_14 := F_o_intervalNanos_0.other W14 (Or.inr (slot_ne (Or.inr (hw _ (List.mem_of_getElem? (i := 17) rfl))) (Or.inl (hw _ (List.mem_of_getElem? (i := 19) rfl))) (by decide) (t := .long) (t' := .long) (by decide) (by decide)))
        have F_o_lowestAt_14 := F_o_lowestAt_0.same W14
        have F_o_sampledAt_14 := F_o_sampledAt_0.other W14 (Or.inr (slot_ne (Or.inl (hw _ (List.mem_of_getElem? (i := 21) rfl))) (Or.inl (hw _ (List.mem_of_getElem? (i := 19) rfl))) (by decide) (t := .long) (t' := .long) (by decide) (by decide)))
        have F_o_newest_14 := F_o_newest_0.other W14 (Or.inr (slot_ne (Or.inl (hw _ (List.mem_of_getElem? (i := 28) rfl))) (Or.inl (hw _ (List.mem_of_getElem? (i := 19) rfl))) (by decide) (t := .long) (t' := .long) (by decide) (by decide)))
        have F_o_floor_14 := F_o_floor_0.other W14 (Or.inr (slot_ne (Or.inl (hw _ (List.mem_of_getElem? (i := 36) rfl))) (Or.inl (hw _ (List.mem_of_getElem? (i := 19) rfl))) (by decide) (t := .long) (t' := .long) (by decide) (by decide)))
        have F_o_sample_14 := F_o_sample_0.other W14 (Or.inr (slot_ne (Or.inl (hw _ (List.mem_of_getElem? (i := 38) rfl))) (Or.inl (hw _ (List.mem_of_getElem? (i := 19) rfl))) (by decide) (t := .long) (t' := .long) (by decide) (by decide)))
        refine g_lconst X14 hx hby d5_59 (0 : Int64) rfl 60 rfl ?_
        refine g_lstoreN X14 hx hby d5_60 (0 : Int64) rfl #[.val (.ref o), .val (.long tt), .second, .val (.long (0 : Int64)), .second] rfl 61 rfl ?_
        exact J5 _ (if_neg c10).symm _ (if_neg c10).symm _ ((if_neg c10).trans (if_pos c13)).symm _ ((if_neg c10).trans (if_pos c13)).symm _ ((if_neg c10).trans (if_pos c13)).symm _ _ _ X14 e14 N14 Z14 K14 E_o_14 F_o_intervalNanos_14 F_o_lowestAt_14 F_o_sampledAt_14 F_o_newest_14 F_o_floor_14 F_o_sample_14
      · -- not c13
        refine g_aloadN X12 hx hby d5_33 rfl rfl 34 rfl ?_
        refine g_aloadN X12 hx hby d5_34 rfl rfl 35 rfl ?_
        refine g_getfield X12 hx hby hZ hown (host := "") (Or.inl (hw _ (List.mem_of_getElem? (i := 37) rfl))) Via.refl e12 F_o_sample_0 d5_35 38 rfl ?_
        intro T15 X15 e15
        refine g_putfield X15 hx hby hZ hown (host := "") (Or.inl (hw _ (List.mem_of_getElem? (i := 35) rfl))) Via.refl e15 F_o_floor_0 E_o_0 (Or.inl (hw _ (List.mem_of_getElem? (i := 36) rfl))) (hw _ (List.mem_of_getElem? (i := 8) rfl)) (ty := .long) (by decide) rfl rfl d5_38 41 rfl ?_
        intro T16 h16 X16 e16 W16
        have N16 := Fr.snoc X16 N0 gn_o
        have K16 := K0.wr W16 (Or.inl (List.mem_of_getElem? (i := 0) rfl))
        have Z16 : n0 ≤ h16.size := Nat.le_trans Z0 (Keep.of_wr W16).1
        have E_o_16 := E_o_0.wr W16
        have F_o_intervalNanos_16 := F_o_intervalNanos_0.other W16 (Or.inr (slot_ne (Or.inr (hw _ (List.mem_of_getElem? (i := 17) rfl))) (Or.inl (hw _ (List.mem_of_getElem? (i := 36) rfl))) (by decide) (t := .long) (t' := .long) (by decide) (by decide)))
        have F_o_lowestAt_16 := F_o_lowestAt_0.other W16 (Or.inr (slot_ne (Or.inl (hw _ (List.mem_of_getElem? (i := 19) rfl))) (Or.inl (hw _ (List.mem_of_getElem? (i := 36) rfl))) (by decide) (t := .long) (t' := .long) (by decide) (by decide)))
        have F_o_sampledAt_16 := F_o_sampledAt_0.other W16 (Or.inr (slot_ne (Or.inl (hw _ (List.mem_of_getElem? (i := 21) rfl))) (Or.inl (hw _ (List.mem_of_getElem? (i := 36) rfl))) (by decide) (t := .long) (t' := .long) (by decide) (by decide)))
        have F_o_newest_16 := F_o_newest_0.other W16 (Or.inr (slot_ne (Or.inl (hw _ (List.mem_of_getElem? (i := 28) rfl))) (Or.inl (hw _ (List.mem_of_getElem? (i := 36) rfl))) (by decide) (t := .long) (t' := .long) (by decide) (by decide)))
        have F_o_floor_16 := F_o_floor_0.same W16
        have F_o_sample_16 := F_o_sample_0.other W16 (Or.inr (slot_ne (Or.inl (hw _ (List.mem_of_getElem? (i := 38) rfl))) (Or.inl (hw _ (List.mem_of_getElem? (i := 36) rfl))) (by decide) (t := .long) (t' := .long) (by decide) (by decide)))
        refine g_aloadN X16 hx hby d5_41 rfl rfl 42 rfl ?_
        refine g_aloadN X16 hx hby d5_42 rfl rfl 43 rfl ?_
        refine g_getfield X16 hx hby hZ hown (host := "") (Or.inl (hw _ (List.mem_of_getElem? (i := 27) rfl))) Via.refl e16 F_o_newest_16 d5_43 46 rfl ?_
        intro T17 X17 e17
        refine g_putfield X17 hx hby hZ hown (host := "") (Or.inl (hw _ (List.mem_of_getElem? (i := 37) rfl))) Via.refl e17 F_o_sample_16 E_o_16 (Or.inl (hw _ (List.mem_of_getElem? (i := 38) rfl))) (hw _ (List.mem_of_getElem? (i := 8) rfl)) (ty := .long) (by decide) rfl rfl d5_46 49 rfl ?_
        intro T18 h18 X18 e18 W18
        have N18 := Fr.snoc X18 N16 gn_o
        have K18 := K16.wr W18 (Or.inl (List.mem_of_getElem? (i := 0) rfl))
        have Z18 : n0 ≤ h18.size := Nat.le_trans Z16 (Keep.of_wr W18).1
        have E_o_18 := E_o_16.wr W18
        have F_o_intervalNanos_18 := F_o_intervalNanos_16.other W18 (Or.inr (slot_ne (Or.inr (hw _ (List.mem_of_getElem? (i := 17) rfl))) (Or.inl (hw _ (List.mem_of_getElem? (i := 38) rfl))) (by decide) (t := .long) (t' := .long) (by decide) (by decide)))
        have F_o_lowestAt_18 := F_o_lowestAt_16.other W18 (Or.inr (slot_ne (Or.inl (hw _ (List.mem_of_getElem? (i := 19) rfl))) (Or.inl (hw _ (List.mem_of_getElem? (i := 38) rfl))) (by decide) (t := .long) (t' := .long) (by decide) (by decide)))
        have F_o_sampledAt_18 := F_o_sampledAt_16.other W18 (Or.inr (slot_ne (Or.inl (hw _ (List.mem_of_getElem? (i := 21) rfl))) (Or.inl (hw _ (List.mem_of_getElem? (i := 38) rfl))) (by decide) (t := .long) (t' := .long) (by decide) (by decide)))
        have F_o_newest_18 := F_o_newest_16.other W18 (Or.inr (slot_ne (Or.inl (hw _ (List.mem_of_getElem? (i := 28) rfl))) (Or.inl (hw _ (List.mem_of_getElem? (i := 38) rfl))) (by decide) (t := .long) (t' := .long) (by decide) (by decide)))
        have F_o_floor_18 := F_o_floor_16.other W18 (Or.inr (slot_ne (Or.inl (hw _ (List.mem_of_getElem? (i := 36) rfl))) (Or.inl (hw _ (List.mem_of_getElem? (i := 38) rfl))) (by decide) (t := .long) (t' := .long) (by decide) (by decide)))
        have F_o_sample_18 := F_o_sample_16.same W18
        refine g_aloadN X18 hx hby d5_49 rfl rfl 50 rfl ?_
        refine g_lloadN X18 hx hby d5_50 rfl 51 rfl ?_
        refine g_putfield X18 hx hby hZ hown (host := "") (Or.inl (hw _ (List.mem_of_getElem? (i := 20) rfl))) Via.refl e18 F_o_sampledAt_18 E_o_18 (Or.inl (hw _ (List.mem_of_getElem? (i := 21) rfl))) (hw _ (List.mem_of_getElem? (i := 8) rfl)) (ty := .long) (by decide) rfl rfl d5_51 54 rfl ?_
        intro T19 h19 X19 e19 W19
        have N19 := Fr.snoc X19 N18 gn_o
        have K19 := K18.wr W19 (Or.inl (List.mem_of_getElem? (i := 0) rfl))
        have Z19 : n0 ≤ h19.size := Nat.le_trans Z18 (Keep.of_wr W19).1
        have E_o_19 := E_o_18.wr W19
        have F_o_intervalNanos_19 := F_o_intervalNanos_18.other W19 (Or.inr (slot_ne (Or.inr (hw _ (List.mem_of_getElem? (i := 17) rfl))) (Or.inl (hw _ (List.mem_of_getElem? (i := 21) rfl))) (by decide) (t := .long) (t' := .long) (by decide) (by decide)))
        have F_o_lowestAt_19 := F_o_lowestAt_18.other W19 (Or.inr (slot_ne (Or.inl (hw _ (List.mem_of_getElem? (i := 19) rfl))) (Or.inl (hw _ (List.mem_of_getElem? (i := 21) rfl))) (by decide) (t := .long) (t' := .long) (by decide) (by decide)))
        have F_o_sampledAt_19 := F_o_sampledAt_18.same W19
        have F_o_newest_19 := F_o_newest_18.other W19 (Or.inr (slot_ne (Or.inl (hw _ (List.mem_of_getElem? (i := 28) rfl))) (Or.inl (hw _ (List.mem_of_getElem? (i := 21) rfl))) (by decide) (t := .long) (t' := .long) (by decide) (by decide)))
        have F_o_floor_19 := F_o_floor_18.other W19 (Or.inr (slot_ne (Or.inl (hw _ (List.mem_of_getElem? (i := 36) rfl))) (Or.inl (hw _ (List.mem_of_getElem? (i := 21) rfl))) (by decide) (t := .long) (t' := .long) (by decide) (by decide)))
        have F_o_sample_19 := F_o_sample_18.other W19 (Or.inr (slot_ne (Or.inl (hw _ (List.mem_of_getElem? (i := 38) rfl))) (Or.inl (hw _ (List.mem_of_getElem? (i := 21) rfl))) (by decide) (t := .long) (t' := .long) (by decide) (by decide)))
        refine g_aloadN X19 hx hby d5_54 rfl rfl 55 rfl ?_
        refine g_lloadN X19 hx hby d5_55 rfl 56 rfl ?_
        refine g_putfield X19 hx hby hZ hown (host := "") (Or.inl (hw _ (List.mem_of_getElem? (i := 18) rfl))) Via.refl e19 F_o_lowestAt_19 E_o_19 (Or.inl (hw _ (List.mem_of_getElem? (i := 19) rfl))) (hw _ (List.mem_of_getElem? (i := 8) rfl)) (ty := .long) (by decide) rfl rfl d5_56 59 rfl ?_
        intro T20 h20 X20 e20 W20
        have N20 := Fr.snoc X20 N19 gn_o
        have K20 := K19.wr W20 (Or.inl (List.mem_of_getElem? (i := 0) rfl))
        have Z20 : n0 ≤ h20.size := Nat.le_trans Z19 (Keep.of_wr W20).1
        have E_o_20 := E_o_19.wr W20
        have F_o_intervalNanos_20 := F_o_intervalNanos_19.other W20 (Or.inr (slot_ne (Or.inr (hw _ (List.mem_of_getElem? (i := 17) rfl))) (Or.inl (hw _ (List.mem_of_getElem? (i := 19) rfl))) (by decide) (t := .long) (t' := .long) (by decide) (by decide)))
        have F_o_lowestAt_20 := F_o_lowestAt_19.same W20
        have F_o_sampledAt_20 := F_o_sampledAt_19.other W20 (Or.inr (slot_ne (Or.inl (hw _ (List.mem_of_getElem? (i := 21) rfl))) (Or.inl (hw _ (List.mem_of_getElem? (i := 19) rfl))) (by decide) (t := .long) (t' := .long) (by decide) (by decide)))
        have F_o_newest_20 := F_o_newest_19.other W20 (Or.inr (slot_ne (Or.inl (hw _ (List.mem_of_getElem? (i := 28) rfl))) (Or.inl (hw _ (List.mem_of_getElem? (i := 19) rfl))) (by decide) (t := .long) (t' := .long) (by decide) (by decide)))
        have F_o_floor_20 := F_o_floor_19.other W20 (Or.inr (slot_ne (Or.inl (hw _ (List.mem_of_getElem? (i := 36) rfl))) (Or.inl (hw _ (List.mem_of_getElem? (i := 19) rfl))) (by decide) (t := .long) (t' := .long) (by decide) (by decide)))
        have F_o_sample_20 := F_o_sample_19.other W20 (Or.inr (slot_ne (Or.inl (hw _ (List.mem_of_getElem? (i := 38) rfl))) (Or.inl (hw _ (List.mem_of_getElem? (i := 19) rfl))) (by decide) (t := .long) (t' := .long) (by decide) (by decide)))
        refine g_lconst X20 hx hby d5_59 (0 : Int64) rfl 60 rfl ?_
        refine g_lstoreN X20 hx hby d5_60 (0 : Int64) rfl #[.val (.ref o), .val (.long tt), .second, .val (.long (0 : Int64)), .second] rfl 61 rfl ?_
        exact J5 _ (if_neg c10).symm _ (if_neg c10).symm _ ((if_neg c10).trans (if_neg c13)).symm _ ((if_neg c10).trans (if_neg c13)).symm _ ((if_neg c10).trans (if_neg c13)).symm _ _ _ X20 e20 N20 Z20 K20 E_o_20 F_o_intervalNanos_20 F_o_lowestAt_20 F_o_sampledAt_20 F_o_newest_20 F_o_floor_20 F_o_sample_20
  intro z4 hz4 z6 hz6 z7 hz7 z8 hz8 z9 hz9 T5 L5 h5 X5 e5 N5 Z5 K5 E_o_5 F_o_intervalNanos_5 F_o_lowestAt_5 F_o_sampledAt_5 F_o_newest_5 F_o_floor_5 F_o_sample_5
  refine g_lloadN X5 hx hby d5_61 rfl 62 rfl ?_
  exact g_lreturn X5 hx hby hret hlk d5_62 (by subst hz9 hz8 hz7 hz6 hz4; rw [e5]; exact ⟨rfl, N5, K5, E_o_5, F_o_intervalNanos_5, F_o_lowestAt_5, F_o_sampledAt_5, F_o_newest_5, F_o_floor_5, F_o_sample_5⟩) (by decide) (by decide)
def due (iv : Int64) (lo : Int64) : Int64 := (lo + iv)
theorem d6_0 : decode prog_43_method_3_code 0 = .ok (.aload_n 0, 1) := by decide +kernel
theorem d6_1 : decode prog_43_method_3_code 1 = .ok (.getfield 13, 3) := by decide +kernel
theorem d6_4 : decode prog_43_method_3_code 4 = .ok (.aload_n 0, 1) := by decide +kernel
theorem d6_5 : decode prog_43_method_3_code 5 = .ok (.getfield 7, 3) := by decide +kernel
theorem d6_8 : decode prog_43_method_3_code 8 = .ok (.ladd, 1) := by decide +kernel
theorem d6_9 : decode prog_43_method_3_code 9 = .ok (.lreturn, 1) := by decide +kernel
theorem pn6 : plainFor (⟨"com/example/postlatch/postlatch/WalkStarts", "lowestDue", "()J"⟩ : MethodName) = true := plainFor_of_name (by first | (simp [plainName, overriddenIn]; done) | decide +kernel)
theorem ef6 (m : MethodId) (o : Addr) (iv : Int64) (lo : Int64) : entryFrame m #[(.ref o)] 1 = mkF m 0 #[.val (.ref o)] [] := by first | (simp [entryFrame, mkF, argsToLocals, Value.category]; done) | rfl
def Q6 (o : Addr) (iv : Int64) (lo : Int64) (Z : State) (h0 : Heap) (n0 : Nat) (v : Option Value) (h : Heap) (L : List Loc) : Prop := v = some (.long (due iv lo)) ∧ Fr n0 L ∧ h = h0
set_option maxRecDepth 65536 in
set_option maxHeartbeats 40000000 in
theorem rm6 (l : Launch) (Z : State) (a0 : Array Value) (hw : ∀ d ∈ tables_1, d.before a0 Z = true) (ws : List Jvm.Cond) (o : Addr) (iv : Int64) (lo : Int64) (h0 : Heap) (n0 : Nat) (Z0 : n0 ≤ h0.size) (F_o_intervalNanos_0 : Fld Z h0 o "com/example/postlatch/postlatch/WalkStarts" "intervalNanos" "J" (.long iv)) (F_o_lowestAt_0 : Fld Z h0 o "com/example/postlatch/postlatch/WalkStarts" "lowestAt" "J" (.long lo)) : Ctr l (⟨"com/example/postlatch/postlatch/WalkStarts", "lowestDue", "()J"⟩ : MethodName) prog_43_method_3_code 1 (some .long) ws ({ frames := 0, cells := 0, slots := 0, locals := 0 } : Room) #[(.ref o)] Z h0 (Q6 o iv lo Z h0 n0) := by
  refine own_body pn6 ?_
  intro p e s m below meth c T0 hx hby hml hown hnm hret hlk hZ X0 e0
  have N0 := Fr.nil n0
  refine Goes.entry (ef6 m o iv lo) ?_
  refine g_aloadN X0 hx hby d6_0 rfl rfl 1 rfl ?_
  refine g_getfield X0 hx hby hZ hown (host := "") (Or.inl (hw _ (List.mem_of_getElem? (i := 18) rfl))) Via.refl e0 F_o_lowestAt_0 d6_1 4 rfl ?_
  intro T1 X1 e1
  refine g_aloadN X1 hx hby d6_4 rfl rfl 5 rfl ?_
  refine g_getfield X1 hx hby hZ hown (host := "") (Or.inl (hw _ (List.mem_of_getElem? (i := 16) rfl))) Via.refl e1 F_o_intervalNanos_0 d6_5 8 rfl ?_
  intro T2 X2 e2
  refine g_ladd X2 hx hby d6_8 9 rfl ?_
  exact g_lreturn X2 hx hby hret hlk d6_9 (by exact ⟨congrArg (fun z => some (Value.long z)) rfl, N0, e2⟩) (by decide) (by decide)
theorem own_z2 (a b : Int64) : (a + b) - a = b := by
  apply Int64.toBitVec_inj.mp; simp only [Int64.toBitVec_sub, Int64.toBitVec_add]; bv_omega
theorem own_z1 (a b c : Int64) : (a + b) - (a - c) = b + c := by
  rw [show a + b = (a - c) + (c + b) from by rw [← Int64.add_assoc, Int64.sub_add_cancel], own_z2, Int64.add_comm]
theorem own_z4 (a b c : Int64) : ((a + b) + c) - a = b + c := by
  rw [Int64.add_assoc]; exact own_z2 ..
theorem own_z8 (a b c d : Int64) : (((a + b) + c) + d) - a = (b + c) + d := by
  rw [Int64.add_assoc, Int64.add_assoc, own_z2, ← Int64.add_assoc]
theorem own_z10 (a b : Int64) : (a + b) + b = a + 2 * b := by
  have e : (2 : Int64) * b = b + b := by
    apply Int64.toInt_inj.mp
    have q2 := c_lmul 2 b
    have o2 : (2 : Int64).toInt = 2 := rfl
    rw [o2] at q2
    have q3 := c_ladd b b
    have q4 := rng64 (2 * b)
    have q5 := rng64 (b + b)
    omega
  rw [e, Int64.add_assoc]
theorem own_sm {x y : Int64} (h : 0 ≤ x.toInt ∧ x.toInt < 9000000000000) (h' : 0 ≤ y.toInt ∧ y.toInt < 9000000000000) : (x + y).toInt = x.toInt + y.toInt := by
  have h1 := c_ladd x y
  have h2 := rng64 (x + y)
  omega
theorem own_rng {pIv iv sp xx g : Int64} (hiv : (pIv &&& (1099511627775 : Int64)) + 1 = iv) (hsp : 3 * iv = sp) (hg : (xx &&& (9223372036854775807 : Int64)) % sp = g) : 1 ≤ iv.toInt ∧ iv.toInt ≤ 1099511627776 ∧ sp.toInt = 3 * iv.toInt ∧ 0 ≤ g.toInt ∧ g.toInt < 3 * iv.toInt := by
  have a1 := c_maskL pIv 1099511627775 40 (by decide) (by decide)
  have a2 := c_ladd (pIv &&& (1099511627775 : Int64)) 1
  rw [hiv] at a2
  have r1 := rng64 iv
  have o1 : (1 : Int64).toInt = 1 := rfl
  have n1 : ((2 ^ 40 : Nat) : Int) = 1099511627776 := by decide
  rw [n1] at a1
  have b1 : 1 ≤ iv.toInt ∧ iv.toInt ≤ 1099511627776 := by omega
  clear a2
  have a3 := c_lmul 3 iv
  rw [hsp] at a3
  have o3 : (3 : Int64).toInt = 3 := rfl
  rw [o3] at a3
  have r2 := rng64 sp
  have e1 : sp.toInt = 3 * iv.toInt := by omega
  have a4 := c_maskL xx 9223372036854775807 63 (by decide) (by decide)
  have n2 : ((2 ^ 63 : Nat) : Int) = 9223372036854775808 := by decide
  rw [n2] at a4
  have a5 : ((xx &&& (9223372036854775807 : Int64)) % sp).toInt = (xx &&& (9223372036854775807 : Int64)).toInt % sp.toInt := by
    rw [Int64.toInt_mod]; exact Int.tmod_eq_emod_of_nonneg (by omega)
  rw [hg, e1] at a5
  refine ⟨by omega, by omega, e1, ?_, ?_⟩
  · rw [a5]; exact Int.emod_nonneg _ (by omega)
  · rw [a5]; exact Int.emod_lt_of_pos _ (by omega)
theorem own_span {pIv iv sp : Int64} (hiv : (pIv &&& (1099511627775 : Int64)) + 1 = iv) (hsp : 3 * iv = sp) : sp ≠ 0 := by
  have h := own_rng hiv hsp (xx := 0) rfl
  intro q; have : sp.toInt = 0 := by rw [q]; rfl
  omega
set_option maxHeartbeats 4000000 in
theorem own_all {pIv iv sp x1 x2 g1 g2 t0 t1 t2 ma mb xf xs xd du2 du4 lo1 sa1 fl1 sm1 r1 lo2 sa2 fl2 sm2 r2 lo3 sa3 fl3 sm3 r3 lo4 sa4 fl4 sm4 r4 lo5 sa5 fl5 sm5 r5 : Int64} {sh1 lw2 : Int32} (hiv : (pIv &&& (1099511627775 : Int64)) + 1 = iv) (hsp : 3 * iv = sp) (hg1 : (x1 &&& (9223372036854775807 : Int64)) % sp = g1) (hg2 : (x2 &&& (9223372036854775807 : Int64)) % sp = g2) (ht1 : t0 + g1 = t1) (ht2 : t1 + g2 = t2) (hsh1 : sh1 = (if g1 < iv then (0 : Int32) else 1)) (hlw2 : lw2 = (if g2 < iv then (0 : Int32) else 1)) (hxf : xf = (if lw2 = 0 then (0 : Int64) else (if sh1 = 0 then 0 else ma))) (hxs : xs = (if lw2 = 0 then (if sh1 = 0 then (0 : Int64) else ma) else mb)) (hxd : xd = (if lw2 = 0 then t1 + iv else t2 + iv)) (hlo1 : (if (t1 - (t0 - iv)) < iv then (t0 - iv) else t1) = lo1) (hsa1 : (if (t1 - (t0 - iv)) < iv then t0 else (if (t1 - t0) < iv then t0 else t1)) = sa1) (hfl1 : (if (t1 - (t0 - iv)) < iv then (0 : Int64) else (if (t1 - t0) < iv then (0 : Int64) else (0 : Int64))) = fl1) (hsm1 : (if (t1 - (t0 - iv)) < iv then (0 : Int64) else (if (t1 - t0) < iv then (0 : Int64) else ma)) = sm1) (hr1 : (if (t1 - (t0 - iv)) < iv then (0 : Int64) else (0 : Int64)) = r1) (hlo2 : (if (t2 - lo1) < iv then lo1 else t2) = lo2) (hsa2 : (if (t2 - lo1) < iv then sa1 else (if (t2 - sa1) < iv then sa1 else t2)) = sa2) (hfl2 : (if (t2 - lo1) < iv then fl1 else (if (t2 - sa1) < iv then fl1 else sm1)) = fl2) (hsm2 : (if (t2 - lo1) < iv then sm1 else (if (t2 - sa1) < iv then sm1 else mb)) = sm2) (hr2 : (if (t2 - lo1) < iv then fl1 else (0 : Int64)) = r2) (hdu2 : due iv lo2 = du2) (hlo3 : (if (t2 - lo2) < iv then lo2 else t2) = lo3) (hsa3 : (if (t2 - lo2) < iv then sa2 else (if (t2 - sa2) < iv then sa2 else t2)) = sa3) (hfl3 : (if (t2 - lo2) < iv then fl2 else (if (t2 - sa2) < iv then fl2 else sm2)) = fl3) (hsm3 : (if (t2 - lo2) < iv then sm2 else (if (t2 - sa2) < iv then sm2 else mb)) = sm3) (hr3 : (if (t2 - lo2) < iv then fl2 else (0 : Int64)) = r3) (hlo4 : (if ((t2 + iv) - lo3) < iv then lo3 else (t2 + iv)) = lo4) (hsa4 : (if ((t2 + iv) - lo3) < iv then sa3 else (if ((t2 + iv) - sa3) < iv then sa3 else (t2 + iv))) = sa4) (hfl4 : (if ((t2 + iv) - lo3) < iv then fl3 else (if ((t2 + iv) - sa3) < iv then fl3 else sm3)) = fl4) (hsm4 : (if ((t2 + iv) - lo3) < iv then sm3 else (if ((t2 + iv) - sa3) < iv then sm3 else mb)) = sm4) (hr4 : (if ((t2 + iv) - lo3) < iv then fl3 else (0 : Int64)) = r4) (hdu4 : due iv lo4 = du4) (hlo5 : (if ((t2 + iv) - lo4) < iv then lo4 else (t2 + iv)) = lo5) (hsa5 : (if ((t2 + iv) - lo4) < iv then sa4 else (if ((t2 + iv) - sa4) < iv then sa4 else (t2 + iv))) = sa5) (hfl5 : (if ((t2 + iv) - lo4) < iv then fl4 else (if ((t2 + iv) - sa4) < iv then fl4 else sm4)) = fl5) (hsm5 : (if ((t2 + iv) - lo4) < iv then sm4 else (if ((t2 + iv) - sa4) < iv then sm4 else mb)) = sm5) (hr5 : (if ((t2 + iv) - lo4) < iv then fl4 else (0 : Int64)) = r5) : r1 = 0 ∧ r2 = 0 ∧ du2 = xd ∧ r3 = xf ∧ r4 = 0 ∧ du4 = t2 + 2 * iv ∧ r5 = xs := by
  obtain ⟨i1, i2, i3, p1, p2⟩ := own_rng hiv hsp hg1
  obtain ⟨-, -, -, p3, p4⟩ := own_rng hiv hsp hg2
  have E1 : t1 - (t0 - iv) = g1 + iv := by rw [← ht1]; exact own_z1 ..
  have E2 : t1 - t0 = g1 := by rw [← ht1]; exact own_z2 ..
  have E3 : t2 - t1 = g2 := by rw [← ht2]; exact own_z2 ..
  have E4 : t2 - t0 = g1 + g2 := by rw [← ht2, ← ht1]; exact own_z4 ..
  have E5 : t2 - t2 = 0 := Int64.sub_self ..
  have E6 : (t2 + iv) - t2 = iv := own_z2 ..
  have E7 : (t2 + iv) - t1 = g2 + iv := by rw [← ht2]; exact own_z4 ..
  have E8 : (t2 + iv) - t0 = (g1 + g2) + iv := by rw [← ht2, ← ht1]; exact own_z8 ..
  have E9 : (t2 + iv) - (t2 + iv) = 0 := Int64.sub_self ..
  have Z : (0 : Int64).toInt = 0 := rfl
  have S1 := own_sm (x := g1) (y := iv) (by omega) (by omega)
  have S4 := own_sm (x := g1) (y := g2) (by omega) (by omega)
  have S7 := own_sm (x := g2) (y := iv) (by omega) (by omega)
  have S8 := own_sm (x := g1 + g2) (y := iv) (by omega) (by omega)
  have e1 : ¬ (t1 - (t0 - iv)) < iv := by rw [E1, Int64.lt_iff_toInt_lt, S1]; omega
  have e5 : (t2 - t2) < iv := by rw [E5, Int64.lt_iff_toInt_lt, Z]; omega
  have e6 : ¬ ((t2 + iv) - t2) < iv := by rw [E6, Int64.lt_iff_toInt_lt]; omega
  have e7 : ¬ ((t2 + iv) - t1) < iv := by rw [E7, Int64.lt_iff_toInt_lt, S7]; omega
  have e8 : ¬ ((t2 + iv) - t0) < iv := by rw [E8, Int64.lt_iff_toInt_lt, S8, S4]; omega
  have e9 : ((t2 + iv) - (t2 + iv)) < iv := by rw [E9, Int64.lt_iff_toInt_lt, Z]; omega
  have e10 : (t2 + iv) + iv = t2 + 2 * iv := own_z10 ..
  by_cases c1 : g1 < iv
  · have e2 : (t1 - t0) < iv := by rw [E2]; exact c1
    by_cases c2 : g2 < iv
    · have e3 : (t2 - t1) < iv := by rw [E3]; exact c2
      rw [if_neg e1] at hlo1 hr1
      rw [if_neg e1, if_pos e2] at hsa1 hfl1 hsm1
      subst hlo1 hsa1 hfl1 hsm1 hr1
      rw [if_pos e3] at hlo2 hr2
      rw [if_pos e3] at hsa2 hfl2 hsm2
      subst hlo2 hsa2 hfl2 hsm2 hr2
      rw [if_pos e3] at hlo3 hr3
      rw [if_pos e3] at hsa3 hfl3 hsm3
      subst hlo3 hsa3 hfl3 hsm3 hr3
      rw [if_neg e7] at hlo4 hr4
      rw [if_neg e7, if_neg e8] at hsa4 hfl4 hsm4
      subst hlo4 hsa4 hfl4 hsm4 hr4
      rw [if_pos e9] at hlo5 hr5
      rw [if_pos e9] at hsa5 hfl5 hsm5
      subst hlo5 hsa5 hfl5 hsm5 hr5
      rw [if_pos c1] at hsh1
      rw [if_pos c2] at hlw2
      subst hsh1 hlw2 hdu2 hdu4 hxf hxs hxd
      simp [due, e10]
    · have e3 : ¬ (t2 - t1) < iv := by rw [E3]; exact c2
      have e4 : ¬ (t2 - t0) < iv := by rw [E4, Int64.lt_iff_toInt_lt, S4]; rw [Int64.lt_iff_toInt_lt] at c2; omega
      rw [if_neg e1] at hlo1 hr1
      rw [if_neg e1, if_pos e2] at hsa1 hfl1 hsm1
      subst hlo1 hsa1 hfl1 hsm1 hr1
      rw [if_neg e3] at hlo2 hr2
      rw [if_neg e3, if_neg e4] at hsa2 hfl2 hsm2
      subst hlo2 hsa2 hfl2 hsm2 hr2
      rw [if_pos e5] at hlo3 hr3
      rw [if_pos e5] at hsa3 hfl3 hsm3
      subst hlo3 hsa3 hfl3 hsm3 hr3
      rw [if_neg e6] at hlo4 hr4
      rw [if_neg e6, if_neg e6] at hsa4 hfl4 hsm4
      subst hlo4 hsa4 hfl4 hsm4 hr4
      rw [if_pos e9] at hlo5 hr5
      rw [if_pos e9] at hsa5 hfl5 hsm5
      subst hlo5 hsa5 hfl5 hsm5 hr5
      rw [if_pos c1] at hsh1
      rw [if_neg c2] at hlw2
      subst hsh1 hlw2 hdu2 hdu4 hxf hxs hxd
      simp [due, e10]
  · have e2 : ¬ (t1 - t0) < iv := by rw [E2]; exact c1
    by_cases c2 : g2 < iv
    · have e3 : (t2 - t1) < iv := by rw [E3]; exact c2
      rw [if_neg e1] at hlo1 hr1
      rw [if_neg e1, if_neg e2] at hsa1 hfl1 hsm1
      subst hlo1 hsa1 hfl1 hsm1 hr1
      rw [if_pos e3] at hlo2 hr2
      rw [if_pos e3] at hsa2 hfl2 hsm2
      subst hlo2 hsa2 hfl2 hsm2 hr2
      rw [if_pos e3] at hlo3 hr3
      rw [if_pos e3] at hsa3 hfl3 hsm3
      subst hlo3 hsa3 hfl3 hsm3 hr3
      rw [if_neg e7] at hlo4 hr4
      rw [if_neg e7, if_neg e7] at hsa4 hfl4 hsm4
      subst hlo4 hsa4 hfl4 hsm4 hr4
      rw [if_pos e9] at hlo5 hr5
      rw [if_pos e9] at hsa5 hfl5 hsm5
      subst hlo5 hsa5 hfl5 hsm5 hr5
      rw [if_neg c1] at hsh1
      rw [if_pos c2] at hlw2
      subst hsh1 hlw2 hdu2 hdu4 hxf hxs hxd
      simp [due, e10]
    · have e3 : ¬ (t2 - t1) < iv := by rw [E3]; exact c2
      have e4 : ¬ (t2 - t0) < iv := by rw [E4, Int64.lt_iff_toInt_lt, S4]; rw [Int64.lt_iff_toInt_lt] at c2; omega
      rw [if_neg e1] at hlo1 hr1
      rw [if_neg e1, if_neg e2] at hsa1 hfl1 hsm1
      subst hlo1 hsa1 hfl1 hsm1 hr1
      rw [if_neg e3] at hlo2 hr2
      rw [if_neg e3, if_neg e3] at hsa2 hfl2 hsm2
      subst hlo2 hsa2 hfl2 hsm2 hr2
      rw [if_pos e5] at hlo3 hr3
      rw [if_pos e5] at hsa3 hfl3 hsm3
      subst hlo3 hsa3 hfl3 hsm3 hr3
      rw [if_neg e6] at hlo4 hr4
      rw [if_neg e6, if_neg e6] at hsa4 hfl4 hsm4
      subst hlo4 hsa4 hfl4 hsm4 hr4
      rw [if_pos e9] at hlo5 hr5
      rw [if_pos e9] at hsa5 hfl5 hsm5
      subst hlo5 hsa5 hfl5 hsm5 hr5
      rw [if_neg c1] at hsh1
      rw [if_neg c2] at hlw2
      subst hsh1 hlw2 hdu2 hdu4 hxf hxs hxd
      simp [due, e10]
theorem pn0 : plainFor (⟨"com/example/postlatch/postlatch/WalkStartsNextPinLaw", "law", "(JJJJJJ)Z"⟩ : MethodName) = true := plainFor_of_name (by first | (simp [plainName, overriddenIn]; done) | decide +kernel)
theorem ef0 (m : MethodId) (pIv : Int64) (t0 : Int64) (x1 : Int64) (x2 : Int64) (aa : Int64) (bb : Int64) : entryFrame m #[(.long pIv), (.long t0), (.long x1), (.long x2), (.long aa), (.long bb)] maxLocals = mkF m 0 #[.val (.long pIv), .second, .val (.long t0), .second, .val (.long x1), .second, .val (.long x2), .second, .val (.long aa), .second, .val (.long bb), .second, .unset, .unset, .unset, .unset, .unset, .unset, .unset, .unset, .unset, .unset, .unset, .unset, .unset, .unset, .unset, .unset, .unset, .unset, .unset, .unset, .unset, .unset, .unset, .unset, .unset, .unset, .unset, .unset, .unset, .unset, .unset, .unset, .unset, .unset, .unset, .unset, .unset, .unset, .unset] [] := by first | (simp [entryFrame, mkF, argsToLocals, Value.category, maxLocals]; done) | rfl
def Q0 (pIv : Int64) (t0 : Int64) (x1 : Int64) (x2 : Int64) (aa : Int64) (bb : Int64) (Z : State) (h0 : Heap) (n0 : Nat) (v : Option Value) (h : Heap) (L : List Loc) : Prop := v = some (.int 1) ∧ Fr n0 L
set_option maxRecDepth 65536 in
set_option maxHeartbeats 40000000 in
theorem rm0 (l : Launch) (Z : State) (a0 : Array Value) (hw : ∀ d ∈ tables_1, d.before a0 Z = true) (ws : List Jvm.Cond) (pIv : Int64) (t0 : Int64) (x1 : Int64) (x2 : Int64) (aa : Int64) (bb : Int64) (h0 : Heap) (n0 : Nat) (Z0 : n0 ≤ h0.size) : Ctr l x code maxLocals ret ws room_1 #[(.long pIv), (.long t0), (.long x1), (.long x2), (.long aa), (.long bb)] Z h0 (Q0 pIv t0 x1 x2 aa bb Z h0 n0) := by
  refine own_body pn0 ?_
  intro p e s m below meth c T0 hx hby hml hown hnm hret hlk hZ X0 e0
  have N0 := Fr.nil n0
  refine Goes.entry (ef0 m pIv t0 x1 x2 aa bb) ?_
  refine g_lloadN X0 hx hby at_0 rfl 1 rfl ?_
  refine g_ldc2 X0 hx hby hZ hown (hw _ (List.mem_of_getElem? (i := 0) rfl)) at_1 4 rfl ?_
  refine g_land X0 hx hby at_4 5 rfl ?_
  refine g_lconst X0 hx hby at_5 (1 : Int64) rfl 6 rfl ?_
  refine g_ladd X0 hx hby at_6 7 rfl ?_
  obtain ⟨iv, hiv⟩ : ∃ z : Int64, ((pIv &&& (1099511627775 : Int64)) + (1 : Int64)) = z := ⟨_, rfl⟩
  refine g_lstore X0 hx hby at_7 iv hiv #[.val (.long pIv), .second, .val (.long t0), .second, .val (.long x1), .second, .val (.long x2), .second, .val (.long aa), .second, .val (.long bb), .second, .val (.long iv), .second, .unset, .unset, .unset, .unset, .unset, .unset, .unset, .unset, .unset, .unset, .unset, .unset, .unset, .unset, .unset, .unset, .unset, .unset, .unset, .unset, .unset, .unset, .unset, .unset, .unset, .unset, .unset, .unset, .unset, .unset, .unset, .unset, .unset, .unset, .unset, .unset, .unset] rfl 9 rfl ?_
  refine g_ldc2 X0 hx hby hZ hown (hw _ (List.mem_of_getElem? (i := 1) rfl)) at_9 12 rfl ?_
  refine g_lload X0 hx hby at_12 rfl 14 rfl ?_
  refine g_lmul X0 hx hby at_14 15 rfl ?_
  obtain ⟨sp, hsp⟩ : ∃ z : Int64, ((3 : Int64) * iv) = z := ⟨_, rfl⟩
  refine g_lstore X0 hx hby at_15 sp hsp #[.val (.long pIv), .second, .val (.long t0), .second, .val (.long x1), .second, .val (.long x2), .second, .val (.long aa), .second, .val (.long bb), .second, .val (.long iv), .second, .val (.long sp), .second, .unset, .unset, .unset, .unset, .unset, .unset, .unset, .unset, .unset, .unset, .unset, .unset, .unset, .unset, .unset, .unset, .unset, .unset, .unset, .unset, .unset, .unset, .unset, .unset, .unset, .unset, .unset, .unset, .unset, .unset, .unset, .unset, .unset, .unset, .unset] rfl 17 rfl ?_
  refine g_lload X0 hx hby at_17 rfl 19 rfl ?_
  refine g_ldc2 X0 hx hby hZ hown (hw _ (List.mem_of_getElem? (i := 2) rfl)) at_19 22 rfl ?_
  refine g_land X0 hx hby at_22 23 rfl ?_
  refine g_lload X0 hx hby at_23 rfl 25 rfl ?_
  refine g_lrem X0 hx hby at_25 (own_span hiv hsp) 26 rfl ?_
  obtain ⟨g1', hg1'⟩ : ∃ z : Int64, ((x1 &&& (9223372036854775807 : Int64)) % sp) = z := ⟨_, rfl⟩
  refine g_lstore X0 hx hby at_26 g1' hg1' #[.val (.long pIv), .second, .val (.long t0), .second, .val (.long x1), .second, .val (.long x2), .second, .val (.long aa), .second, .val (.long bb), .second, .val (.long iv), .second, .val (.long sp), .second, .val (.long g1'), .second, .unset, .unset, .unset, .unset, .unset, .unset, .unset, .unset, .unset, .unset, .unset, .unset, .unset, .unset, .unset, .unset, .unset, .unset, .unset, .unset, .unset, .unset, .unset, .unset, .unset, .unset, .unset, .unset, .unset, .unset, .unset, .unset, .unset] rfl 28 rfl ?_
  refine g_lload X0 hx hby at_28 rfl 30 rfl ?_
  refine g_ldc2 X0 hx hby hZ hown (hw _ (List.mem_of_getElem? (i := 2) rfl)) at_30 33 rfl ?_
  refine g_land X0 hx hby at_33 34 rfl ?_
  refine g_lload X0 hx hby at_34 rfl 36 rfl ?_
  refine g_lrem X0 hx hby at_36 (own_span hiv hsp) 37 rfl ?_
  obtain ⟨g2', hg2'⟩ : ∃ z : Int64, ((x2 &&& (9223372036854775807 : Int64)) % sp) = z := ⟨_, rfl⟩
  refine g_lstore X0 hx hby at_37 g2' hg2' #[.val (.long pIv), .second, .val (.long t0), .second, .val (.long x1), .second, .val (.long x2), .second, .val (.long aa), .second, .val (.long bb), .second, .val (.long iv), .second, .val (.long sp), .second, .val (.long g1'), .second, .val (.long g2'), .second, .unset, .unset, .unset, .unset, .unset, .unset, .unset, .unset, .unset, .unset, .unset, .unset, .unset, .unset, .unset, .unset, .unset, .unset, .unset, .unset, .unset, .unset, .unset, .unset, .unset, .unset, .unset, .unset, .unset, .unset, .unset] rfl 39 rfl ?_
  refine g_lloadN X0 hx hby at_39 rfl 40 rfl ?_
  refine g_lload X0 hx hby at_40 rfl 42 rfl ?_
  refine g_ladd X0 hx hby at_42 43 rfl ?_
  obtain ⟨t1, ht1⟩ : ∃ z : Int64, (t0 + g1') = z := ⟨_, rfl⟩
  refine g_lstore X0 hx hby at_43 t1 ht1 #[.val (.long pIv), .second, .val (.long t0), .second, .val (.long x1), .second, .val (.long x2), .second, .val (.long aa), .second, .val (.long bb), .second, .val (.long iv), .second, .val (.long sp), .second, .val (.long g1'), .second, .val (.long g2'), .second, .val (.long t1), .second, .unset, .unset, .unset, .unset, .unset, .unset, .unset, .unset, .unset, .unset, .unset, .unset, .unset, .unset, .unset, .unset, .unset, .unset, .unset, .unset, .unset, .unset, .unset, .unset, .unset, .unset, .unset, .unset, .unset] rfl 45 rfl ?_
  refine g_lload X0 hx hby at_45 rfl 47 rfl ?_
  refine g_lload X0 hx hby at_47 rfl 49 rfl ?_
  refine g_ladd X0 hx hby at_49 50 rfl ?_
  obtain ⟨t2, ht2⟩ : ∃ z : Int64, (t1 + g2') = z := ⟨_, rfl⟩
  refine g_lstore X0 hx hby at_50 t2 ht2 #[.val (.long pIv), .second, .val (.long t0), .second, .val (.long x1), .second, .val (.long x2), .second, .val (.long aa), .second, .val (.long bb), .second, .val (.long iv), .second, .val (.long sp), .second, .val (.long g1'), .second, .val (.long g2'), .second, .val (.long t1), .second, .val (.long t2), .second, .unset, .unset, .unset, .unset, .unset, .unset, .unset, .unset, .unset, .unset, .unset, .unset, .unset, .unset, .unset, .unset, .unset, .unset, .unset, .unset, .unset, .unset, .unset, .unset, .unset, .unset, .unset] rfl 52 rfl ?_
  refine g_lconst X0 hx hby at_52 (0 : Int64) rfl 53 rfl ?_
  refine g_lload X0 hx hby at_53 rfl 55 rfl ?_
  refine g_callS X0 hx hby hZ hown (hw _ (List.mem_of_getElem? (i := 3) rfl)) (hw _ (List.mem_of_getElem? (i := 4) rfl)) (hw _ (List.mem_of_getElem? (i := 5) rfl)) (hw _ (List.mem_of_getElem? (i := 6) rfl)) at_55 [(.long (0 : Int64)), (.long aa)] [] (rm1 l Z a0 hw [] (0 : Int64) aa h0 n0 Z0) e0 rfl (by rw [hml]; rfl) pd0 rfl (by decide) 0 (Nat.le_of_eq rfl) (by decide) (by decide) (by decide) (by decide) 58 rfl ?_
  intro T1 v1 L1 X1 Q1
  obtain ⟨rfl, N1', e1⟩ := Q1
  have N1 := Fr.app N0 N1'
  show Goes p e below _ (T1.setTop (mkF m 58 _ [(.long (maxJ (0 : Int64) aa))]))
  obtain ⟨ma, hma⟩ : ∃ z : Int64, (maxJ (0 : Int64) aa) = z := ⟨_, rfl⟩
  refine g_lstore X1 hx hby at_58 ma hma #[.val (.long pIv), .second, .val (.long t0), .second, .val (.long x1), .second, .val (.long x2), .second, .val (.long aa), .second, .val (.long bb), .second, .val (.long iv), .second, .val (.long sp), .second, .val (.long g1'), .second, .val (.long g2'), .second, .val (.long t1), .second, .val (.long t2), .second, .val (.long ma), .second, .unset, .unset, .unset, .unset, .unset, .unset, .unset, .unset, .unset, .unset, .unset, .unset, .unset, .unset, .unset, .unset, .unset, .unset, .unset, .unset, .unset, .unset, .unset, .unset, .unset] rfl 60 rfl ?_
  refine g_lload X1 hx hby at_60 rfl 62 rfl ?_
  refine g_lload X1 hx hby at_62 rfl 64 rfl ?_
  refine g_callS X1 hx hby hZ hown (hw _ (List.mem_of_getElem? (i := 3) rfl)) (hw _ (List.mem_of_getElem? (i := 4) rfl)) (hw _ (List.mem_of_getElem? (i := 5) rfl)) (hw _ (List.mem_of_getElem? (i := 6) rfl)) at_64 [(.long ma), (.long bb)] [] (rm1 l Z a0 hw [] ma bb h0 n0 Z0) e1 rfl (by rw [hml]; rfl) pd0 rfl (by decide) 0 (Nat.le_of_eq rfl) (by decide) (by decide) (by decide) (by decide) 67 rfl ?_
  intro T2 v2 L2 X2 Q2
  obtain ⟨rfl, N2', e2⟩ := Q2
  have N2 := Fr.app N1 N2'
  show Goes p e below _ (T2.setTop (mkF m 67 _ [(.long (maxJ ma bb))]))
  obtain ⟨mb, hmb⟩ : ∃ z : Int64, (maxJ ma bb) = z := ⟨_, rfl⟩
  refine g_lstore X2 hx hby at_67 mb hmb #[.val (.long pIv), .second, .val (.long t0), .second, .val (.long x1), .second, .val (.long x2), .second, .val (.long aa), .second, .val (.long bb), .second, .val (.long iv), .second, .val (.long sp), .second, .val (.long g1'), .second, .val (.long g2'), .second, .val (.long t1), .second, .val (.long t2), .second, .val (.long ma), .second, .val (.long mb), .second, .unset, .unset, .unset, .unset, .unset, .unset, .unset, .unset, .unset, .unset, .unset, .unset, .unset, .unset, .unset, .unset, .unset, .unset, .unset, .unset, .unset, .unset, .unset] rfl 69 rfl ?_
  refine g_lload X2 hx hby at_69 rfl 71 rfl ?_
  refine g_lload X2 hx hby at_71 rfl 73 rfl ?_
  suffices J3 : ∀ sh1 : Int32, sh1 = (if g1' < iv then (0 : Int32) else (1 : Int32)) → Goes p e below (Kend s below (Q0 pIv t0 x1 x2 aa bb Z h0 n0) room_1.cells room_1.slots) (T2.setTop (mkF m 82 #[.val (.long pIv), .second, .val (.long t0), .second, .val (.long x1), .second, .val (.long x2), .second, .val (.long aa), .second, .val (.long bb), .second, .val (.long iv), .second, .val (.long sp), .second, .val (.long g1'), .second, .val (.long g2'), .second, .val (.long t1), .second, .val (.long t2), .second, .val (.long ma), .second, .val (.long mb), .second, .unset, .unset, .unset, .unset, .unset, .unset, .unset, .unset, .unset, .unset, .unset, .unset, .unset, .unset, .unset, .unset, .unset, .unset, .unset, .unset, .unset, .unset, .unset] [(.int sh1)])) by
    refine g_lcmp_lt X2 hx hby at_73 at_74 81 77 rfl (by decide) (by decide) rfl (fun c4 => ?_) (fun c4 => ?_)
    · -- c4
      refine g_iconst X2 hx hby at_81 (0 : Int32) rfl 82 rfl ?_
      exact J3 _ (if_pos c4).symm
    · -- not c4
      refine g_iconst X2 hx hby at_77 (1 : Int32) rfl 78 rfl ?_
      refine g_goto X2 hx hby at_78 82 (by decide) (by decide) ?_
      exact J3 _ (if_neg c4).symm
  intro sh1 hsh1
  refine g_istore X2 hx hby at_82 sh1 rfl #[.val (.long pIv), .second, .val (.long t0), .second, .val (.long x1), .second, .val (.long x2), .second, .val (.long aa), .second, .val (.long bb), .second, .val (.long iv), .second, .val (.long sp), .second, .val (.long g1'), .second, .val (.long g2'), .second, .val (.long t1), .second, .val (.long t2), .second, .val (.long ma), .second, .val (.long mb), .second, .val (.int sh1), .unset, .unset, .unset, .unset, .unset, .unset, .unset, .unset, .unset, .unset, .unset, .unset, .unset, .unset, .unset, .unset, .unset, .unset, .unset, .unset, .unset, .unset] rfl 84 rfl ?_
  refine g_lload X2 hx hby at_84 rfl 86 rfl ?_
  refine g_lload X2 hx hby at_86 rfl 88 rfl ?_
  suffices J5 : ∀ lw2 : Int32, lw2 = (if g2' < iv then (0 : Int32) else (1 : Int32)) → Goes p e below (Kend s below (Q0 pIv t0 x1 x2 aa bb Z h0 n0) room_1.cells room_1.slots) (T2.setTop (mkF m 97 #[.val (.long pIv), .second, .val (.long t0), .second, .val (.long x1), .second, .val (.long x2), .second, .val (.long aa), .second, .val (.long bb), .second, .val (.long iv), .second, .val (.long sp), .second, .val (.long g1'), .second, .val (.long g2'), .second, .val (.long t1), .second, .val (.long t2), .second, .val (.long ma), .second, .val (.long mb), .second, .val (.int sh1), .unset, .unset, .unset, .unset, .unset, .unset, .unset, .unset, .unset, .unset, .unset, .unset, .unset, .unset, .unset, .unset, .unset, .unset, .unset, .unset, .unset, .unset] [(.int lw2)])) by
    refine g_lcmp_lt X2 hx hby at_88 at_89 96 92 rfl (by decide) (by decide) rfl (fun c6 => ?_) (fun c6 => ?_)
    · -- c6
      refine g_iconst X2 hx hby at_96 (0 : Int32) rfl 97 rfl ?_
      exact J5 _ (if_pos c6).symm
    · -- not c6
      refine g_iconst X2 hx hby at_92 (1 : Int32) rfl 93 rfl ?_
      refine g_goto X2 hx hby at_93 97 (by decide) (by decide) ?_
      exact J5 _ (if_neg c6).symm
  intro lw2 hlw2
  refine g_istore X2 hx hby at_97 lw2 rfl #[.val (.long pIv), .second, .val (.long t0), .second, .val (.long x1), .second, .val (.long x2), .second, .val (.long aa), .second, .val (.long bb), .second, .val (.long iv), .second, .val (.long sp), .second, .val (.long g1'), .second, .val (.long g2'), .second, .val (.long t1), .second, .val (.long t2), .second, .val (.long ma), .second, .val (.long mb), .second, .val (.int sh1), .val (.int lw2), .unset, .unset, .unset, .unset, .unset, .unset, .unset, .unset, .unset, .unset, .unset, .unset, .unset, .unset, .unset, .unset, .unset, .unset, .unset, .unset, .unset] rfl 99 rfl ?_
  refine g_iload X2 hx hby at_99 rfl 101 rfl ?_
  suffices J7 : ∀ xf : Int64, xf = (if lw2 = 0 then (0 : Int64) else (if sh1 = 0 then (0 : Int64) else ma)) → Goes p e below (Kend s below (Q0 pIv t0 x1 x2 aa bb Z h0 n0) room_1.cells room_1.slots) (T2.setTop (mkF m 119 #[.val (.long pIv), .second, .val (.long t0), .second, .val (.long x1), .second, .val (.long x2), .second, .val (.long aa), .second, .val (.long bb), .second, .val (.long iv), .second, .val (.long sp), .second, .val (.long g1'), .second, .val (.long g2'), .second, .val (.long t1), .second, .val (.long t2), .second, .val (.long ma), .second, .val (.long mb), .second, .val (.int sh1), .val (.int lw2), .unset, .unset, .unset, .unset, .unset, .unset, .unset, .unset, .unset, .unset, .unset, .unset, .unset, .unset, .unset, .unset, .unset, .unset, .unset, .unset, .unset] [(.long xf)])) by
    refine g_if_eq X2 hx hby at_101 118 104 (by decide) (by decide) rfl (fun c8 => ?_) (fun c8 => ?_)
    · -- c8
      refine g_lconst X2 hx hby at_118 (0 : Int64) rfl 119 rfl ?_
      exact J7 _ (if_pos c8).symm
    · -- not c8
      refine g_iload X2 hx hby at_104 rfl 106 rfl ?_
      refine g_if_eq X2 hx hby at_106 114 109 (by decide) (by decide) rfl (fun c9 => ?_) (fun c9 => ?_)
      · -- c9
        refine g_lconst X2 hx hby at_114 (0 : Int64) rfl 115 rfl ?_
        refine g_goto X2 hx hby at_115 119 (by decide) (by decide) ?_
        exact J7 _ ((if_neg c8).trans (if_pos c9)).symm
      · -- not c9
        refine g_lload X2 hx hby at_109 rfl 111 rfl ?_
        refine g_goto X2 hx hby at_111 119 (by decide) (by decide) ?_
        exact J7 _ ((if_neg c8).trans (if_neg c9)).symm
  intro xf hxf
  refine g_lstore X2 hx hby at_119 xf rfl #[.val (.long pIv), .second, .val (.long t0), .second, .val (.long x1), .second, .val (.long x2), .second, .val (.long aa), .second, .val (.long bb), .second, .val (.long iv), .second, .val (.long sp), .second, .val (.long g1'), .second, .val (.long g2'), .second, .val (.long t1), .second, .val (.long t2), .second, .val (.long ma), .second, .val (.long mb), .second, .val (.int sh1), .val (.int lw2), .val (.long xf), .second, .unset, .unset, .unset, .unset, .unset, .unset, .unset, .unset, .unset, .unset, .unset, .unset, .unset, .unset, .unset, .unset, .unset, .unset, .unset] rfl 121 rfl ?_
  refine g_iload X2 hx hby at_121 rfl 123 rfl ?_
  suffices J10 : ∀ xs : Int64, xs = (if lw2 = 0 then (if sh1 = 0 then (0 : Int64) else ma) else mb) → Goes p e below (Kend s below (Q0 pIv t0 x1 x2 aa bb Z h0 n0) room_1.cells room_1.slots) (T2.setTop (mkF m 142 #[.val (.long pIv), .second, .val (.long t0), .second, .val (.long x1), .second, .val (.long x2), .second, .val (.long aa), .second, .val (.long bb), .second, .val (.long iv), .second, .val (.long sp), .second, .val (.long g1'), .second, .val (.long g2'), .second, .val (.long t1), .second, .val (.long t2), .second, .val (.long ma), .second, .val (.long mb), .second, .val (.int sh1), .val (.int lw2), .val (.long xf), .second, .unset, .unset, .unset, .unset, .unset, .unset, .unset, .unset, .unset, .unset, .unset, .unset, .unset, .unset, .unset, .unset, .unset, .unset, .unset] [(.long xs)])) by
    refine g_if_eq X2 hx hby at_123 131 126 (by decide) (by decide) rfl (fun c11 => ?_) (fun c11 => ?_)
    · -- c11
      refine g_iload X2 hx hby at_131 rfl 133 rfl ?_
      refine g_if_eq X2 hx hby at_133 141 136 (by decide) (by decide) rfl (fun c12 => ?_) (fun c12 => ?_)
      · -- c12
        refine g_lconst X2 hx hby at_141 (0 : Int64) rfl 142 rfl ?_
        exact J10 _ ((if_pos c11).trans (if_pos c12)).symm
      · -- not c12
        refine g_lload X2 hx hby at_136 rfl 138 rfl ?_
        refine g_goto X2 hx hby at_138 142 (by decide) (by decide) ?_
        exact J10 _ ((if_pos c11).trans (if_neg c12)).symm
    · -- not c11
      refine g_lload X2 hx hby at_126 rfl 128 rfl ?_
      refine g_goto X2 hx hby at_128 142 (by decide) (by decide) ?_
      exact J10 _ (if_neg c11).symm
  intro xs hxs
  refine g_lstore X2 hx hby at_142 xs rfl #[.val (.long pIv), .second, .val (.long t0), .second, .val (.long x1), .second, .val (.long x2), .second, .val (.long aa), .second, .val (.long bb), .second, .val (.long iv), .second, .val (.long sp), .second, .val (.long g1'), .second, .val (.long g2'), .second, .val (.long t1), .second, .val (.long t2), .second, .val (.long ma), .second, .val (.long mb), .second, .val (.int sh1), .val (.int lw2), .val (.long xf), .second, .val (.long xs), .second, .unset, .unset, .unset, .unset, .unset, .unset, .unset, .unset, .unset, .unset, .unset, .unset, .unset, .unset, .unset, .unset, .unset] rfl 144 rfl ?_
  refine g_iload X2 hx hby at_144 rfl 146 rfl ?_
  suffices J13 : ∀ xd : Int64, xd = (if lw2 = 0 then (t1 + iv) else (t2 + iv)) → Goes p e below (Kend s below (Q0 pIv t0 x1 x2 aa bb Z h0 n0) room_1.cells room_1.slots) (T2.setTop (mkF m 162 #[.val (.long pIv), .second, .val (.long t0), .second, .val (.long x1), .second, .val (.long x2), .second, .val (.long aa), .second, .val (.long bb), .second, .val (.long iv), .second, .val (.long sp), .second, .val (.long g1'), .second, .val (.long g2'), .second, .val (.long t1), .second, .val (.long t2), .second, .val (.long ma), .second, .val (.long mb), .second, .val (.int sh1), .val (.int lw2), .val (.long xf), .second, .val (.long xs), .second, .unset, .unset, .unset, .unset, .unset, .unset, .unset, .unset, .unset, .unset, .unset, .unset, .unset, .unset, .unset, .unset, .unset] [(.long xd)])) by
    refine g_if_eq X2 hx hby at_146 157 149 (by decide) (by decide) rfl (fun c14 => ?_) (fun c14 => ?_)
    · -- c14
      refine g_lload X2 hx hby at_157 rfl 159 rfl ?_
      refine g_lload X2 hx hby at_159 rfl 161 rfl ?_
      refine g_ladd X2 hx hby at_161 162 rfl ?_
      exact J13 _ (if_pos c14).symm
    · -- not c14
      refine g_lload X2 hx hby at_149 rfl 151 rfl ?_
      refine g_lload X2 hx hby at_151 rfl 153 rfl ?_
      refine g_ladd X2 hx hby at_153 154 rfl ?_
      refine g_goto X2 hx hby at_154 162 (by decide) (by decide) ?_
      exact J13 _ (if_neg c14).symm
  intro xd hxd
  refine g_lstore X2 hx hby at_162 xd rfl #[.val (.long pIv), .second, .val (.long t0), .second, .val (.long x1), .second, .val (.long x2), .second, .val (.long aa), .second, .val (.long bb), .second, .val (.long iv), .second, .val (.long sp), .second, .val (.long g1'), .second, .val (.long g2'), .second, .val (.long t1), .second, .val (.long t2), .second, .val (.long ma), .second, .val (.long mb), .second, .val (.int sh1), .val (.int lw2), .val (.long xf), .second, .val (.long xs), .second, .val (.long xd), .second, .unset, .unset, .unset, .unset, .unset, .unset, .unset, .unset, .unset, .unset, .unset, .unset, .unset, .unset, .unset] rfl 164 rfl ?_
  refine g_new X2 hx hby hZ hown (hw _ (List.mem_of_getElem? (i := 7) rfl)) (hw _ (List.mem_of_getElem? (i := 8) rfl)) (hw _ (List.mem_of_getElem? (i := 9) rfl)) e2 at_164 (by decide) (by decide) 167 rfl ?_
  intro T15 h15 b15 g15 X15 e15 E15 A15 D15
  have gn_b15 : n0 ≤ b15 := Nat.le_trans Z0 (Nat.le_of_eq g15.symm)
  have Z15 : n0 ≤ h15.size := Nat.le_trans Z0 E15.1
  have Fb15_intervalNanos_0 : Fld Z h15 b15 "com/example/postlatch/postlatch/WalkStarts" "intervalNanos" "J" (.long (0 : Int64)) := D15 (Or.inr (hw _ (List.mem_of_getElem? (i := 17) rfl))) (ty := .long) (by decide)
  have Fb15_lowestAt_0 : Fld Z h15 b15 "com/example/postlatch/postlatch/WalkStarts" "lowestAt" "J" (.long (0 : Int64)) := D15 (Or.inl (hw _ (List.mem_of_getElem? (i := 19) rfl))) (ty := .long) (by decide)
  have Fb15_sampledAt_0 : Fld Z h15 b15 "com/example/postlatch/postlatch/WalkStarts" "sampledAt" "J" (.long (0 : Int64)) := D15 (Or.inl (hw _ (List.mem_of_getElem? (i := 21) rfl))) (ty := .long) (by decide)
  have Fb15_newest_0 : Fld Z h15 b15 "com/example/postlatch/postlatch/WalkStarts" "newest" "J" (.long (0 : Int64)) := D15 (Or.inl (hw _ (List.mem_of_getElem? (i := 28) rfl))) (ty := .long) (by decide)
  have Fb15_floor_0 : Fld Z h15 b15 "com/example/postlatch/postlatch/WalkStarts" "floor" "J" (.long (0 : Int64)) := D15 (Or.inl (hw _ (List.mem_of_getElem? (i := 36) rfl))) (ty := .long) (by decide)
  have Fb15_sample_0 : Fld Z h15 b15 "com/example/postlatch/postlatch/WalkStarts" "sample" "J" (.long (0 : Int64)) := D15 (Or.inl (hw _ (List.mem_of_getElem? (i := 38) rfl))) (ty := .long) (by decide)
  refine g_dup X15 hx hby at_167 rfl 168 rfl ?_
  refine g_lload X15 hx hby at_168 rfl 170 rfl ?_
  refine g_lloadN X15 hx hby at_170 rfl 171 rfl ?_
  refine g_special X15 hx hby hZ hown rfl (hw _ (List.mem_of_getElem? (i := 10) rfl)) (hw _ (List.mem_of_getElem? (i := 11) rfl)) (hw _ (List.mem_of_getElem? (i := 9) rfl)) (hw _ (List.mem_of_getElem? (i := 12) rfl)) at_171 b15 [(.long iv), (.long t0)] [(.ref b15)] (rm2 l Z a0 hw [] b15 iv t0 h15 n0 Z15 A15 Fb15_intervalNanos_0 Fb15_lowestAt_0 Fb15_sampledAt_0 Fb15_newest_0 Fb15_floor_0 Fb15_sample_0 gn_b15) e15 rfl (by rw [hml]; rfl) pd1 rfl (by decide) 1 (Nat.le_of_eq rfl) (by decide) (by decide) (by decide) (by decide) 174 rfl ?_
  intro T16 v16 L16 X16 Q16
  obtain ⟨rfl, N16', K16', P16x0, P16x1, P16x2, P16x3, P16x4, P16x5, P16x6⟩ := Q16
  have N16 := Fr.app N2 N16'
  have Z16 : n0 ≤ T16.heap.size := Nat.le_trans Z15 K16'.1
  have A15_16 := A15.keep K16'
  show Goes p e below _ (T16.setTop (mkF m 174 _ [(.ref b15)]))
  refine g_astore X16 hx hby at_174 rfl #[.val (.long pIv), .second, .val (.long t0), .second, .val (.long x1), .second, .val (.long x2), .second, .val (.long aa), .second, .val (.long bb), .second, .val (.long iv), .second, .val (.long sp), .second, .val (.long g1'), .second, .val (.long g2'), .second, .val (.long t1), .second, .val (.long t2), .second, .val (.long ma), .second, .val (.long mb), .second, .val (.int sh1), .val (.int lw2), .val (.long xf), .second, .val (.long xs), .second, .val (.long xd), .second, .val (.ref b15), .unset, .unset, .unset, .unset, .unset, .unset, .unset, .unset, .unset, .unset, .unset, .unset, .unset, .unset] rfl 176 rfl ?_
  refine g_aload X16 hx hby at_176 rfl rfl 178 rfl ?_
  refine g_lload X16 hx hby at_178 rfl 180 rfl ?_
  refine g_virtual X16 hx hby hZ hown (hw _ (List.mem_of_getElem? (i := 22) rfl)) (hw _ (List.mem_of_getElem? (i := 23) rfl)) (notFace_of_selects (args := #[]) (mvT hZ (hw _ (List.mem_of_getElem? (i := 25) rfl)))) (hw _ (List.mem_of_getElem? (i := 25) rfl)) (hw _ (List.mem_of_getElem? (i := 24) rfl)) (hw _ (List.mem_of_getElem? (i := 9) rfl)) (hw _ (List.mem_of_getElem? (i := 26) rfl)) at_180 b15 P16x0 [(.long aa)] [] (rm4 l Z a0 hw [] b15 aa iv (t0 - iv) t0 (0 : Int64) (0 : Int64) (0 : Int64) T16.heap n0 Z16 P16x0 P16x1 P16x2 P16x3 P16x4 P16x5 P16x6 gn_b15) rfl rfl (by rw [hml]; rfl) pd2 rfl (by decide) 0 (Nat.le_of_eq rfl) (by decide) (by decide) (by decide) (by decide) 183 rfl ?_
  intro T17 v17 L17 X17 Q17
  obtain ⟨rfl, N17', K17', P17x0, P17x1, P17x2, P17x3, P17x4, P17x5, P17x6⟩ := Q17
  have N17 := Fr.app N16 N17'
  have Z17 : n0 ≤ T17.heap.size := Nat.le_trans Z16 K17'.1
  have P16x0_17 := P16x0.keep K17'
  show Goes p e below _ (T17.setTop (mkF m 183 _ []))
  refine g_aload X17 hx hby at_183 rfl rfl 185 rfl ?_
  refine g_lload X17 hx hby at_185 rfl 187 rfl ?_
  refine g_virtual X17 hx hby hZ hown (hw _ (List.mem_of_getElem? (i := 30) rfl)) (hw _ (List.mem_of_getElem? (i := 31) rfl)) (notFace_of_selects (args := #[]) (mvT hZ (hw _ (List.mem_of_getElem? (i := 33) rfl)))) (hw _ (List.mem_of_getElem? (i := 33) rfl)) (hw _ (List.mem_of_getElem? (i := 32) rfl)) (hw _ (List.mem_of_getElem? (i := 9) rfl)) (hw _ (List.mem_of_getElem? (i := 34) rfl)) at_187 b15 P17x0 [(.long t1)] [] (rm5 l Z a0 hw [] b15 t1 iv (t0 - iv) t0 (maxJ (0 : Int64) aa) (0 : Int64) (0 : Int64) T17.heap n0 Z17 P17x0 P17x1 P17x2 P17x3 P17x4 P17x5 P17x6 gn_b15) rfl rfl (by rw [hml]; rfl) pd3 rfl (by decide) 0 (Nat.le_of_eq rfl) (by decide) (by decide) (by decide) (by decide) 190 rfl ?_
  intro T18 v18 L18 X18 Q18
  obtain ⟨rfl, N18', K18', P18x0, P18x1, P18x2, P18x3, P18x4, P18x5, P18x6⟩ := Q18
  have N18 := Fr.app N17 N18'
  have Z18 : n0 ≤ T18.heap.size := Nat.le_trans Z17 K18'.1
  have P17x0_18 := P17x0.keep K18'
  obtain ⟨lo1, hlo1⟩ : ∃ z : Int64, ((if (t1 - (t0 - iv)) < iv then (t0 - iv) else t1)) = z := ⟨_, rfl⟩
  rw [hlo1] at P18x2
  obtain ⟨sa1, hsa1⟩ : ∃ z : Int64, ((if (t1 - (t0 - iv)) < iv then t0 else (if (t1 - t0) < iv then t0 else t1))) = z := ⟨_, rfl⟩
  rw [hsa1] at P18x3
  obtain ⟨fl1, hfl1⟩ : ∃ z : Int64, ((if (t1 - (t0 - iv)) < iv then (0 : Int64) else (if (t1 - t0) < iv then (0 : Int64) else (0 : Int64)))) = z := ⟨_, rfl⟩
  rw [hfl1] at P18x5
  obtain ⟨sm1, hsm1⟩ : ∃ z : Int64, ((if (t1 - (t0 - iv)) < iv then (0 : Int64) else (if (t1 - t0) < iv then (0 : Int64) else (maxJ (0 : Int64) aa)))) = z := ⟨_, rfl⟩
  rw [hsm1] at P18x6
  show Goes p e below _ (T18.setTop (mkF m 190 _ [(.long ((if (t1 - (t0 - iv)) < iv then (0 : Int64) else (0 : Int64))))]))
  obtain ⟨r1, hr1⟩ : ∃ z : Int64, ((if (t1 - (t0 - iv)) < iv then (0 : Int64) else (0 : Int64))) = z := ⟨_, rfl⟩
  refine g_lstore X18 hx hby at_190 r1 hr1 #[.val (.long pIv), .second, .val (.long t0), .second, .val (.long x1), .second, .val (.long x2), .second, .val (.long aa), .second, .val (.long bb), .second, .val (.long iv), .second, .val (.long sp), .second, .val (.long g1'), .second, .val (.long g2'), .second, .val (.long t1), .second, .val (.long t2), .second, .val (.long ma), .second, .val (.long mb), .second, .val (.int sh1), .val (.int lw2), .val (.long xf), .second, .val (.long xs), .second, .val (.long xd), .second, .val (.ref b15), .val (.long r1), .second, .unset, .unset, .unset, .unset, .unset, .unset, .unset, .unset, .unset, .unset, .unset, .unset] rfl 192 rfl ?_
  refine g_aload X18 hx hby at_192 rfl rfl 194 rfl ?_
  refine g_lload X18 hx hby at_194 rfl 196 rfl ?_
  refine g_virtual X18 hx hby hZ hown (hw _ (List.mem_of_getElem? (i := 22) rfl)) (hw _ (List.mem_of_getElem? (i := 23) rfl)) (notFace_of_selects (args := #[]) (mvT hZ (hw _ (List.mem_of_getElem? (i := 25) rfl)))) (hw _ (List.mem_of_getElem? (i := 25) rfl)) (hw _ (List.mem_of_getElem? (i := 24) rfl)) (hw _ (List.mem_of_getElem? (i := 9) rfl)) (hw _ (List.mem_of_getElem? (i := 26) rfl)) at_196 b15 P18x0 [(.long bb)] [] (rm4 l Z a0 hw [] b15 bb iv lo1 sa1 (maxJ (0 : Int64) aa) fl1 sm1 T18.heap n0 Z18 P18x0 P18x1 P18x2 P18x3 P18x4 P18x5 P18x6 gn_b15) rfl rfl (by rw [hml]; rfl) pd2 rfl (by decide) 0 (Nat.le_of_eq rfl) (by decide) (by decide) (by decide) (by decide) 199 rfl ?_
  intro T19 v19 L19 X19 Q19
  obtain ⟨rfl, N19', K19', P19x0, P19x1, P19x2, P19x3, P19x4, P19x5, P19x6⟩ := Q19
  have N19 := Fr.app N18 N19'
  have Z19 : n0 ≤ T19.heap.size := Nat.le_trans Z18 K19'.1
  have P18x0_19 := P18x0.keep K19'
  show Goes p e below _ (T19.setTop (mkF m 199 _ []))
  refine g_aload X19 hx hby at_199 rfl rfl 201 rfl ?_
  refine g_lload X19 hx hby at_201 rfl 203 rfl ?_
  refine g_virtual X19 hx hby hZ hown (hw _ (List.mem_of_getElem? (i := 30) rfl)) (hw _ (List.mem_of_getElem? (i := 31) rfl)) (notFace_of_selects (args := #[]) (mvT hZ (hw _ (List.mem_of_getElem? (i := 33) rfl)))) (hw _ (List.mem_of_getElem? (i := 33) rfl)) (hw _ (List.mem_of_getElem? (i := 32) rfl)) (hw _ (List.mem_of_getElem? (i := 9) rfl)) (hw _ (List.mem_of_getElem? (i := 34) rfl)) at_203 b15 P19x0 [(.long t2)] [] (rm5 l Z a0 hw [] b15 t2 iv lo1 sa1 (maxJ (maxJ (0 : Int64) aa) bb) fl1 sm1 T19.heap n0 Z19 P19x0 P19x1 P19x2 P19x3 P19x4 P19x5 P19x6 gn_b15) rfl rfl (by rw [hml]; rfl) pd3 rfl (by decide) 0 (Nat.le_of_eq rfl) (by decide) (by decide) (by decide) (by decide) 206 rfl ?_
  intro T20 v20 L20 X20 Q20
  obtain ⟨rfl, N20', K20', P20x0, P20x1, P20x2, P20x3, P20x4, P20x5, P20x6⟩ := Q20
  have N20 := Fr.app N19 N20'
  have Z20 : n0 ≤ T20.heap.size := Nat.le_trans Z19 K20'.1
  have P19x0_20 := P19x0.keep K20'
  obtain ⟨lo2, hlo2⟩ : ∃ z : Int64, ((if (t2 - lo1) < iv then lo1 else t2)) = z := ⟨_, rfl⟩
  rw [hlo2] at P20x2
  obtain ⟨sa2, hsa2⟩ : ∃ z : Int64, ((if (t2 - lo1) < iv then sa1 else (if (t2 - sa1) < iv then sa1 else t2))) = z := ⟨_, rfl⟩
  rw [hsa2] at P20x3
  obtain ⟨fl2, hfl2⟩ : ∃ z : Int64, ((if (t2 - lo1) < iv then fl1 else (if (t2 - sa1) < iv then fl1 else sm1))) = z := ⟨_, rfl⟩
  rw [hfl2] at P20x5
  obtain ⟨sm2, hsm2⟩ : ∃ z : Int64, ((if (t2 - lo1) < iv then sm1 else (if (t2 - sa1) < iv then sm1 else (maxJ (maxJ (0 : Int64) aa) bb)))) = z := ⟨_, rfl⟩
  rw [hsm2] at P20x6
  show Goes p e below _ (T20.setTop (mkF m 206 _ [(.long ((if (t2 - lo1) < iv then fl1 else (0 : Int64))))]))
  obtain ⟨r2, hr2⟩ : ∃ z : Int64, ((if (t2 - lo1) < iv then fl1 else (0 : Int64))) = z := ⟨_, rfl⟩
  refine g_lstore X20 hx hby at_206 r2 hr2 #[.val (.long pIv), .second, .val (.long t0), .second, .val (.long x1), .second, .val (.long x2), .second, .val (.long aa), .second, .val (.long bb), .second, .val (.long iv), .second, .val (.long sp), .second, .val (.long g1'), .second, .val (.long g2'), .second, .val (.long t1), .second, .val (.long t2), .second, .val (.long ma), .second, .val (.long mb), .second, .val (.int sh1), .val (.int lw2), .val (.long xf), .second, .val (.long xs), .second, .val (.long xd), .second, .val (.ref b15), .val (.long r1), .second, .val (.long r2), .second, .unset, .unset, .unset, .unset, .unset, .unset, .unset, .unset, .unset, .unset] rfl 208 rfl ?_
  refine g_aload X20 hx hby at_208 rfl rfl 210 rfl ?_
  refine g_virtual X20 hx hby hZ hown (hw _ (List.mem_of_getElem? (i := 39) rfl)) (hw _ (List.mem_of_getElem? (i := 40) rfl)) (notFace_of_selects (args := #[]) (mvT hZ (hw _ (List.mem_of_getElem? (i := 42) rfl)))) (hw _ (List.mem_of_getElem? (i := 42) rfl)) (hw _ (List.mem_of_getElem? (i := 41) rfl)) (hw _ (List.mem_of_getElem? (i := 9) rfl)) (hw _ (List.mem_of_getElem? (i := 43) rfl)) at_210 b15 P20x0 [] [] (rm6 l Z a0 hw [] b15 iv lo2 T20.heap n0 Z20 P20x1 P20x2) rfl rfl (by rw [hml]; rfl) pd4 rfl (by decide) 0 (Nat.le_of_eq rfl) (by decide) (by decide) (by decide) (by decide) 213 rfl ?_
  intro T21 v21 L21 X21 Q21
  obtain ⟨rfl, N21', e21⟩ := Q21
  have N21 := Fr.app N20 N21'
  show Goes p e below _ (T21.setTop (mkF m 213 _ [(.long (due iv lo2))]))
  obtain ⟨du2, hdu2⟩ : ∃ z : Int64, (due iv lo2) = z := ⟨_, rfl⟩
  refine g_lstore X21 hx hby at_213 du2 hdu2 #[.val (.long pIv), .second, .val (.long t0), .second, .val (.long x1), .second, .val (.long x2), .second, .val (.long aa), .second, .val (.long bb), .second, .val (.long iv), .second, .val (.long sp), .second, .val (.long g1'), .second, .val (.long g2'), .second, .val (.long t1), .second, .val (.long t2), .second, .val (.long ma), .second, .val (.long mb), .second, .val (.int sh1), .val (.int lw2), .val (.long xf), .second, .val (.long xs), .second, .val (.long xd), .second, .val (.ref b15), .val (.long r1), .second, .val (.long r2), .second, .val (.long du2), .second, .unset, .unset, .unset, .unset, .unset, .unset, .unset, .unset] rfl 215 rfl ?_
  refine g_aload X21 hx hby at_215 rfl rfl 217 rfl ?_
  refine g_lload X21 hx hby at_217 rfl 219 rfl ?_
  refine g_virtual X21 hx hby hZ hown (hw _ (List.mem_of_getElem? (i := 30) rfl)) (hw _ (List.mem_of_getElem? (i := 31) rfl)) (notFace_of_selects (args := #[]) (mvT hZ (hw _ (List.mem_of_getElem? (i := 33) rfl)))) (hw _ (List.mem_of_getElem? (i := 33) rfl)) (hw _ (List.mem_of_getElem? (i := 32) rfl)) (hw _ (List.mem_of_getElem? (i := 9) rfl)) (hw _ (List.mem_of_getElem? (i := 34) rfl)) at_219 b15 P20x0 [(.long t2)] [] (rm5 l Z a0 hw [] b15 t2 iv lo2 sa2 (maxJ (maxJ (0 : Int64) aa) bb) fl2 sm2 T20.heap n0 Z20 P20x0 P20x1 P20x2 P20x3 P20x4 P20x5 P20x6 gn_b15) e21 rfl (by rw [hml]; rfl) pd3 rfl (by decide) 0 (Nat.le_of_eq rfl) (by decide) (by decide) (by decide) (by decide) 222 rfl ?_
  intro T22 v22 L22 X22 Q22
  obtain ⟨rfl, N22', K22', P22x0, P22x1, P22x2, P22x3, P22x4, P22x5, P22x6⟩ := Q22
  have N22 := Fr.app N21 N22'
  have Z22 : n0 ≤ T22.heap.size := Nat.le_trans Z20 K22'.1
  have P20x0_22 := P20x0.keep K22'
  obtain ⟨lo3, hlo3⟩ : ∃ z : Int64, ((if (t2 - lo2) < iv then lo2 else t2)) = z := ⟨_, rfl⟩
  rw [hlo3] at P22x2
  obtain ⟨sa3, hsa3⟩ : ∃ z : Int64, ((if (t2 - lo2) < iv then sa2 else (if (t2 - sa2) < iv then sa2 else t2))) = z := ⟨_, rfl⟩
  rw [hsa3] at P22x3
  obtain ⟨fl3, hfl3⟩ : ∃ z : Int64, ((if (t2 - lo2) < iv then fl2 else (if (t2 - sa2) < iv then fl2 else sm2))) = z := ⟨_, rfl⟩
  rw [hfl3] at P22x5
  obtain ⟨sm3, hsm3⟩ : ∃ z : Int64, ((if (t2 - lo2) < iv then sm2 else (if (t2 - sa2) < iv then sm2 else (maxJ (maxJ (0 : Int64) aa) bb)))) = z := ⟨_, rfl⟩
  rw [hsm3] at P22x6
  show Goes p e below _ (T22.setTop (mkF m 222 _ [(.long ((if (t2 - lo2) < iv then fl2 else (0 : Int64))))]))
  obtain ⟨r3, hr3⟩ : ∃ z : Int64, ((if (t2 - lo2) < iv then fl2 else (0 : Int64))) = z := ⟨_, rfl⟩
  refine g_lstore X22 hx hby at_222 r3 hr3 #[.val (.long pIv), .second, .val (.long t0), .second, .val (.long x1), .second, .val (.long x2), .second, .val (.long aa), .second, .val (.long bb), .second, .val (.long iv), .second, .val (.long sp), .second, .val (.long g1'), .second, .val (.long g2'), .second, .val (.long t1), .second, .val (.long t2), .second, .val (.long ma), .second, .val (.long mb), .second, .val (.int sh1), .val (.int lw2), .val (.long xf), .second, .val (.long xs), .second, .val (.long xd), .second, .val (.ref b15), .val (.long r1), .second, .val (.long r2), .second, .val (.long du2), .second, .val (.long r3), .second, .unset, .unset, .unset, .unset, .unset, .unset] rfl 224 rfl ?_
  refine g_aload X22 hx hby at_224 rfl rfl 226 rfl ?_
  refine g_lload X22 hx hby at_226 rfl 228 rfl ?_
  refine g_lload X22 hx hby at_228 rfl 230 rfl ?_
  refine g_ladd X22 hx hby at_230 231 rfl ?_
  refine g_virtual X22 hx hby hZ hown (hw _ (List.mem_of_getElem? (i := 30) rfl)) (hw _ (List.mem_of_getElem? (i := 31) rfl)) (notFace_of_selects (args := #[]) (mvT hZ (hw _ (List.mem_of_getElem? (i := 33) rfl)))) (hw _ (List.mem_of_getElem? (i := 33) rfl)) (hw _ (List.mem_of_getElem? (i := 32) rfl)) (hw _ (List.mem_of_getElem? (i := 9) rfl)) (hw _ (List.mem_of_getElem? (i := 34) rfl)) at_231 b15 P22x0 [(.long (t2 + iv))] [] (rm5 l Z a0 hw [] b15 (t2 + iv) iv lo3 sa3 (maxJ (maxJ (0 : Int64) aa) bb) fl3 sm3 T22.heap n0 Z22 P22x0 P22x1 P22x2 P22x3 P22x4 P22x5 P22x6 gn_b15) rfl rfl (by rw [hml]; rfl) pd3 rfl (by decide) 0 (Nat.le_of_eq rfl) (by decide) (by decide) (by decide) (by decide) 234 rfl ?_
  intro T23 v23 L23 X23 Q23
  obtain ⟨rfl, N23', K23', P23x0, P23x1, P23x2, P23x3, P23x4, P23x5, P23x6⟩ := Q23
  have N23 := Fr.app N22 N23'
  have Z23 : n0 ≤ T23.heap.size := Nat.le_trans Z22 K23'.1
  have P22x0_23 := P22x0.keep K23'
  obtain ⟨lo4, hlo4⟩ : ∃ z : Int64, ((if ((t2 + iv) - lo3) < iv then lo3 else (t2 + iv))) = z := ⟨_, rfl⟩
  rw [hlo4] at P23x2
  obtain ⟨sa4, hsa4⟩ : ∃ z : Int64, ((if ((t2 + iv) - lo3) < iv then sa3 else (if ((t2 + iv) - sa3) < iv then sa3 else (t2 + iv)))) = z := ⟨_, rfl⟩
  rw [hsa4] at P23x3
  obtain ⟨fl4, hfl4⟩ : ∃ z : Int64, ((if ((t2 + iv) - lo3) < iv then fl3 else (if ((t2 + iv) - sa3) < iv then fl3 else sm3))) = z := ⟨_, rfl⟩
  rw [hfl4] at P23x5
  obtain ⟨sm4, hsm4⟩ : ∃ z : Int64, ((if ((t2 + iv) - lo3) < iv then sm3 else (if ((t2 + iv) - sa3) < iv then sm3 else (maxJ (maxJ (0 : Int64) aa) bb)))) = z := ⟨_, rfl⟩
  rw [hsm4] at P23x6
  show Goes p e below _ (T23.setTop (mkF m 234 _ [(.long ((if ((t2 + iv) - lo3) < iv then fl3 else (0 : Int64))))]))
  obtain ⟨r4, hr4⟩ : ∃ z : Int64, ((if ((t2 + iv) - lo3) < iv then fl3 else (0 : Int64))) = z := ⟨_, rfl⟩
  refine g_lstore X23 hx hby at_234 r4 hr4 #[.val (.long pIv), .second, .val (.long t0), .second, .val (.long x1), .second, .val (.long x2), .second, .val (.long aa), .second, .val (.long bb), .second, .val (.long iv), .second, .val (.long sp), .second, .val (.long g1'), .second, .val (.long g2'), .second, .val (.long t1), .second, .val (.long t2), .second, .val (.long ma), .second, .val (.long mb), .second, .val (.int sh1), .val (.int lw2), .val (.long xf), .second, .val (.long xs), .second, .val (.long xd), .second, .val (.ref b15), .val (.long r1), .second, .val (.long r2), .second, .val (.long du2), .second, .val (.long r3), .second, .val (.long r4), .second, .unset, .unset, .unset, .unset] rfl 236 rfl ?_
  refine g_aload X23 hx hby at_236 rfl rfl 238 rfl ?_
  refine g_virtual X23 hx hby hZ hown (hw _ (List.mem_of_getElem? (i := 39) rfl)) (hw _ (List.mem_of_getElem? (i := 40) rfl)) (notFace_of_selects (args := #[]) (mvT hZ (hw _ (List.mem_of_getElem? (i := 42) rfl)))) (hw _ (List.mem_of_getElem? (i := 42) rfl)) (hw _ (List.mem_of_getElem? (i := 41) rfl)) (hw _ (List.mem_of_getElem? (i := 9) rfl)) (hw _ (List.mem_of_getElem? (i := 43) rfl)) at_238 b15 P23x0 [] [] (rm6 l Z a0 hw [] b15 iv lo4 T23.heap n0 Z23 P23x1 P23x2) rfl rfl (by rw [hml]; rfl) pd4 rfl (by decide) 0 (Nat.le_of_eq rfl) (by decide) (by decide) (by decide) (by decide) 241 rfl ?_
  intro T24 v24 L24 X24 Q24
  obtain ⟨rfl, N24', e24⟩ := Q24
  have N24 := Fr.app N23 N24'
  show Goes p e below _ (T24.setTop (mkF m 241 _ [(.long (due iv lo4))]))
  obtain ⟨du4, hdu4⟩ : ∃ z : Int64, (due iv lo4) = z := ⟨_, rfl⟩
  refine g_lstore X24 hx hby at_241 du4 hdu4 #[.val (.long pIv), .second, .val (.long t0), .second, .val (.long x1), .second, .val (.long x2), .second, .val (.long aa), .second, .val (.long bb), .second, .val (.long iv), .second, .val (.long sp), .second, .val (.long g1'), .second, .val (.long g2'), .second, .val (.long t1), .second, .val (.long t2), .second, .val (.long ma), .second, .val (.long mb), .second, .val (.int sh1), .val (.int lw2), .val (.long xf), .second, .val (.long xs), .second, .val (.long xd), .second, .val (.ref b15), .val (.long r1), .second, .val (.long r2), .second, .val (.long du2), .second, .val (.long r3), .second, .val (.long r4), .second, .val (.long du4), .second, .unset, .unset] rfl 243 rfl ?_
  refine g_aload X24 hx hby at_243 rfl rfl 245 rfl ?_
  refine g_lload X24 hx hby at_245 rfl 247 rfl ?_
  refine g_lload X24 hx hby at_247 rfl 249 rfl ?_
  refine g_ladd X24 hx hby at_249 250 rfl ?_
  refine g_virtual X24 hx hby hZ hown (hw _ (List.mem_of_getElem? (i := 30) rfl)) (hw _ (List.mem_of_getElem? (i := 31) rfl)) (notFace_of_selects (args := #[]) (mvT hZ (hw _ (List.mem_of_getElem? (i := 33) rfl)))) (hw _ (List.mem_of_getElem? (i := 33) rfl)) (hw _ (List.mem_of_getElem? (i := 32) rfl)) (hw _ (List.mem_of_getElem? (i := 9) rfl)) (hw _ (List.mem_of_getElem? (i := 34) rfl)) at_250 b15 P23x0 [(.long (t2 + iv))] [] (rm5 l Z a0 hw [] b15 (t2 + iv) iv lo4 sa4 (maxJ (maxJ (0 : Int64) aa) bb) fl4 sm4 T23.heap n0 Z23 P23x0 P23x1 P23x2 P23x3 P23x4 P23x5 P23x6 gn_b15) e24 rfl (by rw [hml]; rfl) pd3 rfl (by decide) 0 (Nat.le_of_eq rfl) (by decide) (by decide) (by decide) (by decide) 253 rfl ?_
  intro T25 v25 L25 X25 Q25
  obtain ⟨rfl, N25', K25', P25x0, P25x1, P25x2, P25x3, P25x4, P25x5, P25x6⟩ := Q25
  have N25 := Fr.app N24 N25'
  have Z25 : n0 ≤ T25.heap.size := Nat.le_trans Z23 K25'.1
  have P23x0_25 := P23x0.keep K25'
  obtain ⟨lo5, hlo5⟩ : ∃ z : Int64, ((if ((t2 + iv) - lo4) < iv then lo4 else (t2 + iv))) = z := ⟨_, rfl⟩
  rw [hlo5] at P25x2
  obtain ⟨sa5, hsa5⟩ : ∃ z : Int64, ((if ((t2 + iv) - lo4) < iv then sa4 else (if ((t2 + iv) - sa4) < iv then sa4 else (t2 + iv)))) = z := ⟨_, rfl⟩
  rw [hsa5] at P25x3
  obtain ⟨fl5, hfl5⟩ : ∃ z : Int64, ((if ((t2 + iv) - lo4) < iv then fl4 else (if ((t2 + iv) - sa4) < iv then fl4 else sm4))) = z := ⟨_, rfl⟩
  rw [hfl5] at P25x5
  obtain ⟨sm5, hsm5⟩ : ∃ z : Int64, ((if ((t2 + iv) - lo4) < iv then sm4 else (if ((t2 + iv) - sa4) < iv then sm4 else (maxJ (maxJ (0 : Int64) aa) bb)))) = z := ⟨_, rfl⟩
  rw [hsm5] at P25x6
  show Goes p e below _ (T25.setTop (mkF m 253 _ [(.long ((if ((t2 + iv) - lo4) < iv then fl4 else (0 : Int64))))]))
  obtain ⟨r5, hr5⟩ : ∃ z : Int64, ((if ((t2 + iv) - lo4) < iv then fl4 else (0 : Int64))) = z := ⟨_, rfl⟩
  refine g_lstore X25 hx hby at_253 r5 hr5 #[.val (.long pIv), .second, .val (.long t0), .second, .val (.long x1), .second, .val (.long x2), .second, .val (.long aa), .second, .val (.long bb), .second, .val (.long iv), .second, .val (.long sp), .second, .val (.long g1'), .second, .val (.long g2'), .second, .val (.long t1), .second, .val (.long t2), .second, .val (.long ma), .second, .val (.long mb), .second, .val (.int sh1), .val (.int lw2), .val (.long xf), .second, .val (.long xs), .second, .val (.long xd), .second, .val (.ref b15), .val (.long r1), .second, .val (.long r2), .second, .val (.long du2), .second, .val (.long r3), .second, .val (.long r4), .second, .val (.long du4), .second, .val (.long r5), .second] rfl 255 rfl ?_
  have hall := own_all hiv hsp hg1' hg2' ht1 ht2 hsh1 hlw2 hxf hxs hxd hlo1 hsa1 hfl1 (by rw [← hma]; exact hsm1) hr1 hlo2 hsa2 hfl2 (by first | exact hsm2 | (rw [← hmb, ← hma]; exact hsm2) | (rw [← hmb, ← hma]; done)) hr2 hdu2 hlo3 hsa3 hfl3 (by first | exact hsm3 | (rw [← hmb, ← hma]; exact hsm3) | (rw [← hmb, ← hma]; done)) hr3 hlo4 hsa4 hfl4 (by first | exact hsm4 | (rw [← hmb, ← hma]; exact hsm4) | (rw [← hmb, ← hma]; done)) hr4 hdu4 hlo5 hsa5 hfl5 (by first | exact hsm5 | (rw [← hmb, ← hma]; exact hsm5) | (rw [← hmb, ← hma]; done)) hr5
  refine g_lload X25 hx hby at_255 rfl 257 rfl ?_
  refine g_lconst X25 hx hby at_257 (0 : Int64) rfl 258 rfl ?_
  refine g_lcmp_ne X25 hx hby at_258 at_259 319 262 rfl (by decide) (by decide) rfl (fun _ => ?_) (fun q => absurd hall.1 q)
  refine g_lload X25 hx hby at_262 rfl 264 rfl ?_
  refine g_lconst X25 hx hby at_264 (0 : Int64) rfl 265 rfl ?_
  refine g_lcmp_ne X25 hx hby at_265 at_266 319 269 rfl (by decide) (by decide) rfl (fun _ => ?_) (fun q => absurd hall.2.1 q)
  refine g_lload X25 hx hby at_269 rfl 271 rfl ?_
  refine g_lload X25 hx hby at_271 rfl 273 rfl ?_
  refine g_lcmp_ne X25 hx hby at_273 at_274 319 277 rfl (by decide) (by decide) rfl (fun _ => ?_) (fun q => absurd hall.2.2.1 q)
  refine g_lload X25 hx hby at_277 rfl 279 rfl ?_
  refine g_lload X25 hx hby at_279 rfl 281 rfl ?_
  refine g_lcmp_ne X25 hx hby at_281 at_282 319 285 rfl (by decide) (by decide) rfl (fun _ => ?_) (fun q => absurd hall.2.2.2.1 q)
  refine g_lload X25 hx hby at_285 rfl 287 rfl ?_
  refine g_lconst X25 hx hby at_287 (0 : Int64) rfl 288 rfl ?_
  refine g_lcmp_ne X25 hx hby at_288 at_289 319 292 rfl (by decide) (by decide) rfl (fun _ => ?_) (fun q => absurd hall.2.2.2.2.1 q)
  refine g_lload X25 hx hby at_292 rfl 294 rfl ?_
  refine g_lload X25 hx hby at_294 rfl 296 rfl ?_
  refine g_ldc2 X25 hx hby hZ hown (hw _ (List.mem_of_getElem? (i := 44) rfl)) at_296 299 rfl ?_
  refine g_lload X25 hx hby at_299 rfl 301 rfl ?_
  refine g_lmul X25 hx hby at_301 302 rfl ?_
  refine g_ladd X25 hx hby at_302 303 rfl ?_
  refine g_lcmp_ne X25 hx hby at_303 at_304 319 307 rfl (by decide) (by decide) rfl (fun _ => ?_) (fun q => absurd hall.2.2.2.2.2.1 q)
  refine g_lload X25 hx hby at_307 rfl 309 rfl ?_
  refine g_lload X25 hx hby at_309 rfl 311 rfl ?_
  refine g_lcmp_ne X25 hx hby at_311 at_312 319 315 rfl (by decide) (by decide) rfl (fun _ => ?_) (fun q => absurd hall.2.2.2.2.2.2 q)
  refine g_iconst X25 hx hby at_315 (1 : Int32) rfl 316 rfl ?_
  refine g_goto X25 hx hby at_316 320 (by decide) (by decide) ?_
  exact g_ireturn X25 hx hby hret hlk (Or.inr (Or.inl rfl)) (nar_bool (Or.inr rfl)) at_320 ⟨rfl, N25⟩ (by decide) (by decide)
set_option maxRecDepth 65536 in
set_option maxHeartbeats 40000000 in
theorem comes_1 {Post : Tables → Env → Array Value → State → Outcome → State → Prop} (hpost : ∀ tb e args s v u, (limb_1_1.after args s (.returned v) u = true ∧ limb_1_2.after args s (.returned v) u = true ∧ True) → FrameEnd s (.returned v) u (Jvm.fieldLocs frame_1_writes args s ++ Jvm.arrayLocs frame_1_arrays args s ++ Jvm.staticLocs frame_1_statics s) 16 128 → Post tb e args s (.returned v) u) :
    ArmFor flags0 classFile x code maxLocals ret World_1 tables_1 room_1 Calls_1 rest_1 Pre_1 Post := by
  intro l hfl _ _ p e ha hc hk s m args below hf hA hF happ hP
  obtain ⟨hcalls, hrest, hpre⟩ := hP
  obtain ⟨-, -, -, hnamed, -, -, -, hat⟩ := (Spec.applies_iff hf).mp happ
  obtain ⟨hg, hn⟩ := and_e (Cond.before_iff.mp (show (Jvm.Cond.and given_1 narrow_1).before args s = true from hpre))
  obtain ⟨q0, r0⟩ := and_e hg
  obtain ⟨q1, r1⟩ := and_e r0
  obtain ⟨q2, r2⟩ := and_e r1
  obtain ⟨q3, r3⟩ := and_e r2
  obtain ⟨q4, r4⟩ := and_e r3
  obtain ⟨q5, r5⟩ := and_e r4
  obtain ⟨w0, w1, w2, w3, w4, w5, rfl⟩ : ∃ w0 w1 w2 w3 w4 w5 : Value, args = #[w0, w1, w2, w3, w4, w5] := by
    have hs : args.size = 6 := by simpa [Cond.value, given_1] using q0
    obtain ⟨L⟩ := args
    match L, hs with
    | [w0, w1, w2, w3, w4, w5], _ => exact ⟨w0, w1, w2, w3, w4, w5, rfl⟩
  have hw := fun d (hd : d ∈ tables_1) => atoms_spec (ws := Jvm.Cond.code x code maxLocals ret :: tables_1) hat d (List.mem_cons_of_mem _ hd)
  obtain ⟨i0, ei0⟩ := isL_v q1
  obtain rfl : w0 = (.long i0) := Option.some.inj ei0
  obtain ⟨i1, ei1⟩ := isL_v q2
  obtain rfl : w1 = (.long i1) := Option.some.inj ei1
  obtain ⟨i2, ei2⟩ := isL_v q3
  obtain rfl : w2 = (.long i2) := Option.some.inj ei2
  obtain ⟨i3, ei3⟩ := isL_v q4
  obtain rfl : w3 = (.long i3) := Option.some.inj ei3
  obtain ⟨i4, ei4⟩ := isL_v q5
  obtain rfl : w4 = (.long i4) := Option.some.inj ei4
  obtain ⟨i5, ei5⟩ := isL_v r5
  obtain rfl : w5 = (.long i5) := Option.some.inj ei5
  obtain ⟨n, o, h1, h2, h3, _, L, rfl, ⟨rfl, N⟩, hq⟩ := rm0 l s _ hw tables_1 i0 i1 i2 i3 i4 i5 s.heap s.heap.size (Nat.le_refl _) p e ha hc hk s m _ below hf ((Spec.applies_iff_loose hf).mp happ).1 ⟨rfl, State.Warmed39.refl s, rfl⟩ trivial
  refine ⟨n, _, h1, h2, h3, hpost _ _ _ _ _ _ ⟨Cond.after_iff.mpr rfl, Cond.after_iff.mpr (eq_i res_at (Term.int_eval (1)) rfl), trivial⟩ ⟨hq.1, hq.2.1, (hq.2.2.sift fun y hy => Or.inr (N y hy)).mono (by decide) (by decide)⟩⟩
theorem main_1_1 : Claimed_1_1 := comes_1 fun _ _ _ _ _ _ h hF => ⟨h.1, hF⟩
theorem main_1_2 : Claimed_1_2 := comes_1 fun _ _ _ _ _ _ h hF => ⟨h.2.1, hF⟩
end Jvm.Pilot.@@N@@
namespace Jvm.Pilot.@@N@@
open Jvm Jvm.ClassFile Sem Op Lib Jvm.Free Jvm.Stand Jvm.Pilot.@@N@@.Jvm.D
/-! MADE BY PROGRAM (witnessworld.py) out of the Statement's table words and the real class files: 10 classes; the members and pool entries that the words name. The judged class is class 1, her method 1. -/
namespace start1
open Jvm.ClassFile
def u (s : String) : CpInfo := .utf8 (stringToUtf16 s)
/-- a pool by its gaps: so many unusable entries, then the entry; so many at the end -/
def gap : Nat → List CpInfo → List CpInfo
  | 0, r => r
  | n + 1, r => .unusable :: gap n r
def poolList (es : List (Nat × CpInfo)) (last : Nat) : List CpInfo := es.foldr (fun e r => gap e.1 (e.2 :: r)) (gap last [])
def pool (es : List (Nat × CpInfo)) (last : Nat) : Array CpInfo := ⟨poolList es last⟩
def fileOf (pool : Array CpInfo) (this : Nat) (attrs : Array Attribute := #[]) (ms : Array MethodInfo := #[]) (fl : Nat := 33) (sup : Nat := 0) (ifs : Array Nat := #[]) (fds : Array FieldInfo := #[]) : ClassFile where
  minorVersion := 0
  majorVersion := 65
  constantPool := pool
  accessFlags := fl
  thisClass := this
  superClass := sup
  interfaces := ifs
  fields := fds
  methods := ms
  attributes := attrs
def plain (name : String) (sup : Option ClassId) : Class where
  name := name
  kind := .ordinary
  loader := none
  accessFlags := 33
  super := sup
  interfaces := #[]
  cf := none
  fields := #[]
  methods := #[]
  instanceTypes := #[]
  staticTypes := #[]
  resolved := #[]
  callSites := []
  init := .initialized
  statics := none
  mirror := none

def pool0 : Array CpInfo := pool [(5, u "<init>"), (0, u "()V"), (1, .class_ 10), (1, u "java/lang/Object")] 113

def k0c0 : Code := { maxStack := 0, maxLocals := 1, code := object_method_1_code, exceptionTable := #[], attributes := #[] }
def k0m0 : Method := { name := "<init>", desc := "()V", sig := { parameters := [], returnType := none }, accessFlags := 1, code := some k0c0 }
/-- java/lang/Object -/
def k0 : Class := { plain "java/lang/Object" none with
  accessFlags := 33
  interfaces := #[]
  cf := some (fileOf pool0 8 #[] #[{ accessFlags := 1, nameIndex := 5, descriptorIndex := 6, attributes := #[] }] 33 0 #[] #[])
  fields := #[]
  methods := #[k0m0]
  instanceTypes := #[]
  staticTypes := #[]
  resolved := Array.replicate 124 none
  statics := none }

def pool1 : Array CpInfo := pool [(2, .class_ 4), (1, u "java/lang/Object"), (0, u "<init>"), (0, u "()V"), (0, .long 1099511627775), (1, .long 3), (3, .long 9223372036854775807), (1, .methodref 16 17), (0, .class_ 18), (0, .nameAndType 19 20), (0, u "java/lang/Math"), (0, u "max"), (0, u "(JJ)J"), (0, .class_ 22), (0, u "com/example/postlatch/postlatch/WalkStarts"), (0, .methodref 21 24), (0, .nameAndType 5 25), (0, u "(JJ)V"), (0, .methodref 21 27), (0, .nameAndType 28 29), (0, u "seen"), (0, u "(J)V"), (0, .methodref 21 31), (0, .nameAndType 32 33), (0, u "next"), (0, u "(J)J"), (0, .methodref 21 35), (0, .nameAndType 36 37), (0, u "lowestDue"), (0, u "()J"), (0, .long 2), (1, .class_ 41), (0, u "com/example/postlatch/postlatch/WalkStartsNextPinLaw"), (2, u "law"), (0, u "(JJJJJJ)Z")] 3

def k1m0 : Method := { name := "<init>", desc := "()V", sig := { parameters := [], returnType := none }, accessFlags := 1, code := none }
def k1c1 : Code := { maxStack := 8, maxLocals := 51, code := code, exceptionTable := #[], attributes := #[] }
def k1m1 : Method := { name := "law", desc := "(JJJJJJ)Z", sig := { parameters := [.long, .long, .long, .long, .long, .long], returnType := some .boolean }, accessFlags := 9, code := some k1c1 }
/-- com/example/postlatch/postlatch/WalkStartsNextPinLaw -/
def k1 : Class := { plain "com/example/postlatch/postlatch/WalkStartsNextPinLaw" (some 0) with
  accessFlags := 49
  interfaces := #[]
  cf := some (fileOf pool1 40 #[] #[{ accessFlags := 1, nameIndex := 5, descriptorIndex := 6, attributes := #[] }, { accessFlags := 9, nameIndex := 44, descriptorIndex := 45, attributes := #[] }] 49 2 #[] #[])
  fields := #[]
  methods := #[k1m0, k1m1]
  instanceTypes := #[]
  staticTypes := #[]
  resolved := Array.replicate 49 none
  statics := none }

def pool2 : Array CpInfo := pool [(1, .class_ 2), (0, u "java/lang/Math"), (1, .class_ 6), (1, u "java/lang/Object"), (0, u "<init>"), (0, u "()V"), (89, .class_ 100), (1, u "java/lang/Math$RandomNumberGeneratorHolder"), (20, u "(JJ)J"), (50, u "negativeZeroFloatBits"), (0, u "J"), (2, u "negativeZeroDoubleBits"), (21, u "max"), (46, u "$assertionsDisabled"), (0, u "Z"), (91, u "twoToTheDoubleScaleDown"), (0, u "D"), (4, u "twoToTheDoubleScaleUp"), (9, u "E"), (3, u "PI"), (2, u "TAU"), (2, u "DEGREES_TO_RADIANS"), (0, u "RADIANS_TO_DEGREES")] 94

def k2m0 : Method := { name := "<init>", desc := "()V", sig := { parameters := [], returnType := none }, accessFlags := 2, code := none }
def k2c1 : Code := { maxStack := 4, maxLocals := 4, code := jdk_29_method_66_code, exceptionTable := #[], attributes := #[] }
def k2m1 : Method := { name := "max", desc := "(JJ)J", sig := { parameters := [.long, .long], returnType := some .long }, accessFlags := 9, code := some k2c1 }
/-- java/lang/Math -/
def k2 : Class := { plain "java/lang/Math" (some 0) with
  accessFlags := 49
  interfaces := #[]
  cf := some (fileOf pool2 1 #[.nestMembers #[98]] #[{ accessFlags := 2, nameIndex := 7, descriptorIndex := 8, attributes := #[] }, { accessFlags := 9, nameIndex := 198, descriptorIndex := 121, attributes := #[] }] 49 4 #[] #[{ accessFlags := 25, nameIndex := 354, descriptorIndex := 339, attributes := #[] }, { accessFlags := 25, nameIndex := 358, descriptorIndex := 339, attributes := #[] }, { accessFlags := 25, nameIndex := 361, descriptorIndex := 339, attributes := #[] }, { accessFlags := 26, nameIndex := 364, descriptorIndex := 339, attributes := #[] }, { accessFlags := 26, nameIndex := 365, descriptorIndex := 339, attributes := #[] }, { accessFlags := 26, nameIndex := 172, descriptorIndex := 173, attributes := #[] }, { accessFlags := 26, nameIndex := 176, descriptorIndex := 173, attributes := #[] }, { accessFlags := 8, nameIndex := 344, descriptorIndex := 339, attributes := #[] }, { accessFlags := 8, nameIndex := 338, descriptorIndex := 339, attributes := #[] }, { accessFlags := 4120, nameIndex := 245, descriptorIndex := 246, attributes := #[] }])
  fields := #[{ name := "E", type := .double, accessFlags := 25, slot := 0, constantValue := 0 }, { name := "PI", type := .double, accessFlags := 25, slot := 1, constantValue := 0 }, { name := "TAU", type := .double, accessFlags := 25, slot := 2, constantValue := 0 }, { name := "DEGREES_TO_RADIANS", type := .double, accessFlags := 26, slot := 3, constantValue := 0 }, { name := "RADIANS_TO_DEGREES", type := .double, accessFlags := 26, slot := 4, constantValue := 0 }, { name := "negativeZeroFloatBits", type := .long, accessFlags := 26, slot := 5, constantValue := 0 }, { name := "negativeZeroDoubleBits", type := .long, accessFlags := 26, slot := 6, constantValue := 0 }, { name := "twoToTheDoubleScaleUp", type := .double, accessFlags := 8, slot := 7, constantValue := 0 }, { name := "twoToTheDoubleScaleDown", type := .double, accessFlags := 8, slot := 8, constantValue := 0 }, { name := "$assertionsDisabled", type := .boolean, accessFlags := 4120, slot := 9, constantValue := 0 }]
  methods := #[k2m0, k2m1]
  instanceTypes := #[]
  staticTypes := #[.double, .double, .double, .double, .double, .long, .long, .double, .double, .boolean]
  resolved := Array.replicate 460 none
  statics := none }

def pool3 : Array CpInfo := pool [(1, .methodref 2 3), (0, .class_ 4), (0, .nameAndType 5 6), (0, u "java/lang/Object"), (0, u "<init>"), (0, u "()V"), (0, .fieldref 8 9), (0, .class_ 10), (0, .nameAndType 11 12), (0, u "com/example/postlatch/postlatch/WalkStarts"), (0, u "intervalNanos"), (0, u "J"), (0, .fieldref 8 14), (0, .nameAndType 15 12), (0, u "lowestAt"), (0, .fieldref 8 17), (0, .nameAndType 18 12), (0, u "sampledAt"), (0, .fieldref 8 20), (0, .nameAndType 21 12), (0, u "newest"), (0, .methodref 23 24), (0, .class_ 25), (0, .nameAndType 26 27), (0, u "java/lang/Math"), (0, u "max"), (0, u "(JJ)J"), (0, .fieldref 8 29), (0, .nameAndType 30 12), (0, u "floor"), (0, .fieldref 8 32), (0, .nameAndType 33 12), (0, u "sample"), (0, u "(JJ)V"), (2, u "seen"), (0, u "(J)V"), (0, u "lowestDue"), (0, u "()J"), (0, u "next"), (0, u "(J)J")] 3

def k3c0 : Code := { maxStack := 5, maxLocals := 5, code := prog_43_method_1_code, exceptionTable := #[], attributes := #[] }
def k3m0 : Method := { name := "<init>", desc := "(JJ)V", sig := { parameters := [.long, .long], returnType := none }, accessFlags := 0, code := some k3c0 }
def k3c1 : Code := { maxStack := 5, maxLocals := 3, code := prog_43_method_2_code, exceptionTable := #[], attributes := #[] }
def k3m1 : Method := { name := "seen", desc := "(J)V", sig := { parameters := [.long], returnType := none }, accessFlags := 0, code := some k3c1 }
def k3c2 : Code := { maxStack := 4, maxLocals := 1, code := prog_43_method_3_code, exceptionTable := #[], attributes := #[] }
def k3m2 : Method := { name := "lowestDue", desc := "()J", sig := { parameters := [], returnType := some .long }, accessFlags := 0, code := some k3c2 }
def k3c3 : Code := { maxStack := 4, maxLocals := 5, code := prog_43_method_4_code, exceptionTable := #[], attributes := #[] }
def k3m3 : Method := { name := "next", desc := "(J)J", sig := { parameters := [.long], returnType := some .long }, accessFlags := 0, code := some k3c3 }
/-- com/example/postlatch/postlatch/WalkStarts -/
def k3 : Class := { plain "com/example/postlatch/postlatch/WalkStarts" (some 0) with
  accessFlags := 48
  interfaces := #[]
  cf := some (fileOf pool3 8 #[] #[{ accessFlags := 0, nameIndex := 5, descriptorIndex := 34, attributes := #[] }, { accessFlags := 0, nameIndex := 37, descriptorIndex := 38, attributes := #[] }, { accessFlags := 0, nameIndex := 39, descriptorIndex := 40, attributes := #[] }, { accessFlags := 0, nameIndex := 41, descriptorIndex := 42, attributes := #[] }] 48 2 #[] #[{ accessFlags := 18, nameIndex := 11, descriptorIndex := 12, attributes := #[] }, { accessFlags := 2, nameIndex := 15, descriptorIndex := 12, attributes := #[] }, { accessFlags := 2, nameIndex := 30, descriptorIndex := 12, attributes := #[] }, { accessFlags := 2, nameIndex := 21, descriptorIndex := 12, attributes := #[] }, { accessFlags := 2, nameIndex := 33, descriptorIndex := 12, attributes := #[] }, { accessFlags := 2, nameIndex := 18, descriptorIndex := 12, attributes := #[] }])
  fields := #[{ name := "intervalNanos", type := .long, accessFlags := 18, slot := 0, constantValue := 0 }, { name := "lowestAt", type := .long, accessFlags := 2, slot := 1, constantValue := 0 }, { name := "floor", type := .long, accessFlags := 2, slot := 2, constantValue := 0 }, { name := "newest", type := .long, accessFlags := 2, slot := 3, constantValue := 0 }, { name := "sample", type := .long, accessFlags := 2, slot := 4, constantValue := 0 }, { name := "sampledAt", type := .long, accessFlags := 2, slot := 5, constantValue := 0 }]
  methods := #[k3m0, k3m1, k3m2, k3m3]
  instanceTypes := #[.long, .long, .long, .long, .long, .long]
  staticTypes := #[]
  resolved := Array.replicate 46 none
  statics := none }

def pool4 : Array CpInfo := pool [(1, u "java/lang/Cloneable"), (0, .class_ 1), (0, u "java/lang/Object"), (0, .class_ 3)] 3

/-- java/lang/Cloneable -/
def k4 : Class := { plain "java/lang/Cloneable" (some 0) with
  accessFlags := 1537
  interfaces := #[]
  cf := some (fileOf pool4 2 #[] #[] 1537 4 #[] #[])
  fields := #[]
  methods := #[]
  instanceTypes := #[]
  staticTypes := #[]
  resolved := Array.replicate 8 none
  statics := none }

def pool5 : Array CpInfo := pool [(1, u "java/io/Serializable"), (0, .class_ 1), (0, u "java/lang/Object"), (0, .class_ 3)] 3

/-- java/io/Serializable -/
def k5 : Class := { plain "java/io/Serializable" (some 0) with
  accessFlags := 1537
  interfaces := #[]
  cf := some (fileOf pool5 2 #[] #[] 1537 4 #[] #[])
  fields := #[]
  methods := #[]
  instanceTypes := #[]
  staticTypes := #[]
  resolved := Array.replicate 8 none
  statics := none }

/-- the primitive byte -/
def k6 : Class := { plain "byte" none with kind := .primitive 'B', accessFlags := 0x411 }
/-- [B -/
def k7 : Class := { plain "[B" (some 0) with kind := .array 6 .byte, interfaces := #[4, 5], accessFlags := 1041 }

/-- the primitive int -/
def k8 : Class := { plain "int" none with kind := .primitive 'I', accessFlags := 0x411 }
/-- [I -/
def k9 : Class := { plain "[I" (some 0) with kind := .array 8 .int, interfaces := #[4, 5], accessFlags := 1041 }

def heap : Heap := #[]
def classes : Array Class := #[k0, k1, k2, k3, k4, k5, k6, k7, k8, k9]
def interned : List (Array UInt16 × Addr) := []
def slotsUsed : Nat := 0
def theMethod : MethodId := ⟨1, 1⟩
def args0 : Array Value := #[.long 5, .long 5, .long 5, .long 5, .long 5, .long 5]
def aboutOver (below : List Frame) : State where
  vm := { classes := classes, interned := interned.toArray }
  heap := heap
  slotsUsed := slotsUsed
  threads := #[{ frames := .invoking theMethod args0 :: below }]
def below0 : List Frame := [.native { method := ⟨0, 0⟩, args := #[] }]
def about1 : State := aboutOver below0
def p0 : Program := .bare "" "" ""
def e0 : Env := launch0.env 0 0 0
theorem w_frames : about1.frames = Frame.invoking theMethod args0 :: below0 := rfl
set_option maxRecDepth 65536 in
theorem w_args : argsFit about1.vm theMethod args0 = true := by decide +kernel
set_option maxRecDepth 65536 in
theorem w_heap : heapFits about1 = true := by decide +kernel
set_option maxRecDepth 65536 in
theorem w_runnable : about1.curStatus? = some .runnable := by decide +kernel
set_option maxRecDepth 65536 in
theorem w_alone : about1.alone = true := by decide +kernel
set_option maxRecDepth 65536 in
theorem w_named : about1.methodNamed? x = some theMethod := by decide +kernel
set_option maxRecDepth 65536 in
theorem w_hears : about1.hears theMethod below0 = true := by decide +kernel
set_option maxRecDepth 65536 in
theorem w_ripe : about1.ripe theMethod args0 below0 = true := by decide +kernel
theorem w_running : about1.status = .running := rfl
set_option maxRecDepth 65536 in
theorem w_room : about1.hasRoom e0.platform room_1 = true :=
  launch0.hasRoom_least _ room_1 (by decide +kernel) (by decide +kernel) (by decide +kernel) (by decide +kernel) (by decide +kernel) (by decide +kernel)
theorem allAtoms_all (ts : List Jvm.Cond) (a : Array Jvm.Value) (st : Jvm.State) : (allAtoms ts).before a st = ts.all (fun c => c.before a st) := by
  induction ts with
  | nil => rfl
  | cons c t ih =>
    show (Jvm.Cond.and c (allAtoms t)).before a st = _
    rw [Jvm.Cond.before_and, ih, List.all_cons]
def words1 : List Jvm.Cond := Jvm.Cond.code x code maxLocals ret :: tables_1
/-- a 'code' word, met by the world's own term for the bytes: nothing is compared byte by byte -/
theorem code_word {y : MethodName} {bytes : ByteArray} {mx : Nat} {rt : Option FieldType} {a : Array Value} {s : State} {m : MethodId} {meth : Method} {c : Code} (h1 : s.methodNamed? y = some m) (h2 : s.vm.method? m = some meth) (h3 : meth.code = some c) (h4 : c.code = bytes)
    (h5 : (c.maxLocals == mx && c.exceptionTable.isEmpty && decide (c.maxStack ≤ mostOperands) && decide (meth.sig.returnType = rt) && !meth.locks && decide (parseMethodDescriptor y.desc = some meth.sig)) = true) : (Jvm.Cond.code y bytes mx rt).before a s = true := by
  simp only [Bool.and_eq_true, beq_iff_eq, Bool.not_eq_true', decide_eq_true_eq] at h5
  obtain ⟨⟨⟨⟨⟨g1, g2⟩, g3⟩, g4⟩, g5⟩, g6⟩ := h5
  simp [Cond.before, Cond.holds, Cond.value, h1, h2, h3, h4, g1, g2, g3, g4, g5, g6]
def isCode : Jvm.Cond → Bool
  | .code _ _ _ _ => true
  | _ => false
theorem all_split {L : List Jvm.Cond} {P : Jvm.Cond → Bool} (h1 : L.all (fun c => isCode c || P c) = true) (h2 : ∀ c ∈ L.filter isCode, P c = true) : L.all P = true := by
  refine List.all_eq_true.mpr fun c hc => ?_
  have h := List.all_eq_true.mp h1 c hc
  rcases Bool.eq_false_or_eq_true (isCode c) with hi | hi
  · exact h2 c (List.mem_filter.mpr ⟨hc, hi⟩)
  · simpa [hi] using h
set_option maxRecDepth 65536 in
theorem w_c0 : (Jvm.Cond.code x code maxLocals ret).before args0 about1 = true := code_word (m := ⟨1, 1⟩) (meth := k1m1) (c := k1c1) (by decide +kernel) rfl rfl rfl (by decide +kernel)
set_option maxRecDepth 65536 in
theorem w_c1 : (Jvm.Cond.code ({ cls := "java/lang/Math", name := "max", desc := "(JJ)J" } : Jvm.MethodName) jdk_29_method_66_code (4 : Nat) (Option.some Jvm.ClassFile.FieldType.long)).before args0 about1 = true := code_word (m := ⟨2, 1⟩) (meth := k2m1) (c := k2c1) (by decide +kernel) rfl rfl rfl (by decide +kernel)
set_option maxRecDepth 65536 in
theorem w_c2 : (Jvm.Cond.code ({ cls := "com/example/postlatch/postlatch/WalkStarts", name := "<init>", desc := "(JJ)V" } : Jvm.MethodName) prog_43_method_1_code (5 : Nat) (Option.none : Option Jvm.ClassFile.FieldType)).before args0 about1 = true := code_word (m := ⟨3, 0⟩) (meth := k3m0) (c := k3c0) (by decide +kernel) rfl rfl rfl (by decide +kernel)
set_option maxRecDepth 65536 in
theorem w_c3 : (Jvm.Cond.code ({ cls := "java/lang/Object", name := "<init>", desc := "()V" } : Jvm.MethodName) object_method_1_code (1 : Nat) (Option.none : Option Jvm.ClassFile.FieldType)).before args0 about1 = true := code_word (m := ⟨0, 0⟩) (meth := k0m0) (c := k0c0) (by decide +kernel) rfl rfl rfl (by decide +kernel)
set_option maxRecDepth 65536 in
theorem w_c4 : (Jvm.Cond.code ({ cls := "com/example/postlatch/postlatch/WalkStarts", name := "seen", desc := "(J)V" } : Jvm.MethodName) prog_43_method_2_code (3 : Nat) (Option.none : Option Jvm.ClassFile.FieldType)).before args0 about1 = true := code_word (m := ⟨3, 1⟩) (meth := k3m1) (c := k3c1) (by decide +kernel) rfl rfl rfl (by decide +kernel)
set_option maxRecDepth 65536 in
theorem w_c5 : (Jvm.Cond.code ({ cls := "com/example/postlatch/postlatch/WalkStarts", name := "next", desc := "(J)J" } : Jvm.MethodName) prog_43_method_4_code (5 : Nat) (Option.some Jvm.ClassFile.FieldType.long)).before args0 about1 = true := code_word (m := ⟨3, 3⟩) (meth := k3m3) (c := k3c3) (by decide +kernel) rfl rfl rfl (by decide +kernel)
set_option maxRecDepth 65536 in
theorem w_c6 : (Jvm.Cond.code ({ cls := "com/example/postlatch/postlatch/WalkStarts", name := "lowestDue", desc := "()J" } : Jvm.MethodName) prog_43_method_3_code (1 : Nat) (Option.some Jvm.ClassFile.FieldType.long)).before args0 about1 = true := code_word (m := ⟨3, 2⟩) (meth := k3m2) (c := k3c2) (by decide +kernel) rfl rfl rfl (by decide +kernel)
def codes1 : List Jvm.Cond := [Jvm.Cond.code x code maxLocals ret, Jvm.Cond.code ({ cls := "java/lang/Math", name := "max", desc := "(JJ)J" } : Jvm.MethodName) jdk_29_method_66_code (4 : Nat) (Option.some Jvm.ClassFile.FieldType.long), Jvm.Cond.code ({ cls := "com/example/postlatch/postlatch/WalkStarts", name := "<init>", desc := "(JJ)V" } : Jvm.MethodName) prog_43_method_1_code (5 : Nat) (Option.none : Option Jvm.ClassFile.FieldType), Jvm.Cond.code ({ cls := "java/lang/Object", name := "<init>", desc := "()V" } : Jvm.MethodName) object_method_1_code (1 : Nat) (Option.none : Option Jvm.ClassFile.FieldType), Jvm.Cond.code ({ cls := "com/example/postlatch/postlatch/WalkStarts", name := "seen", desc := "(J)V" } : Jvm.MethodName) prog_43_method_2_code (3 : Nat) (Option.none : Option Jvm.ClassFile.FieldType), Jvm.Cond.code ({ cls := "com/example/postlatch/postlatch/WalkStarts", name := "next", desc := "(J)J" } : Jvm.MethodName) prog_43_method_4_code (5 : Nat) (Option.some Jvm.ClassFile.FieldType.long), Jvm.Cond.code ({ cls := "com/example/postlatch/postlatch/WalkStarts", name := "lowestDue", desc := "()J" } : Jvm.MethodName) prog_43_method_3_code (1 : Nat) (Option.some Jvm.ClassFile.FieldType.long)]
set_option maxRecDepth 65536 in
theorem codes_eq : words1.filter isCode = codes1 := rfl
theorem w_codes : ∀ c ∈ words1.filter isCode, c.before args0 about1 = true := by
  rw [codes_eq]
  intro c hc
  simp only [codes1, List.mem_cons, List.not_mem_nil, or_false] at hc
  rcases hc with rfl | rfl | rfl | rfl | rfl | rfl | rfl
  · exact w_c0
  · exact w_c1
  · exact w_c2
  · exact w_c3
  · exact w_c4
  · exact w_c5
  · exact w_c6
set_option maxRecDepth 65536 in
theorem w_t1 : (words1.take 24).all (fun c => isCode c || c.before args0 about1) = true := by decide +kernel
set_option maxRecDepth 65536 in
theorem w_t2 : (words1.drop 24).all (fun c => isCode c || c.before args0 about1) = true := by decide +kernel
theorem w_tables : (allAtoms (Jvm.Cond.code x code maxLocals ret :: tables_1)).before args0 about1 = true := by
  rw [allAtoms_all]
  show words1.all (fun c => c.before args0 about1) = true
  refine all_split ?_ w_codes
  rw [← List.take_append_drop 24 words1, List.all_append, w_t1, w_t2]
  rfl
set_option maxRecDepth 65536 in
theorem w_case : (Jvm.Cond.and given_1 narrow_1).before args0 about1 = true := by decide +kernel
theorem w_applies : (headSpec (Jvm.Cond.code x code maxLocals ret :: tables_1) room_1).applies x e0.platform about1 = true :=
  (Spec.applies_iff w_frames).mpr ⟨w_running, w_runnable, w_alone, w_named, w_hears, w_ripe, w_room, w_tables⟩
theorem atStart : AtStart classFile x code maxLocals ret World_1 tables_1 room_1 Calls_1 rest_1 Pre_1 launch0 p0 e0 about1 theMethod args0 below0 :=
  ⟨lists_1, trivial, launch0.admits_env _ _ _, launch0.least_env, fairChoices_fair.cas, fairChoices_fair.clock, w_frames, w_args, w_heap, w_applies, trivial, trivial, w_case⟩
end start1
theorem witness_1 : WitnessClaimed_1 := ⟨start1.p0, start1.e0, start1.about1, start1.theMethod, start1.args0, start1.below0, start1.atStart⟩
end Jvm.Pilot.@@N@@
