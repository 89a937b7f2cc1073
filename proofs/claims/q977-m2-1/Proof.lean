import JvmDerived
import JvmDerived.Pilot.@@N@@Statement
import JvmDerived.Pilot.@@N@@Code
set_option linter.unusedVariables false
set_option linter.unusedSimpArgs false
namespace Jvm.Pilot.@@N@@
open Jvm Jvm.ClassFile Sem Op Lib Jvm.Free Jvm.Stand Jvm.LawKit Jvm.RoadKit Bundle Jvm.Pilot.@@N@@.Jvm.D
section OwnKit
variable {p : Program} {l : Launch} {e : Env} {R : Room} {s : State} {m : MethodId} {args : Array Value} {below : List Frame} {meth : Method} {c : Code} {T : State} {locs : List Loc} {cells slots : Nat} {K : State → Prop} {Ls : Array Slot} {rest : List Value} {pc : Nat} {bytes : ByteArray}
def Goes (p : Program) (e : Env) (below : List Frame) (K : State → Prop) (S : State) : Prop := ∃ t, Steps p.tables e below S t ∧ K t
theorem Goes.of {S S' : State} (st : ∀ t, Steps p.tables e below S' t → Steps p.tables e below S t) (h : Goes p e below K S') : Goes p e below K S := h.elim fun t ht => ⟨t, st t ht.1, ht.2⟩
theorem Goes.entry {g g' : JFrame} (q : g = g') (k : Goes p e below K (T.setTop g')) : Goes p e below K (T.setTop g) := q ▸ k
def Kend (s : State) (below : List Frame) (Q : Option Value → Heap → List Loc → Prop) (C S : Nat) (t : State) : Prop := ∃ o, t.status = .running ∧ Ended t below o ∧ ∃ v L, o = .returned v ∧ Q v t.heap L ∧ FrameEnd s o t L C S
def Ctr (l : Launch) (y : MethodName) (bytes : ByteArray) (maxL : Nat) (ret : Option FieldType) (ws : List Jvm.Cond) (rm : Room) (as' : Array Value) (Z : State) (h0 : Heap) (Q : Option Value → Heap → List Loc → Prop) : Prop :=
  MetFree l y (head1 (Jvm.Cond.code y bytes maxL ret :: ws) rm) (fun a U => a = as' ∧ Z.Warmed39 U.vm ∧ U.heap = h0) (fun _ _ _ _ _ => True) (fun _ U o U' => ∃ v L, o = .returned v ∧ Q v U'.heap L ∧ FrameEnd U o U' L rm.cells rm.slots)
theorem own_body {y : MethodName} {maxL : Nat} {ret : Option FieldType} {ws : List Jvm.Cond} {rm : Room} {as' : Array Value} {Z : State} {h0 : Heap} {Q : Option Value → Heap → List Loc → Prop} (hpl : plainFor y = true)
    (H : ∀ (p : Program) (e : Env) (s : State) (m : MethodId) (below : List Frame) (meth : Method) (c : Code) (s₁ : State), p.tables.exec = Jvm.exec → c.code = bytes → c.maxLocals = maxL → s.vm.findClass y.cls = some m.cls → meth.name = y.name → meth.sig.returnType = ret → meth.locks = false → Z.Warmed39 s.vm →
      Stand p l e rm s m as' below meth c s₁ [] 0 0 → s₁.heap = h0 → Goes p e below (Kend s below Q rm.cells rm.slots) (s₁.setTop (entryFrame m as' maxL))) : Ctr l y bytes maxL ret ws rm as' Z h0 Q := by
  refine MetFree.of_bodySF hpl hisR ?_
  intro p e s m args below meth c s₁ Bd hml0 hP hK
  obtain ⟨rfl, hZ, hh⟩ := hP
  obtain ⟨t, h1, o, h2, h3, h4⟩ := H p e s m below meth c s₁ Bd.exec Bd.bytes hml0 (findClass_of_methodNamed Bd.named) (name_of_methodNamed Bd.named Bd.method).1 Bd.returns Bd.notSynchronized hZ (Stand.of_body Bd) (by rw [← hh, Bd.state]; rfl)
  exact ⟨t, o, h1, h2, h3, h4⟩

theorem own_store1 {l l' : Array Slot} {i : Nat} {v : Value} {o : Slot} (hold : l[i]? = some o) (ho : One o) (hv : v.category = 1) (e : l.setIfInBounds i (.val v) = l') : storeLocals l i v = some l' := e ▸ XS.store1 hold ho hv
theorem g_iadd (X : Stand p l e R s m args below meth c T locs cells slots) (hx : p.tables.exec = Jvm.exec) (hby : c.code = bytes) {x y : Int32} (hd : decode bytes pc = .ok (.iadd, 1)) (q : Nat) (hq : pc + 1 = q) (k : Goes p e below K (T.setTop (mkF m q Ls (.int (x + y) :: rest)))) : Goes p e below K (T.setTop (mkF m pc Ls (.int y :: .int x :: rest))) := by
  subst hq; exact Goes.of (fun t kt => XS.iadd X.here hx rfl (hb hby hd) rfl kt) k
theorem g_isub (X : Stand p l e R s m args below meth c T locs cells slots) (hx : p.tables.exec = Jvm.exec) (hby : c.code = bytes) {x y : Int32} (hd : decode bytes pc = .ok (.isub, 1)) (q : Nat) (hq : pc + 1 = q) (k : Goes p e below K (T.setTop (mkF m q Ls (.int (x - y) :: rest)))) : Goes p e below K (T.setTop (mkF m pc Ls (.int y :: .int x :: rest))) := by
  subst hq; exact Goes.of (fun t kt => XS.isub X.here hx rfl (hb hby hd) rfl kt) k
theorem g_imul (X : Stand p l e R s m args below meth c T locs cells slots) (hx : p.tables.exec = Jvm.exec) (hby : c.code = bytes) {x y : Int32} (hd : decode bytes pc = .ok (.imul, 1)) (q : Nat) (hq : pc + 1 = q) (k : Goes p e below K (T.setTop (mkF m q Ls (.int (x * y) :: rest)))) : Goes p e below K (T.setTop (mkF m pc Ls (.int y :: .int x :: rest))) := by
  subst hq; exact Goes.of (fun t kt => XS.imul X.here hx rfl (hb hby hd) rfl kt) k
theorem g_iand (X : Stand p l e R s m args below meth c T locs cells slots) (hx : p.tables.exec = Jvm.exec) (hby : c.code = bytes) {x y : Int32} (hd : decode bytes pc = .ok (.iand, 1)) (q : Nat) (hq : pc + 1 = q) (k : Goes p e below K (T.setTop (mkF m q Ls (.int (x &&& y) :: rest)))) : Goes p e below K (T.setTop (mkF m pc Ls (.int y :: .int x :: rest))) := by
  subst hq; exact Goes.of (fun t kt => XS.iand X.here hx rfl (hb hby hd) rfl kt) k
theorem g_ior (X : Stand p l e R s m args below meth c T locs cells slots) (hx : p.tables.exec = Jvm.exec) (hby : c.code = bytes) {x y : Int32} (hd : decode bytes pc = .ok (.ior, 1)) (q : Nat) (hq : pc + 1 = q) (k : Goes p e below K (T.setTop (mkF m q Ls (.int (x ||| y) :: rest)))) : Goes p e below K (T.setTop (mkF m pc Ls (.int y :: .int x :: rest))) := by
  subst hq; exact Goes.of (fun t kt => XS.ior X.here hx rfl (hb hby hd) rfl kt) k
theorem g_ixor (X : Stand p l e R s m args below meth c T locs cells slots) (hx : p.tables.exec = Jvm.exec) (hby : c.code = bytes) {x y : Int32} (hd : decode bytes pc = .ok (.ixor, 1)) (q : Nat) (hq : pc + 1 = q) (k : Goes p e below K (T.setTop (mkF m q Ls (.int (x ^^^ y) :: rest)))) : Goes p e below K (T.setTop (mkF m pc Ls (.int y :: .int x :: rest))) := by
  subst hq; exact Goes.of (fun t kt => XS.ixor X.here hx rfl (hb hby hd) rfl kt) k
theorem g_ishl (X : Stand p l e R s m args below meth c T locs cells slots) (hx : p.tables.exec = Jvm.exec) (hby : c.code = bytes) {x y : Int32} (hd : decode bytes pc = .ok (.ishl, 1)) (q : Nat) (hq : pc + 1 = q) (k : Goes p e below K (T.setTop (mkF m q Ls (.int (x <<< (y &&& 31)) :: rest)))) : Goes p e below K (T.setTop (mkF m pc Ls (.int y :: .int x :: rest))) := by
  subst hq; exact Goes.of (fun t kt => XS.ishl X.here hx rfl (hb hby hd) rfl kt) k
theorem g_ishr (X : Stand p l e R s m args below meth c T locs cells slots) (hx : p.tables.exec = Jvm.exec) (hby : c.code = bytes) {x y : Int32} (hd : decode bytes pc = .ok (.ishr, 1)) (q : Nat) (hq : pc + 1 = q) (k : Goes p e below K (T.setTop (mkF m q Ls (.int (x >>> (y &&& 31)) :: rest)))) : Goes p e below K (T.setTop (mkF m pc Ls (.int y :: .int x :: rest))) := by
  subst hq; exact Goes.of (fun t kt => XS.ishr X.here hx rfl (hb hby hd) rfl kt) k
theorem g_iushr (X : Stand p l e R s m args below meth c T locs cells slots) (hx : p.tables.exec = Jvm.exec) (hby : c.code = bytes) {x y : Int32} (hd : decode bytes pc = .ok (.iushr, 1)) (q : Nat) (hq : pc + 1 = q) (k : Goes p e below K (T.setTop (mkF m q Ls (.int ((x.toUInt32 >>> (y &&& 31).toUInt32).toInt32) :: rest)))) : Goes p e below K (T.setTop (mkF m pc Ls (.int y :: .int x :: rest))) := by
  subst hq; exact Goes.of (fun t kt => XS.iushr X.here hx rfl (hb hby hd) rfl kt) k
theorem g_ladd (X : Stand p l e R s m args below meth c T locs cells slots) (hx : p.tables.exec = Jvm.exec) (hby : c.code = bytes) {x y : Int64} (hd : decode bytes pc = .ok (.ladd, 1)) (q : Nat) (hq : pc + 1 = q) (k : Goes p e below K (T.setTop (mkF m q Ls (.long (x + y) :: rest)))) : Goes p e below K (T.setTop (mkF m pc Ls (.long y :: .long x :: rest))) := by
  subst hq; exact Goes.of (fun t kt => XS.ladd X.here hx rfl (hb hby hd) rfl kt) k
theorem g_lsub (X : Stand p l e R s m args below meth c T locs cells slots) (hx : p.tables.exec = Jvm.exec) (hby : c.code = bytes) {x y : Int64} (hd : decode bytes pc = .ok (.lsub, 1)) (q : Nat) (hq : pc + 1 = q) (k : Goes p e below K (T.setTop (mkF m q Ls (.long (x - y) :: rest)))) : Goes p e below K (T.setTop (mkF m pc Ls (.long y :: .long x :: rest))) := by
  subst hq; exact Goes.of (fun t kt => XS.lsub X.here hx rfl (hb hby hd) rfl kt) k
theorem g_lmul (X : Stand p l e R s m args below meth c T locs cells slots) (hx : p.tables.exec = Jvm.exec) (hby : c.code = bytes) {x y : Int64} (hd : decode bytes pc = .ok (.lmul, 1)) (q : Nat) (hq : pc + 1 = q) (k : Goes p e below K (T.setTop (mkF m q Ls (.long (x * y) :: rest)))) : Goes p e below K (T.setTop (mkF m pc Ls (.long y :: .long x :: rest))) := by
  subst hq; exact Goes.of (fun t kt => XS.lmul X.here hx rfl (hb hby hd) rfl kt) k
theorem g_land (X : Stand p l e R s m args below meth c T locs cells slots) (hx : p.tables.exec = Jvm.exec) (hby : c.code = bytes) {x y : Int64} (hd : decode bytes pc = .ok (.land, 1)) (q : Nat) (hq : pc + 1 = q) (k : Goes p e below K (T.setTop (mkF m q Ls (.long (x &&& y) :: rest)))) : Goes p e below K (T.setTop (mkF m pc Ls (.long y :: .long x :: rest))) := by
  subst hq; exact Goes.of (fun t kt => XS.land X.here hx rfl (hb hby hd) rfl kt) k
theorem g_lor (X : Stand p l e R s m args below meth c T locs cells slots) (hx : p.tables.exec = Jvm.exec) (hby : c.code = bytes) {x y : Int64} (hd : decode bytes pc = .ok (.lor, 1)) (q : Nat) (hq : pc + 1 = q) (k : Goes p e below K (T.setTop (mkF m q Ls (.long (x ||| y) :: rest)))) : Goes p e below K (T.setTop (mkF m pc Ls (.long y :: .long x :: rest))) := by
  subst hq; exact Goes.of (fun t kt => XS.lor X.here hx rfl (hb hby hd) rfl kt) k
theorem g_lxor (X : Stand p l e R s m args below meth c T locs cells slots) (hx : p.tables.exec = Jvm.exec) (hby : c.code = bytes) {x y : Int64} (hd : decode bytes pc = .ok (.lxor, 1)) (q : Nat) (hq : pc + 1 = q) (k : Goes p e below K (T.setTop (mkF m q Ls (.long (x ^^^ y) :: rest)))) : Goes p e below K (T.setTop (mkF m pc Ls (.long y :: .long x :: rest))) := by
  subst hq; exact Goes.of (fun t kt => XS.lxor X.here hx rfl (hb hby hd) rfl kt) k
theorem g_lshl (X : Stand p l e R s m args below meth c T locs cells slots) (hx : p.tables.exec = Jvm.exec) (hby : c.code = bytes) {x : Int64} {y : Int32} (hd : decode bytes pc = .ok (.lshl, 1)) (q : Nat) (hq : pc + 1 = q) (k : Goes p e below K (T.setTop (mkF m q Ls (.long (x <<< (y &&& 0x3f).toInt64) :: rest)))) : Goes p e below K (T.setTop (mkF m pc Ls (.int y :: .long x :: rest))) := by
  subst hq; exact Goes.of (fun t kt => XS.lshl X.here hx rfl (hb hby hd) rfl kt) k
theorem g_lshr (X : Stand p l e R s m args below meth c T locs cells slots) (hx : p.tables.exec = Jvm.exec) (hby : c.code = bytes) {x : Int64} {y : Int32} (hd : decode bytes pc = .ok (.lshr, 1)) (q : Nat) (hq : pc + 1 = q) (k : Goes p e below K (T.setTop (mkF m q Ls (.long (x >>> (y &&& 0x3f).toInt64) :: rest)))) : Goes p e below K (T.setTop (mkF m pc Ls (.int y :: .long x :: rest))) := by
  subst hq; exact Goes.of (fun t kt => XS.lshr X.here hx rfl (hb hby hd) rfl kt) k
theorem g_lushr (X : Stand p l e R s m args below meth c T locs cells slots) (hx : p.tables.exec = Jvm.exec) (hby : c.code = bytes) {x : Int64} {y : Int32} (hd : decode bytes pc = .ok (.lushr, 1)) (q : Nat) (hq : pc + 1 = q) (k : Goes p e below K (T.setTop (mkF m q Ls (.long ((x.toUInt64 >>> (y &&& 0x3f).toInt64.toUInt64).toInt64) :: rest)))) : Goes p e below K (T.setTop (mkF m pc Ls (.int y :: .long x :: rest))) := by
  subst hq; exact Goes.of (fun t kt => XS.lushr X.here hx rfl (hb hby hd) rfl kt) k
theorem g_idiv (X : Stand p l e R s m args below meth c T locs cells slots) (hx : p.tables.exec = Jvm.exec) (hby : c.code = bytes) {x y : Int32} (hd : decode bytes pc = .ok (.idiv, 1)) (hy : y ≠ 0) (q : Nat) (hq : pc + 1 = q) (k : Goes p e below K (T.setTop (mkF m q Ls (.int (x / y) :: rest)))) : Goes p e below K (T.setTop (mkF m pc Ls (.int y :: .int x :: rest))) := by
  subst hq; exact Goes.of (fun t kt => XS.idiv X.here hx rfl (hb hby hd) rfl hy kt) k
theorem g_ldiv (X : Stand p l e R s m args below meth c T locs cells slots) (hx : p.tables.exec = Jvm.exec) (hby : c.code = bytes) {x y : Int64} (hd : decode bytes pc = .ok (.ldiv, 1)) (hy : y ≠ 0) (q : Nat) (hq : pc + 1 = q) (k : Goes p e below K (T.setTop (mkF m q Ls (.long (x / y) :: rest)))) : Goes p e below K (T.setTop (mkF m pc Ls (.long y :: .long x :: rest))) := by
  subst hq; exact Goes.of (fun t kt => XS.ldiv X.here hx rfl (hb hby hd) rfl hy kt) k
theorem g_irem (X : Stand p l e R s m args below meth c T locs cells slots) (hx : p.tables.exec = Jvm.exec) (hby : c.code = bytes) {x y : Int32} (hd : decode bytes pc = .ok (.irem, 1)) (hy : y ≠ 0) (q : Nat) (hq : pc + 1 = q) (k : Goes p e below K (T.setTop (mkF m q Ls (.int (x % y) :: rest)))) : Goes p e below K (T.setTop (mkF m pc Ls (.int y :: .int x :: rest))) := by
  subst hq; exact Goes.of (fun t kt => iremM X hx rfl (hb hby hd) rfl hy kt) k
theorem g_lrem (X : Stand p l e R s m args below meth c T locs cells slots) (hx : p.tables.exec = Jvm.exec) (hby : c.code = bytes) {x y : Int64} (hd : decode bytes pc = .ok (.lrem, 1)) (hy : y ≠ 0) (q : Nat) (hq : pc + 1 = q) (k : Goes p e below K (T.setTop (mkF m q Ls (.long (x % y) :: rest)))) : Goes p e below K (T.setTop (mkF m pc Ls (.long y :: .long x :: rest))) := by
  subst hq; rw [← lrem_mod x y] at k; exact Goes.of (fun t kt => XS.lrem X.here hx rfl (hb hby hd) rfl hy kt) k
theorem g_ineg (X : Stand p l e R s m args below meth c T locs cells slots) (hx : p.tables.exec = Jvm.exec) (hby : c.code = bytes) {x : Int32} (hd : decode bytes pc = .ok (.ineg, 1)) (q : Nat) (hq : pc + 1 = q) (k : Goes p e below K (T.setTop (mkF m q Ls (.int (-x) :: rest)))) : Goes p e below K (T.setTop (mkF m pc Ls (.int x :: rest))) := by
  subst hq; exact Goes.of (fun t kt => XS.ineg X.here hx rfl (hb hby hd) rfl kt) k
theorem g_lneg (X : Stand p l e R s m args below meth c T locs cells slots) (hx : p.tables.exec = Jvm.exec) (hby : c.code = bytes) {x : Int64} (hd : decode bytes pc = .ok (.lneg, 1)) (q : Nat) (hq : pc + 1 = q) (k : Goes p e below K (T.setTop (mkF m q Ls (.long (-x) :: rest)))) : Goes p e below K (T.setTop (mkF m pc Ls (.long x :: rest))) := by
  subst hq; exact Goes.of (fun t kt => XS.lneg X.here hx rfl (hb hby hd) rfl kt) k
theorem g_i2l (X : Stand p l e R s m args below meth c T locs cells slots) (hx : p.tables.exec = Jvm.exec) (hby : c.code = bytes) {x : Int32} (hd : decode bytes pc = .ok (.i2l, 1)) (q : Nat) (hq : pc + 1 = q) (k : Goes p e below K (T.setTop (mkF m q Ls (.long (x.toInt64) :: rest)))) : Goes p e below K (T.setTop (mkF m pc Ls (.int x :: rest))) := by
  subst hq; exact Goes.of (fun t kt => XS.i2l X.here hx rfl (hb hby hd) rfl kt) k
theorem g_l2i (X : Stand p l e R s m args below meth c T locs cells slots) (hx : p.tables.exec = Jvm.exec) (hby : c.code = bytes) {x : Int64} (hd : decode bytes pc = .ok (.l2i, 1)) (q : Nat) (hq : pc + 1 = q) (k : Goes p e below K (T.setTop (mkF m q Ls (.int (x.toInt32) :: rest)))) : Goes p e below K (T.setTop (mkF m pc Ls (.long x :: rest))) := by
  subst hq; exact Goes.of (fun t kt => XS.l2i X.here hx rfl (hb hby hd) rfl kt) k
theorem g_i2b (X : Stand p l e R s m args below meth c T locs cells slots) (hx : p.tables.exec = Jvm.exec) (hby : c.code = bytes) {x : Int32} (hd : decode bytes pc = .ok (.i2b, 1)) (q : Nat) (hq : pc + 1 = q) (k : Goes p e below K (T.setTop (mkF m q Ls (.int (x.toInt8.toInt32) :: rest)))) : Goes p e below K (T.setTop (mkF m pc Ls (.int x :: rest))) := by
  subst hq; exact Goes.of (fun t kt => XS.i2b X.here hx rfl (hb hby hd) rfl kt) k
theorem g_i2s (X : Stand p l e R s m args below meth c T locs cells slots) (hx : p.tables.exec = Jvm.exec) (hby : c.code = bytes) {x : Int32} (hd : decode bytes pc = .ok (.i2s, 1)) (q : Nat) (hq : pc + 1 = q) (k : Goes p e below K (T.setTop (mkF m q Ls (.int (x.toInt16.toInt32) :: rest)))) : Goes p e below K (T.setTop (mkF m pc Ls (.int x :: rest))) := by
  subst hq; exact Goes.of (fun t kt => XS.i2s X.here hx rfl (hb hby hd) rfl kt) k
theorem g_i2c (X : Stand p l e R s m args below meth c T locs cells slots) (hx : p.tables.exec = Jvm.exec) (hby : c.code = bytes) {x : Int32} (hd : decode bytes pc = .ok (.i2c, 1)) (q : Nat) (hq : pc + 1 = q) (k : Goes p e below K (T.setTop (mkF m q Ls (.int (x.toUInt32.toUInt16.toUInt32.toInt32) :: rest)))) : Goes p e below K (T.setTop (mkF m pc Ls (.int x :: rest))) := by
  subst hq; exact Goes.of (fun t kt => XS.i2c X.here hx rfl (hb hby hd) rfl kt) k
theorem g_iloadN (X : Stand p l e R s m args below meth c T locs cells slots) (hx : p.tables.exec = Jvm.exec) (hby : c.code = bytes) {k : Fin 4} {v : Int32} (hd : decode bytes pc = .ok (.iload_n k, 1)) (hl : Ls[k.val]? = some (.val (.int v))) (q : Nat) (hq : pc + 1 = q) (k : Goes p e below K (T.setTop (mkF m q Ls (.int v :: rest)))) : Goes p e below K (T.setTop (mkF m pc Ls rest)) := by
  subst hq; exact Goes.of (fun t kt => XS.iloadN X.here hx rfl (hb hby hd) hl kt) k
theorem g_iload (X : Stand p l e R s m args below meth c T locs cells slots) (hx : p.tables.exec = Jvm.exec) (hby : c.code = bytes) {k : Nat} {v : Int32} (hd : decode bytes pc = .ok (.iload k, 2)) (hl : Ls[k]? = some (.val (.int v))) (q : Nat) (hq : pc + 2 = q) (k : Goes p e below K (T.setTop (mkF m q Ls (.int v :: rest)))) : Goes p e below K (T.setTop (mkF m pc Ls rest)) := by
  subst hq; exact Goes.of (fun t kt => XS.iload X.here hx rfl (hb hby hd) hl kt) k
theorem g_lloadN (X : Stand p l e R s m args below meth c T locs cells slots) (hx : p.tables.exec = Jvm.exec) (hby : c.code = bytes) {k : Fin 4} {v : Int64} (hd : decode bytes pc = .ok (.lload_n k, 1)) (hl : Ls[k.val]? = some (.val (.long v))) (q : Nat) (hq : pc + 1 = q) (k : Goes p e below K (T.setTop (mkF m q Ls (.long v :: rest)))) : Goes p e below K (T.setTop (mkF m pc Ls rest)) := by
  subst hq; exact Goes.of (fun t kt => XS.lloadN X.here hx rfl (hb hby hd) hl kt) k
theorem g_lload (X : Stand p l e R s m args below meth c T locs cells slots) (hx : p.tables.exec = Jvm.exec) (hby : c.code = bytes) {k : Nat} {v : Int64} (hd : decode bytes pc = .ok (.lload k, 2)) (hl : Ls[k]? = some (.val (.long v))) (q : Nat) (hq : pc + 2 = q) (k : Goes p e below K (T.setTop (mkF m q Ls (.long v :: rest)))) : Goes p e below K (T.setTop (mkF m pc Ls rest)) := by
  subst hq; exact Goes.of (fun t kt => XS.lload X.here hx rfl (hb hby hd) hl kt) k
theorem g_aloadN (X : Stand p l e R s m args below meth c T locs cells slots) (hx : p.tables.exec = Jvm.exec) (hby : c.code = bytes) {k : Fin 4} {v : Value} (hd : decode bytes pc = .ok (.aload_n k, 1)) (hl : Ls[k.val]? = some (.val v)) (hv : v.isRef = true) (q : Nat) (hq : pc + 1 = q) (k : Goes p e below K (T.setTop (mkF m q Ls (v :: rest)))) : Goes p e below K (T.setTop (mkF m pc Ls rest)) := by
  subst hq; exact Goes.of (fun t kt => XS.aloadN X.here hx rfl (hb hby hd) hl hv kt) k
theorem g_aload (X : Stand p l e R s m args below meth c T locs cells slots) (hx : p.tables.exec = Jvm.exec) (hby : c.code = bytes) {k : Nat} {v : Value} (hd : decode bytes pc = .ok (.aload k, 2)) (hl : Ls[k]? = some (.val v)) (hv : v.isRef = true) (q : Nat) (hq : pc + 2 = q) (k : Goes p e below K (T.setTop (mkF m q Ls (v :: rest)))) : Goes p e below K (T.setTop (mkF m pc Ls rest)) := by
  subst hq; exact Goes.of (fun t kt => XS.aload X.here hx rfl (hb hby hd) hl hv kt) k
theorem g_istoreN (X : Stand p l e R s m args below meth c T locs cells slots) (hx : p.tables.exec = Jvm.exec) (hby : c.code = bytes) {k : Fin 4} {x : Int32} (hd : decode bytes pc = .ok (.istore_n k, 1)) (y : Int32) (hxy : x = y) (L' : Array Slot) (hl : storeLocals Ls k.val (.int y) = some L') (q : Nat) (hq : pc + 1 = q) (k : Goes p e below K (T.setTop (mkF m q L' rest))) : Goes p e below K (T.setTop (mkF m pc Ls (.int x :: rest))) := by
  subst hq hxy; exact Goes.of (fun t kt => XS.istoreN X.here hx rfl (hb hby hd) rfl hl kt) k
theorem g_istore (X : Stand p l e R s m args below meth c T locs cells slots) (hx : p.tables.exec = Jvm.exec) (hby : c.code = bytes) {k : Nat} {x : Int32} (hd : decode bytes pc = .ok (.istore k, 2)) (y : Int32) (hxy : x = y) (L' : Array Slot) (hl : storeLocals Ls k (.int y) = some L') (q : Nat) (hq : pc + 2 = q) (k : Goes p e below K (T.setTop (mkF m q L' rest))) : Goes p e below K (T.setTop (mkF m pc Ls (.int x :: rest))) := by
  subst hq hxy; exact Goes.of (fun t kt => XS.istore X.here hx rfl (hb hby hd) rfl hl kt) k
theorem g_lstoreN (X : Stand p l e R s m args below meth c T locs cells slots) (hx : p.tables.exec = Jvm.exec) (hby : c.code = bytes) {k : Fin 4} {x : Int64} (hd : decode bytes pc = .ok (.lstore_n k, 1)) (y : Int64) (hxy : x = y) (L' : Array Slot) (hl : storeLocals Ls k.val (.long y) = some L') (q : Nat) (hq : pc + 1 = q) (k : Goes p e below K (T.setTop (mkF m q L' rest))) : Goes p e below K (T.setTop (mkF m pc Ls (.long x :: rest))) := by
  subst hq hxy; exact Goes.of (fun t kt => XS.lstoreN X.here hx rfl (hb hby hd) rfl hl kt) k
theorem g_lstore (X : Stand p l e R s m args below meth c T locs cells slots) (hx : p.tables.exec = Jvm.exec) (hby : c.code = bytes) {k : Nat} {x : Int64} (hd : decode bytes pc = .ok (.lstore k, 2)) (y : Int64) (hxy : x = y) (L' : Array Slot) (hl : storeLocals Ls k (.long y) = some L') (q : Nat) (hq : pc + 2 = q) (k : Goes p e below K (T.setTop (mkF m q L' rest))) : Goes p e below K (T.setTop (mkF m pc Ls (.long x :: rest))) := by
  subst hq hxy; exact Goes.of (fun t kt => XS.lstore X.here hx rfl (hb hby hd) rfl hl kt) k
theorem g_astoreN (X : Stand p l e R s m args below meth c T locs cells slots) (hx : p.tables.exec = Jvm.exec) (hby : c.code = bytes) {k : Fin 4} {x : Value} (hd : decode bytes pc = .ok (.astore_n k, 1)) (hv : x.isRef = true) (L' : Array Slot) (hl : storeLocals Ls k.val x = some L') (q : Nat) (hq : pc + 1 = q) (k : Goes p e below K (T.setTop (mkF m q L' rest))) : Goes p e below K (T.setTop (mkF m pc Ls (x :: rest))) := by
  subst hq; exact Goes.of (fun t kt => XS.astoreN X.here hx rfl (hb hby hd) rfl hv hl kt) k
theorem g_astore (X : Stand p l e R s m args below meth c T locs cells slots) (hx : p.tables.exec = Jvm.exec) (hby : c.code = bytes) {k : Nat} {x : Value} (hd : decode bytes pc = .ok (.astore k, 2)) (hv : x.isRef = true) (L' : Array Slot) (hl : storeLocals Ls k x = some L') (q : Nat) (hq : pc + 2 = q) (k : Goes p e below K (T.setTop (mkF m q L' rest))) : Goes p e below K (T.setTop (mkF m pc Ls (x :: rest))) := by
  subst hq; exact Goes.of (fun t kt => XS.astore X.here hx rfl (hb hby hd) rfl hv hl kt) k
theorem g_iconst (X : Stand p l e R s m args below meth c T locs cells slots) (hx : p.tables.exec = Jvm.exec) (hby : c.code = bytes) {i : Int} (hd : decode bytes pc = .ok (.iconst i, 1)) (v : Int32) (hv : Int32.ofInt i = v) (q : Nat) (hq : pc + 1 = q) (k : Goes p e below K (T.setTop (mkF m q Ls (.int v :: rest)))) : Goes p e below K (T.setTop (mkF m pc Ls rest)) := by
  subst hq hv; exact Goes.of (fun t kt => XS.iconst X.here hx rfl (hb hby hd) kt) k
theorem g_bipush (X : Stand p l e R s m args below meth c T locs cells slots) (hx : p.tables.exec = Jvm.exec) (hby : c.code = bytes) {i : Int} (hd : decode bytes pc = .ok (.bipush i, 2)) (v : Int32) (hv : (Int8.ofInt i).toInt32 = v) (q : Nat) (hq : pc + 2 = q) (k : Goes p e below K (T.setTop (mkF m q Ls (.int v :: rest)))) : Goes p e below K (T.setTop (mkF m pc Ls rest)) := by
  subst hq hv; exact Goes.of (fun t kt => XS.bipush X.here hx rfl (hb hby hd) kt) k
theorem g_sipush (X : Stand p l e R s m args below meth c T locs cells slots) (hx : p.tables.exec = Jvm.exec) (hby : c.code = bytes) {i : Int} (hd : decode bytes pc = .ok (.sipush i, 3)) (v : Int32) (hv : (Int16.ofInt i).toInt32 = v) (q : Nat) (hq : pc + 3 = q) (k : Goes p e below K (T.setTop (mkF m q Ls (.int v :: rest)))) : Goes p e below K (T.setTop (mkF m pc Ls rest)) := by
  subst hq hv; exact Goes.of (fun t kt => XS.sipush X.here hx rfl (hb hby hd) kt) k
theorem g_lconst (X : Stand p l e R s m args below meth c T locs cells slots) (hx : p.tables.exec = Jvm.exec) (hby : c.code = bytes) {i : Fin 2} (hd : decode bytes pc = .ok (.lconst i, 1)) (v : Int64) (hv : Int64.ofNat i = v) (q : Nat) (hq : pc + 1 = q) (k : Goes p e below K (T.setTop (mkF m q Ls (.long v :: rest)))) : Goes p e below K (T.setTop (mkF m pc Ls rest)) := by
  subst hq hv; exact Goes.of (fun t kt => XS.lconst X.here hx rfl (hb hby hd) kt) k
theorem g_aconst_null (X : Stand p l e R s m args below meth c T locs cells slots) (hx : p.tables.exec = Jvm.exec) (hby : c.code = bytes)  (hd : decode bytes pc = .ok (.aconst_null, 1)) (q : Nat) (hq : pc + 1 = q) (k : Goes p e below K (T.setTop (mkF m q Ls (.null :: rest)))) : Goes p e below K (T.setTop (mkF m pc Ls rest)) := by
  subst hq; exact Goes.of (fun t kt => XS.aconstNull X.here hx rfl (hb hby hd) kt) k
theorem g_dup (X : Stand p l e R s m args below meth c T locs cells slots) (hx : p.tables.exec = Jvm.exec) (hby : c.code = bytes) {x : Value} (hd : decode bytes pc = .ok (.dup, 1)) (hc : x.category = 1) (q : Nat) (hq : pc + 1 = q) (k : Goes p e below K (T.setTop (mkF m q Ls (x :: x :: rest)))) : Goes p e below K (T.setTop (mkF m pc Ls (x :: rest))) := by
  subst hq; exact Goes.of (fun t kt => XS.dup X.here hx rfl (hb hby hd) rfl hc kt) k
theorem g_pop (X : Stand p l e R s m args below meth c T locs cells slots) (hx : p.tables.exec = Jvm.exec) (hby : c.code = bytes) {x : Value} (hd : decode bytes pc = .ok (.pop, 1)) (hc : x.category = 1) (q : Nat) (hq : pc + 1 = q) (k : Goes p e below K (T.setTop (mkF m q Ls rest))) : Goes p e below K (T.setTop (mkF m pc Ls (x :: rest))) := by
  subst hq; exact Goes.of (fun t kt => XS.pop X.here hx rfl (hb hby hd) rfl hc kt) k
theorem g_dup_x1 (X : Stand p l e R s m args below meth c T locs cells slots) (hx : p.tables.exec = Jvm.exec) (hby : c.code = bytes) {x y : Value} (hd : decode bytes pc = .ok (.dup_x1, 1)) (hc : x.category = 1) (hc' : y.category = 1) (q : Nat) (hq : pc + 1 = q) (k : Goes p e below K (T.setTop (mkF m q Ls (x :: y :: x :: rest)))) : Goes p e below K (T.setTop (mkF m pc Ls (x :: y :: rest))) := by
  subst hq; exact Goes.of (fun t kt => XS.dupX1 X.here hx rfl (hb hby hd) rfl hc hc' kt) k
theorem g_dup2 (X : Stand p l e R s m args below meth c T locs cells slots) (hx : p.tables.exec = Jvm.exec) (hby : c.code = bytes) {x y : Value} (hd : decode bytes pc = .ok (.dup2, 1)) (hc : x.category = 1) (hc' : y.category = 1) (q : Nat) (hq : pc + 1 = q) (k : Goes p e below K (T.setTop (mkF m q Ls (x :: y :: x :: y :: rest)))) : Goes p e below K (T.setTop (mkF m pc Ls (x :: y :: rest))) := by
  subst hq; exact Goes.of (fun t kt => Jvm.Free.XT.dup2 X.here hx rfl (hb hby hd) rfl hc hc' kt) k
theorem g_iinc (X : Stand p l e R s m args below meth c T locs cells slots) (hx : p.tables.exec = Jvm.exec) (hby : c.code = bytes) {i : Int} {kk : Nat} {x : Int32} (hd : decode bytes pc = .ok (.iinc kk i, 3)) (v : Int32) (hv : Int32.ofInt i = v) (hl : Ls[kk]? = some (.val (.int x))) (y : Int32) (hxy : x + v = y) (L' : Array Slot) (hl' : storeLocals Ls kk (.int y) = some L') (q : Nat) (hq : pc + 3 = q) (k : Goes p e below K (T.setTop (mkF m q L' rest))) : Goes p e below K (T.setTop (mkF m pc Ls rest)) := by
  subst hq hv hxy; exact Goes.of (fun t kt => XS.iinc X.here hx rfl (hb hby hd) hl hl' kt) k
theorem g_goto (X : Stand p l e R s m args below meth c T locs cells slots) (hx : p.tables.exec = Jvm.exec) (hby : c.code = bytes) {o : Int} (hd : decode bytes pc = .ok (.goto o, 3)) (q : Nat) (ho : 0 ≤ (pc : Int) + o) (hq : ((pc : Int) + o).toNat = q) (k : Goes p e below K (T.setTop (mkF m q Ls rest))) : Goes p e below K (T.setTop (mkF m pc Ls rest)) :=
  Goes.of (fun t kt => XS.goto X.here hx rfl rfl (hb hby hd) ho hq kt) k
theorem g_icmp_eq (X : Stand p l e R s m args below meth c T locs cells slots) (hx : p.tables.exec = Jvm.exec) (hby : c.code = bytes) {x y : Int32} {o : Int} (hd : decode bytes pc = .ok (.if_icmp .eq o, 3)) (q r : Nat) (ho : 0 ≤ (pc : Int) + o) (hq : ((pc : Int) + o).toNat = q) (hr : pc + 3 = r) (kt : x = y → Goes p e below K (T.setTop (mkF m q Ls rest))) (kf : ¬ (x = y) → Goes p e below K (T.setTop (mkF m r Ls rest))) : Goes p e below K (T.setTop (mkF m pc Ls (.int y :: .int x :: rest))) := by
  subst hr
  by_cases h : x = y
  · exact Goes.of (fun t kt => XS.icmpYes X.here hx rfl rfl (hb hby hd) rfl (teq h).1 ho hq kt) (kt h)
  · exact Goes.of (fun t kt => XS.icmpNo X.here hx rfl (hb hby hd) rfl (feq h).1 kt) (kf h)
theorem g_if_eq (X : Stand p l e R s m args below meth c T locs cells slots) (hx : p.tables.exec = Jvm.exec) (hby : c.code = bytes) {x : Int32} {o : Int} (hd : decode bytes pc = .ok (.ifCond .eq o, 3)) (q r : Nat) (ho : 0 ≤ (pc : Int) + o) (hq : ((pc : Int) + o).toNat = q) (hr : pc + 3 = r) (kt : x = 0 → Goes p e below K (T.setTop (mkF m q Ls rest))) (kf : ¬ (x = 0) → Goes p e below K (T.setTop (mkF m r Ls rest))) : Goes p e below K (T.setTop (mkF m pc Ls (.int x :: rest))) := by
  subst hr
  by_cases h : x = 0
  · exact Goes.of (fun t kt => XS.ifYes X.here hx rfl rfl (hb hby hd) rfl ((if0 _ _).trans (teq h).1) ho hq kt) (kt h)
  · exact Goes.of (fun t kt => XS.ifNo X.here hx rfl (hb hby hd) rfl ((if0 _ _).trans (feq h).1) kt) (kf h)
theorem g_lcmp_eq (X : Stand p l e R s m args below meth c T locs cells slots) (hx : p.tables.exec = Jvm.exec) (hby : c.code = bytes) {x y : Int64} {o : Int} {pc2 : Nat} (hd : decode bytes pc = .ok (.lcmp, 1)) (hd2 : decode bytes pc2 = .ok (.ifCond .eq o, 3)) (q r : Nat) (h2 : pc + 1 = pc2) (ho : 0 ≤ (pc2 : Int) + o) (hq : ((pc2 : Int) + o).toNat = q) (hr : pc2 + 3 = r) (kt : x = y → Goes p e below K (T.setTop (mkF m q Ls rest))) (kf : ¬ (x = y) → Goes p e below K (T.setTop (mkF m r Ls rest))) : Goes p e below K (T.setTop (mkF m pc Ls (.long y :: .long x :: rest))) := by
  subst h2
  refine Goes.of (fun t kt => XS.lcmp X.here hx rfl (hb hby hd) rfl kt) ?_
  exact g_if_eq X hx hby hd2 q r ho hq hr (fun h => kt ((lw_eq x y).mp h)) (fun h => kf fun h' => h ((lw_eq x y).mpr h'))
theorem g_icmp_ne (X : Stand p l e R s m args below meth c T locs cells slots) (hx : p.tables.exec = Jvm.exec) (hby : c.code = bytes) {x y : Int32} {o : Int} (hd : decode bytes pc = .ok (.if_icmp .ne o, 3)) (q r : Nat) (ho : 0 ≤ (pc : Int) + o) (hq : ((pc : Int) + o).toNat = q) (hr : pc + 3 = r) (kt : x = y → Goes p e below K (T.setTop (mkF m r Ls rest))) (kf : ¬ (x = y) → Goes p e below K (T.setTop (mkF m q Ls rest))) : Goes p e below K (T.setTop (mkF m pc Ls (.int y :: .int x :: rest))) := by
  subst hr
  by_cases h : x = y
  · exact Goes.of (fun t kt => XS.icmpNo X.here hx rfl (hb hby hd) rfl (teq h).2 kt) (kt h)
  · exact Goes.of (fun t kt => XS.icmpYes X.here hx rfl rfl (hb hby hd) rfl (feq h).2 ho hq kt) (kf h)
theorem g_if_ne (X : Stand p l e R s m args below meth c T locs cells slots) (hx : p.tables.exec = Jvm.exec) (hby : c.code = bytes) {x : Int32} {o : Int} (hd : decode bytes pc = .ok (.ifCond .ne o, 3)) (q r : Nat) (ho : 0 ≤ (pc : Int) + o) (hq : ((pc : Int) + o).toNat = q) (hr : pc + 3 = r) (kt : x = 0 → Goes p e below K (T.setTop (mkF m r Ls rest))) (kf : ¬ (x = 0) → Goes p e below K (T.setTop (mkF m q Ls rest))) : Goes p e below K (T.setTop (mkF m pc Ls (.int x :: rest))) := by
  subst hr
  by_cases h : x = 0
  · exact Goes.of (fun t kt => XS.ifNo X.here hx rfl (hb hby hd) rfl ((if0 _ _).trans (teq h).2) kt) (kt h)
  · exact Goes.of (fun t kt => XS.ifYes X.here hx rfl rfl (hb hby hd) rfl ((if0 _ _).trans (feq h).2) ho hq kt) (kf h)
theorem g_lcmp_ne (X : Stand p l e R s m args below meth c T locs cells slots) (hx : p.tables.exec = Jvm.exec) (hby : c.code = bytes) {x y : Int64} {o : Int} {pc2 : Nat} (hd : decode bytes pc = .ok (.lcmp, 1)) (hd2 : decode bytes pc2 = .ok (.ifCond .ne o, 3)) (q r : Nat) (h2 : pc + 1 = pc2) (ho : 0 ≤ (pc2 : Int) + o) (hq : ((pc2 : Int) + o).toNat = q) (hr : pc2 + 3 = r) (kt : x = y → Goes p e below K (T.setTop (mkF m r Ls rest))) (kf : ¬ (x = y) → Goes p e below K (T.setTop (mkF m q Ls rest))) : Goes p e below K (T.setTop (mkF m pc Ls (.long y :: .long x :: rest))) := by
  subst h2
  refine Goes.of (fun t kt => XS.lcmp X.here hx rfl (hb hby hd) rfl kt) ?_
  exact g_if_ne X hx hby hd2 q r ho hq hr (fun h => kt ((lw_eq x y).mp h)) (fun h => kf fun h' => h ((lw_eq x y).mpr h'))
theorem g_icmp_lt (X : Stand p l e R s m args below meth c T locs cells slots) (hx : p.tables.exec = Jvm.exec) (hby : c.code = bytes) {x y : Int32} {o : Int} (hd : decode bytes pc = .ok (.if_icmp .lt o, 3)) (q r : Nat) (ho : 0 ≤ (pc : Int) + o) (hq : ((pc : Int) + o).toNat = q) (hr : pc + 3 = r) (kt : x < y → Goes p e below K (T.setTop (mkF m q Ls rest))) (kf : ¬ (x < y) → Goes p e below K (T.setTop (mkF m r Ls rest))) : Goes p e below K (T.setTop (mkF m pc Ls (.int y :: .int x :: rest))) := by
  subst hr
  by_cases h : x < y
  · exact Goes.of (fun t kt => XS.icmpYes X.here hx rfl rfl (hb hby hd) rfl (tlt h).1 ho hq kt) (kt h)
  · exact Goes.of (fun t kt => XS.icmpNo X.here hx rfl (hb hby hd) rfl (flt h).1 kt) (kf h)
theorem g_if_lt (X : Stand p l e R s m args below meth c T locs cells slots) (hx : p.tables.exec = Jvm.exec) (hby : c.code = bytes) {x : Int32} {o : Int} (hd : decode bytes pc = .ok (.ifCond .lt o, 3)) (q r : Nat) (ho : 0 ≤ (pc : Int) + o) (hq : ((pc : Int) + o).toNat = q) (hr : pc + 3 = r) (kt : x < 0 → Goes p e below K (T.setTop (mkF m q Ls rest))) (kf : ¬ (x < 0) → Goes p e below K (T.setTop (mkF m r Ls rest))) : Goes p e below K (T.setTop (mkF m pc Ls (.int x :: rest))) := by
  subst hr
  by_cases h : x < 0
  · exact Goes.of (fun t kt => XS.ifYes X.here hx rfl rfl (hb hby hd) rfl ((if0 _ _).trans (tlt h).1) ho hq kt) (kt h)
  · exact Goes.of (fun t kt => XS.ifNo X.here hx rfl (hb hby hd) rfl ((if0 _ _).trans (flt h).1) kt) (kf h)
theorem g_lcmp_lt (X : Stand p l e R s m args below meth c T locs cells slots) (hx : p.tables.exec = Jvm.exec) (hby : c.code = bytes) {x y : Int64} {o : Int} {pc2 : Nat} (hd : decode bytes pc = .ok (.lcmp, 1)) (hd2 : decode bytes pc2 = .ok (.ifCond .lt o, 3)) (q r : Nat) (h2 : pc + 1 = pc2) (ho : 0 ≤ (pc2 : Int) + o) (hq : ((pc2 : Int) + o).toNat = q) (hr : pc2 + 3 = r) (kt : x < y → Goes p e below K (T.setTop (mkF m q Ls rest))) (kf : ¬ (x < y) → Goes p e below K (T.setTop (mkF m r Ls rest))) : Goes p e below K (T.setTop (mkF m pc Ls (.long y :: .long x :: rest))) := by
  subst h2
  refine Goes.of (fun t kt => XS.lcmp X.here hx rfl (hb hby hd) rfl kt) ?_
  exact g_if_lt X hx hby hd2 q r ho hq hr (fun h => kt ((lw_lt x y).mp h)) (fun h => kf fun h' => h ((lw_lt x y).mpr h'))
theorem g_icmp_ge (X : Stand p l e R s m args below meth c T locs cells slots) (hx : p.tables.exec = Jvm.exec) (hby : c.code = bytes) {x y : Int32} {o : Int} (hd : decode bytes pc = .ok (.if_icmp .ge o, 3)) (q r : Nat) (ho : 0 ≤ (pc : Int) + o) (hq : ((pc : Int) + o).toNat = q) (hr : pc + 3 = r) (kt : x < y → Goes p e below K (T.setTop (mkF m r Ls rest))) (kf : ¬ (x < y) → Goes p e below K (T.setTop (mkF m q Ls rest))) : Goes p e below K (T.setTop (mkF m pc Ls (.int y :: .int x :: rest))) := by
  subst hr
  by_cases h : x < y
  · exact Goes.of (fun t kt => XS.icmpNo X.here hx rfl (hb hby hd) rfl (tlt h).2.1 kt) (kt h)
  · exact Goes.of (fun t kt => XS.icmpYes X.here hx rfl rfl (hb hby hd) rfl (flt h).2.1 ho hq kt) (kf h)
theorem g_if_ge (X : Stand p l e R s m args below meth c T locs cells slots) (hx : p.tables.exec = Jvm.exec) (hby : c.code = bytes) {x : Int32} {o : Int} (hd : decode bytes pc = .ok (.ifCond .ge o, 3)) (q r : Nat) (ho : 0 ≤ (pc : Int) + o) (hq : ((pc : Int) + o).toNat = q) (hr : pc + 3 = r) (kt : x < 0 → Goes p e below K (T.setTop (mkF m r Ls rest))) (kf : ¬ (x < 0) → Goes p e below K (T.setTop (mkF m q Ls rest))) : Goes p e below K (T.setTop (mkF m pc Ls (.int x :: rest))) := by
  subst hr
  by_cases h : x < 0
  · exact Goes.of (fun t kt => XS.ifNo X.here hx rfl (hb hby hd) rfl ((if0 _ _).trans (tlt h).2.1) kt) (kt h)
  · exact Goes.of (fun t kt => XS.ifYes X.here hx rfl rfl (hb hby hd) rfl ((if0 _ _).trans (flt h).2.1) ho hq kt) (kf h)
theorem g_lcmp_ge (X : Stand p l e R s m args below meth c T locs cells slots) (hx : p.tables.exec = Jvm.exec) (hby : c.code = bytes) {x y : Int64} {o : Int} {pc2 : Nat} (hd : decode bytes pc = .ok (.lcmp, 1)) (hd2 : decode bytes pc2 = .ok (.ifCond .ge o, 3)) (q r : Nat) (h2 : pc + 1 = pc2) (ho : 0 ≤ (pc2 : Int) + o) (hq : ((pc2 : Int) + o).toNat = q) (hr : pc2 + 3 = r) (kt : x < y → Goes p e below K (T.setTop (mkF m r Ls rest))) (kf : ¬ (x < y) → Goes p e below K (T.setTop (mkF m q Ls rest))) : Goes p e below K (T.setTop (mkF m pc Ls (.long y :: .long x :: rest))) := by
  subst h2
  refine Goes.of (fun t kt => XS.lcmp X.here hx rfl (hb hby hd) rfl kt) ?_
  exact g_if_ge X hx hby hd2 q r ho hq hr (fun h => kt ((lw_lt x y).mp h)) (fun h => kf fun h' => h ((lw_lt x y).mpr h'))
theorem g_icmp_gt (X : Stand p l e R s m args below meth c T locs cells slots) (hx : p.tables.exec = Jvm.exec) (hby : c.code = bytes) {x y : Int32} {o : Int} (hd : decode bytes pc = .ok (.if_icmp .gt o, 3)) (q r : Nat) (ho : 0 ≤ (pc : Int) + o) (hq : ((pc : Int) + o).toNat = q) (hr : pc + 3 = r) (kt : y < x → Goes p e below K (T.setTop (mkF m q Ls rest))) (kf : ¬ (y < x) → Goes p e below K (T.setTop (mkF m r Ls rest))) : Goes p e below K (T.setTop (mkF m pc Ls (.int y :: .int x :: rest))) := by
  subst hr
  by_cases h : y < x
  · exact Goes.of (fun t kt => XS.icmpYes X.here hx rfl rfl (hb hby hd) rfl (tlt h).2.2.1 ho hq kt) (kt h)
  · exact Goes.of (fun t kt => XS.icmpNo X.here hx rfl (hb hby hd) rfl (flt h).2.2.1 kt) (kf h)
theorem g_if_gt (X : Stand p l e R s m args below meth c T locs cells slots) (hx : p.tables.exec = Jvm.exec) (hby : c.code = bytes) {x : Int32} {o : Int} (hd : decode bytes pc = .ok (.ifCond .gt o, 3)) (q r : Nat) (ho : 0 ≤ (pc : Int) + o) (hq : ((pc : Int) + o).toNat = q) (hr : pc + 3 = r) (kt : 0 < x → Goes p e below K (T.setTop (mkF m q Ls rest))) (kf : ¬ (0 < x) → Goes p e below K (T.setTop (mkF m r Ls rest))) : Goes p e below K (T.setTop (mkF m pc Ls (.int x :: rest))) := by
  subst hr
  by_cases h : 0 < x
  · exact Goes.of (fun t kt => XS.ifYes X.here hx rfl rfl (hb hby hd) rfl ((if0 _ _).trans (tlt h).2.2.1) ho hq kt) (kt h)
  · exact Goes.of (fun t kt => XS.ifNo X.here hx rfl (hb hby hd) rfl ((if0 _ _).trans (flt h).2.2.1) kt) (kf h)
theorem g_lcmp_gt (X : Stand p l e R s m args below meth c T locs cells slots) (hx : p.tables.exec = Jvm.exec) (hby : c.code = bytes) {x y : Int64} {o : Int} {pc2 : Nat} (hd : decode bytes pc = .ok (.lcmp, 1)) (hd2 : decode bytes pc2 = .ok (.ifCond .gt o, 3)) (q r : Nat) (h2 : pc + 1 = pc2) (ho : 0 ≤ (pc2 : Int) + o) (hq : ((pc2 : Int) + o).toNat = q) (hr : pc2 + 3 = r) (kt : y < x → Goes p e below K (T.setTop (mkF m q Ls rest))) (kf : ¬ (y < x) → Goes p e below K (T.setTop (mkF m r Ls rest))) : Goes p e below K (T.setTop (mkF m pc Ls (.long y :: .long x :: rest))) := by
  subst h2
  refine Goes.of (fun t kt => XS.lcmp X.here hx rfl (hb hby hd) rfl kt) ?_
  exact g_if_gt X hx hby hd2 q r ho hq hr (fun h => kt ((lw_gt x y).mp h)) (fun h => kf fun h' => h ((lw_gt x y).mpr h'))
theorem g_icmp_le (X : Stand p l e R s m args below meth c T locs cells slots) (hx : p.tables.exec = Jvm.exec) (hby : c.code = bytes) {x y : Int32} {o : Int} (hd : decode bytes pc = .ok (.if_icmp .le o, 3)) (q r : Nat) (ho : 0 ≤ (pc : Int) + o) (hq : ((pc : Int) + o).toNat = q) (hr : pc + 3 = r) (kt : y < x → Goes p e below K (T.setTop (mkF m r Ls rest))) (kf : ¬ (y < x) → Goes p e below K (T.setTop (mkF m q Ls rest))) : Goes p e below K (T.setTop (mkF m pc Ls (.int y :: .int x :: rest))) := by
  subst hr
  by_cases h : y < x
  · exact Goes.of (fun t kt => XS.icmpNo X.here hx rfl (hb hby hd) rfl (tlt h).2.2.2 kt) (kt h)
  · exact Goes.of (fun t kt => XS.icmpYes X.here hx rfl rfl (hb hby hd) rfl (flt h).2.2.2 ho hq kt) (kf h)
theorem g_if_le (X : Stand p l e R s m args below meth c T locs cells slots) (hx : p.tables.exec = Jvm.exec) (hby : c.code = bytes) {x : Int32} {o : Int} (hd : decode bytes pc = .ok (.ifCond .le o, 3)) (q r : Nat) (ho : 0 ≤ (pc : Int) + o) (hq : ((pc : Int) + o).toNat = q) (hr : pc + 3 = r) (kt : 0 < x → Goes p e below K (T.setTop (mkF m r Ls rest))) (kf : ¬ (0 < x) → Goes p e below K (T.setTop (mkF m q Ls rest))) : Goes p e below K (T.setTop (mkF m pc Ls (.int x :: rest))) := by
  subst hr
  by_cases h : 0 < x
  · exact Goes.of (fun t kt => XS.ifNo X.here hx rfl (hb hby hd) rfl ((if0 _ _).trans (tlt h).2.2.2) kt) (kt h)
  · exact Goes.of (fun t kt => XS.ifYes X.here hx rfl rfl (hb hby hd) rfl ((if0 _ _).trans (flt h).2.2.2) ho hq kt) (kf h)
theorem g_lcmp_le (X : Stand p l e R s m args below meth c T locs cells slots) (hx : p.tables.exec = Jvm.exec) (hby : c.code = bytes) {x y : Int64} {o : Int} {pc2 : Nat} (hd : decode bytes pc = .ok (.lcmp, 1)) (hd2 : decode bytes pc2 = .ok (.ifCond .le o, 3)) (q r : Nat) (h2 : pc + 1 = pc2) (ho : 0 ≤ (pc2 : Int) + o) (hq : ((pc2 : Int) + o).toNat = q) (hr : pc2 + 3 = r) (kt : y < x → Goes p e below K (T.setTop (mkF m r Ls rest))) (kf : ¬ (y < x) → Goes p e below K (T.setTop (mkF m q Ls rest))) : Goes p e below K (T.setTop (mkF m pc Ls (.long y :: .long x :: rest))) := by
  subst h2
  refine Goes.of (fun t kt => XS.lcmp X.here hx rfl (hb hby hd) rfl kt) ?_
  exact g_if_le X hx hby hd2 q r ho hq hr (fun h => kt ((lw_gt x y).mp h)) (fun h => kf fun h' => h ((lw_gt x y).mpr h'))
theorem g_ifnull_yes (X : Stand p l e R s m args below meth c T locs cells slots) (hx : p.tables.exec = Jvm.exec) (hby : c.code = bytes) {o : Int} (hd : decode bytes pc = .ok (.ifnull o, 3)) (q : Nat) (ho : 0 ≤ (pc : Int) + o) (hq : ((pc : Int) + o).toNat = q) (k : Goes p e below K (T.setTop (mkF m q Ls rest))) : Goes p e below K (T.setTop (mkF m pc Ls (.null :: rest))) :=
  Goes.of (fun t kt => XS.ifnullYes X.here hx rfl rfl (hb hby hd) rfl ho hq kt) k
theorem g_ifnull_no (X : Stand p l e R s m args below meth c T locs cells slots) (hx : p.tables.exec = Jvm.exec) (hby : c.code = bytes) {a : Addr} {o : Int} (hd : decode bytes pc = .ok (.ifnull o, 3)) (q : Nat) (hq : pc + 3 = q) (k : Goes p e below K (T.setTop (mkF m q Ls rest))) : Goes p e below K (T.setTop (mkF m pc Ls (.ref a :: rest))) := by
  subst hq; exact Goes.of (fun t kt => XS.ifnullNo X.here hx rfl (hb hby hd) rfl kt) k
theorem g_ifnonnull_yes (X : Stand p l e R s m args below meth c T locs cells slots) (hx : p.tables.exec = Jvm.exec) (hby : c.code = bytes) {a : Addr} {o : Int} (hd : decode bytes pc = .ok (.ifnonnull o, 3)) (q : Nat) (ho : 0 ≤ (pc : Int) + o) (hq : ((pc : Int) + o).toNat = q) (k : Goes p e below K (T.setTop (mkF m q Ls rest))) : Goes p e below K (T.setTop (mkF m pc Ls (.ref a :: rest))) :=
  Goes.of (fun t kt => XS.ifnonnullYes X.here hx rfl rfl (hb hby hd) rfl ho hq kt) k
theorem g_ifnonnull_no (X : Stand p l e R s m args below meth c T locs cells slots) (hx : p.tables.exec = Jvm.exec) (hby : c.code = bytes) {o : Int} (hd : decode bytes pc = .ok (.ifnonnull o, 3)) (q : Nat) (hq : pc + 3 = q) (k : Goes p e below K (T.setTop (mkF m q Ls rest))) : Goes p e below K (T.setTop (mkF m pc Ls (.null :: rest))) := by
  subst hq; exact Goes.of (fun t kt => XS.ifnonnullNo X.here hx rfl (hb hby hd) rfl kt) k
theorem g_acmp (X : Stand p l e R s m args below meth c T locs cells slots) (hx : p.tables.exec = Jvm.exec) (hby : c.code = bytes) {cd : ACond} {x y : Value} {o : Int} (hd : decode bytes pc = .ok (.if_acmp cd o, 3)) (h1 : x.isRef = true) (h2 : y.isRef = true) (same : Bool) (hs : decide (x = y) = same) (q : Nat) (ho : 0 ≤ (pc : Int) + o) (hq : q = if acV cd same = true then ((pc : Int) + o).toNat else pc + 3) (k : Goes p e below K (T.setTop (mkF m q Ls rest))) : Goes p e below K (T.setTop (mkF m pc Ls (y :: x :: rest))) :=
  Goes.of (fun t kt => Jvm.RoadKit.acmp X hx rfl h1 h2 rfl (hb hby hd) rfl hs ho hq kt) k
theorem g_ldc (X : Stand p l e R s m args below meth c T locs cells slots) (hx : p.tables.exec = Jvm.exec) (hby : c.code = bytes) {Z : State} {a0 : Array Value} (hZ : Z.Warmed39 s.vm) {own : String} {index : Nat} {v : Int32} (hown : s.vm.findClass own = some m.cls) (w : (Jvm.Cond.constant own index v).before a0 Z = true) (hd : decode bytes pc = .ok (.ldc index, 2)) (q : Nat) (hq : pc + 2 = q) (k : Goes p e below K (T.setTop (mkF m q Ls (.int v :: rest)))) : Goes p e below K (T.setTop (mkF m pc Ls rest)) := by
  subst hq; exact Goes.of (fun t kt => X.ldcInt hx hown (mvT hZ w) (g := mkF m pc Ls rest) rfl (hb hby hd) t kt) k
theorem g_ldc_w (X : Stand p l e R s m args below meth c T locs cells slots) (hx : p.tables.exec = Jvm.exec) (hby : c.code = bytes) {Z : State} {a0 : Array Value} (hZ : Z.Warmed39 s.vm) {own : String} {index : Nat} {v : Int32} (hown : s.vm.findClass own = some m.cls) (w : (Jvm.Cond.constant own index v).before a0 Z = true) (hd : decode bytes pc = .ok (.ldc_w index, 3)) (q : Nat) (hq : pc + 3 = q) (k : Goes p e below K (T.setTop (mkF m q Ls (.int v :: rest)))) : Goes p e below K (T.setTop (mkF m pc Ls rest)) := by
  subst hq; exact Goes.of (fun t kt => X.ldcwInt hx hown (mvT hZ w) (g := mkF m pc Ls rest) rfl (hb hby hd) t kt) k
theorem g_ldc2 (X : Stand p l e R s m args below meth c T locs cells slots) (hx : p.tables.exec = Jvm.exec) (hby : c.code = bytes) {Z : State} {a0 : Array Value} (hZ : Z.Warmed39 s.vm) {own : String} {index : Nat} {v : Int64} (hown : s.vm.findClass own = some m.cls) (w : (Jvm.Cond.constantLong own index v).before a0 Z = true) (hd : decode bytes pc = .ok (.ldc2_w index, 3)) (q : Nat) (hq : pc + 3 = q) (k : Goes p e below K (T.setTop (mkF m q Ls (.long v :: rest)))) : Goes p e below K (T.setTop (mkF m pc Ls rest)) := by
  subst hq; exact Goes.of (fun t kt => X.ldc2Long hx hown (mvT hZ w) (g := mkF m pc Ls rest) rfl (hb hby hd) t kt) k
theorem g_leave (X : Stand p l e R s m args below meth c T locs cells slots) {Q : Option Value → Heap → List Loc → Prop} {C S : Nat} {v : Option Value} (hv : meth.sig.returnType = none → v = none) (hlk : meth.locks = false) (hQ : Q v T.heap locs) (hc : cells ≤ C) (hs : slots ≤ S) {F : State}
    (st : ∀ fs : List Frame, (∀ (f : JFrame) (acts : List Action), f.method = m → f.locked = none → f.entered = [] → (doReturn e (T.setTop f) acts v).1 = T.setFrames fs) → Steps p.tables e below F (T.setFrames fs)) : Goes p e below (Kend s below Q C S) F := by
  obtain ⟨fs, hr, hrun, hended, hW, hsame⟩ := X.leave (v := v) hv hlk
  exact ⟨_, st fs hr, _, hrun, hended, v, locs, rfl, hQ, ⟨_, rfl⟩, hW, hsame.mono hc hs⟩
theorem g_ireturn (X : Stand p l e R s m args below meth c T locs cells slots) (hx : p.tables.exec = Jvm.exec) (hby : c.code = bytes) {Q : Option Value → Heap → List Loc → Prop} {C S : Nat} {z : Int32} {t : FieldType} (hret : meth.sig.returnType = some t) (hlk : meth.locks = false) (ht : t = .int ∨ t = .boolean ∨ t = .byte ∨ t = .char ∨ t = .short) (hn : narrow t (.int z) = .int z) (hd : decode bytes pc = .ok (.ireturn, 1)) (hQ : Q (some (.int z)) T.heap locs) (hc : cells ≤ C) (hs : slots ≤ S) : Goes p e below (Kend s below Q C S) (T.setTop (mkF m pc Ls (.int z :: rest))) :=
  g_leave X (v := some (.int z)) (fun h => by rw [hret] at h; cases h) hlk hQ hc hs fun fs hr => retOut X hx hret hn (Or.inl ⟨rfl, ht, z, rfl⟩) (hb hby hd) hr
theorem g_lreturn (X : Stand p l e R s m args below meth c T locs cells slots) (hx : p.tables.exec = Jvm.exec) (hby : c.code = bytes) {Q : Option Value → Heap → List Loc → Prop} {C S : Nat} {z : Int64} (hret : meth.sig.returnType = some .long) (hlk : meth.locks = false) (hd : decode bytes pc = .ok (.lreturn, 1)) (hQ : Q (some (.long z)) T.heap locs) (hc : cells ≤ C) (hs : slots ≤ S) : Goes p e below (Kend s below Q C S) (T.setTop (mkF m pc Ls (.long z :: rest))) :=
  g_leave X (v := some (.long z)) (fun h => by rw [hret] at h; cases h) hlk hQ hc hs fun fs hr => retOut X hx hret rfl (Or.inr (Or.inl ⟨rfl, rfl, z, rfl⟩)) (hb hby hd) hr
theorem g_areturn (X : Stand p l e R s m args below meth c T locs cells slots) (hx : p.tables.exec = Jvm.exec) (hby : c.code = bytes) {Q : Option Value → Heap → List Loc → Prop} {C S : Nat} {w : Value} {t : FieldType} (hret : meth.sig.returnType = some t) (hlk : meth.locks = false) (ht : t.isReference = true) (hw : w.isRef = true) (hn : narrow t w = w) (hd : decode bytes pc = .ok (.areturn, 1)) (hQ : Q (some w) T.heap locs) (hc : cells ≤ C) (hs : slots ≤ S) : Goes p e below (Kend s below Q C S) (T.setTop (mkF m pc Ls (w :: rest))) :=
  g_leave X (v := some w) (fun h => by rw [hret] at h; cases h) hlk hQ hc hs fun fs hr => retOut X hx hret hn (Or.inr (Or.inr (Or.inr (Or.inr ⟨rfl, ht, hw⟩)))) (hb hby hd) hr
theorem g_return (X : Stand p l e R s m args below meth c T locs cells slots) (hx : p.tables.exec = Jvm.exec) (hby : c.code = bytes) {Q : Option Value → Heap → List Loc → Prop} {C S : Nat} (hret : meth.sig.returnType = none) (hlk : meth.locks = false) (hd : decode bytes pc = .ok (.return_, 1)) (hQ : Q none T.heap locs) (hc : cells ≤ C) (hs : slots ≤ S) : Goes p e below (Kend s below Q C S) (T.setTop (mkF m pc Ls [])) :=
  g_leave X (v := none) (fun _ => rfl) hlk hQ hc hs fun fs hr => X.returnOut hx hret (hb hby hd) hr
theorem nar_bool {z : Int32} (h : z = 0 ∨ z = 1) : narrow .boolean (.int z) = .int z := by rcases h with rfl | rfl <;> rfl
theorem g_callS (X : Stand p l e R s m args below meth c T locs cells slots) (hx : p.tables.exec = Jvm.exec) (hby : c.code = bytes) {Z : State} {a0 : Array Value} (hZ : Z.Warmed39 s.vm) {own : String} {index : Nat} {y : MethodName} {cb : ByteArray} {maxL : Nat} {ret : Option FieldType} {rm : Room} {Q : Option Value → Heap → List Loc → Prop} {h : Heap} (hown : s.vm.findClass own = some m.cls) (w1 : (Jvm.Cond.methodLink own index y).before a0 Z = true) (w2 : (Jvm.Cond.static y).before a0 Z = true) (w3 : (Jvm.Cond.initialized y.cls).before a0 Z = true) (w4 : (Jvm.Cond.code y cb maxL ret).before a0 Z = true)
    (hd : decode bytes pc = .ok (.invokestatic index, 3)) (argsL rest : List Value) {st : List Value} (hM : Ctr l y cb maxL ret [] rm argsL.toArray Z h Q) (eT : T.heap = h) (hst : st = argsL.reverse ++ rest) (hsz : Ls.size = c.maxLocals) {ps : List FieldType} {rt : Option FieldType} (hpd : parseMethodDescriptor y.desc = some ⟨ps, rt⟩) (hlen : argsL.length = ps.length)
    (hy : y.cls ≠ "java/lang/invoke/MethodHandle" ∧ y.cls ≠ "java/lang/invoke/VarHandle") (W : Nat) (hW : (rest.map fun v => v.category).sum ≤ W) (hf : rm.frames + 1 ≤ R.frames) (hl : W + (maxL + 11) + rm.locals ≤ R.locals) (hc : cells + rm.cells ≤ R.cells) (hs : slots + rm.slots ≤ R.slots) (q : Nat) (hq : pc + 3 = q)
    (k : ∀ (T' : State) (v : Option Value) (L : List Loc), Stand p l e R s m args below meth c T' (locs ++ L) (cells + rm.cells) (slots + rm.slots) → Q v T'.heap L → Goes p e below K (T'.setTop (mkF m q Ls (v.toList ++ rest)))) : Goes p e below K (T.setTop (mkF m pc Ls st)) := by
  subst hq hst
  obtain ⟨v, _, ⟨T', L', k', n'⟩, -, X', ⟨Lc, hQ, l1, y1, z1⟩, st⟩ := Jvm.LawKit.callS X hx hown (mvT hZ w1) (mvT hZ w2) (mvT hZ w3) (mvT hZ w4) hy (backOf (W := W) hM hZ w4 w3 hf hl) (g := mkF m pc Ls (argsL.reverse ++ rest)) rfl hsz (argsL := argsL) (rest := rest) (lenOf hpd hlen) rfl (by show 2 * 0 + _ ≤ _; omega) (hb hby hd) (fun _ _ => ⟨rfl, eT, hc, hs⟩)
  dsimp only [Pt.U, Pt.locs, Pt.cells, Pt.slots] at X' l1 y1 z1 st hQ
  subst l1 y1 z1
  exact Goes.of st (k _ _ _ X' hQ)
theorem g_special (X : Stand p l e R s m args below meth c T locs cells slots) (hx : p.tables.exec = Jvm.exec) (hby : c.code = bytes) {Z : State} {a0 : Array Value} (hZ : Z.Warmed39 s.vm) {own : String} {index : Nat} {y : MethodName} {cb : ByteArray} {maxL : Nat} {rm : Room} {Q : Option Value → Heap → List Loc → Prop} {h : Heap} (hown : s.vm.findClass own = some m.cls) (hy1 : y.name = "<init>") (w1 : (Jvm.Cond.methodLink own index y).before a0 Z = true) (w2 : (Jvm.Cond.instanceMethod y).before a0 Z = true) (w3 : (Jvm.Cond.initialized y.cls).before a0 Z = true) (w4 : (Jvm.Cond.code y cb maxL none).before a0 Z = true)
    (hd : decode bytes pc = .ok (.invokespecial index, 3)) (a : Addr) (argsL rest : List Value) {st : List Value} (hM : Ctr l y cb maxL none [] rm (.ref a :: argsL).toArray Z h Q) (eT : T.heap = h) (hst : st = argsL.reverse ++ .ref a :: rest) (hsz : Ls.size = c.maxLocals) {ps : List FieldType} {rt : Option FieldType} (hpd : parseMethodDescriptor y.desc = some ⟨ps, rt⟩) (hlen : argsL.length = ps.length)
    (hy : y.cls ≠ "java/lang/invoke/MethodHandle" ∧ y.cls ≠ "java/lang/invoke/VarHandle") (W : Nat) (hW : (rest.map fun v => v.category).sum ≤ W) (hf : rm.frames + 1 ≤ R.frames) (hl : W + (maxL + 11) + rm.locals ≤ R.locals) (hc : cells + rm.cells ≤ R.cells) (hs : slots + rm.slots ≤ R.slots) (q : Nat) (hq : pc + 3 = q)
    (k : ∀ (T' : State) (v : Option Value) (L : List Loc), Stand p l e R s m args below meth c T' (locs ++ L) (cells + rm.cells) (slots + rm.slots) → Q v T'.heap L → Goes p e below K (T'.setTop (mkF m q Ls (v.toList ++ rest)))) : Goes p e below K (T.setTop (mkF m pc Ls st)) := by
  subst hq hst
  obtain ⟨v, _, ⟨T', L', k', n'⟩, -, X', ⟨Lc, hQ, l1, y1, z1⟩, st⟩ := X.specialBack hx hy1 hown (mvT hZ w1) (mvT hZ w2) (mvT hZ w4) hy (backOf (W := W) hM hZ w4 w3 hf hl) (g := mkF m pc Ls (argsL.reverse ++ .ref a :: rest)) rfl hsz (Steps.refl _) (a := a) (argsL := argsL) (rest := rest) (lenOf hpd hlen) rfl (by show 2 * 0 + _ ≤ _; omega) (hb hby hd) (fun _ _ => ⟨rfl, eT, hc, hs⟩)
  dsimp only [Pt.U, Pt.locs, Pt.cells, Pt.slots] at X' l1 y1 z1 st hQ
  subst l1 y1 z1
  exact Goes.of (fun t kt => st.trans kt) (k _ _ _ X' hQ)
theorem g_virtual (X : Stand p l e R s m args below meth c T locs cells slots) (hx : p.tables.exec = Jvm.exec) (hby : c.code = bytes) {Z : State} {a0 : Array Value} (hZ : Z.Warmed39 s.vm) {own : String} {index : Nat} {y : MethodName} {cb : ByteArray} {maxL : Nat} {ret : Option FieldType} {rm : Room} {Q : Option Value → Heap → List Loc → Prop} {h : Heap} {z : MethodName} {C : String} (hown : s.vm.findClass own = some m.cls) (w1 : (Jvm.Cond.methodLink own index y).before a0 Z = true) (w2 : (Jvm.Cond.declares y).before a0 Z = true) (nf : NotFace s y) (w5 : (Jvm.Cond.selects C y z).before a0 Z = true) (w6 : (Jvm.Cond.instanceMethod z).before a0 Z = true) (w3 : (Jvm.Cond.initialized z.cls).before a0 Z = true) (w4 : (Jvm.Cond.code z cb maxL ret).before a0 Z = true)
    (hd : decode bytes pc = .ok (.invokevirtual index, 3)) (a : Addr) (E : Exa Z h a C) (argsL rest : List Value) {st : List Value} (hM : Ctr l z cb maxL ret [] rm (.ref a :: argsL).toArray Z h Q) (eT : T.heap = h) (hst : st = argsL.reverse ++ .ref a :: rest) (hsz : Ls.size = c.maxLocals) {ps : List FieldType} {rt : Option FieldType} (hpd : parseMethodDescriptor y.desc = some ⟨ps, rt⟩) (hlen : argsL.length = ps.length)
    (hy : y.cls ≠ "java/lang/invoke/MethodHandle" ∧ y.cls ≠ "java/lang/invoke/VarHandle") (W : Nat) (hW : (rest.map fun v => v.category).sum ≤ W) (hf : rm.frames + 1 ≤ R.frames) (hl : W + (maxL + 11) + rm.locals ≤ R.locals) (hc : cells + rm.cells ≤ R.cells) (hs : slots + rm.slots ≤ R.slots) (q : Nat) (hq : pc + 3 = q)
    (k : ∀ (T' : State) (v : Option Value) (L : List Loc), Stand p l e R s m args below meth c T' (locs ++ L) (cells + rm.cells) (slots + rm.slots) → Q v T'.heap L → Goes p e below K (T'.setTop (mkF m q Ls (v.toList ++ rest)))) : Goes p e below K (T.setTop (mkF m pc Ls st)) := by
  subst hq hst
  obtain ⟨cq, kq, qa, qb, qc⟩ := isOf hZ eT E
  obtain ⟨v, _, ⟨T', L', k', n'⟩, -, X', ⟨Lc, hQ, l1, y1, z1⟩, st⟩ := X.virtualBack hx (y := y) (z := z) hown (mvT hZ w1) (mvT hZ w2) nf (mvT hZ w5) (mvT hZ w6) hy (backOf (W := W) hM hZ w4 w3 hf hl) qa qc (g := mkF m pc Ls (argsL.reverse ++ .ref a :: rest)) rfl hsz (Steps.refl _) (argsL := argsL) (rest := rest) (lenOf hpd hlen) rfl (by show 2 * 0 + _ ≤ _; omega) (hb hby hd) (fun _ _ => ⟨rfl, eT, hc, hs⟩)
  dsimp only [Pt.U, Pt.locs, Pt.cells, Pt.slots] at X' l1 y1 z1 st hQ
  subst l1 y1 z1
  exact Goes.of (fun t kt => st.trans kt) (k _ _ _ X' hQ)
theorem g_initO (X : Stand p l e R s m args below meth c T locs cells slots) (hx : p.tables.exec = Jvm.exec) (hby : c.code = bytes) {Z : State} {a0 : Array Value} (hZ : Z.Warmed39 s.vm) {own : String} {index : Nat} {h : Heap} {a : Addr} (hown : s.vm.findClass own = some m.cls) (w1 : (Jvm.Cond.methodLink own index Lib.objectInit).before a0 Z = true) (w2 : (Jvm.Cond.instanceMethod Lib.objectInit).before a0 Z = true) (w3 : (Jvm.Cond.code Lib.objectInit ⟨#[0xb1]⟩ 1 none).before a0 Z = true)
    (hd : decode bytes pc = .ok (.invokespecial index, 3)) (eT : T.heap = h) (hsz : Ls.size = c.maxLocals) (W : Nat) (hW : (rest.map fun v => v.category).sum ≤ W) (hf : 1 ≤ R.frames) (hl : W + 12 ≤ R.locals) (q : Nat) (hq : pc + 3 = q)
    (k : ∀ T' : State, Stand p l e R s m args below meth c T' locs cells slots → T'.heap = h → Goes p e below K (T'.setTop (mkF m q Ls rest))) : Goes p e below K (T.setTop (mkF m pc Ls (.ref a :: rest))) := by
  subst hq
  obtain ⟨T', X', e', st⟩ := initO X hx hZ hown w1 w2 w3 eT (g := mkF m pc Ls (.ref a :: rest)) rfl hsz rfl (hb hby hd) hf (W := W) (by show 2 * 0 + _ ≤ _; omega) hl
  exact Goes.of st (k _ X' e')
theorem g_getfield (X : Stand p l e R s m args below meth c T locs cells slots) (hx : p.tables.exec = Jvm.exec) (hby : c.code = bytes) {Z : State} {a0 : Array Value} (hZ : Z.Warmed39 s.vm) {own R0 O n d host : String} {index : Nat} {h : Heap} {a : Addr} {v : Value} (hown : s.vm.findClass own = some m.cls) (w : (Jvm.Cond.fieldLink own index R0 n d).before a0 Z = true ∨ (Jvm.Cond.fieldLinkNest own index R0 n d host).before a0 Z = true) (via : Via Z R0 O n d) (eT : T.heap = h) (F : Fld Z h a O n d v)
    (hd : decode bytes pc = .ok (.getfield index, 3)) (q : Nat) (hq : pc + 3 = q) (k : ∀ T' : State, Stand p l e R s m args below meth c T' locs cells slots → T'.heap = h → Goes p e below K (T'.setTop (mkF m q Ls (v :: rest)))) : Goes p e below K (T.setTop (mkF m pc Ls (.ref a :: rest))) := by
  subst hq
  obtain ⟨T', X', e', st⟩ := getF X hx hZ hown w via eT F (g := mkF m pc Ls (.ref a :: rest)) rfl rfl (hb hby hd)
  exact Goes.of st (k _ X' e')
theorem g_putfield (X : Stand p l e R s m args below meth c T locs cells slots) (hx : p.tables.exec = Jvm.exec) (hby : c.code = bytes) {Z : State} {a0 : Array Value} (hZ : Z.Warmed39 s.vm) {own R0 O n d host C : String} {index kk : Nat} {ty : FieldType} {h : Heap} {a : Addr} {v old : Value} (hown : s.vm.findClass own = some m.cls) (w : (Jvm.Cond.fieldLink own index R0 n d).before a0 Z = true ∨ (Jvm.Cond.fieldLinkNest own index R0 n d host).before a0 Z = true) (via : Via Z R0 O n d) (eT : T.heap = h) (F : Fld Z h a O n d old) (E : Exa Z h a C)
    (L : (Jvm.Cond.lays C O n d).before a0 Z = true ∨ ((Jvm.Cond.laysFinal C O n d).before a0 Z = true ∧ own = O ∧ meth.name = "<init>")) (wi : (Jvm.Cond.instantiable C kk).before a0 Z = true) (hty : parseFieldDescriptor d = some ty) (hn : narrow ty v = v) (hf : fits ty v = true) (hd : decode bytes pc = .ok (.putfield index, 3)) (q : Nat) (hq : pc + 3 = q)
    (k : ∀ (T' : State) (h' : Heap), Stand p l e R s m args below meth c T' (locs ++ [⟨a, Jvm.RoadKit.slotOf Z O n d⟩]) cells slots → T'.heap = h' → Wr h h' a (Jvm.RoadKit.slotOf Z O n d) v → Goes p e below K (T'.setTop (mkF m q Ls rest))) : Goes p e below K (T.setTop (mkF m pc Ls (v :: .ref a :: rest))) := by
  subst hq
  obtain ⟨T', h', X', e', W', st⟩ := putF X hx hZ hown w via eT F E L wi hty hn hf (g := mkF m pc Ls (v :: .ref a :: rest)) rfl rfl (hb hby hd)
  exact Goes.of st (k _ _ X' e' W')
theorem g_new (X : Stand p l e R s m args below meth c T locs cells slots) (hx : p.tables.exec = Jvm.exec) (hby : c.code = bytes) {Z : State} {a0 : Array Value} (hZ : Z.Warmed39 s.vm) {own C : String} {index n : Nat} {h : Heap} (hown : s.vm.findClass own = some m.cls) (w : (Jvm.Cond.classLink own index C).before a0 Z = true) (wi : (Jvm.Cond.instantiable C n).before a0 Z = true) (wz : (Jvm.Cond.initialized C).before a0 Z = true) (eT : T.heap = h) (hd : decode bytes pc = .ok (.new index, 3)) (hc : cells + 1 ≤ R.cells) (hl : slots + n ≤ R.slots) (q : Nat) (hq : pc + 3 = q)
    (k : ∀ (T' : State) (h' : Heap) (a : Addr), a = h.size → Stand p l e R s m args below meth c T' locs (cells + 1) (slots + n) → T'.heap = h' → Ext h h' → Exa Z h' a C → (∀ {O nm d : String} {ty : FieldType}, Laid Z a0 C O nm d → parseFieldDescriptor d = some ty → Fld Z h' a O nm d (defaultValue ty)) → Goes p e below K (T'.setTop (mkF m q Ls (.ref a :: rest)))) : Goes p e below K (T.setTop (mkF m pc Ls rest)) := by
  subst hq
  obtain ⟨T', h', X', e', E', A', D', -, st⟩ := newO X hx hZ hown w wi wz eT (g := mkF m pc Ls rest) rfl (hb hby hd) hc hl
  exact Goes.of st (k _ _ _ rfl X' e' E' A' D')
def upd {α : Type} (f : Nat → α) (k : Nat) (x : α) : Nat → α := fun i => if i = k then x else f i
theorem upd_hit {α : Type} (f : Nat → α) (k : Nat) (x : α) : upd f k x k = x := if_pos rfl
theorem upd_miss {α : Type} (f : Nat → α) {k i : Nat} (x : α) (h : i ≠ k) : upd f k x i = f i := if_neg h
def ArF (Z : State) (h : Heap) (a : Addr) (ty : FieldType) (n : Nat) (f : Nat → Value) : Prop := ∃ c : Cell, Arr Z h a c ty ∧ c.slots.size = n ∧ n < 2 ^ 31 ∧ ∀ j, j < n → c.slots[j]? = some (f j)
abbrev AI (Z : State) (h : Heap) (a : Addr) (ty : FieldType) (n : Nat) (f : Nat → Int32) : Prop := ArF Z h a ty n (fun i => .int (f i))
abbrev AJ (Z : State) (h : Heap) (a : Addr) (n : Nat) (f : Nat → Int64) : Prop := ArF Z h a .long n (fun i => .long (f i))
section Arrays
variable {Z : State} {h h' : Heap} {a b : Addr} {ty : FieldType} {n : Nat} {f : Nat → Value}
theorem ArF.lt (F : ArF Z h a ty n f) : a < h.size := by obtain ⟨c, A, -⟩ := F; exact A.lt
theorem ArF.len (F : ArF Z h a ty n f) : n < 2 ^ 31 := by obtain ⟨c, -, -, q, -⟩ := F; exact q
theorem ArF.ext (F : ArF Z h a ty n f) (E : Ext h h') : ArF Z h' a ty n f := by obtain ⟨c, A, r⟩ := F; exact ⟨c, A.ext E, r⟩
theorem ArF.other {sl : Nat} {v : Value} (F : ArF Z h b ty n f) (W : Wr h h' a sl v) (q : b ≠ a) : ArF Z h' b ty n f := by obtain ⟨c, A, r⟩ := F; exact ⟨c, A.other W q, r⟩
theorem ArF.keep {ws : List Addr} (F : ArF Z h a ty n f) (K : Keep h h' ws) (q : a ∉ ws) : ArF Z h' a ty n f := by obtain ⟨c, A, r⟩ := F; exact ⟨c, ⟨K.2.1 a c A.1 q, A.2⟩, r⟩
theorem ArF.congr {g : Nat → Value} (F : ArF Z h a ty n f) (q : ∀ i, i < n → f i = g i) : ArF Z h a ty n g := by obtain ⟨c, A, r1, r2, r3⟩ := F; exact ⟨c, A, r1, r2, fun j hj => by rw [r3 j hj, q j hj]⟩
theorem ArF.fresh {k : ClassId} {z : Int32} (A : Arr Z h a (newA k ty z) ty) (q : ¬ z < 0) (e : z.toNatClampNeg = n) : ArF Z h a ty n (fun _ => defaultValue ty) := by
  subst e
  refine ⟨_, A, sz_new _ _ _, (back32 q).2, fun j hj => ?_⟩
  simp [newA, hj]
theorem ArF.set {j : Nat} {v : Value} (F : ArF Z h a ty n f) (W : Wr h h' a j v) : ArF Z h' a ty n (upd f j v) := by
  obtain ⟨c, A, r1, r2, r3⟩ := F
  refine ⟨_, A.same W, (sz_set _ _ _).trans r1, r2, fun i hi => ?_⟩
  by_cases q : i = j
  · subst q; rw [upd_hit]; simp [Cell.setSlot, r1, hi]
  · rw [upd_miss _ _ q, ← r3 i hi]
    simp only [Cell.setSlot]
    exact Array.getElem?_setIfInBounds_ne (fun y => q y.symm)
theorem AI.set {j : Nat} {x : Int32} {g : Nat → Int32} (F : AI Z h a ty n g) (W : Wr h h' a j (.int x)) : AI Z h' a ty n (upd g j x) := (ArF.set F W).congr fun i _ => by by_cases q : i = j <;> simp [upd, q]
theorem AJ.set {j : Nat} {x : Int64} {g : Nat → Int64} (F : AJ Z h a n g) (W : Wr h h' a j (.long x)) : AJ Z h' a n (upd g j x) := (ArF.set F W).congr fun i _ => by by_cases q : i = j <;> simp [upd, q]
theorem own_in {c : Cell} {j : Int32} {k : Nat} (hs : c.slots.size = n) (h0 : ¬ j < 0) (hj : j.toNatClampNeg = k) (hk : k < n) : ¬ (j < 0 ∨ c.slots.size ≤ j.toNatClampNeg) := by
  subst hs hj; exact fun y => y.elim h0 (Nat.not_le.mpr hk)
end Arrays
theorem g_newarray (X : Stand p l e R s m args below meth c T locs cells slots) (hx : p.tables.exec = Jvm.exec) (hby : c.code = bytes) {Z : State} {a0 : Array Value} (hZ : Z.Warmed39 s.vm) {aty : ArrayType} {h : Heap} {z : Int32} (w : (Jvm.Cond.arrayClass (newarray.typeOf aty)).before a0 Z = true) (eT : T.heap = h) (hd : decode bytes pc = .ok (.newarray aty, 2)) (hz : ¬ z < 0) (n : Nat) (hn : z.toNatClampNeg = n) (cap : Nat) (hcap : n ≤ cap) (hbig : cap * 8 ≤ 536870912) (hc : cells + 1 ≤ R.cells) (hl : slots + cap ≤ R.slots) (q : Nat) (hq : pc + 2 = q)
    (k : ∀ (T' : State) (h' : Heap) (a : Addr), a = h.size → Stand p l e R s m args below meth c T' locs (cells + 1) (slots + cap) → T'.heap = h' → Ext h h' → ArF Z h' a (newarray.typeOf aty) n (fun _ => defaultValue (newarray.typeOf aty)) → Goes p e below K (T'.setTop (mkF m q Ls (.ref a :: rest)))) : Goes p e below K (T.setTop (mkF m pc Ls (.int z :: rest))) := by
  subst hq
  obtain ⟨T', h', cA, X', e', E', A', st⟩ := newP X hx hZ w eT (g := mkF m pc Ls (.int z :: rest)) rfl (hb hby hd) rfl hz (cap := cap) (by rw [hn]; exact hcap) hbig hc hl
  exact Goes.of st (k _ _ _ rfl X' e' E' (ArF.fresh A' hz hn))
theorem g_arraylength (X : Stand p l e R s m args below meth c T locs cells slots) (hx : p.tables.exec = Jvm.exec) (hby : c.code = bytes) {Z : State} (hZ : Z.Warmed39 s.vm) {h : Heap} {a : Addr} {ty : FieldType} {n : Nat} {f : Nat → Value} (eT : T.heap = h) (F : ArF Z h a ty n f) (hd : decode bytes pc = .ok (.arraylength, 1)) (z : Int32) (hz : n.toInt32 = z) (q : Nat) (hq : pc + 1 = q) (k : Goes p e below K (T.setTop (mkF m q Ls (.int z :: rest)))) : Goes p e below K (T.setTop (mkF m pc Ls (.ref a :: rest))) := by
  subst hq hz
  obtain ⟨cl, A, r1, r2, r3⟩ := F
  exact Goes.of (fun t kt => X.arraylength hx (by rw [eT]; exact A.1) (State.isArrayOf_alike hZ.alike A.2.1) (g := mkF m pc Ls (.ref a :: rest)) rfl rfl (hb hby hd) t (by rw [r1]; exact kt)) k
theorem g_iaload (X : Stand p l e R s m args below meth c T locs cells slots) (hx : p.tables.exec = Jvm.exec) (hby : c.code = bytes) {Z : State} (hZ : Z.Warmed39 s.vm) {h : Heap} {a : Addr} {n : Nat} {f : Nat → Int32} {j : Int32} (eT : T.heap = h) (F : AI Z h a .int n f) (hd : decode bytes pc = .ok (.iaload, 1)) (h0 : ¬ j < 0) (i : Nat) (hj : j.toNatClampNeg = i) (hi : i < n) (x : Int32) (hfx : f i = x) (q : Nat) (hq : pc + 1 = q) (k : Goes p e below K (T.setTop (mkF m q Ls (.int x :: rest)))) : Goes p e below K (T.setTop (mkF m pc Ls (.int j :: .ref a :: rest))) := by
  subst hq hfx
  obtain ⟨cl, A, r1, r2, r3⟩ := F
  exact Goes.of (fun t kt => X.iaload hx (by rw [eT]; exact A.1) (State.isArrayOf_alike hZ.alike A.2.1) A.2.2 (own_in r1 h0 hj hi) (by rw [hj]; exact r3 i hi) (g := mkF m pc Ls (.int j :: .ref a :: rest)) rfl rfl (hb hby hd) t kt) k
theorem g_baload (X : Stand p l e R s m args below meth c T locs cells slots) (hx : p.tables.exec = Jvm.exec) (hby : c.code = bytes) {Z : State} (hZ : Z.Warmed39 s.vm) {h : Heap} {a : Addr} {n : Nat} {f : Nat → Int32} {j : Int32} (eT : T.heap = h) (F : AI Z h a .byte n f) (hd : decode bytes pc = .ok (.baload, 1)) (h0 : ¬ j < 0) (i : Nat) (hj : j.toNatClampNeg = i) (hi : i < n) (x : Int32) (hfx : f i = x) (q : Nat) (hq : pc + 1 = q) (k : Goes p e below K (T.setTop (mkF m q Ls (.int x :: rest)))) : Goes p e below K (T.setTop (mkF m pc Ls (.int j :: .ref a :: rest))) := by
  subst hq hfx
  obtain ⟨cl, A, r1, r2, r3⟩ := F
  exact Goes.of (fun t kt => X.baloadBytes hx (by rw [eT]; exact A.1) (State.isArrayOf_alike hZ.alike A.2.1) A.2.2 (own_in r1 h0 hj hi) (by rw [hj]; exact r3 i hi) (g := mkF m pc Ls (.int j :: .ref a :: rest)) rfl rfl (hb hby hd) t kt) k
theorem g_laload (X : Stand p l e R s m args below meth c T locs cells slots) (hx : p.tables.exec = Jvm.exec) (hby : c.code = bytes) {Z : State} (hZ : Z.Warmed39 s.vm) {h : Heap} {a : Addr} {n : Nat} {f : Nat → Int64} {j : Int32} (eT : T.heap = h) (F : AJ Z h a n f) (hd : decode bytes pc = .ok (.laload, 1)) (h0 : ¬ j < 0) (i : Nat) (hj : j.toNatClampNeg = i) (hi : i < n) (x : Int64) (hfx : f i = x) (q : Nat) (hq : pc + 1 = q) (k : Goes p e below K (T.setTop (mkF m q Ls (.long x :: rest)))) : Goes p e below K (T.setTop (mkF m pc Ls (.int j :: .ref a :: rest))) := by
  subst hq hfx
  obtain ⟨cl, A, r1, r2, r3⟩ := F
  exact Goes.of (fun t kt => X.laload hx (by rw [eT]; exact A.1) (State.isArrayOf_alike hZ.alike A.2.1) A.2.2 (own_in r1 h0 hj hi) (by rw [hj]; exact r3 i hi) (g := mkF m pc Ls (.int j :: .ref a :: rest)) rfl rfl (hb hby hd) t kt) k
theorem g_aaload (X : Stand p l e R s m args below meth c T locs cells slots) (hx : p.tables.exec = Jvm.exec) (hby : c.code = bytes) {Z : State} (hZ : Z.Warmed39 s.vm) {h : Heap} {a : Addr} {n : Nat} {ty : FieldType} {f : Nat → Value} {j : Int32} (eT : T.heap = h) (F : ArF Z h a ty n f) (hty : ty.isReference = true) (hd : decode bytes pc = .ok (.aaload, 1)) (h0 : ¬ j < 0) (i : Nat) (hj : j.toNatClampNeg = i) (hi : i < n) (x : Value) (hfx : f i = x) (q : Nat) (hq : pc + 1 = q) (k : Goes p e below K (T.setTop (mkF m q Ls (x :: rest)))) : Goes p e below K (T.setTop (mkF m pc Ls (.int j :: .ref a :: rest))) := by
  subst hq hfx
  obtain ⟨cl, A, r1, r2, r3⟩ := F
  exact Goes.of (fun t kt => X.aaload hx (by rw [eT]; exact A.1) (State.isArrayOf_alike hZ.alike A.2.1) hty A.2.2 (own_in r1 h0 hj hi) (by rw [hj]; exact r3 i hi) (g := mkF m pc Ls (.int j :: .ref a :: rest)) rfl rfl (hb hby hd) t kt) k
theorem g_iastore (X : Stand p l e R s m args below meth c T locs cells slots) (hx : p.tables.exec = Jvm.exec) (hby : c.code = bytes) {Z : State} (hZ : Z.Warmed39 s.vm) {h : Heap} {a : Addr} {n : Nat} {f : Nat → Int32} {j : Int32} {x : Int32} (eT : T.heap = h) (F : AI Z h a .int n f) (hd : decode bytes pc = .ok (.iastore, 1)) (h0 : ¬ j < 0) (i : Nat) (hj : j.toNatClampNeg = i) (hi : i < n) (q : Nat) (hq : pc + 1 = q)
    (k : ∀ (T' : State) (h' : Heap), Stand p l e R s m args below meth c T' (locs ++ [⟨a, i⟩]) cells slots → T'.heap = h' → Wr h h' a i (.int x) → AI Z h' a .int n (upd f i x) → Goes p e below K (T'.setTop (mkF m q Ls rest))) : Goes p e below K (T.setTop (mkF m pc Ls (.int x :: .int j :: .ref a :: rest))) := by
  subst hq
  have F' := F
  obtain ⟨cl, A, r1, r2, r3⟩ := F'
  obtain ⟨T', h', X', e', W', st⟩ := stI X hx hZ eT A (own_in r1 h0 hj hi) (g := mkF m pc Ls (.int x :: .int j :: .ref a :: rest)) rfl rfl (hb hby hd)
  rw [hj] at X' W'
  exact Goes.of st (k _ _ X' e' W' (AI.set F W'))
theorem g_bastore (X : Stand p l e R s m args below meth c T locs cells slots) (hx : p.tables.exec = Jvm.exec) (hby : c.code = bytes) {Z : State} (hZ : Z.Warmed39 s.vm) {h : Heap} {a : Addr} {n : Nat} {f : Nat → Int32} {j : Int32} {x : Int32} (eT : T.heap = h) (F : AI Z h a .byte n f) (hd : decode bytes pc = .ok (.bastore, 1)) (h0 : ¬ j < 0) (i : Nat) (hj : j.toNatClampNeg = i) (hi : i < n) (y : Int32) (hxy : x.toInt8.toInt32 = y) (q : Nat) (hq : pc + 1 = q)
    (k : ∀ (T' : State) (h' : Heap), Stand p l e R s m args below meth c T' (locs ++ [⟨a, i⟩]) cells slots → T'.heap = h' → Wr h h' a i (.int y) → AI Z h' a .byte n (upd f i y) → Goes p e below K (T'.setTop (mkF m q Ls rest))) : Goes p e below K (T.setTop (mkF m pc Ls (.int x :: .int j :: .ref a :: rest))) := by
  subst hq hxy
  have F' := F
  obtain ⟨cl, A, r1, r2, r3⟩ := F'
  obtain ⟨T', h', X', e', W', st⟩ := stB X hx hZ eT A (own_in r1 h0 hj hi) (g := mkF m pc Ls (.int x :: .int j :: .ref a :: rest)) rfl rfl (hb hby hd)
  rw [hj] at X' W'
  exact Goes.of st (k _ _ X' e' W' (AI.set F W'))
theorem g_lastore (X : Stand p l e R s m args below meth c T locs cells slots) (hx : p.tables.exec = Jvm.exec) (hby : c.code = bytes) {Z : State} (hZ : Z.Warmed39 s.vm) {h : Heap} {a : Addr} {n : Nat} {f : Nat → Int64} {j : Int32} {x : Int64} (eT : T.heap = h) (F : AJ Z h a n f) (hd : decode bytes pc = .ok (.lastore, 1)) (h0 : ¬ j < 0) (i : Nat) (hj : j.toNatClampNeg = i) (hi : i < n) (q : Nat) (hq : pc + 1 = q)
    (k : ∀ (T' : State) (h' : Heap), Stand p l e R s m args below meth c T' (locs ++ [⟨a, i⟩]) cells slots → T'.heap = h' → Wr h h' a i (.long x) → AJ Z h' a n (upd f i x) → Goes p e below K (T'.setTop (mkF m q Ls rest))) : Goes p e below K (T.setTop (mkF m pc Ls (.long x :: .int j :: .ref a :: rest))) := by
  subst hq
  have F' := F
  obtain ⟨cl, A, r1, r2, r3⟩ := F'
  obtain ⟨T', h', X', e', W', st⟩ := stJ X hx hZ eT A (own_in r1 h0 hj hi) (g := mkF m pc Ls (.long x :: .int j :: .ref a :: rest)) rfl rfl (hb hby hd)
  rw [hj] at X' W'
  exact Goes.of st (k _ _ X' e' W' (AJ.set F W'))
def ArO (Z : State) (h : Heap) (a : Addr) (C : String) (n : Nat) (f : Nat → Value) : Prop := ∃ c : Cell, Arr Z h a c (.object C) ∧ c.slots.size = n ∧ n < 2 ^ 31 ∧ (∀ j, j < n → c.slots[j]? = some (f j)) ∧ Ovr Z c.cls C
section ArraysO
variable {Z : State} {h h' : Heap} {a b : Addr} {C : String} {n : Nat} {f : Nat → Value}
theorem ArO.toF (F : ArO Z h a C n f) : ArF Z h a (.object C) n f := by obtain ⟨c, A, r1, r2, r3, -⟩ := F; exact ⟨c, A, r1, r2, r3⟩
theorem ArO.lt (F : ArO Z h a C n f) : a < h.size := F.toF.lt
theorem ArO.ext (F : ArO Z h a C n f) (E : Ext h h') : ArO Z h' a C n f := by obtain ⟨c, A, r⟩ := F; exact ⟨c, A.ext E, r⟩
theorem ArO.other {sl : Nat} {v : Value} (F : ArO Z h b C n f) (W : Wr h h' a sl v) (q : b ≠ a) : ArO Z h' b C n f := by obtain ⟨c, A, r⟩ := F; exact ⟨c, A.other W q, r⟩
theorem ArO.keep {ws : List Addr} (F : ArO Z h a C n f) (K : Keep h h' ws) (q : a ∉ ws) : ArO Z h' a C n f := by obtain ⟨c, A, r⟩ := F; exact ⟨c, ⟨K.2.1 a c A.1 q, A.2⟩, r⟩
theorem ArO.congr {g : Nat → Value} (F : ArO Z h a C n f) (q : ∀ i, i < n → f i = g i) : ArO Z h a C n g := by obtain ⟨c, A, r1, r2, r3, r4⟩ := F; exact ⟨c, A, r1, r2, fun j hj => by rw [r3 j hj, q j hj], r4⟩
theorem ArO.fresh {k : ClassId} {z : Int32} (A : Arr Z h a (newA k (.object C) z) (.object C)) (O : Ovr Z k C) (q : ¬ z < 0) (e : z.toNatClampNeg = n) : ArO Z h a C n (fun _ => .null) := by
  subst e
  refine ⟨_, A, sz_new _ _ _, (back32 q).2, fun j hj => ?_, O⟩
  simp [newA, hj, defaultValue]
theorem ArO.set {j : Nat} {v : Value} (F : ArO Z h a C n f) (W : Wr h h' a j v) : ArO Z h' a C n (upd f j v) := by
  obtain ⟨c, A, r1, r2, r3, r4⟩ := F
  refine ⟨_, A.same W, (sz_set _ _ _).trans r1, r2, fun i hi => ?_, r4⟩
  by_cases q : i = j
  · subst q; rw [upd_hit]; simp [Cell.setSlot, r1, hi]
  · rw [upd_miss _ _ q, ← r3 i hi]
    simp only [Cell.setSlot]
    exact Array.getElem?_setIfInBounds_ne (fun y => q y.symm)
theorem ArO.sto {y : Addr} (F : ArO Z h a C n f) (I : Ins Z h y C true) : Sto Z h a (.ref y) := by obtain ⟨c, A, -, -, -, O⟩ := F; exact Sto.of A O I
end ArraysO
theorem g_anewarray (X : Stand p l e R s m args below meth c T locs cells slots) (hx : p.tables.exec = Jvm.exec) (hby : c.code = bytes) {Z : State} {a0 : Array Value} (hZ : Z.Warmed39 s.vm) {own C : String} {index : Nat} {h : Heap} {z : Int32} (hown : s.vm.findClass own = some m.cls) (w1 : (Jvm.Cond.classLink own index C).before a0 Z = true) (w2 : (Jvm.Cond.arrayOver (.object C)).before a0 Z = true) (eT : T.heap = h) (hd : decode bytes pc = .ok (.anewarray index, 3)) (hz : ¬ z < 0) (n : Nat) (hn : z.toNatClampNeg = n) (cap : Nat) (hcap : n ≤ cap) (hbig : cap * 8 ≤ 536870912) (hc : cells + 1 ≤ R.cells) (hl : slots + cap ≤ R.slots) (q : Nat) (hq : pc + 3 = q)
    (k : ∀ (T' : State) (h' : Heap) (a : Addr), a = h.size → Stand p l e R s m args below meth c T' locs (cells + 1) (slots + cap) → T'.heap = h' → Ext h h' → ArO Z h' a C n (fun _ => .null) → Goes p e below K (T'.setTop (mkF m q Ls (.ref a :: rest)))) : Goes p e below K (T.setTop (mkF m pc Ls (.int z :: rest))) := by
  subst hq
  obtain ⟨T', h', cA, X', e', E', A', O', st⟩ := newR X hx hZ hown w1 w2 eT (g := mkF m pc Ls (.int z :: rest)) rfl (hb hby hd) rfl hz (cap := cap) (by rw [hn]; exact hcap) hbig hc hl
  exact Goes.of st (k _ _ _ rfl X' e' E' (ArO.fresh A' O' hz hn))
theorem g_aastore (X : Stand p l e R s m args below meth c T locs cells slots) (hx : p.tables.exec = Jvm.exec) (hby : c.code = bytes) {Z : State} (hZ : Z.Warmed39 s.vm) {h : Heap} {a : Addr} {n : Nat} {C : String} {f : Nat → Value} {j : Int32} {x : Value} (eT : T.heap = h) (F : ArO Z h a C n f) (S : Sto Z h a x) (hd : decode bytes pc = .ok (.aastore, 1)) (h0 : ¬ j < 0) (i : Nat) (hj : j.toNatClampNeg = i) (hi : i < n) (q : Nat) (hq : pc + 1 = q)
    (k : ∀ (T' : State) (h' : Heap), Stand p l e R s m args below meth c T' (locs ++ [⟨a, i⟩]) cells slots → T'.heap = h' → Wr h h' a i x → ArO Z h' a C n (upd f i x) → Goes p e below K (T'.setTop (mkF m q Ls rest))) : Goes p e below K (T.setTop (mkF m pc Ls (x :: .int j :: .ref a :: rest))) := by
  subst hq
  have F' := F
  obtain ⟨cl, A, r1, r2, r3, r4⟩ := F'
  obtain ⟨T', h', X', e', W', st⟩ := stR X hx hZ eT A (own_in r1 h0 hj hi) rfl S (g := mkF m pc Ls (x :: .int j :: .ref a :: rest)) rfl rfl (hb hby hd)
  rw [hj] at X' W'
  exact Goes.of st (k _ _ X' e' W' (ArO.set F W'))
theorem g_checkcast (X : Stand p l e R s m args below meth c T locs cells slots) (hx : p.tables.exec = Jvm.exec) (hby : c.code = bytes) {Z : State} {a0 : Array Value} (hZ : Z.Warmed39 s.vm) {own C : String} {index : Nat} {h : Heap} {a : Addr} (hown : s.vm.findClass own = some m.cls) (w : (Jvm.Cond.classLink own index C).before a0 Z = true) (eT : T.heap = h) (I : Ins Z h a C true) (hd : decode bytes pc = .ok (.checkcast index, 3)) (q : Nat) (hq : pc + 3 = q)
    (k : ∀ T' : State, Stand p l e R s m args below meth c T' locs cells slots → T'.heap = h → Goes p e below K (T'.setTop (mkF m q Ls (.ref a :: rest)))) : Goes p e below K (T.setTop (mkF m pc Ls (.ref a :: rest))) := by
  subst hq
  obtain ⟨T', X', e', st⟩ := castY X hx hZ hown w eT I (g := mkF m pc Ls (.ref a :: rest)) rfl rfl (hb hby hd)
  exact Goes.of st (k _ X' e')
theorem g_getstatic (X : Stand p l e R s m args below meth c T locs cells slots) (hx : p.tables.exec = Jvm.exec) (hby : c.code = bytes) {Z : State} {a0 : Array Value} (hZ : Z.Warmed39 s.vm) {own R0 O n d host : String} {index : Nat} {h : Heap} {v : Value} (hown : s.vm.findClass own = some m.cls) (w : (Jvm.Cond.fieldLink own index R0 n d).before a0 Z = true ∨ (Jvm.Cond.fieldLinkNest own index R0 n d host).before a0 Z = true) (via : Via Z R0 O n d) (eT : T.heap = h) (F : Sta Z h O n d v) (hd : decode bytes pc = .ok (.getstatic index, 3)) (q : Nat) (hq : pc + 3 = q)
    (k : ∀ T' : State, Stand p l e R s m args below meth c T' locs cells slots → T'.heap = h → Goes p e below K (T'.setTop (mkF m q Ls (v :: rest)))) : Goes p e below K (T.setTop (mkF m pc Ls rest)) := by
  subst hq
  obtain ⟨T', X', e', st⟩ := getS2 X hx hZ hown w via eT F (g := mkF m pc Ls rest) rfl (hb hby hd)
  exact Goes.of st (k _ X' e')
theorem own_fm {r n d : String} (h1 : r ≠ "java/lang/invoke/MethodHandle") (h2 : r ≠ "java/lang/invoke/VarHandle") : ((Jvm.Cond.interfaceMethod r r n d).onTables && (Jvm.Cond.interfaceMethod r r n d).keepsFace) = true := by
  have e : ((Jvm.Cond.interfaceMethod r r n d).onTables && (Jvm.Cond.interfaceMethod r r n d).keepsFace) = (r == r && r != "java/lang/invoke/MethodHandle" && r != "java/lang/invoke/VarHandle") := rfl
  rw [e]; simp [h1, h2]
theorem g_interface (X : Stand p l e R s m args below meth c T locs cells slots) (hx : p.tables.exec = Jvm.exec) (hby : c.code = bytes) {Z : State} {a0 : Array Value} (hZ : Z.Warmed39 s.vm) {own : String} {index : Nat} {y : MethodName} {cb : ByteArray} {maxL : Nat} {ret : Option FieldType} {rm : Room} {Q : Option Value → Heap → List Loc → Prop} {h : Heap} {z : MethodName} {C : String} {count : Nat} (hown : s.vm.findClass own = some m.cls) (w1 : (Jvm.Cond.methodLink own index y).before a0 Z = true) (w2 : (Jvm.Cond.declares y).before a0 Z = true) (w7 : (Jvm.Cond.interfaceMethod y.cls y.cls y.name y.desc).before a0 Z = true) (w5 : (Jvm.Cond.selects C y z).before a0 Z = true) (w6 : (Jvm.Cond.instanceMethod z).before a0 Z = true) (w8 : (Jvm.Cond.publicMethod z).before a0 Z = true) (w9 : (Jvm.Cond.unhidden C y.name y.desc).before a0 Z = true) (w10 : (Jvm.Cond.castable C y.cls).before a0 Z = true) (w3 : (Jvm.Cond.initialized z.cls).before a0 Z = true) (w4 : (Jvm.Cond.code z cb maxL ret).before a0 Z = true)
    (hd : decode bytes pc = .ok (.invokeinterface index count, 5)) (a : Addr) (E : Exa Z h a C) (argsL rest : List Value) {st : List Value} (hM : Ctr l z cb maxL ret [] rm (.ref a :: argsL).toArray Z h Q) (eT : T.heap = h) (hst : st = argsL.reverse ++ .ref a :: rest) (hsz : Ls.size = c.maxLocals) {ps : List FieldType} {rt : Option FieldType} (hpd : parseMethodDescriptor y.desc = some ⟨ps, rt⟩) (hlen : argsL.length = ps.length)
    (hy : y.cls ≠ "java/lang/invoke/MethodHandle" ∧ y.cls ≠ "java/lang/invoke/VarHandle") (W : Nat) (hW : (rest.map fun v => v.category).sum ≤ W) (hf : rm.frames + 1 ≤ R.frames) (hl : W + (maxL + 11) + rm.locals ≤ R.locals) (hc : cells + rm.cells ≤ R.cells) (hs : slots + rm.slots ≤ R.slots) (q : Nat) (hq : pc + 5 = q)
    (k : ∀ (T' : State) (v : Option Value) (L : List Loc), Stand p l e R s m args below meth c T' (locs ++ L) (cells + rm.cells) (slots + rm.slots) → Q v T'.heap L → Goes p e below K (T'.setTop (mkF m q Ls (v.toList ++ rest)))) : Goes p e below K (T.setTop (mkF m pc Ls st)) := by
  subst hq hst
  obtain ⟨cq, kq, qa, qb, qc⟩ := isOf hZ eT E
  obtain ⟨v, _, ⟨T', L', k', n'⟩, -, X', ⟨Lc, hQ, l1, y1, z1⟩, st⟩ := X.interfaceBack hx (xi := y) (y := z) hown (mvT hZ w1) (mvT hZ w2) (mvT hZ w7 (own_fm hy.1 hy.2)) (mvT hZ w5) (mvT hZ w6) (mvT hZ w8) (mvT hZ w9) (mvT hZ w10) hy (backOf (W := W) hM hZ w4 w3 hf hl) qa qb qc (g := mkF m pc Ls (argsL.reverse ++ .ref a :: rest)) rfl hsz (Steps.refl _) (argsL := argsL) (rest := rest) (lenOf hpd hlen) rfl (by show 2 * 0 + _ ≤ _; omega) (hb hby hd) (fun _ _ => ⟨rfl, eT, hc, hs⟩)
  dsimp only [Pt.U, Pt.locs, Pt.cells, Pt.slots] at X' l1 y1 z1 st hQ
  subst l1 y1 z1
  exact Goes.of (fun t kt => st.trans kt) (k _ _ _ X' hQ)
end OwnKit
theorem byte2 (x : Int32) : x.toInt8.toInt32.toInt8.toInt32 = x.toInt8.toInt32 := by simp
theorem own_ite01 {P : Prop} [Decidable P] : (if P then (1 : Int32) else 0) = 0 ∨ (if P then (1 : Int32) else 0) = 1 := by by_cases h : P <;> simp [h]
theorem own_and31 (x : Int32) : (x &&& (2147483647 : Int32)).toInt = x.toInt % 2147483648 := c_mask x 2147483647 31 (by decide) (by decide)
theorem own_rem (x k : Int32) (d : Int) (hk : k.toInt = d) (hd : 0 < d) : 0 ≤ ((x &&& (2147483647 : Int32)) % k).toInt ∧ ((x &&& (2147483647 : Int32)) % k).toInt < d := by
  have h1 := own_and31 x
  have h2 := (c_irem (x &&& (2147483647 : Int32)) k d hk).1 (by omega)
  rw [h2]; exact ⟨Int.emod_nonneg _ (by omega), Int.emod_lt_of_pos _ hd⟩
theorem own_nn {j : Int32} (h : 0 ≤ j.toInt) : ¬ j < 0 := by
  rw [Int32.lt_iff_toInt_lt]; show ¬ j.toInt < 0; omega
theorem own_lt {j : Int32} {n : Nat} (h : j.toInt < n) (hn : 0 < n) : j.toNatClampNeg < n := by
  show j.toInt.toNat < n; omega

theorem own_clamp {i : Int32} {n : Nat} (h : i.toInt = n) : i.toNatClampNeg = n := by
  show i.toInt.toNat = n; omega
theorem own_nt {n : Nat} (h : n < 2 ^ 31) : n.toInt32.toInt = n := len_toInt h
theorem own_ltn {ii : Int32} {n : Nat} (q : ii < n.toInt32) (h0 : ¬ ii < 0) (hn : n < 2 ^ 31) : ii.toNatClampNeg < n := by
  rw [Int32.lt_iff_toInt_lt, own_nt hn] at q
  rw [Int32.lt_iff_toInt_lt] at h0
  have z : (0 : Int32).toInt = 0 := rfl
  show ii.toInt.toNat < n; omega

def minJ (aa : Int64) (bb : Int64) : Int64 := if bb < aa then (bb) else (aa)
theorem d1_0 : decode jdk_29_method_70_code 0 = .ok (.lload_n 0, 1) := by decide +kernel
theorem d1_1 : decode jdk_29_method_70_code 1 = .ok (.lload_n 2, 1) := by decide +kernel
theorem d1_2 : decode jdk_29_method_70_code 2 = .ok (.lcmp, 1) := by decide +kernel
theorem d1_3 : decode jdk_29_method_70_code 3 = .ok (.ifCond .gt 7, 3) := by decide +kernel
theorem d1_6 : decode jdk_29_method_70_code 6 = .ok (.lload_n 0, 1) := by decide +kernel
theorem d1_7 : decode jdk_29_method_70_code 7 = .ok (.goto 4, 3) := by decide +kernel
theorem d1_10 : decode jdk_29_method_70_code 10 = .ok (.lload_n 2, 1) := by decide +kernel
theorem d1_11 : decode jdk_29_method_70_code 11 = .ok (.lreturn, 1) := by decide +kernel
theorem pn1 : plainFor (⟨"java/lang/Math", "min", "(JJ)J"⟩ : MethodName) = true := Jvm.Free.JP.mathPlain rfl (by decide +kernel)
theorem ef1 (m : MethodId) (aa : Int64) (bb : Int64) : entryFrame m #[(.long aa), (.long bb)] 4 = mkF m 0 #[.val (.long aa), .second, .val (.long bb), .second] [] := by first | (simp [entryFrame, mkF, argsToLocals, Value.category]; done) | rfl
def Q1 (aa : Int64) (bb : Int64) (Z : State) (h0 : Heap) (n0 : Nat) (v : Option Value) (h : Heap) (L : List Loc) : Prop := v = some (.long (minJ aa bb)) ∧ Fr n0 L ∧ h = h0
set_option maxRecDepth 65536 in
set_option maxHeartbeats 40000000 in
theorem rm1 (l : Launch) (Z : State) (a0 : Array Value) (hw : ∀ d ∈ tables_1, d.before a0 Z = true) (ws : List Jvm.Cond) (aa : Int64) (bb : Int64) (h0 : Heap) (n0 : Nat) (Z0 : n0 ≤ h0.size) : Ctr l (⟨"java/lang/Math", "min", "(JJ)J"⟩ : MethodName) jdk_29_method_70_code 4 (some .long) ws ({ frames := 0, cells := 0, slots := 0, locals := 0 } : Room) #[(.long aa), (.long bb)] Z h0 (Q1 aa bb Z h0 n0) := by
  refine own_body pn1 ?_
  intro p e s m below meth c T0 hx hby hml hown hnm hret hlk hZ X0 e0
  have N0 := Fr.nil n0
  refine Goes.entry (ef1 m aa bb) ?_
  refine g_lloadN X0 hx hby d1_0 rfl 1 rfl ?_
  refine g_lloadN X0 hx hby d1_1 rfl 2 rfl ?_
  refine g_lcmp_gt X0 hx hby d1_2 d1_3 10 6 rfl (by decide) (by decide) rfl (fun c1 => ?_) (fun c1 => ?_)
  · -- c1
    refine g_lloadN X0 hx hby d1_10 rfl 11 rfl ?_
    exact g_lreturn X0 hx hby hret hlk d1_11 (by exact ⟨congrArg (fun z => some (Value.long z)) (if_pos c1).symm, N0, e0⟩) (by decide) (by decide)
  · -- not c1
    refine g_lloadN X0 hx hby d1_6 rfl 7 rfl ?_
    refine g_goto X0 hx hby d1_7 11 (by decide) (by decide) ?_
    exact g_lreturn X0 hx hby hret hlk d1_11 (by exact ⟨congrArg (fun z => some (Value.long z)) (if_neg c1).symm, N0, e0⟩) (by decide) (by decide)
def perc (pr : Int32) (n : Nat) (f : Nat → Int64) : Int64 := let rk : Int64 := ((((pr.toInt64) * ((n).toInt32.toInt64)) + (99 : Int64)) / (100 : Int64)); (f ((rk.toInt32) - (1 : Int32)).toNatClampNeg)
theorem d2_0 : decode prog_1_method_11_code 0 = .ok (.iload_n 1, 1) := by decide +kernel
theorem d2_1 : decode prog_1_method_11_code 1 = .ok (.i2l, 1) := by decide +kernel
theorem d2_2 : decode prog_1_method_11_code 2 = .ok (.aload_n 0, 1) := by decide +kernel
theorem d2_3 : decode prog_1_method_11_code 3 = .ok (.arraylength, 1) := by decide +kernel
theorem d2_4 : decode prog_1_method_11_code 4 = .ok (.i2l, 1) := by decide +kernel
theorem d2_5 : decode prog_1_method_11_code 5 = .ok (.lmul, 1) := by decide +kernel
theorem d2_6 : decode prog_1_method_11_code 6 = .ok (.ldc2_w 133, 3) := by decide +kernel
theorem d2_9 : decode prog_1_method_11_code 9 = .ok (.ladd, 1) := by decide +kernel
theorem d2_10 : decode prog_1_method_11_code 10 = .ok (.ldc2_w 135, 3) := by decide +kernel
theorem d2_13 : decode prog_1_method_11_code 13 = .ok (.ldiv, 1) := by decide +kernel
theorem d2_14 : decode prog_1_method_11_code 14 = .ok (.lstore_n 2, 1) := by decide +kernel
theorem d2_15 : decode prog_1_method_11_code 15 = .ok (.aload_n 0, 1) := by decide +kernel
theorem d2_16 : decode prog_1_method_11_code 16 = .ok (.lload_n 2, 1) := by decide +kernel
theorem d2_17 : decode prog_1_method_11_code 17 = .ok (.l2i, 1) := by decide +kernel
theorem d2_18 : decode prog_1_method_11_code 18 = .ok (.iconst 1, 1) := by decide +kernel
theorem d2_19 : decode prog_1_method_11_code 19 = .ok (.isub, 1) := by decide +kernel
theorem d2_20 : decode prog_1_method_11_code 20 = .ok (.laload, 1) := by decide +kernel
theorem d2_21 : decode prog_1_method_11_code 21 = .ok (.lreturn, 1) := by decide +kernel
theorem pn2 : plainFor (⟨"com/example/postlatch/postlatch/BenchTally", "percentile", "([JI)J"⟩ : MethodName) = true := plainFor_of_name (by first | (simp [plainName, overriddenIn]; done) | decide +kernel)
theorem ef2 (m : MethodId) (aa : Addr) (pr : Int32) (n : Nat) (f : Nat → Int64) : entryFrame m #[(.ref aa), (.int pr)] 4 = mkF m 0 #[.val (.ref aa), .val (.int pr), .unset, .unset] [] := by first | (simp [entryFrame, mkF, argsToLocals, Value.category]; done) | rfl
def Q2 (aa : Addr) (pr : Int32) (n : Nat) (f : Nat → Int64) (Z : State) (h0 : Heap) (n0 : Nat) (v : Option Value) (h : Heap) (L : List Loc) : Prop := v = some (.long (perc pr n f)) ∧ Fr n0 L ∧ h = h0
set_option maxRecDepth 65536 in
set_option maxHeartbeats 40000000 in
theorem rm2 (l : Launch) (Z : State) (a0 : Array Value) (hw : ∀ d ∈ tables_1, d.before a0 Z = true) (ws : List Jvm.Cond) (aa : Addr) (pr : Int32) (n : Nat) (f : Nat → Int64) (h0 : Heap) (n0 : Nat) (Z0 : n0 ≤ h0.size) (A_aa_0 : AJ Z h0 aa n f) (hj : ∀ rk : Int64, ((((pr.toInt64) * ((n).toInt32.toInt64)) + (99 : Int64)) / (100 : Int64)) = rk → ¬ (rk.toInt32 - 1) < 0 ∧ (rk.toInt32 - 1).toNatClampNeg < n) : Ctr l (⟨"com/example/postlatch/postlatch/BenchTally", "percentile", "([JI)J"⟩ : MethodName) prog_1_method_11_code 4 (some .long) ws ({ frames := 0, cells := 0, slots := 0, locals := 0 } : Room) #[(.ref aa), (.int pr)] Z h0 (Q2 aa pr n f Z h0 n0) := by
  refine own_body pn2 ?_
  intro p e s m below meth c T0 hx hby hml hown hnm hret hlk hZ X0 e0
  have N0 := Fr.nil n0
  refine Goes.entry (ef2 m aa pr n f) ?_
  refine g_iloadN X0 hx hby d2_0 rfl 1 rfl ?_
  refine g_i2l X0 hx hby d2_1 2 rfl ?_
  refine g_aloadN X0 hx hby d2_2 rfl rfl 3 rfl ?_
  refine g_arraylength X0 hx hby hZ e0 A_aa_0 d2_3 (n).toInt32 rfl 4 rfl ?_
  refine g_i2l X0 hx hby d2_4 5 rfl ?_
  refine g_lmul X0 hx hby d2_5 6 rfl ?_
  refine g_ldc2 X0 hx hby hZ hown (hw _ (List.mem_of_getElem? (i := 11) rfl)) d2_6 9 rfl ?_
  refine g_ladd X0 hx hby d2_9 10 rfl ?_
  refine g_ldc2 X0 hx hby hZ hown (hw _ (List.mem_of_getElem? (i := 12) rfl)) d2_10 13 rfl ?_
  refine g_ldiv X0 hx hby d2_13 (by decide) 14 rfl ?_
  obtain ⟨rk, hrk⟩ : ∃ z : Int64, ((((pr.toInt64) * ((n).toInt32.toInt64)) + (99 : Int64)) / (100 : Int64)) = z := ⟨_, rfl⟩
  refine g_lstoreN X0 hx hby d2_14 rk hrk #[.val (.ref aa), .val (.int pr), .val (.long rk), .second] rfl 15 rfl ?_
  refine g_aloadN X0 hx hby d2_15 rfl rfl 16 rfl ?_
  refine g_lloadN X0 hx hby d2_16 rfl 17 rfl ?_
  refine g_l2i X0 hx hby d2_17 18 rfl ?_
  refine g_iconst X0 hx hby d2_18 (1 : Int32) rfl 19 rfl ?_
  refine g_isub X0 hx hby d2_19 20 rfl ?_
  refine g_laload X0 hx hby hZ e0 A_aa_0 d2_20 (hj rk hrk).1 ((rk.toInt32) - (1 : Int32)).toNatClampNeg rfl (hj rk hrk).2 (f ((rk.toInt32) - (1 : Int32)).toNatClampNeg) rfl 21 rfl ?_
  exact g_lreturn X0 hx hby hret hlk d2_21 (by subst hrk; exact ⟨congrArg (fun z => some (Value.long z)) rfl, N0, e0⟩) (by decide) (by decide)
def leF (ii : Int32) (rr : Int64) (n : Nat) (f : Nat → Int64) : Int32 := if ii < (n).toInt32 then (if rr < (f ii.toNatClampNeg) then ((0 : Int32)) else ((1 : Int32))) else ((0 : Int32))
theorem d4_0 : decode method_2_code 0 = .ok (.aload_n 0, 1) := by decide +kernel
theorem d4_1 : decode method_2_code 1 = .ok (.arraylength, 1) := by decide +kernel
theorem d4_2 : decode method_2_code 2 = .ok (.iload_n 1, 1) := by decide +kernel
theorem d4_3 : decode method_2_code 3 = .ok (.if_icmp .le 15, 3) := by decide +kernel
theorem d4_6 : decode method_2_code 6 = .ok (.aload_n 0, 1) := by decide +kernel
theorem d4_7 : decode method_2_code 7 = .ok (.iload_n 1, 1) := by decide +kernel
theorem d4_8 : decode method_2_code 8 = .ok (.laload, 1) := by decide +kernel
theorem d4_9 : decode method_2_code 9 = .ok (.lload_n 2, 1) := by decide +kernel
theorem d4_10 : decode method_2_code 10 = .ok (.lcmp, 1) := by decide +kernel
theorem d4_11 : decode method_2_code 11 = .ok (.ifCond .gt 7, 3) := by decide +kernel
theorem d4_14 : decode method_2_code 14 = .ok (.iconst 1, 1) := by decide +kernel
theorem d4_15 : decode method_2_code 15 = .ok (.goto 4, 3) := by decide +kernel
theorem d4_18 : decode method_2_code 18 = .ok (.iconst 0, 1) := by decide +kernel
theorem d4_19 : decode method_2_code 19 = .ok (.ireturn, 1) := by decide +kernel
theorem pn4 : plainFor (⟨"com/example/postlatch/postlatch/BenchTallyPercentilePinLaw", "le", "([JIJ)I"⟩ : MethodName) = true := plainFor_of_name (by first | (simp [plainName, overriddenIn]; done) | decide +kernel)
theorem ef4 (m : MethodId) (aa : Addr) (ii : Int32) (rr : Int64) (n : Nat) (f : Nat → Int64) : entryFrame m #[(.ref aa), (.int ii), (.long rr)] 4 = mkF m 0 #[.val (.ref aa), .val (.int ii), .val (.long rr), .second] [] := by first | (simp [entryFrame, mkF, argsToLocals, Value.category]; done) | rfl
def Q4 (aa : Addr) (ii : Int32) (rr : Int64) (n : Nat) (f : Nat → Int64) (Z : State) (h0 : Heap) (n0 : Nat) (v : Option Value) (h : Heap) (L : List Loc) : Prop := v = some (.int (leF ii rr n f)) ∧ Fr n0 L ∧ h = h0
set_option maxRecDepth 65536 in
set_option maxHeartbeats 40000000 in
theorem rm4 (l : Launch) (Z : State) (a0 : Array Value) (hw : ∀ d ∈ tables_1, d.before a0 Z = true) (ws : List Jvm.Cond) (aa : Addr) (ii : Int32) (rr : Int64) (n : Nat) (f : Nat → Int64) (h0 : Heap) (n0 : Nat) (Z0 : n0 ≤ h0.size) (A_aa_0 : AJ Z h0 aa n f) (hk0 : ¬ ii < 0) : Ctr l (⟨"com/example/postlatch/postlatch/BenchTallyPercentilePinLaw", "le", "([JIJ)I"⟩ : MethodName) method_2_code 4 (some .int) ws ({ frames := 0, cells := 0, slots := 0, locals := 0 } : Room) #[(.ref aa), (.int ii), (.long rr)] Z h0 (Q4 aa ii rr n f Z h0 n0) := by
  refine own_body pn4 ?_
  intro p e s m below meth c T0 hx hby hml hown hnm hret hlk hZ X0 e0
  have N0 := Fr.nil n0
  refine Goes.entry (ef4 m aa ii rr n f) ?_
  refine g_aloadN X0 hx hby d4_0 rfl rfl 1 rfl ?_
  refine g_arraylength X0 hx hby hZ e0 A_aa_0 d4_1 (n).toInt32 rfl 2 rfl ?_
  refine g_iloadN X0 hx hby d4_2 rfl 3 rfl ?_
  refine g_icmp_le X0 hx hby d4_3 18 6 (by decide) (by decide) rfl (fun c1 => ?_) (fun c1 => ?_)
  · -- c1
    refine g_aloadN X0 hx hby d4_6 rfl rfl 7 rfl ?_
    refine g_iloadN X0 hx hby d4_7 rfl 8 rfl ?_
    refine g_laload X0 hx hby hZ e0 A_aa_0 d4_8 hk0 ii.toNatClampNeg rfl (own_ltn c1 hk0 (ArF.len A_aa_0)) (f ii.toNatClampNeg) rfl 9 rfl ?_
    refine g_lloadN X0 hx hby d4_9 rfl 10 rfl ?_
    refine g_lcmp_gt X0 hx hby d4_10 d4_11 18 14 rfl (by decide) (by decide) rfl (fun c2 => ?_) (fun c2 => ?_)
    · -- c2
      refine g_iconst X0 hx hby d4_18 (0 : Int32) rfl 19 rfl ?_
      exact g_ireturn X0 hx hby hret hlk (Or.inl rfl) rfl d4_19 (by exact ⟨congrArg (fun z => some (Value.int z)) ((if_pos c1).trans (if_pos c2)).symm, N0, e0⟩) (by decide) (by decide)
    · -- not c2
      refine g_iconst X0 hx hby d4_14 (1 : Int32) rfl 15 rfl ?_
      refine g_goto X0 hx hby d4_15 19 (by decide) (by decide) ?_
      exact g_ireturn X0 hx hby hret hlk (Or.inl rfl) rfl d4_19 (by exact ⟨congrArg (fun z => some (Value.int z)) ((if_pos c1).trans (if_neg c2)).symm, N0, e0⟩) (by decide) (by decide)
  · -- not c1
    refine g_iconst X0 hx hby d4_18 (0 : Int32) rfl 19 rfl ?_
    exact g_ireturn X0 hx hby hret hlk (Or.inl rfl) rfl d4_19 (by exact ⟨congrArg (fun z => some (Value.int z)) (if_neg c1).symm, N0, e0⟩) (by decide) (by decide)
def ltF (ii : Int32) (rr : Int64) (n : Nat) (f : Nat → Int64) : Int32 := if ii < (n).toInt32 then (if (f ii.toNatClampNeg) < rr then ((1 : Int32)) else ((0 : Int32))) else ((0 : Int32))
theorem d6_0 : decode method_3_code 0 = .ok (.aload_n 0, 1) := by decide +kernel
theorem d6_1 : decode method_3_code 1 = .ok (.arraylength, 1) := by decide +kernel
theorem d6_2 : decode method_3_code 2 = .ok (.iload_n 1, 1) := by decide +kernel
theorem d6_3 : decode method_3_code 3 = .ok (.if_icmp .le 15, 3) := by decide +kernel
theorem d6_6 : decode method_3_code 6 = .ok (.aload_n 0, 1) := by decide +kernel
theorem d6_7 : decode method_3_code 7 = .ok (.iload_n 1, 1) := by decide +kernel
theorem d6_8 : decode method_3_code 8 = .ok (.laload, 1) := by decide +kernel
theorem d6_9 : decode method_3_code 9 = .ok (.lload_n 2, 1) := by decide +kernel
theorem d6_10 : decode method_3_code 10 = .ok (.lcmp, 1) := by decide +kernel
theorem d6_11 : decode method_3_code 11 = .ok (.ifCond .ge 7, 3) := by decide +kernel
theorem d6_14 : decode method_3_code 14 = .ok (.iconst 1, 1) := by decide +kernel
theorem d6_15 : decode method_3_code 15 = .ok (.goto 4, 3) := by decide +kernel
theorem d6_18 : decode method_3_code 18 = .ok (.iconst 0, 1) := by decide +kernel
theorem d6_19 : decode method_3_code 19 = .ok (.ireturn, 1) := by decide +kernel
theorem pn6 : plainFor (⟨"com/example/postlatch/postlatch/BenchTallyPercentilePinLaw", "lt", "([JIJ)I"⟩ : MethodName) = true := plainFor_of_name (by first | (simp [plainName, overriddenIn]; done) | decide +kernel)
theorem ef6 (m : MethodId) (aa : Addr) (ii : Int32) (rr : Int64) (n : Nat) (f : Nat → Int64) : entryFrame m #[(.ref aa), (.int ii), (.long rr)] 4 = mkF m 0 #[.val (.ref aa), .val (.int ii), .val (.long rr), .second] [] := by first | (simp [entryFrame, mkF, argsToLocals, Value.category]; done) | rfl
def Q6 (aa : Addr) (ii : Int32) (rr : Int64) (n : Nat) (f : Nat → Int64) (Z : State) (h0 : Heap) (n0 : Nat) (v : Option Value) (h : Heap) (L : List Loc) : Prop := v = some (.int (ltF ii rr n f)) ∧ Fr n0 L ∧ h = h0
set_option maxRecDepth 65536 in
set_option maxHeartbeats 40000000 in
theorem rm6 (l : Launch) (Z : State) (a0 : Array Value) (hw : ∀ d ∈ tables_1, d.before a0 Z = true) (ws : List Jvm.Cond) (aa : Addr) (ii : Int32) (rr : Int64) (n : Nat) (f : Nat → Int64) (h0 : Heap) (n0 : Nat) (Z0 : n0 ≤ h0.size) (A_aa_0 : AJ Z h0 aa n f) (hk0 : ¬ ii < 0) : Ctr l (⟨"com/example/postlatch/postlatch/BenchTallyPercentilePinLaw", "lt", "([JIJ)I"⟩ : MethodName) method_3_code 4 (some .int) ws ({ frames := 0, cells := 0, slots := 0, locals := 0 } : Room) #[(.ref aa), (.int ii), (.long rr)] Z h0 (Q6 aa ii rr n f Z h0 n0) := by
  refine own_body pn6 ?_
  intro p e s m below meth c T0 hx hby hml hown hnm hret hlk hZ X0 e0
  have N0 := Fr.nil n0
  refine Goes.entry (ef6 m aa ii rr n f) ?_
  refine g_aloadN X0 hx hby d6_0 rfl rfl 1 rfl ?_
  refine g_arraylength X0 hx hby hZ e0 A_aa_0 d6_1 (n).toInt32 rfl 2 rfl ?_
  refine g_iloadN X0 hx hby d6_2 rfl 3 rfl ?_
  refine g_icmp_le X0 hx hby d6_3 18 6 (by decide) (by decide) rfl (fun c1 => ?_) (fun c1 => ?_)
  · -- c1
    refine g_aloadN X0 hx hby d6_6 rfl rfl 7 rfl ?_
    refine g_iloadN X0 hx hby d6_7 rfl 8 rfl ?_
    refine g_laload X0 hx hby hZ e0 A_aa_0 d6_8 hk0 ii.toNatClampNeg rfl (own_ltn c1 hk0 (ArF.len A_aa_0)) (f ii.toNatClampNeg) rfl 9 rfl ?_
    refine g_lloadN X0 hx hby d6_9 rfl 10 rfl ?_
    refine g_lcmp_ge X0 hx hby d6_10 d6_11 18 14 rfl (by decide) (by decide) rfl (fun c2 => ?_) (fun c2 => ?_)
    · -- c2
      refine g_iconst X0 hx hby d6_14 (1 : Int32) rfl 15 rfl ?_
      refine g_goto X0 hx hby d6_15 19 (by decide) (by decide) ?_
      exact g_ireturn X0 hx hby hret hlk (Or.inl rfl) rfl d6_19 (by exact ⟨congrArg (fun z => some (Value.int z)) ((if_pos c1).trans (if_pos c2)).symm, N0, e0⟩) (by decide) (by decide)
    · -- not c2
      refine g_iconst X0 hx hby d6_18 (0 : Int32) rfl 19 rfl ?_
      exact g_ireturn X0 hx hby hret hlk (Or.inl rfl) rfl d6_19 (by exact ⟨congrArg (fun z => some (Value.int z)) ((if_pos c1).trans (if_neg c2)).symm, N0, e0⟩) (by decide) (by decide)
  · -- not c1
    refine g_iconst X0 hx hby d6_18 (0 : Int32) rfl 19 rfl ?_
    exact g_ireturn X0 hx hby hret hlk (Or.inl rfl) rfl d6_19 (by exact ⟨congrArg (fun z => some (Value.int z)) (if_neg c1).symm, N0, e0⟩) (by decide) (by decide)
def cLE (rr : Int64) (n : Nat) (f : Nat → Int64) : Int32 := ((((((((leF (0 : Int32) rr n f) + (leF (1 : Int32) rr n f)) + (leF (2 : Int32) rr n f)) + (leF (3 : Int32) rr n f)) + (leF (4 : Int32) rr n f)) + (leF (5 : Int32) rr n f)) + (leF (6 : Int32) rr n f)) + (leF (7 : Int32) rr n f))
theorem pd0 : parseMethodDescriptor "([JIJ)I" = some ⟨[(.array .long), .int, .long], some .int⟩ := by decide +kernel
theorem d3_0 : decode method_4_code 0 = .ok (.aload_n 0, 1) := by decide +kernel
theorem d3_1 : decode method_4_code 1 = .ok (.iconst 0, 1) := by decide +kernel
theorem d3_2 : decode method_4_code 2 = .ok (.lload_n 1, 1) := by decide +kernel
theorem d3_3 : decode method_4_code 3 = .ok (.invokestatic 7, 3) := by decide +kernel
theorem d3_6 : decode method_4_code 6 = .ok (.aload_n 0, 1) := by decide +kernel
theorem d3_7 : decode method_4_code 7 = .ok (.iconst 1, 1) := by decide +kernel
theorem d3_8 : decode method_4_code 8 = .ok (.lload_n 1, 1) := by decide +kernel
theorem d3_9 : decode method_4_code 9 = .ok (.invokestatic 7, 3) := by decide +kernel
theorem d3_12 : decode method_4_code 12 = .ok (.iadd, 1) := by decide +kernel
theorem d3_13 : decode method_4_code 13 = .ok (.aload_n 0, 1) := by decide +kernel
theorem d3_14 : decode method_4_code 14 = .ok (.iconst 2, 1) := by decide +kernel
theorem d3_15 : decode method_4_code 15 = .ok (.lload_n 1, 1) := by decide +kernel
theorem d3_16 : decode method_4_code 16 = .ok (.invokestatic 7, 3) := by decide +kernel
theorem d3_19 : decode method_4_code 19 = .ok (.iadd, 1) := by decide +kernel
theorem d3_20 : decode method_4_code 20 = .ok (.aload_n 0, 1) := by decide +kernel
theorem d3_21 : decode method_4_code 21 = .ok (.iconst 3, 1) := by decide +kernel
theorem d3_22 : decode method_4_code 22 = .ok (.lload_n 1, 1) := by decide +kernel
theorem d3_23 : decode method_4_code 23 = .ok (.invokestatic 7, 3) := by decide +kernel
theorem d3_26 : decode method_4_code 26 = .ok (.iadd, 1) := by decide +kernel
theorem d3_27 : decode method_4_code 27 = .ok (.aload_n 0, 1) := by decide +kernel
theorem d3_28 : decode method_4_code 28 = .ok (.iconst 4, 1) := by decide +kernel
theorem d3_29 : decode method_4_code 29 = .ok (.lload_n 1, 1) := by decide +kernel
theorem d3_30 : decode method_4_code 30 = .ok (.invokestatic 7, 3) := by decide +kernel
theorem d3_33 : decode method_4_code 33 = .ok (.iadd, 1) := by decide +kernel
theorem d3_34 : decode method_4_code 34 = .ok (.aload_n 0, 1) := by decide +kernel
theorem d3_35 : decode method_4_code 35 = .ok (.iconst 5, 1) := by decide +kernel
theorem d3_36 : decode method_4_code 36 = .ok (.lload_n 1, 1) := by decide +kernel
theorem d3_37 : decode method_4_code 37 = .ok (.invokestatic 7, 3) := by decide +kernel
theorem d3_40 : decode method_4_code 40 = .ok (.iadd, 1) := by decide +kernel
theorem d3_41 : decode method_4_code 41 = .ok (.aload_n 0, 1) := by decide +kernel
theorem d3_42 : decode method_4_code 42 = .ok (.bipush 6, 2) := by decide +kernel
theorem d3_44 : decode method_4_code 44 = .ok (.lload_n 1, 1) := by decide +kernel
theorem d3_45 : decode method_4_code 45 = .ok (.invokestatic 7, 3) := by decide +kernel
theorem d3_48 : decode method_4_code 48 = .ok (.iadd, 1) := by decide +kernel
theorem d3_49 : decode method_4_code 49 = .ok (.aload_n 0, 1) := by decide +kernel
theorem d3_50 : decode method_4_code 50 = .ok (.bipush 7, 2) := by decide +kernel
theorem d3_52 : decode method_4_code 52 = .ok (.lload_n 1, 1) := by decide +kernel
theorem d3_53 : decode method_4_code 53 = .ok (.invokestatic 7, 3) := by decide +kernel
theorem d3_56 : decode method_4_code 56 = .ok (.iadd, 1) := by decide +kernel
theorem d3_57 : decode method_4_code 57 = .ok (.ireturn, 1) := by decide +kernel
theorem pn3 : plainFor (⟨"com/example/postlatch/postlatch/BenchTallyPercentilePinLaw", "countLE", "([JJ)I"⟩ : MethodName) = true := plainFor_of_name (by first | (simp [plainName, overriddenIn]; done) | decide +kernel)
theorem ef3 (m : MethodId) (aa : Addr) (rr : Int64) (n : Nat) (f : Nat → Int64) : entryFrame m #[(.ref aa), (.long rr)] 3 = mkF m 0 #[.val (.ref aa), .val (.long rr), .second] [] := by first | (simp [entryFrame, mkF, argsToLocals, Value.category]; done) | rfl
def Q3 (aa : Addr) (rr : Int64) (n : Nat) (f : Nat → Int64) (Z : State) (h0 : Heap) (n0 : Nat) (v : Option Value) (h : Heap) (L : List Loc) : Prop := v = some (.int (cLE rr n f)) ∧ Fr n0 L ∧ h = h0
set_option maxRecDepth 65536 in
set_option maxHeartbeats 40000000 in
theorem rm3 (l : Launch) (Z : State) (a0 : Array Value) (hw : ∀ d ∈ tables_1, d.before a0 Z = true) (ws : List Jvm.Cond) (aa : Addr) (rr : Int64) (n : Nat) (f : Nat → Int64) (h0 : Heap) (n0 : Nat) (Z0 : n0 ≤ h0.size) (A_aa_0 : AJ Z h0 aa n f) : Ctr l (⟨"com/example/postlatch/postlatch/BenchTallyPercentilePinLaw", "countLE", "([JJ)I"⟩ : MethodName) method_4_code 3 (some .int) ws ({ frames := 1, cells := 0, slots := 0, locals := 16 } : Room) #[(.ref aa), (.long rr)] Z h0 (Q3 aa rr n f Z h0 n0) := by
  refine own_body pn3 ?_
  intro p e s m below meth c T0 hx hby hml hown hnm hret hlk hZ X0 e0
  have N0 := Fr.nil n0
  refine Goes.entry (ef3 m aa rr n f) ?_
  refine g_aloadN X0 hx hby d3_0 rfl rfl 1 rfl ?_
  refine g_iconst X0 hx hby d3_1 (0 : Int32) rfl 2 rfl ?_
  refine g_lloadN X0 hx hby d3_2 rfl 3 rfl ?_
  refine g_callS X0 hx hby hZ hown (hw _ (List.mem_of_getElem? (i := 17) rfl)) (hw _ (List.mem_of_getElem? (i := 18) rfl)) (hw _ (List.mem_of_getElem? (i := 15) rfl)) (hw _ (List.mem_of_getElem? (i := 19) rfl)) d3_3 [(.ref aa), (.int (0 : Int32)), (.long rr)] [] (rm4 l Z a0 hw [] aa (0 : Int32) rr n f h0 n0 Z0 A_aa_0 (by decide)) e0 rfl (by rw [hml]; rfl) pd0 rfl (by decide) 0 (Nat.le_of_eq rfl) (by decide) (by decide) (by decide) (by decide) 6 rfl ?_
  intro T1 v1 L1 X1 Q1
  obtain ⟨rfl, N1', e1⟩ := Q1
  have N1 := Fr.app N0 N1'
  show Goes p e below _ (T1.setTop (mkF m 6 _ [(.int (leF (0 : Int32) rr n f))]))
  refine g_aloadN X1 hx hby d3_6 rfl rfl 7 rfl ?_
  refine g_iconst X1 hx hby d3_7 (1 : Int32) rfl 8 rfl ?_
  refine g_lloadN X1 hx hby d3_8 rfl 9 rfl ?_
  refine g_callS X1 hx hby hZ hown (hw _ (List.mem_of_getElem? (i := 17) rfl)) (hw _ (List.mem_of_getElem? (i := 18) rfl)) (hw _ (List.mem_of_getElem? (i := 15) rfl)) (hw _ (List.mem_of_getElem? (i := 19) rfl)) d3_9 [(.ref aa), (.int (1 : Int32)), (.long rr)] [(.int (leF (0 : Int32) rr n f))] (rm4 l Z a0 hw [] aa (1 : Int32) rr n f h0 n0 Z0 A_aa_0 (by decide)) e1 rfl (by rw [hml]; rfl) pd0 rfl (by decide) 1 (Nat.le_of_eq rfl) (by decide) (by decide) (by decide) (by decide) 12 rfl ?_
  intro T2 v2 L2 X2 Q2
  obtain ⟨rfl, N2', e2⟩ := Q2
  have N2 := Fr.app N1 N2'
  show Goes p e below _ (T2.setTop (mkF m 12 _ [(.int (leF (1 : Int32) rr n f)), (.int (leF (0 : Int32) rr n f))]))
  refine g_iadd X2 hx hby d3_12 13 rfl ?_
  refine g_aloadN X2 hx hby d3_13 rfl rfl 14 rfl ?_
  refine g_iconst X2 hx hby d3_14 (2 : Int32) rfl 15 rfl ?_
  refine g_lloadN X2 hx hby d3_15 rfl 16 rfl ?_
  refine g_callS X2 hx hby hZ hown (hw _ (List.mem_of_getElem? (i := 17) rfl)) (hw _ (List.mem_of_getElem? (i := 18) rfl)) (hw _ (List.mem_of_getElem? (i := 15) rfl)) (hw _ (List.mem_of_getElem? (i := 19) rfl)) d3_16 [(.ref aa), (.int (2 : Int32)), (.long rr)] [(.int ((leF (0 : Int32) rr n f) + (leF (1 : Int32) rr n f)))] (rm4 l Z a0 hw [] aa (2 : Int32) rr n f h0 n0 Z0 A_aa_0 (by decide)) e2 rfl (by rw [hml]; rfl) pd0 rfl (by decide) 1 (Nat.le_of_eq rfl) (by decide) (by decide) (by decide) (by decide) 19 rfl ?_
  intro T3 v3 L3 X3 Q3
  obtain ⟨rfl, N3', e3⟩ := Q3
  have N3 := Fr.app N2 N3'
  show Goes p e below _ (T3.setTop (mkF m 19 _ [(.int (leF (2 : Int32) rr n f)), (.int ((leF (0 : Int32) rr n f) + (leF (1 : Int32) rr n f)))]))
  refine g_iadd X3 hx hby d3_19 20 rfl ?_
  refine g_aloadN X3 hx hby d3_20 rfl rfl 21 rfl ?_
  refine g_iconst X3 hx hby d3_21 (3 : Int32) rfl 22 rfl ?_
  refine g_lloadN X3 hx hby d3_22 rfl 23 rfl ?_
  refine g_callS X3 hx hby hZ hown (hw _ (List.mem_of_getElem? (i := 17) rfl)) (hw _ (List.mem_of_getElem? (i := 18) rfl)) (hw _ (List.mem_of_getElem? (i := 15) rfl)) (hw _ (List.mem_of_getElem? (i := 19) rfl)) d3_23 [(.ref aa), (.int (3 : Int32)), (.long rr)] [(.int (((leF (0 : Int32) rr n f) + (leF (1 : Int32) rr n f)) + (leF (2 : Int32) rr n f)))] (rm4 l Z a0 hw [] aa (3 : Int32) rr n f h0 n0 Z0 A_aa_0 (by decide)) e3 rfl (by rw [hml]; rfl) pd0 rfl (by decide) 1 (Nat.le_of_eq rfl) (by decide) (by decide) (by decide) (by decide) 26 rfl ?_
  intro T4 v4 L4 X4 Q4
  obtain ⟨rfl, N4', e4⟩ := Q4
  have N4 := Fr.app N3 N4'
  show Goes p e below _ (T4.setTop (mkF m 26 _ [(.int (leF (3 : Int32) rr n f)), (.int (((leF (0 : Int32) rr n f) + (leF (1 : Int32) rr n f)) + (leF (2 : Int32) rr n f)))]))
  refine g_iadd X4 hx hby d3_26 27 rfl ?_
  refine g_aloadN X4 hx hby d3_27 rfl rfl 28 rfl ?_
  refine g_iconst X4 hx hby d3_28 (4 : Int32) rfl 29 rfl ?_
  refine g_lloadN X4 hx hby d3_29 rfl 30 rfl ?_
  refine g_callS X4 hx hby hZ hown (hw _ (List.mem_of_getElem? (i := 17) rfl)) (hw _ (List.mem_of_getElem? (i := 18) rfl)) (hw _ (List.mem_of_getElem? (i := 15) rfl)) (hw _ (List.mem_of_getElem? (i := 19) rfl)) d3_30 [(.ref aa), (.int (4 : Int32)), (.long rr)] [(.int ((((leF (0 : Int32) rr n f) + (leF (1 : Int32) rr n f)) + (leF (2 : Int32) rr n f)) + (leF (3 : Int32) rr n f)))] (rm4 l Z a0 hw [] aa (4 : Int32) rr n f h0 n0 Z0 A_aa_0 (by decide)) e4 rfl (by rw [hml]; rfl) pd0 rfl (by decide) 1 (Nat.le_of_eq rfl) (by decide) (by decide) (by decide) (by decide) 33 rfl ?_
  intro T5 v5 L5 X5 Q5
  obtain ⟨rfl, N5', e5⟩ := Q5
  have N5 := Fr.app N4 N5'
  show Goes p e below _ (T5.setTop (mkF m 33 _ [(.int (leF (4 : Int32) rr n f)), (.int ((((leF (0 : Int32) rr n f) + (leF (1 : Int32) rr n f)) + (leF (2 : Int32) rr n f)) + (leF (3 : Int32) rr n f)))]))
  refine g_iadd X5 hx hby d3_33 34 rfl ?_
  refine g_aloadN X5 hx hby d3_34 rfl rfl 35 rfl ?_
  refine g_iconst X5 hx hby d3_35 (5 : Int32) rfl 36 rfl ?_
  refine g_lloadN X5 hx hby d3_36 rfl 37 rfl ?_
  refine g_callS X5 hx hby hZ hown (hw _ (List.mem_of_getElem? (i := 17) rfl)) (hw _ (List.mem_of_getElem? (i := 18) rfl)) (hw _ (List.mem_of_getElem? (i := 15) rfl)) (hw _ (List.mem_of_getElem? (i := 19) rfl)) d3_37 [(.ref aa), (.int (5 : Int32)), (.long rr)] [(.int (((((leF (0 : Int32) rr n f) + (leF (1 : Int32) rr n f)) + (leF (2 : Int32) rr n f)) + (leF (3 : Int32) rr n f)) + (leF (4 : Int32) rr n f)))] (rm4 l Z a0 hw [] aa (5 : Int32) rr n f h0 n0 Z0 A_aa_0 (by decide)) e5 rfl (by rw [hml]; rfl) pd0 rfl (by decide) 1 (Nat.le_of_eq rfl) (by decide) (by decide) (by decide) (by decide) 40 rfl ?_
  intro T6 v6 L6 X6 Q6
  obtain ⟨rfl, N6', e6⟩ := Q6
  have N6 := Fr.app N5 N6'
  show Goes p e below _ (T6.setTop (mkF m 40 _ [(.int (leF (5 : Int32) rr n f)), (.int (((((leF (0 : Int32) rr n f) + (leF (1 : Int32) rr n f)) + (leF (2 : Int32) rr n f)) + (leF (3 : Int32) rr n f)) + (leF (4 : Int32) rr n f)))]))
  refine g_iadd X6 hx hby d3_40 41 rfl ?_
  refine g_aloadN X6 hx hby d3_41 rfl rfl 42 rfl ?_
  refine g_bipush X6 hx hby d3_42 (6 : Int32) rfl 44 rfl ?_
  refine g_lloadN X6 hx hby d3_44 rfl 45 rfl ?_
  refine g_callS X6 hx hby hZ hown (hw _ (List.mem_of_getElem? (i := 17) rfl)) (hw _ (List.mem_of_getElem? (i := 18) rfl)) (hw _ (List.mem_of_getElem? (i := 15) rfl)) (hw _ (List.mem_of_getElem? (i := 19) rfl)) d3_45 [(.ref aa), (.int (6 : Int32)), (.long rr)] [(.int ((((((leF (0 : Int32) rr n f) + (leF (1 : Int32) rr n f)) + (leF (2 : Int32) rr n f)) + (leF (3 : Int32) rr n f)) + (leF (4 : Int32) rr n f)) + (leF (5 : Int32) rr n f)))] (rm4 l Z a0 hw [] aa (6 : Int32) rr n f h0 n0 Z0 A_aa_0 (by decide)) e6 rfl (by rw [hml]; rfl) pd0 rfl (by decide) 1 (Nat.le_of_eq rfl) (by decide) (by decide) (by decide) (by decide) 48 rfl ?_
  intro T7 v7 L7 X7 Q7
  obtain ⟨rfl, N7', e7⟩ := Q7
  have N7 := Fr.app N6 N7'
  show Goes p e below _ (T7.setTop (mkF m 48 _ [(.int (leF (6 : Int32) rr n f)), (.int ((((((leF (0 : Int32) rr n f) + (leF (1 : Int32) rr n f)) + (leF (2 : Int32) rr n f)) + (leF (3 : Int32) rr n f)) + (leF (4 : Int32) rr n f)) + (leF (5 : Int32) rr n f)))]))
  refine g_iadd X7 hx hby d3_48 49 rfl ?_
  refine g_aloadN X7 hx hby d3_49 rfl rfl 50 rfl ?_
  refine g_bipush X7 hx hby d3_50 (7 : Int32) rfl 52 rfl ?_
  refine g_lloadN X7 hx hby d3_52 rfl 53 rfl ?_
  refine g_callS X7 hx hby hZ hown (hw _ (List.mem_of_getElem? (i := 17) rfl)) (hw _ (List.mem_of_getElem? (i := 18) rfl)) (hw _ (List.mem_of_getElem? (i := 15) rfl)) (hw _ (List.mem_of_getElem? (i := 19) rfl)) d3_53 [(.ref aa), (.int (7 : Int32)), (.long rr)] [(.int (((((((leF (0 : Int32) rr n f) + (leF (1 : Int32) rr n f)) + (leF (2 : Int32) rr n f)) + (leF (3 : Int32) rr n f)) + (leF (4 : Int32) rr n f)) + (leF (5 : Int32) rr n f)) + (leF (6 : Int32) rr n f)))] (rm4 l Z a0 hw [] aa (7 : Int32) rr n f h0 n0 Z0 A_aa_0 (by decide)) e7 rfl (by rw [hml]; rfl) pd0 rfl (by decide) 1 (Nat.le_of_eq rfl) (by decide) (by decide) (by decide) (by decide) 56 rfl ?_
  intro T8 v8 L8 X8 Q8
  obtain ⟨rfl, N8', e8⟩ := Q8
  have N8 := Fr.app N7 N8'
  show Goes p e below _ (T8.setTop (mkF m 56 _ [(.int (leF (7 : Int32) rr n f)), (.int (((((((leF (0 : Int32) rr n f) + (leF (1 : Int32) rr n f)) + (leF (2 : Int32) rr n f)) + (leF (3 : Int32) rr n f)) + (leF (4 : Int32) rr n f)) + (leF (5 : Int32) rr n f)) + (leF (6 : Int32) rr n f)))]))
  refine g_iadd X8 hx hby d3_56 57 rfl ?_
  exact g_ireturn X8 hx hby hret hlk (Or.inl rfl) rfl d3_57 (by exact ⟨congrArg (fun z => some (Value.int z)) rfl, N8, e8⟩) (by decide) (by decide)
def cLT (rr : Int64) (n : Nat) (f : Nat → Int64) : Int32 := ((((((((ltF (0 : Int32) rr n f) + (ltF (1 : Int32) rr n f)) + (ltF (2 : Int32) rr n f)) + (ltF (3 : Int32) rr n f)) + (ltF (4 : Int32) rr n f)) + (ltF (5 : Int32) rr n f)) + (ltF (6 : Int32) rr n f)) + (ltF (7 : Int32) rr n f))
theorem d5_0 : decode method_5_code 0 = .ok (.aload_n 0, 1) := by decide +kernel
theorem d5_1 : decode method_5_code 1 = .ok (.iconst 0, 1) := by decide +kernel
theorem d5_2 : decode method_5_code 2 = .ok (.lload_n 1, 1) := by decide +kernel
theorem d5_3 : decode method_5_code 3 = .ok (.invokestatic 13, 3) := by decide +kernel
theorem d5_6 : decode method_5_code 6 = .ok (.aload_n 0, 1) := by decide +kernel
theorem d5_7 : decode method_5_code 7 = .ok (.iconst 1, 1) := by decide +kernel
theorem d5_8 : decode method_5_code 8 = .ok (.lload_n 1, 1) := by decide +kernel
theorem d5_9 : decode method_5_code 9 = .ok (.invokestatic 13, 3) := by decide +kernel
theorem d5_12 : decode method_5_code 12 = .ok (.iadd, 1) := by decide +kernel
theorem d5_13 : decode method_5_code 13 = .ok (.aload_n 0, 1) := by decide +kernel
theorem d5_14 : decode method_5_code 14 = .ok (.iconst 2, 1) := by decide +kernel
theorem d5_15 : decode method_5_code 15 = .ok (.lload_n 1, 1) := by decide +kernel
theorem d5_16 : decode method_5_code 16 = .ok (.invokestatic 13, 3) := by decide +kernel
theorem d5_19 : decode method_5_code 19 = .ok (.iadd, 1) := by decide +kernel
theorem d5_20 : decode method_5_code 20 = .ok (.aload_n 0, 1) := by decide +kernel
theorem d5_21 : decode method_5_code 21 = .ok (.iconst 3, 1) := by decide +kernel
theorem d5_22 : decode method_5_code 22 = .ok (.lload_n 1, 1) := by decide +kernel
theorem d5_23 : decode method_5_code 23 = .ok (.invokestatic 13, 3) := by decide +kernel
theorem d5_26 : decode method_5_code 26 = .ok (.iadd, 1) := by decide +kernel
theorem d5_27 : decode method_5_code 27 = .ok (.aload_n 0, 1) := by decide +kernel
theorem d5_28 : decode method_5_code 28 = .ok (.iconst 4, 1) := by decide +kernel
theorem d5_29 : decode method_5_code 29 = .ok (.lload_n 1, 1) := by decide +kernel
theorem d5_30 : decode method_5_code 30 = .ok (.invokestatic 13, 3) := by decide +kernel
theorem d5_33 : decode method_5_code 33 = .ok (.iadd, 1) := by decide +kernel
theorem d5_34 : decode method_5_code 34 = .ok (.aload_n 0, 1) := by decide +kernel
theorem d5_35 : decode method_5_code 35 = .ok (.iconst 5, 1) := by decide +kernel
theorem d5_36 : decode method_5_code 36 = .ok (.lload_n 1, 1) := by decide +kernel
theorem d5_37 : decode method_5_code 37 = .ok (.invokestatic 13, 3) := by decide +kernel
theorem d5_40 : decode method_5_code 40 = .ok (.iadd, 1) := by decide +kernel
theorem d5_41 : decode method_5_code 41 = .ok (.aload_n 0, 1) := by decide +kernel
theorem d5_42 : decode method_5_code 42 = .ok (.bipush 6, 2) := by decide +kernel
theorem d5_44 : decode method_5_code 44 = .ok (.lload_n 1, 1) := by decide +kernel
theorem d5_45 : decode method_5_code 45 = .ok (.invokestatic 13, 3) := by decide +kernel
theorem d5_48 : decode method_5_code 48 = .ok (.iadd, 1) := by decide +kernel
theorem d5_49 : decode method_5_code 49 = .ok (.aload_n 0, 1) := by decide +kernel
theorem d5_50 : decode method_5_code 50 = .ok (.bipush 7, 2) := by decide +kernel
theorem d5_52 : decode method_5_code 52 = .ok (.lload_n 1, 1) := by decide +kernel
theorem d5_53 : decode method_5_code 53 = .ok (.invokestatic 13, 3) := by decide +kernel
theorem d5_56 : decode method_5_code 56 = .ok (.iadd, 1) := by decide +kernel
theorem d5_57 : decode method_5_code 57 = .ok (.ireturn, 1) := by decide +kernel
theorem pn5 : plainFor (⟨"com/example/postlatch/postlatch/BenchTallyPercentilePinLaw", "countLT", "([JJ)I"⟩ : MethodName) = true := plainFor_of_name (by first | (simp [plainName, overriddenIn]; done) | decide +kernel)
theorem ef5 (m : MethodId) (aa : Addr) (rr : Int64) (n : Nat) (f : Nat → Int64) : entryFrame m #[(.ref aa), (.long rr)] 3 = mkF m 0 #[.val (.ref aa), .val (.long rr), .second] [] := by first | (simp [entryFrame, mkF, argsToLocals, Value.category]; done) | rfl
def Q5 (aa : Addr) (rr : Int64) (n : Nat) (f : Nat → Int64) (Z : State) (h0 : Heap) (n0 : Nat) (v : Option Value) (h : Heap) (L : List Loc) : Prop := v = some (.int (cLT rr n f)) ∧ Fr n0 L ∧ h = h0
set_option maxRecDepth 65536 in
set_option maxHeartbeats 40000000 in
theorem rm5 (l : Launch) (Z : State) (a0 : Array Value) (hw : ∀ d ∈ tables_1, d.before a0 Z = true) (ws : List Jvm.Cond) (aa : Addr) (rr : Int64) (n : Nat) (f : Nat → Int64) (h0 : Heap) (n0 : Nat) (Z0 : n0 ≤ h0.size) (A_aa_0 : AJ Z h0 aa n f) : Ctr l (⟨"com/example/postlatch/postlatch/BenchTallyPercentilePinLaw", "countLT", "([JJ)I"⟩ : MethodName) method_5_code 3 (some .int) ws ({ frames := 1, cells := 0, slots := 0, locals := 16 } : Room) #[(.ref aa), (.long rr)] Z h0 (Q5 aa rr n f Z h0 n0) := by
  refine own_body pn5 ?_
  intro p e s m below meth c T0 hx hby hml hown hnm hret hlk hZ X0 e0
  have N0 := Fr.nil n0
  refine Goes.entry (ef5 m aa rr n f) ?_
  refine g_aloadN X0 hx hby d5_0 rfl rfl 1 rfl ?_
  refine g_iconst X0 hx hby d5_1 (0 : Int32) rfl 2 rfl ?_
  refine g_lloadN X0 hx hby d5_2 rfl 3 rfl ?_
  refine g_callS X0 hx hby hZ hown (hw _ (List.mem_of_getElem? (i := 24) rfl)) (hw _ (List.mem_of_getElem? (i := 25) rfl)) (hw _ (List.mem_of_getElem? (i := 15) rfl)) (hw _ (List.mem_of_getElem? (i := 26) rfl)) d5_3 [(.ref aa), (.int (0 : Int32)), (.long rr)] [] (rm6 l Z a0 hw [] aa (0 : Int32) rr n f h0 n0 Z0 A_aa_0 (by decide)) e0 rfl (by rw [hml]; rfl) pd0 rfl (by decide) 0 (Nat.le_of_eq rfl) (by decide) (by decide) (by decide) (by decide) 6 rfl ?_
  intro T1 v1 L1 X1 Q1
  obtain ⟨rfl, N1', e1⟩ := Q1
  have N1 := Fr.app N0 N1'
  show Goes p e below _ (T1.setTop (mkF m 6 _ [(.int (ltF (0 : Int32) rr n f))]))
  refine g_aloadN X1 hx hby d5_6 rfl rfl 7 rfl ?_
  refine g_iconst X1 hx hby d5_7 (1 : Int32) rfl 8 rfl ?_
  refine g_lloadN X1 hx hby d5_8 rfl 9 rfl ?_
  refine g_callS X1 hx hby hZ hown (hw _ (List.mem_of_getElem? (i := 24) rfl)) (hw _ (List.mem_of_getElem? (i := 25) rfl)) (hw _ (List.mem_of_getElem? (i := 15) rfl)) (hw _ (List.mem_of_getElem? (i := 26) rfl)) d5_9 [(.ref aa), (.int (1 : Int32)), (.long rr)] [(.int (ltF (0 : Int32) rr n f))] (rm6 l Z a0 hw [] aa (1 : Int32) rr n f h0 n0 Z0 A_aa_0 (by decide)) e1 rfl (by rw [hml]; rfl) pd0 rfl (by decide) 1 (Nat.le_of_eq rfl) (by decide) (by decide) (by decide) (by decide) 12 rfl ?_
  intro T2 v2 L2 X2 Q2
  obtain ⟨rfl, N2', e2⟩ := Q2
  have N2 := Fr.app N1 N2'
  show Goes p e below _ (T2.setTop (mkF m 12 _ [(.int (ltF (1 : Int32) rr n f)), (.int (ltF (0 : Int32) rr n f))]))
  refine g_iadd X2 hx hby d5_12 13 rfl ?_
  refine g_aloadN X2 hx hby d5_13 rfl rfl 14 rfl ?_
  refine g_iconst X2 hx hby d5_14 (2 : Int32) rfl 15 rfl ?_
  refine g_lloadN X2 hx hby d5_15 rfl 16 rfl ?_
  refine g_callS X2 hx hby hZ hown (hw _ (List.mem_of_getElem? (i := 24) rfl)) (hw _ (List.mem_of_getElem? (i := 25) rfl)) (hw _ (List.mem_of_getElem? (i := 15) rfl)) (hw _ (List.mem_of_getElem? (i := 26) rfl)) d5_16 [(.ref aa), (.int (2 : Int32)), (.long rr)] [(.int ((ltF (0 : Int32) rr n f) + (ltF (1 : Int32) rr n f)))] (rm6 l Z a0 hw [] aa (2 : Int32) rr n f h0 n0 Z0 A_aa_0 (by decide)) e2 rfl (by rw [hml]; rfl) pd0 rfl (by decide) 1 (Nat.le_of_eq rfl) (by decide) (by decide) (by decide) (by decide) 19 rfl ?_
  intro T3 v3 L3 X3 Q3
  obtain ⟨rfl, N3', e3⟩ := Q3
  have N3 := Fr.app N2 N3'
  show Goes p e below _ (T3.setTop (mkF m 19 _ [(.int (ltF (2 : Int32) rr n f)), (.int ((ltF (0 : Int32) rr n f) + (ltF (1 : Int32) rr n f)))]))
  refine g_iadd X3 hx hby d5_19 20 rfl ?_
  refine g_aloadN X3 hx hby d5_20 rfl rfl 21 rfl ?_
  refine g_iconst X3 hx hby d5_21 (3 : Int32) rfl 22 rfl ?_
  refine g_lloadN X3 hx hby d5_22 rfl 23 rfl ?_
  refine g_callS X3 hx hby hZ hown (hw _ (List.mem_of_getElem? (i := 24) rfl)) (hw _ (List.mem_of_getElem? (i := 25) rfl)) (hw _ (List.mem_of_getElem? (i := 15) rfl)) (hw _ (List.mem_of_getElem? (i := 26) rfl)) d5_23 [(.ref aa), (.int (3 : Int32)), (.long rr)] [(.int (((ltF (0 : Int32) rr n f) + (ltF (1 : Int32) rr n f)) + (ltF (2 : Int32) rr n f)))] (rm6 l Z a0 hw [] aa (3 : Int32) rr n f h0 n0 Z0 A_aa_0 (by decide)) e3 rfl (by rw [hml]; rfl) pd0 rfl (by decide) 1 (Nat.le_of_eq rfl) (by decide) (by decide) (by decide) (by decide) 26 rfl ?_
  intro T4 v4 L4 X4 Q4
  obtain ⟨rfl, N4', e4⟩ := Q4
  have N4 := Fr.app N3 N4'
  show Goes p e below _ (T4.setTop (mkF m 26 _ [(.int (ltF (3 : Int32) rr n f)), (.int (((ltF (0 : Int32) rr n f) + (ltF (1 : Int32) rr n f)) + (ltF (2 : Int32) rr n f)))]))
  refine g_iadd X4 hx hby d5_26 27 rfl ?_
  refine g_aloadN X4 hx hby d5_27 rfl rfl 28 rfl ?_
  refine g_iconst X4 hx hby d5_28 (4 : Int32) rfl 29 rfl ?_
  refine g_lloadN X4 hx hby d5_29 rfl 30 rfl ?_
  refine g_callS X4 hx hby hZ hown (hw _ (List.mem_of_getElem? (i := 24) rfl)) (hw _ (List.mem_of_getElem? (i := 25) rfl)) (hw _ (List.mem_of_getElem? (i := 15) rfl)) (hw _ (List.mem_of_getElem? (i := 26) rfl)) d5_30 [(.ref aa), (.int (4 : Int32)), (.long rr)] [(.int ((((ltF (0 : Int32) rr n f) + (ltF (1 : Int32) rr n f)) + (ltF (2 : Int32) rr n f)) + (ltF (3 : Int32) rr n f)))] (rm6 l Z a0 hw [] aa (4 : Int32) rr n f h0 n0 Z0 A_aa_0 (by decide)) e4 rfl (by rw [hml]; rfl) pd0 rfl (by decide) 1 (Nat.le_of_eq rfl) (by decide) (by decide) (by decide) (by decide) 33 rfl ?_
  intro T5 v5 L5 X5 Q5
  obtain ⟨rfl, N5', e5⟩ := Q5
  have N5 := Fr.app N4 N5'
  show Goes p e below _ (T5.setTop (mkF m 33 _ [(.int (ltF (4 : Int32) rr n f)), (.int ((((ltF (0 : Int32) rr n f) + (ltF (1 : Int32) rr n f)) + (ltF (2 : Int32) rr n f)) + (ltF (3 : Int32) rr n f)))]))
  refine g_iadd X5 hx hby d5_33 34 rfl ?_
  refine g_aloadN X5 hx hby d5_34 rfl rfl 35 rfl ?_
  refine g_iconst X5 hx hby d5_35 (5 : Int32) rfl 36 rfl ?_
  refine g_lloadN X5 hx hby d5_36 rfl 37 rfl ?_
  refine g_callS X5 hx hby hZ hown (hw _ (List.mem_of_getElem? (i := 24) rfl)) (hw _ (List.mem_of_getElem? (i := 25) rfl)) (hw _ (List.mem_of_getElem? (i := 15) rfl)) (hw _ (List.mem_of_getElem? (i := 26) rfl)) d5_37 [(.ref aa), (.int (5 : Int32)), (.long rr)] [(.int (((((ltF (0 : Int32) rr n f) + (ltF (1 : Int32) rr n f)) + (ltF (2 : Int32) rr n f)) + (ltF (3 : Int32) rr n f)) + (ltF (4 : Int32) rr n f)))] (rm6 l Z a0 hw [] aa (5 : Int32) rr n f h0 n0 Z0 A_aa_0 (by decide)) e5 rfl (by rw [hml]; rfl) pd0 rfl (by decide) 1 (Nat.le_of_eq rfl) (by decide) (by decide) (by decide) (by decide) 40 rfl ?_
  intro T6 v6 L6 X6 Q6
  obtain ⟨rfl, N6', e6⟩ := Q6
  have N6 := Fr.app N5 N6'
  show Goes p e below _ (T6.setTop (mkF m 40 _ [(.int (ltF (5 : Int32) rr n f)), (.int (((((ltF (0 : Int32) rr n f) + (ltF (1 : Int32) rr n f)) + (ltF (2 : Int32) rr n f)) + (ltF (3 : Int32) rr n f)) + (ltF (4 : Int32) rr n f)))]))
  refine g_iadd X6 hx hby d5_40 41 rfl ?_
  refine g_aloadN X6 hx hby d5_41 rfl rfl 42 rfl ?_
  refine g_bipush X6 hx hby d5_42 (6 : Int32) rfl 44 rfl ?_
  refine g_lloadN X6 hx hby d5_44 rfl 45 rfl ?_
  refine g_callS X6 hx hby hZ hown (hw _ (List.mem_of_getElem? (i := 24) rfl)) (hw _ (List.mem_of_getElem? (i := 25) rfl)) (hw _ (List.mem_of_getElem? (i := 15) rfl)) (hw _ (List.mem_of_getElem? (i := 26) rfl)) d5_45 [(.ref aa), (.int (6 : Int32)), (.long rr)] [(.int ((((((ltF (0 : Int32) rr n f) + (ltF (1 : Int32) rr n f)) + (ltF (2 : Int32) rr n f)) + (ltF (3 : Int32) rr n f)) + (ltF (4 : Int32) rr n f)) + (ltF (5 : Int32) rr n f)))] (rm6 l Z a0 hw [] aa (6 : Int32) rr n f h0 n0 Z0 A_aa_0 (by decide)) e6 rfl (by rw [hml]; rfl) pd0 rfl (by decide) 1 (Nat.le_of_eq rfl) (by decide) (by decide) (by decide) (by decide) 48 rfl ?_
  intro T7 v7 L7 X7 Q7
  obtain ⟨rfl, N7', e7⟩ := Q7
  have N7 := Fr.app N6 N7'
  show Goes p e below _ (T7.setTop (mkF m 48 _ [(.int (ltF (6 : Int32) rr n f)), (.int ((((((ltF (0 : Int32) rr n f) + (ltF (1 : Int32) rr n f)) + (ltF (2 : Int32) rr n f)) + (ltF (3 : Int32) rr n f)) + (ltF (4 : Int32) rr n f)) + (ltF (5 : Int32) rr n f)))]))
  refine g_iadd X7 hx hby d5_48 49 rfl ?_
  refine g_aloadN X7 hx hby d5_49 rfl rfl 50 rfl ?_
  refine g_bipush X7 hx hby d5_50 (7 : Int32) rfl 52 rfl ?_
  refine g_lloadN X7 hx hby d5_52 rfl 53 rfl ?_
  refine g_callS X7 hx hby hZ hown (hw _ (List.mem_of_getElem? (i := 24) rfl)) (hw _ (List.mem_of_getElem? (i := 25) rfl)) (hw _ (List.mem_of_getElem? (i := 15) rfl)) (hw _ (List.mem_of_getElem? (i := 26) rfl)) d5_53 [(.ref aa), (.int (7 : Int32)), (.long rr)] [(.int (((((((ltF (0 : Int32) rr n f) + (ltF (1 : Int32) rr n f)) + (ltF (2 : Int32) rr n f)) + (ltF (3 : Int32) rr n f)) + (ltF (4 : Int32) rr n f)) + (ltF (5 : Int32) rr n f)) + (ltF (6 : Int32) rr n f)))] (rm6 l Z a0 hw [] aa (7 : Int32) rr n f h0 n0 Z0 A_aa_0 (by decide)) e7 rfl (by rw [hml]; rfl) pd0 rfl (by decide) 1 (Nat.le_of_eq rfl) (by decide) (by decide) (by decide) (by decide) 56 rfl ?_
  intro T8 v8 L8 X8 Q8
  obtain ⟨rfl, N8', e8⟩ := Q8
  have N8 := Fr.app N7 N8'
  show Goes p e below _ (T8.setTop (mkF m 56 _ [(.int (ltF (7 : Int32) rr n f)), (.int (((((((ltF (0 : Int32) rr n f) + (ltF (1 : Int32) rr n f)) + (ltF (2 : Int32) rr n f)) + (ltF (3 : Int32) rr n f)) + (ltF (4 : Int32) rr n f)) + (ltF (5 : Int32) rr n f)) + (ltF (6 : Int32) rr n f)))]))
  refine g_iadd X8 hx hby d5_56 57 rfl ?_
  exact g_ireturn X8 hx hby hret hlk (Or.inl rfl) rfl d5_57 (by exact ⟨congrArg (fun z => some (Value.int z)) rfl, N8, e8⟩) (by decide) (by decide)
def Inc (n m : Nat) (f : Nat → Int64) (v : Int64) : Prop := (∀ i j, i ≤ j → j ≤ m → j < n → (f i).toInt ≤ (f j).toInt) ∧ (∀ j, j ≤ m → j < n → (f j).toInt ≤ v.toInt) ∧ v.toInt ≤ 9223372036854775775 + 3 * m
theorem own_add1 {x y : Int32} (h : 0 ≤ x.toInt ∧ x.toInt ≤ 1000) (h' : 0 ≤ y.toInt ∧ y.toInt ≤ 1) : (x + y).toInt = x.toInt + y.toInt := by
  have h1 := c_iadd x y
  have h2 := rng32 (x + y)
  omega
theorem own_sum8 {a0 a1 a2 a3 a4 a5 a6 a7 : Int32} (h0 : 0 ≤ a0.toInt ∧ a0.toInt ≤ 1) (h1 : 0 ≤ a1.toInt ∧ a1.toInt ≤ 1) (h2 : 0 ≤ a2.toInt ∧ a2.toInt ≤ 1) (h3 : 0 ≤ a3.toInt ∧ a3.toInt ≤ 1) (h4 : 0 ≤ a4.toInt ∧ a4.toInt ≤ 1) (h5 : 0 ≤ a5.toInt ∧ a5.toInt ≤ 1) (h6 : 0 ≤ a6.toInt ∧ a6.toInt ≤ 1) (h7 : 0 ≤ a7.toInt ∧ a7.toInt ≤ 1) : ((((((((a0 + a1) + a2) + a3) + a4) + a5) + a6) + a7)).toInt = a0.toInt + a1.toInt + a2.toInt + a3.toInt + a4.toInt + a5.toInt + a6.toInt + a7.toInt := by
  have e1 := own_add1 (x := a0) (y := a1) (by omega) (by omega)
  have e2 := own_add1 (x := (a0 + a1)) (y := a2) (by omega) (by omega)
  have e3 := own_add1 (x := ((a0 + a1) + a2)) (y := a3) (by omega) (by omega)
  have e4 := own_add1 (x := (((a0 + a1) + a2) + a3)) (y := a4) (by omega) (by omega)
  have e5 := own_add1 (x := ((((a0 + a1) + a2) + a3) + a4)) (y := a5) (by omega) (by omega)
  have e6 := own_add1 (x := (((((a0 + a1) + a2) + a3) + a4) + a5)) (y := a6) (by omega) (by omega)
  have e7 := own_add1 (x := ((((((a0 + a1) + a2) + a3) + a4) + a5) + a6)) (y := a7) (by omega) (by omega)
  omega
theorem own_d (y : Int64) : 0 ≤ (y &&& (3 : Int64)).toInt ∧ (y &&& (3 : Int64)).toInt ≤ 3 := by
  have h := c_maskL y 3 2 (by decide) (by decide)
  have e : ((2 ^ 2 : Nat) : Int) = 4 := by decide
  rw [e] at h; omega
theorem own_inc0 {n : Nat} {v : Int64} (hv : v.toInt ≤ 9223372036854775775) : Inc n 0 (upd (fun _ => (0 : Int64)) 0 v) v := by
  refine ⟨fun i j hij hj _ => ?_, fun j hj _ => ?_, by omega⟩
  · obtain rfl : j = 0 := by omega
    obtain rfl : i = 0 := by omega
    omega
  · obtain rfl : j = 0 := by omega
    rw [upd_hit]; omega
theorem own_inc {n m : Nat} {nn K : Int32} {f f' : Nat → Int64} {v v' d : Int64} (hN : nn.toInt = n) (hK : K.toInt = (m + 1 : Nat)) (hm : m ≤ 7) (hd : 0 ≤ d.toInt ∧ d.toInt ≤ 3) (h : Inc n m f v) (hv : v' = if K < nn then v + d else v) (hf : f' = if K < nn then upd f (m + 1) (v + d) else f) : Inc n (m + 1) f' v' := by
  obtain ⟨h1, h2, h3⟩ := h
  by_cases q : K < nn
  · rw [if_pos q] at hv hf
    rw [Int32.lt_iff_toInt_lt] at q
    have a := c_ladd v d
    have r := rng64 (v + d)
    have r2 := rng64 v
    have e : (v + d).toInt = v.toInt + d.toInt := by omega
    subst hv hf
    refine ⟨fun i j hij hj hjn => ?_, fun j hj hjn => ?_, by omega⟩
    · by_cases qj : j = m + 1
      · subst qj
        rw [upd_hit]
        by_cases qi : i = m + 1
        · subst qi; rw [upd_hit]; omega
        · rw [upd_miss _ _ qi]
          have := h2 i (by omega) (by omega)
          omega
      · rw [upd_miss _ _ qj, upd_miss _ _ (by omega)]
        exact h1 i j hij (by omega) hjn
    · by_cases qj : j = m + 1
      · subst qj; rw [upd_hit]; omega
      · rw [upd_miss _ _ qj]
        have := h2 j (by omega) hjn
        omega
  · rw [if_neg q] at hv hf
    rw [Int32.lt_iff_toInt_lt] at q
    subst hv hf
    exact ⟨fun i j hij hj hjn => h1 i j hij (by omega) hjn, fun j hj hjn => h2 j (by omega) hjn, by omega⟩
theorem own_n {sz nn : Int32} (h : (1 : Int32) + (sz &&& (7 : Int32)) = nn) : ∃ n : Nat, nn.toInt = n ∧ 1 ≤ n ∧ n ≤ 8 := by
  have h1 := c_mask sz 7 3 (by decide) (by decide)
  have h2 := c_iadd 1 (sz &&& (7 : Int32))
  have h3 := rng32 nn
  rw [h] at h2
  have e1 : (1 : Int32).toInt = 1 := rfl
  have e : ((2 ^ 3 : Nat) : Int) = 8 := by decide
  rw [e] at h1
  exact ⟨nn.toInt.toNat, by omega, by omega, by omega⟩
theorem own_pc {pp pr : Int32} (h : (1 : Int32) + ((pp &&& (2147483647 : Int32)) % (100 : Int32)) = pr) : 1 ≤ pr.toInt ∧ pr.toInt ≤ 100 := by
  have h1 := own_rem pp 100 100 rfl (by decide)
  have h2 := c_iadd 1 ((pp &&& (2147483647 : Int32)) % (100 : Int32))
  have h3 := rng32 pr
  rw [h] at h2
  have e1 : (1 : Int32).toInt = 1 := rfl
  omega
theorem own_v0 {b v : Int64} (h : minJ b (9223372036854775775 : Int64) = v) : v.toInt ≤ 9223372036854775775 := by
  rw [← h]; unfold minJ
  have e : (9223372036854775775 : Int64).toInt = 9223372036854775775 := rfl
  split <;> rename_i q <;> rw [Int64.lt_iff_toInt_lt] at q <;> omega
theorem own_gt {nn K : Int32} {n m : Nat} (hN : nn.toInt = n) (hK : K.toInt = m) (q : K < nn) : m < n := by
  rw [Int32.lt_iff_toInt_lt] at q; omega
theorem own_mul {pr nn : Int32} {n : Nat} (hN : nn.toInt = n) (h8 : n ≤ 8) (hp : 1 ≤ pr.toInt ∧ pr.toInt ≤ 100) : (pr.toInt64 * nn.toInt64).toInt = pr.toInt * n := by
  have h1 := c_lmul pr.toInt64 nn.toInt64
  have h2 := rng64 (pr.toInt64 * nn.toInt64)
  rw [c_i2l, c_i2l, hN] at h1
  have h3 : 0 ≤ pr.toInt * (n : Int) := Int.mul_nonneg (by omega) (by omega)
  have h4 : pr.toInt * (n : Int) ≤ 100 * 8 := Int.mul_le_mul (by omega) (by omega) (by omega) (by omega)
  omega
theorem own_rk {pr : Int32} {n : Nat} (h1 : 1 ≤ n) (h8 : n ≤ 8) (hp : 1 ≤ pr.toInt ∧ pr.toInt ≤ 100) {rk : Int64} (h : ((((pr.toInt64) * ((n).toInt32.toInt64)) + (99 : Int64)) / (100 : Int64)) = rk) : ∃ k : Nat, k < n ∧ (rk.toInt32 - 1).toInt = k ∧ k * 100 < pr.toInt * n ∧ pr.toInt * n ≤ (k + 1) * 100 := by
  have a1 := own_mul (nn := n.toInt32) (own_nt (by omega)) h8 hp
  have a2 := c_ladd (pr.toInt64 * n.toInt32.toInt64) 99
  have r2 := rng64 (pr.toInt64 * n.toInt32.toInt64 + 99)
  have e99 : (99 : Int64).toInt = 99 := rfl
  have b1 : 1 * (n : Int) ≤ pr.toInt * (n : Int) := Int.mul_le_mul_of_nonneg_right (by omega) (by omega)
  have b2 : pr.toInt * (n : Int) ≤ 100 * (n : Int) := Int.mul_le_mul_of_nonneg_right (by omega) (by omega)
  have a3 := (c_ldiv (pr.toInt64 * n.toInt32.toInt64 + 99) 100 100 rfl (by decide)).1 (by omega)
  rw [h] at a3
  have a4 := c_l2i rk
  have r4 := rng32 rk.toInt32
  have a5 := c_isub rk.toInt32 1
  have r5 := rng32 (rk.toInt32 - 1)
  have e1 : (1 : Int32).toInt = 1 := rfl
  generalize hX : pr.toInt * (n : Int) = X at *
  refine ⟨(rk.toInt - 1).toNat, ?_, ?_, ?_, ?_⟩ <;> omega
theorem own_hj {pr : Int32} {n : Nat} (h1 : 1 ≤ n) (h8 : n ≤ 8) (hp : 1 ≤ pr.toInt ∧ pr.toInt ≤ 100) : ∀ rk : Int64, ((((pr.toInt64) * ((n).toInt32.toInt64)) + (99 : Int64)) / (100 : Int64)) = rk → ¬ (rk.toInt32 - 1) < 0 ∧ (rk.toInt32 - 1).toNatClampNeg < n := fun rk h => by
  obtain ⟨k, k1, k2, -⟩ := own_rk h1 h8 hp h
  exact ⟨own_nn (by omega), by rw [own_clamp k2]; exact k1⟩
theorem own_perc {pr : Int32} {n : Nat} {f : Nat → Int64} (h1 : 1 ≤ n) (h8 : n ≤ 8) (hp : 1 ≤ pr.toInt ∧ pr.toInt ≤ 100) : ∃ k : Nat, k < n ∧ perc pr n f = f k ∧ k * 100 < pr.toInt * n ∧ pr.toInt * n ≤ (k + 1) * 100 := by
  obtain ⟨k, k1, k2, k3, k4⟩ := own_rk h1 h8 hp rfl
  exact ⟨k, k1, congrArg f (own_clamp k2), k3, k4⟩
theorem le_at {n k : Nat} {f : Nat → Int64} {I : Int32} {i : Nat} (hI : I.toInt = i) (h8 : n ≤ 8) (hk : k < n) (mo : ∀ i j, i ≤ j → j < n → (f i).toInt ≤ (f j).toInt) : 0 ≤ (leF I (f k) n f).toInt ∧ (leF I (f k) n f).toInt ≤ 1 ∧ (i ≤ k → (leF I (f k) n f).toInt = 1) := by
  have e0 : (0 : Int32).toInt = 0 := rfl
  have e1 : (1 : Int32).toInt = 1 := rfl
  unfold leF
  by_cases q : I < n.toInt32
  · rw [if_pos q]
    by_cases q2 : f k < f I.toNatClampNeg
    · rw [if_pos q2]
      refine ⟨by omega, by omega, fun h => ?_⟩
      rw [own_clamp hI, Int64.lt_iff_toInt_lt] at q2
      have := mo i k h hk
      omega
    · rw [if_neg q2]; exact ⟨by omega, by omega, fun _ => e1⟩
  · rw [if_neg q]
    refine ⟨by omega, by omega, fun h => ?_⟩
    rw [Int32.lt_iff_toInt_lt, own_nt (by omega)] at q
    omega
theorem lt_at {n k : Nat} {f : Nat → Int64} {I : Int32} {i : Nat} (hI : I.toInt = i) (h8 : n ≤ 8) (hk : k < n) (mo : ∀ i j, i ≤ j → j < n → (f i).toInt ≤ (f j).toInt) : 0 ≤ (ltF I (f k) n f).toInt ∧ (ltF I (f k) n f).toInt ≤ 1 ∧ (k ≤ i → (ltF I (f k) n f).toInt = 0) := by
  have e0 : (0 : Int32).toInt = 0 := rfl
  have e1 : (1 : Int32).toInt = 1 := rfl
  unfold ltF
  by_cases q : I < n.toInt32
  · rw [if_pos q]
    rw [Int32.lt_iff_toInt_lt, own_nt (by omega)] at q
    by_cases q2 : f I.toNatClampNeg < f k
    · rw [if_pos q2]
      refine ⟨by omega, by omega, fun h => ?_⟩
      rw [own_clamp hI, Int64.lt_iff_toInt_lt] at q2
      have := mo k i h (by omega)
      omega
    · rw [if_neg q2]; exact ⟨by omega, by omega, fun _ => e0⟩
  · rw [if_neg q]; exact ⟨by omega, by omega, fun _ => e0⟩
theorem own_add {a b : Int32} {x y : Int} (h : 0 ≤ a.toInt ∧ a.toInt ≤ 100) (h' : 0 ≤ b.toInt ∧ b.toInt ≤ 100) : (a + b).toInt = a.toInt + b.toInt := by
  have h1 := c_iadd a b
  have h2 := rng32 (a + b)
  omega
theorem own_fin {n : Nat} {pr nn : Int32} {f : Nat → Int64} {v r need atm blw : Int64} (hN : nn.toInt = n) (h1 : 1 ≤ n) (h8 : n ≤ 8) (hp : 1 ≤ pr.toInt ∧ pr.toInt ≤ 100) (hI : Inc n 7 f v) (hr : perc pr n f = r) (hnd : pr.toInt64 * nn.toInt64 = need) (ha : (cLE r n f).toInt64 * (100 : Int64) = atm) (hb : (cLT r n f).toInt64 * (100 : Int64) = blw) : ¬ atm < need ∧ blw < need := by
  obtain ⟨k, k1, k2, k3, k4⟩ := own_perc (f := f) h1 h8 hp
  rw [k2] at hr
  subst hr
  have mo : ∀ i j, i ≤ j → j < n → (f i).toInt ≤ (f j).toInt := fun i j hij hj => hI.1 i j hij (by omega) hj
  have m := own_mul hN h8 hp
  rw [hnd] at m
  have E : (100 : Int64).toInt = 100 := rfl
  have L0 := le_at (I := 0) (i := 0) rfl h8 k1 mo
  have L1 := le_at (I := 1) (i := 1) rfl h8 k1 mo
  have L2 := le_at (I := 2) (i := 2) rfl h8 k1 mo
  have L3 := le_at (I := 3) (i := 3) rfl h8 k1 mo
  have L4 := le_at (I := 4) (i := 4) rfl h8 k1 mo
  have L5 := le_at (I := 5) (i := 5) rfl h8 k1 mo
  have L6 := le_at (I := 6) (i := 6) rfl h8 k1 mo
  have L7 := le_at (I := 7) (i := 7) rfl h8 k1 mo
  have S0 := lt_at (I := 0) (i := 0) rfl h8 k1 mo
  have S1 := lt_at (I := 1) (i := 1) rfl h8 k1 mo
  have S2 := lt_at (I := 2) (i := 2) rfl h8 k1 mo
  have S3 := lt_at (I := 3) (i := 3) rfl h8 k1 mo
  have S4 := lt_at (I := 4) (i := 4) rfl h8 k1 mo
  have S5 := lt_at (I := 5) (i := 5) rfl h8 k1 mo
  have S6 := lt_at (I := 6) (i := 6) rfl h8 k1 mo
  have S7 := lt_at (I := 7) (i := 7) rfl h8 k1 mo
  have a1 := c_lmul (cLE (f k) n f).toInt64 100
  have ra := rng64 atm
  rw [ha, c_i2l, E] at a1
  have b1 := c_lmul (cLT (f k) n f).toInt64 100
  have rb := rng64 blw
  rw [hb, c_i2l, E] at b1
  have cA : (cLE (f k) n f).toInt = (leF 0 (f k) n f).toInt + (leF 1 (f k) n f).toInt + (leF 2 (f k) n f).toInt + (leF 3 (f k) n f).toInt + (leF 4 (f k) n f).toInt + (leF 5 (f k) n f).toInt + (leF 6 (f k) n f).toInt + (leF 7 (f k) n f).toInt := by
    unfold cLE
    exact own_sum8 ⟨L0.1, L0.2.1⟩ ⟨L1.1, L1.2.1⟩ ⟨L2.1, L2.2.1⟩ ⟨L3.1, L3.2.1⟩ ⟨L4.1, L4.2.1⟩ ⟨L5.1, L5.2.1⟩ ⟨L6.1, L6.2.1⟩ ⟨L7.1, L7.2.1⟩
  have cB : (cLT (f k) n f).toInt = (ltF 0 (f k) n f).toInt + (ltF 1 (f k) n f).toInt + (ltF 2 (f k) n f).toInt + (ltF 3 (f k) n f).toInt + (ltF 4 (f k) n f).toInt + (ltF 5 (f k) n f).toInt + (ltF 6 (f k) n f).toInt + (ltF 7 (f k) n f).toInt := by
    unfold cLT
    exact own_sum8 ⟨S0.1, S0.2.1⟩ ⟨S1.1, S1.2.1⟩ ⟨S2.1, S2.2.1⟩ ⟨S3.1, S3.2.1⟩ ⟨S4.1, S4.2.1⟩ ⟨S5.1, S5.2.1⟩ ⟨S6.1, S6.2.1⟩ ⟨S7.1, S7.2.1⟩
  generalize hX : pr.toInt * (n : Int) = X at *
  generalize (leF 0 (f k) n f).toInt = x0 at *
  generalize (leF 1 (f k) n f).toInt = x1 at *
  generalize (leF 2 (f k) n f).toInt = x2 at *
  generalize (leF 3 (f k) n f).toInt = x3 at *
  generalize (leF 4 (f k) n f).toInt = x4 at *
  generalize (leF 5 (f k) n f).toInt = x5 at *
  generalize (leF 6 (f k) n f).toInt = x6 at *
  generalize (leF 7 (f k) n f).toInt = x7 at *
  generalize (ltF 0 (f k) n f).toInt = y0 at *
  generalize (ltF 1 (f k) n f).toInt = y1 at *
  generalize (ltF 2 (f k) n f).toInt = y2 at *
  generalize (ltF 3 (f k) n f).toInt = y3 at *
  generalize (ltF 4 (f k) n f).toInt = y4 at *
  generalize (ltF 5 (f k) n f).toInt = y5 at *
  generalize (ltF 6 (f k) n f).toInt = y6 at *
  generalize (ltF 7 (f k) n f).toInt = y7 at *
  have cA' : (k : Int) + 1 ≤ x0 + x1 + x2 + x3 + x4 + x5 + x6 + x7 := by clear S0 S1 S2 S3 S4 S5 S6 S7; omega
  have cB' : y0 + y1 + y2 + y3 + y4 + y5 + y6 + y7 ≤ (k : Int) := by clear L0 L1 L2 L3 L4 L5 L6 L7; omega
  constructor
  · rw [Int64.lt_iff_toInt_lt]; omega
  · rw [Int64.lt_iff_toInt_lt]; omega

theorem pd1 : parseMethodDescriptor "(JJ)J" = some ⟨[.long, .long], some .long⟩ := by decide +kernel
theorem pd2 : parseMethodDescriptor "([JI)J" = some ⟨[(.array .long), .int], some .long⟩ := by decide +kernel
theorem pd3 : parseMethodDescriptor "([JJ)I" = some ⟨[(.array .long), .long], some .int⟩ := by decide +kernel
theorem pn0 : plainFor (⟨"com/example/postlatch/postlatch/BenchTallyPercentilePinLaw", "law", "(JJII)Z"⟩ : MethodName) = true := plainFor_of_name (by first | (simp [plainName, overriddenIn]; done) | decide +kernel)
theorem ef0 (m : MethodId) (base : Int64) (dl : Int64) (sz : Int32) (pp : Int32) : entryFrame m #[(.long base), (.long dl), (.int sz), (.int pp)] maxLocals = mkF m 0 #[.val (.long base), .second, .val (.long dl), .second, .val (.int sz), .val (.int pp), .unset, .unset, .unset, .unset, .unset, .unset, .unset, .unset, .unset, .unset, .unset, .unset, .unset] [] := by first | (simp [entryFrame, mkF, argsToLocals, Value.category, maxLocals]; done) | rfl
def Q0 (base : Int64) (dl : Int64) (sz : Int32) (pp : Int32) (Z : State) (h0 : Heap) (n0 : Nat) (v : Option Value) (h : Heap) (L : List Loc) : Prop := v = some (.int 1) ∧ Fr n0 L
set_option maxRecDepth 65536 in
set_option maxHeartbeats 40000000 in
theorem rm0 (l : Launch) (Z : State) (a0 : Array Value) (hw : ∀ d ∈ tables_1, d.before a0 Z = true) (ws : List Jvm.Cond) (base : Int64) (dl : Int64) (sz : Int32) (pp : Int32) (h0 : Heap) (n0 : Nat) (Z0 : n0 ≤ h0.size) : Ctr l x code maxLocals ret ws room_1 #[(.long base), (.long dl), (.int sz), (.int pp)] Z h0 (Q0 base dl sz pp Z h0 n0) := by
  refine own_body pn0 ?_
  intro p e s m below meth c T0 hx hby hml hown hnm hret hlk hZ X0 e0
  have N0 := Fr.nil n0
  refine Goes.entry (ef0 m base dl sz pp) ?_
  refine g_iconst X0 hx hby at_0 (1 : Int32) rfl 1 rfl ?_
  refine g_iload X0 hx hby at_1 rfl 3 rfl ?_
  refine g_bipush X0 hx hby at_3 (7 : Int32) rfl 5 rfl ?_
  refine g_iand X0 hx hby at_5 6 rfl ?_
  refine g_iadd X0 hx hby at_6 7 rfl ?_
  obtain ⟨nn, hnn⟩ : ∃ z : Int32, ((1 : Int32) + (sz &&& (7 : Int32))) = z := ⟨_, rfl⟩
  refine g_istore X0 hx hby at_7 nn hnn #[.val (.long base), .second, .val (.long dl), .second, .val (.int sz), .val (.int pp), .val (.int nn), .unset, .unset, .unset, .unset, .unset, .unset, .unset, .unset, .unset, .unset, .unset, .unset] rfl 9 rfl ?_
  refine g_iconst X0 hx hby at_9 (1 : Int32) rfl 10 rfl ?_
  refine g_iload X0 hx hby at_10 rfl 12 rfl ?_
  refine g_ldc X0 hx hby hZ hown (hw _ (List.mem_of_getElem? (i := 0) rfl)) at_12 14 rfl ?_
  refine g_iand X0 hx hby at_14 15 rfl ?_
  refine g_bipush X0 hx hby at_15 (100 : Int32) rfl 17 rfl ?_
  refine g_irem X0 hx hby at_17 (by decide) 18 rfl ?_
  refine g_iadd X0 hx hby at_18 19 rfl ?_
  obtain ⟨pr, hpr⟩ : ∃ z : Int32, ((1 : Int32) + ((pp &&& (2147483647 : Int32)) % (100 : Int32))) = z := ⟨_, rfl⟩
  refine g_istore X0 hx hby at_19 pr hpr #[.val (.long base), .second, .val (.long dl), .second, .val (.int sz), .val (.int pp), .val (.int nn), .val (.int pr), .unset, .unset, .unset, .unset, .unset, .unset, .unset, .unset, .unset, .unset, .unset] rfl 21 rfl ?_
  obtain ⟨nN, hN, hN1, hN8⟩ := own_n hnn
  have hpr' := own_pc hpr
  refine g_iload X0 hx hby at_21 rfl 23 rfl ?_
  refine g_newarray X0 hx hby hZ (hw _ (List.mem_of_getElem? (i := 1) rfl)) e0 at_23 (own_nn (by omega)) nN (own_clamp hN) 8 (by omega) (by decide) (by decide) (by decide) 25 rfl ?_
  intro T1 h1 b1 g1 X1 e1 E1 A1
  have gn_b1 : n0 ≤ b1 := Nat.le_trans Z0 (Nat.le_of_eq g1.symm)
  have Z1 : n0 ≤ h1.size := Nat.le_trans Z0 E1.1
  have Vb1 : AJ Z h1 b1 nN (fun _ => (0 : Int64)) := A1
  refine g_astore X1 hx hby at_25 rfl #[.val (.long base), .second, .val (.long dl), .second, .val (.int sz), .val (.int pp), .val (.int nn), .val (.int pr), .val (.ref b1), .unset, .unset, .unset, .unset, .unset, .unset, .unset, .unset, .unset, .unset] rfl 27 rfl ?_
  refine g_lloadN X1 hx hby at_27 rfl 28 rfl ?_
  refine g_ldc2 X1 hx hby hZ hown (hw _ (List.mem_of_getElem? (i := 2) rfl)) at_28 31 rfl ?_
  refine g_callS X1 hx hby hZ hown (hw _ (List.mem_of_getElem? (i := 3) rfl)) (hw _ (List.mem_of_getElem? (i := 4) rfl)) (hw _ (List.mem_of_getElem? (i := 5) rfl)) (hw _ (List.mem_of_getElem? (i := 6) rfl)) at_31 [(.long base), (.long (9223372036854775775 : Int64))] [] (rm1 l Z a0 hw [] base (9223372036854775775 : Int64) h1 n0 Z1) e1 rfl (by rw [hml]; rfl) pd1 rfl (by decide) 0 (Nat.le_of_eq rfl) (by decide) (by decide) (by decide) (by decide) 34 rfl ?_
  intro T2 v2 L2 X2 Q2
  obtain ⟨rfl, N2', e2⟩ := Q2
  have N2 := Fr.app N0 N2'
  show Goes p e below _ (T2.setTop (mkF m 34 _ [(.long (minJ base (9223372036854775775 : Int64)))]))
  obtain ⟨v0, hv0⟩ : ∃ z : Int64, (minJ base (9223372036854775775 : Int64)) = z := ⟨_, rfl⟩
  refine g_lstore X2 hx hby at_34 v0 hv0 #[.val (.long base), .second, .val (.long dl), .second, .val (.int sz), .val (.int pp), .val (.int nn), .val (.int pr), .val (.ref b1), .val (.long v0), .second, .unset, .unset, .unset, .unset, .unset, .unset, .unset, .unset] rfl 36 rfl ?_
  refine g_aload X2 hx hby at_36 rfl rfl 38 rfl ?_
  refine g_iconst X2 hx hby at_38 (0 : Int32) rfl 39 rfl ?_
  refine g_lload X2 hx hby at_39 rfl 41 rfl ?_
  refine g_lastore X2 hx hby hZ e2 Vb1 at_41 (by decide) 0 rfl (by omega) 42 rfl ?_
  intro T3 h3 X3 e3 W3 V3
  have N3 := Fr.snoc X3 N2 gn_b1
  have Z3 : n0 ≤ h3.size := Nat.le_trans Z1 (Keep.of_wr W3).1
  have inv0 := own_inc0 (n := nN) (own_v0 hv0)
  refine g_iload X3 hx hby at_42 rfl 44 rfl ?_
  refine g_iconst X3 hx hby at_44 (1 : Int32) rfl 45 rfl ?_
  suffices J4 : ∀ v1' : Int64, v1' = (if (1 : Int32) < nn then (v0 + (dl &&& (3 : Int64))) else v0) → ∀ f1 : Nat → Int64, f1 = (if (1 : Int32) < nn then (upd (upd (fun _ => (0 : Int64)) 0 v0) 1 (v0 + (dl &&& (3 : Int64)))) else (upd (fun _ => (0 : Int64)) 0 v0)) → ∀ (T4 : State) (L4 : List Loc) (h4 : Heap), Stand p l e room_1 s m #[(.long base), (.long dl), (.int sz), (.int pp)] below meth c T4 L4 1 8 → T4.heap = h4 → Fr n0 L4 → n0 ≤ h4.size → AJ Z h4 b1 nN f1 → Goes p e below (Kend s below (Q0 base dl sz pp Z h0 n0) room_1.cells room_1.slots) (T4.setTop (mkF m 64 #[.val (.long base), .second, .val (.long dl), .second, .val (.int sz), .val (.int pp), .val (.int nn), .val (.int pr), .val (.ref b1), .val (.long v1'), .second, .unset, .unset, .unset, .unset, .unset, .unset, .unset, .unset] [])) by
    refine g_icmp_le X3 hx hby at_45 64 48 (by decide) (by decide) rfl (fun c5 => ?_) (fun c5 => ?_)
    · -- c5
      refine g_lload X3 hx hby at_48 rfl 50 rfl ?_
      refine g_lloadN X3 hx hby at_50 rfl 51 rfl ?_
      refine g_ldc2 X3 hx hby hZ hown (hw _ (List.mem_of_getElem? (i := 27) rfl)) at_51 54 rfl ?_
      refine g_land X3 hx hby at_54 55 rfl ?_
      refine g_ladd X3 hx hby at_55 56 rfl ?_
      refine g_lstore X3 hx hby at_56 (v0 + (dl &&& (3 : Int64))) rfl #[.val (.long base), .second, .val (.long dl), .second, .val (.int sz), .val (.int pp), .val (.int nn), .val (.int pr), .val (.ref b1), .val (.long (v0 + (dl &&& (3 : Int64)))), .second, .unset, .unset, .unset, .unset, .unset, .unset, .unset, .unset] rfl 58 rfl ?_
      refine g_aload X3 hx hby at_58 rfl rfl 60 rfl ?_
      refine g_iconst X3 hx hby at_60 (1 : Int32) rfl 61 rfl ?_
      refine g_lload X3 hx hby at_61 rfl 63 rfl ?_
      refine g_lastore X3 hx hby hZ e3 V3 at_63 (by decide) 1 rfl (own_gt hN (m := 1) rfl c5) 64 rfl ?_
      intro T6 h6 X6 e6 W6 V6
      have N6 := Fr.snoc X6 N3 gn_b1
      have Z6 : n0 ≤ h6.size := Nat.le_trans Z3 (Keep.of_wr W6).1
      exact J4 _ (if_pos c5).symm _ (if_pos c5).symm _ _ _ X6 e6 N6 Z6 V6
    · -- not c5
      exact J4 _ (if_neg c5).symm _ (if_neg c5).symm _ _ _ X3 e3 N3 Z3 V3
  intro v1' hv1' f1 hf1 T4 L4 h4 X4 e4 N4 Z4 V5_4
  have inv1 := own_inc (m := 0) hN (K := 1) rfl (by decide) (own_d _) inv0 hv1' hf1
  refine g_iload X4 hx hby at_64 rfl 66 rfl ?_
  refine g_iconst X4 hx hby at_66 (2 : Int32) rfl 67 rfl ?_
  suffices J7 : ∀ v2' : Int64, v2' = (if (2 : Int32) < nn then (v1' + (((dl.toUInt64 >>> ((2 : Int32) &&& 0x3f).toInt64.toUInt64).toInt64) &&& (3 : Int64))) else v1') → ∀ f2 : Nat → Int64, f2 = (if (2 : Int32) < nn then (upd f1 2 (v1' + (((dl.toUInt64 >>> ((2 : Int32) &&& 0x3f).toInt64.toUInt64).toInt64) &&& (3 : Int64)))) else f1) → ∀ (T7 : State) (L7 : List Loc) (h7 : Heap), Stand p l e room_1 s m #[(.long base), (.long dl), (.int sz), (.int pp)] below meth c T7 L7 1 8 → T7.heap = h7 → Fr n0 L7 → n0 ≤ h7.size → AJ Z h7 b1 nN f2 → Goes p e below (Kend s below (Q0 base dl sz pp Z h0 n0) room_1.cells room_1.slots) (T7.setTop (mkF m 88 #[.val (.long base), .second, .val (.long dl), .second, .val (.int sz), .val (.int pp), .val (.int nn), .val (.int pr), .val (.ref b1), .val (.long v2'), .second, .unset, .unset, .unset, .unset, .unset, .unset, .unset, .unset] [])) by
    refine g_icmp_le X4 hx hby at_67 88 70 (by decide) (by decide) rfl (fun c8 => ?_) (fun c8 => ?_)
    · -- c8
      refine g_lload X4 hx hby at_70 rfl 72 rfl ?_
      refine g_lloadN X4 hx hby at_72 rfl 73 rfl ?_
      refine g_iconst X4 hx hby at_73 (2 : Int32) rfl 74 rfl ?_
      refine g_lushr X4 hx hby at_74 75 rfl ?_
      refine g_ldc2 X4 hx hby hZ hown (hw _ (List.mem_of_getElem? (i := 27) rfl)) at_75 78 rfl ?_
      refine g_land X4 hx hby at_78 79 rfl ?_
      refine g_ladd X4 hx hby at_79 80 rfl ?_
      refine g_lstore X4 hx hby at_80 (v1' + (((dl.toUInt64 >>> ((2 : Int32) &&& 0x3f).toInt64.toUInt64).toInt64) &&& (3 : Int64))) rfl #[.val (.long base), .second, .val (.long dl), .second, .val (.int sz), .val (.int pp), .val (.int nn), .val (.int pr), .val (.ref b1), .val (.long (v1' + (((dl.toUInt64 >>> ((2 : Int32) &&& 0x3f).toInt64.toUInt64).toInt64) &&& (3 : Int64)))), .second, .unset, .unset, .unset, .unset, .unset, .unset, .unset, .unset] rfl 82 rfl ?_
      refine g_aload X4 hx hby at_82 rfl rfl 84 rfl ?_
      refine g_iconst X4 hx hby at_84 (2 : Int32) rfl 85 rfl ?_
      refine g_lload X4 hx hby at_85 rfl 87 rfl ?_
      refine g_lastore X4 hx hby hZ e4 V5_4 at_87 (by decide) 2 rfl (own_gt hN (m := 2) rfl c8) 88 rfl ?_
      intro T9 h9 X9 e9 W9 V9
      have N9 := Fr.snoc X9 N4 gn_b1
      have Z9 : n0 ≤ h9.size := Nat.le_trans Z4 (Keep.of_wr W9).1
      exact J7 _ (if_pos c8).symm _ (if_pos c8).symm _ _ _ X9 e9 N9 Z9 V9
    · -- not c8
      exact J7 _ (if_neg c8).symm _ (if_neg c8).symm _ _ _ X4 e4 N4 Z4 V5_4
  intro v2' hv2' f2 hf2 T7 L7 h7 X7 e7 N7 Z7 V8_7
  have inv2 := own_inc (m := 1) hN (K := 2) rfl (by decide) (own_d _) inv1 hv2' hf2
  refine g_iload X7 hx hby at_88 rfl 90 rfl ?_
  refine g_iconst X7 hx hby at_90 (3 : Int32) rfl 91 rfl ?_
  suffices J10 : ∀ v3' : Int64, v3' = (if (3 : Int32) < nn then (v2' + (((dl.toUInt64 >>> ((4 : Int32) &&& 0x3f).toInt64.toUInt64).toInt64) &&& (3 : Int64))) else v2') → ∀ f3 : Nat → Int64, f3 = (if (3 : Int32) < nn then (upd f2 3 (v2' + (((dl.toUInt64 >>> ((4 : Int32) &&& 0x3f).toInt64.toUInt64).toInt64) &&& (3 : Int64)))) else f2) → ∀ (T10 : State) (L10 : List Loc) (h10 : Heap), Stand p l e room_1 s m #[(.long base), (.long dl), (.int sz), (.int pp)] below meth c T10 L10 1 8 → T10.heap = h10 → Fr n0 L10 → n0 ≤ h10.size → AJ Z h10 b1 nN f3 → Goes p e below (Kend s below (Q0 base dl sz pp Z h0 n0) room_1.cells room_1.slots) (T10.setTop (mkF m 112 #[.val (.long base), .second, .val (.long dl), .second, .val (.int sz), .val (.int pp), .val (.int nn), .val (.int pr), .val (.ref b1), .val (.long v3'), .second, .unset, .unset, .unset, .unset, .unset, .unset, .unset, .unset] [])) by
    refine g_icmp_le X7 hx hby at_91 112 94 (by decide) (by decide) rfl (fun c11 => ?_) (fun c11 => ?_)
    · -- c11
      refine g_lload X7 hx hby at_94 rfl 96 rfl ?_
      refine g_lloadN X7 hx hby at_96 rfl 97 rfl ?_
      refine g_iconst X7 hx hby at_97 (4 : Int32) rfl 98 rfl ?_
      refine g_lushr X7 hx hby at_98 99 rfl ?_
      refine g_ldc2 X7 hx hby hZ hown (hw _ (List.mem_of_getElem? (i := 27) rfl)) at_99 102 rfl ?_
      refine g_land X7 hx hby at_102 103 rfl ?_
      refine g_ladd X7 hx hby at_103 104 rfl ?_
      refine g_lstore X7 hx hby at_104 (v2' + (((dl.toUInt64 >>> ((4 : Int32) &&& 0x3f).toInt64.toUInt64).toInt64) &&& (3 : Int64))) rfl #[.val (.long base), .second, .val (.long dl), .second, .val (.int sz), .val (.int pp), .val (.int nn), .val (.int pr), .val (.ref b1), .val (.long (v2' + (((dl.toUInt64 >>> ((4 : Int32) &&& 0x3f).toInt64.toUInt64).toInt64) &&& (3 : Int64)))), .second, .unset, .unset, .unset, .unset, .unset, .unset, .unset, .unset] rfl 106 rfl ?_
      refine g_aload X7 hx hby at_106 rfl rfl 108 rfl ?_
      refine g_iconst X7 hx hby at_108 (3 : Int32) rfl 109 rfl ?_
      refine g_lload X7 hx hby at_109 rfl 111 rfl ?_
      refine g_lastore X7 hx hby hZ e7 V8_7 at_111 (by decide) 3 rfl (own_gt hN (m := 3) rfl c11) 112 rfl ?_
      intro T12 h12 X12 e12 W12 V12
      have N12 := Fr.snoc X12 N7 gn_b1
      have Z12 : n0 ≤ h12.size := Nat.le_trans Z7 (Keep.of_wr W12).1
      exact J10 _ (if_pos c11).symm _ (if_pos c11).symm _ _ _ X12 e12 N12 Z12 V12
    · -- not c11
      exact J10 _ (if_neg c11).symm _ (if_neg c11).symm _ _ _ X7 e7 N7 Z7 V8_7
  intro v3' hv3' f3 hf3 T10 L10 h10 X10 e10 N10 Z10 V11_10
  have inv3 := own_inc (m := 2) hN (K := 3) rfl (by decide) (own_d _) inv2 hv3' hf3
  refine g_iload X10 hx hby at_112 rfl 114 rfl ?_
  refine g_iconst X10 hx hby at_114 (4 : Int32) rfl 115 rfl ?_
  suffices J13 : ∀ v4' : Int64, v4' = (if (4 : Int32) < nn then (v3' + (((dl.toUInt64 >>> ((6 : Int32) &&& 0x3f).toInt64.toUInt64).toInt64) &&& (3 : Int64))) else v3') → ∀ f4 : Nat → Int64, f4 = (if (4 : Int32) < nn then (upd f3 4 (v3' + (((dl.toUInt64 >>> ((6 : Int32) &&& 0x3f).toInt64.toUInt64).toInt64) &&& (3 : Int64)))) else f3) → ∀ (T13 : State) (L13 : List Loc) (h13 : Heap), Stand p l e room_1 s m #[(.long base), (.long dl), (.int sz), (.int pp)] below meth c T13 L13 1 8 → T13.heap = h13 → Fr n0 L13 → n0 ≤ h13.size → AJ Z h13 b1 nN f4 → Goes p e below (Kend s below (Q0 base dl sz pp Z h0 n0) room_1.cells room_1.slots) (T13.setTop (mkF m 137 #[.val (.long base), .second, .val (.long dl), .second, .val (.int sz), .val (.int pp), .val (.int nn), .val (.int pr), .val (.ref b1), .val (.long v4'), .second, .unset, .unset, .unset, .unset, .unset, .unset, .unset, .unset] [])) by
    refine g_icmp_le X10 hx hby at_115 137 118 (by decide) (by decide) rfl (fun c14 => ?_) (fun c14 => ?_)
    · -- c14
      refine g_lload X10 hx hby at_118 rfl 120 rfl ?_
      refine g_lloadN X10 hx hby at_120 rfl 121 rfl ?_
      refine g_bipush X10 hx hby at_121 (6 : Int32) rfl 123 rfl ?_
      refine g_lushr X10 hx hby at_123 124 rfl ?_
      refine g_ldc2 X10 hx hby hZ hown (hw _ (List.mem_of_getElem? (i := 27) rfl)) at_124 127 rfl ?_
      refine g_land X10 hx hby at_127 128 rfl ?_
      refine g_ladd X10 hx hby at_128 129 rfl ?_
      refine g_lstore X10 hx hby at_129 (v3' + (((dl.toUInt64 >>> ((6 : Int32) &&& 0x3f).toInt64.toUInt64).toInt64) &&& (3 : Int64))) rfl #[.val (.long base), .second, .val (.long dl), .second, .val (.int sz), .val (.int pp), .val (.int nn), .val (.int pr), .val (.ref b1), .val (.long (v3' + (((dl.toUInt64 >>> ((6 : Int32) &&& 0x3f).toInt64.toUInt64).toInt64) &&& (3 : Int64)))), .second, .unset, .unset, .unset, .unset, .unset, .unset, .unset, .unset] rfl 131 rfl ?_
      refine g_aload X10 hx hby at_131 rfl rfl 133 rfl ?_
      refine g_iconst X10 hx hby at_133 (4 : Int32) rfl 134 rfl ?_
      refine g_lload X10 hx hby at_134 rfl 136 rfl ?_
      refine g_lastore X10 hx hby hZ e10 V11_10 at_136 (by decide) 4 rfl (own_gt hN (m := 4) rfl c14) 137 rfl ?_
      intro T15 h15 X15 e15 W15 V15
      have N15 := Fr.snoc X15 N10 gn_b1
      have Z15 : n0 ≤ h15.size := Nat.le_trans Z10 (Keep.of_wr W15).1
      exact J13 _ (if_pos c14).symm _ (if_pos c14).symm _ _ _ X15 e15 N15 Z15 V15
    · -- not c14
      exact J13 _ (if_neg c14).symm _ (if_neg c14).symm _ _ _ X10 e10 N10 Z10 V11_10
  intro v4' hv4' f4 hf4 T13 L13 h13 X13 e13 N13 Z13 V14_13
  have inv4 := own_inc (m := 3) hN (K := 4) rfl (by decide) (own_d _) inv3 hv4' hf4
  refine g_iload X13 hx hby at_137 rfl 139 rfl ?_
  refine g_iconst X13 hx hby at_139 (5 : Int32) rfl 140 rfl ?_
  suffices J16 : ∀ v5' : Int64, v5' = (if (5 : Int32) < nn then (v4' + (((dl.toUInt64 >>> ((8 : Int32) &&& 0x3f).toInt64.toUInt64).toInt64) &&& (3 : Int64))) else v4') → ∀ f5 : Nat → Int64, f5 = (if (5 : Int32) < nn then (upd f4 5 (v4' + (((dl.toUInt64 >>> ((8 : Int32) &&& 0x3f).toInt64.toUInt64).toInt64) &&& (3 : Int64)))) else f4) → ∀ (T16 : State) (L16 : List Loc) (h16 : Heap), Stand p l e room_1 s m #[(.long base), (.long dl), (.int sz), (.int pp)] below meth c T16 L16 1 8 → T16.heap = h16 → Fr n0 L16 → n0 ≤ h16.size → AJ Z h16 b1 nN f5 → Goes p e below (Kend s below (Q0 base dl sz pp Z h0 n0) room_1.cells room_1.slots) (T16.setTop (mkF m 162 #[.val (.long base), .second, .val (.long dl), .second, .val (.int sz), .val (.int pp), .val (.int nn), .val (.int pr), .val (.ref b1), .val (.long v5'), .second, .unset, .unset, .unset, .unset, .unset, .unset, .unset, .unset] [])) by
    refine g_icmp_le X13 hx hby at_140 162 143 (by decide) (by decide) rfl (fun c17 => ?_) (fun c17 => ?_)
    · -- c17
      refine g_lload X13 hx hby at_143 rfl 145 rfl ?_
      refine g_lloadN X13 hx hby at_145 rfl 146 rfl ?_
      refine g_bipush X13 hx hby at_146 (8 : Int32) rfl 148 rfl ?_
      refine g_lushr X13 hx hby at_148 149 rfl ?_
      refine g_ldc2 X13 hx hby hZ hown (hw _ (List.mem_of_getElem? (i := 27) rfl)) at_149 152 rfl ?_
      refine g_land X13 hx hby at_152 153 rfl ?_
      refine g_ladd X13 hx hby at_153 154 rfl ?_
      refine g_lstore X13 hx hby at_154 (v4' + (((dl.toUInt64 >>> ((8 : Int32) &&& 0x3f).toInt64.toUInt64).toInt64) &&& (3 : Int64))) rfl #[.val (.long base), .second, .val (.long dl), .second, .val (.int sz), .val (.int pp), .val (.int nn), .val (.int pr), .val (.ref b1), .val (.long (v4' + (((dl.toUInt64 >>> ((8 : Int32) &&& 0x3f).toInt64.toUInt64).toInt64) &&& (3 : Int64)))), .second, .unset, .unset, .unset, .unset, .unset, .unset, .unset, .unset] rfl 156 rfl ?_
      refine g_aload X13 hx hby at_156 rfl rfl 158 rfl ?_
      refine g_iconst X13 hx hby at_158 (5 : Int32) rfl 159 rfl ?_
      refine g_lload X13 hx hby at_159 rfl 161 rfl ?_
      refine g_lastore X13 hx hby hZ e13 V14_13 at_161 (by decide) 5 rfl (own_gt hN (m := 5) rfl c17) 162 rfl ?_
      intro T18 h18 X18 e18 W18 V18
      have N18 := Fr.snoc X18 N13 gn_b1
      have Z18 : n0 ≤ h18.size := Nat.le_trans Z13 (Keep.of_wr W18).1
      exact J16 _ (if_pos c17).symm _ (if_pos c17).symm _ _ _ X18 e18 N18 Z18 V18
    · -- not c17
      exact J16 _ (if_neg c17).symm _ (if_neg c17).symm _ _ _ X13 e13 N13 Z13 V14_13
  intro v5' hv5' f5 hf5 T16 L16 h16 X16 e16 N16 Z16 V17_16
  have inv5 := own_inc (m := 4) hN (K := 5) rfl (by decide) (own_d _) inv4 hv5' hf5
  refine g_iload X16 hx hby at_162 rfl 164 rfl ?_
  refine g_bipush X16 hx hby at_164 (6 : Int32) rfl 166 rfl ?_
  suffices J19 : ∀ v6' : Int64, v6' = (if (6 : Int32) < nn then (v5' + (((dl.toUInt64 >>> ((10 : Int32) &&& 0x3f).toInt64.toUInt64).toInt64) &&& (3 : Int64))) else v5') → ∀ f6 : Nat → Int64, f6 = (if (6 : Int32) < nn then (upd f5 6 (v5' + (((dl.toUInt64 >>> ((10 : Int32) &&& 0x3f).toInt64.toUInt64).toInt64) &&& (3 : Int64)))) else f5) → ∀ (T19 : State) (L19 : List Loc) (h19 : Heap), Stand p l e room_1 s m #[(.long base), (.long dl), (.int sz), (.int pp)] below meth c T19 L19 1 8 → T19.heap = h19 → Fr n0 L19 → n0 ≤ h19.size → AJ Z h19 b1 nN f6 → Goes p e below (Kend s below (Q0 base dl sz pp Z h0 n0) room_1.cells room_1.slots) (T19.setTop (mkF m 189 #[.val (.long base), .second, .val (.long dl), .second, .val (.int sz), .val (.int pp), .val (.int nn), .val (.int pr), .val (.ref b1), .val (.long v6'), .second, .unset, .unset, .unset, .unset, .unset, .unset, .unset, .unset] [])) by
    refine g_icmp_le X16 hx hby at_166 189 169 (by decide) (by decide) rfl (fun c20 => ?_) (fun c20 => ?_)
    · -- c20
      refine g_lload X16 hx hby at_169 rfl 171 rfl ?_
      refine g_lloadN X16 hx hby at_171 rfl 172 rfl ?_
      refine g_bipush X16 hx hby at_172 (10 : Int32) rfl 174 rfl ?_
      refine g_lushr X16 hx hby at_174 175 rfl ?_
      refine g_ldc2 X16 hx hby hZ hown (hw _ (List.mem_of_getElem? (i := 27) rfl)) at_175 178 rfl ?_
      refine g_land X16 hx hby at_178 179 rfl ?_
      refine g_ladd X16 hx hby at_179 180 rfl ?_
      refine g_lstore X16 hx hby at_180 (v5' + (((dl.toUInt64 >>> ((10 : Int32) &&& 0x3f).toInt64.toUInt64).toInt64) &&& (3 : Int64))) rfl #[.val (.long base), .second, .val (.long dl), .second, .val (.int sz), .val (.int pp), .val (.int nn), .val (.int pr), .val (.ref b1), .val (.long (v5' + (((dl.toUInt64 >>> ((10 : Int32) &&& 0x3f).toInt64.toUInt64).toInt64) &&& (3 : Int64)))), .second, .unset, .unset, .unset, .unset, .unset, .unset, .unset, .unset] rfl 182 rfl ?_
      refine g_aload X16 hx hby at_182 rfl rfl 184 rfl ?_
      refine g_bipush X16 hx hby at_184 (6 : Int32) rfl 186 rfl ?_
      refine g_lload X16 hx hby at_186 rfl 188 rfl ?_
      refine g_lastore X16 hx hby hZ e16 V17_16 at_188 (by decide) 6 rfl (own_gt hN (m := 6) rfl c20) 189 rfl ?_
      intro T21 h21 X21 e21 W21 V21
      have N21 := Fr.snoc X21 N16 gn_b1
      have Z21 : n0 ≤ h21.size := Nat.le_trans Z16 (Keep.of_wr W21).1
      exact J19 _ (if_pos c20).symm _ (if_pos c20).symm _ _ _ X21 e21 N21 Z21 V21
    · -- not c20
      exact J19 _ (if_neg c20).symm _ (if_neg c20).symm _ _ _ X16 e16 N16 Z16 V17_16
  intro v6' hv6' f6 hf6 T19 L19 h19 X19 e19 N19 Z19 V20_19
  have inv6 := own_inc (m := 5) hN (K := 6) rfl (by decide) (own_d _) inv5 hv6' hf6
  refine g_iload X19 hx hby at_189 rfl 191 rfl ?_
  refine g_bipush X19 hx hby at_191 (7 : Int32) rfl 193 rfl ?_
  suffices J22 : ∀ v7' : Int64, v7' = (if (7 : Int32) < nn then (v6' + (((dl.toUInt64 >>> ((12 : Int32) &&& 0x3f).toInt64.toUInt64).toInt64) &&& (3 : Int64))) else v6') → ∀ f7 : Nat → Int64, f7 = (if (7 : Int32) < nn then (upd f6 7 (v6' + (((dl.toUInt64 >>> ((12 : Int32) &&& 0x3f).toInt64.toUInt64).toInt64) &&& (3 : Int64)))) else f6) → ∀ (T22 : State) (L22 : List Loc) (h22 : Heap), Stand p l e room_1 s m #[(.long base), (.long dl), (.int sz), (.int pp)] below meth c T22 L22 1 8 → T22.heap = h22 → Fr n0 L22 → n0 ≤ h22.size → AJ Z h22 b1 nN f7 → Goes p e below (Kend s below (Q0 base dl sz pp Z h0 n0) room_1.cells room_1.slots) (T22.setTop (mkF m 216 #[.val (.long base), .second, .val (.long dl), .second, .val (.int sz), .val (.int pp), .val (.int nn), .val (.int pr), .val (.ref b1), .val (.long v7'), .second, .unset, .unset, .unset, .unset, .unset, .unset, .unset, .unset] [])) by
    refine g_icmp_le X19 hx hby at_193 216 196 (by decide) (by decide) rfl (fun c23 => ?_) (fun c23 => ?_)
    · -- c23
      refine g_lload X19 hx hby at_196 rfl 198 rfl ?_
      refine g_lloadN X19 hx hby at_198 rfl 199 rfl ?_
      refine g_bipush X19 hx hby at_199 (12 : Int32) rfl 201 rfl ?_
      refine g_lushr X19 hx hby at_201 202 rfl ?_
      refine g_ldc2 X19 hx hby hZ hown (hw _ (List.mem_of_getElem? (i := 27) rfl)) at_202 205 rfl ?_
      refine g_land X19 hx hby at_205 206 rfl ?_
      refine g_ladd X19 hx hby at_206 207 rfl ?_
      refine g_lstore X19 hx hby at_207 (v6' + (((dl.toUInt64 >>> ((12 : Int32) &&& 0x3f).toInt64.toUInt64).toInt64) &&& (3 : Int64))) rfl #[.val (.long base), .second, .val (.long dl), .second, .val (.int sz), .val (.int pp), .val (.int nn), .val (.int pr), .val (.ref b1), .val (.long (v6' + (((dl.toUInt64 >>> ((12 : Int32) &&& 0x3f).toInt64.toUInt64).toInt64) &&& (3 : Int64)))), .second, .unset, .unset, .unset, .unset, .unset, .unset, .unset, .unset] rfl 209 rfl ?_
      refine g_aload X19 hx hby at_209 rfl rfl 211 rfl ?_
      refine g_bipush X19 hx hby at_211 (7 : Int32) rfl 213 rfl ?_
      refine g_lload X19 hx hby at_213 rfl 215 rfl ?_
      refine g_lastore X19 hx hby hZ e19 V20_19 at_215 (by decide) 7 rfl (own_gt hN (m := 7) rfl c23) 216 rfl ?_
      intro T24 h24 X24 e24 W24 V24
      have N24 := Fr.snoc X24 N19 gn_b1
      have Z24 : n0 ≤ h24.size := Nat.le_trans Z19 (Keep.of_wr W24).1
      exact J22 _ (if_pos c23).symm _ (if_pos c23).symm _ _ _ X24 e24 N24 Z24 V24
    · -- not c23
      exact J22 _ (if_neg c23).symm _ (if_neg c23).symm _ _ _ X19 e19 N19 Z19 V20_19
  intro v7' hv7' f7 hf7 T22 L22 h22 X22 e22 N22 Z22 V23_22
  have inv7 := own_inc (m := 6) hN (K := 7) rfl (by decide) (own_d _) inv6 hv7' hf7
  refine g_aload X22 hx hby at_216 rfl rfl 218 rfl ?_
  refine g_iload X22 hx hby at_218 rfl 220 rfl ?_
  refine g_callS X22 hx hby hZ hown (hw _ (List.mem_of_getElem? (i := 7) rfl)) (hw _ (List.mem_of_getElem? (i := 8) rfl)) (hw _ (List.mem_of_getElem? (i := 9) rfl)) (hw _ (List.mem_of_getElem? (i := 10) rfl)) at_220 [(.ref b1), (.int pr)] [] (rm2 l Z a0 hw [] b1 pr nN f7 h22 n0 Z22 V23_22 (own_hj hN1 hN8 hpr')) e22 rfl (by rw [hml]; rfl) pd2 rfl (by decide) 0 (Nat.le_of_eq rfl) (by decide) (by decide) (by decide) (by decide) 223 rfl ?_
  intro T25 v25 L25 X25 Q25
  obtain ⟨rfl, N25', e25⟩ := Q25
  have N25 := Fr.app N22 N25'
  show Goes p e below _ (T25.setTop (mkF m 223 _ [(.long (perc pr nN f7))]))
  obtain ⟨rv, hrv⟩ : ∃ z : Int64, (perc pr nN f7) = z := ⟨_, rfl⟩
  refine g_lstore X25 hx hby at_223 rv hrv #[.val (.long base), .second, .val (.long dl), .second, .val (.int sz), .val (.int pp), .val (.int nn), .val (.int pr), .val (.ref b1), .val (.long v7'), .second, .val (.long rv), .second, .unset, .unset, .unset, .unset, .unset, .unset] rfl 225 rfl ?_
  refine g_iload X25 hx hby at_225 rfl 227 rfl ?_
  refine g_i2l X25 hx hby at_227 228 rfl ?_
  refine g_iload X25 hx hby at_228 rfl 230 rfl ?_
  refine g_i2l X25 hx hby at_230 231 rfl ?_
  refine g_lmul X25 hx hby at_231 232 rfl ?_
  obtain ⟨need, hneed⟩ : ∃ z : Int64, ((pr.toInt64) * (nn.toInt64)) = z := ⟨_, rfl⟩
  refine g_lstore X25 hx hby at_232 need hneed #[.val (.long base), .second, .val (.long dl), .second, .val (.int sz), .val (.int pp), .val (.int nn), .val (.int pr), .val (.ref b1), .val (.long v7'), .second, .val (.long rv), .second, .val (.long need), .second, .unset, .unset, .unset, .unset] rfl 234 rfl ?_
  refine g_aload X25 hx hby at_234 rfl rfl 236 rfl ?_
  refine g_lload X25 hx hby at_236 rfl 238 rfl ?_
  refine g_callS X25 hx hby hZ hown (hw _ (List.mem_of_getElem? (i := 13) rfl)) (hw _ (List.mem_of_getElem? (i := 14) rfl)) (hw _ (List.mem_of_getElem? (i := 15) rfl)) (hw _ (List.mem_of_getElem? (i := 16) rfl)) at_238 [(.ref b1), (.long rv)] [] (rm3 l Z a0 hw [] b1 rv nN f7 h22 n0 Z22 V23_22) e25 rfl (by rw [hml]; rfl) pd3 rfl (by decide) 0 (Nat.le_of_eq rfl) (by decide) (by decide) (by decide) (by decide) 241 rfl ?_
  intro T26 v26 L26 X26 Q26
  obtain ⟨rfl, N26', e26⟩ := Q26
  have N26 := Fr.app N25 N26'
  show Goes p e below _ (T26.setTop (mkF m 241 _ [(.int (cLE rv nN f7))]))
  refine g_i2l X26 hx hby at_241 242 rfl ?_
  refine g_ldc2 X26 hx hby hZ hown (hw _ (List.mem_of_getElem? (i := 20) rfl)) at_242 245 rfl ?_
  refine g_lmul X26 hx hby at_245 246 rfl ?_
  obtain ⟨atm, hatm⟩ : ∃ z : Int64, (((cLE rv nN f7).toInt64) * (100 : Int64)) = z := ⟨_, rfl⟩
  refine g_lstore X26 hx hby at_246 atm hatm #[.val (.long base), .second, .val (.long dl), .second, .val (.int sz), .val (.int pp), .val (.int nn), .val (.int pr), .val (.ref b1), .val (.long v7'), .second, .val (.long rv), .second, .val (.long need), .second, .val (.long atm), .second, .unset, .unset] rfl 248 rfl ?_
  refine g_aload X26 hx hby at_248 rfl rfl 250 rfl ?_
  refine g_lload X26 hx hby at_250 rfl 252 rfl ?_
  refine g_callS X26 hx hby hZ hown (hw _ (List.mem_of_getElem? (i := 21) rfl)) (hw _ (List.mem_of_getElem? (i := 22) rfl)) (hw _ (List.mem_of_getElem? (i := 15) rfl)) (hw _ (List.mem_of_getElem? (i := 23) rfl)) at_252 [(.ref b1), (.long rv)] [] (rm5 l Z a0 hw [] b1 rv nN f7 h22 n0 Z22 V23_22) e26 rfl (by rw [hml]; rfl) pd3 rfl (by decide) 0 (Nat.le_of_eq rfl) (by decide) (by decide) (by decide) (by decide) 255 rfl ?_
  intro T27 v27 L27 X27 Q27
  obtain ⟨rfl, N27', e27⟩ := Q27
  have N27 := Fr.app N26 N27'
  show Goes p e below _ (T27.setTop (mkF m 255 _ [(.int (cLT rv nN f7))]))
  refine g_i2l X27 hx hby at_255 256 rfl ?_
  refine g_ldc2 X27 hx hby hZ hown (hw _ (List.mem_of_getElem? (i := 20) rfl)) at_256 259 rfl ?_
  refine g_lmul X27 hx hby at_259 260 rfl ?_
  obtain ⟨blw, hblw⟩ : ∃ z : Int64, (((cLT rv nN f7).toInt64) * (100 : Int64)) = z := ⟨_, rfl⟩
  refine g_lstore X27 hx hby at_260 blw hblw #[.val (.long base), .second, .val (.long dl), .second, .val (.int sz), .val (.int pp), .val (.int nn), .val (.int pr), .val (.ref b1), .val (.long v7'), .second, .val (.long rv), .second, .val (.long need), .second, .val (.long atm), .second, .val (.long blw), .second] rfl 262 rfl ?_
  have hfin := own_fin hN hN1 hN8 hpr' inv7 hrv hneed hatm hblw
  refine g_lload X27 hx hby at_262 rfl 264 rfl ?_
  refine g_lload X27 hx hby at_264 rfl 266 rfl ?_
  refine g_lcmp_lt X27 hx hby at_266 at_267 282 270 rfl (by decide) (by decide) rfl (fun q => absurd q hfin.1) (fun _ => ?_)
  refine g_lload X27 hx hby at_270 rfl 272 rfl ?_
  refine g_lload X27 hx hby at_272 rfl 274 rfl ?_
  refine g_lcmp_ge X27 hx hby at_274 at_275 282 278 rfl (by decide) (by decide) rfl (fun _ => ?_) (fun q => absurd hfin.2 q)
  refine g_iconst X27 hx hby at_278 (1 : Int32) rfl 279 rfl ?_
  refine g_goto X27 hx hby at_279 283 (by decide) (by decide) ?_
  exact g_ireturn X27 hx hby hret hlk (Or.inr (Or.inl rfl)) (nar_bool (Or.inr rfl)) at_283 ⟨rfl, N27⟩ (by decide) (by decide)
set_option maxRecDepth 65536 in
set_option maxHeartbeats 40000000 in
theorem comes_1 {Post : Tables → Env → Array Value → State → Outcome → State → Prop} (hpost : ∀ tb e args s v u, (limb_1_1.after args s (.returned v) u = true ∧ limb_1_2.after args s (.returned v) u = true ∧ True) → FrameEnd s (.returned v) u (Jvm.fieldLocs frame_1_writes args s ++ Jvm.arrayLocs frame_1_arrays args s ++ Jvm.staticLocs frame_1_statics s) 16 128 → Post tb e args s (.returned v) u) :
    ArmFor flags0 classFile x code maxLocals ret World_1 tables_1 room_1 Calls_1 rest_1 Pre_1 Post := by
  intro l hfl _ _ p e ha hc hk s m args below hf hA hF happ hP
  obtain ⟨hcalls, hrest, hpre⟩ := hP
  obtain ⟨-, -, -, hnamed, -, -, -, hat⟩ := (Spec.applies_iff hf).mp happ
  obtain ⟨hg, hn⟩ := and_e (Cond.before_iff.mp (show (Jvm.Cond.and given_1 narrow_1).before args s = true from hpre))
  obtain ⟨q0, r0⟩ := and_e hg
  obtain ⟨q1, r1⟩ := and_e r0
  obtain ⟨q2, r2⟩ := and_e r1
  obtain ⟨q3, r3⟩ := and_e r2
  obtain ⟨w0, w1, w2, w3, rfl⟩ : ∃ w0 w1 w2 w3 : Value, args = #[w0, w1, w2, w3] := by
    have hs : args.size = 4 := by simpa [Cond.value, given_1] using q0
    obtain ⟨L⟩ := args
    match L, hs with
    | [w0, w1, w2, w3], _ => exact ⟨w0, w1, w2, w3, rfl⟩
  have hw := fun d (hd : d ∈ tables_1) => atoms_spec (ws := Jvm.Cond.code x code maxLocals ret :: tables_1) hat d (List.mem_cons_of_mem _ hd)
  obtain ⟨i0, ei0⟩ := isL_v q1
  obtain rfl : w0 = (.long i0) := Option.some.inj ei0
  obtain ⟨i1, ei1⟩ := isL_v q2
  obtain rfl : w1 = (.long i1) := Option.some.inj ei1
  obtain ⟨i2, ei2⟩ := is_v q3
  obtain rfl : w2 = (.int i2) := Option.some.inj ei2
  obtain ⟨i3, ei3⟩ := is_v r3
  obtain rfl : w3 = (.int i3) := Option.some.inj ei3
  obtain ⟨n, o, h1, h2, h3, _, L, rfl, ⟨rfl, N⟩, hq⟩ := rm0 l s _ hw tables_1 i0 i1 i2 i3 s.heap s.heap.size (Nat.le_refl _) p e ha hc hk s m _ below hf ((Spec.applies_iff_loose hf).mp happ).1 ⟨rfl, State.Warmed39.refl s, rfl⟩ trivial
  refine ⟨n, _, h1, h2, h3, hpost _ _ _ _ _ _ ⟨Cond.after_iff.mpr rfl, Cond.after_iff.mpr (eq_i res_at (Term.int_eval (1)) rfl), trivial⟩ ⟨hq.1, hq.2.1, (hq.2.2.sift fun y hy => Or.inr (N y hy)).mono (by decide) (by decide)⟩⟩
theorem main_1_1 : Claimed_1_1 := comes_1 fun _ _ _ _ _ _ h hF => ⟨h.1, hF⟩
theorem main_1_2 : Claimed_1_2 := comes_1 fun _ _ _ _ _ _ h hF => ⟨h.2.1, hF⟩
end Jvm.Pilot.@@N@@
namespace Jvm.Pilot.@@N@@
open Jvm Jvm.ClassFile Sem Op Lib Jvm.Free Jvm.Stand Jvm.Pilot.@@N@@.Jvm.D
/-! MADE BY PROGRAM (witnessworld.py) out of the Statement's table words and the real class files: 12 classes; the members and pool entries that the words name. The judged class is class 1, her method 5. -/
namespace start1
open Jvm.ClassFile
def u (s : String) : CpInfo := .utf8 (stringToUtf16 s)
/-- a pool by its gaps: so many unusable entries, then the entry; so many at the end -/
def gap : Nat → List CpInfo → List CpInfo
  | 0, r => r
  | n + 1, r => .unusable :: gap n r
def poolList (es : List (Nat × CpInfo)) (last : Nat) : List CpInfo := es.foldr (fun e r => gap e.1 (e.2 :: r)) (gap last [])
def pool (es : List (Nat × CpInfo)) (last : Nat) : Array CpInfo := ⟨poolList es last⟩
def fileOf (pool : Array CpInfo) (this : Nat) (attrs : Array Attribute := #[]) (ms : Array MethodInfo := #[]) (fl : Nat := 33) (sup : Nat := 0) (ifs : Array Nat := #[]) (fds : Array FieldInfo := #[]) : ClassFile where
  minorVersion := 0
  majorVersion := 65
  constantPool := pool
  accessFlags := fl
  thisClass := this
  superClass := sup
  interfaces := ifs
  fields := fds
  methods := ms
  attributes := attrs
def plain (name : String) (sup : Option ClassId) : Class where
  name := name
  kind := .ordinary
  loader := none
  accessFlags := 33
  super := sup
  interfaces := #[]
  cf := none
  fields := #[]
  methods := #[]
  instanceTypes := #[]
  staticTypes := #[]
  resolved := #[]
  callSites := []
  init := .initialized
  statics := none
  mirror := none

def pool0 : Array CpInfo := pool [(5, u "<init>"), (0, u "()V"), (1, .class_ 10), (1, u "java/lang/Object")] 113

def k0m0 : Method := { name := "<init>", desc := "()V", sig := { parameters := [], returnType := none }, accessFlags := 1, code := none }
/-- java/lang/Object -/
def k0 : Class := { plain "java/lang/Object" none with
  accessFlags := 33
  interfaces := #[]
  cf := some (fileOf pool0 8 #[] #[{ accessFlags := 1, nameIndex := 5, descriptorIndex := 6, attributes := #[] }] 33 0 #[] #[])
  fields := #[]
  methods := #[k0m0]
  instanceTypes := #[]
  staticTypes := #[]
  resolved := Array.replicate 124 none
  statics := none }

def pool1 : Array CpInfo := pool [(2, .class_ 4), (1, u "java/lang/Object"), (0, u "<init>"), (0, u "()V"), (0, .methodref 8 9), (0, .class_ 10), (0, .nameAndType 11 12), (0, u "com/example/postlatch/postlatch/BenchTallyPercentilePinLaw"), (0, u "le"), (0, u "([JIJ)I"), (0, .methodref 8 14), (0, .nameAndType 15 12), (0, u "lt"), (0, .integer 2147483647), (2, .long 9223372036854775775), (1, .methodref 22 23), (0, .class_ 24), (0, .nameAndType 25 26), (0, u "java/lang/Math"), (0, u "min"), (0, u "(JJ)J"), (0, .long 3), (1, .methodref 30 31), (0, .class_ 32), (0, .nameAndType 33 34), (0, u "com/example/postlatch/postlatch/BenchTally"), (0, u "percentile"), (0, u "([JI)J"), (0, .methodref 8 36), (0, .nameAndType 37 38), (0, u "countLE"), (0, u "([JJ)I"), (0, .long 100), (1, .methodref 8 42), (0, .nameAndType 43 38), (0, u "countLT"), (3, u "law"), (0, u "(JJII)Z")] 4

def k1m0 : Method := { name := "<init>", desc := "()V", sig := { parameters := [], returnType := none }, accessFlags := 2, code := none }
def k1c1 : Code := { maxStack := 4, maxLocals := 4, code := method_2_code, exceptionTable := #[], attributes := #[] }
def k1m1 : Method := { name := "le", desc := "([JIJ)I", sig := { parameters := [(.array .long), .int, .long], returnType := some .int }, accessFlags := 10, code := some k1c1 }
def k1c2 : Code := { maxStack := 4, maxLocals := 4, code := method_3_code, exceptionTable := #[], attributes := #[] }
def k1m2 : Method := { name := "lt", desc := "([JIJ)I", sig := { parameters := [(.array .long), .int, .long], returnType := some .int }, accessFlags := 10, code := some k1c2 }
def k1c3 : Code := { maxStack := 5, maxLocals := 3, code := method_4_code, exceptionTable := #[], attributes := #[] }
def k1m3 : Method := { name := "countLE", desc := "([JJ)I", sig := { parameters := [(.array .long), .long], returnType := some .int }, accessFlags := 10, code := some k1c3 }
def k1c4 : Code := { maxStack := 5, maxLocals := 3, code := method_5_code, exceptionTable := #[], attributes := #[] }
def k1m4 : Method := { name := "countLT", desc := "([JJ)I", sig := { parameters := [(.array .long), .long], returnType := some .int }, accessFlags := 10, code := some k1c4 }
def k1c5 : Code := { maxStack := 6, maxLocals := 19, code := code, exceptionTable := #[], attributes := #[] }
def k1m5 : Method := { name := "law", desc := "(JJII)Z", sig := { parameters := [.long, .long, .int, .int], returnType := some .boolean }, accessFlags := 9, code := some k1c5 }
/-- com/example/postlatch/postlatch/BenchTallyPercentilePinLaw -/
def k1 : Class := { plain "com/example/postlatch/postlatch/BenchTallyPercentilePinLaw" (some 0) with
  accessFlags := 49
  interfaces := #[]
  cf := some (fileOf pool1 8 #[] #[{ accessFlags := 2, nameIndex := 5, descriptorIndex := 6, attributes := #[] }, { accessFlags := 10, nameIndex := 11, descriptorIndex := 12, attributes := #[] }, { accessFlags := 10, nameIndex := 15, descriptorIndex := 12, attributes := #[] }, { accessFlags := 10, nameIndex := 37, descriptorIndex := 38, attributes := #[] }, { accessFlags := 10, nameIndex := 43, descriptorIndex := 38, attributes := #[] }, { accessFlags := 9, nameIndex := 47, descriptorIndex := 48, attributes := #[] }] 49 2 #[] #[])
  fields := #[]
  methods := #[k1m0, k1m1, k1m2, k1m3, k1m4, k1m5]
  instanceTypes := #[]
  staticTypes := #[]
  resolved := Array.replicate 53 none
  statics := none }

def pool2 : Array CpInfo := pool [(1, .class_ 2), (0, u "java/lang/Math"), (1, .class_ 6), (1, u "java/lang/Object"), (0, u "<init>"), (0, u "()V"), (89, .class_ 100), (1, u "java/lang/Math$RandomNumberGeneratorHolder"), (20, u "(JJ)J"), (50, u "negativeZeroFloatBits"), (0, u "J"), (2, u "negativeZeroDoubleBits"), (24, u "min"), (43, u "$assertionsDisabled"), (0, u "Z"), (91, u "twoToTheDoubleScaleDown"), (0, u "D"), (4, u "twoToTheDoubleScaleUp"), (9, u "E"), (3, u "PI"), (2, u "TAU"), (2, u "DEGREES_TO_RADIANS"), (0, u "RADIANS_TO_DEGREES")] 94

def k2m0 : Method := { name := "<init>", desc := "()V", sig := { parameters := [], returnType := none }, accessFlags := 2, code := none }
def k2c1 : Code := { maxStack := 4, maxLocals := 4, code := jdk_29_method_70_code, exceptionTable := #[], attributes := #[] }
def k2m1 : Method := { name := "min", desc := "(JJ)J", sig := { parameters := [.long, .long], returnType := some .long }, accessFlags := 9, code := some k2c1 }
/-- java/lang/Math -/
def k2 : Class := { plain "java/lang/Math" (some 0) with
  accessFlags := 49
  interfaces := #[]
  cf := some (fileOf pool2 1 #[.nestMembers #[98]] #[{ accessFlags := 2, nameIndex := 7, descriptorIndex := 8, attributes := #[] }, { accessFlags := 9, nameIndex := 201, descriptorIndex := 121, attributes := #[] }] 49 4 #[] #[{ accessFlags := 25, nameIndex := 354, descriptorIndex := 339, attributes := #[] }, { accessFlags := 25, nameIndex := 358, descriptorIndex := 339, attributes := #[] }, { accessFlags := 25, nameIndex := 361, descriptorIndex := 339, attributes := #[] }, { accessFlags := 26, nameIndex := 364, descriptorIndex := 339, attributes := #[] }, { accessFlags := 26, nameIndex := 365, descriptorIndex := 339, attributes := #[] }, { accessFlags := 26, nameIndex := 172, descriptorIndex := 173, attributes := #[] }, { accessFlags := 26, nameIndex := 176, descriptorIndex := 173, attributes := #[] }, { accessFlags := 8, nameIndex := 344, descriptorIndex := 339, attributes := #[] }, { accessFlags := 8, nameIndex := 338, descriptorIndex := 339, attributes := #[] }, { accessFlags := 4120, nameIndex := 245, descriptorIndex := 246, attributes := #[] }])
  fields := #[{ name := "E", type := .double, accessFlags := 25, slot := 0, constantValue := 0 }, { name := "PI", type := .double, accessFlags := 25, slot := 1, constantValue := 0 }, { name := "TAU", type := .double, accessFlags := 25, slot := 2, constantValue := 0 }, { name := "DEGREES_TO_RADIANS", type := .double, accessFlags := 26, slot := 3, constantValue := 0 }, { name := "RADIANS_TO_DEGREES", type := .double, accessFlags := 26, slot := 4, constantValue := 0 }, { name := "negativeZeroFloatBits", type := .long, accessFlags := 26, slot := 5, constantValue := 0 }, { name := "negativeZeroDoubleBits", type := .long, accessFlags := 26, slot := 6, constantValue := 0 }, { name := "twoToTheDoubleScaleUp", type := .double, accessFlags := 8, slot := 7, constantValue := 0 }, { name := "twoToTheDoubleScaleDown", type := .double, accessFlags := 8, slot := 8, constantValue := 0 }, { name := "$assertionsDisabled", type := .boolean, accessFlags := 4120, slot := 9, constantValue := 0 }]
  methods := #[k2m0, k2m1]
  instanceTypes := #[]
  staticTypes := #[.double, .double, .double, .double, .double, .long, .long, .double, .double, .boolean]
  resolved := Array.replicate 460 none
  statics := none }

def pool3 : Array CpInfo := pool [(2, .class_ 4), (1, u "java/lang/Object"), (6, .class_ 13), (1, u "com/example/postlatch/postlatch/BenchTally"), (0, u "messageById"), (0, u "Ljava/util/Map;"), (5, u "awaited"), (0, u "I"), (2, u "count"), (2, u "keyOf"), (0, u "Ljava/util/function/IntUnaryOperator;"), (2, u "sentAt"), (0, u "[J"), (2, u "receivedAt"), (2, u "arrival"), (0, u "[I"), (25, u "received"), (2, u "latestFirstReceipt"), (0, u "J"), (5, u "duplicates"), (56, .long 99), (1, .long 100), (23, u "percentile"), (0, u "([JI)J")] 2

def k3c0 : Code := { maxStack := 4, maxLocals := 4, code := prog_1_method_11_code, exceptionTable := #[], attributes := #[] }
def k3m0 : Method := { name := "percentile", desc := "([JI)J", sig := { parameters := [(.array .long), .int], returnType := some .long }, accessFlags := 8, code := some k3c0 }
/-- com/example/postlatch/postlatch/BenchTally -/
def k3 : Class := { plain "com/example/postlatch/postlatch/BenchTally" (some 0) with
  accessFlags := 48
  interfaces := #[]
  cf := some (fileOf pool3 11 #[] #[{ accessFlags := 8, nameIndex := 159, descriptorIndex := 160, attributes := #[] }] 48 2 #[] #[{ accessFlags := 18, nameIndex := 25, descriptorIndex := 22, attributes := #[] }, { accessFlags := 18, nameIndex := 28, descriptorIndex := 29, attributes := #[] }, { accessFlags := 18, nameIndex := 14, descriptorIndex := 15, attributes := #[] }, { accessFlags := 18, nameIndex := 32, descriptorIndex := 33, attributes := #[] }, { accessFlags := 18, nameIndex := 36, descriptorIndex := 33, attributes := #[] }, { accessFlags := 18, nameIndex := 39, descriptorIndex := 40, attributes := #[] }, { accessFlags := 2, nameIndex := 66, descriptorIndex := 22, attributes := #[] }, { accessFlags := 2, nameIndex := 76, descriptorIndex := 70, attributes := #[] }, { accessFlags := 2, nameIndex := 69, descriptorIndex := 70, attributes := #[] }, { accessFlags := 2, nameIndex := 21, descriptorIndex := 22, attributes := #[] }])
  fields := #[{ name := "count", type := .int, accessFlags := 18, slot := 0, constantValue := 0 }, { name := "keyOf", type := (.object "java/util/function/IntUnaryOperator"), accessFlags := 18, slot := 1, constantValue := 0 }, { name := "messageById", type := (.object "java/util/Map"), accessFlags := 18, slot := 2, constantValue := 0 }, { name := "sentAt", type := (.array .long), accessFlags := 18, slot := 3, constantValue := 0 }, { name := "receivedAt", type := (.array .long), accessFlags := 18, slot := 4, constantValue := 0 }, { name := "arrival", type := (.array .int), accessFlags := 18, slot := 5, constantValue := 0 }, { name := "received", type := .int, accessFlags := 2, slot := 6, constantValue := 0 }, { name := "duplicates", type := .long, accessFlags := 2, slot := 7, constantValue := 0 }, { name := "latestFirstReceipt", type := .long, accessFlags := 2, slot := 8, constantValue := 0 }, { name := "awaited", type := .int, accessFlags := 2, slot := 9, constantValue := 0 }]
  methods := #[k3m0]
  instanceTypes := #[.int, (.object "java/util/function/IntUnaryOperator"), (.object "java/util/Map"), (.array .long), (.array .long), (.array .int), .int, .long, .long, .int]
  staticTypes := #[]
  resolved := Array.replicate 163 none
  statics := none }

def pool4 : Array CpInfo := pool [(1, u "java/lang/Cloneable"), (0, .class_ 1), (0, u "java/lang/Object"), (0, .class_ 3)] 3

/-- java/lang/Cloneable -/
def k4 : Class := { plain "java/lang/Cloneable" (some 0) with
  accessFlags := 1537
  interfaces := #[]
  cf := some (fileOf pool4 2 #[] #[] 1537 4 #[] #[])
  fields := #[]
  methods := #[]
  instanceTypes := #[]
  staticTypes := #[]
  resolved := Array.replicate 8 none
  statics := none }

def pool5 : Array CpInfo := pool [(1, u "java/io/Serializable"), (0, .class_ 1), (0, u "java/lang/Object"), (0, .class_ 3)] 3

/-- java/io/Serializable -/
def k5 : Class := { plain "java/io/Serializable" (some 0) with
  accessFlags := 1537
  interfaces := #[]
  cf := some (fileOf pool5 2 #[] #[] 1537 4 #[] #[])
  fields := #[]
  methods := #[]
  instanceTypes := #[]
  staticTypes := #[]
  resolved := Array.replicate 8 none
  statics := none }

/-- the primitive byte -/
def k6 : Class := { plain "byte" none with kind := .primitive 'B', accessFlags := 0x411 }
/-- [B -/
def k7 : Class := { plain "[B" (some 0) with kind := .array 6 .byte, interfaces := #[4, 5], accessFlags := 1041 }

/-- the primitive int -/
def k8 : Class := { plain "int" none with kind := .primitive 'I', accessFlags := 0x411 }
/-- [I -/
def k9 : Class := { plain "[I" (some 0) with kind := .array 8 .int, interfaces := #[4, 5], accessFlags := 1041 }

/-- the primitive long -/
def k10 : Class := { plain "long" none with kind := .primitive 'J', accessFlags := 0x411 }
/-- [J -/
def k11 : Class := { plain "[J" (some 0) with kind := .array 10 .long, interfaces := #[4, 5], accessFlags := 1041 }

def heap : Heap := #[]
def classes : Array Class := #[k0, k1, k2, k3, k4, k5, k6, k7, k8, k9, k10, k11]
def interned : List (Array UInt16 × Addr) := []
def slotsUsed : Nat := 0
def theMethod : MethodId := ⟨1, 5⟩
def args0 : Array Value := #[.long 5, .long 5, .int 5, .int 5]
def aboutOver (below : List Frame) : State where
  vm := { classes := classes, interned := interned.toArray }
  heap := heap
  slotsUsed := slotsUsed
  threads := #[{ frames := .invoking theMethod args0 :: below }]
def below0 : List Frame := [.native { method := ⟨0, 0⟩, args := #[] }]
def about1 : State := aboutOver below0
def p0 : Program := .bare "" "" ""
def e0 : Env := launch0.env 0 0 0
theorem w_frames : about1.frames = Frame.invoking theMethod args0 :: below0 := rfl
set_option maxRecDepth 65536 in
theorem w_args : argsFit about1.vm theMethod args0 = true := by decide +kernel
set_option maxRecDepth 65536 in
theorem w_heap : heapFits about1 = true := by decide +kernel
set_option maxRecDepth 65536 in
theorem w_runnable : about1.curStatus? = some .runnable := by decide +kernel
set_option maxRecDepth 65536 in
theorem w_alone : about1.alone = true := by decide +kernel
set_option maxRecDepth 65536 in
theorem w_named : about1.methodNamed? x = some theMethod := by decide +kernel
set_option maxRecDepth 65536 in
theorem w_hears : about1.hears theMethod below0 = true := by decide +kernel
set_option maxRecDepth 65536 in
theorem w_ripe : about1.ripe theMethod args0 below0 = true := by decide +kernel
theorem w_running : about1.status = .running := rfl
set_option maxRecDepth 65536 in
theorem w_room : about1.hasRoom e0.platform room_1 = true :=
  launch0.hasRoom_least _ room_1 (by decide +kernel) (by decide +kernel) (by decide +kernel) (by decide +kernel) (by decide +kernel) (by decide +kernel)
theorem allAtoms_all (ts : List Jvm.Cond) (a : Array Jvm.Value) (st : Jvm.State) : (allAtoms ts).before a st = ts.all (fun c => c.before a st) := by
  induction ts with
  | nil => rfl
  | cons c t ih =>
    show (Jvm.Cond.and c (allAtoms t)).before a st = _
    rw [Jvm.Cond.before_and, ih, List.all_cons]
def words1 : List Jvm.Cond := Jvm.Cond.code x code maxLocals ret :: tables_1
/-- a 'code' word, met by the world's own term for the bytes: nothing is compared byte by byte -/
theorem code_word {y : MethodName} {bytes : ByteArray} {mx : Nat} {rt : Option FieldType} {a : Array Value} {s : State} {m : MethodId} {meth : Method} {c : Code} (h1 : s.methodNamed? y = some m) (h2 : s.vm.method? m = some meth) (h3 : meth.code = some c) (h4 : c.code = bytes)
    (h5 : (c.maxLocals == mx && c.exceptionTable.isEmpty && decide (c.maxStack ≤ mostOperands) && decide (meth.sig.returnType = rt) && !meth.locks && decide (parseMethodDescriptor y.desc = some meth.sig)) = true) : (Jvm.Cond.code y bytes mx rt).before a s = true := by
  simp only [Bool.and_eq_true, beq_iff_eq, Bool.not_eq_true', decide_eq_true_eq] at h5
  obtain ⟨⟨⟨⟨⟨g1, g2⟩, g3⟩, g4⟩, g5⟩, g6⟩ := h5
  simp [Cond.before, Cond.holds, Cond.value, h1, h2, h3, h4, g1, g2, g3, g4, g5, g6]
def isCode : Jvm.Cond → Bool
  | .code _ _ _ _ => true
  | _ => false
theorem all_split {L : List Jvm.Cond} {P : Jvm.Cond → Bool} (h1 : L.all (fun c => isCode c || P c) = true) (h2 : ∀ c ∈ L.filter isCode, P c = true) : L.all P = true := by
  refine List.all_eq_true.mpr fun c hc => ?_
  have h := List.all_eq_true.mp h1 c hc
  rcases Bool.eq_false_or_eq_true (isCode c) with hi | hi
  · exact h2 c (List.mem_filter.mpr ⟨hc, hi⟩)
  · simpa [hi] using h
set_option maxRecDepth 65536 in
theorem w_c0 : (Jvm.Cond.code x code maxLocals ret).before args0 about1 = true := code_word (m := ⟨1, 5⟩) (meth := k1m5) (c := k1c5) (by decide +kernel) rfl rfl rfl (by decide +kernel)
set_option maxRecDepth 65536 in
theorem w_c1 : (Jvm.Cond.code ({ cls := "java/lang/Math", name := "min", desc := "(JJ)J" } : Jvm.MethodName) jdk_29_method_70_code (4 : Nat) (Option.some Jvm.ClassFile.FieldType.long)).before args0 about1 = true := code_word (m := ⟨2, 1⟩) (meth := k2m1) (c := k2c1) (by decide +kernel) rfl rfl rfl (by decide +kernel)
set_option maxRecDepth 65536 in
theorem w_c2 : (Jvm.Cond.code ({ cls := "com/example/postlatch/postlatch/BenchTally", name := "percentile", desc := "([JI)J" } : Jvm.MethodName) prog_1_method_11_code (4 : Nat) (Option.some Jvm.ClassFile.FieldType.long)).before args0 about1 = true := code_word (m := ⟨3, 0⟩) (meth := k3m0) (c := k3c0) (by decide +kernel) rfl rfl rfl (by decide +kernel)
set_option maxRecDepth 65536 in
theorem w_c3 : (Jvm.Cond.code ({ cls := "com/example/postlatch/postlatch/BenchTallyPercentilePinLaw", name := "countLE", desc := "([JJ)I" } : Jvm.MethodName) method_4_code (3 : Nat) (Option.some Jvm.ClassFile.FieldType.int)).before args0 about1 = true := code_word (m := ⟨1, 3⟩) (meth := k1m3) (c := k1c3) (by decide +kernel) rfl rfl rfl (by decide +kernel)
set_option maxRecDepth 65536 in
theorem w_c4 : (Jvm.Cond.code ({ cls := "com/example/postlatch/postlatch/BenchTallyPercentilePinLaw", name := "le", desc := "([JIJ)I" } : Jvm.MethodName) method_2_code (4 : Nat) (Option.some Jvm.ClassFile.FieldType.int)).before args0 about1 = true := code_word (m := ⟨1, 1⟩) (meth := k1m1) (c := k1c1) (by decide +kernel) rfl rfl rfl (by decide +kernel)
set_option maxRecDepth 65536 in
theorem w_c5 : (Jvm.Cond.code ({ cls := "com/example/postlatch/postlatch/BenchTallyPercentilePinLaw", name := "countLT", desc := "([JJ)I" } : Jvm.MethodName) method_5_code (3 : Nat) (Option.some Jvm.ClassFile.FieldType.int)).before args0 about1 = true := code_word (m := ⟨1, 4⟩) (meth := k1m4) (c := k1c4) (by decide +kernel) rfl rfl rfl (by decide +kernel)
set_option maxRecDepth 65536 in
theorem w_c6 : (Jvm.Cond.code ({ cls := "com/example/postlatch/postlatch/BenchTallyPercentilePinLaw", name := "lt", desc := "([JIJ)I" } : Jvm.MethodName) method_3_code (4 : Nat) (Option.some Jvm.ClassFile.FieldType.int)).before args0 about1 = true := code_word (m := ⟨1, 2⟩) (meth := k1m2) (c := k1c2) (by decide +kernel) rfl rfl rfl (by decide +kernel)
def codes1 : List Jvm.Cond := [Jvm.Cond.code x code maxLocals ret, Jvm.Cond.code ({ cls := "java/lang/Math", name := "min", desc := "(JJ)J" } : Jvm.MethodName) jdk_29_method_70_code (4 : Nat) (Option.some Jvm.ClassFile.FieldType.long), Jvm.Cond.code ({ cls := "com/example/postlatch/postlatch/BenchTally", name := "percentile", desc := "([JI)J" } : Jvm.MethodName) prog_1_method_11_code (4 : Nat) (Option.some Jvm.ClassFile.FieldType.long), Jvm.Cond.code ({ cls := "com/example/postlatch/postlatch/BenchTallyPercentilePinLaw", name := "countLE", desc := "([JJ)I" } : Jvm.MethodName) method_4_code (3 : Nat) (Option.some Jvm.ClassFile.FieldType.int), Jvm.Cond.code ({ cls := "com/example/postlatch/postlatch/BenchTallyPercentilePinLaw", name := "le", desc := "([JIJ)I" } : Jvm.MethodName) method_2_code (4 : Nat) (Option.some Jvm.ClassFile.FieldType.int), Jvm.Cond.code ({ cls := "com/example/postlatch/postlatch/BenchTallyPercentilePinLaw", name := "countLT", desc := "([JJ)I" } : Jvm.MethodName) method_5_code (3 : Nat) (Option.some Jvm.ClassFile.FieldType.int), Jvm.Cond.code ({ cls := "com/example/postlatch/postlatch/BenchTallyPercentilePinLaw", name := "lt", desc := "([JIJ)I" } : Jvm.MethodName) method_3_code (4 : Nat) (Option.some Jvm.ClassFile.FieldType.int)]
set_option maxRecDepth 65536 in
theorem codes_eq : words1.filter isCode = codes1 := rfl
theorem w_codes : ∀ c ∈ words1.filter isCode, c.before args0 about1 = true := by
  rw [codes_eq]
  intro c hc
  simp only [codes1, List.mem_cons, List.not_mem_nil, or_false] at hc
  rcases hc with rfl | rfl | rfl | rfl | rfl | rfl | rfl
  · exact w_c0
  · exact w_c1
  · exact w_c2
  · exact w_c3
  · exact w_c4
  · exact w_c5
  · exact w_c6
set_option maxRecDepth 65536 in
theorem w_t1 : (words1.take 24).all (fun c => isCode c || c.before args0 about1) = true := by decide +kernel
set_option maxRecDepth 65536 in
theorem w_t2 : (words1.drop 24).all (fun c => isCode c || c.before args0 about1) = true := by decide +kernel
theorem w_tables : (allAtoms (Jvm.Cond.code x code maxLocals ret :: tables_1)).before args0 about1 = true := by
  rw [allAtoms_all]
  show words1.all (fun c => c.before args0 about1) = true
  refine all_split ?_ w_codes
  rw [← List.take_append_drop 24 words1, List.all_append, w_t1, w_t2]
  rfl
set_option maxRecDepth 65536 in
theorem w_case : (Jvm.Cond.and given_1 narrow_1).before args0 about1 = true := by decide +kernel
theorem w_applies : (headSpec (Jvm.Cond.code x code maxLocals ret :: tables_1) room_1).applies x e0.platform about1 = true :=
  (Spec.applies_iff w_frames).mpr ⟨w_running, w_runnable, w_alone, w_named, w_hears, w_ripe, w_room, w_tables⟩
theorem atStart : AtStart classFile x code maxLocals ret World_1 tables_1 room_1 Calls_1 rest_1 Pre_1 launch0 p0 e0 about1 theMethod args0 below0 :=
  ⟨lists_1, trivial, launch0.admits_env _ _ _, launch0.least_env, fairChoices_fair.cas, fairChoices_fair.clock, w_frames, w_args, w_heap, w_applies, trivial, trivial, w_case⟩
end start1
theorem witness_1 : WitnessClaimed_1 := ⟨start1.p0, start1.e0, start1.about1, start1.theMethod, start1.args0, start1.below0, start1.atStart⟩
end Jvm.Pilot.@@N@@
