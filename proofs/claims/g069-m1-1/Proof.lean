import JvmDerived
import JvmDerived.Pilot.@@N@@Statement
import JvmDerived.Pilot.@@N@@Code
set_option linter.unusedVariables false
set_option linter.unusedSimpArgs false
@@BLOCK:NumsL.lean.txt@@
namespace Jvm.RoadKit
open Sem ClassFile Op Lib Jvm.Stand Jvm.Free Jvm.LawKit
section New
variable {p : Program} {l : Launch} {e : Env} {R : Room} {s : State} {m : MethodId} {args : Array Value} {below : List Frame} {meth : Method} {c : Code} {T : State} {locs : List Loc} {cells slots : Nat}
theorem retI (X : Stand p l e R s m args below meth c T locs cells slots) (hx : p.tables.exec = Jvm.exec) {pc : Nat} {Ls : Array Slot} {z : Int32} {rest : List Value} (hret : meth.sig.returnType = some .int) (hd : decode c.code pc = .ok (.ireturn, 1)) {fs : List Frame}
    (hl : ∀ (f : JFrame) (acts : List Action), f.method = m → f.locked = none → f.entered = [] → (doReturn e (T.setTop f) acts (some (.int z))).1 = T.setFrames fs) : Steps p.tables e below (T.setTop (mkF m pc Ls (.int z :: rest))) (T.setFrames fs) := by
  have hm' : T.vm.method? m = some meth := X.method'
  have hn : narrow .int (.int z) = .int z := rfl
  show Steps p.tables e below (T.setTop { method := m, pc := pc, locals := Ls, stack := _ :: rest, locked := none }) _
  jvm_step X.here [X.here.top, hx, hd, hm', hret, hn]
  first | (intro acts; rw [hl _ acts rfl rfl rfl]) | rw [hl _ _ rfl rfl rfl]
  exact Steps.refl _
end New
end Jvm.RoadKit
namespace Jvm.Pilot.@@N@@
open Jvm Jvm.ClassFile Sem Op Lib Jvm.Free Jvm.Stand Jvm.LawKit Jvm.RoadKit Bundle Jvm.Pilot.@@N@@.Jvm.D
section OwnBase
variable {p : Program} {l : Launch} {e : Env} {R : Room} {s : State} {m : MethodId} {args : Array Value} {below : List Frame} {meth : Method} {c : Code} {T : State} {h : Heap} {locs : List Loc} {cells slots : Nat} {Z : State} {a0 : Array Value} {own nm : String} {bytes : ByteArray} {mx : Nat} {rt : Option FieldType} {K : State → Outcome → Prop} {pc pc' : Nat} {Ls : Array Slot} {rest : List Value}
/-- the run from S comes to an end that is as K says -/
def own_Go (p : Program) (e : Env) (below : List Frame) (K : State → Outcome → Prop) (S : State) : Prop :=
  ∃ t o, Steps p.tables e below S t ∧ t.status = .running ∧ Ended t below o ∧ K t o
def own_K (s : State) (Q : Option Value → Heap → List Loc → Prop) (kc ks : Nat) (t : State) (o : Outcome) : Prop :=
  ∃ v L, o = .returned v ∧ Q v t.heap L ∧ FrameEnd s o t L kc ks
/-- the walk stands: all that a step asks, in one word -/
def own_S (Z : State) (own nm : String) (bytes : ByteArray) (mx : Nat) (rt : Option FieldType) (p : Program) (l : Launch) (e : Env) (R : Room) (s : State) (m : MethodId) (args : Array Value) (below : List Frame) (meth : Method) (c : Code) (T : State) (h : Heap) (locs : List Loc) (cells slots : Nat) : Prop :=
  Stand p l e R s m args below meth c T locs cells slots ∧ p.tables.exec = Jvm.exec ∧ c.code = bytes ∧ c.maxLocals = mx ∧ s.vm.findClass own = some m.cls ∧ Z.Warmed39 s.vm ∧ meth.sig.returnType = rt ∧ meth.locks = false ∧ T.heap = h ∧ meth.name = nm
theorem own_S.st (P : own_S Z own nm bytes mx rt p l e R s m args below meth c T h locs cells slots) : Stand p l e R s m args below meth c T locs cells slots := P.1
theorem own_S.ex (P : own_S Z own nm bytes mx rt p l e R s m args below meth c T h locs cells slots) : p.tables.exec = Jvm.exec := P.2.1
theorem own_S.cd (P : own_S Z own nm bytes mx rt p l e R s m args below meth c T h locs cells slots) {pc : Nat} {r : Except ClassFile.DecodeError (ClassFile.Instr × Nat)} (hd : decode bytes pc = r) : decode c.code pc = r := hb P.2.2.1 hd
theorem own_S.ml (P : own_S Z own nm bytes mx rt p l e R s m args below meth c T h locs cells slots) : c.maxLocals = mx := P.2.2.2.1
theorem own_S.ow (P : own_S Z own nm bytes mx rt p l e R s m args below meth c T h locs cells slots) : s.vm.findClass own = some m.cls := P.2.2.2.2.1
theorem own_S.wz (P : own_S Z own nm bytes mx rt p l e R s m args below meth c T h locs cells slots) : Z.Warmed39 s.vm := P.2.2.2.2.2.1
theorem own_S.rty (P : own_S Z own nm bytes mx rt p l e R s m args below meth c T h locs cells slots) : meth.sig.returnType = rt := P.2.2.2.2.2.2.1
theorem own_S.lk (P : own_S Z own nm bytes mx rt p l e R s m args below meth c T h locs cells slots) : meth.locks = false := P.2.2.2.2.2.2.2.1
theorem own_S.hp (P : own_S Z own nm bytes mx rt p l e R s m args below meth c T h locs cells slots) : T.heap = h := P.2.2.2.2.2.2.2.2.1
theorem own_S.nmm (P : own_S Z own nm bytes mx rt p l e R s m args below meth c T h locs cells slots) : meth.name = nm := P.2.2.2.2.2.2.2.2.2
theorem own_S.move (P : own_S Z own nm bytes mx rt p l e R s m args below meth c T h locs cells slots) {T' : State} {h' : Heap} {locs' : List Loc} {cells' slots' : Nat} (X : Stand p l e R s m args below meth c T' locs' cells' slots') (eh : T'.heap = h') : own_S Z own nm bytes mx rt p l e R s m args below meth c T' h' locs' cells' slots' :=
  ⟨X, P.2.1, P.2.2.1, P.2.2.2.1, P.2.2.2.2.1, P.2.2.2.2.2.1, P.2.2.2.2.2.2.1, P.2.2.2.2.2.2.2.1, eh, P.2.2.2.2.2.2.2.2.2⟩
theorem own_st {S S' : State} (h : ∀ t, Steps p.tables e below S' t → Steps p.tables e below S t) (k : own_Go p e below K S') : own_Go p e below K S := by
  obtain ⟨t, o, h1, h2⟩ := k
  exact ⟨t, o, h t h1, h2⟩

theorem own_iadd (P : own_S Z own nm bytes mx rt p l e R s m args below meth c T h locs cells slots) {x y : Int32} (hd : decode bytes pc = .ok (.iadd, 1)) (hp : pc + 1 = pc')
    (k : own_Go p e below K (T.setTop (mkF m pc' Ls (.int (x + y) :: rest)))) : own_Go p e below K (T.setTop (mkF m pc Ls (.int y :: .int x :: rest))) := by
  subst hp
  exact own_st (fun t k => XS.iadd P.st.here P.ex rfl (P.cd hd) rfl k) k
theorem own_isub (P : own_S Z own nm bytes mx rt p l e R s m args below meth c T h locs cells slots) {x y : Int32} (hd : decode bytes pc = .ok (.isub, 1)) (hp : pc + 1 = pc')
    (k : own_Go p e below K (T.setTop (mkF m pc' Ls (.int (x - y) :: rest)))) : own_Go p e below K (T.setTop (mkF m pc Ls (.int y :: .int x :: rest))) := by
  subst hp
  exact own_st (fun t k => XS.isub P.st.here P.ex rfl (P.cd hd) rfl k) k
theorem own_imul (P : own_S Z own nm bytes mx rt p l e R s m args below meth c T h locs cells slots) {x y : Int32} (hd : decode bytes pc = .ok (.imul, 1)) (hp : pc + 1 = pc')
    (k : own_Go p e below K (T.setTop (mkF m pc' Ls (.int (x * y) :: rest)))) : own_Go p e below K (T.setTop (mkF m pc Ls (.int y :: .int x :: rest))) := by
  subst hp
  exact own_st (fun t k => XS.imul P.st.here P.ex rfl (P.cd hd) rfl k) k
theorem own_iand (P : own_S Z own nm bytes mx rt p l e R s m args below meth c T h locs cells slots) {x y : Int32} (hd : decode bytes pc = .ok (.iand, 1)) (hp : pc + 1 = pc')
    (k : own_Go p e below K (T.setTop (mkF m pc' Ls (.int (x &&& y) :: rest)))) : own_Go p e below K (T.setTop (mkF m pc Ls (.int y :: .int x :: rest))) := by
  subst hp
  exact own_st (fun t k => XS.iand P.st.here P.ex rfl (P.cd hd) rfl k) k
theorem own_ior (P : own_S Z own nm bytes mx rt p l e R s m args below meth c T h locs cells slots) {x y : Int32} (hd : decode bytes pc = .ok (.ior, 1)) (hp : pc + 1 = pc')
    (k : own_Go p e below K (T.setTop (mkF m pc' Ls (.int (x ||| y) :: rest)))) : own_Go p e below K (T.setTop (mkF m pc Ls (.int y :: .int x :: rest))) := by
  subst hp
  exact own_st (fun t k => XS.ior P.st.here P.ex rfl (P.cd hd) rfl k) k
theorem own_ixor (P : own_S Z own nm bytes mx rt p l e R s m args below meth c T h locs cells slots) {x y : Int32} (hd : decode bytes pc = .ok (.ixor, 1)) (hp : pc + 1 = pc')
    (k : own_Go p e below K (T.setTop (mkF m pc' Ls (.int (x ^^^ y) :: rest)))) : own_Go p e below K (T.setTop (mkF m pc Ls (.int y :: .int x :: rest))) := by
  subst hp
  exact own_st (fun t k => XS.ixor P.st.here P.ex rfl (P.cd hd) rfl k) k
theorem own_idiv (P : own_S Z own nm bytes mx rt p l e R s m args below meth c T h locs cells slots) {x y : Int32} (hd : decode bytes pc = .ok (.idiv, 1)) (hp : pc + 1 = pc') (hy : y ≠ 0)
    (k : own_Go p e below K (T.setTop (mkF m pc' Ls (.int (x / y) :: rest)))) : own_Go p e below K (T.setTop (mkF m pc Ls (.int y :: .int x :: rest))) := by
  subst hp
  exact own_st (fun t k => XS.idiv P.st.here P.ex rfl (P.cd hd) rfl hy k) k
theorem own_irem (P : own_S Z own nm bytes mx rt p l e R s m args below meth c T h locs cells slots) {x y : Int32} (hd : decode bytes pc = .ok (.irem, 1)) (hp : pc + 1 = pc') (hy : y ≠ 0)
    (k : own_Go p e below K (T.setTop (mkF m pc' Ls (.int (x - (x / y) * y) :: rest)))) : own_Go p e below K (T.setTop (mkF m pc Ls (.int y :: .int x :: rest))) := by
  subst hp
  exact own_st (fun t k => XS.irem P.st.here P.ex rfl (P.cd hd) rfl hy k) k
theorem own_ladd (P : own_S Z own nm bytes mx rt p l e R s m args below meth c T h locs cells slots) {x y : Int64} (hd : decode bytes pc = .ok (.ladd, 1)) (hp : pc + 1 = pc')
    (k : own_Go p e below K (T.setTop (mkF m pc' Ls (.long (x + y) :: rest)))) : own_Go p e below K (T.setTop (mkF m pc Ls (.long y :: .long x :: rest))) := by
  subst hp
  exact own_st (fun t k => XS.ladd P.st.here P.ex rfl (P.cd hd) rfl k) k
theorem own_lsub (P : own_S Z own nm bytes mx rt p l e R s m args below meth c T h locs cells slots) {x y : Int64} (hd : decode bytes pc = .ok (.lsub, 1)) (hp : pc + 1 = pc')
    (k : own_Go p e below K (T.setTop (mkF m pc' Ls (.long (x - y) :: rest)))) : own_Go p e below K (T.setTop (mkF m pc Ls (.long y :: .long x :: rest))) := by
  subst hp
  exact own_st (fun t k => XS.lsub P.st.here P.ex rfl (P.cd hd) rfl k) k
theorem own_lmul (P : own_S Z own nm bytes mx rt p l e R s m args below meth c T h locs cells slots) {x y : Int64} (hd : decode bytes pc = .ok (.lmul, 1)) (hp : pc + 1 = pc')
    (k : own_Go p e below K (T.setTop (mkF m pc' Ls (.long (x * y) :: rest)))) : own_Go p e below K (T.setTop (mkF m pc Ls (.long y :: .long x :: rest))) := by
  subst hp
  exact own_st (fun t k => XS.lmul P.st.here P.ex rfl (P.cd hd) rfl k) k
theorem own_land (P : own_S Z own nm bytes mx rt p l e R s m args below meth c T h locs cells slots) {x y : Int64} (hd : decode bytes pc = .ok (.land, 1)) (hp : pc + 1 = pc')
    (k : own_Go p e below K (T.setTop (mkF m pc' Ls (.long (x &&& y) :: rest)))) : own_Go p e below K (T.setTop (mkF m pc Ls (.long y :: .long x :: rest))) := by
  subst hp
  exact own_st (fun t k => XS.land P.st.here P.ex rfl (P.cd hd) rfl k) k
theorem own_lor (P : own_S Z own nm bytes mx rt p l e R s m args below meth c T h locs cells slots) {x y : Int64} (hd : decode bytes pc = .ok (.lor, 1)) (hp : pc + 1 = pc')
    (k : own_Go p e below K (T.setTop (mkF m pc' Ls (.long (x ||| y) :: rest)))) : own_Go p e below K (T.setTop (mkF m pc Ls (.long y :: .long x :: rest))) := by
  subst hp
  exact own_st (fun t k => XS.lor P.st.here P.ex rfl (P.cd hd) rfl k) k
theorem own_lxor (P : own_S Z own nm bytes mx rt p l e R s m args below meth c T h locs cells slots) {x y : Int64} (hd : decode bytes pc = .ok (.lxor, 1)) (hp : pc + 1 = pc')
    (k : own_Go p e below K (T.setTop (mkF m pc' Ls (.long (x ^^^ y) :: rest)))) : own_Go p e below K (T.setTop (mkF m pc Ls (.long y :: .long x :: rest))) := by
  subst hp
  exact own_st (fun t k => XS.lxor P.st.here P.ex rfl (P.cd hd) rfl k) k
theorem own_ldiv (P : own_S Z own nm bytes mx rt p l e R s m args below meth c T h locs cells slots) {x y : Int64} (hd : decode bytes pc = .ok (.ldiv, 1)) (hp : pc + 1 = pc') (hy : y ≠ 0)
    (k : own_Go p e below K (T.setTop (mkF m pc' Ls (.long (x / y) :: rest)))) : own_Go p e below K (T.setTop (mkF m pc Ls (.long y :: .long x :: rest))) := by
  subst hp
  exact own_st (fun t k => XS.ldiv P.st.here P.ex rfl (P.cd hd) rfl hy k) k
theorem own_lrem (P : own_S Z own nm bytes mx rt p l e R s m args below meth c T h locs cells slots) {x y : Int64} (hd : decode bytes pc = .ok (.lrem, 1)) (hp : pc + 1 = pc') (hy : y ≠ 0)
    (k : own_Go p e below K (T.setTop (mkF m pc' Ls (.long (x - (x / y) * y) :: rest)))) : own_Go p e below K (T.setTop (mkF m pc Ls (.long y :: .long x :: rest))) := by
  subst hp
  exact own_st (fun t k => XS.lrem P.st.here P.ex rfl (P.cd hd) rfl hy k) k
theorem own_ishl (P : own_S Z own nm bytes mx rt p l e R s m args below meth c T h locs cells slots) {x y : Int32} (hd : decode bytes pc = .ok (.ishl, 1)) (hp : pc + 1 = pc')
    (k : own_Go p e below K (T.setTop (mkF m pc' Ls (.int (x <<< (y &&& 31)) :: rest)))) : own_Go p e below K (T.setTop (mkF m pc Ls (.int y :: .int x :: rest))) := by
  subst hp
  exact own_st (fun t k => XS.ishl P.st.here P.ex rfl (P.cd hd) rfl k) k
theorem own_ishr (P : own_S Z own nm bytes mx rt p l e R s m args below meth c T h locs cells slots) {x y : Int32} (hd : decode bytes pc = .ok (.ishr, 1)) (hp : pc + 1 = pc')
    (k : own_Go p e below K (T.setTop (mkF m pc' Ls (.int (x >>> (y &&& 31)) :: rest)))) : own_Go p e below K (T.setTop (mkF m pc Ls (.int y :: .int x :: rest))) := by
  subst hp
  exact own_st (fun t k => XS.ishr P.st.here P.ex rfl (P.cd hd) rfl k) k
theorem own_iushr (P : own_S Z own nm bytes mx rt p l e R s m args below meth c T h locs cells slots) {x y : Int32} (hd : decode bytes pc = .ok (.iushr, 1)) (hp : pc + 1 = pc')
    (k : own_Go p e below K (T.setTop (mkF m pc' Ls (.int ((x.toUInt32 >>> (y &&& 31).toUInt32).toInt32) :: rest)))) : own_Go p e below K (T.setTop (mkF m pc Ls (.int y :: .int x :: rest))) := by
  subst hp
  exact own_st (fun t k => XS.iushr P.st.here P.ex rfl (P.cd hd) rfl k) k
theorem own_lshl (P : own_S Z own nm bytes mx rt p l e R s m args below meth c T h locs cells slots) {x : Int64} {y : Int32} (hd : decode bytes pc = .ok (.lshl, 1)) (hp : pc + 1 = pc')
    (k : own_Go p e below K (T.setTop (mkF m pc' Ls (.long (x <<< (y &&& 0x3f).toInt64) :: rest)))) : own_Go p e below K (T.setTop (mkF m pc Ls (.int y :: .long x :: rest))) := by
  subst hp
  exact own_st (fun t k => XS.lshl P.st.here P.ex rfl (P.cd hd) rfl k) k
theorem own_lshr (P : own_S Z own nm bytes mx rt p l e R s m args below meth c T h locs cells slots) {x : Int64} {y : Int32} (hd : decode bytes pc = .ok (.lshr, 1)) (hp : pc + 1 = pc')
    (k : own_Go p e below K (T.setTop (mkF m pc' Ls (.long (x >>> (y &&& 0x3f).toInt64) :: rest)))) : own_Go p e below K (T.setTop (mkF m pc Ls (.int y :: .long x :: rest))) := by
  subst hp
  exact own_st (fun t k => XS.lshr P.st.here P.ex rfl (P.cd hd) rfl k) k
theorem own_lushr (P : own_S Z own nm bytes mx rt p l e R s m args below meth c T h locs cells slots) {x : Int64} {y : Int32} (hd : decode bytes pc = .ok (.lushr, 1)) (hp : pc + 1 = pc')
    (k : own_Go p e below K (T.setTop (mkF m pc' Ls (.long ((x.toUInt64 >>> (y &&& 0x3f).toInt64.toUInt64).toInt64) :: rest)))) : own_Go p e below K (T.setTop (mkF m pc Ls (.int y :: .long x :: rest))) := by
  subst hp
  exact own_st (fun t k => XS.lushr P.st.here P.ex rfl (P.cd hd) rfl k) k
theorem own_i2l (P : own_S Z own nm bytes mx rt p l e R s m args below meth c T h locs cells slots) {x : Int32} (hd : decode bytes pc = .ok (.i2l, 1)) (hp : pc + 1 = pc')
    (k : own_Go p e below K (T.setTop (mkF m pc' Ls (.long (x.toInt64) :: rest)))) : own_Go p e below K (T.setTop (mkF m pc Ls (.int x :: rest))) := by
  subst hp
  exact own_st (fun t k => XS.i2l P.st.here P.ex rfl (P.cd hd) rfl k) k
theorem own_l2i (P : own_S Z own nm bytes mx rt p l e R s m args below meth c T h locs cells slots) {x : Int64} (hd : decode bytes pc = .ok (.l2i, 1)) (hp : pc + 1 = pc')
    (k : own_Go p e below K (T.setTop (mkF m pc' Ls (.int (x.toInt32) :: rest)))) : own_Go p e below K (T.setTop (mkF m pc Ls (.long x :: rest))) := by
  subst hp
  exact own_st (fun t k => XS.l2i P.st.here P.ex rfl (P.cd hd) rfl k) k
theorem own_i2b (P : own_S Z own nm bytes mx rt p l e R s m args below meth c T h locs cells slots) {x : Int32} (hd : decode bytes pc = .ok (.i2b, 1)) (hp : pc + 1 = pc')
    (k : own_Go p e below K (T.setTop (mkF m pc' Ls (.int (x.toInt8.toInt32) :: rest)))) : own_Go p e below K (T.setTop (mkF m pc Ls (.int x :: rest))) := by
  subst hp
  exact own_st (fun t k => XS.i2b P.st.here P.ex rfl (P.cd hd) rfl k) k
theorem own_i2c (P : own_S Z own nm bytes mx rt p l e R s m args below meth c T h locs cells slots) {x : Int32} (hd : decode bytes pc = .ok (.i2c, 1)) (hp : pc + 1 = pc')
    (k : own_Go p e below K (T.setTop (mkF m pc' Ls (.int (x.toUInt32.toUInt16.toUInt32.toInt32) :: rest)))) : own_Go p e below K (T.setTop (mkF m pc Ls (.int x :: rest))) := by
  subst hp
  exact own_st (fun t k => XS.i2c P.st.here P.ex rfl (P.cd hd) rfl k) k
theorem own_i2s (P : own_S Z own nm bytes mx rt p l e R s m args below meth c T h locs cells slots) {x : Int32} (hd : decode bytes pc = .ok (.i2s, 1)) (hp : pc + 1 = pc')
    (k : own_Go p e below K (T.setTop (mkF m pc' Ls (.int (x.toInt16.toInt32) :: rest)))) : own_Go p e below K (T.setTop (mkF m pc Ls (.int x :: rest))) := by
  subst hp
  exact own_st (fun t k => XS.i2s P.st.here P.ex rfl (P.cd hd) rfl k) k
theorem own_lneg (P : own_S Z own nm bytes mx rt p l e R s m args below meth c T h locs cells slots) {x : Int64} (hd : decode bytes pc = .ok (.lneg, 1)) (hp : pc + 1 = pc')
    (k : own_Go p e below K (T.setTop (mkF m pc' Ls (.long (-x) :: rest)))) : own_Go p e below K (T.setTop (mkF m pc Ls (.long x :: rest))) := by
  subst hp
  exact own_st (fun t k => XS.lneg P.st.here P.ex rfl (P.cd hd) rfl k) k
theorem own_ineg (P : own_S Z own nm bytes mx rt p l e R s m args below meth c T h locs cells slots) {x : Int32} (hd : decode bytes pc = .ok (.ineg, 1)) (hp : pc + 1 = pc')
    (k : own_Go p e below K (T.setTop (mkF m pc' Ls (.int (-x) :: rest)))) : own_Go p e below K (T.setTop (mkF m pc Ls (.int x :: rest))) := by
  subst hp
  exact own_st (fun t k => XS.ineg P.st.here P.ex rfl (P.cd hd) rfl k) k
theorem own_iloadN (P : own_S Z own nm bytes mx rt p l e R s m args below meth c T h locs cells slots) {j : Fin 4} {v : Int32} (hd : decode bytes pc = .ok (.iload_n j, 1)) (hp : pc + 1 = pc') (hl : Ls[j.val]? = some (.val (.int v)))
    (k : own_Go p e below K (T.setTop (mkF m pc' Ls (.int v :: rest)))) : own_Go p e below K (T.setTop (mkF m pc Ls rest)) := by
  subst hp
  exact own_st (fun t k => XS.iloadN P.st.here P.ex rfl (P.cd hd) hl k) k
theorem own_iload (P : own_S Z own nm bytes mx rt p l e R s m args below meth c T h locs cells slots) {j : Nat} {v : Int32} (hd : decode bytes pc = .ok (.iload j, 2)) (hp : pc + 2 = pc') (hl : Ls[j]? = some (.val (.int v)))
    (k : own_Go p e below K (T.setTop (mkF m pc' Ls (.int v :: rest)))) : own_Go p e below K (T.setTop (mkF m pc Ls rest)) := by
  subst hp
  exact own_st (fun t k => XS.iload P.st.here P.ex rfl (P.cd hd) hl k) k
theorem own_lloadN (P : own_S Z own nm bytes mx rt p l e R s m args below meth c T h locs cells slots) {j : Fin 4} {v : Int64} (hd : decode bytes pc = .ok (.lload_n j, 1)) (hp : pc + 1 = pc') (hl : Ls[j.val]? = some (.val (.long v)))
    (k : own_Go p e below K (T.setTop (mkF m pc' Ls (.long v :: rest)))) : own_Go p e below K (T.setTop (mkF m pc Ls rest)) := by
  subst hp
  exact own_st (fun t k => XS.lloadN P.st.here P.ex rfl (P.cd hd) hl k) k
theorem own_lload (P : own_S Z own nm bytes mx rt p l e R s m args below meth c T h locs cells slots) {j : Nat} {v : Int64} (hd : decode bytes pc = .ok (.lload j, 2)) (hp : pc + 2 = pc') (hl : Ls[j]? = some (.val (.long v)))
    (k : own_Go p e below K (T.setTop (mkF m pc' Ls (.long v :: rest)))) : own_Go p e below K (T.setTop (mkF m pc Ls rest)) := by
  subst hp
  exact own_st (fun t k => XS.lload P.st.here P.ex rfl (P.cd hd) hl k) k
theorem own_aloadN (P : own_S Z own nm bytes mx rt p l e R s m args below meth c T h locs cells slots) {j : Fin 4} {v : Value} (hd : decode bytes pc = .ok (.aload_n j, 1)) (hp : pc + 1 = pc') (hl : Ls[j.val]? = some (.val v)) (hv : v.isRef = true)
    (k : own_Go p e below K (T.setTop (mkF m pc' Ls (v :: rest)))) : own_Go p e below K (T.setTop (mkF m pc Ls rest)) := by
  subst hp
  exact own_st (fun t k => XS.aloadN P.st.here P.ex rfl (P.cd hd) hl hv k) k
theorem own_aload (P : own_S Z own nm bytes mx rt p l e R s m args below meth c T h locs cells slots) {j : Nat} {v : Value} (hd : decode bytes pc = .ok (.aload j, 2)) (hp : pc + 2 = pc') (hl : Ls[j]? = some (.val v)) (hv : v.isRef = true)
    (k : own_Go p e below K (T.setTop (mkF m pc' Ls (v :: rest)))) : own_Go p e below K (T.setTop (mkF m pc Ls rest)) := by
  subst hp
  exact own_st (fun t k => XS.aload P.st.here P.ex rfl (P.cd hd) hl hv k) k
theorem own_istoreN (P : own_S Z own nm bytes mx rt p l e R s m args below meth c T h locs cells slots) {j : Fin 4} {v : Int32} {Ls' : Array Slot} (hd : decode bytes pc = .ok (.istore_n j, 1)) (hp : pc + 1 = pc') (hl : storeLocals Ls j.val (.int v) = some Ls')
    (k : own_Go p e below K (T.setTop (mkF m pc' Ls' rest))) : own_Go p e below K (T.setTop (mkF m pc Ls (.int v :: rest))) := by
  subst hp
  exact own_st (fun t k => XS.istoreN P.st.here P.ex rfl (P.cd hd) rfl hl k) k
theorem own_istore (P : own_S Z own nm bytes mx rt p l e R s m args below meth c T h locs cells slots) {j : Nat} {v : Int32} {Ls' : Array Slot} (hd : decode bytes pc = .ok (.istore j, 2)) (hp : pc + 2 = pc') (hl : storeLocals Ls j (.int v) = some Ls')
    (k : own_Go p e below K (T.setTop (mkF m pc' Ls' rest))) : own_Go p e below K (T.setTop (mkF m pc Ls (.int v :: rest))) := by
  subst hp
  exact own_st (fun t k => XS.istore P.st.here P.ex rfl (P.cd hd) rfl hl k) k
theorem own_lstoreN (P : own_S Z own nm bytes mx rt p l e R s m args below meth c T h locs cells slots) {j : Fin 4} {v : Int64} {Ls' : Array Slot} (hd : decode bytes pc = .ok (.lstore_n j, 1)) (hp : pc + 1 = pc') (hl : storeLocals Ls j.val (.long v) = some Ls')
    (k : own_Go p e below K (T.setTop (mkF m pc' Ls' rest))) : own_Go p e below K (T.setTop (mkF m pc Ls (.long v :: rest))) := by
  subst hp
  exact own_st (fun t k => XS.lstoreN P.st.here P.ex rfl (P.cd hd) rfl hl k) k
theorem own_lstore (P : own_S Z own nm bytes mx rt p l e R s m args below meth c T h locs cells slots) {j : Nat} {v : Int64} {Ls' : Array Slot} (hd : decode bytes pc = .ok (.lstore j, 2)) (hp : pc + 2 = pc') (hl : storeLocals Ls j (.long v) = some Ls')
    (k : own_Go p e below K (T.setTop (mkF m pc' Ls' rest))) : own_Go p e below K (T.setTop (mkF m pc Ls (.long v :: rest))) := by
  subst hp
  exact own_st (fun t k => XS.lstore P.st.here P.ex rfl (P.cd hd) rfl hl k) k
theorem own_astoreN (P : own_S Z own nm bytes mx rt p l e R s m args below meth c T h locs cells slots) {j : Fin 4} {v : Value} {Ls' : Array Slot} (hd : decode bytes pc = .ok (.astore_n j, 1)) (hp : pc + 1 = pc') (hv : v.isRef = true) (hl : storeLocals Ls j.val v = some Ls')
    (k : own_Go p e below K (T.setTop (mkF m pc' Ls' rest))) : own_Go p e below K (T.setTop (mkF m pc Ls (v :: rest))) := by
  subst hp
  exact own_st (fun t k => XS.astoreN P.st.here P.ex rfl (P.cd hd) rfl hv hl k) k
theorem own_astore (P : own_S Z own nm bytes mx rt p l e R s m args below meth c T h locs cells slots) {j : Nat} {v : Value} {Ls' : Array Slot} (hd : decode bytes pc = .ok (.astore j, 2)) (hp : pc + 2 = pc') (hv : v.isRef = true) (hl : storeLocals Ls j v = some Ls')
    (k : own_Go p e below K (T.setTop (mkF m pc' Ls' rest))) : own_Go p e below K (T.setTop (mkF m pc Ls (v :: rest))) := by
  subst hp
  exact own_st (fun t k => XS.astore P.st.here P.ex rfl (P.cd hd) rfl hv hl k) k
theorem own_iconst (P : own_S Z own nm bytes mx rt p l e R s m args below meth c T h locs cells slots) {i : Int} {v : Int32} (hd : decode bytes pc = .ok (.iconst i, 1)) (hp : pc + 1 = pc') (hv : Int32.ofInt i = v)
    (k : own_Go p e below K (T.setTop (mkF m pc' Ls (.int v :: rest)))) : own_Go p e below K (T.setTop (mkF m pc Ls rest)) := by
  subst hp
  exact own_st (fun t k => XS.iconst P.st.here P.ex rfl (P.cd hd) (by rw [hv]; exact k)) k
theorem own_bipush (P : own_S Z own nm bytes mx rt p l e R s m args below meth c T h locs cells slots) {i : Int} {v : Int32} (hd : decode bytes pc = .ok (.bipush i, 2)) (hp : pc + 2 = pc') (hv : (Int8.ofInt i).toInt32 = v)
    (k : own_Go p e below K (T.setTop (mkF m pc' Ls (.int v :: rest)))) : own_Go p e below K (T.setTop (mkF m pc Ls rest)) := by
  subst hp
  exact own_st (fun t k => XS.bipush P.st.here P.ex rfl (P.cd hd) (by rw [hv]; exact k)) k
theorem own_sipush (P : own_S Z own nm bytes mx rt p l e R s m args below meth c T h locs cells slots) {i : Int} {v : Int32} (hd : decode bytes pc = .ok (.sipush i, 3)) (hp : pc + 3 = pc') (hv : (Int16.ofInt i).toInt32 = v)
    (k : own_Go p e below K (T.setTop (mkF m pc' Ls (.int v :: rest)))) : own_Go p e below K (T.setTop (mkF m pc Ls rest)) := by
  subst hp
  exact own_st (fun t k => XS.sipush P.st.here P.ex rfl (P.cd hd) (by rw [hv]; exact k)) k
theorem own_lconst (P : own_S Z own nm bytes mx rt p l e R s m args below meth c T h locs cells slots) {j : Fin 2} {v : Int64} (hd : decode bytes pc = .ok (.lconst j, 1)) (hp : pc + 1 = pc') (hv : Int64.ofNat j = v)
    (k : own_Go p e below K (T.setTop (mkF m pc' Ls (.long v :: rest)))) : own_Go p e below K (T.setTop (mkF m pc Ls rest)) := by
  subst hp
  exact own_st (fun t k => XS.lconst P.st.here P.ex rfl (P.cd hd) (by rw [hv]; exact k)) k
theorem own_aconstNull (P : own_S Z own nm bytes mx rt p l e R s m args below meth c T h locs cells slots)  (hd : decode bytes pc = .ok (.aconst_null, 1)) (hp : pc + 1 = pc')
    (k : own_Go p e below K (T.setTop (mkF m pc' Ls (.null :: rest)))) : own_Go p e below K (T.setTop (mkF m pc Ls rest)) := by
  subst hp
  exact own_st (fun t k => XS.aconstNull P.st.here P.ex rfl (P.cd hd) k) k
theorem own_iinc (P : own_S Z own nm bytes mx rt p l e R s m args below meth c T h locs cells slots) {j : Nat} {i : Int} {x v : Int32} {Ls' : Array Slot} (hd : decode bytes pc = .ok (.iinc j i, 3)) (hp : pc + 3 = pc') (hl : Ls[j]? = some (.val (.int x))) (hv : Int32.ofInt i = v) (hl' : storeLocals Ls j (.int (x + v)) = some Ls')
    (k : own_Go p e below K (T.setTop (mkF m pc' Ls' rest))) : own_Go p e below K (T.setTop (mkF m pc Ls rest)) := by
  subst hp
  exact own_st (fun t k => XS.iinc P.st.here P.ex rfl (P.cd hd) hl (by rw [hv]; exact hl') k) k
theorem own_dup (P : own_S Z own nm bytes mx rt p l e R s m args below meth c T h locs cells slots) {v : Value} (hd : decode bytes pc = .ok (.dup, 1)) (hp : pc + 1 = pc') (hc : v.category = 1)
    (k : own_Go p e below K (T.setTop (mkF m pc' Ls (v :: v :: rest)))) : own_Go p e below K (T.setTop (mkF m pc Ls (v :: rest))) := by
  subst hp
  exact own_st (fun t k => XS.dup P.st.here P.ex rfl (P.cd hd) rfl hc k) k
theorem own_dupX1 (P : own_S Z own nm bytes mx rt p l e R s m args below meth c T h locs cells slots) {v u : Value} (hd : decode bytes pc = .ok (.dup_x1, 1)) (hp : pc + 1 = pc') (hc : v.category = 1) (hc' : u.category = 1)
    (k : own_Go p e below K (T.setTop (mkF m pc' Ls (v :: u :: v :: rest)))) : own_Go p e below K (T.setTop (mkF m pc Ls (v :: u :: rest))) := by
  subst hp
  exact own_st (fun t k => XS.dupX1 P.st.here P.ex rfl (P.cd hd) rfl hc hc' k) k
theorem own_pop (P : own_S Z own nm bytes mx rt p l e R s m args below meth c T h locs cells slots) {v : Value} (hd : decode bytes pc = .ok (.pop, 1)) (hp : pc + 1 = pc') (hc : v.category = 1)
    (k : own_Go p e below K (T.setTop (mkF m pc' Ls rest))) : own_Go p e below K (T.setTop (mkF m pc Ls (v :: rest))) := by
  subst hp
  exact own_st (fun t k => XS.pop P.st.here P.ex rfl (P.cd hd) rfl hc k) k
theorem own_goto (P : own_S Z own nm bytes mx rt p l e R s m args below meth c T h locs cells slots) {o : Int} (hd : decode bytes pc = .ok (.goto o, 3)) (ho : 0 ≤ (pc : Int) + o) (hp : ((pc : Int) + o).toNat = pc')
    (k : own_Go p e below K (T.setTop (mkF m pc' Ls rest))) : own_Go p e below K (T.setTop (mkF m pc Ls rest)) := own_st (fun t k => XS.goto P.st.here P.ex rfl rfl (P.cd hd) ho hp k) k
/-- what a branch asks of two ints, of two longs -/
def own_ci (cd : ClassFile.Cond) (x y : Int32) : Prop := match cd with | .eq => x = y | .ne => ¬ x = y | .lt => x < y | .ge => ¬ x < y | .gt => y < x | .le => ¬ y < x
def own_cl (cd : ClassFile.Cond) (x y : Int64) : Prop := match cd with | .eq => x = y | .ne => ¬ x = y | .lt => x < y | .ge => ¬ x < y | .gt => y < x | .le => ¬ y < x
theorem own_ciY {cd : ClassFile.Cond} {x y : Int32} (q : own_ci cd x y) : if_icmp.holds cd x y = true := by
  cases cd
  · exact (teq q).1
  · exact (feq q).2
  · exact (tlt q).1
  · exact (flt q).2.1
  · exact (tlt q).2.2.1
  · exact (flt q).2.2.2
theorem own_ciN {cd : ClassFile.Cond} {x y : Int32} (q : ¬ own_ci cd x y) : if_icmp.holds cd x y = false := by
  cases cd
  · exact (feq q).1
  · exact (teq (Classical.not_not.mp q)).2
  · exact (flt q).1
  · exact (tlt (Classical.not_not.mp q)).2.1
  · exact (flt q).2.2.1
  · exact (tlt (Classical.not_not.mp q)).2.2.2
theorem own_clY {cd : ClassFile.Cond} {x y : Int64} (q : own_cl cd x y) : own_ci cd (lcmpW x y) 0 := by
  rw [lcW]
  cases cd
  · exact (lc_eq x y).mpr q
  · exact fun r => q ((lc_eq x y).mp r)
  · exact (lc_lt x y).mpr q
  · exact fun r => q ((lc_lt x y).mp r)
  · exact (lc_gt x y).mpr q
  · exact fun r => q ((lc_gt x y).mp r)
theorem own_clN {cd : ClassFile.Cond} {x y : Int64} (q : ¬ own_cl cd x y) : ¬ own_ci cd (lcmpW x y) 0 := by
  rw [lcW]
  cases cd
  · exact fun r => q ((lc_eq x y).mp r)
  · exact fun r => q fun z => r ((lc_eq x y).mpr z)
  · exact fun r => q ((lc_lt x y).mp r)
  · exact fun r => q fun z => r ((lc_lt x y).mpr z)
  · exact fun r => q ((lc_gt x y).mp r)
  · exact fun r => q fun z => r ((lc_gt x y).mpr z)
theorem own_icmpY (P : own_S Z own nm bytes mx rt p l e R s m args below meth c T h locs cells slots) {cd : ClassFile.Cond} {o : Int} {x y : Int32} (hd : decode bytes pc = .ok (.if_icmp cd o, 3)) (q : own_ci cd x y) (ho : 0 ≤ (pc : Int) + o) (hp : ((pc : Int) + o).toNat = pc')
    (k : own_Go p e below K (T.setTop (mkF m pc' Ls rest))) : own_Go p e below K (T.setTop (mkF m pc Ls (.int y :: .int x :: rest))) := own_st (fun t k => XS.icmpYes P.st.here P.ex rfl rfl (P.cd hd) rfl (own_ciY q) ho hp k) k
theorem own_icmpN (P : own_S Z own nm bytes mx rt p l e R s m args below meth c T h locs cells slots) {cd : ClassFile.Cond} {o : Int} {x y : Int32} (hd : decode bytes pc = .ok (.if_icmp cd o, 3)) (q : ¬ own_ci cd x y) (hp : pc + 3 = pc')
    (k : own_Go p e below K (T.setTop (mkF m pc' Ls rest))) : own_Go p e below K (T.setTop (mkF m pc Ls (.int y :: .int x :: rest))) := by
  subst hp
  exact own_st (fun t k => XS.icmpNo P.st.here P.ex rfl (P.cd hd) rfl (own_ciN q) k) k
theorem own_if0Y (P : own_S Z own nm bytes mx rt p l e R s m args below meth c T h locs cells slots) {cd : ClassFile.Cond} {o : Int} {x : Int32} (hd : decode bytes pc = .ok (.ifCond cd o, 3)) (q : own_ci cd x 0) (ho : 0 ≤ (pc : Int) + o) (hp : ((pc : Int) + o).toNat = pc')
    (k : own_Go p e below K (T.setTop (mkF m pc' Ls rest))) : own_Go p e below K (T.setTop (mkF m pc Ls (.int x :: rest))) := own_st (fun t k => XS.ifYes P.st.here P.ex rfl rfl (P.cd hd) rfl ((if0 _ _).trans (own_ciY q)) ho hp k) k
theorem own_if0N (P : own_S Z own nm bytes mx rt p l e R s m args below meth c T h locs cells slots) {cd : ClassFile.Cond} {o : Int} {x : Int32} (hd : decode bytes pc = .ok (.ifCond cd o, 3)) (q : ¬ own_ci cd x 0) (hp : pc + 3 = pc')
    (k : own_Go p e below K (T.setTop (mkF m pc' Ls rest))) : own_Go p e below K (T.setTop (mkF m pc Ls (.int x :: rest))) := by
  subst hp
  exact own_st (fun t k => XS.ifNo P.st.here P.ex rfl (P.cd hd) rfl ((if0 _ _).trans (own_ciN q)) k) k
theorem own_lcmp (P : own_S Z own nm bytes mx rt p l e R s m args below meth c T h locs cells slots) {x y : Int64} (hd : decode bytes pc = .ok (.lcmp, 1)) (hp : pc + 1 = pc')
    (k : own_Go p e below K (T.setTop (mkF m pc' Ls (.int (lcmpW x y) :: rest)))) : own_Go p e below K (T.setTop (mkF m pc Ls (.long y :: .long x :: rest))) := by
  subst hp
  exact own_st (fun t k => XS.lcmp P.st.here P.ex rfl (P.cd hd) rfl k) k
theorem own_lcY (P : own_S Z own nm bytes mx rt p l e R s m args below meth c T h locs cells slots) {cd : ClassFile.Cond} {o : Int} {x y : Int64} (hd : decode bytes pc = .ok (.lcmp, 1)) (hd2 : decode bytes (pc + 1) = .ok (.ifCond cd o, 3)) (q : own_cl cd x y) (ho : 0 ≤ ((pc + 1 : Nat) : Int) + o) (hp : (((pc + 1 : Nat) : Int) + o).toNat = pc')
    (k : own_Go p e below K (T.setTop (mkF m pc' Ls rest))) : own_Go p e below K (T.setTop (mkF m pc Ls (.long y :: .long x :: rest))) :=
  own_lcmp P hd rfl (own_if0Y P hd2 (own_clY q) ho hp k)
theorem own_lcN (P : own_S Z own nm bytes mx rt p l e R s m args below meth c T h locs cells slots) {cd : ClassFile.Cond} {o : Int} {x y : Int64} (hd : decode bytes pc = .ok (.lcmp, 1)) (hd2 : decode bytes (pc + 1) = .ok (.ifCond cd o, 3)) (q : ¬ own_cl cd x y) (hp : pc + 1 + 3 = pc')
    (k : own_Go p e below K (T.setTop (mkF m pc' Ls rest))) : own_Go p e below K (T.setTop (mkF m pc Ls (.long y :: .long x :: rest))) :=
  own_lcmp P hd rfl (own_if0N P hd2 (own_clN q) hp k)

theorem own_ldc (P : own_S Z own nm bytes mx rt p l e R s m args below meth c T h locs cells slots) {idx : Nat} {v : Int32} (wc : (Cond.constant own idx v).before a0 Z = true) (hd : decode bytes pc = .ok (.ldc idx, 2)) (hp : pc + 2 = pc')
    (k : own_Go p e below K (T.setTop (mkF m pc' Ls (.int v :: rest)))) : own_Go p e below K (T.setTop (mkF m pc Ls rest)) := by
  subst hp
  exact own_st (fun t k => P.st.ldcInt P.ex P.ow (mvT P.wz wc) (g := mkF m pc Ls rest) rfl (P.cd hd) t k) k
theorem own_ldcw (P : own_S Z own nm bytes mx rt p l e R s m args below meth c T h locs cells slots) {idx : Nat} {v : Int32} (wc : (Cond.constant own idx v).before a0 Z = true) (hd : decode bytes pc = .ok (.ldc_w idx, 3)) (hp : pc + 3 = pc')
    (k : own_Go p e below K (T.setTop (mkF m pc' Ls (.int v :: rest)))) : own_Go p e below K (T.setTop (mkF m pc Ls rest)) := by
  subst hp
  exact own_st (fun t k => P.st.ldcwInt P.ex P.ow (mvT P.wz wc) (g := mkF m pc Ls rest) rfl (P.cd hd) t k) k
theorem own_ldc2 (P : own_S Z own nm bytes mx rt p l e R s m args below meth c T h locs cells slots) {idx : Nat} {v : Int64} (wc : (Cond.constantLong own idx v).before a0 Z = true) (hd : decode bytes pc = .ok (.ldc2_w idx, 3)) (hp : pc + 3 = pc')
    (k : own_Go p e below K (T.setTop (mkF m pc' Ls (.long v :: rest)))) : own_Go p e below K (T.setTop (mkF m pc Ls rest)) := by
  subst hp
  exact own_st (fun t k => P.st.ldc2Long P.ex P.ow (mvT P.wz wc) (g := mkF m pc Ls rest) rfl (P.cd hd) t k) k

theorem own_retL {Q : Option Value → Heap → List Loc → Prop} {kc ks : Nat} (P : own_S Z own nm bytes mx (some .long) p l e R s m args below meth c T h locs cells slots) {v : Int64} (hd : decode bytes pc = .ok (.lreturn, 1)) (hc : cells ≤ kc) (hs : slots ≤ ks) (hq : Q (some (.long v)) h locs) :
    own_Go p e below (own_K s Q kc ks) (T.setTop (mkF m pc Ls [(.long v)])) := by
  obtain ⟨X, hx, hby, hml, hown, hZ, hr0, hlk, hh, -⟩ := P
  obtain ⟨fs, hr, hrun, hended, hW, hsame⟩ := X.leave (v := some (.long v)) (fun h => by rw [hr0] at h; cases h) hlk
  refine ⟨_, _, X.lreturnOut hx hr0 (hb hby hd) hr, hrun, hended, _, _, rfl, ?_, ⟨_, rfl⟩, hW, hsame.mono hc hs⟩
  rw [← hh] at hq
  exact hq
theorem own_retI {Q : Option Value → Heap → List Loc → Prop} {kc ks : Nat} (P : own_S Z own nm bytes mx (some .int) p l e R s m args below meth c T h locs cells slots) {v : Int32} (hd : decode bytes pc = .ok (.ireturn, 1)) (hc : cells ≤ kc) (hs : slots ≤ ks) (hq : Q (some (.int v)) h locs) :
    own_Go p e below (own_K s Q kc ks) (T.setTop (mkF m pc Ls [(.int v)])) := by
  obtain ⟨X, hx, hby, hml, hown, hZ, hr0, hlk, hh, -⟩ := P
  obtain ⟨fs, hr, hrun, hended, hW, hsame⟩ := X.leave (v := some (.int v)) (fun h => by rw [hr0] at h; cases h) hlk
  refine ⟨_, _, retI X hx hr0 (hb hby hd) hr, hrun, hended, _, _, rfl, ?_, ⟨_, rfl⟩, hW, hsame.mono hc hs⟩
  rw [← hh] at hq
  exact hq
theorem own_retZ {Q : Option Value → Heap → List Loc → Prop} {kc ks : Nat} (P : own_S Z own nm bytes mx (some .boolean) p l e R s m args below meth c T h locs cells slots) {v z : Int32} (hd : decode bytes pc = .ok (.ireturn, 1)) (hz : nar .boolean v = z) (hc : cells ≤ kc) (hs : slots ≤ ks) (hq : Q (some (.int z)) h locs) :
    own_Go p e below (own_K s Q kc ks) (T.setTop (mkF m pc Ls [(.int v)])) := by
  obtain ⟨X, hx, hby, hml, hown, hZ, hr0, hlk, hh, -⟩ := P
  obtain ⟨fs, hr, hrun, hended, hW, hsame⟩ := X.leave (v := some (.int z)) (fun h => by rw [hr0] at h; cases h) hlk
  refine ⟨_, _, retN X hx (t := .boolean) hr0 (by simp) (hb hby hd) (by rw [hz]; exact hr), hrun, hended, _, _, rfl, ?_, ⟨_, rfl⟩, hW, hsame.mono hc hs⟩
  rw [← hh] at hq
  exact hq
theorem own_retV {Q : Option Value → Heap → List Loc → Prop} {kc ks : Nat} (P : own_S Z own nm bytes mx none p l e R s m args below meth c T h locs cells slots) (hd : decode bytes pc = .ok (.return_, 1)) (hc : cells ≤ kc) (hs : slots ≤ ks) (hq : Q none h locs) :
    own_Go p e below (own_K s Q kc ks) (T.setTop (mkF m pc Ls [])) := by
  obtain ⟨X, hx, hby, hml, hown, hZ, hr0, hlk, hh, -⟩ := P
  obtain ⟨fs, hr, hrun, hended, hW, hsame⟩ := X.leave (v := none) (fun _ => rfl) hlk
  refine ⟨_, _, X.returnOut hx hr0 (hb hby hd) hr, hrun, hended, _, _, rfl, ?_, ⟨_, rfl⟩, hW, hsame.mono hc hs⟩
  rw [← hh] at hq
  exact hq
/-- a method's contract: from these arguments and this heap it returns as Q says -/
def own_Con (l : Launch) (Z : State) (y : MethodName) (bytes : ByteArray) (mx : Nat) (rt : Option FieldType) (ws : List Jvm.Cond) (rm : Room) (as' : Array Value) (h : Heap) (Q : Option Value → Heap → List Loc → Prop) : Prop :=
  MetFree l y (head1 (Jvm.Cond.code y bytes mx rt :: ws) rm) (fun a U => a = as' ∧ Z.Warmed39 U.vm ∧ U.heap = h) (fun _ _ _ _ _ => True) (fun _ U o U' => ∃ v L, o = .returned v ∧ Q v U'.heap L ∧ FrameEnd U o U' L rm.cells rm.slots)
/-- it returned v, wrote nothing and made nothing -/
def own_P (v : Option Value) (h : Heap) (v' : Option Value) (h' : Heap) (L : List Loc) : Prop := v' = v ∧ L = [] ∧ h' = h
theorem own_enter {y : MethodName} {ws : List Jvm.Cond} {rm : Room} {as' : Array Value} {Q : Option Value → Heap → List Loc → Prop} (hpl : plainFor y = true) (Ls : Array Slot) (hef : ∀ m, entryFrame m as' mx = mkF m 0 Ls [])
    (body : ∀ (p : Program) (e : Env) (s : State) (m : MethodId) (below : List Frame) (meth : Method) (c : Code) (T : State), own_S Z y.cls y.name bytes mx rt p l e rm s m as' below meth c T h [] 0 0 → own_Go p e below (own_K s Q rm.cells rm.slots) (T.setTop (mkF m 0 Ls []))) :
    own_Con l Z y bytes mx rt ws rm as' h Q := by
  refine MetFree.of_bodySF hpl hisR ?_
  intro p e s m args below meth c s₁ Bd hml0 hP hK
  obtain ⟨rfl, hZ, hh⟩ := hP
  have e0 : s₁.heap = h := by rw [← hh, Bd.state]; rfl
  obtain ⟨t, o, h1, h2, h3, v, L, ho, hq, hf⟩ := body p e s m below meth c s₁ ⟨Stand.of_body Bd, Bd.exec, Bd.bytes, hml0, findClass_of_methodNamed Bd.named, hZ, Bd.returns, BodyLoose.notSynchronized Bd, e0, (name_of_methodNamed Bd.named Bd.method).1⟩
  exact ⟨t, o, castTop (hef m) h1, h2, h3, v, L, ho, hq, hf⟩
theorem own_callQ (P : own_S Z own nm bytes mx rt p l e R s m args below meth c T h locs cells slots) {idx : Nat} {y : MethodName} {by' : ByteArray} {mx' : Nat} {rt' : Option FieldType} {rm : Room} {Q : Option Value → Heap → List Loc → Prop} {argsL st : List Value} {ps : List FieldType} {rr : Option FieldType}
    (wl : (Cond.methodLink own idx y).before a0 Z = true) (wt : (Cond.static y).before a0 Z = true) (wi : (Cond.initialized y.cls).before a0 Z = true) (wc : (Cond.code y by' mx' rt').before a0 Z = true) (hy : y.cls ≠ "java/lang/invoke/MethodHandle" ∧ y.cls ≠ "java/lang/invoke/VarHandle")
    (hM : own_Con l Z y by' mx' rt' [] rm argsL.toArray h Q) (hd : decode bytes pc = .ok (.invokestatic idx, 3)) (hp : pc + 3 = pc') (hdes : parseMethodDescriptor y.desc = some ⟨ps, rr⟩) (hlen : argsL.length = ps.length) (hsz : Ls.size = mx) (hst : st = argsL.reverse ++ rest)
    (hf : rm.frames + 1 ≤ R.frames) (W : Nat) (hW : (rest.map fun v => v.category).sum = W) (hl : W + (mx' + 11) + rm.locals ≤ R.locals) (hc : cells + rm.cells ≤ R.cells) (hs : slots + rm.slots ≤ R.slots)
    (k : ∀ T' h' v L, Q v h' L → own_S Z own nm bytes mx rt p l e R s m args below meth c T' h' (locs ++ L) (cells + rm.cells) (slots + rm.slots) → own_Go p e below K (T'.setTop (mkF m pc' Ls (v.toList ++ rest)))) :
    own_Go p e below K (T.setTop (mkF m pc Ls st)) := by
  subst hp
  obtain ⟨v, _, ⟨T3, L3, k3, n3⟩, -, X3, ⟨Lc3, hQ3, l3, y3, z3⟩, st3⟩ := Jvm.LawKit.callS P.st P.ex (y := y) P.ow (mvT P.wz wl) (mvT P.wz wt) (mvT P.wz wi) (mvT P.wz wc) hy (backOf (W := W) hM P.wz wc wi hf hl) (g := (mkF m pc Ls st)) rfl (by rw [P.ml]; exact hsz) (argsL := argsL) (rest := rest) (lenOf hdes hlen) hst (by show 2 * 0 + _ ≤ _; rw [hW]; exact Nat.le_of_eq (by simp)) (P.cd hd) (fun _ _ => ⟨rfl, P.hp, hc, hs⟩)
  dsimp only [Pt.U, Pt.locs, Pt.cells, Pt.slots] at X3 l3 y3 z3 st3 hQ3
  subst l3 y3 z3
  exact own_st st3 (k T3 T3.heap v Lc3 hQ3 (P.move X3 rfl))
theorem own_callP (P : own_S Z own nm bytes mx rt p l e R s m args below meth c T h locs cells slots) {idx : Nat} {y : MethodName} {by' : ByteArray} {mx' : Nat} {rt' : Option FieldType} {rm : Room} {v : Option Value} {argsL st : List Value} {ps : List FieldType} {rr : Option FieldType}
    (wl : (Cond.methodLink own idx y).before a0 Z = true) (wt : (Cond.static y).before a0 Z = true) (wi : (Cond.initialized y.cls).before a0 Z = true) (wc : (Cond.code y by' mx' rt').before a0 Z = true) (hy : y.cls ≠ "java/lang/invoke/MethodHandle" ∧ y.cls ≠ "java/lang/invoke/VarHandle")
    (hM : own_Con l Z y by' mx' rt' [] rm argsL.toArray h (own_P v h)) (hd : decode bytes pc = .ok (.invokestatic idx, 3)) (hp : pc + 3 = pc') (hdes : parseMethodDescriptor y.desc = some ⟨ps, rr⟩) (hlen : argsL.length = ps.length) (hsz : Ls.size = mx) (hst : st = argsL.reverse ++ rest)
    (hf : rm.frames + 1 ≤ R.frames) (W : Nat) (hW : (rest.map fun v => v.category).sum = W) (hl : W + (mx' + 11) + rm.locals ≤ R.locals) (hc : rm.cells = 0) (hs : rm.slots = 0) (hcc : cells ≤ R.cells) (hss : slots ≤ R.slots)
    (k : ∀ T', own_S Z own nm bytes mx rt p l e R s m args below meth c T' h locs cells slots → own_Go p e below K (T'.setTop (mkF m pc' Ls (v.toList ++ rest)))) :
    own_Go p e below K (T.setTop (mkF m pc Ls st)) := by
  refine own_callQ P wl wt wi wc hy hM hd hp hdes hlen hsz hst hf W hW hl (by rw [hc]; exact hcc) (by rw [hs]; exact hss) fun T' h' v' L hQ P' => ?_
  obtain ⟨rfl, rfl, rfl⟩ := hQ
  rw [hc, hs, List.append_nil] at P'
  exact k T' P'
def own_One (s : Slot) : Prop := s = .unset ∨ ∃ w : Value, s = .val w ∧ w.category = 1
theorem own_conMono {y : MethodName} {ws : List Jvm.Cond} {rm : Room} {as' : Array Value} {Q Q' : Option Value → Heap → List Loc → Prop} (q : own_Con l Z y bytes mx rt ws rm as' h Q) (f : ∀ v h' L, Q v h' L → Q' v h' L) : own_Con l Z y bytes mx rt ws rm as' h Q' := by
  intro p e ha hc hk s m args below hf happ hP hK
  obtain ⟨n, o, h1, h2, h3, v, L, h4, h5, h6⟩ := q p e ha hc hk s m args below hf happ hP hK
  exact ⟨n, o, h1, h2, h3, v, L, h4, f _ _ _ h5, h6⟩
theorem own_S.mono (P : own_S Z own nm bytes mx rt p l e R s m args below meth c T h locs cells slots) {cells' slots' : Nat} (hc : cells ≤ cells') (hs : slots ≤ slots') : own_S Z own nm bytes mx rt p l e R s m args below meth c T h locs cells' slots' :=
  P.move { P.st with same := P.st.same.mono hc hs } P.hp
end OwnBase
section OwnHeap
variable {p : Program} {l : Launch} {e : Env} {R : Room} {s : State} {m : MethodId} {args : Array Value} {below : List Frame} {meth : Method} {c : Code} {T : State} {h : Heap} {locs : List Loc} {cells slots : Nat} {Z : State} {a0 : Array Value} {own nm : String} {bytes : ByteArray} {mx : Nat} {rt : Option FieldType} {K : State → Outcome → Prop} {pc pc' : Nat} {Ls : Array Slot} {rest : List Value}
theorem own_new (P : own_S Z own nm bytes mx rt p l e R s m args below meth c T h locs cells slots) {C : String} {idx n : Nat} (wl : (Cond.classLink own idx C).before a0 Z = true) (wi : (Cond.instantiable C n).before a0 Z = true) (wz : (Cond.initialized C).before a0 Z = true) (hd : decode bytes pc = .ok (.new idx, 3)) (hp : pc + 3 = pc') (hc : cells + 1 ≤ R.cells) (hl : slots + n ≤ R.slots)
    (k : ∀ (T' : State) (h' : Heap) (a : Addr), a = h.size → Ext h h' → Exa Z h' a C → (∀ {O fn d : String} {ty : FieldType}, Laid Z a0 C O fn d → parseFieldDescriptor d = some ty → Fld Z h' a O fn d (defaultValue ty)) → own_S Z own nm bytes mx rt p l e R s m args below meth c T' h' locs (cells + 1) (slots + n) → own_Go p e below K (T'.setTop (mkF m pc' Ls (.ref a :: rest)))) :
    own_Go p e below K (T.setTop (mkF m pc Ls rest)) := by
  subst hp
  obtain ⟨T2, h2, X2, e2, E2, A2, D2, -, st2⟩ := newO P.st P.ex P.wz P.ow wl wi wz P.hp (g := mkF m pc Ls rest) rfl (P.cd hd) hc hl
  exact own_st st2 (k T2 h2 h.size rfl E2 A2 D2 (P.move X2 e2))
theorem own_initO (P : own_S Z own nm bytes mx rt p l e R s m args below meth c T h locs cells slots) {idx : Nat} {a : Addr} (w1 : (Cond.methodLink own idx Lib.objectInit).before a0 Z = true) (w2 : (Cond.instanceMethod Lib.objectInit).before a0 Z = true) (w3 : (Cond.code Lib.objectInit ⟨#[0xb1]⟩ 1 none).before a0 Z = true) (hd : decode bytes pc = .ok (.invokespecial idx, 3)) (hp : pc + 3 = pc') (hsz : Ls.size = mx) (hf : 1 ≤ R.frames) (W : Nat) (hW : (rest.map fun v => v.category).sum = W) (hl : W + 12 ≤ R.locals)
    (k : ∀ T' : State, own_S Z own nm bytes mx rt p l e R s m args below meth c T' h locs cells slots → own_Go p e below K (T'.setTop (mkF m pc' Ls rest))) : own_Go p e below K (T.setTop (mkF m pc Ls (.ref a :: rest))) := by
  subst hp
  obtain ⟨T2, X2, e2, st2⟩ := initO P.st P.ex P.wz P.ow w1 w2 w3 P.hp (g := mkF m pc Ls (.ref a :: rest)) rfl (by rw [P.ml]; exact hsz) rfl (P.cd hd) hf (W := W) (by show 2 * 0 + _ ≤ _; rw [hW]; exact Nat.le_of_eq (by simp)) hl
  exact own_st st2 (k T2 (P.move X2 e2))
theorem own_getF (P : own_S Z own nm bytes mx rt p l e R s m args below meth c T h locs cells slots) {idx : Nat} {O fn d : String} {a : Addr} {v : Value} (wf : (Cond.fieldLink own idx O fn d).before a0 Z = true) (F : Fld Z h a O fn d v) (hd : decode bytes pc = .ok (.getfield idx, 3)) (hp : pc + 3 = pc')
    (k : ∀ T' : State, own_S Z own nm bytes mx rt p l e R s m args below meth c T' h locs cells slots → own_Go p e below K (T'.setTop (mkF m pc' Ls (v :: rest)))) : own_Go p e below K (T.setTop (mkF m pc Ls (.ref a :: rest))) := by
  subst hp
  obtain ⟨T2, X2, e2, st2⟩ := getF P.st P.ex P.wz P.ow (host := "") (Or.inl wf) Via.refl P.hp F (g := mkF m pc Ls (.ref a :: rest)) rfl rfl (P.cd hd)
  exact own_st st2 (k T2 (P.move X2 e2))
theorem own_putF (P : own_S Z own nm bytes mx rt p l e R s m args below meth c T h locs cells slots) {idx kk : Nat} {C O fn d : String} {ty : FieldType} {a : Addr} {v old : Value} (wf : (Cond.fieldLink own idx O fn d).before a0 Z = true) (F : Fld Z h a O fn d old) (E : Exa Z h a C) (L : (Cond.lays C O fn d).before a0 Z = true ∨ ((Cond.laysFinal C O fn d).before a0 Z = true ∧ own = O ∧ nm = "<init>")) (wi : (Cond.instantiable C kk).before a0 Z = true) (hty : parseFieldDescriptor d = some ty) (hn : narrow ty v = v) (hf : fits ty v = true) (hd : decode bytes pc = .ok (.putfield idx, 3)) (hp : pc + 3 = pc')
    (k : ∀ (T' : State) (h' : Heap), Wr h h' a (Jvm.RoadKit.slotOf Z O fn d) v → own_S Z own nm bytes mx rt p l e R s m args below meth c T' h' (locs ++ [⟨a, Jvm.RoadKit.slotOf Z O fn d⟩]) cells slots → own_Go p e below K (T'.setTop (mkF m pc' Ls rest))) : own_Go p e below K (T.setTop (mkF m pc Ls (v :: .ref a :: rest))) := by
  subst hp
  obtain ⟨T2, h2, X2, e2, W2, st2⟩ := putF P.st P.ex P.wz P.ow (host := "") (Or.inl wf) Via.refl P.hp F E (L.imp id fun q => ⟨q.1, q.2.1, P.nmm.trans q.2.2⟩) wi hty hn hf (g := mkF m pc Ls (v :: .ref a :: rest)) rfl rfl (P.cd hd)
  exact own_st st2 (k T2 h2 W2 (P.move X2 e2))
theorem own_init (P : own_S Z own nm bytes mx rt p l e R s m args below meth c T h locs cells slots) {idx : Nat} {y : MethodName} {by' : ByteArray} {mx' : Nat} {rm : Room} {Q : Option Value → Heap → List Loc → Prop} {a : Addr} {argsL st : List Value} {ps : List FieldType} {rr : Option FieldType} (hy1 : y.name = "<init>")
    (wl : (Cond.methodLink own idx y).before a0 Z = true) (wm : (Cond.instanceMethod y).before a0 Z = true) (wi : (Cond.initialized y.cls).before a0 Z = true) (wc : (Cond.code y by' mx' none).before a0 Z = true) (hy : y.cls ≠ "java/lang/invoke/MethodHandle" ∧ y.cls ≠ "java/lang/invoke/VarHandle")
    (hM : own_Con l Z y by' mx' none [] rm (.ref a :: argsL).toArray h Q) (hd : decode bytes pc = .ok (.invokespecial idx, 3)) (hp : pc + 3 = pc') (hdes : parseMethodDescriptor y.desc = some ⟨ps, rr⟩) (hlen : argsL.length = ps.length) (hsz : Ls.size = mx) (hst : st = argsL.reverse ++ .ref a :: rest)
    (hf : rm.frames + 1 ≤ R.frames) (W : Nat) (hW : (rest.map fun v => v.category).sum = W) (hl : W + (mx' + 11) + rm.locals ≤ R.locals) (hc : cells + rm.cells ≤ R.cells) (hs : slots + rm.slots ≤ R.slots)
    (k : ∀ T' h' v L, Q v h' L → own_S Z own nm bytes mx rt p l e R s m args below meth c T' h' (locs ++ L) (cells + rm.cells) (slots + rm.slots) → own_Go p e below K (T'.setTop (mkF m pc' Ls (v.toList ++ rest)))) :
    own_Go p e below K (T.setTop (mkF m pc Ls st)) := by
  subst hp
  obtain ⟨v, _, ⟨T3, L3, k3, n3⟩, -, X3, ⟨Lc3, hQ3, l3, y3, z3⟩, st3⟩ := P.st.specialBack P.ex (y := y) hy1 P.ow (mvT P.wz wl) (mvT P.wz wm) (mvT P.wz wc) hy (backOf (W := W) hM P.wz wc wi hf hl) (g := (mkF m pc Ls st)) rfl (by rw [P.ml]; exact hsz) (Steps.refl _) (a := a) (argsL := argsL) (rest := rest) (lenOf hdes hlen) hst (by show 2 * 0 + _ ≤ _; rw [hW]; exact Nat.le_of_eq (by simp)) (P.cd hd) (fun _ _ => ⟨rfl, P.hp, hc, hs⟩)
  dsimp only [Pt.U, Pt.locs, Pt.cells, Pt.slots] at X3 l3 y3 z3 st3 hQ3
  subst l3 y3 z3
  exact own_st (fun t q => st3.trans q) (k T3 T3.heap v Lc3 hQ3 (P.move X3 rfl))
theorem own_virt (P : own_S Z own nm bytes mx rt p l e R s m args below meth c T h locs cells slots) {idx : Nat} {C : String} {y : MethodName} {by' : ByteArray} {mx' : Nat} {rt' : Option FieldType} {rm : Room} {Q : Option Value → Heap → List Loc → Prop} {a : Addr} {argsL st : List Value} {ps : List FieldType} {rr : Option FieldType}
    (wl : (Cond.methodLink own idx y).before a0 Z = true) (wd : (Cond.declares y).before a0 Z = true) (wsel : (Cond.selects C y y).before a0 Z = true) (wm : (Cond.instanceMethod y).before a0 Z = true) (wi : (Cond.initialized y.cls).before a0 Z = true) (wc : (Cond.code y by' mx' rt').before a0 Z = true) (hy : y.cls ≠ "java/lang/invoke/MethodHandle" ∧ y.cls ≠ "java/lang/invoke/VarHandle") (E : Exa Z h a C)
    (hM : own_Con l Z y by' mx' rt' [] rm (.ref a :: argsL).toArray h Q) (hd : decode bytes pc = .ok (.invokevirtual idx, 3)) (hp : pc + 3 = pc') (hdes : parseMethodDescriptor y.desc = some ⟨ps, rr⟩) (hlen : argsL.length = ps.length) (hsz : Ls.size = mx) (hst : st = argsL.reverse ++ .ref a :: rest)
    (hf : rm.frames + 1 ≤ R.frames) (W : Nat) (hW : (rest.map fun v => v.category).sum = W) (hl : W + (mx' + 11) + rm.locals ≤ R.locals) (hc : cells + rm.cells ≤ R.cells) (hs : slots + rm.slots ≤ R.slots)
    (k : ∀ T' h' v L, Q v h' L → own_S Z own nm bytes mx rt p l e R s m args below meth c T' h' (locs ++ L) (cells + rm.cells) (slots + rm.slots) → own_Go p e below K (T'.setTop (mkF m pc' Ls (v.toList ++ rest)))) :
    own_Go p e below K (T.setTop (mkF m pc Ls st)) := by
  subst hp
  obtain ⟨cq, kq, qa, qb, qc⟩ := isOf P.wz P.hp E
  obtain ⟨v, _, ⟨T3, L3, k3, n3⟩, -, X3, ⟨Lc3, hQ3, l3, y3, z3⟩, st3⟩ := P.st.virtualBack P.ex (y := y) (z := y) P.ow (mvT P.wz wl) (mvT P.wz wd) (notFace_of_selects (args := #[]) (mvT P.wz wsel)) (mvT P.wz wsel) (mvT P.wz wm) hy (backOf (W := W) hM P.wz wc wi hf hl) qa qc (g := (mkF m pc Ls st)) rfl (by rw [P.ml]; exact hsz) (Steps.refl _) (argsL := argsL) (rest := rest) (lenOf hdes hlen) hst (by show 2 * 0 + _ ≤ _; rw [hW]; exact Nat.le_of_eq (by simp)) (P.cd hd) (fun _ _ => ⟨rfl, P.hp, hc, hs⟩)
  dsimp only [Pt.U, Pt.locs, Pt.cells, Pt.slots] at X3 l3 y3 z3 st3 hQ3
  subst l3 y3 z3
  exact own_st (fun t q => st3.trans q) (k T3 T3.heap v Lc3 hQ3 (P.move X3 rfl))
theorem own_initP (P : own_S Z own nm bytes mx rt p l e R s m args below meth c T h locs cells slots) {idx : Nat} {y : MethodName} {by' : ByteArray} {mx' : Nat} {rm : Room} {v : Option Value} {a : Addr} {argsL st : List Value} {ps : List FieldType} {rr : Option FieldType} (hy1 : y.name = "<init>")
    (wl : (Cond.methodLink own idx y).before a0 Z = true) (wm : (Cond.instanceMethod y).before a0 Z = true) (wi : (Cond.initialized y.cls).before a0 Z = true) (wc : (Cond.code y by' mx' none).before a0 Z = true) (hy : y.cls ≠ "java/lang/invoke/MethodHandle" ∧ y.cls ≠ "java/lang/invoke/VarHandle")
    (hM : own_Con l Z y by' mx' none [] rm (.ref a :: argsL).toArray h (own_P v h)) (hd : decode bytes pc = .ok (.invokespecial idx, 3)) (hp : pc + 3 = pc') (hdes : parseMethodDescriptor y.desc = some ⟨ps, rr⟩) (hlen : argsL.length = ps.length) (hsz : Ls.size = mx) (hst : st = argsL.reverse ++ .ref a :: rest)
    (hf : rm.frames + 1 ≤ R.frames) (W : Nat) (hW : (rest.map fun v => v.category).sum = W) (hl : W + (mx' + 11) + rm.locals ≤ R.locals) (hc : rm.cells = 0) (hs : rm.slots = 0) (hcc : cells ≤ R.cells) (hss : slots ≤ R.slots)
    (k : ∀ T', own_S Z own nm bytes mx rt p l e R s m args below meth c T' h locs cells slots → own_Go p e below K (T'.setTop (mkF m pc' Ls (v.toList ++ rest)))) :
    own_Go p e below K (T.setTop (mkF m pc Ls st)) := by
  refine own_init P hy1 wl wm wi wc hy hM hd hp hdes hlen hsz hst hf W hW hl (by rw [hc]; exact hcc) (by rw [hs]; exact hss) fun T' h' v' L hQ P' => ?_
  obtain ⟨rfl, rfl, rfl⟩ := hQ
  rw [hc, hs, List.append_nil] at P'
  exact k T' P'
theorem own_virtP (P : own_S Z own nm bytes mx rt p l e R s m args below meth c T h locs cells slots) {idx : Nat} {C : String} {y : MethodName} {by' : ByteArray} {mx' : Nat} {rt' : Option FieldType} {rm : Room} {v : Option Value} {a : Addr} {argsL st : List Value} {ps : List FieldType} {rr : Option FieldType}
    (wl : (Cond.methodLink own idx y).before a0 Z = true) (wd : (Cond.declares y).before a0 Z = true) (wsel : (Cond.selects C y y).before a0 Z = true) (wm : (Cond.instanceMethod y).before a0 Z = true) (wi : (Cond.initialized y.cls).before a0 Z = true) (wc : (Cond.code y by' mx' rt').before a0 Z = true) (hy : y.cls ≠ "java/lang/invoke/MethodHandle" ∧ y.cls ≠ "java/lang/invoke/VarHandle") (E : Exa Z h a C)
    (hM : own_Con l Z y by' mx' rt' [] rm (.ref a :: argsL).toArray h (own_P v h)) (hd : decode bytes pc = .ok (.invokevirtual idx, 3)) (hp : pc + 3 = pc') (hdes : parseMethodDescriptor y.desc = some ⟨ps, rr⟩) (hlen : argsL.length = ps.length) (hsz : Ls.size = mx) (hst : st = argsL.reverse ++ .ref a :: rest)
    (hf : rm.frames + 1 ≤ R.frames) (W : Nat) (hW : (rest.map fun v => v.category).sum = W) (hl : W + (mx' + 11) + rm.locals ≤ R.locals) (hc : rm.cells = 0) (hs : rm.slots = 0) (hcc : cells ≤ R.cells) (hss : slots ≤ R.slots)
    (k : ∀ T', own_S Z own nm bytes mx rt p l e R s m args below meth c T' h locs cells slots → own_Go p e below K (T'.setTop (mkF m pc' Ls (v.toList ++ rest)))) :
    own_Go p e below K (T.setTop (mkF m pc Ls st)) := by
  refine own_virt P wl wd wsel wm wi wc hy E hM hd hp hdes hlen hsz hst hf W hW hl (by rw [hc]; exact hcc) (by rw [hs]; exact hss) fun T' h' v' L hQ P' => ?_
  obtain ⟨rfl, rfl, rfl⟩ := hQ
  rw [hc, hs, List.append_nil] at P'
  exact k T' P'
/-- an array of ints (chars, bytes) that holds just the list vs -/
def own_Ar (Z : State) (h : Heap) (a : Addr) (ty : FieldType) (vs : List Int32) : Prop := ∃ c : Cell, Arr Z h a c ty ∧ c.slots = (vs.map Value.int).toArray
theorem own_Ar.lt {a : Addr} {ty : FieldType} {vs : List Int32} (A : own_Ar Z h a ty vs) : a < h.size := by obtain ⟨c, q, -⟩ := A; exact q.lt
theorem own_Ar.ext {h' : Heap} {a : Addr} {ty : FieldType} {vs : List Int32} (A : own_Ar Z h a ty vs) (E : Ext h h') : own_Ar Z h' a ty vs := by obtain ⟨c, q, r⟩ := A; exact ⟨c, q.ext E, r⟩
theorem own_Ar.other {h' : Heap} {a b : Addr} {ty : FieldType} {vs : List Int32} {sl : Nat} {v : Value} (A : own_Ar Z h b ty vs) (W : Wr h h' a sl v) (ne : b ≠ a) : own_Ar Z h' b ty vs := by obtain ⟨c, q, r⟩ := A; exact ⟨c, q.other W ne, r⟩
theorem own_Ar.keep {h' : Heap} {a : Addr} {ty : FieldType} {vs : List Int32} {ws : List Addr} (A : own_Ar Z h a ty vs) (Kp : Keep h h' ws) (ne : a ∉ ws) : own_Ar Z h' a ty vs := by obtain ⟨c, q, r⟩ := A; exact ⟨c, ⟨Kp.2.1 a c q.1 ne, q.2⟩, r⟩
theorem own_Ar.set {h' : Heap} {a : Addr} {ty : FieldType} {vs : List Int32} {j : Nat} {x : Int32} (A : own_Ar Z h a ty vs) (W : Wr h h' a j (.int x)) : own_Ar Z h' a ty (vs.set j x) := by
  obtain ⟨c, q, r⟩ := A
  refine ⟨_, q.same W, ?_⟩
  simp only [Cell.setSlot]
  rw [r]
  simp
theorem own_arrNew (P : own_S Z own nm bytes mx rt p l e R s m args below meth c T h locs cells slots) {aty : ArrayType} {ty : FieldType} {n : Int32} (cap : Nat) (wa : (Cond.arrayClass ty).before a0 Z = true) (ht : newarray.typeOf aty = ty) (hdv : defaultValue ty = .int 0) (hd : decode bytes pc = .ok (.newarray aty, 2)) (hp : pc + 2 = pc') (hn : 0 ≤ n.toInt) (hcap : n.toInt.toNat ≤ cap) (hb : cap * 8 ≤ 536870912) (hc : cells + 1 ≤ R.cells) (hl : slots + cap ≤ R.slots)
    (k : ∀ (T' : State) (h' : Heap) (a : Addr), a = h.size → Ext h h' → own_Ar Z h' a ty (List.replicate n.toInt.toNat 0) → own_S Z own nm bytes mx rt p l e R s m args below meth c T' h' locs (cells + 1) (slots + cap) → own_Go p e below K (T'.setTop (mkF m pc' Ls (.ref a :: rest)))) :
    own_Go p e below K (T.setTop (mkF m pc Ls (.int n :: rest))) := by
  subst hp ht
  have hn' : ¬ n < 0 := by rw [Int32.lt_iff_toInt_lt]; exact Int.not_lt.mpr hn
  obtain ⟨T2, h2, cA, X2, e2, E2, A2, st2⟩ := newP P.st P.ex P.wz (aty := aty) wa P.hp (g := mkF m pc Ls (.int n :: rest)) rfl (P.cd hd) rfl hn' (cap := cap) hcap hb hc hl
  refine own_st st2 (k T2 h2 h.size rfl E2 ⟨_, A2, ?_⟩ (P.move X2 e2))
  show Array.replicate n.toNatClampNeg (defaultValue _) = _
  rw [hdv]
  show Array.replicate n.toInt.toNat (Value.int 0) = _
  simp
theorem own_arrIn {a : Addr} {ty : FieldType} {vs : List Int32} {c : Cell} {j : Int32} (r : c.slots = (vs.map Value.int).toArray) (h1 : 0 ≤ j.toInt) (h2 : j.toInt.toNat < vs.length) : ¬ (j < 0 ∨ c.slots.size ≤ j.toNatClampNeg) := by
  rintro (q | q)
  · rw [Int32.lt_iff_toInt_lt] at q
    have z : (0 : Int32).toInt = 0 := rfl
    omega
  · rw [r] at q
    simp only [List.size_toArray, List.length_map, Int32.toNatClampNeg] at q
    omega
theorem own_arrAt {vs : List Int32} {c : Cell} {j x : Int32} (r : c.slots = (vs.map Value.int).toArray) (h2 : j.toInt.toNat < vs.length) (hx : vs.getD j.toInt.toNat 0 = x) : c.slots[j.toNatClampNeg]? = some (.int x) := by
  subst hx
  rw [r]
  show (vs.map Value.int).toArray[j.toInt.toNat]? = _
  rw [List.getElem?_toArray, List.getElem?_map, List.getD_eq_getElem?_getD, List.getElem?_eq_getElem h2]
  rfl
theorem own_alen (P : own_S Z own nm bytes mx rt p l e R s m args below meth c T h locs cells slots) {a : Addr} {ty : FieldType} {vs : List Int32} {v : Int32} (A : own_Ar Z h a ty vs) (hd : decode bytes pc = .ok (.arraylength, 1)) (hp : pc + 1 = pc') (hv : Int32.ofNat vs.length = v)
    (k : own_Go p e below K (T.setTop (mkF m pc' Ls (.int v :: rest)))) : own_Go p e below K (T.setTop (mkF m pc Ls (.ref a :: rest))) := by
  subst hp hv
  obtain ⟨c, q, r⟩ := A
  have hsz : c.slots.size.toInt32 = Int32.ofNat vs.length := by rw [r]; simp
  refine own_st (fun t kk => P.st.arraylength P.ex (cell := c) (by rw [P.hp]; exact q.1) (State.isArrayOf_alike P.wz.alike q.2.1) (g := mkF m pc Ls (.ref a :: rest)) rfl (rest := rest) rfl (P.cd hd) t ?_) k
  rw [hsz]
  exact kk
theorem own_iaload (P : own_S Z own nm bytes mx rt p l e R s m args below meth c T h locs cells slots) {a : Addr} {vs : List Int32} {j x : Int32} (A : own_Ar Z h a .int vs) (hd : decode bytes pc = .ok (.iaload, 1)) (hp : pc + 1 = pc') (h1 : 0 ≤ j.toInt) (h2 : j.toInt.toNat < vs.length) (hx : vs.getD j.toInt.toNat 0 = x)
    (k : own_Go p e below K (T.setTop (mkF m pc' Ls (.int x :: rest)))) : own_Go p e below K (T.setTop (mkF m pc Ls (.int j :: .ref a :: rest))) := by
  subst hp
  obtain ⟨c, q, r⟩ := A
  exact own_st (fun t kk => P.st.iaload P.ex (j := j) (v := .int x) (by rw [P.hp]; exact q.1) (State.isArrayOf_alike P.wz.alike q.2.1) q.2.2 (own_arrIn (a := a) (ty := .int) r h1 h2) (own_arrAt r h2 hx) (g := mkF m pc Ls (.int j :: .ref a :: rest)) rfl rfl (P.cd hd) t kk) k
theorem own_caload (P : own_S Z own nm bytes mx rt p l e R s m args below meth c T h locs cells slots) {a : Addr} {vs : List Int32} {j x : Int32} (A : own_Ar Z h a .char vs) (hd : decode bytes pc = .ok (.caload, 1)) (hp : pc + 1 = pc') (h1 : 0 ≤ j.toInt) (h2 : j.toInt.toNat < vs.length) (hx : vs.getD j.toInt.toNat 0 = x)
    (k : own_Go p e below K (T.setTop (mkF m pc' Ls (.int x :: rest)))) : own_Go p e below K (T.setTop (mkF m pc Ls (.int j :: .ref a :: rest))) := by
  subst hp
  obtain ⟨c, q, r⟩ := A
  exact own_st (fun t kk => P.st.caload P.ex (j := j) (v := .int x) (by rw [P.hp]; exact q.1) (State.isArrayOf_alike P.wz.alike q.2.1) q.2.2 (own_arrIn (a := a) (ty := .char) r h1 h2) (own_arrAt r h2 hx) (g := mkF m pc Ls (.int j :: .ref a :: rest)) rfl rfl (P.cd hd) t kk) k
theorem own_baload (P : own_S Z own nm bytes mx rt p l e R s m args below meth c T h locs cells slots) {a : Addr} {vs : List Int32} {j x : Int32} (A : own_Ar Z h a .byte vs) (hd : decode bytes pc = .ok (.baload, 1)) (hp : pc + 1 = pc') (h1 : 0 ≤ j.toInt) (h2 : j.toInt.toNat < vs.length) (hx : vs.getD j.toInt.toNat 0 = x)
    (k : own_Go p e below K (T.setTop (mkF m pc' Ls (.int x :: rest)))) : own_Go p e below K (T.setTop (mkF m pc Ls (.int j :: .ref a :: rest))) := by
  subst hp
  obtain ⟨c, q, r⟩ := A
  exact own_st (fun t kk => P.st.baloadBytes P.ex (j := j) (v := .int x) (by rw [P.hp]; exact q.1) (State.isArrayOf_alike P.wz.alike q.2.1) q.2.2 (own_arrIn (a := a) (ty := .byte) r h1 h2) (own_arrAt r h2 hx) (g := mkF m pc Ls (.int j :: .ref a :: rest)) rfl rfl (P.cd hd) t kk) k
theorem own_iastore (P : own_S Z own nm bytes mx rt p l e R s m args below meth c T h locs cells slots) {a : Addr} {vs : List Int32} {j x z : Int32} (A : own_Ar Z h a .int vs) (hd : decode bytes pc = .ok (.iastore, 1)) (hp : pc + 1 = pc') (h1 : 0 ≤ j.toInt) (h2 : j.toInt.toNat < vs.length) (hz : x = z)
    (k : ∀ (T' : State) (h' : Heap), Wr h h' a j.toInt.toNat (.int z) → own_Ar Z h' a .int (vs.set j.toInt.toNat z) → own_S Z own nm bytes mx rt p l e R s m args below meth c T' h' (locs ++ [⟨a, j.toInt.toNat⟩]) cells slots → own_Go p e below K (T'.setTop (mkF m pc' Ls rest))) : own_Go p e below K (T.setTop (mkF m pc Ls (.int x :: .int j :: .ref a :: rest))) := by
  subst hp hz
  have A' := A
  obtain ⟨c, q, r⟩ := A'
  obtain ⟨T2, h2', X2, e2, W2, st2⟩ := stI P.st P.ex P.wz P.hp q (j := j) (own_arrIn (a := a) (ty := .int) r h1 h2) (g := mkF m pc Ls (.int x :: .int j :: .ref a :: rest)) rfl rfl (P.cd hd)
  exact own_st st2 (k T2 h2' W2 (A.set W2) (P.move X2 e2))
theorem own_castore (P : own_S Z own nm bytes mx rt p l e R s m args below meth c T h locs cells slots) {a : Addr} {vs : List Int32} {j x z : Int32} (A : own_Ar Z h a .char vs) (hd : decode bytes pc = .ok (.castore, 1)) (hp : pc + 1 = pc') (h1 : 0 ≤ j.toInt) (h2 : j.toInt.toNat < vs.length) (hz : nar .char x = z)
    (k : ∀ (T' : State) (h' : Heap), Wr h h' a j.toInt.toNat (.int z) → own_Ar Z h' a .char (vs.set j.toInt.toNat z) → own_S Z own nm bytes mx rt p l e R s m args below meth c T' h' (locs ++ [⟨a, j.toInt.toNat⟩]) cells slots → own_Go p e below K (T'.setTop (mkF m pc' Ls rest))) : own_Go p e below K (T.setTop (mkF m pc Ls (.int x :: .int j :: .ref a :: rest))) := by
  subst hp hz
  have A' := A
  obtain ⟨c, q, r⟩ := A'
  obtain ⟨T2, h2', X2, e2, W2, st2⟩ := stC P.st P.ex P.wz P.hp q (j := j) (own_arrIn (a := a) (ty := .char) r h1 h2) (g := mkF m pc Ls (.int x :: .int j :: .ref a :: rest)) rfl rfl (P.cd hd)
  exact own_st st2 (k T2 h2' W2 (A.set W2) (P.move X2 e2))
theorem own_bastore (P : own_S Z own nm bytes mx rt p l e R s m args below meth c T h locs cells slots) {a : Addr} {vs : List Int32} {j x z : Int32} (A : own_Ar Z h a .byte vs) (hd : decode bytes pc = .ok (.bastore, 1)) (hp : pc + 1 = pc') (h1 : 0 ≤ j.toInt) (h2 : j.toInt.toNat < vs.length) (hz : nar .byte x = z)
    (k : ∀ (T' : State) (h' : Heap), Wr h h' a j.toInt.toNat (.int z) → own_Ar Z h' a .byte (vs.set j.toInt.toNat z) → own_S Z own nm bytes mx rt p l e R s m args below meth c T' h' (locs ++ [⟨a, j.toInt.toNat⟩]) cells slots → own_Go p e below K (T'.setTop (mkF m pc' Ls rest))) : own_Go p e below K (T.setTop (mkF m pc Ls (.int x :: .int j :: .ref a :: rest))) := by
  subst hp hz
  have A' := A
  obtain ⟨c, q, r⟩ := A'
  obtain ⟨T2, h2', X2, e2, W2, st2⟩ := stB P.st P.ex P.wz P.hp q (j := j) (own_arrIn (a := a) (ty := .byte) r h1 h2) (g := mkF m pc Ls (.int x :: .int j :: .ref a :: rest)) rfl rfl (P.cd hd)
  exact own_st st2 (k T2 h2' W2 (A.set W2) (P.move X2 e2))
end OwnHeap

theorem d1_0 : decode jdk_29_method_69_code 0 = .ok (.iload_n 0, 1) := by decide +kernel
theorem d1_1 : decode jdk_29_method_69_code 1 = .ok (.iload_n 1, 1) := by decide +kernel
theorem d1_2 : decode jdk_29_method_69_code 2 = .ok (.if_icmp .gt 7, 3) := by decide +kernel
theorem d1_9 : decode jdk_29_method_69_code 9 = .ok (.iload_n 1, 1) := by decide +kernel
theorem d1_10 : decode jdk_29_method_69_code 10 = .ok (.ireturn, 1) := by decide +kernel
theorem d1_5 : decode jdk_29_method_69_code 5 = .ok (.iload_n 0, 1) := by decide +kernel
theorem d1_6 : decode jdk_29_method_69_code 6 = .ok (.goto 4, 3) := by decide +kernel
def F1_0 (i0 : Int32) (i1 : Int32) : Int32 := (if i1 < i0 then i1 else i0)
set_option maxRecDepth 65536 in
set_option maxHeartbeats 40000000 in
theorem b1_0 {p : Program} {l : Launch} {e : Env} {s : State} {m : MethodId} {args : Array Value} {below : List Frame} {meth : Method} {c : Code} {T : State} {h : Heap} {Z : State} {a0 : Array Value} {Q : Option Value → Heap → List Loc → Prop} (hw : ∀ d ∈ tables_1, d.before a0 Z = true) (i0 : Int32) (i1 : Int32) (P : own_S Z "java/lang/Math" "min" jdk_29_method_69_code 2 (some .int) p l e ({ frames := 0, cells := 0, slots := 0, locals := 0 } : Room) s m args below meth c T h [] 0 0) (hQ : Q (some (.int (F1_0 i0 i1))) h []) :
    own_Go p e below (own_K s Q 0 0) (T.setTop (mkF m 0 #[.val (.int i0), .val (.int i1)] [])) := by
  unfold F1_0 at hQ
  refine own_iloadN P d1_0 rfl rfl ?_
  refine own_iloadN P d1_1 rfl rfl ?_
  by_cases hc1 : i1 < i0
  · rw [if_pos hc1] at hQ
    refine own_icmpY P (pc' := 9) d1_2 hc1 (by decide) (by decide) ?_
    refine own_iloadN P d1_9 rfl rfl ?_
    exact own_retI P d1_10 (by decide) (by decide) hQ
  · rw [if_neg hc1] at hQ
    refine own_icmpN P (pc' := 5) d1_2 hc1 rfl ?_
    refine own_iloadN P d1_5 rfl rfl ?_
    refine own_goto P (pc' := 10) d1_6 (by decide) (by decide) ?_
    exact own_retI P d1_10 (by decide) (by decide) hQ
theorem rm1 (l : Launch) (Z : State) (a0 : Array Value) (hw : ∀ d ∈ tables_1, d.before a0 Z = true) (i0 : Int32) (i1 : Int32) (h : Heap) :
    own_Con l Z (⟨"java/lang/Math", "min", "(II)I"⟩ : MethodName) jdk_29_method_69_code 2 (some .int) [] ({ frames := 0, cells := 0, slots := 0, locals := 0 } : Room) #[(.int i0), (.int i1)] h (own_P (some (.int (F1_0 i0 i1))) h) :=
  own_enter (Jvm.Free.JP.mathPlain rfl (by decide +kernel)) #[.val (.int i0), .val (.int i1)] (fun m => by first | (simp [entryFrame, mkF, argsToLocals, Value.category]; done) | rfl) (fun p e s m below meth c T P => b1_0 hw i0 i1 P ⟨rfl, rfl, rfl⟩)
theorem d2_0 : decode jdk_29_method_65_code 0 = .ok (.iload_n 0, 1) := by decide +kernel
theorem d2_1 : decode jdk_29_method_65_code 1 = .ok (.iload_n 1, 1) := by decide +kernel
theorem d2_2 : decode jdk_29_method_65_code 2 = .ok (.if_icmp .lt 7, 3) := by decide +kernel
theorem d2_9 : decode jdk_29_method_65_code 9 = .ok (.iload_n 1, 1) := by decide +kernel
theorem d2_10 : decode jdk_29_method_65_code 10 = .ok (.ireturn, 1) := by decide +kernel
theorem d2_5 : decode jdk_29_method_65_code 5 = .ok (.iload_n 0, 1) := by decide +kernel
theorem d2_6 : decode jdk_29_method_65_code 6 = .ok (.goto 4, 3) := by decide +kernel
def F2_0 (i0 : Int32) (i1 : Int32) : Int32 := (if i0 < i1 then i1 else i0)
set_option maxRecDepth 65536 in
set_option maxHeartbeats 40000000 in
theorem b2_0 {p : Program} {l : Launch} {e : Env} {s : State} {m : MethodId} {args : Array Value} {below : List Frame} {meth : Method} {c : Code} {T : State} {h : Heap} {Z : State} {a0 : Array Value} {Q : Option Value → Heap → List Loc → Prop} (hw : ∀ d ∈ tables_1, d.before a0 Z = true) (i0 : Int32) (i1 : Int32) (P : own_S Z "java/lang/Math" "max" jdk_29_method_65_code 2 (some .int) p l e ({ frames := 0, cells := 0, slots := 0, locals := 0 } : Room) s m args below meth c T h [] 0 0) (hQ : Q (some (.int (F2_0 i0 i1))) h []) :
    own_Go p e below (own_K s Q 0 0) (T.setTop (mkF m 0 #[.val (.int i0), .val (.int i1)] [])) := by
  unfold F2_0 at hQ
  refine own_iloadN P d2_0 rfl rfl ?_
  refine own_iloadN P d2_1 rfl rfl ?_
  by_cases hc2 : i0 < i1
  · rw [if_pos hc2] at hQ
    refine own_icmpY P (pc' := 9) d2_2 hc2 (by decide) (by decide) ?_
    refine own_iloadN P d2_9 rfl rfl ?_
    exact own_retI P d2_10 (by decide) (by decide) hQ
  · rw [if_neg hc2] at hQ
    refine own_icmpN P (pc' := 5) d2_2 hc2 rfl ?_
    refine own_iloadN P d2_5 rfl rfl ?_
    refine own_goto P (pc' := 10) d2_6 (by decide) (by decide) ?_
    exact own_retI P d2_10 (by decide) (by decide) hQ
theorem rm2 (l : Launch) (Z : State) (a0 : Array Value) (hw : ∀ d ∈ tables_1, d.before a0 Z = true) (i0 : Int32) (i1 : Int32) (h : Heap) :
    own_Con l Z (⟨"java/lang/Math", "max", "(II)I"⟩ : MethodName) jdk_29_method_65_code 2 (some .int) [] ({ frames := 0, cells := 0, slots := 0, locals := 0 } : Room) #[(.int i0), (.int i1)] h (own_P (some (.int (F2_0 i0 i1))) h) :=
  own_enter (Jvm.Free.JP.mathPlain rfl (by decide +kernel)) #[.val (.int i0), .val (.int i1)] (fun m => by first | (simp [entryFrame, mkF, argsToLocals, Value.category]; done) | rfl) (fun p e s m below meth c T P => b2_0 hw i0 i1 P ⟨rfl, rfl, rfl⟩)
theorem d5_0 : decode method_2_code 0 = .ok (.iload_n 0, 1) := by decide +kernel
theorem d5_1 : decode method_2_code 1 = .ok (.bipush 48, 2) := by decide +kernel
theorem d5_3 : decode method_2_code 3 = .ok (.if_icmp .lt 13, 3) := by decide +kernel
theorem d5_16 : decode method_2_code 16 = .ok (.iconst 0, 1) := by decide +kernel
theorem d5_17 : decode method_2_code 17 = .ok (.ireturn, 1) := by decide +kernel
theorem d5_6 : decode method_2_code 6 = .ok (.iload_n 0, 1) := by decide +kernel
theorem d5_7 : decode method_2_code 7 = .ok (.bipush 57, 2) := by decide +kernel
theorem d5_9 : decode method_2_code 9 = .ok (.if_icmp .gt 7, 3) := by decide +kernel
theorem d5_12 : decode method_2_code 12 = .ok (.iconst 1, 1) := by decide +kernel
theorem d5_13 : decode method_2_code 13 = .ok (.goto 4, 3) := by decide +kernel
def F5_0 (i0 : Int32) : Int32 := (if i0 < (48 : Int32) then (0 : Int32) else (if (57 : Int32) < i0 then (0 : Int32) else (1 : Int32)))
set_option maxRecDepth 65536 in
set_option maxHeartbeats 40000000 in
theorem b5_0 {p : Program} {l : Launch} {e : Env} {s : State} {m : MethodId} {args : Array Value} {below : List Frame} {meth : Method} {c : Code} {T : State} {h : Heap} {Z : State} {a0 : Array Value} {Q : Option Value → Heap → List Loc → Prop} (hw : ∀ d ∈ tables_1, d.before a0 Z = true) (i0 : Int32) (P : own_S Z "com/example/stakan/stakan/NumeralsDecimalEndPinLaw" "isDigit" method_2_code 1 (some .boolean) p l e ({ frames := 0, cells := 0, slots := 0, locals := 0 } : Room) s m args below meth c T h [] 0 0) (hQ : Q (some (.int (F5_0 i0))) h []) :
    own_Go p e below (own_K s Q 0 0) (T.setTop (mkF m 0 #[.val (.int i0)] [])) := by
  unfold F5_0 at hQ
  refine own_iloadN P d5_0 rfl rfl ?_
  refine own_bipush P d5_1 rfl (v := (48 : Int32)) rfl ?_
  by_cases hc3 : i0 < (48 : Int32)
  · rw [if_pos hc3] at hQ
    refine own_icmpY P (pc' := 16) d5_3 hc3 (by decide) (by decide) ?_
    refine own_iconst P d5_16 rfl (v := (0 : Int32)) rfl ?_
    exact own_retZ P d5_17 (z := (0 : Int32)) rfl (by decide) (by decide) hQ
  · rw [if_neg hc3] at hQ
    refine own_icmpN P (pc' := 6) d5_3 hc3 rfl ?_
    refine own_iloadN P d5_6 rfl rfl ?_
    refine own_bipush P d5_7 rfl (v := (57 : Int32)) rfl ?_
    by_cases hc4 : (57 : Int32) < i0
    · rw [if_pos hc4] at hQ
      refine own_icmpY P (pc' := 16) d5_9 hc4 (by decide) (by decide) ?_
      refine own_iconst P d5_16 rfl (v := (0 : Int32)) rfl ?_
      exact own_retZ P d5_17 (z := (0 : Int32)) rfl (by decide) (by decide) hQ
    · rw [if_neg hc4] at hQ
      refine own_icmpN P (pc' := 12) d5_9 hc4 rfl ?_
      refine own_iconst P d5_12 rfl (v := (1 : Int32)) rfl ?_
      refine own_goto P (pc' := 17) d5_13 (by decide) (by decide) ?_
      exact own_retZ P d5_17 (z := (1 : Int32)) rfl (by decide) (by decide) hQ
theorem own_pn0 : plainName "com/example/stakan/stakan/NumeralsDecimalEndPinLaw" = true := by first | (simp [plainName, overriddenIn]; done) | decide +kernel
theorem rm5 (l : Launch) (Z : State) (a0 : Array Value) (hw : ∀ d ∈ tables_1, d.before a0 Z = true) (i0 : Int32) (h : Heap) :
    own_Con l Z (⟨"com/example/stakan/stakan/NumeralsDecimalEndPinLaw", "isDigit", "(C)Z"⟩ : MethodName) method_2_code 1 (some .boolean) [] ({ frames := 0, cells := 0, slots := 0, locals := 0 } : Room) #[(.int i0)] h (own_P (some (.int (F5_0 i0))) h) :=
  own_enter (plainFor_of_name own_pn0) #[.val (.int i0)] (fun m => by first | (simp [entryFrame, mkF, argsToLocals, Value.category]; done) | rfl) (fun p e s m below meth c T P => b5_0 hw i0 P ⟨rfl, rfl, rfl⟩)
theorem d4_0 : decode method_3_code 0 = .ok (.iload_n 1, 1) := by decide +kernel
theorem d4_1 : decode method_3_code 1 = .ok (.iload_n 2, 1) := by decide +kernel
theorem d4_2 : decode method_3_code 2 = .ok (.if_icmp .lt 8, 3) := by decide +kernel
theorem d4_10 : decode method_3_code 10 = .ok (.iconst 0, 1) := by decide +kernel
theorem d4_11 : decode method_3_code 11 = .ok (.ireturn, 1) := by decide +kernel
theorem d4_5 : decode method_3_code 5 = .ok (.iload_n 1, 1) := by decide +kernel
theorem d4_6 : decode method_3_code 6 = .ok (.iload_n 3, 1) := by decide +kernel
theorem d4_7 : decode method_3_code 7 = .ok (.if_icmp .lt 5, 3) := by decide +kernel
theorem d4_12 : decode method_3_code 12 = .ok (.aload_n 0, 1) := by decide +kernel
theorem d4_13 : decode method_3_code 13 = .ok (.iload_n 1, 1) := by decide +kernel
theorem d4_14 : decode method_3_code 14 = .ok (.caload, 1) := by decide +kernel
theorem d4_15 : decode method_3_code 15 = .ok (.istore 5, 2) := by decide +kernel
theorem d4_17 : decode method_3_code 17 = .ok (.iload 4, 2) := by decide +kernel
theorem d4_19 : decode method_3_code 19 = .ok (.ifCond .eq 16, 3) := by decide +kernel
theorem d4_35 : decode method_3_code 35 = .ok (.iload 5, 2) := by decide +kernel
theorem d4_37 : decode method_3_code 37 = .ok (.invokestatic 7, 3) := by decide +kernel
theorem own_pd0 : parseMethodDescriptor "(C)Z" = some ⟨[.char], some .boolean⟩ := by decide +kernel
theorem d4_40 : decode method_3_code 40 = .ok (.ifCond .ne 14, 3) := by decide +kernel
theorem d4_43 : decode method_3_code 43 = .ok (.iload 5, 2) := by decide +kernel
theorem d4_45 : decode method_3_code 45 = .ok (.bipush 46, 2) := by decide +kernel
theorem d4_47 : decode method_3_code 47 = .ok (.if_icmp .eq 7, 3) := by decide +kernel
theorem d4_54 : decode method_3_code 54 = .ok (.iconst 0, 1) := by decide +kernel
theorem d4_55 : decode method_3_code 55 = .ok (.ireturn, 1) := by decide +kernel
theorem d4_50 : decode method_3_code 50 = .ok (.iconst 1, 1) := by decide +kernel
theorem d4_51 : decode method_3_code 51 = .ok (.goto 4, 3) := by decide +kernel
theorem d4_22 : decode method_3_code 22 = .ok (.iload 5, 2) := by decide +kernel
theorem d4_24 : decode method_3_code 24 = .ok (.bipush 46, 2) := by decide +kernel
theorem d4_26 : decode method_3_code 26 = .ok (.if_icmp .ne 7, 3) := by decide +kernel
theorem d4_29 : decode method_3_code 29 = .ok (.iconst 1, 1) := by decide +kernel
theorem d4_30 : decode method_3_code 30 = .ok (.goto 4, 3) := by decide +kernel
theorem d4_34 : decode method_3_code 34 = .ok (.ireturn, 1) := by decide +kernel
theorem d4_33 : decode method_3_code 33 = .ok (.iconst 0, 1) := by decide +kernel
def F4_0 (i1 : Int32) (i2 : Int32) (i3 : Int32) (i4 : Int32) (vs : List Int32) : Int32 := (if i1 < i2 then (0 : Int32) else (if i1 < i3 then (if i4 = (0 : Int32) then (if (F5_0 (vs.getD i1.toInt.toNat 0)) = (0 : Int32) then (if (vs.getD i1.toInt.toNat 0) = (46 : Int32) then (0 : Int32) else (1 : Int32)) else (0 : Int32)) else (if (vs.getD i1.toInt.toNat 0) = (46 : Int32) then (1 : Int32) else (0 : Int32))) else (0 : Int32)))
set_option maxRecDepth 65536 in
set_option maxHeartbeats 40000000 in
theorem b4_0 {p : Program} {l : Launch} {e : Env} {s : State} {m : MethodId} {args : Array Value} {below : List Frame} {meth : Method} {c : Code} {T : State} {h : Heap} {Z : State} {a0 : Array Value} {Q : Option Value → Heap → List Loc → Prop} (hw : ∀ d ∈ tables_1, d.before a0 Z = true) (o0 : Addr) (i1 : Int32) (i2 : Int32) (i3 : Int32) (i4 : Int32) (vs : List Int32) (A_o0 : own_Ar Z h o0 .char vs) (hi1 : 0 ≤ i1.toInt) (hi2 : i1.toInt.toNat < vs.length) (P : own_S Z "com/example/stakan/stakan/NumeralsDecimalEndPinLaw" "hit" method_3_code 6 (some .boolean) p l e ({ frames := 1, cells := 0, slots := 0, locals := 12 } : Room) s m args below meth c T h [] 0 0) (hQ : Q (some (.int (F4_0 i1 i2 i3 i4 vs))) h []) :
    own_Go p e below (own_K s Q 0 0) (T.setTop (mkF m 0 #[.val (.ref o0), .val (.int i1), .val (.int i2), .val (.int i3), .val (.int i4), .unset] [])) := by
  unfold F4_0 at hQ
  refine own_iloadN P d4_0 rfl rfl ?_
  refine own_iloadN P d4_1 rfl rfl ?_
  by_cases hc5 : i1 < i2
  · rw [if_pos hc5] at hQ
    refine own_icmpY P (pc' := 10) d4_2 hc5 (by decide) (by decide) ?_
    refine own_iconst P d4_10 rfl (v := (0 : Int32)) rfl ?_
    exact own_retZ P d4_11 (z := (0 : Int32)) rfl (by decide) (by decide) hQ
  · rw [if_neg hc5] at hQ
    refine own_icmpN P (pc' := 5) d4_2 hc5 rfl ?_
    refine own_iloadN P d4_5 rfl rfl ?_
    refine own_iloadN P d4_6 rfl rfl ?_
    by_cases hc6 : i1 < i3
    · rw [if_pos hc6] at hQ
      refine own_icmpY P (pc' := 12) d4_7 hc6 (by decide) (by decide) ?_
      refine own_aloadN P d4_12 rfl rfl rfl ?_
      refine own_iloadN P d4_13 rfl rfl ?_
      refine own_caload P A_o0 d4_14 rfl hi1 hi2 (x := (vs.getD i1.toInt.toNat 0)) rfl ?_
      refine own_istore P d4_15 rfl (Ls' := #[.val (.ref o0), .val (.int i1), .val (.int i2), .val (.int i3), .val (.int i4), .val (.int (vs.getD i1.toInt.toNat 0))]) rfl ?_
      refine own_iload P d4_17 rfl rfl ?_
      by_cases hc7 : i4 = (0 : Int32)
      · rw [if_pos hc7] at hQ
        refine own_if0Y P (pc' := 35) d4_19 hc7 (by decide) (by decide) ?_
        refine own_iload P d4_35 rfl rfl ?_
        refine own_callP P (hw _ (List.mem_of_getElem? (i := 15) rfl)) (hw _ (List.mem_of_getElem? (i := 16) rfl)) (hw _ (List.mem_of_getElem? (i := 10) rfl)) (hw _ (List.mem_of_getElem? (i := 17) rfl)) (by decide) (argsL := [(.int (vs.getD i1.toInt.toNat 0))]) (rest := []) (rm5 l Z a0 hw (vs.getD i1.toInt.toNat 0) h) d4_37 rfl own_pd0 rfl rfl rfl (by decide) 0 rfl (by decide) rfl rfl (by decide) (by decide) (fun T9 P8 => ?_)
        show own_Go p e below _ (T9.setTop (mkF m 40 #[.val (.ref o0), .val (.int i1), .val (.int i2), .val (.int i3), .val (.int i4), .val (.int (vs.getD i1.toInt.toNat 0))] [(.int (F5_0 (vs.getD i1.toInt.toNat 0)))]))
        by_cases hc10 : (F5_0 (vs.getD i1.toInt.toNat 0)) = (0 : Int32)
        · rw [if_pos hc10] at hQ
          refine own_if0N P8 (pc' := 43) d4_40 (not_not_intro hc10) rfl ?_
          refine own_iload P8 d4_43 rfl rfl ?_
          refine own_bipush P8 d4_45 rfl (v := (46 : Int32)) rfl ?_
          by_cases hc11 : (vs.getD i1.toInt.toNat 0) = (46 : Int32)
          · rw [if_pos hc11] at hQ
            refine own_icmpY P8 (pc' := 54) d4_47 hc11 (by decide) (by decide) ?_
            refine own_iconst P8 d4_54 rfl (v := (0 : Int32)) rfl ?_
            exact own_retZ P8 d4_55 (z := (0 : Int32)) rfl (by decide) (by decide) hQ
          · rw [if_neg hc11] at hQ
            refine own_icmpN P8 (pc' := 50) d4_47 hc11 rfl ?_
            refine own_iconst P8 d4_50 rfl (v := (1 : Int32)) rfl ?_
            refine own_goto P8 (pc' := 55) d4_51 (by decide) (by decide) ?_
            exact own_retZ P8 d4_55 (z := (1 : Int32)) rfl (by decide) (by decide) hQ
        · rw [if_neg hc10] at hQ
          refine own_if0Y P8 (pc' := 54) d4_40 hc10 (by decide) (by decide) ?_
          refine own_iconst P8 d4_54 rfl (v := (0 : Int32)) rfl ?_
          exact own_retZ P8 d4_55 (z := (0 : Int32)) rfl (by decide) (by decide) hQ
      · rw [if_neg hc7] at hQ
        refine own_if0N P (pc' := 22) d4_19 hc7 rfl ?_
        refine own_iload P d4_22 rfl rfl ?_
        refine own_bipush P d4_24 rfl (v := (46 : Int32)) rfl ?_
        by_cases hc12 : (vs.getD i1.toInt.toNat 0) = (46 : Int32)
        · rw [if_pos hc12] at hQ
          refine own_icmpN P (pc' := 29) d4_26 (not_not_intro hc12) rfl ?_
          refine own_iconst P d4_29 rfl (v := (1 : Int32)) rfl ?_
          refine own_goto P (pc' := 34) d4_30 (by decide) (by decide) ?_
          exact own_retZ P d4_34 (z := (1 : Int32)) rfl (by decide) (by decide) hQ
        · rw [if_neg hc12] at hQ
          refine own_icmpY P (pc' := 33) d4_26 hc12 (by decide) (by decide) ?_
          refine own_iconst P d4_33 rfl (v := (0 : Int32)) rfl ?_
          exact own_retZ P d4_34 (z := (0 : Int32)) rfl (by decide) (by decide) hQ
    · rw [if_neg hc6] at hQ
      refine own_icmpN P (pc' := 10) d4_7 hc6 rfl ?_
      refine own_iconst P d4_10 rfl (v := (0 : Int32)) rfl ?_
      exact own_retZ P d4_11 (z := (0 : Int32)) rfl (by decide) (by decide) hQ
theorem rm4 (l : Launch) (Z : State) (a0 : Array Value) (hw : ∀ d ∈ tables_1, d.before a0 Z = true) (o0 : Addr) (i1 : Int32) (i2 : Int32) (i3 : Int32) (i4 : Int32) (vs : List Int32) (h : Heap) (A_o0 : own_Ar Z h o0 .char vs) (hi1 : 0 ≤ i1.toInt) (hi2 : i1.toInt.toNat < vs.length) :
    own_Con l Z (⟨"com/example/stakan/stakan/NumeralsDecimalEndPinLaw", "hit", "([CIIIZ)Z"⟩ : MethodName) method_3_code 6 (some .boolean) [] ({ frames := 1, cells := 0, slots := 0, locals := 12 } : Room) #[(.ref o0), (.int i1), (.int i2), (.int i3), (.int i4)] h (own_P (some (.int (F4_0 i1 i2 i3 i4 vs))) h) :=
  own_enter (plainFor_of_name own_pn0) #[.val (.ref o0), .val (.int i1), .val (.int i2), .val (.int i3), .val (.int i4), .unset] (fun m => by first | (simp [entryFrame, mkF, argsToLocals, Value.category]; done) | rfl) (fun p e s m below meth c T P => b4_0 hw o0 i1 i2 i3 i4 vs A_o0 hi1 hi2 P ⟨rfl, rfl, rfl⟩)
theorem d3_0 : decode method_4_code 0 = .ok (.iload_n 2, 1) := by decide +kernel
theorem d3_1 : decode method_4_code 1 = .ok (.istore 4, 2) := by decide +kernel
theorem d3_3 : decode method_4_code 3 = .ok (.aload_n 0, 1) := by decide +kernel
theorem d3_4 : decode method_4_code 4 = .ok (.iconst 4, 1) := by decide +kernel
theorem d3_5 : decode method_4_code 5 = .ok (.iload_n 1, 1) := by decide +kernel
theorem d3_6 : decode method_4_code 6 = .ok (.iload_n 2, 1) := by decide +kernel
theorem d3_7 : decode method_4_code 7 = .ok (.iload_n 3, 1) := by decide +kernel
theorem d3_8 : decode method_4_code 8 = .ok (.invokestatic 13, 3) := by decide +kernel
theorem own_pd1 : parseMethodDescriptor "([CIIIZ)Z" = some ⟨[(.array .char), .int, .int, .int, .boolean], some .boolean⟩ := by decide +kernel
theorem d3_11 : decode method_4_code 11 = .ok (.ifCond .eq 6, 3) := by decide +kernel
theorem d3_17 : decode method_4_code 17 = .ok (.aload_n 0, 1) := by decide +kernel
theorem d3_18 : decode method_4_code 18 = .ok (.iconst 3, 1) := by decide +kernel
theorem d3_19 : decode method_4_code 19 = .ok (.iload_n 1, 1) := by decide +kernel
theorem d3_20 : decode method_4_code 20 = .ok (.iload_n 2, 1) := by decide +kernel
theorem d3_21 : decode method_4_code 21 = .ok (.iload_n 3, 1) := by decide +kernel
theorem d3_22 : decode method_4_code 22 = .ok (.invokestatic 13, 3) := by decide +kernel
theorem d3_25 : decode method_4_code 25 = .ok (.ifCond .eq 6, 3) := by decide +kernel
theorem d3_31 : decode method_4_code 31 = .ok (.aload_n 0, 1) := by decide +kernel
theorem d3_32 : decode method_4_code 32 = .ok (.iconst 2, 1) := by decide +kernel
theorem d3_33 : decode method_4_code 33 = .ok (.iload_n 1, 1) := by decide +kernel
theorem d3_34 : decode method_4_code 34 = .ok (.iload_n 2, 1) := by decide +kernel
theorem d3_35 : decode method_4_code 35 = .ok (.iload_n 3, 1) := by decide +kernel
theorem d3_36 : decode method_4_code 36 = .ok (.invokestatic 13, 3) := by decide +kernel
theorem d3_39 : decode method_4_code 39 = .ok (.ifCond .eq 6, 3) := by decide +kernel
theorem d3_45 : decode method_4_code 45 = .ok (.aload_n 0, 1) := by decide +kernel
theorem d3_46 : decode method_4_code 46 = .ok (.iconst 1, 1) := by decide +kernel
theorem d3_47 : decode method_4_code 47 = .ok (.iload_n 1, 1) := by decide +kernel
theorem d3_48 : decode method_4_code 48 = .ok (.iload_n 2, 1) := by decide +kernel
theorem d3_49 : decode method_4_code 49 = .ok (.iload_n 3, 1) := by decide +kernel
theorem d3_50 : decode method_4_code 50 = .ok (.invokestatic 13, 3) := by decide +kernel
theorem d3_53 : decode method_4_code 53 = .ok (.ifCond .eq 6, 3) := by decide +kernel
theorem d3_59 : decode method_4_code 59 = .ok (.aload_n 0, 1) := by decide +kernel
theorem d3_60 : decode method_4_code 60 = .ok (.iconst 0, 1) := by decide +kernel
theorem d3_61 : decode method_4_code 61 = .ok (.iload_n 1, 1) := by decide +kernel
theorem d3_62 : decode method_4_code 62 = .ok (.iload_n 2, 1) := by decide +kernel
theorem d3_63 : decode method_4_code 63 = .ok (.iload_n 3, 1) := by decide +kernel
theorem d3_64 : decode method_4_code 64 = .ok (.invokestatic 13, 3) := by decide +kernel
theorem d3_67 : decode method_4_code 67 = .ok (.ifCond .eq 6, 3) := by decide +kernel
theorem d3_73 : decode method_4_code 73 = .ok (.iload 4, 2) := by decide +kernel
theorem d3_75 : decode method_4_code 75 = .ok (.ireturn, 1) := by decide +kernel
theorem d3_70 : decode method_4_code 70 = .ok (.iconst 0, 1) := by decide +kernel
theorem d3_71 : decode method_4_code 71 = .ok (.istore 4, 2) := by decide +kernel
theorem d3_56 : decode method_4_code 56 = .ok (.iconst 1, 1) := by decide +kernel
theorem d3_57 : decode method_4_code 57 = .ok (.istore 4, 2) := by decide +kernel
theorem d3_42 : decode method_4_code 42 = .ok (.iconst 2, 1) := by decide +kernel
theorem d3_43 : decode method_4_code 43 = .ok (.istore 4, 2) := by decide +kernel
theorem d3_28 : decode method_4_code 28 = .ok (.iconst 3, 1) := by decide +kernel
theorem d3_29 : decode method_4_code 29 = .ok (.istore 4, 2) := by decide +kernel
theorem d3_14 : decode method_4_code 14 = .ok (.iconst 4, 1) := by decide +kernel
theorem d3_15 : decode method_4_code 15 = .ok (.istore 4, 2) := by decide +kernel
def F3_59 (i1 : Int32) (i2 : Int32) (i3 : Int32) (i4 : Int32) (vs : List Int32) : Int32 := (if (F4_0 (0 : Int32) i1 i2 i3 vs) = (0 : Int32) then i4 else (0 : Int32))
set_option maxRecDepth 65536 in
set_option maxHeartbeats 40000000 in
theorem b3_59 {p : Program} {l : Launch} {e : Env} {s : State} {m : MethodId} {args : Array Value} {below : List Frame} {meth : Method} {c : Code} {T : State} {h : Heap} {Z : State} {a0 : Array Value} {Q : Option Value → Heap → List Loc → Prop} (hw : ∀ d ∈ tables_1, d.before a0 Z = true) (o0 : Addr) (i1 : Int32) (i2 : Int32) (i3 : Int32) (i4 : Int32) (vs : List Int32) (A_o0 : own_Ar Z h o0 .char vs) (hlen : vs.length = 5) (P : own_S Z "com/example/stakan/stakan/NumeralsDecimalEndPinLaw" "firstHit" method_4_code 5 (some .int) p l e ({ frames := 2, cells := 0, slots := 0, locals := 29 } : Room) s m args below meth c T h [] 0 0) (hQ : Q (some (.int (F3_59 i1 i2 i3 i4 vs))) h []) :
    own_Go p e below (own_K s Q 0 0) (T.setTop (mkF m 59 #[.val (.ref o0), .val (.int i1), .val (.int i2), .val (.int i3), .val (.int i4)] [])) := by
  unfold F3_59 at hQ
  refine own_aloadN P d3_59 rfl rfl rfl ?_
  refine own_iconst P d3_60 rfl (v := (0 : Int32)) rfl ?_
  refine own_iloadN P d3_61 rfl rfl ?_
  refine own_iloadN P d3_62 rfl rfl ?_
  refine own_iloadN P d3_63 rfl rfl ?_
  refine own_callP P (hw _ (List.mem_of_getElem? (i := 12) rfl)) (hw _ (List.mem_of_getElem? (i := 13) rfl)) (hw _ (List.mem_of_getElem? (i := 10) rfl)) (hw _ (List.mem_of_getElem? (i := 14) rfl)) (by decide) (argsL := [(.ref o0), (.int (0 : Int32)), (.int i1), (.int i2), (.int i3)]) (rest := []) (rm4 l Z a0 hw o0 (0 : Int32) i1 i2 i3 vs h A_o0 (by decide) (by rw [hlen]; decide)) d3_64 rfl own_pd1 rfl rfl rfl (by decide) 0 rfl (by decide) rfl rfl (by decide) (by decide) (fun T42 P41 => ?_)
  show own_Go p e below _ (T42.setTop (mkF m 67 #[.val (.ref o0), .val (.int i1), .val (.int i2), .val (.int i3), .val (.int i4)] [(.int (F4_0 (0 : Int32) i1 i2 i3 vs))]))
  by_cases hc47 : (F4_0 (0 : Int32) i1 i2 i3 vs) = (0 : Int32)
  · rw [if_pos hc47] at hQ
    refine own_if0Y P41 (pc' := 73) d3_67 hc47 (by decide) (by decide) ?_
    refine own_iload P41 d3_73 rfl rfl ?_
    exact own_retI P41 d3_75 (by decide) (by decide) hQ
  · rw [if_neg hc47] at hQ
    refine own_if0N P41 (pc' := 70) d3_67 hc47 rfl ?_
    refine own_iconst P41 d3_70 rfl (v := (0 : Int32)) rfl ?_
    refine own_istore P41 d3_71 rfl (Ls' := #[.val (.ref o0), .val (.int i1), .val (.int i2), .val (.int i3), .val (.int (0 : Int32))]) rfl ?_
    refine own_iload P41 d3_73 rfl rfl ?_
    exact own_retI P41 d3_75 (by decide) (by decide) hQ
def F3_45 (i1 : Int32) (i2 : Int32) (i3 : Int32) (i4 : Int32) (vs : List Int32) : Int32 := (if (F4_0 (1 : Int32) i1 i2 i3 vs) = (0 : Int32) then (F3_59 i1 i2 i3 i4 vs) else (F3_59 i1 i2 i3 (1 : Int32) vs))
set_option maxRecDepth 65536 in
set_option maxHeartbeats 40000000 in
theorem b3_45 {p : Program} {l : Launch} {e : Env} {s : State} {m : MethodId} {args : Array Value} {below : List Frame} {meth : Method} {c : Code} {T : State} {h : Heap} {Z : State} {a0 : Array Value} {Q : Option Value → Heap → List Loc → Prop} (hw : ∀ d ∈ tables_1, d.before a0 Z = true) (o0 : Addr) (i1 : Int32) (i2 : Int32) (i3 : Int32) (i4 : Int32) (vs : List Int32) (A_o0 : own_Ar Z h o0 .char vs) (hlen : vs.length = 5) (P : own_S Z "com/example/stakan/stakan/NumeralsDecimalEndPinLaw" "firstHit" method_4_code 5 (some .int) p l e ({ frames := 2, cells := 0, slots := 0, locals := 29 } : Room) s m args below meth c T h [] 0 0) (hQ : Q (some (.int (F3_45 i1 i2 i3 i4 vs))) h []) :
    own_Go p e below (own_K s Q 0 0) (T.setTop (mkF m 45 #[.val (.ref o0), .val (.int i1), .val (.int i2), .val (.int i3), .val (.int i4)] [])) := by
  unfold F3_45 at hQ
  refine own_aloadN P d3_45 rfl rfl rfl ?_
  refine own_iconst P d3_46 rfl (v := (1 : Int32)) rfl ?_
  refine own_iloadN P d3_47 rfl rfl ?_
  refine own_iloadN P d3_48 rfl rfl ?_
  refine own_iloadN P d3_49 rfl rfl ?_
  refine own_callP P (hw _ (List.mem_of_getElem? (i := 12) rfl)) (hw _ (List.mem_of_getElem? (i := 13) rfl)) (hw _ (List.mem_of_getElem? (i := 10) rfl)) (hw _ (List.mem_of_getElem? (i := 14) rfl)) (by decide) (argsL := [(.ref o0), (.int (1 : Int32)), (.int i1), (.int i2), (.int i3)]) (rest := []) (rm4 l Z a0 hw o0 (1 : Int32) i1 i2 i3 vs h A_o0 (by decide) (by rw [hlen]; decide)) d3_50 rfl own_pd1 rfl rfl rfl (by decide) 0 rfl (by decide) rfl rfl (by decide) (by decide) (fun T35 P34 => ?_)
  show own_Go p e below _ (T35.setTop (mkF m 53 #[.val (.ref o0), .val (.int i1), .val (.int i2), .val (.int i3), .val (.int i4)] [(.int (F4_0 (1 : Int32) i1 i2 i3 vs))]))
  by_cases hc40 : (F4_0 (1 : Int32) i1 i2 i3 vs) = (0 : Int32)
  · rw [if_pos hc40] at hQ
    refine own_if0Y P34 (pc' := 59) d3_53 hc40 (by decide) (by decide) ?_
    exact b3_59 hw o0 i1 i2 i3 i4 vs A_o0 hlen P34 hQ
  · rw [if_neg hc40] at hQ
    refine own_if0N P34 (pc' := 56) d3_53 hc40 rfl ?_
    refine own_iconst P34 d3_56 rfl (v := (1 : Int32)) rfl ?_
    refine own_istore P34 d3_57 rfl (Ls' := #[.val (.ref o0), .val (.int i1), .val (.int i2), .val (.int i3), .val (.int (1 : Int32))]) rfl ?_
    exact b3_59 hw o0 i1 i2 i3 (1 : Int32) vs A_o0 hlen P34 hQ
def F3_31 (i1 : Int32) (i2 : Int32) (i3 : Int32) (i4 : Int32) (vs : List Int32) : Int32 := (if (F4_0 (2 : Int32) i1 i2 i3 vs) = (0 : Int32) then (F3_45 i1 i2 i3 i4 vs) else (F3_45 i1 i2 i3 (2 : Int32) vs))
set_option maxRecDepth 65536 in
set_option maxHeartbeats 40000000 in
theorem b3_31 {p : Program} {l : Launch} {e : Env} {s : State} {m : MethodId} {args : Array Value} {below : List Frame} {meth : Method} {c : Code} {T : State} {h : Heap} {Z : State} {a0 : Array Value} {Q : Option Value → Heap → List Loc → Prop} (hw : ∀ d ∈ tables_1, d.before a0 Z = true) (o0 : Addr) (i1 : Int32) (i2 : Int32) (i3 : Int32) (i4 : Int32) (vs : List Int32) (A_o0 : own_Ar Z h o0 .char vs) (hlen : vs.length = 5) (P : own_S Z "com/example/stakan/stakan/NumeralsDecimalEndPinLaw" "firstHit" method_4_code 5 (some .int) p l e ({ frames := 2, cells := 0, slots := 0, locals := 29 } : Room) s m args below meth c T h [] 0 0) (hQ : Q (some (.int (F3_31 i1 i2 i3 i4 vs))) h []) :
    own_Go p e below (own_K s Q 0 0) (T.setTop (mkF m 31 #[.val (.ref o0), .val (.int i1), .val (.int i2), .val (.int i3), .val (.int i4)] [])) := by
  unfold F3_31 at hQ
  refine own_aloadN P d3_31 rfl rfl rfl ?_
  refine own_iconst P d3_32 rfl (v := (2 : Int32)) rfl ?_
  refine own_iloadN P d3_33 rfl rfl ?_
  refine own_iloadN P d3_34 rfl rfl ?_
  refine own_iloadN P d3_35 rfl rfl ?_
  refine own_callP P (hw _ (List.mem_of_getElem? (i := 12) rfl)) (hw _ (List.mem_of_getElem? (i := 13) rfl)) (hw _ (List.mem_of_getElem? (i := 10) rfl)) (hw _ (List.mem_of_getElem? (i := 14) rfl)) (by decide) (argsL := [(.ref o0), (.int (2 : Int32)), (.int i1), (.int i2), (.int i3)]) (rest := []) (rm4 l Z a0 hw o0 (2 : Int32) i1 i2 i3 vs h A_o0 (by decide) (by rw [hlen]; decide)) d3_36 rfl own_pd1 rfl rfl rfl (by decide) 0 rfl (by decide) rfl rfl (by decide) (by decide) (fun T28 P27 => ?_)
  show own_Go p e below _ (T28.setTop (mkF m 39 #[.val (.ref o0), .val (.int i1), .val (.int i2), .val (.int i3), .val (.int i4)] [(.int (F4_0 (2 : Int32) i1 i2 i3 vs))]))
  by_cases hc33 : (F4_0 (2 : Int32) i1 i2 i3 vs) = (0 : Int32)
  · rw [if_pos hc33] at hQ
    refine own_if0Y P27 (pc' := 45) d3_39 hc33 (by decide) (by decide) ?_
    exact b3_45 hw o0 i1 i2 i3 i4 vs A_o0 hlen P27 hQ
  · rw [if_neg hc33] at hQ
    refine own_if0N P27 (pc' := 42) d3_39 hc33 rfl ?_
    refine own_iconst P27 d3_42 rfl (v := (2 : Int32)) rfl ?_
    refine own_istore P27 d3_43 rfl (Ls' := #[.val (.ref o0), .val (.int i1), .val (.int i2), .val (.int i3), .val (.int (2 : Int32))]) rfl ?_
    exact b3_45 hw o0 i1 i2 i3 (2 : Int32) vs A_o0 hlen P27 hQ
def F3_17 (i1 : Int32) (i2 : Int32) (i3 : Int32) (i4 : Int32) (vs : List Int32) : Int32 := (if (F4_0 (3 : Int32) i1 i2 i3 vs) = (0 : Int32) then (F3_31 i1 i2 i3 i4 vs) else (F3_31 i1 i2 i3 (3 : Int32) vs))
set_option maxRecDepth 65536 in
set_option maxHeartbeats 40000000 in
theorem b3_17 {p : Program} {l : Launch} {e : Env} {s : State} {m : MethodId} {args : Array Value} {below : List Frame} {meth : Method} {c : Code} {T : State} {h : Heap} {Z : State} {a0 : Array Value} {Q : Option Value → Heap → List Loc → Prop} (hw : ∀ d ∈ tables_1, d.before a0 Z = true) (o0 : Addr) (i1 : Int32) (i2 : Int32) (i3 : Int32) (i4 : Int32) (vs : List Int32) (A_o0 : own_Ar Z h o0 .char vs) (hlen : vs.length = 5) (P : own_S Z "com/example/stakan/stakan/NumeralsDecimalEndPinLaw" "firstHit" method_4_code 5 (some .int) p l e ({ frames := 2, cells := 0, slots := 0, locals := 29 } : Room) s m args below meth c T h [] 0 0) (hQ : Q (some (.int (F3_17 i1 i2 i3 i4 vs))) h []) :
    own_Go p e below (own_K s Q 0 0) (T.setTop (mkF m 17 #[.val (.ref o0), .val (.int i1), .val (.int i2), .val (.int i3), .val (.int i4)] [])) := by
  unfold F3_17 at hQ
  refine own_aloadN P d3_17 rfl rfl rfl ?_
  refine own_iconst P d3_18 rfl (v := (3 : Int32)) rfl ?_
  refine own_iloadN P d3_19 rfl rfl ?_
  refine own_iloadN P d3_20 rfl rfl ?_
  refine own_iloadN P d3_21 rfl rfl ?_
  refine own_callP P (hw _ (List.mem_of_getElem? (i := 12) rfl)) (hw _ (List.mem_of_getElem? (i := 13) rfl)) (hw _ (List.mem_of_getElem? (i := 10) rfl)) (hw _ (List.mem_of_getElem? (i := 14) rfl)) (by decide) (argsL := [(.ref o0), (.int (3 : Int32)), (.int i1), (.int i2), (.int i3)]) (rest := []) (rm4 l Z a0 hw o0 (3 : Int32) i1 i2 i3 vs h A_o0 (by decide) (by rw [hlen]; decide)) d3_22 rfl own_pd1 rfl rfl rfl (by decide) 0 rfl (by decide) rfl rfl (by decide) (by decide) (fun T21 P20 => ?_)
  show own_Go p e below _ (T21.setTop (mkF m 25 #[.val (.ref o0), .val (.int i1), .val (.int i2), .val (.int i3), .val (.int i4)] [(.int (F4_0 (3 : Int32) i1 i2 i3 vs))]))
  by_cases hc26 : (F4_0 (3 : Int32) i1 i2 i3 vs) = (0 : Int32)
  · rw [if_pos hc26] at hQ
    refine own_if0Y P20 (pc' := 31) d3_25 hc26 (by decide) (by decide) ?_
    exact b3_31 hw o0 i1 i2 i3 i4 vs A_o0 hlen P20 hQ
  · rw [if_neg hc26] at hQ
    refine own_if0N P20 (pc' := 28) d3_25 hc26 rfl ?_
    refine own_iconst P20 d3_28 rfl (v := (3 : Int32)) rfl ?_
    refine own_istore P20 d3_29 rfl (Ls' := #[.val (.ref o0), .val (.int i1), .val (.int i2), .val (.int i3), .val (.int (3 : Int32))]) rfl ?_
    exact b3_31 hw o0 i1 i2 i3 (3 : Int32) vs A_o0 hlen P20 hQ
def F3_0 (i1 : Int32) (i2 : Int32) (i3 : Int32) (vs : List Int32) : Int32 := (if (F4_0 (4 : Int32) i1 i2 i3 vs) = (0 : Int32) then (F3_17 i1 i2 i3 i2 vs) else (F3_17 i1 i2 i3 (4 : Int32) vs))
set_option maxRecDepth 65536 in
set_option maxHeartbeats 40000000 in
theorem b3_0 {p : Program} {l : Launch} {e : Env} {s : State} {m : MethodId} {args : Array Value} {below : List Frame} {meth : Method} {c : Code} {T : State} {h : Heap} {Z : State} {a0 : Array Value} {Q : Option Value → Heap → List Loc → Prop} (hw : ∀ d ∈ tables_1, d.before a0 Z = true) (o0 : Addr) (i1 : Int32) (i2 : Int32) (i3 : Int32) (vs : List Int32) (A_o0 : own_Ar Z h o0 .char vs) (hlen : vs.length = 5) (P : own_S Z "com/example/stakan/stakan/NumeralsDecimalEndPinLaw" "firstHit" method_4_code 5 (some .int) p l e ({ frames := 2, cells := 0, slots := 0, locals := 29 } : Room) s m args below meth c T h [] 0 0) (hQ : Q (some (.int (F3_0 i1 i2 i3 vs))) h []) :
    own_Go p e below (own_K s Q 0 0) (T.setTop (mkF m 0 #[.val (.ref o0), .val (.int i1), .val (.int i2), .val (.int i3), .unset] [])) := by
  unfold F3_0 at hQ
  refine own_iloadN P d3_0 rfl rfl ?_
  refine own_istore P d3_1 rfl (Ls' := #[.val (.ref o0), .val (.int i1), .val (.int i2), .val (.int i3), .val (.int i2)]) rfl ?_
  refine own_aloadN P d3_3 rfl rfl rfl ?_
  refine own_iconst P d3_4 rfl (v := (4 : Int32)) rfl ?_
  refine own_iloadN P d3_5 rfl rfl ?_
  refine own_iloadN P d3_6 rfl rfl ?_
  refine own_iloadN P d3_7 rfl rfl ?_
  refine own_callP P (hw _ (List.mem_of_getElem? (i := 12) rfl)) (hw _ (List.mem_of_getElem? (i := 13) rfl)) (hw _ (List.mem_of_getElem? (i := 10) rfl)) (hw _ (List.mem_of_getElem? (i := 14) rfl)) (by decide) (argsL := [(.ref o0), (.int (4 : Int32)), (.int i1), (.int i2), (.int i3)]) (rest := []) (rm4 l Z a0 hw o0 (4 : Int32) i1 i2 i3 vs h A_o0 (by decide) (by rw [hlen]; decide)) d3_8 rfl own_pd1 rfl rfl rfl (by decide) 0 rfl (by decide) rfl rfl (by decide) (by decide) (fun T14 P13 => ?_)
  show own_Go p e below _ (T14.setTop (mkF m 11 #[.val (.ref o0), .val (.int i1), .val (.int i2), .val (.int i3), .val (.int i2)] [(.int (F4_0 (4 : Int32) i1 i2 i3 vs))]))
  by_cases hc19 : (F4_0 (4 : Int32) i1 i2 i3 vs) = (0 : Int32)
  · rw [if_pos hc19] at hQ
    refine own_if0Y P13 (pc' := 17) d3_11 hc19 (by decide) (by decide) ?_
    exact b3_17 hw o0 i1 i2 i3 i2 vs A_o0 hlen P13 hQ
  · rw [if_neg hc19] at hQ
    refine own_if0N P13 (pc' := 14) d3_11 hc19 rfl ?_
    refine own_iconst P13 d3_14 rfl (v := (4 : Int32)) rfl ?_
    refine own_istore P13 d3_15 rfl (Ls' := #[.val (.ref o0), .val (.int i1), .val (.int i2), .val (.int i3), .val (.int (4 : Int32))]) rfl ?_
    exact b3_17 hw o0 i1 i2 i3 (4 : Int32) vs A_o0 hlen P13 hQ
theorem rm3 (l : Launch) (Z : State) (a0 : Array Value) (hw : ∀ d ∈ tables_1, d.before a0 Z = true) (o0 : Addr) (i1 : Int32) (i2 : Int32) (i3 : Int32) (vs : List Int32) (h : Heap) (A_o0 : own_Ar Z h o0 .char vs) (hlen : vs.length = 5) :
    own_Con l Z (⟨"com/example/stakan/stakan/NumeralsDecimalEndPinLaw", "firstHit", "([CIIZ)I"⟩ : MethodName) method_4_code 5 (some .int) [] ({ frames := 2, cells := 0, slots := 0, locals := 29 } : Room) #[(.ref o0), (.int i1), (.int i2), (.int i3)] h (own_P (some (.int (F3_0 i1 i2 i3 vs))) h) :=
  own_enter (plainFor_of_name own_pn0) #[.val (.ref o0), .val (.int i1), .val (.int i2), .val (.int i3), .unset] (fun m => by first | (simp [entryFrame, mkF, argsToLocals, Value.category]; done) | rfl) (fun p e s m below meth c T P => b3_0 hw o0 i1 i2 i3 vs A_o0 hlen P ⟨rfl, rfl, rfl⟩)
theorem d6_8 : decode prog_27_method_2_code 8 = .ok (.iload 5, 2) := by decide +kernel
theorem d6_10 : decode prog_27_method_2_code 10 = .ok (.iload_n 2, 1) := by decide +kernel
theorem d6_11 : decode prog_27_method_2_code 11 = .ok (.if_icmp .ge 49, 3) := by decide +kernel
theorem d6_60 : decode prog_27_method_2_code 60 = .ok (.iload_n 3, 1) := by decide +kernel
theorem d6_61 : decode prog_27_method_2_code 61 = .ok (.ifCond .eq 8, 3) := by decide +kernel
theorem d6_69 : decode prog_27_method_2_code 69 = .ok (.iconst (-1), 1) := by decide +kernel
theorem d6_70 : decode prog_27_method_2_code 70 = .ok (.ireturn, 1) := by decide +kernel
theorem d6_64 : decode prog_27_method_2_code 64 = .ok (.iload 5, 2) := by decide +kernel
theorem d6_66 : decode prog_27_method_2_code 66 = .ok (.goto 4, 3) := by decide +kernel
theorem d6_14 : decode prog_27_method_2_code 14 = .ok (.aload_n 0, 1) := by decide +kernel
theorem d6_15 : decode prog_27_method_2_code 15 = .ok (.iload 5, 2) := by decide +kernel
theorem d6_17 : decode prog_27_method_2_code 17 = .ok (.caload, 1) := by decide +kernel
theorem d6_18 : decode prog_27_method_2_code 18 = .ok (.istore 6, 2) := by decide +kernel
theorem d6_20 : decode prog_27_method_2_code 20 = .ok (.iload 6, 2) := by decide +kernel
theorem d6_22 : decode prog_27_method_2_code 22 = .ok (.bipush 48, 2) := by decide +kernel
theorem d6_24 : decode prog_27_method_2_code 24 = .ok (.if_icmp .lt 15, 3) := by decide +kernel
theorem d6_39 : decode prog_27_method_2_code 39 = .ok (.iload 6, 2) := by decide +kernel
theorem d6_41 : decode prog_27_method_2_code 41 = .ok (.bipush 46, 2) := by decide +kernel
theorem d6_43 : decode prog_27_method_2_code 43 = .ok (.if_icmp .ne 17, 3) := by decide +kernel
theorem d6_46 : decode prog_27_method_2_code 46 = .ok (.iload 4, 2) := by decide +kernel
theorem d6_48 : decode prog_27_method_2_code 48 = .ok (.ifCond .ne 12, 3) := by decide +kernel
theorem d6_51 : decode prog_27_method_2_code 51 = .ok (.iconst 1, 1) := by decide +kernel
theorem d6_52 : decode prog_27_method_2_code 52 = .ok (.istore 4, 2) := by decide +kernel
theorem d6_54 : decode prog_27_method_2_code 54 = .ok (.iinc 5 1, 3) := by decide +kernel
theorem d6_57 : decode prog_27_method_2_code 57 = .ok (.goto (-49), 3) := by decide +kernel
theorem d6_27 : decode prog_27_method_2_code 27 = .ok (.iload 6, 2) := by decide +kernel
theorem d6_29 : decode prog_27_method_2_code 29 = .ok (.bipush 57, 2) := by decide +kernel
theorem d6_31 : decode prog_27_method_2_code 31 = .ok (.if_icmp .gt 8, 3) := by decide +kernel
theorem d6_34 : decode prog_27_method_2_code 34 = .ok (.iconst 1, 1) := by decide +kernel
theorem d6_35 : decode prog_27_method_2_code 35 = .ok (.istore_n 3, 1) := by decide +kernel
theorem d6_36 : decode prog_27_method_2_code 36 = .ok (.goto 18, 3) := by decide +kernel
theorem d6_0 : decode prog_27_method_2_code 0 = .ok (.iconst 0, 1) := by decide +kernel
theorem d6_1 : decode prog_27_method_2_code 1 = .ok (.istore_n 3, 1) := by decide +kernel
theorem d6_2 : decode prog_27_method_2_code 2 = .ok (.iconst 0, 1) := by decide +kernel
theorem d6_3 : decode prog_27_method_2_code 3 = .ok (.istore 4, 2) := by decide +kernel
theorem d6_5 : decode prog_27_method_2_code 5 = .ok (.iload_n 1, 1) := by decide +kernel
theorem d6_6 : decode prog_27_method_2_code 6 = .ok (.istore 5, 2) := by decide +kernel
def F6_60 (i3 : Int32) (i5 : Int32) : Int32 := (if i3 = (0 : Int32) then (-1 : Int32) else i5)
set_option maxRecDepth 65536 in
set_option maxHeartbeats 40000000 in
theorem b6_60 {p : Program} {l : Launch} {e : Env} {s : State} {m : MethodId} {args : Array Value} {below : List Frame} {meth : Method} {c : Code} {T : State} {h : Heap} {Z : State} {a0 : Array Value} {Q : Option Value → Heap → List Loc → Prop} (hw : ∀ d ∈ tables_1, d.before a0 Z = true) (o0 : Addr) (i1 : Int32) (i2 : Int32) (i3 : Int32) (i4 : Int32) (i5 : Int32) (s6 : Slot) (h_s6 : own_One s6) (vs : List Int32) (A_o0 : own_Ar Z h o0 .char vs) (hlen : vs.length < 2147483648) (P : own_S Z "com/example/stakan/stakan/Numerals" "decimalEnd" prog_27_method_2_code 7 (some .int) p l e ({ frames := 0, cells := 0, slots := 0, locals := 0 } : Room) s m args below meth c T h [] 0 0) (hQ : Q (some (.int (F6_60 i3 i5))) h []) :
    own_Go p e below (own_K s Q 0 0) (T.setTop (mkF m 60 #[.val (.ref o0), .val (.int i1), .val (.int i2), .val (.int i3), .val (.int i4), .val (.int i5), s6] [])) := by
  unfold F6_60 at hQ
  refine own_iloadN P d6_60 rfl rfl ?_
  by_cases hc48 : i3 = (0 : Int32)
  · rw [if_pos hc48] at hQ
    refine own_if0Y P (pc' := 69) d6_61 hc48 (by decide) (by decide) ?_
    refine own_iconst P d6_69 rfl (v := (-1 : Int32)) rfl ?_
    exact own_retI P d6_70 (by decide) (by decide) hQ
  · rw [if_neg hc48] at hQ
    refine own_if0N P (pc' := 64) d6_61 hc48 rfl ?_
    refine own_iload P d6_64 rfl rfl ?_
    refine own_goto P (pc' := 70) d6_66 (by decide) (by decide) ?_
    exact own_retI P d6_70 (by decide) (by decide) hQ
theorem own_inc (x : Int32) (h : x.toInt + 1 < 2147483648) : (x + (1 : Int32)).toInt = x.toInt + 1 := by
  have z : (1 : Int32).toInt = 1 := by decide
  have l := Int32.le_toInt x
  rw [Jvm.Kit.i32_add (by rw [z]; omega) (by rw [z]; omega), z]
def own_dec (vs : List Int32) : Nat → Int32 → Int32 → Int32 → Int32
  | 0, i5, i3, i4 => (F6_60 i3 i5)
  | k + 1, i5, i3, i4 => (if (vs.getD i5.toInt.toNat 0) < (48 : Int32) then (if (vs.getD i5.toInt.toNat 0) = (46 : Int32) then (if i4 = (0 : Int32) then (own_dec vs k (i5 + (1 : Int32)) i3 (1 : Int32)) else (F6_60 i3 i5)) else (F6_60 i3 i5)) else (if (57 : Int32) < (vs.getD i5.toInt.toNat 0) then (if (vs.getD i5.toInt.toNat 0) = (46 : Int32) then (if i4 = (0 : Int32) then (own_dec vs k (i5 + (1 : Int32)) i3 (1 : Int32)) else (F6_60 i3 i5)) else (F6_60 i3 i5)) else (own_dec vs k (i5 + (1 : Int32)) (1 : Int32) i4)))
set_option maxRecDepth 65536 in
set_option maxHeartbeats 40000000 in
theorem b6_8 {p : Program} {l : Launch} {e : Env} {s : State} {m : MethodId} {args : Array Value} {below : List Frame} {meth : Method} {c : Code}  {h : Heap} {Z : State} {a0 : Array Value} {Q : Option Value → Heap → List Loc → Prop} (hw : ∀ d ∈ tables_1, d.before a0 Z = true) (o0 : Addr) (i1 i2 : Int32) (vs : List Int32) (A_o0 : own_Ar Z h o0 .char vs) (hlen : vs.length < 2147483648) (hb3 : i2.toInt ≤ vs.length) : ∀ (k : Nat) (i5 i3 i4 : Int32) (s6 : Slot), own_One s6 → ∀ (T : State), 0 ≤ i5.toInt → i5.toInt + k = i2.toInt → own_S Z "com/example/stakan/stakan/Numerals" "decimalEnd" prog_27_method_2_code 7 (some .int) p l e ({ frames := 0, cells := 0, slots := 0, locals := 0 } : Room) s m args below meth c T h [] 0 0 → Q (some (.int (own_dec vs k i5 i3 i4))) h [] →
    own_Go p e below (own_K s Q 0 0) (T.setTop (mkF m 8 #[.val (.ref o0), .val (.int i1), .val (.int i2), .val (.int i3), .val (.int i4), .val (.int i5), s6] [])) := by
  intro k
  induction k with
  | zero =>
    intro i5 i3 i4 s6 h_s6 T hp hi P hQ
    rw [own_dec] at hQ
    have hc : ¬ (i5 < i2) := by rw [Int32.lt_iff_toInt_lt]; omega
    refine own_iload P d6_8 rfl rfl ?_
    refine own_iloadN P d6_10 rfl rfl ?_
    refine own_icmpY P (pc' := 60) d6_11 hc (by decide) (by decide) ?_
    exact b6_60 hw o0 i1 i2 i3 i4 i5 (s6) h_s6 vs A_o0 hlen P hQ
  | succ k ih =>
    intro i5 i3 i4 s6 h_s6 T hp hi P hQ
    have hc : i5 < i2 := by rw [Int32.lt_iff_toInt_lt]; omega
    rw [own_dec] at hQ
    refine own_iload P d6_8 rfl rfl ?_
    refine own_iloadN P d6_10 rfl rfl ?_
    refine own_icmpN P (pc' := 14) d6_11 (not_not_intro hc) rfl ?_
    refine own_aloadN P d6_14 rfl rfl rfl ?_
    refine own_iload P d6_15 rfl rfl ?_
    refine own_caload P A_o0 d6_17 rfl hp (by omega) (x := (vs.getD i5.toInt.toNat 0)) rfl ?_
    refine own_istore P d6_18 rfl (Ls' := #[.val (.ref o0), .val (.int i1), .val (.int i2), .val (.int i3), .val (.int i4), .val (.int i5), .val (.int (vs.getD i5.toInt.toNat 0))]) (by rcases h_s6 with rfl | ⟨w, rfl, hw⟩; rfl; cases w <;> first | rfl | (simp [Value.category] at hw)) ?_
    refine own_iload P d6_20 rfl rfl ?_
    refine own_bipush P d6_22 rfl (v := (48 : Int32)) rfl ?_
    by_cases hc49 : (vs.getD i5.toInt.toNat 0) < (48 : Int32)
    · rw [if_pos hc49] at hQ
      refine own_icmpY P (pc' := 39) d6_24 hc49 (by decide) (by decide) ?_
      refine own_iload P d6_39 rfl rfl ?_
      refine own_bipush P d6_41 rfl (v := (46 : Int32)) rfl ?_
      by_cases hc50 : (vs.getD i5.toInt.toNat 0) = (46 : Int32)
      · rw [if_pos hc50] at hQ
        refine own_icmpN P (pc' := 46) d6_43 (not_not_intro hc50) rfl ?_
        refine own_iload P d6_46 rfl rfl ?_
        by_cases hc51 : i4 = (0 : Int32)
        · rw [if_pos hc51] at hQ
          refine own_if0N P (pc' := 51) d6_48 (not_not_intro hc51) rfl ?_
          refine own_iconst P d6_51 rfl (v := (1 : Int32)) rfl ?_
          refine own_istore P d6_52 rfl (Ls' := #[.val (.ref o0), .val (.int i1), .val (.int i2), .val (.int i3), .val (.int (1 : Int32)), .val (.int i5), .val (.int (vs.getD i5.toInt.toNat 0))]) rfl ?_
          refine own_iinc P d6_54 rfl rfl (v := (1 : Int32)) rfl (Ls' := #[.val (.ref o0), .val (.int i1), .val (.int i2), .val (.int i3), .val (.int (1 : Int32)), .val (.int (i5 + (1 : Int32))), .val (.int (vs.getD i5.toInt.toNat 0))]) rfl ?_
          refine own_goto P (pc' := 8) d6_57 (by decide) (by decide) ?_
          exact ih (i5 + (1 : Int32)) i3 (1 : Int32) _ (Or.inr ⟨_, rfl, rfl⟩) _ (by rw [own_inc _ (by omega)]; omega) (by rw [own_inc _ (by omega)]; omega) P hQ
        · rw [if_neg hc51] at hQ
          refine own_if0Y P (pc' := 60) d6_48 hc51 (by decide) (by decide) ?_
          exact b6_60 hw o0 i1 i2 i3 i4 i5 (.val (.int (vs.getD i5.toInt.toNat 0))) (Or.inr ⟨_, rfl, rfl⟩) vs A_o0 hlen P hQ
      · rw [if_neg hc50] at hQ
        refine own_icmpY P (pc' := 60) d6_43 hc50 (by decide) (by decide) ?_
        exact b6_60 hw o0 i1 i2 i3 i4 i5 (.val (.int (vs.getD i5.toInt.toNat 0))) (Or.inr ⟨_, rfl, rfl⟩) vs A_o0 hlen P hQ
    · rw [if_neg hc49] at hQ
      refine own_icmpN P (pc' := 27) d6_24 hc49 rfl ?_
      refine own_iload P d6_27 rfl rfl ?_
      refine own_bipush P d6_29 rfl (v := (57 : Int32)) rfl ?_
      by_cases hc52 : (57 : Int32) < (vs.getD i5.toInt.toNat 0)
      · rw [if_pos hc52] at hQ
        refine own_icmpY P (pc' := 39) d6_31 hc52 (by decide) (by decide) ?_
        refine own_iload P d6_39 rfl rfl ?_
        refine own_bipush P d6_41 rfl (v := (46 : Int32)) rfl ?_
        by_cases hc53 : (vs.getD i5.toInt.toNat 0) = (46 : Int32)
        · rw [if_pos hc53] at hQ
          refine own_icmpN P (pc' := 46) d6_43 (not_not_intro hc53) rfl ?_
          refine own_iload P d6_46 rfl rfl ?_
          by_cases hc54 : i4 = (0 : Int32)
          · rw [if_pos hc54] at hQ
            refine own_if0N P (pc' := 51) d6_48 (not_not_intro hc54) rfl ?_
            refine own_iconst P d6_51 rfl (v := (1 : Int32)) rfl ?_
            refine own_istore P d6_52 rfl (Ls' := #[.val (.ref o0), .val (.int i1), .val (.int i2), .val (.int i3), .val (.int (1 : Int32)), .val (.int i5), .val (.int (vs.getD i5.toInt.toNat 0))]) rfl ?_
            refine own_iinc P d6_54 rfl rfl (v := (1 : Int32)) rfl (Ls' := #[.val (.ref o0), .val (.int i1), .val (.int i2), .val (.int i3), .val (.int (1 : Int32)), .val (.int (i5 + (1 : Int32))), .val (.int (vs.getD i5.toInt.toNat 0))]) rfl ?_
            refine own_goto P (pc' := 8) d6_57 (by decide) (by decide) ?_
            exact ih (i5 + (1 : Int32)) i3 (1 : Int32) _ (Or.inr ⟨_, rfl, rfl⟩) _ (by rw [own_inc _ (by omega)]; omega) (by rw [own_inc _ (by omega)]; omega) P hQ
          · rw [if_neg hc54] at hQ
            refine own_if0Y P (pc' := 60) d6_48 hc54 (by decide) (by decide) ?_
            exact b6_60 hw o0 i1 i2 i3 i4 i5 (.val (.int (vs.getD i5.toInt.toNat 0))) (Or.inr ⟨_, rfl, rfl⟩) vs A_o0 hlen P hQ
        · rw [if_neg hc53] at hQ
          refine own_icmpY P (pc' := 60) d6_43 hc53 (by decide) (by decide) ?_
          exact b6_60 hw o0 i1 i2 i3 i4 i5 (.val (.int (vs.getD i5.toInt.toNat 0))) (Or.inr ⟨_, rfl, rfl⟩) vs A_o0 hlen P hQ
      · rw [if_neg hc52] at hQ
        refine own_icmpN P (pc' := 34) d6_31 hc52 rfl ?_
        refine own_iconst P d6_34 rfl (v := (1 : Int32)) rfl ?_
        refine own_istoreN P d6_35 rfl (Ls' := #[.val (.ref o0), .val (.int i1), .val (.int i2), .val (.int (1 : Int32)), .val (.int i4), .val (.int i5), .val (.int (vs.getD i5.toInt.toNat 0))]) rfl ?_
        refine own_goto P (pc' := 54) d6_36 (by decide) (by decide) ?_
        refine own_iinc P d6_54 rfl rfl (v := (1 : Int32)) rfl (Ls' := #[.val (.ref o0), .val (.int i1), .val (.int i2), .val (.int (1 : Int32)), .val (.int i4), .val (.int (i5 + (1 : Int32))), .val (.int (vs.getD i5.toInt.toNat 0))]) rfl ?_
        refine own_goto P (pc' := 8) d6_57 (by decide) (by decide) ?_
        exact ih (i5 + (1 : Int32)) (1 : Int32) i4 _ (Or.inr ⟨_, rfl, rfl⟩) _ (by rw [own_inc _ (by omega)]; omega) (by rw [own_inc _ (by omega)]; omega) P hQ
def F6_0 (i1 : Int32) (i2 : Int32) (vs : List Int32) : Int32 := (own_dec vs (i2.toInt - i1.toInt).toNat i1 (0 : Int32) (0 : Int32))
set_option maxRecDepth 65536 in
set_option maxHeartbeats 40000000 in
theorem b6_0 {p : Program} {l : Launch} {e : Env} {s : State} {m : MethodId} {args : Array Value} {below : List Frame} {meth : Method} {c : Code} {T : State} {h : Heap} {Z : State} {a0 : Array Value} {Q : Option Value → Heap → List Loc → Prop} (hw : ∀ d ∈ tables_1, d.before a0 Z = true) (o0 : Addr) (i1 : Int32) (i2 : Int32) (vs : List Int32) (A_o0 : own_Ar Z h o0 .char vs) (hlen : vs.length < 2147483648) (hb1 : 0 ≤ i1.toInt) (hb2 : i1.toInt ≤ i2.toInt) (hb3 : i2.toInt ≤ vs.length) (P : own_S Z "com/example/stakan/stakan/Numerals" "decimalEnd" prog_27_method_2_code 7 (some .int) p l e ({ frames := 0, cells := 0, slots := 0, locals := 0 } : Room) s m args below meth c T h [] 0 0) (hQ : Q (some (.int (F6_0 i1 i2 vs))) h []) :
    own_Go p e below (own_K s Q 0 0) (T.setTop (mkF m 0 #[.val (.ref o0), .val (.int i1), .val (.int i2), .unset, .unset, .unset, .unset] [])) := by
  unfold F6_0 at hQ
  refine own_iconst P d6_0 rfl (v := (0 : Int32)) rfl ?_
  refine own_istoreN P d6_1 rfl (Ls' := #[.val (.ref o0), .val (.int i1), .val (.int i2), .val (.int (0 : Int32)), .unset, .unset, .unset]) rfl ?_
  refine own_iconst P d6_2 rfl (v := (0 : Int32)) rfl ?_
  refine own_istore P d6_3 rfl (Ls' := #[.val (.ref o0), .val (.int i1), .val (.int i2), .val (.int (0 : Int32)), .val (.int (0 : Int32)), .unset, .unset]) rfl ?_
  refine own_iloadN P d6_5 rfl rfl ?_
  refine own_istore P d6_6 rfl (Ls' := #[.val (.ref o0), .val (.int i1), .val (.int i2), .val (.int (0 : Int32)), .val (.int (0 : Int32)), .val (.int i1), .unset]) rfl ?_
  exact b6_8 hw o0 i1 i2 vs A_o0 hlen hb3 (i2.toInt - i1.toInt).toNat i1 (0 : Int32) (0 : Int32) .unset (Or.inl rfl) _ hb1 (by omega) P hQ
theorem own_pn1 : plainName "com/example/stakan/stakan/Numerals" = true := by first | (simp [plainName, overriddenIn]; done) | decide +kernel
theorem rm6 (l : Launch) (Z : State) (a0 : Array Value) (hw : ∀ d ∈ tables_1, d.before a0 Z = true) (o0 : Addr) (i1 : Int32) (i2 : Int32) (vs : List Int32) (h : Heap) (A_o0 : own_Ar Z h o0 .char vs) (hlen : vs.length < 2147483648) (hb1 : 0 ≤ i1.toInt) (hb2 : i1.toInt ≤ i2.toInt) (hb3 : i2.toInt ≤ vs.length) :
    own_Con l Z (⟨"com/example/stakan/stakan/Numerals", "decimalEnd", "([CII)I"⟩ : MethodName) prog_27_method_2_code 7 (some .int) [] ({ frames := 0, cells := 0, slots := 0, locals := 0 } : Room) #[(.ref o0), (.int i1), (.int i2)] h (own_P (some (.int (F6_0 i1 i2 vs))) h) :=
  own_enter (plainFor_of_name own_pn1) #[.val (.ref o0), .val (.int i1), .val (.int i2), .unset, .unset, .unset, .unset] (fun m => by first | (simp [entryFrame, mkF, argsToLocals, Value.category]; done) | rfl) (fun p e s m below meth c T P => b6_0 hw o0 i1 i2 vs A_o0 hlen hb1 hb2 hb3 P ⟨rfl, rfl, rfl⟩)
theorem own_r6 (x : Int32) : 0 ≤ ((x &&& (7 : Int32)) - (x &&& (7 : Int32)) / (6 : Int32) * (6 : Int32)).toInt ∧ ((x &&& (7 : Int32)) - (x &&& (7 : Int32)) / (6 : Int32) * (6 : Int32)).toInt ≤ 5 := by
  have m : (x &&& (7 : Int32)).toInt = x.toInt % 2 ^ 3 := Jvm.Kit.i32_mask x _ (k := 3) (by decide) (by decide)
  generalize (x &&& (7 : Int32)) = y at *
  have z : (6 : Int32).toInt = 6 := by decide
  have r : (y - y / 6 * 6).toInt = y.toInt % 6 := by rw [irem_eq_mod, Jvm.Kit.i32_rem_nonneg (by omega), z]
  rw [r]; omega
theorem own_t1 (x y : Int32) : (F1_0 x y).toInt = if y.toInt < x.toInt then y.toInt else x.toInt := by
  unfold F1_0
  by_cases h : y < x
  · rw [if_pos h, if_pos (Int32.lt_iff_toInt_lt.mp h)]
  · rw [if_neg h, if_neg (fun q => h (Int32.lt_iff_toInt_lt.mpr q))]
theorem own_t2 (x y : Int32) : (F2_0 x y).toInt = if x.toInt < y.toInt then y.toInt else x.toInt := by
  unfold F2_0
  by_cases h : x < y
  · rw [if_pos h, if_pos (Int32.lt_iff_toInt_lt.mp h)]
  · rw [if_neg h, if_neg (fun q => h (Int32.lt_iff_toInt_lt.mpr q))]
theorem own_mm (a b : Int32) (ha : 0 ≤ a.toInt ∧ a.toInt ≤ 5) (hb : 0 ≤ b.toInt ∧ b.toInt ≤ 5) : 0 ≤ (F1_0 a b).toInt ∧ (F1_0 a b).toInt ≤ (F2_0 a b).toInt ∧ (F2_0 a b).toInt ≤ 5 := by
  rw [own_t1, own_t2]
  split <;> split <;> omega
theorem own_fhb (a b c : Int32) (vs : List Int32) (hb : 0 ≤ b.toInt ∧ b.toInt ≤ 5) : 0 ≤ (F3_0 a b c vs).toInt ∧ (F3_0 a b c vs).toInt ≤ 5 := by
  unfold F3_0 F3_17 F3_31 F3_45 F3_59
  repeat' split
  all_goals first | exact hb | decide
theorem own_lt5 {i9 i10 si0 : Int32} {vs : List Int32} (hb : 0 ≤ i9.toInt ∧ i9.toInt ≤ i10.toInt ∧ i10.toInt ≤ 5) (hs : 0 ≤ si0.toInt ∧ si0.toInt ≤ 5) (hlen : vs.length = 5) (hc : (si0 - i9) = (1 : Int32)) : i9.toInt.toNat < vs.length := by
  have z : (1 : Int32).toInt = 1 := by decide
  have q : (si0 - i9).toInt = si0.toInt - i9.toInt := Jvm.Kit.i32_sub (by omega) (by omega)
  rw [hc, z] at q
  rw [hlen]; omega

theorem own_pd2 : parseMethodDescriptor "(II)I" = some ⟨[.int, .int], some .int⟩ := by decide +kernel
theorem own_pd3 : parseMethodDescriptor "([CIIZ)I" = some ⟨[(.array .char), .int, .int, .boolean], some .int⟩ := by decide +kernel
theorem own_pd4 : parseMethodDescriptor "([CII)I" = some ⟨[(.array .char), .int, .int], some .int⟩ := by decide +kernel
def F0_164 (i9 : Int32) (i10 : Int32) (i15 : Int32) (vs : List Int32) : Int32 := (if (F6_0 i9 i10 vs) = i15 then (1 : Int32) else (0 : Int32))
set_option maxRecDepth 65536 in
set_option maxHeartbeats 40000000 in
theorem b0_164 {p : Program} {l : Launch} {e : Env} {s : State} {m : MethodId} {args : Array Value} {below : List Frame} {meth : Method} {c : Code} {T : State} {h : Heap} {locs : List Loc} {Z : State} {a0 : Array Value} {Q : Option Value → Heap → List Loc → Prop} (hw : ∀ d ∈ tables_1, d.before a0 Z = true) (i0 : Int32) (i1 : Int32) (i2 : Int32) (i3 : Int32) (i4 : Int32) (i5 : Int32) (o6 : Addr) (i7 : Int32) (i8 : Int32) (i9 : Int32) (i10 : Int32) (i11 : Int32) (i12 : Int32) (i13 : Int32) (i14 : Int32) (i15 : Int32) (vs : List Int32) (n0 : Nat) (N : Fr n0 locs) (Z0 : n0 ≤ h.size) (g_o6 : n0 ≤ o6) (A_o6 : own_Ar Z h o6 .char vs) (hlen : vs.length = 5) (hb : 0 ≤ i9.toInt ∧ i9.toInt ≤ i10.toInt ∧ i10.toInt ≤ 5) (P : own_S Z "com/example/stakan/stakan/NumeralsDecimalEndPinLaw" "law" code 16 (some .boolean) p l e room_1 s m args below meth c T h locs 1 5) (hQ : ∀ h' L', Fr n0 L' → Q (some (.int (F0_164 i9 i10 i15 vs))) h' L') :
    own_Go p e below (own_K s Q room_1.cells room_1.slots) (T.setTop (mkF m 164 #[.val (.int i0), .val (.int i1), .val (.int i2), .val (.int i3), .val (.int i4), .val (.int i5), .val (.ref o6), .val (.int i7), .val (.int i8), .val (.int i9), .val (.int i10), .val (.int i11), .val (.int i12), .val (.int i13), .val (.int i14), .val (.int i15)] [])) := by
  unfold F0_164 at hQ
  refine own_aload P at_164 rfl rfl rfl ?_
  refine own_iload P at_166 rfl rfl ?_
  refine own_iload P at_168 rfl rfl ?_
  refine own_callP P (hw _ (List.mem_of_getElem? (i := 18) rfl)) (hw _ (List.mem_of_getElem? (i := 19) rfl)) (hw _ (List.mem_of_getElem? (i := 20) rfl)) (hw _ (List.mem_of_getElem? (i := 21) rfl)) (by decide) (argsL := [(.ref o6), (.int i9), (.int i10)]) (rest := []) (rm6 l Z a0 hw o6 i9 i10 vs h A_o6 (by rw [hlen]; decide) hb.1 hb.2.1 (by rw [hlen]; exact hb.2.2)) at_170 rfl own_pd4 rfl rfl rfl (by decide) 0 rfl (by decide) rfl rfl (by decide) (by decide) (fun T124 P123 => ?_)
  show own_Go p e below _ (T124.setTop (mkF m 173 #[.val (.int i0), .val (.int i1), .val (.int i2), .val (.int i3), .val (.int i4), .val (.int i5), .val (.ref o6), .val (.int i7), .val (.int i8), .val (.int i9), .val (.int i10), .val (.int i11), .val (.int i12), .val (.int i13), .val (.int i14), .val (.int i15)] [(.int (F6_0 i9 i10 vs))]))
  refine own_iload P123 at_173 rfl rfl ?_
  by_cases hc129 : (F6_0 i9 i10 vs) = i15
  · rw [if_pos hc129] at hQ
    refine own_icmpN P123 (pc' := 178) at_175 (not_not_intro hc129) rfl ?_
    refine own_iconst P123 at_178 rfl (v := (1 : Int32)) rfl ?_
    refine own_goto P123 (pc' := 183) at_179 (by decide) (by decide) ?_
    exact own_retZ P123 at_183 (z := (1 : Int32)) rfl (by decide) (by decide) (hQ _ _ N)
  · rw [if_neg hc129] at hQ
    refine own_icmpY P123 (pc' := 182) at_175 hc129 (by decide) (by decide) ?_
    refine own_iconst P123 at_182 rfl (v := (0 : Int32)) rfl ?_
    exact own_retZ P123 at_183 (z := (0 : Int32)) rfl (by decide) (by decide) (hQ _ _ N)
def F0_154 (i9 : Int32) (i10 : Int32) (vs : List Int32) : Int32 := (F0_164 i9 i10 (-1 : Int32) vs)
set_option maxRecDepth 65536 in
set_option maxHeartbeats 40000000 in
theorem b0_154 {p : Program} {l : Launch} {e : Env} {s : State} {m : MethodId} {args : Array Value} {below : List Frame} {meth : Method} {c : Code} {T : State} {h : Heap} {locs : List Loc} {Z : State} {a0 : Array Value} {Q : Option Value → Heap → List Loc → Prop} (hw : ∀ d ∈ tables_1, d.before a0 Z = true) (i0 : Int32) (i1 : Int32) (i2 : Int32) (i3 : Int32) (i4 : Int32) (i5 : Int32) (o6 : Addr) (i7 : Int32) (i8 : Int32) (i9 : Int32) (i10 : Int32) (i11 : Int32) (i12 : Int32) (i13 : Int32) (i14 : Int32) (vs : List Int32) (n0 : Nat) (N : Fr n0 locs) (Z0 : n0 ≤ h.size) (g_o6 : n0 ≤ o6) (A_o6 : own_Ar Z h o6 .char vs) (hlen : vs.length = 5) (hb : 0 ≤ i9.toInt ∧ i9.toInt ≤ i10.toInt ∧ i10.toInt ≤ 5) (P : own_S Z "com/example/stakan/stakan/NumeralsDecimalEndPinLaw" "law" code 16 (some .boolean) p l e room_1 s m args below meth c T h locs 1 5) (hQ : ∀ h' L', Fr n0 L' → Q (some (.int (F0_154 i9 i10 vs))) h' L') :
    own_Go p e below (own_K s Q room_1.cells room_1.slots) (T.setTop (mkF m 154 #[.val (.int i0), .val (.int i1), .val (.int i2), .val (.int i3), .val (.int i4), .val (.int i5), .val (.ref o6), .val (.int i7), .val (.int i8), .val (.int i9), .val (.int i10), .val (.int i11), .val (.int i12), .val (.int i13), .val (.int i14), .unset] [])) := by
  unfold F0_154 at hQ
  refine own_iconst P at_154 rfl (v := (-1 : Int32)) rfl ?_
  refine own_istore P at_155 rfl (Ls' := #[.val (.int i0), .val (.int i1), .val (.int i2), .val (.int i3), .val (.int i4), .val (.int i5), .val (.ref o6), .val (.int i7), .val (.int i8), .val (.int i9), .val (.int i10), .val (.int i11), .val (.int i12), .val (.int i13), .val (.int i14), .val (.int (-1 : Int32))]) rfl ?_
  refine own_goto P (pc' := 164) at_157 (by decide) (by decide) ?_
  exact b0_164 hw i0 i1 i2 i3 i4 i5 o6 i7 i8 i9 i10 i11 i12 i13 i14 (-1 : Int32) vs n0 N Z0 g_o6 A_o6  (by first | assumption | rfl | decide) (by first | assumption | rfl | decide) P hQ
def F0_160 (i9 : Int32) (i10 : Int32) (i13 : Int32) (vs : List Int32) : Int32 := (F0_164 i9 i10 i13 vs)
set_option maxRecDepth 65536 in
set_option maxHeartbeats 40000000 in
theorem b0_160 {p : Program} {l : Launch} {e : Env} {s : State} {m : MethodId} {args : Array Value} {below : List Frame} {meth : Method} {c : Code} {T : State} {h : Heap} {locs : List Loc} {Z : State} {a0 : Array Value} {Q : Option Value → Heap → List Loc → Prop} (hw : ∀ d ∈ tables_1, d.before a0 Z = true) (i0 : Int32) (i1 : Int32) (i2 : Int32) (i3 : Int32) (i4 : Int32) (i5 : Int32) (o6 : Addr) (i7 : Int32) (i8 : Int32) (i9 : Int32) (i10 : Int32) (i11 : Int32) (i12 : Int32) (i13 : Int32) (i14 : Int32) (vs : List Int32) (n0 : Nat) (N : Fr n0 locs) (Z0 : n0 ≤ h.size) (g_o6 : n0 ≤ o6) (A_o6 : own_Ar Z h o6 .char vs) (hlen : vs.length = 5) (hb : 0 ≤ i9.toInt ∧ i9.toInt ≤ i10.toInt ∧ i10.toInt ≤ 5) (P : own_S Z "com/example/stakan/stakan/NumeralsDecimalEndPinLaw" "law" code 16 (some .boolean) p l e room_1 s m args below meth c T h locs 1 5) (hQ : ∀ h' L', Fr n0 L' → Q (some (.int (F0_160 i9 i10 i13 vs))) h' L') :
    own_Go p e below (own_K s Q room_1.cells room_1.slots) (T.setTop (mkF m 160 #[.val (.int i0), .val (.int i1), .val (.int i2), .val (.int i3), .val (.int i4), .val (.int i5), .val (.ref o6), .val (.int i7), .val (.int i8), .val (.int i9), .val (.int i10), .val (.int i11), .val (.int i12), .val (.int i13), .val (.int i14), .unset] [])) := by
  unfold F0_160 at hQ
  refine own_iload P at_160 rfl rfl ?_
  refine own_istore P at_162 rfl (Ls' := #[.val (.int i0), .val (.int i1), .val (.int i2), .val (.int i3), .val (.int i4), .val (.int i5), .val (.ref o6), .val (.int i7), .val (.int i8), .val (.int i9), .val (.int i10), .val (.int i11), .val (.int i12), .val (.int i13), .val (.int i14), .val (.int i13)]) rfl ?_
  exact b0_164 hw i0 i1 i2 i3 i4 i5 o6 i7 i8 i9 i10 i11 i12 i13 i14 i13 vs n0 N Z0 g_o6 A_o6  (by first | assumption | rfl | decide) (by first | assumption | rfl | decide) P hQ
def F0_124 (i9 : Int32) (i10 : Int32) (si0 : Int32) (vs : List Int32) : Int32 := (if (si0 - i9) = (0 : Int32) then (F0_154 i9 i10 vs) else (if (si0 - i9) = (1 : Int32) then (if (vs.getD i9.toInt.toNat 0) = (46 : Int32) then (F0_154 i9 i10 vs) else (F0_160 i9 i10 si0 vs)) else (F0_160 i9 i10 si0 vs)))
set_option maxRecDepth 65536 in
set_option maxHeartbeats 40000000 in
theorem b0_124 {p : Program} {l : Launch} {e : Env} {s : State} {m : MethodId} {args : Array Value} {below : List Frame} {meth : Method} {c : Code} {T : State} {h : Heap} {locs : List Loc} {Z : State} {a0 : Array Value} {Q : Option Value → Heap → List Loc → Prop} (hw : ∀ d ∈ tables_1, d.before a0 Z = true) (i0 : Int32) (i1 : Int32) (i2 : Int32) (i3 : Int32) (i4 : Int32) (i5 : Int32) (o6 : Addr) (i7 : Int32) (i8 : Int32) (i9 : Int32) (i10 : Int32) (i11 : Int32) (i12 : Int32) (si0 : Int32) (vs : List Int32) (n0 : Nat) (N : Fr n0 locs) (Z0 : n0 ≤ h.size) (g_o6 : n0 ≤ o6) (A_o6 : own_Ar Z h o6 .char vs) (hlen : vs.length = 5) (hb : 0 ≤ i9.toInt ∧ i9.toInt ≤ i10.toInt ∧ i10.toInt ≤ 5) (hs : 0 ≤ si0.toInt ∧ si0.toInt ≤ 5) (P : own_S Z "com/example/stakan/stakan/NumeralsDecimalEndPinLaw" "law" code 16 (some .boolean) p l e room_1 s m args below meth c T h locs 1 5) (hQ : ∀ h' L', Fr n0 L' → Q (some (.int (F0_124 i9 i10 si0 vs))) h' L') :
    own_Go p e below (own_K s Q room_1.cells room_1.slots) (T.setTop (mkF m 124 #[.val (.int i0), .val (.int i1), .val (.int i2), .val (.int i3), .val (.int i4), .val (.int i5), .val (.ref o6), .val (.int i7), .val (.int i8), .val (.int i9), .val (.int i10), .val (.int i11), .val (.int i12), .unset, .unset, .unset] [(.int si0)])) := by
  unfold F0_124 at hQ
  refine own_istore P at_124 rfl (Ls' := #[.val (.int i0), .val (.int i1), .val (.int i2), .val (.int i3), .val (.int i4), .val (.int i5), .val (.ref o6), .val (.int i7), .val (.int i8), .val (.int i9), .val (.int i10), .val (.int i11), .val (.int i12), .val (.int si0), .unset, .unset]) rfl ?_
  refine own_iload P at_126 rfl rfl ?_
  refine own_iload P at_128 rfl rfl ?_
  refine own_isub P at_130 rfl ?_
  refine own_istore P at_131 rfl (Ls' := #[.val (.int i0), .val (.int i1), .val (.int i2), .val (.int i3), .val (.int i4), .val (.int i5), .val (.ref o6), .val (.int i7), .val (.int i8), .val (.int i9), .val (.int i10), .val (.int i11), .val (.int i12), .val (.int si0), .val (.int (si0 - i9)), .unset]) rfl ?_
  refine own_iload P at_133 rfl rfl ?_
  by_cases hc122 : (si0 - i9) = (0 : Int32)
  · rw [if_pos hc122] at hQ
    refine own_if0Y P (pc' := 154) at_135 hc122 (by decide) (by decide) ?_
    exact b0_154 hw i0 i1 i2 i3 i4 i5 o6 i7 i8 i9 i10 i11 i12 si0 (si0 - i9) vs n0 N Z0 g_o6 A_o6  (by first | assumption | rfl | decide) (by first | assumption | rfl | decide) P hQ
  · rw [if_neg hc122] at hQ
    refine own_if0N P (pc' := 138) at_135 hc122 rfl ?_
    refine own_iload P at_138 rfl rfl ?_
    refine own_iconst P at_140 rfl (v := (1 : Int32)) rfl ?_
    by_cases hc130 : (si0 - i9) = (1 : Int32)
    · rw [if_pos hc130] at hQ
      refine own_icmpN P (pc' := 144) at_141 (not_not_intro hc130) rfl ?_
      refine own_aload P at_144 rfl rfl rfl ?_
      refine own_iload P at_146 rfl rfl ?_
      refine own_caload P A_o6 at_148 rfl hb.1 (own_lt5 hb hs hlen hc130) (x := (vs.getD i9.toInt.toNat 0)) rfl ?_
      refine own_bipush P at_149 rfl (v := (46 : Int32)) rfl ?_
      by_cases hc131 : (vs.getD i9.toInt.toNat 0) = (46 : Int32)
      · rw [if_pos hc131] at hQ
        refine own_icmpN P (pc' := 154) at_151 (not_not_intro hc131) rfl ?_
        exact b0_154 hw i0 i1 i2 i3 i4 i5 o6 i7 i8 i9 i10 i11 i12 si0 (si0 - i9) vs n0 N Z0 g_o6 A_o6  (by first | assumption | rfl | decide) (by first | assumption | rfl | decide) P hQ
      · rw [if_neg hc131] at hQ
        refine own_icmpY P (pc' := 160) at_151 hc131 (by decide) (by decide) ?_
        exact b0_160 hw i0 i1 i2 i3 i4 i5 o6 i7 i8 i9 i10 i11 i12 si0 (si0 - i9) vs n0 N Z0 g_o6 A_o6  (by first | assumption | rfl | decide) (by first | assumption | rfl | decide) P hQ
    · rw [if_neg hc130] at hQ
      refine own_icmpY P (pc' := 160) at_141 hc130 (by decide) (by decide) ?_
      exact b0_160 hw i0 i1 i2 i3 i4 i5 o6 i7 i8 i9 i10 i11 i12 si0 (si0 - i9) vs n0 N Z0 g_o6 A_o6  (by first | assumption | rfl | decide) (by first | assumption | rfl | decide) P hQ
def F0_76 (i9 : Int32) (i10 : Int32) (vs : List Int32) : Int32 := (if (F3_0 i9 (F3_0 i9 i10 (0 : Int32) vs) (1 : Int32) vs) < (F3_0 i9 i10 (0 : Int32) vs) then (F0_124 i9 i10 (F3_0 ((F3_0 i9 (F3_0 i9 i10 (0 : Int32) vs) (1 : Int32) vs) + (1 : Int32)) (F3_0 i9 i10 (0 : Int32) vs) (1 : Int32) vs) vs) else (F0_124 i9 i10 (F3_0 i9 i10 (0 : Int32) vs) vs))
set_option maxRecDepth 65536 in
set_option maxHeartbeats 40000000 in
theorem b0_76 {p : Program} {l : Launch} {e : Env} {s : State} {m : MethodId} {args : Array Value} {below : List Frame} {meth : Method} {c : Code} {T : State} {h : Heap} {locs : List Loc} {Z : State} {a0 : Array Value} {Q : Option Value → Heap → List Loc → Prop} (hw : ∀ d ∈ tables_1, d.before a0 Z = true) (i0 : Int32) (i1 : Int32) (i2 : Int32) (i3 : Int32) (i4 : Int32) (i5 : Int32) (o6 : Addr) (i7 : Int32) (i8 : Int32) (i9 : Int32) (i10 : Int32) (vs : List Int32) (n0 : Nat) (N : Fr n0 locs) (Z0 : n0 ≤ h.size) (g_o6 : n0 ≤ o6) (A_o6 : own_Ar Z h o6 .char vs) (hlen : vs.length = 5) (hb : 0 ≤ i9.toInt ∧ i9.toInt ≤ i10.toInt ∧ i10.toInt ≤ 5) (P : own_S Z "com/example/stakan/stakan/NumeralsDecimalEndPinLaw" "law" code 16 (some .boolean) p l e room_1 s m args below meth c T h locs 1 5) (hQ : ∀ h' L', Fr n0 L' → Q (some (.int (F0_76 i9 i10 vs))) h' L') :
    own_Go p e below (own_K s Q room_1.cells room_1.slots) (T.setTop (mkF m 76 #[.val (.int i0), .val (.int i1), .val (.int i2), .val (.int i3), .val (.int i4), .val (.int i5), .val (.ref o6), .val (.int i7), .val (.int i8), .val (.int i9), .val (.int i10), .unset, .unset, .unset, .unset, .unset] [])) := by
  unfold F0_76 at hQ
  refine own_aload P at_76 rfl rfl rfl ?_
  refine own_iload P at_78 rfl rfl ?_
  refine own_iload P at_80 rfl rfl ?_
  refine own_iconst P at_82 rfl (v := (0 : Int32)) rfl ?_
  refine own_callP P (hw _ (List.mem_of_getElem? (i := 8) rfl)) (hw _ (List.mem_of_getElem? (i := 9) rfl)) (hw _ (List.mem_of_getElem? (i := 10) rfl)) (hw _ (List.mem_of_getElem? (i := 11) rfl)) (by decide) (argsL := [(.ref o6), (.int i9), (.int i10), (.int (0 : Int32))]) (rest := []) (rm3 l Z a0 hw o6 i9 i10 (0 : Int32) vs h A_o6 hlen) at_83 rfl own_pd3 rfl rfl rfl (by decide) 0 rfl (by decide) rfl rfl (by decide) (by decide) (fun T104 P103 => ?_)
  show own_Go p e below _ (T104.setTop (mkF m 86 #[.val (.int i0), .val (.int i1), .val (.int i2), .val (.int i3), .val (.int i4), .val (.int i5), .val (.ref o6), .val (.int i7), .val (.int i8), .val (.int i9), .val (.int i10), .unset, .unset, .unset, .unset, .unset] [(.int (F3_0 i9 i10 (0 : Int32) vs))]))
  refine own_istore P103 at_86 rfl (Ls' := #[.val (.int i0), .val (.int i1), .val (.int i2), .val (.int i3), .val (.int i4), .val (.int i5), .val (.ref o6), .val (.int i7), .val (.int i8), .val (.int i9), .val (.int i10), .val (.int (F3_0 i9 i10 (0 : Int32) vs)), .unset, .unset, .unset, .unset]) rfl ?_
  refine own_aload P103 at_88 rfl rfl rfl ?_
  refine own_iload P103 at_90 rfl rfl ?_
  refine own_iload P103 at_92 rfl rfl ?_
  refine own_iconst P103 at_94 rfl (v := (1 : Int32)) rfl ?_
  refine own_callP P103 (hw _ (List.mem_of_getElem? (i := 8) rfl)) (hw _ (List.mem_of_getElem? (i := 9) rfl)) (hw _ (List.mem_of_getElem? (i := 10) rfl)) (hw _ (List.mem_of_getElem? (i := 11) rfl)) (by decide) (argsL := [(.ref o6), (.int i9), (.int (F3_0 i9 i10 (0 : Int32) vs)), (.int (1 : Int32))]) (rest := []) (rm3 l Z a0 hw o6 i9 (F3_0 i9 i10 (0 : Int32) vs) (1 : Int32) vs h A_o6 hlen) at_95 rfl own_pd3 rfl rfl rfl (by decide) 0 rfl (by decide) rfl rfl (by decide) (by decide) (fun T110 P109 => ?_)
  show own_Go p e below _ (T110.setTop (mkF m 98 #[.val (.int i0), .val (.int i1), .val (.int i2), .val (.int i3), .val (.int i4), .val (.int i5), .val (.ref o6), .val (.int i7), .val (.int i8), .val (.int i9), .val (.int i10), .val (.int (F3_0 i9 i10 (0 : Int32) vs)), .unset, .unset, .unset, .unset] [(.int (F3_0 i9 (F3_0 i9 i10 (0 : Int32) vs) (1 : Int32) vs))]))
  refine own_istore P109 at_98 rfl (Ls' := #[.val (.int i0), .val (.int i1), .val (.int i2), .val (.int i3), .val (.int i4), .val (.int i5), .val (.ref o6), .val (.int i7), .val (.int i8), .val (.int i9), .val (.int i10), .val (.int (F3_0 i9 i10 (0 : Int32) vs)), .val (.int (F3_0 i9 (F3_0 i9 i10 (0 : Int32) vs) (1 : Int32) vs)), .unset, .unset, .unset]) rfl ?_
  refine own_iload P109 at_100 rfl rfl ?_
  refine own_iload P109 at_102 rfl rfl ?_
  by_cases hc115 : (F3_0 i9 (F3_0 i9 i10 (0 : Int32) vs) (1 : Int32) vs) < (F3_0 i9 i10 (0 : Int32) vs)
  · rw [if_pos hc115] at hQ
    refine own_icmpN P109 (pc' := 107) at_104 (not_not_intro hc115) rfl ?_
    refine own_aload P109 at_107 rfl rfl rfl ?_
    refine own_iload P109 at_109 rfl rfl ?_
    refine own_iconst P109 at_111 rfl (v := (1 : Int32)) rfl ?_
    refine own_iadd P109 at_112 rfl ?_
    refine own_iload P109 at_113 rfl rfl ?_
    refine own_iconst P109 at_115 rfl (v := (1 : Int32)) rfl ?_
    refine own_callP P109 (hw _ (List.mem_of_getElem? (i := 8) rfl)) (hw _ (List.mem_of_getElem? (i := 9) rfl)) (hw _ (List.mem_of_getElem? (i := 10) rfl)) (hw _ (List.mem_of_getElem? (i := 11) rfl)) (by decide) (argsL := [(.ref o6), (.int ((F3_0 i9 (F3_0 i9 i10 (0 : Int32) vs) (1 : Int32) vs) + (1 : Int32))), (.int (F3_0 i9 i10 (0 : Int32) vs)), (.int (1 : Int32))]) (rest := []) (rm3 l Z a0 hw o6 ((F3_0 i9 (F3_0 i9 i10 (0 : Int32) vs) (1 : Int32) vs) + (1 : Int32)) (F3_0 i9 i10 (0 : Int32) vs) (1 : Int32) vs h A_o6 hlen) at_116 rfl own_pd3 rfl rfl rfl (by decide) 0 rfl (by decide) rfl rfl (by decide) (by decide) (fun T117 P116 => ?_)
    show own_Go p e below _ (T117.setTop (mkF m 119 #[.val (.int i0), .val (.int i1), .val (.int i2), .val (.int i3), .val (.int i4), .val (.int i5), .val (.ref o6), .val (.int i7), .val (.int i8), .val (.int i9), .val (.int i10), .val (.int (F3_0 i9 i10 (0 : Int32) vs)), .val (.int (F3_0 i9 (F3_0 i9 i10 (0 : Int32) vs) (1 : Int32) vs)), .unset, .unset, .unset] [(.int (F3_0 ((F3_0 i9 (F3_0 i9 i10 (0 : Int32) vs) (1 : Int32) vs) + (1 : Int32)) (F3_0 i9 i10 (0 : Int32) vs) (1 : Int32) vs))]))
    refine own_goto P116 (pc' := 124) at_119 (by decide) (by decide) ?_
    exact b0_124 hw i0 i1 i2 i3 i4 i5 o6 i7 i8 i9 i10 (F3_0 i9 i10 (0 : Int32) vs) (F3_0 i9 (F3_0 i9 i10 (0 : Int32) vs) (1 : Int32) vs) (F3_0 ((F3_0 i9 (F3_0 i9 i10 (0 : Int32) vs) (1 : Int32) vs) + (1 : Int32)) (F3_0 i9 i10 (0 : Int32) vs) (1 : Int32) vs) vs n0 N Z0 g_o6 A_o6  hlen hb (by first | exact own_fhb _ _ _ _ ⟨by omega, by omega⟩ | exact own_fhb _ _ _ _ (own_fhb _ _ _ _ ⟨by omega, by omega⟩)) P116 hQ
  · rw [if_neg hc115] at hQ
    refine own_icmpY P109 (pc' := 122) at_104 hc115 (by decide) (by decide) ?_
    refine own_iload P109 at_122 rfl rfl ?_
    exact b0_124 hw i0 i1 i2 i3 i4 i5 o6 i7 i8 i9 i10 (F3_0 i9 i10 (0 : Int32) vs) (F3_0 i9 (F3_0 i9 i10 (0 : Int32) vs) (1 : Int32) vs) (F3_0 i9 i10 (0 : Int32) vs) vs n0 N Z0 g_o6 A_o6  hlen hb (by first | exact own_fhb _ _ _ _ ⟨by omega, by omega⟩ | exact own_fhb _ _ _ _ (own_fhb _ _ _ _ ⟨by omega, by omega⟩)) P109 hQ
def F0_36 (i5 : Int32) (vs : List Int32) : Int32 := (F0_76 (F1_0 ((i5 &&& (7 : Int32)) - (i5 &&& (7 : Int32)) / (6 : Int32) * (6 : Int32)) ((((i5.toUInt32 >>> ((3 : Int32) &&& 31).toUInt32).toInt32) &&& (7 : Int32)) - (((i5.toUInt32 >>> ((3 : Int32) &&& 31).toUInt32).toInt32) &&& (7 : Int32)) / (6 : Int32) * (6 : Int32))) (F2_0 ((i5 &&& (7 : Int32)) - (i5 &&& (7 : Int32)) / (6 : Int32) * (6 : Int32)) ((((i5.toUInt32 >>> ((3 : Int32) &&& 31).toUInt32).toInt32) &&& (7 : Int32)) - (((i5.toUInt32 >>> ((3 : Int32) &&& 31).toUInt32).toInt32) &&& (7 : Int32)) / (6 : Int32) * (6 : Int32))) vs)
set_option maxRecDepth 65536 in
set_option maxHeartbeats 40000000 in
theorem b0_36 {p : Program} {l : Launch} {e : Env} {s : State} {m : MethodId} {args : Array Value} {below : List Frame} {meth : Method} {c : Code} {T : State} {h : Heap} {locs : List Loc} {Z : State} {a0 : Array Value} {Q : Option Value → Heap → List Loc → Prop} (hw : ∀ d ∈ tables_1, d.before a0 Z = true) (i0 : Int32) (i1 : Int32) (i2 : Int32) (i3 : Int32) (i4 : Int32) (i5 : Int32) (o6 : Addr) (vs : List Int32) (n0 : Nat) (N : Fr n0 locs) (Z0 : n0 ≤ h.size) (g_o6 : n0 ≤ o6) (A_o6 : own_Ar Z h o6 .char vs) (hlen : vs.length = 5) (P : own_S Z "com/example/stakan/stakan/NumeralsDecimalEndPinLaw" "law" code 16 (some .boolean) p l e room_1 s m args below meth c T h locs 1 5) (hQ : ∀ h' L', Fr n0 L' → Q (some (.int (F0_36 i5 vs))) h' L') :
    own_Go p e below (own_K s Q room_1.cells room_1.slots) (T.setTop (mkF m 36 #[.val (.int i0), .val (.int i1), .val (.int i2), .val (.int i3), .val (.int i4), .val (.int i5), .val (.ref o6), .unset, .unset, .unset, .unset, .unset, .unset, .unset, .unset, .unset] [])) := by
  unfold F0_36 at hQ
  refine own_iload P at_36 rfl rfl ?_
  refine own_bipush P at_38 rfl (v := (7 : Int32)) rfl ?_
  refine own_iand P at_40 rfl ?_
  refine own_bipush P at_41 rfl (v := (6 : Int32)) rfl ?_
  refine own_irem P at_43 rfl (by decide) ?_
  refine own_istore P at_44 rfl (Ls' := #[.val (.int i0), .val (.int i1), .val (.int i2), .val (.int i3), .val (.int i4), .val (.int i5), .val (.ref o6), .val (.int ((i5 &&& (7 : Int32)) - (i5 &&& (7 : Int32)) / (6 : Int32) * (6 : Int32))), .unset, .unset, .unset, .unset, .unset, .unset, .unset, .unset]) rfl ?_
  refine own_iload P at_46 rfl rfl ?_
  refine own_iconst P at_48 rfl (v := (3 : Int32)) rfl ?_
  refine own_iushr P at_49 rfl ?_
  refine own_bipush P at_50 rfl (v := (7 : Int32)) rfl ?_
  refine own_iand P at_52 rfl ?_
  refine own_bipush P at_53 rfl (v := (6 : Int32)) rfl ?_
  refine own_irem P at_55 rfl (by decide) ?_
  refine own_istore P at_56 rfl (Ls' := #[.val (.int i0), .val (.int i1), .val (.int i2), .val (.int i3), .val (.int i4), .val (.int i5), .val (.ref o6), .val (.int ((i5 &&& (7 : Int32)) - (i5 &&& (7 : Int32)) / (6 : Int32) * (6 : Int32))), .val (.int ((((i5.toUInt32 >>> ((3 : Int32) &&& 31).toUInt32).toInt32) &&& (7 : Int32)) - (((i5.toUInt32 >>> ((3 : Int32) &&& 31).toUInt32).toInt32) &&& (7 : Int32)) / (6 : Int32) * (6 : Int32))), .unset, .unset, .unset, .unset, .unset, .unset, .unset]) rfl ?_
  refine own_iload P at_58 rfl rfl ?_
  refine own_iload P at_60 rfl rfl ?_
  refine own_callP P (hw _ (List.mem_of_getElem? (i := 1) rfl)) (hw _ (List.mem_of_getElem? (i := 2) rfl)) (hw _ (List.mem_of_getElem? (i := 3) rfl)) (hw _ (List.mem_of_getElem? (i := 4) rfl)) (by decide) (argsL := [(.int ((i5 &&& (7 : Int32)) - (i5 &&& (7 : Int32)) / (6 : Int32) * (6 : Int32))), (.int ((((i5.toUInt32 >>> ((3 : Int32) &&& 31).toUInt32).toInt32) &&& (7 : Int32)) - (((i5.toUInt32 >>> ((3 : Int32) &&& 31).toUInt32).toInt32) &&& (7 : Int32)) / (6 : Int32) * (6 : Int32)))]) (rest := []) (rm1 l Z a0 hw ((i5 &&& (7 : Int32)) - (i5 &&& (7 : Int32)) / (6 : Int32) * (6 : Int32)) ((((i5.toUInt32 >>> ((3 : Int32) &&& 31).toUInt32).toInt32) &&& (7 : Int32)) - (((i5.toUInt32 >>> ((3 : Int32) &&& 31).toUInt32).toInt32) &&& (7 : Int32)) / (6 : Int32) * (6 : Int32)) h) at_62 rfl own_pd2 rfl rfl rfl (by decide) 0 rfl (by decide) rfl rfl (by decide) (by decide) (fun T100 P99 => ?_)
  show own_Go p e below _ (T100.setTop (mkF m 65 #[.val (.int i0), .val (.int i1), .val (.int i2), .val (.int i3), .val (.int i4), .val (.int i5), .val (.ref o6), .val (.int ((i5 &&& (7 : Int32)) - (i5 &&& (7 : Int32)) / (6 : Int32) * (6 : Int32))), .val (.int ((((i5.toUInt32 >>> ((3 : Int32) &&& 31).toUInt32).toInt32) &&& (7 : Int32)) - (((i5.toUInt32 >>> ((3 : Int32) &&& 31).toUInt32).toInt32) &&& (7 : Int32)) / (6 : Int32) * (6 : Int32))), .unset, .unset, .unset, .unset, .unset, .unset, .unset] [(.int (F1_0 ((i5 &&& (7 : Int32)) - (i5 &&& (7 : Int32)) / (6 : Int32) * (6 : Int32)) ((((i5.toUInt32 >>> ((3 : Int32) &&& 31).toUInt32).toInt32) &&& (7 : Int32)) - (((i5.toUInt32 >>> ((3 : Int32) &&& 31).toUInt32).toInt32) &&& (7 : Int32)) / (6 : Int32) * (6 : Int32))))]))
  refine own_istore P99 at_65 rfl (Ls' := #[.val (.int i0), .val (.int i1), .val (.int i2), .val (.int i3), .val (.int i4), .val (.int i5), .val (.ref o6), .val (.int ((i5 &&& (7 : Int32)) - (i5 &&& (7 : Int32)) / (6 : Int32) * (6 : Int32))), .val (.int ((((i5.toUInt32 >>> ((3 : Int32) &&& 31).toUInt32).toInt32) &&& (7 : Int32)) - (((i5.toUInt32 >>> ((3 : Int32) &&& 31).toUInt32).toInt32) &&& (7 : Int32)) / (6 : Int32) * (6 : Int32))), .val (.int (F1_0 ((i5 &&& (7 : Int32)) - (i5 &&& (7 : Int32)) / (6 : Int32) * (6 : Int32)) ((((i5.toUInt32 >>> ((3 : Int32) &&& 31).toUInt32).toInt32) &&& (7 : Int32)) - (((i5.toUInt32 >>> ((3 : Int32) &&& 31).toUInt32).toInt32) &&& (7 : Int32)) / (6 : Int32) * (6 : Int32)))), .unset, .unset, .unset, .unset, .unset, .unset]) rfl ?_
  refine own_iload P99 at_67 rfl rfl ?_
  refine own_iload P99 at_69 rfl rfl ?_
  refine own_callP P99 (hw _ (List.mem_of_getElem? (i := 5) rfl)) (hw _ (List.mem_of_getElem? (i := 6) rfl)) (hw _ (List.mem_of_getElem? (i := 3) rfl)) (hw _ (List.mem_of_getElem? (i := 7) rfl)) (by decide) (argsL := [(.int ((i5 &&& (7 : Int32)) - (i5 &&& (7 : Int32)) / (6 : Int32) * (6 : Int32))), (.int ((((i5.toUInt32 >>> ((3 : Int32) &&& 31).toUInt32).toInt32) &&& (7 : Int32)) - (((i5.toUInt32 >>> ((3 : Int32) &&& 31).toUInt32).toInt32) &&& (7 : Int32)) / (6 : Int32) * (6 : Int32)))]) (rest := []) (rm2 l Z a0 hw ((i5 &&& (7 : Int32)) - (i5 &&& (7 : Int32)) / (6 : Int32) * (6 : Int32)) ((((i5.toUInt32 >>> ((3 : Int32) &&& 31).toUInt32).toInt32) &&& (7 : Int32)) - (((i5.toUInt32 >>> ((3 : Int32) &&& 31).toUInt32).toInt32) &&& (7 : Int32)) / (6 : Int32) * (6 : Int32)) h) at_71 rfl own_pd2 rfl rfl rfl (by decide) 0 rfl (by decide) rfl rfl (by decide) (by decide) (fun T102 P101 => ?_)
  show own_Go p e below _ (T102.setTop (mkF m 74 #[.val (.int i0), .val (.int i1), .val (.int i2), .val (.int i3), .val (.int i4), .val (.int i5), .val (.ref o6), .val (.int ((i5 &&& (7 : Int32)) - (i5 &&& (7 : Int32)) / (6 : Int32) * (6 : Int32))), .val (.int ((((i5.toUInt32 >>> ((3 : Int32) &&& 31).toUInt32).toInt32) &&& (7 : Int32)) - (((i5.toUInt32 >>> ((3 : Int32) &&& 31).toUInt32).toInt32) &&& (7 : Int32)) / (6 : Int32) * (6 : Int32))), .val (.int (F1_0 ((i5 &&& (7 : Int32)) - (i5 &&& (7 : Int32)) / (6 : Int32) * (6 : Int32)) ((((i5.toUInt32 >>> ((3 : Int32) &&& 31).toUInt32).toInt32) &&& (7 : Int32)) - (((i5.toUInt32 >>> ((3 : Int32) &&& 31).toUInt32).toInt32) &&& (7 : Int32)) / (6 : Int32) * (6 : Int32)))), .unset, .unset, .unset, .unset, .unset, .unset] [(.int (F2_0 ((i5 &&& (7 : Int32)) - (i5 &&& (7 : Int32)) / (6 : Int32) * (6 : Int32)) ((((i5.toUInt32 >>> ((3 : Int32) &&& 31).toUInt32).toInt32) &&& (7 : Int32)) - (((i5.toUInt32 >>> ((3 : Int32) &&& 31).toUInt32).toInt32) &&& (7 : Int32)) / (6 : Int32) * (6 : Int32))))]))
  refine own_istore P101 at_74 rfl (Ls' := #[.val (.int i0), .val (.int i1), .val (.int i2), .val (.int i3), .val (.int i4), .val (.int i5), .val (.ref o6), .val (.int ((i5 &&& (7 : Int32)) - (i5 &&& (7 : Int32)) / (6 : Int32) * (6 : Int32))), .val (.int ((((i5.toUInt32 >>> ((3 : Int32) &&& 31).toUInt32).toInt32) &&& (7 : Int32)) - (((i5.toUInt32 >>> ((3 : Int32) &&& 31).toUInt32).toInt32) &&& (7 : Int32)) / (6 : Int32) * (6 : Int32))), .val (.int (F1_0 ((i5 &&& (7 : Int32)) - (i5 &&& (7 : Int32)) / (6 : Int32) * (6 : Int32)) ((((i5.toUInt32 >>> ((3 : Int32) &&& 31).toUInt32).toInt32) &&& (7 : Int32)) - (((i5.toUInt32 >>> ((3 : Int32) &&& 31).toUInt32).toInt32) &&& (7 : Int32)) / (6 : Int32) * (6 : Int32)))), .val (.int (F2_0 ((i5 &&& (7 : Int32)) - (i5 &&& (7 : Int32)) / (6 : Int32) * (6 : Int32)) ((((i5.toUInt32 >>> ((3 : Int32) &&& 31).toUInt32).toInt32) &&& (7 : Int32)) - (((i5.toUInt32 >>> ((3 : Int32) &&& 31).toUInt32).toInt32) &&& (7 : Int32)) / (6 : Int32) * (6 : Int32)))), .unset, .unset, .unset, .unset, .unset]) rfl ?_
  exact b0_76 hw i0 i1 i2 i3 i4 i5 o6 ((i5 &&& (7 : Int32)) - (i5 &&& (7 : Int32)) / (6 : Int32) * (6 : Int32)) ((((i5.toUInt32 >>> ((3 : Int32) &&& 31).toUInt32).toInt32) &&& (7 : Int32)) - (((i5.toUInt32 >>> ((3 : Int32) &&& 31).toUInt32).toInt32) &&& (7 : Int32)) / (6 : Int32) * (6 : Int32)) (F1_0 ((i5 &&& (7 : Int32)) - (i5 &&& (7 : Int32)) / (6 : Int32) * (6 : Int32)) ((((i5.toUInt32 >>> ((3 : Int32) &&& 31).toUInt32).toInt32) &&& (7 : Int32)) - (((i5.toUInt32 >>> ((3 : Int32) &&& 31).toUInt32).toInt32) &&& (7 : Int32)) / (6 : Int32) * (6 : Int32))) (F2_0 ((i5 &&& (7 : Int32)) - (i5 &&& (7 : Int32)) / (6 : Int32) * (6 : Int32)) ((((i5.toUInt32 >>> ((3 : Int32) &&& 31).toUInt32).toInt32) &&& (7 : Int32)) - (((i5.toUInt32 >>> ((3 : Int32) &&& 31).toUInt32).toInt32) &&& (7 : Int32)) / (6 : Int32) * (6 : Int32))) vs n0 N Z0 g_o6 A_o6  hlen (own_mm _ _ (own_r6 _) (own_r6 _)) P101 hQ
def F0_0 (i0 : Int32) (i1 : Int32) (i2 : Int32) (i3 : Int32) (i4 : Int32) (i5 : Int32) : Int32 := (F0_36 i5 [(nar .char (i0.toUInt32.toUInt16.toUInt32.toInt32)), (nar .char (i1.toUInt32.toUInt16.toUInt32.toInt32)), (nar .char (i2.toUInt32.toUInt16.toUInt32.toInt32)), (nar .char (i3.toUInt32.toUInt16.toUInt32.toInt32)), (nar .char (i4.toUInt32.toUInt16.toUInt32.toInt32))])
set_option maxRecDepth 65536 in
set_option maxHeartbeats 40000000 in
theorem b0_0 {p : Program} {l : Launch} {e : Env} {s : State} {m : MethodId} {args : Array Value} {below : List Frame} {meth : Method} {c : Code} {T : State} {h : Heap} {locs : List Loc} {Z : State} {a0 : Array Value} {Q : Option Value → Heap → List Loc → Prop} (hw : ∀ d ∈ tables_1, d.before a0 Z = true) (i0 : Int32) (i1 : Int32) (i2 : Int32) (i3 : Int32) (i4 : Int32) (i5 : Int32)  (n0 : Nat) (N : Fr n0 locs) (Z0 : n0 ≤ h.size) (P : own_S Z "com/example/stakan/stakan/NumeralsDecimalEndPinLaw" "law" code 16 (some .boolean) p l e room_1 s m args below meth c T h locs 0 0) (hQ : ∀ h' L', Fr n0 L' → Q (some (.int (F0_0 i0 i1 i2 i3 i4 i5))) h' L') :
    own_Go p e below (own_K s Q room_1.cells room_1.slots) (T.setTop (mkF m 0 #[.val (.int i0), .val (.int i1), .val (.int i2), .val (.int i3), .val (.int i4), .val (.int i5), .unset, .unset, .unset, .unset, .unset, .unset, .unset, .unset, .unset, .unset] [])) := by
  unfold F0_0 at hQ
  refine own_iconst P at_0 rfl (v := (5 : Int32)) rfl ?_
  refine own_arrNew P 5 (hw _ (List.mem_of_getElem? (i := 0) rfl)) rfl rfl at_1 rfl (by decide) (by decide) (by decide) (by decide) (by decide) (fun T60 h61 b55 ha56 E57 A58 P59 => ?_)
  have g62 : n0 ≤ b55 := by rw [ha56]; exact Z0
  have f63 : own_Ar Z h61 b55 .char [(0 : Int32), (0 : Int32), (0 : Int32), (0 : Int32), (0 : Int32)] := A58
  refine own_astore P59 at_3 rfl rfl (Ls' := #[.val (.int i0), .val (.int i1), .val (.int i2), .val (.int i3), .val (.int i4), .val (.int i5), .val (.ref b55), .unset, .unset, .unset, .unset, .unset, .unset, .unset, .unset, .unset]) rfl ?_
  refine own_aload P59 at_5 rfl rfl rfl ?_
  refine own_iconst P59 at_7 rfl (v := (0 : Int32)) rfl ?_
  refine own_iloadN P59 at_8 rfl rfl ?_
  refine own_i2c P59 at_9 rfl ?_
  refine own_castore P59 f63 at_10 rfl (by decide) (Nat.le_of_ble_eq_true rfl) (z := (nar .char (i0.toUInt32.toUInt16.toUInt32.toInt32))) rfl (fun T65 h66 W67 A68 P64 => ?_)
  have N69 := Fr.snoc P64.st N g62
  have f70 : own_Ar Z h66 b55 .char [(nar .char (i0.toUInt32.toUInt16.toUInt32.toInt32)), (0 : Int32), (0 : Int32), (0 : Int32), (0 : Int32)] := A68
  refine own_aload P64 at_11 rfl rfl rfl ?_
  refine own_iconst P64 at_13 rfl (v := (1 : Int32)) rfl ?_
  refine own_iloadN P64 at_14 rfl rfl ?_
  refine own_i2c P64 at_15 rfl ?_
  refine own_castore P64 f70 at_16 rfl (by decide) (Nat.le_of_ble_eq_true rfl) (z := (nar .char (i1.toUInt32.toUInt16.toUInt32.toInt32))) rfl (fun T72 h73 W74 A75 P71 => ?_)
  have N76 := Fr.snoc P71.st N69 g62
  have f77 : own_Ar Z h73 b55 .char [(nar .char (i0.toUInt32.toUInt16.toUInt32.toInt32)), (nar .char (i1.toUInt32.toUInt16.toUInt32.toInt32)), (0 : Int32), (0 : Int32), (0 : Int32)] := A75
  refine own_aload P71 at_17 rfl rfl rfl ?_
  refine own_iconst P71 at_19 rfl (v := (2 : Int32)) rfl ?_
  refine own_iloadN P71 at_20 rfl rfl ?_
  refine own_i2c P71 at_21 rfl ?_
  refine own_castore P71 f77 at_22 rfl (by decide) (Nat.le_of_ble_eq_true rfl) (z := (nar .char (i2.toUInt32.toUInt16.toUInt32.toInt32))) rfl (fun T79 h80 W81 A82 P78 => ?_)
  have N83 := Fr.snoc P78.st N76 g62
  have f84 : own_Ar Z h80 b55 .char [(nar .char (i0.toUInt32.toUInt16.toUInt32.toInt32)), (nar .char (i1.toUInt32.toUInt16.toUInt32.toInt32)), (nar .char (i2.toUInt32.toUInt16.toUInt32.toInt32)), (0 : Int32), (0 : Int32)] := A82
  refine own_aload P78 at_23 rfl rfl rfl ?_
  refine own_iconst P78 at_25 rfl (v := (3 : Int32)) rfl ?_
  refine own_iloadN P78 at_26 rfl rfl ?_
  refine own_i2c P78 at_27 rfl ?_
  refine own_castore P78 f84 at_28 rfl (by decide) (Nat.le_of_ble_eq_true rfl) (z := (nar .char (i3.toUInt32.toUInt16.toUInt32.toInt32))) rfl (fun T86 h87 W88 A89 P85 => ?_)
  have N90 := Fr.snoc P85.st N83 g62
  have f91 : own_Ar Z h87 b55 .char [(nar .char (i0.toUInt32.toUInt16.toUInt32.toInt32)), (nar .char (i1.toUInt32.toUInt16.toUInt32.toInt32)), (nar .char (i2.toUInt32.toUInt16.toUInt32.toInt32)), (nar .char (i3.toUInt32.toUInt16.toUInt32.toInt32)), (0 : Int32)] := A89
  refine own_aload P85 at_29 rfl rfl rfl ?_
  refine own_iconst P85 at_31 rfl (v := (4 : Int32)) rfl ?_
  refine own_iload P85 at_32 rfl rfl ?_
  refine own_i2c P85 at_34 rfl ?_
  refine own_castore P85 f91 at_35 rfl (by decide) (Nat.le_of_ble_eq_true rfl) (z := (nar .char (i4.toUInt32.toUInt16.toUInt32.toInt32))) rfl (fun T93 h94 W95 A96 P92 => ?_)
  have N97 := Fr.snoc P92.st N90 g62
  have f98 : own_Ar Z h94 b55 .char [(nar .char (i0.toUInt32.toUInt16.toUInt32.toInt32)), (nar .char (i1.toUInt32.toUInt16.toUInt32.toInt32)), (nar .char (i2.toUInt32.toUInt16.toUInt32.toInt32)), (nar .char (i3.toUInt32.toUInt16.toUInt32.toInt32)), (nar .char (i4.toUInt32.toUInt16.toUInt32.toInt32))] := A96
  exact b0_36 hw i0 i1 i2 i3 i4 i5 b55 [(nar .char (i0.toUInt32.toUInt16.toUInt32.toInt32)), (nar .char (i1.toUInt32.toUInt16.toUInt32.toInt32)), (nar .char (i2.toUInt32.toUInt16.toUInt32.toInt32)), (nar .char (i3.toUInt32.toUInt16.toUInt32.toInt32)), (nar .char (i4.toUInt32.toUInt16.toUInt32.toInt32))] n0 N97 (Nat.le_trans (Nat.le_trans (Nat.le_trans (Nat.le_trans (Nat.le_trans (Nat.le_trans Z0 E57.1) (Keep.of_wr W67).1) (Keep.of_wr W74).1) (Keep.of_wr W81).1) (Keep.of_wr W88).1) (Keep.of_wr W95).1) g62 f98  (by first | assumption | rfl | decide) P92 hQ
theorem rm0 (l : Launch) (Z : State) (a0 : Array Value) (hw : ∀ d ∈ tables_1, d.before a0 Z = true) (i0 : Int32) (i1 : Int32) (i2 : Int32) (i3 : Int32) (i4 : Int32) (i5 : Int32) (ws : List Jvm.Cond) (h : Heap) :
    own_Con l Z x code maxLocals ret ws room_1 #[(.int i0), (.int i1), (.int i2), (.int i3), (.int i4), (.int i5)] h (fun v _ L => v = some (.int (F0_0 i0 i1 i2 i3 i4 i5)) ∧ Fr h.size L) :=
  own_enter (plainFor_of_name own_pn0) #[.val (.int i0), .val (.int i1), .val (.int i2), .val (.int i3), .val (.int i4), .val (.int i5), .unset, .unset, .unset, .unset, .unset, .unset, .unset, .unset, .unset, .unset] (fun m => by first | (simp [entryFrame, mkF, argsToLocals, Value.category, maxLocals]; done) | rfl) (fun p e s m below meth c T P => b0_0 hw i0 i1 i2 i3 i4 i5 h.size (Fr.nil _) (Nat.le_refl _) P (fun _ _ q => ⟨rfl, q⟩))
theorem own_on {n : Nat} (h : n < 2147483648) : (Int32.ofNat n).toInt = n := Int32.toInt_ofNat_of_lt (by omega)
theorem own_one (i : Nat) : Int32.ofNat i + (1 : Int32) = Int32.ofNat (i + 1) := (Int32.ofNat_add i 1).symm
theorem own_ltN {a b : Nat} (ha : a < 1000) (hb : b < 1000) : Int32.ofNat a < Int32.ofNat b ↔ a < b := by
  rw [Int32.lt_iff_toInt_lt, own_on (by omega), own_on (by omega)]; omega
theorem own_eqN {a b : Nat} (ha : a < 1000) (hb : b < 1000) : Int32.ofNat a = Int32.ofNat b ↔ a = b := by
  rw [← Int32.toInt_inj, own_on (by omega), own_on (by omega)]; omega
/-- a sign's sort: a digit, the point, another -/
def own_c (c : Int32) : Fin 3 := if c < (48 : Int32) then (if c = (46 : Int32) then 1 else 2) else (if (57 : Int32) < c then 2 else 0)
theorem own_46 {c : Int32} (h : c = (46 : Int32)) : c < (48 : Int32) := by rw [h]; decide
theorem own_c1 (c : Int32) : own_c c = 1 ↔ c = (46 : Int32) := by
  unfold own_c
  by_cases h : c = (46 : Int32)
  · simp [h, own_46 h]
  · by_cases h1 : c < (48 : Int32) <;> by_cases h2 : (57 : Int32) < c <;> simp [h, h1, h2]
theorem own_c0 (c : Int32) : own_c c = 0 ↔ (¬ c < (48 : Int32) ∧ ¬ (57 : Int32) < c) := by
  unfold own_c
  by_cases h : c = (46 : Int32) <;> by_cases h1 : c < (48 : Int32) <;> by_cases h2 : (57 : Int32) < c <;> simp [h, h1, h2]
def own_hit (f : Nat → Fin 3) (i a b : Nat) (pt : Bool) : Bool := decide (a ≤ i) && decide (i < b) && (if pt then decide (f i = 1) else decide (f i = 2))
def own_fh (f : Nat → Fin 3) (a b : Nat) (pt : Bool) : Nat :=
  if own_hit f 0 a b pt then 0 else if own_hit f 1 a b pt then 1 else if own_hit f 2 a b pt then 2 else if own_hit f 3 a b pt then 3 else if own_hit f 4 a b pt then 4 else b
def own_dn (f : Nat → Fin 3) : Nat → Nat → Bool → Bool → Option Nat
  | 0, i, d, _ => if d then some i else none
  | k + 1, i, d, p => if f i = 0 then own_dn f k (i + 1) true p else if f i = 1 ∧ p = false then own_dn f k (i + 1) d true else if d then some i else none
def own_stp (f : Nat → Fin 3) (s e : Nat) : Nat := if own_fh f s (own_fh f s e false) true < own_fh f s e false then own_fh f (own_fh f s (own_fh f s e false) true + 1) (own_fh f s e false) true else own_fh f s e false
def own_lw (f : Nat → Fin 3) (s e : Nat) : Bool := decide (own_dn f (e - s) s false false = (if own_stp f s e = s ∨ (own_stp f s e = s + 1 ∧ f s = 1) then none else some (own_stp f s e)))
set_option maxRecDepth 65536 in
set_option maxHeartbeats 40000000 in
theorem own_all : ∀ c0 c1 c2 c3 c4 : Fin 3, ∀ s e : Fin 6, s ≤ e → own_lw (fun n => [c0, c1, c2, c3, c4].getD n 2) s.val e.val = true := by decide +kernel
def own_bi (x : Bool) : Int32 := if x then 1 else 0
theorem own_hit_eq (vs : List Int32) (n a b : Nat) (pt : Bool) (hn : n < 6) (ha : a < 10) (hb : b < 10) : F4_0 (Int32.ofNat n) (Int32.ofNat a) (Int32.ofNat b) (own_bi pt) vs = (0 : Int32) ↔ own_hit (fun m => own_c (vs.getD m 0)) n a b pt = false := by
  have e : (Int32.ofNat n).toInt.toNat = n := by rw [own_on (by omega)]; omega
  have l1 : Int32.ofNat n < Int32.ofNat a ↔ n < a := own_ltN (by omega) (by omega)
  have l2 : Int32.ofNat n < Int32.ofNat b ↔ n < b := own_ltN (by omega) (by omega)
  unfold F4_0 own_hit
  rw [e]
  show _ ↔ (decide (a ≤ n) && decide (n < b) && (if pt then decide (own_c (vs.getD n 0) = 1) else decide (own_c (vs.getD n 0) = 2))) = false
  generalize vs.getD n 0 = c
  simp only [l1, l2]
  by_cases h1 : n < a
  · have h1' : ¬ (a ≤ n) := by omega
    simp [h1, h1']
  · have h1' : a ≤ n := by omega
    by_cases h2 : n < b
    · have q0 : own_bi false = (0 : Int32) := rfl
      have q1 : ¬ (own_bi true = (0 : Int32)) := by decide
      cases pt
      · unfold F5_0 own_c
        by_cases c3 : c = (46 : Int32)
        · have c1 := eq_true (own_46 c3)
          have c4 := eq_true c3
          simp [h1, h2, h1', q0, c1, c4]
        · by_cases c1 : c < (48 : Int32)
          · simp [h1, h2, h1', q0, c1, c3]
          · by_cases c2 : (57 : Int32) < c
            · simp [h1, h2, h1', q0, c1, c2, c3]
            · simp [h1, h2, h1', q0, c1, c2, c3]
      · unfold own_c
        by_cases c3 : c = (46 : Int32)
        · have c1 := eq_true (own_46 c3)
          have c4 := eq_true c3
          simp [h1, h2, h1', q1, c1, c4]
        · by_cases c1 : c < (48 : Int32)
          · simp [h1, h2, h1', q1, c1, c3]
          · by_cases c2 : (57 : Int32) < c
            · simp [h1, h2, h1', q1, c1, c2, c3]
            · simp [h1, h2, h1', q1, c1, c2, c3]
    · simp [h1, h2]
theorem own_fh_le (f : Nat → Fin 3) (a b : Nat) (pt : Bool) (hb : b ≤ 5) : own_fh f a b pt ≤ 5 := by
  unfold own_fh
  repeat' split
  all_goals omega
theorem own_fh_eq (vs : List Int32) (a b : Nat) (pt : Bool) (ha : a < 10) (hb : b < 10) : F3_0 (Int32.ofNat a) (Int32.ofNat b) (own_bi pt) vs = Int32.ofNat (own_fh (fun m => own_c (vs.getD m 0)) a b pt) := by
  have h0 := own_hit_eq vs 0 a b pt (by omega) ha hb
  have h1 := own_hit_eq vs 1 a b pt (by omega) ha hb
  have h2 := own_hit_eq vs 2 a b pt (by omega) ha hb
  have h3 := own_hit_eq vs 3 a b pt (by omega) ha hb
  have h4 := own_hit_eq vs 4 a b pt (by omega) ha hb
  rw [show Int32.ofNat 0 = (0 : Int32) from rfl] at h0
  rw [show Int32.ofNat 1 = (1 : Int32) from rfl] at h1
  rw [show Int32.ofNat 2 = (2 : Int32) from rfl] at h2
  rw [show Int32.ofNat 3 = (3 : Int32) from rfl] at h3
  rw [show Int32.ofNat 4 = (4 : Int32) from rfl] at h4
  unfold F3_0 F3_17 F3_31 F3_45 F3_59 own_fh
  simp only [h0, h1, h2, h3, h4]
  generalize own_hit (fun m => own_c (vs.getD m 0)) 0 a b pt = b0
  generalize own_hit (fun m => own_c (vs.getD m 0)) 1 a b pt = b1
  generalize own_hit (fun m => own_c (vs.getD m 0)) 2 a b pt = b2
  generalize own_hit (fun m => own_c (vs.getD m 0)) 3 a b pt = b3
  generalize own_hit (fun m => own_c (vs.getD m 0)) 4 a b pt = b4
  cases b0 <;> cases b1 <;> cases b2 <;> cases b3 <;> cases b4 <;> rfl
def own_rs : Option Nat → Int32
  | some m => Int32.ofNat m
  | none => -1
theorem own_60 (d : Bool) (n : Nat) : F6_60 (own_bi d) (Int32.ofNat n) = own_rs (if d then some n else none) := by
  cases d <;> rfl
theorem own_dec_eq (vs : List Int32) : ∀ (k n : Nat) (d p : Bool), n + k < 1000 → own_dec vs k (Int32.ofNat n) (own_bi d) (own_bi p) = own_rs (own_dn (fun m => own_c (vs.getD m 0)) k n d p) := by
  intro k
  induction k with
  | zero => intro n d p _; exact own_60 d n
  | succ k ih =>
    intro n d p hn
    have e : (Int32.ofNat n).toInt.toNat = n := by rw [own_on (by omega)]; omega
    have i1 := ih (n + 1) true p (by omega)
    have i2 := ih (n + 1) d true (by omega)
    have q := own_60 d n
    rw [own_dec, own_dn, e, own_one n]
    show _ = own_rs (if own_c (vs.getD n 0) = 0 then _ else if own_c (vs.getD n 0) = 1 ∧ p = false then _ else _)
    have k1 := own_c1 (vs.getD n 0)
    have k0 := own_c0 (vs.getD n 0)
    generalize vs.getD n 0 = c at *
    simp only [k0, k1]
    have hp : own_bi p = (0 : Int32) ↔ p = false := by cases p <;> simp [own_bi]
    have t1 : own_bi true = (1 : Int32) := rfl
    rw [t1] at i1 i2
    simp only [hp]
    by_cases c1 : c < (48 : Int32)
    · by_cases c3 : c = (46 : Int32)
      · have c4 := eq_true c3
        have c5 := eq_true c1
        by_cases hp2 : p = false
        · have hp3 := eq_true hp2
          simp only [c5, c4, hp3, if_true, not_true, false_and, if_false, and_self]
          exact i2
        · have hp3 := eq_false hp2
          simp only [c5, c4, hp3, if_true, not_true, false_and, if_false, and_false]
          exact q
      · simp only [c1, c3, if_true, not_true, false_and, if_false]
        exact q
    · have c3 : ¬ (c = (46 : Int32)) := fun z => c1 (own_46 z)
      by_cases c2 : (57 : Int32) < c
      · simp only [c1, c2, c3, if_true, not_true, not_false_iff, true_and, false_and, and_false, if_false]
        exact q
      · simp only [c1, c2, if_false, not_false_iff, and_self, if_true]
        exact i1
theorem own_of (x : Int32) (h : 0 ≤ x.toInt) : x = Int32.ofNat x.toInt.toNat := by
  have l := Int32.toInt_lt x
  exact Int32.toInt_inj.mp (by rw [own_on (by omega)]; omega)
theorem own_rs_inj {x y : Option Nat} (h : x = y) : own_rs x = own_rs y := by rw [h]
theorem own_sub {a b : Nat} (ha : a < 10) (hb : b < 10) : (Int32.ofNat a - Int32.ofNat b).toInt = (a : Int) - b := by
  rw [Jvm.Kit.i32_sub (by rw [own_on (by omega), own_on (by omega)]; omega) (by rw [own_on (by omega), own_on (by omega)]; omega), own_on (by omega), own_on (by omega)]
theorem own_124 (vs : List Int32) (s e t : Nat) (hs : s < 10) (ht : t < 10) (hd : F6_0 (Int32.ofNat s) (Int32.ofNat e) vs = own_rs (if t = s ∨ (t = s + 1 ∧ own_c (vs.getD s 0) = 1) then none else some t)) : F0_124 (Int32.ofNat s) (Int32.ofNat e) (Int32.ofNat t) vs = 1 := by
  have es : (Int32.ofNat s).toInt.toNat = s := by rw [own_on (by omega)]; omega
  have z0 : (Int32.ofNat t - Int32.ofNat s = (0 : Int32)) ↔ t = s := by
    rw [← Int32.toInt_inj, own_sub ht hs, show (0 : Int32).toInt = 0 by decide]; omega
  have z1 : (Int32.ofNat t - Int32.ofNat s = (1 : Int32)) ↔ t = s + 1 := by
    rw [← Int32.toInt_inj, own_sub ht hs, show (1 : Int32).toInt = 1 by decide]; omega
  unfold F0_124 F0_154 F0_160 F0_164
  rw [hd, es]
  simp only [z0, z1, ← own_c1]
  generalize own_c (vs.getD s 0) = v
  by_cases h0 : t = s
  · have h1 : ¬ (t = s + 1) := by omega
    simp [h0, own_rs]
  · by_cases h1 : t = s + 1
    · by_cases h2 : v = 1
      · simp [h1, h2, own_rs]
      · simp [h1, h2, own_rs]
    · simp [h0, h1, own_rs]
theorem own_76 (vs : List Int32) (s e : Nat) (hl : vs.length = 5) (hse : s ≤ e) (he : e ≤ 5) : F0_76 (Int32.ofNat s) (Int32.ofNat e) vs = 1 := by
  have key : own_lw (fun m => own_c (vs.getD m 0)) s e = true := by
    match vs, hl with
    | [v0, v1, v2, v3, v4], _ =>
      have k := own_all (own_c v0) (own_c v1) (own_c v2) (own_c v3) (own_c v4) ⟨s, by omega⟩ ⟨e, by omega⟩ (by show s ≤ e; exact hse)
      have hf : (fun n => [own_c v0, own_c v1, own_c v2, own_c v3, own_c v4].getD n 2) = (fun m => own_c ([v0, v1, v2, v3, v4].getD m 0)) := by
        funext n
        match n with
        | 0 => rfl
        | 1 => rfl
        | 2 => rfl
        | 3 => rfl
        | 4 => rfl
        | n + 5 => rfl
      rw [hf] at k
      exact k
  unfold own_lw own_stp at key
  have key' := of_decide_eq_true key
  have fb : F3_0 (Int32.ofNat s) (Int32.ofNat e) (0 : Int32) vs = Int32.ofNat _ := own_fh_eq vs s e false (by omega) (by omega)
  have lb := own_fh_le (fun m => own_c (vs.getD m 0)) s e false he
  have d6 : F6_0 (Int32.ofNat s) (Int32.ofNat e) vs = own_rs (own_dn (fun m => own_c (vs.getD m 0)) (e - s) s false false) := by
    unfold F6_0
    rw [own_on (by omega), own_on (by omega), show ((e : Int) - (s : Int)).toNat = e - s by omega]
    exact own_dec_eq vs (e - s) s false false (by omega)
  rw [key'] at d6
  unfold F0_76
  rw [fb]
  generalize own_fh (fun m => own_c (vs.getD m 0)) s e false = FB at *
  have p1 : F3_0 (Int32.ofNat s) (Int32.ofNat FB) (1 : Int32) vs = Int32.ofNat _ := own_fh_eq vs s FB true (by omega) (by omega)
  have lp := own_fh_le (fun m => own_c (vs.getD m 0)) s FB true lb
  rw [p1]
  generalize own_fh (fun m => own_c (vs.getD m 0)) s FB true = P1 at *
  have st : F3_0 (Int32.ofNat P1 + (1 : Int32)) (Int32.ofNat FB) (1 : Int32) vs = Int32.ofNat (own_fh (fun m => own_c (vs.getD m 0)) (P1 + 1) FB true) := by
    rw [own_one]; exact own_fh_eq vs (P1 + 1) FB true (by omega) (by omega)
  have ls := own_fh_le (fun m => own_c (vs.getD m 0)) (P1 + 1) FB true lb
  rw [st]
  have lt : Int32.ofNat P1 < Int32.ofNat FB ↔ P1 < FB := own_ltN (by omega) (by omega)
  by_cases h : P1 < FB
  · rw [if_pos (lt.mpr h)]
    simp only [h, if_true] at d6
    exact own_124 vs s e _ (by omega) (by omega) d6
  · rw [if_neg (fun q => h (lt.mp q))]
    simp only [h, if_false] at d6
    exact own_124 vs s e _ (by omega) (by omega) d6
theorem own_law (i0 i1 i2 i3 i4 i5 : Int32) : F0_0 i0 i1 i2 i3 i4 i5 = 1 := by
  unfold F0_0 F0_36
  have m := own_mm _ _ (own_r6 i5) (own_r6 ((i5.toUInt32 >>> ((3 : Int32) &&& 31).toUInt32).toInt32))
  rw [own_of _ m.1, own_of (F2_0 _ _) (by omega)]
  exact own_76 _ _ _ rfl (by omega) (by omega)

theorem own_rm0 (l : Launch) (Z : State) (a0 : Array Value) (hw : ∀ d ∈ tables_1, d.before a0 Z = true) (i0 : Int32) (i1 : Int32) (i2 : Int32) (i3 : Int32) (i4 : Int32) (i5 : Int32) (ws : List Jvm.Cond) (h : Heap) :
    own_Con l Z x code maxLocals ret ws room_1 #[(.int i0), (.int i1), (.int i2), (.int i3), (.int i4), (.int i5)] h (fun v _ L => v = some (.int 1) ∧ Fr h.size L) := by
  have q := rm0 l Z a0 hw i0 i1 i2 i3 i4 i5 ws h
  rw [own_law i0 i1 i2 i3 i4 i5] at q
  exact q
set_option maxRecDepth 65536 in
set_option maxHeartbeats 40000000 in
theorem comes_1 {Post : Tables → Env → Array Value → State → Outcome → State → Prop} (hpost : ∀ tb e args s v u, (limb_1_1.after args s (.returned v) u = true ∧ limb_1_2.after args s (.returned v) u = true ∧ True) → FrameEnd s (.returned v) u (Jvm.fieldLocs frame_1_writes args s ++ Jvm.arrayLocs frame_1_arrays args s ++ Jvm.staticLocs frame_1_statics s) 16 128 → Post tb e args s (.returned v) u) :
    ArmFor flags0 classFile x code maxLocals ret World_1 tables_1 room_1 Calls_1 rest_1 Pre_1 Post := by
  intro l hfl _ _ p e ha hc hk s m args below hf hA hF happ hP
  obtain ⟨hcalls, hrest, hpre⟩ := hP
  obtain ⟨-, -, -, hnamed, -, -, -, hat⟩ := (Spec.applies_iff hf).mp happ
  obtain ⟨hg, hn⟩ := and_e (Cond.before_iff.mp (show (Jvm.Cond.and given_1 narrow_1).before args s = true from hpre))
  obtain ⟨g0, hg1⟩ := and_e hg
  obtain ⟨k0, hg2⟩ := and_e hg1
  obtain ⟨k1, hg3⟩ := and_e hg2
  obtain ⟨k2, hg4⟩ := and_e hg3
  obtain ⟨k3, hg5⟩ := and_e hg4
  obtain ⟨k4, hg6⟩ := and_e hg5
  obtain ⟨w0, w1, w2, w3, w4, w5, rfl⟩ : ∃ w0 w1 w2 w3 w4 w5 : Value, args = #[w0, w1, w2, w3, w4, w5] := by
    have hs : args.size = 6 := by simpa [Cond.value, given_1] using g0
    obtain ⟨L⟩ := args
    match L, hs with
    | [w0, w1, w2, w3, w4, w5], _ => exact ⟨w0, w1, w2, w3, w4, w5, rfl⟩
  have hw := fun d (hd : d ∈ tables_1) => atoms_spec (ws := Jvm.Cond.code x code maxLocals ret :: tables_1) hat d (List.mem_cons_of_mem _ hd)
  obtain ⟨i0, ei0⟩ := is_v k0
  obtain rfl : w0 = (.int i0) := Option.some.inj ei0
  obtain ⟨i1, ei1⟩ := is_v k1
  obtain rfl : w1 = (.int i1) := Option.some.inj ei1
  obtain ⟨i2, ei2⟩ := is_v k2
  obtain rfl : w2 = (.int i2) := Option.some.inj ei2
  obtain ⟨i3, ei3⟩ := is_v k3
  obtain rfl : w3 = (.int i3) := Option.some.inj ei3
  obtain ⟨i4, ei4⟩ := is_v k4
  obtain rfl : w4 = (.int i4) := Option.some.inj ei4
  obtain ⟨i5, ei5⟩ := is_v hg6
  obtain rfl : w5 = (.int i5) := Option.some.inj ei5
  obtain ⟨n, o, h1, h2, h3, _, L, rfl, ⟨rfl, N⟩, hq⟩ := own_rm0 l s _ hw i0 i1 i2 i3 i4 i5 tables_1 s.heap p e ha hc hk s m _ below hf ((Spec.applies_iff_loose hf).mp happ).1 ⟨rfl, State.Warmed39.refl s, rfl⟩ trivial
  refine ⟨n, _, h1, h2, h3, hpost _ _ _ _ _ _ ⟨Cond.after_iff.mpr rfl, Cond.after_iff.mpr (eq_i res_at (Term.int_eval (1)) rfl), trivial⟩ ⟨hq.1, hq.2.1, (hq.2.2.sift fun y hy => Or.inr (N y hy)).mono (by decide) (by decide)⟩⟩
theorem main_1_1 : Claimed_1_1 := comes_1 fun _ _ _ _ _ _ h hF => ⟨h.1, hF⟩
theorem main_1_2 : Claimed_1_2 := comes_1 fun _ _ _ _ _ _ h hF => ⟨h.2.1, hF⟩
end Jvm.Pilot.@@N@@
namespace Jvm.Pilot.@@N@@
open Jvm Jvm.ClassFile Sem Op Lib Jvm.Free Jvm.Stand Jvm.Pilot.@@N@@.Jvm.D
/-! MADE BY PROGRAM (witnessworld.py) out of the Statement's table words and the real class files: 12 classes; the members and pool entries that the words name. The judged class is class 1, her method 4. -/
namespace start1
open Jvm.ClassFile
def u (s : String) : CpInfo := .utf8 (stringToUtf16 s)
/-- a pool by its gaps: so many unusable entries, then the entry; so many at the end -/
def gap : Nat → List CpInfo → List CpInfo
  | 0, r => r
  | n + 1, r => .unusable :: gap n r
def poolList (es : List (Nat × CpInfo)) (last : Nat) : List CpInfo := es.foldr (fun e r => gap e.1 (e.2 :: r)) (gap last [])
def pool (es : List (Nat × CpInfo)) (last : Nat) : Array CpInfo := ⟨poolList es last⟩
def fileOf (pool : Array CpInfo) (this : Nat) (attrs : Array Attribute := #[]) (ms : Array MethodInfo := #[]) (fl : Nat := 33) (sup : Nat := 0) (ifs : Array Nat := #[]) (fds : Array FieldInfo := #[]) : ClassFile where
  minorVersion := 0
  majorVersion := 65
  constantPool := pool
  accessFlags := fl
  thisClass := this
  superClass := sup
  interfaces := ifs
  fields := fds
  methods := ms
  attributes := attrs
def plain (name : String) (sup : Option ClassId) : Class where
  name := name
  kind := .ordinary
  loader := none
  accessFlags := 33
  super := sup
  interfaces := #[]
  cf := none
  fields := #[]
  methods := #[]
  instanceTypes := #[]
  staticTypes := #[]
  resolved := #[]
  callSites := []
  init := .initialized
  statics := none
  mirror := none

def pool0 : Array CpInfo := pool [(5, u "<init>"), (0, u "()V"), (1, .class_ 10), (1, u "java/lang/Object")] 113

def k0m0 : Method := { name := "<init>", desc := "()V", sig := { parameters := [], returnType := none }, accessFlags := 1, code := none }
/-- java/lang/Object -/
def k0 : Class := { plain "java/lang/Object" none with
  accessFlags := 33
  interfaces := #[]
  cf := some (fileOf pool0 8 #[] #[{ accessFlags := 1, nameIndex := 5, descriptorIndex := 6, attributes := #[] }] 33 0 #[] #[])
  fields := #[]
  methods := #[k0m0]
  instanceTypes := #[]
  staticTypes := #[]
  resolved := Array.replicate 124 none
  statics := none }

def pool1 : Array CpInfo := pool [(2, .class_ 4), (1, u "java/lang/Object"), (0, u "<init>"), (0, u "()V"), (0, .methodref 8 9), (0, .class_ 10), (0, .nameAndType 11 12), (0, u "com/example/stakan/stakan/NumeralsDecimalEndPinLaw"), (0, u "isDigit"), (0, u "(C)Z"), (0, .methodref 8 14), (0, .nameAndType 15 16), (0, u "hit"), (0, u "([CIIIZ)Z"), (0, .methodref 18 19), (0, .class_ 20), (0, .nameAndType 21 22), (0, u "java/lang/Math"), (0, u "min"), (0, u "(II)I"), (0, .methodref 18 24), (0, .nameAndType 25 22), (0, u "max"), (0, .methodref 8 27), (0, .nameAndType 28 29), (0, u "firstHit"), (0, u "([CIIZ)I"), (0, .methodref 31 32), (0, .class_ 33), (0, .nameAndType 34 35), (0, u "com/example/stakan/stakan/Numerals"), (0, u "decimalEnd"), (0, u "([CII)I"), (3, u "law"), (0, u "(IIIIII)Z")] 4

def k1m0 : Method := { name := "<init>", desc := "()V", sig := { parameters := [], returnType := none }, accessFlags := 2, code := none }
def k1c1 : Code := { maxStack := 2, maxLocals := 1, code := method_2_code, exceptionTable := #[], attributes := #[] }
def k1m1 : Method := { name := "isDigit", desc := "(C)Z", sig := { parameters := [.char], returnType := some .boolean }, accessFlags := 10, code := some k1c1 }
def k1c2 : Code := { maxStack := 2, maxLocals := 6, code := method_3_code, exceptionTable := #[], attributes := #[] }
def k1m2 : Method := { name := "hit", desc := "([CIIIZ)Z", sig := { parameters := [(.array .char), .int, .int, .int, .boolean], returnType := some .boolean }, accessFlags := 10, code := some k1c2 }
def k1c3 : Code := { maxStack := 5, maxLocals := 5, code := method_4_code, exceptionTable := #[], attributes := #[] }
def k1m3 : Method := { name := "firstHit", desc := "([CIIZ)I", sig := { parameters := [(.array .char), .int, .int, .boolean], returnType := some .int }, accessFlags := 10, code := some k1c3 }
def k1c4 : Code := { maxStack := 4, maxLocals := 16, code := code, exceptionTable := #[], attributes := #[] }
def k1m4 : Method := { name := "law", desc := "(IIIIII)Z", sig := { parameters := [.int, .int, .int, .int, .int, .int], returnType := some .boolean }, accessFlags := 9, code := some k1c4 }
/-- com/example/stakan/stakan/NumeralsDecimalEndPinLaw -/
def k1 : Class := { plain "com/example/stakan/stakan/NumeralsDecimalEndPinLaw" (some 0) with
  accessFlags := 49
  interfaces := #[]
  cf := some (fileOf pool1 8 #[] #[{ accessFlags := 2, nameIndex := 5, descriptorIndex := 6, attributes := #[] }, { accessFlags := 10, nameIndex := 11, descriptorIndex := 12, attributes := #[] }, { accessFlags := 10, nameIndex := 15, descriptorIndex := 16, attributes := #[] }, { accessFlags := 10, nameIndex := 28, descriptorIndex := 29, attributes := #[] }, { accessFlags := 9, nameIndex := 39, descriptorIndex := 40, attributes := #[] }] 49 2 #[] #[])
  fields := #[]
  methods := #[k1m0, k1m1, k1m2, k1m3, k1m4]
  instanceTypes := #[]
  staticTypes := #[]
  resolved := Array.replicate 45 none
  statics := none }

def pool2 : Array CpInfo := pool [(1, .class_ 2), (0, u "java/lang/Math"), (1, .class_ 6), (1, u "java/lang/Object"), (0, u "<init>"), (0, u "()V"), (89, .class_ 100), (1, u "java/lang/Math$RandomNumberGeneratorHolder"), (71, u "negativeZeroFloatBits"), (0, u "J"), (2, u "negativeZeroDoubleBits"), (21, u "max"), (2, u "min"), (43, u "$assertionsDisabled"), (0, u "Z"), (88, u "(II)I"), (2, u "twoToTheDoubleScaleDown"), (0, u "D"), (4, u "twoToTheDoubleScaleUp"), (9, u "E"), (3, u "PI"), (2, u "TAU"), (2, u "DEGREES_TO_RADIANS"), (0, u "RADIANS_TO_DEGREES")] 94

def k2m0 : Method := { name := "<init>", desc := "()V", sig := { parameters := [], returnType := none }, accessFlags := 2, code := none }
def k2c1 : Code := { maxStack := 2, maxLocals := 2, code := jdk_29_method_65_code, exceptionTable := #[], attributes := #[] }
def k2m1 : Method := { name := "max", desc := "(II)I", sig := { parameters := [.int, .int], returnType := some .int }, accessFlags := 9, code := some k2c1 }
def k2c2 : Code := { maxStack := 2, maxLocals := 2, code := jdk_29_method_69_code, exceptionTable := #[], attributes := #[] }
def k2m2 : Method := { name := "min", desc := "(II)I", sig := { parameters := [.int, .int], returnType := some .int }, accessFlags := 9, code := some k2c2 }
/-- java/lang/Math -/
def k2 : Class := { plain "java/lang/Math" (some 0) with
  accessFlags := 49
  interfaces := #[]
  cf := some (fileOf pool2 1 #[.nestMembers #[98]] #[{ accessFlags := 2, nameIndex := 7, descriptorIndex := 8, attributes := #[] }, { accessFlags := 9, nameIndex := 198, descriptorIndex := 335, attributes := #[] }, { accessFlags := 9, nameIndex := 201, descriptorIndex := 335, attributes := #[] }] 49 4 #[] #[{ accessFlags := 25, nameIndex := 354, descriptorIndex := 339, attributes := #[] }, { accessFlags := 25, nameIndex := 358, descriptorIndex := 339, attributes := #[] }, { accessFlags := 25, nameIndex := 361, descriptorIndex := 339, attributes := #[] }, { accessFlags := 26, nameIndex := 364, descriptorIndex := 339, attributes := #[] }, { accessFlags := 26, nameIndex := 365, descriptorIndex := 339, attributes := #[] }, { accessFlags := 26, nameIndex := 172, descriptorIndex := 173, attributes := #[] }, { accessFlags := 26, nameIndex := 176, descriptorIndex := 173, attributes := #[] }, { accessFlags := 8, nameIndex := 344, descriptorIndex := 339, attributes := #[] }, { accessFlags := 8, nameIndex := 338, descriptorIndex := 339, attributes := #[] }, { accessFlags := 4120, nameIndex := 245, descriptorIndex := 246, attributes := #[] }])
  fields := #[{ name := "E", type := .double, accessFlags := 25, slot := 0, constantValue := 0 }, { name := "PI", type := .double, accessFlags := 25, slot := 1, constantValue := 0 }, { name := "TAU", type := .double, accessFlags := 25, slot := 2, constantValue := 0 }, { name := "DEGREES_TO_RADIANS", type := .double, accessFlags := 26, slot := 3, constantValue := 0 }, { name := "RADIANS_TO_DEGREES", type := .double, accessFlags := 26, slot := 4, constantValue := 0 }, { name := "negativeZeroFloatBits", type := .long, accessFlags := 26, slot := 5, constantValue := 0 }, { name := "negativeZeroDoubleBits", type := .long, accessFlags := 26, slot := 6, constantValue := 0 }, { name := "twoToTheDoubleScaleUp", type := .double, accessFlags := 8, slot := 7, constantValue := 0 }, { name := "twoToTheDoubleScaleDown", type := .double, accessFlags := 8, slot := 8, constantValue := 0 }, { name := "$assertionsDisabled", type := .boolean, accessFlags := 4120, slot := 9, constantValue := 0 }]
  methods := #[k2m0, k2m1, k2m2]
  instanceTypes := #[]
  staticTypes := #[.double, .double, .double, .double, .double, .long, .long, .double, .double, .boolean]
  resolved := Array.replicate 460 none
  statics := none }

def pool3 : Array CpInfo := pool [(2, .class_ 4), (1, u "java/lang/Object"), (0, u "<init>"), (0, u "()V"), (24, .class_ 32), (0, u "com/example/stakan/stakan/Numerals"), (2, u "decimalEnd"), (0, u "([CII)I")] 4

def k3m0 : Method := { name := "<init>", desc := "()V", sig := { parameters := [], returnType := none }, accessFlags := 2, code := none }
def k3c1 : Code := { maxStack := 2, maxLocals := 7, code := prog_27_method_2_code, exceptionTable := #[], attributes := #[] }
def k3m1 : Method := { name := "decimalEnd", desc := "([CII)I", sig := { parameters := [(.array .char), .int, .int], returnType := some .int }, accessFlags := 8, code := some k3c1 }
/-- com/example/stakan/stakan/Numerals -/
def k3 : Class := { plain "com/example/stakan/stakan/Numerals" (some 0) with
  accessFlags := 48
  interfaces := #[]
  cf := some (fileOf pool3 31 #[] #[{ accessFlags := 2, nameIndex := 5, descriptorIndex := 6, attributes := #[] }, { accessFlags := 8, nameIndex := 35, descriptorIndex := 36, attributes := #[] }] 48 2 #[] #[])
  fields := #[]
  methods := #[k3m0, k3m1]
  instanceTypes := #[]
  staticTypes := #[]
  resolved := Array.replicate 41 none
  statics := none }

def pool4 : Array CpInfo := pool [(1, u "java/lang/Cloneable"), (0, .class_ 1), (0, u "java/lang/Object"), (0, .class_ 3)] 3

/-- java/lang/Cloneable -/
def k4 : Class := { plain "java/lang/Cloneable" (some 0) with
  accessFlags := 1537
  interfaces := #[]
  cf := some (fileOf pool4 2 #[] #[] 1537 4 #[] #[])
  fields := #[]
  methods := #[]
  instanceTypes := #[]
  staticTypes := #[]
  resolved := Array.replicate 8 none
  statics := none }

def pool5 : Array CpInfo := pool [(1, u "java/io/Serializable"), (0, .class_ 1), (0, u "java/lang/Object"), (0, .class_ 3)] 3

/-- java/io/Serializable -/
def k5 : Class := { plain "java/io/Serializable" (some 0) with
  accessFlags := 1537
  interfaces := #[]
  cf := some (fileOf pool5 2 #[] #[] 1537 4 #[] #[])
  fields := #[]
  methods := #[]
  instanceTypes := #[]
  staticTypes := #[]
  resolved := Array.replicate 8 none
  statics := none }

/-- the primitive byte -/
def k6 : Class := { plain "byte" none with kind := .primitive 'B', accessFlags := 0x411 }
/-- [B -/
def k7 : Class := { plain "[B" (some 0) with kind := .array 6 .byte, interfaces := #[4, 5], accessFlags := 1041 }

/-- the primitive char -/
def k8 : Class := { plain "char" none with kind := .primitive 'C', accessFlags := 0x411 }
/-- [C -/
def k9 : Class := { plain "[C" (some 0) with kind := .array 8 .char, interfaces := #[4, 5], accessFlags := 1041 }

/-- the primitive int -/
def k10 : Class := { plain "int" none with kind := .primitive 'I', accessFlags := 0x411 }
/-- [I -/
def k11 : Class := { plain "[I" (some 0) with kind := .array 10 .int, interfaces := #[4, 5], accessFlags := 1041 }

def heap : Heap := #[]
def classes : Array Class := #[k0, k1, k2, k3, k4, k5, k6, k7, k8, k9, k10, k11]
def interned : List (Array UInt16 × Addr) := []
def slotsUsed : Nat := 0
def theMethod : MethodId := ⟨1, 4⟩
def args0 : Array Value := #[.int 49, .int 46, .int 50, .int 51, .int 52, .int 40]
def aboutOver (below : List Frame) : State where
  vm := { classes := classes, interned := interned.toArray }
  heap := heap
  slotsUsed := slotsUsed
  threads := #[{ frames := .invoking theMethod args0 :: below }]
def below0 : List Frame := [.native { method := ⟨0, 0⟩, args := #[] }]
def about1 : State := aboutOver below0
def p0 : Program := .bare "" "" ""
def e0 : Env := launch0.env 0 0 0
theorem w_frames : about1.frames = Frame.invoking theMethod args0 :: below0 := rfl
set_option maxRecDepth 65536 in
theorem w_args : argsFit about1.vm theMethod args0 = true := by decide +kernel
set_option maxRecDepth 65536 in
theorem w_heap : heapFits about1 = true := by decide +kernel
set_option maxRecDepth 65536 in
theorem w_runnable : about1.curStatus? = some .runnable := by decide +kernel
set_option maxRecDepth 65536 in
theorem w_alone : about1.alone = true := by decide +kernel
set_option maxRecDepth 65536 in
theorem w_named : about1.methodNamed? x = some theMethod := by decide +kernel
set_option maxRecDepth 65536 in
theorem w_hears : about1.hears theMethod below0 = true := by decide +kernel
set_option maxRecDepth 65536 in
theorem w_ripe : about1.ripe theMethod args0 below0 = true := by decide +kernel
theorem w_running : about1.status = .running := rfl
set_option maxRecDepth 65536 in
theorem w_room : about1.hasRoom e0.platform room_1 = true :=
  launch0.hasRoom_least _ room_1 (by decide +kernel) (by decide +kernel) (by decide +kernel) (by decide +kernel) (by decide +kernel) (by decide +kernel)
theorem allAtoms_all (ts : List Jvm.Cond) (a : Array Jvm.Value) (st : Jvm.State) : (allAtoms ts).before a st = ts.all (fun c => c.before a st) := by
  induction ts with
  | nil => rfl
  | cons c t ih =>
    show (Jvm.Cond.and c (allAtoms t)).before a st = _
    rw [Jvm.Cond.before_and, ih, List.all_cons]
def words1 : List Jvm.Cond := Jvm.Cond.code x code maxLocals ret :: tables_1
/-- a 'code' word, met by the world's own term for the bytes: nothing is compared byte by byte -/
theorem code_word {y : MethodName} {bytes : ByteArray} {mx : Nat} {rt : Option FieldType} {a : Array Value} {s : State} {m : MethodId} {meth : Method} {c : Code} (h1 : s.methodNamed? y = some m) (h2 : s.vm.method? m = some meth) (h3 : meth.code = some c) (h4 : c.code = bytes)
    (h5 : (c.maxLocals == mx && c.exceptionTable.isEmpty && decide (c.maxStack ≤ mostOperands) && decide (meth.sig.returnType = rt) && !meth.locks && decide (parseMethodDescriptor y.desc = some meth.sig)) = true) : (Jvm.Cond.code y bytes mx rt).before a s = true := by
  simp only [Bool.and_eq_true, beq_iff_eq, Bool.not_eq_true', decide_eq_true_eq] at h5
  obtain ⟨⟨⟨⟨⟨g1, g2⟩, g3⟩, g4⟩, g5⟩, g6⟩ := h5
  simp [Cond.before, Cond.holds, Cond.value, h1, h2, h3, h4, g1, g2, g3, g4, g5, g6]
def isCode : Jvm.Cond → Bool
  | .code _ _ _ _ => true
  | _ => false
theorem all_split {L : List Jvm.Cond} {P : Jvm.Cond → Bool} (h1 : L.all (fun c => isCode c || P c) = true) (h2 : ∀ c ∈ L.filter isCode, P c = true) : L.all P = true := by
  refine List.all_eq_true.mpr fun c hc => ?_
  have h := List.all_eq_true.mp h1 c hc
  rcases Bool.eq_false_or_eq_true (isCode c) with hi | hi
  · exact h2 c (List.mem_filter.mpr ⟨hc, hi⟩)
  · simpa [hi] using h
set_option maxRecDepth 65536 in
theorem w_c0 : (Jvm.Cond.code x code maxLocals ret).before args0 about1 = true := code_word (m := ⟨1, 4⟩) (meth := k1m4) (c := k1c4) (by decide +kernel) rfl rfl rfl (by decide +kernel)
set_option maxRecDepth 65536 in
theorem w_c1 : (Jvm.Cond.code ({ cls := "java/lang/Math", name := "min", desc := "(II)I" } : Jvm.MethodName) jdk_29_method_69_code (2 : Nat) (Option.some Jvm.ClassFile.FieldType.int)).before args0 about1 = true := code_word (m := ⟨2, 2⟩) (meth := k2m2) (c := k2c2) (by decide +kernel) rfl rfl rfl (by decide +kernel)
set_option maxRecDepth 65536 in
theorem w_c2 : (Jvm.Cond.code ({ cls := "java/lang/Math", name := "max", desc := "(II)I" } : Jvm.MethodName) jdk_29_method_65_code (2 : Nat) (Option.some Jvm.ClassFile.FieldType.int)).before args0 about1 = true := code_word (m := ⟨2, 1⟩) (meth := k2m1) (c := k2c1) (by decide +kernel) rfl rfl rfl (by decide +kernel)
set_option maxRecDepth 65536 in
theorem w_c3 : (Jvm.Cond.code ({ cls := "com/example/stakan/stakan/NumeralsDecimalEndPinLaw", name := "firstHit", desc := "([CIIZ)I" } : Jvm.MethodName) method_4_code (5 : Nat) (Option.some Jvm.ClassFile.FieldType.int)).before args0 about1 = true := code_word (m := ⟨1, 3⟩) (meth := k1m3) (c := k1c3) (by decide +kernel) rfl rfl rfl (by decide +kernel)
set_option maxRecDepth 65536 in
theorem w_c4 : (Jvm.Cond.code ({ cls := "com/example/stakan/stakan/NumeralsDecimalEndPinLaw", name := "hit", desc := "([CIIIZ)Z" } : Jvm.MethodName) method_3_code (6 : Nat) (Option.some Jvm.ClassFile.FieldType.boolean)).before args0 about1 = true := code_word (m := ⟨1, 2⟩) (meth := k1m2) (c := k1c2) (by decide +kernel) rfl rfl rfl (by decide +kernel)
set_option maxRecDepth 65536 in
theorem w_c5 : (Jvm.Cond.code ({ cls := "com/example/stakan/stakan/NumeralsDecimalEndPinLaw", name := "isDigit", desc := "(C)Z" } : Jvm.MethodName) method_2_code (1 : Nat) (Option.some Jvm.ClassFile.FieldType.boolean)).before args0 about1 = true := code_word (m := ⟨1, 1⟩) (meth := k1m1) (c := k1c1) (by decide +kernel) rfl rfl rfl (by decide +kernel)
set_option maxRecDepth 65536 in
theorem w_c6 : (Jvm.Cond.code ({ cls := "com/example/stakan/stakan/Numerals", name := "decimalEnd", desc := "([CII)I" } : Jvm.MethodName) prog_27_method_2_code (7 : Nat) (Option.some Jvm.ClassFile.FieldType.int)).before args0 about1 = true := code_word (m := ⟨3, 1⟩) (meth := k3m1) (c := k3c1) (by decide +kernel) rfl rfl rfl (by decide +kernel)
def codes1 : List Jvm.Cond := [Jvm.Cond.code x code maxLocals ret, Jvm.Cond.code ({ cls := "java/lang/Math", name := "min", desc := "(II)I" } : Jvm.MethodName) jdk_29_method_69_code (2 : Nat) (Option.some Jvm.ClassFile.FieldType.int), Jvm.Cond.code ({ cls := "java/lang/Math", name := "max", desc := "(II)I" } : Jvm.MethodName) jdk_29_method_65_code (2 : Nat) (Option.some Jvm.ClassFile.FieldType.int), Jvm.Cond.code ({ cls := "com/example/stakan/stakan/NumeralsDecimalEndPinLaw", name := "firstHit", desc := "([CIIZ)I" } : Jvm.MethodName) method_4_code (5 : Nat) (Option.some Jvm.ClassFile.FieldType.int), Jvm.Cond.code ({ cls := "com/example/stakan/stakan/NumeralsDecimalEndPinLaw", name := "hit", desc := "([CIIIZ)Z" } : Jvm.MethodName) method_3_code (6 : Nat) (Option.some Jvm.ClassFile.FieldType.boolean), Jvm.Cond.code ({ cls := "com/example/stakan/stakan/NumeralsDecimalEndPinLaw", name := "isDigit", desc := "(C)Z" } : Jvm.MethodName) method_2_code (1 : Nat) (Option.some Jvm.ClassFile.FieldType.boolean), Jvm.Cond.code ({ cls := "com/example/stakan/stakan/Numerals", name := "decimalEnd", desc := "([CII)I" } : Jvm.MethodName) prog_27_method_2_code (7 : Nat) (Option.some Jvm.ClassFile.FieldType.int)]
set_option maxRecDepth 65536 in
theorem codes_eq : words1.filter isCode = codes1 := rfl
theorem w_codes : ∀ c ∈ words1.filter isCode, c.before args0 about1 = true := by
  rw [codes_eq]
  intro c hc
  simp only [codes1, List.mem_cons, List.not_mem_nil, or_false] at hc
  rcases hc with rfl | rfl | rfl | rfl | rfl | rfl | rfl
  · exact w_c0
  · exact w_c1
  · exact w_c2
  · exact w_c3
  · exact w_c4
  · exact w_c5
  · exact w_c6
set_option maxRecDepth 65536 in
theorem w_t1 : words1.all (fun c => isCode c || c.before args0 about1) = true := by decide +kernel
theorem w_tables : (allAtoms (Jvm.Cond.code x code maxLocals ret :: tables_1)).before args0 about1 = true := by
  rw [allAtoms_all]
  show words1.all (fun c => c.before args0 about1) = true
  refine all_split ?_ w_codes
  rw [w_t1]
set_option maxRecDepth 65536 in
theorem w_case : (Jvm.Cond.and given_1 narrow_1).before args0 about1 = true := by decide +kernel
theorem w_applies : (headSpec (Jvm.Cond.code x code maxLocals ret :: tables_1) room_1).applies x e0.platform about1 = true :=
  (Spec.applies_iff w_frames).mpr ⟨w_running, w_runnable, w_alone, w_named, w_hears, w_ripe, w_room, w_tables⟩
theorem atStart : AtStart classFile x code maxLocals ret World_1 tables_1 room_1 Calls_1 rest_1 Pre_1 launch0 p0 e0 about1 theMethod args0 below0 :=
  ⟨lists_1, trivial, launch0.admits_env _ _ _, launch0.least_env, fairChoices_fair.cas, fairChoices_fair.clock, w_frames, w_args, w_heap, w_applies, trivial, trivial, w_case⟩
end start1
theorem witness_1 : WitnessClaimed_1 := ⟨start1.p0, start1.e0, start1.about1, start1.theMethod, start1.args0, start1.below0, start1.atStart⟩
end Jvm.Pilot.@@N@@
