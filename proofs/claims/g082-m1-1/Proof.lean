import JvmDerived
import JvmDerived.Pilot.@@N@@Statement
import JvmDerived.Pilot.@@N@@Code
set_option linter.unusedVariables false
set_option linter.unusedSimpArgs false
@@BLOCK:NumsL.lean.txt@@
namespace Jvm.RoadKit
open Sem ClassFile Op Lib Jvm.Stand Jvm.Free Jvm.LawKit
section New
variable {p : Program} {l : Launch} {e : Env} {R : Room} {s : State} {m : MethodId} {args : Array Value} {below : List Frame} {meth : Method} {c : Code} {T : State} {locs : List Loc} {cells slots : Nat}
theorem retI (X : Stand p l e R s m args below meth c T locs cells slots) (hx : p.tables.exec = Jvm.exec) {pc : Nat} {Ls : Array Slot} {z : Int32} {rest : List Value} (hret : meth.sig.returnType = some .int) (hd : decode c.code pc = .ok (.ireturn, 1)) {fs : List Frame}
    (hl : ∀ (f : JFrame) (acts : List Action), f.method = m → f.locked = none → f.entered = [] → (doReturn e (T.setTop f) acts (some (.int z))).1 = T.setFrames fs) : Steps p.tables e below (T.setTop (mkF m pc Ls (.int z :: rest))) (T.setFrames fs) := by
  have hm' : T.vm.method? m = some meth := X.method'
  have hn : narrow .int (.int z) = .int z := rfl
  show Steps p.tables e below (T.setTop { method := m, pc := pc, locals := Ls, stack := _ :: rest, locked := none }) _
  jvm_step X.here [X.here.top, hx, hd, hm', hret, hn]
  first | (intro acts; rw [hl _ acts rfl rfl rfl]) | rw [hl _ _ rfl rfl rfl]
  exact Steps.refl _
end New
end Jvm.RoadKit
namespace Jvm.Pilot.@@N@@
open Jvm Jvm.ClassFile Sem Op Lib Jvm.Free Jvm.Stand Jvm.LawKit Jvm.RoadKit Bundle Jvm.Pilot.@@N@@.Jvm.D
section OwnBase
variable {p : Program} {l : Launch} {e : Env} {R : Room} {s : State} {m : MethodId} {args : Array Value} {below : List Frame} {meth : Method} {c : Code} {T : State} {h : Heap} {locs : List Loc} {cells slots : Nat} {Z : State} {a0 : Array Value} {own nm : String} {bytes : ByteArray} {mx : Nat} {rt : Option FieldType} {K : State → Outcome → Prop} {pc pc' : Nat} {Ls : Array Slot} {rest : List Value}
/-- the run from S comes to an end that is as K says -/
def own_Go (p : Program) (e : Env) (below : List Frame) (K : State → Outcome → Prop) (S : State) : Prop :=
  ∃ t o, Steps p.tables e below S t ∧ t.status = .running ∧ Ended t below o ∧ K t o
def own_K (s : State) (Q : Option Value → Heap → List Loc → Prop) (kc ks : Nat) (t : State) (o : Outcome) : Prop :=
  ∃ v L, o = .returned v ∧ Q v t.heap L ∧ FrameEnd s o t L kc ks
/-- the walk stands: all that a step asks, in one word -/
def own_S (Z : State) (own nm : String) (bytes : ByteArray) (mx : Nat) (rt : Option FieldType) (p : Program) (l : Launch) (e : Env) (R : Room) (s : State) (m : MethodId) (args : Array Value) (below : List Frame) (meth : Method) (c : Code) (T : State) (h : Heap) (locs : List Loc) (cells slots : Nat) : Prop :=
  Stand p l e R s m args below meth c T locs cells slots ∧ p.tables.exec = Jvm.exec ∧ c.code = bytes ∧ c.maxLocals = mx ∧ s.vm.findClass own = some m.cls ∧ Z.Warmed39 s.vm ∧ meth.sig.returnType = rt ∧ meth.locks = false ∧ T.heap = h ∧ meth.name = nm
theorem own_S.st (P : own_S Z own nm bytes mx rt p l e R s m args below meth c T h locs cells slots) : Stand p l e R s m args below meth c T locs cells slots := P.1
theorem own_S.ex (P : own_S Z own nm bytes mx rt p l e R s m args below meth c T h locs cells slots) : p.tables.exec = Jvm.exec := P.2.1
theorem own_S.cd (P : own_S Z own nm bytes mx rt p l e R s m args below meth c T h locs cells slots) {pc : Nat} {r : Except ClassFile.DecodeError (ClassFile.Instr × Nat)} (hd : decode bytes pc = r) : decode c.code pc = r := hb P.2.2.1 hd
theorem own_S.ml (P : own_S Z own nm bytes mx rt p l e R s m args below meth c T h locs cells slots) : c.maxLocals = mx := P.2.2.2.1
theorem own_S.ow (P : own_S Z own nm bytes mx rt p l e R s m args below meth c T h locs cells slots) : s.vm.findClass own = some m.cls := P.2.2.2.2.1
theorem own_S.wz (P : own_S Z own nm bytes mx rt p l e R s m args below meth c T h locs cells slots) : Z.Warmed39 s.vm := P.2.2.2.2.2.1
theorem own_S.rty (P : own_S Z own nm bytes mx rt p l e R s m args below meth c T h locs cells slots) : meth.sig.returnType = rt := P.2.2.2.2.2.2.1
theorem own_S.lk (P : own_S Z own nm bytes mx rt p l e R s m args below meth c T h locs cells slots) : meth.locks = false := P.2.2.2.2.2.2.2.1
theorem own_S.hp (P : own_S Z own nm bytes mx rt p l e R s m args below meth c T h locs cells slots) : T.heap = h := P.2.2.2.2.2.2.2.2.1
theorem own_S.nmm (P : own_S Z own nm bytes mx rt p l e R s m args below meth c T h locs cells slots) : meth.name = nm := P.2.2.2.2.2.2.2.2.2
theorem own_S.move (P : own_S Z own nm bytes mx rt p l e R s m args below meth c T h locs cells slots) {T' : State} {h' : Heap} {locs' : List Loc} {cells' slots' : Nat} (X : Stand p l e R s m args below meth c T' locs' cells' slots') (eh : T'.heap = h') : own_S Z own nm bytes mx rt p l e R s m args below meth c T' h' locs' cells' slots' :=
  ⟨X, P.2.1, P.2.2.1, P.2.2.2.1, P.2.2.2.2.1, P.2.2.2.2.2.1, P.2.2.2.2.2.2.1, P.2.2.2.2.2.2.2.1, eh, P.2.2.2.2.2.2.2.2.2⟩
theorem own_st {S S' : State} (h : ∀ t, Steps p.tables e below S' t → Steps p.tables e below S t) (k : own_Go p e below K S') : own_Go p e below K S := by
  obtain ⟨t, o, h1, h2⟩ := k
  exact ⟨t, o, h t h1, h2⟩

theorem own_iadd (P : own_S Z own nm bytes mx rt p l e R s m args below meth c T h locs cells slots) {x y : Int32} (hd : decode bytes pc = .ok (.iadd, 1)) (hp : pc + 1 = pc')
    (k : own_Go p e below K (T.setTop (mkF m pc' Ls (.int (x + y) :: rest)))) : own_Go p e below K (T.setTop (mkF m pc Ls (.int y :: .int x :: rest))) := by
  subst hp
  exact own_st (fun t k => XS.iadd P.st.here P.ex rfl (P.cd hd) rfl k) k
theorem own_isub (P : own_S Z own nm bytes mx rt p l e R s m args below meth c T h locs cells slots) {x y : Int32} (hd : decode bytes pc = .ok (.isub, 1)) (hp : pc + 1 = pc')
    (k : own_Go p e below K (T.setTop (mkF m pc' Ls (.int (x - y) :: rest)))) : own_Go p e below K (T.setTop (mkF m pc Ls (.int y :: .int x :: rest))) := by
  subst hp
  exact own_st (fun t k => XS.isub P.st.here P.ex rfl (P.cd hd) rfl k) k
theorem own_imul (P : own_S Z own nm bytes mx rt p l e R s m args below meth c T h locs cells slots) {x y : Int32} (hd : decode bytes pc = .ok (.imul, 1)) (hp : pc + 1 = pc')
    (k : own_Go p e below K (T.setTop (mkF m pc' Ls (.int (x * y) :: rest)))) : own_Go p e below K (T.setTop (mkF m pc Ls (.int y :: .int x :: rest))) := by
  subst hp
  exact own_st (fun t k => XS.imul P.st.here P.ex rfl (P.cd hd) rfl k) k
theorem own_iand (P : own_S Z own nm bytes mx rt p l e R s m args below meth c T h locs cells slots) {x y : Int32} (hd : decode bytes pc = .ok (.iand, 1)) (hp : pc + 1 = pc')
    (k : own_Go p e below K (T.setTop (mkF m pc' Ls (.int (x &&& y) :: rest)))) : own_Go p e below K (T.setTop (mkF m pc Ls (.int y :: .int x :: rest))) := by
  subst hp
  exact own_st (fun t k => XS.iand P.st.here P.ex rfl (P.cd hd) rfl k) k
theorem own_ior (P : own_S Z own nm bytes mx rt p l e R s m args below meth c T h locs cells slots) {x y : Int32} (hd : decode bytes pc = .ok (.ior, 1)) (hp : pc + 1 = pc')
    (k : own_Go p e below K (T.setTop (mkF m pc' Ls (.int (x ||| y) :: rest)))) : own_Go p e below K (T.setTop (mkF m pc Ls (.int y :: .int x :: rest))) := by
  subst hp
  exact own_st (fun t k => XS.ior P.st.here P.ex rfl (P.cd hd) rfl k) k
theorem own_ixor (P : own_S Z own nm bytes mx rt p l e R s m args below meth c T h locs cells slots) {x y : Int32} (hd : decode bytes pc = .ok (.ixor, 1)) (hp : pc + 1 = pc')
    (k : own_Go p e below K (T.setTop (mkF m pc' Ls (.int (x ^^^ y) :: rest)))) : own_Go p e below K (T.setTop (mkF m pc Ls (.int y :: .int x :: rest))) := by
  subst hp
  exact own_st (fun t k => XS.ixor P.st.here P.ex rfl (P.cd hd) rfl k) k
theorem own_idiv (P : own_S Z own nm bytes mx rt p l e R s m args below meth c T h locs cells slots) {x y : Int32} (hd : decode bytes pc = .ok (.idiv, 1)) (hp : pc + 1 = pc') (hy : y ≠ 0)
    (k : own_Go p e below K (T.setTop (mkF m pc' Ls (.int (x / y) :: rest)))) : own_Go p e below K (T.setTop (mkF m pc Ls (.int y :: .int x :: rest))) := by
  subst hp
  exact own_st (fun t k => XS.idiv P.st.here P.ex rfl (P.cd hd) rfl hy k) k
theorem own_irem (P : own_S Z own nm bytes mx rt p l e R s m args below meth c T h locs cells slots) {x y : Int32} (hd : decode bytes pc = .ok (.irem, 1)) (hp : pc + 1 = pc') (hy : y ≠ 0)
    (k : own_Go p e below K (T.setTop (mkF m pc' Ls (.int (x - (x / y) * y) :: rest)))) : own_Go p e below K (T.setTop (mkF m pc Ls (.int y :: .int x :: rest))) := by
  subst hp
  exact own_st (fun t k => XS.irem P.st.here P.ex rfl (P.cd hd) rfl hy k) k
theorem own_ladd (P : own_S Z own nm bytes mx rt p l e R s m args below meth c T h locs cells slots) {x y : Int64} (hd : decode bytes pc = .ok (.ladd, 1)) (hp : pc + 1 = pc')
    (k : own_Go p e below K (T.setTop (mkF m pc' Ls (.long (x + y) :: rest)))) : own_Go p e below K (T.setTop (mkF m pc Ls (.long y :: .long x :: rest))) := by
  subst hp
  exact own_st (fun t k => XS.ladd P.st.here P.ex rfl (P.cd hd) rfl k) k
theorem own_lsub (P : own_S Z own nm bytes mx rt p l e R s m args below meth c T h locs cells slots) {x y : Int64} (hd : decode bytes pc = .ok (.lsub, 1)) (hp : pc + 1 = pc')
    (k : own_Go p e below K (T.setTop (mkF m pc' Ls (.long (x - y) :: rest)))) : own_Go p e below K (T.setTop (mkF m pc Ls (.long y :: .long x :: rest))) := by
  subst hp
  exact own_st (fun t k => XS.lsub P.st.here P.ex rfl (P.cd hd) rfl k) k
theorem own_lmul (P : own_S Z own nm bytes mx rt p l e R s m args below meth c T h locs cells slots) {x y : Int64} (hd : decode bytes pc = .ok (.lmul, 1)) (hp : pc + 1 = pc')
    (k : own_Go p e below K (T.setTop (mkF m pc' Ls (.long (x * y) :: rest)))) : own_Go p e below K (T.setTop (mkF m pc Ls (.long y :: .long x :: rest))) := by
  subst hp
  exact own_st (fun t k => XS.lmul P.st.here P.ex rfl (P.cd hd) rfl k) k
theorem own_land (P : own_S Z own nm bytes mx rt p l e R s m args below meth c T h locs cells slots) {x y : Int64} (hd : decode bytes pc = .ok (.land, 1)) (hp : pc + 1 = pc')
    (k : own_Go p e below K (T.setTop (mkF m pc' Ls (.long (x &&& y) :: rest)))) : own_Go p e below K (T.setTop (mkF m pc Ls (.long y :: .long x :: rest))) := by
  subst hp
  exact own_st (fun t k => XS.land P.st.here P.ex rfl (P.cd hd) rfl k) k
theorem own_lor (P : own_S Z own nm bytes mx rt p l e R s m args below meth c T h locs cells slots) {x y : Int64} (hd : decode bytes pc = .ok (.lor, 1)) (hp : pc + 1 = pc')
    (k : own_Go p e below K (T.setTop (mkF m pc' Ls (.long (x ||| y) :: rest)))) : own_Go p e below K (T.setTop (mkF m pc Ls (.long y :: .long x :: rest))) := by
  subst hp
  exact own_st (fun t k => XS.lor P.st.here P.ex rfl (P.cd hd) rfl k) k
theorem own_lxor (P : own_S Z own nm bytes mx rt p l e R s m args below meth c T h locs cells slots) {x y : Int64} (hd : decode bytes pc = .ok (.lxor, 1)) (hp : pc + 1 = pc')
    (k : own_Go p e below K (T.setTop (mkF m pc' Ls (.long (x ^^^ y) :: rest)))) : own_Go p e below K (T.setTop (mkF m pc Ls (.long y :: .long x :: rest))) := by
  subst hp
  exact own_st (fun t k => XS.lxor P.st.here P.ex rfl (P.cd hd) rfl k) k
theorem own_ldiv (P : own_S Z own nm bytes mx rt p l e R s m args below meth c T h locs cells slots) {x y : Int64} (hd : decode bytes pc = .ok (.ldiv, 1)) (hp : pc + 1 = pc') (hy : y ≠ 0)
    (k : own_Go p e below K (T.setTop (mkF m pc' Ls (.long (x / y) :: rest)))) : own_Go p e below K (T.setTop (mkF m pc Ls (.long y :: .long x :: rest))) := by
  subst hp
  exact own_st (fun t k => XS.ldiv P.st.here P.ex rfl (P.cd hd) rfl hy k) k
theorem own_lrem (P : own_S Z own nm bytes mx rt p l e R s m args below meth c T h locs cells slots) {x y : Int64} (hd : decode bytes pc = .ok (.lrem, 1)) (hp : pc + 1 = pc') (hy : y ≠ 0)
    (k : own_Go p e below K (T.setTop (mkF m pc' Ls (.long (x - (x / y) * y) :: rest)))) : own_Go p e below K (T.setTop (mkF m pc Ls (.long y :: .long x :: rest))) := by
  subst hp
  exact own_st (fun t k => XS.lrem P.st.here P.ex rfl (P.cd hd) rfl hy k) k
theorem own_ishl (P : own_S Z own nm bytes mx rt p l e R s m args below meth c T h locs cells slots) {x y : Int32} (hd : decode bytes pc = .ok (.ishl, 1)) (hp : pc + 1 = pc')
    (k : own_Go p e below K (T.setTop (mkF m pc' Ls (.int (x <<< (y &&& 31)) :: rest)))) : own_Go p e below K (T.setTop (mkF m pc Ls (.int y :: .int x :: rest))) := by
  subst hp
  exact own_st (fun t k => XS.ishl P.st.here P.ex rfl (P.cd hd) rfl k) k
theorem own_ishr (P : own_S Z own nm bytes mx rt p l e R s m args below meth c T h locs cells slots) {x y : Int32} (hd : decode bytes pc = .ok (.ishr, 1)) (hp : pc + 1 = pc')
    (k : own_Go p e below K (T.setTop (mkF m pc' Ls (.int (x >>> (y &&& 31)) :: rest)))) : own_Go p e below K (T.setTop (mkF m pc Ls (.int y :: .int x :: rest))) := by
  subst hp
  exact own_st (fun t k => XS.ishr P.st.here P.ex rfl (P.cd hd) rfl k) k
theorem own_iushr (P : own_S Z own nm bytes mx rt p l e R s m args below meth c T h locs cells slots) {x y : Int32} (hd : decode bytes pc = .ok (.iushr, 1)) (hp : pc + 1 = pc')
    (k : own_Go p e below K (T.setTop (mkF m pc' Ls (.int ((x.toUInt32 >>> (y &&& 31).toUInt32).toInt32) :: rest)))) : own_Go p e below K (T.setTop (mkF m pc Ls (.int y :: .int x :: rest))) := by
  subst hp
  exact own_st (fun t k => XS.iushr P.st.here P.ex rfl (P.cd hd) rfl k) k
theorem own_lshl (P : own_S Z own nm bytes mx rt p l e R s m args below meth c T h locs cells slots) {x : Int64} {y : Int32} (hd : decode bytes pc = .ok (.lshl, 1)) (hp : pc + 1 = pc')
    (k : own_Go p e below K (T.setTop (mkF m pc' Ls (.long (x <<< (y &&& 0x3f).toInt64) :: rest)))) : own_Go p e below K (T.setTop (mkF m pc Ls (.int y :: .long x :: rest))) := by
  subst hp
  exact own_st (fun t k => XS.lshl P.st.here P.ex rfl (P.cd hd) rfl k) k
theorem own_lshr (P : own_S Z own nm bytes mx rt p l e R s m args below meth c T h locs cells slots) {x : Int64} {y : Int32} (hd : decode bytes pc = .ok (.lshr, 1)) (hp : pc + 1 = pc')
    (k : own_Go p e below K (T.setTop (mkF m pc' Ls (.long (x >>> (y &&& 0x3f).toInt64) :: rest)))) : own_Go p e below K (T.setTop (mkF m pc Ls (.int y :: .long x :: rest))) := by
  subst hp
  exact own_st (fun t k => XS.lshr P.st.here P.ex rfl (P.cd hd) rfl k) k
theorem own_lushr (P : own_S Z own nm bytes mx rt p l e R s m args below meth c T h locs cells slots) {x : Int64} {y : Int32} (hd : decode bytes pc = .ok (.lushr, 1)) (hp : pc + 1 = pc')
    (k : own_Go p e below K (T.setTop (mkF m pc' Ls (.long ((x.toUInt64 >>> (y &&& 0x3f).toInt64.toUInt64).toInt64) :: rest)))) : own_Go p e below K (T.setTop (mkF m pc Ls (.int y :: .long x :: rest))) := by
  subst hp
  exact own_st (fun t k => XS.lushr P.st.here P.ex rfl (P.cd hd) rfl k) k
theorem own_i2l (P : own_S Z own nm bytes mx rt p l e R s m args below meth c T h locs cells slots) {x : Int32} (hd : decode bytes pc = .ok (.i2l, 1)) (hp : pc + 1 = pc')
    (k : own_Go p e below K (T.setTop (mkF m pc' Ls (.long (x.toInt64) :: rest)))) : own_Go p e below K (T.setTop (mkF m pc Ls (.int x :: rest))) := by
  subst hp
  exact own_st (fun t k => XS.i2l P.st.here P.ex rfl (P.cd hd) rfl k) k
theorem own_l2i (P : own_S Z own nm bytes mx rt p l e R s m args below meth c T h locs cells slots) {x : Int64} (hd : decode bytes pc = .ok (.l2i, 1)) (hp : pc + 1 = pc')
    (k : own_Go p e below K (T.setTop (mkF m pc' Ls (.int (x.toInt32) :: rest)))) : own_Go p e below K (T.setTop (mkF m pc Ls (.long x :: rest))) := by
  subst hp
  exact own_st (fun t k => XS.l2i P.st.here P.ex rfl (P.cd hd) rfl k) k
theorem own_i2b (P : own_S Z own nm bytes mx rt p l e R s m args below meth c T h locs cells slots) {x : Int32} (hd : decode bytes pc = .ok (.i2b, 1)) (hp : pc + 1 = pc')
    (k : own_Go p e below K (T.setTop (mkF m pc' Ls (.int (x.toInt8.toInt32) :: rest)))) : own_Go p e below K (T.setTop (mkF m pc Ls (.int x :: rest))) := by
  subst hp
  exact own_st (fun t k => XS.i2b P.st.here P.ex rfl (P.cd hd) rfl k) k
theorem own_i2c (P : own_S Z own nm bytes mx rt p l e R s m args below meth c T h locs cells slots) {x : Int32} (hd : decode bytes pc = .ok (.i2c, 1)) (hp : pc + 1 = pc')
    (k : own_Go p e below K (T.setTop (mkF m pc' Ls (.int (x.toUInt32.toUInt16.toUInt32.toInt32) :: rest)))) : own_Go p e below K (T.setTop (mkF m pc Ls (.int x :: rest))) := by
  subst hp
  exact own_st (fun t k => XS.i2c P.st.here P.ex rfl (P.cd hd) rfl k) k
theorem own_i2s (P : own_S Z own nm bytes mx rt p l e R s m args below meth c T h locs cells slots) {x : Int32} (hd : decode bytes pc = .ok (.i2s, 1)) (hp : pc + 1 = pc')
    (k : own_Go p e below K (T.setTop (mkF m pc' Ls (.int (x.toInt16.toInt32) :: rest)))) : own_Go p e below K (T.setTop (mkF m pc Ls (.int x :: rest))) := by
  subst hp
  exact own_st (fun t k => XS.i2s P.st.here P.ex rfl (P.cd hd) rfl k) k
theorem own_lneg (P : own_S Z own nm bytes mx rt p l e R s m args below meth c T h locs cells slots) {x : Int64} (hd : decode bytes pc = .ok (.lneg, 1)) (hp : pc + 1 = pc')
    (k : own_Go p e below K (T.setTop (mkF m pc' Ls (.long (-x) :: rest)))) : own_Go p e below K (T.setTop (mkF m pc Ls (.long x :: rest))) := by
  subst hp
  exact own_st (fun t k => XS.lneg P.st.here P.ex rfl (P.cd hd) rfl k) k
theorem own_ineg (P : own_S Z own nm bytes mx rt p l e R s m args below meth c T h locs cells slots) {x : Int32} (hd : decode bytes pc = .ok (.ineg, 1)) (hp : pc + 1 = pc')
    (k : own_Go p e below K (T.setTop (mkF m pc' Ls (.int (-x) :: rest)))) : own_Go p e below K (T.setTop (mkF m pc Ls (.int x :: rest))) := by
  subst hp
  exact own_st (fun t k => XS.ineg P.st.here P.ex rfl (P.cd hd) rfl k) k
theorem own_iloadN (P : own_S Z own nm bytes mx rt p l e R s m args below meth c T h locs cells slots) {j : Fin 4} {v : Int32} (hd : decode bytes pc = .ok (.iload_n j, 1)) (hp : pc + 1 = pc') (hl : Ls[j.val]? = some (.val (.int v)))
    (k : own_Go p e below K (T.setTop (mkF m pc' Ls (.int v :: rest)))) : own_Go p e below K (T.setTop (mkF m pc Ls rest)) := by
  subst hp
  exact own_st (fun t k => XS.iloadN P.st.here P.ex rfl (P.cd hd) hl k) k
theorem own_iload (P : own_S Z own nm bytes mx rt p l e R s m args below meth c T h locs cells slots) {j : Nat} {v : Int32} (hd : decode bytes pc = .ok (.iload j, 2)) (hp : pc + 2 = pc') (hl : Ls[j]? = some (.val (.int v)))
    (k : own_Go p e below K (T.setTop (mkF m pc' Ls (.int v :: rest)))) : own_Go p e below K (T.setTop (mkF m pc Ls rest)) := by
  subst hp
  exact own_st (fun t k => XS.iload P.st.here P.ex rfl (P.cd hd) hl k) k
theorem own_lloadN (P : own_S Z own nm bytes mx rt p l e R s m args below meth c T h locs cells slots) {j : Fin 4} {v : Int64} (hd : decode bytes pc = .ok (.lload_n j, 1)) (hp : pc + 1 = pc') (hl : Ls[j.val]? = some (.val (.long v)))
    (k : own_Go p e below K (T.setTop (mkF m pc' Ls (.long v :: rest)))) : own_Go p e below K (T.setTop (mkF m pc Ls rest)) := by
  subst hp
  exact own_st (fun t k => XS.lloadN P.st.here P.ex rfl (P.cd hd) hl k) k
theorem own_lload (P : own_S Z own nm bytes mx rt p l e R s m args below meth c T h locs cells slots) {j : Nat} {v : Int64} (hd : decode bytes pc = .ok (.lload j, 2)) (hp : pc + 2 = pc') (hl : Ls[j]? = some (.val (.long v)))
    (k : own_Go p e below K (T.setTop (mkF m pc' Ls (.long v :: rest)))) : own_Go p e below K (T.setTop (mkF m pc Ls rest)) := by
  subst hp
  exact own_st (fun t k => XS.lload P.st.here P.ex rfl (P.cd hd) hl k) k
theorem own_aloadN (P : own_S Z own nm bytes mx rt p l e R s m args below meth c T h locs cells slots) {j : Fin 4} {v : Value} (hd : decode bytes pc = .ok (.aload_n j, 1)) (hp : pc + 1 = pc') (hl : Ls[j.val]? = some (.val v)) (hv : v.isRef = true)
    (k : own_Go p e below K (T.setTop (mkF m pc' Ls (v :: rest)))) : own_Go p e below K (T.setTop (mkF m pc Ls rest)) := by
  subst hp
  exact own_st (fun t k => XS.aloadN P.st.here P.ex rfl (P.cd hd) hl hv k) k
theorem own_aload (P : own_S Z own nm bytes mx rt p l e R s m args below meth c T h locs cells slots) {j : Nat} {v : Value} (hd : decode bytes pc = .ok (.aload j, 2)) (hp : pc + 2 = pc') (hl : Ls[j]? = some (.val v)) (hv : v.isRef = true)
    (k : own_Go p e below K (T.setTop (mkF m pc' Ls (v :: rest)))) : own_Go p e below K (T.setTop (mkF m pc Ls rest)) := by
  subst hp
  exact own_st (fun t k => XS.aload P.st.here P.ex rfl (P.cd hd) hl hv k) k
theorem own_istoreN (P : own_S Z own nm bytes mx rt p l e R s m args below meth c T h locs cells slots) {j : Fin 4} {v : Int32} {Ls' : Array Slot} (hd : decode bytes pc = .ok (.istore_n j, 1)) (hp : pc + 1 = pc') (hl : storeLocals Ls j.val (.int v) = some Ls')
    (k : own_Go p e below K (T.setTop (mkF m pc' Ls' rest))) : own_Go p e below K (T.setTop (mkF m pc Ls (.int v :: rest))) := by
  subst hp
  exact own_st (fun t k => XS.istoreN P.st.here P.ex rfl (P.cd hd) rfl hl k) k
theorem own_istore (P : own_S Z own nm bytes mx rt p l e R s m args below meth c T h locs cells slots) {j : Nat} {v : Int32} {Ls' : Array Slot} (hd : decode bytes pc = .ok (.istore j, 2)) (hp : pc + 2 = pc') (hl : storeLocals Ls j (.int v) = some Ls')
    (k : own_Go p e below K (T.setTop (mkF m pc' Ls' rest))) : own_Go p e below K (T.setTop (mkF m pc Ls (.int v :: rest))) := by
  subst hp
  exact own_st (fun t k => XS.istore P.st.here P.ex rfl (P.cd hd) rfl hl k) k
theorem own_lstoreN (P : own_S Z own nm bytes mx rt p l e R s m args below meth c T h locs cells slots) {j : Fin 4} {v : Int64} {Ls' : Array Slot} (hd : decode bytes pc = .ok (.lstore_n j, 1)) (hp : pc + 1 = pc') (hl : storeLocals Ls j.val (.long v) = some Ls')
    (k : own_Go p e below K (T.setTop (mkF m pc' Ls' rest))) : own_Go p e below K (T.setTop (mkF m pc Ls (.long v :: rest))) := by
  subst hp
  exact own_st (fun t k => XS.lstoreN P.st.here P.ex rfl (P.cd hd) rfl hl k) k
theorem own_lstore (P : own_S Z own nm bytes mx rt p l e R s m args below meth c T h locs cells slots) {j : Nat} {v : Int64} {Ls' : Array Slot} (hd : decode bytes pc = .ok (.lstore j, 2)) (hp : pc + 2 = pc') (hl : storeLocals Ls j (.long v) = some Ls')
    (k : own_Go p e below K (T.setTop (mkF m pc' Ls' rest))) : own_Go p e below K (T.setTop (mkF m pc Ls (.long v :: rest))) := by
  subst hp
  exact own_st (fun t k => XS.lstore P.st.here P.ex rfl (P.cd hd) rfl hl k) k
theorem own_astoreN (P : own_S Z own nm bytes mx rt p l e R s m args below meth c T h locs cells slots) {j : Fin 4} {v : Value} {Ls' : Array Slot} (hd : decode bytes pc = .ok (.astore_n j, 1)) (hp : pc + 1 = pc') (hv : v.isRef = true) (hl : storeLocals Ls j.val v = some Ls')
    (k : own_Go p e below K (T.setTop (mkF m pc' Ls' rest))) : own_Go p e below K (T.setTop (mkF m pc Ls (v :: rest))) := by
  subst hp
  exact own_st (fun t k => XS.astoreN P.st.here P.ex rfl (P.cd hd) rfl hv hl k) k
theorem own_astore (P : own_S Z own nm bytes mx rt p l e R s m args below meth c T h locs cells slots) {j : Nat} {v : Value} {Ls' : Array Slot} (hd : decode bytes pc = .ok (.astore j, 2)) (hp : pc + 2 = pc') (hv : v.isRef = true) (hl : storeLocals Ls j v = some Ls')
    (k : own_Go p e below K (T.setTop (mkF m pc' Ls' rest))) : own_Go p e below K (T.setTop (mkF m pc Ls (v :: rest))) := by
  subst hp
  exact own_st (fun t k => XS.astore P.st.here P.ex rfl (P.cd hd) rfl hv hl k) k
theorem own_iconst (P : own_S Z own nm bytes mx rt p l e R s m args below meth c T h locs cells slots) {i : Int} {v : Int32} (hd : decode bytes pc = .ok (.iconst i, 1)) (hp : pc + 1 = pc') (hv : Int32.ofInt i = v)
    (k : own_Go p e below K (T.setTop (mkF m pc' Ls (.int v :: rest)))) : own_Go p e below K (T.setTop (mkF m pc Ls rest)) := by
  subst hp
  exact own_st (fun t k => XS.iconst P.st.here P.ex rfl (P.cd hd) (by rw [hv]; exact k)) k
theorem own_bipush (P : own_S Z own nm bytes mx rt p l e R s m args below meth c T h locs cells slots) {i : Int} {v : Int32} (hd : decode bytes pc = .ok (.bipush i, 2)) (hp : pc + 2 = pc') (hv : (Int8.ofInt i).toInt32 = v)
    (k : own_Go p e below K (T.setTop (mkF m pc' Ls (.int v :: rest)))) : own_Go p e below K (T.setTop (mkF m pc Ls rest)) := by
  subst hp
  exact own_st (fun t k => XS.bipush P.st.here P.ex rfl (P.cd hd) (by rw [hv]; exact k)) k
theorem own_sipush (P : own_S Z own nm bytes mx rt p l e R s m args below meth c T h locs cells slots) {i : Int} {v : Int32} (hd : decode bytes pc = .ok (.sipush i, 3)) (hp : pc + 3 = pc') (hv : (Int16.ofInt i).toInt32 = v)
    (k : own_Go p e below K (T.setTop (mkF m pc' Ls (.int v :: rest)))) : own_Go p e below K (T.setTop (mkF m pc Ls rest)) := by
  subst hp
  exact own_st (fun t k => XS.sipush P.st.here P.ex rfl (P.cd hd) (by rw [hv]; exact k)) k
theorem own_lconst (P : own_S Z own nm bytes mx rt p l e R s m args below meth c T h locs cells slots) {j : Fin 2} {v : Int64} (hd : decode bytes pc = .ok (.lconst j, 1)) (hp : pc + 1 = pc') (hv : Int64.ofNat j = v)
    (k : own_Go p e below K (T.setTop (mkF m pc' Ls (.long v :: rest)))) : own_Go p e below K (T.setTop (mkF m pc Ls rest)) := by
  subst hp
  exact own_st (fun t k => XS.lconst P.st.here P.ex rfl (P.cd hd) (by rw [hv]; exact k)) k
theorem own_aconstNull (P : own_S Z own nm bytes mx rt p l e R s m args below meth c T h locs cells slots)  (hd : decode bytes pc = .ok (.aconst_null, 1)) (hp : pc + 1 = pc')
    (k : own_Go p e below K (T.setTop (mkF m pc' Ls (.null :: rest)))) : own_Go p e below K (T.setTop (mkF m pc Ls rest)) := by
  subst hp
  exact own_st (fun t k => XS.aconstNull P.st.here P.ex rfl (P.cd hd) k) k
theorem own_iinc (P : own_S Z own nm bytes mx rt p l e R s m args below meth c T h locs cells slots) {j : Nat} {i : Int} {x v : Int32} {Ls' : Array Slot} (hd : decode bytes pc = .ok (.iinc j i, 3)) (hp : pc + 3 = pc') (hl : Ls[j]? = some (.val (.int x))) (hv : Int32.ofInt i = v) (hl' : storeLocals Ls j (.int (x + v)) = some Ls')
    (k : own_Go p e below K (T.setTop (mkF m pc' Ls' rest))) : own_Go p e below K (T.setTop (mkF m pc Ls rest)) := by
  subst hp
  exact own_st (fun t k => XS.iinc P.st.here P.ex rfl (P.cd hd) hl (by rw [hv]; exact hl') k) k
theorem own_dup (P : own_S Z own nm bytes mx rt p l e R s m args below meth c T h locs cells slots) {v : Value} (hd : decode bytes pc = .ok (.dup, 1)) (hp : pc + 1 = pc') (hc : v.category = 1)
    (k : own_Go p e below K (T.setTop (mkF m pc' Ls (v :: v :: rest)))) : own_Go p e below K (T.setTop (mkF m pc Ls (v :: rest))) := by
  subst hp
  exact own_st (fun t k => XS.dup P.st.here P.ex rfl (P.cd hd) rfl hc k) k
theorem own_dupX1 (P : own_S Z own nm bytes mx rt p l e R s m args below meth c T h locs cells slots) {v u : Value} (hd : decode bytes pc = .ok (.dup_x1, 1)) (hp : pc + 1 = pc') (hc : v.category = 1) (hc' : u.category = 1)
    (k : own_Go p e below K (T.setTop (mkF m pc' Ls (v :: u :: v :: rest)))) : own_Go p e below K (T.setTop (mkF m pc Ls (v :: u :: rest))) := by
  subst hp
  exact own_st (fun t k => XS.dupX1 P.st.here P.ex rfl (P.cd hd) rfl hc hc' k) k
theorem own_pop (P : own_S Z own nm bytes mx rt p l e R s m args below meth c T h locs cells slots) {v : Value} (hd : decode bytes pc = .ok (.pop, 1)) (hp : pc + 1 = pc') (hc : v.category = 1)
    (k : own_Go p e below K (T.setTop (mkF m pc' Ls rest))) : own_Go p e below K (T.setTop (mkF m pc Ls (v :: rest))) := by
  subst hp
  exact own_st (fun t k => XS.pop P.st.here P.ex rfl (P.cd hd) rfl hc k) k
theorem own_goto (P : own_S Z own nm bytes mx rt p l e R s m args below meth c T h locs cells slots) {o : Int} (hd : decode bytes pc = .ok (.goto o, 3)) (ho : 0 ≤ (pc : Int) + o) (hp : ((pc : Int) + o).toNat = pc')
    (k : own_Go p e below K (T.setTop (mkF m pc' Ls rest))) : own_Go p e below K (T.setTop (mkF m pc Ls rest)) := own_st (fun t k => XS.goto P.st.here P.ex rfl rfl (P.cd hd) ho hp k) k
/-- what a branch asks of two ints, of two longs -/
def own_ci (cd : ClassFile.Cond) (x y : Int32) : Prop := match cd with | .eq => x = y | .ne => ¬ x = y | .lt => x < y | .ge => ¬ x < y | .gt => y < x | .le => ¬ y < x
def own_cl (cd : ClassFile.Cond) (x y : Int64) : Prop := match cd with | .eq => x = y | .ne => ¬ x = y | .lt => x < y | .ge => ¬ x < y | .gt => y < x | .le => ¬ y < x
theorem own_ciY {cd : ClassFile.Cond} {x y : Int32} (q : own_ci cd x y) : if_icmp.holds cd x y = true := by
  cases cd
  · exact (teq q).1
  · exact (feq q).2
  · exact (tlt q).1
  · exact (flt q).2.1
  · exact (tlt q).2.2.1
  · exact (flt q).2.2.2
theorem own_ciN {cd : ClassFile.Cond} {x y : Int32} (q : ¬ own_ci cd x y) : if_icmp.holds cd x y = false := by
  cases cd
  · exact (feq q).1
  · exact (teq (Classical.not_not.mp q)).2
  · exact (flt q).1
  · exact (tlt (Classical.not_not.mp q)).2.1
  · exact (flt q).2.2.1
  · exact (tlt (Classical.not_not.mp q)).2.2.2
theorem own_clY {cd : ClassFile.Cond} {x y : Int64} (q : own_cl cd x y) : own_ci cd (lcmpW x y) 0 := by
  rw [lcW]
  cases cd
  · exact (lc_eq x y).mpr q
  · exact fun r => q ((lc_eq x y).mp r)
  · exact (lc_lt x y).mpr q
  · exact fun r => q ((lc_lt x y).mp r)
  · exact (lc_gt x y).mpr q
  · exact fun r => q ((lc_gt x y).mp r)
theorem own_clN {cd : ClassFile.Cond} {x y : Int64} (q : ¬ own_cl cd x y) : ¬ own_ci cd (lcmpW x y) 0 := by
  rw [lcW]
  cases cd
  · exact fun r => q ((lc_eq x y).mp r)
  · exact fun r => q fun z => r ((lc_eq x y).mpr z)
  · exact fun r => q ((lc_lt x y).mp r)
  · exact fun r => q fun z => r ((lc_lt x y).mpr z)
  · exact fun r => q ((lc_gt x y).mp r)
  · exact fun r => q fun z => r ((lc_gt x y).mpr z)
theorem own_icmpY (P : own_S Z own nm bytes mx rt p l e R s m args below meth c T h locs cells slots) {cd : ClassFile.Cond} {o : Int} {x y : Int32} (hd : decode bytes pc = .ok (.if_icmp cd o, 3)) (q : own_ci cd x y) (ho : 0 ≤ (pc : Int) + o) (hp : ((pc : Int) + o).toNat = pc')
    (k : own_Go p e below K (T.setTop (mkF m pc' Ls rest))) : own_Go p e below K (T.setTop (mkF m pc Ls (.int y :: .int x :: rest))) := own_st (fun t k => XS.icmpYes P.st.here P.ex rfl rfl (P.cd hd) rfl (own_ciY q) ho hp k) k
theorem own_icmpN (P : own_S Z own nm bytes mx rt p l e R s m args below meth c T h locs cells slots) {cd : ClassFile.Cond} {o : Int} {x y : Int32} (hd : decode bytes pc = .ok (.if_icmp cd o, 3)) (q : ¬ own_ci cd x y) (hp : pc + 3 = pc')
    (k : own_Go p e below K (T.setTop (mkF m pc' Ls rest))) : own_Go p e below K (T.setTop (mkF m pc Ls (.int y :: .int x :: rest))) := by
  subst hp
  exact own_st (fun t k => XS.icmpNo P.st.here P.ex rfl (P.cd hd) rfl (own_ciN q) k) k
theorem own_if0Y (P : own_S Z own nm bytes mx rt p l e R s m args below meth c T h locs cells slots) {cd : ClassFile.Cond} {o : Int} {x : Int32} (hd : decode bytes pc = .ok (.ifCond cd o, 3)) (q : own_ci cd x 0) (ho : 0 ≤ (pc : Int) + o) (hp : ((pc : Int) + o).toNat = pc')
    (k : own_Go p e below K (T.setTop (mkF m pc' Ls rest))) : own_Go p e below K (T.setTop (mkF m pc Ls (.int x :: rest))) := own_st (fun t k => XS.ifYes P.st.here P.ex rfl rfl (P.cd hd) rfl ((if0 _ _).trans (own_ciY q)) ho hp k) k
theorem own_if0N (P : own_S Z own nm bytes mx rt p l e R s m args below meth c T h locs cells slots) {cd : ClassFile.Cond} {o : Int} {x : Int32} (hd : decode bytes pc = .ok (.ifCond cd o, 3)) (q : ¬ own_ci cd x 0) (hp : pc + 3 = pc')
    (k : own_Go p e below K (T.setTop (mkF m pc' Ls rest))) : own_Go p e below K (T.setTop (mkF m pc Ls (.int x :: rest))) := by
  subst hp
  exact own_st (fun t k => XS.ifNo P.st.here P.ex rfl (P.cd hd) rfl ((if0 _ _).trans (own_ciN q)) k) k
theorem own_lcmp (P : own_S Z own nm bytes mx rt p l e R s m args below meth c T h locs cells slots) {x y : Int64} (hd : decode bytes pc = .ok (.lcmp, 1)) (hp : pc + 1 = pc')
    (k : own_Go p e below K (T.setTop (mkF m pc' Ls (.int (lcmpW x y) :: rest)))) : own_Go p e below K (T.setTop (mkF m pc Ls (.long y :: .long x :: rest))) := by
  subst hp
  exact own_st (fun t k => XS.lcmp P.st.here P.ex rfl (P.cd hd) rfl k) k
theorem own_lcY (P : own_S Z own nm bytes mx rt p l e R s m args below meth c T h locs cells slots) {cd : ClassFile.Cond} {o : Int} {x y : Int64} (hd : decode bytes pc = .ok (.lcmp, 1)) (hd2 : decode bytes (pc + 1) = .ok (.ifCond cd o, 3)) (q : own_cl cd x y) (ho : 0 ≤ ((pc + 1 : Nat) : Int) + o) (hp : (((pc + 1 : Nat) : Int) + o).toNat = pc')
    (k : own_Go p e below K (T.setTop (mkF m pc' Ls rest))) : own_Go p e below K (T.setTop (mkF m pc Ls (.long y :: .long x :: rest))) :=
  own_lcmp P hd rfl (own_if0Y P hd2 (own_clY q) ho hp k)
theorem own_lcN (P : own_S Z own nm bytes mx rt p l e R s m args below meth c T h locs cells slots) {cd : ClassFile.Cond} {o : Int} {x y : Int64} (hd : decode bytes pc = .ok (.lcmp, 1)) (hd2 : decode bytes (pc + 1) = .ok (.ifCond cd o, 3)) (q : ¬ own_cl cd x y) (hp : pc + 1 + 3 = pc')
    (k : own_Go p e below K (T.setTop (mkF m pc' Ls rest))) : own_Go p e below K (T.setTop (mkF m pc Ls (.long y :: .long x :: rest))) :=
  own_lcmp P hd rfl (own_if0N P hd2 (own_clN q) hp k)

theorem own_ldc (P : own_S Z own nm bytes mx rt p l e R s m args below meth c T h locs cells slots) {idx : Nat} {v : Int32} (wc : (Cond.constant own idx v).before a0 Z = true) (hd : decode bytes pc = .ok (.ldc idx, 2)) (hp : pc + 2 = pc')
    (k : own_Go p e below K (T.setTop (mkF m pc' Ls (.int v :: rest)))) : own_Go p e below K (T.setTop (mkF m pc Ls rest)) := by
  subst hp
  exact own_st (fun t k => P.st.ldcInt P.ex P.ow (mvT P.wz wc) (g := mkF m pc Ls rest) rfl (P.cd hd) t k) k
theorem own_ldcw (P : own_S Z own nm bytes mx rt p l e R s m args below meth c T h locs cells slots) {idx : Nat} {v : Int32} (wc : (Cond.constant own idx v).before a0 Z = true) (hd : decode bytes pc = .ok (.ldc_w idx, 3)) (hp : pc + 3 = pc')
    (k : own_Go p e below K (T.setTop (mkF m pc' Ls (.int v :: rest)))) : own_Go p e below K (T.setTop (mkF m pc Ls rest)) := by
  subst hp
  exact own_st (fun t k => P.st.ldcwInt P.ex P.ow (mvT P.wz wc) (g := mkF m pc Ls rest) rfl (P.cd hd) t k) k
theorem own_ldc2 (P : own_S Z own nm bytes mx rt p l e R s m args below meth c T h locs cells slots) {idx : Nat} {v : Int64} (wc : (Cond.constantLong own idx v).before a0 Z = true) (hd : decode bytes pc = .ok (.ldc2_w idx, 3)) (hp : pc + 3 = pc')
    (k : own_Go p e below K (T.setTop (mkF m pc' Ls (.long v :: rest)))) : own_Go p e below K (T.setTop (mkF m pc Ls rest)) := by
  subst hp
  exact own_st (fun t k => P.st.ldc2Long P.ex P.ow (mvT P.wz wc) (g := mkF m pc Ls rest) rfl (P.cd hd) t k) k

theorem own_retL {Q : Option Value → Heap → List Loc → Prop} {kc ks : Nat} (P : own_S Z own nm bytes mx (some .long) p l e R s m args below meth c T h locs cells slots) {v : Int64} (hd : decode bytes pc = .ok (.lreturn, 1)) (hc : cells ≤ kc) (hs : slots ≤ ks) (hq : Q (some (.long v)) h locs) :
    own_Go p e below (own_K s Q kc ks) (T.setTop (mkF m pc Ls [(.long v)])) := by
  obtain ⟨X, hx, hby, hml, hown, hZ, hr0, hlk, hh, -⟩ := P
  obtain ⟨fs, hr, hrun, hended, hW, hsame⟩ := X.leave (v := some (.long v)) (fun h => by rw [hr0] at h; cases h) hlk
  refine ⟨_, _, X.lreturnOut hx hr0 (hb hby hd) hr, hrun, hended, _, _, rfl, ?_, ⟨_, rfl⟩, hW, hsame.mono hc hs⟩
  rw [← hh] at hq
  exact hq
theorem own_retI {Q : Option Value → Heap → List Loc → Prop} {kc ks : Nat} (P : own_S Z own nm bytes mx (some .int) p l e R s m args below meth c T h locs cells slots) {v : Int32} (hd : decode bytes pc = .ok (.ireturn, 1)) (hc : cells ≤ kc) (hs : slots ≤ ks) (hq : Q (some (.int v)) h locs) :
    own_Go p e below (own_K s Q kc ks) (T.setTop (mkF m pc Ls [(.int v)])) := by
  obtain ⟨X, hx, hby, hml, hown, hZ, hr0, hlk, hh, -⟩ := P
  obtain ⟨fs, hr, hrun, hended, hW, hsame⟩ := X.leave (v := some (.int v)) (fun h => by rw [hr0] at h; cases h) hlk
  refine ⟨_, _, retI X hx hr0 (hb hby hd) hr, hrun, hended, _, _, rfl, ?_, ⟨_, rfl⟩, hW, hsame.mono hc hs⟩
  rw [← hh] at hq
  exact hq
theorem own_retZ {Q : Option Value → Heap → List Loc → Prop} {kc ks : Nat} (P : own_S Z own nm bytes mx (some .boolean) p l e R s m args below meth c T h locs cells slots) {v z : Int32} (hd : decode bytes pc = .ok (.ireturn, 1)) (hz : nar .boolean v = z) (hc : cells ≤ kc) (hs : slots ≤ ks) (hq : Q (some (.int z)) h locs) :
    own_Go p e below (own_K s Q kc ks) (T.setTop (mkF m pc Ls [(.int v)])) := by
  obtain ⟨X, hx, hby, hml, hown, hZ, hr0, hlk, hh, -⟩ := P
  obtain ⟨fs, hr, hrun, hended, hW, hsame⟩ := X.leave (v := some (.int z)) (fun h => by rw [hr0] at h; cases h) hlk
  refine ⟨_, _, retN X hx (t := .boolean) hr0 (by simp) (hb hby hd) (by rw [hz]; exact hr), hrun, hended, _, _, rfl, ?_, ⟨_, rfl⟩, hW, hsame.mono hc hs⟩
  rw [← hh] at hq
  exact hq
theorem own_retV {Q : Option Value → Heap → List Loc → Prop} {kc ks : Nat} (P : own_S Z own nm bytes mx none p l e R s m args below meth c T h locs cells slots) (hd : decode bytes pc = .ok (.return_, 1)) (hc : cells ≤ kc) (hs : slots ≤ ks) (hq : Q none h locs) :
    own_Go p e below (own_K s Q kc ks) (T.setTop (mkF m pc Ls [])) := by
  obtain ⟨X, hx, hby, hml, hown, hZ, hr0, hlk, hh, -⟩ := P
  obtain ⟨fs, hr, hrun, hended, hW, hsame⟩ := X.leave (v := none) (fun _ => rfl) hlk
  refine ⟨_, _, X.returnOut hx hr0 (hb hby hd) hr, hrun, hended, _, _, rfl, ?_, ⟨_, rfl⟩, hW, hsame.mono hc hs⟩
  rw [← hh] at hq
  exact hq
/-- a method's contract: from these arguments and this heap it returns as Q says -/
def own_Con (l : Launch) (Z : State) (y : MethodName) (bytes : ByteArray) (mx : Nat) (rt : Option FieldType) (ws : List Jvm.Cond) (rm : Room) (as' : Array Value) (h : Heap) (Q : Option Value → Heap → List Loc → Prop) : Prop :=
  MetFree l y (head1 (Jvm.Cond.code y bytes mx rt :: ws) rm) (fun a U => a = as' ∧ Z.Warmed39 U.vm ∧ U.heap = h) (fun _ _ _ _ _ => True) (fun _ U o U' => ∃ v L, o = .returned v ∧ Q v U'.heap L ∧ FrameEnd U o U' L rm.cells rm.slots)
/-- it returned v, wrote nothing and made nothing -/
def own_P (v : Option Value) (h : Heap) (v' : Option Value) (h' : Heap) (L : List Loc) : Prop := v' = v ∧ L = [] ∧ h' = h
theorem own_enter {y : MethodName} {ws : List Jvm.Cond} {rm : Room} {as' : Array Value} {Q : Option Value → Heap → List Loc → Prop} (hpl : plainFor y = true) (Ls : Array Slot) (hef : ∀ m, entryFrame m as' mx = mkF m 0 Ls [])
    (body : ∀ (p : Program) (e : Env) (s : State) (m : MethodId) (below : List Frame) (meth : Method) (c : Code) (T : State), own_S Z y.cls y.name bytes mx rt p l e rm s m as' below meth c T h [] 0 0 → own_Go p e below (own_K s Q rm.cells rm.slots) (T.setTop (mkF m 0 Ls []))) :
    own_Con l Z y bytes mx rt ws rm as' h Q := by
  refine MetFree.of_bodySF hpl hisR ?_
  intro p e s m args below meth c s₁ Bd hml0 hP hK
  obtain ⟨rfl, hZ, hh⟩ := hP
  have e0 : s₁.heap = h := by rw [← hh, Bd.state]; rfl
  obtain ⟨t, o, h1, h2, h3, v, L, ho, hq, hf⟩ := body p e s m below meth c s₁ ⟨Stand.of_body Bd, Bd.exec, Bd.bytes, hml0, findClass_of_methodNamed Bd.named, hZ, Bd.returns, BodyLoose.notSynchronized Bd, e0, (name_of_methodNamed Bd.named Bd.method).1⟩
  exact ⟨t, o, castTop (hef m) h1, h2, h3, v, L, ho, hq, hf⟩
theorem own_callQ (P : own_S Z own nm bytes mx rt p l e R s m args below meth c T h locs cells slots) {idx : Nat} {y : MethodName} {by' : ByteArray} {mx' : Nat} {rt' : Option FieldType} {rm : Room} {Q : Option Value → Heap → List Loc → Prop} {argsL st : List Value} {ps : List FieldType} {rr : Option FieldType}
    (wl : (Cond.methodLink own idx y).before a0 Z = true) (wt : (Cond.static y).before a0 Z = true) (wi : (Cond.initialized y.cls).before a0 Z = true) (wc : (Cond.code y by' mx' rt').before a0 Z = true) (hy : y.cls ≠ "java/lang/invoke/MethodHandle" ∧ y.cls ≠ "java/lang/invoke/VarHandle")
    (hM : own_Con l Z y by' mx' rt' [] rm argsL.toArray h Q) (hd : decode bytes pc = .ok (.invokestatic idx, 3)) (hp : pc + 3 = pc') (hdes : parseMethodDescriptor y.desc = some ⟨ps, rr⟩) (hlen : argsL.length = ps.length) (hsz : Ls.size = mx) (hst : st = argsL.reverse ++ rest)
    (hf : rm.frames + 1 ≤ R.frames) (W : Nat) (hW : (rest.map fun v => v.category).sum = W) (hl : W + (mx' + 11) + rm.locals ≤ R.locals) (hc : cells + rm.cells ≤ R.cells) (hs : slots + rm.slots ≤ R.slots)
    (k : ∀ T' h' v L, Q v h' L → own_S Z own nm bytes mx rt p l e R s m args below meth c T' h' (locs ++ L) (cells + rm.cells) (slots + rm.slots) → own_Go p e below K (T'.setTop (mkF m pc' Ls (v.toList ++ rest)))) :
    own_Go p e below K (T.setTop (mkF m pc Ls st)) := by
  subst hp
  obtain ⟨v, _, ⟨T3, L3, k3, n3⟩, -, X3, ⟨Lc3, hQ3, l3, y3, z3⟩, st3⟩ := Jvm.LawKit.callS P.st P.ex (y := y) P.ow (mvT P.wz wl) (mvT P.wz wt) (mvT P.wz wi) (mvT P.wz wc) hy (backOf (W := W) hM P.wz wc wi hf hl) (g := (mkF m pc Ls st)) rfl (by rw [P.ml]; exact hsz) (argsL := argsL) (rest := rest) (lenOf hdes hlen) hst (by show 2 * 0 + _ ≤ _; rw [hW]; exact Nat.le_of_eq (by simp)) (P.cd hd) (fun _ _ => ⟨rfl, P.hp, hc, hs⟩)
  dsimp only [Pt.U, Pt.locs, Pt.cells, Pt.slots] at X3 l3 y3 z3 st3 hQ3
  subst l3 y3 z3
  exact own_st st3 (k T3 T3.heap v Lc3 hQ3 (P.move X3 rfl))
theorem own_callP (P : own_S Z own nm bytes mx rt p l e R s m args below meth c T h locs cells slots) {idx : Nat} {y : MethodName} {by' : ByteArray} {mx' : Nat} {rt' : Option FieldType} {rm : Room} {v : Option Value} {argsL st : List Value} {ps : List FieldType} {rr : Option FieldType}
    (wl : (Cond.methodLink own idx y).before a0 Z = true) (wt : (Cond.static y).before a0 Z = true) (wi : (Cond.initialized y.cls).before a0 Z = true) (wc : (Cond.code y by' mx' rt').before a0 Z = true) (hy : y.cls ≠ "java/lang/invoke/MethodHandle" ∧ y.cls ≠ "java/lang/invoke/VarHandle")
    (hM : own_Con l Z y by' mx' rt' [] rm argsL.toArray h (own_P v h)) (hd : decode bytes pc = .ok (.invokestatic idx, 3)) (hp : pc + 3 = pc') (hdes : parseMethodDescriptor y.desc = some ⟨ps, rr⟩) (hlen : argsL.length = ps.length) (hsz : Ls.size = mx) (hst : st = argsL.reverse ++ rest)
    (hf : rm.frames + 1 ≤ R.frames) (W : Nat) (hW : (rest.map fun v => v.category).sum = W) (hl : W + (mx' + 11) + rm.locals ≤ R.locals) (hc : rm.cells = 0) (hs : rm.slots = 0) (hcc : cells ≤ R.cells) (hss : slots ≤ R.slots)
    (k : ∀ T', own_S Z own nm bytes mx rt p l e R s m args below meth c T' h locs cells slots → own_Go p e below K (T'.setTop (mkF m pc' Ls (v.toList ++ rest)))) :
    own_Go p e below K (T.setTop (mkF m pc Ls st)) := by
  refine own_callQ P wl wt wi wc hy hM hd hp hdes hlen hsz hst hf W hW hl (by rw [hc]; exact hcc) (by rw [hs]; exact hss) fun T' h' v' L hQ P' => ?_
  obtain ⟨rfl, rfl, rfl⟩ := hQ
  rw [hc, hs, List.append_nil] at P'
  exact k T' P'
def own_One (s : Slot) : Prop := s = .unset ∨ ∃ w : Value, s = .val w ∧ w.category = 1
theorem own_conMono {y : MethodName} {ws : List Jvm.Cond} {rm : Room} {as' : Array Value} {Q Q' : Option Value → Heap → List Loc → Prop} (q : own_Con l Z y bytes mx rt ws rm as' h Q) (f : ∀ v h' L, Q v h' L → Q' v h' L) : own_Con l Z y bytes mx rt ws rm as' h Q' := by
  intro p e ha hc hk s m args below hf happ hP hK
  obtain ⟨n, o, h1, h2, h3, v, L, h4, h5, h6⟩ := q p e ha hc hk s m args below hf happ hP hK
  exact ⟨n, o, h1, h2, h3, v, L, h4, f _ _ _ h5, h6⟩
theorem own_S.mono (P : own_S Z own nm bytes mx rt p l e R s m args below meth c T h locs cells slots) {cells' slots' : Nat} (hc : cells ≤ cells') (hs : slots ≤ slots') : own_S Z own nm bytes mx rt p l e R s m args below meth c T h locs cells' slots' :=
  P.move { P.st with same := P.st.same.mono hc hs } P.hp
end OwnBase
section OwnHeap
variable {p : Program} {l : Launch} {e : Env} {R : Room} {s : State} {m : MethodId} {args : Array Value} {below : List Frame} {meth : Method} {c : Code} {T : State} {h : Heap} {locs : List Loc} {cells slots : Nat} {Z : State} {a0 : Array Value} {own nm : String} {bytes : ByteArray} {mx : Nat} {rt : Option FieldType} {K : State → Outcome → Prop} {pc pc' : Nat} {Ls : Array Slot} {rest : List Value}
theorem own_new (P : own_S Z own nm bytes mx rt p l e R s m args below meth c T h locs cells slots) {C : String} {idx n : Nat} (wl : (Cond.classLink own idx C).before a0 Z = true) (wi : (Cond.instantiable C n).before a0 Z = true) (wz : (Cond.initialized C).before a0 Z = true) (hd : decode bytes pc = .ok (.new idx, 3)) (hp : pc + 3 = pc') (hc : cells + 1 ≤ R.cells) (hl : slots + n ≤ R.slots)
    (k : ∀ (T' : State) (h' : Heap) (a : Addr), a = h.size → Ext h h' → Exa Z h' a C → (∀ {O fn d : String} {ty : FieldType}, Laid Z a0 C O fn d → parseFieldDescriptor d = some ty → Fld Z h' a O fn d (defaultValue ty)) → own_S Z own nm bytes mx rt p l e R s m args below meth c T' h' locs (cells + 1) (slots + n) → own_Go p e below K (T'.setTop (mkF m pc' Ls (.ref a :: rest)))) :
    own_Go p e below K (T.setTop (mkF m pc Ls rest)) := by
  subst hp
  obtain ⟨T2, h2, X2, e2, E2, A2, D2, -, st2⟩ := newO P.st P.ex P.wz P.ow wl wi wz P.hp (g := mkF m pc Ls rest) rfl (P.cd hd) hc hl
  exact own_st st2 (k T2 h2 h.size rfl E2 A2 D2 (P.move X2 e2))
theorem own_initO (P : own_S Z own nm bytes mx rt p l e R s m args below meth c T h locs cells slots) {idx : Nat} {a : Addr} (w1 : (Cond.methodLink own idx Lib.objectInit).before a0 Z = true) (w2 : (Cond.instanceMethod Lib.objectInit).before a0 Z = true) (w3 : (Cond.code Lib.objectInit ⟨#[0xb1]⟩ 1 none).before a0 Z = true) (hd : decode bytes pc = .ok (.invokespecial idx, 3)) (hp : pc + 3 = pc') (hsz : Ls.size = mx) (hf : 1 ≤ R.frames) (W : Nat) (hW : (rest.map fun v => v.category).sum = W) (hl : W + 12 ≤ R.locals)
    (k : ∀ T' : State, own_S Z own nm bytes mx rt p l e R s m args below meth c T' h locs cells slots → own_Go p e below K (T'.setTop (mkF m pc' Ls rest))) : own_Go p e below K (T.setTop (mkF m pc Ls (.ref a :: rest))) := by
  subst hp
  obtain ⟨T2, X2, e2, st2⟩ := initO P.st P.ex P.wz P.ow w1 w2 w3 P.hp (g := mkF m pc Ls (.ref a :: rest)) rfl (by rw [P.ml]; exact hsz) rfl (P.cd hd) hf (W := W) (by show 2 * 0 + _ ≤ _; rw [hW]; exact Nat.le_of_eq (by simp)) hl
  exact own_st st2 (k T2 (P.move X2 e2))
theorem own_getF (P : own_S Z own nm bytes mx rt p l e R s m args below meth c T h locs cells slots) {idx : Nat} {O fn d : String} {a : Addr} {v : Value} (wf : (Cond.fieldLink own idx O fn d).before a0 Z = true) (F : Fld Z h a O fn d v) (hd : decode bytes pc = .ok (.getfield idx, 3)) (hp : pc + 3 = pc')
    (k : ∀ T' : State, own_S Z own nm bytes mx rt p l e R s m args below meth c T' h locs cells slots → own_Go p e below K (T'.setTop (mkF m pc' Ls (v :: rest)))) : own_Go p e below K (T.setTop (mkF m pc Ls (.ref a :: rest))) := by
  subst hp
  obtain ⟨T2, X2, e2, st2⟩ := getF P.st P.ex P.wz P.ow (host := "") (Or.inl wf) Via.refl P.hp F (g := mkF m pc Ls (.ref a :: rest)) rfl rfl (P.cd hd)
  exact own_st st2 (k T2 (P.move X2 e2))
theorem own_putF (P : own_S Z own nm bytes mx rt p l e R s m args below meth c T h locs cells slots) {idx kk : Nat} {C O fn d : String} {ty : FieldType} {a : Addr} {v old : Value} (wf : (Cond.fieldLink own idx O fn d).before a0 Z = true) (F : Fld Z h a O fn d old) (E : Exa Z h a C) (L : (Cond.lays C O fn d).before a0 Z = true ∨ ((Cond.laysFinal C O fn d).before a0 Z = true ∧ own = O ∧ nm = "<init>")) (wi : (Cond.instantiable C kk).before a0 Z = true) (hty : parseFieldDescriptor d = some ty) (hn : narrow ty v = v) (hf : fits ty v = true) (hd : decode bytes pc = .ok (.putfield idx, 3)) (hp : pc + 3 = pc')
    (k : ∀ (T' : State) (h' : Heap), Wr h h' a (Jvm.RoadKit.slotOf Z O fn d) v → own_S Z own nm bytes mx rt p l e R s m args below meth c T' h' (locs ++ [⟨a, Jvm.RoadKit.slotOf Z O fn d⟩]) cells slots → own_Go p e below K (T'.setTop (mkF m pc' Ls rest))) : own_Go p e below K (T.setTop (mkF m pc Ls (v :: .ref a :: rest))) := by
  subst hp
  obtain ⟨T2, h2, X2, e2, W2, st2⟩ := putF P.st P.ex P.wz P.ow (host := "") (Or.inl wf) Via.refl P.hp F E (L.imp id fun q => ⟨q.1, q.2.1, P.nmm.trans q.2.2⟩) wi hty hn hf (g := mkF m pc Ls (v :: .ref a :: rest)) rfl rfl (P.cd hd)
  exact own_st st2 (k T2 h2 W2 (P.move X2 e2))
theorem own_init (P : own_S Z own nm bytes mx rt p l e R s m args below meth c T h locs cells slots) {idx : Nat} {y : MethodName} {by' : ByteArray} {mx' : Nat} {rm : Room} {Q : Option Value → Heap → List Loc → Prop} {a : Addr} {argsL st : List Value} {ps : List FieldType} {rr : Option FieldType} (hy1 : y.name = "<init>")
    (wl : (Cond.methodLink own idx y).before a0 Z = true) (wm : (Cond.instanceMethod y).before a0 Z = true) (wi : (Cond.initialized y.cls).before a0 Z = true) (wc : (Cond.code y by' mx' none).before a0 Z = true) (hy : y.cls ≠ "java/lang/invoke/MethodHandle" ∧ y.cls ≠ "java/lang/invoke/VarHandle")
    (hM : own_Con l Z y by' mx' none [] rm (.ref a :: argsL).toArray h Q) (hd : decode bytes pc = .ok (.invokespecial idx, 3)) (hp : pc + 3 = pc') (hdes : parseMethodDescriptor y.desc = some ⟨ps, rr⟩) (hlen : argsL.length = ps.length) (hsz : Ls.size = mx) (hst : st = argsL.reverse ++ .ref a :: rest)
    (hf : rm.frames + 1 ≤ R.frames) (W : Nat) (hW : (rest.map fun v => v.category).sum = W) (hl : W + (mx' + 11) + rm.locals ≤ R.locals) (hc : cells + rm.cells ≤ R.cells) (hs : slots + rm.slots ≤ R.slots)
    (k : ∀ T' h' v L, Q v h' L → own_S Z own nm bytes mx rt p l e R s m args below meth c T' h' (locs ++ L) (cells + rm.cells) (slots + rm.slots) → own_Go p e below K (T'.setTop (mkF m pc' Ls (v.toList ++ rest)))) :
    own_Go p e below K (T.setTop (mkF m pc Ls st)) := by
  subst hp
  obtain ⟨v, _, ⟨T3, L3, k3, n3⟩, -, X3, ⟨Lc3, hQ3, l3, y3, z3⟩, st3⟩ := P.st.specialBack P.ex (y := y) hy1 P.ow (mvT P.wz wl) (mvT P.wz wm) (mvT P.wz wc) hy (backOf (W := W) hM P.wz wc wi hf hl) (g := (mkF m pc Ls st)) rfl (by rw [P.ml]; exact hsz) (Steps.refl _) (a := a) (argsL := argsL) (rest := rest) (lenOf hdes hlen) hst (by show 2 * 0 + _ ≤ _; rw [hW]; exact Nat.le_of_eq (by simp)) (P.cd hd) (fun _ _ => ⟨rfl, P.hp, hc, hs⟩)
  dsimp only [Pt.U, Pt.locs, Pt.cells, Pt.slots] at X3 l3 y3 z3 st3 hQ3
  subst l3 y3 z3
  exact own_st (fun t q => st3.trans q) (k T3 T3.heap v Lc3 hQ3 (P.move X3 rfl))
theorem own_virt (P : own_S Z own nm bytes mx rt p l e R s m args below meth c T h locs cells slots) {idx : Nat} {C : String} {y : MethodName} {by' : ByteArray} {mx' : Nat} {rt' : Option FieldType} {rm : Room} {Q : Option Value → Heap → List Loc → Prop} {a : Addr} {argsL st : List Value} {ps : List FieldType} {rr : Option FieldType}
    (wl : (Cond.methodLink own idx y).before a0 Z = true) (wd : (Cond.declares y).before a0 Z = true) (wsel : (Cond.selects C y y).before a0 Z = true) (wm : (Cond.instanceMethod y).before a0 Z = true) (wi : (Cond.initialized y.cls).before a0 Z = true) (wc : (Cond.code y by' mx' rt').before a0 Z = true) (hy : y.cls ≠ "java/lang/invoke/MethodHandle" ∧ y.cls ≠ "java/lang/invoke/VarHandle") (E : Exa Z h a C)
    (hM : own_Con l Z y by' mx' rt' [] rm (.ref a :: argsL).toArray h Q) (hd : decode bytes pc = .ok (.invokevirtual idx, 3)) (hp : pc + 3 = pc') (hdes : parseMethodDescriptor y.desc = some ⟨ps, rr⟩) (hlen : argsL.length = ps.length) (hsz : Ls.size = mx) (hst : st = argsL.reverse ++ .ref a :: rest)
    (hf : rm.frames + 1 ≤ R.frames) (W : Nat) (hW : (rest.map fun v => v.category).sum = W) (hl : W + (mx' + 11) + rm.locals ≤ R.locals) (hc : cells + rm.cells ≤ R.cells) (hs : slots + rm.slots ≤ R.slots)
    (k : ∀ T' h' v L, Q v h' L → own_S Z own nm bytes mx rt p l e R s m args below meth c T' h' (locs ++ L) (cells + rm.cells) (slots + rm.slots) → own_Go p e below K (T'.setTop (mkF m pc' Ls (v.toList ++ rest)))) :
    own_Go p e below K (T.setTop (mkF m pc Ls st)) := by
  subst hp
  obtain ⟨cq, kq, qa, qb, qc⟩ := isOf P.wz P.hp E
  obtain ⟨v, _, ⟨T3, L3, k3, n3⟩, -, X3, ⟨Lc3, hQ3, l3, y3, z3⟩, st3⟩ := P.st.virtualBack P.ex (y := y) (z := y) P.ow (mvT P.wz wl) (mvT P.wz wd) (notFace_of_selects (args := #[]) (mvT P.wz wsel)) (mvT P.wz wsel) (mvT P.wz wm) hy (backOf (W := W) hM P.wz wc wi hf hl) qa qc (g := (mkF m pc Ls st)) rfl (by rw [P.ml]; exact hsz) (Steps.refl _) (argsL := argsL) (rest := rest) (lenOf hdes hlen) hst (by show 2 * 0 + _ ≤ _; rw [hW]; exact Nat.le_of_eq (by simp)) (P.cd hd) (fun _ _ => ⟨rfl, P.hp, hc, hs⟩)
  dsimp only [Pt.U, Pt.locs, Pt.cells, Pt.slots] at X3 l3 y3 z3 st3 hQ3
  subst l3 y3 z3
  exact own_st (fun t q => st3.trans q) (k T3 T3.heap v Lc3 hQ3 (P.move X3 rfl))
theorem own_initP (P : own_S Z own nm bytes mx rt p l e R s m args below meth c T h locs cells slots) {idx : Nat} {y : MethodName} {by' : ByteArray} {mx' : Nat} {rm : Room} {v : Option Value} {a : Addr} {argsL st : List Value} {ps : List FieldType} {rr : Option FieldType} (hy1 : y.name = "<init>")
    (wl : (Cond.methodLink own idx y).before a0 Z = true) (wm : (Cond.instanceMethod y).before a0 Z = true) (wi : (Cond.initialized y.cls).before a0 Z = true) (wc : (Cond.code y by' mx' none).before a0 Z = true) (hy : y.cls ≠ "java/lang/invoke/MethodHandle" ∧ y.cls ≠ "java/lang/invoke/VarHandle")
    (hM : own_Con l Z y by' mx' none [] rm (.ref a :: argsL).toArray h (own_P v h)) (hd : decode bytes pc = .ok (.invokespecial idx, 3)) (hp : pc + 3 = pc') (hdes : parseMethodDescriptor y.desc = some ⟨ps, rr⟩) (hlen : argsL.length = ps.length) (hsz : Ls.size = mx) (hst : st = argsL.reverse ++ .ref a :: rest)
    (hf : rm.frames + 1 ≤ R.frames) (W : Nat) (hW : (rest.map fun v => v.category).sum = W) (hl : W + (mx' + 11) + rm.locals ≤ R.locals) (hc : rm.cells = 0) (hs : rm.slots = 0) (hcc : cells ≤ R.cells) (hss : slots ≤ R.slots)
    (k : ∀ T', own_S Z own nm bytes mx rt p l e R s m args below meth c T' h locs cells slots → own_Go p e below K (T'.setTop (mkF m pc' Ls (v.toList ++ rest)))) :
    own_Go p e below K (T.setTop (mkF m pc Ls st)) := by
  refine own_init P hy1 wl wm wi wc hy hM hd hp hdes hlen hsz hst hf W hW hl (by rw [hc]; exact hcc) (by rw [hs]; exact hss) fun T' h' v' L hQ P' => ?_
  obtain ⟨rfl, rfl, rfl⟩ := hQ
  rw [hc, hs, List.append_nil] at P'
  exact k T' P'
theorem own_virtP (P : own_S Z own nm bytes mx rt p l e R s m args below meth c T h locs cells slots) {idx : Nat} {C : String} {y : MethodName} {by' : ByteArray} {mx' : Nat} {rt' : Option FieldType} {rm : Room} {v : Option Value} {a : Addr} {argsL st : List Value} {ps : List FieldType} {rr : Option FieldType}
    (wl : (Cond.methodLink own idx y).before a0 Z = true) (wd : (Cond.declares y).before a0 Z = true) (wsel : (Cond.selects C y y).before a0 Z = true) (wm : (Cond.instanceMethod y).before a0 Z = true) (wi : (Cond.initialized y.cls).before a0 Z = true) (wc : (Cond.code y by' mx' rt').before a0 Z = true) (hy : y.cls ≠ "java/lang/invoke/MethodHandle" ∧ y.cls ≠ "java/lang/invoke/VarHandle") (E : Exa Z h a C)
    (hM : own_Con l Z y by' mx' rt' [] rm (.ref a :: argsL).toArray h (own_P v h)) (hd : decode bytes pc = .ok (.invokevirtual idx, 3)) (hp : pc + 3 = pc') (hdes : parseMethodDescriptor y.desc = some ⟨ps, rr⟩) (hlen : argsL.length = ps.length) (hsz : Ls.size = mx) (hst : st = argsL.reverse ++ .ref a :: rest)
    (hf : rm.frames + 1 ≤ R.frames) (W : Nat) (hW : (rest.map fun v => v.category).sum = W) (hl : W + (mx' + 11) + rm.locals ≤ R.locals) (hc : rm.cells = 0) (hs : rm.slots = 0) (hcc : cells ≤ R.cells) (hss : slots ≤ R.slots)
    (k : ∀ T', own_S Z own nm bytes mx rt p l e R s m args below meth c T' h locs cells slots → own_Go p e below K (T'.setTop (mkF m pc' Ls (v.toList ++ rest)))) :
    own_Go p e below K (T.setTop (mkF m pc Ls st)) := by
  refine own_virt P wl wd wsel wm wi wc hy E hM hd hp hdes hlen hsz hst hf W hW hl (by rw [hc]; exact hcc) (by rw [hs]; exact hss) fun T' h' v' L hQ P' => ?_
  obtain ⟨rfl, rfl, rfl⟩ := hQ
  rw [hc, hs, List.append_nil] at P'
  exact k T' P'
/-- an array of ints (chars, bytes) that holds just the list vs -/
def own_Ar (Z : State) (h : Heap) (a : Addr) (ty : FieldType) (vs : List Int32) : Prop := ∃ c : Cell, Arr Z h a c ty ∧ c.slots = (vs.map Value.int).toArray
theorem own_Ar.lt {a : Addr} {ty : FieldType} {vs : List Int32} (A : own_Ar Z h a ty vs) : a < h.size := by obtain ⟨c, q, -⟩ := A; exact q.lt
theorem own_Ar.ext {h' : Heap} {a : Addr} {ty : FieldType} {vs : List Int32} (A : own_Ar Z h a ty vs) (E : Ext h h') : own_Ar Z h' a ty vs := by obtain ⟨c, q, r⟩ := A; exact ⟨c, q.ext E, r⟩
theorem own_Ar.other {h' : Heap} {a b : Addr} {ty : FieldType} {vs : List Int32} {sl : Nat} {v : Value} (A : own_Ar Z h b ty vs) (W : Wr h h' a sl v) (ne : b ≠ a) : own_Ar Z h' b ty vs := by obtain ⟨c, q, r⟩ := A; exact ⟨c, q.other W ne, r⟩
theorem own_Ar.keep {h' : Heap} {a : Addr} {ty : FieldType} {vs : List Int32} {ws : List Addr} (A : own_Ar Z h a ty vs) (Kp : Keep h h' ws) (ne : a ∉ ws) : own_Ar Z h' a ty vs := by obtain ⟨c, q, r⟩ := A; exact ⟨c, ⟨Kp.2.1 a c q.1 ne, q.2⟩, r⟩
theorem own_Ar.set {h' : Heap} {a : Addr} {ty : FieldType} {vs : List Int32} {j : Nat} {x : Int32} (A : own_Ar Z h a ty vs) (W : Wr h h' a j (.int x)) : own_Ar Z h' a ty (vs.set j x) := by
  obtain ⟨c, q, r⟩ := A
  refine ⟨_, q.same W, ?_⟩
  simp only [Cell.setSlot]
  rw [r]
  simp
theorem own_arrNew (P : own_S Z own nm bytes mx rt p l e R s m args below meth c T h locs cells slots) {aty : ArrayType} {ty : FieldType} {n : Int32} (cap : Nat) (wa : (Cond.arrayClass ty).before a0 Z = true) (ht : newarray.typeOf aty = ty) (hdv : defaultValue ty = .int 0) (hd : decode bytes pc = .ok (.newarray aty, 2)) (hp : pc + 2 = pc') (hn : 0 ≤ n.toInt) (hcap : n.toInt.toNat ≤ cap) (hb : cap * 8 ≤ 536870912) (hc : cells + 1 ≤ R.cells) (hl : slots + cap ≤ R.slots)
    (k : ∀ (T' : State) (h' : Heap) (a : Addr), a = h.size → Ext h h' → own_Ar Z h' a ty (List.replicate n.toInt.toNat 0) → own_S Z own nm bytes mx rt p l e R s m args below meth c T' h' locs (cells + 1) (slots + cap) → own_Go p e below K (T'.setTop (mkF m pc' Ls (.ref a :: rest)))) :
    own_Go p e below K (T.setTop (mkF m pc Ls (.int n :: rest))) := by
  subst hp ht
  have hn' : ¬ n < 0 := by rw [Int32.lt_iff_toInt_lt]; exact Int.not_lt.mpr hn
  obtain ⟨T2, h2, cA, X2, e2, E2, A2, st2⟩ := newP P.st P.ex P.wz (aty := aty) wa P.hp (g := mkF m pc Ls (.int n :: rest)) rfl (P.cd hd) rfl hn' (cap := cap) hcap hb hc hl
  refine own_st st2 (k T2 h2 h.size rfl E2 ⟨_, A2, ?_⟩ (P.move X2 e2))
  show Array.replicate n.toNatClampNeg (defaultValue _) = _
  rw [hdv]
  show Array.replicate n.toInt.toNat (Value.int 0) = _
  simp
theorem own_arrIn {a : Addr} {ty : FieldType} {vs : List Int32} {c : Cell} {j : Int32} (r : c.slots = (vs.map Value.int).toArray) (h1 : 0 ≤ j.toInt) (h2 : j.toInt.toNat < vs.length) : ¬ (j < 0 ∨ c.slots.size ≤ j.toNatClampNeg) := by
  rintro (q | q)
  · rw [Int32.lt_iff_toInt_lt] at q
    have z : (0 : Int32).toInt = 0 := rfl
    omega
  · rw [r] at q
    simp only [List.size_toArray, List.length_map, Int32.toNatClampNeg] at q
    omega
theorem own_arrAt {vs : List Int32} {c : Cell} {j x : Int32} (r : c.slots = (vs.map Value.int).toArray) (h2 : j.toInt.toNat < vs.length) (hx : vs.getD j.toInt.toNat 0 = x) : c.slots[j.toNatClampNeg]? = some (.int x) := by
  subst hx
  rw [r]
  show (vs.map Value.int).toArray[j.toInt.toNat]? = _
  rw [List.getElem?_toArray, List.getElem?_map, List.getD_eq_getElem?_getD, List.getElem?_eq_getElem h2]
  rfl
theorem own_alen (P : own_S Z own nm bytes mx rt p l e R s m args below meth c T h locs cells slots) {a : Addr} {ty : FieldType} {vs : List Int32} {v : Int32} (A : own_Ar Z h a ty vs) (hd : decode bytes pc = .ok (.arraylength, 1)) (hp : pc + 1 = pc') (hv : Int32.ofNat vs.length = v)
    (k : own_Go p e below K (T.setTop (mkF m pc' Ls (.int v :: rest)))) : own_Go p e below K (T.setTop (mkF m pc Ls (.ref a :: rest))) := by
  subst hp hv
  obtain ⟨c, q, r⟩ := A
  have hsz : c.slots.size.toInt32 = Int32.ofNat vs.length := by rw [r]; simp
  refine own_st (fun t kk => P.st.arraylength P.ex (cell := c) (by rw [P.hp]; exact q.1) (State.isArrayOf_alike P.wz.alike q.2.1) (g := mkF m pc Ls (.ref a :: rest)) rfl (rest := rest) rfl (P.cd hd) t ?_) k
  rw [hsz]
  exact kk
theorem own_iaload (P : own_S Z own nm bytes mx rt p l e R s m args below meth c T h locs cells slots) {a : Addr} {vs : List Int32} {j x : Int32} (A : own_Ar Z h a .int vs) (hd : decode bytes pc = .ok (.iaload, 1)) (hp : pc + 1 = pc') (h1 : 0 ≤ j.toInt) (h2 : j.toInt.toNat < vs.length) (hx : vs.getD j.toInt.toNat 0 = x)
    (k : own_Go p e below K (T.setTop (mkF m pc' Ls (.int x :: rest)))) : own_Go p e below K (T.setTop (mkF m pc Ls (.int j :: .ref a :: rest))) := by
  subst hp
  obtain ⟨c, q, r⟩ := A
  exact own_st (fun t kk => P.st.iaload P.ex (j := j) (v := .int x) (by rw [P.hp]; exact q.1) (State.isArrayOf_alike P.wz.alike q.2.1) q.2.2 (own_arrIn (a := a) (ty := .int) r h1 h2) (own_arrAt r h2 hx) (g := mkF m pc Ls (.int j :: .ref a :: rest)) rfl rfl (P.cd hd) t kk) k
theorem own_caload (P : own_S Z own nm bytes mx rt p l e R s m args below meth c T h locs cells slots) {a : Addr} {vs : List Int32} {j x : Int32} (A : own_Ar Z h a .char vs) (hd : decode bytes pc = .ok (.caload, 1)) (hp : pc + 1 = pc') (h1 : 0 ≤ j.toInt) (h2 : j.toInt.toNat < vs.length) (hx : vs.getD j.toInt.toNat 0 = x)
    (k : own_Go p e below K (T.setTop (mkF m pc' Ls (.int x :: rest)))) : own_Go p e below K (T.setTop (mkF m pc Ls (.int j :: .ref a :: rest))) := by
  subst hp
  obtain ⟨c, q, r⟩ := A
  exact own_st (fun t kk => P.st.caload P.ex (j := j) (v := .int x) (by rw [P.hp]; exact q.1) (State.isArrayOf_alike P.wz.alike q.2.1) q.2.2 (own_arrIn (a := a) (ty := .char) r h1 h2) (own_arrAt r h2 hx) (g := mkF m pc Ls (.int j :: .ref a :: rest)) rfl rfl (P.cd hd) t kk) k
theorem own_baload (P : own_S Z own nm bytes mx rt p l e R s m args below meth c T h locs cells slots) {a : Addr} {vs : List Int32} {j x : Int32} (A : own_Ar Z h a .byte vs) (hd : decode bytes pc = .ok (.baload, 1)) (hp : pc + 1 = pc') (h1 : 0 ≤ j.toInt) (h2 : j.toInt.toNat < vs.length) (hx : vs.getD j.toInt.toNat 0 = x)
    (k : own_Go p e below K (T.setTop (mkF m pc' Ls (.int x :: rest)))) : own_Go p e below K (T.setTop (mkF m pc Ls (.int j :: .ref a :: rest))) := by
  subst hp
  obtain ⟨c, q, r⟩ := A
  exact own_st (fun t kk => P.st.baloadBytes P.ex (j := j) (v := .int x) (by rw [P.hp]; exact q.1) (State.isArrayOf_alike P.wz.alike q.2.1) q.2.2 (own_arrIn (a := a) (ty := .byte) r h1 h2) (own_arrAt r h2 hx) (g := mkF m pc Ls (.int j :: .ref a :: rest)) rfl rfl (P.cd hd) t kk) k
theorem own_iastore (P : own_S Z own nm bytes mx rt p l e R s m args below meth c T h locs cells slots) {a : Addr} {vs : List Int32} {j x z : Int32} (A : own_Ar Z h a .int vs) (hd : decode bytes pc = .ok (.iastore, 1)) (hp : pc + 1 = pc') (h1 : 0 ≤ j.toInt) (h2 : j.toInt.toNat < vs.length) (hz : x = z)
    (k : ∀ (T' : State) (h' : Heap), Wr h h' a j.toInt.toNat (.int z) → own_Ar Z h' a .int (vs.set j.toInt.toNat z) → own_S Z own nm bytes mx rt p l e R s m args below meth c T' h' (locs ++ [⟨a, j.toInt.toNat⟩]) cells slots → own_Go p e below K (T'.setTop (mkF m pc' Ls rest))) : own_Go p e below K (T.setTop (mkF m pc Ls (.int x :: .int j :: .ref a :: rest))) := by
  subst hp hz
  have A' := A
  obtain ⟨c, q, r⟩ := A'
  obtain ⟨T2, h2', X2, e2, W2, st2⟩ := stI P.st P.ex P.wz P.hp q (j := j) (own_arrIn (a := a) (ty := .int) r h1 h2) (g := mkF m pc Ls (.int x :: .int j :: .ref a :: rest)) rfl rfl (P.cd hd)
  exact own_st st2 (k T2 h2' W2 (A.set W2) (P.move X2 e2))
theorem own_castore (P : own_S Z own nm bytes mx rt p l e R s m args below meth c T h locs cells slots) {a : Addr} {vs : List Int32} {j x z : Int32} (A : own_Ar Z h a .char vs) (hd : decode bytes pc = .ok (.castore, 1)) (hp : pc + 1 = pc') (h1 : 0 ≤ j.toInt) (h2 : j.toInt.toNat < vs.length) (hz : nar .char x = z)
    (k : ∀ (T' : State) (h' : Heap), Wr h h' a j.toInt.toNat (.int z) → own_Ar Z h' a .char (vs.set j.toInt.toNat z) → own_S Z own nm bytes mx rt p l e R s m args below meth c T' h' (locs ++ [⟨a, j.toInt.toNat⟩]) cells slots → own_Go p e below K (T'.setTop (mkF m pc' Ls rest))) : own_Go p e below K (T.setTop (mkF m pc Ls (.int x :: .int j :: .ref a :: rest))) := by
  subst hp hz
  have A' := A
  obtain ⟨c, q, r⟩ := A'
  obtain ⟨T2, h2', X2, e2, W2, st2⟩ := stC P.st P.ex P.wz P.hp q (j := j) (own_arrIn (a := a) (ty := .char) r h1 h2) (g := mkF m pc Ls (.int x :: .int j :: .ref a :: rest)) rfl rfl (P.cd hd)
  exact own_st st2 (k T2 h2' W2 (A.set W2) (P.move X2 e2))
theorem own_bastore (P : own_S Z own nm bytes mx rt p l e R s m args below meth c T h locs cells slots) {a : Addr} {vs : List Int32} {j x z : Int32} (A : own_Ar Z h a .byte vs) (hd : decode bytes pc = .ok (.bastore, 1)) (hp : pc + 1 = pc') (h1 : 0 ≤ j.toInt) (h2 : j.toInt.toNat < vs.length) (hz : nar .byte x = z)
    (k : ∀ (T' : State) (h' : Heap), Wr h h' a j.toInt.toNat (.int z) → own_Ar Z h' a .byte (vs.set j.toInt.toNat z) → own_S Z own nm bytes mx rt p l e R s m args below meth c T' h' (locs ++ [⟨a, j.toInt.toNat⟩]) cells slots → own_Go p e below K (T'.setTop (mkF m pc' Ls rest))) : own_Go p e below K (T.setTop (mkF m pc Ls (.int x :: .int j :: .ref a :: rest))) := by
  subst hp hz
  have A' := A
  obtain ⟨c, q, r⟩ := A'
  obtain ⟨T2, h2', X2, e2, W2, st2⟩ := stB P.st P.ex P.wz P.hp q (j := j) (own_arrIn (a := a) (ty := .byte) r h1 h2) (g := mkF m pc Ls (.int x :: .int j :: .ref a :: rest)) rfl rfl (P.cd hd)
  exact own_st st2 (k T2 h2' W2 (A.set W2) (P.move X2 e2))
end OwnHeap

theorem d1_0 : decode jdk_29_method_70_code 0 = .ok (.lload_n 0, 1) := by decide +kernel
theorem d1_1 : decode jdk_29_method_70_code 1 = .ok (.lload_n 2, 1) := by decide +kernel
theorem d1_2 : decode jdk_29_method_70_code 2 = .ok (.lcmp, 1) := by decide +kernel
theorem d1_3 : decode jdk_29_method_70_code 3 = .ok (.ifCond .gt 7, 3) := by decide +kernel
theorem d1_10 : decode jdk_29_method_70_code 10 = .ok (.lload_n 2, 1) := by decide +kernel
theorem d1_11 : decode jdk_29_method_70_code 11 = .ok (.lreturn, 1) := by decide +kernel
theorem d1_6 : decode jdk_29_method_70_code 6 = .ok (.lload_n 0, 1) := by decide +kernel
theorem d1_7 : decode jdk_29_method_70_code 7 = .ok (.goto 4, 3) := by decide +kernel
def F1_0 (j0 : Int64) (j2 : Int64) : Int64 := (if j2 < j0 then j2 else j0)
set_option maxRecDepth 65536 in
set_option maxHeartbeats 40000000 in
theorem b1_0 {p : Program} {l : Launch} {e : Env} {s : State} {m : MethodId} {args : Array Value} {below : List Frame} {meth : Method} {c : Code} {T : State} {h : Heap} {Z : State} {a0 : Array Value} {Q : Option Value → Heap → List Loc → Prop} (hw : ∀ d ∈ tables_1, d.before a0 Z = true) (j0 : Int64) (j2 : Int64) (P : own_S Z "java/lang/Math" "min" jdk_29_method_70_code 4 (some .long) p l e ({ frames := 0, cells := 0, slots := 0, locals := 0 } : Room) s m args below meth c T h [] 0 0) (hQ : Q (some (.long (F1_0 j0 j2))) h []) :
    own_Go p e below (own_K s Q 0 0) (T.setTop (mkF m 0 #[.val (.long j0), .second, .val (.long j2), .second] [])) := by
  unfold F1_0 at hQ
  refine own_lloadN P d1_0 rfl rfl ?_
  refine own_lloadN P d1_1 rfl rfl ?_
  by_cases hc1 : j2 < j0
  · rw [if_pos hc1] at hQ
    refine own_lcY P (pc' := 10) d1_2 d1_3 hc1 (by decide) (by decide) ?_
    refine own_lloadN P d1_10 rfl rfl ?_
    exact own_retL P d1_11 (by decide) (by decide) hQ
  · rw [if_neg hc1] at hQ
    refine own_lcN P (pc' := 6) d1_2 d1_3 hc1 rfl ?_
    refine own_lloadN P d1_6 rfl rfl ?_
    refine own_goto P (pc' := 11) d1_7 (by decide) (by decide) ?_
    exact own_retL P d1_11 (by decide) (by decide) hQ
theorem rm1 (l : Launch) (Z : State) (a0 : Array Value) (hw : ∀ d ∈ tables_1, d.before a0 Z = true) (j0 : Int64) (j2 : Int64) (h : Heap) :
    own_Con l Z (⟨"java/lang/Math", "min", "(JJ)J"⟩ : MethodName) jdk_29_method_70_code 4 (some .long) [] ({ frames := 0, cells := 0, slots := 0, locals := 0 } : Room) #[(.long j0), (.long j2)] h (own_P (some (.long (F1_0 j0 j2))) h) :=
  own_enter (Jvm.Free.JP.mathPlain rfl (by decide +kernel)) #[.val (.long j0), .second, .val (.long j2), .second] (fun m => by first | (simp [entryFrame, mkF, argsToLocals, Value.category]; done) | rfl) (fun p e s m below meth c T P => b1_0 hw j0 j2 P ⟨rfl, rfl, rfl⟩)
theorem d2_0 : decode jdk_29_method_66_code 0 = .ok (.lload_n 0, 1) := by decide +kernel
theorem d2_1 : decode jdk_29_method_66_code 1 = .ok (.lload_n 2, 1) := by decide +kernel
theorem d2_2 : decode jdk_29_method_66_code 2 = .ok (.lcmp, 1) := by decide +kernel
theorem d2_3 : decode jdk_29_method_66_code 3 = .ok (.ifCond .lt 7, 3) := by decide +kernel
theorem d2_10 : decode jdk_29_method_66_code 10 = .ok (.lload_n 2, 1) := by decide +kernel
theorem d2_11 : decode jdk_29_method_66_code 11 = .ok (.lreturn, 1) := by decide +kernel
theorem d2_6 : decode jdk_29_method_66_code 6 = .ok (.lload_n 0, 1) := by decide +kernel
theorem d2_7 : decode jdk_29_method_66_code 7 = .ok (.goto 4, 3) := by decide +kernel
def F2_0 (j0 : Int64) (j2 : Int64) : Int64 := (if j0 < j2 then j2 else j0)
set_option maxRecDepth 65536 in
set_option maxHeartbeats 40000000 in
theorem b2_0 {p : Program} {l : Launch} {e : Env} {s : State} {m : MethodId} {args : Array Value} {below : List Frame} {meth : Method} {c : Code} {T : State} {h : Heap} {Z : State} {a0 : Array Value} {Q : Option Value → Heap → List Loc → Prop} (hw : ∀ d ∈ tables_1, d.before a0 Z = true) (j0 : Int64) (j2 : Int64) (P : own_S Z "java/lang/Math" "max" jdk_29_method_66_code 4 (some .long) p l e ({ frames := 0, cells := 0, slots := 0, locals := 0 } : Room) s m args below meth c T h [] 0 0) (hQ : Q (some (.long (F2_0 j0 j2))) h []) :
    own_Go p e below (own_K s Q 0 0) (T.setTop (mkF m 0 #[.val (.long j0), .second, .val (.long j2), .second] [])) := by
  unfold F2_0 at hQ
  refine own_lloadN P d2_0 rfl rfl ?_
  refine own_lloadN P d2_1 rfl rfl ?_
  by_cases hc2 : j0 < j2
  · rw [if_pos hc2] at hQ
    refine own_lcY P (pc' := 10) d2_2 d2_3 hc2 (by decide) (by decide) ?_
    refine own_lloadN P d2_10 rfl rfl ?_
    exact own_retL P d2_11 (by decide) (by decide) hQ
  · rw [if_neg hc2] at hQ
    refine own_lcN P (pc' := 6) d2_2 d2_3 hc2 rfl ?_
    refine own_lloadN P d2_6 rfl rfl ?_
    refine own_goto P (pc' := 11) d2_7 (by decide) (by decide) ?_
    exact own_retL P d2_11 (by decide) (by decide) hQ
theorem rm2 (l : Launch) (Z : State) (a0 : Array Value) (hw : ∀ d ∈ tables_1, d.before a0 Z = true) (j0 : Int64) (j2 : Int64) (h : Heap) :
    own_Con l Z (⟨"java/lang/Math", "max", "(JJ)J"⟩ : MethodName) jdk_29_method_66_code 4 (some .long) [] ({ frames := 0, cells := 0, slots := 0, locals := 0 } : Room) #[(.long j0), (.long j2)] h (own_P (some (.long (F2_0 j0 j2))) h) :=
  own_enter (Jvm.Free.JP.mathPlain rfl (by decide +kernel)) #[.val (.long j0), .second, .val (.long j2), .second] (fun m => by first | (simp [entryFrame, mkF, argsToLocals, Value.category]; done) | rfl) (fun p e s m below meth c T P => b2_0 hw j0 j2 P ⟨rfl, rfl, rfl⟩)
theorem d4_0 : decode method_2_code 0 = .ok (.lload_n 0, 1) := by decide +kernel
theorem d4_1 : decode method_2_code 1 = .ok (.lload_n 2, 1) := by decide +kernel
theorem d4_2 : decode method_2_code 2 = .ok (.lcmp, 1) := by decide +kernel
theorem d4_3 : decode method_2_code 3 = .ok (.ifCond .lt 14, 3) := by decide +kernel
theorem d4_17 : decode method_2_code 17 = .ok (.iconst 0, 1) := by decide +kernel
theorem d4_18 : decode method_2_code 18 = .ok (.ireturn, 1) := by decide +kernel
theorem d4_6 : decode method_2_code 6 = .ok (.lload_n 0, 1) := by decide +kernel
theorem d4_7 : decode method_2_code 7 = .ok (.lload 4, 2) := by decide +kernel
theorem d4_9 : decode method_2_code 9 = .ok (.lcmp, 1) := by decide +kernel
theorem d4_10 : decode method_2_code 10 = .ok (.ifCond .ge 7, 3) := by decide +kernel
theorem d4_13 : decode method_2_code 13 = .ok (.iconst 1, 1) := by decide +kernel
theorem d4_14 : decode method_2_code 14 = .ok (.goto 4, 3) := by decide +kernel
def F4_0 (j0 : Int64) (j2 : Int64) (j4 : Int64) : Int32 := (if j0 < j2 then (0 : Int32) else (if j0 < j4 then (1 : Int32) else (0 : Int32)))
set_option maxRecDepth 65536 in
set_option maxHeartbeats 40000000 in
theorem b4_0 {p : Program} {l : Launch} {e : Env} {s : State} {m : MethodId} {args : Array Value} {below : List Frame} {meth : Method} {c : Code} {T : State} {h : Heap} {Z : State} {a0 : Array Value} {Q : Option Value → Heap → List Loc → Prop} (hw : ∀ d ∈ tables_1, d.before a0 Z = true) (j0 : Int64) (j2 : Int64) (j4 : Int64) (P : own_S Z "com/example/projectum/projectum/reasoning/ReachWithinPinLaw" "in" method_2_code 6 (some .boolean) p l e ({ frames := 0, cells := 0, slots := 0, locals := 0 } : Room) s m args below meth c T h [] 0 0) (hQ : Q (some (.int (F4_0 j0 j2 j4))) h []) :
    own_Go p e below (own_K s Q 0 0) (T.setTop (mkF m 0 #[.val (.long j0), .second, .val (.long j2), .second, .val (.long j4), .second] [])) := by
  unfold F4_0 at hQ
  refine own_lloadN P d4_0 rfl rfl ?_
  refine own_lloadN P d4_1 rfl rfl ?_
  by_cases hc3 : j0 < j2
  · rw [if_pos hc3] at hQ
    refine own_lcY P (pc' := 17) d4_2 d4_3 hc3 (by decide) (by decide) ?_
    refine own_iconst P d4_17 rfl (v := (0 : Int32)) rfl ?_
    exact own_retZ P d4_18 (z := (0 : Int32)) rfl (by decide) (by decide) hQ
  · rw [if_neg hc3] at hQ
    refine own_lcN P (pc' := 6) d4_2 d4_3 hc3 rfl ?_
    refine own_lloadN P d4_6 rfl rfl ?_
    refine own_lload P d4_7 rfl rfl ?_
    by_cases hc4 : j0 < j4
    · rw [if_pos hc4] at hQ
      refine own_lcN P (pc' := 13) d4_9 d4_10 (not_not_intro hc4) rfl ?_
      refine own_iconst P d4_13 rfl (v := (1 : Int32)) rfl ?_
      refine own_goto P (pc' := 18) d4_14 (by decide) (by decide) ?_
      exact own_retZ P d4_18 (z := (1 : Int32)) rfl (by decide) (by decide) hQ
    · rw [if_neg hc4] at hQ
      refine own_lcY P (pc' := 17) d4_9 d4_10 hc4 (by decide) (by decide) ?_
      refine own_iconst P d4_17 rfl (v := (0 : Int32)) rfl ?_
      exact own_retZ P d4_18 (z := (0 : Int32)) rfl (by decide) (by decide) hQ
theorem own_pn0 : plainName "com/example/projectum/projectum/reasoning/ReachWithinPinLaw" = true := by first | (simp [plainName, overriddenIn]; done) | decide +kernel
theorem rm4 (l : Launch) (Z : State) (a0 : Array Value) (hw : ∀ d ∈ tables_1, d.before a0 Z = true) (j0 : Int64) (j2 : Int64) (j4 : Int64) (h : Heap) :
    own_Con l Z (⟨"com/example/projectum/projectum/reasoning/ReachWithinPinLaw", "in", "(JJJ)Z"⟩ : MethodName) method_2_code 6 (some .boolean) [] ({ frames := 0, cells := 0, slots := 0, locals := 0 } : Room) #[(.long j0), (.long j2), (.long j4)] h (own_P (some (.int (F4_0 j0 j2 j4))) h) :=
  own_enter (plainFor_of_name own_pn0) #[.val (.long j0), .second, .val (.long j2), .second, .val (.long j4), .second] (fun m => by first | (simp [entryFrame, mkF, argsToLocals, Value.category]; done) | rfl) (fun p e s m below meth c T P => b4_0 hw j0 j2 j4 P ⟨rfl, rfl, rfl⟩)
theorem own_on {n : Nat} (h : n < 2147483648) : (Int32.ofNat n).toInt = n := Int32.toInt_ofNat_of_lt (by omega)
theorem own_mid {nn : Nat} {i2 i3 : Int32} (hb : 0 ≤ i2.toInt ∧ i2.toInt ≤ nn ∧ -1 ≤ i3.toInt ∧ i3.toInt + 1 ≤ nn) (hn : nn ≤ 4) (hc : ¬ (i3 < i2)) : ((((i2 + i3).toUInt32 >>> ((1 : Int32) &&& 31).toUInt32).toInt32)).toInt = (i2.toInt + i3.toInt) / 2 := by
  rw [Int32.lt_iff_toInt_lt] at hc
  have a : (i2 + i3).toInt = i2.toInt + i3.toInt := Jvm.Kit.i32_add (by omega) (by omega)
  rw [Jvm.Kit.i32_iushr (Jvm.Kit.i32_nonneg.mpr (by rw [a]; omega)) (k := 1) (by decide) (by decide), a]
  rfl
theorem own_ix0 {nn : Nat} {i2 i3 : Int32} {vs : List Int32} (hb : 0 ≤ i2.toInt ∧ i2.toInt ≤ nn ∧ -1 ≤ i3.toInt ∧ i3.toInt + 1 ≤ nn) (hlen : vs.length = 2 * nn ∧ nn ≤ 4) (hc : ¬ (i3 < i2)) : 0 ≤ ((2 : Int32) * (((i2 + i3).toUInt32 >>> ((1 : Int32) &&& 31).toUInt32).toInt32)).toInt ∧ ((2 : Int32) * (((i2 + i3).toUInt32 >>> ((1 : Int32) &&& 31).toUInt32).toInt32)).toInt.toNat < vs.length := by
  have m := own_mid hb hlen.2 hc
  generalize (((i2 + i3).toUInt32 >>> ((1 : Int32) &&& 31).toUInt32).toInt32) = d at *
  rw [Int32.lt_iff_toInt_lt] at hc
  have z : (2 : Int32).toInt = 2 := by decide
  rw [Jvm.Kit.i32_mul (by rw [z]; omega) (by rw [z]; omega), z]
  omega
theorem own_ix1 {nn : Nat} {i2 i3 : Int32} {vs : List Int32} (hb : 0 ≤ i2.toInt ∧ i2.toInt ≤ nn ∧ -1 ≤ i3.toInt ∧ i3.toInt + 1 ≤ nn) (hlen : vs.length = 2 * nn ∧ nn ≤ 4) (hc : ¬ (i3 < i2)) : 0 ≤ (((2 : Int32) * (((i2 + i3).toUInt32 >>> ((1 : Int32) &&& 31).toUInt32).toInt32)) + (1 : Int32)).toInt ∧ (((2 : Int32) * (((i2 + i3).toUInt32 >>> ((1 : Int32) &&& 31).toUInt32).toInt32)) + (1 : Int32)).toInt.toNat < vs.length := by
  have m := own_mid hb hlen.2 hc
  generalize (((i2 + i3).toUInt32 >>> ((1 : Int32) &&& 31).toUInt32).toInt32) = d at *
  rw [Int32.lt_iff_toInt_lt] at hc
  have z : (2 : Int32).toInt = 2 := by decide
  have z1 : (1 : Int32).toInt = 1 := by decide
  have e : ((2 : Int32) * d).toInt = 2 * d.toInt := by rw [Jvm.Kit.i32_mul (by rw [z]; omega) (by rw [z]; omega), z]
  rw [Jvm.Kit.i32_add (by rw [e, z1]; omega) (by rw [e, z1]; omega), e, z1]
  omega
theorem own_up {nn f : Nat} {i2 i3 : Int32} {vs : List Int32} (hb : 0 ≤ i2.toInt ∧ i2.toInt ≤ nn ∧ -1 ≤ i3.toInt ∧ i3.toInt + 1 ≤ nn) (hlen : vs.length = 2 * nn ∧ nn ≤ 4) (hi : i3.toInt - i2.toInt < ((f + 1 : Nat) : Int)) (hc : ¬ (i3 < i2)) :
    (0 ≤ ((((i2 + i3).toUInt32 >>> ((1 : Int32) &&& 31).toUInt32).toInt32) + (1 : Int32)).toInt ∧ ((((i2 + i3).toUInt32 >>> ((1 : Int32) &&& 31).toUInt32).toInt32) + (1 : Int32)).toInt ≤ nn ∧ -1 ≤ i3.toInt ∧ i3.toInt + 1 ≤ nn) ∧ i3.toInt - ((((i2 + i3).toUInt32 >>> ((1 : Int32) &&& 31).toUInt32).toInt32) + (1 : Int32)).toInt < f := by
  have m := own_mid hb hlen.2 hc
  generalize (((i2 + i3).toUInt32 >>> ((1 : Int32) &&& 31).toUInt32).toInt32) = d at *
  rw [Int32.lt_iff_toInt_lt] at hc
  have z1 : (1 : Int32).toInt = 1 := by decide
  rw [Jvm.Kit.i32_add (by rw [z1]; omega) (by rw [z1]; omega), z1]
  omega
theorem own_dn {nn f : Nat} {i2 i3 : Int32} {vs : List Int32} (hb : 0 ≤ i2.toInt ∧ i2.toInt ≤ nn ∧ -1 ≤ i3.toInt ∧ i3.toInt + 1 ≤ nn) (hlen : vs.length = 2 * nn ∧ nn ≤ 4) (hi : i3.toInt - i2.toInt < ((f + 1 : Nat) : Int)) (hc : ¬ (i3 < i2)) :
    (0 ≤ i2.toInt ∧ i2.toInt ≤ nn ∧ -1 ≤ ((((i2 + i3).toUInt32 >>> ((1 : Int32) &&& 31).toUInt32).toInt32) - (1 : Int32)).toInt ∧ ((((i2 + i3).toUInt32 >>> ((1 : Int32) &&& 31).toUInt32).toInt32) - (1 : Int32)).toInt + 1 ≤ nn) ∧ ((((i2 + i3).toUInt32 >>> ((1 : Int32) &&& 31).toUInt32).toInt32) - (1 : Int32)).toInt - i2.toInt < f := by
  have m := own_mid hb hlen.2 hc
  generalize (((i2 + i3).toUInt32 >>> ((1 : Int32) &&& 31).toUInt32).toInt32) = d at *
  rw [Int32.lt_iff_toInt_lt] at hc
  have z1 : (1 : Int32).toInt = 1 := by decide
  rw [Jvm.Kit.i32_sub (by rw [z1]; omega) (by rw [z1]; omega), z1]
  omega
theorem own_hi {nn : Nat} {vs : List Int32} (hlen : vs.length = 2 * nn ∧ nn ≤ 4) :
    (0 ≤ (0 : Int32).toInt ∧ (0 : Int32).toInt ≤ nn ∧ -1 ≤ (((Int32.ofNat vs.length) / (2 : Int32)) - (1 : Int32)).toInt ∧ (((Int32.ofNat vs.length) / (2 : Int32)) - (1 : Int32)).toInt + 1 ≤ nn) ∧ (((Int32.ofNat vs.length) / (2 : Int32)) - (1 : Int32)).toInt - (0 : Int32).toInt < ((5 : Nat) : Int) := by
  have z0 : (0 : Int32).toInt = 0 := by decide
  have z1 : (1 : Int32).toInt = 1 := by decide
  have z2 : (2 : Int32).toInt = 2 := by decide
  have o := own_on (n := vs.length) (by omega)
  have d : ((Int32.ofNat vs.length) / (2 : Int32)).toInt = nn := by
    rw [Jvm.Kit.i32_div (by rw [z2]; omega), o, z2, Int.tdiv_eq_ediv_of_nonneg (by omega)]; omega
  rw [Jvm.Kit.i32_sub (by rw [d, z1]; omega) (by rw [d, z1]; omega), d, z1, z0]
  omega
theorem own_m5 (x : Int32) : ((x &&& (2147483647 : Int32)) - (x &&& (2147483647 : Int32)) / (5 : Int32) * (5 : Int32)) = (0 : Int32) ∨ ((x &&& (2147483647 : Int32)) - (x &&& (2147483647 : Int32)) / (5 : Int32) * (5 : Int32)) = (1 : Int32) ∨ ((x &&& (2147483647 : Int32)) - (x &&& (2147483647 : Int32)) / (5 : Int32) * (5 : Int32)) = (2 : Int32) ∨ ((x &&& (2147483647 : Int32)) - (x &&& (2147483647 : Int32)) / (5 : Int32) * (5 : Int32)) = (3 : Int32) ∨ ((x &&& (2147483647 : Int32)) - (x &&& (2147483647 : Int32)) / (5 : Int32) * (5 : Int32)) = (4 : Int32) := by
  have m : (x &&& (2147483647 : Int32)).toInt = x.toInt % 2 ^ 31 := Jvm.Kit.i32_mask x _ (k := 31) (by decide) (by decide)
  generalize (x &&& (2147483647 : Int32)) = y at *
  have r : (y - y / (5 : Int32) * (5 : Int32)).toInt = y.toInt % 5 := by rw [irem_eq_mod, Jvm.Kit.i32_rem_nonneg (by omega), show (5 : Int32).toInt = 5 by decide]
  generalize (y - y / (5 : Int32) * (5 : Int32)) = w at *
  have q : w.toInt = 0 ∨ w.toInt = 1 ∨ w.toInt = 2 ∨ w.toInt = 3 ∨ w.toInt = 4 := by omega
  rcases q with q | q | q | q | q
  · exact Or.inl (Int32.toInt_inj.mp (q.trans (by decide)))
  · exact Or.inr (Or.inl (Int32.toInt_inj.mp (q.trans (by decide))))
  · exact Or.inr (Or.inr (Or.inl (Int32.toInt_inj.mp (q.trans (by decide)))))
  · exact Or.inr (Or.inr (Or.inr (Or.inl (Int32.toInt_inj.mp (q.trans (by decide))))))
  · exact Or.inr (Or.inr (Or.inr (Or.inr ((Int32.toInt_inj.mp (q.trans (by decide)))))))

theorem d3_9 : decode prog_85_method_6_code 9 = .ok (.iload_n 2, 1) := by decide +kernel
theorem d3_10 : decode prog_85_method_6_code 10 = .ok (.iload_n 3, 1) := by decide +kernel
theorem d3_11 : decode prog_85_method_6_code 11 = .ok (.if_icmp .gt 53, 3) := by decide +kernel
theorem d3_64 : decode prog_85_method_6_code 64 = .ok (.iconst 0, 1) := by decide +kernel
theorem d3_65 : decode prog_85_method_6_code 65 = .ok (.ireturn, 1) := by decide +kernel
theorem d3_14 : decode prog_85_method_6_code 14 = .ok (.iload_n 2, 1) := by decide +kernel
theorem d3_15 : decode prog_85_method_6_code 15 = .ok (.iload_n 3, 1) := by decide +kernel
theorem d3_16 : decode prog_85_method_6_code 16 = .ok (.iadd, 1) := by decide +kernel
theorem d3_17 : decode prog_85_method_6_code 17 = .ok (.iconst 1, 1) := by decide +kernel
theorem d3_18 : decode prog_85_method_6_code 18 = .ok (.iushr, 1) := by decide +kernel
theorem d3_19 : decode prog_85_method_6_code 19 = .ok (.istore 4, 2) := by decide +kernel
theorem d3_21 : decode prog_85_method_6_code 21 = .ok (.iload_n 1, 1) := by decide +kernel
theorem d3_22 : decode prog_85_method_6_code 22 = .ok (.aload_n 0, 1) := by decide +kernel
theorem d3_23 : decode prog_85_method_6_code 23 = .ok (.iconst 2, 1) := by decide +kernel
theorem d3_24 : decode prog_85_method_6_code 24 = .ok (.iload 4, 2) := by decide +kernel
theorem d3_26 : decode prog_85_method_6_code 26 = .ok (.imul, 1) := by decide +kernel
theorem d3_27 : decode prog_85_method_6_code 27 = .ok (.iaload, 1) := by decide +kernel
theorem d3_28 : decode prog_85_method_6_code 28 = .ok (.if_icmp .ge 11, 3) := by decide +kernel
theorem d3_31 : decode prog_85_method_6_code 31 = .ok (.iload 4, 2) := by decide +kernel
theorem d3_33 : decode prog_85_method_6_code 33 = .ok (.iconst 1, 1) := by decide +kernel
theorem d3_34 : decode prog_85_method_6_code 34 = .ok (.isub, 1) := by decide +kernel
theorem d3_35 : decode prog_85_method_6_code 35 = .ok (.istore_n 3, 1) := by decide +kernel
theorem d3_36 : decode prog_85_method_6_code 36 = .ok (.goto 25, 3) := by decide +kernel
theorem d3_61 : decode prog_85_method_6_code 61 = .ok (.goto (-52), 3) := by decide +kernel
theorem d3_39 : decode prog_85_method_6_code 39 = .ok (.iload_n 1, 1) := by decide +kernel
theorem d3_40 : decode prog_85_method_6_code 40 = .ok (.aload_n 0, 1) := by decide +kernel
theorem d3_41 : decode prog_85_method_6_code 41 = .ok (.iconst 2, 1) := by decide +kernel
theorem d3_42 : decode prog_85_method_6_code 42 = .ok (.iload 4, 2) := by decide +kernel
theorem d3_44 : decode prog_85_method_6_code 44 = .ok (.imul, 1) := by decide +kernel
theorem d3_45 : decode prog_85_method_6_code 45 = .ok (.iconst 1, 1) := by decide +kernel
theorem d3_46 : decode prog_85_method_6_code 46 = .ok (.iadd, 1) := by decide +kernel
theorem d3_47 : decode prog_85_method_6_code 47 = .ok (.iaload, 1) := by decide +kernel
theorem d3_48 : decode prog_85_method_6_code 48 = .ok (.if_icmp .lt 11, 3) := by decide +kernel
theorem d3_59 : decode prog_85_method_6_code 59 = .ok (.iconst 1, 1) := by decide +kernel
theorem d3_60 : decode prog_85_method_6_code 60 = .ok (.ireturn, 1) := by decide +kernel
theorem d3_51 : decode prog_85_method_6_code 51 = .ok (.iload 4, 2) := by decide +kernel
theorem d3_53 : decode prog_85_method_6_code 53 = .ok (.iconst 1, 1) := by decide +kernel
theorem d3_54 : decode prog_85_method_6_code 54 = .ok (.iadd, 1) := by decide +kernel
theorem d3_55 : decode prog_85_method_6_code 55 = .ok (.istore_n 2, 1) := by decide +kernel
theorem d3_56 : decode prog_85_method_6_code 56 = .ok (.goto 5, 3) := by decide +kernel
theorem d3_0 : decode prog_85_method_6_code 0 = .ok (.iconst 0, 1) := by decide +kernel
theorem d3_1 : decode prog_85_method_6_code 1 = .ok (.istore_n 2, 1) := by decide +kernel
theorem d3_2 : decode prog_85_method_6_code 2 = .ok (.aload_n 0, 1) := by decide +kernel
theorem d3_3 : decode prog_85_method_6_code 3 = .ok (.arraylength, 1) := by decide +kernel
theorem d3_4 : decode prog_85_method_6_code 4 = .ok (.iconst 2, 1) := by decide +kernel
theorem d3_5 : decode prog_85_method_6_code 5 = .ok (.idiv, 1) := by decide +kernel
theorem d3_6 : decode prog_85_method_6_code 6 = .ok (.iconst 1, 1) := by decide +kernel
theorem d3_7 : decode prog_85_method_6_code 7 = .ok (.isub, 1) := by decide +kernel
theorem d3_8 : decode prog_85_method_6_code 8 = .ok (.istore_n 3, 1) := by decide +kernel
def own_bs (vs : List Int32) (i1 : Int32) : Nat → Int32 → Int32 → Int32
  | 0, _, _ => (0 : Int32)
  | f + 1, i2, i3 => (if i3 < i2 then (0 : Int32) else (if i1 < (vs.getD ((2 : Int32) * (((i2 + i3).toUInt32 >>> ((1 : Int32) &&& 31).toUInt32).toInt32)).toInt.toNat 0) then (own_bs vs i1 f i2 ((((i2 + i3).toUInt32 >>> ((1 : Int32) &&& 31).toUInt32).toInt32) - (1 : Int32))) else (if i1 < (vs.getD (((2 : Int32) * (((i2 + i3).toUInt32 >>> ((1 : Int32) &&& 31).toUInt32).toInt32)) + (1 : Int32)).toInt.toNat 0) then (1 : Int32) else (own_bs vs i1 f ((((i2 + i3).toUInt32 >>> ((1 : Int32) &&& 31).toUInt32).toInt32) + (1 : Int32)) i3))))
set_option maxRecDepth 65536 in
set_option maxHeartbeats 40000000 in
theorem b3_9 {p : Program} {l : Launch} {e : Env} {s : State} {m : MethodId} {args : Array Value} {below : List Frame} {meth : Method} {c : Code}  {h : Heap} {Z : State} {a0 : Array Value} {Q : Option Value → Heap → List Loc → Prop} (hw : ∀ d ∈ tables_1, d.before a0 Z = true) (o0 : Addr) (i1 : Int32) (vs : List Int32) (nn : Nat) (A_o0 : own_Ar Z h o0 .int vs) (hlen : vs.length = 2 * nn ∧ nn ≤ 4) : ∀ (f : Nat) (i2 i3 : Int32) (s4 : Slot), own_One s4 → ∀ (T : State), (0 ≤ i2.toInt ∧ i2.toInt ≤ nn ∧ -1 ≤ i3.toInt ∧ i3.toInt + 1 ≤ nn) → i3.toInt - i2.toInt < f → own_S Z "com/example/projectum/projectum/reasoning/TypeOrder$Reach" "within" prog_85_method_6_code 5 (some .boolean) p l e ({ frames := 0, cells := 0, slots := 0, locals := 0 } : Room) s m args below meth c T h [] 0 0 → Q (some (.int (own_bs vs i1 f i2 i3))) h [] →
    own_Go p e below (own_K s Q 0 0) (T.setTop (mkF m 9 #[.val (.ref o0), .val (.int i1), .val (.int i2), .val (.int i3), s4] [])) := by
  intro f
  induction f with
  | zero =>
    intro i2 i3 s4 h_s4 T hb hi P hQ
    have hc : i3 < i2 := by rw [Int32.lt_iff_toInt_lt]; omega
    refine own_iloadN P d3_9 rfl rfl ?_
    refine own_iloadN P d3_10 rfl rfl ?_
    refine own_icmpY P (pc' := 64) d3_11 hc (by decide) (by decide) ?_
    refine own_iconst P d3_64 rfl (v := (0 : Int32)) rfl ?_
    exact own_retZ P d3_65 (z := (0 : Int32)) rfl (by decide) (by decide) hQ
  | succ f ih =>
    intro i2 i3 s4 h_s4 T hb hi P hQ
    rw [own_bs] at hQ
    refine own_iloadN P d3_9 rfl rfl ?_
    refine own_iloadN P d3_10 rfl rfl ?_
    by_cases hc5 : i3 < i2
    · rw [if_pos hc5] at hQ
      refine own_icmpY P (pc' := 64) d3_11 hc5 (by decide) (by decide) ?_
      refine own_iconst P d3_64 rfl (v := (0 : Int32)) rfl ?_
      exact own_retZ P d3_65 (z := (0 : Int32)) rfl (by decide) (by decide) hQ
    · rw [if_neg hc5] at hQ
      refine own_icmpN P (pc' := 14) d3_11 hc5 rfl ?_
      refine own_iloadN P d3_14 rfl rfl ?_
      refine own_iloadN P d3_15 rfl rfl ?_
      refine own_iadd P d3_16 rfl ?_
      refine own_iconst P d3_17 rfl (v := (1 : Int32)) rfl ?_
      refine own_iushr P d3_18 rfl ?_
      refine own_istore P d3_19 rfl (Ls' := #[.val (.ref o0), .val (.int i1), .val (.int i2), .val (.int i3), .val (.int (((i2 + i3).toUInt32 >>> ((1 : Int32) &&& 31).toUInt32).toInt32))]) (by rcases h_s4 with rfl | ⟨w, rfl, hw⟩; rfl; cases w <;> first | rfl | (simp [Value.category] at hw)) ?_
      refine own_iloadN P d3_21 rfl rfl ?_
      refine own_aloadN P d3_22 rfl rfl rfl ?_
      refine own_iconst P d3_23 rfl (v := (2 : Int32)) rfl ?_
      refine own_iload P d3_24 rfl rfl ?_
      refine own_imul P d3_26 rfl ?_
      refine own_iaload P A_o0 d3_27 rfl (own_ix0 hb hlen hc5).1 (own_ix0 hb hlen hc5).2 (x := (vs.getD ((2 : Int32) * (((i2 + i3).toUInt32 >>> ((1 : Int32) &&& 31).toUInt32).toInt32)).toInt.toNat 0)) rfl ?_
      by_cases hc6 : i1 < (vs.getD ((2 : Int32) * (((i2 + i3).toUInt32 >>> ((1 : Int32) &&& 31).toUInt32).toInt32)).toInt.toNat 0)
      · rw [if_pos hc6] at hQ
        refine own_icmpN P (pc' := 31) d3_28 (not_not_intro hc6) rfl ?_
        refine own_iload P d3_31 rfl rfl ?_
        refine own_iconst P d3_33 rfl (v := (1 : Int32)) rfl ?_
        refine own_isub P d3_34 rfl ?_
        refine own_istoreN P d3_35 rfl (Ls' := #[.val (.ref o0), .val (.int i1), .val (.int i2), .val (.int ((((i2 + i3).toUInt32 >>> ((1 : Int32) &&& 31).toUInt32).toInt32) - (1 : Int32))), .val (.int (((i2 + i3).toUInt32 >>> ((1 : Int32) &&& 31).toUInt32).toInt32))]) rfl ?_
        refine own_goto P (pc' := 61) d3_36 (by decide) (by decide) ?_
        refine own_goto P (pc' := 9) d3_61 (by decide) (by decide) ?_
        exact ih i2 ((((i2 + i3).toUInt32 >>> ((1 : Int32) &&& 31).toUInt32).toInt32) - (1 : Int32)) _ (Or.inr ⟨_, rfl, rfl⟩) _ (own_dn hb hlen hi hc5).1 (own_dn hb hlen hi hc5).2 P hQ
      · rw [if_neg hc6] at hQ
        refine own_icmpY P (pc' := 39) d3_28 hc6 (by decide) (by decide) ?_
        refine own_iloadN P d3_39 rfl rfl ?_
        refine own_aloadN P d3_40 rfl rfl rfl ?_
        refine own_iconst P d3_41 rfl (v := (2 : Int32)) rfl ?_
        refine own_iload P d3_42 rfl rfl ?_
        refine own_imul P d3_44 rfl ?_
        refine own_iconst P d3_45 rfl (v := (1 : Int32)) rfl ?_
        refine own_iadd P d3_46 rfl ?_
        refine own_iaload P A_o0 d3_47 rfl (own_ix1 hb hlen hc5).1 (own_ix1 hb hlen hc5).2 (x := (vs.getD (((2 : Int32) * (((i2 + i3).toUInt32 >>> ((1 : Int32) &&& 31).toUInt32).toInt32)) + (1 : Int32)).toInt.toNat 0)) rfl ?_
        by_cases hc7 : i1 < (vs.getD (((2 : Int32) * (((i2 + i3).toUInt32 >>> ((1 : Int32) &&& 31).toUInt32).toInt32)) + (1 : Int32)).toInt.toNat 0)
        · rw [if_pos hc7] at hQ
          refine own_icmpY P (pc' := 59) d3_48 hc7 (by decide) (by decide) ?_
          refine own_iconst P d3_59 rfl (v := (1 : Int32)) rfl ?_
          exact own_retZ P d3_60 (z := (1 : Int32)) rfl (by decide) (by decide) hQ
        · rw [if_neg hc7] at hQ
          refine own_icmpN P (pc' := 51) d3_48 hc7 rfl ?_
          refine own_iload P d3_51 rfl rfl ?_
          refine own_iconst P d3_53 rfl (v := (1 : Int32)) rfl ?_
          refine own_iadd P d3_54 rfl ?_
          refine own_istoreN P d3_55 rfl (Ls' := #[.val (.ref o0), .val (.int i1), .val (.int ((((i2 + i3).toUInt32 >>> ((1 : Int32) &&& 31).toUInt32).toInt32) + (1 : Int32))), .val (.int i3), .val (.int (((i2 + i3).toUInt32 >>> ((1 : Int32) &&& 31).toUInt32).toInt32))]) rfl ?_
          refine own_goto P (pc' := 61) d3_56 (by decide) (by decide) ?_
          refine own_goto P (pc' := 9) d3_61 (by decide) (by decide) ?_
          exact ih ((((i2 + i3).toUInt32 >>> ((1 : Int32) &&& 31).toUInt32).toInt32) + (1 : Int32)) i3 _ (Or.inr ⟨_, rfl, rfl⟩) _ (own_up hb hlen hi hc5).1 (own_up hb hlen hi hc5).2 P hQ
def F3_0 (i1 : Int32) (vs : List Int32) : Int32 := (own_bs vs i1 5 (0 : Int32) (((Int32.ofNat vs.length) / (2 : Int32)) - (1 : Int32)))
set_option maxRecDepth 65536 in
set_option maxHeartbeats 40000000 in
theorem b3_0 {p : Program} {l : Launch} {e : Env} {s : State} {m : MethodId} {args : Array Value} {below : List Frame} {meth : Method} {c : Code} {T : State} {h : Heap} {Z : State} {a0 : Array Value} {Q : Option Value → Heap → List Loc → Prop} (hw : ∀ d ∈ tables_1, d.before a0 Z = true) (o0 : Addr) (i1 : Int32) (vs : List Int32) (nn : Nat) (A_o0 : own_Ar Z h o0 .int vs) (hlen : vs.length = 2 * nn ∧ nn ≤ 4) (P : own_S Z "com/example/projectum/projectum/reasoning/TypeOrder$Reach" "within" prog_85_method_6_code 5 (some .boolean) p l e ({ frames := 0, cells := 0, slots := 0, locals := 0 } : Room) s m args below meth c T h [] 0 0) (hQ : Q (some (.int (F3_0 i1 vs))) h []) :
    own_Go p e below (own_K s Q 0 0) (T.setTop (mkF m 0 #[.val (.ref o0), .val (.int i1), .unset, .unset, .unset] [])) := by
  unfold F3_0 at hQ
  refine own_iconst P d3_0 rfl (v := (0 : Int32)) rfl ?_
  refine own_istoreN P d3_1 rfl (Ls' := #[.val (.ref o0), .val (.int i1), .val (.int (0 : Int32)), .unset, .unset]) rfl ?_
  refine own_aloadN P d3_2 rfl rfl rfl ?_
  refine own_alen P A_o0 d3_3 rfl (v := (Int32.ofNat vs.length)) rfl ?_
  refine own_iconst P d3_4 rfl (v := (2 : Int32)) rfl ?_
  refine own_idiv P d3_5 rfl (by decide) ?_
  refine own_iconst P d3_6 rfl (v := (1 : Int32)) rfl ?_
  refine own_isub P d3_7 rfl ?_
  refine own_istoreN P d3_8 rfl (Ls' := #[.val (.ref o0), .val (.int i1), .val (.int (0 : Int32)), .val (.int (((Int32.ofNat vs.length) / (2 : Int32)) - (1 : Int32))), .unset]) rfl ?_
  exact b3_9 hw o0 i1 vs nn A_o0 hlen 5 (0 : Int32) (((Int32.ofNat vs.length) / (2 : Int32)) - (1 : Int32)) .unset (Or.inl rfl) _ (own_hi hlen).1 (own_hi hlen).2 P hQ
theorem own_pn1 : plainName "com/example/projectum/projectum/reasoning/TypeOrder$Reach" = true := by first | (simp [plainName, overriddenIn]; done) | decide +kernel
theorem rm3 (l : Launch) (Z : State) (a0 : Array Value) (hw : ∀ d ∈ tables_1, d.before a0 Z = true) (o0 : Addr) (i1 : Int32) (vs : List Int32) (nn : Nat) (h : Heap) (A_o0 : own_Ar Z h o0 .int vs) (hlen : vs.length = 2 * nn ∧ nn ≤ 4) :
    own_Con l Z (⟨"com/example/projectum/projectum/reasoning/TypeOrder$Reach", "within", "([II)Z"⟩ : MethodName) prog_85_method_6_code 5 (some .boolean) [] ({ frames := 0, cells := 0, slots := 0, locals := 0 } : Room) #[(.ref o0), (.int i1)] h (own_P (some (.int (F3_0 i1 vs))) h) :=
  own_enter (plainFor_of_name own_pn1) #[.val (.ref o0), .val (.int i1), .unset, .unset, .unset] (fun m => by first | (simp [entryFrame, mkF, argsToLocals, Value.category]; done) | rfl) (fun p e s m below meth c T P => b3_0 hw o0 i1 vs nn A_o0 hlen P ⟨rfl, rfl, rfl⟩)
theorem own_pd0 : parseMethodDescriptor "(JJ)J" = some ⟨[.long, .long], some .long⟩ := by decide +kernel
theorem own_pd1 : parseMethodDescriptor "([II)Z" = some ⟨[(.array .int), .int], some .boolean⟩ := by decide +kernel
theorem own_pd2 : parseMethodDescriptor "(JJJ)Z" = some ⟨[.long, .long, .long], some .boolean⟩ := by decide +kernel
def F0_195 (i5 : Int32) (j9 : Int64) (j11 : Int64) (j13 : Int64) (j15 : Int64) (j17 : Int64) (j19 : Int64) (j21 : Int64) (j23 : Int64) (i27 : Int32) : Int32 := (if i5 = (0 : Int32) then (if (F3_0 i27 []) = (0 : Int32) then (1 : Int32) else (0 : Int32)) else (if i5 = (1 : Int32) then (if (F4_0 (i27.toInt64) j9 j11) = (0 : Int32) then (if (F3_0 i27 [(j9.toInt32), (j11.toInt32)]) = (0 : Int32) then (1 : Int32) else (0 : Int32)) else (if (F3_0 i27 [(j9.toInt32), (j11.toInt32)]) = (1 : Int32) then (1 : Int32) else (0 : Int32))) else (if i5 = (2 : Int32) then (if (F4_0 (i27.toInt64) j9 j11) = (0 : Int32) then (if (F4_0 (i27.toInt64) j13 j15) = (0 : Int32) then (if (F3_0 i27 [(j9.toInt32), (j11.toInt32), (j13.toInt32), (j15.toInt32)]) = (0 : Int32) then (1 : Int32) else (0 : Int32)) else (if (F3_0 i27 [(j9.toInt32), (j11.toInt32), (j13.toInt32), (j15.toInt32)]) = (1 : Int32) then (1 : Int32) else (0 : Int32))) else (if (F3_0 i27 [(j9.toInt32), (j11.toInt32), (j13.toInt32), (j15.toInt32)]) = (1 : Int32) then (1 : Int32) else (0 : Int32))) else (if i5 = (3 : Int32) then (if (F4_0 (i27.toInt64) j9 j11) = (0 : Int32) then (if (F4_0 (i27.toInt64) j13 j15) = (0 : Int32) then (if (F4_0 (i27.toInt64) j17 j19) = (0 : Int32) then (if (F3_0 i27 [(j9.toInt32), (j11.toInt32), (j13.toInt32), (j15.toInt32), (j17.toInt32), (j19.toInt32)]) = (0 : Int32) then (1 : Int32) else (0 : Int32)) else (if (F3_0 i27 [(j9.toInt32), (j11.toInt32), (j13.toInt32), (j15.toInt32), (j17.toInt32), (j19.toInt32)]) = (1 : Int32) then (1 : Int32) else (0 : Int32))) else (if (F3_0 i27 [(j9.toInt32), (j11.toInt32), (j13.toInt32), (j15.toInt32), (j17.toInt32), (j19.toInt32)]) = (1 : Int32) then (1 : Int32) else (0 : Int32))) else (if (F3_0 i27 [(j9.toInt32), (j11.toInt32), (j13.toInt32), (j15.toInt32), (j17.toInt32), (j19.toInt32)]) = (1 : Int32) then (1 : Int32) else (0 : Int32))) else (if (F4_0 (i27.toInt64) j9 j11) = (0 : Int32) then (if (F4_0 (i27.toInt64) j13 j15) = (0 : Int32) then (if (F4_0 (i27.toInt64) j17 j19) = (0 : Int32) then (if (F4_0 (i27.toInt64) j21 j23) = (0 : Int32) then (if (F3_0 i27 [(j9.toInt32), (j11.toInt32), (j13.toInt32), (j15.toInt32), (j17.toInt32), (j19.toInt32), (j21.toInt32), (j23.toInt32)]) = (0 : Int32) then (1 : Int32) else (0 : Int32)) else (if (F3_0 i27 [(j9.toInt32), (j11.toInt32), (j13.toInt32), (j15.toInt32), (j17.toInt32), (j19.toInt32), (j21.toInt32), (j23.toInt32)]) = (1 : Int32) then (1 : Int32) else (0 : Int32))) else (if (F3_0 i27 [(j9.toInt32), (j11.toInt32), (j13.toInt32), (j15.toInt32), (j17.toInt32), (j19.toInt32), (j21.toInt32), (j23.toInt32)]) = (1 : Int32) then (1 : Int32) else (0 : Int32))) else (if (F3_0 i27 [(j9.toInt32), (j11.toInt32), (j13.toInt32), (j15.toInt32), (j17.toInt32), (j19.toInt32), (j21.toInt32), (j23.toInt32)]) = (1 : Int32) then (1 : Int32) else (0 : Int32))) else (if (F3_0 i27 [(j9.toInt32), (j11.toInt32), (j13.toInt32), (j15.toInt32), (j17.toInt32), (j19.toInt32), (j21.toInt32), (j23.toInt32)]) = (1 : Int32) then (1 : Int32) else (0 : Int32)))))))
set_option maxRecDepth 65536 in
set_option maxHeartbeats 40000000 in
theorem b0_195 {p : Program} {l : Launch} {e : Env} {s : State} {m : MethodId} {args : Array Value} {below : List Frame} {meth : Method} {c : Code} {T : State} {h : Heap} {locs : List Loc} {Z : State} {a0 : Array Value} {Q : Option Value → Heap → List Loc → Prop} (hw : ∀ d ∈ tables_1, d.before a0 Z = true) (i0 : Int32) (i1 : Int32) (i2 : Int32) (i3 : Int32) (i4 : Int32) (i5 : Int32) (i6 : Int32) (j7 : Int64) (j9 : Int64) (j11 : Int64) (j13 : Int64) (j15 : Int64) (j17 : Int64) (j19 : Int64) (j21 : Int64) (j23 : Int64) (j25 : Int64) (i27 : Int32)  (n0 : Nat) (N : Fr n0 locs) (Z0 : n0 ≤ h.size) (hsp : i5 = (0 : Int32) ∨ i5 = (1 : Int32) ∨ i5 = (2 : Int32) ∨ i5 = (3 : Int32) ∨ i5 = (4 : Int32)) (P : own_S Z "com/example/projectum/projectum/reasoning/ReachWithinPinLaw" "law" code 32 (some .boolean) p l e room_1 s m args below meth c T h locs 0 0) (hQ : ∀ h' L', Fr n0 L' → Q (some (.int (F0_195 i5 j9 j11 j13 j15 j17 j19 j21 j23 i27))) h' L') :
    own_Go p e below (own_K s Q room_1.cells room_1.slots) (T.setTop (mkF m 195 #[.val (.int i0), .val (.int i1), .val (.int i2), .val (.int i3), .val (.int i4), .val (.int i5), .val (.int i6), .val (.long j7), .second, .val (.long j9), .second, .val (.long j11), .second, .val (.long j13), .second, .val (.long j15), .second, .val (.long j17), .second, .val (.long j19), .second, .val (.long j21), .second, .val (.long j23), .second, .val (.long j25), .second, .val (.int i27), .unset, .unset, .unset, .unset] [])) := by
  unfold F0_195 at hQ
  rcases hsp with rfl | rfl | rfl | rfl | rfl
  · rw [if_pos rfl] at hQ
    refine own_iconst P at_195 rfl (v := (2 : Int32)) rfl ?_
    refine own_iload P at_196 rfl rfl ?_
    refine own_imul P at_198 rfl ?_
    rw [show ((2 : Int32) * (0 : Int32)) = (0 : Int32) by decide]
    refine own_arrNew P 0 (hw _ (List.mem_of_getElem? (i := 11) rfl)) rfl rfl at_199 rfl (by decide) (by decide) (by decide) (by decide) (by decide) (fun T20 h21 b15 ha16 E17 A18 P19 => ?_)
    have g22 : n0 ≤ b15 := by rw [ha16]; exact Z0
    have f23 : own_Ar Z h21 b15 .int [] := A18
    refine own_astore P19 at_201 rfl rfl (Ls' := #[.val (.int i0), .val (.int i1), .val (.int i2), .val (.int i3), .val (.int i4), .val (.int (0 : Int32)), .val (.int i6), .val (.long j7), .second, .val (.long j9), .second, .val (.long j11), .second, .val (.long j13), .second, .val (.long j15), .second, .val (.long j17), .second, .val (.long j19), .second, .val (.long j21), .second, .val (.long j23), .second, .val (.long j25), .second, .val (.int i27), .val (.ref b15), .unset, .unset, .unset]) rfl ?_
    refine own_iload P19 at_203 rfl rfl ?_
    refine own_iconst P19 at_205 rfl (v := (1 : Int32)) rfl ?_
    refine own_icmpY P19 (pc' := 223) at_206 (by decide : (0 : Int32) < (1 : Int32)) (by decide) (by decide) ?_
    refine own_iload P19 at_223 rfl rfl ?_
    refine own_iconst P19 at_225 rfl (v := (2 : Int32)) rfl ?_
    refine own_icmpY P19 (pc' := 243) at_226 (by decide : (0 : Int32) < (2 : Int32)) (by decide) (by decide) ?_
    refine own_iload P19 at_243 rfl rfl ?_
    refine own_iconst P19 at_245 rfl (v := (3 : Int32)) rfl ?_
    refine own_icmpY P19 (pc' := 263) at_246 (by decide : (0 : Int32) < (3 : Int32)) (by decide) (by decide) ?_
    refine own_iload P19 at_263 rfl rfl ?_
    refine own_iconst P19 at_265 rfl (v := (4 : Int32)) rfl ?_
    refine own_icmpY P19 (pc' := 285) at_266 (by decide : (0 : Int32) < (4 : Int32)) (by decide) (by decide) ?_
    refine own_iload P19 at_285 rfl rfl ?_
    refine own_i2l P19 at_287 rfl ?_
    refine own_lstore P19 at_288 rfl (Ls' := #[.val (.int i0), .val (.int i1), .val (.int i2), .val (.int i3), .val (.int i4), .val (.int (0 : Int32)), .val (.int i6), .val (.long j7), .second, .val (.long j9), .second, .val (.long j11), .second, .val (.long j13), .second, .val (.long j15), .second, .val (.long j17), .second, .val (.long j19), .second, .val (.long j21), .second, .val (.long j23), .second, .val (.long j25), .second, .val (.int i27), .val (.ref b15), .val (.long (i27.toInt64)), .second, .unset]) rfl ?_
    refine own_iload P19 at_290 rfl rfl ?_
    refine own_iconst P19 at_292 rfl (v := (1 : Int32)) rfl ?_
    refine own_icmpY P19 (pc' := 308) at_293 (by decide : (0 : Int32) < (1 : Int32)) (by decide) (by decide) ?_
    refine own_iload P19 at_308 rfl rfl ?_
    refine own_iconst P19 at_310 rfl (v := (2 : Int32)) rfl ?_
    refine own_icmpY P19 (pc' := 326) at_311 (by decide : (0 : Int32) < (2 : Int32)) (by decide) (by decide) ?_
    refine own_iload P19 at_326 rfl rfl ?_
    refine own_iconst P19 at_328 rfl (v := (3 : Int32)) rfl ?_
    refine own_icmpY P19 (pc' := 344) at_329 (by decide : (0 : Int32) < (3 : Int32)) (by decide) (by decide) ?_
    refine own_iload P19 at_344 rfl rfl ?_
    refine own_iconst P19 at_346 rfl (v := (4 : Int32)) rfl ?_
    refine own_icmpY P19 (pc' := 366) at_347 (by decide : (0 : Int32) < (4 : Int32)) (by decide) (by decide) ?_
    refine own_iconst P19 at_366 rfl (v := (0 : Int32)) rfl ?_
    refine own_istore P19 at_367 rfl (Ls' := #[.val (.int i0), .val (.int i1), .val (.int i2), .val (.int i3), .val (.int i4), .val (.int (0 : Int32)), .val (.int i6), .val (.long j7), .second, .val (.long j9), .second, .val (.long j11), .second, .val (.long j13), .second, .val (.long j15), .second, .val (.long j17), .second, .val (.long j19), .second, .val (.long j21), .second, .val (.long j23), .second, .val (.long j25), .second, .val (.int i27), .val (.ref b15), .val (.long (i27.toInt64)), .second, .val (.int (0 : Int32))]) rfl ?_
    refine own_aload P19 at_369 rfl rfl rfl ?_
    refine own_iload P19 at_371 rfl rfl ?_
    refine own_callP P19 (hw _ (List.mem_of_getElem? (i := 12) rfl)) (hw _ (List.mem_of_getElem? (i := 13) rfl)) (hw _ (List.mem_of_getElem? (i := 14) rfl)) (hw _ (List.mem_of_getElem? (i := 15) rfl)) (by decide) (argsL := [(.ref b15), (.int i27)]) (rest := []) (rm3 l Z a0 hw b15 i27 [] 0 h21 f23 ⟨rfl, by decide⟩) at_373 rfl own_pd1 rfl rfl rfl (by decide) 0 rfl (by decide) rfl rfl (by decide) (by decide) (fun T25 P24 => ?_)
    show own_Go p e below _ (T25.setTop (mkF m 376 #[.val (.int i0), .val (.int i1), .val (.int i2), .val (.int i3), .val (.int i4), .val (.int (0 : Int32)), .val (.int i6), .val (.long j7), .second, .val (.long j9), .second, .val (.long j11), .second, .val (.long j13), .second, .val (.long j15), .second, .val (.long j17), .second, .val (.long j19), .second, .val (.long j21), .second, .val (.long j23), .second, .val (.long j25), .second, .val (.int i27), .val (.ref b15), .val (.long (i27.toInt64)), .second, .val (.int (0 : Int32))] [(.int (F3_0 i27 []))]))
    refine own_iload P24 at_376 rfl rfl ?_
    by_cases hc30 : (F3_0 i27 []) = (0 : Int32)
    · rw [if_pos hc30] at hQ
      refine own_icmpN P24 (pc' := 381) at_378 (not_not_intro hc30) rfl ?_
      refine own_iconst P24 at_381 rfl (v := (1 : Int32)) rfl ?_
      refine own_goto P24 (pc' := 386) at_382 (by decide) (by decide) ?_
      exact own_retZ P24 at_386 (z := (1 : Int32)) rfl (by decide) (by decide) (hQ _ _ N)
    · rw [if_neg hc30] at hQ
      refine own_icmpY P24 (pc' := 385) at_378 hc30 (by decide) (by decide) ?_
      refine own_iconst P24 at_385 rfl (v := (0 : Int32)) rfl ?_
      exact own_retZ P24 at_386 (z := (0 : Int32)) rfl (by decide) (by decide) (hQ _ _ N)
  · rw [if_neg (by decide : ¬ ((1 : Int32) = (0 : Int32))), if_pos rfl] at hQ
    refine own_iconst P at_195 rfl (v := (2 : Int32)) rfl ?_
    refine own_iload P at_196 rfl rfl ?_
    refine own_imul P at_198 rfl ?_
    rw [show ((2 : Int32) * (1 : Int32)) = (2 : Int32) by decide]
    refine own_arrNew P 2 (hw _ (List.mem_of_getElem? (i := 11) rfl)) rfl rfl at_199 rfl (by decide) (by decide) (by decide) (by decide) (by decide) (fun T36 h37 b31 ha32 E33 A34 P35 => ?_)
    have g38 : n0 ≤ b31 := by rw [ha32]; exact Z0
    have f39 : own_Ar Z h37 b31 .int [(0 : Int32), (0 : Int32)] := A34
    refine own_astore P35 at_201 rfl rfl (Ls' := #[.val (.int i0), .val (.int i1), .val (.int i2), .val (.int i3), .val (.int i4), .val (.int (1 : Int32)), .val (.int i6), .val (.long j7), .second, .val (.long j9), .second, .val (.long j11), .second, .val (.long j13), .second, .val (.long j15), .second, .val (.long j17), .second, .val (.long j19), .second, .val (.long j21), .second, .val (.long j23), .second, .val (.long j25), .second, .val (.int i27), .val (.ref b31), .unset, .unset, .unset]) rfl ?_
    refine own_iload P35 at_203 rfl rfl ?_
    refine own_iconst P35 at_205 rfl (v := (1 : Int32)) rfl ?_
    refine own_icmpN P35 (pc' := 209) at_206 (by decide : ¬ ((1 : Int32) < (1 : Int32))) rfl ?_
    refine own_aload P35 at_209 rfl rfl rfl ?_
    refine own_iconst P35 at_211 rfl (v := (0 : Int32)) rfl ?_
    refine own_lload P35 at_212 rfl rfl ?_
    refine own_l2i P35 at_214 rfl ?_
    refine own_iastore P35 f39 at_215 rfl (by decide) (Nat.le_of_ble_eq_true rfl) (z := (j9.toInt32)) rfl (fun T41 h42 W43 A44 P40 => ?_)
    have N45 := Fr.snoc P40.st N g38
    have f46 : own_Ar Z h42 b31 .int [(j9.toInt32), (0 : Int32)] := A44
    refine own_aload P40 at_216 rfl rfl rfl ?_
    refine own_iconst P40 at_218 rfl (v := (1 : Int32)) rfl ?_
    refine own_lload P40 at_219 rfl rfl ?_
    refine own_l2i P40 at_221 rfl ?_
    refine own_iastore P40 f46 at_222 rfl (by decide) (Nat.le_of_ble_eq_true rfl) (z := (j11.toInt32)) rfl (fun T48 h49 W50 A51 P47 => ?_)
    have N52 := Fr.snoc P47.st N45 g38
    have f53 : own_Ar Z h49 b31 .int [(j9.toInt32), (j11.toInt32)] := A51
    refine own_iload P47 at_223 rfl rfl ?_
    refine own_iconst P47 at_225 rfl (v := (2 : Int32)) rfl ?_
    refine own_icmpY P47 (pc' := 243) at_226 (by decide : (1 : Int32) < (2 : Int32)) (by decide) (by decide) ?_
    refine own_iload P47 at_243 rfl rfl ?_
    refine own_iconst P47 at_245 rfl (v := (3 : Int32)) rfl ?_
    refine own_icmpY P47 (pc' := 263) at_246 (by decide : (1 : Int32) < (3 : Int32)) (by decide) (by decide) ?_
    refine own_iload P47 at_263 rfl rfl ?_
    refine own_iconst P47 at_265 rfl (v := (4 : Int32)) rfl ?_
    refine own_icmpY P47 (pc' := 285) at_266 (by decide : (1 : Int32) < (4 : Int32)) (by decide) (by decide) ?_
    refine own_iload P47 at_285 rfl rfl ?_
    refine own_i2l P47 at_287 rfl ?_
    refine own_lstore P47 at_288 rfl (Ls' := #[.val (.int i0), .val (.int i1), .val (.int i2), .val (.int i3), .val (.int i4), .val (.int (1 : Int32)), .val (.int i6), .val (.long j7), .second, .val (.long j9), .second, .val (.long j11), .second, .val (.long j13), .second, .val (.long j15), .second, .val (.long j17), .second, .val (.long j19), .second, .val (.long j21), .second, .val (.long j23), .second, .val (.long j25), .second, .val (.int i27), .val (.ref b31), .val (.long (i27.toInt64)), .second, .unset]) rfl ?_
    refine own_iload P47 at_290 rfl rfl ?_
    refine own_iconst P47 at_292 rfl (v := (1 : Int32)) rfl ?_
    refine own_icmpN P47 (pc' := 296) at_293 (by decide : ¬ ((1 : Int32) < (1 : Int32))) rfl ?_
    refine own_lload P47 at_296 rfl rfl ?_
    refine own_lload P47 at_298 rfl rfl ?_
    refine own_lload P47 at_300 rfl rfl ?_
    refine own_callP P47 (hw _ (List.mem_of_getElem? (i := 16) rfl)) (hw _ (List.mem_of_getElem? (i := 17) rfl)) (hw _ (List.mem_of_getElem? (i := 18) rfl)) (hw _ (List.mem_of_getElem? (i := 19) rfl)) (by decide) (argsL := [(.long (i27.toInt64)), (.long j9), (.long j11)]) (rest := []) (rm4 l Z a0 hw (i27.toInt64) j9 j11 h49) at_302 rfl own_pd2 rfl rfl rfl (by decide) 0 rfl (by decide) rfl rfl (by decide) (by decide) (fun T55 P54 => ?_)
    show own_Go p e below _ (T55.setTop (mkF m 305 #[.val (.int i0), .val (.int i1), .val (.int i2), .val (.int i3), .val (.int i4), .val (.int (1 : Int32)), .val (.int i6), .val (.long j7), .second, .val (.long j9), .second, .val (.long j11), .second, .val (.long j13), .second, .val (.long j15), .second, .val (.long j17), .second, .val (.long j19), .second, .val (.long j21), .second, .val (.long j23), .second, .val (.long j25), .second, .val (.int i27), .val (.ref b31), .val (.long (i27.toInt64)), .second, .unset] [(.int (F4_0 (i27.toInt64) j9 j11))]))
    by_cases hc56 : (F4_0 (i27.toInt64) j9 j11) = (0 : Int32)
    · rw [if_pos hc56] at hQ
      refine own_if0N P54 (pc' := 308) at_305 (not_not_intro hc56) rfl ?_
      refine own_iload P54 at_308 rfl rfl ?_
      refine own_iconst P54 at_310 rfl (v := (2 : Int32)) rfl ?_
      refine own_icmpY P54 (pc' := 326) at_311 (by decide : (1 : Int32) < (2 : Int32)) (by decide) (by decide) ?_
      refine own_iload P54 at_326 rfl rfl ?_
      refine own_iconst P54 at_328 rfl (v := (3 : Int32)) rfl ?_
      refine own_icmpY P54 (pc' := 344) at_329 (by decide : (1 : Int32) < (3 : Int32)) (by decide) (by decide) ?_
      refine own_iload P54 at_344 rfl rfl ?_
      refine own_iconst P54 at_346 rfl (v := (4 : Int32)) rfl ?_
      refine own_icmpY P54 (pc' := 366) at_347 (by decide : (1 : Int32) < (4 : Int32)) (by decide) (by decide) ?_
      refine own_iconst P54 at_366 rfl (v := (0 : Int32)) rfl ?_
      refine own_istore P54 at_367 rfl (Ls' := #[.val (.int i0), .val (.int i1), .val (.int i2), .val (.int i3), .val (.int i4), .val (.int (1 : Int32)), .val (.int i6), .val (.long j7), .second, .val (.long j9), .second, .val (.long j11), .second, .val (.long j13), .second, .val (.long j15), .second, .val (.long j17), .second, .val (.long j19), .second, .val (.long j21), .second, .val (.long j23), .second, .val (.long j25), .second, .val (.int i27), .val (.ref b31), .val (.long (i27.toInt64)), .second, .val (.int (0 : Int32))]) rfl ?_
      refine own_aload P54 at_369 rfl rfl rfl ?_
      refine own_iload P54 at_371 rfl rfl ?_
      refine own_callP P54 (hw _ (List.mem_of_getElem? (i := 12) rfl)) (hw _ (List.mem_of_getElem? (i := 13) rfl)) (hw _ (List.mem_of_getElem? (i := 14) rfl)) (hw _ (List.mem_of_getElem? (i := 15) rfl)) (by decide) (argsL := [(.ref b31), (.int i27)]) (rest := []) (rm3 l Z a0 hw b31 i27 [(j9.toInt32), (j11.toInt32)] 1 h49 f53 ⟨rfl, by decide⟩) at_373 rfl own_pd1 rfl rfl rfl (by decide) 0 rfl (by decide) rfl rfl (by decide) (by decide) (fun T58 P57 => ?_)
      show own_Go p e below _ (T58.setTop (mkF m 376 #[.val (.int i0), .val (.int i1), .val (.int i2), .val (.int i3), .val (.int i4), .val (.int (1 : Int32)), .val (.int i6), .val (.long j7), .second, .val (.long j9), .second, .val (.long j11), .second, .val (.long j13), .second, .val (.long j15), .second, .val (.long j17), .second, .val (.long j19), .second, .val (.long j21), .second, .val (.long j23), .second, .val (.long j25), .second, .val (.int i27), .val (.ref b31), .val (.long (i27.toInt64)), .second, .val (.int (0 : Int32))] [(.int (F3_0 i27 [(j9.toInt32), (j11.toInt32)]))]))
      refine own_iload P57 at_376 rfl rfl ?_
      by_cases hc63 : (F3_0 i27 [(j9.toInt32), (j11.toInt32)]) = (0 : Int32)
      · rw [if_pos hc63] at hQ
        refine own_icmpN P57 (pc' := 381) at_378 (not_not_intro hc63) rfl ?_
        refine own_iconst P57 at_381 rfl (v := (1 : Int32)) rfl ?_
        refine own_goto P57 (pc' := 386) at_382 (by decide) (by decide) ?_
        exact own_retZ P57 at_386 (z := (1 : Int32)) rfl (by decide) (by decide) (hQ _ _ N52)
      · rw [if_neg hc63] at hQ
        refine own_icmpY P57 (pc' := 385) at_378 hc63 (by decide) (by decide) ?_
        refine own_iconst P57 at_385 rfl (v := (0 : Int32)) rfl ?_
        exact own_retZ P57 at_386 (z := (0 : Int32)) rfl (by decide) (by decide) (hQ _ _ N52)
    · rw [if_neg hc56] at hQ
      refine own_if0Y P54 (pc' := 362) at_305 hc56 (by decide) (by decide) ?_
      refine own_iconst P54 at_362 rfl (v := (1 : Int32)) rfl ?_
      refine own_goto P54 (pc' := 367) at_363 (by decide) (by decide) ?_
      refine own_istore P54 at_367 rfl (Ls' := #[.val (.int i0), .val (.int i1), .val (.int i2), .val (.int i3), .val (.int i4), .val (.int (1 : Int32)), .val (.int i6), .val (.long j7), .second, .val (.long j9), .second, .val (.long j11), .second, .val (.long j13), .second, .val (.long j15), .second, .val (.long j17), .second, .val (.long j19), .second, .val (.long j21), .second, .val (.long j23), .second, .val (.long j25), .second, .val (.int i27), .val (.ref b31), .val (.long (i27.toInt64)), .second, .val (.int (1 : Int32))]) rfl ?_
      refine own_aload P54 at_369 rfl rfl rfl ?_
      refine own_iload P54 at_371 rfl rfl ?_
      refine own_callP P54 (hw _ (List.mem_of_getElem? (i := 12) rfl)) (hw _ (List.mem_of_getElem? (i := 13) rfl)) (hw _ (List.mem_of_getElem? (i := 14) rfl)) (hw _ (List.mem_of_getElem? (i := 15) rfl)) (by decide) (argsL := [(.ref b31), (.int i27)]) (rest := []) (rm3 l Z a0 hw b31 i27 [(j9.toInt32), (j11.toInt32)] 1 h49 f53 ⟨rfl, by decide⟩) at_373 rfl own_pd1 rfl rfl rfl (by decide) 0 rfl (by decide) rfl rfl (by decide) (by decide) (fun T65 P64 => ?_)
      show own_Go p e below _ (T65.setTop (mkF m 376 #[.val (.int i0), .val (.int i1), .val (.int i2), .val (.int i3), .val (.int i4), .val (.int (1 : Int32)), .val (.int i6), .val (.long j7), .second, .val (.long j9), .second, .val (.long j11), .second, .val (.long j13), .second, .val (.long j15), .second, .val (.long j17), .second, .val (.long j19), .second, .val (.long j21), .second, .val (.long j23), .second, .val (.long j25), .second, .val (.int i27), .val (.ref b31), .val (.long (i27.toInt64)), .second, .val (.int (1 : Int32))] [(.int (F3_0 i27 [(j9.toInt32), (j11.toInt32)]))]))
      refine own_iload P64 at_376 rfl rfl ?_
      by_cases hc70 : (F3_0 i27 [(j9.toInt32), (j11.toInt32)]) = (1 : Int32)
      · rw [if_pos hc70] at hQ
        refine own_icmpN P64 (pc' := 381) at_378 (not_not_intro hc70) rfl ?_
        refine own_iconst P64 at_381 rfl (v := (1 : Int32)) rfl ?_
        refine own_goto P64 (pc' := 386) at_382 (by decide) (by decide) ?_
        exact own_retZ P64 at_386 (z := (1 : Int32)) rfl (by decide) (by decide) (hQ _ _ N52)
      · rw [if_neg hc70] at hQ
        refine own_icmpY P64 (pc' := 385) at_378 hc70 (by decide) (by decide) ?_
        refine own_iconst P64 at_385 rfl (v := (0 : Int32)) rfl ?_
        exact own_retZ P64 at_386 (z := (0 : Int32)) rfl (by decide) (by decide) (hQ _ _ N52)
  · rw [if_neg (by decide : ¬ ((2 : Int32) = (0 : Int32))), if_neg (by decide : ¬ ((2 : Int32) = (1 : Int32))), if_pos rfl] at hQ
    refine own_iconst P at_195 rfl (v := (2 : Int32)) rfl ?_
    refine own_iload P at_196 rfl rfl ?_
    refine own_imul P at_198 rfl ?_
    rw [show ((2 : Int32) * (2 : Int32)) = (4 : Int32) by decide]
    refine own_arrNew P 4 (hw _ (List.mem_of_getElem? (i := 11) rfl)) rfl rfl at_199 rfl (by decide) (by decide) (by decide) (by decide) (by decide) (fun T76 h77 b71 ha72 E73 A74 P75 => ?_)
    have g78 : n0 ≤ b71 := by rw [ha72]; exact Z0
    have f79 : own_Ar Z h77 b71 .int [(0 : Int32), (0 : Int32), (0 : Int32), (0 : Int32)] := A74
    refine own_astore P75 at_201 rfl rfl (Ls' := #[.val (.int i0), .val (.int i1), .val (.int i2), .val (.int i3), .val (.int i4), .val (.int (2 : Int32)), .val (.int i6), .val (.long j7), .second, .val (.long j9), .second, .val (.long j11), .second, .val (.long j13), .second, .val (.long j15), .second, .val (.long j17), .second, .val (.long j19), .second, .val (.long j21), .second, .val (.long j23), .second, .val (.long j25), .second, .val (.int i27), .val (.ref b71), .unset, .unset, .unset]) rfl ?_
    refine own_iload P75 at_203 rfl rfl ?_
    refine own_iconst P75 at_205 rfl (v := (1 : Int32)) rfl ?_
    refine own_icmpN P75 (pc' := 209) at_206 (by decide : ¬ ((2 : Int32) < (1 : Int32))) rfl ?_
    refine own_aload P75 at_209 rfl rfl rfl ?_
    refine own_iconst P75 at_211 rfl (v := (0 : Int32)) rfl ?_
    refine own_lload P75 at_212 rfl rfl ?_
    refine own_l2i P75 at_214 rfl ?_
    refine own_iastore P75 f79 at_215 rfl (by decide) (Nat.le_of_ble_eq_true rfl) (z := (j9.toInt32)) rfl (fun T81 h82 W83 A84 P80 => ?_)
    have N85 := Fr.snoc P80.st N g78
    have f86 : own_Ar Z h82 b71 .int [(j9.toInt32), (0 : Int32), (0 : Int32), (0 : Int32)] := A84
    refine own_aload P80 at_216 rfl rfl rfl ?_
    refine own_iconst P80 at_218 rfl (v := (1 : Int32)) rfl ?_
    refine own_lload P80 at_219 rfl rfl ?_
    refine own_l2i P80 at_221 rfl ?_
    refine own_iastore P80 f86 at_222 rfl (by decide) (Nat.le_of_ble_eq_true rfl) (z := (j11.toInt32)) rfl (fun T88 h89 W90 A91 P87 => ?_)
    have N92 := Fr.snoc P87.st N85 g78
    have f93 : own_Ar Z h89 b71 .int [(j9.toInt32), (j11.toInt32), (0 : Int32), (0 : Int32)] := A91
    refine own_iload P87 at_223 rfl rfl ?_
    refine own_iconst P87 at_225 rfl (v := (2 : Int32)) rfl ?_
    refine own_icmpN P87 (pc' := 229) at_226 (by decide : ¬ ((2 : Int32) < (2 : Int32))) rfl ?_
    refine own_aload P87 at_229 rfl rfl rfl ?_
    refine own_iconst P87 at_231 rfl (v := (2 : Int32)) rfl ?_
    refine own_lload P87 at_232 rfl rfl ?_
    refine own_l2i P87 at_234 rfl ?_
    refine own_iastore P87 f93 at_235 rfl (by decide) (Nat.le_of_ble_eq_true rfl) (z := (j13.toInt32)) rfl (fun T95 h96 W97 A98 P94 => ?_)
    have N99 := Fr.snoc P94.st N92 g78
    have f100 : own_Ar Z h96 b71 .int [(j9.toInt32), (j11.toInt32), (j13.toInt32), (0 : Int32)] := A98
    refine own_aload P94 at_236 rfl rfl rfl ?_
    refine own_iconst P94 at_238 rfl (v := (3 : Int32)) rfl ?_
    refine own_lload P94 at_239 rfl rfl ?_
    refine own_l2i P94 at_241 rfl ?_
    refine own_iastore P94 f100 at_242 rfl (by decide) (Nat.le_of_ble_eq_true rfl) (z := (j15.toInt32)) rfl (fun T102 h103 W104 A105 P101 => ?_)
    have N106 := Fr.snoc P101.st N99 g78
    have f107 : own_Ar Z h103 b71 .int [(j9.toInt32), (j11.toInt32), (j13.toInt32), (j15.toInt32)] := A105
    refine own_iload P101 at_243 rfl rfl ?_
    refine own_iconst P101 at_245 rfl (v := (3 : Int32)) rfl ?_
    refine own_icmpY P101 (pc' := 263) at_246 (by decide : (2 : Int32) < (3 : Int32)) (by decide) (by decide) ?_
    refine own_iload P101 at_263 rfl rfl ?_
    refine own_iconst P101 at_265 rfl (v := (4 : Int32)) rfl ?_
    refine own_icmpY P101 (pc' := 285) at_266 (by decide : (2 : Int32) < (4 : Int32)) (by decide) (by decide) ?_
    refine own_iload P101 at_285 rfl rfl ?_
    refine own_i2l P101 at_287 rfl ?_
    refine own_lstore P101 at_288 rfl (Ls' := #[.val (.int i0), .val (.int i1), .val (.int i2), .val (.int i3), .val (.int i4), .val (.int (2 : Int32)), .val (.int i6), .val (.long j7), .second, .val (.long j9), .second, .val (.long j11), .second, .val (.long j13), .second, .val (.long j15), .second, .val (.long j17), .second, .val (.long j19), .second, .val (.long j21), .second, .val (.long j23), .second, .val (.long j25), .second, .val (.int i27), .val (.ref b71), .val (.long (i27.toInt64)), .second, .unset]) rfl ?_
    refine own_iload P101 at_290 rfl rfl ?_
    refine own_iconst P101 at_292 rfl (v := (1 : Int32)) rfl ?_
    refine own_icmpN P101 (pc' := 296) at_293 (by decide : ¬ ((2 : Int32) < (1 : Int32))) rfl ?_
    refine own_lload P101 at_296 rfl rfl ?_
    refine own_lload P101 at_298 rfl rfl ?_
    refine own_lload P101 at_300 rfl rfl ?_
    refine own_callP P101 (hw _ (List.mem_of_getElem? (i := 16) rfl)) (hw _ (List.mem_of_getElem? (i := 17) rfl)) (hw _ (List.mem_of_getElem? (i := 18) rfl)) (hw _ (List.mem_of_getElem? (i := 19) rfl)) (by decide) (argsL := [(.long (i27.toInt64)), (.long j9), (.long j11)]) (rest := []) (rm4 l Z a0 hw (i27.toInt64) j9 j11 h103) at_302 rfl own_pd2 rfl rfl rfl (by decide) 0 rfl (by decide) rfl rfl (by decide) (by decide) (fun T109 P108 => ?_)
    show own_Go p e below _ (T109.setTop (mkF m 305 #[.val (.int i0), .val (.int i1), .val (.int i2), .val (.int i3), .val (.int i4), .val (.int (2 : Int32)), .val (.int i6), .val (.long j7), .second, .val (.long j9), .second, .val (.long j11), .second, .val (.long j13), .second, .val (.long j15), .second, .val (.long j17), .second, .val (.long j19), .second, .val (.long j21), .second, .val (.long j23), .second, .val (.long j25), .second, .val (.int i27), .val (.ref b71), .val (.long (i27.toInt64)), .second, .unset] [(.int (F4_0 (i27.toInt64) j9 j11))]))
    by_cases hc110 : (F4_0 (i27.toInt64) j9 j11) = (0 : Int32)
    · rw [if_pos hc110] at hQ
      refine own_if0N P108 (pc' := 308) at_305 (not_not_intro hc110) rfl ?_
      refine own_iload P108 at_308 rfl rfl ?_
      refine own_iconst P108 at_310 rfl (v := (2 : Int32)) rfl ?_
      refine own_icmpN P108 (pc' := 314) at_311 (by decide : ¬ ((2 : Int32) < (2 : Int32))) rfl ?_
      refine own_lload P108 at_314 rfl rfl ?_
      refine own_lload P108 at_316 rfl rfl ?_
      refine own_lload P108 at_318 rfl rfl ?_
      refine own_callP P108 (hw _ (List.mem_of_getElem? (i := 16) rfl)) (hw _ (List.mem_of_getElem? (i := 17) rfl)) (hw _ (List.mem_of_getElem? (i := 18) rfl)) (hw _ (List.mem_of_getElem? (i := 19) rfl)) (by decide) (argsL := [(.long (i27.toInt64)), (.long j13), (.long j15)]) (rest := []) (rm4 l Z a0 hw (i27.toInt64) j13 j15 h103) at_320 rfl own_pd2 rfl rfl rfl (by decide) 0 rfl (by decide) rfl rfl (by decide) (by decide) (fun T112 P111 => ?_)
      show own_Go p e below _ (T112.setTop (mkF m 323 #[.val (.int i0), .val (.int i1), .val (.int i2), .val (.int i3), .val (.int i4), .val (.int (2 : Int32)), .val (.int i6), .val (.long j7), .second, .val (.long j9), .second, .val (.long j11), .second, .val (.long j13), .second, .val (.long j15), .second, .val (.long j17), .second, .val (.long j19), .second, .val (.long j21), .second, .val (.long j23), .second, .val (.long j25), .second, .val (.int i27), .val (.ref b71), .val (.long (i27.toInt64)), .second, .unset] [(.int (F4_0 (i27.toInt64) j13 j15))]))
      by_cases hc113 : (F4_0 (i27.toInt64) j13 j15) = (0 : Int32)
      · rw [if_pos hc113] at hQ
        refine own_if0N P111 (pc' := 326) at_323 (not_not_intro hc113) rfl ?_
        refine own_iload P111 at_326 rfl rfl ?_
        refine own_iconst P111 at_328 rfl (v := (3 : Int32)) rfl ?_
        refine own_icmpY P111 (pc' := 344) at_329 (by decide : (2 : Int32) < (3 : Int32)) (by decide) (by decide) ?_
        refine own_iload P111 at_344 rfl rfl ?_
        refine own_iconst P111 at_346 rfl (v := (4 : Int32)) rfl ?_
        refine own_icmpY P111 (pc' := 366) at_347 (by decide : (2 : Int32) < (4 : Int32)) (by decide) (by decide) ?_
        refine own_iconst P111 at_366 rfl (v := (0 : Int32)) rfl ?_
        refine own_istore P111 at_367 rfl (Ls' := #[.val (.int i0), .val (.int i1), .val (.int i2), .val (.int i3), .val (.int i4), .val (.int (2 : Int32)), .val (.int i6), .val (.long j7), .second, .val (.long j9), .second, .val (.long j11), .second, .val (.long j13), .second, .val (.long j15), .second, .val (.long j17), .second, .val (.long j19), .second, .val (.long j21), .second, .val (.long j23), .second, .val (.long j25), .second, .val (.int i27), .val (.ref b71), .val (.long (i27.toInt64)), .second, .val (.int (0 : Int32))]) rfl ?_
        refine own_aload P111 at_369 rfl rfl rfl ?_
        refine own_iload P111 at_371 rfl rfl ?_
        refine own_callP P111 (hw _ (List.mem_of_getElem? (i := 12) rfl)) (hw _ (List.mem_of_getElem? (i := 13) rfl)) (hw _ (List.mem_of_getElem? (i := 14) rfl)) (hw _ (List.mem_of_getElem? (i := 15) rfl)) (by decide) (argsL := [(.ref b71), (.int i27)]) (rest := []) (rm3 l Z a0 hw b71 i27 [(j9.toInt32), (j11.toInt32), (j13.toInt32), (j15.toInt32)] 2 h103 f107 ⟨rfl, by decide⟩) at_373 rfl own_pd1 rfl rfl rfl (by decide) 0 rfl (by decide) rfl rfl (by decide) (by decide) (fun T115 P114 => ?_)
        show own_Go p e below _ (T115.setTop (mkF m 376 #[.val (.int i0), .val (.int i1), .val (.int i2), .val (.int i3), .val (.int i4), .val (.int (2 : Int32)), .val (.int i6), .val (.long j7), .second, .val (.long j9), .second, .val (.long j11), .second, .val (.long j13), .second, .val (.long j15), .second, .val (.long j17), .second, .val (.long j19), .second, .val (.long j21), .second, .val (.long j23), .second, .val (.long j25), .second, .val (.int i27), .val (.ref b71), .val (.long (i27.toInt64)), .second, .val (.int (0 : Int32))] [(.int (F3_0 i27 [(j9.toInt32), (j11.toInt32), (j13.toInt32), (j15.toInt32)]))]))
        refine own_iload P114 at_376 rfl rfl ?_
        by_cases hc120 : (F3_0 i27 [(j9.toInt32), (j11.toInt32), (j13.toInt32), (j15.toInt32)]) = (0 : Int32)
        · rw [if_pos hc120] at hQ
          refine own_icmpN P114 (pc' := 381) at_378 (not_not_intro hc120) rfl ?_
          refine own_iconst P114 at_381 rfl (v := (1 : Int32)) rfl ?_
          refine own_goto P114 (pc' := 386) at_382 (by decide) (by decide) ?_
          exact own_retZ P114 at_386 (z := (1 : Int32)) rfl (by decide) (by decide) (hQ _ _ N106)
        · rw [if_neg hc120] at hQ
          refine own_icmpY P114 (pc' := 385) at_378 hc120 (by decide) (by decide) ?_
          refine own_iconst P114 at_385 rfl (v := (0 : Int32)) rfl ?_
          exact own_retZ P114 at_386 (z := (0 : Int32)) rfl (by decide) (by decide) (hQ _ _ N106)
      · rw [if_neg hc113] at hQ
        refine own_if0Y P111 (pc' := 362) at_323 hc113 (by decide) (by decide) ?_
        refine own_iconst P111 at_362 rfl (v := (1 : Int32)) rfl ?_
        refine own_goto P111 (pc' := 367) at_363 (by decide) (by decide) ?_
        refine own_istore P111 at_367 rfl (Ls' := #[.val (.int i0), .val (.int i1), .val (.int i2), .val (.int i3), .val (.int i4), .val (.int (2 : Int32)), .val (.int i6), .val (.long j7), .second, .val (.long j9), .second, .val (.long j11), .second, .val (.long j13), .second, .val (.long j15), .second, .val (.long j17), .second, .val (.long j19), .second, .val (.long j21), .second, .val (.long j23), .second, .val (.long j25), .second, .val (.int i27), .val (.ref b71), .val (.long (i27.toInt64)), .second, .val (.int (1 : Int32))]) rfl ?_
        refine own_aload P111 at_369 rfl rfl rfl ?_
        refine own_iload P111 at_371 rfl rfl ?_
        refine own_callP P111 (hw _ (List.mem_of_getElem? (i := 12) rfl)) (hw _ (List.mem_of_getElem? (i := 13) rfl)) (hw _ (List.mem_of_getElem? (i := 14) rfl)) (hw _ (List.mem_of_getElem? (i := 15) rfl)) (by decide) (argsL := [(.ref b71), (.int i27)]) (rest := []) (rm3 l Z a0 hw b71 i27 [(j9.toInt32), (j11.toInt32), (j13.toInt32), (j15.toInt32)] 2 h103 f107 ⟨rfl, by decide⟩) at_373 rfl own_pd1 rfl rfl rfl (by decide) 0 rfl (by decide) rfl rfl (by decide) (by decide) (fun T122 P121 => ?_)
        show own_Go p e below _ (T122.setTop (mkF m 376 #[.val (.int i0), .val (.int i1), .val (.int i2), .val (.int i3), .val (.int i4), .val (.int (2 : Int32)), .val (.int i6), .val (.long j7), .second, .val (.long j9), .second, .val (.long j11), .second, .val (.long j13), .second, .val (.long j15), .second, .val (.long j17), .second, .val (.long j19), .second, .val (.long j21), .second, .val (.long j23), .second, .val (.long j25), .second, .val (.int i27), .val (.ref b71), .val (.long (i27.toInt64)), .second, .val (.int (1 : Int32))] [(.int (F3_0 i27 [(j9.toInt32), (j11.toInt32), (j13.toInt32), (j15.toInt32)]))]))
        refine own_iload P121 at_376 rfl rfl ?_
        by_cases hc127 : (F3_0 i27 [(j9.toInt32), (j11.toInt32), (j13.toInt32), (j15.toInt32)]) = (1 : Int32)
        · rw [if_pos hc127] at hQ
          refine own_icmpN P121 (pc' := 381) at_378 (not_not_intro hc127) rfl ?_
          refine own_iconst P121 at_381 rfl (v := (1 : Int32)) rfl ?_
          refine own_goto P121 (pc' := 386) at_382 (by decide) (by decide) ?_
          exact own_retZ P121 at_386 (z := (1 : Int32)) rfl (by decide) (by decide) (hQ _ _ N106)
        · rw [if_neg hc127] at hQ
          refine own_icmpY P121 (pc' := 385) at_378 hc127 (by decide) (by decide) ?_
          refine own_iconst P121 at_385 rfl (v := (0 : Int32)) rfl ?_
          exact own_retZ P121 at_386 (z := (0 : Int32)) rfl (by decide) (by decide) (hQ _ _ N106)
    · rw [if_neg hc110] at hQ
      refine own_if0Y P108 (pc' := 362) at_305 hc110 (by decide) (by decide) ?_
      refine own_iconst P108 at_362 rfl (v := (1 : Int32)) rfl ?_
      refine own_goto P108 (pc' := 367) at_363 (by decide) (by decide) ?_
      refine own_istore P108 at_367 rfl (Ls' := #[.val (.int i0), .val (.int i1), .val (.int i2), .val (.int i3), .val (.int i4), .val (.int (2 : Int32)), .val (.int i6), .val (.long j7), .second, .val (.long j9), .second, .val (.long j11), .second, .val (.long j13), .second, .val (.long j15), .second, .val (.long j17), .second, .val (.long j19), .second, .val (.long j21), .second, .val (.long j23), .second, .val (.long j25), .second, .val (.int i27), .val (.ref b71), .val (.long (i27.toInt64)), .second, .val (.int (1 : Int32))]) rfl ?_
      refine own_aload P108 at_369 rfl rfl rfl ?_
      refine own_iload P108 at_371 rfl rfl ?_
      refine own_callP P108 (hw _ (List.mem_of_getElem? (i := 12) rfl)) (hw _ (List.mem_of_getElem? (i := 13) rfl)) (hw _ (List.mem_of_getElem? (i := 14) rfl)) (hw _ (List.mem_of_getElem? (i := 15) rfl)) (by decide) (argsL := [(.ref b71), (.int i27)]) (rest := []) (rm3 l Z a0 hw b71 i27 [(j9.toInt32), (j11.toInt32), (j13.toInt32), (j15.toInt32)] 2 h103 f107 ⟨rfl, by decide⟩) at_373 rfl own_pd1 rfl rfl rfl (by decide) 0 rfl (by decide) rfl rfl (by decide) (by decide) (fun T129 P128 => ?_)
      show own_Go p e below _ (T129.setTop (mkF m 376 #[.val (.int i0), .val (.int i1), .val (.int i2), .val (.int i3), .val (.int i4), .val (.int (2 : Int32)), .val (.int i6), .val (.long j7), .second, .val (.long j9), .second, .val (.long j11), .second, .val (.long j13), .second, .val (.long j15), .second, .val (.long j17), .second, .val (.long j19), .second, .val (.long j21), .second, .val (.long j23), .second, .val (.long j25), .second, .val (.int i27), .val (.ref b71), .val (.long (i27.toInt64)), .second, .val (.int (1 : Int32))] [(.int (F3_0 i27 [(j9.toInt32), (j11.toInt32), (j13.toInt32), (j15.toInt32)]))]))
      refine own_iload P128 at_376 rfl rfl ?_
      by_cases hc134 : (F3_0 i27 [(j9.toInt32), (j11.toInt32), (j13.toInt32), (j15.toInt32)]) = (1 : Int32)
      · rw [if_pos hc134] at hQ
        refine own_icmpN P128 (pc' := 381) at_378 (not_not_intro hc134) rfl ?_
        refine own_iconst P128 at_381 rfl (v := (1 : Int32)) rfl ?_
        refine own_goto P128 (pc' := 386) at_382 (by decide) (by decide) ?_
        exact own_retZ P128 at_386 (z := (1 : Int32)) rfl (by decide) (by decide) (hQ _ _ N106)
      · rw [if_neg hc134] at hQ
        refine own_icmpY P128 (pc' := 385) at_378 hc134 (by decide) (by decide) ?_
        refine own_iconst P128 at_385 rfl (v := (0 : Int32)) rfl ?_
        exact own_retZ P128 at_386 (z := (0 : Int32)) rfl (by decide) (by decide) (hQ _ _ N106)
  · rw [if_neg (by decide : ¬ ((3 : Int32) = (0 : Int32))), if_neg (by decide : ¬ ((3 : Int32) = (1 : Int32))), if_neg (by decide : ¬ ((3 : Int32) = (2 : Int32))), if_pos rfl] at hQ
    refine own_iconst P at_195 rfl (v := (2 : Int32)) rfl ?_
    refine own_iload P at_196 rfl rfl ?_
    refine own_imul P at_198 rfl ?_
    rw [show ((2 : Int32) * (3 : Int32)) = (6 : Int32) by decide]
    refine own_arrNew P 6 (hw _ (List.mem_of_getElem? (i := 11) rfl)) rfl rfl at_199 rfl (by decide) (by decide) (by decide) (by decide) (by decide) (fun T140 h141 b135 ha136 E137 A138 P139 => ?_)
    have g142 : n0 ≤ b135 := by rw [ha136]; exact Z0
    have f143 : own_Ar Z h141 b135 .int [(0 : Int32), (0 : Int32), (0 : Int32), (0 : Int32), (0 : Int32), (0 : Int32)] := A138
    refine own_astore P139 at_201 rfl rfl (Ls' := #[.val (.int i0), .val (.int i1), .val (.int i2), .val (.int i3), .val (.int i4), .val (.int (3 : Int32)), .val (.int i6), .val (.long j7), .second, .val (.long j9), .second, .val (.long j11), .second, .val (.long j13), .second, .val (.long j15), .second, .val (.long j17), .second, .val (.long j19), .second, .val (.long j21), .second, .val (.long j23), .second, .val (.long j25), .second, .val (.int i27), .val (.ref b135), .unset, .unset, .unset]) rfl ?_
    refine own_iload P139 at_203 rfl rfl ?_
    refine own_iconst P139 at_205 rfl (v := (1 : Int32)) rfl ?_
    refine own_icmpN P139 (pc' := 209) at_206 (by decide : ¬ ((3 : Int32) < (1 : Int32))) rfl ?_
    refine own_aload P139 at_209 rfl rfl rfl ?_
    refine own_iconst P139 at_211 rfl (v := (0 : Int32)) rfl ?_
    refine own_lload P139 at_212 rfl rfl ?_
    refine own_l2i P139 at_214 rfl ?_
    refine own_iastore P139 f143 at_215 rfl (by decide) (Nat.le_of_ble_eq_true rfl) (z := (j9.toInt32)) rfl (fun T145 h146 W147 A148 P144 => ?_)
    have N149 := Fr.snoc P144.st N g142
    have f150 : own_Ar Z h146 b135 .int [(j9.toInt32), (0 : Int32), (0 : Int32), (0 : Int32), (0 : Int32), (0 : Int32)] := A148
    refine own_aload P144 at_216 rfl rfl rfl ?_
    refine own_iconst P144 at_218 rfl (v := (1 : Int32)) rfl ?_
    refine own_lload P144 at_219 rfl rfl ?_
    refine own_l2i P144 at_221 rfl ?_
    refine own_iastore P144 f150 at_222 rfl (by decide) (Nat.le_of_ble_eq_true rfl) (z := (j11.toInt32)) rfl (fun T152 h153 W154 A155 P151 => ?_)
    have N156 := Fr.snoc P151.st N149 g142
    have f157 : own_Ar Z h153 b135 .int [(j9.toInt32), (j11.toInt32), (0 : Int32), (0 : Int32), (0 : Int32), (0 : Int32)] := A155
    refine own_iload P151 at_223 rfl rfl ?_
    refine own_iconst P151 at_225 rfl (v := (2 : Int32)) rfl ?_
    refine own_icmpN P151 (pc' := 229) at_226 (by decide : ¬ ((3 : Int32) < (2 : Int32))) rfl ?_
    refine own_aload P151 at_229 rfl rfl rfl ?_
    refine own_iconst P151 at_231 rfl (v := (2 : Int32)) rfl ?_
    refine own_lload P151 at_232 rfl rfl ?_
    refine own_l2i P151 at_234 rfl ?_
    refine own_iastore P151 f157 at_235 rfl (by decide) (Nat.le_of_ble_eq_true rfl) (z := (j13.toInt32)) rfl (fun T159 h160 W161 A162 P158 => ?_)
    have N163 := Fr.snoc P158.st N156 g142
    have f164 : own_Ar Z h160 b135 .int [(j9.toInt32), (j11.toInt32), (j13.toInt32), (0 : Int32), (0 : Int32), (0 : Int32)] := A162
    refine own_aload P158 at_236 rfl rfl rfl ?_
    refine own_iconst P158 at_238 rfl (v := (3 : Int32)) rfl ?_
    refine own_lload P158 at_239 rfl rfl ?_
    refine own_l2i P158 at_241 rfl ?_
    refine own_iastore P158 f164 at_242 rfl (by decide) (Nat.le_of_ble_eq_true rfl) (z := (j15.toInt32)) rfl (fun T166 h167 W168 A169 P165 => ?_)
    have N170 := Fr.snoc P165.st N163 g142
    have f171 : own_Ar Z h167 b135 .int [(j9.toInt32), (j11.toInt32), (j13.toInt32), (j15.toInt32), (0 : Int32), (0 : Int32)] := A169
    refine own_iload P165 at_243 rfl rfl ?_
    refine own_iconst P165 at_245 rfl (v := (3 : Int32)) rfl ?_
    refine own_icmpN P165 (pc' := 249) at_246 (by decide : ¬ ((3 : Int32) < (3 : Int32))) rfl ?_
    refine own_aload P165 at_249 rfl rfl rfl ?_
    refine own_iconst P165 at_251 rfl (v := (4 : Int32)) rfl ?_
    refine own_lload P165 at_252 rfl rfl ?_
    refine own_l2i P165 at_254 rfl ?_
    refine own_iastore P165 f171 at_255 rfl (by decide) (Nat.le_of_ble_eq_true rfl) (z := (j17.toInt32)) rfl (fun T173 h174 W175 A176 P172 => ?_)
    have N177 := Fr.snoc P172.st N170 g142
    have f178 : own_Ar Z h174 b135 .int [(j9.toInt32), (j11.toInt32), (j13.toInt32), (j15.toInt32), (j17.toInt32), (0 : Int32)] := A176
    refine own_aload P172 at_256 rfl rfl rfl ?_
    refine own_iconst P172 at_258 rfl (v := (5 : Int32)) rfl ?_
    refine own_lload P172 at_259 rfl rfl ?_
    refine own_l2i P172 at_261 rfl ?_
    refine own_iastore P172 f178 at_262 rfl (by decide) (Nat.le_of_ble_eq_true rfl) (z := (j19.toInt32)) rfl (fun T180 h181 W182 A183 P179 => ?_)
    have N184 := Fr.snoc P179.st N177 g142
    have f185 : own_Ar Z h181 b135 .int [(j9.toInt32), (j11.toInt32), (j13.toInt32), (j15.toInt32), (j17.toInt32), (j19.toInt32)] := A183
    refine own_iload P179 at_263 rfl rfl ?_
    refine own_iconst P179 at_265 rfl (v := (4 : Int32)) rfl ?_
    refine own_icmpY P179 (pc' := 285) at_266 (by decide : (3 : Int32) < (4 : Int32)) (by decide) (by decide) ?_
    refine own_iload P179 at_285 rfl rfl ?_
    refine own_i2l P179 at_287 rfl ?_
    refine own_lstore P179 at_288 rfl (Ls' := #[.val (.int i0), .val (.int i1), .val (.int i2), .val (.int i3), .val (.int i4), .val (.int (3 : Int32)), .val (.int i6), .val (.long j7), .second, .val (.long j9), .second, .val (.long j11), .second, .val (.long j13), .second, .val (.long j15), .second, .val (.long j17), .second, .val (.long j19), .second, .val (.long j21), .second, .val (.long j23), .second, .val (.long j25), .second, .val (.int i27), .val (.ref b135), .val (.long (i27.toInt64)), .second, .unset]) rfl ?_
    refine own_iload P179 at_290 rfl rfl ?_
    refine own_iconst P179 at_292 rfl (v := (1 : Int32)) rfl ?_
    refine own_icmpN P179 (pc' := 296) at_293 (by decide : ¬ ((3 : Int32) < (1 : Int32))) rfl ?_
    refine own_lload P179 at_296 rfl rfl ?_
    refine own_lload P179 at_298 rfl rfl ?_
    refine own_lload P179 at_300 rfl rfl ?_
    refine own_callP P179 (hw _ (List.mem_of_getElem? (i := 16) rfl)) (hw _ (List.mem_of_getElem? (i := 17) rfl)) (hw _ (List.mem_of_getElem? (i := 18) rfl)) (hw _ (List.mem_of_getElem? (i := 19) rfl)) (by decide) (argsL := [(.long (i27.toInt64)), (.long j9), (.long j11)]) (rest := []) (rm4 l Z a0 hw (i27.toInt64) j9 j11 h181) at_302 rfl own_pd2 rfl rfl rfl (by decide) 0 rfl (by decide) rfl rfl (by decide) (by decide) (fun T187 P186 => ?_)
    show own_Go p e below _ (T187.setTop (mkF m 305 #[.val (.int i0), .val (.int i1), .val (.int i2), .val (.int i3), .val (.int i4), .val (.int (3 : Int32)), .val (.int i6), .val (.long j7), .second, .val (.long j9), .second, .val (.long j11), .second, .val (.long j13), .second, .val (.long j15), .second, .val (.long j17), .second, .val (.long j19), .second, .val (.long j21), .second, .val (.long j23), .second, .val (.long j25), .second, .val (.int i27), .val (.ref b135), .val (.long (i27.toInt64)), .second, .unset] [(.int (F4_0 (i27.toInt64) j9 j11))]))
    by_cases hc188 : (F4_0 (i27.toInt64) j9 j11) = (0 : Int32)
    · rw [if_pos hc188] at hQ
      refine own_if0N P186 (pc' := 308) at_305 (not_not_intro hc188) rfl ?_
      refine own_iload P186 at_308 rfl rfl ?_
      refine own_iconst P186 at_310 rfl (v := (2 : Int32)) rfl ?_
      refine own_icmpN P186 (pc' := 314) at_311 (by decide : ¬ ((3 : Int32) < (2 : Int32))) rfl ?_
      refine own_lload P186 at_314 rfl rfl ?_
      refine own_lload P186 at_316 rfl rfl ?_
      refine own_lload P186 at_318 rfl rfl ?_
      refine own_callP P186 (hw _ (List.mem_of_getElem? (i := 16) rfl)) (hw _ (List.mem_of_getElem? (i := 17) rfl)) (hw _ (List.mem_of_getElem? (i := 18) rfl)) (hw _ (List.mem_of_getElem? (i := 19) rfl)) (by decide) (argsL := [(.long (i27.toInt64)), (.long j13), (.long j15)]) (rest := []) (rm4 l Z a0 hw (i27.toInt64) j13 j15 h181) at_320 rfl own_pd2 rfl rfl rfl (by decide) 0 rfl (by decide) rfl rfl (by decide) (by decide) (fun T190 P189 => ?_)
      show own_Go p e below _ (T190.setTop (mkF m 323 #[.val (.int i0), .val (.int i1), .val (.int i2), .val (.int i3), .val (.int i4), .val (.int (3 : Int32)), .val (.int i6), .val (.long j7), .second, .val (.long j9), .second, .val (.long j11), .second, .val (.long j13), .second, .val (.long j15), .second, .val (.long j17), .second, .val (.long j19), .second, .val (.long j21), .second, .val (.long j23), .second, .val (.long j25), .second, .val (.int i27), .val (.ref b135), .val (.long (i27.toInt64)), .second, .unset] [(.int (F4_0 (i27.toInt64) j13 j15))]))
      by_cases hc191 : (F4_0 (i27.toInt64) j13 j15) = (0 : Int32)
      · rw [if_pos hc191] at hQ
        refine own_if0N P189 (pc' := 326) at_323 (not_not_intro hc191) rfl ?_
        refine own_iload P189 at_326 rfl rfl ?_
        refine own_iconst P189 at_328 rfl (v := (3 : Int32)) rfl ?_
        refine own_icmpN P189 (pc' := 332) at_329 (by decide : ¬ ((3 : Int32) < (3 : Int32))) rfl ?_
        refine own_lload P189 at_332 rfl rfl ?_
        refine own_lload P189 at_334 rfl rfl ?_
        refine own_lload P189 at_336 rfl rfl ?_
        refine own_callP P189 (hw _ (List.mem_of_getElem? (i := 16) rfl)) (hw _ (List.mem_of_getElem? (i := 17) rfl)) (hw _ (List.mem_of_getElem? (i := 18) rfl)) (hw _ (List.mem_of_getElem? (i := 19) rfl)) (by decide) (argsL := [(.long (i27.toInt64)), (.long j17), (.long j19)]) (rest := []) (rm4 l Z a0 hw (i27.toInt64) j17 j19 h181) at_338 rfl own_pd2 rfl rfl rfl (by decide) 0 rfl (by decide) rfl rfl (by decide) (by decide) (fun T193 P192 => ?_)
        show own_Go p e below _ (T193.setTop (mkF m 341 #[.val (.int i0), .val (.int i1), .val (.int i2), .val (.int i3), .val (.int i4), .val (.int (3 : Int32)), .val (.int i6), .val (.long j7), .second, .val (.long j9), .second, .val (.long j11), .second, .val (.long j13), .second, .val (.long j15), .second, .val (.long j17), .second, .val (.long j19), .second, .val (.long j21), .second, .val (.long j23), .second, .val (.long j25), .second, .val (.int i27), .val (.ref b135), .val (.long (i27.toInt64)), .second, .unset] [(.int (F4_0 (i27.toInt64) j17 j19))]))
        by_cases hc194 : (F4_0 (i27.toInt64) j17 j19) = (0 : Int32)
        · rw [if_pos hc194] at hQ
          refine own_if0N P192 (pc' := 344) at_341 (not_not_intro hc194) rfl ?_
          refine own_iload P192 at_344 rfl rfl ?_
          refine own_iconst P192 at_346 rfl (v := (4 : Int32)) rfl ?_
          refine own_icmpY P192 (pc' := 366) at_347 (by decide : (3 : Int32) < (4 : Int32)) (by decide) (by decide) ?_
          refine own_iconst P192 at_366 rfl (v := (0 : Int32)) rfl ?_
          refine own_istore P192 at_367 rfl (Ls' := #[.val (.int i0), .val (.int i1), .val (.int i2), .val (.int i3), .val (.int i4), .val (.int (3 : Int32)), .val (.int i6), .val (.long j7), .second, .val (.long j9), .second, .val (.long j11), .second, .val (.long j13), .second, .val (.long j15), .second, .val (.long j17), .second, .val (.long j19), .second, .val (.long j21), .second, .val (.long j23), .second, .val (.long j25), .second, .val (.int i27), .val (.ref b135), .val (.long (i27.toInt64)), .second, .val (.int (0 : Int32))]) rfl ?_
          refine own_aload P192 at_369 rfl rfl rfl ?_
          refine own_iload P192 at_371 rfl rfl ?_
          refine own_callP P192 (hw _ (List.mem_of_getElem? (i := 12) rfl)) (hw _ (List.mem_of_getElem? (i := 13) rfl)) (hw _ (List.mem_of_getElem? (i := 14) rfl)) (hw _ (List.mem_of_getElem? (i := 15) rfl)) (by decide) (argsL := [(.ref b135), (.int i27)]) (rest := []) (rm3 l Z a0 hw b135 i27 [(j9.toInt32), (j11.toInt32), (j13.toInt32), (j15.toInt32), (j17.toInt32), (j19.toInt32)] 3 h181 f185 ⟨rfl, by decide⟩) at_373 rfl own_pd1 rfl rfl rfl (by decide) 0 rfl (by decide) rfl rfl (by decide) (by decide) (fun T196 P195 => ?_)
          show own_Go p e below _ (T196.setTop (mkF m 376 #[.val (.int i0), .val (.int i1), .val (.int i2), .val (.int i3), .val (.int i4), .val (.int (3 : Int32)), .val (.int i6), .val (.long j7), .second, .val (.long j9), .second, .val (.long j11), .second, .val (.long j13), .second, .val (.long j15), .second, .val (.long j17), .second, .val (.long j19), .second, .val (.long j21), .second, .val (.long j23), .second, .val (.long j25), .second, .val (.int i27), .val (.ref b135), .val (.long (i27.toInt64)), .second, .val (.int (0 : Int32))] [(.int (F3_0 i27 [(j9.toInt32), (j11.toInt32), (j13.toInt32), (j15.toInt32), (j17.toInt32), (j19.toInt32)]))]))
          refine own_iload P195 at_376 rfl rfl ?_
          by_cases hc201 : (F3_0 i27 [(j9.toInt32), (j11.toInt32), (j13.toInt32), (j15.toInt32), (j17.toInt32), (j19.toInt32)]) = (0 : Int32)
          · rw [if_pos hc201] at hQ
            refine own_icmpN P195 (pc' := 381) at_378 (not_not_intro hc201) rfl ?_
            refine own_iconst P195 at_381 rfl (v := (1 : Int32)) rfl ?_
            refine own_goto P195 (pc' := 386) at_382 (by decide) (by decide) ?_
            exact own_retZ P195 at_386 (z := (1 : Int32)) rfl (by decide) (by decide) (hQ _ _ N184)
          · rw [if_neg hc201] at hQ
            refine own_icmpY P195 (pc' := 385) at_378 hc201 (by decide) (by decide) ?_
            refine own_iconst P195 at_385 rfl (v := (0 : Int32)) rfl ?_
            exact own_retZ P195 at_386 (z := (0 : Int32)) rfl (by decide) (by decide) (hQ _ _ N184)
        · rw [if_neg hc194] at hQ
          refine own_if0Y P192 (pc' := 362) at_341 hc194 (by decide) (by decide) ?_
          refine own_iconst P192 at_362 rfl (v := (1 : Int32)) rfl ?_
          refine own_goto P192 (pc' := 367) at_363 (by decide) (by decide) ?_
          refine own_istore P192 at_367 rfl (Ls' := #[.val (.int i0), .val (.int i1), .val (.int i2), .val (.int i3), .val (.int i4), .val (.int (3 : Int32)), .val (.int i6), .val (.long j7), .second, .val (.long j9), .second, .val (.long j11), .second, .val (.long j13), .second, .val (.long j15), .second, .val (.long j17), .second, .val (.long j19), .second, .val (.long j21), .second, .val (.long j23), .second, .val (.long j25), .second, .val (.int i27), .val (.ref b135), .val (.long (i27.toInt64)), .second, .val (.int (1 : Int32))]) rfl ?_
          refine own_aload P192 at_369 rfl rfl rfl ?_
          refine own_iload P192 at_371 rfl rfl ?_
          refine own_callP P192 (hw _ (List.mem_of_getElem? (i := 12) rfl)) (hw _ (List.mem_of_getElem? (i := 13) rfl)) (hw _ (List.mem_of_getElem? (i := 14) rfl)) (hw _ (List.mem_of_getElem? (i := 15) rfl)) (by decide) (argsL := [(.ref b135), (.int i27)]) (rest := []) (rm3 l Z a0 hw b135 i27 [(j9.toInt32), (j11.toInt32), (j13.toInt32), (j15.toInt32), (j17.toInt32), (j19.toInt32)] 3 h181 f185 ⟨rfl, by decide⟩) at_373 rfl own_pd1 rfl rfl rfl (by decide) 0 rfl (by decide) rfl rfl (by decide) (by decide) (fun T203 P202 => ?_)
          show own_Go p e below _ (T203.setTop (mkF m 376 #[.val (.int i0), .val (.int i1), .val (.int i2), .val (.int i3), .val (.int i4), .val (.int (3 : Int32)), .val (.int i6), .val (.long j7), .second, .val (.long j9), .second, .val (.long j11), .second, .val (.long j13), .second, .val (.long j15), .second, .val (.long j17), .second, .val (.long j19), .second, .val (.long j21), .second, .val (.long j23), .second, .val (.long j25), .second, .val (.int i27), .val (.ref b135), .val (.long (i27.toInt64)), .second, .val (.int (1 : Int32))] [(.int (F3_0 i27 [(j9.toInt32), (j11.toInt32), (j13.toInt32), (j15.toInt32), (j17.toInt32), (j19.toInt32)]))]))
          refine own_iload P202 at_376 rfl rfl ?_
          by_cases hc208 : (F3_0 i27 [(j9.toInt32), (j11.toInt32), (j13.toInt32), (j15.toInt32), (j17.toInt32), (j19.toInt32)]) = (1 : Int32)
          · rw [if_pos hc208] at hQ
            refine own_icmpN P202 (pc' := 381) at_378 (not_not_intro hc208) rfl ?_
            refine own_iconst P202 at_381 rfl (v := (1 : Int32)) rfl ?_
            refine own_goto P202 (pc' := 386) at_382 (by decide) (by decide) ?_
            exact own_retZ P202 at_386 (z := (1 : Int32)) rfl (by decide) (by decide) (hQ _ _ N184)
          · rw [if_neg hc208] at hQ
            refine own_icmpY P202 (pc' := 385) at_378 hc208 (by decide) (by decide) ?_
            refine own_iconst P202 at_385 rfl (v := (0 : Int32)) rfl ?_
            exact own_retZ P202 at_386 (z := (0 : Int32)) rfl (by decide) (by decide) (hQ _ _ N184)
      · rw [if_neg hc191] at hQ
        refine own_if0Y P189 (pc' := 362) at_323 hc191 (by decide) (by decide) ?_
        refine own_iconst P189 at_362 rfl (v := (1 : Int32)) rfl ?_
        refine own_goto P189 (pc' := 367) at_363 (by decide) (by decide) ?_
        refine own_istore P189 at_367 rfl (Ls' := #[.val (.int i0), .val (.int i1), .val (.int i2), .val (.int i3), .val (.int i4), .val (.int (3 : Int32)), .val (.int i6), .val (.long j7), .second, .val (.long j9), .second, .val (.long j11), .second, .val (.long j13), .second, .val (.long j15), .second, .val (.long j17), .second, .val (.long j19), .second, .val (.long j21), .second, .val (.long j23), .second, .val (.long j25), .second, .val (.int i27), .val (.ref b135), .val (.long (i27.toInt64)), .second, .val (.int (1 : Int32))]) rfl ?_
        refine own_aload P189 at_369 rfl rfl rfl ?_
        refine own_iload P189 at_371 rfl rfl ?_
        refine own_callP P189 (hw _ (List.mem_of_getElem? (i := 12) rfl)) (hw _ (List.mem_of_getElem? (i := 13) rfl)) (hw _ (List.mem_of_getElem? (i := 14) rfl)) (hw _ (List.mem_of_getElem? (i := 15) rfl)) (by decide) (argsL := [(.ref b135), (.int i27)]) (rest := []) (rm3 l Z a0 hw b135 i27 [(j9.toInt32), (j11.toInt32), (j13.toInt32), (j15.toInt32), (j17.toInt32), (j19.toInt32)] 3 h181 f185 ⟨rfl, by decide⟩) at_373 rfl own_pd1 rfl rfl rfl (by decide) 0 rfl (by decide) rfl rfl (by decide) (by decide) (fun T210 P209 => ?_)
        show own_Go p e below _ (T210.setTop (mkF m 376 #[.val (.int i0), .val (.int i1), .val (.int i2), .val (.int i3), .val (.int i4), .val (.int (3 : Int32)), .val (.int i6), .val (.long j7), .second, .val (.long j9), .second, .val (.long j11), .second, .val (.long j13), .second, .val (.long j15), .second, .val (.long j17), .second, .val (.long j19), .second, .val (.long j21), .second, .val (.long j23), .second, .val (.long j25), .second, .val (.int i27), .val (.ref b135), .val (.long (i27.toInt64)), .second, .val (.int (1 : Int32))] [(.int (F3_0 i27 [(j9.toInt32), (j11.toInt32), (j13.toInt32), (j15.toInt32), (j17.toInt32), (j19.toInt32)]))]))
        refine own_iload P209 at_376 rfl rfl ?_
        by_cases hc215 : (F3_0 i27 [(j9.toInt32), (j11.toInt32), (j13.toInt32), (j15.toInt32), (j17.toInt32), (j19.toInt32)]) = (1 : Int32)
        · rw [if_pos hc215] at hQ
          refine own_icmpN P209 (pc' := 381) at_378 (not_not_intro hc215) rfl ?_
          refine own_iconst P209 at_381 rfl (v := (1 : Int32)) rfl ?_
          refine own_goto P209 (pc' := 386) at_382 (by decide) (by decide) ?_
          exact own_retZ P209 at_386 (z := (1 : Int32)) rfl (by decide) (by decide) (hQ _ _ N184)
        · rw [if_neg hc215] at hQ
          refine own_icmpY P209 (pc' := 385) at_378 hc215 (by decide) (by decide) ?_
          refine own_iconst P209 at_385 rfl (v := (0 : Int32)) rfl ?_
          exact own_retZ P209 at_386 (z := (0 : Int32)) rfl (by decide) (by decide) (hQ _ _ N184)
    · rw [if_neg hc188] at hQ
      refine own_if0Y P186 (pc' := 362) at_305 hc188 (by decide) (by decide) ?_
      refine own_iconst P186 at_362 rfl (v := (1 : Int32)) rfl ?_
      refine own_goto P186 (pc' := 367) at_363 (by decide) (by decide) ?_
      refine own_istore P186 at_367 rfl (Ls' := #[.val (.int i0), .val (.int i1), .val (.int i2), .val (.int i3), .val (.int i4), .val (.int (3 : Int32)), .val (.int i6), .val (.long j7), .second, .val (.long j9), .second, .val (.long j11), .second, .val (.long j13), .second, .val (.long j15), .second, .val (.long j17), .second, .val (.long j19), .second, .val (.long j21), .second, .val (.long j23), .second, .val (.long j25), .second, .val (.int i27), .val (.ref b135), .val (.long (i27.toInt64)), .second, .val (.int (1 : Int32))]) rfl ?_
      refine own_aload P186 at_369 rfl rfl rfl ?_
      refine own_iload P186 at_371 rfl rfl ?_
      refine own_callP P186 (hw _ (List.mem_of_getElem? (i := 12) rfl)) (hw _ (List.mem_of_getElem? (i := 13) rfl)) (hw _ (List.mem_of_getElem? (i := 14) rfl)) (hw _ (List.mem_of_getElem? (i := 15) rfl)) (by decide) (argsL := [(.ref b135), (.int i27)]) (rest := []) (rm3 l Z a0 hw b135 i27 [(j9.toInt32), (j11.toInt32), (j13.toInt32), (j15.toInt32), (j17.toInt32), (j19.toInt32)] 3 h181 f185 ⟨rfl, by decide⟩) at_373 rfl own_pd1 rfl rfl rfl (by decide) 0 rfl (by decide) rfl rfl (by decide) (by decide) (fun T217 P216 => ?_)
      show own_Go p e below _ (T217.setTop (mkF m 376 #[.val (.int i0), .val (.int i1), .val (.int i2), .val (.int i3), .val (.int i4), .val (.int (3 : Int32)), .val (.int i6), .val (.long j7), .second, .val (.long j9), .second, .val (.long j11), .second, .val (.long j13), .second, .val (.long j15), .second, .val (.long j17), .second, .val (.long j19), .second, .val (.long j21), .second, .val (.long j23), .second, .val (.long j25), .second, .val (.int i27), .val (.ref b135), .val (.long (i27.toInt64)), .second, .val (.int (1 : Int32))] [(.int (F3_0 i27 [(j9.toInt32), (j11.toInt32), (j13.toInt32), (j15.toInt32), (j17.toInt32), (j19.toInt32)]))]))
      refine own_iload P216 at_376 rfl rfl ?_
      by_cases hc222 : (F3_0 i27 [(j9.toInt32), (j11.toInt32), (j13.toInt32), (j15.toInt32), (j17.toInt32), (j19.toInt32)]) = (1 : Int32)
      · rw [if_pos hc222] at hQ
        refine own_icmpN P216 (pc' := 381) at_378 (not_not_intro hc222) rfl ?_
        refine own_iconst P216 at_381 rfl (v := (1 : Int32)) rfl ?_
        refine own_goto P216 (pc' := 386) at_382 (by decide) (by decide) ?_
        exact own_retZ P216 at_386 (z := (1 : Int32)) rfl (by decide) (by decide) (hQ _ _ N184)
      · rw [if_neg hc222] at hQ
        refine own_icmpY P216 (pc' := 385) at_378 hc222 (by decide) (by decide) ?_
        refine own_iconst P216 at_385 rfl (v := (0 : Int32)) rfl ?_
        exact own_retZ P216 at_386 (z := (0 : Int32)) rfl (by decide) (by decide) (hQ _ _ N184)
  · rw [if_neg (by decide : ¬ ((4 : Int32) = (0 : Int32))), if_neg (by decide : ¬ ((4 : Int32) = (1 : Int32))), if_neg (by decide : ¬ ((4 : Int32) = (2 : Int32))), if_neg (by decide : ¬ ((4 : Int32) = (3 : Int32)))] at hQ
    refine own_iconst P at_195 rfl (v := (2 : Int32)) rfl ?_
    refine own_iload P at_196 rfl rfl ?_
    refine own_imul P at_198 rfl ?_
    rw [show ((2 : Int32) * (4 : Int32)) = (8 : Int32) by decide]
    refine own_arrNew P 8 (hw _ (List.mem_of_getElem? (i := 11) rfl)) rfl rfl at_199 rfl (by decide) (by decide) (by decide) (by decide) (by decide) (fun T228 h229 b223 ha224 E225 A226 P227 => ?_)
    have g230 : n0 ≤ b223 := by rw [ha224]; exact Z0
    have f231 : own_Ar Z h229 b223 .int [(0 : Int32), (0 : Int32), (0 : Int32), (0 : Int32), (0 : Int32), (0 : Int32), (0 : Int32), (0 : Int32)] := A226
    refine own_astore P227 at_201 rfl rfl (Ls' := #[.val (.int i0), .val (.int i1), .val (.int i2), .val (.int i3), .val (.int i4), .val (.int (4 : Int32)), .val (.int i6), .val (.long j7), .second, .val (.long j9), .second, .val (.long j11), .second, .val (.long j13), .second, .val (.long j15), .second, .val (.long j17), .second, .val (.long j19), .second, .val (.long j21), .second, .val (.long j23), .second, .val (.long j25), .second, .val (.int i27), .val (.ref b223), .unset, .unset, .unset]) rfl ?_
    refine own_iload P227 at_203 rfl rfl ?_
    refine own_iconst P227 at_205 rfl (v := (1 : Int32)) rfl ?_
    refine own_icmpN P227 (pc' := 209) at_206 (by decide : ¬ ((4 : Int32) < (1 : Int32))) rfl ?_
    refine own_aload P227 at_209 rfl rfl rfl ?_
    refine own_iconst P227 at_211 rfl (v := (0 : Int32)) rfl ?_
    refine own_lload P227 at_212 rfl rfl ?_
    refine own_l2i P227 at_214 rfl ?_
    refine own_iastore P227 f231 at_215 rfl (by decide) (Nat.le_of_ble_eq_true rfl) (z := (j9.toInt32)) rfl (fun T233 h234 W235 A236 P232 => ?_)
    have N237 := Fr.snoc P232.st N g230
    have f238 : own_Ar Z h234 b223 .int [(j9.toInt32), (0 : Int32), (0 : Int32), (0 : Int32), (0 : Int32), (0 : Int32), (0 : Int32), (0 : Int32)] := A236
    refine own_aload P232 at_216 rfl rfl rfl ?_
    refine own_iconst P232 at_218 rfl (v := (1 : Int32)) rfl ?_
    refine own_lload P232 at_219 rfl rfl ?_
    refine own_l2i P232 at_221 rfl ?_
    refine own_iastore P232 f238 at_222 rfl (by decide) (Nat.le_of_ble_eq_true rfl) (z := (j11.toInt32)) rfl (fun T240 h241 W242 A243 P239 => ?_)
    have N244 := Fr.snoc P239.st N237 g230
    have f245 : own_Ar Z h241 b223 .int [(j9.toInt32), (j11.toInt32), (0 : Int32), (0 : Int32), (0 : Int32), (0 : Int32), (0 : Int32), (0 : Int32)] := A243
    refine own_iload P239 at_223 rfl rfl ?_
    refine own_iconst P239 at_225 rfl (v := (2 : Int32)) rfl ?_
    refine own_icmpN P239 (pc' := 229) at_226 (by decide : ¬ ((4 : Int32) < (2 : Int32))) rfl ?_
    refine own_aload P239 at_229 rfl rfl rfl ?_
    refine own_iconst P239 at_231 rfl (v := (2 : Int32)) rfl ?_
    refine own_lload P239 at_232 rfl rfl ?_
    refine own_l2i P239 at_234 rfl ?_
    refine own_iastore P239 f245 at_235 rfl (by decide) (Nat.le_of_ble_eq_true rfl) (z := (j13.toInt32)) rfl (fun T247 h248 W249 A250 P246 => ?_)
    have N251 := Fr.snoc P246.st N244 g230
    have f252 : own_Ar Z h248 b223 .int [(j9.toInt32), (j11.toInt32), (j13.toInt32), (0 : Int32), (0 : Int32), (0 : Int32), (0 : Int32), (0 : Int32)] := A250
    refine own_aload P246 at_236 rfl rfl rfl ?_
    refine own_iconst P246 at_238 rfl (v := (3 : Int32)) rfl ?_
    refine own_lload P246 at_239 rfl rfl ?_
    refine own_l2i P246 at_241 rfl ?_
    refine own_iastore P246 f252 at_242 rfl (by decide) (Nat.le_of_ble_eq_true rfl) (z := (j15.toInt32)) rfl (fun T254 h255 W256 A257 P253 => ?_)
    have N258 := Fr.snoc P253.st N251 g230
    have f259 : own_Ar Z h255 b223 .int [(j9.toInt32), (j11.toInt32), (j13.toInt32), (j15.toInt32), (0 : Int32), (0 : Int32), (0 : Int32), (0 : Int32)] := A257
    refine own_iload P253 at_243 rfl rfl ?_
    refine own_iconst P253 at_245 rfl (v := (3 : Int32)) rfl ?_
    refine own_icmpN P253 (pc' := 249) at_246 (by decide : ¬ ((4 : Int32) < (3 : Int32))) rfl ?_
    refine own_aload P253 at_249 rfl rfl rfl ?_
    refine own_iconst P253 at_251 rfl (v := (4 : Int32)) rfl ?_
    refine own_lload P253 at_252 rfl rfl ?_
    refine own_l2i P253 at_254 rfl ?_
    refine own_iastore P253 f259 at_255 rfl (by decide) (Nat.le_of_ble_eq_true rfl) (z := (j17.toInt32)) rfl (fun T261 h262 W263 A264 P260 => ?_)
    have N265 := Fr.snoc P260.st N258 g230
    have f266 : own_Ar Z h262 b223 .int [(j9.toInt32), (j11.toInt32), (j13.toInt32), (j15.toInt32), (j17.toInt32), (0 : Int32), (0 : Int32), (0 : Int32)] := A264
    refine own_aload P260 at_256 rfl rfl rfl ?_
    refine own_iconst P260 at_258 rfl (v := (5 : Int32)) rfl ?_
    refine own_lload P260 at_259 rfl rfl ?_
    refine own_l2i P260 at_261 rfl ?_
    refine own_iastore P260 f266 at_262 rfl (by decide) (Nat.le_of_ble_eq_true rfl) (z := (j19.toInt32)) rfl (fun T268 h269 W270 A271 P267 => ?_)
    have N272 := Fr.snoc P267.st N265 g230
    have f273 : own_Ar Z h269 b223 .int [(j9.toInt32), (j11.toInt32), (j13.toInt32), (j15.toInt32), (j17.toInt32), (j19.toInt32), (0 : Int32), (0 : Int32)] := A271
    refine own_iload P267 at_263 rfl rfl ?_
    refine own_iconst P267 at_265 rfl (v := (4 : Int32)) rfl ?_
    refine own_icmpN P267 (pc' := 269) at_266 (by decide : ¬ ((4 : Int32) < (4 : Int32))) rfl ?_
    refine own_aload P267 at_269 rfl rfl rfl ?_
    refine own_bipush P267 at_271 rfl (v := (6 : Int32)) rfl ?_
    refine own_lload P267 at_273 rfl rfl ?_
    refine own_l2i P267 at_275 rfl ?_
    refine own_iastore P267 f273 at_276 rfl (by decide) (Nat.le_of_ble_eq_true rfl) (z := (j21.toInt32)) rfl (fun T275 h276 W277 A278 P274 => ?_)
    have N279 := Fr.snoc P274.st N272 g230
    have f280 : own_Ar Z h276 b223 .int [(j9.toInt32), (j11.toInt32), (j13.toInt32), (j15.toInt32), (j17.toInt32), (j19.toInt32), (j21.toInt32), (0 : Int32)] := A278
    refine own_aload P274 at_277 rfl rfl rfl ?_
    refine own_bipush P274 at_279 rfl (v := (7 : Int32)) rfl ?_
    refine own_lload P274 at_281 rfl rfl ?_
    refine own_l2i P274 at_283 rfl ?_
    refine own_iastore P274 f280 at_284 rfl (by decide) (Nat.le_of_ble_eq_true rfl) (z := (j23.toInt32)) rfl (fun T282 h283 W284 A285 P281 => ?_)
    have N286 := Fr.snoc P281.st N279 g230
    have f287 : own_Ar Z h283 b223 .int [(j9.toInt32), (j11.toInt32), (j13.toInt32), (j15.toInt32), (j17.toInt32), (j19.toInt32), (j21.toInt32), (j23.toInt32)] := A285
    refine own_iload P281 at_285 rfl rfl ?_
    refine own_i2l P281 at_287 rfl ?_
    refine own_lstore P281 at_288 rfl (Ls' := #[.val (.int i0), .val (.int i1), .val (.int i2), .val (.int i3), .val (.int i4), .val (.int (4 : Int32)), .val (.int i6), .val (.long j7), .second, .val (.long j9), .second, .val (.long j11), .second, .val (.long j13), .second, .val (.long j15), .second, .val (.long j17), .second, .val (.long j19), .second, .val (.long j21), .second, .val (.long j23), .second, .val (.long j25), .second, .val (.int i27), .val (.ref b223), .val (.long (i27.toInt64)), .second, .unset]) rfl ?_
    refine own_iload P281 at_290 rfl rfl ?_
    refine own_iconst P281 at_292 rfl (v := (1 : Int32)) rfl ?_
    refine own_icmpN P281 (pc' := 296) at_293 (by decide : ¬ ((4 : Int32) < (1 : Int32))) rfl ?_
    refine own_lload P281 at_296 rfl rfl ?_
    refine own_lload P281 at_298 rfl rfl ?_
    refine own_lload P281 at_300 rfl rfl ?_
    refine own_callP P281 (hw _ (List.mem_of_getElem? (i := 16) rfl)) (hw _ (List.mem_of_getElem? (i := 17) rfl)) (hw _ (List.mem_of_getElem? (i := 18) rfl)) (hw _ (List.mem_of_getElem? (i := 19) rfl)) (by decide) (argsL := [(.long (i27.toInt64)), (.long j9), (.long j11)]) (rest := []) (rm4 l Z a0 hw (i27.toInt64) j9 j11 h283) at_302 rfl own_pd2 rfl rfl rfl (by decide) 0 rfl (by decide) rfl rfl (by decide) (by decide) (fun T289 P288 => ?_)
    show own_Go p e below _ (T289.setTop (mkF m 305 #[.val (.int i0), .val (.int i1), .val (.int i2), .val (.int i3), .val (.int i4), .val (.int (4 : Int32)), .val (.int i6), .val (.long j7), .second, .val (.long j9), .second, .val (.long j11), .second, .val (.long j13), .second, .val (.long j15), .second, .val (.long j17), .second, .val (.long j19), .second, .val (.long j21), .second, .val (.long j23), .second, .val (.long j25), .second, .val (.int i27), .val (.ref b223), .val (.long (i27.toInt64)), .second, .unset] [(.int (F4_0 (i27.toInt64) j9 j11))]))
    by_cases hc290 : (F4_0 (i27.toInt64) j9 j11) = (0 : Int32)
    · rw [if_pos hc290] at hQ
      refine own_if0N P288 (pc' := 308) at_305 (not_not_intro hc290) rfl ?_
      refine own_iload P288 at_308 rfl rfl ?_
      refine own_iconst P288 at_310 rfl (v := (2 : Int32)) rfl ?_
      refine own_icmpN P288 (pc' := 314) at_311 (by decide : ¬ ((4 : Int32) < (2 : Int32))) rfl ?_
      refine own_lload P288 at_314 rfl rfl ?_
      refine own_lload P288 at_316 rfl rfl ?_
      refine own_lload P288 at_318 rfl rfl ?_
      refine own_callP P288 (hw _ (List.mem_of_getElem? (i := 16) rfl)) (hw _ (List.mem_of_getElem? (i := 17) rfl)) (hw _ (List.mem_of_getElem? (i := 18) rfl)) (hw _ (List.mem_of_getElem? (i := 19) rfl)) (by decide) (argsL := [(.long (i27.toInt64)), (.long j13), (.long j15)]) (rest := []) (rm4 l Z a0 hw (i27.toInt64) j13 j15 h283) at_320 rfl own_pd2 rfl rfl rfl (by decide) 0 rfl (by decide) rfl rfl (by decide) (by decide) (fun T292 P291 => ?_)
      show own_Go p e below _ (T292.setTop (mkF m 323 #[.val (.int i0), .val (.int i1), .val (.int i2), .val (.int i3), .val (.int i4), .val (.int (4 : Int32)), .val (.int i6), .val (.long j7), .second, .val (.long j9), .second, .val (.long j11), .second, .val (.long j13), .second, .val (.long j15), .second, .val (.long j17), .second, .val (.long j19), .second, .val (.long j21), .second, .val (.long j23), .second, .val (.long j25), .second, .val (.int i27), .val (.ref b223), .val (.long (i27.toInt64)), .second, .unset] [(.int (F4_0 (i27.toInt64) j13 j15))]))
      by_cases hc293 : (F4_0 (i27.toInt64) j13 j15) = (0 : Int32)
      · rw [if_pos hc293] at hQ
        refine own_if0N P291 (pc' := 326) at_323 (not_not_intro hc293) rfl ?_
        refine own_iload P291 at_326 rfl rfl ?_
        refine own_iconst P291 at_328 rfl (v := (3 : Int32)) rfl ?_
        refine own_icmpN P291 (pc' := 332) at_329 (by decide : ¬ ((4 : Int32) < (3 : Int32))) rfl ?_
        refine own_lload P291 at_332 rfl rfl ?_
        refine own_lload P291 at_334 rfl rfl ?_
        refine own_lload P291 at_336 rfl rfl ?_
        refine own_callP P291 (hw _ (List.mem_of_getElem? (i := 16) rfl)) (hw _ (List.mem_of_getElem? (i := 17) rfl)) (hw _ (List.mem_of_getElem? (i := 18) rfl)) (hw _ (List.mem_of_getElem? (i := 19) rfl)) (by decide) (argsL := [(.long (i27.toInt64)), (.long j17), (.long j19)]) (rest := []) (rm4 l Z a0 hw (i27.toInt64) j17 j19 h283) at_338 rfl own_pd2 rfl rfl rfl (by decide) 0 rfl (by decide) rfl rfl (by decide) (by decide) (fun T295 P294 => ?_)
        show own_Go p e below _ (T295.setTop (mkF m 341 #[.val (.int i0), .val (.int i1), .val (.int i2), .val (.int i3), .val (.int i4), .val (.int (4 : Int32)), .val (.int i6), .val (.long j7), .second, .val (.long j9), .second, .val (.long j11), .second, .val (.long j13), .second, .val (.long j15), .second, .val (.long j17), .second, .val (.long j19), .second, .val (.long j21), .second, .val (.long j23), .second, .val (.long j25), .second, .val (.int i27), .val (.ref b223), .val (.long (i27.toInt64)), .second, .unset] [(.int (F4_0 (i27.toInt64) j17 j19))]))
        by_cases hc296 : (F4_0 (i27.toInt64) j17 j19) = (0 : Int32)
        · rw [if_pos hc296] at hQ
          refine own_if0N P294 (pc' := 344) at_341 (not_not_intro hc296) rfl ?_
          refine own_iload P294 at_344 rfl rfl ?_
          refine own_iconst P294 at_346 rfl (v := (4 : Int32)) rfl ?_
          refine own_icmpN P294 (pc' := 350) at_347 (by decide : ¬ ((4 : Int32) < (4 : Int32))) rfl ?_
          refine own_lload P294 at_350 rfl rfl ?_
          refine own_lload P294 at_352 rfl rfl ?_
          refine own_lload P294 at_354 rfl rfl ?_
          refine own_callP P294 (hw _ (List.mem_of_getElem? (i := 16) rfl)) (hw _ (List.mem_of_getElem? (i := 17) rfl)) (hw _ (List.mem_of_getElem? (i := 18) rfl)) (hw _ (List.mem_of_getElem? (i := 19) rfl)) (by decide) (argsL := [(.long (i27.toInt64)), (.long j21), (.long j23)]) (rest := []) (rm4 l Z a0 hw (i27.toInt64) j21 j23 h283) at_356 rfl own_pd2 rfl rfl rfl (by decide) 0 rfl (by decide) rfl rfl (by decide) (by decide) (fun T298 P297 => ?_)
          show own_Go p e below _ (T298.setTop (mkF m 359 #[.val (.int i0), .val (.int i1), .val (.int i2), .val (.int i3), .val (.int i4), .val (.int (4 : Int32)), .val (.int i6), .val (.long j7), .second, .val (.long j9), .second, .val (.long j11), .second, .val (.long j13), .second, .val (.long j15), .second, .val (.long j17), .second, .val (.long j19), .second, .val (.long j21), .second, .val (.long j23), .second, .val (.long j25), .second, .val (.int i27), .val (.ref b223), .val (.long (i27.toInt64)), .second, .unset] [(.int (F4_0 (i27.toInt64) j21 j23))]))
          by_cases hc299 : (F4_0 (i27.toInt64) j21 j23) = (0 : Int32)
          · rw [if_pos hc299] at hQ
            refine own_if0Y P297 (pc' := 366) at_359 hc299 (by decide) (by decide) ?_
            refine own_iconst P297 at_366 rfl (v := (0 : Int32)) rfl ?_
            refine own_istore P297 at_367 rfl (Ls' := #[.val (.int i0), .val (.int i1), .val (.int i2), .val (.int i3), .val (.int i4), .val (.int (4 : Int32)), .val (.int i6), .val (.long j7), .second, .val (.long j9), .second, .val (.long j11), .second, .val (.long j13), .second, .val (.long j15), .second, .val (.long j17), .second, .val (.long j19), .second, .val (.long j21), .second, .val (.long j23), .second, .val (.long j25), .second, .val (.int i27), .val (.ref b223), .val (.long (i27.toInt64)), .second, .val (.int (0 : Int32))]) rfl ?_
            refine own_aload P297 at_369 rfl rfl rfl ?_
            refine own_iload P297 at_371 rfl rfl ?_
            refine own_callP P297 (hw _ (List.mem_of_getElem? (i := 12) rfl)) (hw _ (List.mem_of_getElem? (i := 13) rfl)) (hw _ (List.mem_of_getElem? (i := 14) rfl)) (hw _ (List.mem_of_getElem? (i := 15) rfl)) (by decide) (argsL := [(.ref b223), (.int i27)]) (rest := []) (rm3 l Z a0 hw b223 i27 [(j9.toInt32), (j11.toInt32), (j13.toInt32), (j15.toInt32), (j17.toInt32), (j19.toInt32), (j21.toInt32), (j23.toInt32)] 4 h283 f287 ⟨rfl, by decide⟩) at_373 rfl own_pd1 rfl rfl rfl (by decide) 0 rfl (by decide) rfl rfl (by decide) (by decide) (fun T301 P300 => ?_)
            show own_Go p e below _ (T301.setTop (mkF m 376 #[.val (.int i0), .val (.int i1), .val (.int i2), .val (.int i3), .val (.int i4), .val (.int (4 : Int32)), .val (.int i6), .val (.long j7), .second, .val (.long j9), .second, .val (.long j11), .second, .val (.long j13), .second, .val (.long j15), .second, .val (.long j17), .second, .val (.long j19), .second, .val (.long j21), .second, .val (.long j23), .second, .val (.long j25), .second, .val (.int i27), .val (.ref b223), .val (.long (i27.toInt64)), .second, .val (.int (0 : Int32))] [(.int (F3_0 i27 [(j9.toInt32), (j11.toInt32), (j13.toInt32), (j15.toInt32), (j17.toInt32), (j19.toInt32), (j21.toInt32), (j23.toInt32)]))]))
            refine own_iload P300 at_376 rfl rfl ?_
            by_cases hc306 : (F3_0 i27 [(j9.toInt32), (j11.toInt32), (j13.toInt32), (j15.toInt32), (j17.toInt32), (j19.toInt32), (j21.toInt32), (j23.toInt32)]) = (0 : Int32)
            · rw [if_pos hc306] at hQ
              refine own_icmpN P300 (pc' := 381) at_378 (not_not_intro hc306) rfl ?_
              refine own_iconst P300 at_381 rfl (v := (1 : Int32)) rfl ?_
              refine own_goto P300 (pc' := 386) at_382 (by decide) (by decide) ?_
              exact own_retZ P300 at_386 (z := (1 : Int32)) rfl (by decide) (by decide) (hQ _ _ N286)
            · rw [if_neg hc306] at hQ
              refine own_icmpY P300 (pc' := 385) at_378 hc306 (by decide) (by decide) ?_
              refine own_iconst P300 at_385 rfl (v := (0 : Int32)) rfl ?_
              exact own_retZ P300 at_386 (z := (0 : Int32)) rfl (by decide) (by decide) (hQ _ _ N286)
          · rw [if_neg hc299] at hQ
            refine own_if0N P297 (pc' := 362) at_359 hc299 rfl ?_
            refine own_iconst P297 at_362 rfl (v := (1 : Int32)) rfl ?_
            refine own_goto P297 (pc' := 367) at_363 (by decide) (by decide) ?_
            refine own_istore P297 at_367 rfl (Ls' := #[.val (.int i0), .val (.int i1), .val (.int i2), .val (.int i3), .val (.int i4), .val (.int (4 : Int32)), .val (.int i6), .val (.long j7), .second, .val (.long j9), .second, .val (.long j11), .second, .val (.long j13), .second, .val (.long j15), .second, .val (.long j17), .second, .val (.long j19), .second, .val (.long j21), .second, .val (.long j23), .second, .val (.long j25), .second, .val (.int i27), .val (.ref b223), .val (.long (i27.toInt64)), .second, .val (.int (1 : Int32))]) rfl ?_
            refine own_aload P297 at_369 rfl rfl rfl ?_
            refine own_iload P297 at_371 rfl rfl ?_
            refine own_callP P297 (hw _ (List.mem_of_getElem? (i := 12) rfl)) (hw _ (List.mem_of_getElem? (i := 13) rfl)) (hw _ (List.mem_of_getElem? (i := 14) rfl)) (hw _ (List.mem_of_getElem? (i := 15) rfl)) (by decide) (argsL := [(.ref b223), (.int i27)]) (rest := []) (rm3 l Z a0 hw b223 i27 [(j9.toInt32), (j11.toInt32), (j13.toInt32), (j15.toInt32), (j17.toInt32), (j19.toInt32), (j21.toInt32), (j23.toInt32)] 4 h283 f287 ⟨rfl, by decide⟩) at_373 rfl own_pd1 rfl rfl rfl (by decide) 0 rfl (by decide) rfl rfl (by decide) (by decide) (fun T308 P307 => ?_)
            show own_Go p e below _ (T308.setTop (mkF m 376 #[.val (.int i0), .val (.int i1), .val (.int i2), .val (.int i3), .val (.int i4), .val (.int (4 : Int32)), .val (.int i6), .val (.long j7), .second, .val (.long j9), .second, .val (.long j11), .second, .val (.long j13), .second, .val (.long j15), .second, .val (.long j17), .second, .val (.long j19), .second, .val (.long j21), .second, .val (.long j23), .second, .val (.long j25), .second, .val (.int i27), .val (.ref b223), .val (.long (i27.toInt64)), .second, .val (.int (1 : Int32))] [(.int (F3_0 i27 [(j9.toInt32), (j11.toInt32), (j13.toInt32), (j15.toInt32), (j17.toInt32), (j19.toInt32), (j21.toInt32), (j23.toInt32)]))]))
            refine own_iload P307 at_376 rfl rfl ?_
            by_cases hc313 : (F3_0 i27 [(j9.toInt32), (j11.toInt32), (j13.toInt32), (j15.toInt32), (j17.toInt32), (j19.toInt32), (j21.toInt32), (j23.toInt32)]) = (1 : Int32)
            · rw [if_pos hc313] at hQ
              refine own_icmpN P307 (pc' := 381) at_378 (not_not_intro hc313) rfl ?_
              refine own_iconst P307 at_381 rfl (v := (1 : Int32)) rfl ?_
              refine own_goto P307 (pc' := 386) at_382 (by decide) (by decide) ?_
              exact own_retZ P307 at_386 (z := (1 : Int32)) rfl (by decide) (by decide) (hQ _ _ N286)
            · rw [if_neg hc313] at hQ
              refine own_icmpY P307 (pc' := 385) at_378 hc313 (by decide) (by decide) ?_
              refine own_iconst P307 at_385 rfl (v := (0 : Int32)) rfl ?_
              exact own_retZ P307 at_386 (z := (0 : Int32)) rfl (by decide) (by decide) (hQ _ _ N286)
        · rw [if_neg hc296] at hQ
          refine own_if0Y P294 (pc' := 362) at_341 hc296 (by decide) (by decide) ?_
          refine own_iconst P294 at_362 rfl (v := (1 : Int32)) rfl ?_
          refine own_goto P294 (pc' := 367) at_363 (by decide) (by decide) ?_
          refine own_istore P294 at_367 rfl (Ls' := #[.val (.int i0), .val (.int i1), .val (.int i2), .val (.int i3), .val (.int i4), .val (.int (4 : Int32)), .val (.int i6), .val (.long j7), .second, .val (.long j9), .second, .val (.long j11), .second, .val (.long j13), .second, .val (.long j15), .second, .val (.long j17), .second, .val (.long j19), .second, .val (.long j21), .second, .val (.long j23), .second, .val (.long j25), .second, .val (.int i27), .val (.ref b223), .val (.long (i27.toInt64)), .second, .val (.int (1 : Int32))]) rfl ?_
          refine own_aload P294 at_369 rfl rfl rfl ?_
          refine own_iload P294 at_371 rfl rfl ?_
          refine own_callP P294 (hw _ (List.mem_of_getElem? (i := 12) rfl)) (hw _ (List.mem_of_getElem? (i := 13) rfl)) (hw _ (List.mem_of_getElem? (i := 14) rfl)) (hw _ (List.mem_of_getElem? (i := 15) rfl)) (by decide) (argsL := [(.ref b223), (.int i27)]) (rest := []) (rm3 l Z a0 hw b223 i27 [(j9.toInt32), (j11.toInt32), (j13.toInt32), (j15.toInt32), (j17.toInt32), (j19.toInt32), (j21.toInt32), (j23.toInt32)] 4 h283 f287 ⟨rfl, by decide⟩) at_373 rfl own_pd1 rfl rfl rfl (by decide) 0 rfl (by decide) rfl rfl (by decide) (by decide) (fun T315 P314 => ?_)
          show own_Go p e below _ (T315.setTop (mkF m 376 #[.val (.int i0), .val (.int i1), .val (.int i2), .val (.int i3), .val (.int i4), .val (.int (4 : Int32)), .val (.int i6), .val (.long j7), .second, .val (.long j9), .second, .val (.long j11), .second, .val (.long j13), .second, .val (.long j15), .second, .val (.long j17), .second, .val (.long j19), .second, .val (.long j21), .second, .val (.long j23), .second, .val (.long j25), .second, .val (.int i27), .val (.ref b223), .val (.long (i27.toInt64)), .second, .val (.int (1 : Int32))] [(.int (F3_0 i27 [(j9.toInt32), (j11.toInt32), (j13.toInt32), (j15.toInt32), (j17.toInt32), (j19.toInt32), (j21.toInt32), (j23.toInt32)]))]))
          refine own_iload P314 at_376 rfl rfl ?_
          by_cases hc320 : (F3_0 i27 [(j9.toInt32), (j11.toInt32), (j13.toInt32), (j15.toInt32), (j17.toInt32), (j19.toInt32), (j21.toInt32), (j23.toInt32)]) = (1 : Int32)
          · rw [if_pos hc320] at hQ
            refine own_icmpN P314 (pc' := 381) at_378 (not_not_intro hc320) rfl ?_
            refine own_iconst P314 at_381 rfl (v := (1 : Int32)) rfl ?_
            refine own_goto P314 (pc' := 386) at_382 (by decide) (by decide) ?_
            exact own_retZ P314 at_386 (z := (1 : Int32)) rfl (by decide) (by decide) (hQ _ _ N286)
          · rw [if_neg hc320] at hQ
            refine own_icmpY P314 (pc' := 385) at_378 hc320 (by decide) (by decide) ?_
            refine own_iconst P314 at_385 rfl (v := (0 : Int32)) rfl ?_
            exact own_retZ P314 at_386 (z := (0 : Int32)) rfl (by decide) (by decide) (hQ _ _ N286)
      · rw [if_neg hc293] at hQ
        refine own_if0Y P291 (pc' := 362) at_323 hc293 (by decide) (by decide) ?_
        refine own_iconst P291 at_362 rfl (v := (1 : Int32)) rfl ?_
        refine own_goto P291 (pc' := 367) at_363 (by decide) (by decide) ?_
        refine own_istore P291 at_367 rfl (Ls' := #[.val (.int i0), .val (.int i1), .val (.int i2), .val (.int i3), .val (.int i4), .val (.int (4 : Int32)), .val (.int i6), .val (.long j7), .second, .val (.long j9), .second, .val (.long j11), .second, .val (.long j13), .second, .val (.long j15), .second, .val (.long j17), .second, .val (.long j19), .second, .val (.long j21), .second, .val (.long j23), .second, .val (.long j25), .second, .val (.int i27), .val (.ref b223), .val (.long (i27.toInt64)), .second, .val (.int (1 : Int32))]) rfl ?_
        refine own_aload P291 at_369 rfl rfl rfl ?_
        refine own_iload P291 at_371 rfl rfl ?_
        refine own_callP P291 (hw _ (List.mem_of_getElem? (i := 12) rfl)) (hw _ (List.mem_of_getElem? (i := 13) rfl)) (hw _ (List.mem_of_getElem? (i := 14) rfl)) (hw _ (List.mem_of_getElem? (i := 15) rfl)) (by decide) (argsL := [(.ref b223), (.int i27)]) (rest := []) (rm3 l Z a0 hw b223 i27 [(j9.toInt32), (j11.toInt32), (j13.toInt32), (j15.toInt32), (j17.toInt32), (j19.toInt32), (j21.toInt32), (j23.toInt32)] 4 h283 f287 ⟨rfl, by decide⟩) at_373 rfl own_pd1 rfl rfl rfl (by decide) 0 rfl (by decide) rfl rfl (by decide) (by decide) (fun T322 P321 => ?_)
        show own_Go p e below _ (T322.setTop (mkF m 376 #[.val (.int i0), .val (.int i1), .val (.int i2), .val (.int i3), .val (.int i4), .val (.int (4 : Int32)), .val (.int i6), .val (.long j7), .second, .val (.long j9), .second, .val (.long j11), .second, .val (.long j13), .second, .val (.long j15), .second, .val (.long j17), .second, .val (.long j19), .second, .val (.long j21), .second, .val (.long j23), .second, .val (.long j25), .second, .val (.int i27), .val (.ref b223), .val (.long (i27.toInt64)), .second, .val (.int (1 : Int32))] [(.int (F3_0 i27 [(j9.toInt32), (j11.toInt32), (j13.toInt32), (j15.toInt32), (j17.toInt32), (j19.toInt32), (j21.toInt32), (j23.toInt32)]))]))
        refine own_iload P321 at_376 rfl rfl ?_
        by_cases hc327 : (F3_0 i27 [(j9.toInt32), (j11.toInt32), (j13.toInt32), (j15.toInt32), (j17.toInt32), (j19.toInt32), (j21.toInt32), (j23.toInt32)]) = (1 : Int32)
        · rw [if_pos hc327] at hQ
          refine own_icmpN P321 (pc' := 381) at_378 (not_not_intro hc327) rfl ?_
          refine own_iconst P321 at_381 rfl (v := (1 : Int32)) rfl ?_
          refine own_goto P321 (pc' := 386) at_382 (by decide) (by decide) ?_
          exact own_retZ P321 at_386 (z := (1 : Int32)) rfl (by decide) (by decide) (hQ _ _ N286)
        · rw [if_neg hc327] at hQ
          refine own_icmpY P321 (pc' := 385) at_378 hc327 (by decide) (by decide) ?_
          refine own_iconst P321 at_385 rfl (v := (0 : Int32)) rfl ?_
          exact own_retZ P321 at_386 (z := (0 : Int32)) rfl (by decide) (by decide) (hQ _ _ N286)
    · rw [if_neg hc290] at hQ
      refine own_if0Y P288 (pc' := 362) at_305 hc290 (by decide) (by decide) ?_
      refine own_iconst P288 at_362 rfl (v := (1 : Int32)) rfl ?_
      refine own_goto P288 (pc' := 367) at_363 (by decide) (by decide) ?_
      refine own_istore P288 at_367 rfl (Ls' := #[.val (.int i0), .val (.int i1), .val (.int i2), .val (.int i3), .val (.int i4), .val (.int (4 : Int32)), .val (.int i6), .val (.long j7), .second, .val (.long j9), .second, .val (.long j11), .second, .val (.long j13), .second, .val (.long j15), .second, .val (.long j17), .second, .val (.long j19), .second, .val (.long j21), .second, .val (.long j23), .second, .val (.long j25), .second, .val (.int i27), .val (.ref b223), .val (.long (i27.toInt64)), .second, .val (.int (1 : Int32))]) rfl ?_
      refine own_aload P288 at_369 rfl rfl rfl ?_
      refine own_iload P288 at_371 rfl rfl ?_
      refine own_callP P288 (hw _ (List.mem_of_getElem? (i := 12) rfl)) (hw _ (List.mem_of_getElem? (i := 13) rfl)) (hw _ (List.mem_of_getElem? (i := 14) rfl)) (hw _ (List.mem_of_getElem? (i := 15) rfl)) (by decide) (argsL := [(.ref b223), (.int i27)]) (rest := []) (rm3 l Z a0 hw b223 i27 [(j9.toInt32), (j11.toInt32), (j13.toInt32), (j15.toInt32), (j17.toInt32), (j19.toInt32), (j21.toInt32), (j23.toInt32)] 4 h283 f287 ⟨rfl, by decide⟩) at_373 rfl own_pd1 rfl rfl rfl (by decide) 0 rfl (by decide) rfl rfl (by decide) (by decide) (fun T329 P328 => ?_)
      show own_Go p e below _ (T329.setTop (mkF m 376 #[.val (.int i0), .val (.int i1), .val (.int i2), .val (.int i3), .val (.int i4), .val (.int (4 : Int32)), .val (.int i6), .val (.long j7), .second, .val (.long j9), .second, .val (.long j11), .second, .val (.long j13), .second, .val (.long j15), .second, .val (.long j17), .second, .val (.long j19), .second, .val (.long j21), .second, .val (.long j23), .second, .val (.long j25), .second, .val (.int i27), .val (.ref b223), .val (.long (i27.toInt64)), .second, .val (.int (1 : Int32))] [(.int (F3_0 i27 [(j9.toInt32), (j11.toInt32), (j13.toInt32), (j15.toInt32), (j17.toInt32), (j19.toInt32), (j21.toInt32), (j23.toInt32)]))]))
      refine own_iload P328 at_376 rfl rfl ?_
      by_cases hc334 : (F3_0 i27 [(j9.toInt32), (j11.toInt32), (j13.toInt32), (j15.toInt32), (j17.toInt32), (j19.toInt32), (j21.toInt32), (j23.toInt32)]) = (1 : Int32)
      · rw [if_pos hc334] at hQ
        refine own_icmpN P328 (pc' := 381) at_378 (not_not_intro hc334) rfl ?_
        refine own_iconst P328 at_381 rfl (v := (1 : Int32)) rfl ?_
        refine own_goto P328 (pc' := 386) at_382 (by decide) (by decide) ?_
        exact own_retZ P328 at_386 (z := (1 : Int32)) rfl (by decide) (by decide) (hQ _ _ N286)
      · rw [if_neg hc334] at hQ
        refine own_icmpY P328 (pc' := 385) at_378 hc334 (by decide) (by decide) ?_
        refine own_iconst P328 at_385 rfl (v := (0 : Int32)) rfl ?_
        exact own_retZ P328 at_386 (z := (0 : Int32)) rfl (by decide) (by decide) (hQ _ _ N286)
def F0_172 (i5 : Int32) (j9 : Int64) (j11 : Int64) (j13 : Int64) (j15 : Int64) (j17 : Int64) (j19 : Int64) (j21 : Int64) (j23 : Int64) (sj0 : Int64) : Int32 := (F0_195 i5 j9 j11 j13 j15 j17 j19 j21 j23 ((F2_0 (-2147483648 : Int64) (F1_0 (2147483647 : Int64) sj0)).toInt32))
set_option maxRecDepth 65536 in
set_option maxHeartbeats 40000000 in
theorem b0_172 {p : Program} {l : Launch} {e : Env} {s : State} {m : MethodId} {args : Array Value} {below : List Frame} {meth : Method} {c : Code} {T : State} {h : Heap} {locs : List Loc} {Z : State} {a0 : Array Value} {Q : Option Value → Heap → List Loc → Prop} (hw : ∀ d ∈ tables_1, d.before a0 Z = true) (i0 : Int32) (i1 : Int32) (i2 : Int32) (i3 : Int32) (i4 : Int32) (i5 : Int32) (i6 : Int32) (j7 : Int64) (j9 : Int64) (j11 : Int64) (j13 : Int64) (j15 : Int64) (j17 : Int64) (j19 : Int64) (j21 : Int64) (j23 : Int64) (sj0 : Int64)  (n0 : Nat) (N : Fr n0 locs) (Z0 : n0 ≤ h.size) (hsp : i5 = (0 : Int32) ∨ i5 = (1 : Int32) ∨ i5 = (2 : Int32) ∨ i5 = (3 : Int32) ∨ i5 = (4 : Int32)) (P : own_S Z "com/example/projectum/projectum/reasoning/ReachWithinPinLaw" "law" code 32 (some .boolean) p l e room_1 s m args below meth c T h locs 0 0) (hQ : ∀ h' L', Fr n0 L' → Q (some (.int (F0_172 i5 j9 j11 j13 j15 j17 j19 j21 j23 sj0))) h' L') :
    own_Go p e below (own_K s Q room_1.cells room_1.slots) (T.setTop (mkF m 172 #[.val (.int i0), .val (.int i1), .val (.int i2), .val (.int i3), .val (.int i4), .val (.int i5), .val (.int i6), .val (.long j7), .second, .val (.long j9), .second, .val (.long j11), .second, .val (.long j13), .second, .val (.long j15), .second, .val (.long j17), .second, .val (.long j19), .second, .val (.long j21), .second, .val (.long j23), .second, .unset, .unset, .unset, .unset, .unset, .unset, .unset] [(.long sj0)])) := by
  unfold F0_172 at hQ
  refine own_lstore P at_172 rfl (Ls' := #[.val (.int i0), .val (.int i1), .val (.int i2), .val (.int i3), .val (.int i4), .val (.int i5), .val (.int i6), .val (.long j7), .second, .val (.long j9), .second, .val (.long j11), .second, .val (.long j13), .second, .val (.long j15), .second, .val (.long j17), .second, .val (.long j19), .second, .val (.long j21), .second, .val (.long j23), .second, .val (.long sj0), .second, .unset, .unset, .unset, .unset, .unset]) rfl ?_
  refine own_ldc2 P (v := (-2147483648 : Int64)) (hw _ (List.mem_of_getElem? (i := 2) rfl)) at_174 rfl ?_
  refine own_ldc2 P (v := (2147483647 : Int64)) (hw _ (List.mem_of_getElem? (i := 3) rfl)) at_177 rfl ?_
  refine own_lload P at_180 rfl rfl ?_
  refine own_callP P (hw _ (List.mem_of_getElem? (i := 4) rfl)) (hw _ (List.mem_of_getElem? (i := 5) rfl)) (hw _ (List.mem_of_getElem? (i := 6) rfl)) (hw _ (List.mem_of_getElem? (i := 7) rfl)) (by decide) (argsL := [(.long (2147483647 : Int64)), (.long sj0)]) (rest := [(.long (-2147483648 : Int64))]) (rm1 l Z a0 hw (2147483647 : Int64) sj0 h) at_182 rfl own_pd0 rfl rfl rfl (by decide) 2 rfl (by decide) rfl rfl (by decide) (by decide) (fun T12 P11 => ?_)
  show own_Go p e below _ (T12.setTop (mkF m 185 #[.val (.int i0), .val (.int i1), .val (.int i2), .val (.int i3), .val (.int i4), .val (.int i5), .val (.int i6), .val (.long j7), .second, .val (.long j9), .second, .val (.long j11), .second, .val (.long j13), .second, .val (.long j15), .second, .val (.long j17), .second, .val (.long j19), .second, .val (.long j21), .second, .val (.long j23), .second, .val (.long sj0), .second, .unset, .unset, .unset, .unset, .unset] [(.long (F1_0 (2147483647 : Int64) sj0)), (.long (-2147483648 : Int64))]))
  refine own_callP P11 (hw _ (List.mem_of_getElem? (i := 8) rfl)) (hw _ (List.mem_of_getElem? (i := 9) rfl)) (hw _ (List.mem_of_getElem? (i := 6) rfl)) (hw _ (List.mem_of_getElem? (i := 10) rfl)) (by decide) (argsL := [(.long (-2147483648 : Int64)), (.long (F1_0 (2147483647 : Int64) sj0))]) (rest := []) (rm2 l Z a0 hw (-2147483648 : Int64) (F1_0 (2147483647 : Int64) sj0) h) at_185 rfl own_pd0 rfl rfl rfl (by decide) 0 rfl (by decide) rfl rfl (by decide) (by decide) (fun T14 P13 => ?_)
  show own_Go p e below _ (T14.setTop (mkF m 188 #[.val (.int i0), .val (.int i1), .val (.int i2), .val (.int i3), .val (.int i4), .val (.int i5), .val (.int i6), .val (.long j7), .second, .val (.long j9), .second, .val (.long j11), .second, .val (.long j13), .second, .val (.long j15), .second, .val (.long j17), .second, .val (.long j19), .second, .val (.long j21), .second, .val (.long j23), .second, .val (.long sj0), .second, .unset, .unset, .unset, .unset, .unset] [(.long (F2_0 (-2147483648 : Int64) (F1_0 (2147483647 : Int64) sj0)))]))
  refine own_lstore P13 at_188 rfl (Ls' := #[.val (.int i0), .val (.int i1), .val (.int i2), .val (.int i3), .val (.int i4), .val (.int i5), .val (.int i6), .val (.long j7), .second, .val (.long j9), .second, .val (.long j11), .second, .val (.long j13), .second, .val (.long j15), .second, .val (.long j17), .second, .val (.long j19), .second, .val (.long j21), .second, .val (.long j23), .second, .val (.long (F2_0 (-2147483648 : Int64) (F1_0 (2147483647 : Int64) sj0))), .second, .unset, .unset, .unset, .unset, .unset]) rfl ?_
  refine own_lload P13 at_190 rfl rfl ?_
  refine own_l2i P13 at_192 rfl ?_
  refine own_istore P13 at_193 rfl (Ls' := #[.val (.int i0), .val (.int i1), .val (.int i2), .val (.int i3), .val (.int i4), .val (.int i5), .val (.int i6), .val (.long j7), .second, .val (.long j9), .second, .val (.long j11), .second, .val (.long j13), .second, .val (.long j15), .second, .val (.long j17), .second, .val (.long j19), .second, .val (.long j21), .second, .val (.long j23), .second, .val (.long (F2_0 (-2147483648 : Int64) (F1_0 (2147483647 : Int64) sj0))), .second, .val (.int ((F2_0 (-2147483648 : Int64) (F1_0 (2147483647 : Int64) sj0)).toInt32)), .unset, .unset, .unset, .unset]) rfl ?_
  exact b0_195 hw i0 i1 i2 i3 i4 i5 i6 j7 j9 j11 j13 j15 j17 j19 j21 j23 (F2_0 (-2147483648 : Int64) (F1_0 (2147483647 : Int64) sj0)) ((F2_0 (-2147483648 : Int64) (F1_0 (2147483647 : Int64) sj0)).toInt32)  n0 N Z0    (by first | assumption | decide) P13 hQ
def F0_151 (i4 : Int32) (i5 : Int32) (i6 : Int32) (j9 : Int64) (j11 : Int64) (j13 : Int64) (j15 : Int64) (j17 : Int64) (j19 : Int64) (j21 : Int64) (j23 : Int64) : Int32 := (if i6 = (0 : Int32) then (F0_172 i5 j9 j11 j13 j15 j17 j19 j21 j23 (j9 + ((i4 - i4 / (2000 : Int32) * (2000 : Int32)).toInt64))) else (F0_172 i5 j9 j11 j13 j15 j17 j19 j21 j23 (i4.toInt64)))
set_option maxRecDepth 65536 in
set_option maxHeartbeats 40000000 in
theorem b0_151 {p : Program} {l : Launch} {e : Env} {s : State} {m : MethodId} {args : Array Value} {below : List Frame} {meth : Method} {c : Code} {T : State} {h : Heap} {locs : List Loc} {Z : State} {a0 : Array Value} {Q : Option Value → Heap → List Loc → Prop} (hw : ∀ d ∈ tables_1, d.before a0 Z = true) (i0 : Int32) (i1 : Int32) (i2 : Int32) (i3 : Int32) (i4 : Int32) (i5 : Int32) (i6 : Int32) (j7 : Int64) (j9 : Int64) (j11 : Int64) (j13 : Int64) (j15 : Int64) (j17 : Int64) (j19 : Int64) (j21 : Int64) (j23 : Int64)  (n0 : Nat) (N : Fr n0 locs) (Z0 : n0 ≤ h.size) (hsp : i5 = (0 : Int32) ∨ i5 = (1 : Int32) ∨ i5 = (2 : Int32) ∨ i5 = (3 : Int32) ∨ i5 = (4 : Int32)) (P : own_S Z "com/example/projectum/projectum/reasoning/ReachWithinPinLaw" "law" code 32 (some .boolean) p l e room_1 s m args below meth c T h locs 0 0) (hQ : ∀ h' L', Fr n0 L' → Q (some (.int (F0_151 i4 i5 i6 j9 j11 j13 j15 j17 j19 j21 j23))) h' L') :
    own_Go p e below (own_K s Q room_1.cells room_1.slots) (T.setTop (mkF m 151 #[.val (.int i0), .val (.int i1), .val (.int i2), .val (.int i3), .val (.int i4), .val (.int i5), .val (.int i6), .val (.long j7), .second, .val (.long j9), .second, .val (.long j11), .second, .val (.long j13), .second, .val (.long j15), .second, .val (.long j17), .second, .val (.long j19), .second, .val (.long j21), .second, .val (.long j23), .second, .unset, .unset, .unset, .unset, .unset, .unset, .unset] [])) := by
  unfold F0_151 at hQ
  refine own_iload P at_151 rfl rfl ?_
  by_cases hc10 : i6 = (0 : Int32)
  · rw [if_pos hc10] at hQ
    refine own_if0Y P (pc' := 162) at_153 hc10 (by decide) (by decide) ?_
    refine own_lload P at_162 rfl rfl ?_
    refine own_iload P at_164 rfl rfl ?_
    refine own_sipush P at_166 rfl (v := (2000 : Int32)) rfl ?_
    refine own_irem P at_169 rfl (by decide) ?_
    refine own_i2l P at_170 rfl ?_
    refine own_ladd P at_171 rfl ?_
    exact b0_172 hw i0 i1 i2 i3 i4 i5 i6 j7 j9 j11 j13 j15 j17 j19 j21 j23 (j9 + ((i4 - i4 / (2000 : Int32) * (2000 : Int32)).toInt64))  n0 N Z0    (by first | assumption | decide) P hQ
  · rw [if_neg hc10] at hQ
    refine own_if0N P (pc' := 156) at_153 hc10 rfl ?_
    refine own_iload P at_156 rfl rfl ?_
    refine own_i2l P at_158 rfl ?_
    refine own_goto P (pc' := 172) at_159 (by decide) (by decide) ?_
    exact b0_172 hw i0 i1 i2 i3 i4 i5 i6 j7 j9 j11 j13 j15 j17 j19 j21 j23 (i4.toInt64)  n0 N Z0    (by first | assumption | decide) P hQ
def F0_39 (i2 : Int32) (i3 : Int32) (i4 : Int32) (i5 : Int32) (i6 : Int32) (sj0 : Int64) : Int32 := (F0_151 i4 i5 i6 sj0 ((sj0 + ((i2 &&& (255 : Int32)).toInt64)) + (1 : Int64)) ((((sj0 + ((i2 &&& (255 : Int32)).toInt64)) + (1 : Int64)) + ((i3 &&& (255 : Int32)).toInt64)) + (1 : Int64)) ((((((sj0 + ((i2 &&& (255 : Int32)).toInt64)) + (1 : Int64)) + ((i3 &&& (255 : Int32)).toInt64)) + (1 : Int64)) + ((((i2.toUInt32 >>> ((8 : Int32) &&& 31).toUInt32).toInt32) &&& (255 : Int32)).toInt64)) + (1 : Int64)) ((((((((sj0 + ((i2 &&& (255 : Int32)).toInt64)) + (1 : Int64)) + ((i3 &&& (255 : Int32)).toInt64)) + (1 : Int64)) + ((((i2.toUInt32 >>> ((8 : Int32) &&& 31).toUInt32).toInt32) &&& (255 : Int32)).toInt64)) + (1 : Int64)) + ((((i3.toUInt32 >>> ((8 : Int32) &&& 31).toUInt32).toInt32) &&& (255 : Int32)).toInt64)) + (1 : Int64)) ((((((((((sj0 + ((i2 &&& (255 : Int32)).toInt64)) + (1 : Int64)) + ((i3 &&& (255 : Int32)).toInt64)) + (1 : Int64)) + ((((i2.toUInt32 >>> ((8 : Int32) &&& 31).toUInt32).toInt32) &&& (255 : Int32)).toInt64)) + (1 : Int64)) + ((((i3.toUInt32 >>> ((8 : Int32) &&& 31).toUInt32).toInt32) &&& (255 : Int32)).toInt64)) + (1 : Int64)) + ((((i2.toUInt32 >>> ((16 : Int32) &&& 31).toUInt32).toInt32) &&& (255 : Int32)).toInt64)) + (1 : Int64)) ((((((((((((sj0 + ((i2 &&& (255 : Int32)).toInt64)) + (1 : Int64)) + ((i3 &&& (255 : Int32)).toInt64)) + (1 : Int64)) + ((((i2.toUInt32 >>> ((8 : Int32) &&& 31).toUInt32).toInt32) &&& (255 : Int32)).toInt64)) + (1 : Int64)) + ((((i3.toUInt32 >>> ((8 : Int32) &&& 31).toUInt32).toInt32) &&& (255 : Int32)).toInt64)) + (1 : Int64)) + ((((i2.toUInt32 >>> ((16 : Int32) &&& 31).toUInt32).toInt32) &&& (255 : Int32)).toInt64)) + (1 : Int64)) + ((((i3.toUInt32 >>> ((16 : Int32) &&& 31).toUInt32).toInt32) &&& (255 : Int32)).toInt64)) + (1 : Int64)) ((((((((((((((sj0 + ((i2 &&& (255 : Int32)).toInt64)) + (1 : Int64)) + ((i3 &&& (255 : Int32)).toInt64)) + (1 : Int64)) + ((((i2.toUInt32 >>> ((8 : Int32) &&& 31).toUInt32).toInt32) &&& (255 : Int32)).toInt64)) + (1 : Int64)) + ((((i3.toUInt32 >>> ((8 : Int32) &&& 31).toUInt32).toInt32) &&& (255 : Int32)).toInt64)) + (1 : Int64)) + ((((i2.toUInt32 >>> ((16 : Int32) &&& 31).toUInt32).toInt32) &&& (255 : Int32)).toInt64)) + (1 : Int64)) + ((((i3.toUInt32 >>> ((16 : Int32) &&& 31).toUInt32).toInt32) &&& (255 : Int32)).toInt64)) + (1 : Int64)) + ((((i2.toUInt32 >>> ((24 : Int32) &&& 31).toUInt32).toInt32) &&& (255 : Int32)).toInt64)) + (1 : Int64)))
set_option maxRecDepth 65536 in
set_option maxHeartbeats 40000000 in
theorem b0_39 {p : Program} {l : Launch} {e : Env} {s : State} {m : MethodId} {args : Array Value} {below : List Frame} {meth : Method} {c : Code} {T : State} {h : Heap} {locs : List Loc} {Z : State} {a0 : Array Value} {Q : Option Value → Heap → List Loc → Prop} (hw : ∀ d ∈ tables_1, d.before a0 Z = true) (i0 : Int32) (i1 : Int32) (i2 : Int32) (i3 : Int32) (i4 : Int32) (i5 : Int32) (i6 : Int32) (sj0 : Int64)  (n0 : Nat) (N : Fr n0 locs) (Z0 : n0 ≤ h.size) (hsp : i5 = (0 : Int32) ∨ i5 = (1 : Int32) ∨ i5 = (2 : Int32) ∨ i5 = (3 : Int32) ∨ i5 = (4 : Int32)) (P : own_S Z "com/example/projectum/projectum/reasoning/ReachWithinPinLaw" "law" code 32 (some .boolean) p l e room_1 s m args below meth c T h locs 0 0) (hQ : ∀ h' L', Fr n0 L' → Q (some (.int (F0_39 i2 i3 i4 i5 i6 sj0))) h' L') :
    own_Go p e below (own_K s Q room_1.cells room_1.slots) (T.setTop (mkF m 39 #[.val (.int i0), .val (.int i1), .val (.int i2), .val (.int i3), .val (.int i4), .val (.int i5), .val (.int i6), .unset, .unset, .unset, .unset, .unset, .unset, .unset, .unset, .unset, .unset, .unset, .unset, .unset, .unset, .unset, .unset, .unset, .unset, .unset, .unset, .unset, .unset, .unset, .unset, .unset] [(.long sj0)])) := by
  unfold F0_39 at hQ
  refine own_lstore P at_39 rfl (Ls' := #[.val (.int i0), .val (.int i1), .val (.int i2), .val (.int i3), .val (.int i4), .val (.int i5), .val (.int i6), .val (.long sj0), .second, .unset, .unset, .unset, .unset, .unset, .unset, .unset, .unset, .unset, .unset, .unset, .unset, .unset, .unset, .unset, .unset, .unset, .unset, .unset, .unset, .unset, .unset, .unset]) rfl ?_
  refine own_lload P at_41 rfl rfl ?_
  refine own_lstore P at_43 rfl (Ls' := #[.val (.int i0), .val (.int i1), .val (.int i2), .val (.int i3), .val (.int i4), .val (.int i5), .val (.int i6), .val (.long sj0), .second, .val (.long sj0), .second, .unset, .unset, .unset, .unset, .unset, .unset, .unset, .unset, .unset, .unset, .unset, .unset, .unset, .unset, .unset, .unset, .unset, .unset, .unset, .unset, .unset]) rfl ?_
  refine own_lload P at_45 rfl rfl ?_
  refine own_iloadN P at_47 rfl rfl ?_
  refine own_sipush P at_48 rfl (v := (255 : Int32)) rfl ?_
  refine own_iand P at_51 rfl ?_
  refine own_i2l P at_52 rfl ?_
  refine own_ladd P at_53 rfl ?_
  refine own_lconst P at_54 rfl (v := (1 : Int64)) rfl ?_
  refine own_ladd P at_55 rfl ?_
  refine own_lstore P at_56 rfl (Ls' := #[.val (.int i0), .val (.int i1), .val (.int i2), .val (.int i3), .val (.int i4), .val (.int i5), .val (.int i6), .val (.long sj0), .second, .val (.long sj0), .second, .val (.long ((sj0 + ((i2 &&& (255 : Int32)).toInt64)) + (1 : Int64))), .second, .unset, .unset, .unset, .unset, .unset, .unset, .unset, .unset, .unset, .unset, .unset, .unset, .unset, .unset, .unset, .unset, .unset, .unset, .unset]) rfl ?_
  refine own_lload P at_58 rfl rfl ?_
  refine own_iloadN P at_60 rfl rfl ?_
  refine own_sipush P at_61 rfl (v := (255 : Int32)) rfl ?_
  refine own_iand P at_64 rfl ?_
  refine own_i2l P at_65 rfl ?_
  refine own_ladd P at_66 rfl ?_
  refine own_lconst P at_67 rfl (v := (1 : Int64)) rfl ?_
  refine own_ladd P at_68 rfl ?_
  refine own_lstore P at_69 rfl (Ls' := #[.val (.int i0), .val (.int i1), .val (.int i2), .val (.int i3), .val (.int i4), .val (.int i5), .val (.int i6), .val (.long sj0), .second, .val (.long sj0), .second, .val (.long ((sj0 + ((i2 &&& (255 : Int32)).toInt64)) + (1 : Int64))), .second, .val (.long ((((sj0 + ((i2 &&& (255 : Int32)).toInt64)) + (1 : Int64)) + ((i3 &&& (255 : Int32)).toInt64)) + (1 : Int64))), .second, .unset, .unset, .unset, .unset, .unset, .unset, .unset, .unset, .unset, .unset, .unset, .unset, .unset, .unset, .unset, .unset, .unset]) rfl ?_
  refine own_lload P at_71 rfl rfl ?_
  refine own_iloadN P at_73 rfl rfl ?_
  refine own_bipush P at_74 rfl (v := (8 : Int32)) rfl ?_
  refine own_iushr P at_76 rfl ?_
  refine own_sipush P at_77 rfl (v := (255 : Int32)) rfl ?_
  refine own_iand P at_80 rfl ?_
  refine own_i2l P at_81 rfl ?_
  refine own_ladd P at_82 rfl ?_
  refine own_lconst P at_83 rfl (v := (1 : Int64)) rfl ?_
  refine own_ladd P at_84 rfl ?_
  refine own_lstore P at_85 rfl (Ls' := #[.val (.int i0), .val (.int i1), .val (.int i2), .val (.int i3), .val (.int i4), .val (.int i5), .val (.int i6), .val (.long sj0), .second, .val (.long sj0), .second, .val (.long ((sj0 + ((i2 &&& (255 : Int32)).toInt64)) + (1 : Int64))), .second, .val (.long ((((sj0 + ((i2 &&& (255 : Int32)).toInt64)) + (1 : Int64)) + ((i3 &&& (255 : Int32)).toInt64)) + (1 : Int64))), .second, .val (.long ((((((sj0 + ((i2 &&& (255 : Int32)).toInt64)) + (1 : Int64)) + ((i3 &&& (255 : Int32)).toInt64)) + (1 : Int64)) + ((((i2.toUInt32 >>> ((8 : Int32) &&& 31).toUInt32).toInt32) &&& (255 : Int32)).toInt64)) + (1 : Int64))), .second, .unset, .unset, .unset, .unset, .unset, .unset, .unset, .unset, .unset, .unset, .unset, .unset, .unset, .unset, .unset]) rfl ?_
  refine own_lload P at_87 rfl rfl ?_
  refine own_iloadN P at_89 rfl rfl ?_
  refine own_bipush P at_90 rfl (v := (8 : Int32)) rfl ?_
  refine own_iushr P at_92 rfl ?_
  refine own_sipush P at_93 rfl (v := (255 : Int32)) rfl ?_
  refine own_iand P at_96 rfl ?_
  refine own_i2l P at_97 rfl ?_
  refine own_ladd P at_98 rfl ?_
  refine own_lconst P at_99 rfl (v := (1 : Int64)) rfl ?_
  refine own_ladd P at_100 rfl ?_
  refine own_lstore P at_101 rfl (Ls' := #[.val (.int i0), .val (.int i1), .val (.int i2), .val (.int i3), .val (.int i4), .val (.int i5), .val (.int i6), .val (.long sj0), .second, .val (.long sj0), .second, .val (.long ((sj0 + ((i2 &&& (255 : Int32)).toInt64)) + (1 : Int64))), .second, .val (.long ((((sj0 + ((i2 &&& (255 : Int32)).toInt64)) + (1 : Int64)) + ((i3 &&& (255 : Int32)).toInt64)) + (1 : Int64))), .second, .val (.long ((((((sj0 + ((i2 &&& (255 : Int32)).toInt64)) + (1 : Int64)) + ((i3 &&& (255 : Int32)).toInt64)) + (1 : Int64)) + ((((i2.toUInt32 >>> ((8 : Int32) &&& 31).toUInt32).toInt32) &&& (255 : Int32)).toInt64)) + (1 : Int64))), .second, .val (.long ((((((((sj0 + ((i2 &&& (255 : Int32)).toInt64)) + (1 : Int64)) + ((i3 &&& (255 : Int32)).toInt64)) + (1 : Int64)) + ((((i2.toUInt32 >>> ((8 : Int32) &&& 31).toUInt32).toInt32) &&& (255 : Int32)).toInt64)) + (1 : Int64)) + ((((i3.toUInt32 >>> ((8 : Int32) &&& 31).toUInt32).toInt32) &&& (255 : Int32)).toInt64)) + (1 : Int64))), .second, .unset, .unset, .unset, .unset, .unset, .unset, .unset, .unset, .unset, .unset, .unset, .unset, .unset]) rfl ?_
  refine own_lload P at_103 rfl rfl ?_
  refine own_iloadN P at_105 rfl rfl ?_
  refine own_bipush P at_106 rfl (v := (16 : Int32)) rfl ?_
  refine own_iushr P at_108 rfl ?_
  refine own_sipush P at_109 rfl (v := (255 : Int32)) rfl ?_
  refine own_iand P at_112 rfl ?_
  refine own_i2l P at_113 rfl ?_
  refine own_ladd P at_114 rfl ?_
  refine own_lconst P at_115 rfl (v := (1 : Int64)) rfl ?_
  refine own_ladd P at_116 rfl ?_
  refine own_lstore P at_117 rfl (Ls' := #[.val (.int i0), .val (.int i1), .val (.int i2), .val (.int i3), .val (.int i4), .val (.int i5), .val (.int i6), .val (.long sj0), .second, .val (.long sj0), .second, .val (.long ((sj0 + ((i2 &&& (255 : Int32)).toInt64)) + (1 : Int64))), .second, .val (.long ((((sj0 + ((i2 &&& (255 : Int32)).toInt64)) + (1 : Int64)) + ((i3 &&& (255 : Int32)).toInt64)) + (1 : Int64))), .second, .val (.long ((((((sj0 + ((i2 &&& (255 : Int32)).toInt64)) + (1 : Int64)) + ((i3 &&& (255 : Int32)).toInt64)) + (1 : Int64)) + ((((i2.toUInt32 >>> ((8 : Int32) &&& 31).toUInt32).toInt32) &&& (255 : Int32)).toInt64)) + (1 : Int64))), .second, .val (.long ((((((((sj0 + ((i2 &&& (255 : Int32)).toInt64)) + (1 : Int64)) + ((i3 &&& (255 : Int32)).toInt64)) + (1 : Int64)) + ((((i2.toUInt32 >>> ((8 : Int32) &&& 31).toUInt32).toInt32) &&& (255 : Int32)).toInt64)) + (1 : Int64)) + ((((i3.toUInt32 >>> ((8 : Int32) &&& 31).toUInt32).toInt32) &&& (255 : Int32)).toInt64)) + (1 : Int64))), .second, .val (.long ((((((((((sj0 + ((i2 &&& (255 : Int32)).toInt64)) + (1 : Int64)) + ((i3 &&& (255 : Int32)).toInt64)) + (1 : Int64)) + ((((i2.toUInt32 >>> ((8 : Int32) &&& 31).toUInt32).toInt32) &&& (255 : Int32)).toInt64)) + (1 : Int64)) + ((((i3.toUInt32 >>> ((8 : Int32) &&& 31).toUInt32).toInt32) &&& (255 : Int32)).toInt64)) + (1 : Int64)) + ((((i2.toUInt32 >>> ((16 : Int32) &&& 31).toUInt32).toInt32) &&& (255 : Int32)).toInt64)) + (1 : Int64))), .second, .unset, .unset, .unset, .unset, .unset, .unset, .unset, .unset, .unset, .unset, .unset]) rfl ?_
  refine own_lload P at_119 rfl rfl ?_
  refine own_iloadN P at_121 rfl rfl ?_
  refine own_bipush P at_122 rfl (v := (16 : Int32)) rfl ?_
  refine own_iushr P at_124 rfl ?_
  refine own_sipush P at_125 rfl (v := (255 : Int32)) rfl ?_
  refine own_iand P at_128 rfl ?_
  refine own_i2l P at_129 rfl ?_
  refine own_ladd P at_130 rfl ?_
  refine own_lconst P at_131 rfl (v := (1 : Int64)) rfl ?_
  refine own_ladd P at_132 rfl ?_
  refine own_lstore P at_133 rfl (Ls' := #[.val (.int i0), .val (.int i1), .val (.int i2), .val (.int i3), .val (.int i4), .val (.int i5), .val (.int i6), .val (.long sj0), .second, .val (.long sj0), .second, .val (.long ((sj0 + ((i2 &&& (255 : Int32)).toInt64)) + (1 : Int64))), .second, .val (.long ((((sj0 + ((i2 &&& (255 : Int32)).toInt64)) + (1 : Int64)) + ((i3 &&& (255 : Int32)).toInt64)) + (1 : Int64))), .second, .val (.long ((((((sj0 + ((i2 &&& (255 : Int32)).toInt64)) + (1 : Int64)) + ((i3 &&& (255 : Int32)).toInt64)) + (1 : Int64)) + ((((i2.toUInt32 >>> ((8 : Int32) &&& 31).toUInt32).toInt32) &&& (255 : Int32)).toInt64)) + (1 : Int64))), .second, .val (.long ((((((((sj0 + ((i2 &&& (255 : Int32)).toInt64)) + (1 : Int64)) + ((i3 &&& (255 : Int32)).toInt64)) + (1 : Int64)) + ((((i2.toUInt32 >>> ((8 : Int32) &&& 31).toUInt32).toInt32) &&& (255 : Int32)).toInt64)) + (1 : Int64)) + ((((i3.toUInt32 >>> ((8 : Int32) &&& 31).toUInt32).toInt32) &&& (255 : Int32)).toInt64)) + (1 : Int64))), .second, .val (.long ((((((((((sj0 + ((i2 &&& (255 : Int32)).toInt64)) + (1 : Int64)) + ((i3 &&& (255 : Int32)).toInt64)) + (1 : Int64)) + ((((i2.toUInt32 >>> ((8 : Int32) &&& 31).toUInt32).toInt32) &&& (255 : Int32)).toInt64)) + (1 : Int64)) + ((((i3.toUInt32 >>> ((8 : Int32) &&& 31).toUInt32).toInt32) &&& (255 : Int32)).toInt64)) + (1 : Int64)) + ((((i2.toUInt32 >>> ((16 : Int32) &&& 31).toUInt32).toInt32) &&& (255 : Int32)).toInt64)) + (1 : Int64))), .second, .val (.long ((((((((((((sj0 + ((i2 &&& (255 : Int32)).toInt64)) + (1 : Int64)) + ((i3 &&& (255 : Int32)).toInt64)) + (1 : Int64)) + ((((i2.toUInt32 >>> ((8 : Int32) &&& 31).toUInt32).toInt32) &&& (255 : Int32)).toInt64)) + (1 : Int64)) + ((((i3.toUInt32 >>> ((8 : Int32) &&& 31).toUInt32).toInt32) &&& (255 : Int32)).toInt64)) + (1 : Int64)) + ((((i2.toUInt32 >>> ((16 : Int32) &&& 31).toUInt32).toInt32) &&& (255 : Int32)).toInt64)) + (1 : Int64)) + ((((i3.toUInt32 >>> ((16 : Int32) &&& 31).toUInt32).toInt32) &&& (255 : Int32)).toInt64)) + (1 : Int64))), .second, .unset, .unset, .unset, .unset, .unset, .unset, .unset, .unset, .unset]) rfl ?_
  refine own_lload P at_135 rfl rfl ?_
  refine own_iloadN P at_137 rfl rfl ?_
  refine own_bipush P at_138 rfl (v := (24 : Int32)) rfl ?_
  refine own_iushr P at_140 rfl ?_
  refine own_sipush P at_141 rfl (v := (255 : Int32)) rfl ?_
  refine own_iand P at_144 rfl ?_
  refine own_i2l P at_145 rfl ?_
  refine own_ladd P at_146 rfl ?_
  refine own_lconst P at_147 rfl (v := (1 : Int64)) rfl ?_
  refine own_ladd P at_148 rfl ?_
  refine own_lstore P at_149 rfl (Ls' := #[.val (.int i0), .val (.int i1), .val (.int i2), .val (.int i3), .val (.int i4), .val (.int i5), .val (.int i6), .val (.long sj0), .second, .val (.long sj0), .second, .val (.long ((sj0 + ((i2 &&& (255 : Int32)).toInt64)) + (1 : Int64))), .second, .val (.long ((((sj0 + ((i2 &&& (255 : Int32)).toInt64)) + (1 : Int64)) + ((i3 &&& (255 : Int32)).toInt64)) + (1 : Int64))), .second, .val (.long ((((((sj0 + ((i2 &&& (255 : Int32)).toInt64)) + (1 : Int64)) + ((i3 &&& (255 : Int32)).toInt64)) + (1 : Int64)) + ((((i2.toUInt32 >>> ((8 : Int32) &&& 31).toUInt32).toInt32) &&& (255 : Int32)).toInt64)) + (1 : Int64))), .second, .val (.long ((((((((sj0 + ((i2 &&& (255 : Int32)).toInt64)) + (1 : Int64)) + ((i3 &&& (255 : Int32)).toInt64)) + (1 : Int64)) + ((((i2.toUInt32 >>> ((8 : Int32) &&& 31).toUInt32).toInt32) &&& (255 : Int32)).toInt64)) + (1 : Int64)) + ((((i3.toUInt32 >>> ((8 : Int32) &&& 31).toUInt32).toInt32) &&& (255 : Int32)).toInt64)) + (1 : Int64))), .second, .val (.long ((((((((((sj0 + ((i2 &&& (255 : Int32)).toInt64)) + (1 : Int64)) + ((i3 &&& (255 : Int32)).toInt64)) + (1 : Int64)) + ((((i2.toUInt32 >>> ((8 : Int32) &&& 31).toUInt32).toInt32) &&& (255 : Int32)).toInt64)) + (1 : Int64)) + ((((i3.toUInt32 >>> ((8 : Int32) &&& 31).toUInt32).toInt32) &&& (255 : Int32)).toInt64)) + (1 : Int64)) + ((((i2.toUInt32 >>> ((16 : Int32) &&& 31).toUInt32).toInt32) &&& (255 : Int32)).toInt64)) + (1 : Int64))), .second, .val (.long ((((((((((((sj0 + ((i2 &&& (255 : Int32)).toInt64)) + (1 : Int64)) + ((i3 &&& (255 : Int32)).toInt64)) + (1 : Int64)) + ((((i2.toUInt32 >>> ((8 : Int32) &&& 31).toUInt32).toInt32) &&& (255 : Int32)).toInt64)) + (1 : Int64)) + ((((i3.toUInt32 >>> ((8 : Int32) &&& 31).toUInt32).toInt32) &&& (255 : Int32)).toInt64)) + (1 : Int64)) + ((((i2.toUInt32 >>> ((16 : Int32) &&& 31).toUInt32).toInt32) &&& (255 : Int32)).toInt64)) + (1 : Int64)) + ((((i3.toUInt32 >>> ((16 : Int32) &&& 31).toUInt32).toInt32) &&& (255 : Int32)).toInt64)) + (1 : Int64))), .second, .val (.long ((((((((((((((sj0 + ((i2 &&& (255 : Int32)).toInt64)) + (1 : Int64)) + ((i3 &&& (255 : Int32)).toInt64)) + (1 : Int64)) + ((((i2.toUInt32 >>> ((8 : Int32) &&& 31).toUInt32).toInt32) &&& (255 : Int32)).toInt64)) + (1 : Int64)) + ((((i3.toUInt32 >>> ((8 : Int32) &&& 31).toUInt32).toInt32) &&& (255 : Int32)).toInt64)) + (1 : Int64)) + ((((i2.toUInt32 >>> ((16 : Int32) &&& 31).toUInt32).toInt32) &&& (255 : Int32)).toInt64)) + (1 : Int64)) + ((((i3.toUInt32 >>> ((16 : Int32) &&& 31).toUInt32).toInt32) &&& (255 : Int32)).toInt64)) + (1 : Int64)) + ((((i2.toUInt32 >>> ((24 : Int32) &&& 31).toUInt32).toInt32) &&& (255 : Int32)).toInt64)) + (1 : Int64))), .second, .unset, .unset, .unset, .unset, .unset, .unset, .unset]) rfl ?_
  exact b0_151 hw i0 i1 i2 i3 i4 i5 i6 sj0 sj0 ((sj0 + ((i2 &&& (255 : Int32)).toInt64)) + (1 : Int64)) ((((sj0 + ((i2 &&& (255 : Int32)).toInt64)) + (1 : Int64)) + ((i3 &&& (255 : Int32)).toInt64)) + (1 : Int64)) ((((((sj0 + ((i2 &&& (255 : Int32)).toInt64)) + (1 : Int64)) + ((i3 &&& (255 : Int32)).toInt64)) + (1 : Int64)) + ((((i2.toUInt32 >>> ((8 : Int32) &&& 31).toUInt32).toInt32) &&& (255 : Int32)).toInt64)) + (1 : Int64)) ((((((((sj0 + ((i2 &&& (255 : Int32)).toInt64)) + (1 : Int64)) + ((i3 &&& (255 : Int32)).toInt64)) + (1 : Int64)) + ((((i2.toUInt32 >>> ((8 : Int32) &&& 31).toUInt32).toInt32) &&& (255 : Int32)).toInt64)) + (1 : Int64)) + ((((i3.toUInt32 >>> ((8 : Int32) &&& 31).toUInt32).toInt32) &&& (255 : Int32)).toInt64)) + (1 : Int64)) ((((((((((sj0 + ((i2 &&& (255 : Int32)).toInt64)) + (1 : Int64)) + ((i3 &&& (255 : Int32)).toInt64)) + (1 : Int64)) + ((((i2.toUInt32 >>> ((8 : Int32) &&& 31).toUInt32).toInt32) &&& (255 : Int32)).toInt64)) + (1 : Int64)) + ((((i3.toUInt32 >>> ((8 : Int32) &&& 31).toUInt32).toInt32) &&& (255 : Int32)).toInt64)) + (1 : Int64)) + ((((i2.toUInt32 >>> ((16 : Int32) &&& 31).toUInt32).toInt32) &&& (255 : Int32)).toInt64)) + (1 : Int64)) ((((((((((((sj0 + ((i2 &&& (255 : Int32)).toInt64)) + (1 : Int64)) + ((i3 &&& (255 : Int32)).toInt64)) + (1 : Int64)) + ((((i2.toUInt32 >>> ((8 : Int32) &&& 31).toUInt32).toInt32) &&& (255 : Int32)).toInt64)) + (1 : Int64)) + ((((i3.toUInt32 >>> ((8 : Int32) &&& 31).toUInt32).toInt32) &&& (255 : Int32)).toInt64)) + (1 : Int64)) + ((((i2.toUInt32 >>> ((16 : Int32) &&& 31).toUInt32).toInt32) &&& (255 : Int32)).toInt64)) + (1 : Int64)) + ((((i3.toUInt32 >>> ((16 : Int32) &&& 31).toUInt32).toInt32) &&& (255 : Int32)).toInt64)) + (1 : Int64)) ((((((((((((((sj0 + ((i2 &&& (255 : Int32)).toInt64)) + (1 : Int64)) + ((i3 &&& (255 : Int32)).toInt64)) + (1 : Int64)) + ((((i2.toUInt32 >>> ((8 : Int32) &&& 31).toUInt32).toInt32) &&& (255 : Int32)).toInt64)) + (1 : Int64)) + ((((i3.toUInt32 >>> ((8 : Int32) &&& 31).toUInt32).toInt32) &&& (255 : Int32)).toInt64)) + (1 : Int64)) + ((((i2.toUInt32 >>> ((16 : Int32) &&& 31).toUInt32).toInt32) &&& (255 : Int32)).toInt64)) + (1 : Int64)) + ((((i3.toUInt32 >>> ((16 : Int32) &&& 31).toUInt32).toInt32) &&& (255 : Int32)).toInt64)) + (1 : Int64)) + ((((i2.toUInt32 >>> ((24 : Int32) &&& 31).toUInt32).toInt32) &&& (255 : Int32)).toInt64)) + (1 : Int64))  n0 N Z0    (by first | assumption | decide) P hQ
def F0_22 (i1 : Int32) (i2 : Int32) (i3 : Int32) (i4 : Int32) (i5 : Int32) (si0 : Int32) : Int32 := (if (0 : Int32) < i1 then (F0_39 i2 i3 i4 i5 si0 ((i1.toInt64) - (1792 : Int64))) else (F0_39 i2 i3 i4 i5 si0 (i1.toInt64)))
set_option maxRecDepth 65536 in
set_option maxHeartbeats 40000000 in
theorem b0_22 {p : Program} {l : Launch} {e : Env} {s : State} {m : MethodId} {args : Array Value} {below : List Frame} {meth : Method} {c : Code} {T : State} {h : Heap} {locs : List Loc} {Z : State} {a0 : Array Value} {Q : Option Value → Heap → List Loc → Prop} (hw : ∀ d ∈ tables_1, d.before a0 Z = true) (i0 : Int32) (i1 : Int32) (i2 : Int32) (i3 : Int32) (i4 : Int32) (i5 : Int32) (si0 : Int32)  (n0 : Nat) (N : Fr n0 locs) (Z0 : n0 ≤ h.size) (hsp : i5 = (0 : Int32) ∨ i5 = (1 : Int32) ∨ i5 = (2 : Int32) ∨ i5 = (3 : Int32) ∨ i5 = (4 : Int32)) (P : own_S Z "com/example/projectum/projectum/reasoning/ReachWithinPinLaw" "law" code 32 (some .boolean) p l e room_1 s m args below meth c T h locs 0 0) (hQ : ∀ h' L', Fr n0 L' → Q (some (.int (F0_22 i1 i2 i3 i4 i5 si0))) h' L') :
    own_Go p e below (own_K s Q room_1.cells room_1.slots) (T.setTop (mkF m 22 #[.val (.int i0), .val (.int i1), .val (.int i2), .val (.int i3), .val (.int i4), .val (.int i5), .unset, .unset, .unset, .unset, .unset, .unset, .unset, .unset, .unset, .unset, .unset, .unset, .unset, .unset, .unset, .unset, .unset, .unset, .unset, .unset, .unset, .unset, .unset, .unset, .unset, .unset] [(.int si0)])) := by
  unfold F0_22 at hQ
  refine own_istore P at_22 rfl (Ls' := #[.val (.int i0), .val (.int i1), .val (.int i2), .val (.int i3), .val (.int i4), .val (.int i5), .val (.int si0), .unset, .unset, .unset, .unset, .unset, .unset, .unset, .unset, .unset, .unset, .unset, .unset, .unset, .unset, .unset, .unset, .unset, .unset, .unset, .unset, .unset, .unset, .unset, .unset, .unset]) rfl ?_
  refine own_iloadN P at_24 rfl rfl ?_
  by_cases hc9 : (0 : Int32) < i1
  · rw [if_pos hc9] at hQ
    refine own_if0N P (pc' := 28) at_25 (not_not_intro hc9) rfl ?_
    refine own_iloadN P at_28 rfl rfl ?_
    refine own_i2l P at_29 rfl ?_
    refine own_ldc2 P (v := (1792 : Int64)) (hw _ (List.mem_of_getElem? (i := 1) rfl)) at_30 rfl ?_
    refine own_lsub P at_33 rfl ?_
    refine own_goto P (pc' := 39) at_34 (by decide) (by decide) ?_
    exact b0_39 hw i0 i1 i2 i3 i4 i5 si0 ((i1.toInt64) - (1792 : Int64))  n0 N Z0    (by first | assumption | decide) P hQ
  · rw [if_neg hc9] at hQ
    refine own_if0Y P (pc' := 37) at_25 hc9 (by decide) (by decide) ?_
    refine own_iloadN P at_37 rfl rfl ?_
    refine own_i2l P at_38 rfl ?_
    exact b0_39 hw i0 i1 i2 i3 i4 i5 si0 (i1.toInt64)  n0 N Z0    (by first | assumption | decide) P hQ
def F0_0 (i0 : Int32) (i1 : Int32) (i2 : Int32) (i3 : Int32) (i4 : Int32) : Int32 := (if (((i0.toUInt32 >>> ((8 : Int32) &&& 31).toUInt32).toInt32) &&& (1 : Int32)) = (0 : Int32) then (F0_22 i1 i2 i3 i4 ((i0 &&& (2147483647 : Int32)) - (i0 &&& (2147483647 : Int32)) / (5 : Int32) * (5 : Int32)) (0 : Int32)) else (F0_22 i1 i2 i3 i4 ((i0 &&& (2147483647 : Int32)) - (i0 &&& (2147483647 : Int32)) / (5 : Int32) * (5 : Int32)) (1 : Int32)))
set_option maxRecDepth 65536 in
set_option maxHeartbeats 40000000 in
theorem b0_0 {p : Program} {l : Launch} {e : Env} {s : State} {m : MethodId} {args : Array Value} {below : List Frame} {meth : Method} {c : Code} {T : State} {h : Heap} {locs : List Loc} {Z : State} {a0 : Array Value} {Q : Option Value → Heap → List Loc → Prop} (hw : ∀ d ∈ tables_1, d.before a0 Z = true) (i0 : Int32) (i1 : Int32) (i2 : Int32) (i3 : Int32) (i4 : Int32)  (n0 : Nat) (N : Fr n0 locs) (Z0 : n0 ≤ h.size) (P : own_S Z "com/example/projectum/projectum/reasoning/ReachWithinPinLaw" "law" code 32 (some .boolean) p l e room_1 s m args below meth c T h locs 0 0) (hQ : ∀ h' L', Fr n0 L' → Q (some (.int (F0_0 i0 i1 i2 i3 i4))) h' L') :
    own_Go p e below (own_K s Q room_1.cells room_1.slots) (T.setTop (mkF m 0 #[.val (.int i0), .val (.int i1), .val (.int i2), .val (.int i3), .val (.int i4), .unset, .unset, .unset, .unset, .unset, .unset, .unset, .unset, .unset, .unset, .unset, .unset, .unset, .unset, .unset, .unset, .unset, .unset, .unset, .unset, .unset, .unset, .unset, .unset, .unset, .unset, .unset] [])) := by
  unfold F0_0 at hQ
  refine own_iloadN P at_0 rfl rfl ?_
  refine own_ldc P (v := (2147483647 : Int32)) (hw _ (List.mem_of_getElem? (i := 0) rfl)) at_1 rfl ?_
  refine own_iand P at_3 rfl ?_
  refine own_iconst P at_4 rfl (v := (5 : Int32)) rfl ?_
  refine own_irem P at_5 rfl (by decide) ?_
  refine own_istore P at_6 rfl (Ls' := #[.val (.int i0), .val (.int i1), .val (.int i2), .val (.int i3), .val (.int i4), .val (.int ((i0 &&& (2147483647 : Int32)) - (i0 &&& (2147483647 : Int32)) / (5 : Int32) * (5 : Int32))), .unset, .unset, .unset, .unset, .unset, .unset, .unset, .unset, .unset, .unset, .unset, .unset, .unset, .unset, .unset, .unset, .unset, .unset, .unset, .unset, .unset, .unset, .unset, .unset, .unset, .unset]) rfl ?_
  refine own_iloadN P at_8 rfl rfl ?_
  refine own_bipush P at_9 rfl (v := (8 : Int32)) rfl ?_
  refine own_iushr P at_11 rfl ?_
  refine own_iconst P at_12 rfl (v := (1 : Int32)) rfl ?_
  refine own_iand P at_13 rfl ?_
  by_cases hc8 : (((i0.toUInt32 >>> ((8 : Int32) &&& 31).toUInt32).toInt32) &&& (1 : Int32)) = (0 : Int32)
  · rw [if_pos hc8] at hQ
    refine own_if0Y P (pc' := 21) at_14 hc8 (by decide) (by decide) ?_
    refine own_iconst P at_21 rfl (v := (0 : Int32)) rfl ?_
    exact b0_22 hw i0 i1 i2 i3 i4 ((i0 &&& (2147483647 : Int32)) - (i0 &&& (2147483647 : Int32)) / (5 : Int32) * (5 : Int32)) (0 : Int32)  n0 N Z0    (own_m5 _) P hQ
  · rw [if_neg hc8] at hQ
    refine own_if0N P (pc' := 17) at_14 hc8 rfl ?_
    refine own_iconst P at_17 rfl (v := (1 : Int32)) rfl ?_
    refine own_goto P (pc' := 22) at_18 (by decide) (by decide) ?_
    exact b0_22 hw i0 i1 i2 i3 i4 ((i0 &&& (2147483647 : Int32)) - (i0 &&& (2147483647 : Int32)) / (5 : Int32) * (5 : Int32)) (1 : Int32)  n0 N Z0    (own_m5 _) P hQ
theorem rm0 (l : Launch) (Z : State) (a0 : Array Value) (hw : ∀ d ∈ tables_1, d.before a0 Z = true) (i0 : Int32) (i1 : Int32) (i2 : Int32) (i3 : Int32) (i4 : Int32) (ws : List Jvm.Cond) (h : Heap) :
    own_Con l Z x code maxLocals ret ws room_1 #[(.int i0), (.int i1), (.int i2), (.int i3), (.int i4)] h (fun v _ L => v = some (.int (F0_0 i0 i1 i2 i3 i4)) ∧ Fr h.size L) :=
  own_enter (plainFor_of_name own_pn0) #[.val (.int i0), .val (.int i1), .val (.int i2), .val (.int i3), .val (.int i4), .unset, .unset, .unset, .unset, .unset, .unset, .unset, .unset, .unset, .unset, .unset, .unset, .unset, .unset, .unset, .unset, .unset, .unset, .unset, .unset, .unset, .unset, .unset, .unset, .unset, .unset, .unset] (fun m => by first | (simp [entryFrame, mkF, argsToLocals, Value.category, maxLocals]; done) | rfl) (fun p e s m below meth c T P => b0_0 hw i0 i1 i2 i3 i4 h.size (Fr.nil _) (Nat.le_refl _) P (fun _ _ q => ⟨rfl, q⟩))
theorem own_l32 (p : Int32) (j : Int64) (h1 : -2147483648 ≤ j.toInt) (h2 : j.toInt ≤ 2147483647) : (p < j.toInt32) ↔ p.toInt < j.toInt := by
  rw [Int32.lt_iff_toInt_lt, Jvm.Kit.i32_of_i64 (by omega) (by omega)]
theorem own_l64 (p : Int32) (j : Int64) : (p.toInt64 < j) ↔ p.toInt < j.toInt := by
  rw [Int64.lt_iff_toInt_lt, Int32.toInt_toInt64]
theorem own_bst (vs : List Int32) (p : Int32) (k f : Nat) (lo hi md hi' lo' : Int32) (n1 n2 : Nat) (hk : k = f + 1) (h : ¬ (hi < lo)) (hm : (((lo + hi).toUInt32 >>> ((1 : Int32) &&& 31).toUInt32).toInt32) = md) (h1 : md - (1 : Int32) = hi') (h2 : md + (1 : Int32) = lo') (i1 : ((2 : Int32) * md).toInt.toNat = n1) (i2 : (((2 : Int32) * md) + (1 : Int32)).toInt.toNat = n2) :
    own_bs vs p k lo hi = if p < vs.getD n1 0 then own_bs vs p f lo hi' else if p < vs.getD n2 0 then 1 else own_bs vs p f lo' hi := by
  subst hk
  rw [own_bs, if_neg h, hm, h1, h2, i1, i2]
theorem own_bse (vs : List Int32) (p : Int32) (f : Nat) (lo hi : Int32) (h : hi < lo) : own_bs vs p f lo hi = 0 := by
  cases f with
  | zero => rfl
  | succ f => rw [own_bs, if_pos h]
theorem own_e0 (p : Int32) : F3_0 p [] = 0 := by
  unfold F3_0
  rw [show (Int32.ofNat ([] : List Int32).length) / (2 : Int32) - (1 : Int32) = (-1 : Int32) by decide]
  exact own_bse _ _ _ _ _ (by decide)
theorem own_e1 (p a0 b0 : Int32) : F3_0 p [a0, b0] = (if p < a0 then 0 else if p < b0 then 1 else 0) := by
  unfold F3_0
  rw [show (Int32.ofNat ([a0, b0] : List Int32).length) / (2 : Int32) - (1 : Int32) = (0 : Int32) from (by decide : (Int32.ofNat 2) / (2 : Int32) - (1 : Int32) = (0 : Int32))]
  rw [own_bst _ p 5 4 (0 : Int32) (0 : Int32) (0 : Int32) (-1 : Int32) (1 : Int32) 0 1 (by decide) (by decide) (by decide) (by decide) (by decide) (by decide) (by decide), own_bse _ p 4 (0 : Int32) (-1 : Int32) (by decide), own_bse _ p 4 (1 : Int32) (0 : Int32) (by decide)]
  rfl
theorem own_e2 (p a0 b0 a1 b1 : Int32) : F3_0 p [a0, b0, a1, b1] = (if p < a0 then 0 else if p < b0 then 1 else (if p < a1 then 0 else if p < b1 then 1 else 0)) := by
  unfold F3_0
  rw [show (Int32.ofNat ([a0, b0, a1, b1] : List Int32).length) / (2 : Int32) - (1 : Int32) = (1 : Int32) from (by decide : (Int32.ofNat 4) / (2 : Int32) - (1 : Int32) = (1 : Int32))]
  rw [own_bst _ p 5 4 (0 : Int32) (1 : Int32) (0 : Int32) (-1 : Int32) (1 : Int32) 0 1 (by decide) (by decide) (by decide) (by decide) (by decide) (by decide) (by decide), own_bse _ p 4 (0 : Int32) (-1 : Int32) (by decide), own_bst _ p 4 3 (1 : Int32) (1 : Int32) (1 : Int32) (0 : Int32) (2 : Int32) 2 3 (by decide) (by decide) (by decide) (by decide) (by decide) (by decide) (by decide), own_bse _ p 3 (1 : Int32) (0 : Int32) (by decide), own_bse _ p 3 (2 : Int32) (1 : Int32) (by decide)]
  rfl
theorem own_e3 (p a0 b0 a1 b1 a2 b2 : Int32) : F3_0 p [a0, b0, a1, b1, a2, b2] = (if p < a1 then (if p < a0 then 0 else if p < b0 then 1 else 0) else if p < b1 then 1 else (if p < a2 then 0 else if p < b2 then 1 else 0)) := by
  unfold F3_0
  rw [show (Int32.ofNat ([a0, b0, a1, b1, a2, b2] : List Int32).length) / (2 : Int32) - (1 : Int32) = (2 : Int32) from (by decide : (Int32.ofNat 6) / (2 : Int32) - (1 : Int32) = (2 : Int32))]
  rw [own_bst _ p 5 4 (0 : Int32) (2 : Int32) (1 : Int32) (0 : Int32) (2 : Int32) 2 3 (by decide) (by decide) (by decide) (by decide) (by decide) (by decide) (by decide), own_bst _ p 4 3 (0 : Int32) (0 : Int32) (0 : Int32) (-1 : Int32) (1 : Int32) 0 1 (by decide) (by decide) (by decide) (by decide) (by decide) (by decide) (by decide), own_bse _ p 3 (0 : Int32) (-1 : Int32) (by decide), own_bse _ p 3 (1 : Int32) (0 : Int32) (by decide), own_bst _ p 4 3 (2 : Int32) (2 : Int32) (2 : Int32) (1 : Int32) (3 : Int32) 4 5 (by decide) (by decide) (by decide) (by decide) (by decide) (by decide) (by decide), own_bse _ p 3 (2 : Int32) (1 : Int32) (by decide), own_bse _ p 3 (3 : Int32) (2 : Int32) (by decide)]
  rfl
theorem own_e4 (p a0 b0 a1 b1 a2 b2 a3 b3 : Int32) : F3_0 p [a0, b0, a1, b1, a2, b2, a3, b3] = (if p < a1 then (if p < a0 then 0 else if p < b0 then 1 else 0) else if p < b1 then 1 else (if p < a2 then 0 else if p < b2 then 1 else (if p < a3 then 0 else if p < b3 then 1 else 0))) := by
  unfold F3_0
  rw [show (Int32.ofNat ([a0, b0, a1, b1, a2, b2, a3, b3] : List Int32).length) / (2 : Int32) - (1 : Int32) = (3 : Int32) from (by decide : (Int32.ofNat 8) / (2 : Int32) - (1 : Int32) = (3 : Int32))]
  rw [own_bst _ p 5 4 (0 : Int32) (3 : Int32) (1 : Int32) (0 : Int32) (2 : Int32) 2 3 (by decide) (by decide) (by decide) (by decide) (by decide) (by decide) (by decide), own_bst _ p 4 3 (0 : Int32) (0 : Int32) (0 : Int32) (-1 : Int32) (1 : Int32) 0 1 (by decide) (by decide) (by decide) (by decide) (by decide) (by decide) (by decide), own_bse _ p 3 (0 : Int32) (-1 : Int32) (by decide), own_bse _ p 3 (1 : Int32) (0 : Int32) (by decide), own_bst _ p 4 3 (2 : Int32) (3 : Int32) (2 : Int32) (1 : Int32) (3 : Int32) 4 5 (by decide) (by decide) (by decide) (by decide) (by decide) (by decide) (by decide), own_bse _ p 3 (2 : Int32) (1 : Int32) (by decide), own_bst _ p 3 2 (3 : Int32) (3 : Int32) (3 : Int32) (2 : Int32) (4 : Int32) 6 7 (by decide) (by decide) (by decide) (by decide) (by decide) (by decide) (by decide), own_bse _ p 2 (3 : Int32) (2 : Int32) (by decide), own_bse _ p 2 (4 : Int32) (3 : Int32) (by decide)]
  rfl
theorem own_195 (i5 : Int32) (j9 j11 j13 j15 j17 j19 j21 j23 : Int64) (i27 : Int32) (lo : -2147483648 ≤ j9.toInt) (q0 : j9.toInt < j11.toInt) (q1 : j11.toInt < j13.toInt) (q2 : j13.toInt < j15.toInt) (q3 : j15.toInt < j17.toInt) (q4 : j17.toInt < j19.toInt) (q5 : j19.toInt < j21.toInt) (q6 : j21.toInt < j23.toInt) (hi : j23.toInt ≤ 2147483647) : F0_195 i5 j9 j11 j13 j15 j17 j19 j21 j23 i27 = 1 := by
  have k0 := own_l32 i27 j9 (by omega) (by omega)
  have k1 := own_l32 i27 j11 (by omega) (by omega)
  have k2 := own_l32 i27 j13 (by omega) (by omega)
  have k3 := own_l32 i27 j15 (by omega) (by omega)
  have k4 := own_l32 i27 j17 (by omega) (by omega)
  have k5 := own_l32 i27 j19 (by omega) (by omega)
  have k6 := own_l32 i27 j21 (by omega) (by omega)
  have k7 := own_l32 i27 j23 (by omega) (by omega)
  have m0 := own_l64 i27 j9
  have m1 := own_l64 i27 j11
  have m2 := own_l64 i27 j13
  have m3 := own_l64 i27 j15
  have m4 := own_l64 i27 j17
  have m5 := own_l64 i27 j19
  have m6 := own_l64 i27 j21
  have m7 := own_l64 i27 j23
  unfold F0_195 F4_0
  simp only [own_e0, own_e1, own_e2, own_e3, own_e4, k0, k1, k2, k3, k4, k5, k6, k7, m0, m1, m2, m3, m4, m5, m6, m7]
  clear k0 k1 k2 k3 k4 k5 k6 k7 m0 m1 m2 m3 m4 m5 m6 m7
  generalize j9.toInt = x0 at *
  generalize j11.toInt = x1 at *
  generalize j13.toInt = x2 at *
  generalize j15.toInt = x3 at *
  generalize j17.toInt = x4 at *
  generalize j19.toInt = x5 at *
  generalize j21.toInt = x6 at *
  generalize j23.toInt = x7 at *
  generalize i27.toInt = P at *
  have cs : P < x0 ∨ x0 ≤ P ∧ P < x1 ∨ x1 ≤ P ∧ P < x2 ∨ x2 ≤ P ∧ P < x3 ∨ x3 ≤ P ∧ P < x4 ∨ x4 ≤ P ∧ P < x5 ∨ x5 ≤ P ∧ P < x6 ∨ x6 ≤ P ∧ P < x7 ∨ x7 ≤ P := by omega
  rcases cs with h | h | h | h | h | h | h | h | h
  · have h0 : P < x0 := by omega
    have h1 : P < x1 := by omega
    have h2 : P < x2 := by omega
    have h3 : P < x3 := by omega
    have h4 : P < x4 := by omega
    have h5 : P < x5 := by omega
    have h6 : P < x6 := by omega
    have h7 : P < x7 := by omega
    simp [h0, h1, h2, h3, h4, h5, h6, h7]
  · have h0 : ¬ (P < x0) := by omega
    have h1 : P < x1 := by omega
    have h2 : P < x2 := by omega
    have h3 : P < x3 := by omega
    have h4 : P < x4 := by omega
    have h5 : P < x5 := by omega
    have h6 : P < x6 := by omega
    have h7 : P < x7 := by omega
    simp [h0, h1, h2, h3, h4, h5, h6, h7]
  · have h0 : ¬ (P < x0) := by omega
    have h1 : ¬ (P < x1) := by omega
    have h2 : P < x2 := by omega
    have h3 : P < x3 := by omega
    have h4 : P < x4 := by omega
    have h5 : P < x5 := by omega
    have h6 : P < x6 := by omega
    have h7 : P < x7 := by omega
    simp [h0, h1, h2, h3, h4, h5, h6, h7]
  · have h0 : ¬ (P < x0) := by omega
    have h1 : ¬ (P < x1) := by omega
    have h2 : ¬ (P < x2) := by omega
    have h3 : P < x3 := by omega
    have h4 : P < x4 := by omega
    have h5 : P < x5 := by omega
    have h6 : P < x6 := by omega
    have h7 : P < x7 := by omega
    simp [h0, h1, h2, h3, h4, h5, h6, h7]
  · have h0 : ¬ (P < x0) := by omega
    have h1 : ¬ (P < x1) := by omega
    have h2 : ¬ (P < x2) := by omega
    have h3 : ¬ (P < x3) := by omega
    have h4 : P < x4 := by omega
    have h5 : P < x5 := by omega
    have h6 : P < x6 := by omega
    have h7 : P < x7 := by omega
    simp [h0, h1, h2, h3, h4, h5, h6, h7]
  · have h0 : ¬ (P < x0) := by omega
    have h1 : ¬ (P < x1) := by omega
    have h2 : ¬ (P < x2) := by omega
    have h3 : ¬ (P < x3) := by omega
    have h4 : ¬ (P < x4) := by omega
    have h5 : P < x5 := by omega
    have h6 : P < x6 := by omega
    have h7 : P < x7 := by omega
    simp [h0, h1, h2, h3, h4, h5, h6, h7]
  · have h0 : ¬ (P < x0) := by omega
    have h1 : ¬ (P < x1) := by omega
    have h2 : ¬ (P < x2) := by omega
    have h3 : ¬ (P < x3) := by omega
    have h4 : ¬ (P < x4) := by omega
    have h5 : ¬ (P < x5) := by omega
    have h6 : P < x6 := by omega
    have h7 : P < x7 := by omega
    simp [h0, h1, h2, h3, h4, h5, h6, h7]
  · have h0 : ¬ (P < x0) := by omega
    have h1 : ¬ (P < x1) := by omega
    have h2 : ¬ (P < x2) := by omega
    have h3 : ¬ (P < x3) := by omega
    have h4 : ¬ (P < x4) := by omega
    have h5 : ¬ (P < x5) := by omega
    have h6 : ¬ (P < x6) := by omega
    have h7 : P < x7 := by omega
    simp [h0, h1, h2, h3, h4, h5, h6, h7]
  · have h0 : ¬ (P < x0) := by omega
    have h1 : ¬ (P < x1) := by omega
    have h2 : ¬ (P < x2) := by omega
    have h3 : ¬ (P < x3) := by omega
    have h4 : ¬ (P < x4) := by omega
    have h5 : ¬ (P < x5) := by omega
    have h6 : ¬ (P < x6) := by omega
    have h7 : ¬ (P < x7) := by omega
    simp [h0, h1, h2, h3, h4, h5, h6, h7]
theorem own_b (x : Int32) : 0 ≤ ((x &&& (255 : Int32)).toInt64).toInt ∧ ((x &&& (255 : Int32)).toInt64).toInt ≤ 255 := by
  rw [Int32.toInt_toInt64, Jvm.Kit.i32_mask x _ (k := 8) (by decide) (by decide)]; omega
theorem own_s (j d : Int64) (h1 : -2147483648 ≤ j.toInt) (h2 : j.toInt ≤ 2147483647) (hd : 0 ≤ d.toInt ∧ d.toInt ≤ 255) : ((j + d) + (1 : Int64)).toInt = j.toInt + d.toInt + 1 := by
  have z : (1 : Int64).toInt = 1 := by decide
  have a : (j + d).toInt = j.toInt + d.toInt := Jvm.Kit.i64_add (by omega) (by omega)
  rw [Jvm.Kit.i64_add (by rw [a, z]; omega) (by rw [a, z]; omega), a, z]
theorem own_39 (i2 i3 i4 i5 i6 : Int32) (b : Int64) (h1 : -2147483648 ≤ b.toInt) (h2 : b.toInt ≤ 2147481855) : F0_39 i2 i3 i4 i5 i6 b = 1 := by
  have k : ∀ (j9 j11 j13 j15 j17 j19 j21 j23 : Int64), -2147483648 ≤ j9.toInt → j9.toInt < j11.toInt → j11.toInt < j13.toInt → j13.toInt < j15.toInt → j15.toInt < j17.toInt → j17.toInt < j19.toInt → j19.toInt < j21.toInt → j21.toInt < j23.toInt → j23.toInt ≤ 2147483647 → F0_151 i4 i5 i6 j9 j11 j13 j15 j17 j19 j21 j23 = 1 := fun j9 j11 j13 j15 j17 j19 j21 j23 lo q0 q1 q2 q3 q4 q5 q6 hi => by
    have k2 : ∀ z, F0_172 i5 j9 j11 j13 j15 j17 j19 j21 j23 z = 1 := fun z => by
      unfold F0_172
      exact own_195 _ _ _ _ _ _ _ _ _ _ lo q0 q1 q2 q3 q4 q5 q6 hi
    unfold F0_151
    split <;> exact k2 _
  unfold F0_39
  have d0 := own_b i2
  generalize ((i2 &&& (255 : Int32)).toInt64) = e0 at *
  have d1 := own_b i3
  generalize ((i3 &&& (255 : Int32)).toInt64) = e1 at *
  have d2 := own_b ((i2.toUInt32 >>> ((8 : Int32) &&& 31).toUInt32).toInt32)
  generalize ((((i2.toUInt32 >>> ((8 : Int32) &&& 31).toUInt32).toInt32) &&& (255 : Int32)).toInt64) = e2 at *
  have d3 := own_b ((i3.toUInt32 >>> ((8 : Int32) &&& 31).toUInt32).toInt32)
  generalize ((((i3.toUInt32 >>> ((8 : Int32) &&& 31).toUInt32).toInt32) &&& (255 : Int32)).toInt64) = e3 at *
  have d4 := own_b ((i2.toUInt32 >>> ((16 : Int32) &&& 31).toUInt32).toInt32)
  generalize ((((i2.toUInt32 >>> ((16 : Int32) &&& 31).toUInt32).toInt32) &&& (255 : Int32)).toInt64) = e4 at *
  have d5 := own_b ((i3.toUInt32 >>> ((16 : Int32) &&& 31).toUInt32).toInt32)
  generalize ((((i3.toUInt32 >>> ((16 : Int32) &&& 31).toUInt32).toInt32) &&& (255 : Int32)).toInt64) = e5 at *
  have d6 := own_b ((i2.toUInt32 >>> ((24 : Int32) &&& 31).toUInt32).toInt32)
  generalize ((((i2.toUInt32 >>> ((24 : Int32) &&& 31).toUInt32).toInt32) &&& (255 : Int32)).toInt64) = e6 at *
  have s0 := own_s b e0 (by omega) (by omega) d0
  generalize ((b + e0) + (1 : Int64)) = y0 at *
  have s1 := own_s y0 e1 (by omega) (by omega) d1
  generalize ((y0 + e1) + (1 : Int64)) = y1 at *
  have s2 := own_s y1 e2 (by omega) (by omega) d2
  generalize ((y1 + e2) + (1 : Int64)) = y2 at *
  have s3 := own_s y2 e3 (by omega) (by omega) d3
  generalize ((y2 + e3) + (1 : Int64)) = y3 at *
  have s4 := own_s y3 e4 (by omega) (by omega) d4
  generalize ((y3 + e4) + (1 : Int64)) = y4 at *
  have s5 := own_s y4 e5 (by omega) (by omega) d5
  generalize ((y4 + e5) + (1 : Int64)) = y5 at *
  have s6 := own_s y5 e6 (by omega) (by omega) d6
  generalize ((y5 + e6) + (1 : Int64)) = y6 at *
  exact k _ _ _ _ _ _ _ _ h1 (by omega) (by omega) (by omega) (by omega) (by omega) (by omega) (by omega) (by omega)
theorem own_law (i0 i1 i2 i3 i4 : Int32) : F0_0 i0 i1 i2 i3 i4 = 1 := by
  have z : (1792 : Int64).toInt = 1792 := by decide
  have l1 := Int32.le_toInt i1
  have l2 := Int32.toInt_lt i1
  have k : ∀ a b, F0_22 i1 i2 i3 i4 a b = 1 := fun a b => by
    unfold F0_22
    by_cases h : (0 : Int32) < i1
    · rw [if_pos h]
      rw [Int32.lt_iff_toInt_lt, show (0 : Int32).toInt = 0 by decide] at h
      have e : (i1.toInt64 - (1792 : Int64)).toInt = i1.toInt - 1792 := by rw [Jvm.Kit.i64_sub (by rw [z, Int32.toInt_toInt64]; omega) (by rw [z, Int32.toInt_toInt64]; omega), z, Int32.toInt_toInt64]
      exact own_39 _ _ _ _ _ _ (by rw [e]; omega) (by rw [e]; omega)
    · rw [if_neg h]
      rw [Int32.lt_iff_toInt_lt, show (0 : Int32).toInt = 0 by decide] at h
      exact own_39 _ _ _ _ _ _ (by rw [Int32.toInt_toInt64]; omega) (by rw [Int32.toInt_toInt64]; omega)
  unfold F0_0
  split <;> exact k _ _

theorem own_rm0 (l : Launch) (Z : State) (a0 : Array Value) (hw : ∀ d ∈ tables_1, d.before a0 Z = true) (i0 : Int32) (i1 : Int32) (i2 : Int32) (i3 : Int32) (i4 : Int32) (ws : List Jvm.Cond) (h : Heap) :
    own_Con l Z x code maxLocals ret ws room_1 #[(.int i0), (.int i1), (.int i2), (.int i3), (.int i4)] h (fun v _ L => v = some (.int 1) ∧ Fr h.size L) := by
  have q := rm0 l Z a0 hw i0 i1 i2 i3 i4 ws h
  rw [own_law i0 i1 i2 i3 i4] at q
  exact q
set_option maxRecDepth 65536 in
set_option maxHeartbeats 40000000 in
theorem comes_1 {Post : Tables → Env → Array Value → State → Outcome → State → Prop} (hpost : ∀ tb e args s v u, (limb_1_1.after args s (.returned v) u = true ∧ limb_1_2.after args s (.returned v) u = true ∧ True) → FrameEnd s (.returned v) u (Jvm.fieldLocs frame_1_writes args s ++ Jvm.arrayLocs frame_1_arrays args s ++ Jvm.staticLocs frame_1_statics s) 16 128 → Post tb e args s (.returned v) u) :
    ArmFor flags0 classFile x code maxLocals ret World_1 tables_1 room_1 Calls_1 rest_1 Pre_1 Post := by
  intro l hfl _ _ p e ha hc hk s m args below hf hA hF happ hP
  obtain ⟨hcalls, hrest, hpre⟩ := hP
  obtain ⟨-, -, -, hnamed, -, -, -, hat⟩ := (Spec.applies_iff hf).mp happ
  obtain ⟨hg, hn⟩ := and_e (Cond.before_iff.mp (show (Jvm.Cond.and given_1 narrow_1).before args s = true from hpre))
  obtain ⟨g0, hg1⟩ := and_e hg
  obtain ⟨k0, hg2⟩ := and_e hg1
  obtain ⟨k1, hg3⟩ := and_e hg2
  obtain ⟨k2, hg4⟩ := and_e hg3
  obtain ⟨k3, hg5⟩ := and_e hg4
  obtain ⟨w0, w1, w2, w3, w4, rfl⟩ : ∃ w0 w1 w2 w3 w4 : Value, args = #[w0, w1, w2, w3, w4] := by
    have hs : args.size = 5 := by simpa [Cond.value, given_1] using g0
    obtain ⟨L⟩ := args
    match L, hs with
    | [w0, w1, w2, w3, w4], _ => exact ⟨w0, w1, w2, w3, w4, rfl⟩
  have hw := fun d (hd : d ∈ tables_1) => atoms_spec (ws := Jvm.Cond.code x code maxLocals ret :: tables_1) hat d (List.mem_cons_of_mem _ hd)
  obtain ⟨i0, ei0⟩ := is_v k0
  obtain rfl : w0 = (.int i0) := Option.some.inj ei0
  obtain ⟨i1, ei1⟩ := is_v k1
  obtain rfl : w1 = (.int i1) := Option.some.inj ei1
  obtain ⟨i2, ei2⟩ := is_v k2
  obtain rfl : w2 = (.int i2) := Option.some.inj ei2
  obtain ⟨i3, ei3⟩ := is_v k3
  obtain rfl : w3 = (.int i3) := Option.some.inj ei3
  obtain ⟨i4, ei4⟩ := is_v hg5
  obtain rfl : w4 = (.int i4) := Option.some.inj ei4
  obtain ⟨n, o, h1, h2, h3, _, L, rfl, ⟨rfl, N⟩, hq⟩ := own_rm0 l s _ hw i0 i1 i2 i3 i4 tables_1 s.heap p e ha hc hk s m _ below hf ((Spec.applies_iff_loose hf).mp happ).1 ⟨rfl, State.Warmed39.refl s, rfl⟩ trivial
  refine ⟨n, _, h1, h2, h3, hpost _ _ _ _ _ _ ⟨Cond.after_iff.mpr rfl, Cond.after_iff.mpr (eq_i res_at (Term.int_eval (1)) rfl), trivial⟩ ⟨hq.1, hq.2.1, (hq.2.2.sift fun y hy => Or.inr (N y hy)).mono (by decide) (by decide)⟩⟩
theorem main_1_1 : Claimed_1_1 := comes_1 fun _ _ _ _ _ _ h hF => ⟨h.1, hF⟩
theorem main_1_2 : Claimed_1_2 := comes_1 fun _ _ _ _ _ _ h hF => ⟨h.2.1, hF⟩
end Jvm.Pilot.@@N@@
namespace Jvm.Pilot.@@N@@
open Jvm Jvm.ClassFile Sem Op Lib Jvm.Free Jvm.Stand Jvm.Pilot.@@N@@.Jvm.D
/-! MADE BY PROGRAM (witnessworld.py) out of the Statement's table words and the real class files: 10 classes; the members and pool entries that the words name. The judged class is class 1, her method 2. -/
namespace start1
open Jvm.ClassFile
def u (s : String) : CpInfo := .utf8 (stringToUtf16 s)
/-- a pool by its gaps: so many unusable entries, then the entry; so many at the end -/
def gap : Nat → List CpInfo → List CpInfo
  | 0, r => r
  | n + 1, r => .unusable :: gap n r
def poolList (es : List (Nat × CpInfo)) (last : Nat) : List CpInfo := es.foldr (fun e r => gap e.1 (e.2 :: r)) (gap last [])
def pool (es : List (Nat × CpInfo)) (last : Nat) : Array CpInfo := ⟨poolList es last⟩
def fileOf (pool : Array CpInfo) (this : Nat) (attrs : Array Attribute := #[]) (ms : Array MethodInfo := #[]) (fl : Nat := 33) (sup : Nat := 0) (ifs : Array Nat := #[]) (fds : Array FieldInfo := #[]) : ClassFile where
  minorVersion := 0
  majorVersion := 65
  constantPool := pool
  accessFlags := fl
  thisClass := this
  superClass := sup
  interfaces := ifs
  fields := fds
  methods := ms
  attributes := attrs
def plain (name : String) (sup : Option ClassId) : Class where
  name := name
  kind := .ordinary
  loader := none
  accessFlags := 33
  super := sup
  interfaces := #[]
  cf := none
  fields := #[]
  methods := #[]
  instanceTypes := #[]
  staticTypes := #[]
  resolved := #[]
  callSites := []
  init := .initialized
  statics := none
  mirror := none

def pool0 : Array CpInfo := pool [(5, u "<init>"), (0, u "()V"), (1, .class_ 10), (1, u "java/lang/Object")] 113

def k0m0 : Method := { name := "<init>", desc := "()V", sig := { parameters := [], returnType := none }, accessFlags := 1, code := none }
/-- java/lang/Object -/
def k0 : Class := { plain "java/lang/Object" none with
  accessFlags := 33
  interfaces := #[]
  cf := some (fileOf pool0 8 #[] #[{ accessFlags := 1, nameIndex := 5, descriptorIndex := 6, attributes := #[] }] 33 0 #[] #[])
  fields := #[]
  methods := #[k0m0]
  instanceTypes := #[]
  staticTypes := #[]
  resolved := Array.replicate 124 none
  statics := none }

def pool1 : Array CpInfo := pool [(2, .class_ 4), (1, u "java/lang/Object"), (0, u "<init>"), (0, u "()V"), (0, .integer 2147483647), (0, .long 1792), (3, .long 18446744071562067968), (1, .long 2147483647), (1, .methodref 17 18), (0, .class_ 19), (0, .nameAndType 20 21), (0, u "java/lang/Math"), (0, u "min"), (0, u "(JJ)J"), (0, .methodref 17 23), (0, .nameAndType 24 21), (0, u "max"), (0, .methodref 26 27), (0, .class_ 28), (0, .nameAndType 29 30), (0, u "com/example/projectum/projectum/reasoning/ReachWithinPinLaw"), (0, u "in"), (0, u "(JJJ)Z"), (0, .methodref 32 33), (0, .class_ 34), (0, .nameAndType 35 36), (0, u "com/example/projectum/projectum/reasoning/TypeOrder$Reach"), (0, u "within"), (0, u "([II)Z"), (3, u "law"), (0, u "(IIIII)Z")] 8

def k1m0 : Method := { name := "<init>", desc := "()V", sig := { parameters := [], returnType := none }, accessFlags := 2, code := none }
def k1c1 : Code := { maxStack := 4, maxLocals := 6, code := method_2_code, exceptionTable := #[], attributes := #[] }
def k1m1 : Method := { name := "in", desc := "(JJJ)Z", sig := { parameters := [.long, .long, .long], returnType := some .boolean }, accessFlags := 10, code := some k1c1 }
def k1c2 : Code := { maxStack := 6, maxLocals := 32, code := code, exceptionTable := #[], attributes := #[] }
def k1m2 : Method := { name := "law", desc := "(IIIII)Z", sig := { parameters := [.int, .int, .int, .int, .int], returnType := some .boolean }, accessFlags := 9, code := some k1c2 }
/-- com/example/projectum/projectum/reasoning/ReachWithinPinLaw -/
def k1 : Class := { plain "com/example/projectum/projectum/reasoning/ReachWithinPinLaw" (some 0) with
  accessFlags := 49
  interfaces := #[]
  cf := some (fileOf pool1 26 #[] #[{ accessFlags := 2, nameIndex := 5, descriptorIndex := 6, attributes := #[] }, { accessFlags := 10, nameIndex := 29, descriptorIndex := 30, attributes := #[] }, { accessFlags := 9, nameIndex := 40, descriptorIndex := 41, attributes := #[] }] 49 2 #[] #[])
  fields := #[]
  methods := #[k1m0, k1m1, k1m2]
  instanceTypes := #[]
  staticTypes := #[]
  resolved := Array.replicate 50 none
  statics := none }

def pool2 : Array CpInfo := pool [(1, .class_ 2), (0, u "java/lang/Math"), (1, .class_ 6), (1, u "java/lang/Object"), (0, u "<init>"), (0, u "()V"), (89, .class_ 100), (1, u "java/lang/Math$RandomNumberGeneratorHolder"), (20, u "(JJ)J"), (50, u "negativeZeroFloatBits"), (0, u "J"), (2, u "negativeZeroDoubleBits"), (21, u "max"), (2, u "min"), (43, u "$assertionsDisabled"), (0, u "Z"), (91, u "twoToTheDoubleScaleDown"), (0, u "D"), (4, u "twoToTheDoubleScaleUp"), (9, u "E"), (3, u "PI"), (2, u "TAU"), (2, u "DEGREES_TO_RADIANS"), (0, u "RADIANS_TO_DEGREES")] 94

def k2m0 : Method := { name := "<init>", desc := "()V", sig := { parameters := [], returnType := none }, accessFlags := 2, code := none }
def k2c1 : Code := { maxStack := 4, maxLocals := 4, code := jdk_29_method_66_code, exceptionTable := #[], attributes := #[] }
def k2m1 : Method := { name := "max", desc := "(JJ)J", sig := { parameters := [.long, .long], returnType := some .long }, accessFlags := 9, code := some k2c1 }
def k2c2 : Code := { maxStack := 4, maxLocals := 4, code := jdk_29_method_70_code, exceptionTable := #[], attributes := #[] }
def k2m2 : Method := { name := "min", desc := "(JJ)J", sig := { parameters := [.long, .long], returnType := some .long }, accessFlags := 9, code := some k2c2 }
/-- java/lang/Math -/
def k2 : Class := { plain "java/lang/Math" (some 0) with
  accessFlags := 49
  interfaces := #[]
  cf := some (fileOf pool2 1 #[.nestMembers #[98]] #[{ accessFlags := 2, nameIndex := 7, descriptorIndex := 8, attributes := #[] }, { accessFlags := 9, nameIndex := 198, descriptorIndex := 121, attributes := #[] }, { accessFlags := 9, nameIndex := 201, descriptorIndex := 121, attributes := #[] }] 49 4 #[] #[{ accessFlags := 25, nameIndex := 354, descriptorIndex := 339, attributes := #[] }, { accessFlags := 25, nameIndex := 358, descriptorIndex := 339, attributes := #[] }, { accessFlags := 25, nameIndex := 361, descriptorIndex := 339, attributes := #[] }, { accessFlags := 26, nameIndex := 364, descriptorIndex := 339, attributes := #[] }, { accessFlags := 26, nameIndex := 365, descriptorIndex := 339, attributes := #[] }, { accessFlags := 26, nameIndex := 172, descriptorIndex := 173, attributes := #[] }, { accessFlags := 26, nameIndex := 176, descriptorIndex := 173, attributes := #[] }, { accessFlags := 8, nameIndex := 344, descriptorIndex := 339, attributes := #[] }, { accessFlags := 8, nameIndex := 338, descriptorIndex := 339, attributes := #[] }, { accessFlags := 4120, nameIndex := 245, descriptorIndex := 246, attributes := #[] }])
  fields := #[{ name := "E", type := .double, accessFlags := 25, slot := 0, constantValue := 0 }, { name := "PI", type := .double, accessFlags := 25, slot := 1, constantValue := 0 }, { name := "TAU", type := .double, accessFlags := 25, slot := 2, constantValue := 0 }, { name := "DEGREES_TO_RADIANS", type := .double, accessFlags := 26, slot := 3, constantValue := 0 }, { name := "RADIANS_TO_DEGREES", type := .double, accessFlags := 26, slot := 4, constantValue := 0 }, { name := "negativeZeroFloatBits", type := .long, accessFlags := 26, slot := 5, constantValue := 0 }, { name := "negativeZeroDoubleBits", type := .long, accessFlags := 26, slot := 6, constantValue := 0 }, { name := "twoToTheDoubleScaleUp", type := .double, accessFlags := 8, slot := 7, constantValue := 0 }, { name := "twoToTheDoubleScaleDown", type := .double, accessFlags := 8, slot := 8, constantValue := 0 }, { name := "$assertionsDisabled", type := .boolean, accessFlags := 4120, slot := 9, constantValue := 0 }]
  methods := #[k2m0, k2m1, k2m2]
  instanceTypes := #[]
  staticTypes := #[.double, .double, .double, .double, .double, .long, .long, .double, .double, .boolean]
  resolved := Array.replicate 460 none
  statics := none }

def pool3 : Array CpInfo := pool [(2, .class_ 4), (1, u "java/lang/Object"), (3, .class_ 10), (1, u "com/example/projectum/projectum/reasoning/TypeOrder$Reach"), (0, u "positions"), (0, u "[I"), (3, u "reached"), (0, u "[[I"), (2, u "order"), (0, u "Lcom/example/projectum/projectum/reasoning/TypeOrder;"), (2, u "stated"), (0, u "I"), (2, u "from"), (2, u "to"), (4, .class_ 38), (1, u "com/example/projectum/projectum/reasoning/TypeOrder"), (4, u "placed"), (45, u "within"), (0, u "([II)Z")] 81

def k3c0 : Code := { maxStack := 4, maxLocals := 5, code := prog_85_method_6_code, exceptionTable := #[], attributes := #[] }
def k3m0 : Method := { name := "within", desc := "([II)Z", sig := { parameters := [(.array .int), .int], returnType := some .boolean }, accessFlags := 8, code := some k3c0 }
/-- com/example/projectum/projectum/reasoning/TypeOrder$Reach -/
def k3 : Class := { plain "com/example/projectum/projectum/reasoning/TypeOrder$Reach" (some 0) with
  accessFlags := 48
  interfaces := #[]
  cf := some (fileOf pool3 8 #[.nestHost 36] #[{ accessFlags := 8, nameIndex := 89, descriptorIndex := 90, attributes := #[] }] 48 2 #[] #[{ accessFlags := 18, nameIndex := 20, descriptorIndex := 21, attributes := #[] }, { accessFlags := 2, nameIndex := 11, descriptorIndex := 12, attributes := #[] }, { accessFlags := 2, nameIndex := 16, descriptorIndex := 17, attributes := #[] }, { accessFlags := 2, nameIndex := 43, descriptorIndex := 25, attributes := #[] }, { accessFlags := 18, nameIndex := 24, descriptorIndex := 25, attributes := #[] }, { accessFlags := 2, nameIndex := 28, descriptorIndex := 12, attributes := #[] }, { accessFlags := 2, nameIndex := 31, descriptorIndex := 12, attributes := #[] }])
  fields := #[{ name := "order", type := (.object "com/example/projectum/projectum/reasoning/TypeOrder"), accessFlags := 18, slot := 0, constantValue := 0 }, { name := "positions", type := (.array .int), accessFlags := 2, slot := 1, constantValue := 0 }, { name := "reached", type := (.array (.array .int)), accessFlags := 2, slot := 2, constantValue := 0 }, { name := "placed", type := .int, accessFlags := 2, slot := 3, constantValue := 0 }, { name := "stated", type := .int, accessFlags := 18, slot := 4, constantValue := 0 }, { name := "from", type := (.array .int), accessFlags := 2, slot := 5, constantValue := 0 }, { name := "to", type := (.array .int), accessFlags := 2, slot := 6, constantValue := 0 }]
  methods := #[k3m0]
  instanceTypes := #[(.object "com/example/projectum/projectum/reasoning/TypeOrder"), (.array .int), (.array (.array .int)), .int, .int, (.array .int), (.array .int)]
  staticTypes := #[]
  resolved := Array.replicate 172 none
  statics := none }

def pool4 : Array CpInfo := pool [(1, u "java/lang/Cloneable"), (0, .class_ 1), (0, u "java/lang/Object"), (0, .class_ 3)] 3

/-- java/lang/Cloneable -/
def k4 : Class := { plain "java/lang/Cloneable" (some 0) with
  accessFlags := 1537
  interfaces := #[]
  cf := some (fileOf pool4 2 #[] #[] 1537 4 #[] #[])
  fields := #[]
  methods := #[]
  instanceTypes := #[]
  staticTypes := #[]
  resolved := Array.replicate 8 none
  statics := none }

def pool5 : Array CpInfo := pool [(1, u "java/io/Serializable"), (0, .class_ 1), (0, u "java/lang/Object"), (0, .class_ 3)] 3

/-- java/io/Serializable -/
def k5 : Class := { plain "java/io/Serializable" (some 0) with
  accessFlags := 1537
  interfaces := #[]
  cf := some (fileOf pool5 2 #[] #[] 1537 4 #[] #[])
  fields := #[]
  methods := #[]
  instanceTypes := #[]
  staticTypes := #[]
  resolved := Array.replicate 8 none
  statics := none }

/-- the primitive byte -/
def k6 : Class := { plain "byte" none with kind := .primitive 'B', accessFlags := 0x411 }
/-- [B -/
def k7 : Class := { plain "[B" (some 0) with kind := .array 6 .byte, interfaces := #[4, 5], accessFlags := 1041 }

/-- the primitive int -/
def k8 : Class := { plain "int" none with kind := .primitive 'I', accessFlags := 0x411 }
/-- [I -/
def k9 : Class := { plain "[I" (some 0) with kind := .array 8 .int, interfaces := #[4, 5], accessFlags := 1041 }

def heap : Heap := #[]
def classes : Array Class := #[k0, k1, k2, k3, k4, k5, k6, k7, k8, k9]
def interned : List (Array UInt16 × Addr) := []
def slotsUsed : Nat := 0
def theMethod : MethodId := ⟨1, 2⟩
def args0 : Array Value := #[.int 4, .int 46, .int 50, .int 51, .int 52]
def aboutOver (below : List Frame) : State where
  vm := { classes := classes, interned := interned.toArray }
  heap := heap
  slotsUsed := slotsUsed
  threads := #[{ frames := .invoking theMethod args0 :: below }]
def below0 : List Frame := [.native { method := ⟨0, 0⟩, args := #[] }]
def about1 : State := aboutOver below0
def p0 : Program := .bare "" "" ""
def e0 : Env := launch0.env 0 0 0
theorem w_frames : about1.frames = Frame.invoking theMethod args0 :: below0 := rfl
set_option maxRecDepth 65536 in
theorem w_args : argsFit about1.vm theMethod args0 = true := by decide +kernel
set_option maxRecDepth 65536 in
theorem w_heap : heapFits about1 = true := by decide +kernel
set_option maxRecDepth 65536 in
theorem w_runnable : about1.curStatus? = some .runnable := by decide +kernel
set_option maxRecDepth 65536 in
theorem w_alone : about1.alone = true := by decide +kernel
set_option maxRecDepth 65536 in
theorem w_named : about1.methodNamed? x = some theMethod := by decide +kernel
set_option maxRecDepth 65536 in
theorem w_hears : about1.hears theMethod below0 = true := by decide +kernel
set_option maxRecDepth 65536 in
theorem w_ripe : about1.ripe theMethod args0 below0 = true := by decide +kernel
theorem w_running : about1.status = .running := rfl
set_option maxRecDepth 65536 in
theorem w_room : about1.hasRoom e0.platform room_1 = true :=
  launch0.hasRoom_least _ room_1 (by decide +kernel) (by decide +kernel) (by decide +kernel) (by decide +kernel) (by decide +kernel) (by decide +kernel)
theorem allAtoms_all (ts : List Jvm.Cond) (a : Array Jvm.Value) (st : Jvm.State) : (allAtoms ts).before a st = ts.all (fun c => c.before a st) := by
  induction ts with
  | nil => rfl
  | cons c t ih =>
    show (Jvm.Cond.and c (allAtoms t)).before a st = _
    rw [Jvm.Cond.before_and, ih, List.all_cons]
def words1 : List Jvm.Cond := Jvm.Cond.code x code maxLocals ret :: tables_1
/-- a 'code' word, met by the world's own term for the bytes: nothing is compared byte by byte -/
theorem code_word {y : MethodName} {bytes : ByteArray} {mx : Nat} {rt : Option FieldType} {a : Array Value} {s : State} {m : MethodId} {meth : Method} {c : Code} (h1 : s.methodNamed? y = some m) (h2 : s.vm.method? m = some meth) (h3 : meth.code = some c) (h4 : c.code = bytes)
    (h5 : (c.maxLocals == mx && c.exceptionTable.isEmpty && decide (c.maxStack ≤ mostOperands) && decide (meth.sig.returnType = rt) && !meth.locks && decide (parseMethodDescriptor y.desc = some meth.sig)) = true) : (Jvm.Cond.code y bytes mx rt).before a s = true := by
  simp only [Bool.and_eq_true, beq_iff_eq, Bool.not_eq_true', decide_eq_true_eq] at h5
  obtain ⟨⟨⟨⟨⟨g1, g2⟩, g3⟩, g4⟩, g5⟩, g6⟩ := h5
  simp [Cond.before, Cond.holds, Cond.value, h1, h2, h3, h4, g1, g2, g3, g4, g5, g6]
def isCode : Jvm.Cond → Bool
  | .code _ _ _ _ => true
  | _ => false
theorem all_split {L : List Jvm.Cond} {P : Jvm.Cond → Bool} (h1 : L.all (fun c => isCode c || P c) = true) (h2 : ∀ c ∈ L.filter isCode, P c = true) : L.all P = true := by
  refine List.all_eq_true.mpr fun c hc => ?_
  have h := List.all_eq_true.mp h1 c hc
  rcases Bool.eq_false_or_eq_true (isCode c) with hi | hi
  · exact h2 c (List.mem_filter.mpr ⟨hc, hi⟩)
  · simpa [hi] using h
set_option maxRecDepth 65536 in
theorem w_c0 : (Jvm.Cond.code x code maxLocals ret).before args0 about1 = true := code_word (m := ⟨1, 2⟩) (meth := k1m2) (c := k1c2) (by decide +kernel) rfl rfl rfl (by decide +kernel)
set_option maxRecDepth 65536 in
theorem w_c1 : (Jvm.Cond.code ({ cls := "java/lang/Math", name := "min", desc := "(JJ)J" } : Jvm.MethodName) jdk_29_method_70_code (4 : Nat) (Option.some Jvm.ClassFile.FieldType.long)).before args0 about1 = true := code_word (m := ⟨2, 2⟩) (meth := k2m2) (c := k2c2) (by decide +kernel) rfl rfl rfl (by decide +kernel)
set_option maxRecDepth 65536 in
theorem w_c2 : (Jvm.Cond.code ({ cls := "java/lang/Math", name := "max", desc := "(JJ)J" } : Jvm.MethodName) jdk_29_method_66_code (4 : Nat) (Option.some Jvm.ClassFile.FieldType.long)).before args0 about1 = true := code_word (m := ⟨2, 1⟩) (meth := k2m1) (c := k2c1) (by decide +kernel) rfl rfl rfl (by decide +kernel)
set_option maxRecDepth 65536 in
theorem w_c3 : (Jvm.Cond.code ({ cls := "com/example/projectum/projectum/reasoning/TypeOrder$Reach", name := "within", desc := "([II)Z" } : Jvm.MethodName) prog_85_method_6_code (5 : Nat) (Option.some Jvm.ClassFile.FieldType.boolean)).before args0 about1 = true := code_word (m := ⟨3, 0⟩) (meth := k3m0) (c := k3c0) (by decide +kernel) rfl rfl rfl (by decide +kernel)
set_option maxRecDepth 65536 in
theorem w_c4 : (Jvm.Cond.code ({ cls := "com/example/projectum/projectum/reasoning/ReachWithinPinLaw", name := "in", desc := "(JJJ)Z" } : Jvm.MethodName) method_2_code (6 : Nat) (Option.some Jvm.ClassFile.FieldType.boolean)).before args0 about1 = true := code_word (m := ⟨1, 1⟩) (meth := k1m1) (c := k1c1) (by decide +kernel) rfl rfl rfl (by decide +kernel)
def codes1 : List Jvm.Cond := [Jvm.Cond.code x code maxLocals ret, Jvm.Cond.code ({ cls := "java/lang/Math", name := "min", desc := "(JJ)J" } : Jvm.MethodName) jdk_29_method_70_code (4 : Nat) (Option.some Jvm.ClassFile.FieldType.long), Jvm.Cond.code ({ cls := "java/lang/Math", name := "max", desc := "(JJ)J" } : Jvm.MethodName) jdk_29_method_66_code (4 : Nat) (Option.some Jvm.ClassFile.FieldType.long), Jvm.Cond.code ({ cls := "com/example/projectum/projectum/reasoning/TypeOrder$Reach", name := "within", desc := "([II)Z" } : Jvm.MethodName) prog_85_method_6_code (5 : Nat) (Option.some Jvm.ClassFile.FieldType.boolean), Jvm.Cond.code ({ cls := "com/example/projectum/projectum/reasoning/ReachWithinPinLaw", name := "in", desc := "(JJJ)Z" } : Jvm.MethodName) method_2_code (6 : Nat) (Option.some Jvm.ClassFile.FieldType.boolean)]
set_option maxRecDepth 65536 in
theorem codes_eq : words1.filter isCode = codes1 := rfl
theorem w_codes : ∀ c ∈ words1.filter isCode, c.before args0 about1 = true := by
  rw [codes_eq]
  intro c hc
  simp only [codes1, List.mem_cons, List.not_mem_nil, or_false] at hc
  rcases hc with rfl | rfl | rfl | rfl | rfl
  · exact w_c0
  · exact w_c1
  · exact w_c2
  · exact w_c3
  · exact w_c4
set_option maxRecDepth 65536 in
theorem w_t1 : words1.all (fun c => isCode c || c.before args0 about1) = true := by decide +kernel
theorem w_tables : (allAtoms (Jvm.Cond.code x code maxLocals ret :: tables_1)).before args0 about1 = true := by
  rw [allAtoms_all]
  show words1.all (fun c => c.before args0 about1) = true
  refine all_split ?_ w_codes
  rw [w_t1]
set_option maxRecDepth 65536 in
theorem w_case : (Jvm.Cond.and given_1 narrow_1).before args0 about1 = true := by decide +kernel
theorem w_applies : (headSpec (Jvm.Cond.code x code maxLocals ret :: tables_1) room_1).applies x e0.platform about1 = true :=
  (Spec.applies_iff w_frames).mpr ⟨w_running, w_runnable, w_alone, w_named, w_hears, w_ripe, w_room, w_tables⟩
theorem atStart : AtStart classFile x code maxLocals ret World_1 tables_1 room_1 Calls_1 rest_1 Pre_1 launch0 p0 e0 about1 theMethod args0 below0 :=
  ⟨lists_1, trivial, launch0.admits_env _ _ _, launch0.least_env, fairChoices_fair.cas, fairChoices_fair.clock, w_frames, w_args, w_heap, w_applies, trivial, trivial, w_case⟩
end start1
theorem witness_1 : WitnessClaimed_1 := ⟨start1.p0, start1.e0, start1.about1, start1.theMethod, start1.args0, start1.below0, start1.atStart⟩
end Jvm.Pilot.@@N@@
