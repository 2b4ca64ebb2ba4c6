import JvmDerived
import JvmDerived.Pilot.@@N@@Statement
import JvmDerived.Pilot.@@N@@Code
set_option linter.unusedVariables false
set_option linter.unusedSimpArgs false
@@BLOCK:NumsL.lean.txt@@
namespace Jvm.RoadKit
open Sem ClassFile Op Lib Jvm.Stand Jvm.Free Jvm.LawKit
section New
variable {p : Program} {l : Launch} {e : Env} {R : Room} {s : State} {m : MethodId} {args : Array Value} {below : List Frame} {meth : Method} {c : Code} {T : State} {locs : List Loc} {cells slots : Nat}
theorem retI (X : Stand p l e R s m args below meth c T locs cells slots) (hx : p.tables.exec = Jvm.exec) {pc : Nat} {Ls : Array Slot} {z : Int32} {rest : List Value} (hret : meth.sig.returnType = some .int) (hd : decode c.code pc = .ok (.ireturn, 1)) {fs : List Frame}
    (hl : ∀ (f : JFrame) (acts : List Action), f.method = m → f.locked = none → f.entered = [] → (doReturn e (T.setTop f) acts (some (.int z))).1 = T.setFrames fs) : Steps p.tables e below (T.setTop (mkF m pc Ls (.int z :: rest))) (T.setFrames fs) := by
  have hm' : T.vm.method? m = some meth := X.method'
  have hn : narrow .int (.int z) = .int z := rfl
  show Steps p.tables e below (T.setTop { method := m, pc := pc, locals := Ls, stack := _ :: rest, locked := none }) _
  jvm_step X.here [X.here.top, hx, hd, hm', hret, hn]
  first | (intro acts; rw [hl _ acts rfl rfl rfl]) | rw [hl _ _ rfl rfl rfl]
  exact Steps.refl _
end New
end Jvm.RoadKit
namespace Jvm.Pilot.@@N@@
open Jvm Jvm.ClassFile Sem Op Lib Jvm.Free Jvm.Stand Jvm.LawKit Jvm.RoadKit Bundle Jvm.Pilot.@@N@@.Jvm.D
section OwnBase
variable {p : Program} {l : Launch} {e : Env} {R : Room} {s : State} {m : MethodId} {args : Array Value} {below : List Frame} {meth : Method} {c : Code} {T : State} {h : Heap} {locs : List Loc} {cells slots : Nat} {Z : State} {a0 : Array Value} {own nm : String} {bytes : ByteArray} {mx : Nat} {rt : Option FieldType} {K : State → Outcome → Prop} {pc pc' : Nat} {Ls : Array Slot} {rest : List Value}
/-- the run from S comes to an end that is as K says -/
def own_Go (p : Program) (e : Env) (below : List Frame) (K : State → Outcome → Prop) (S : State) : Prop :=
  ∃ t o, Steps p.tables e below S t ∧ t.status = .running ∧ Ended t below o ∧ K t o
def own_K (s : State) (Q : Option Value → Heap → List Loc → Prop) (kc ks : Nat) (t : State) (o : Outcome) : Prop :=
  ∃ v L, o = .returned v ∧ Q v t.heap L ∧ FrameEnd s o t L kc ks
/-- the walk stands: all that a step asks, in one word -/
def own_S (Z : State) (own nm : String) (bytes : ByteArray) (mx : Nat) (rt : Option FieldType) (p : Program) (l : Launch) (e : Env) (R : Room) (s : State) (m : MethodId) (args : Array Value) (below : List Frame) (meth : Method) (c : Code) (T : State) (h : Heap) (locs : List Loc) (cells slots : Nat) : Prop :=
  Stand p l e R s m args below meth c T locs cells slots ∧ p.tables.exec = Jvm.exec ∧ c.code = bytes ∧ c.maxLocals = mx ∧ s.vm.findClass own = some m.cls ∧ Z.Warmed39 s.vm ∧ meth.sig.returnType = rt ∧ meth.locks = false ∧ T.heap = h ∧ meth.name = nm
theorem own_S.st (P : own_S Z own nm bytes mx rt p l e R s m args below meth c T h locs cells slots) : Stand p l e R s m args below meth c T locs cells slots := P.1
theorem own_S.ex (P : own_S Z own nm bytes mx rt p l e R s m args below meth c T h locs cells slots) : p.tables.exec = Jvm.exec := P.2.1
theorem own_S.cd (P : own_S Z own nm bytes mx rt p l e R s m args below meth c T h locs cells slots) {pc : Nat} {r : Except ClassFile.DecodeError (ClassFile.Instr × Nat)} (hd : decode bytes pc = r) : decode c.code pc = r := hb P.2.2.1 hd
theorem own_S.ml (P : own_S Z own nm bytes mx rt p l e R s m args below meth c T h locs cells slots) : c.maxLocals = mx := P.2.2.2.1
theorem own_S.ow (P : own_S Z own nm bytes mx rt p l e R s m args below meth c T h locs cells slots) : s.vm.findClass own = some m.cls := P.2.2.2.2.1
theorem own_S.wz (P : own_S Z own nm bytes mx rt p l e R s m args below meth c T h locs cells slots) : Z.Warmed39 s.vm := P.2.2.2.2.2.1
theorem own_S.rty (P : own_S Z own nm bytes mx rt p l e R s m args below meth c T h locs cells slots) : meth.sig.returnType = rt := P.2.2.2.2.2.2.1
theorem own_S.lk (P : own_S Z own nm bytes mx rt p l e R s m args below meth c T h locs cells slots) : meth.locks = false := P.2.2.2.2.2.2.2.1
theorem own_S.hp (P : own_S Z own nm bytes mx rt p l e R s m args below meth c T h locs cells slots) : T.heap = h := P.2.2.2.2.2.2.2.2.1
theorem own_S.nmm (P : own_S Z own nm bytes mx rt p l e R s m args below meth c T h locs cells slots) : meth.name = nm := P.2.2.2.2.2.2.2.2.2
theorem own_S.move (P : own_S Z own nm bytes mx rt p l e R s m args below meth c T h locs cells slots) {T' : State} {h' : Heap} {locs' : List Loc} {cells' slots' : Nat} (X : Stand p l e R s m args below meth c T' locs' cells' slots') (eh : T'.heap = h') : own_S Z own nm bytes mx rt p l e R s m args below meth c T' h' locs' cells' slots' :=
  ⟨X, P.2.1, P.2.2.1, P.2.2.2.1, P.2.2.2.2.1, P.2.2.2.2.2.1, P.2.2.2.2.2.2.1, P.2.2.2.2.2.2.2.1, eh, P.2.2.2.2.2.2.2.2.2⟩
theorem own_st {S S' : State} (h : ∀ t, Steps p.tables e below S' t → Steps p.tables e below S t) (k : own_Go p e below K S') : own_Go p e below K S := by
  obtain ⟨t, o, h1, h2⟩ := k
  exact ⟨t, o, h t h1, h2⟩

theorem own_iadd (P : own_S Z own nm bytes mx rt p l e R s m args below meth c T h locs cells slots) {x y : Int32} (hd : decode bytes pc = .ok (.iadd, 1)) (hp : pc + 1 = pc')
    (k : own_Go p e below K (T.setTop (mkF m pc' Ls (.int (x + y) :: rest)))) : own_Go p e below K (T.setTop (mkF m pc Ls (.int y :: .int x :: rest))) := by
  subst hp
  exact own_st (fun t k => XS.iadd P.st.here P.ex rfl (P.cd hd) rfl k) k
theorem own_isub (P : own_S Z own nm bytes mx rt p l e R s m args below meth c T h locs cells slots) {x y : Int32} (hd : decode bytes pc = .ok (.isub, 1)) (hp : pc + 1 = pc')
    (k : own_Go p e below K (T.setTop (mkF m pc' Ls (.int (x - y) :: rest)))) : own_Go p e below K (T.setTop (mkF m pc Ls (.int y :: .int x :: rest))) := by
  subst hp
  exact own_st (fun t k => XS.isub P.st.here P.ex rfl (P.cd hd) rfl k) k
theorem own_imul (P : own_S Z own nm bytes mx rt p l e R s m args below meth c T h locs cells slots) {x y : Int32} (hd : decode bytes pc = .ok (.imul, 1)) (hp : pc + 1 = pc')
    (k : own_Go p e below K (T.setTop (mkF m pc' Ls (.int (x * y) :: rest)))) : own_Go p e below K (T.setTop (mkF m pc Ls (.int y :: .int x :: rest))) := by
  subst hp
  exact own_st (fun t k => XS.imul P.st.here P.ex rfl (P.cd hd) rfl k) k
theorem own_iand (P : own_S Z own nm bytes mx rt p l e R s m args below meth c T h locs cells slots) {x y : Int32} (hd : decode bytes pc = .ok (.iand, 1)) (hp : pc + 1 = pc')
    (k : own_Go p e below K (T.setTop (mkF m pc' Ls (.int (x &&& y) :: rest)))) : own_Go p e below K (T.setTop (mkF m pc Ls (.int y :: .int x :: rest))) := by
  subst hp
  exact own_st (fun t k => XS.iand P.st.here P.ex rfl (P.cd hd) rfl k) k
theorem own_ior (P : own_S Z own nm bytes mx rt p l e R s m args below meth c T h locs cells slots) {x y : Int32} (hd : decode bytes pc = .ok (.ior, 1)) (hp : pc + 1 = pc')
    (k : own_Go p e below K (T.setTop (mkF m pc' Ls (.int (x ||| y) :: rest)))) : own_Go p e below K (T.setTop (mkF m pc Ls (.int y :: .int x :: rest))) := by
  subst hp
  exact own_st (fun t k => XS.ior P.st.here P.ex rfl (P.cd hd) rfl k) k
theorem own_ixor (P : own_S Z own nm bytes mx rt p l e R s m args below meth c T h locs cells slots) {x y : Int32} (hd : decode bytes pc = .ok (.ixor, 1)) (hp : pc + 1 = pc')
    (k : own_Go p e below K (T.setTop (mkF m pc' Ls (.int (x ^^^ y) :: rest)))) : own_Go p e below K (T.setTop (mkF m pc Ls (.int y :: .int x :: rest))) := by
  subst hp
  exact own_st (fun t k => XS.ixor P.st.here P.ex rfl (P.cd hd) rfl k) k
theorem own_idiv (P : own_S Z own nm bytes mx rt p l e R s m args below meth c T h locs cells slots) {x y : Int32} (hd : decode bytes pc = .ok (.idiv, 1)) (hp : pc + 1 = pc') (hy : y ≠ 0)
    (k : own_Go p e below K (T.setTop (mkF m pc' Ls (.int (x / y) :: rest)))) : own_Go p e below K (T.setTop (mkF m pc Ls (.int y :: .int x :: rest))) := by
  subst hp
  exact own_st (fun t k => XS.idiv P.st.here P.ex rfl (P.cd hd) rfl hy k) k
theorem own_irem (P : own_S Z own nm bytes mx rt p l e R s m args below meth c T h locs cells slots) {x y : Int32} (hd : decode bytes pc = .ok (.irem, 1)) (hp : pc + 1 = pc') (hy : y ≠ 0)
    (k : own_Go p e below K (T.setTop (mkF m pc' Ls (.int (x - (x / y) * y) :: rest)))) : own_Go p e below K (T.setTop (mkF m pc Ls (.int y :: .int x :: rest))) := by
  subst hp
  exact own_st (fun t k => XS.irem P.st.here P.ex rfl (P.cd hd) rfl hy k) k
theorem own_ladd (P : own_S Z own nm bytes mx rt p l e R s m args below meth c T h locs cells slots) {x y : Int64} (hd : decode bytes pc = .ok (.ladd, 1)) (hp : pc + 1 = pc')
    (k : own_Go p e below K (T.setTop (mkF m pc' Ls (.long (x + y) :: rest)))) : own_Go p e below K (T.setTop (mkF m pc Ls (.long y :: .long x :: rest))) := by
  subst hp
  exact own_st (fun t k => XS.ladd P.st.here P.ex rfl (P.cd hd) rfl k) k
theorem own_lsub (P : own_S Z own nm bytes mx rt p l e R s m args below meth c T h locs cells slots) {x y : Int64} (hd : decode bytes pc = .ok (.lsub, 1)) (hp : pc + 1 = pc')
    (k : own_Go p e below K (T.setTop (mkF m pc' Ls (.long (x - y) :: rest)))) : own_Go p e below K (T.setTop (mkF m pc Ls (.long y :: .long x :: rest))) := by
  subst hp
  exact own_st (fun t k => XS.lsub P.st.here P.ex rfl (P.cd hd) rfl k) k
theorem own_lmul (P : own_S Z own nm bytes mx rt p l e R s m args below meth c T h locs cells slots) {x y : Int64} (hd : decode bytes pc = .ok (.lmul, 1)) (hp : pc + 1 = pc')
    (k : own_Go p e below K (T.setTop (mkF m pc' Ls (.long (x * y) :: rest)))) : own_Go p e below K (T.setTop (mkF m pc Ls (.long y :: .long x :: rest))) := by
  subst hp
  exact own_st (fun t k => XS.lmul P.st.here P.ex rfl (P.cd hd) rfl k) k
theorem own_land (P : own_S Z own nm bytes mx rt p l e R s m args below meth c T h locs cells slots) {x y : Int64} (hd : decode bytes pc = .ok (.land, 1)) (hp : pc + 1 = pc')
    (k : own_Go p e below K (T.setTop (mkF m pc' Ls (.long (x &&& y) :: rest)))) : own_Go p e below K (T.setTop (mkF m pc Ls (.long y :: .long x :: rest))) := by
  subst hp
  exact own_st (fun t k => XS.land P.st.here P.ex rfl (P.cd hd) rfl k) k
theorem own_lor (P : own_S Z own nm bytes mx rt p l e R s m args below meth c T h locs cells slots) {x y : Int64} (hd : decode bytes pc = .ok (.lor, 1)) (hp : pc + 1 = pc')
    (k : own_Go p e below K (T.setTop (mkF m pc' Ls (.long (x ||| y) :: rest)))) : own_Go p e below K (T.setTop (mkF m pc Ls (.long y :: .long x :: rest))) := by
  subst hp
  exact own_st (fun t k => XS.lor P.st.here P.ex rfl (P.cd hd) rfl k) k
theorem own_lxor (P : own_S Z own nm bytes mx rt p l e R s m args below meth c T h locs cells slots) {x y : Int64} (hd : decode bytes pc = .ok (.lxor, 1)) (hp : pc + 1 = pc')
    (k : own_Go p e below K (T.setTop (mkF m pc' Ls (.long (x ^^^ y) :: rest)))) : own_Go p e below K (T.setTop (mkF m pc Ls (.long y :: .long x :: rest))) := by
  subst hp
  exact own_st (fun t k => XS.lxor P.st.here P.ex rfl (P.cd hd) rfl k) k
theorem own_ldiv (P : own_S Z own nm bytes mx rt p l e R s m args below meth c T h locs cells slots) {x y : Int64} (hd : decode bytes pc = .ok (.ldiv, 1)) (hp : pc + 1 = pc') (hy : y ≠ 0)
    (k : own_Go p e below K (T.setTop (mkF m pc' Ls (.long (x / y) :: rest)))) : own_Go p e below K (T.setTop (mkF m pc Ls (.long y :: .long x :: rest))) := by
  subst hp
  exact own_st (fun t k => XS.ldiv P.st.here P.ex rfl (P.cd hd) rfl hy k) k
theorem own_lrem (P : own_S Z own nm bytes mx rt p l e R s m args below meth c T h locs cells slots) {x y : Int64} (hd : decode bytes pc = .ok (.lrem, 1)) (hp : pc + 1 = pc') (hy : y ≠ 0)
    (k : own_Go p e below K (T.setTop (mkF m pc' Ls (.long (x - (x / y) * y) :: rest)))) : own_Go p e below K (T.setTop (mkF m pc Ls (.long y :: .long x :: rest))) := by
  subst hp
  exact own_st (fun t k => XS.lrem P.st.here P.ex rfl (P.cd hd) rfl hy k) k
theorem own_ishl (P : own_S Z own nm bytes mx rt p l e R s m args below meth c T h locs cells slots) {x y : Int32} (hd : decode bytes pc = .ok (.ishl, 1)) (hp : pc + 1 = pc')
    (k : own_Go p e below K (T.setTop (mkF m pc' Ls (.int (x <<< (y &&& 31)) :: rest)))) : own_Go p e below K (T.setTop (mkF m pc Ls (.int y :: .int x :: rest))) := by
  subst hp
  exact own_st (fun t k => XS.ishl P.st.here P.ex rfl (P.cd hd) rfl k) k
theorem own_ishr (P : own_S Z own nm bytes mx rt p l e R s m args below meth c T h locs cells slots) {x y : Int32} (hd : decode bytes pc = .ok (.ishr, 1)) (hp : pc + 1 = pc')
    (k : own_Go p e below K (T.setTop (mkF m pc' Ls (.int (x >>> (y &&& 31)) :: rest)))) : own_Go p e below K (T.setTop (mkF m pc Ls (.int y :: .int x :: rest))) := by
  subst hp
  exact own_st (fun t k => XS.ishr P.st.here P.ex rfl (P.cd hd) rfl k) k
theorem own_iushr (P : own_S Z own nm bytes mx rt p l e R s m args below meth c T h locs cells slots) {x y : Int32} (hd : decode bytes pc = .ok (.iushr, 1)) (hp : pc + 1 = pc')
    (k : own_Go p e below K (T.setTop (mkF m pc' Ls (.int ((x.toUInt32 >>> (y &&& 31).toUInt32).toInt32) :: rest)))) : own_Go p e below K (T.setTop (mkF m pc Ls (.int y :: .int x :: rest))) := by
  subst hp
  exact own_st (fun t k => XS.iushr P.st.here P.ex rfl (P.cd hd) rfl k) k
theorem own_lshl (P : own_S Z own nm bytes mx rt p l e R s m args below meth c T h locs cells slots) {x : Int64} {y : Int32} (hd : decode bytes pc = .ok (.lshl, 1)) (hp : pc + 1 = pc')
    (k : own_Go p e below K (T.setTop (mkF m pc' Ls (.long (x <<< (y &&& 0x3f).toInt64) :: rest)))) : own_Go p e below K (T.setTop (mkF m pc Ls (.int y :: .long x :: rest))) := by
  subst hp
  exact own_st (fun t k => XS.lshl P.st.here P.ex rfl (P.cd hd) rfl k) k
theorem own_lshr (P : own_S Z own nm bytes mx rt p l e R s m args below meth c T h locs cells slots) {x : Int64} {y : Int32} (hd : decode bytes pc = .ok (.lshr, 1)) (hp : pc + 1 = pc')
    (k : own_Go p e below K (T.setTop (mkF m pc' Ls (.long (x >>> (y &&& 0x3f).toInt64) :: rest)))) : own_Go p e below K (T.setTop (mkF m pc Ls (.int y :: .long x :: rest))) := by
  subst hp
  exact own_st (fun t k => XS.lshr P.st.here P.ex rfl (P.cd hd) rfl k) k
theorem own_lushr (P : own_S Z own nm bytes mx rt p l e R s m args below meth c T h locs cells slots) {x : Int64} {y : Int32} (hd : decode bytes pc = .ok (.lushr, 1)) (hp : pc + 1 = pc')
    (k : own_Go p e below K (T.setTop (mkF m pc' Ls (.long ((x.toUInt64 >>> (y &&& 0x3f).toInt64.toUInt64).toInt64) :: rest)))) : own_Go p e below K (T.setTop (mkF m pc Ls (.int y :: .long x :: rest))) := by
  subst hp
  exact own_st (fun t k => XS.lushr P.st.here P.ex rfl (P.cd hd) rfl k) k
theorem own_i2l (P : own_S Z own nm bytes mx rt p l e R s m args below meth c T h locs cells slots) {x : Int32} (hd : decode bytes pc = .ok (.i2l, 1)) (hp : pc + 1 = pc')
    (k : own_Go p e below K (T.setTop (mkF m pc' Ls (.long (x.toInt64) :: rest)))) : own_Go p e below K (T.setTop (mkF m pc Ls (.int x :: rest))) := by
  subst hp
  exact own_st (fun t k => XS.i2l P.st.here P.ex rfl (P.cd hd) rfl k) k
theorem own_l2i (P : own_S Z own nm bytes mx rt p l e R s m args below meth c T h locs cells slots) {x : Int64} (hd : decode bytes pc = .ok (.l2i, 1)) (hp : pc + 1 = pc')
    (k : own_Go p e below K (T.setTop (mkF m pc' Ls (.int (x.toInt32) :: rest)))) : own_Go p e below K (T.setTop (mkF m pc Ls (.long x :: rest))) := by
  subst hp
  exact own_st (fun t k => XS.l2i P.st.here P.ex rfl (P.cd hd) rfl k) k
theorem own_i2b (P : own_S Z own nm bytes mx rt p l e R s m args below meth c T h locs cells slots) {x : Int32} (hd : decode bytes pc = .ok (.i2b, 1)) (hp : pc + 1 = pc')
    (k : own_Go p e below K (T.setTop (mkF m pc' Ls (.int (x.toInt8.toInt32) :: rest)))) : own_Go p e below K (T.setTop (mkF m pc Ls (.int x :: rest))) := by
  subst hp
  exact own_st (fun t k => XS.i2b P.st.here P.ex rfl (P.cd hd) rfl k) k
theorem own_i2c (P : own_S Z own nm bytes mx rt p l e R s m args below meth c T h locs cells slots) {x : Int32} (hd : decode bytes pc = .ok (.i2c, 1)) (hp : pc + 1 = pc')
    (k : own_Go p e below K (T.setTop (mkF m pc' Ls (.int (x.toUInt32.toUInt16.toUInt32.toInt32) :: rest)))) : own_Go p e below K (T.setTop (mkF m pc Ls (.int x :: rest))) := by
  subst hp
  exact own_st (fun t k => XS.i2c P.st.here P.ex rfl (P.cd hd) rfl k) k
theorem own_i2s (P : own_S Z own nm bytes mx rt p l e R s m args below meth c T h locs cells slots) {x : Int32} (hd : decode bytes pc = .ok (.i2s, 1)) (hp : pc + 1 = pc')
    (k : own_Go p e below K (T.setTop (mkF m pc' Ls (.int (x.toInt16.toInt32) :: rest)))) : own_Go p e below K (T.setTop (mkF m pc Ls (.int x :: rest))) := by
  subst hp
  exact own_st (fun t k => XS.i2s P.st.here P.ex rfl (P.cd hd) rfl k) k
theorem own_lneg (P : own_S Z own nm bytes mx rt p l e R s m args below meth c T h locs cells slots) {x : Int64} (hd : decode bytes pc = .ok (.lneg, 1)) (hp : pc + 1 = pc')
    (k : own_Go p e below K (T.setTop (mkF m pc' Ls (.long (-x) :: rest)))) : own_Go p e below K (T.setTop (mkF m pc Ls (.long x :: rest))) := by
  subst hp
  exact own_st (fun t k => XS.lneg P.st.here P.ex rfl (P.cd hd) rfl k) k
theorem own_ineg (P : own_S Z own nm bytes mx rt p l e R s m args below meth c T h locs cells slots) {x : Int32} (hd : decode bytes pc = .ok (.ineg, 1)) (hp : pc + 1 = pc')
    (k : own_Go p e below K (T.setTop (mkF m pc' Ls (.int (-x) :: rest)))) : own_Go p e below K (T.setTop (mkF m pc Ls (.int x :: rest))) := by
  subst hp
  exact own_st (fun t k => XS.ineg P.st.here P.ex rfl (P.cd hd) rfl k) k
theorem own_iloadN (P : own_S Z own nm bytes mx rt p l e R s m args below meth c T h locs cells slots) {j : Fin 4} {v : Int32} (hd : decode bytes pc = .ok (.iload_n j, 1)) (hp : pc + 1 = pc') (hl : Ls[j.val]? = some (.val (.int v)))
    (k : own_Go p e below K (T.setTop (mkF m pc' Ls (.int v :: rest)))) : own_Go p e below K (T.setTop (mkF m pc Ls rest)) := by
  subst hp
  exact own_st (fun t k => XS.iloadN P.st.here P.ex rfl (P.cd hd) hl k) k
theorem own_iload (P : own_S Z own nm bytes mx rt p l e R s m args below meth c T h locs cells slots) {j : Nat} {v : Int32} (hd : decode bytes pc = .ok (.iload j, 2)) (hp : pc + 2 = pc') (hl : Ls[j]? = some (.val (.int v)))
    (k : own_Go p e below K (T.setTop (mkF m pc' Ls (.int v :: rest)))) : own_Go p e below K (T.setTop (mkF m pc Ls rest)) := by
  subst hp
  exact own_st (fun t k => XS.iload P.st.here P.ex rfl (P.cd hd) hl k) k
theorem own_lloadN (P : own_S Z own nm bytes mx rt p l e R s m args below meth c T h locs cells slots) {j : Fin 4} {v : Int64} (hd : decode bytes pc = .ok (.lload_n j, 1)) (hp : pc + 1 = pc') (hl : Ls[j.val]? = some (.val (.long v)))
    (k : own_Go p e below K (T.setTop (mkF m pc' Ls (.long v :: rest)))) : own_Go p e below K (T.setTop (mkF m pc Ls rest)) := by
  subst hp
  exact own_st (fun t k => XS.lloadN P.st.here P.ex rfl (P.cd hd) hl k) k
theorem own_lload (P : own_S Z own nm bytes mx rt p l e R s m args below meth c T h locs cells slots) {j : Nat} {v : Int64} (hd : decode bytes pc = .ok (.lload j, 2)) (hp : pc + 2 = pc') (hl : Ls[j]? = some (.val (.long v)))
    (k : own_Go p e below K (T.setTop (mkF m pc' Ls (.long v :: rest)))) : own_Go p e below K (T.setTop (mkF m pc Ls rest)) := by
  subst hp
  exact own_st (fun t k => XS.lload P.st.here P.ex rfl (P.cd hd) hl k) k
theorem own_aloadN (P : own_S Z own nm bytes mx rt p l e R s m args below meth c T h locs cells slots) {j : Fin 4} {v : Value} (hd : decode bytes pc = .ok (.aload_n j, 1)) (hp : pc + 1 = pc') (hl : Ls[j.val]? = some (.val v)) (hv : v.isRef = true)
    (k : own_Go p e below K (T.setTop (mkF m pc' Ls (v :: rest)))) : own_Go p e below K (T.setTop (mkF m pc Ls rest)) := by
  subst hp
  exact own_st (fun t k => XS.aloadN P.st.here P.ex rfl (P.cd hd) hl hv k) k
theorem own_aload (P : own_S Z own nm bytes mx rt p l e R s m args below meth c T h locs cells slots) {j : Nat} {v : Value} (hd : decode bytes pc = .ok (.aload j, 2)) (hp : pc + 2 = pc') (hl : Ls[j]? = some (.val v)) (hv : v.isRef = true)
    (k : own_Go p e below K (T.setTop (mkF m pc' Ls (v :: rest)))) : own_Go p e below K (T.setTop (mkF m pc Ls rest)) := by
  subst hp
  exact own_st (fun t k => XS.aload P.st.here P.ex rfl (P.cd hd) hl hv k) k
theorem own_istoreN (P : own_S Z own nm bytes mx rt p l e R s m args below meth c T h locs cells slots) {j : Fin 4} {v : Int32} {Ls' : Array Slot} (hd : decode bytes pc = .ok (.istore_n j, 1)) (hp : pc + 1 = pc') (hl : storeLocals Ls j.val (.int v) = some Ls')
    (k : own_Go p e below K (T.setTop (mkF m pc' Ls' rest))) : own_Go p e below K (T.setTop (mkF m pc Ls (.int v :: rest))) := by
  subst hp
  exact own_st (fun t k => XS.istoreN P.st.here P.ex rfl (P.cd hd) rfl hl k) k
theorem own_istore (P : own_S Z own nm bytes mx rt p l e R s m args below meth c T h locs cells slots) {j : Nat} {v : Int32} {Ls' : Array Slot} (hd : decode bytes pc = .ok (.istore j, 2)) (hp : pc + 2 = pc') (hl : storeLocals Ls j (.int v) = some Ls')
    (k : own_Go p e below K (T.setTop (mkF m pc' Ls' rest))) : own_Go p e below K (T.setTop (mkF m pc Ls (.int v :: rest))) := by
  subst hp
  exact own_st (fun t k => XS.istore P.st.here P.ex rfl (P.cd hd) rfl hl k) k
theorem own_lstoreN (P : own_S Z own nm bytes mx rt p l e R s m args below meth c T h locs cells slots) {j : Fin 4} {v : Int64} {Ls' : Array Slot} (hd : decode bytes pc = .ok (.lstore_n j, 1)) (hp : pc + 1 = pc') (hl : storeLocals Ls j.val (.long v) = some Ls')
    (k : own_Go p e below K (T.setTop (mkF m pc' Ls' rest))) : own_Go p e below K (T.setTop (mkF m pc Ls (.long v :: rest))) := by
  subst hp
  exact own_st (fun t k => XS.lstoreN P.st.here P.ex rfl (P.cd hd) rfl hl k) k
theorem own_lstore (P : own_S Z own nm bytes mx rt p l e R s m args below meth c T h locs cells slots) {j : Nat} {v : Int64} {Ls' : Array Slot} (hd : decode bytes pc = .ok (.lstore j, 2)) (hp : pc + 2 = pc') (hl : storeLocals Ls j (.long v) = some Ls')
    (k : own_Go p e below K (T.setTop (mkF m pc' Ls' rest))) : own_Go p e below K (T.setTop (mkF m pc Ls (.long v :: rest))) := by
  subst hp
  exact own_st (fun t k => XS.lstore P.st.here P.ex rfl (P.cd hd) rfl hl k) k
theorem own_astoreN (P : own_S Z own nm bytes mx rt p l e R s m args below meth c T h locs cells slots) {j : Fin 4} {v : Value} {Ls' : Array Slot} (hd : decode bytes pc = .ok (.astore_n j, 1)) (hp : pc + 1 = pc') (hv : v.isRef = true) (hl : storeLocals Ls j.val v = some Ls')
    (k : own_Go p e below K (T.setTop (mkF m pc' Ls' rest))) : own_Go p e below K (T.setTop (mkF m pc Ls (v :: rest))) := by
  subst hp
  exact own_st (fun t k => XS.astoreN P.st.here P.ex rfl (P.cd hd) rfl hv hl k) k
theorem own_astore (P : own_S Z own nm bytes mx rt p l e R s m args below meth c T h locs cells slots) {j : Nat} {v : Value} {Ls' : Array Slot} (hd : decode bytes pc = .ok (.astore j, 2)) (hp : pc + 2 = pc') (hv : v.isRef = true) (hl : storeLocals Ls j v = some Ls')
    (k : own_Go p e below K (T.setTop (mkF m pc' Ls' rest))) : own_Go p e below K (T.setTop (mkF m pc Ls (v :: rest))) := by
  subst hp
  exact own_st (fun t k => XS.astore P.st.here P.ex rfl (P.cd hd) rfl hv hl k) k
theorem own_iconst (P : own_S Z own nm bytes mx rt p l e R s m args below meth c T h locs cells slots) {i : Int} {v : Int32} (hd : decode bytes pc = .ok (.iconst i, 1)) (hp : pc + 1 = pc') (hv : Int32.ofInt i = v)
    (k : own_Go p e below K (T.setTop (mkF m pc' Ls (.int v :: rest)))) : own_Go p e below K (T.setTop (mkF m pc Ls rest)) := by
  subst hp
  exact own_st (fun t k => XS.iconst P.st.here P.ex rfl (P.cd hd) (by rw [hv]; exact k)) k
theorem own_bipush (P : own_S Z own nm bytes mx rt p l e R s m args below meth c T h locs cells slots) {i : Int} {v : Int32} (hd : decode bytes pc = .ok (.bipush i, 2)) (hp : pc + 2 = pc') (hv : (Int8.ofInt i).toInt32 = v)
    (k : own_Go p e below K (T.setTop (mkF m pc' Ls (.int v :: rest)))) : own_Go p e below K (T.setTop (mkF m pc Ls rest)) := by
  subst hp
  exact own_st (fun t k => XS.bipush P.st.here P.ex rfl (P.cd hd) (by rw [hv]; exact k)) k
theorem own_sipush (P : own_S Z own nm bytes mx rt p l e R s m args below meth c T h locs cells slots) {i : Int} {v : Int32} (hd : decode bytes pc = .ok (.sipush i, 3)) (hp : pc + 3 = pc') (hv : (Int16.ofInt i).toInt32 = v)
    (k : own_Go p e below K (T.setTop (mkF m pc' Ls (.int v :: rest)))) : own_Go p e below K (T.setTop (mkF m pc Ls rest)) := by
  subst hp
  exact own_st (fun t k => XS.sipush P.st.here P.ex rfl (P.cd hd) (by rw [hv]; exact k)) k
theorem own_lconst (P : own_S Z own nm bytes mx rt p l e R s m args below meth c T h locs cells slots) {j : Fin 2} {v : Int64} (hd : decode bytes pc = .ok (.lconst j, 1)) (hp : pc + 1 = pc') (hv : Int64.ofNat j = v)
    (k : own_Go p e below K (T.setTop (mkF m pc' Ls (.long v :: rest)))) : own_Go p e below K (T.setTop (mkF m pc Ls rest)) := by
  subst hp
  exact own_st (fun t k => XS.lconst P.st.here P.ex rfl (P.cd hd) (by rw [hv]; exact k)) k
theorem own_aconstNull (P : own_S Z own nm bytes mx rt p l e R s m args below meth c T h locs cells slots)  (hd : decode bytes pc = .ok (.aconst_null, 1)) (hp : pc + 1 = pc')
    (k : own_Go p e below K (T.setTop (mkF m pc' Ls (.null :: rest)))) : own_Go p e below K (T.setTop (mkF m pc Ls rest)) := by
  subst hp
  exact own_st (fun t k => XS.aconstNull P.st.here P.ex rfl (P.cd hd) k) k
theorem own_iinc (P : own_S Z own nm bytes mx rt p l e R s m args below meth c T h locs cells slots) {j : Nat} {i : Int} {x v : Int32} {Ls' : Array Slot} (hd : decode bytes pc = .ok (.iinc j i, 3)) (hp : pc + 3 = pc') (hl : Ls[j]? = some (.val (.int x))) (hv : Int32.ofInt i = v) (hl' : storeLocals Ls j (.int (x + v)) = some Ls')
    (k : own_Go p e below K (T.setTop (mkF m pc' Ls' rest))) : own_Go p e below K (T.setTop (mkF m pc Ls rest)) := by
  subst hp
  exact own_st (fun t k => XS.iinc P.st.here P.ex rfl (P.cd hd) hl (by rw [hv]; exact hl') k) k
theorem own_dup (P : own_S Z own nm bytes mx rt p l e R s m args below meth c T h locs cells slots) {v : Value} (hd : decode bytes pc = .ok (.dup, 1)) (hp : pc + 1 = pc') (hc : v.category = 1)
    (k : own_Go p e below K (T.setTop (mkF m pc' Ls (v :: v :: rest)))) : own_Go p e below K (T.setTop (mkF m pc Ls (v :: rest))) := by
  subst hp
  exact own_st (fun t k => XS.dup P.st.here P.ex rfl (P.cd hd) rfl hc k) k
theorem own_dupX1 (P : own_S Z own nm bytes mx rt p l e R s m args below meth c T h locs cells slots) {v u : Value} (hd : decode bytes pc = .ok (.dup_x1, 1)) (hp : pc + 1 = pc') (hc : v.category = 1) (hc' : u.category = 1)
    (k : own_Go p e below K (T.setTop (mkF m pc' Ls (v :: u :: v :: rest)))) : own_Go p e below K (T.setTop (mkF m pc Ls (v :: u :: rest))) := by
  subst hp
  exact own_st (fun t k => XS.dupX1 P.st.here P.ex rfl (P.cd hd) rfl hc hc' k) k
theorem own_pop (P : own_S Z own nm bytes mx rt p l e R s m args below meth c T h locs cells slots) {v : Value} (hd : decode bytes pc = .ok (.pop, 1)) (hp : pc + 1 = pc') (hc : v.category = 1)
    (k : own_Go p e below K (T.setTop (mkF m pc' Ls rest))) : own_Go p e below K (T.setTop (mkF m pc Ls (v :: rest))) := by
  subst hp
  exact own_st (fun t k => XS.pop P.st.here P.ex rfl (P.cd hd) rfl hc k) k
theorem own_goto (P : own_S Z own nm bytes mx rt p l e R s m args below meth c T h locs cells slots) {o : Int} (hd : decode bytes pc = .ok (.goto o, 3)) (ho : 0 ≤ (pc : Int) + o) (hp : ((pc : Int) + o).toNat = pc')
    (k : own_Go p e below K (T.setTop (mkF m pc' Ls rest))) : own_Go p e below K (T.setTop (mkF m pc Ls rest)) := own_st (fun t k => XS.goto P.st.here P.ex rfl rfl (P.cd hd) ho hp k) k
/-- what a branch asks of two ints, of two longs -/
def own_ci (cd : ClassFile.Cond) (x y : Int32) : Prop := match cd with | .eq => x = y | .ne => ¬ x = y | .lt => x < y | .ge => ¬ x < y | .gt => y < x | .le => ¬ y < x
def own_cl (cd : ClassFile.Cond) (x y : Int64) : Prop := match cd with | .eq => x = y | .ne => ¬ x = y | .lt => x < y | .ge => ¬ x < y | .gt => y < x | .le => ¬ y < x
theorem own_ciY {cd : ClassFile.Cond} {x y : Int32} (q : own_ci cd x y) : if_icmp.holds cd x y = true := by
  cases cd
  · exact (teq q).1
  · exact (feq q).2
  · exact (tlt q).1
  · exact (flt q).2.1
  · exact (tlt q).2.2.1
  · exact (flt q).2.2.2
theorem own_ciN {cd : ClassFile.Cond} {x y : Int32} (q : ¬ own_ci cd x y) : if_icmp.holds cd x y = false := by
  cases cd
  · exact (feq q).1
  · exact (teq (Classical.not_not.mp q)).2
  · exact (flt q).1
  · exact (tlt (Classical.not_not.mp q)).2.1
  · exact (flt q).2.2.1
  · exact (tlt (Classical.not_not.mp q)).2.2.2
theorem own_clY {cd : ClassFile.Cond} {x y : Int64} (q : own_cl cd x y) : own_ci cd (lcmpW x y) 0 := by
  rw [lcW]
  cases cd
  · exact (lc_eq x y).mpr q
  · exact fun r => q ((lc_eq x y).mp r)
  · exact (lc_lt x y).mpr q
  · exact fun r => q ((lc_lt x y).mp r)
  · exact (lc_gt x y).mpr q
  · exact fun r => q ((lc_gt x y).mp r)
theorem own_clN {cd : ClassFile.Cond} {x y : Int64} (q : ¬ own_cl cd x y) : ¬ own_ci cd (lcmpW x y) 0 := by
  rw [lcW]
  cases cd
  · exact fun r => q ((lc_eq x y).mp r)
  · exact fun r => q fun z => r ((lc_eq x y).mpr z)
  · exact fun r => q ((lc_lt x y).mp r)
  · exact fun r => q fun z => r ((lc_lt x y).mpr z)
  · exact fun r => q ((lc_gt x y).mp r)
  · exact fun r => q fun z => r ((lc_gt x y).mpr z)
theorem own_icmpY (P : own_S Z own nm bytes mx rt p l e R s m args below meth c T h locs cells slots) {cd : ClassFile.Cond} {o : Int} {x y : Int32} (hd : decode bytes pc = .ok (.if_icmp cd o, 3)) (q : own_ci cd x y) (ho : 0 ≤ (pc : Int) + o) (hp : ((pc : Int) + o).toNat = pc')
    (k : own_Go p e below K (T.setTop (mkF m pc' Ls rest))) : own_Go p e below K (T.setTop (mkF m pc Ls (.int y :: .int x :: rest))) := own_st (fun t k => XS.icmpYes P.st.here P.ex rfl rfl (P.cd hd) rfl (own_ciY q) ho hp k) k
theorem own_icmpN (P : own_S Z own nm bytes mx rt p l e R s m args below meth c T h locs cells slots) {cd : ClassFile.Cond} {o : Int} {x y : Int32} (hd : decode bytes pc = .ok (.if_icmp cd o, 3)) (q : ¬ own_ci cd x y) (hp : pc + 3 = pc')
    (k : own_Go p e below K (T.setTop (mkF m pc' Ls rest))) : own_Go p e below K (T.setTop (mkF m pc Ls (.int y :: .int x :: rest))) := by
  subst hp
  exact own_st (fun t k => XS.icmpNo P.st.here P.ex rfl (P.cd hd) rfl (own_ciN q) k) k
theorem own_if0Y (P : own_S Z own nm bytes mx rt p l e R s m args below meth c T h locs cells slots) {cd : ClassFile.Cond} {o : Int} {x : Int32} (hd : decode bytes pc = .ok (.ifCond cd o, 3)) (q : own_ci cd x 0) (ho : 0 ≤ (pc : Int) + o) (hp : ((pc : Int) + o).toNat = pc')
    (k : own_Go p e below K (T.setTop (mkF m pc' Ls rest))) : own_Go p e below K (T.setTop (mkF m pc Ls (.int x :: rest))) := own_st (fun t k => XS.ifYes P.st.here P.ex rfl rfl (P.cd hd) rfl ((if0 _ _).trans (own_ciY q)) ho hp k) k
theorem own_if0N (P : own_S Z own nm bytes mx rt p l e R s m args below meth c T h locs cells slots) {cd : ClassFile.Cond} {o : Int} {x : Int32} (hd : decode bytes pc = .ok (.ifCond cd o, 3)) (q : ¬ own_ci cd x 0) (hp : pc + 3 = pc')
    (k : own_Go p e below K (T.setTop (mkF m pc' Ls rest))) : own_Go p e below K (T.setTop (mkF m pc Ls (.int x :: rest))) := by
  subst hp
  exact own_st (fun t k => XS.ifNo P.st.here P.ex rfl (P.cd hd) rfl ((if0 _ _).trans (own_ciN q)) k) k
theorem own_lcmp (P : own_S Z own nm bytes mx rt p l e R s m args below meth c T h locs cells slots) {x y : Int64} (hd : decode bytes pc = .ok (.lcmp, 1)) (hp : pc + 1 = pc')
    (k : own_Go p e below K (T.setTop (mkF m pc' Ls (.int (lcmpW x y) :: rest)))) : own_Go p e below K (T.setTop (mkF m pc Ls (.long y :: .long x :: rest))) := by
  subst hp
  exact own_st (fun t k => XS.lcmp P.st.here P.ex rfl (P.cd hd) rfl k) k
theorem own_lcY (P : own_S Z own nm bytes mx rt p l e R s m args below meth c T h locs cells slots) {cd : ClassFile.Cond} {o : Int} {x y : Int64} (hd : decode bytes pc = .ok (.lcmp, 1)) (hd2 : decode bytes (pc + 1) = .ok (.ifCond cd o, 3)) (q : own_cl cd x y) (ho : 0 ≤ ((pc + 1 : Nat) : Int) + o) (hp : (((pc + 1 : Nat) : Int) + o).toNat = pc')
    (k : own_Go p e below K (T.setTop (mkF m pc' Ls rest))) : own_Go p e below K (T.setTop (mkF m pc Ls (.long y :: .long x :: rest))) :=
  own_lcmp P hd rfl (own_if0Y P hd2 (own_clY q) ho hp k)
theorem own_lcN (P : own_S Z own nm bytes mx rt p l e R s m args below meth c T h locs cells slots) {cd : ClassFile.Cond} {o : Int} {x y : Int64} (hd : decode bytes pc = .ok (.lcmp, 1)) (hd2 : decode bytes (pc + 1) = .ok (.ifCond cd o, 3)) (q : ¬ own_cl cd x y) (hp : pc + 1 + 3 = pc')
    (k : own_Go p e below K (T.setTop (mkF m pc' Ls rest))) : own_Go p e below K (T.setTop (mkF m pc Ls (.long y :: .long x :: rest))) :=
  own_lcmp P hd rfl (own_if0N P hd2 (own_clN q) hp k)

theorem own_ldc (P : own_S Z own nm bytes mx rt p l e R s m args below meth c T h locs cells slots) {idx : Nat} {v : Int32} (wc : (Cond.constant own idx v).before a0 Z = true) (hd : decode bytes pc = .ok (.ldc idx, 2)) (hp : pc + 2 = pc')
    (k : own_Go p e below K (T.setTop (mkF m pc' Ls (.int v :: rest)))) : own_Go p e below K (T.setTop (mkF m pc Ls rest)) := by
  subst hp
  exact own_st (fun t k => P.st.ldcInt P.ex P.ow (mvT P.wz wc) (g := mkF m pc Ls rest) rfl (P.cd hd) t k) k
theorem own_ldcw (P : own_S Z own nm bytes mx rt p l e R s m args below meth c T h locs cells slots) {idx : Nat} {v : Int32} (wc : (Cond.constant own idx v).before a0 Z = true) (hd : decode bytes pc = .ok (.ldc_w idx, 3)) (hp : pc + 3 = pc')
    (k : own_Go p e below K (T.setTop (mkF m pc' Ls (.int v :: rest)))) : own_Go p e below K (T.setTop (mkF m pc Ls rest)) := by
  subst hp
  exact own_st (fun t k => P.st.ldcwInt P.ex P.ow (mvT P.wz wc) (g := mkF m pc Ls rest) rfl (P.cd hd) t k) k
theorem own_ldc2 (P : own_S Z own nm bytes mx rt p l e R s m args below meth c T h locs cells slots) {idx : Nat} {v : Int64} (wc : (Cond.constantLong own idx v).before a0 Z = true) (hd : decode bytes pc = .ok (.ldc2_w idx, 3)) (hp : pc + 3 = pc')
    (k : own_Go p e below K (T.setTop (mkF m pc' Ls (.long v :: rest)))) : own_Go p e below K (T.setTop (mkF m pc Ls rest)) := by
  subst hp
  exact own_st (fun t k => P.st.ldc2Long P.ex P.ow (mvT P.wz wc) (g := mkF m pc Ls rest) rfl (P.cd hd) t k) k

theorem own_retL {Q : Option Value → Heap → List Loc → Prop} {kc ks : Nat} (P : own_S Z own nm bytes mx (some .long) p l e R s m args below meth c T h locs cells slots) {v : Int64} (hd : decode bytes pc = .ok (.lreturn, 1)) (hc : cells ≤ kc) (hs : slots ≤ ks) (hq : Q (some (.long v)) h locs) :
    own_Go p e below (own_K s Q kc ks) (T.setTop (mkF m pc Ls [(.long v)])) := by
  obtain ⟨X, hx, hby, hml, hown, hZ, hr0, hlk, hh, -⟩ := P
  obtain ⟨fs, hr, hrun, hended, hW, hsame⟩ := X.leave (v := some (.long v)) (fun h => by rw [hr0] at h; cases h) hlk
  refine ⟨_, _, X.lreturnOut hx hr0 (hb hby hd) hr, hrun, hended, _, _, rfl, ?_, ⟨_, rfl⟩, hW, hsame.mono hc hs⟩
  rw [← hh] at hq
  exact hq
theorem own_retI {Q : Option Value → Heap → List Loc → Prop} {kc ks : Nat} (P : own_S Z own nm bytes mx (some .int) p l e R s m args below meth c T h locs cells slots) {v : Int32} (hd : decode bytes pc = .ok (.ireturn, 1)) (hc : cells ≤ kc) (hs : slots ≤ ks) (hq : Q (some (.int v)) h locs) :
    own_Go p e below (own_K s Q kc ks) (T.setTop (mkF m pc Ls [(.int v)])) := by
  obtain ⟨X, hx, hby, hml, hown, hZ, hr0, hlk, hh, -⟩ := P
  obtain ⟨fs, hr, hrun, hended, hW, hsame⟩ := X.leave (v := some (.int v)) (fun h => by rw [hr0] at h; cases h) hlk
  refine ⟨_, _, retI X hx hr0 (hb hby hd) hr, hrun, hended, _, _, rfl, ?_, ⟨_, rfl⟩, hW, hsame.mono hc hs⟩
  rw [← hh] at hq
  exact hq
theorem own_retZ {Q : Option Value → Heap → List Loc → Prop} {kc ks : Nat} (P : own_S Z own nm bytes mx (some .boolean) p l e R s m args below meth c T h locs cells slots) {v z : Int32} (hd : decode bytes pc = .ok (.ireturn, 1)) (hz : nar .boolean v = z) (hc : cells ≤ kc) (hs : slots ≤ ks) (hq : Q (some (.int z)) h locs) :
    own_Go p e below (own_K s Q kc ks) (T.setTop (mkF m pc Ls [(.int v)])) := by
  obtain ⟨X, hx, hby, hml, hown, hZ, hr0, hlk, hh, -⟩ := P
  obtain ⟨fs, hr, hrun, hended, hW, hsame⟩ := X.leave (v := some (.int z)) (fun h => by rw [hr0] at h; cases h) hlk
  refine ⟨_, _, retN X hx (t := .boolean) hr0 (by simp) (hb hby hd) (by rw [hz]; exact hr), hrun, hended, _, _, rfl, ?_, ⟨_, rfl⟩, hW, hsame.mono hc hs⟩
  rw [← hh] at hq
  exact hq
theorem own_retV {Q : Option Value → Heap → List Loc → Prop} {kc ks : Nat} (P : own_S Z own nm bytes mx none p l e R s m args below meth c T h locs cells slots) (hd : decode bytes pc = .ok (.return_, 1)) (hc : cells ≤ kc) (hs : slots ≤ ks) (hq : Q none h locs) :
    own_Go p e below (own_K s Q kc ks) (T.setTop (mkF m pc Ls [])) := by
  obtain ⟨X, hx, hby, hml, hown, hZ, hr0, hlk, hh, -⟩ := P
  obtain ⟨fs, hr, hrun, hended, hW, hsame⟩ := X.leave (v := none) (fun _ => rfl) hlk
  refine ⟨_, _, X.returnOut hx hr0 (hb hby hd) hr, hrun, hended, _, _, rfl, ?_, ⟨_, rfl⟩, hW, hsame.mono hc hs⟩
  rw [← hh] at hq
  exact hq
/-- a method's contract: from these arguments and this heap it returns as Q says -/
def own_Con (l : Launch) (Z : State) (y : MethodName) (bytes : ByteArray) (mx : Nat) (rt : Option FieldType) (ws : List Jvm.Cond) (rm : Room) (as' : Array Value) (h : Heap) (Q : Option Value → Heap → List Loc → Prop) : Prop :=
  MetFree l y (head1 (Jvm.Cond.code y bytes mx rt :: ws) rm) (fun a U => a = as' ∧ Z.Warmed39 U.vm ∧ U.heap = h) (fun _ _ _ _ _ => True) (fun _ U o U' => ∃ v L, o = .returned v ∧ Q v U'.heap L ∧ FrameEnd U o U' L rm.cells rm.slots)
/-- it returned v, wrote nothing and made nothing -/
def own_P (v : Option Value) (h : Heap) (v' : Option Value) (h' : Heap) (L : List Loc) : Prop := v' = v ∧ L = [] ∧ h' = h
theorem own_enter {y : MethodName} {ws : List Jvm.Cond} {rm : Room} {as' : Array Value} {Q : Option Value → Heap → List Loc → Prop} (hpl : plainFor y = true) (Ls : Array Slot) (hef : ∀ m, entryFrame m as' mx = mkF m 0 Ls [])
    (body : ∀ (p : Program) (e : Env) (s : State) (m : MethodId) (below : List Frame) (meth : Method) (c : Code) (T : State), own_S Z y.cls y.name bytes mx rt p l e rm s m as' below meth c T h [] 0 0 → own_Go p e below (own_K s Q rm.cells rm.slots) (T.setTop (mkF m 0 Ls []))) :
    own_Con l Z y bytes mx rt ws rm as' h Q := by
  refine MetFree.of_bodySF hpl hisR ?_
  intro p e s m args below meth c s₁ Bd hml0 hP hK
  obtain ⟨rfl, hZ, hh⟩ := hP
  have e0 : s₁.heap = h := by rw [← hh, Bd.state]; rfl
  obtain ⟨t, o, h1, h2, h3, v, L, ho, hq, hf⟩ := body p e s m below meth c s₁ ⟨Stand.of_body Bd, Bd.exec, Bd.bytes, hml0, findClass_of_methodNamed Bd.named, hZ, Bd.returns, BodyLoose.notSynchronized Bd, e0, (name_of_methodNamed Bd.named Bd.method).1⟩
  exact ⟨t, o, castTop (hef m) h1, h2, h3, v, L, ho, hq, hf⟩
theorem own_callQ (P : own_S Z own nm bytes mx rt p l e R s m args below meth c T h locs cells slots) {idx : Nat} {y : MethodName} {by' : ByteArray} {mx' : Nat} {rt' : Option FieldType} {rm : Room} {Q : Option Value → Heap → List Loc → Prop} {argsL st : List Value} {ps : List FieldType} {rr : Option FieldType}
    (wl : (Cond.methodLink own idx y).before a0 Z = true) (wt : (Cond.static y).before a0 Z = true) (wi : (Cond.initialized y.cls).before a0 Z = true) (wc : (Cond.code y by' mx' rt').before a0 Z = true) (hy : y.cls ≠ "java/lang/invoke/MethodHandle" ∧ y.cls ≠ "java/lang/invoke/VarHandle")
    (hM : own_Con l Z y by' mx' rt' [] rm argsL.toArray h Q) (hd : decode bytes pc = .ok (.invokestatic idx, 3)) (hp : pc + 3 = pc') (hdes : parseMethodDescriptor y.desc = some ⟨ps, rr⟩) (hlen : argsL.length = ps.length) (hsz : Ls.size = mx) (hst : st = argsL.reverse ++ rest)
    (hf : rm.frames + 1 ≤ R.frames) (W : Nat) (hW : (rest.map fun v => v.category).sum = W) (hl : W + (mx' + 11) + rm.locals ≤ R.locals) (hc : cells + rm.cells ≤ R.cells) (hs : slots + rm.slots ≤ R.slots)
    (k : ∀ T' h' v L, Q v h' L → own_S Z own nm bytes mx rt p l e R s m args below meth c T' h' (locs ++ L) (cells + rm.cells) (slots + rm.slots) → own_Go p e below K (T'.setTop (mkF m pc' Ls (v.toList ++ rest)))) :
    own_Go p e below K (T.setTop (mkF m pc Ls st)) := by
  subst hp
  obtain ⟨v, _, ⟨T3, L3, k3, n3⟩, -, X3, ⟨Lc3, hQ3, l3, y3, z3⟩, st3⟩ := Jvm.LawKit.callS P.st P.ex (y := y) P.ow (mvT P.wz wl) (mvT P.wz wt) (mvT P.wz wi) (mvT P.wz wc) hy (backOf (W := W) hM P.wz wc wi hf hl) (g := (mkF m pc Ls st)) rfl (by rw [P.ml]; exact hsz) (argsL := argsL) (rest := rest) (lenOf hdes hlen) hst (by show 2 * 0 + _ ≤ _; rw [hW]; exact Nat.le_of_eq (by simp)) (P.cd hd) (fun _ _ => ⟨rfl, P.hp, hc, hs⟩)
  dsimp only [Pt.U, Pt.locs, Pt.cells, Pt.slots] at X3 l3 y3 z3 st3 hQ3
  subst l3 y3 z3
  exact own_st st3 (k T3 T3.heap v Lc3 hQ3 (P.move X3 rfl))
theorem own_callP (P : own_S Z own nm bytes mx rt p l e R s m args below meth c T h locs cells slots) {idx : Nat} {y : MethodName} {by' : ByteArray} {mx' : Nat} {rt' : Option FieldType} {rm : Room} {v : Option Value} {argsL st : List Value} {ps : List FieldType} {rr : Option FieldType}
    (wl : (Cond.methodLink own idx y).before a0 Z = true) (wt : (Cond.static y).before a0 Z = true) (wi : (Cond.initialized y.cls).before a0 Z = true) (wc : (Cond.code y by' mx' rt').before a0 Z = true) (hy : y.cls ≠ "java/lang/invoke/MethodHandle" ∧ y.cls ≠ "java/lang/invoke/VarHandle")
    (hM : own_Con l Z y by' mx' rt' [] rm argsL.toArray h (own_P v h)) (hd : decode bytes pc = .ok (.invokestatic idx, 3)) (hp : pc + 3 = pc') (hdes : parseMethodDescriptor y.desc = some ⟨ps, rr⟩) (hlen : argsL.length = ps.length) (hsz : Ls.size = mx) (hst : st = argsL.reverse ++ rest)
    (hf : rm.frames + 1 ≤ R.frames) (W : Nat) (hW : (rest.map fun v => v.category).sum = W) (hl : W + (mx' + 11) + rm.locals ≤ R.locals) (hc : rm.cells = 0) (hs : rm.slots = 0) (hcc : cells ≤ R.cells) (hss : slots ≤ R.slots)
    (k : ∀ T', own_S Z own nm bytes mx rt p l e R s m args below meth c T' h locs cells slots → own_Go p e below K (T'.setTop (mkF m pc' Ls (v.toList ++ rest)))) :
    own_Go p e below K (T.setTop (mkF m pc Ls st)) := by
  refine own_callQ P wl wt wi wc hy hM hd hp hdes hlen hsz hst hf W hW hl (by rw [hc]; exact hcc) (by rw [hs]; exact hss) fun T' h' v' L hQ P' => ?_
  obtain ⟨rfl, rfl, rfl⟩ := hQ
  rw [hc, hs, List.append_nil] at P'
  exact k T' P'
def own_One (s : Slot) : Prop := s = .unset ∨ ∃ w : Value, s = .val w ∧ w.category = 1
theorem own_conMono {y : MethodName} {ws : List Jvm.Cond} {rm : Room} {as' : Array Value} {Q Q' : Option Value → Heap → List Loc → Prop} (q : own_Con l Z y bytes mx rt ws rm as' h Q) (f : ∀ v h' L, Q v h' L → Q' v h' L) : own_Con l Z y bytes mx rt ws rm as' h Q' := by
  intro p e ha hc hk s m args below hf happ hP hK
  obtain ⟨n, o, h1, h2, h3, v, L, h4, h5, h6⟩ := q p e ha hc hk s m args below hf happ hP hK
  exact ⟨n, o, h1, h2, h3, v, L, h4, f _ _ _ h5, h6⟩
theorem own_S.mono (P : own_S Z own nm bytes mx rt p l e R s m args below meth c T h locs cells slots) {cells' slots' : Nat} (hc : cells ≤ cells') (hs : slots ≤ slots') : own_S Z own nm bytes mx rt p l e R s m args below meth c T h locs cells' slots' :=
  P.move { P.st with same := P.st.same.mono hc hs } P.hp
end OwnBase
section OwnHeap
variable {p : Program} {l : Launch} {e : Env} {R : Room} {s : State} {m : MethodId} {args : Array Value} {below : List Frame} {meth : Method} {c : Code} {T : State} {h : Heap} {locs : List Loc} {cells slots : Nat} {Z : State} {a0 : Array Value} {own nm : String} {bytes : ByteArray} {mx : Nat} {rt : Option FieldType} {K : State → Outcome → Prop} {pc pc' : Nat} {Ls : Array Slot} {rest : List Value}
theorem own_new (P : own_S Z own nm bytes mx rt p l e R s m args below meth c T h locs cells slots) {C : String} {idx n : Nat} (wl : (Cond.classLink own idx C).before a0 Z = true) (wi : (Cond.instantiable C n).before a0 Z = true) (wz : (Cond.initialized C).before a0 Z = true) (hd : decode bytes pc = .ok (.new idx, 3)) (hp : pc + 3 = pc') (hc : cells + 1 ≤ R.cells) (hl : slots + n ≤ R.slots)
    (k : ∀ (T' : State) (h' : Heap) (a : Addr), a = h.size → Ext h h' → Exa Z h' a C → (∀ {O fn d : String} {ty : FieldType}, Laid Z a0 C O fn d → parseFieldDescriptor d = some ty → Fld Z h' a O fn d (defaultValue ty)) → own_S Z own nm bytes mx rt p l e R s m args below meth c T' h' locs (cells + 1) (slots + n) → own_Go p e below K (T'.setTop (mkF m pc' Ls (.ref a :: rest)))) :
    own_Go p e below K (T.setTop (mkF m pc Ls rest)) := by
  subst hp
  obtain ⟨T2, h2, X2, e2, E2, A2, D2, -, st2⟩ := newO P.st P.ex P.wz P.ow wl wi wz P.hp (g := mkF m pc Ls rest) rfl (P.cd hd) hc hl
  exact own_st st2 (k T2 h2 h.size rfl E2 A2 D2 (P.move X2 e2))
theorem own_initO (P : own_S Z own nm bytes mx rt p l e R s m args below meth c T h locs cells slots) {idx : Nat} {a : Addr} (w1 : (Cond.methodLink own idx Lib.objectInit).before a0 Z = true) (w2 : (Cond.instanceMethod Lib.objectInit).before a0 Z = true) (w3 : (Cond.code Lib.objectInit ⟨#[0xb1]⟩ 1 none).before a0 Z = true) (hd : decode bytes pc = .ok (.invokespecial idx, 3)) (hp : pc + 3 = pc') (hsz : Ls.size = mx) (hf : 1 ≤ R.frames) (W : Nat) (hW : (rest.map fun v => v.category).sum = W) (hl : W + 12 ≤ R.locals)
    (k : ∀ T' : State, own_S Z own nm bytes mx rt p l e R s m args below meth c T' h locs cells slots → own_Go p e below K (T'.setTop (mkF m pc' Ls rest))) : own_Go p e below K (T.setTop (mkF m pc Ls (.ref a :: rest))) := by
  subst hp
  obtain ⟨T2, X2, e2, st2⟩ := initO P.st P.ex P.wz P.ow w1 w2 w3 P.hp (g := mkF m pc Ls (.ref a :: rest)) rfl (by rw [P.ml]; exact hsz) rfl (P.cd hd) hf (W := W) (by show 2 * 0 + _ ≤ _; rw [hW]; exact Nat.le_of_eq (by simp)) hl
  exact own_st st2 (k T2 (P.move X2 e2))
theorem own_getF (P : own_S Z own nm bytes mx rt p l e R s m args below meth c T h locs cells slots) {idx : Nat} {O fn d : String} {a : Addr} {v : Value} (wf : (Cond.fieldLink own idx O fn d).before a0 Z = true) (F : Fld Z h a O fn d v) (hd : decode bytes pc = .ok (.getfield idx, 3)) (hp : pc + 3 = pc')
    (k : ∀ T' : State, own_S Z own nm bytes mx rt p l e R s m args below meth c T' h locs cells slots → own_Go p e below K (T'.setTop (mkF m pc' Ls (v :: rest)))) : own_Go p e below K (T.setTop (mkF m pc Ls (.ref a :: rest))) := by
  subst hp
  obtain ⟨T2, X2, e2, st2⟩ := getF P.st P.ex P.wz P.ow (host := "") (Or.inl wf) Via.refl P.hp F (g := mkF m pc Ls (.ref a :: rest)) rfl rfl (P.cd hd)
  exact own_st st2 (k T2 (P.move X2 e2))
theorem own_putF (P : own_S Z own nm bytes mx rt p l e R s m args below meth c T h locs cells slots) {idx kk : Nat} {C O fn d : String} {ty : FieldType} {a : Addr} {v old : Value} (wf : (Cond.fieldLink own idx O fn d).before a0 Z = true) (F : Fld Z h a O fn d old) (E : Exa Z h a C) (L : (Cond.lays C O fn d).before a0 Z = true ∨ ((Cond.laysFinal C O fn d).before a0 Z = true ∧ own = O ∧ nm = "<init>")) (wi : (Cond.instantiable C kk).before a0 Z = true) (hty : parseFieldDescriptor d = some ty) (hn : narrow ty v = v) (hf : fits ty v = true) (hd : decode bytes pc = .ok (.putfield idx, 3)) (hp : pc + 3 = pc')
    (k : ∀ (T' : State) (h' : Heap), Wr h h' a (Jvm.RoadKit.slotOf Z O fn d) v → own_S Z own nm bytes mx rt p l e R s m args below meth c T' h' (locs ++ [⟨a, Jvm.RoadKit.slotOf Z O fn d⟩]) cells slots → own_Go p e below K (T'.setTop (mkF m pc' Ls rest))) : own_Go p e below K (T.setTop (mkF m pc Ls (v :: .ref a :: rest))) := by
  subst hp
  obtain ⟨T2, h2, X2, e2, W2, st2⟩ := putF P.st P.ex P.wz P.ow (host := "") (Or.inl wf) Via.refl P.hp F E (L.imp id fun q => ⟨q.1, q.2.1, P.nmm.trans q.2.2⟩) wi hty hn hf (g := mkF m pc Ls (v :: .ref a :: rest)) rfl rfl (P.cd hd)
  exact own_st st2 (k T2 h2 W2 (P.move X2 e2))
theorem own_init (P : own_S Z own nm bytes mx rt p l e R s m args below meth c T h locs cells slots) {idx : Nat} {y : MethodName} {by' : ByteArray} {mx' : Nat} {rm : Room} {Q : Option Value → Heap → List Loc → Prop} {a : Addr} {argsL st : List Value} {ps : List FieldType} {rr : Option FieldType} (hy1 : y.name = "<init>")
    (wl : (Cond.methodLink own idx y).before a0 Z = true) (wm : (Cond.instanceMethod y).before a0 Z = true) (wi : (Cond.initialized y.cls).before a0 Z = true) (wc : (Cond.code y by' mx' none).before a0 Z = true) (hy : y.cls ≠ "java/lang/invoke/MethodHandle" ∧ y.cls ≠ "java/lang/invoke/VarHandle")
    (hM : own_Con l Z y by' mx' none [] rm (.ref a :: argsL).toArray h Q) (hd : decode bytes pc = .ok (.invokespecial idx, 3)) (hp : pc + 3 = pc') (hdes : parseMethodDescriptor y.desc = some ⟨ps, rr⟩) (hlen : argsL.length = ps.length) (hsz : Ls.size = mx) (hst : st = argsL.reverse ++ .ref a :: rest)
    (hf : rm.frames + 1 ≤ R.frames) (W : Nat) (hW : (rest.map fun v => v.category).sum = W) (hl : W + (mx' + 11) + rm.locals ≤ R.locals) (hc : cells + rm.cells ≤ R.cells) (hs : slots + rm.slots ≤ R.slots)
    (k : ∀ T' h' v L, Q v h' L → own_S Z own nm bytes mx rt p l e R s m args below meth c T' h' (locs ++ L) (cells + rm.cells) (slots + rm.slots) → own_Go p e below K (T'.setTop (mkF m pc' Ls (v.toList ++ rest)))) :
    own_Go p e below K (T.setTop (mkF m pc Ls st)) := by
  subst hp
  obtain ⟨v, _, ⟨T3, L3, k3, n3⟩, -, X3, ⟨Lc3, hQ3, l3, y3, z3⟩, st3⟩ := P.st.specialBack P.ex (y := y) hy1 P.ow (mvT P.wz wl) (mvT P.wz wm) (mvT P.wz wc) hy (backOf (W := W) hM P.wz wc wi hf hl) (g := (mkF m pc Ls st)) rfl (by rw [P.ml]; exact hsz) (Steps.refl _) (a := a) (argsL := argsL) (rest := rest) (lenOf hdes hlen) hst (by show 2 * 0 + _ ≤ _; rw [hW]; exact Nat.le_of_eq (by simp)) (P.cd hd) (fun _ _ => ⟨rfl, P.hp, hc, hs⟩)
  dsimp only [Pt.U, Pt.locs, Pt.cells, Pt.slots] at X3 l3 y3 z3 st3 hQ3
  subst l3 y3 z3
  exact own_st (fun t q => st3.trans q) (k T3 T3.heap v Lc3 hQ3 (P.move X3 rfl))
theorem own_virt (P : own_S Z own nm bytes mx rt p l e R s m args below meth c T h locs cells slots) {idx : Nat} {C : String} {y : MethodName} {by' : ByteArray} {mx' : Nat} {rt' : Option FieldType} {rm : Room} {Q : Option Value → Heap → List Loc → Prop} {a : Addr} {argsL st : List Value} {ps : List FieldType} {rr : Option FieldType}
    (wl : (Cond.methodLink own idx y).before a0 Z = true) (wd : (Cond.declares y).before a0 Z = true) (wsel : (Cond.selects C y y).before a0 Z = true) (wm : (Cond.instanceMethod y).before a0 Z = true) (wi : (Cond.initialized y.cls).before a0 Z = true) (wc : (Cond.code y by' mx' rt').before a0 Z = true) (hy : y.cls ≠ "java/lang/invoke/MethodHandle" ∧ y.cls ≠ "java/lang/invoke/VarHandle") (E : Exa Z h a C)
    (hM : own_Con l Z y by' mx' rt' [] rm (.ref a :: argsL).toArray h Q) (hd : decode bytes pc = .ok (.invokevirtual idx, 3)) (hp : pc + 3 = pc') (hdes : parseMethodDescriptor y.desc = some ⟨ps, rr⟩) (hlen : argsL.length = ps.length) (hsz : Ls.size = mx) (hst : st = argsL.reverse ++ .ref a :: rest)
    (hf : rm.frames + 1 ≤ R.frames) (W : Nat) (hW : (rest.map fun v => v.category).sum = W) (hl : W + (mx' + 11) + rm.locals ≤ R.locals) (hc : cells + rm.cells ≤ R.cells) (hs : slots + rm.slots ≤ R.slots)
    (k : ∀ T' h' v L, Q v h' L → own_S Z own nm bytes mx rt p l e R s m args below meth c T' h' (locs ++ L) (cells + rm.cells) (slots + rm.slots) → own_Go p e below K (T'.setTop (mkF m pc' Ls (v.toList ++ rest)))) :
    own_Go p e below K (T.setTop (mkF m pc Ls st)) := by
  subst hp
  obtain ⟨cq, kq, qa, qb, qc⟩ := isOf P.wz P.hp E
  obtain ⟨v, _, ⟨T3, L3, k3, n3⟩, -, X3, ⟨Lc3, hQ3, l3, y3, z3⟩, st3⟩ := P.st.virtualBack P.ex (y := y) (z := y) P.ow (mvT P.wz wl) (mvT P.wz wd) (notFace_of_selects (args := #[]) (mvT P.wz wsel)) (mvT P.wz wsel) (mvT P.wz wm) hy (backOf (W := W) hM P.wz wc wi hf hl) qa qc (g := (mkF m pc Ls st)) rfl (by rw [P.ml]; exact hsz) (Steps.refl _) (argsL := argsL) (rest := rest) (lenOf hdes hlen) hst (by show 2 * 0 + _ ≤ _; rw [hW]; exact Nat.le_of_eq (by simp)) (P.cd hd) (fun _ _ => ⟨rfl, P.hp, hc, hs⟩)
  dsimp only [Pt.U, Pt.locs, Pt.cells, Pt.slots] at X3 l3 y3 z3 st3 hQ3
  subst l3 y3 z3
  exact own_st (fun t q => st3.trans q) (k T3 T3.heap v Lc3 hQ3 (P.move X3 rfl))
theorem own_initP (P : own_S Z own nm bytes mx rt p l e R s m args below meth c T h locs cells slots) {idx : Nat} {y : MethodName} {by' : ByteArray} {mx' : Nat} {rm : Room} {v : Option Value} {a : Addr} {argsL st : List Value} {ps : List FieldType} {rr : Option FieldType} (hy1 : y.name = "<init>")
    (wl : (Cond.methodLink own idx y).before a0 Z = true) (wm : (Cond.instanceMethod y).before a0 Z = true) (wi : (Cond.initialized y.cls).before a0 Z = true) (wc : (Cond.code y by' mx' none).before a0 Z = true) (hy : y.cls ≠ "java/lang/invoke/MethodHandle" ∧ y.cls ≠ "java/lang/invoke/VarHandle")
    (hM : own_Con l Z y by' mx' none [] rm (.ref a :: argsL).toArray h (own_P v h)) (hd : decode bytes pc = .ok (.invokespecial idx, 3)) (hp : pc + 3 = pc') (hdes : parseMethodDescriptor y.desc = some ⟨ps, rr⟩) (hlen : argsL.length = ps.length) (hsz : Ls.size = mx) (hst : st = argsL.reverse ++ .ref a :: rest)
    (hf : rm.frames + 1 ≤ R.frames) (W : Nat) (hW : (rest.map fun v => v.category).sum = W) (hl : W + (mx' + 11) + rm.locals ≤ R.locals) (hc : rm.cells = 0) (hs : rm.slots = 0) (hcc : cells ≤ R.cells) (hss : slots ≤ R.slots)
    (k : ∀ T', own_S Z own nm bytes mx rt p l e R s m args below meth c T' h locs cells slots → own_Go p e below K (T'.setTop (mkF m pc' Ls (v.toList ++ rest)))) :
    own_Go p e below K (T.setTop (mkF m pc Ls st)) := by
  refine own_init P hy1 wl wm wi wc hy hM hd hp hdes hlen hsz hst hf W hW hl (by rw [hc]; exact hcc) (by rw [hs]; exact hss) fun T' h' v' L hQ P' => ?_
  obtain ⟨rfl, rfl, rfl⟩ := hQ
  rw [hc, hs, List.append_nil] at P'
  exact k T' P'
theorem own_virtP (P : own_S Z own nm bytes mx rt p l e R s m args below meth c T h locs cells slots) {idx : Nat} {C : String} {y : MethodName} {by' : ByteArray} {mx' : Nat} {rt' : Option FieldType} {rm : Room} {v : Option Value} {a : Addr} {argsL st : List Value} {ps : List FieldType} {rr : Option FieldType}
    (wl : (Cond.methodLink own idx y).before a0 Z = true) (wd : (Cond.declares y).before a0 Z = true) (wsel : (Cond.selects C y y).before a0 Z = true) (wm : (Cond.instanceMethod y).before a0 Z = true) (wi : (Cond.initialized y.cls).before a0 Z = true) (wc : (Cond.code y by' mx' rt').before a0 Z = true) (hy : y.cls ≠ "java/lang/invoke/MethodHandle" ∧ y.cls ≠ "java/lang/invoke/VarHandle") (E : Exa Z h a C)
    (hM : own_Con l Z y by' mx' rt' [] rm (.ref a :: argsL).toArray h (own_P v h)) (hd : decode bytes pc = .ok (.invokevirtual idx, 3)) (hp : pc + 3 = pc') (hdes : parseMethodDescriptor y.desc = some ⟨ps, rr⟩) (hlen : argsL.length = ps.length) (hsz : Ls.size = mx) (hst : st = argsL.reverse ++ .ref a :: rest)
    (hf : rm.frames + 1 ≤ R.frames) (W : Nat) (hW : (rest.map fun v => v.category).sum = W) (hl : W + (mx' + 11) + rm.locals ≤ R.locals) (hc : rm.cells = 0) (hs : rm.slots = 0) (hcc : cells ≤ R.cells) (hss : slots ≤ R.slots)
    (k : ∀ T', own_S Z own nm bytes mx rt p l e R s m args below meth c T' h locs cells slots → own_Go p e below K (T'.setTop (mkF m pc' Ls (v.toList ++ rest)))) :
    own_Go p e below K (T.setTop (mkF m pc Ls st)) := by
  refine own_virt P wl wd wsel wm wi wc hy E hM hd hp hdes hlen hsz hst hf W hW hl (by rw [hc]; exact hcc) (by rw [hs]; exact hss) fun T' h' v' L hQ P' => ?_
  obtain ⟨rfl, rfl, rfl⟩ := hQ
  rw [hc, hs, List.append_nil] at P'
  exact k T' P'
/-- an array of ints (chars, bytes) that holds just the list vs -/
def own_Ar (Z : State) (h : Heap) (a : Addr) (ty : FieldType) (vs : List Int32) : Prop := ∃ c : Cell, Arr Z h a c ty ∧ c.slots = (vs.map Value.int).toArray
theorem own_Ar.lt {a : Addr} {ty : FieldType} {vs : List Int32} (A : own_Ar Z h a ty vs) : a < h.size := by obtain ⟨c, q, -⟩ := A; exact q.lt
theorem own_Ar.ext {h' : Heap} {a : Addr} {ty : FieldType} {vs : List Int32} (A : own_Ar Z h a ty vs) (E : Ext h h') : own_Ar Z h' a ty vs := by obtain ⟨c, q, r⟩ := A; exact ⟨c, q.ext E, r⟩
theorem own_Ar.other {h' : Heap} {a b : Addr} {ty : FieldType} {vs : List Int32} {sl : Nat} {v : Value} (A : own_Ar Z h b ty vs) (W : Wr h h' a sl v) (ne : b ≠ a) : own_Ar Z h' b ty vs := by obtain ⟨c, q, r⟩ := A; exact ⟨c, q.other W ne, r⟩
theorem own_Ar.keep {h' : Heap} {a : Addr} {ty : FieldType} {vs : List Int32} {ws : List Addr} (A : own_Ar Z h a ty vs) (Kp : Keep h h' ws) (ne : a ∉ ws) : own_Ar Z h' a ty vs := by obtain ⟨c, q, r⟩ := A; exact ⟨c, ⟨Kp.2.1 a c q.1 ne, q.2⟩, r⟩
theorem own_Ar.set {h' : Heap} {a : Addr} {ty : FieldType} {vs : List Int32} {j : Nat} {x : Int32} (A : own_Ar Z h a ty vs) (W : Wr h h' a j (.int x)) : own_Ar Z h' a ty (vs.set j x) := by
  obtain ⟨c, q, r⟩ := A
  refine ⟨_, q.same W, ?_⟩
  simp only [Cell.setSlot]
  rw [r]
  simp
theorem own_arrNew (P : own_S Z own nm bytes mx rt p l e R s m args below meth c T h locs cells slots) {aty : ArrayType} {ty : FieldType} {n : Int32} (cap : Nat) (wa : (Cond.arrayClass ty).before a0 Z = true) (ht : newarray.typeOf aty = ty) (hdv : defaultValue ty = .int 0) (hd : decode bytes pc = .ok (.newarray aty, 2)) (hp : pc + 2 = pc') (hn : 0 ≤ n.toInt) (hcap : n.toInt.toNat ≤ cap) (hb : cap * 8 ≤ 536870912) (hc : cells + 1 ≤ R.cells) (hl : slots + cap ≤ R.slots)
    (k : ∀ (T' : State) (h' : Heap) (a : Addr), a = h.size → Ext h h' → own_Ar Z h' a ty (List.replicate n.toInt.toNat 0) → own_S Z own nm bytes mx rt p l e R s m args below meth c T' h' locs (cells + 1) (slots + cap) → own_Go p e below K (T'.setTop (mkF m pc' Ls (.ref a :: rest)))) :
    own_Go p e below K (T.setTop (mkF m pc Ls (.int n :: rest))) := by
  subst hp ht
  have hn' : ¬ n < 0 := by rw [Int32.lt_iff_toInt_lt]; exact Int.not_lt.mpr hn
  obtain ⟨T2, h2, cA, X2, e2, E2, A2, st2⟩ := newP P.st P.ex P.wz (aty := aty) wa P.hp (g := mkF m pc Ls (.int n :: rest)) rfl (P.cd hd) rfl hn' (cap := cap) hcap hb hc hl
  refine own_st st2 (k T2 h2 h.size rfl E2 ⟨_, A2, ?_⟩ (P.move X2 e2))
  show Array.replicate n.toNatClampNeg (defaultValue _) = _
  rw [hdv]
  show Array.replicate n.toInt.toNat (Value.int 0) = _
  simp
theorem own_arrIn {a : Addr} {ty : FieldType} {vs : List Int32} {c : Cell} {j : Int32} (r : c.slots = (vs.map Value.int).toArray) (h1 : 0 ≤ j.toInt) (h2 : j.toInt.toNat < vs.length) : ¬ (j < 0 ∨ c.slots.size ≤ j.toNatClampNeg) := by
  rintro (q | q)
  · rw [Int32.lt_iff_toInt_lt] at q
    have z : (0 : Int32).toInt = 0 := rfl
    omega
  · rw [r] at q
    simp only [List.size_toArray, List.length_map, Int32.toNatClampNeg] at q
    omega
theorem own_arrAt {vs : List Int32} {c : Cell} {j x : Int32} (r : c.slots = (vs.map Value.int).toArray) (h2 : j.toInt.toNat < vs.length) (hx : vs.getD j.toInt.toNat 0 = x) : c.slots[j.toNatClampNeg]? = some (.int x) := by
  subst hx
  rw [r]
  show (vs.map Value.int).toArray[j.toInt.toNat]? = _
  rw [List.getElem?_toArray, List.getElem?_map, List.getD_eq_getElem?_getD, List.getElem?_eq_getElem h2]
  rfl
theorem own_alen (P : own_S Z own nm bytes mx rt p l e R s m args below meth c T h locs cells slots) {a : Addr} {ty : FieldType} {vs : List Int32} {v : Int32} (A : own_Ar Z h a ty vs) (hd : decode bytes pc = .ok (.arraylength, 1)) (hp : pc + 1 = pc') (hv : Int32.ofNat vs.length = v)
    (k : own_Go p e below K (T.setTop (mkF m pc' Ls (.int v :: rest)))) : own_Go p e below K (T.setTop (mkF m pc Ls (.ref a :: rest))) := by
  subst hp hv
  obtain ⟨c, q, r⟩ := A
  have hsz : c.slots.size.toInt32 = Int32.ofNat vs.length := by rw [r]; simp
  refine own_st (fun t kk => P.st.arraylength P.ex (cell := c) (by rw [P.hp]; exact q.1) (State.isArrayOf_alike P.wz.alike q.2.1) (g := mkF m pc Ls (.ref a :: rest)) rfl (rest := rest) rfl (P.cd hd) t ?_) k
  rw [hsz]
  exact kk
theorem own_iaload (P : own_S Z own nm bytes mx rt p l e R s m args below meth c T h locs cells slots) {a : Addr} {vs : List Int32} {j x : Int32} (A : own_Ar Z h a .int vs) (hd : decode bytes pc = .ok (.iaload, 1)) (hp : pc + 1 = pc') (h1 : 0 ≤ j.toInt) (h2 : j.toInt.toNat < vs.length) (hx : vs.getD j.toInt.toNat 0 = x)
    (k : own_Go p e below K (T.setTop (mkF m pc' Ls (.int x :: rest)))) : own_Go p e below K (T.setTop (mkF m pc Ls (.int j :: .ref a :: rest))) := by
  subst hp
  obtain ⟨c, q, r⟩ := A
  exact own_st (fun t kk => P.st.iaload P.ex (j := j) (v := .int x) (by rw [P.hp]; exact q.1) (State.isArrayOf_alike P.wz.alike q.2.1) q.2.2 (own_arrIn (a := a) (ty := .int) r h1 h2) (own_arrAt r h2 hx) (g := mkF m pc Ls (.int j :: .ref a :: rest)) rfl rfl (P.cd hd) t kk) k
theorem own_caload (P : own_S Z own nm bytes mx rt p l e R s m args below meth c T h locs cells slots) {a : Addr} {vs : List Int32} {j x : Int32} (A : own_Ar Z h a .char vs) (hd : decode bytes pc = .ok (.caload, 1)) (hp : pc + 1 = pc') (h1 : 0 ≤ j.toInt) (h2 : j.toInt.toNat < vs.length) (hx : vs.getD j.toInt.toNat 0 = x)
    (k : own_Go p e below K (T.setTop (mkF m pc' Ls (.int x :: rest)))) : own_Go p e below K (T.setTop (mkF m pc Ls (.int j :: .ref a :: rest))) := by
  subst hp
  obtain ⟨c, q, r⟩ := A
  exact own_st (fun t kk => P.st.caload P.ex (j := j) (v := .int x) (by rw [P.hp]; exact q.1) (State.isArrayOf_alike P.wz.alike q.2.1) q.2.2 (own_arrIn (a := a) (ty := .char) r h1 h2) (own_arrAt r h2 hx) (g := mkF m pc Ls (.int j :: .ref a :: rest)) rfl rfl (P.cd hd) t kk) k
theorem own_baload (P : own_S Z own nm bytes mx rt p l e R s m args below meth c T h locs cells slots) {a : Addr} {vs : List Int32} {j x : Int32} (A : own_Ar Z h a .byte vs) (hd : decode bytes pc = .ok (.baload, 1)) (hp : pc + 1 = pc') (h1 : 0 ≤ j.toInt) (h2 : j.toInt.toNat < vs.length) (hx : vs.getD j.toInt.toNat 0 = x)
    (k : own_Go p e below K (T.setTop (mkF m pc' Ls (.int x :: rest)))) : own_Go p e below K (T.setTop (mkF m pc Ls (.int j :: .ref a :: rest))) := by
  subst hp
  obtain ⟨c, q, r⟩ := A
  exact own_st (fun t kk => P.st.baloadBytes P.ex (j := j) (v := .int x) (by rw [P.hp]; exact q.1) (State.isArrayOf_alike P.wz.alike q.2.1) q.2.2 (own_arrIn (a := a) (ty := .byte) r h1 h2) (own_arrAt r h2 hx) (g := mkF m pc Ls (.int j :: .ref a :: rest)) rfl rfl (P.cd hd) t kk) k
theorem own_iastore (P : own_S Z own nm bytes mx rt p l e R s m args below meth c T h locs cells slots) {a : Addr} {vs : List Int32} {j x z : Int32} (A : own_Ar Z h a .int vs) (hd : decode bytes pc = .ok (.iastore, 1)) (hp : pc + 1 = pc') (h1 : 0 ≤ j.toInt) (h2 : j.toInt.toNat < vs.length) (hz : x = z)
    (k : ∀ (T' : State) (h' : Heap), Wr h h' a j.toInt.toNat (.int z) → own_Ar Z h' a .int (vs.set j.toInt.toNat z) → own_S Z own nm bytes mx rt p l e R s m args below meth c T' h' (locs ++ [⟨a, j.toInt.toNat⟩]) cells slots → own_Go p e below K (T'.setTop (mkF m pc' Ls rest))) : own_Go p e below K (T.setTop (mkF m pc Ls (.int x :: .int j :: .ref a :: rest))) := by
  subst hp hz
  have A' := A
  obtain ⟨c, q, r⟩ := A'
  obtain ⟨T2, h2', X2, e2, W2, st2⟩ := stI P.st P.ex P.wz P.hp q (j := j) (own_arrIn (a := a) (ty := .int) r h1 h2) (g := mkF m pc Ls (.int x :: .int j :: .ref a :: rest)) rfl rfl (P.cd hd)
  exact own_st st2 (k T2 h2' W2 (A.set W2) (P.move X2 e2))
theorem own_castore (P : own_S Z own nm bytes mx rt p l e R s m args below meth c T h locs cells slots) {a : Addr} {vs : List Int32} {j x z : Int32} (A : own_Ar Z h a .char vs) (hd : decode bytes pc = .ok (.castore, 1)) (hp : pc + 1 = pc') (h1 : 0 ≤ j.toInt) (h2 : j.toInt.toNat < vs.length) (hz : nar .char x = z)
    (k : ∀ (T' : State) (h' : Heap), Wr h h' a j.toInt.toNat (.int z) → own_Ar Z h' a .char (vs.set j.toInt.toNat z) → own_S Z own nm bytes mx rt p l e R s m args below meth c T' h' (locs ++ [⟨a, j.toInt.toNat⟩]) cells slots → own_Go p e below K (T'.setTop (mkF m pc' Ls rest))) : own_Go p e below K (T.setTop (mkF m pc Ls (.int x :: .int j :: .ref a :: rest))) := by
  subst hp hz
  have A' := A
  obtain ⟨c, q, r⟩ := A'
  obtain ⟨T2, h2', X2, e2, W2, st2⟩ := stC P.st P.ex P.wz P.hp q (j := j) (own_arrIn (a := a) (ty := .char) r h1 h2) (g := mkF m pc Ls (.int x :: .int j :: .ref a :: rest)) rfl rfl (P.cd hd)
  exact own_st st2 (k T2 h2' W2 (A.set W2) (P.move X2 e2))
theorem own_bastore (P : own_S Z own nm bytes mx rt p l e R s m args below meth c T h locs cells slots) {a : Addr} {vs : List Int32} {j x z : Int32} (A : own_Ar Z h a .byte vs) (hd : decode bytes pc = .ok (.bastore, 1)) (hp : pc + 1 = pc') (h1 : 0 ≤ j.toInt) (h2 : j.toInt.toNat < vs.length) (hz : nar .byte x = z)
    (k : ∀ (T' : State) (h' : Heap), Wr h h' a j.toInt.toNat (.int z) → own_Ar Z h' a .byte (vs.set j.toInt.toNat z) → own_S Z own nm bytes mx rt p l e R s m args below meth c T' h' (locs ++ [⟨a, j.toInt.toNat⟩]) cells slots → own_Go p e below K (T'.setTop (mkF m pc' Ls rest))) : own_Go p e below K (T.setTop (mkF m pc Ls (.int x :: .int j :: .ref a :: rest))) := by
  subst hp hz
  have A' := A
  obtain ⟨c, q, r⟩ := A'
  obtain ⟨T2, h2', X2, e2, W2, st2⟩ := stB P.st P.ex P.wz P.hp q (j := j) (own_arrIn (a := a) (ty := .byte) r h1 h2) (g := mkF m pc Ls (.int x :: .int j :: .ref a :: rest)) rfl rfl (P.cd hd)
  exact own_st st2 (k T2 h2' W2 (A.set W2) (P.move X2 e2))
end OwnHeap

theorem d2_0 : decode jdk_30_method_1_code 0 = .ok (.aload_n 0, 1) := by decide +kernel
theorem d2_1 : decode jdk_30_method_1_code 1 = .ok (.invokespecial 1, 3) := by decide +kernel
theorem d2_4 : decode jdk_30_method_1_code 4 = .ok (.return_, 1) := by decide +kernel
theorem own_pn0 : plainName "java/lang/Record" = true := by first | (simp [plainName, overriddenIn]; done) | decide +kernel
set_option maxRecDepth 65536 in
set_option maxHeartbeats 40000000 in
theorem rm2 (l : Launch) (Z : State) (a0 : Array Value) (hw : ∀ d ∈ tables_1, d.before a0 Z = true) (o0 : Addr)  (h : Heap) :
    own_Con l Z (⟨"java/lang/Record", "<init>", "()V"⟩ : MethodName) jdk_30_method_1_code 1 none [] ({ frames := 1, cells := 0, slots := 0, locals := 12 } : Room) #[(.ref o0)] h (own_P none h) := by
  refine own_enter (plainFor_of_name own_pn0) #[.val (.ref o0)] (fun m => by first | (simp [entryFrame, mkF, argsToLocals, Value.category]; done) | rfl) ?_
  intro p e s m below meth c T P
  replace P : own_S Z "java/lang/Record" "<init>" jdk_30_method_1_code 1 none p l e ({ frames := 1, cells := 0, slots := 0, locals := 12 } : Room) s m #[(.ref o0)] below meth c T h [] 0 0 := P
  refine own_aloadN P d2_0 rfl rfl rfl ?_
  refine own_initO P (hw _ (List.mem_of_getElem? (i := 11) rfl)) (hw _ (List.mem_of_getElem? (i := 12) rfl)) (hw _ (List.mem_of_getElem? (i := 13) rfl)) d2_1 rfl rfl (by decide) 0 rfl (by decide) (fun T2 P1 => ?_)
  exact own_retV P1 d2_4 (by decide) (by decide) ⟨rfl, rfl, rfl⟩
theorem d1_0 : decode prog_101_method_1_code 0 = .ok (.aload_n 0, 1) := by decide +kernel
theorem d1_1 : decode prog_101_method_1_code 1 = .ok (.invokespecial 1, 3) := by decide +kernel
theorem own_pd0 : parseMethodDescriptor "()V" = some ⟨[], none⟩ := by decide +kernel
theorem d1_4 : decode prog_101_method_1_code 4 = .ok (.aload_n 0, 1) := by decide +kernel
theorem d1_5 : decode prog_101_method_1_code 5 = .ok (.lload_n 1, 1) := by decide +kernel
theorem d1_6 : decode prog_101_method_1_code 6 = .ok (.putfield 7, 3) := by decide +kernel
theorem d1_9 : decode prog_101_method_1_code 9 = .ok (.aload_n 0, 1) := by decide +kernel
theorem d1_10 : decode prog_101_method_1_code 10 = .ok (.lload_n 3, 1) := by decide +kernel
theorem d1_11 : decode prog_101_method_1_code 11 = .ok (.putfield 13, 3) := by decide +kernel
theorem d1_14 : decode prog_101_method_1_code 14 = .ok (.return_, 1) := by decide +kernel
theorem own_pn1 : plainName "com/example/zorgkoerier/zorgkoerier/receiver/ByteRange" = true := by first | (simp [plainName, overriddenIn]; done) | decide +kernel
set_option maxRecDepth 65536 in
set_option maxHeartbeats 40000000 in
theorem rm1 (l : Launch) (Z : State) (a0 : Array Value) (hw : ∀ d ∈ tables_1, d.before a0 Z = true) (o0 : Addr) (j1 : Int64) (j3 : Int64)  (h : Heap) (n0 : Nat) (Z0 : n0 ≤ h.size) (g_o0 : n0 ≤ o0) (E_o0 : Exa Z h o0 "com/example/zorgkoerier/zorgkoerier/receiver/ByteRange") (F1 : Fld Z h o0 "com/example/zorgkoerier/zorgkoerier/receiver/ByteRange" "first" "J" (.long (0 : Int64))) (F2 : Fld Z h o0 "com/example/zorgkoerier/zorgkoerier/receiver/ByteRange" "last" "J" (.long (0 : Int64))) :
    own_Con l Z (⟨"com/example/zorgkoerier/zorgkoerier/receiver/ByteRange", "<init>", "(JJ)V"⟩ : MethodName) prog_101_method_1_code 5 none [] ({ frames := 2, cells := 0, slots := 0, locals := 24 } : Room) #[(.ref o0), (.long j1), (.long j3)] h (fun v h' L => v = none ∧ Fr n0 L ∧ Keep h h' [o0] ∧ Fld Z h' o0 "com/example/zorgkoerier/zorgkoerier/receiver/ByteRange" "first" "J" (.long j1) ∧ Fld Z h' o0 "com/example/zorgkoerier/zorgkoerier/receiver/ByteRange" "last" "J" (.long j3)) := by
  refine own_enter (plainFor_of_name own_pn1) #[.val (.ref o0), .val (.long j1), .second, .val (.long j3), .second] (fun m => by first | (simp [entryFrame, mkF, argsToLocals, Value.category]; done) | rfl) ?_
  intro p e s m below meth c T P
  replace P : own_S Z "com/example/zorgkoerier/zorgkoerier/receiver/ByteRange" "<init>" prog_101_method_1_code 5 none p l e ({ frames := 2, cells := 0, slots := 0, locals := 24 } : Room) s m #[(.ref o0), (.long j1), (.long j3)] below meth c T h [] 0 0 := P
  have N0 : Fr n0 [] := Fr.nil n0
  refine own_aloadN P d1_0 rfl rfl rfl ?_
  refine own_initP P rfl (hw _ (List.mem_of_getElem? (i := 6) rfl)) (hw _ (List.mem_of_getElem? (i := 7) rfl)) (hw _ (List.mem_of_getElem? (i := 9) rfl)) (hw _ (List.mem_of_getElem? (i := 10) rfl)) (by decide) (argsL := []) (rest := []) (rm2 l Z a0 hw o0 h) d1_1 rfl own_pd0 rfl rfl rfl (by decide) 0 rfl (by decide) rfl rfl (by decide) (by decide) (fun T4 P3 => ?_)
  show own_Go p e below _ (T4.setTop (mkF m 4 #[.val (.ref o0), .val (.long j1), .second, .val (.long j3), .second] []))
  refine own_aloadN P3 d1_4 rfl rfl rfl ?_
  refine own_lloadN P3 d1_5 rfl rfl ?_
  refine own_putF P3 (hw _ (List.mem_of_getElem? (i := 14) rfl)) F1 E_o0 (Or.inr ⟨(hw _ (List.mem_of_getElem? (i := 15) rfl)), rfl, rfl⟩) (hw _ (List.mem_of_getElem? (i := 1) rfl)) (ty := .long) (by decide) rfl rfl d1_6 rfl (fun T10 h11 W12 P9 => ?_)
  have f13 := F1.same W12
  have N14 := Fr.snoc P9.st N0 g_o0
  have K15 := (Keep.refl h [o0]).wr W12 (Or.inl (List.mem_of_getElem? (i := 0) rfl))
  have f16 := E_o0.wr W12
  have f17 := F2.other W12 (Or.inr (slot_ne (Or.inr (hw _ (List.mem_of_getElem? (i := 17) rfl))) (Or.inr (hw _ (List.mem_of_getElem? (i := 15) rfl))) (by decide) (t := .long) (t' := .long) (by decide) (by decide)))
  refine own_aloadN P9 d1_9 rfl rfl rfl ?_
  refine own_lloadN P9 d1_10 rfl rfl ?_
  refine own_putF P9 (hw _ (List.mem_of_getElem? (i := 16) rfl)) f17 f16 (Or.inr ⟨(hw _ (List.mem_of_getElem? (i := 17) rfl)), rfl, rfl⟩) (hw _ (List.mem_of_getElem? (i := 1) rfl)) (ty := .long) (by decide) rfl rfl d1_11 rfl (fun T19 h20 W21 P18 => ?_)
  have f22 := f17.same W21
  have N23 := Fr.snoc P18.st N14 g_o0
  have K24 := K15.wr W21 (Or.inl (List.mem_of_getElem? (i := 0) rfl))
  have f25 := f16.wr W21
  have f26 := f13.other W21 (Or.inr (slot_ne (Or.inr (hw _ (List.mem_of_getElem? (i := 15) rfl))) (Or.inr (hw _ (List.mem_of_getElem? (i := 17) rfl))) (by decide) (t := .long) (t' := .long) (by decide) (by decide)))
  exact own_retV P18 d1_14 (by decide) (by decide) ⟨rfl, N23, K24, f26, f22⟩
theorem d4_0 : decode prog_101_method_3_code 0 = .ok (.aload_n 0, 1) := by decide +kernel
theorem d4_1 : decode prog_101_method_3_code 1 = .ok (.getfield 7, 3) := by decide +kernel
theorem d4_4 : decode prog_101_method_3_code 4 = .ok (.aload_n 0, 1) := by decide +kernel
theorem d4_5 : decode prog_101_method_3_code 5 = .ok (.getfield 13, 3) := by decide +kernel
theorem d4_8 : decode prog_101_method_3_code 8 = .ok (.lcmp, 1) := by decide +kernel
theorem d4_9 : decode prog_101_method_3_code 9 = .ok (.ifCond .gt 7, 3) := by decide +kernel
theorem d4_16 : decode prog_101_method_3_code 16 = .ok (.iconst 0, 1) := by decide +kernel
theorem d4_17 : decode prog_101_method_3_code 17 = .ok (.ireturn, 1) := by decide +kernel
theorem d4_12 : decode prog_101_method_3_code 12 = .ok (.iconst 1, 1) := by decide +kernel
theorem d4_13 : decode prog_101_method_3_code 13 = .ok (.goto 4, 3) := by decide +kernel
def F4_0 (f1 : Int64) (f2 : Int64) : Int32 := (if f2 < f1 then (0 : Int32) else (1 : Int32))
set_option maxRecDepth 65536 in
set_option maxHeartbeats 40000000 in
theorem b4_0 {p : Program} {l : Launch} {e : Env} {s : State} {m : MethodId} {args : Array Value} {below : List Frame} {meth : Method} {c : Code} {T : State} {h : Heap} {Z : State} {a0 : Array Value} {Q : Option Value → Heap → List Loc → Prop} (hw : ∀ d ∈ tables_1, d.before a0 Z = true) (o0 : Addr) (f1 : Int64) (f2 : Int64) (F1 : Fld Z h o0 "com/example/zorgkoerier/zorgkoerier/receiver/ByteRange" "first" "J" (.long f1)) (F2 : Fld Z h o0 "com/example/zorgkoerier/zorgkoerier/receiver/ByteRange" "last" "J" (.long f2)) (P : own_S Z "com/example/zorgkoerier/zorgkoerier/receiver/ByteRange" "satisfiable" prog_101_method_3_code 1 (some .boolean) p l e ({ frames := 0, cells := 0, slots := 0, locals := 0 } : Room) s m args below meth c T h [] 0 0) (hQ : Q (some (.int (F4_0 f1 f2))) h []) :
    own_Go p e below (own_K s Q 0 0) (T.setTop (mkF m 0 #[.val (.ref o0)] [])) := by
  unfold F4_0 at hQ
  refine own_aloadN P d4_0 rfl rfl rfl ?_
  refine own_getF P (hw _ (List.mem_of_getElem? (i := 14) rfl)) F1 d4_1 rfl (fun T28 P27 => ?_)
  refine own_aloadN P27 d4_4 rfl rfl rfl ?_
  refine own_getF P27 (hw _ (List.mem_of_getElem? (i := 16) rfl)) F2 d4_5 rfl (fun T30 P29 => ?_)
  by_cases hc31 : f2 < f1
  · rw [if_pos hc31] at hQ
    refine own_lcY P29 (pc' := 16) d4_8 d4_9 hc31 (by decide) (by decide) ?_
    refine own_iconst P29 d4_16 rfl (v := (0 : Int32)) rfl ?_
    exact own_retZ P29 d4_17 (z := (0 : Int32)) rfl (by decide) (by decide) hQ
  · rw [if_neg hc31] at hQ
    refine own_lcN P29 (pc' := 12) d4_8 d4_9 hc31 rfl ?_
    refine own_iconst P29 d4_12 rfl (v := (1 : Int32)) rfl ?_
    refine own_goto P29 (pc' := 17) d4_13 (by decide) (by decide) ?_
    exact own_retZ P29 d4_17 (z := (1 : Int32)) rfl (by decide) (by decide) hQ
theorem rm4 (l : Launch) (Z : State) (a0 : Array Value) (hw : ∀ d ∈ tables_1, d.before a0 Z = true) (o0 : Addr) (f1 : Int64) (f2 : Int64) (h : Heap) (F1 : Fld Z h o0 "com/example/zorgkoerier/zorgkoerier/receiver/ByteRange" "first" "J" (.long f1)) (F2 : Fld Z h o0 "com/example/zorgkoerier/zorgkoerier/receiver/ByteRange" "last" "J" (.long f2)) :
    own_Con l Z (⟨"com/example/zorgkoerier/zorgkoerier/receiver/ByteRange", "satisfiable", "()Z"⟩ : MethodName) prog_101_method_3_code 1 (some .boolean) [] ({ frames := 0, cells := 0, slots := 0, locals := 0 } : Room) #[(.ref o0)] h (own_P (some (.int (F4_0 f1 f2))) h) :=
  own_enter (plainFor_of_name own_pn1) #[.val (.ref o0)] (fun m => by first | (simp [entryFrame, mkF, argsToLocals, Value.category]; done) | rfl) (fun p e s m below meth c T P => b4_0 hw o0 f1 f2 F1 F2 P ⟨rfl, rfl, rfl⟩)
theorem own_pd1 : parseMethodDescriptor "(JJ)V" = some ⟨[.long, .long], none⟩ := by decide +kernel
theorem own_pd2 : parseMethodDescriptor "()Z" = some ⟨[], some .boolean⟩ := by decide +kernel
def F0_153 (i12 : Int32) (i13 : Int32) (i14 : Int32) (si0 : Int32) : Int32 := (if i13 = (0 : Int32) then (0 : Int32) else (if i14 = (0 : Int32) then (0 : Int32) else (if si0 = (0 : Int32) then (0 : Int32) else (if i12 = (0 : Int32) then (0 : Int32) else (1 : Int32)))))
set_option maxRecDepth 65536 in
set_option maxHeartbeats 40000000 in
theorem b0_153 {p : Program} {l : Launch} {e : Env} {s : State} {m : MethodId} {args : Array Value} {below : List Frame} {meth : Method} {c : Code} {T : State} {h : Heap} {locs : List Loc} {Z : State} {a0 : Array Value} {Q : Option Value → Heap → List Loc → Prop} (hw : ∀ d ∈ tables_1, d.before a0 Z = true) (j0 : Int64) (j2 : Int64) (j4 : Int64) (i6 : Int32) (i7 : Int32) (i8 : Int32) (i9 : Int32) (j10 : Int64) (i12 : Int32) (i13 : Int32) (i14 : Int32) (si0 : Int32)  (n0 : Nat) (N : Fr n0 locs) (Z0 : n0 ≤ h.size) (P : own_S Z "com/example/zorgkoerier/zorgkoerier/receiver/ByteRangeSatisfiablePinLaw" "law" code 16 (some .boolean) p l e room_1 s m args below meth c T h locs 5 10) (hQ : ∀ h' L', Fr n0 L' → Q (some (.int (F0_153 i12 i13 i14 si0))) h' L') :
    own_Go p e below (own_K s Q room_1.cells room_1.slots) (T.setTop (mkF m 153 #[.val (.long j0), .second, .val (.long j2), .second, .val (.long j4), .second, .val (.int i6), .val (.int i7), .val (.int i8), .val (.int i9), .val (.long j10), .second, .val (.int i12), .val (.int i13), .val (.int i14), .unset] [(.int si0)])) := by
  unfold F0_153 at hQ
  refine own_istore P at_153 rfl (Ls' := #[.val (.long j0), .second, .val (.long j2), .second, .val (.long j4), .second, .val (.int i6), .val (.int i7), .val (.int i8), .val (.int i9), .val (.long j10), .second, .val (.int i12), .val (.int i13), .val (.int i14), .val (.int si0)]) rfl ?_
  refine own_iload P at_155 rfl rfl ?_
  by_cases hc224 : i13 = (0 : Int32)
  · rw [if_pos hc224] at hQ
    refine own_if0Y P (pc' := 179) at_157 hc224 (by decide) (by decide) ?_
    refine own_iconst P at_179 rfl (v := (0 : Int32)) rfl ?_
    exact own_retZ P at_180 (z := (0 : Int32)) rfl (by decide) (by decide) (hQ _ _ N)
  · rw [if_neg hc224] at hQ
    refine own_if0N P (pc' := 160) at_157 hc224 rfl ?_
    refine own_iload P at_160 rfl rfl ?_
    by_cases hc225 : i14 = (0 : Int32)
    · rw [if_pos hc225] at hQ
      refine own_if0Y P (pc' := 179) at_162 hc225 (by decide) (by decide) ?_
      refine own_iconst P at_179 rfl (v := (0 : Int32)) rfl ?_
      exact own_retZ P at_180 (z := (0 : Int32)) rfl (by decide) (by decide) (hQ _ _ N)
    · rw [if_neg hc225] at hQ
      refine own_if0N P (pc' := 165) at_162 hc225 rfl ?_
      refine own_iload P at_165 rfl rfl ?_
      by_cases hc226 : si0 = (0 : Int32)
      · rw [if_pos hc226] at hQ
        refine own_if0Y P (pc' := 179) at_167 hc226 (by decide) (by decide) ?_
        refine own_iconst P at_179 rfl (v := (0 : Int32)) rfl ?_
        exact own_retZ P at_180 (z := (0 : Int32)) rfl (by decide) (by decide) (hQ _ _ N)
      · rw [if_neg hc226] at hQ
        refine own_if0N P (pc' := 170) at_167 hc226 rfl ?_
        refine own_iload P at_170 rfl rfl ?_
        by_cases hc227 : i12 = (0 : Int32)
        · rw [if_pos hc227] at hQ
          refine own_if0Y P (pc' := 179) at_172 hc227 (by decide) (by decide) ?_
          refine own_iconst P at_179 rfl (v := (0 : Int32)) rfl ?_
          exact own_retZ P at_180 (z := (0 : Int32)) rfl (by decide) (by decide) (hQ _ _ N)
        · rw [if_neg hc227] at hQ
          refine own_if0N P (pc' := 175) at_172 hc227 rfl ?_
          refine own_iconst P at_175 rfl (v := (1 : Int32)) rfl ?_
          refine own_goto P (pc' := 180) at_176 (by decide) (by decide) ?_
          exact own_retZ P at_180 (z := (1 : Int32)) rfl (by decide) (by decide) (hQ _ _ N)
def F0_148 (i12 : Int32) (i13 : Int32) (i14 : Int32) : Int32 := (F0_153 i12 i13 i14 (1 : Int32))
set_option maxRecDepth 65536 in
set_option maxHeartbeats 40000000 in
theorem b0_148 {p : Program} {l : Launch} {e : Env} {s : State} {m : MethodId} {args : Array Value} {below : List Frame} {meth : Method} {c : Code} {T : State} {h : Heap} {locs : List Loc} {Z : State} {a0 : Array Value} {Q : Option Value → Heap → List Loc → Prop} (hw : ∀ d ∈ tables_1, d.before a0 Z = true) (j0 : Int64) (j2 : Int64) (j4 : Int64) (i6 : Int32) (i7 : Int32) (i8 : Int32) (i9 : Int32) (j10 : Int64) (i12 : Int32) (i13 : Int32) (i14 : Int32)  (n0 : Nat) (N : Fr n0 locs) (Z0 : n0 ≤ h.size) (P : own_S Z "com/example/zorgkoerier/zorgkoerier/receiver/ByteRangeSatisfiablePinLaw" "law" code 16 (some .boolean) p l e room_1 s m args below meth c T h locs 5 10) (hQ : ∀ h' L', Fr n0 L' → Q (some (.int (F0_148 i12 i13 i14))) h' L') :
    own_Go p e below (own_K s Q room_1.cells room_1.slots) (T.setTop (mkF m 148 #[.val (.long j0), .second, .val (.long j2), .second, .val (.long j4), .second, .val (.int i6), .val (.int i7), .val (.int i8), .val (.int i9), .val (.long j10), .second, .val (.int i12), .val (.int i13), .val (.int i14), .unset] [])) := by
  unfold F0_148 at hQ
  refine own_iconst P at_148 rfl (v := (1 : Int32)) rfl ?_
  refine own_goto P (pc' := 153) at_149 (by decide) (by decide) ?_
  exact b0_153 hw j0 j2 j4 i6 i7 i8 i9 j10 i12 i13 i14 (1 : Int32)  n0 N Z0    P hQ
def F0_131 (i6 : Int32) (i8 : Int32) (i9 : Int32) (i12 : Int32) (i13 : Int32) (si0 : Int32) : Int32 := (if i6 = (0 : Int32) then (F0_148 i12 i13 si0) else (if i8 = (0 : Int32) then (F0_148 i12 i13 si0) else (if i9 = (0 : Int32) then (F0_153 i12 i13 si0 (0 : Int32)) else (F0_148 i12 i13 si0))))
set_option maxRecDepth 65536 in
set_option maxHeartbeats 40000000 in
theorem b0_131 {p : Program} {l : Launch} {e : Env} {s : State} {m : MethodId} {args : Array Value} {below : List Frame} {meth : Method} {c : Code} {T : State} {h : Heap} {locs : List Loc} {Z : State} {a0 : Array Value} {Q : Option Value → Heap → List Loc → Prop} (hw : ∀ d ∈ tables_1, d.before a0 Z = true) (j0 : Int64) (j2 : Int64) (j4 : Int64) (i6 : Int32) (i7 : Int32) (i8 : Int32) (i9 : Int32) (j10 : Int64) (i12 : Int32) (i13 : Int32) (si0 : Int32)  (n0 : Nat) (N : Fr n0 locs) (Z0 : n0 ≤ h.size) (P : own_S Z "com/example/zorgkoerier/zorgkoerier/receiver/ByteRangeSatisfiablePinLaw" "law" code 16 (some .boolean) p l e room_1 s m args below meth c T h locs 5 10) (hQ : ∀ h' L', Fr n0 L' → Q (some (.int (F0_131 i6 i8 i9 i12 i13 si0))) h' L') :
    own_Go p e below (own_K s Q room_1.cells room_1.slots) (T.setTop (mkF m 131 #[.val (.long j0), .second, .val (.long j2), .second, .val (.long j4), .second, .val (.int i6), .val (.int i7), .val (.int i8), .val (.int i9), .val (.long j10), .second, .val (.int i12), .val (.int i13), .unset, .unset] [(.int si0)])) := by
  unfold F0_131 at hQ
  refine own_istore P at_131 rfl (Ls' := #[.val (.long j0), .second, .val (.long j2), .second, .val (.long j4), .second, .val (.int i6), .val (.int i7), .val (.int i8), .val (.int i9), .val (.long j10), .second, .val (.int i12), .val (.int i13), .val (.int si0), .unset]) rfl ?_
  refine own_iload P at_133 rfl rfl ?_
  by_cases hc223 : i6 = (0 : Int32)
  · rw [if_pos hc223] at hQ
    refine own_if0Y P (pc' := 148) at_135 hc223 (by decide) (by decide) ?_
    exact b0_148 hw j0 j2 j4 i6 i7 i8 i9 j10 i12 i13 si0  n0 N Z0    P hQ
  · rw [if_neg hc223] at hQ
    refine own_if0N P (pc' := 138) at_135 hc223 rfl ?_
    refine own_iload P at_138 rfl rfl ?_
    by_cases hc228 : i8 = (0 : Int32)
    · rw [if_pos hc228] at hQ
      refine own_if0Y P (pc' := 148) at_140 hc228 (by decide) (by decide) ?_
      exact b0_148 hw j0 j2 j4 i6 i7 i8 i9 j10 i12 i13 si0  n0 N Z0    P hQ
    · rw [if_neg hc228] at hQ
      refine own_if0N P (pc' := 143) at_140 hc228 rfl ?_
      refine own_iload P at_143 rfl rfl ?_
      by_cases hc229 : i9 = (0 : Int32)
      · rw [if_pos hc229] at hQ
        refine own_if0Y P (pc' := 152) at_145 hc229 (by decide) (by decide) ?_
        refine own_iconst P at_152 rfl (v := (0 : Int32)) rfl ?_
        exact b0_153 hw j0 j2 j4 i6 i7 i8 i9 j10 i12 i13 si0 (0 : Int32)  n0 N Z0    P hQ
      · rw [if_neg hc229] at hQ
        refine own_if0N P (pc' := 148) at_145 hc229 rfl ?_
        exact b0_148 hw j0 j2 j4 i6 i7 i8 i9 j10 i12 i13 si0  n0 N Z0    P hQ
def F0_126 (i6 : Int32) (i8 : Int32) (i9 : Int32) (i12 : Int32) (i13 : Int32) : Int32 := (F0_131 i6 i8 i9 i12 i13 (1 : Int32))
set_option maxRecDepth 65536 in
set_option maxHeartbeats 40000000 in
theorem b0_126 {p : Program} {l : Launch} {e : Env} {s : State} {m : MethodId} {args : Array Value} {below : List Frame} {meth : Method} {c : Code} {T : State} {h : Heap} {locs : List Loc} {Z : State} {a0 : Array Value} {Q : Option Value → Heap → List Loc → Prop} (hw : ∀ d ∈ tables_1, d.before a0 Z = true) (j0 : Int64) (j2 : Int64) (j4 : Int64) (i6 : Int32) (i7 : Int32) (i8 : Int32) (i9 : Int32) (j10 : Int64) (i12 : Int32) (i13 : Int32)  (n0 : Nat) (N : Fr n0 locs) (Z0 : n0 ≤ h.size) (P : own_S Z "com/example/zorgkoerier/zorgkoerier/receiver/ByteRangeSatisfiablePinLaw" "law" code 16 (some .boolean) p l e room_1 s m args below meth c T h locs 5 10) (hQ : ∀ h' L', Fr n0 L' → Q (some (.int (F0_126 i6 i8 i9 i12 i13))) h' L') :
    own_Go p e below (own_K s Q room_1.cells room_1.slots) (T.setTop (mkF m 126 #[.val (.long j0), .second, .val (.long j2), .second, .val (.long j4), .second, .val (.int i6), .val (.int i7), .val (.int i8), .val (.int i9), .val (.long j10), .second, .val (.int i12), .val (.int i13), .unset, .unset] [])) := by
  unfold F0_126 at hQ
  refine own_iconst P at_126 rfl (v := (1 : Int32)) rfl ?_
  refine own_goto P (pc' := 131) at_127 (by decide) (by decide) ?_
  exact b0_131 hw j0 j2 j4 i6 i7 i8 i9 j10 i12 i13 (1 : Int32)  n0 N Z0    P hQ
def F0_108 (j0 : Int64) (j2 : Int64) (i6 : Int32) (i7 : Int32) (i8 : Int32) (i9 : Int32) (i12 : Int32) (si0 : Int32) : Int32 := (if i6 = (0 : Int32) then (F0_126 i6 i8 i9 i12 si0) else (if i7 = (0 : Int32) then (F0_126 i6 i8 i9 i12 si0) else (if j0 = j2 then (F0_126 i6 i8 i9 i12 si0) else (F0_131 i6 i8 i9 i12 si0 (0 : Int32)))))
set_option maxRecDepth 65536 in
set_option maxHeartbeats 40000000 in
theorem b0_108 {p : Program} {l : Launch} {e : Env} {s : State} {m : MethodId} {args : Array Value} {below : List Frame} {meth : Method} {c : Code} {T : State} {h : Heap} {locs : List Loc} {Z : State} {a0 : Array Value} {Q : Option Value → Heap → List Loc → Prop} (hw : ∀ d ∈ tables_1, d.before a0 Z = true) (j0 : Int64) (j2 : Int64) (j4 : Int64) (i6 : Int32) (i7 : Int32) (i8 : Int32) (i9 : Int32) (j10 : Int64) (i12 : Int32) (si0 : Int32)  (n0 : Nat) (N : Fr n0 locs) (Z0 : n0 ≤ h.size) (P : own_S Z "com/example/zorgkoerier/zorgkoerier/receiver/ByteRangeSatisfiablePinLaw" "law" code 16 (some .boolean) p l e room_1 s m args below meth c T h locs 5 10) (hQ : ∀ h' L', Fr n0 L' → Q (some (.int (F0_108 j0 j2 i6 i7 i8 i9 i12 si0))) h' L') :
    own_Go p e below (own_K s Q room_1.cells room_1.slots) (T.setTop (mkF m 108 #[.val (.long j0), .second, .val (.long j2), .second, .val (.long j4), .second, .val (.int i6), .val (.int i7), .val (.int i8), .val (.int i9), .val (.long j10), .second, .val (.int i12), .unset, .unset, .unset] [(.int si0)])) := by
  unfold F0_108 at hQ
  refine own_istore P at_108 rfl (Ls' := #[.val (.long j0), .second, .val (.long j2), .second, .val (.long j4), .second, .val (.int i6), .val (.int i7), .val (.int i8), .val (.int i9), .val (.long j10), .second, .val (.int i12), .val (.int si0), .unset, .unset]) rfl ?_
  refine own_iload P at_110 rfl rfl ?_
  by_cases hc222 : i6 = (0 : Int32)
  · rw [if_pos hc222] at hQ
    refine own_if0Y P (pc' := 126) at_112 hc222 (by decide) (by decide) ?_
    exact b0_126 hw j0 j2 j4 i6 i7 i8 i9 j10 i12 si0  n0 N Z0    P hQ
  · rw [if_neg hc222] at hQ
    refine own_if0N P (pc' := 115) at_112 hc222 rfl ?_
    refine own_iload P at_115 rfl rfl ?_
    by_cases hc230 : i7 = (0 : Int32)
    · rw [if_pos hc230] at hQ
      refine own_if0Y P (pc' := 126) at_117 hc230 (by decide) (by decide) ?_
      exact b0_126 hw j0 j2 j4 i6 i7 i8 i9 j10 i12 si0  n0 N Z0    P hQ
    · rw [if_neg hc230] at hQ
      refine own_if0N P (pc' := 120) at_117 hc230 rfl ?_
      refine own_lloadN P at_120 rfl rfl ?_
      refine own_lloadN P at_121 rfl rfl ?_
      by_cases hc231 : j0 = j2
      · rw [if_pos hc231] at hQ
        refine own_lcN P (pc' := 126) at_122 at_123 (not_not_intro hc231) rfl ?_
        exact b0_126 hw j0 j2 j4 i6 i7 i8 i9 j10 i12 si0  n0 N Z0    P hQ
      · rw [if_neg hc231] at hQ
        refine own_lcY P (pc' := 130) at_122 at_123 hc231 (by decide) (by decide) ?_
        refine own_iconst P at_130 rfl (v := (0 : Int32)) rfl ?_
        exact b0_131 hw j0 j2 j4 i6 i7 i8 i9 j10 i12 si0 (0 : Int32)  n0 N Z0    P hQ
def F0_103 (j0 : Int64) (j2 : Int64) (i6 : Int32) (i7 : Int32) (i8 : Int32) (i9 : Int32) (i12 : Int32) : Int32 := (F0_108 j0 j2 i6 i7 i8 i9 i12 (1 : Int32))
set_option maxRecDepth 65536 in
set_option maxHeartbeats 40000000 in
theorem b0_103 {p : Program} {l : Launch} {e : Env} {s : State} {m : MethodId} {args : Array Value} {below : List Frame} {meth : Method} {c : Code} {T : State} {h : Heap} {locs : List Loc} {Z : State} {a0 : Array Value} {Q : Option Value → Heap → List Loc → Prop} (hw : ∀ d ∈ tables_1, d.before a0 Z = true) (j0 : Int64) (j2 : Int64) (j4 : Int64) (i6 : Int32) (i7 : Int32) (i8 : Int32) (i9 : Int32) (j10 : Int64) (i12 : Int32)  (n0 : Nat) (N : Fr n0 locs) (Z0 : n0 ≤ h.size) (P : own_S Z "com/example/zorgkoerier/zorgkoerier/receiver/ByteRangeSatisfiablePinLaw" "law" code 16 (some .boolean) p l e room_1 s m args below meth c T h locs 5 10) (hQ : ∀ h' L', Fr n0 L' → Q (some (.int (F0_103 j0 j2 i6 i7 i8 i9 i12))) h' L') :
    own_Go p e below (own_K s Q room_1.cells room_1.slots) (T.setTop (mkF m 103 #[.val (.long j0), .second, .val (.long j2), .second, .val (.long j4), .second, .val (.int i6), .val (.int i7), .val (.int i8), .val (.int i9), .val (.long j10), .second, .val (.int i12), .unset, .unset, .unset] [])) := by
  unfold F0_103 at hQ
  refine own_iconst P at_103 rfl (v := (1 : Int32)) rfl ?_
  refine own_goto P (pc' := 108) at_104 (by decide) (by decide) ?_
  exact b0_108 hw j0 j2 j4 i6 i7 i8 i9 j10 i12 (1 : Int32)  n0 N Z0    P hQ
def F0_73 (j0 : Int64) (j2 : Int64) (i6 : Int32) (i7 : Int32) (i8 : Int32) (i9 : Int32) (sj0 : Int64) : Int32 := (if i6 = (0 : Int32) then (if i7 = (0 : Int32) then (F0_108 j0 j2 i6 i7 i8 i9 (F4_0 sj0 (sj0 + (1 : Int64))) (0 : Int32)) else (F0_103 j0 j2 i6 i7 i8 i9 (F4_0 sj0 (sj0 + (1 : Int64))))) else (F0_103 j0 j2 i6 i7 i8 i9 (F4_0 sj0 (sj0 + (1 : Int64)))))
set_option maxRecDepth 65536 in
set_option maxHeartbeats 40000000 in
theorem b0_73 {p : Program} {l : Launch} {e : Env} {s : State} {m : MethodId} {args : Array Value} {below : List Frame} {meth : Method} {c : Code} {T : State} {h : Heap} {locs : List Loc} {Z : State} {a0 : Array Value} {Q : Option Value → Heap → List Loc → Prop} (hw : ∀ d ∈ tables_1, d.before a0 Z = true) (j0 : Int64) (j2 : Int64) (j4 : Int64) (i6 : Int32) (i7 : Int32) (i8 : Int32) (i9 : Int32) (sj0 : Int64)  (n0 : Nat) (N : Fr n0 locs) (Z0 : n0 ≤ h.size) (P : own_S Z "com/example/zorgkoerier/zorgkoerier/receiver/ByteRangeSatisfiablePinLaw" "law" code 16 (some .boolean) p l e room_1 s m args below meth c T h locs 4 8) (hQ : ∀ h' L', Fr n0 L' → Q (some (.int (F0_73 j0 j2 i6 i7 i8 i9 sj0))) h' L') :
    own_Go p e below (own_K s Q room_1.cells room_1.slots) (T.setTop (mkF m 73 #[.val (.long j0), .second, .val (.long j2), .second, .val (.long j4), .second, .val (.int i6), .val (.int i7), .val (.int i8), .val (.int i9), .unset, .unset, .unset, .unset, .unset, .unset] [(.long sj0)])) := by
  unfold F0_73 at hQ
  refine own_lstore P at_73 rfl (Ls' := #[.val (.long j0), .second, .val (.long j2), .second, .val (.long j4), .second, .val (.int i6), .val (.int i7), .val (.int i8), .val (.int i9), .val (.long sj0), .second, .unset, .unset, .unset, .unset]) rfl ?_
  refine own_new P (hw _ (List.mem_of_getElem? (i := 0) rfl)) (hw _ (List.mem_of_getElem? (i := 1) rfl)) (hw _ (List.mem_of_getElem? (i := 2) rfl)) at_75 rfl (by decide) (by decide) (fun T197 h198 b191 ha192 E193 A194 D195 P196 => ?_)
  have g199 : n0 ≤ b191 := by rw [ha192]; exact Z0
  have f200 : Fld Z h198 b191 "com/example/zorgkoerier/zorgkoerier/receiver/ByteRange" "first" "J" (.long (0 : Int64)) := D195 (Or.inr (hw _ (List.mem_of_getElem? (i := 15) rfl))) (ty := .long) (by decide)
  have f201 : Fld Z h198 b191 "com/example/zorgkoerier/zorgkoerier/receiver/ByteRange" "last" "J" (.long (0 : Int64)) := D195 (Or.inr (hw _ (List.mem_of_getElem? (i := 17) rfl))) (ty := .long) (by decide)
  refine own_dup P196 at_78 rfl rfl ?_
  refine own_lload P196 at_79 rfl rfl ?_
  refine own_lload P196 at_81 rfl rfl ?_
  refine own_lconst P196 at_83 rfl (v := (1 : Int64)) rfl ?_
  refine own_ladd P196 at_84 rfl ?_
  refine own_init P196 rfl (hw _ (List.mem_of_getElem? (i := 3) rfl)) (hw _ (List.mem_of_getElem? (i := 4) rfl)) (hw _ (List.mem_of_getElem? (i := 2) rfl)) (hw _ (List.mem_of_getElem? (i := 5) rfl)) (by decide) (argsL := [(.long sj0), (.long (sj0 + (1 : Int64)))]) (rest := [(.ref b191)]) (rm1 l Z a0 hw b191 sj0 (sj0 + (1 : Int64)) h198 n0 (Nat.le_trans Z0 E193.1) g199 A194 f200 f201) at_85 rfl own_pd1 rfl rfl rfl (by decide) 1 rfl (by decide) (by decide) (by decide) (fun T203 h204 v205 L206 hq207 P202 => ?_)
  obtain ⟨rfl, n208, k209, f210, f211⟩ := hq207
  have N212 := Fr.app N n208
  have f213 := A194.keep k209
  show own_Go p e below _ (T203.setTop (mkF m 88 #[.val (.long j0), .second, .val (.long j2), .second, .val (.long j4), .second, .val (.int i6), .val (.int i7), .val (.int i8), .val (.int i9), .val (.long sj0), .second, .unset, .unset, .unset, .unset] [(.ref b191)]))
  refine own_virtP P202 (hw _ (List.mem_of_getElem? (i := 18) rfl)) (hw _ (List.mem_of_getElem? (i := 19) rfl)) (hw _ (List.mem_of_getElem? (i := 21) rfl)) (hw _ (List.mem_of_getElem? (i := 20) rfl)) (hw _ (List.mem_of_getElem? (i := 2) rfl)) (hw _ (List.mem_of_getElem? (i := 22) rfl)) (by decide) f213 (argsL := []) (rest := []) (rm4 l Z a0 hw b191 sj0 (sj0 + (1 : Int64)) h204 f210 f211) at_88 rfl own_pd2 rfl rfl rfl (by decide) 0 rfl (by decide) rfl rfl (by decide) (by decide) (fun T215 P214 => ?_)
  show own_Go p e below _ (T215.setTop (mkF m 91 #[.val (.long j0), .second, .val (.long j2), .second, .val (.long j4), .second, .val (.int i6), .val (.int i7), .val (.int i8), .val (.int i9), .val (.long sj0), .second, .unset, .unset, .unset, .unset] [(.int (F4_0 sj0 (sj0 + (1 : Int64))))]))
  refine own_istore P214 at_91 rfl (Ls' := #[.val (.long j0), .second, .val (.long j2), .second, .val (.long j4), .second, .val (.int i6), .val (.int i7), .val (.int i8), .val (.int i9), .val (.long sj0), .second, .val (.int (F4_0 sj0 (sj0 + (1 : Int64)))), .unset, .unset, .unset]) rfl ?_
  refine own_iload P214 at_93 rfl rfl ?_
  by_cases hc220 : i6 = (0 : Int32)
  · rw [if_pos hc220] at hQ
    refine own_if0N P214 (pc' := 98) at_95 (not_not_intro hc220) rfl ?_
    refine own_iload P214 at_98 rfl rfl ?_
    by_cases hc221 : i7 = (0 : Int32)
    · rw [if_pos hc221] at hQ
      refine own_if0Y P214 (pc' := 107) at_100 hc221 (by decide) (by decide) ?_
      refine own_iconst P214 at_107 rfl (v := (0 : Int32)) rfl ?_
      exact b0_108 hw j0 j2 j4 i6 i7 i8 i9 sj0 (F4_0 sj0 (sj0 + (1 : Int64))) (0 : Int32)  n0 N212 (Nat.le_trans (Nat.le_trans Z0 E193.1) k209.1)    P214 hQ
    · rw [if_neg hc221] at hQ
      refine own_if0N P214 (pc' := 103) at_100 hc221 rfl ?_
      exact b0_103 hw j0 j2 j4 i6 i7 i8 i9 sj0 (F4_0 sj0 (sj0 + (1 : Int64)))  n0 N212 (Nat.le_trans (Nat.le_trans Z0 E193.1) k209.1)    P214 hQ
  · rw [if_neg hc220] at hQ
    refine own_if0Y P214 (pc' := 103) at_95 hc220 (by decide) (by decide) ?_
    exact b0_103 hw j0 j2 j4 i6 i7 i8 i9 sj0 (F4_0 sj0 (sj0 + (1 : Int64)))  n0 N212 (Nat.le_trans (Nat.le_trans Z0 E193.1) k209.1)    P214 hQ
def F0_0 (j0 : Int64) (j2 : Int64) (j4 : Int64) : Int32 := (if j0 = (9223372036854775807 : Int64) then (F0_73 j0 j2 (F4_0 j0 j2) (F4_0 j2 j0) (F4_0 j2 j4) (F4_0 j0 j4) (j0 - (1 : Int64))) else (F0_73 j0 j2 (F4_0 j0 j2) (F4_0 j2 j0) (F4_0 j2 j4) (F4_0 j0 j4) j0))
set_option maxRecDepth 65536 in
set_option maxHeartbeats 40000000 in
theorem b0_0 {p : Program} {l : Launch} {e : Env} {s : State} {m : MethodId} {args : Array Value} {below : List Frame} {meth : Method} {c : Code} {T : State} {h : Heap} {locs : List Loc} {Z : State} {a0 : Array Value} {Q : Option Value → Heap → List Loc → Prop} (hw : ∀ d ∈ tables_1, d.before a0 Z = true) (j0 : Int64) (j2 : Int64) (j4 : Int64)  (n0 : Nat) (N : Fr n0 locs) (Z0 : n0 ≤ h.size) (P : own_S Z "com/example/zorgkoerier/zorgkoerier/receiver/ByteRangeSatisfiablePinLaw" "law" code 16 (some .boolean) p l e room_1 s m args below meth c T h locs 0 0) (hQ : ∀ h' L', Fr n0 L' → Q (some (.int (F0_0 j0 j2 j4))) h' L') :
    own_Go p e below (own_K s Q room_1.cells room_1.slots) (T.setTop (mkF m 0 #[.val (.long j0), .second, .val (.long j2), .second, .val (.long j4), .second, .unset, .unset, .unset, .unset, .unset, .unset, .unset, .unset, .unset, .unset] [])) := by
  unfold F0_0 at hQ
  refine own_new P (hw _ (List.mem_of_getElem? (i := 0) rfl)) (hw _ (List.mem_of_getElem? (i := 1) rfl)) (hw _ (List.mem_of_getElem? (i := 2) rfl)) at_0 rfl (by decide) (by decide) (fun T38 h39 b32 ha33 E34 A35 D36 P37 => ?_)
  have g40 : n0 ≤ b32 := by rw [ha33]; exact Z0
  have f41 : Fld Z h39 b32 "com/example/zorgkoerier/zorgkoerier/receiver/ByteRange" "first" "J" (.long (0 : Int64)) := D36 (Or.inr (hw _ (List.mem_of_getElem? (i := 15) rfl))) (ty := .long) (by decide)
  have f42 : Fld Z h39 b32 "com/example/zorgkoerier/zorgkoerier/receiver/ByteRange" "last" "J" (.long (0 : Int64)) := D36 (Or.inr (hw _ (List.mem_of_getElem? (i := 17) rfl))) (ty := .long) (by decide)
  refine own_dup P37 at_3 rfl rfl ?_
  refine own_lloadN P37 at_4 rfl rfl ?_
  refine own_lloadN P37 at_5 rfl rfl ?_
  refine own_init P37 rfl (hw _ (List.mem_of_getElem? (i := 3) rfl)) (hw _ (List.mem_of_getElem? (i := 4) rfl)) (hw _ (List.mem_of_getElem? (i := 2) rfl)) (hw _ (List.mem_of_getElem? (i := 5) rfl)) (by decide) (argsL := [(.long j0), (.long j2)]) (rest := [(.ref b32)]) (rm1 l Z a0 hw b32 j0 j2 h39 n0 (Nat.le_trans Z0 E34.1) g40 A35 f41 f42) at_6 rfl own_pd1 rfl rfl rfl (by decide) 1 rfl (by decide) (by decide) (by decide) (fun T44 h45 v46 L47 hq48 P43 => ?_)
  obtain ⟨rfl, n49, k50, f51, f52⟩ := hq48
  have N53 := Fr.app N n49
  have f54 := A35.keep k50
  show own_Go p e below _ (T44.setTop (mkF m 9 #[.val (.long j0), .second, .val (.long j2), .second, .val (.long j4), .second, .unset, .unset, .unset, .unset, .unset, .unset, .unset, .unset, .unset, .unset] [(.ref b32)]))
  refine own_virtP P43 (hw _ (List.mem_of_getElem? (i := 18) rfl)) (hw _ (List.mem_of_getElem? (i := 19) rfl)) (hw _ (List.mem_of_getElem? (i := 21) rfl)) (hw _ (List.mem_of_getElem? (i := 20) rfl)) (hw _ (List.mem_of_getElem? (i := 2) rfl)) (hw _ (List.mem_of_getElem? (i := 22) rfl)) (by decide) f54 (argsL := []) (rest := []) (rm4 l Z a0 hw b32 j0 j2 h45 f51 f52) at_9 rfl own_pd2 rfl rfl rfl (by decide) 0 rfl (by decide) rfl rfl (by decide) (by decide) (fun T56 P55 => ?_)
  show own_Go p e below _ (T56.setTop (mkF m 12 #[.val (.long j0), .second, .val (.long j2), .second, .val (.long j4), .second, .unset, .unset, .unset, .unset, .unset, .unset, .unset, .unset, .unset, .unset] [(.int (F4_0 j0 j2))]))
  refine own_istore P55 at_12 rfl (Ls' := #[.val (.long j0), .second, .val (.long j2), .second, .val (.long j4), .second, .val (.int (F4_0 j0 j2)), .unset, .unset, .unset, .unset, .unset, .unset, .unset, .unset, .unset]) rfl ?_
  refine own_new P55 (hw _ (List.mem_of_getElem? (i := 0) rfl)) (hw _ (List.mem_of_getElem? (i := 1) rfl)) (hw _ (List.mem_of_getElem? (i := 2) rfl)) at_14 rfl (by decide) (by decide) (fun T67 h68 b61 ha62 E63 A64 D65 P66 => ?_)
  have ne69 : b32 ≠ b61 := by rw [ha62]; exact Nat.ne_of_lt f54.lt
  have g70 : n0 ≤ b61 := by rw [ha62]; exact (Nat.le_trans (Nat.le_trans Z0 E34.1) k50.1)
  have f71 := f54.ext E63
  have f72 := f51.ext E63
  have f73 := f52.ext E63
  have f74 : Fld Z h68 b61 "com/example/zorgkoerier/zorgkoerier/receiver/ByteRange" "first" "J" (.long (0 : Int64)) := D65 (Or.inr (hw _ (List.mem_of_getElem? (i := 15) rfl))) (ty := .long) (by decide)
  have f75 : Fld Z h68 b61 "com/example/zorgkoerier/zorgkoerier/receiver/ByteRange" "last" "J" (.long (0 : Int64)) := D65 (Or.inr (hw _ (List.mem_of_getElem? (i := 17) rfl))) (ty := .long) (by decide)
  refine own_dup P66 at_17 rfl rfl ?_
  refine own_lloadN P66 at_18 rfl rfl ?_
  refine own_lloadN P66 at_19 rfl rfl ?_
  refine own_init P66 rfl (hw _ (List.mem_of_getElem? (i := 3) rfl)) (hw _ (List.mem_of_getElem? (i := 4) rfl)) (hw _ (List.mem_of_getElem? (i := 2) rfl)) (hw _ (List.mem_of_getElem? (i := 5) rfl)) (by decide) (argsL := [(.long j2), (.long j0)]) (rest := [(.ref b61)]) (rm1 l Z a0 hw b61 j2 j0 h68 n0 (Nat.le_trans (Nat.le_trans (Nat.le_trans Z0 E34.1) k50.1) E63.1) g70 A64 f74 f75) at_20 rfl own_pd1 rfl rfl rfl (by decide) 1 rfl (by decide) (by decide) (by decide) (fun T77 h78 v79 L80 hq81 P76 => ?_)
  obtain ⟨rfl, n82, k83, f84, f85⟩ := hq81
  have N86 := Fr.app N53 n82
  have f87 := f71.keep k83
  have f88 := f72.keep k83 (ninS ne69 nin0)
  have f89 := f73.keep k83 (ninS ne69 nin0)
  have f90 := A64.keep k83
  show own_Go p e below _ (T77.setTop (mkF m 23 #[.val (.long j0), .second, .val (.long j2), .second, .val (.long j4), .second, .val (.int (F4_0 j0 j2)), .unset, .unset, .unset, .unset, .unset, .unset, .unset, .unset, .unset] [(.ref b61)]))
  refine own_virtP P76 (hw _ (List.mem_of_getElem? (i := 18) rfl)) (hw _ (List.mem_of_getElem? (i := 19) rfl)) (hw _ (List.mem_of_getElem? (i := 21) rfl)) (hw _ (List.mem_of_getElem? (i := 20) rfl)) (hw _ (List.mem_of_getElem? (i := 2) rfl)) (hw _ (List.mem_of_getElem? (i := 22) rfl)) (by decide) f90 (argsL := []) (rest := []) (rm4 l Z a0 hw b61 j2 j0 h78 f84 f85) at_23 rfl own_pd2 rfl rfl rfl (by decide) 0 rfl (by decide) rfl rfl (by decide) (by decide) (fun T92 P91 => ?_)
  show own_Go p e below _ (T92.setTop (mkF m 26 #[.val (.long j0), .second, .val (.long j2), .second, .val (.long j4), .second, .val (.int (F4_0 j0 j2)), .unset, .unset, .unset, .unset, .unset, .unset, .unset, .unset, .unset] [(.int (F4_0 j2 j0))]))
  refine own_istore P91 at_26 rfl (Ls' := #[.val (.long j0), .second, .val (.long j2), .second, .val (.long j4), .second, .val (.int (F4_0 j0 j2)), .val (.int (F4_0 j2 j0)), .unset, .unset, .unset, .unset, .unset, .unset, .unset, .unset]) rfl ?_
  refine own_new P91 (hw _ (List.mem_of_getElem? (i := 0) rfl)) (hw _ (List.mem_of_getElem? (i := 1) rfl)) (hw _ (List.mem_of_getElem? (i := 2) rfl)) at_28 rfl (by decide) (by decide) (fun T103 h104 b97 ha98 E99 A100 D101 P102 => ?_)
  have ne105 : b32 ≠ b97 := by rw [ha98]; exact Nat.ne_of_lt f87.lt
  have ne106 : b61 ≠ b97 := by rw [ha98]; exact Nat.ne_of_lt f90.lt
  have g107 : n0 ≤ b97 := by rw [ha98]; exact (Nat.le_trans (Nat.le_trans (Nat.le_trans (Nat.le_trans Z0 E34.1) k50.1) E63.1) k83.1)
  have f108 := f87.ext E99
  have f109 := f88.ext E99
  have f110 := f89.ext E99
  have f111 := f90.ext E99
  have f112 := f84.ext E99
  have f113 := f85.ext E99
  have f114 : Fld Z h104 b97 "com/example/zorgkoerier/zorgkoerier/receiver/ByteRange" "first" "J" (.long (0 : Int64)) := D101 (Or.inr (hw _ (List.mem_of_getElem? (i := 15) rfl))) (ty := .long) (by decide)
  have f115 : Fld Z h104 b97 "com/example/zorgkoerier/zorgkoerier/receiver/ByteRange" "last" "J" (.long (0 : Int64)) := D101 (Or.inr (hw _ (List.mem_of_getElem? (i := 17) rfl))) (ty := .long) (by decide)
  refine own_dup P102 at_31 rfl rfl ?_
  refine own_lloadN P102 at_32 rfl rfl ?_
  refine own_lload P102 at_33 rfl rfl ?_
  refine own_init P102 rfl (hw _ (List.mem_of_getElem? (i := 3) rfl)) (hw _ (List.mem_of_getElem? (i := 4) rfl)) (hw _ (List.mem_of_getElem? (i := 2) rfl)) (hw _ (List.mem_of_getElem? (i := 5) rfl)) (by decide) (argsL := [(.long j2), (.long j4)]) (rest := [(.ref b97)]) (rm1 l Z a0 hw b97 j2 j4 h104 n0 (Nat.le_trans (Nat.le_trans (Nat.le_trans (Nat.le_trans (Nat.le_trans Z0 E34.1) k50.1) E63.1) k83.1) E99.1) g107 A100 f114 f115) at_35 rfl own_pd1 rfl rfl rfl (by decide) 1 rfl (by decide) (by decide) (by decide) (fun T117 h118 v119 L120 hq121 P116 => ?_)
  obtain ⟨rfl, n122, k123, f124, f125⟩ := hq121
  have N126 := Fr.app N86 n122
  have f127 := f108.keep k123
  have f128 := f109.keep k123 (ninS ne105 nin0)
  have f129 := f110.keep k123 (ninS ne105 nin0)
  have f130 := f111.keep k123
  have f131 := f112.keep k123 (ninS ne106 nin0)
  have f132 := f113.keep k123 (ninS ne106 nin0)
  have f133 := A100.keep k123
  show own_Go p e below _ (T117.setTop (mkF m 38 #[.val (.long j0), .second, .val (.long j2), .second, .val (.long j4), .second, .val (.int (F4_0 j0 j2)), .val (.int (F4_0 j2 j0)), .unset, .unset, .unset, .unset, .unset, .unset, .unset, .unset] [(.ref b97)]))
  refine own_virtP P116 (hw _ (List.mem_of_getElem? (i := 18) rfl)) (hw _ (List.mem_of_getElem? (i := 19) rfl)) (hw _ (List.mem_of_getElem? (i := 21) rfl)) (hw _ (List.mem_of_getElem? (i := 20) rfl)) (hw _ (List.mem_of_getElem? (i := 2) rfl)) (hw _ (List.mem_of_getElem? (i := 22) rfl)) (by decide) f133 (argsL := []) (rest := []) (rm4 l Z a0 hw b97 j2 j4 h118 f124 f125) at_38 rfl own_pd2 rfl rfl rfl (by decide) 0 rfl (by decide) rfl rfl (by decide) (by decide) (fun T135 P134 => ?_)
  show own_Go p e below _ (T135.setTop (mkF m 41 #[.val (.long j0), .second, .val (.long j2), .second, .val (.long j4), .second, .val (.int (F4_0 j0 j2)), .val (.int (F4_0 j2 j0)), .unset, .unset, .unset, .unset, .unset, .unset, .unset, .unset] [(.int (F4_0 j2 j4))]))
  refine own_istore P134 at_41 rfl (Ls' := #[.val (.long j0), .second, .val (.long j2), .second, .val (.long j4), .second, .val (.int (F4_0 j0 j2)), .val (.int (F4_0 j2 j0)), .val (.int (F4_0 j2 j4)), .unset, .unset, .unset, .unset, .unset, .unset, .unset]) rfl ?_
  refine own_new P134 (hw _ (List.mem_of_getElem? (i := 0) rfl)) (hw _ (List.mem_of_getElem? (i := 1) rfl)) (hw _ (List.mem_of_getElem? (i := 2) rfl)) at_43 rfl (by decide) (by decide) (fun T146 h147 b140 ha141 E142 A143 D144 P145 => ?_)
  have ne148 : b32 ≠ b140 := by rw [ha141]; exact Nat.ne_of_lt f127.lt
  have ne149 : b61 ≠ b140 := by rw [ha141]; exact Nat.ne_of_lt f130.lt
  have ne150 : b97 ≠ b140 := by rw [ha141]; exact Nat.ne_of_lt f133.lt
  have g151 : n0 ≤ b140 := by rw [ha141]; exact (Nat.le_trans (Nat.le_trans (Nat.le_trans (Nat.le_trans (Nat.le_trans (Nat.le_trans Z0 E34.1) k50.1) E63.1) k83.1) E99.1) k123.1)
  have f152 := f127.ext E142
  have f153 := f128.ext E142
  have f154 := f129.ext E142
  have f155 := f130.ext E142
  have f156 := f131.ext E142
  have f157 := f132.ext E142
  have f158 := f133.ext E142
  have f159 := f124.ext E142
  have f160 := f125.ext E142
  have f161 : Fld Z h147 b140 "com/example/zorgkoerier/zorgkoerier/receiver/ByteRange" "first" "J" (.long (0 : Int64)) := D144 (Or.inr (hw _ (List.mem_of_getElem? (i := 15) rfl))) (ty := .long) (by decide)
  have f162 : Fld Z h147 b140 "com/example/zorgkoerier/zorgkoerier/receiver/ByteRange" "last" "J" (.long (0 : Int64)) := D144 (Or.inr (hw _ (List.mem_of_getElem? (i := 17) rfl))) (ty := .long) (by decide)
  refine own_dup P145 at_46 rfl rfl ?_
  refine own_lloadN P145 at_47 rfl rfl ?_
  refine own_lload P145 at_48 rfl rfl ?_
  refine own_init P145 rfl (hw _ (List.mem_of_getElem? (i := 3) rfl)) (hw _ (List.mem_of_getElem? (i := 4) rfl)) (hw _ (List.mem_of_getElem? (i := 2) rfl)) (hw _ (List.mem_of_getElem? (i := 5) rfl)) (by decide) (argsL := [(.long j0), (.long j4)]) (rest := [(.ref b140)]) (rm1 l Z a0 hw b140 j0 j4 h147 n0 (Nat.le_trans (Nat.le_trans (Nat.le_trans (Nat.le_trans (Nat.le_trans (Nat.le_trans (Nat.le_trans Z0 E34.1) k50.1) E63.1) k83.1) E99.1) k123.1) E142.1) g151 A143 f161 f162) at_50 rfl own_pd1 rfl rfl rfl (by decide) 1 rfl (by decide) (by decide) (by decide) (fun T164 h165 v166 L167 hq168 P163 => ?_)
  obtain ⟨rfl, n169, k170, f171, f172⟩ := hq168
  have N173 := Fr.app N126 n169
  have f174 := f152.keep k170
  have f175 := f153.keep k170 (ninS ne148 nin0)
  have f176 := f154.keep k170 (ninS ne148 nin0)
  have f177 := f155.keep k170
  have f178 := f156.keep k170 (ninS ne149 nin0)
  have f179 := f157.keep k170 (ninS ne149 nin0)
  have f180 := f158.keep k170
  have f181 := f159.keep k170 (ninS ne150 nin0)
  have f182 := f160.keep k170 (ninS ne150 nin0)
  have f183 := A143.keep k170
  show own_Go p e below _ (T164.setTop (mkF m 53 #[.val (.long j0), .second, .val (.long j2), .second, .val (.long j4), .second, .val (.int (F4_0 j0 j2)), .val (.int (F4_0 j2 j0)), .val (.int (F4_0 j2 j4)), .unset, .unset, .unset, .unset, .unset, .unset, .unset] [(.ref b140)]))
  refine own_virtP P163 (hw _ (List.mem_of_getElem? (i := 18) rfl)) (hw _ (List.mem_of_getElem? (i := 19) rfl)) (hw _ (List.mem_of_getElem? (i := 21) rfl)) (hw _ (List.mem_of_getElem? (i := 20) rfl)) (hw _ (List.mem_of_getElem? (i := 2) rfl)) (hw _ (List.mem_of_getElem? (i := 22) rfl)) (by decide) f183 (argsL := []) (rest := []) (rm4 l Z a0 hw b140 j0 j4 h165 f171 f172) at_53 rfl own_pd2 rfl rfl rfl (by decide) 0 rfl (by decide) rfl rfl (by decide) (by decide) (fun T185 P184 => ?_)
  show own_Go p e below _ (T185.setTop (mkF m 56 #[.val (.long j0), .second, .val (.long j2), .second, .val (.long j4), .second, .val (.int (F4_0 j0 j2)), .val (.int (F4_0 j2 j0)), .val (.int (F4_0 j2 j4)), .unset, .unset, .unset, .unset, .unset, .unset, .unset] [(.int (F4_0 j0 j4))]))
  refine own_istore P184 at_56 rfl (Ls' := #[.val (.long j0), .second, .val (.long j2), .second, .val (.long j4), .second, .val (.int (F4_0 j0 j2)), .val (.int (F4_0 j2 j0)), .val (.int (F4_0 j2 j4)), .val (.int (F4_0 j0 j4)), .unset, .unset, .unset, .unset, .unset, .unset]) rfl ?_
  refine own_lloadN P184 at_58 rfl rfl ?_
  refine own_ldc2 P184 (v := (9223372036854775807 : Int64)) (hw _ (List.mem_of_getElem? (i := 23) rfl)) at_59 rfl ?_
  by_cases hc190 : j0 = (9223372036854775807 : Int64)
  · rw [if_pos hc190] at hQ
    refine own_lcN P184 (pc' := 66) at_62 at_63 (not_not_intro hc190) rfl ?_
    refine own_lloadN P184 at_66 rfl rfl ?_
    refine own_lconst P184 at_67 rfl (v := (1 : Int64)) rfl ?_
    refine own_lsub P184 at_68 rfl ?_
    refine own_goto P184 (pc' := 73) at_69 (by decide) (by decide) ?_
    exact b0_73 hw j0 j2 j4 (F4_0 j0 j2) (F4_0 j2 j0) (F4_0 j2 j4) (F4_0 j0 j4) (j0 - (1 : Int64))  n0 N173 (Nat.le_trans (Nat.le_trans (Nat.le_trans (Nat.le_trans (Nat.le_trans (Nat.le_trans (Nat.le_trans (Nat.le_trans Z0 E34.1) k50.1) E63.1) k83.1) E99.1) k123.1) E142.1) k170.1)    P184 hQ
  · rw [if_neg hc190] at hQ
    refine own_lcY P184 (pc' := 72) at_62 at_63 hc190 (by decide) (by decide) ?_
    refine own_lloadN P184 at_72 rfl rfl ?_
    exact b0_73 hw j0 j2 j4 (F4_0 j0 j2) (F4_0 j2 j0) (F4_0 j2 j4) (F4_0 j0 j4) j0  n0 N173 (Nat.le_trans (Nat.le_trans (Nat.le_trans (Nat.le_trans (Nat.le_trans (Nat.le_trans (Nat.le_trans (Nat.le_trans Z0 E34.1) k50.1) E63.1) k83.1) E99.1) k123.1) E142.1) k170.1)    P184 hQ
theorem own_pn2 : plainName "com/example/zorgkoerier/zorgkoerier/receiver/ByteRangeSatisfiablePinLaw" = true := by first | (simp [plainName, overriddenIn]; done) | decide +kernel
theorem rm0 (l : Launch) (Z : State) (a0 : Array Value) (hw : ∀ d ∈ tables_1, d.before a0 Z = true) (j0 : Int64) (j2 : Int64) (j4 : Int64) (ws : List Jvm.Cond) (h : Heap) :
    own_Con l Z x code maxLocals ret ws room_1 #[(.long j0), (.long j2), (.long j4)] h (fun v _ L => v = some (.int (F0_0 j0 j2 j4)) ∧ Fr h.size L) :=
  own_enter (plainFor_of_name own_pn2) #[.val (.long j0), .second, .val (.long j2), .second, .val (.long j4), .second, .unset, .unset, .unset, .unset, .unset, .unset, .unset, .unset, .unset, .unset] (fun m => by first | (simp [entryFrame, mkF, argsToLocals, Value.category, maxLocals]; done) | rfl) (fun p e s m below meth c T P => b0_0 hw j0 j2 j4 h.size (Fr.nil _) (Nat.le_refl _) P (fun _ _ q => ⟨rfl, q⟩))
theorem own_73 (j0 j2 j4 sj : Int64) (hs : F4_0 sj (sj + 1) = 1) : F0_73 j0 j2 (F4_0 j0 j2) (F4_0 j2 j0) (F4_0 j2 j4) (F4_0 j0 j4) sj = 1 := by
  simp only [F0_73, F0_108, F0_103, F0_131, F0_126, F0_148, F0_153, hs]
  have k1 := @Int64.lt_iff_toInt_lt j2 j0
  have k2 := @Int64.lt_iff_toInt_lt j0 j2
  have k3 := @Int64.lt_iff_toInt_lt j4 j2
  have k4 := @Int64.lt_iff_toInt_lt j4 j0
  have k5 := @Int64.toInt_inj j0 j2
  by_cases h1 : j2 < j0 <;> by_cases h2 : j0 < j2 <;> by_cases h3 : j4 < j2 <;> by_cases h4 : j4 < j0 <;> by_cases h5 : j0 = j2 <;>
    first
      | (simp [F4_0, h1, h2, h3, h4, h5]; done)
      | (exfalso; simp only [h1, h2, h3, h4, h5, true_iff, false_iff, iff_true, iff_false] at k1 k2 k3 k4 k5; omega)
theorem own_succ (s : Int64) (h : s.toInt < 9223372036854775807) : F4_0 s (s + 1) = 1 := by
  have z : (1 : Int64).toInt = 1 := by decide
  have l := Int64.le_toInt s
  have a : (s + 1).toInt = s.toInt + 1 := by rw [Jvm.Kit.i64_add (by rw [z]; omega) (by rw [z]; omega), z]
  unfold F4_0
  rw [if_neg (by rw [Int64.lt_iff_toInt_lt, a]; omega)]
theorem own_law (j0 j2 j4 : Int64) : F0_0 j0 j2 j4 = 1 := by
  unfold F0_0
  have z : (9223372036854775807 : Int64).toInt = 9223372036854775807 := by decide
  by_cases h : j0 = (9223372036854775807 : Int64)
  · rw [if_pos h]
    refine own_73 _ _ _ _ (own_succ _ ?_)
    rw [h]
    decide
  · rw [if_neg h]
    refine own_73 _ _ _ _ (own_succ _ ?_)
    have q : j0.toInt ≠ 9223372036854775807 := fun q => h (Int64.toInt_inj.mp (by rw [q, z]))
    have := Int64.toInt_lt j0
    omega

theorem own_rm0 (l : Launch) (Z : State) (a0 : Array Value) (hw : ∀ d ∈ tables_1, d.before a0 Z = true) (j0 : Int64) (j2 : Int64) (j4 : Int64) (ws : List Jvm.Cond) (h : Heap) :
    own_Con l Z x code maxLocals ret ws room_1 #[(.long j0), (.long j2), (.long j4)] h (fun v _ L => v = some (.int 1) ∧ Fr h.size L) := by
  have q := rm0 l Z a0 hw j0 j2 j4 ws h
  rw [own_law j0 j2 j4] at q
  exact q
set_option maxRecDepth 65536 in
set_option maxHeartbeats 40000000 in
theorem comes_1 {Post : Tables → Env → Array Value → State → Outcome → State → Prop} (hpost : ∀ tb e args s v u, (limb_1_1.after args s (.returned v) u = true ∧ limb_1_2.after args s (.returned v) u = true ∧ True) → FrameEnd s (.returned v) u (Jvm.fieldLocs frame_1_writes args s ++ Jvm.arrayLocs frame_1_arrays args s ++ Jvm.staticLocs frame_1_statics s) 24 128 → Post tb e args s (.returned v) u) :
    ArmFor flags0 classFile x code maxLocals ret World_1 tables_1 room_1 Calls_1 rest_1 Pre_1 Post := by
  intro l hfl _ _ p e ha hc hk s m args below hf hA hF happ hP
  obtain ⟨hcalls, hrest, hpre⟩ := hP
  obtain ⟨-, -, -, hnamed, -, -, -, hat⟩ := (Spec.applies_iff hf).mp happ
  obtain ⟨hg, hn⟩ := and_e (Cond.before_iff.mp (show (Jvm.Cond.and given_1 narrow_1).before args s = true from hpre))
  obtain ⟨g0, hg1⟩ := and_e hg
  obtain ⟨k0, hg2⟩ := and_e hg1
  obtain ⟨k1, hg3⟩ := and_e hg2
  obtain ⟨w0, w1, w2, rfl⟩ : ∃ w0 w1 w2 : Value, args = #[w0, w1, w2] := by
    have hs : args.size = 3 := by simpa [Cond.value, given_1] using g0
    obtain ⟨L⟩ := args
    match L, hs with
    | [w0, w1, w2], _ => exact ⟨w0, w1, w2, rfl⟩
  have hw := fun d (hd : d ∈ tables_1) => atoms_spec (ws := Jvm.Cond.code x code maxLocals ret :: tables_1) hat d (List.mem_cons_of_mem _ hd)
  obtain ⟨i0, ei0⟩ := isL_v k0
  obtain rfl : w0 = (.long i0) := Option.some.inj ei0
  obtain ⟨i1, ei1⟩ := isL_v k1
  obtain rfl : w1 = (.long i1) := Option.some.inj ei1
  obtain ⟨i2, ei2⟩ := isL_v hg3
  obtain rfl : w2 = (.long i2) := Option.some.inj ei2
  obtain ⟨n, o, h1, h2, h3, _, L, rfl, ⟨rfl, N⟩, hq⟩ := own_rm0 l s _ hw i0 i1 i2 tables_1 s.heap p e ha hc hk s m _ below hf ((Spec.applies_iff_loose hf).mp happ).1 ⟨rfl, State.Warmed39.refl s, rfl⟩ trivial
  refine ⟨n, _, h1, h2, h3, hpost _ _ _ _ _ _ ⟨Cond.after_iff.mpr rfl, Cond.after_iff.mpr (eq_i res_at (Term.int_eval (1)) rfl), trivial⟩ ⟨hq.1, hq.2.1, (hq.2.2.sift fun y hy => Or.inr (N y hy)).mono (by decide) (by decide)⟩⟩
theorem main_1_1 : Claimed_1_1 := comes_1 fun _ _ _ _ _ _ h hF => ⟨h.1, hF⟩
theorem main_1_2 : Claimed_1_2 := comes_1 fun _ _ _ _ _ _ h hF => ⟨h.2.1, hF⟩
end Jvm.Pilot.@@N@@
namespace Jvm.Pilot.@@N@@
open Jvm Jvm.ClassFile Sem Op Lib Jvm.Free Jvm.Stand Jvm.Pilot.@@N@@.Jvm.D
/-! MADE BY PROGRAM (witnessworld.py) out of the Statement's table words and the real class files: 10 classes; the members and pool entries that the words name. The judged class is class 1, her method 1. -/
namespace start1
open Jvm.ClassFile
def u (s : String) : CpInfo := .utf8 (stringToUtf16 s)
/-- a pool by its gaps: so many unusable entries, then the entry; so many at the end -/
def gap : Nat → List CpInfo → List CpInfo
  | 0, r => r
  | n + 1, r => .unusable :: gap n r
def poolList (es : List (Nat × CpInfo)) (last : Nat) : List CpInfo := es.foldr (fun e r => gap e.1 (e.2 :: r)) (gap last [])
def pool (es : List (Nat × CpInfo)) (last : Nat) : Array CpInfo := ⟨poolList es last⟩
def fileOf (pool : Array CpInfo) (this : Nat) (attrs : Array Attribute := #[]) (ms : Array MethodInfo := #[]) (fl : Nat := 33) (sup : Nat := 0) (ifs : Array Nat := #[]) (fds : Array FieldInfo := #[]) : ClassFile where
  minorVersion := 0
  majorVersion := 65
  constantPool := pool
  accessFlags := fl
  thisClass := this
  superClass := sup
  interfaces := ifs
  fields := fds
  methods := ms
  attributes := attrs
def plain (name : String) (sup : Option ClassId) : Class where
  name := name
  kind := .ordinary
  loader := none
  accessFlags := 33
  super := sup
  interfaces := #[]
  cf := none
  fields := #[]
  methods := #[]
  instanceTypes := #[]
  staticTypes := #[]
  resolved := #[]
  callSites := []
  init := .initialized
  statics := none
  mirror := none

def pool0 : Array CpInfo := pool [(5, u "<init>"), (0, u "()V"), (1, .class_ 10), (1, u "java/lang/Object")] 113

def k0c0 : Code := { maxStack := 0, maxLocals := 1, code := object_method_1_code, exceptionTable := #[], attributes := #[] }
def k0m0 : Method := { name := "<init>", desc := "()V", sig := { parameters := [], returnType := none }, accessFlags := 1, code := some k0c0 }
/-- java/lang/Object -/
def k0 : Class := { plain "java/lang/Object" none with
  accessFlags := 33
  interfaces := #[]
  cf := some (fileOf pool0 8 #[] #[{ accessFlags := 1, nameIndex := 5, descriptorIndex := 6, attributes := #[] }] 33 0 #[] #[])
  fields := #[]
  methods := #[k0m0]
  instanceTypes := #[]
  staticTypes := #[]
  resolved := Array.replicate 124 none
  statics := none }

def pool1 : Array CpInfo := pool [(2, .class_ 4), (1, u "java/lang/Object"), (0, u "<init>"), (0, u "()V"), (0, .class_ 8), (0, u "com/example/zorgkoerier/zorgkoerier/receiver/ByteRange"), (0, .methodref 7 10), (0, .nameAndType 5 11), (0, u "(JJ)V"), (0, .methodref 7 13), (0, .nameAndType 14 15), (0, u "satisfiable"), (0, u "()Z"), (2, .long 9223372036854775807), (1, .class_ 21), (0, u "com/example/zorgkoerier/zorgkoerier/receiver/ByteRangeSatisfiablePinLaw"), (2, u "law"), (0, u "(JJJ)Z")] 3

def k1m0 : Method := { name := "<init>", desc := "()V", sig := { parameters := [], returnType := none }, accessFlags := 1, code := none }
def k1c1 : Code := { maxStack := 8, maxLocals := 16, code := code, exceptionTable := #[], attributes := #[] }
def k1m1 : Method := { name := "law", desc := "(JJJ)Z", sig := { parameters := [.long, .long, .long], returnType := some .boolean }, accessFlags := 9, code := some k1c1 }
/-- com/example/zorgkoerier/zorgkoerier/receiver/ByteRangeSatisfiablePinLaw -/
def k1 : Class := { plain "com/example/zorgkoerier/zorgkoerier/receiver/ByteRangeSatisfiablePinLaw" (some 0) with
  accessFlags := 49
  interfaces := #[]
  cf := some (fileOf pool1 20 #[] #[{ accessFlags := 1, nameIndex := 5, descriptorIndex := 6, attributes := #[] }, { accessFlags := 9, nameIndex := 24, descriptorIndex := 25, attributes := #[] }] 49 2 #[] #[])
  fields := #[]
  methods := #[k1m0, k1m1]
  instanceTypes := #[]
  staticTypes := #[]
  resolved := Array.replicate 29 none
  statics := none }

def pool2 : Array CpInfo := pool [(1, .methodref 2 3), (0, .class_ 4), (0, .nameAndType 5 6), (0, u "java/lang/Object"), (0, u "<init>"), (0, u "()V"), (0, .class_ 8), (0, u "java/lang/Record")] 13

def k2c0 : Code := { maxStack := 1, maxLocals := 1, code := jdk_30_method_1_code, exceptionTable := #[], attributes := #[] }
def k2m0 : Method := { name := "<init>", desc := "()V", sig := { parameters := [], returnType := none }, accessFlags := 4, code := some k2c0 }
/-- java/lang/Record -/
def k2 : Class := { plain "java/lang/Record" (some 0) with
  accessFlags := 1057
  interfaces := #[]
  cf := some (fileOf pool2 7 #[] #[{ accessFlags := 4, nameIndex := 5, descriptorIndex := 6, attributes := #[] }] 1057 2 #[] #[])
  fields := #[]
  methods := #[k2m0]
  instanceTypes := #[]
  staticTypes := #[]
  resolved := Array.replicate 22 none
  statics := none }

def pool3 : Array CpInfo := pool [(1, .methodref 2 3), (0, .class_ 4), (0, .nameAndType 5 6), (0, u "java/lang/Record"), (0, u "<init>"), (0, u "()V"), (0, .fieldref 8 9), (0, .class_ 10), (0, .nameAndType 11 12), (0, u "com/example/zorgkoerier/zorgkoerier/receiver/ByteRange"), (0, u "first"), (0, u "J"), (0, .fieldref 8 14), (0, .nameAndType 15 12), (0, u "last"), (2, u "RANGE"), (0, u "Ljava/util/regex/Pattern;"), (23, u "()Z"), (22, u "(JJ)V"), (44, u "MAX_DIGITS"), (0, u "I"), (10, u "satisfiable")] 24

def k3c0 : Code := { maxStack := 3, maxLocals := 5, code := prog_101_method_1_code, exceptionTable := #[], attributes := #[] }
def k3m0 : Method := { name := "<init>", desc := "(JJ)V", sig := { parameters := [.long, .long], returnType := none }, accessFlags := 0, code := some k3c0 }
def k3c1 : Code := { maxStack := 4, maxLocals := 1, code := prog_101_method_3_code, exceptionTable := #[], attributes := #[] }
def k3m1 : Method := { name := "satisfiable", desc := "()Z", sig := { parameters := [], returnType := some .boolean }, accessFlags := 0, code := some k3c1 }
/-- com/example/zorgkoerier/zorgkoerier/receiver/ByteRange -/
def k3 : Class := { plain "com/example/zorgkoerier/zorgkoerier/receiver/ByteRange" (some 2) with
  accessFlags := 48
  interfaces := #[]
  cf := some (fileOf pool3 8 #[] #[{ accessFlags := 0, nameIndex := 5, descriptorIndex := 66, attributes := #[] }, { accessFlags := 0, nameIndex := 123, descriptorIndex := 43, attributes := #[] }] 48 2 #[] #[{ accessFlags := 18, nameIndex := 11, descriptorIndex := 12, attributes := #[] }, { accessFlags := 18, nameIndex := 15, descriptorIndex := 12, attributes := #[] }, { accessFlags := 26, nameIndex := 18, descriptorIndex := 19, attributes := #[] }, { accessFlags := 26, nameIndex := 111, descriptorIndex := 112, attributes := #[] }])
  fields := #[{ name := "first", type := .long, accessFlags := 18, slot := 0, constantValue := 0 }, { name := "last", type := .long, accessFlags := 18, slot := 1, constantValue := 0 }, { name := "RANGE", type := (.object "java/util/regex/Pattern"), accessFlags := 26, slot := 0, constantValue := 0 }, { name := "MAX_DIGITS", type := .int, accessFlags := 26, slot := 1, constantValue := 0 }]
  methods := #[k3m0, k3m1]
  instanceTypes := #[.long, .long]
  staticTypes := #[(.object "java/util/regex/Pattern"), .int]
  resolved := Array.replicate 148 none
  statics := none }

def pool4 : Array CpInfo := pool [(1, u "java/lang/Cloneable"), (0, .class_ 1), (0, u "java/lang/Object"), (0, .class_ 3)] 3

/-- java/lang/Cloneable -/
def k4 : Class := { plain "java/lang/Cloneable" (some 0) with
  accessFlags := 1537
  interfaces := #[]
  cf := some (fileOf pool4 2 #[] #[] 1537 4 #[] #[])
  fields := #[]
  methods := #[]
  instanceTypes := #[]
  staticTypes := #[]
  resolved := Array.replicate 8 none
  statics := none }

def pool5 : Array CpInfo := pool [(1, u "java/io/Serializable"), (0, .class_ 1), (0, u "java/lang/Object"), (0, .class_ 3)] 3

/-- java/io/Serializable -/
def k5 : Class := { plain "java/io/Serializable" (some 0) with
  accessFlags := 1537
  interfaces := #[]
  cf := some (fileOf pool5 2 #[] #[] 1537 4 #[] #[])
  fields := #[]
  methods := #[]
  instanceTypes := #[]
  staticTypes := #[]
  resolved := Array.replicate 8 none
  statics := none }

/-- the primitive byte -/
def k6 : Class := { plain "byte" none with kind := .primitive 'B', accessFlags := 0x411 }
/-- [B -/
def k7 : Class := { plain "[B" (some 0) with kind := .array 6 .byte, interfaces := #[4, 5], accessFlags := 1041 }

/-- the primitive int -/
def k8 : Class := { plain "int" none with kind := .primitive 'I', accessFlags := 0x411 }
/-- [I -/
def k9 : Class := { plain "[I" (some 0) with kind := .array 8 .int, interfaces := #[4, 5], accessFlags := 1041 }

def heap : Heap := #[]
def classes : Array Class := #[k0, k1, k2, k3, k4, k5, k6, k7, k8, k9]
def interned : List (Array UInt16 × Addr) := []
def slotsUsed : Nat := 0
def theMethod : MethodId := ⟨1, 1⟩
def args0 : Array Value := #[.long 3, .long 7, .long 12]
def aboutOver (below : List Frame) : State where
  vm := { classes := classes, interned := interned.toArray }
  heap := heap
  slotsUsed := slotsUsed
  threads := #[{ frames := .invoking theMethod args0 :: below }]
def below0 : List Frame := [.native { method := ⟨0, 0⟩, args := #[] }]
def about1 : State := aboutOver below0
def p0 : Program := .bare "" "" ""
def e0 : Env := launch0.env 0 0 0
theorem w_frames : about1.frames = Frame.invoking theMethod args0 :: below0 := rfl
set_option maxRecDepth 65536 in
theorem w_args : argsFit about1.vm theMethod args0 = true := by decide +kernel
set_option maxRecDepth 65536 in
theorem w_heap : heapFits about1 = true := by decide +kernel
set_option maxRecDepth 65536 in
theorem w_runnable : about1.curStatus? = some .runnable := by decide +kernel
set_option maxRecDepth 65536 in
theorem w_alone : about1.alone = true := by decide +kernel
set_option maxRecDepth 65536 in
theorem w_named : about1.methodNamed? x = some theMethod := by decide +kernel
set_option maxRecDepth 65536 in
theorem w_hears : about1.hears theMethod below0 = true := by decide +kernel
set_option maxRecDepth 65536 in
theorem w_ripe : about1.ripe theMethod args0 below0 = true := by decide +kernel
theorem w_running : about1.status = .running := rfl
set_option maxRecDepth 65536 in
theorem w_room : about1.hasRoom e0.platform room_1 = true :=
  launch0.hasRoom_least _ room_1 (by decide +kernel) (by decide +kernel) (by decide +kernel) (by decide +kernel) (by decide +kernel) (by decide +kernel)
theorem allAtoms_all (ts : List Jvm.Cond) (a : Array Jvm.Value) (st : Jvm.State) : (allAtoms ts).before a st = ts.all (fun c => c.before a st) := by
  induction ts with
  | nil => rfl
  | cons c t ih =>
    show (Jvm.Cond.and c (allAtoms t)).before a st = _
    rw [Jvm.Cond.before_and, ih, List.all_cons]
def words1 : List Jvm.Cond := Jvm.Cond.code x code maxLocals ret :: tables_1
/-- a 'code' word, met by the world's own term for the bytes: nothing is compared byte by byte -/
theorem code_word {y : MethodName} {bytes : ByteArray} {mx : Nat} {rt : Option FieldType} {a : Array Value} {s : State} {m : MethodId} {meth : Method} {c : Code} (h1 : s.methodNamed? y = some m) (h2 : s.vm.method? m = some meth) (h3 : meth.code = some c) (h4 : c.code = bytes)
    (h5 : (c.maxLocals == mx && c.exceptionTable.isEmpty && decide (c.maxStack ≤ mostOperands) && decide (meth.sig.returnType = rt) && !meth.locks && decide (parseMethodDescriptor y.desc = some meth.sig)) = true) : (Jvm.Cond.code y bytes mx rt).before a s = true := by
  simp only [Bool.and_eq_true, beq_iff_eq, Bool.not_eq_true', decide_eq_true_eq] at h5
  obtain ⟨⟨⟨⟨⟨g1, g2⟩, g3⟩, g4⟩, g5⟩, g6⟩ := h5
  simp [Cond.before, Cond.holds, Cond.value, h1, h2, h3, h4, g1, g2, g3, g4, g5, g6]
def isCode : Jvm.Cond → Bool
  | .code _ _ _ _ => true
  | _ => false
theorem all_split {L : List Jvm.Cond} {P : Jvm.Cond → Bool} (h1 : L.all (fun c => isCode c || P c) = true) (h2 : ∀ c ∈ L.filter isCode, P c = true) : L.all P = true := by
  refine List.all_eq_true.mpr fun c hc => ?_
  have h := List.all_eq_true.mp h1 c hc
  rcases Bool.eq_false_or_eq_true (isCode c) with hi | hi
  · exact h2 c (List.mem_filter.mpr ⟨hc, hi⟩)
  · simpa [hi] using h
set_option maxRecDepth 65536 in
theorem w_c0 : (Jvm.Cond.code x code maxLocals ret).before args0 about1 = true := code_word (m := ⟨1, 1⟩) (meth := k1m1) (c := k1c1) (by decide +kernel) rfl rfl rfl (by decide +kernel)
set_option maxRecDepth 65536 in
theorem w_c1 : (Jvm.Cond.code ({ cls := "com/example/zorgkoerier/zorgkoerier/receiver/ByteRange", name := "<init>", desc := "(JJ)V" } : Jvm.MethodName) prog_101_method_1_code (5 : Nat) (Option.none : Option Jvm.ClassFile.FieldType)).before args0 about1 = true := code_word (m := ⟨3, 0⟩) (meth := k3m0) (c := k3c0) (by decide +kernel) rfl rfl rfl (by decide +kernel)
set_option maxRecDepth 65536 in
theorem w_c2 : (Jvm.Cond.code ({ cls := "java/lang/Record", name := "<init>", desc := "()V" } : Jvm.MethodName) jdk_30_method_1_code (1 : Nat) (Option.none : Option Jvm.ClassFile.FieldType)).before args0 about1 = true := code_word (m := ⟨2, 0⟩) (meth := k2m0) (c := k2c0) (by decide +kernel) rfl rfl rfl (by decide +kernel)
set_option maxRecDepth 65536 in
theorem w_c3 : (Jvm.Cond.code ({ cls := "java/lang/Object", name := "<init>", desc := "()V" } : Jvm.MethodName) object_method_1_code (1 : Nat) (Option.none : Option Jvm.ClassFile.FieldType)).before args0 about1 = true := code_word (m := ⟨0, 0⟩) (meth := k0m0) (c := k0c0) (by decide +kernel) rfl rfl rfl (by decide +kernel)
set_option maxRecDepth 65536 in
theorem w_c4 : (Jvm.Cond.code ({ cls := "com/example/zorgkoerier/zorgkoerier/receiver/ByteRange", name := "satisfiable", desc := "()Z" } : Jvm.MethodName) prog_101_method_3_code (1 : Nat) (Option.some Jvm.ClassFile.FieldType.boolean)).before args0 about1 = true := code_word (m := ⟨3, 1⟩) (meth := k3m1) (c := k3c1) (by decide +kernel) rfl rfl rfl (by decide +kernel)
def codes1 : List Jvm.Cond := [Jvm.Cond.code x code maxLocals ret, Jvm.Cond.code ({ cls := "com/example/zorgkoerier/zorgkoerier/receiver/ByteRange", name := "<init>", desc := "(JJ)V" } : Jvm.MethodName) prog_101_method_1_code (5 : Nat) (Option.none : Option Jvm.ClassFile.FieldType), Jvm.Cond.code ({ cls := "java/lang/Record", name := "<init>", desc := "()V" } : Jvm.MethodName) jdk_30_method_1_code (1 : Nat) (Option.none : Option Jvm.ClassFile.FieldType), Jvm.Cond.code ({ cls := "java/lang/Object", name := "<init>", desc := "()V" } : Jvm.MethodName) object_method_1_code (1 : Nat) (Option.none : Option Jvm.ClassFile.FieldType), Jvm.Cond.code ({ cls := "com/example/zorgkoerier/zorgkoerier/receiver/ByteRange", name := "satisfiable", desc := "()Z" } : Jvm.MethodName) prog_101_method_3_code (1 : Nat) (Option.some Jvm.ClassFile.FieldType.boolean)]
set_option maxRecDepth 65536 in
theorem codes_eq : words1.filter isCode = codes1 := rfl
theorem w_codes : ∀ c ∈ words1.filter isCode, c.before args0 about1 = true := by
  rw [codes_eq]
  intro c hc
  simp only [codes1, List.mem_cons, List.not_mem_nil, or_false] at hc
  rcases hc with rfl | rfl | rfl | rfl | rfl
  · exact w_c0
  · exact w_c1
  · exact w_c2
  · exact w_c3
  · exact w_c4
set_option maxRecDepth 65536 in
theorem w_t1 : (words1.take 24).all (fun c => isCode c || c.before args0 about1) = true := by decide +kernel
set_option maxRecDepth 65536 in
theorem w_t2 : (words1.drop 24).all (fun c => isCode c || c.before args0 about1) = true := by decide +kernel
theorem w_tables : (allAtoms (Jvm.Cond.code x code maxLocals ret :: tables_1)).before args0 about1 = true := by
  rw [allAtoms_all]
  show words1.all (fun c => c.before args0 about1) = true
  refine all_split ?_ w_codes
  rw [← List.take_append_drop 24 words1, List.all_append, w_t1, w_t2]
  rfl
set_option maxRecDepth 65536 in
theorem w_case : (Jvm.Cond.and given_1 narrow_1).before args0 about1 = true := by decide +kernel
theorem w_applies : (headSpec (Jvm.Cond.code x code maxLocals ret :: tables_1) room_1).applies x e0.platform about1 = true :=
  (Spec.applies_iff w_frames).mpr ⟨w_running, w_runnable, w_alone, w_named, w_hears, w_ripe, w_room, w_tables⟩
theorem atStart : AtStart classFile x code maxLocals ret World_1 tables_1 room_1 Calls_1 rest_1 Pre_1 launch0 p0 e0 about1 theMethod args0 below0 :=
  ⟨lists_1, trivial, launch0.admits_env _ _ _, launch0.least_env, fairChoices_fair.cas, fairChoices_fair.clock, w_frames, w_args, w_heap, w_applies, trivial, trivial, w_case⟩
end start1
theorem witness_1 : WitnessClaimed_1 := ⟨start1.p0, start1.e0, start1.about1, start1.theMethod, start1.args0, start1.below0, start1.atStart⟩
end Jvm.Pilot.@@N@@
