import JvmDerived
import JvmDerived.Pilot.@@N@@Statement
import JvmDerived.Pilot.@@N@@Code
set_option linter.unusedVariables false
set_option linter.unusedSimpArgs false
@@BLOCK:NumsL.lean.txt@@
namespace Jvm.RoadKit
open Sem ClassFile Op Lib Jvm.Stand Jvm.Free Jvm.LawKit
section New
variable {p : Program} {l : Launch} {e : Env} {R : Room} {s : State} {m : MethodId} {args : Array Value} {below : List Frame} {meth : Method} {c : Code} {T : State} {locs : List Loc} {cells slots : Nat}
theorem retI (X : Stand p l e R s m args below meth c T locs cells slots) (hx : p.tables.exec = Jvm.exec) {pc : Nat} {Ls : Array Slot} {z : Int32} {rest : List Value} (hret : meth.sig.returnType = some .int) (hd : decode c.code pc = .ok (.ireturn, 1)) {fs : List Frame}
    (hl : ∀ (f : JFrame) (acts : List Action), f.method = m → f.locked = none → f.entered = [] → (doReturn e (T.setTop f) acts (some (.int z))).1 = T.setFrames fs) : Steps p.tables e below (T.setTop (mkF m pc Ls (.int z :: rest))) (T.setFrames fs) := by
  have hm' : T.vm.method? m = some meth := X.method'
  have hn : narrow .int (.int z) = .int z := rfl
  show Steps p.tables e below (T.setTop { method := m, pc := pc, locals := Ls, stack := _ :: rest, locked := none }) _
  jvm_step X.here [X.here.top, hx, hd, hm', hret, hn]
  first | (intro acts; rw [hl _ acts rfl rfl rfl]) | rw [hl _ _ rfl rfl rfl]
  exact Steps.refl _
end New
end Jvm.RoadKit
namespace Jvm.Pilot.@@N@@
open Jvm Jvm.ClassFile Sem Op Lib Jvm.Free Jvm.Stand Jvm.LawKit Jvm.RoadKit Bundle Jvm.Pilot.@@N@@.Jvm.D
section OwnBase
variable {p : Program} {l : Launch} {e : Env} {R : Room} {s : State} {m : MethodId} {args : Array Value} {below : List Frame} {meth : Method} {c : Code} {T : State} {h : Heap} {locs : List Loc} {cells slots : Nat} {Z : State} {a0 : Array Value} {own nm : String} {bytes : ByteArray} {mx : Nat} {rt : Option FieldType} {K : State → Outcome → Prop} {pc pc' : Nat} {Ls : Array Slot} {rest : List Value}
/-- the run from S comes to an end that is as K says -/
def own_Go (p : Program) (e : Env) (below : List Frame) (K : State → Outcome → Prop) (S : State) : Prop :=
  ∃ t o, Steps p.tables e below S t ∧ t.status = .running ∧ Ended t below o ∧ K t o
def own_K (s : State) (Q : Option Value → Heap → List Loc → Prop) (kc ks : Nat) (t : State) (o : Outcome) : Prop :=
  ∃ v L, o = .returned v ∧ Q v t.heap L ∧ FrameEnd s o t L kc ks
/-- the walk stands: all that a step asks, in one word -/
def own_S (Z : State) (own nm : String) (bytes : ByteArray) (mx : Nat) (rt : Option FieldType) (p : Program) (l : Launch) (e : Env) (R : Room) (s : State) (m : MethodId) (args : Array Value) (below : List Frame) (meth : Method) (c : Code) (T : State) (h : Heap) (locs : List Loc) (cells slots : Nat) : Prop :=
  Stand p l e R s m args below meth c T locs cells slots ∧ p.tables.exec = Jvm.exec ∧ c.code = bytes ∧ c.maxLocals = mx ∧ s.vm.findClass own = some m.cls ∧ Z.Warmed39 s.vm ∧ meth.sig.returnType = rt ∧ meth.locks = false ∧ T.heap = h ∧ meth.name = nm
theorem own_S.st (P : own_S Z own nm bytes mx rt p l e R s m args below meth c T h locs cells slots) : Stand p l e R s m args below meth c T locs cells slots := P.1
theorem own_S.ex (P : own_S Z own nm bytes mx rt p l e R s m args below meth c T h locs cells slots) : p.tables.exec = Jvm.exec := P.2.1
theorem own_S.cd (P : own_S Z own nm bytes mx rt p l e R s m args below meth c T h locs cells slots) {pc : Nat} {r : Except ClassFile.DecodeError (ClassFile.Instr × Nat)} (hd : decode bytes pc = r) : decode c.code pc = r := hb P.2.2.1 hd
theorem own_S.ml (P : own_S Z own nm bytes mx rt p l e R s m args below meth c T h locs cells slots) : c.maxLocals = mx := P.2.2.2.1
theorem own_S.ow (P : own_S Z own nm bytes mx rt p l e R s m args below meth c T h locs cells slots) : s.vm.findClass own = some m.cls := P.2.2.2.2.1
theorem own_S.wz (P : own_S Z own nm bytes mx rt p l e R s m args below meth c T h locs cells slots) : Z.Warmed39 s.vm := P.2.2.2.2.2.1
theorem own_S.rty (P : own_S Z own nm bytes mx rt p l e R s m args below meth c T h locs cells slots) : meth.sig.returnType = rt := P.2.2.2.2.2.2.1
theorem own_S.lk (P : own_S Z own nm bytes mx rt p l e R s m args below meth c T h locs cells slots) : meth.locks = false := P.2.2.2.2.2.2.2.1
theorem own_S.hp (P : own_S Z own nm bytes mx rt p l e R s m args below meth c T h locs cells slots) : T.heap = h := P.2.2.2.2.2.2.2.2.1
theorem own_S.nmm (P : own_S Z own nm bytes mx rt p l e R s m args below meth c T h locs cells slots) : meth.name = nm := P.2.2.2.2.2.2.2.2.2
theorem own_S.move (P : own_S Z own nm bytes mx rt p l e R s m args below meth c T h locs cells slots) {T' : State} {h' : Heap} {locs' : List Loc} {cells' slots' : Nat} (X : Stand p l e R s m args below meth c T' locs' cells' slots') (eh : T'.heap = h') : own_S Z own nm bytes mx rt p l e R s m args below meth c T' h' locs' cells' slots' :=
  ⟨X, P.2.1, P.2.2.1, P.2.2.2.1, P.2.2.2.2.1, P.2.2.2.2.2.1, P.2.2.2.2.2.2.1, P.2.2.2.2.2.2.2.1, eh, P.2.2.2.2.2.2.2.2.2⟩
theorem own_st {S S' : State} (h : ∀ t, Steps p.tables e below S' t → Steps p.tables e below S t) (k : own_Go p e below K S') : own_Go p e below K S := by
  obtain ⟨t, o, h1, h2⟩ := k
  exact ⟨t, o, h t h1, h2⟩

theorem own_iadd (P : own_S Z own nm bytes mx rt p l e R s m args below meth c T h locs cells slots) {x y : Int32} (hd : decode bytes pc = .ok (.iadd, 1)) (hp : pc + 1 = pc')
    (k : own_Go p e below K (T.setTop (mkF m pc' Ls (.int (x + y) :: rest)))) : own_Go p e below K (T.setTop (mkF m pc Ls (.int y :: .int x :: rest))) := by
  subst hp
  exact own_st (fun t k => XS.iadd P.st.here P.ex rfl (P.cd hd) rfl k) k
theorem own_isub (P : own_S Z own nm bytes mx rt p l e R s m args below meth c T h locs cells slots) {x y : Int32} (hd : decode bytes pc = .ok (.isub, 1)) (hp : pc + 1 = pc')
    (k : own_Go p e below K (T.setTop (mkF m pc' Ls (.int (x - y) :: rest)))) : own_Go p e below K (T.setTop (mkF m pc Ls (.int y :: .int x :: rest))) := by
  subst hp
  exact own_st (fun t k => XS.isub P.st.here P.ex rfl (P.cd hd) rfl k) k
theorem own_imul (P : own_S Z own nm bytes mx rt p l e R s m args below meth c T h locs cells slots) {x y : Int32} (hd : decode bytes pc = .ok (.imul, 1)) (hp : pc + 1 = pc')
    (k : own_Go p e below K (T.setTop (mkF m pc' Ls (.int (x * y) :: rest)))) : own_Go p e below K (T.setTop (mkF m pc Ls (.int y :: .int x :: rest))) := by
  subst hp
  exact own_st (fun t k => XS.imul P.st.here P.ex rfl (P.cd hd) rfl k) k
theorem own_iand (P : own_S Z own nm bytes mx rt p l e R s m args below meth c T h locs cells slots) {x y : Int32} (hd : decode bytes pc = .ok (.iand, 1)) (hp : pc + 1 = pc')
    (k : own_Go p e below K (T.setTop (mkF m pc' Ls (.int (x &&& y) :: rest)))) : own_Go p e below K (T.setTop (mkF m pc Ls (.int y :: .int x :: rest))) := by
  subst hp
  exact own_st (fun t k => XS.iand P.st.here P.ex rfl (P.cd hd) rfl k) k
theorem own_ior (P : own_S Z own nm bytes mx rt p l e R s m args below meth c T h locs cells slots) {x y : Int32} (hd : decode bytes pc = .ok (.ior, 1)) (hp : pc + 1 = pc')
    (k : own_Go p e below K (T.setTop (mkF m pc' Ls (.int (x ||| y) :: rest)))) : own_Go p e below K (T.setTop (mkF m pc Ls (.int y :: .int x :: rest))) := by
  subst hp
  exact own_st (fun t k => XS.ior P.st.here P.ex rfl (P.cd hd) rfl k) k
theorem own_ixor (P : own_S Z own nm bytes mx rt p l e R s m args below meth c T h locs cells slots) {x y : Int32} (hd : decode bytes pc = .ok (.ixor, 1)) (hp : pc + 1 = pc')
    (k : own_Go p e below K (T.setTop (mkF m pc' Ls (.int (x ^^^ y) :: rest)))) : own_Go p e below K (T.setTop (mkF m pc Ls (.int y :: .int x :: rest))) := by
  subst hp
  exact own_st (fun t k => XS.ixor P.st.here P.ex rfl (P.cd hd) rfl k) k
theorem own_idiv (P : own_S Z own nm bytes mx rt p l e R s m args below meth c T h locs cells slots) {x y : Int32} (hd : decode bytes pc = .ok (.idiv, 1)) (hp : pc + 1 = pc') (hy : y ≠ 0)
    (k : own_Go p e below K (T.setTop (mkF m pc' Ls (.int (x / y) :: rest)))) : own_Go p e below K (T.setTop (mkF m pc Ls (.int y :: .int x :: rest))) := by
  subst hp
  exact own_st (fun t k => XS.idiv P.st.here P.ex rfl (P.cd hd) rfl hy k) k
theorem own_irem (P : own_S Z own nm bytes mx rt p l e R s m args below meth c T h locs cells slots) {x y : Int32} (hd : decode bytes pc = .ok (.irem, 1)) (hp : pc + 1 = pc') (hy : y ≠ 0)
    (k : own_Go p e below K (T.setTop (mkF m pc' Ls (.int (x - (x / y) * y) :: rest)))) : own_Go p e below K (T.setTop (mkF m pc Ls (.int y :: .int x :: rest))) := by
  subst hp
  exact own_st (fun t k => XS.irem P.st.here P.ex rfl (P.cd hd) rfl hy k) k
theorem own_ladd (P : own_S Z own nm bytes mx rt p l e R s m args below meth c T h locs cells slots) {x y : Int64} (hd : decode bytes pc = .ok (.ladd, 1)) (hp : pc + 1 = pc')
    (k : own_Go p e below K (T.setTop (mkF m pc' Ls (.long (x + y) :: rest)))) : own_Go p e below K (T.setTop (mkF m pc Ls (.long y :: .long x :: rest))) := by
  subst hp
  exact own_st (fun t k => XS.ladd P.st.here P.ex rfl (P.cd hd) rfl k) k
theorem own_lsub (P : own_S Z own nm bytes mx rt p l e R s m args below meth c T h locs cells slots) {x y : Int64} (hd : decode bytes pc = .ok (.lsub, 1)) (hp : pc + 1 = pc')
    (k : own_Go p e below K (T.setTop (mkF m pc' Ls (.long (x - y) :: rest)))) : own_Go p e below K (T.setTop (mkF m pc Ls (.long y :: .long x :: rest))) := by
  subst hp
  exact own_st (fun t k => XS.lsub P.st.here P.ex rfl (P.cd hd) rfl k) k
theorem own_lmul (P : own_S Z own nm bytes mx rt p l e R s m args below meth c T h locs cells slots) {x y : Int64} (hd : decode bytes pc = .ok (.lmul, 1)) (hp : pc + 1 = pc')
    (k : own_Go p e below K (T.setTop (mkF m pc' Ls (.long (x * y) :: rest)))) : own_Go p e below K (T.setTop (mkF m pc Ls (.long y :: .long x :: rest))) := by
  subst hp
  exact own_st (fun t k => XS.lmul P.st.here P.ex rfl (P.cd hd) rfl k) k
theorem own_land (P : own_S Z own nm bytes mx rt p l e R s m args below meth c T h locs cells slots) {x y : Int64} (hd : decode bytes pc = .ok (.land, 1)) (hp : pc + 1 = pc')
    (k : own_Go p e below K (T.setTop (mkF m pc' Ls (.long (x &&& y) :: rest)))) : own_Go p e below K (T.setTop (mkF m pc Ls (.long y :: .long x :: rest))) := by
  subst hp
  exact own_st (fun t k => XS.land P.st.here P.ex rfl (P.cd hd) rfl k) k
theorem own_lor (P : own_S Z own nm bytes mx rt p l e R s m args below meth c T h locs cells slots) {x y : Int64} (hd : decode bytes pc = .ok (.lor, 1)) (hp : pc + 1 = pc')
    (k : own_Go p e below K (T.setTop (mkF m pc' Ls (.long (x ||| y) :: rest)))) : own_Go p e below K (T.setTop (mkF m pc Ls (.long y :: .long x :: rest))) := by
  subst hp
  exact own_st (fun t k => XS.lor P.st.here P.ex rfl (P.cd hd) rfl k) k
theorem own_lxor (P : own_S Z own nm bytes mx rt p l e R s m args below meth c T h locs cells slots) {x y : Int64} (hd : decode bytes pc = .ok (.lxor, 1)) (hp : pc + 1 = pc')
    (k : own_Go p e below K (T.setTop (mkF m pc' Ls (.long (x ^^^ y) :: rest)))) : own_Go p e below K (T.setTop (mkF m pc Ls (.long y :: .long x :: rest))) := by
  subst hp
  exact own_st (fun t k => XS.lxor P.st.here P.ex rfl (P.cd hd) rfl k) k
theorem own_ldiv (P : own_S Z own nm bytes mx rt p l e R s m args below meth c T h locs cells slots) {x y : Int64} (hd : decode bytes pc = .ok (.ldiv, 1)) (hp : pc + 1 = pc') (hy : y ≠ 0)
    (k : own_Go p e below K (T.setTop (mkF m pc' Ls (.long (x / y) :: rest)))) : own_Go p e below K (T.setTop (mkF m pc Ls (.long y :: .long x :: rest))) := by
  subst hp
  exact own_st (fun t k => XS.ldiv P.st.here P.ex rfl (P.cd hd) rfl hy k) k
theorem own_lrem (P : own_S Z own nm bytes mx rt p l e R s m args below meth c T h locs cells slots) {x y : Int64} (hd : decode bytes pc = .ok (.lrem, 1)) (hp : pc + 1 = pc') (hy : y ≠ 0)
    (k : own_Go p e below K (T.setTop (mkF m pc' Ls (.long (x - (x / y) * y) :: rest)))) : own_Go p e below K (T.setTop (mkF m pc Ls (.long y :: .long x :: rest))) := by
  subst hp
  exact own_st (fun t k => XS.lrem P.st.here P.ex rfl (P.cd hd) rfl hy k) k
theorem own_ishl (P : own_S Z own nm bytes mx rt p l e R s m args below meth c T h locs cells slots) {x y : Int32} (hd : decode bytes pc = .ok (.ishl, 1)) (hp : pc + 1 = pc')
    (k : own_Go p e below K (T.setTop (mkF m pc' Ls (.int (x <<< (y &&& 31)) :: rest)))) : own_Go p e below K (T.setTop (mkF m pc Ls (.int y :: .int x :: rest))) := by
  subst hp
  exact own_st (fun t k => XS.ishl P.st.here P.ex rfl (P.cd hd) rfl k) k
theorem own_ishr (P : own_S Z own nm bytes mx rt p l e R s m args below meth c T h locs cells slots) {x y : Int32} (hd : decode bytes pc = .ok (.ishr, 1)) (hp : pc + 1 = pc')
    (k : own_Go p e below K (T.setTop (mkF m pc' Ls (.int (x >>> (y &&& 31)) :: rest)))) : own_Go p e below K (T.setTop (mkF m pc Ls (.int y :: .int x :: rest))) := by
  subst hp
  exact own_st (fun t k => XS.ishr P.st.here P.ex rfl (P.cd hd) rfl k) k
theorem own_iushr (P : own_S Z own nm bytes mx rt p l e R s m args below meth c T h locs cells slots) {x y : Int32} (hd : decode bytes pc = .ok (.iushr, 1)) (hp : pc + 1 = pc')
    (k : own_Go p e below K (T.setTop (mkF m pc' Ls (.int ((x.toUInt32 >>> (y &&& 31).toUInt32).toInt32) :: rest)))) : own_Go p e below K (T.setTop (mkF m pc Ls (.int y :: .int x :: rest))) := by
  subst hp
  exact own_st (fun t k => XS.iushr P.st.here P.ex rfl (P.cd hd) rfl k) k
theorem own_lshl (P : own_S Z own nm bytes mx rt p l e R s m args below meth c T h locs cells slots) {x : Int64} {y : Int32} (hd : decode bytes pc = .ok (.lshl, 1)) (hp : pc + 1 = pc')
    (k : own_Go p e below K (T.setTop (mkF m pc' Ls (.long (x <<< (y &&& 0x3f).toInt64) :: rest)))) : own_Go p e below K (T.setTop (mkF m pc Ls (.int y :: .long x :: rest))) := by
  subst hp
  exact own_st (fun t k => XS.lshl P.st.here P.ex rfl (P.cd hd) rfl k) k
theorem own_lshr (P : own_S Z own nm bytes mx rt p l e R s m args below meth c T h locs cells slots) {x : Int64} {y : Int32} (hd : decode bytes pc = .ok (.lshr, 1)) (hp : pc + 1 = pc')
    (k : own_Go p e below K (T.setTop (mkF m pc' Ls (.long (x >>> (y &&& 0x3f).toInt64) :: rest)))) : own_Go p e below K (T.setTop (mkF m pc Ls (.int y :: .long x :: rest))) := by
  subst hp
  exact own_st (fun t k => XS.lshr P.st.here P.ex rfl (P.cd hd) rfl k) k
theorem own_lushr (P : own_S Z own nm bytes mx rt p l e R s m args below meth c T h locs cells slots) {x : Int64} {y : Int32} (hd : decode bytes pc = .ok (.lushr, 1)) (hp : pc + 1 = pc')
    (k : own_Go p e below K (T.setTop (mkF m pc' Ls (.long ((x.toUInt64 >>> (y &&& 0x3f).toInt64.toUInt64).toInt64) :: rest)))) : own_Go p e below K (T.setTop (mkF m pc Ls (.int y :: .long x :: rest))) := by
  subst hp
  exact own_st (fun t k => XS.lushr P.st.here P.ex rfl (P.cd hd) rfl k) k
theorem own_i2l (P : own_S Z own nm bytes mx rt p l e R s m args below meth c T h locs cells slots) {x : Int32} (hd : decode bytes pc = .ok (.i2l, 1)) (hp : pc + 1 = pc')
    (k : own_Go p e below K (T.setTop (mkF m pc' Ls (.long (x.toInt64) :: rest)))) : own_Go p e below K (T.setTop (mkF m pc Ls (.int x :: rest))) := by
  subst hp
  exact own_st (fun t k => XS.i2l P.st.here P.ex rfl (P.cd hd) rfl k) k
theorem own_l2i (P : own_S Z own nm bytes mx rt p l e R s m args below meth c T h locs cells slots) {x : Int64} (hd : decode bytes pc = .ok (.l2i, 1)) (hp : pc + 1 = pc')
    (k : own_Go p e below K (T.setTop (mkF m pc' Ls (.int (x.toInt32) :: rest)))) : own_Go p e below K (T.setTop (mkF m pc Ls (.long x :: rest))) := by
  subst hp
  exact own_st (fun t k => XS.l2i P.st.here P.ex rfl (P.cd hd) rfl k) k
theorem own_i2b (P : own_S Z own nm bytes mx rt p l e R s m args below meth c T h locs cells slots) {x : Int32} (hd : decode bytes pc = .ok (.i2b, 1)) (hp : pc + 1 = pc')
    (k : own_Go p e below K (T.setTop (mkF m pc' Ls (.int (x.toInt8.toInt32) :: rest)))) : own_Go p e below K (T.setTop (mkF m pc Ls (.int x :: rest))) := by
  subst hp
  exact own_st (fun t k => XS.i2b P.st.here P.ex rfl (P.cd hd) rfl k) k
theorem own_i2c (P : own_S Z own nm bytes mx rt p l e R s m args below meth c T h locs cells slots) {x : Int32} (hd : decode bytes pc = .ok (.i2c, 1)) (hp : pc + 1 = pc')
    (k : own_Go p e below K (T.setTop (mkF m pc' Ls (.int (x.toUInt32.toUInt16.toUInt32.toInt32) :: rest)))) : own_Go p e below K (T.setTop (mkF m pc Ls (.int x :: rest))) := by
  subst hp
  exact own_st (fun t k => XS.i2c P.st.here P.ex rfl (P.cd hd) rfl k) k
theorem own_i2s (P : own_S Z own nm bytes mx rt p l e R s m args below meth c T h locs cells slots) {x : Int32} (hd : decode bytes pc = .ok (.i2s, 1)) (hp : pc + 1 = pc')
    (k : own_Go p e below K (T.setTop (mkF m pc' Ls (.int (x.toInt16.toInt32) :: rest)))) : own_Go p e below K (T.setTop (mkF m pc Ls (.int x :: rest))) := by
  subst hp
  exact own_st (fun t k => XS.i2s P.st.here P.ex rfl (P.cd hd) rfl k) k
theorem own_lneg (P : own_S Z own nm bytes mx rt p l e R s m args below meth c T h locs cells slots) {x : Int64} (hd : decode bytes pc = .ok (.lneg, 1)) (hp : pc + 1 = pc')
    (k : own_Go p e below K (T.setTop (mkF m pc' Ls (.long (-x) :: rest)))) : own_Go p e below K (T.setTop (mkF m pc Ls (.long x :: rest))) := by
  subst hp
  exact own_st (fun t k => XS.lneg P.st.here P.ex rfl (P.cd hd) rfl k) k
theorem own_ineg (P : own_S Z own nm bytes mx rt p l e R s m args below meth c T h locs cells slots) {x : Int32} (hd : decode bytes pc = .ok (.ineg, 1)) (hp : pc + 1 = pc')
    (k : own_Go p e below K (T.setTop (mkF m pc' Ls (.int (-x) :: rest)))) : own_Go p e below K (T.setTop (mkF m pc Ls (.int x :: rest))) := by
  subst hp
  exact own_st (fun t k => XS.ineg P.st.here P.ex rfl (P.cd hd) rfl k) k
theorem own_iloadN (P : own_S Z own nm bytes mx rt p l e R s m args below meth c T h locs cells slots) {j : Fin 4} {v : Int32} (hd : decode bytes pc = .ok (.iload_n j, 1)) (hp : pc + 1 = pc') (hl : Ls[j.val]? = some (.val (.int v)))
    (k : own_Go p e below K (T.setTop (mkF m pc' Ls (.int v :: rest)))) : own_Go p e below K (T.setTop (mkF m pc Ls rest)) := by
  subst hp
  exact own_st (fun t k => XS.iloadN P.st.here P.ex rfl (P.cd hd) hl k) k
theorem own_iload (P : own_S Z own nm bytes mx rt p l e R s m args below meth c T h locs cells slots) {j : Nat} {v : Int32} (hd : decode bytes pc = .ok (.iload j, 2)) (hp : pc + 2 = pc') (hl : Ls[j]? = some (.val (.int v)))
    (k : own_Go p e below K (T.setTop (mkF m pc' Ls (.int v :: rest)))) : own_Go p e below K (T.setTop (mkF m pc Ls rest)) := by
  subst hp
  exact own_st (fun t k => XS.iload P.st.here P.ex rfl (P.cd hd) hl k) k
theorem own_lloadN (P : own_S Z own nm bytes mx rt p l e R s m args below meth c T h locs cells slots) {j : Fin 4} {v : Int64} (hd : decode bytes pc = .ok (.lload_n j, 1)) (hp : pc + 1 = pc') (hl : Ls[j.val]? = some (.val (.long v)))
    (k : own_Go p e below K (T.setTop (mkF m pc' Ls (.long v :: rest)))) : own_Go p e below K (T.setTop (mkF m pc Ls rest)) := by
  subst hp
  exact own_st (fun t k => XS.lloadN P.st.here P.ex rfl (P.cd hd) hl k) k
theorem own_lload (P : own_S Z own nm bytes mx rt p l e R s m args below meth c T h locs cells slots) {j : Nat} {v : Int64} (hd : decode bytes pc = .ok (.lload j, 2)) (hp : pc + 2 = pc') (hl : Ls[j]? = some (.val (.long v)))
    (k : own_Go p e below K (T.setTop (mkF m pc' Ls (.long v :: rest)))) : own_Go p e below K (T.setTop (mkF m pc Ls rest)) := by
  subst hp
  exact own_st (fun t k => XS.lload P.st.here P.ex rfl (P.cd hd) hl k) k
theorem own_aloadN (P : own_S Z own nm bytes mx rt p l e R s m args below meth c T h locs cells slots) {j : Fin 4} {v : Value} (hd : decode bytes pc = .ok (.aload_n j, 1)) (hp : pc + 1 = pc') (hl : Ls[j.val]? = some (.val v)) (hv : v.isRef = true)
    (k : own_Go p e below K (T.setTop (mkF m pc' Ls (v :: rest)))) : own_Go p e below K (T.setTop (mkF m pc Ls rest)) := by
  subst hp
  exact own_st (fun t k => XS.aloadN P.st.here P.ex rfl (P.cd hd) hl hv k) k
theorem own_aload (P : own_S Z own nm bytes mx rt p l e R s m args below meth c T h locs cells slots) {j : Nat} {v : Value} (hd : decode bytes pc = .ok (.aload j, 2)) (hp : pc + 2 = pc') (hl : Ls[j]? = some (.val v)) (hv : v.isRef = true)
    (k : own_Go p e below K (T.setTop (mkF m pc' Ls (v :: rest)))) : own_Go p e below K (T.setTop (mkF m pc Ls rest)) := by
  subst hp
  exact own_st (fun t k => XS.aload P.st.here P.ex rfl (P.cd hd) hl hv k) k
theorem own_istoreN (P : own_S Z own nm bytes mx rt p l e R s m args below meth c T h locs cells slots) {j : Fin 4} {v : Int32} {Ls' : Array Slot} (hd : decode bytes pc = .ok (.istore_n j, 1)) (hp : pc + 1 = pc') (hl : storeLocals Ls j.val (.int v) = some Ls')
    (k : own_Go p e below K (T.setTop (mkF m pc' Ls' rest))) : own_Go p e below K (T.setTop (mkF m pc Ls (.int v :: rest))) := by
  subst hp
  exact own_st (fun t k => XS.istoreN P.st.here P.ex rfl (P.cd hd) rfl hl k) k
theorem own_istore (P : own_S Z own nm bytes mx rt p l e R s m args below meth c T h locs cells slots) {j : Nat} {v : Int32} {Ls' : Array Slot} (hd : decode bytes pc = .ok (.istore j, 2)) (hp : pc + 2 = pc') (hl : storeLocals Ls j (.int v) = some Ls')
    (k : own_Go p e below K (T.setTop (mkF m pc' Ls' rest))) : own_Go p e below K (T.setTop (mkF m pc Ls (.int v :: rest))) := by
  subst hp
  exact own_st (fun t k => XS.istore P.st.here P.ex rfl (P.cd hd) rfl hl k) k
theorem own_lstoreN (P : own_S Z own nm bytes mx rt p l e R s m args below meth c T h locs cells slots) {j : Fin 4} {v : Int64} {Ls' : Array Slot} (hd : decode bytes pc = .ok (.lstore_n j, 1)) (hp : pc + 1 = pc') (hl : storeLocals Ls j.val (.long v) = some Ls')
    (k : own_Go p e below K (T.setTop (mkF m pc' Ls' rest))) : own_Go p e below K (T.setTop (mkF m pc Ls (.long v :: rest))) := by
  subst hp
  exact own_st (fun t k => XS.lstoreN P.st.here P.ex rfl (P.cd hd) rfl hl k) k
theorem own_lstore (P : own_S Z own nm bytes mx rt p l e R s m args below meth c T h locs cells slots) {j : Nat} {v : Int64} {Ls' : Array Slot} (hd : decode bytes pc = .ok (.lstore j, 2)) (hp : pc + 2 = pc') (hl : storeLocals Ls j (.long v) = some Ls')
    (k : own_Go p e below K (T.setTop (mkF m pc' Ls' rest))) : own_Go p e below K (T.setTop (mkF m pc Ls (.long v :: rest))) := by
  subst hp
  exact own_st (fun t k => XS.lstore P.st.here P.ex rfl (P.cd hd) rfl hl k) k
theorem own_astoreN (P : own_S Z own nm bytes mx rt p l e R s m args below meth c T h locs cells slots) {j : Fin 4} {v : Value} {Ls' : Array Slot} (hd : decode bytes pc = .ok (.astore_n j, 1)) (hp : pc + 1 = pc') (hv : v.isRef = true) (hl : storeLocals Ls j.val v = some Ls')
    (k : own_Go p e below K (T.setTop (mkF m pc' Ls' rest))) : own_Go p e below K (T.setTop (mkF m pc Ls (v :: rest))) := by
  subst hp
  exact own_st (fun t k => XS.astoreN P.st.here P.ex rfl (P.cd hd) rfl hv hl k) k
theorem own_astore (P : own_S Z own nm bytes mx rt p l e R s m args below meth c T h locs cells slots) {j : Nat} {v : Value} {Ls' : Array Slot} (hd : decode bytes pc = .ok (.astore j, 2)) (hp : pc + 2 = pc') (hv : v.isRef = true) (hl : storeLocals Ls j v = some Ls')
    (k : own_Go p e below K (T.setTop (mkF m pc' Ls' rest))) : own_Go p e below K (T.setTop (mkF m pc Ls (v :: rest))) := by
  subst hp
  exact own_st (fun t k => XS.astore P.st.here P.ex rfl (P.cd hd) rfl hv hl k) k
theorem own_iconst (P : own_S Z own nm bytes mx rt p l e R s m args below meth c T h locs cells slots) {i : Int} {v : Int32} (hd : decode bytes pc = .ok (.iconst i, 1)) (hp : pc + 1 = pc') (hv : Int32.ofInt i = v)
    (k : own_Go p e below K (T.setTop (mkF m pc' Ls (.int v :: rest)))) : own_Go p e below K (T.setTop (mkF m pc Ls rest)) := by
  subst hp
  exact own_st (fun t k => XS.iconst P.st.here P.ex rfl (P.cd hd) (by rw [hv]; exact k)) k
theorem own_bipush (P : own_S Z own nm bytes mx rt p l e R s m args below meth c T h locs cells slots) {i : Int} {v : Int32} (hd : decode bytes pc = .ok (.bipush i, 2)) (hp : pc + 2 = pc') (hv : (Int8.ofInt i).toInt32 = v)
    (k : own_Go p e below K (T.setTop (mkF m pc' Ls (.int v :: rest)))) : own_Go p e below K (T.setTop (mkF m pc Ls rest)) := by
  subst hp
  exact own_st (fun t k => XS.bipush P.st.here P.ex rfl (P.cd hd) (by rw [hv]; exact k)) k
theorem own_sipush (P : own_S Z own nm bytes mx rt p l e R s m args below meth c T h locs cells slots) {i : Int} {v : Int32} (hd : decode bytes pc = .ok (.sipush i, 3)) (hp : pc + 3 = pc') (hv : (Int16.ofInt i).toInt32 = v)
    (k : own_Go p e below K (T.setTop (mkF m pc' Ls (.int v :: rest)))) : own_Go p e below K (T.setTop (mkF m pc Ls rest)) := by
  subst hp
  exact own_st (fun t k => XS.sipush P.st.here P.ex rfl (P.cd hd) (by rw [hv]; exact k)) k
theorem own_lconst (P : own_S Z own nm bytes mx rt p l e R s m args below meth c T h locs cells slots) {j : Fin 2} {v : Int64} (hd : decode bytes pc = .ok (.lconst j, 1)) (hp : pc + 1 = pc') (hv : Int64.ofNat j = v)
    (k : own_Go p e below K (T.setTop (mkF m pc' Ls (.long v :: rest)))) : own_Go p e below K (T.setTop (mkF m pc Ls rest)) := by
  subst hp
  exact own_st (fun t k => XS.lconst P.st.here P.ex rfl (P.cd hd) (by rw [hv]; exact k)) k
theorem own_aconstNull (P : own_S Z own nm bytes mx rt p l e R s m args below meth c T h locs cells slots)  (hd : decode bytes pc = .ok (.aconst_null, 1)) (hp : pc + 1 = pc')
    (k : own_Go p e below K (T.setTop (mkF m pc' Ls (.null :: rest)))) : own_Go p e below K (T.setTop (mkF m pc Ls rest)) := by
  subst hp
  exact own_st (fun t k => XS.aconstNull P.st.here P.ex rfl (P.cd hd) k) k
theorem own_iinc (P : own_S Z own nm bytes mx rt p l e R s m args below meth c T h locs cells slots) {j : Nat} {i : Int} {x v : Int32} {Ls' : Array Slot} (hd : decode bytes pc = .ok (.iinc j i, 3)) (hp : pc + 3 = pc') (hl : Ls[j]? = some (.val (.int x))) (hv : Int32.ofInt i = v) (hl' : storeLocals Ls j (.int (x + v)) = some Ls')
    (k : own_Go p e below K (T.setTop (mkF m pc' Ls' rest))) : own_Go p e below K (T.setTop (mkF m pc Ls rest)) := by
  subst hp
  exact own_st (fun t k => XS.iinc P.st.here P.ex rfl (P.cd hd) hl (by rw [hv]; exact hl') k) k
theorem own_dup (P : own_S Z own nm bytes mx rt p l e R s m args below meth c T h locs cells slots) {v : Value} (hd : decode bytes pc = .ok (.dup, 1)) (hp : pc + 1 = pc') (hc : v.category = 1)
    (k : own_Go p e below K (T.setTop (mkF m pc' Ls (v :: v :: rest)))) : own_Go p e below K (T.setTop (mkF m pc Ls (v :: rest))) := by
  subst hp
  exact own_st (fun t k => XS.dup P.st.here P.ex rfl (P.cd hd) rfl hc k) k
theorem own_dupX1 (P : own_S Z own nm bytes mx rt p l e R s m args below meth c T h locs cells slots) {v u : Value} (hd : decode bytes pc = .ok (.dup_x1, 1)) (hp : pc + 1 = pc') (hc : v.category = 1) (hc' : u.category = 1)
    (k : own_Go p e below K (T.setTop (mkF m pc' Ls (v :: u :: v :: rest)))) : own_Go p e below K (T.setTop (mkF m pc Ls (v :: u :: rest))) := by
  subst hp
  exact own_st (fun t k => XS.dupX1 P.st.here P.ex rfl (P.cd hd) rfl hc hc' k) k
theorem own_pop (P : own_S Z own nm bytes mx rt p l e R s m args below meth c T h locs cells slots) {v : Value} (hd : decode bytes pc = .ok (.pop, 1)) (hp : pc + 1 = pc') (hc : v.category = 1)
    (k : own_Go p e below K (T.setTop (mkF m pc' Ls rest))) : own_Go p e below K (T.setTop (mkF m pc Ls (v :: rest))) := by
  subst hp
  exact own_st (fun t k => XS.pop P.st.here P.ex rfl (P.cd hd) rfl hc k) k
theorem own_goto (P : own_S Z own nm bytes mx rt p l e R s m args below meth c T h locs cells slots) {o : Int} (hd : decode bytes pc = .ok (.goto o, 3)) (ho : 0 ≤ (pc : Int) + o) (hp : ((pc : Int) + o).toNat = pc')
    (k : own_Go p e below K (T.setTop (mkF m pc' Ls rest))) : own_Go p e below K (T.setTop (mkF m pc Ls rest)) := own_st (fun t k => XS.goto P.st.here P.ex rfl rfl (P.cd hd) ho hp k) k
/-- what a branch asks of two ints, of two longs -/
def own_ci (cd : ClassFile.Cond) (x y : Int32) : Prop := match cd with | .eq => x = y | .ne => ¬ x = y | .lt => x < y | .ge => ¬ x < y | .gt => y < x | .le => ¬ y < x
def own_cl (cd : ClassFile.Cond) (x y : Int64) : Prop := match cd with | .eq => x = y | .ne => ¬ x = y | .lt => x < y | .ge => ¬ x < y | .gt => y < x | .le => ¬ y < x
theorem own_ciY {cd : ClassFile.Cond} {x y : Int32} (q : own_ci cd x y) : if_icmp.holds cd x y = true := by
  cases cd
  · exact (teq q).1
  · exact (feq q).2
  · exact (tlt q).1
  · exact (flt q).2.1
  · exact (tlt q).2.2.1
  · exact (flt q).2.2.2
theorem own_ciN {cd : ClassFile.Cond} {x y : Int32} (q : ¬ own_ci cd x y) : if_icmp.holds cd x y = false := by
  cases cd
  · exact (feq q).1
  · exact (teq (Classical.not_not.mp q)).2
  · exact (flt q).1
  · exact (tlt (Classical.not_not.mp q)).2.1
  · exact (flt q).2.2.1
  · exact (tlt (Classical.not_not.mp q)).2.2.2
theorem own_clY {cd : ClassFile.Cond} {x y : Int64} (q : own_cl cd x y) : own_ci cd (lcmpW x y) 0 := by
  rw [lcW]
  cases cd
  · exact (lc_eq x y).mpr q
  · exact fun r => q ((lc_eq x y).mp r)
  · exact (lc_lt x y).mpr q
  · exact fun r => q ((lc_lt x y).mp r)
  · exact (lc_gt x y).mpr q
  · exact fun r => q ((lc_gt x y).mp r)
theorem own_clN {cd : ClassFile.Cond} {x y : Int64} (q : ¬ own_cl cd x y) : ¬ own_ci cd (lcmpW x y) 0 := by
  rw [lcW]
  cases cd
  · exact fun r => q ((lc_eq x y).mp r)
  · exact fun r => q fun z => r ((lc_eq x y).mpr z)
  · exact fun r => q ((lc_lt x y).mp r)
  · exact fun r => q fun z => r ((lc_lt x y).mpr z)
  · exact fun r => q ((lc_gt x y).mp r)
  · exact fun r => q fun z => r ((lc_gt x y).mpr z)
theorem own_icmpY (P : own_S Z own nm bytes mx rt p l e R s m args below meth c T h locs cells slots) {cd : ClassFile.Cond} {o : Int} {x y : Int32} (hd : decode bytes pc = .ok (.if_icmp cd o, 3)) (q : own_ci cd x y) (ho : 0 ≤ (pc : Int) + o) (hp : ((pc : Int) + o).toNat = pc')
    (k : own_Go p e below K (T.setTop (mkF m pc' Ls rest))) : own_Go p e below K (T.setTop (mkF m pc Ls (.int y :: .int x :: rest))) := own_st (fun t k => XS.icmpYes P.st.here P.ex rfl rfl (P.cd hd) rfl (own_ciY q) ho hp k) k
theorem own_icmpN (P : own_S Z own nm bytes mx rt p l e R s m args below meth c T h locs cells slots) {cd : ClassFile.Cond} {o : Int} {x y : Int32} (hd : decode bytes pc = .ok (.if_icmp cd o, 3)) (q : ¬ own_ci cd x y) (hp : pc + 3 = pc')
    (k : own_Go p e below K (T.setTop (mkF m pc' Ls rest))) : own_Go p e below K (T.setTop (mkF m pc Ls (.int y :: .int x :: rest))) := by
  subst hp
  exact own_st (fun t k => XS.icmpNo P.st.here P.ex rfl (P.cd hd) rfl (own_ciN q) k) k
theorem own_if0Y (P : own_S Z own nm bytes mx rt p l e R s m args below meth c T h locs cells slots) {cd : ClassFile.Cond} {o : Int} {x : Int32} (hd : decode bytes pc = .ok (.ifCond cd o, 3)) (q : own_ci cd x 0) (ho : 0 ≤ (pc : Int) + o) (hp : ((pc : Int) + o).toNat = pc')
    (k : own_Go p e below K (T.setTop (mkF m pc' Ls rest))) : own_Go p e below K (T.setTop (mkF m pc Ls (.int x :: rest))) := own_st (fun t k => XS.ifYes P.st.here P.ex rfl rfl (P.cd hd) rfl ((if0 _ _).trans (own_ciY q)) ho hp k) k
theorem own_if0N (P : own_S Z own nm bytes mx rt p l e R s m args below meth c T h locs cells slots) {cd : ClassFile.Cond} {o : Int} {x : Int32} (hd : decode bytes pc = .ok (.ifCond cd o, 3)) (q : ¬ own_ci cd x 0) (hp : pc + 3 = pc')
    (k : own_Go p e below K (T.setTop (mkF m pc' Ls rest))) : own_Go p e below K (T.setTop (mkF m pc Ls (.int x :: rest))) := by
  subst hp
  exact own_st (fun t k => XS.ifNo P.st.here P.ex rfl (P.cd hd) rfl ((if0 _ _).trans (own_ciN q)) k) k
theorem own_lcmp (P : own_S Z own nm bytes mx rt p l e R s m args below meth c T h locs cells slots) {x y : Int64} (hd : decode bytes pc = .ok (.lcmp, 1)) (hp : pc + 1 = pc')
    (k : own_Go p e below K (T.setTop (mkF m pc' Ls (.int (lcmpW x y) :: rest)))) : own_Go p e below K (T.setTop (mkF m pc Ls (.long y :: .long x :: rest))) := by
  subst hp
  exact own_st (fun t k => XS.lcmp P.st.here P.ex rfl (P.cd hd) rfl k) k
theorem own_lcY (P : own_S Z own nm bytes mx rt p l e R s m args below meth c T h locs cells slots) {cd : ClassFile.Cond} {o : Int} {x y : Int64} (hd : decode bytes pc = .ok (.lcmp, 1)) (hd2 : decode bytes (pc + 1) = .ok (.ifCond cd o, 3)) (q : own_cl cd x y) (ho : 0 ≤ ((pc + 1 : Nat) : Int) + o) (hp : (((pc + 1 : Nat) : Int) + o).toNat = pc')
    (k : own_Go p e below K (T.setTop (mkF m pc' Ls rest))) : own_Go p e below K (T.setTop (mkF m pc Ls (.long y :: .long x :: rest))) :=
  own_lcmp P hd rfl (own_if0Y P hd2 (own_clY q) ho hp k)
theorem own_lcN (P : own_S Z own nm bytes mx rt p l e R s m args below meth c T h locs cells slots) {cd : ClassFile.Cond} {o : Int} {x y : Int64} (hd : decode bytes pc = .ok (.lcmp, 1)) (hd2 : decode bytes (pc + 1) = .ok (.ifCond cd o, 3)) (q : ¬ own_cl cd x y) (hp : pc + 1 + 3 = pc')
    (k : own_Go p e below K (T.setTop (mkF m pc' Ls rest))) : own_Go p e below K (T.setTop (mkF m pc Ls (.long y :: .long x :: rest))) :=
  own_lcmp P hd rfl (own_if0N P hd2 (own_clN q) hp k)

theorem own_ldc (P : own_S Z own nm bytes mx rt p l e R s m args below meth c T h locs cells slots) {idx : Nat} {v : Int32} (wc : (Cond.constant own idx v).before a0 Z = true) (hd : decode bytes pc = .ok (.ldc idx, 2)) (hp : pc + 2 = pc')
    (k : own_Go p e below K (T.setTop (mkF m pc' Ls (.int v :: rest)))) : own_Go p e below K (T.setTop (mkF m pc Ls rest)) := by
  subst hp
  exact own_st (fun t k => P.st.ldcInt P.ex P.ow (mvT P.wz wc) (g := mkF m pc Ls rest) rfl (P.cd hd) t k) k
theorem own_ldcw (P : own_S Z own nm bytes mx rt p l e R s m args below meth c T h locs cells slots) {idx : Nat} {v : Int32} (wc : (Cond.constant own idx v).before a0 Z = true) (hd : decode bytes pc = .ok (.ldc_w idx, 3)) (hp : pc + 3 = pc')
    (k : own_Go p e below K (T.setTop (mkF m pc' Ls (.int v :: rest)))) : own_Go p e below K (T.setTop (mkF m pc Ls rest)) := by
  subst hp
  exact own_st (fun t k => P.st.ldcwInt P.ex P.ow (mvT P.wz wc) (g := mkF m pc Ls rest) rfl (P.cd hd) t k) k
theorem own_ldc2 (P : own_S Z own nm bytes mx rt p l e R s m args below meth c T h locs cells slots) {idx : Nat} {v : Int64} (wc : (Cond.constantLong own idx v).before a0 Z = true) (hd : decode bytes pc = .ok (.ldc2_w idx, 3)) (hp : pc + 3 = pc')
    (k : own_Go p e below K (T.setTop (mkF m pc' Ls (.long v :: rest)))) : own_Go p e below K (T.setTop (mkF m pc Ls rest)) := by
  subst hp
  exact own_st (fun t k => P.st.ldc2Long P.ex P.ow (mvT P.wz wc) (g := mkF m pc Ls rest) rfl (P.cd hd) t k) k

theorem own_retL {Q : Option Value → Heap → List Loc → Prop} {kc ks : Nat} (P : own_S Z own nm bytes mx (some .long) p l e R s m args below meth c T h locs cells slots) {v : Int64} (hd : decode bytes pc = .ok (.lreturn, 1)) (hc : cells ≤ kc) (hs : slots ≤ ks) (hq : Q (some (.long v)) h locs) :
    own_Go p e below (own_K s Q kc ks) (T.setTop (mkF m pc Ls [(.long v)])) := by
  obtain ⟨X, hx, hby, hml, hown, hZ, hr0, hlk, hh, -⟩ := P
  obtain ⟨fs, hr, hrun, hended, hW, hsame⟩ := X.leave (v := some (.long v)) (fun h => by rw [hr0] at h; cases h) hlk
  refine ⟨_, _, X.lreturnOut hx hr0 (hb hby hd) hr, hrun, hended, _, _, rfl, ?_, ⟨_, rfl⟩, hW, hsame.mono hc hs⟩
  rw [← hh] at hq
  exact hq
theorem own_retI {Q : Option Value → Heap → List Loc → Prop} {kc ks : Nat} (P : own_S Z own nm bytes mx (some .int) p l e R s m args below meth c T h locs cells slots) {v : Int32} (hd : decode bytes pc = .ok (.ireturn, 1)) (hc : cells ≤ kc) (hs : slots ≤ ks) (hq : Q (some (.int v)) h locs) :
    own_Go p e below (own_K s Q kc ks) (T.setTop (mkF m pc Ls [(.int v)])) := by
  obtain ⟨X, hx, hby, hml, hown, hZ, hr0, hlk, hh, -⟩ := P
  obtain ⟨fs, hr, hrun, hended, hW, hsame⟩ := X.leave (v := some (.int v)) (fun h => by rw [hr0] at h; cases h) hlk
  refine ⟨_, _, retI X hx hr0 (hb hby hd) hr, hrun, hended, _, _, rfl, ?_, ⟨_, rfl⟩, hW, hsame.mono hc hs⟩
  rw [← hh] at hq
  exact hq
theorem own_retZ {Q : Option Value → Heap → List Loc → Prop} {kc ks : Nat} (P : own_S Z own nm bytes mx (some .boolean) p l e R s m args below meth c T h locs cells slots) {v z : Int32} (hd : decode bytes pc = .ok (.ireturn, 1)) (hz : nar .boolean v = z) (hc : cells ≤ kc) (hs : slots ≤ ks) (hq : Q (some (.int z)) h locs) :
    own_Go p e below (own_K s Q kc ks) (T.setTop (mkF m pc Ls [(.int v)])) := by
  obtain ⟨X, hx, hby, hml, hown, hZ, hr0, hlk, hh, -⟩ := P
  obtain ⟨fs, hr, hrun, hended, hW, hsame⟩ := X.leave (v := some (.int z)) (fun h => by rw [hr0] at h; cases h) hlk
  refine ⟨_, _, retN X hx (t := .boolean) hr0 (by simp) (hb hby hd) (by rw [hz]; exact hr), hrun, hended, _, _, rfl, ?_, ⟨_, rfl⟩, hW, hsame.mono hc hs⟩
  rw [← hh] at hq
  exact hq
theorem own_retV {Q : Option Value → Heap → List Loc → Prop} {kc ks : Nat} (P : own_S Z own nm bytes mx none p l e R s m args below meth c T h locs cells slots) (hd : decode bytes pc = .ok (.return_, 1)) (hc : cells ≤ kc) (hs : slots ≤ ks) (hq : Q none h locs) :
    own_Go p e below (own_K s Q kc ks) (T.setTop (mkF m pc Ls [])) := by
  obtain ⟨X, hx, hby, hml, hown, hZ, hr0, hlk, hh, -⟩ := P
  obtain ⟨fs, hr, hrun, hended, hW, hsame⟩ := X.leave (v := none) (fun _ => rfl) hlk
  refine ⟨_, _, X.returnOut hx hr0 (hb hby hd) hr, hrun, hended, _, _, rfl, ?_, ⟨_, rfl⟩, hW, hsame.mono hc hs⟩
  rw [← hh] at hq
  exact hq
/-- a method's contract: from these arguments and this heap it returns as Q says -/
def own_Con (l : Launch) (Z : State) (y : MethodName) (bytes : ByteArray) (mx : Nat) (rt : Option FieldType) (ws : List Jvm.Cond) (rm : Room) (as' : Array Value) (h : Heap) (Q : Option Value → Heap → List Loc → Prop) : Prop :=
  MetFree l y (head1 (Jvm.Cond.code y bytes mx rt :: ws) rm) (fun a U => a = as' ∧ Z.Warmed39 U.vm ∧ U.heap = h) (fun _ _ _ _ _ => True) (fun _ U o U' => ∃ v L, o = .returned v ∧ Q v U'.heap L ∧ FrameEnd U o U' L rm.cells rm.slots)
/-- it returned v, wrote nothing and made nothing -/
def own_P (v : Option Value) (h : Heap) (v' : Option Value) (h' : Heap) (L : List Loc) : Prop := v' = v ∧ L = [] ∧ h' = h
theorem own_enter {y : MethodName} {ws : List Jvm.Cond} {rm : Room} {as' : Array Value} {Q : Option Value → Heap → List Loc → Prop} (hpl : plainFor y = true) (Ls : Array Slot) (hef : ∀ m, entryFrame m as' mx = mkF m 0 Ls [])
    (body : ∀ (p : Program) (e : Env) (s : State) (m : MethodId) (below : List Frame) (meth : Method) (c : Code) (T : State), own_S Z y.cls y.name bytes mx rt p l e rm s m as' below meth c T h [] 0 0 → own_Go p e below (own_K s Q rm.cells rm.slots) (T.setTop (mkF m 0 Ls []))) :
    own_Con l Z y bytes mx rt ws rm as' h Q := by
  refine MetFree.of_bodySF hpl hisR ?_
  intro p e s m args below meth c s₁ Bd hml0 hP hK
  obtain ⟨rfl, hZ, hh⟩ := hP
  have e0 : s₁.heap = h := by rw [← hh, Bd.state]; rfl
  obtain ⟨t, o, h1, h2, h3, v, L, ho, hq, hf⟩ := body p e s m below meth c s₁ ⟨Stand.of_body Bd, Bd.exec, Bd.bytes, hml0, findClass_of_methodNamed Bd.named, hZ, Bd.returns, BodyLoose.notSynchronized Bd, e0, (name_of_methodNamed Bd.named Bd.method).1⟩
  exact ⟨t, o, castTop (hef m) h1, h2, h3, v, L, ho, hq, hf⟩
theorem own_callQ (P : own_S Z own nm bytes mx rt p l e R s m args below meth c T h locs cells slots) {idx : Nat} {y : MethodName} {by' : ByteArray} {mx' : Nat} {rt' : Option FieldType} {rm : Room} {Q : Option Value → Heap → List Loc → Prop} {argsL st : List Value} {ps : List FieldType} {rr : Option FieldType}
    (wl : (Cond.methodLink own idx y).before a0 Z = true) (wt : (Cond.static y).before a0 Z = true) (wi : (Cond.initialized y.cls).before a0 Z = true) (wc : (Cond.code y by' mx' rt').before a0 Z = true) (hy : y.cls ≠ "java/lang/invoke/MethodHandle" ∧ y.cls ≠ "java/lang/invoke/VarHandle")
    (hM : own_Con l Z y by' mx' rt' [] rm argsL.toArray h Q) (hd : decode bytes pc = .ok (.invokestatic idx, 3)) (hp : pc + 3 = pc') (hdes : parseMethodDescriptor y.desc = some ⟨ps, rr⟩) (hlen : argsL.length = ps.length) (hsz : Ls.size = mx) (hst : st = argsL.reverse ++ rest)
    (hf : rm.frames + 1 ≤ R.frames) (W : Nat) (hW : (rest.map fun v => v.category).sum = W) (hl : W + (mx' + 11) + rm.locals ≤ R.locals) (hc : cells + rm.cells ≤ R.cells) (hs : slots + rm.slots ≤ R.slots)
    (k : ∀ T' h' v L, Q v h' L → own_S Z own nm bytes mx rt p l e R s m args below meth c T' h' (locs ++ L) (cells + rm.cells) (slots + rm.slots) → own_Go p e below K (T'.setTop (mkF m pc' Ls (v.toList ++ rest)))) :
    own_Go p e below K (T.setTop (mkF m pc Ls st)) := by
  subst hp
  obtain ⟨v, _, ⟨T3, L3, k3, n3⟩, -, X3, ⟨Lc3, hQ3, l3, y3, z3⟩, st3⟩ := Jvm.LawKit.callS P.st P.ex (y := y) P.ow (mvT P.wz wl) (mvT P.wz wt) (mvT P.wz wi) (mvT P.wz wc) hy (backOf (W := W) hM P.wz wc wi hf hl) (g := (mkF m pc Ls st)) rfl (by rw [P.ml]; exact hsz) (argsL := argsL) (rest := rest) (lenOf hdes hlen) hst (by show 2 * 0 + _ ≤ _; rw [hW]; exact Nat.le_of_eq (by simp)) (P.cd hd) (fun _ _ => ⟨rfl, P.hp, hc, hs⟩)
  dsimp only [Pt.U, Pt.locs, Pt.cells, Pt.slots] at X3 l3 y3 z3 st3 hQ3
  subst l3 y3 z3
  exact own_st st3 (k T3 T3.heap v Lc3 hQ3 (P.move X3 rfl))
theorem own_callP (P : own_S Z own nm bytes mx rt p l e R s m args below meth c T h locs cells slots) {idx : Nat} {y : MethodName} {by' : ByteArray} {mx' : Nat} {rt' : Option FieldType} {rm : Room} {v : Option Value} {argsL st : List Value} {ps : List FieldType} {rr : Option FieldType}
    (wl : (Cond.methodLink own idx y).before a0 Z = true) (wt : (Cond.static y).before a0 Z = true) (wi : (Cond.initialized y.cls).before a0 Z = true) (wc : (Cond.code y by' mx' rt').before a0 Z = true) (hy : y.cls ≠ "java/lang/invoke/MethodHandle" ∧ y.cls ≠ "java/lang/invoke/VarHandle")
    (hM : own_Con l Z y by' mx' rt' [] rm argsL.toArray h (own_P v h)) (hd : decode bytes pc = .ok (.invokestatic idx, 3)) (hp : pc + 3 = pc') (hdes : parseMethodDescriptor y.desc = some ⟨ps, rr⟩) (hlen : argsL.length = ps.length) (hsz : Ls.size = mx) (hst : st = argsL.reverse ++ rest)
    (hf : rm.frames + 1 ≤ R.frames) (W : Nat) (hW : (rest.map fun v => v.category).sum = W) (hl : W + (mx' + 11) + rm.locals ≤ R.locals) (hc : rm.cells = 0) (hs : rm.slots = 0) (hcc : cells ≤ R.cells) (hss : slots ≤ R.slots)
    (k : ∀ T', own_S Z own nm bytes mx rt p l e R s m args below meth c T' h locs cells slots → own_Go p e below K (T'.setTop (mkF m pc' Ls (v.toList ++ rest)))) :
    own_Go p e below K (T.setTop (mkF m pc Ls st)) := by
  refine own_callQ P wl wt wi wc hy hM hd hp hdes hlen hsz hst hf W hW hl (by rw [hc]; exact hcc) (by rw [hs]; exact hss) fun T' h' v' L hQ P' => ?_
  obtain ⟨rfl, rfl, rfl⟩ := hQ
  rw [hc, hs, List.append_nil] at P'
  exact k T' P'
def own_One (s : Slot) : Prop := s = .unset ∨ ∃ w : Value, s = .val w ∧ w.category = 1
theorem own_conMono {y : MethodName} {ws : List Jvm.Cond} {rm : Room} {as' : Array Value} {Q Q' : Option Value → Heap → List Loc → Prop} (q : own_Con l Z y bytes mx rt ws rm as' h Q) (f : ∀ v h' L, Q v h' L → Q' v h' L) : own_Con l Z y bytes mx rt ws rm as' h Q' := by
  intro p e ha hc hk s m args below hf happ hP hK
  obtain ⟨n, o, h1, h2, h3, v, L, h4, h5, h6⟩ := q p e ha hc hk s m args below hf happ hP hK
  exact ⟨n, o, h1, h2, h3, v, L, h4, f _ _ _ h5, h6⟩
theorem own_S.mono (P : own_S Z own nm bytes mx rt p l e R s m args below meth c T h locs cells slots) {cells' slots' : Nat} (hc : cells ≤ cells') (hs : slots ≤ slots') : own_S Z own nm bytes mx rt p l e R s m args below meth c T h locs cells' slots' :=
  P.move { P.st with same := P.st.same.mono hc hs } P.hp
end OwnBase

theorem d1_0 : decode method_2_code 0 = .ok (.bipush 48, 2) := by decide +kernel
theorem d1_2 : decode method_2_code 2 = .ok (.iload_n 0, 1) := by decide +kernel
theorem d1_3 : decode method_2_code 3 = .ok (.iload_n 1, 1) := by decide +kernel
theorem d1_4 : decode method_2_code 4 = .ok (.idiv, 1) := by decide +kernel
theorem d1_5 : decode method_2_code 5 = .ok (.bipush 10, 2) := by decide +kernel
theorem d1_7 : decode method_2_code 7 = .ok (.irem, 1) := by decide +kernel
theorem d1_8 : decode method_2_code 8 = .ok (.iadd, 1) := by decide +kernel
theorem d1_9 : decode method_2_code 9 = .ok (.i2l, 1) := by decide +kernel
theorem d1_10 : decode method_2_code 10 = .ok (.lstore_n 3, 1) := by decide +kernel
theorem d1_11 : decode method_2_code 11 = .ok (.lload_n 3, 1) := by decide +kernel
theorem d1_12 : decode method_2_code 12 = .ok (.iload_n 2, 1) := by decide +kernel
theorem d1_13 : decode method_2_code 13 = .ok (.lshl, 1) := by decide +kernel
theorem d1_14 : decode method_2_code 14 = .ok (.lreturn, 1) := by decide +kernel
def F1_0 (i0 : Int32) (i1 : Int32) (i2 : Int32) : Int64 := ((((48 : Int32) + ((i0 / i1) - (i0 / i1) / (10 : Int32) * (10 : Int32))).toInt64) <<< (i2 &&& 0x3f).toInt64)
set_option maxRecDepth 65536 in
set_option maxHeartbeats 40000000 in
theorem b1_0 {p : Program} {l : Launch} {e : Env} {s : State} {m : MethodId} {args : Array Value} {below : List Frame} {meth : Method} {c : Code} {T : State} {h : Heap} {Z : State} {a0 : Array Value} {Q : Option Value → Heap → List Loc → Prop} (hw : ∀ d ∈ tables_1, d.before a0 Z = true) (i0 : Int32) (i1 : Int32) (i2 : Int32) (hnz : ¬ (i1 = 0)) (P : own_S Z "com/example/ilmarinen/ilmarinen/EightBytesDigitsOfPinLaw" "digit" method_2_code 5 (some .long) p l e ({ frames := 0, cells := 0, slots := 0, locals := 0 } : Room) s m args below meth c T h [] 0 0) (hQ : Q (some (.long (F1_0 i0 i1 i2))) h []) :
    own_Go p e below (own_K s Q 0 0) (T.setTop (mkF m 0 #[.val (.int i0), .val (.int i1), .val (.int i2), .unset, .unset] [])) := by
  unfold F1_0 at hQ
  refine own_bipush P d1_0 rfl (v := (48 : Int32)) rfl ?_
  refine own_iloadN P d1_2 rfl rfl ?_
  refine own_iloadN P d1_3 rfl rfl ?_
  refine own_idiv P d1_4 rfl (by first | assumption | decide | (simp_all; done)) ?_
  refine own_bipush P d1_5 rfl (v := (10 : Int32)) rfl ?_
  refine own_irem P d1_7 rfl (by decide) ?_
  refine own_iadd P d1_8 rfl ?_
  refine own_i2l P d1_9 rfl ?_
  refine own_lstoreN P d1_10 rfl (Ls' := #[.val (.int i0), .val (.int i1), .val (.int i2), .val (.long (((48 : Int32) + ((i0 / i1) - (i0 / i1) / (10 : Int32) * (10 : Int32))).toInt64)), .second]) rfl ?_
  refine own_lloadN P d1_11 rfl rfl ?_
  refine own_iloadN P d1_12 rfl rfl ?_
  refine own_lshl P d1_13 rfl ?_
  exact own_retL P d1_14 (by decide) (by decide) hQ
theorem own_pn0 : plainName "com/example/ilmarinen/ilmarinen/EightBytesDigitsOfPinLaw" = true := by first | (simp [plainName, overriddenIn]; done) | decide +kernel
theorem rm1 (l : Launch) (Z : State) (a0 : Array Value) (hw : ∀ d ∈ tables_1, d.before a0 Z = true) (i0 : Int32) (i1 : Int32) (i2 : Int32) (hnz : ¬ (i1 = 0)) (h : Heap) :
    own_Con l Z (⟨"com/example/ilmarinen/ilmarinen/EightBytesDigitsOfPinLaw", "digit", "(III)J"⟩ : MethodName) method_2_code 5 (some .long) [] ({ frames := 0, cells := 0, slots := 0, locals := 0 } : Room) #[(.int i0), (.int i1), (.int i2)] h (own_P (some (.long (F1_0 i0 i1 i2))) h) :=
  own_enter (plainFor_of_name own_pn0) #[.val (.int i0), .val (.int i1), .val (.int i2), .unset, .unset] (fun m => by first | (simp [entryFrame, mkF, argsToLocals, Value.category]; done) | rfl) (fun p e s m below meth c T P => b1_0 hw i0 i1 i2 hnz P ⟨rfl, rfl, rfl⟩)
theorem d2_0 : decode prog_16_method_7_code 0 = .ok (.iload_n 0, 1) := by decide +kernel
theorem d2_1 : decode prog_16_method_7_code 1 = .ok (.sipush 10000, 3) := by decide +kernel
theorem d2_4 : decode prog_16_method_7_code 4 = .ok (.idiv, 1) := by decide +kernel
theorem d2_5 : decode prog_16_method_7_code 5 = .ok (.i2l, 1) := by decide +kernel
theorem d2_6 : decode prog_16_method_7_code 6 = .ok (.iload_n 0, 1) := by decide +kernel
theorem d2_7 : decode prog_16_method_7_code 7 = .ok (.sipush 10000, 3) := by decide +kernel
theorem d2_10 : decode prog_16_method_7_code 10 = .ok (.irem, 1) := by decide +kernel
theorem d2_11 : decode prog_16_method_7_code 11 = .ok (.i2l, 1) := by decide +kernel
theorem d2_12 : decode prog_16_method_7_code 12 = .ok (.bipush 32, 2) := by decide +kernel
theorem d2_14 : decode prog_16_method_7_code 14 = .ok (.lshl, 1) := by decide +kernel
theorem d2_15 : decode prog_16_method_7_code 15 = .ok (.lor, 1) := by decide +kernel
theorem d2_16 : decode prog_16_method_7_code 16 = .ok (.lstore_n 1, 1) := by decide +kernel
theorem d2_17 : decode prog_16_method_7_code 17 = .ok (.lload_n 1, 1) := by decide +kernel
theorem d2_18 : decode prog_16_method_7_code 18 = .ok (.ldc2_w 43, 3) := by decide +kernel
theorem d2_21 : decode prog_16_method_7_code 21 = .ok (.lmul, 1) := by decide +kernel
theorem d2_22 : decode prog_16_method_7_code 22 = .ok (.bipush 19, 2) := by decide +kernel
theorem d2_24 : decode prog_16_method_7_code 24 = .ok (.lushr, 1) := by decide +kernel
theorem d2_25 : decode prog_16_method_7_code 25 = .ok (.ldc2_w 45, 3) := by decide +kernel
theorem d2_28 : decode prog_16_method_7_code 28 = .ok (.land, 1) := by decide +kernel
theorem d2_29 : decode prog_16_method_7_code 29 = .ok (.lstore_n 3, 1) := by decide +kernel
theorem d2_30 : decode prog_16_method_7_code 30 = .ok (.lload_n 3, 1) := by decide +kernel
theorem d2_31 : decode prog_16_method_7_code 31 = .ok (.lload_n 1, 1) := by decide +kernel
theorem d2_32 : decode prog_16_method_7_code 32 = .ok (.lload_n 3, 1) := by decide +kernel
theorem d2_33 : decode prog_16_method_7_code 33 = .ok (.ldc2_w 47, 3) := by decide +kernel
theorem d2_36 : decode prog_16_method_7_code 36 = .ok (.lmul, 1) := by decide +kernel
theorem d2_37 : decode prog_16_method_7_code 37 = .ok (.lsub, 1) := by decide +kernel
theorem d2_38 : decode prog_16_method_7_code 38 = .ok (.bipush 16, 2) := by decide +kernel
theorem d2_40 : decode prog_16_method_7_code 40 = .ok (.lshl, 1) := by decide +kernel
theorem d2_41 : decode prog_16_method_7_code 41 = .ok (.lor, 1) := by decide +kernel
theorem d2_42 : decode prog_16_method_7_code 42 = .ok (.lstore 5, 2) := by decide +kernel
theorem d2_44 : decode prog_16_method_7_code 44 = .ok (.lload 5, 2) := by decide +kernel
theorem d2_46 : decode prog_16_method_7_code 46 = .ok (.ldc2_w 49, 3) := by decide +kernel
theorem d2_49 : decode prog_16_method_7_code 49 = .ok (.lmul, 1) := by decide +kernel
theorem d2_50 : decode prog_16_method_7_code 50 = .ok (.bipush 10, 2) := by decide +kernel
theorem d2_52 : decode prog_16_method_7_code 52 = .ok (.lushr, 1) := by decide +kernel
theorem d2_53 : decode prog_16_method_7_code 53 = .ok (.ldc2_w 51, 3) := by decide +kernel
theorem d2_56 : decode prog_16_method_7_code 56 = .ok (.land, 1) := by decide +kernel
theorem d2_57 : decode prog_16_method_7_code 57 = .ok (.lstore 7, 2) := by decide +kernel
theorem d2_59 : decode prog_16_method_7_code 59 = .ok (.lload 7, 2) := by decide +kernel
theorem d2_61 : decode prog_16_method_7_code 61 = .ok (.lload 5, 2) := by decide +kernel
theorem d2_63 : decode prog_16_method_7_code 63 = .ok (.lload 7, 2) := by decide +kernel
theorem d2_65 : decode prog_16_method_7_code 65 = .ok (.ldc2_w 53, 3) := by decide +kernel
theorem d2_68 : decode prog_16_method_7_code 68 = .ok (.lmul, 1) := by decide +kernel
theorem d2_69 : decode prog_16_method_7_code 69 = .ok (.lsub, 1) := by decide +kernel
theorem d2_70 : decode prog_16_method_7_code 70 = .ok (.bipush 8, 2) := by decide +kernel
theorem d2_72 : decode prog_16_method_7_code 72 = .ok (.lshl, 1) := by decide +kernel
theorem d2_73 : decode prog_16_method_7_code 73 = .ok (.lor, 1) := by decide +kernel
theorem d2_74 : decode prog_16_method_7_code 74 = .ok (.ldc2_w 39, 3) := by decide +kernel
theorem d2_77 : decode prog_16_method_7_code 77 = .ok (.ladd, 1) := by decide +kernel
theorem d2_78 : decode prog_16_method_7_code 78 = .ok (.lreturn, 1) := by decide +kernel
def F2_59 (j5 : Int64) (j7 : Int64) : Int64 := ((j7 ||| ((j5 - (j7 * (10 : Int64))) <<< ((8 : Int32) &&& 0x3f).toInt64)) + (3472328296227680304 : Int64))
set_option maxRecDepth 65536 in
set_option maxHeartbeats 40000000 in
theorem b2_59 {p : Program} {l : Launch} {e : Env} {s : State} {m : MethodId} {args : Array Value} {below : List Frame} {meth : Method} {c : Code} {T : State} {h : Heap} {Z : State} {a0 : Array Value} {Q : Option Value → Heap → List Loc → Prop} (hw : ∀ d ∈ tables_1, d.before a0 Z = true) (i0 : Int32) (j1 : Int64) (j3 : Int64) (j5 : Int64) (j7 : Int64) (P : own_S Z "com/example/ilmarinen/ilmarinen/EightBytes" "digitsOf" prog_16_method_7_code 9 (some .long) p l e ({ frames := 0, cells := 0, slots := 0, locals := 0 } : Room) s m args below meth c T h [] 0 0) (hQ : Q (some (.long (F2_59 j5 j7))) h []) :
    own_Go p e below (own_K s Q 0 0) (T.setTop (mkF m 59 #[.val (.int i0), .val (.long j1), .second, .val (.long j3), .second, .val (.long j5), .second, .val (.long j7), .second] [])) := by
  unfold F2_59 at hQ
  refine own_lload P d2_59 rfl rfl ?_
  refine own_lload P d2_61 rfl rfl ?_
  refine own_lload P d2_63 rfl rfl ?_
  refine own_ldc2 P (v := (10 : Int64)) (hw _ (List.mem_of_getElem? (i := 18) rfl)) d2_65 rfl ?_
  refine own_lmul P d2_68 rfl ?_
  refine own_lsub P d2_69 rfl ?_
  refine own_bipush P d2_70 rfl (v := (8 : Int32)) rfl ?_
  refine own_lshl P d2_72 rfl ?_
  refine own_lor P d2_73 rfl ?_
  refine own_ldc2 P (v := (3472328296227680304 : Int64)) (hw _ (List.mem_of_getElem? (i := 19) rfl)) d2_74 rfl ?_
  refine own_ladd P d2_77 rfl ?_
  exact own_retL P d2_78 (by decide) (by decide) hQ
def F2_44 (j5 : Int64) : Int64 := (F2_59 j5 ((((j5 * (103 : Int64)).toUInt64 >>> ((10 : Int32) &&& 0x3f).toInt64.toUInt64).toInt64) &&& (4222189076152335 : Int64)))
set_option maxRecDepth 65536 in
set_option maxHeartbeats 40000000 in
theorem b2_44 {p : Program} {l : Launch} {e : Env} {s : State} {m : MethodId} {args : Array Value} {below : List Frame} {meth : Method} {c : Code} {T : State} {h : Heap} {Z : State} {a0 : Array Value} {Q : Option Value → Heap → List Loc → Prop} (hw : ∀ d ∈ tables_1, d.before a0 Z = true) (i0 : Int32) (j1 : Int64) (j3 : Int64) (j5 : Int64) (P : own_S Z "com/example/ilmarinen/ilmarinen/EightBytes" "digitsOf" prog_16_method_7_code 9 (some .long) p l e ({ frames := 0, cells := 0, slots := 0, locals := 0 } : Room) s m args below meth c T h [] 0 0) (hQ : Q (some (.long (F2_44 j5))) h []) :
    own_Go p e below (own_K s Q 0 0) (T.setTop (mkF m 44 #[.val (.int i0), .val (.long j1), .second, .val (.long j3), .second, .val (.long j5), .second, .unset, .unset] [])) := by
  unfold F2_44 at hQ
  refine own_lload P d2_44 rfl rfl ?_
  refine own_ldc2 P (v := (103 : Int64)) (hw _ (List.mem_of_getElem? (i := 16) rfl)) d2_46 rfl ?_
  refine own_lmul P d2_49 rfl ?_
  refine own_bipush P d2_50 rfl (v := (10 : Int32)) rfl ?_
  refine own_lushr P d2_52 rfl ?_
  refine own_ldc2 P (v := (4222189076152335 : Int64)) (hw _ (List.mem_of_getElem? (i := 17) rfl)) d2_53 rfl ?_
  refine own_land P d2_56 rfl ?_
  refine own_lstore P d2_57 rfl (Ls' := #[.val (.int i0), .val (.long j1), .second, .val (.long j3), .second, .val (.long j5), .second, .val (.long ((((j5 * (103 : Int64)).toUInt64 >>> ((10 : Int32) &&& 0x3f).toInt64.toUInt64).toInt64) &&& (4222189076152335 : Int64))), .second]) rfl ?_
  exact b2_59 hw i0 j1 j3 j5 ((((j5 * (103 : Int64)).toUInt64 >>> ((10 : Int32) &&& 0x3f).toInt64.toUInt64).toInt64) &&& (4222189076152335 : Int64)) P hQ
def F2_30 (j1 : Int64) (j3 : Int64) : Int64 := (F2_44 (j3 ||| ((j1 - (j3 * (100 : Int64))) <<< ((16 : Int32) &&& 0x3f).toInt64)))
set_option maxRecDepth 65536 in
set_option maxHeartbeats 40000000 in
theorem b2_30 {p : Program} {l : Launch} {e : Env} {s : State} {m : MethodId} {args : Array Value} {below : List Frame} {meth : Method} {c : Code} {T : State} {h : Heap} {Z : State} {a0 : Array Value} {Q : Option Value → Heap → List Loc → Prop} (hw : ∀ d ∈ tables_1, d.before a0 Z = true) (i0 : Int32) (j1 : Int64) (j3 : Int64) (P : own_S Z "com/example/ilmarinen/ilmarinen/EightBytes" "digitsOf" prog_16_method_7_code 9 (some .long) p l e ({ frames := 0, cells := 0, slots := 0, locals := 0 } : Room) s m args below meth c T h [] 0 0) (hQ : Q (some (.long (F2_30 j1 j3))) h []) :
    own_Go p e below (own_K s Q 0 0) (T.setTop (mkF m 30 #[.val (.int i0), .val (.long j1), .second, .val (.long j3), .second, .unset, .unset, .unset, .unset] [])) := by
  unfold F2_30 at hQ
  refine own_lloadN P d2_30 rfl rfl ?_
  refine own_lloadN P d2_31 rfl rfl ?_
  refine own_lloadN P d2_32 rfl rfl ?_
  refine own_ldc2 P (v := (100 : Int64)) (hw _ (List.mem_of_getElem? (i := 15) rfl)) d2_33 rfl ?_
  refine own_lmul P d2_36 rfl ?_
  refine own_lsub P d2_37 rfl ?_
  refine own_bipush P d2_38 rfl (v := (16 : Int32)) rfl ?_
  refine own_lshl P d2_40 rfl ?_
  refine own_lor P d2_41 rfl ?_
  refine own_lstore P d2_42 rfl (Ls' := #[.val (.int i0), .val (.long j1), .second, .val (.long j3), .second, .val (.long (j3 ||| ((j1 - (j3 * (100 : Int64))) <<< ((16 : Int32) &&& 0x3f).toInt64))), .second, .unset, .unset]) rfl ?_
  exact b2_44 hw i0 j1 j3 (j3 ||| ((j1 - (j3 * (100 : Int64))) <<< ((16 : Int32) &&& 0x3f).toInt64)) P hQ
def F2_17 (j1 : Int64) : Int64 := (F2_30 j1 ((((j1 * (5243 : Int64)).toUInt64 >>> ((19 : Int32) &&& 0x3f).toInt64.toUInt64).toInt64) &&& (545460846719 : Int64)))
set_option maxRecDepth 65536 in
set_option maxHeartbeats 40000000 in
theorem b2_17 {p : Program} {l : Launch} {e : Env} {s : State} {m : MethodId} {args : Array Value} {below : List Frame} {meth : Method} {c : Code} {T : State} {h : Heap} {Z : State} {a0 : Array Value} {Q : Option Value → Heap → List Loc → Prop} (hw : ∀ d ∈ tables_1, d.before a0 Z = true) (i0 : Int32) (j1 : Int64) (P : own_S Z "com/example/ilmarinen/ilmarinen/EightBytes" "digitsOf" prog_16_method_7_code 9 (some .long) p l e ({ frames := 0, cells := 0, slots := 0, locals := 0 } : Room) s m args below meth c T h [] 0 0) (hQ : Q (some (.long (F2_17 j1))) h []) :
    own_Go p e below (own_K s Q 0 0) (T.setTop (mkF m 17 #[.val (.int i0), .val (.long j1), .second, .unset, .unset, .unset, .unset, .unset, .unset] [])) := by
  unfold F2_17 at hQ
  refine own_lloadN P d2_17 rfl rfl ?_
  refine own_ldc2 P (v := (5243 : Int64)) (hw _ (List.mem_of_getElem? (i := 13) rfl)) d2_18 rfl ?_
  refine own_lmul P d2_21 rfl ?_
  refine own_bipush P d2_22 rfl (v := (19 : Int32)) rfl ?_
  refine own_lushr P d2_24 rfl ?_
  refine own_ldc2 P (v := (545460846719 : Int64)) (hw _ (List.mem_of_getElem? (i := 14) rfl)) d2_25 rfl ?_
  refine own_land P d2_28 rfl ?_
  refine own_lstoreN P d2_29 rfl (Ls' := #[.val (.int i0), .val (.long j1), .second, .val (.long ((((j1 * (5243 : Int64)).toUInt64 >>> ((19 : Int32) &&& 0x3f).toInt64.toUInt64).toInt64) &&& (545460846719 : Int64))), .second, .unset, .unset, .unset, .unset]) rfl ?_
  exact b2_30 hw i0 j1 ((((j1 * (5243 : Int64)).toUInt64 >>> ((19 : Int32) &&& 0x3f).toInt64.toUInt64).toInt64) &&& (545460846719 : Int64)) P hQ
def F2_0 (i0 : Int32) : Int64 := (F2_17 (((i0 / (10000 : Int32)).toInt64) ||| (((i0 - i0 / (10000 : Int32) * (10000 : Int32)).toInt64) <<< ((32 : Int32) &&& 0x3f).toInt64)))
set_option maxRecDepth 65536 in
set_option maxHeartbeats 40000000 in
theorem b2_0 {p : Program} {l : Launch} {e : Env} {s : State} {m : MethodId} {args : Array Value} {below : List Frame} {meth : Method} {c : Code} {T : State} {h : Heap} {Z : State} {a0 : Array Value} {Q : Option Value → Heap → List Loc → Prop} (hw : ∀ d ∈ tables_1, d.before a0 Z = true) (i0 : Int32) (P : own_S Z "com/example/ilmarinen/ilmarinen/EightBytes" "digitsOf" prog_16_method_7_code 9 (some .long) p l e ({ frames := 0, cells := 0, slots := 0, locals := 0 } : Room) s m args below meth c T h [] 0 0) (hQ : Q (some (.long (F2_0 i0))) h []) :
    own_Go p e below (own_K s Q 0 0) (T.setTop (mkF m 0 #[.val (.int i0), .unset, .unset, .unset, .unset, .unset, .unset, .unset, .unset] [])) := by
  unfold F2_0 at hQ
  refine own_iloadN P d2_0 rfl rfl ?_
  refine own_sipush P d2_1 rfl (v := (10000 : Int32)) rfl ?_
  refine own_idiv P d2_4 rfl (by decide) ?_
  refine own_i2l P d2_5 rfl ?_
  refine own_iloadN P d2_6 rfl rfl ?_
  refine own_sipush P d2_7 rfl (v := (10000 : Int32)) rfl ?_
  refine own_irem P d2_10 rfl (by decide) ?_
  refine own_i2l P d2_11 rfl ?_
  refine own_bipush P d2_12 rfl (v := (32 : Int32)) rfl ?_
  refine own_lshl P d2_14 rfl ?_
  refine own_lor P d2_15 rfl ?_
  refine own_lstoreN P d2_16 rfl (Ls' := #[.val (.int i0), .val (.long (((i0 / (10000 : Int32)).toInt64) ||| (((i0 - i0 / (10000 : Int32) * (10000 : Int32)).toInt64) <<< ((32 : Int32) &&& 0x3f).toInt64))), .second, .unset, .unset, .unset, .unset, .unset, .unset]) rfl ?_
  exact b2_17 hw i0 (((i0 / (10000 : Int32)).toInt64) ||| (((i0 - i0 / (10000 : Int32) * (10000 : Int32)).toInt64) <<< ((32 : Int32) &&& 0x3f).toInt64)) P hQ
theorem own_pn1 : plainName "com/example/ilmarinen/ilmarinen/EightBytes" = true := by first | (simp [plainName, overriddenIn]; done) | decide +kernel
theorem rm2 (l : Launch) (Z : State) (a0 : Array Value) (hw : ∀ d ∈ tables_1, d.before a0 Z = true) (i0 : Int32) (h : Heap) :
    own_Con l Z (⟨"com/example/ilmarinen/ilmarinen/EightBytes", "digitsOf", "(I)J"⟩ : MethodName) prog_16_method_7_code 9 (some .long) [] ({ frames := 0, cells := 0, slots := 0, locals := 0 } : Room) #[(.int i0)] h (own_P (some (.long (F2_0 i0))) h) :=
  own_enter (plainFor_of_name own_pn1) #[.val (.int i0), .unset, .unset, .unset, .unset, .unset, .unset, .unset, .unset] (fun m => by first | (simp [entryFrame, mkF, argsToLocals, Value.category]; done) | rfl) (fun p e s m below meth c T P => b2_0 hw i0 P ⟨rfl, rfl, rfl⟩)
theorem own_pd0 : parseMethodDescriptor "(III)J" = some ⟨[.int, .int, .int], some .long⟩ := by decide +kernel
theorem own_pd1 : parseMethodDescriptor "(I)J" = some ⟨[.int], some .long⟩ := by decide +kernel
def F0_8 (i1 : Int32) : Int32 := (if (F2_0 i1) = ((((((((F1_0 i1 (10000000 : Int32) (0 : Int32)) ||| (F1_0 i1 (1000000 : Int32) (8 : Int32))) ||| (F1_0 i1 (100000 : Int32) (16 : Int32))) ||| (F1_0 i1 (10000 : Int32) (24 : Int32))) ||| (F1_0 i1 (1000 : Int32) (32 : Int32))) ||| (F1_0 i1 (100 : Int32) (40 : Int32))) ||| (F1_0 i1 (10 : Int32) (48 : Int32))) ||| (F1_0 i1 (1 : Int32) (56 : Int32))) then (1 : Int32) else (0 : Int32))
set_option maxRecDepth 65536 in
set_option maxHeartbeats 40000000 in
theorem b0_8 {p : Program} {l : Launch} {e : Env} {s : State} {m : MethodId} {args : Array Value} {below : List Frame} {meth : Method} {c : Code} {T : State} {h : Heap} {Z : State} {a0 : Array Value} {Q : Option Value → Heap → List Loc → Prop} (hw : ∀ d ∈ tables_1, d.before a0 Z = true) (i0 : Int32) (i1 : Int32) (P : own_S Z "com/example/ilmarinen/ilmarinen/EightBytesDigitsOfPinLaw" "law" code 4 (some .boolean) p l e room_1 s m args below meth c T h [] 0 0) (hQ : Q (some (.int (F0_8 i1))) h []) :
    own_Go p e below (own_K s Q room_1.cells room_1.slots) (T.setTop (mkF m 8 #[.val (.int i0), .val (.int i1), .unset, .unset] [])) := by
  unfold F0_8 at hQ
  refine own_iloadN P at_8 rfl rfl ?_
  refine own_ldc P (v := (10000000 : Int32)) (hw _ (List.mem_of_getElem? (i := 2) rfl)) at_9 rfl ?_
  refine own_iconst P at_11 rfl (v := (0 : Int32)) rfl ?_
  refine own_callP P (hw _ (List.mem_of_getElem? (i := 3) rfl)) (hw _ (List.mem_of_getElem? (i := 4) rfl)) (hw _ (List.mem_of_getElem? (i := 5) rfl)) (hw _ (List.mem_of_getElem? (i := 6) rfl)) (by decide) (argsL := [(.int i1), (.int (10000000 : Int32)), (.int (0 : Int32))]) (rest := []) (rm1 l Z a0 hw i1 (10000000 : Int32) (0 : Int32) (by first | assumption | decide | (simp_all; done)) h) at_12 rfl own_pd0 rfl rfl rfl (by decide) 0 rfl (by decide) rfl rfl (by decide) (by decide) (fun T2 P1 => ?_)
  show own_Go p e below _ (T2.setTop (mkF m 15 #[.val (.int i0), .val (.int i1), .unset, .unset] [(.long (F1_0 i1 (10000000 : Int32) (0 : Int32)))]))
  refine own_iloadN P1 at_15 rfl rfl ?_
  refine own_ldc P1 (v := (1000000 : Int32)) (hw _ (List.mem_of_getElem? (i := 7) rfl)) at_16 rfl ?_
  refine own_bipush P1 at_18 rfl (v := (8 : Int32)) rfl ?_
  refine own_callP P1 (hw _ (List.mem_of_getElem? (i := 3) rfl)) (hw _ (List.mem_of_getElem? (i := 4) rfl)) (hw _ (List.mem_of_getElem? (i := 5) rfl)) (hw _ (List.mem_of_getElem? (i := 6) rfl)) (by decide) (argsL := [(.int i1), (.int (1000000 : Int32)), (.int (8 : Int32))]) (rest := [(.long (F1_0 i1 (10000000 : Int32) (0 : Int32)))]) (rm1 l Z a0 hw i1 (1000000 : Int32) (8 : Int32) (by first | assumption | decide | (simp_all; done)) h) at_20 rfl own_pd0 rfl rfl rfl (by decide) 2 rfl (by decide) rfl rfl (by decide) (by decide) (fun T4 P3 => ?_)
  show own_Go p e below _ (T4.setTop (mkF m 23 #[.val (.int i0), .val (.int i1), .unset, .unset] [(.long (F1_0 i1 (1000000 : Int32) (8 : Int32))), (.long (F1_0 i1 (10000000 : Int32) (0 : Int32)))]))
  refine own_lor P3 at_23 rfl ?_
  refine own_iloadN P3 at_24 rfl rfl ?_
  refine own_ldc P3 (v := (100000 : Int32)) (hw _ (List.mem_of_getElem? (i := 8) rfl)) at_25 rfl ?_
  refine own_bipush P3 at_27 rfl (v := (16 : Int32)) rfl ?_
  refine own_callP P3 (hw _ (List.mem_of_getElem? (i := 3) rfl)) (hw _ (List.mem_of_getElem? (i := 4) rfl)) (hw _ (List.mem_of_getElem? (i := 5) rfl)) (hw _ (List.mem_of_getElem? (i := 6) rfl)) (by decide) (argsL := [(.int i1), (.int (100000 : Int32)), (.int (16 : Int32))]) (rest := [(.long ((F1_0 i1 (10000000 : Int32) (0 : Int32)) ||| (F1_0 i1 (1000000 : Int32) (8 : Int32))))]) (rm1 l Z a0 hw i1 (100000 : Int32) (16 : Int32) (by first | assumption | decide | (simp_all; done)) h) at_29 rfl own_pd0 rfl rfl rfl (by decide) 2 rfl (by decide) rfl rfl (by decide) (by decide) (fun T6 P5 => ?_)
  show own_Go p e below _ (T6.setTop (mkF m 32 #[.val (.int i0), .val (.int i1), .unset, .unset] [(.long (F1_0 i1 (100000 : Int32) (16 : Int32))), (.long ((F1_0 i1 (10000000 : Int32) (0 : Int32)) ||| (F1_0 i1 (1000000 : Int32) (8 : Int32))))]))
  refine own_lor P5 at_32 rfl ?_
  refine own_iloadN P5 at_33 rfl rfl ?_
  refine own_sipush P5 at_34 rfl (v := (10000 : Int32)) rfl ?_
  refine own_bipush P5 at_37 rfl (v := (24 : Int32)) rfl ?_
  refine own_callP P5 (hw _ (List.mem_of_getElem? (i := 3) rfl)) (hw _ (List.mem_of_getElem? (i := 4) rfl)) (hw _ (List.mem_of_getElem? (i := 5) rfl)) (hw _ (List.mem_of_getElem? (i := 6) rfl)) (by decide) (argsL := [(.int i1), (.int (10000 : Int32)), (.int (24 : Int32))]) (rest := [(.long (((F1_0 i1 (10000000 : Int32) (0 : Int32)) ||| (F1_0 i1 (1000000 : Int32) (8 : Int32))) ||| (F1_0 i1 (100000 : Int32) (16 : Int32))))]) (rm1 l Z a0 hw i1 (10000 : Int32) (24 : Int32) (by first | assumption | decide | (simp_all; done)) h) at_39 rfl own_pd0 rfl rfl rfl (by decide) 2 rfl (by decide) rfl rfl (by decide) (by decide) (fun T8 P7 => ?_)
  show own_Go p e below _ (T8.setTop (mkF m 42 #[.val (.int i0), .val (.int i1), .unset, .unset] [(.long (F1_0 i1 (10000 : Int32) (24 : Int32))), (.long (((F1_0 i1 (10000000 : Int32) (0 : Int32)) ||| (F1_0 i1 (1000000 : Int32) (8 : Int32))) ||| (F1_0 i1 (100000 : Int32) (16 : Int32))))]))
  refine own_lor P7 at_42 rfl ?_
  refine own_iloadN P7 at_43 rfl rfl ?_
  refine own_sipush P7 at_44 rfl (v := (1000 : Int32)) rfl ?_
  refine own_bipush P7 at_47 rfl (v := (32 : Int32)) rfl ?_
  refine own_callP P7 (hw _ (List.mem_of_getElem? (i := 3) rfl)) (hw _ (List.mem_of_getElem? (i := 4) rfl)) (hw _ (List.mem_of_getElem? (i := 5) rfl)) (hw _ (List.mem_of_getElem? (i := 6) rfl)) (by decide) (argsL := [(.int i1), (.int (1000 : Int32)), (.int (32 : Int32))]) (rest := [(.long ((((F1_0 i1 (10000000 : Int32) (0 : Int32)) ||| (F1_0 i1 (1000000 : Int32) (8 : Int32))) ||| (F1_0 i1 (100000 : Int32) (16 : Int32))) ||| (F1_0 i1 (10000 : Int32) (24 : Int32))))]) (rm1 l Z a0 hw i1 (1000 : Int32) (32 : Int32) (by first | assumption | decide | (simp_all; done)) h) at_49 rfl own_pd0 rfl rfl rfl (by decide) 2 rfl (by decide) rfl rfl (by decide) (by decide) (fun T10 P9 => ?_)
  show own_Go p e below _ (T10.setTop (mkF m 52 #[.val (.int i0), .val (.int i1), .unset, .unset] [(.long (F1_0 i1 (1000 : Int32) (32 : Int32))), (.long ((((F1_0 i1 (10000000 : Int32) (0 : Int32)) ||| (F1_0 i1 (1000000 : Int32) (8 : Int32))) ||| (F1_0 i1 (100000 : Int32) (16 : Int32))) ||| (F1_0 i1 (10000 : Int32) (24 : Int32))))]))
  refine own_lor P9 at_52 rfl ?_
  refine own_iloadN P9 at_53 rfl rfl ?_
  refine own_bipush P9 at_54 rfl (v := (100 : Int32)) rfl ?_
  refine own_bipush P9 at_56 rfl (v := (40 : Int32)) rfl ?_
  refine own_callP P9 (hw _ (List.mem_of_getElem? (i := 3) rfl)) (hw _ (List.mem_of_getElem? (i := 4) rfl)) (hw _ (List.mem_of_getElem? (i := 5) rfl)) (hw _ (List.mem_of_getElem? (i := 6) rfl)) (by decide) (argsL := [(.int i1), (.int (100 : Int32)), (.int (40 : Int32))]) (rest := [(.long (((((F1_0 i1 (10000000 : Int32) (0 : Int32)) ||| (F1_0 i1 (1000000 : Int32) (8 : Int32))) ||| (F1_0 i1 (100000 : Int32) (16 : Int32))) ||| (F1_0 i1 (10000 : Int32) (24 : Int32))) ||| (F1_0 i1 (1000 : Int32) (32 : Int32))))]) (rm1 l Z a0 hw i1 (100 : Int32) (40 : Int32) (by first | assumption | decide | (simp_all; done)) h) at_58 rfl own_pd0 rfl rfl rfl (by decide) 2 rfl (by decide) rfl rfl (by decide) (by decide) (fun T12 P11 => ?_)
  show own_Go p e below _ (T12.setTop (mkF m 61 #[.val (.int i0), .val (.int i1), .unset, .unset] [(.long (F1_0 i1 (100 : Int32) (40 : Int32))), (.long (((((F1_0 i1 (10000000 : Int32) (0 : Int32)) ||| (F1_0 i1 (1000000 : Int32) (8 : Int32))) ||| (F1_0 i1 (100000 : Int32) (16 : Int32))) ||| (F1_0 i1 (10000 : Int32) (24 : Int32))) ||| (F1_0 i1 (1000 : Int32) (32 : Int32))))]))
  refine own_lor P11 at_61 rfl ?_
  refine own_iloadN P11 at_62 rfl rfl ?_
  refine own_bipush P11 at_63 rfl (v := (10 : Int32)) rfl ?_
  refine own_bipush P11 at_65 rfl (v := (48 : Int32)) rfl ?_
  refine own_callP P11 (hw _ (List.mem_of_getElem? (i := 3) rfl)) (hw _ (List.mem_of_getElem? (i := 4) rfl)) (hw _ (List.mem_of_getElem? (i := 5) rfl)) (hw _ (List.mem_of_getElem? (i := 6) rfl)) (by decide) (argsL := [(.int i1), (.int (10 : Int32)), (.int (48 : Int32))]) (rest := [(.long ((((((F1_0 i1 (10000000 : Int32) (0 : Int32)) ||| (F1_0 i1 (1000000 : Int32) (8 : Int32))) ||| (F1_0 i1 (100000 : Int32) (16 : Int32))) ||| (F1_0 i1 (10000 : Int32) (24 : Int32))) ||| (F1_0 i1 (1000 : Int32) (32 : Int32))) ||| (F1_0 i1 (100 : Int32) (40 : Int32))))]) (rm1 l Z a0 hw i1 (10 : Int32) (48 : Int32) (by first | assumption | decide | (simp_all; done)) h) at_67 rfl own_pd0 rfl rfl rfl (by decide) 2 rfl (by decide) rfl rfl (by decide) (by decide) (fun T14 P13 => ?_)
  show own_Go p e below _ (T14.setTop (mkF m 70 #[.val (.int i0), .val (.int i1), .unset, .unset] [(.long (F1_0 i1 (10 : Int32) (48 : Int32))), (.long ((((((F1_0 i1 (10000000 : Int32) (0 : Int32)) ||| (F1_0 i1 (1000000 : Int32) (8 : Int32))) ||| (F1_0 i1 (100000 : Int32) (16 : Int32))) ||| (F1_0 i1 (10000 : Int32) (24 : Int32))) ||| (F1_0 i1 (1000 : Int32) (32 : Int32))) ||| (F1_0 i1 (100 : Int32) (40 : Int32))))]))
  refine own_lor P13 at_70 rfl ?_
  refine own_iloadN P13 at_71 rfl rfl ?_
  refine own_iconst P13 at_72 rfl (v := (1 : Int32)) rfl ?_
  refine own_bipush P13 at_73 rfl (v := (56 : Int32)) rfl ?_
  refine own_callP P13 (hw _ (List.mem_of_getElem? (i := 3) rfl)) (hw _ (List.mem_of_getElem? (i := 4) rfl)) (hw _ (List.mem_of_getElem? (i := 5) rfl)) (hw _ (List.mem_of_getElem? (i := 6) rfl)) (by decide) (argsL := [(.int i1), (.int (1 : Int32)), (.int (56 : Int32))]) (rest := [(.long (((((((F1_0 i1 (10000000 : Int32) (0 : Int32)) ||| (F1_0 i1 (1000000 : Int32) (8 : Int32))) ||| (F1_0 i1 (100000 : Int32) (16 : Int32))) ||| (F1_0 i1 (10000 : Int32) (24 : Int32))) ||| (F1_0 i1 (1000 : Int32) (32 : Int32))) ||| (F1_0 i1 (100 : Int32) (40 : Int32))) ||| (F1_0 i1 (10 : Int32) (48 : Int32))))]) (rm1 l Z a0 hw i1 (1 : Int32) (56 : Int32) (by first | assumption | decide | (simp_all; done)) h) at_75 rfl own_pd0 rfl rfl rfl (by decide) 2 rfl (by decide) rfl rfl (by decide) (by decide) (fun T16 P15 => ?_)
  show own_Go p e below _ (T16.setTop (mkF m 78 #[.val (.int i0), .val (.int i1), .unset, .unset] [(.long (F1_0 i1 (1 : Int32) (56 : Int32))), (.long (((((((F1_0 i1 (10000000 : Int32) (0 : Int32)) ||| (F1_0 i1 (1000000 : Int32) (8 : Int32))) ||| (F1_0 i1 (100000 : Int32) (16 : Int32))) ||| (F1_0 i1 (10000 : Int32) (24 : Int32))) ||| (F1_0 i1 (1000 : Int32) (32 : Int32))) ||| (F1_0 i1 (100 : Int32) (40 : Int32))) ||| (F1_0 i1 (10 : Int32) (48 : Int32))))]))
  refine own_lor P15 at_78 rfl ?_
  refine own_lstoreN P15 at_79 rfl (Ls' := #[.val (.int i0), .val (.int i1), .val (.long ((((((((F1_0 i1 (10000000 : Int32) (0 : Int32)) ||| (F1_0 i1 (1000000 : Int32) (8 : Int32))) ||| (F1_0 i1 (100000 : Int32) (16 : Int32))) ||| (F1_0 i1 (10000 : Int32) (24 : Int32))) ||| (F1_0 i1 (1000 : Int32) (32 : Int32))) ||| (F1_0 i1 (100 : Int32) (40 : Int32))) ||| (F1_0 i1 (10 : Int32) (48 : Int32))) ||| (F1_0 i1 (1 : Int32) (56 : Int32)))), .second]) rfl ?_
  refine own_iloadN P15 at_80 rfl rfl ?_
  refine own_callP P15 (hw _ (List.mem_of_getElem? (i := 9) rfl)) (hw _ (List.mem_of_getElem? (i := 10) rfl)) (hw _ (List.mem_of_getElem? (i := 11) rfl)) (hw _ (List.mem_of_getElem? (i := 12) rfl)) (by decide) (argsL := [(.int i1)]) (rest := []) (rm2 l Z a0 hw i1 h) at_81 rfl own_pd1 rfl rfl rfl (by decide) 0 rfl (by decide) rfl rfl (by decide) (by decide) (fun T18 P17 => ?_)
  show own_Go p e below _ (T18.setTop (mkF m 84 #[.val (.int i0), .val (.int i1), .val (.long ((((((((F1_0 i1 (10000000 : Int32) (0 : Int32)) ||| (F1_0 i1 (1000000 : Int32) (8 : Int32))) ||| (F1_0 i1 (100000 : Int32) (16 : Int32))) ||| (F1_0 i1 (10000 : Int32) (24 : Int32))) ||| (F1_0 i1 (1000 : Int32) (32 : Int32))) ||| (F1_0 i1 (100 : Int32) (40 : Int32))) ||| (F1_0 i1 (10 : Int32) (48 : Int32))) ||| (F1_0 i1 (1 : Int32) (56 : Int32)))), .second] [(.long (F2_0 i1))]))
  refine own_lloadN P17 at_84 rfl rfl ?_
  by_cases hc19 : (F2_0 i1) = ((((((((F1_0 i1 (10000000 : Int32) (0 : Int32)) ||| (F1_0 i1 (1000000 : Int32) (8 : Int32))) ||| (F1_0 i1 (100000 : Int32) (16 : Int32))) ||| (F1_0 i1 (10000 : Int32) (24 : Int32))) ||| (F1_0 i1 (1000 : Int32) (32 : Int32))) ||| (F1_0 i1 (100 : Int32) (40 : Int32))) ||| (F1_0 i1 (10 : Int32) (48 : Int32))) ||| (F1_0 i1 (1 : Int32) (56 : Int32)))
  · rw [if_pos hc19] at hQ
    refine own_lcN P17 (pc' := 89) at_85 at_86 (not_not_intro hc19) rfl ?_
    refine own_iconst P17 at_89 rfl (v := (1 : Int32)) rfl ?_
    refine own_goto P17 (pc' := 94) at_90 (by decide) (by decide) ?_
    exact own_retZ P17 at_94 (z := (1 : Int32)) rfl (by decide) (by decide) hQ
  · rw [if_neg hc19] at hQ
    refine own_lcY P17 (pc' := 93) at_85 at_86 hc19 (by decide) (by decide) ?_
    refine own_iconst P17 at_93 rfl (v := (0 : Int32)) rfl ?_
    exact own_retZ P17 at_94 (z := (0 : Int32)) rfl (by decide) (by decide) hQ
def F0_0 (i0 : Int32) : Int32 := (F0_8 ((i0 &&& (2147483647 : Int32)) - (i0 &&& (2147483647 : Int32)) / (100000000 : Int32) * (100000000 : Int32)))
set_option maxRecDepth 65536 in
set_option maxHeartbeats 40000000 in
theorem b0_0 {p : Program} {l : Launch} {e : Env} {s : State} {m : MethodId} {args : Array Value} {below : List Frame} {meth : Method} {c : Code} {T : State} {h : Heap} {Z : State} {a0 : Array Value} {Q : Option Value → Heap → List Loc → Prop} (hw : ∀ d ∈ tables_1, d.before a0 Z = true) (i0 : Int32) (P : own_S Z "com/example/ilmarinen/ilmarinen/EightBytesDigitsOfPinLaw" "law" code 4 (some .boolean) p l e room_1 s m args below meth c T h [] 0 0) (hQ : Q (some (.int (F0_0 i0))) h []) :
    own_Go p e below (own_K s Q room_1.cells room_1.slots) (T.setTop (mkF m 0 #[.val (.int i0), .unset, .unset, .unset] [])) := by
  unfold F0_0 at hQ
  refine own_iloadN P at_0 rfl rfl ?_
  refine own_ldc P (v := (2147483647 : Int32)) (hw _ (List.mem_of_getElem? (i := 0) rfl)) at_1 rfl ?_
  refine own_iand P at_3 rfl ?_
  refine own_ldc P (v := (100000000 : Int32)) (hw _ (List.mem_of_getElem? (i := 1) rfl)) at_4 rfl ?_
  refine own_irem P at_6 rfl (by decide) ?_
  refine own_istoreN P at_7 rfl (Ls' := #[.val (.int i0), .val (.int ((i0 &&& (2147483647 : Int32)) - (i0 &&& (2147483647 : Int32)) / (100000000 : Int32) * (100000000 : Int32))), .unset, .unset]) rfl ?_
  exact b0_8 hw i0 ((i0 &&& (2147483647 : Int32)) - (i0 &&& (2147483647 : Int32)) / (100000000 : Int32) * (100000000 : Int32)) P hQ
theorem rm0 (l : Launch) (Z : State) (a0 : Array Value) (hw : ∀ d ∈ tables_1, d.before a0 Z = true) (i0 : Int32) (ws : List Jvm.Cond) (h : Heap) :
    own_Con l Z x code maxLocals ret ws room_1 #[(.int i0)] h (own_P (some (.int (F0_0 i0))) h) :=
  own_enter (plainFor_of_name own_pn0) #[.val (.int i0), .unset, .unset, .unset] (fun m => by first | (simp [entryFrame, mkF, argsToLocals, Value.category, maxLocals]; done) | rfl) (fun p e s m below meth c T P => b0_0 hw i0 P ⟨rfl, rfl, rfl⟩)
def own_N (x : Int64) : Nat := x.toBitVec.toNat
theorem own_N_inj {a b : Int64} (h : own_N a = own_N b) : a = b := Int64.toBitVec_inj.mp (BitVec.eq_of_toNat_eq h)
theorem own_N_or (a b : Int64) : own_N (a ||| b) = own_N a ||| own_N b := by
  show (a.toBitVec ||| b.toBitVec).toNat = _
  rw [BitVec.toNat_or]; rfl
theorem own_N_and (a b : Int64) : own_N (a &&& b) = own_N a &&& own_N b := by
  show (a.toBitVec &&& b.toBitVec).toNat = _
  rw [BitVec.toNat_and]; rfl
theorem own_N_add (a b : Int64) : own_N (a + b) = (own_N a + own_N b) % 18446744073709551616 := by
  show (a.toBitVec + b.toBitVec).toNat = _
  rw [BitVec.toNat_add]; rfl
theorem own_N_mul (a b : Int64) : own_N (a * b) = (own_N a * own_N b) % 18446744073709551616 := by
  show (a.toBitVec * b.toBitVec).toNat = _
  rw [BitVec.toNat_mul]; rfl
theorem own_N_sub (a b : Int64) : own_N (a - b) = (18446744073709551616 - own_N b + own_N a) % 18446744073709551616 := by
  show (a.toBitVec - b.toBitVec).toNat = _
  rw [BitVec.toNat_sub]; rfl
theorem own_N_shl (x n : Int64) {k : Nat} (hn : (n.toBitVec.smod 64).toNat = k) : own_N (x <<< n) = (own_N x * 2 ^ k) % 18446744073709551616 := by
  have e : own_N (x <<< n) = (x.toBitVec <<< (n.toBitVec.smod 64)).toNat := rfl
  rw [e, BitVec.shiftLeft_eq', BitVec.toNat_shiftLeft, hn, Nat.shiftLeft_eq]; rfl
theorem own_N_shr (x : Int64) (n : UInt64) {k : Nat} (hn : n.toNat = k) (hk : k < 64) : own_N ((x.toUInt64 >>> n).toInt64) = own_N x / 2 ^ k := by
  show ((x.toUInt64 >>> n).toInt64).toBitVec.toNat = _
  simp only [UInt64.toBitVec_toInt64, UInt64.toBitVec_shiftRight, Int64.toBitVec_toUInt64]
  simp [own_N, BitVec.toNat_ushiftRight, Nat.shiftRight_eq_div_pow, hn, Nat.mod_eq_of_lt hk]
theorem own_N_pos (x : Int64) (h : 0 ≤ x.toInt) : own_N x = x.toInt.toNat := by
  have e : x.toInt = x.toBitVec.toInt := rfl
  have hb := x.toBitVec.isLt
  rw [e, BitVec.toInt_eq_toNat_cond] at h
  rw [e, BitVec.toInt_eq_toNat_cond]
  unfold own_N
  split at h
  · rename_i q
    rw [if_pos q]; rfl
  · omega
theorem own_N_i2l (i : Int32) (h : 0 ≤ i.toInt) : own_N i.toInt64 = i.toInt.toNat := by rw [own_N_pos _ (by rw [Int32.toInt_toInt64]; exact h), Int32.toInt_toInt64]
theorem own_or_add {a k : Nat} (h : a < 2 ^ k) (b : Nat) : a ||| (2 ^ k * b) = a + 2 ^ k * b := by rw [Nat.or_comm, ← Nat.two_pow_add_eq_or_of_lt h b, Nat.add_comm]
theorem own_and_split (k a b c d : Nat) (ha : a < 2 ^ k) (hc : c < 2 ^ k) : (2 ^ k * b + a) &&& (2 ^ k * d + c) = 2 ^ k * (b &&& d) + (a &&& c) := by
  apply Nat.eq_of_testBit_eq
  intro j
  rw [Nat.testBit_and, Nat.testBit_two_pow_mul_add _ ha, Nat.testBit_two_pow_mul_add _ hc, Nat.testBit_two_pow_mul_add _ (Nat.lt_of_le_of_lt Nat.and_le_left ha)]
  split <;> rw [Nat.testBit_and]
theorem own_or_split (k a b c d : Nat) (ha : a < 2 ^ k) (hc : c < 2 ^ k) : (2 ^ k * b + a) ||| (2 ^ k * d + c) = 2 ^ k * (b ||| d) + (a ||| c) := by
  apply Nat.eq_of_testBit_eq
  intro j
  rw [Nat.testBit_or, Nat.testBit_two_pow_mul_add _ ha, Nat.testBit_two_pow_mul_add _ hc, Nat.testBit_two_pow_mul_add _ (Nat.or_lt_two_pow ha hc)]
  split <;> rw [Nat.testBit_or]
theorem own_lanes (m a b c d : Nat) (hb : b < 2 ^ 16) (hc : c < 2 ^ 16) (hd : d < 2 ^ 16) (hm : m < 2 ^ 16) : (2 ^ 16 * (2 ^ 16 * (2 ^ 16 * a + b) + c) + d) &&& (2 ^ 16 * (2 ^ 16 * (2 ^ 16 * m + m) + m) + m) = 2 ^ 16 * (2 ^ 16 * (2 ^ 16 * (a &&& m) + (b &&& m)) + (c &&& m)) + (d &&& m) := by
  rw [own_and_split 16 _ _ _ _ hd hm, own_and_split 16 _ _ _ _ hc hm, own_and_split 16 _ _ _ _ hb hm]

theorem own_maskA (x : Nat) : x &&& 4222189076152335 = x % 16 + 65536 * (x / 65536 % 16) + 4294967296 * (x / 4294967296 % 16) + 281474976710656 * (x / 281474976710656 % 16) := by
  have q := own_lanes 15 (x / 281474976710656) (x / 4294967296 % 65536) (x / 65536 % 65536) (x % 65536) (by omega) (by omega) (by omega) (by decide)
  have hx : 2 ^ 16 * (2 ^ 16 * (2 ^ 16 * (x / 281474976710656) + (x / 4294967296 % 65536)) + (x / 65536 % 65536)) + (x % 65536) = x := by omega
  rw [hx] at q
  have e : ∀ y : Nat, y &&& 15 = y % 16 := fun y => Nat.and_two_pow_sub_one_eq_mod y 4
  rw [e, e, e, e] at q
  rw [show (4222189076152335 : Nat) = 2 ^ 16 * (2 ^ 16 * (2 ^ 16 * 15 + 15) + 15) + 15 from rfl, q]
  omega
theorem own_maskB (x : Nat) : x &&& 545460846719 = x % 128 + 4294967296 * (x / 4294967296 % 128) := by
  have q := own_and_split 32 (x % 4294967296) (x / 4294967296) 127 127 (by omega) (by decide)
  have hx : 2 ^ 32 * (x / 4294967296) + x % 4294967296 = x := by omega
  rw [hx] at q
  have e : ∀ y : Nat, y &&& 127 = y % 128 := fun y => Nat.and_two_pow_sub_one_eq_mod y 7
  rw [e, e] at q
  rw [show (545460846719 : Nat) = 2 ^ 32 * 127 + 127 from rfl, q]
  omega
theorem own_t59 (j5 j7 : Int64) (a b c d : Nat) (ha : a < 100) (hb : b < 100) (hc : c < 100) (hd : d < 100) (h5 : own_N j5 = a + 65536 * b + 4294967296 * c + 281474976710656 * d) (h7 : own_N j7 = a / 10 + 65536 * (b / 10) + 4294967296 * (c / 10) + 281474976710656 * (d / 10)) :
    own_N (F2_59 j5 j7) = (48 + a / 10) + 256 * (48 + a % 10) + 65536 * (48 + b / 10) + 16777216 * (48 + b % 10) + 4294967296 * (48 + c / 10) + 1099511627776 * (48 + c % 10) + 281474976710656 * (48 + d / 10) + 72057594037927936 * (48 + d % 10) := by
  have z10 : own_N 10 = 10 := by decide
  have zC : own_N 3472328296227680304 = 3472328296227680304 := by decide
  have e1 : own_N (j5 - j7 * 10) = a % 10 + 65536 * (b % 10) + 4294967296 * (c % 10) + 281474976710656 * (d % 10) := by
    rw [own_N_sub, own_N_mul, h5, h7, z10]; omega
  have e2 : own_N ((j5 - j7 * 10) <<< ((8 : Int32) &&& 0x3f).toInt64) = 256 * (a % 10) + 16777216 * (b % 10) + 1099511627776 * (c % 10) + 72057594037927936 * (d % 10) := by
    rw [own_N_shl _ _ (k := 8) (by decide), e1]; omega
  have e3 : own_N (j7 ||| ((j5 - j7 * 10) <<< ((8 : Int32) &&& 0x3f).toInt64)) = (a / 10 + 256 * (a % 10)) + 65536 * (b / 10 + 256 * (b % 10)) + 4294967296 * (c / 10 + 256 * (c % 10)) + 281474976710656 * (d / 10 + 256 * (d % 10)) := by
    rw [own_N_or, h7, e2]
    rw [show a / 10 + 65536 * (b / 10) + 4294967296 * (c / 10) + 281474976710656 * (d / 10) = 2 ^ 16 * (2 ^ 16 * (2 ^ 16 * (d / 10) + c / 10) + b / 10) + a / 10 by omega,
      show 256 * (a % 10) + 16777216 * (b % 10) + 1099511627776 * (c % 10) + 72057594037927936 * (d % 10) = 2 ^ 16 * (2 ^ 16 * (2 ^ 16 * (2 ^ 8 * (d % 10)) + 2 ^ 8 * (c % 10)) + 2 ^ 8 * (b % 10)) + 2 ^ 8 * (a % 10) by omega,
      own_or_split 16 _ _ _ _ (by omega) (by omega), own_or_split 16 _ _ _ _ (by omega) (by omega), own_or_split 16 _ _ _ _ (by omega) (by omega),
      own_or_add (k := 8) (by omega), own_or_add (k := 8) (by omega), own_or_add (k := 8) (by omega), own_or_add (k := 8) (by omega)]
    omega
  unfold F2_59
  rw [own_N_add, e3, zC]
  omega
theorem own_t44 (j5 : Int64) (a b c d : Nat) (ha : a < 100) (hb : b < 100) (hc : c < 100) (hd : d < 100) (h5 : own_N j5 = a + 65536 * b + 4294967296 * c + 281474976710656 * d) :
    own_N (F2_44 j5) = (48 + a / 10) + 256 * (48 + a % 10) + 65536 * (48 + b / 10) + 16777216 * (48 + b % 10) + 4294967296 * (48 + c / 10) + 1099511627776 * (48 + c % 10) + 281474976710656 * (48 + d / 10) + 72057594037927936 * (48 + d % 10) := by
  unfold F2_44
  refine own_t59 _ _ a b c d ha hb hc hd h5 ?_
  have z : own_N 103 = 103 := by decide
  have zm : own_N 4222189076152335 = 4222189076152335 := by decide
  rw [own_N_and, own_N_shr _ _ (k := 10) (by decide) (by decide), own_N_mul, h5, z, zm, own_maskA]
  have e : (a + 65536 * b + 4294967296 * c + 281474976710656 * d) * 103 % 18446744073709551616 / 2 ^ 10 = 103 * a / 1024 + 64 * (103 * b) + 4194304 * (103 * c) + 274877906944 * (103 * d) := by omega
  rw [e]
  have qa : 103 * a / 1024 = a / 10 := by omega
  have qb : 103 * b / 1024 = b / 10 := by omega
  have qc : 103 * c / 1024 = c / 10 := by omega
  have qd : 103 * d / 1024 = d / 10 := by omega
  have sh : ∀ u m K : Nat, u < 64 → (u + 64 * m + 65536 * K) / 65536 = m / 1024 + K := fun u m K h => by omega
  have x0 : 103 * a / 1024 + 64 * (103 * b) + 4194304 * (103 * c) + 274877906944 * (103 * d) = a / 10 + 64 * (103 * b) + 65536 * (64 * (103 * c) + 65536 * (64 * (103 * d))) := by rw [qa]; omega
  rw [x0]
  generalize hX : a / 10 + 64 * (103 * b) + 65536 * (64 * (103 * c) + 65536 * (64 * (103 * d))) = X
  have x1 : X / 65536 = b / 10 + 64 * (103 * c) + 65536 * (64 * (103 * d)) := by rw [← hX, sh _ _ _ (by omega), qb]; omega
  have x2 : X / 4294967296 = c / 10 + 64 * (103 * d) + 65536 * 0 := by
    rw [show (4294967296 : Nat) = 65536 * 65536 from rfl, ← Nat.div_div_eq_div_mul, x1, sh _ _ _ (by omega), qc]
    omega
  have x3 : X / 281474976710656 = d / 10 := by
    rw [show (281474976710656 : Nat) = 4294967296 * 65536 from rfl, ← Nat.div_div_eq_div_mul, x2, sh _ _ _ (by omega), qd, Nat.add_zero]
  have l0 : X % 16 = a / 10 := by omega
  have l1 : X / 65536 % 16 = b / 10 := by rw [x1]; omega
  have l2 : X / 4294967296 % 16 = c / 10 := by rw [x2]; omega
  have l3 : X / 281474976710656 % 16 = d / 10 := by rw [x3]; omega
  rw [l0, l1, l2, l3]
theorem own_t17 (j1 : Int64) (a b : Nat) (ha : a < 10000) (hb : b < 10000) (h1 : own_N j1 = a + 4294967296 * b) :
    own_N (F2_17 j1) = (48 + a / 1000) + 256 * (48 + a / 100 % 10) + 65536 * (48 + a % 100 / 10) + 16777216 * (48 + a % 10) + 4294967296 * (48 + b / 1000) + 1099511627776 * (48 + b / 100 % 10) + 281474976710656 * (48 + b % 100 / 10) + 72057594037927936 * (48 + b % 10) := by
  have z1 : own_N 5243 = 5243 := by decide
  have z2 : own_N 100 = 100 := by decide
  have zm : own_N 545460846719 = 545460846719 := by decide
  have e3 : own_N ((((j1 * (5243 : Int64)).toUInt64 >>> ((19 : Int32) &&& 0x3f).toInt64.toUInt64).toInt64) &&& (545460846719 : Int64)) = a / 100 + 4294967296 * (b / 100) := by
    rw [own_N_and, own_N_shr _ _ (k := 19) (by decide) (by decide), own_N_mul, h1, z1, zm, own_maskB]
    have e : (a + 4294967296 * b) * 5243 % 18446744073709551616 / 2 ^ 19 = 5243 * a / 524288 + 8192 * (5243 * b) := by omega
    rw [e]
    have qa : 5243 * a / 524288 = a / 100 := by omega
    have qb : 5243 * b / 524288 = b / 100 := by omega
    have sh : ∀ u m : Nat, u < 8192 → (u + 8192 * m) / 4294967296 = m / 524288 := fun u m h => by omega
    rw [qa]
    have l0 : (a / 100 + 8192 * (5243 * b)) % 128 = a / 100 := by omega
    have l1 : (a / 100 + 8192 * (5243 * b)) / 4294967296 % 128 = b / 100 := by rw [sh _ _ (by omega), qb]; omega
    rw [l0, l1]
  unfold F2_17
  generalize ((((j1 * (5243 : Int64)).toUInt64 >>> ((19 : Int32) &&& 0x3f).toInt64.toUInt64).toInt64) &&& (545460846719 : Int64)) = j3 at *
  have e4 : own_N ((j1 - j3 * 100) <<< ((16 : Int32) &&& 0x3f).toInt64) = 65536 * (a % 100) + 281474976710656 * (b % 100) := by
    rw [own_N_shl _ _ (k := 16) (by decide), own_N_sub, own_N_mul, h1, e3, z2]; omega
  have e5 : own_N (j3 ||| ((j1 - j3 * 100) <<< ((16 : Int32) &&& 0x3f).toInt64)) = a / 100 + 65536 * (a % 100) + 4294967296 * (b / 100) + 281474976710656 * (b % 100) := by
    rw [own_N_or, e3, e4]
    rw [show a / 100 + 4294967296 * (b / 100) = 2 ^ 32 * (b / 100) + a / 100 by omega, show 65536 * (a % 100) + 281474976710656 * (b % 100) = 2 ^ 32 * (2 ^ 16 * (b % 100)) + 2 ^ 16 * (a % 100) by omega,
      own_or_split 32 _ _ _ _ (by omega) (by omega), own_or_add (k := 16) (by omega), own_or_add (k := 16) (by omega)]
    omega
  unfold F2_30
  rw [own_t44 _ _ _ _ _ (by omega) (by omega) (by omega) (by omega) e5]
  omega
theorem own_dig (v p s : Int32) (h0 : 0 ≤ v.toInt) (hp : 0 < p.toInt) {k : Nat} (hk : ((s &&& 0x3f).toInt64.toBitVec.smod 64).toNat = k) (hk2 : k ≤ 56) : own_N (F1_0 v p s) = (48 + v.toInt.toNat / p.toInt.toNat % 10) * 2 ^ k := by
  have z48 : (48 : Int32).toInt = 48 := by decide
  have z10 : (10 : Int32).toInt = 10 := by decide
  have d : (v / p).toInt = v.toInt / p.toInt := by rw [Jvm.Kit.i32_div (by omega), Int.tdiv_eq_ediv_of_nonneg h0]
  have dn : 0 ≤ v.toInt / p.toInt := Int.ediv_nonneg h0 (by omega)
  have r : ((v / p) - (v / p) / (10 : Int32) * (10 : Int32)).toInt = v.toInt / p.toInt % 10 := by rw [irem_eq_mod, Jvm.Kit.i32_rem_nonneg (by rw [d]; exact dn), d, z10]
  have a : ((48 : Int32) + ((v / p) - (v / p) / (10 : Int32) * (10 : Int32))).toInt = 48 + v.toInt / p.toInt % 10 := by
    rw [Jvm.Kit.i32_add (by rw [z48, r]; omega) (by rw [z48, r]; omega), z48, r]
  have hv : (48 + v.toInt / p.toInt % 10).toNat = 48 + v.toInt.toNat / p.toInt.toNat % 10 := by
    have : v.toInt / p.toInt = ((v.toInt.toNat / p.toInt.toNat : Nat) : Int) := by
      rw [Int.natCast_ediv, Int.toNat_of_nonneg h0, Int.toNat_of_nonneg (by omega)]
    rw [this]; omega
  unfold F1_0
  rw [own_N_shl _ _ hk, own_N_i2l _ (by rw [a]; omega), a, hv]
  have hp2 : 2 ^ k ≤ 2 ^ 56 := Nat.pow_le_pow_right (by decide) hk2
  have : (48 + v.toInt.toNat / p.toInt.toNat % 10) * 2 ^ k ≤ 57 * 2 ^ 56 := Nat.mul_le_mul (by omega) hp2
  exact Nat.mod_eq_of_lt (by omega)
theorem own_8 (v : Int32) (h0 : 0 ≤ v.toInt) (h1 : v.toInt < 100000000) : F0_8 v = 1 := by
  unfold F0_8
  rw [if_pos]
  apply own_N_inj
  have z : (10000 : Int32).toInt = 10000 := by decide
  have d : (v / (10000 : Int32)).toInt = v.toInt / 10000 := by rw [Jvm.Kit.i32_div (by rw [z]; omega), z, Int.tdiv_eq_ediv_of_nonneg h0]
  have r : (v - v / (10000 : Int32) * (10000 : Int32)).toInt = v.toInt % 10000 := by rw [irem_eq_mod, Jvm.Kit.i32_rem_nonneg h0, z]
  have e1 : own_N (((v / (10000 : Int32)).toInt64) ||| (((v - v / (10000 : Int32) * (10000 : Int32)).toInt64) <<< ((32 : Int32) &&& 0x3f).toInt64)) = v.toInt.toNat / 10000 + 4294967296 * (v.toInt.toNat % 10000) := by
    rw [own_N_or, own_N_shl _ _ (k := 32) (by decide), own_N_i2l _ (by rw [d]; omega), own_N_i2l _ (by rw [r]; omega), d, r]
    rw [show (v.toInt % 10000).toNat * 2 ^ 32 % 18446744073709551616 = 2 ^ 32 * (v.toInt.toNat % 10000) by omega, show (v.toInt / 10000).toNat = v.toInt.toNat / 10000 by omega, own_or_add (k := 32) (by omega)]
  unfold F2_0
  rw [own_t17 _ _ _ (by omega) (by omega) e1]
  rw [own_N_or, own_N_or, own_N_or, own_N_or, own_N_or, own_N_or, own_N_or]
  rw [own_dig v 10000000 0 h0 (by decide) (k := 0) (by decide) (by decide), own_dig v 1000000 8 h0 (by decide) (k := 8) (by decide) (by decide), own_dig v 100000 16 h0 (by decide) (k := 16) (by decide) (by decide), own_dig v 10000 24 h0 (by decide) (k := 24) (by decide) (by decide), own_dig v 1000 32 h0 (by decide) (k := 32) (by decide) (by decide), own_dig v 100 40 h0 (by decide) (k := 40) (by decide) (by decide), own_dig v 10 48 h0 (by decide) (k := 48) (by decide) (by decide), own_dig v 1 56 h0 (by decide) (k := 56) (by decide) (by decide)]
  rw [show (10000000 : Int32).toInt.toNat = 10000000 by decide, show (1000000 : Int32).toInt.toNat = 1000000 by decide, show (100000 : Int32).toInt.toNat = 100000 by decide, show (10000 : Int32).toInt.toNat = 10000 by decide, show (1000 : Int32).toInt.toNat = 1000 by decide, show (100 : Int32).toInt.toNat = 100 by decide, show (10 : Int32).toInt.toNat = 10 by decide, show (1 : Int32).toInt.toNat = 1 by decide]
  generalize hn : v.toInt.toNat = n
  have hn' : n < 100000000 := by omega
  rw [Nat.mul_comm _ (2 ^ 8), own_or_add (k := 8) (by omega), Nat.mul_comm _ (2 ^ 16), own_or_add (k := 16) (by omega), Nat.mul_comm _ (2 ^ 24), own_or_add (k := 24) (by omega), Nat.mul_comm _ (2 ^ 32), own_or_add (k := 32) (by omega), Nat.mul_comm _ (2 ^ 40), own_or_add (k := 40) (by omega), Nat.mul_comm _ (2 ^ 48), own_or_add (k := 48) (by omega), Nat.mul_comm _ (2 ^ 56), own_or_add (k := 56) (by omega)]
  clear e1 d r hn h0 h1
  have a1 : n / 10000 / 1000 = n / 10000000 % 10 := by omega
  have a2 : n / 10000 / 100 % 10 = n / 1000000 % 10 := by omega
  have a3 : n / 10000 % 100 / 10 = n / 100000 % 10 := by omega
  have a5 : n % 10000 / 1000 = n / 1000 % 10 := by omega
  have a6 : n % 10000 / 100 % 10 = n / 100 % 10 := by omega
  have a7 : n % 10000 % 100 / 10 = n / 10 % 10 := by omega
  have a8 : n % 10000 % 10 = n / 1 % 10 := by omega
  rw [a1, a2, a3, a5, a6, a7, a8]
  generalize n / 10000000 % 10 = e1
  generalize n / 1000000 % 10 = e2
  generalize n / 100000 % 10 = e3
  generalize n / 10000 % 10 = e4
  generalize n / 1000 % 10 = e5
  generalize n / 100 % 10 = e6
  generalize n / 10 % 10 = e7
  generalize n / 1 % 10 = e8
  omega
theorem own_law (i0 : Int32) : F0_0 i0 = 1 := by
  have m0 : (i0 &&& (2147483647 : Int32)).toInt = i0.toInt % 2 ^ 31 := Jvm.Kit.i32_mask i0 _ (k := 31) (by decide) (by decide)
  have z : (100000000 : Int32).toInt = 100000000 := by decide
  unfold F0_0
  generalize (i0 &&& (2147483647 : Int32)) = y at *
  have r : (y - y / (100000000 : Int32) * (100000000 : Int32)).toInt = y.toInt % 100000000 := by rw [irem_eq_mod, Jvm.Kit.i32_rem_nonneg (by omega), z]
  exact own_8 _ (by rw [r]; omega) (by rw [r]; omega)

theorem own_rm0 (l : Launch) (Z : State) (a0 : Array Value) (hw : ∀ d ∈ tables_1, d.before a0 Z = true) (i0 : Int32) (ws : List Jvm.Cond) (h : Heap) :
    own_Con l Z x code maxLocals ret ws room_1 #[(.int i0)] h (fun v _ L => v = some (.int 1) ∧ Fr h.size L) := by
  have q := rm0 l Z a0 hw i0 ws h
  rw [own_law i0] at q
  refine own_conMono q fun v h' L w => ?_
  obtain ⟨rfl, rfl, rfl⟩ := w
  exact ⟨rfl, Fr.nil _⟩
set_option maxRecDepth 65536 in
set_option maxHeartbeats 40000000 in
theorem comes_1 {Post : Tables → Env → Array Value → State → Outcome → State → Prop} (hpost : ∀ tb e args s v u, (limb_1_1.after args s (.returned v) u = true ∧ limb_1_2.after args s (.returned v) u = true ∧ True) → FrameEnd s (.returned v) u (Jvm.fieldLocs frame_1_writes args s ++ Jvm.arrayLocs frame_1_arrays args s ++ Jvm.staticLocs frame_1_statics s) 0 0 → Post tb e args s (.returned v) u) :
    ArmFor flags0 classFile x code maxLocals ret World_1 tables_1 room_1 Calls_1 rest_1 Pre_1 Post := by
  intro l hfl _ _ p e ha hc hk s m args below hf hA hF happ hP
  obtain ⟨hcalls, hrest, hpre⟩ := hP
  obtain ⟨-, -, -, hnamed, -, -, -, hat⟩ := (Spec.applies_iff hf).mp happ
  obtain ⟨hg, hn⟩ := and_e (Cond.before_iff.mp (show (Jvm.Cond.and given_1 narrow_1).before args s = true from hpre))
  obtain ⟨g0, hg1⟩ := and_e hg
  obtain ⟨w0, rfl⟩ : ∃ w0 : Value, args = #[w0] := by
    have hs : args.size = 1 := by simpa [Cond.value, given_1] using g0
    obtain ⟨L⟩ := args
    match L, hs with
    | [w0], _ => exact ⟨w0, rfl⟩
  have hw := fun d (hd : d ∈ tables_1) => atoms_spec (ws := Jvm.Cond.code x code maxLocals ret :: tables_1) hat d (List.mem_cons_of_mem _ hd)
  obtain ⟨i0, ei0⟩ := is_v hg1
  obtain rfl : w0 = (.int i0) := Option.some.inj ei0
  obtain ⟨n, o, h1, h2, h3, _, L, rfl, ⟨rfl, N⟩, hq⟩ := own_rm0 l s _ hw i0 tables_1 s.heap p e ha hc hk s m _ below hf ((Spec.applies_iff_loose hf).mp happ).1 ⟨rfl, State.Warmed39.refl s, rfl⟩ trivial
  refine ⟨n, _, h1, h2, h3, hpost _ _ _ _ _ _ ⟨Cond.after_iff.mpr rfl, Cond.after_iff.mpr (eq_i res_at (Term.int_eval (1)) rfl), trivial⟩ ⟨hq.1, hq.2.1, (hq.2.2.sift fun y hy => Or.inr (N y hy)).mono (by decide) (by decide)⟩⟩
theorem main_1_1 : Claimed_1_1 := comes_1 fun _ _ _ _ _ _ h hF => ⟨h.1, hF⟩
theorem main_1_2 : Claimed_1_2 := comes_1 fun _ _ _ _ _ _ h hF => ⟨h.2.1, hF⟩
end Jvm.Pilot.@@N@@
namespace Jvm.Pilot.@@N@@
open Jvm Jvm.ClassFile Sem Op Lib Jvm.Free Jvm.Stand Jvm.Pilot.@@N@@.Jvm.D
/-! MADE BY PROGRAM (witnessworld.py) out of the Statement's table words and the real class files: 9 classes; the members and pool entries that the words name. The judged class is class 1, her method 2. -/
namespace start1
open Jvm.ClassFile
def u (s : String) : CpInfo := .utf8 (stringToUtf16 s)
/-- a pool by its gaps: so many unusable entries, then the entry; so many at the end -/
def gap : Nat → List CpInfo → List CpInfo
  | 0, r => r
  | n + 1, r => .unusable :: gap n r
def poolList (es : List (Nat × CpInfo)) (last : Nat) : List CpInfo := es.foldr (fun e r => gap e.1 (e.2 :: r)) (gap last [])
def pool (es : List (Nat × CpInfo)) (last : Nat) : Array CpInfo := ⟨poolList es last⟩
def fileOf (pool : Array CpInfo) (this : Nat) (attrs : Array Attribute := #[]) (ms : Array MethodInfo := #[]) (fl : Nat := 33) (sup : Nat := 0) (ifs : Array Nat := #[]) (fds : Array FieldInfo := #[]) : ClassFile where
  minorVersion := 0
  majorVersion := 65
  constantPool := pool
  accessFlags := fl
  thisClass := this
  superClass := sup
  interfaces := ifs
  fields := fds
  methods := ms
  attributes := attrs
def plain (name : String) (sup : Option ClassId) : Class where
  name := name
  kind := .ordinary
  loader := none
  accessFlags := 33
  super := sup
  interfaces := #[]
  cf := none
  fields := #[]
  methods := #[]
  instanceTypes := #[]
  staticTypes := #[]
  resolved := #[]
  callSites := []
  init := .initialized
  statics := none
  mirror := none

def pool0 : Array CpInfo := pool [(5, u "<init>"), (0, u "()V"), (1, .class_ 10), (1, u "java/lang/Object")] 113

def k0m0 : Method := { name := "<init>", desc := "()V", sig := { parameters := [], returnType := none }, accessFlags := 1, code := none }
/-- java/lang/Object -/
def k0 : Class := { plain "java/lang/Object" none with
  accessFlags := 33
  interfaces := #[]
  cf := some (fileOf pool0 8 #[] #[{ accessFlags := 1, nameIndex := 5, descriptorIndex := 6, attributes := #[] }] 33 0 #[] #[])
  fields := #[]
  methods := #[k0m0]
  instanceTypes := #[]
  staticTypes := #[]
  resolved := Array.replicate 124 none
  statics := none }

def pool1 : Array CpInfo := pool [(2, .class_ 4), (1, u "java/lang/Object"), (0, u "<init>"), (0, u "()V"), (0, .integer 2147483647), (0, .integer 100000000), (0, .integer 10000000), (0, .methodref 11 12), (0, .class_ 13), (0, .nameAndType 14 15), (0, u "com/example/ilmarinen/ilmarinen/EightBytesDigitsOfPinLaw"), (0, u "digit"), (0, u "(III)J"), (0, .integer 1000000), (0, .integer 100000), (0, .methodref 19 20), (0, .class_ 21), (0, .nameAndType 22 23), (0, u "com/example/ilmarinen/ilmarinen/EightBytes"), (0, u "digitsOf"), (0, u "(I)J"), (2, u "law"), (0, u "(I)Z")] 3

def k1m0 : Method := { name := "<init>", desc := "()V", sig := { parameters := [], returnType := none }, accessFlags := 2, code := none }
def k1c1 : Code := { maxStack := 3, maxLocals := 5, code := method_2_code, exceptionTable := #[], attributes := #[] }
def k1m1 : Method := { name := "digit", desc := "(III)J", sig := { parameters := [.int, .int, .int], returnType := some .long }, accessFlags := 10, code := some k1c1 }
def k1c2 : Code := { maxStack := 5, maxLocals := 4, code := code, exceptionTable := #[], attributes := #[] }
def k1m2 : Method := { name := "law", desc := "(I)Z", sig := { parameters := [.int], returnType := some .boolean }, accessFlags := 9, code := some k1c2 }
/-- com/example/ilmarinen/ilmarinen/EightBytesDigitsOfPinLaw -/
def k1 : Class := { plain "com/example/ilmarinen/ilmarinen/EightBytesDigitsOfPinLaw" (some 0) with
  accessFlags := 49
  interfaces := #[]
  cf := some (fileOf pool1 11 #[] #[{ accessFlags := 2, nameIndex := 5, descriptorIndex := 6, attributes := #[] }, { accessFlags := 10, nameIndex := 14, descriptorIndex := 15, attributes := #[] }, { accessFlags := 9, nameIndex := 26, descriptorIndex := 27, attributes := #[] }] 49 2 #[] #[])
  fields := #[]
  methods := #[k1m0, k1m1, k1m2]
  instanceTypes := #[]
  staticTypes := #[]
  resolved := Array.replicate 31 none
  statics := none }

def pool2 : Array CpInfo := pool [(2, .class_ 4), (1, u "java/lang/Object"), (0, u "<init>"), (0, u "()V"), (1, .class_ 10), (1, u "com/example/ilmarinen/ilmarinen/EightBytes"), (0, u "LONGS"), (0, u "Ljava/lang/invoke/VarHandle;"), (26, .long 3472328296227680304), (3, .long 5243), (1, .long 545460846719), (1, .long 100), (1, .long 103), (1, .long 4222189076152335), (1, .long 10), (26, u "ONES"), (0, u "J"), (1, u "TOP_BITS"), (0, u "TOP_HALVES"), (9, u "digitsOf"), (0, u "(I)J")] 5

def k2m0 : Method := { name := "<init>", desc := "()V", sig := { parameters := [], returnType := none }, accessFlags := 2, code := none }
def k2c1 : Code := { maxStack := 8, maxLocals := 9, code := prog_16_method_7_code, exceptionTable := #[], attributes := #[] }
def k2m1 : Method := { name := "digitsOf", desc := "(I)J", sig := { parameters := [.int], returnType := some .long }, accessFlags := 8, code := some k2c1 }
/-- com/example/ilmarinen/ilmarinen/EightBytes -/
def k2 : Class := { plain "com/example/ilmarinen/ilmarinen/EightBytes" (some 0) with
  accessFlags := 48
  interfaces := #[]
  cf := some (fileOf pool2 8 #[] #[{ accessFlags := 2, nameIndex := 5, descriptorIndex := 6, attributes := #[] }, { accessFlags := 8, nameIndex := 94, descriptorIndex := 95, attributes := #[] }] 48 2 #[] #[{ accessFlags := 26, nameIndex := 11, descriptorIndex := 12, attributes := #[] }, { accessFlags := 26, nameIndex := 80, descriptorIndex := 81, attributes := #[] }, { accessFlags := 26, nameIndex := 83, descriptorIndex := 81, attributes := #[] }, { accessFlags := 26, nameIndex := 84, descriptorIndex := 81, attributes := #[] }])
  fields := #[{ name := "LONGS", type := (.object "java/lang/invoke/VarHandle"), accessFlags := 26, slot := 0, constantValue := 0 }, { name := "ONES", type := .long, accessFlags := 26, slot := 1, constantValue := 0 }, { name := "TOP_BITS", type := .long, accessFlags := 26, slot := 2, constantValue := 0 }, { name := "TOP_HALVES", type := .long, accessFlags := 26, slot := 3, constantValue := 0 }]
  methods := #[k2m0, k2m1]
  instanceTypes := #[]
  staticTypes := #[(.object "java/lang/invoke/VarHandle"), .long, .long, .long]
  resolved := Array.replicate 101 none
  statics := none }

def pool3 : Array CpInfo := pool [(1, u "java/lang/Cloneable"), (0, .class_ 1), (0, u "java/lang/Object"), (0, .class_ 3)] 3

/-- java/lang/Cloneable -/
def k3 : Class := { plain "java/lang/Cloneable" (some 0) with
  accessFlags := 1537
  interfaces := #[]
  cf := some (fileOf pool3 2 #[] #[] 1537 4 #[] #[])
  fields := #[]
  methods := #[]
  instanceTypes := #[]
  staticTypes := #[]
  resolved := Array.replicate 8 none
  statics := none }

def pool4 : Array CpInfo := pool [(1, u "java/io/Serializable"), (0, .class_ 1), (0, u "java/lang/Object"), (0, .class_ 3)] 3

/-- java/io/Serializable -/
def k4 : Class := { plain "java/io/Serializable" (some 0) with
  accessFlags := 1537
  interfaces := #[]
  cf := some (fileOf pool4 2 #[] #[] 1537 4 #[] #[])
  fields := #[]
  methods := #[]
  instanceTypes := #[]
  staticTypes := #[]
  resolved := Array.replicate 8 none
  statics := none }

/-- the primitive byte -/
def k5 : Class := { plain "byte" none with kind := .primitive 'B', accessFlags := 0x411 }
/-- [B -/
def k6 : Class := { plain "[B" (some 0) with kind := .array 5 .byte, interfaces := #[3, 4], accessFlags := 1041 }

/-- the primitive int -/
def k7 : Class := { plain "int" none with kind := .primitive 'I', accessFlags := 0x411 }
/-- [I -/
def k8 : Class := { plain "[I" (some 0) with kind := .array 7 .int, interfaces := #[3, 4], accessFlags := 1041 }

def heap : Heap := #[]
def classes : Array Class := #[k0, k1, k2, k3, k4, k5, k6, k7, k8]
def interned : List (Array UInt16 × Addr) := []
def slotsUsed : Nat := 0
def theMethod : MethodId := ⟨1, 2⟩
def args0 : Array Value := #[.int 12345678]
def aboutOver (below : List Frame) : State where
  vm := { classes := classes, interned := interned.toArray }
  heap := heap
  slotsUsed := slotsUsed
  threads := #[{ frames := .invoking theMethod args0 :: below }]
def below0 : List Frame := [.native { method := ⟨0, 0⟩, args := #[] }]
def about1 : State := aboutOver below0
def p0 : Program := .bare "" "" ""
def e0 : Env := launch0.env 0 0 0
theorem w_frames : about1.frames = Frame.invoking theMethod args0 :: below0 := rfl
set_option maxRecDepth 65536 in
theorem w_args : argsFit about1.vm theMethod args0 = true := by decide +kernel
set_option maxRecDepth 65536 in
theorem w_heap : heapFits about1 = true := by decide +kernel
set_option maxRecDepth 65536 in
theorem w_runnable : about1.curStatus? = some .runnable := by decide +kernel
set_option maxRecDepth 65536 in
theorem w_alone : about1.alone = true := by decide +kernel
set_option maxRecDepth 65536 in
theorem w_named : about1.methodNamed? x = some theMethod := by decide +kernel
set_option maxRecDepth 65536 in
theorem w_hears : about1.hears theMethod below0 = true := by decide +kernel
set_option maxRecDepth 65536 in
theorem w_ripe : about1.ripe theMethod args0 below0 = true := by decide +kernel
theorem w_running : about1.status = .running := rfl
set_option maxRecDepth 65536 in
theorem w_room : about1.hasRoom e0.platform room_1 = true :=
  launch0.hasRoom_least _ room_1 (by decide +kernel) (by decide +kernel) (by decide +kernel) (by decide +kernel) (by decide +kernel) (by decide +kernel)
theorem allAtoms_all (ts : List Jvm.Cond) (a : Array Jvm.Value) (st : Jvm.State) : (allAtoms ts).before a st = ts.all (fun c => c.before a st) := by
  induction ts with
  | nil => rfl
  | cons c t ih =>
    show (Jvm.Cond.and c (allAtoms t)).before a st = _
    rw [Jvm.Cond.before_and, ih, List.all_cons]
def words1 : List Jvm.Cond := Jvm.Cond.code x code maxLocals ret :: tables_1
/-- a 'code' word, met by the world's own term for the bytes: nothing is compared byte by byte -/
theorem code_word {y : MethodName} {bytes : ByteArray} {mx : Nat} {rt : Option FieldType} {a : Array Value} {s : State} {m : MethodId} {meth : Method} {c : Code} (h1 : s.methodNamed? y = some m) (h2 : s.vm.method? m = some meth) (h3 : meth.code = some c) (h4 : c.code = bytes)
    (h5 : (c.maxLocals == mx && c.exceptionTable.isEmpty && decide (c.maxStack ≤ mostOperands) && decide (meth.sig.returnType = rt) && !meth.locks && decide (parseMethodDescriptor y.desc = some meth.sig)) = true) : (Jvm.Cond.code y bytes mx rt).before a s = true := by
  simp only [Bool.and_eq_true, beq_iff_eq, Bool.not_eq_true', decide_eq_true_eq] at h5
  obtain ⟨⟨⟨⟨⟨g1, g2⟩, g3⟩, g4⟩, g5⟩, g6⟩ := h5
  simp [Cond.before, Cond.holds, Cond.value, h1, h2, h3, h4, g1, g2, g3, g4, g5, g6]
def isCode : Jvm.Cond → Bool
  | .code _ _ _ _ => true
  | _ => false
theorem all_split {L : List Jvm.Cond} {P : Jvm.Cond → Bool} (h1 : L.all (fun c => isCode c || P c) = true) (h2 : ∀ c ∈ L.filter isCode, P c = true) : L.all P = true := by
  refine List.all_eq_true.mpr fun c hc => ?_
  have h := List.all_eq_true.mp h1 c hc
  rcases Bool.eq_false_or_eq_true (isCode c) with hi | hi
  · exact h2 c (List.mem_filter.mpr ⟨hc, hi⟩)
  · simpa [hi] using h
set_option maxRecDepth 65536 in
theorem w_c0 : (Jvm.Cond.code x code maxLocals ret).before args0 about1 = true := code_word (m := ⟨1, 2⟩) (meth := k1m2) (c := k1c2) (by decide +kernel) rfl rfl rfl (by decide +kernel)
set_option maxRecDepth 65536 in
theorem w_c1 : (Jvm.Cond.code ({ cls := "com/example/ilmarinen/ilmarinen/EightBytesDigitsOfPinLaw", name := "digit", desc := "(III)J" } : Jvm.MethodName) method_2_code (5 : Nat) (Option.some Jvm.ClassFile.FieldType.long)).before args0 about1 = true := code_word (m := ⟨1, 1⟩) (meth := k1m1) (c := k1c1) (by decide +kernel) rfl rfl rfl (by decide +kernel)
set_option maxRecDepth 65536 in
theorem w_c2 : (Jvm.Cond.code ({ cls := "com/example/ilmarinen/ilmarinen/EightBytes", name := "digitsOf", desc := "(I)J" } : Jvm.MethodName) prog_16_method_7_code (9 : Nat) (Option.some Jvm.ClassFile.FieldType.long)).before args0 about1 = true := code_word (m := ⟨2, 1⟩) (meth := k2m1) (c := k2c1) (by decide +kernel) rfl rfl rfl (by decide +kernel)
def codes1 : List Jvm.Cond := [Jvm.Cond.code x code maxLocals ret, Jvm.Cond.code ({ cls := "com/example/ilmarinen/ilmarinen/EightBytesDigitsOfPinLaw", name := "digit", desc := "(III)J" } : Jvm.MethodName) method_2_code (5 : Nat) (Option.some Jvm.ClassFile.FieldType.long), Jvm.Cond.code ({ cls := "com/example/ilmarinen/ilmarinen/EightBytes", name := "digitsOf", desc := "(I)J" } : Jvm.MethodName) prog_16_method_7_code (9 : Nat) (Option.some Jvm.ClassFile.FieldType.long)]
set_option maxRecDepth 65536 in
theorem codes_eq : words1.filter isCode = codes1 := rfl
theorem w_codes : ∀ c ∈ words1.filter isCode, c.before args0 about1 = true := by
  rw [codes_eq]
  intro c hc
  simp only [codes1, List.mem_cons, List.not_mem_nil, or_false] at hc
  rcases hc with rfl | rfl | rfl
  · exact w_c0
  · exact w_c1
  · exact w_c2
set_option maxRecDepth 65536 in
theorem w_t1 : words1.all (fun c => isCode c || c.before args0 about1) = true := by decide +kernel
theorem w_tables : (allAtoms (Jvm.Cond.code x code maxLocals ret :: tables_1)).before args0 about1 = true := by
  rw [allAtoms_all]
  show words1.all (fun c => c.before args0 about1) = true
  refine all_split ?_ w_codes
  rw [w_t1]
set_option maxRecDepth 65536 in
theorem w_case : (Jvm.Cond.and given_1 narrow_1).before args0 about1 = true := by decide +kernel
theorem w_applies : (headSpec (Jvm.Cond.code x code maxLocals ret :: tables_1) room_1).applies x e0.platform about1 = true :=
  (Spec.applies_iff w_frames).mpr ⟨w_running, w_runnable, w_alone, w_named, w_hears, w_ripe, w_room, w_tables⟩
theorem atStart : AtStart classFile x code maxLocals ret World_1 tables_1 room_1 Calls_1 rest_1 Pre_1 launch0 p0 e0 about1 theMethod args0 below0 :=
  ⟨lists_1, trivial, launch0.admits_env _ _ _, launch0.least_env, fairChoices_fair.cas, fairChoices_fair.clock, w_frames, w_args, w_heap, w_applies, trivial, trivial, w_case⟩
end start1
theorem witness_1 : WitnessClaimed_1 := ⟨start1.p0, start1.e0, start1.about1, start1.theMethod, start1.args0, start1.below0, start1.atStart⟩
end Jvm.Pilot.@@N@@
