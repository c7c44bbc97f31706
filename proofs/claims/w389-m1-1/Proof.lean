import JvmDerived
import JvmDerived.Pilot.@@N@@Statement
import JvmDerived.Pilot.@@N@@Code
set_option linter.unusedVariables false
set_option linter.unusedSimpArgs false
namespace Jvm.RoadKit
open Sem ClassFile Op Lib Jvm.Stand Jvm.Free Jvm.LawKit
section New
variable {p : Program} {l : Launch} {e : Env} {R : Room} {s : State} {m : MethodId} {args : Array Value} {below : List Frame} {meth : Method} {c : Code} {T : State} {locs : List Loc} {cells slots : Nat}
theorem retI (X : Stand p l e R s m args below meth c T locs cells slots) (hx : p.tables.exec = Jvm.exec) {pc : Nat} {Ls : Array Slot} {z : Int32} {rest : List Value} (hret : meth.sig.returnType = some .int) (hd : decode c.code pc = .ok (.ireturn, 1)) {fs : List Frame}
    (hl : ∀ (f : JFrame) (acts : List Action), f.method = m → f.locked = none → f.entered = [] → (doReturn e (T.setTop f) acts (some (.int z))).1 = T.setFrames fs) : Steps p.tables e below (T.setTop (mkF m pc Ls (.int z :: rest))) (T.setFrames fs) := by
  have hm' : T.vm.method? m = some meth := X.method'
  have hn : narrow .int (.int z) = .int z := rfl
  show Steps p.tables e below (T.setTop { method := m, pc := pc, locals := Ls, stack := _ :: rest, locked := none }) _
  jvm_step X.here [X.here.top, hx, hd, hm', hret, hn]
  first | (intro acts; rw [hl _ acts rfl rfl rfl]) | rw [hl _ _ rfl rfl rfl]
  exact Steps.refl _
end New
end Jvm.RoadKit
namespace Jvm.Pilot.@@N@@.OwnW
open Jvm Jvm.ClassFile Sem Op Lib Jvm.Free Jvm.Stand Jvm.LawKit Jvm.RoadKit
section OwnBase
variable {p : Program} {l : Launch} {e : Env} {R : Room} {s : State} {m : MethodId} {args : Array Value} {below : List Frame} {meth : Method} {c : Code} {Z : State} {own nm : String} {bs : ByteArray} {ml : Nat} {rt : Option FieldType} {n0 : Nat} {Q : Option Value → Heap → Prop} {h : Heap} {cells slots pc : Nat} {L : Array Slot} {st : List Value} {a0 : Array Value}
/-- what is known throughout a body's walk -/
def Ctx (p : Program) (l : Launch) (e : Env) (R : Room) (s : State) (m : MethodId) (args : Array Value) (below : List Frame) (meth : Method) (c : Code) (Z : State) (own nm : String) (bs : ByteArray) (ml : Nat) (rt : Option FieldType) : Prop :=
  p.tables.exec = Jvm.exec ∧ c.code = bs ∧ Z.Warmed39 s.vm ∧ s.vm.findClass own = some m.cls ∧ c.maxLocals = ml ∧ meth.sig.returnType = rt ∧ meth.locks = false ∧ meth.name = nm
/-- from here the body comes to its end, and Q holds there -/
def Go (p : Program) (l : Launch) (e : Env) (R : Room) (s : State) (m : MethodId) (args : Array Value) (below : List Frame) (meth : Method) (c : Code) (n0 : Nat) (Q : Option Value → Heap → Prop) (h : Heap) (cells slots pc : Nat) (L : Array Slot) (st : List Value) : Prop :=
  ∀ (T : State) (locs : List Loc), Stand p l e R s m args below meth c T locs cells slots → T.heap = h → Fr n0 locs →
    ∃ (s2 : State) (v : Option Value) (L' : List Loc), Steps p.tables e below (T.setTop (mkF m pc L st)) s2 ∧ s2.status = .running ∧ Ended s2 below (.returned v) ∧ Q v s2.heap ∧ Fr n0 L' ∧ s.WarmedH s2.vm ∧ s.sameButNew ({ s2 with vm := s.vm } : State) L' R.cells R.slots
/-- the contract of a body at given arguments and a given heap -/
def Met (l : Launch) (Z : State) (y : MethodName) (bs : ByteArray) (ml : Nat) (rt : Option FieldType) (rm : Room) (as : Array Value) (h0 : Heap) (n0 : Nat) (Q : Option Value → Heap → Prop) : Prop :=
  ∀ ws : List Jvm.Cond, MetFree l y (head1 (Jvm.Cond.code y bs ml rt :: ws) rm) (fun a U => a = as ∧ Z.Warmed39 U.vm ∧ U.heap = h0) (fun _ _ _ _ _ => True) (fun _ U o U' => ∃ v L, o = .returned v ∧ (Q v U'.heap ∧ Fr n0 L) ∧ FrameEnd U o U' L rm.cells rm.slots)
def qI (P : Int32 → Heap → Prop) : Option Value → Heap → Prop := fun v h => ∃ r, v = some (.int r) ∧ P r h
def qJ (P : Int64 → Heap → Prop) : Option Value → Heap → Prop := fun v h => ∃ r, v = some (.long r) ∧ P r h
def qA (P : Addr → Heap → Prop) : Option Value → Heap → Prop := fun v h => ∃ r, v = some (.ref r) ∧ P r h
def qV (P : Heap → Prop) : Option Value → Heap → Prop := fun v h => v = none ∧ P h
theorem met {y : MethodName} {rm : Room} {as : Array Value} {h0 : Heap} (hpf : plainFor y = true) (L0 : Array Slot) (hE : ∀ m, entryFrame m as ml = mkF m 0 L0 [])
    (body : ∀ (p : Program) (e : Env) (s : State) (m : MethodId) (below : List Frame) (meth : Method) (c : Code), Ctx p l e rm s m as below meth c Z y.cls y.name bs ml rt → Go p l e rm s m as below meth c n0 Q h0 0 0 0 L0 []) : Met l Z y bs ml rt rm as h0 n0 Q := by
  intro ws
  refine MetFree.of_bodySF hpf hisR ?_
  intro p e s m args below meth c s1 Bd hml0 hP hK
  obtain ⟨rfl, hZ, hh⟩ := hP
  have e0 : s1.heap = h0 := by rw [← hh, Bd.state]; rfl
  obtain ⟨s2, v, L', a, b, d, q, fr, w, sm⟩ := body p e s m below meth c ⟨Bd.exec, Bd.bytes, hZ, findClass_of_methodNamed Bd.named, hml0, Bd.returns, Bd.notSynchronized, (name_of_methodNamed Bd.named Bd.method).1⟩ s1 [] (Stand.of_body Bd) e0 (Fr.nil n0)
  exact ⟨s2, _, castTop (hE m) a, b, d, v, L', rfl, ⟨q, fr⟩, ⟨v, rfl⟩, w, sm⟩
theorem step {pc' : Nat} {L' : Array Slot} {st' : List Value}
    (k : ∀ (T : State) (locs : List Loc), Stand p l e R s m args below meth c T locs cells slots → T.heap = h → ∀ t, Steps p.tables e below (T.setTop (mkF m pc' L' st')) t → Steps p.tables e below (T.setTop (mkF m pc L st)) t)
    (g : Go p l e R s m args below meth c n0 Q h cells slots pc' L' st') : Go p l e R s m args below meth c n0 Q h cells slots pc L st := fun T locs X eh N => by
  obtain ⟨s2, v, L', a, b⟩ := g T locs X eh N
  exact ⟨s2, v, L', k T locs X eh _ a, b⟩
def ush (x y : Int32) : Int32 := (x.toUInt32 >>> (y &&& 31).toUInt32).toInt32
def ushL (x : Int64) (y : Int32) : Int64 := (x.toUInt64 >>> (y &&& 0x3f).toInt64.toUInt64).toInt64
def shlL (x : Int64) (y : Int32) : Int64 := x <<< (y &&& 0x3f).toInt64
theorem g_iadd (C : Ctx p l e R s m args below meth c Z own nm bs ml rt) {x y : Int32} (hd : decode bs pc = .ok (.iadd, 1)) (pc' : Nat) (hp : pc' = pc + 1) (g : Go p l e R s m args below meth c n0 Q h cells slots pc' L (.int (x + y) :: st)) : Go p l e R s m args below meth c n0 Q h cells slots pc L (.int y :: .int x :: st) := by
  subst hp
  exact step (fun T locs X _ t k => XS.iadd X.here C.1 rfl (hb C.2.1 hd) rfl k) g
theorem g_isub (C : Ctx p l e R s m args below meth c Z own nm bs ml rt) {x y : Int32} (hd : decode bs pc = .ok (.isub, 1)) (pc' : Nat) (hp : pc' = pc + 1) (g : Go p l e R s m args below meth c n0 Q h cells slots pc' L (.int (x - y) :: st)) : Go p l e R s m args below meth c n0 Q h cells slots pc L (.int y :: .int x :: st) := by
  subst hp
  exact step (fun T locs X _ t k => XS.isub X.here C.1 rfl (hb C.2.1 hd) rfl k) g
theorem g_imul (C : Ctx p l e R s m args below meth c Z own nm bs ml rt) {x y : Int32} (hd : decode bs pc = .ok (.imul, 1)) (pc' : Nat) (hp : pc' = pc + 1) (g : Go p l e R s m args below meth c n0 Q h cells slots pc' L (.int (x * y) :: st)) : Go p l e R s m args below meth c n0 Q h cells slots pc L (.int y :: .int x :: st) := by
  subst hp
  exact step (fun T locs X _ t k => XS.imul X.here C.1 rfl (hb C.2.1 hd) rfl k) g
theorem g_iand (C : Ctx p l e R s m args below meth c Z own nm bs ml rt) {x y : Int32} (hd : decode bs pc = .ok (.iand, 1)) (pc' : Nat) (hp : pc' = pc + 1) (g : Go p l e R s m args below meth c n0 Q h cells slots pc' L (.int (x &&& y) :: st)) : Go p l e R s m args below meth c n0 Q h cells slots pc L (.int y :: .int x :: st) := by
  subst hp
  exact step (fun T locs X _ t k => XS.iand X.here C.1 rfl (hb C.2.1 hd) rfl k) g
theorem g_ior (C : Ctx p l e R s m args below meth c Z own nm bs ml rt) {x y : Int32} (hd : decode bs pc = .ok (.ior, 1)) (pc' : Nat) (hp : pc' = pc + 1) (g : Go p l e R s m args below meth c n0 Q h cells slots pc' L (.int (x ||| y) :: st)) : Go p l e R s m args below meth c n0 Q h cells slots pc L (.int y :: .int x :: st) := by
  subst hp
  exact step (fun T locs X _ t k => XS.ior X.here C.1 rfl (hb C.2.1 hd) rfl k) g
theorem g_ixor (C : Ctx p l e R s m args below meth c Z own nm bs ml rt) {x y : Int32} (hd : decode bs pc = .ok (.ixor, 1)) (pc' : Nat) (hp : pc' = pc + 1) (g : Go p l e R s m args below meth c n0 Q h cells slots pc' L (.int (x ^^^ y) :: st)) : Go p l e R s m args below meth c n0 Q h cells slots pc L (.int y :: .int x :: st) := by
  subst hp
  exact step (fun T locs X _ t k => XS.ixor X.here C.1 rfl (hb C.2.1 hd) rfl k) g
theorem g_ishl (C : Ctx p l e R s m args below meth c Z own nm bs ml rt) {x y : Int32} (hd : decode bs pc = .ok (.ishl, 1)) (pc' : Nat) (hp : pc' = pc + 1) (g : Go p l e R s m args below meth c n0 Q h cells slots pc' L (.int (x <<< (y &&& 31)) :: st)) : Go p l e R s m args below meth c n0 Q h cells slots pc L (.int y :: .int x :: st) := by
  subst hp
  exact step (fun T locs X _ t k => XS.ishl X.here C.1 rfl (hb C.2.1 hd) rfl k) g
theorem g_ishr (C : Ctx p l e R s m args below meth c Z own nm bs ml rt) {x y : Int32} (hd : decode bs pc = .ok (.ishr, 1)) (pc' : Nat) (hp : pc' = pc + 1) (g : Go p l e R s m args below meth c n0 Q h cells slots pc' L (.int (x >>> (y &&& 31)) :: st)) : Go p l e R s m args below meth c n0 Q h cells slots pc L (.int y :: .int x :: st) := by
  subst hp
  exact step (fun T locs X _ t k => XS.ishr X.here C.1 rfl (hb C.2.1 hd) rfl k) g
theorem g_iushr (C : Ctx p l e R s m args below meth c Z own nm bs ml rt) {x y : Int32} (hd : decode bs pc = .ok (.iushr, 1)) (pc' : Nat) (hp : pc' = pc + 1) (g : Go p l e R s m args below meth c n0 Q h cells slots pc' L (.int (ush x y) :: st)) : Go p l e R s m args below meth c n0 Q h cells slots pc L (.int y :: .int x :: st) := by
  subst hp
  exact step (fun T locs X _ t k => XS.iushr X.here C.1 rfl (hb C.2.1 hd) rfl k) g
theorem g_ladd (C : Ctx p l e R s m args below meth c Z own nm bs ml rt) {x y : Int64} (hd : decode bs pc = .ok (.ladd, 1)) (pc' : Nat) (hp : pc' = pc + 1) (g : Go p l e R s m args below meth c n0 Q h cells slots pc' L (.long (x + y) :: st)) : Go p l e R s m args below meth c n0 Q h cells slots pc L (.long y :: .long x :: st) := by
  subst hp
  exact step (fun T locs X _ t k => XS.ladd X.here C.1 rfl (hb C.2.1 hd) rfl k) g
theorem g_lsub (C : Ctx p l e R s m args below meth c Z own nm bs ml rt) {x y : Int64} (hd : decode bs pc = .ok (.lsub, 1)) (pc' : Nat) (hp : pc' = pc + 1) (g : Go p l e R s m args below meth c n0 Q h cells slots pc' L (.long (x - y) :: st)) : Go p l e R s m args below meth c n0 Q h cells slots pc L (.long y :: .long x :: st) := by
  subst hp
  exact step (fun T locs X _ t k => XS.lsub X.here C.1 rfl (hb C.2.1 hd) rfl k) g
theorem g_lmul (C : Ctx p l e R s m args below meth c Z own nm bs ml rt) {x y : Int64} (hd : decode bs pc = .ok (.lmul, 1)) (pc' : Nat) (hp : pc' = pc + 1) (g : Go p l e R s m args below meth c n0 Q h cells slots pc' L (.long (x * y) :: st)) : Go p l e R s m args below meth c n0 Q h cells slots pc L (.long y :: .long x :: st) := by
  subst hp
  exact step (fun T locs X _ t k => XS.lmul X.here C.1 rfl (hb C.2.1 hd) rfl k) g
theorem g_land (C : Ctx p l e R s m args below meth c Z own nm bs ml rt) {x y : Int64} (hd : decode bs pc = .ok (.land, 1)) (pc' : Nat) (hp : pc' = pc + 1) (g : Go p l e R s m args below meth c n0 Q h cells slots pc' L (.long (x &&& y) :: st)) : Go p l e R s m args below meth c n0 Q h cells slots pc L (.long y :: .long x :: st) := by
  subst hp
  exact step (fun T locs X _ t k => XS.land X.here C.1 rfl (hb C.2.1 hd) rfl k) g
theorem g_lor (C : Ctx p l e R s m args below meth c Z own nm bs ml rt) {x y : Int64} (hd : decode bs pc = .ok (.lor, 1)) (pc' : Nat) (hp : pc' = pc + 1) (g : Go p l e R s m args below meth c n0 Q h cells slots pc' L (.long (x ||| y) :: st)) : Go p l e R s m args below meth c n0 Q h cells slots pc L (.long y :: .long x :: st) := by
  subst hp
  exact step (fun T locs X _ t k => XS.lor X.here C.1 rfl (hb C.2.1 hd) rfl k) g
theorem g_lxor (C : Ctx p l e R s m args below meth c Z own nm bs ml rt) {x y : Int64} (hd : decode bs pc = .ok (.lxor, 1)) (pc' : Nat) (hp : pc' = pc + 1) (g : Go p l e R s m args below meth c n0 Q h cells slots pc' L (.long (x ^^^ y) :: st)) : Go p l e R s m args below meth c n0 Q h cells slots pc L (.long y :: .long x :: st) := by
  subst hp
  exact step (fun T locs X _ t k => XS.lxor X.here C.1 rfl (hb C.2.1 hd) rfl k) g
theorem g_lshl (C : Ctx p l e R s m args below meth c Z own nm bs ml rt) {x : Int64} {y : Int32} (hd : decode bs pc = .ok (.lshl, 1)) (pc' : Nat) (hp : pc' = pc + 1) (g : Go p l e R s m args below meth c n0 Q h cells slots pc' L (.long (shlL x y) :: st)) : Go p l e R s m args below meth c n0 Q h cells slots pc L (.int y :: .long x :: st) := by
  subst hp
  exact step (fun T locs X _ t k => XS.lshl X.here C.1 rfl (hb C.2.1 hd) rfl k) g
theorem g_lushr (C : Ctx p l e R s m args below meth c Z own nm bs ml rt) {x : Int64} {y : Int32} (hd : decode bs pc = .ok (.lushr, 1)) (pc' : Nat) (hp : pc' = pc + 1) (g : Go p l e R s m args below meth c n0 Q h cells slots pc' L (.long (ushL x y) :: st)) : Go p l e R s m args below meth c n0 Q h cells slots pc L (.int y :: .long x :: st) := by
  subst hp
  exact step (fun T locs X _ t k => XS.lushr X.here C.1 rfl (hb C.2.1 hd) rfl k) g
theorem g_i2l (C : Ctx p l e R s m args below meth c Z own nm bs ml rt) {x : Int32} (hd : decode bs pc = .ok (.i2l, 1)) (pc' : Nat) (hp : pc' = pc + 1) (g : Go p l e R s m args below meth c n0 Q h cells slots pc' L (.long x.toInt64 :: st)) : Go p l e R s m args below meth c n0 Q h cells slots pc L (.int x :: st) := by
  subst hp
  exact step (fun T locs X _ t k => XS.i2l X.here C.1 rfl (hb C.2.1 hd) rfl k) g
theorem g_i2b (C : Ctx p l e R s m args below meth c Z own nm bs ml rt) {x : Int32} (hd : decode bs pc = .ok (.i2b, 1)) (pc' : Nat) (hp : pc' = pc + 1) (g : Go p l e R s m args below meth c n0 Q h cells slots pc' L (.int x.toInt8.toInt32 :: st)) : Go p l e R s m args below meth c n0 Q h cells slots pc L (.int x :: st) := by
  subst hp
  exact step (fun T locs X _ t k => XS.i2b X.here C.1 rfl (hb C.2.1 hd) rfl k) g
theorem g_i2c (C : Ctx p l e R s m args below meth c Z own nm bs ml rt) {x : Int32} (hd : decode bs pc = .ok (.i2c, 1)) (pc' : Nat) (hp : pc' = pc + 1) (g : Go p l e R s m args below meth c n0 Q h cells slots pc' L (.int x.toUInt32.toUInt16.toUInt32.toInt32 :: st)) : Go p l e R s m args below meth c n0 Q h cells slots pc L (.int x :: st) := by
  subst hp
  exact step (fun T locs X _ t k => XS.i2c X.here C.1 rfl (hb C.2.1 hd) rfl k) g
theorem g_l2i (C : Ctx p l e R s m args below meth c Z own nm bs ml rt) {x : Int64} (hd : decode bs pc = .ok (.l2i, 1)) (pc' : Nat) (hp : pc' = pc + 1) (g : Go p l e R s m args below meth c n0 Q h cells slots pc' L (.int x.toInt32 :: st)) : Go p l e R s m args below meth c n0 Q h cells slots pc L (.long x :: st) := by
  subst hp
  exact step (fun T locs X _ t k => XS.l2i X.here C.1 rfl (hb C.2.1 hd) rfl k) g
theorem g_lneg (C : Ctx p l e R s m args below meth c Z own nm bs ml rt) {x : Int64} (hd : decode bs pc = .ok (.lneg, 1)) (pc' : Nat) (hp : pc' = pc + 1) (g : Go p l e R s m args below meth c n0 Q h cells slots pc' L (.long (-x) :: st)) : Go p l e R s m args below meth c n0 Q h cells slots pc L (.long x :: st) := by
  subst hp
  exact step (fun T locs X _ t k => XS.lneg X.here C.1 rfl (hb C.2.1 hd) rfl k) g
theorem g_irem (C : Ctx p l e R s m args below meth c Z own nm bs ml rt) {x y : Int32} (hd : decode bs pc = .ok (.irem, 1)) (pc' : Nat) (hp : pc' = pc + 1) (hy : y ≠ 0) (g : Go p l e R s m args below meth c n0 Q h cells slots pc' L (.int (x % y) :: st)) : Go p l e R s m args below meth c n0 Q h cells slots pc L (.int y :: .int x :: st) := by
  subst hp
  exact step (fun T locs X _ t k => iremM X C.1 rfl (hb C.2.1 hd) rfl hy k) g
theorem g_iconst (C : Ctx p l e R s m args below meth c Z own nm bs ml rt) {i : Int} (hd : decode bs pc = .ok (.iconst i, 1)) (pc' : Nat) (hp : pc' = pc + 1) (z : Int32) (hz : Int32.ofInt i = z) (g : Go p l e R s m args below meth c n0 Q h cells slots pc' L (.int z :: st)) : Go p l e R s m args below meth c n0 Q h cells slots pc L st := by
  subst hp hz
  exact step (fun T locs X _ t k => XS.iconst X.here C.1 rfl (hb C.2.1 hd) k) g
theorem g_bipush (C : Ctx p l e R s m args below meth c Z own nm bs ml rt) {i : Int} (hd : decode bs pc = .ok (.bipush i, 2)) (pc' : Nat) (hp : pc' = pc + 2) (z : Int32) (hz : (Int8.ofInt i).toInt32 = z) (g : Go p l e R s m args below meth c n0 Q h cells slots pc' L (.int z :: st)) : Go p l e R s m args below meth c n0 Q h cells slots pc L st := by
  subst hp hz
  exact step (fun T locs X _ t k => XS.bipush X.here C.1 rfl (hb C.2.1 hd) k) g
theorem g_sipush (C : Ctx p l e R s m args below meth c Z own nm bs ml rt) {i : Int} (hd : decode bs pc = .ok (.sipush i, 3)) (pc' : Nat) (hp : pc' = pc + 3) (z : Int32) (hz : (Int16.ofInt i).toInt32 = z) (g : Go p l e R s m args below meth c n0 Q h cells slots pc' L (.int z :: st)) : Go p l e R s m args below meth c n0 Q h cells slots pc L st := by
  subst hp hz
  exact step (fun T locs X _ t k => XS.sipush X.here C.1 rfl (hb C.2.1 hd) k) g
theorem g_lconst (C : Ctx p l e R s m args below meth c Z own nm bs ml rt) {i : Fin 2} (hd : decode bs pc = .ok (.lconst i, 1)) (pc' : Nat) (hp : pc' = pc + 1) (z : Int64) (hz : Int64.ofNat i = z) (g : Go p l e R s m args below meth c n0 Q h cells slots pc' L (.long z :: st)) : Go p l e R s m args below meth c n0 Q h cells slots pc L st := by
  subst hp hz
  exact step (fun T locs X _ t k => XS.lconst X.here C.1 rfl (hb C.2.1 hd) k) g
theorem g_aconst_null (C : Ctx p l e R s m args below meth c Z own nm bs ml rt)  (hd : decode bs pc = .ok (.aconst_null, 1)) (pc' : Nat) (hp : pc' = pc + 1) (g : Go p l e R s m args below meth c n0 Q h cells slots pc' L (.null :: st)) : Go p l e R s m args below meth c n0 Q h cells slots pc L st := by
  subst hp
  exact step (fun T locs X _ t k => XS.aconstNull X.here C.1 rfl (hb C.2.1 hd)  k) g
theorem g_ldc (C : Ctx p l e R s m args below meth c Z own nm bs ml rt) {i : Nat} {z : Int32} (w : (Jvm.Cond.constant own i z).before a0 Z = true) (hd : decode bs pc = .ok (.ldc i, 2)) (pc' : Nat) (hp : pc' = pc + 2) (g : Go p l e R s m args below meth c n0 Q h cells slots pc' L (.int z :: st)) : Go p l e R s m args below meth c n0 Q h cells slots pc L st := by
  subst hp
  exact step (fun T locs X _ t k => X.ldcInt C.1 C.2.2.2.1 (mvT C.2.2.1 w) (g := mkF m pc L st) rfl (hb C.2.1 hd) _ k) g
theorem g_ldc2_w (C : Ctx p l e R s m args below meth c Z own nm bs ml rt) {i : Nat} {z : Int64} (w : (Jvm.Cond.constantLong own i z).before a0 Z = true) (hd : decode bs pc = .ok (.ldc2_w i, 3)) (pc' : Nat) (hp : pc' = pc + 3) (g : Go p l e R s m args below meth c n0 Q h cells slots pc' L (.long z :: st)) : Go p l e R s m args below meth c n0 Q h cells slots pc L st := by
  subst hp
  exact step (fun T locs X _ t k => X.ldc2Long C.1 C.2.2.2.1 (mvT C.2.2.1 w) (g := mkF m pc L st) rfl (hb C.2.1 hd) _ k) g
theorem g_iload (C : Ctx p l e R s m args below meth c Z own nm bs ml rt) {k : Nat} {v : Int32} (hd : decode bs pc = .ok (.iload k, 2)) (pc' : Nat) (hp : pc' = pc + 2) (hl : L[k]? = some (.val (.int v))) (g : Go p l e R s m args below meth c n0 Q h cells slots pc' L (.int v :: st)) : Go p l e R s m args below meth c n0 Q h cells slots pc L st := by
  subst hp
  exact step (fun T locs X _ t k => XS.iload X.here C.1 rfl (hb C.2.1 hd) hl k) g
theorem g_iloadN (C : Ctx p l e R s m args below meth c Z own nm bs ml rt) {k : Fin 4} {v : Int32} (hd : decode bs pc = .ok (.iload_n k, 1)) (pc' : Nat) (hp : pc' = pc + 1) (hl : L[k.val]? = some (.val (.int v))) (g : Go p l e R s m args below meth c n0 Q h cells slots pc' L (.int v :: st)) : Go p l e R s m args below meth c n0 Q h cells slots pc L st := by
  subst hp
  exact step (fun T locs X _ t k => XS.iloadN X.here C.1 rfl (hb C.2.1 hd) hl k) g
theorem g_lload (C : Ctx p l e R s m args below meth c Z own nm bs ml rt) {k : Nat} {v : Int64} (hd : decode bs pc = .ok (.lload k, 2)) (pc' : Nat) (hp : pc' = pc + 2) (hl : L[k]? = some (.val (.long v))) (g : Go p l e R s m args below meth c n0 Q h cells slots pc' L (.long v :: st)) : Go p l e R s m args below meth c n0 Q h cells slots pc L st := by
  subst hp
  exact step (fun T locs X _ t k => XS.lload X.here C.1 rfl (hb C.2.1 hd) hl k) g
theorem g_lloadN (C : Ctx p l e R s m args below meth c Z own nm bs ml rt) {k : Fin 4} {v : Int64} (hd : decode bs pc = .ok (.lload_n k, 1)) (pc' : Nat) (hp : pc' = pc + 1) (hl : L[k.val]? = some (.val (.long v))) (g : Go p l e R s m args below meth c n0 Q h cells slots pc' L (.long v :: st)) : Go p l e R s m args below meth c n0 Q h cells slots pc L st := by
  subst hp
  exact step (fun T locs X _ t k => XS.lloadN X.here C.1 rfl (hb C.2.1 hd) hl k) g
theorem g_aload (C : Ctx p l e R s m args below meth c Z own nm bs ml rt) {k : Nat} {v : Value} (hd : decode bs pc = .ok (.aload k, 2)) (pc' : Nat) (hp : pc' = pc + 2) (hl : L[k]? = some (.val (v))) (hv : v.isRef = true) (g : Go p l e R s m args below meth c n0 Q h cells slots pc' L (v :: st)) : Go p l e R s m args below meth c n0 Q h cells slots pc L st := by
  subst hp
  exact step (fun T locs X _ t k => XS.aload X.here C.1 rfl (hb C.2.1 hd) hl hv k) g
theorem g_aloadN (C : Ctx p l e R s m args below meth c Z own nm bs ml rt) {k : Fin 4} {v : Value} (hd : decode bs pc = .ok (.aload_n k, 1)) (pc' : Nat) (hp : pc' = pc + 1) (hl : L[k.val]? = some (.val (v))) (hv : v.isRef = true) (g : Go p l e R s m args below meth c n0 Q h cells slots pc' L (v :: st)) : Go p l e R s m args below meth c n0 Q h cells slots pc L st := by
  subst hp
  exact step (fun T locs X _ t k => XS.aloadN X.here C.1 rfl (hb C.2.1 hd) hl hv k) g
theorem g_istore (C : Ctx p l e R s m args below meth c Z own nm bs ml rt) {k : Nat} {x : Int32} (hd : decode bs pc = .ok (.istore k, 2)) (pc' : Nat) (hp : pc' = pc + 2) (l' : Int32 → Array Slot) (hl : ∀ z, storeLocals L k (.int z) = some (l' z)) (g : ∀ z, z = x → Go p l e R s m args below meth c n0 Q h cells slots pc' (l' z) st) : Go p l e R s m args below meth c n0 Q h cells slots pc L (.int x :: st) := by
  subst hp
  exact step (fun T locs X _ t k => XS.istore X.here C.1 rfl (hb C.2.1 hd) rfl (hl x) k) (g x rfl)
theorem g_istoreN (C : Ctx p l e R s m args below meth c Z own nm bs ml rt) {k : Fin 4} {x : Int32} (hd : decode bs pc = .ok (.istore_n k, 1)) (pc' : Nat) (hp : pc' = pc + 1) (l' : Int32 → Array Slot) (hl : ∀ z, storeLocals L k.val (.int z) = some (l' z)) (g : ∀ z, z = x → Go p l e R s m args below meth c n0 Q h cells slots pc' (l' z) st) : Go p l e R s m args below meth c n0 Q h cells slots pc L (.int x :: st) := by
  subst hp
  exact step (fun T locs X _ t k => XS.istoreN X.here C.1 rfl (hb C.2.1 hd) rfl (hl x) k) (g x rfl)
theorem g_lstore (C : Ctx p l e R s m args below meth c Z own nm bs ml rt) {k : Nat} {x : Int64} (hd : decode bs pc = .ok (.lstore k, 2)) (pc' : Nat) (hp : pc' = pc + 2) (l' : Int64 → Array Slot) (hl : ∀ z, storeLocals L k (.long z) = some (l' z)) (g : ∀ z, z = x → Go p l e R s m args below meth c n0 Q h cells slots pc' (l' z) st) : Go p l e R s m args below meth c n0 Q h cells slots pc L (.long x :: st) := by
  subst hp
  exact step (fun T locs X _ t k => XS.lstore X.here C.1 rfl (hb C.2.1 hd) rfl (hl x) k) (g x rfl)
theorem g_lstoreN (C : Ctx p l e R s m args below meth c Z own nm bs ml rt) {k : Fin 4} {x : Int64} (hd : decode bs pc = .ok (.lstore_n k, 1)) (pc' : Nat) (hp : pc' = pc + 1) (l' : Int64 → Array Slot) (hl : ∀ z, storeLocals L k.val (.long z) = some (l' z)) (g : ∀ z, z = x → Go p l e R s m args below meth c n0 Q h cells slots pc' (l' z) st) : Go p l e R s m args below meth c n0 Q h cells slots pc L (.long x :: st) := by
  subst hp
  exact step (fun T locs X _ t k => XS.lstoreN X.here C.1 rfl (hb C.2.1 hd) rfl (hl x) k) (g x rfl)
theorem g_astore (C : Ctx p l e R s m args below meth c Z own nm bs ml rt) {k : Nat} {x : Value} (hd : decode bs pc = .ok (.astore k, 2)) (pc' : Nat) (hp : pc' = pc + 2) (l' : Array Slot) (hl : storeLocals L k x = some l') (hv : x.isRef = true) (g : Go p l e R s m args below meth c n0 Q h cells slots pc' l' st) : Go p l e R s m args below meth c n0 Q h cells slots pc L (x :: st) := by
  subst hp
  exact step (fun T locs X _ t k => XS.astore X.here C.1 rfl (hb C.2.1 hd) rfl hv hl k) g
theorem g_astoreN (C : Ctx p l e R s m args below meth c Z own nm bs ml rt) {k : Fin 4} {x : Value} (hd : decode bs pc = .ok (.astore_n k, 1)) (pc' : Nat) (hp : pc' = pc + 1) (l' : Array Slot) (hl : storeLocals L k.val x = some l') (hv : x.isRef = true) (g : Go p l e R s m args below meth c n0 Q h cells slots pc' l' st) : Go p l e R s m args below meth c n0 Q h cells slots pc L (x :: st) := by
  subst hp
  exact step (fun T locs X _ t k => XS.astoreN X.here C.1 rfl (hb C.2.1 hd) rfl hv hl k) g
theorem g_iinc (C : Ctx p l e R s m args below meth c Z own nm bs ml rt) {k : Nat} {i : Int} {x : Int32} (hd : decode bs pc = .ok (.iinc k i, 3)) (pc' : Nat) (hp : pc' = pc + 3) (hl0 : L[k]? = some (.val (.int x))) (d : Int32) (hz : Int32.ofInt i = d) (l' : Int32 → Array Slot) (hl : ∀ z, storeLocals L k (.int z) = some (l' z)) (g : ∀ z, z = x + d → Go p l e R s m args below meth c n0 Q h cells slots pc' (l' z) st) : Go p l e R s m args below meth c n0 Q h cells slots pc L st := by
  subst hp hz
  exact step (fun T locs X _ t k => XS.iinc X.here C.1 rfl (hb C.2.1 hd) hl0 (hl _) k) (g _ rfl)
theorem g_dup (C : Ctx p l e R s m args below meth c Z own nm bs ml rt) {x : Value} (hd : decode bs pc = .ok (.dup, 1)) (pc' : Nat) (hp : pc' = pc + 1) (hc : x.category = 1) (g : Go p l e R s m args below meth c n0 Q h cells slots pc' L (x :: x :: st)) : Go p l e R s m args below meth c n0 Q h cells slots pc L (x :: st) := by
  subst hp
  exact step (fun T locs X _ t k => XS.dup X.here C.1 rfl (hb C.2.1 hd) rfl hc k) g
theorem g_pop (C : Ctx p l e R s m args below meth c Z own nm bs ml rt) {x : Value} (hd : decode bs pc = .ok (.pop, 1)) (pc' : Nat) (hp : pc' = pc + 1) (hc : x.category = 1) (g : Go p l e R s m args below meth c n0 Q h cells slots pc' L st) : Go p l e R s m args below meth c n0 Q h cells slots pc L (x :: st) := by
  subst hp
  exact step (fun T locs X _ t k => XS.pop X.here C.1 rfl (hb C.2.1 hd) rfl hc k) g
theorem g_dup2 (C : Ctx p l e R s m args below meth c Z own nm bs ml rt) {x y : Value} (hd : decode bs pc = .ok (.dup2, 1)) (pc' : Nat) (hp : pc' = pc + 1) (hc : x.category = 1) (hc2 : y.category = 1) (g : Go p l e R s m args below meth c n0 Q h cells slots pc' L (x :: y :: x :: y :: st)) : Go p l e R s m args below meth c n0 Q h cells slots pc L (x :: y :: st) := by
  subst hp
  exact step (fun T locs X _ t k => XT.dup2 X.here C.1 rfl (hb C.2.1 hd) rfl hc hc2 k) g
theorem g_goto (C : Ctx p l e R s m args below meth c Z own nm bs ml rt) {o : Int} (hd : decode bs pc = .ok (.goto o, 3)) (pc' : Nat) (hp : 0 ≤ (pc : Int) + o ∧ ((pc : Int) + o).toNat = pc') (g : Go p l e R s m args below meth c n0 Q h cells slots pc' L st) : Go p l e R s m args below meth c n0 Q h cells slots pc L st :=
  step (fun T locs X _ t k => XS.goto X.here C.1 rfl (pc0 := pc) (pc' := pc') rfl (hb C.2.1 hd) hp.1 hp.2 k) g
theorem g_if_icmpeq (C : Ctx p l e R s m args below meth c Z own nm bs ml rt) {x y : Int32} {o : Int} (hd : decode bs pc = .ok (.if_icmp .eq o, 3)) (pc1 : Nat) (h1 : 0 ≤ ((pc : Nat) : Int) + o ∧ (((pc : Nat) : Int) + o).toNat = pc1) (pc2 : Nat) (h2 : pc2 = pc + 3) (g1 : (x = y) → Go p l e R s m args below meth c n0 Q h cells slots pc1 L st) (g2 : (¬ x = y) → Go p l e R s m args below meth c n0 Q h cells slots pc2 L st) : Go p l e R s m args below meth c n0 Q h cells slots pc L (.int y :: .int x :: st) := by
  subst h2
  by_cases q : x = y
  · exact step (fun T locs X _ t k => XS.icmpYes X.here C.1 rfl (pc0 := pc) (pc' := pc1) rfl (hb C.2.1 hd) rfl (teq q).1 h1.1 h1.2 k) (g1 q)
  · exact step (fun T locs X _ t k => XS.icmpNo X.here C.1 rfl (hb C.2.1 hd) rfl (feq q).1 k) (g2 q)
theorem g_ifeq (C : Ctx p l e R s m args below meth c Z own nm bs ml rt) {x : Int32} {o : Int} (hd : decode bs pc = .ok (.ifCond .eq o, 3)) (pc1 : Nat) (h1 : 0 ≤ ((pc : Nat) : Int) + o ∧ (((pc : Nat) : Int) + o).toNat = pc1) (pc2 : Nat) (h2 : pc2 = pc + 3) (g1 : (x = (0 : Int32)) → Go p l e R s m args below meth c n0 Q h cells slots pc1 L st) (g2 : (¬ x = (0 : Int32)) → Go p l e R s m args below meth c n0 Q h cells slots pc2 L st) : Go p l e R s m args below meth c n0 Q h cells slots pc L (.int x :: st) := by
  subst h2
  by_cases q : x = (0 : Int32)
  · exact step (fun T locs X _ t k => XS.ifYes X.here C.1 rfl (pc0 := pc) (pc' := pc1) rfl (hb C.2.1 hd) rfl ((if0 _ _).trans (teq q).1) h1.1 h1.2 k) (g1 q)
  · exact step (fun T locs X _ t k => XS.ifNo X.here C.1 rfl (hb C.2.1 hd) rfl ((if0 _ _).trans (feq q).1) k) (g2 q)
theorem g_lcmpeq (C : Ctx p l e R s m args below meth c Z own nm bs ml rt) {x y : Int64} {o : Int} (hd0 : decode bs pc = .ok (.lcmp, 1)) (pcm : Nat) (hm : pcm = pc + 1) (hd : decode bs pcm = .ok (.ifCond .eq o, 3)) (pc1 : Nat) (h1 : 0 ≤ ((pcm : Nat) : Int) + o ∧ (((pcm : Nat) : Int) + o).toNat = pc1) (pc2 : Nat) (h2 : pc2 = pcm + 3) (g1 : (x = y) → Go p l e R s m args below meth c n0 Q h cells slots pc1 L st) (g2 : (¬ x = y) → Go p l e R s m args below meth c n0 Q h cells slots pc2 L st) : Go p l e R s m args below meth c n0 Q h cells slots pc L (.long y :: .long x :: st) := by
  subst hm
  have hw : ∀ (T : State) (locs : List Loc), Stand p l e R s m args below meth c T locs cells slots → ∀ t, Steps p.tables e below (T.setTop (mkF m (pc + 1) L (.int (lcmpW x y) :: st))) t → Steps p.tables e below (T.setTop (mkF m pc L (.long y :: .long x :: st))) t := fun T locs X t k => XS.lcmp X.here C.1 rfl (hb C.2.1 hd0) rfl k
  subst h2
  by_cases q : x = y
  · exact step (fun T locs X _ t k => hw T locs X t (XS.ifYes X.here C.1 rfl (pc0 := pc + 1) (pc' := pc1) rfl (hb C.2.1 hd) rfl ((if0 _ _).trans (teq ((lw_eq x y).mpr q)).1) h1.1 h1.2 k)) (g1 q)
  · exact step (fun T locs X _ t k => hw T locs X t (XS.ifNo X.here C.1 rfl (hb C.2.1 hd) rfl ((if0 _ _).trans (feq (fun z => q ((lw_eq x y).mp z))).1) k)) (g2 q)
theorem g_if_icmpne (C : Ctx p l e R s m args below meth c Z own nm bs ml rt) {x y : Int32} {o : Int} (hd : decode bs pc = .ok (.if_icmp .ne o, 3)) (pc1 : Nat) (h1 : 0 ≤ ((pc : Nat) : Int) + o ∧ (((pc : Nat) : Int) + o).toNat = pc1) (pc2 : Nat) (h2 : pc2 = pc + 3) (g1 : (¬ x = y) → Go p l e R s m args below meth c n0 Q h cells slots pc1 L st) (g2 : (x = y) → Go p l e R s m args below meth c n0 Q h cells slots pc2 L st) : Go p l e R s m args below meth c n0 Q h cells slots pc L (.int y :: .int x :: st) := by
  subst h2
  by_cases q : x = y
  · exact step (fun T locs X _ t k => XS.icmpNo X.here C.1 rfl (hb C.2.1 hd) rfl (teq q).2 k) (g2 q)
  · exact step (fun T locs X _ t k => XS.icmpYes X.here C.1 rfl (pc0 := pc) (pc' := pc1) rfl (hb C.2.1 hd) rfl (feq q).2 h1.1 h1.2 k) (g1 q)
theorem g_ifne (C : Ctx p l e R s m args below meth c Z own nm bs ml rt) {x : Int32} {o : Int} (hd : decode bs pc = .ok (.ifCond .ne o, 3)) (pc1 : Nat) (h1 : 0 ≤ ((pc : Nat) : Int) + o ∧ (((pc : Nat) : Int) + o).toNat = pc1) (pc2 : Nat) (h2 : pc2 = pc + 3) (g1 : (¬ x = (0 : Int32)) → Go p l e R s m args below meth c n0 Q h cells slots pc1 L st) (g2 : (x = (0 : Int32)) → Go p l e R s m args below meth c n0 Q h cells slots pc2 L st) : Go p l e R s m args below meth c n0 Q h cells slots pc L (.int x :: st) := by
  subst h2
  by_cases q : x = (0 : Int32)
  · exact step (fun T locs X _ t k => XS.ifNo X.here C.1 rfl (hb C.2.1 hd) rfl ((if0 _ _).trans (teq q).2) k) (g2 q)
  · exact step (fun T locs X _ t k => XS.ifYes X.here C.1 rfl (pc0 := pc) (pc' := pc1) rfl (hb C.2.1 hd) rfl ((if0 _ _).trans (feq q).2) h1.1 h1.2 k) (g1 q)
theorem g_lcmpne (C : Ctx p l e R s m args below meth c Z own nm bs ml rt) {x y : Int64} {o : Int} (hd0 : decode bs pc = .ok (.lcmp, 1)) (pcm : Nat) (hm : pcm = pc + 1) (hd : decode bs pcm = .ok (.ifCond .ne o, 3)) (pc1 : Nat) (h1 : 0 ≤ ((pcm : Nat) : Int) + o ∧ (((pcm : Nat) : Int) + o).toNat = pc1) (pc2 : Nat) (h2 : pc2 = pcm + 3) (g1 : (¬ x = y) → Go p l e R s m args below meth c n0 Q h cells slots pc1 L st) (g2 : (x = y) → Go p l e R s m args below meth c n0 Q h cells slots pc2 L st) : Go p l e R s m args below meth c n0 Q h cells slots pc L (.long y :: .long x :: st) := by
  subst hm
  have hw : ∀ (T : State) (locs : List Loc), Stand p l e R s m args below meth c T locs cells slots → ∀ t, Steps p.tables e below (T.setTop (mkF m (pc + 1) L (.int (lcmpW x y) :: st))) t → Steps p.tables e below (T.setTop (mkF m pc L (.long y :: .long x :: st))) t := fun T locs X t k => XS.lcmp X.here C.1 rfl (hb C.2.1 hd0) rfl k
  subst h2
  by_cases q : x = y
  · exact step (fun T locs X _ t k => hw T locs X t (XS.ifNo X.here C.1 rfl (hb C.2.1 hd) rfl ((if0 _ _).trans (teq ((lw_eq x y).mpr q)).2) k)) (g2 q)
  · exact step (fun T locs X _ t k => hw T locs X t (XS.ifYes X.here C.1 rfl (pc0 := pc + 1) (pc' := pc1) rfl (hb C.2.1 hd) rfl ((if0 _ _).trans (feq (fun z => q ((lw_eq x y).mp z))).2) h1.1 h1.2 k)) (g1 q)
theorem g_if_icmplt (C : Ctx p l e R s m args below meth c Z own nm bs ml rt) {x y : Int32} {o : Int} (hd : decode bs pc = .ok (.if_icmp .lt o, 3)) (pc1 : Nat) (h1 : 0 ≤ ((pc : Nat) : Int) + o ∧ (((pc : Nat) : Int) + o).toNat = pc1) (pc2 : Nat) (h2 : pc2 = pc + 3) (g1 : (x < y) → Go p l e R s m args below meth c n0 Q h cells slots pc1 L st) (g2 : (¬ x < y) → Go p l e R s m args below meth c n0 Q h cells slots pc2 L st) : Go p l e R s m args below meth c n0 Q h cells slots pc L (.int y :: .int x :: st) := by
  subst h2
  by_cases q : x < y
  · exact step (fun T locs X _ t k => XS.icmpYes X.here C.1 rfl (pc0 := pc) (pc' := pc1) rfl (hb C.2.1 hd) rfl (tlt q).1 h1.1 h1.2 k) (g1 q)
  · exact step (fun T locs X _ t k => XS.icmpNo X.here C.1 rfl (hb C.2.1 hd) rfl (flt q).1 k) (g2 q)
theorem g_iflt (C : Ctx p l e R s m args below meth c Z own nm bs ml rt) {x : Int32} {o : Int} (hd : decode bs pc = .ok (.ifCond .lt o, 3)) (pc1 : Nat) (h1 : 0 ≤ ((pc : Nat) : Int) + o ∧ (((pc : Nat) : Int) + o).toNat = pc1) (pc2 : Nat) (h2 : pc2 = pc + 3) (g1 : (x < (0 : Int32)) → Go p l e R s m args below meth c n0 Q h cells slots pc1 L st) (g2 : (¬ x < (0 : Int32)) → Go p l e R s m args below meth c n0 Q h cells slots pc2 L st) : Go p l e R s m args below meth c n0 Q h cells slots pc L (.int x :: st) := by
  subst h2
  by_cases q : x < (0 : Int32)
  · exact step (fun T locs X _ t k => XS.ifYes X.here C.1 rfl (pc0 := pc) (pc' := pc1) rfl (hb C.2.1 hd) rfl ((if0 _ _).trans (tlt q).1) h1.1 h1.2 k) (g1 q)
  · exact step (fun T locs X _ t k => XS.ifNo X.here C.1 rfl (hb C.2.1 hd) rfl ((if0 _ _).trans (flt q).1) k) (g2 q)
theorem g_lcmplt (C : Ctx p l e R s m args below meth c Z own nm bs ml rt) {x y : Int64} {o : Int} (hd0 : decode bs pc = .ok (.lcmp, 1)) (pcm : Nat) (hm : pcm = pc + 1) (hd : decode bs pcm = .ok (.ifCond .lt o, 3)) (pc1 : Nat) (h1 : 0 ≤ ((pcm : Nat) : Int) + o ∧ (((pcm : Nat) : Int) + o).toNat = pc1) (pc2 : Nat) (h2 : pc2 = pcm + 3) (g1 : (x < y) → Go p l e R s m args below meth c n0 Q h cells slots pc1 L st) (g2 : (¬ x < y) → Go p l e R s m args below meth c n0 Q h cells slots pc2 L st) : Go p l e R s m args below meth c n0 Q h cells slots pc L (.long y :: .long x :: st) := by
  subst hm
  have hw : ∀ (T : State) (locs : List Loc), Stand p l e R s m args below meth c T locs cells slots → ∀ t, Steps p.tables e below (T.setTop (mkF m (pc + 1) L (.int (lcmpW x y) :: st))) t → Steps p.tables e below (T.setTop (mkF m pc L (.long y :: .long x :: st))) t := fun T locs X t k => XS.lcmp X.here C.1 rfl (hb C.2.1 hd0) rfl k
  subst h2
  by_cases q : x < y
  · exact step (fun T locs X _ t k => hw T locs X t (XS.ifYes X.here C.1 rfl (pc0 := pc + 1) (pc' := pc1) rfl (hb C.2.1 hd) rfl ((if0 _ _).trans (tlt ((lw_lt x y).mpr q)).1) h1.1 h1.2 k)) (g1 q)
  · exact step (fun T locs X _ t k => hw T locs X t (XS.ifNo X.here C.1 rfl (hb C.2.1 hd) rfl ((if0 _ _).trans (flt (fun z => q ((lw_lt x y).mp z))).1) k)) (g2 q)
theorem g_if_icmpge (C : Ctx p l e R s m args below meth c Z own nm bs ml rt) {x y : Int32} {o : Int} (hd : decode bs pc = .ok (.if_icmp .ge o, 3)) (pc1 : Nat) (h1 : 0 ≤ ((pc : Nat) : Int) + o ∧ (((pc : Nat) : Int) + o).toNat = pc1) (pc2 : Nat) (h2 : pc2 = pc + 3) (g1 : (¬ x < y) → Go p l e R s m args below meth c n0 Q h cells slots pc1 L st) (g2 : (x < y) → Go p l e R s m args below meth c n0 Q h cells slots pc2 L st) : Go p l e R s m args below meth c n0 Q h cells slots pc L (.int y :: .int x :: st) := by
  subst h2
  by_cases q : x < y
  · exact step (fun T locs X _ t k => XS.icmpNo X.here C.1 rfl (hb C.2.1 hd) rfl (tlt q).2.1 k) (g2 q)
  · exact step (fun T locs X _ t k => XS.icmpYes X.here C.1 rfl (pc0 := pc) (pc' := pc1) rfl (hb C.2.1 hd) rfl (flt q).2.1 h1.1 h1.2 k) (g1 q)
theorem g_ifge (C : Ctx p l e R s m args below meth c Z own nm bs ml rt) {x : Int32} {o : Int} (hd : decode bs pc = .ok (.ifCond .ge o, 3)) (pc1 : Nat) (h1 : 0 ≤ ((pc : Nat) : Int) + o ∧ (((pc : Nat) : Int) + o).toNat = pc1) (pc2 : Nat) (h2 : pc2 = pc + 3) (g1 : (¬ x < (0 : Int32)) → Go p l e R s m args below meth c n0 Q h cells slots pc1 L st) (g2 : (x < (0 : Int32)) → Go p l e R s m args below meth c n0 Q h cells slots pc2 L st) : Go p l e R s m args below meth c n0 Q h cells slots pc L (.int x :: st) := by
  subst h2
  by_cases q : x < (0 : Int32)
  · exact step (fun T locs X _ t k => XS.ifNo X.here C.1 rfl (hb C.2.1 hd) rfl ((if0 _ _).trans (tlt q).2.1) k) (g2 q)
  · exact step (fun T locs X _ t k => XS.ifYes X.here C.1 rfl (pc0 := pc) (pc' := pc1) rfl (hb C.2.1 hd) rfl ((if0 _ _).trans (flt q).2.1) h1.1 h1.2 k) (g1 q)
theorem g_lcmpge (C : Ctx p l e R s m args below meth c Z own nm bs ml rt) {x y : Int64} {o : Int} (hd0 : decode bs pc = .ok (.lcmp, 1)) (pcm : Nat) (hm : pcm = pc + 1) (hd : decode bs pcm = .ok (.ifCond .ge o, 3)) (pc1 : Nat) (h1 : 0 ≤ ((pcm : Nat) : Int) + o ∧ (((pcm : Nat) : Int) + o).toNat = pc1) (pc2 : Nat) (h2 : pc2 = pcm + 3) (g1 : (¬ x < y) → Go p l e R s m args below meth c n0 Q h cells slots pc1 L st) (g2 : (x < y) → Go p l e R s m args below meth c n0 Q h cells slots pc2 L st) : Go p l e R s m args below meth c n0 Q h cells slots pc L (.long y :: .long x :: st) := by
  subst hm
  have hw : ∀ (T : State) (locs : List Loc), Stand p l e R s m args below meth c T locs cells slots → ∀ t, Steps p.tables e below (T.setTop (mkF m (pc + 1) L (.int (lcmpW x y) :: st))) t → Steps p.tables e below (T.setTop (mkF m pc L (.long y :: .long x :: st))) t := fun T locs X t k => XS.lcmp X.here C.1 rfl (hb C.2.1 hd0) rfl k
  subst h2
  by_cases q : x < y
  · exact step (fun T locs X _ t k => hw T locs X t (XS.ifNo X.here C.1 rfl (hb C.2.1 hd) rfl ((if0 _ _).trans (tlt ((lw_lt x y).mpr q)).2.1) k)) (g2 q)
  · exact step (fun T locs X _ t k => hw T locs X t (XS.ifYes X.here C.1 rfl (pc0 := pc + 1) (pc' := pc1) rfl (hb C.2.1 hd) rfl ((if0 _ _).trans (flt (fun z => q ((lw_lt x y).mp z))).2.1) h1.1 h1.2 k)) (g1 q)
theorem g_if_icmpgt (C : Ctx p l e R s m args below meth c Z own nm bs ml rt) {x y : Int32} {o : Int} (hd : decode bs pc = .ok (.if_icmp .gt o, 3)) (pc1 : Nat) (h1 : 0 ≤ ((pc : Nat) : Int) + o ∧ (((pc : Nat) : Int) + o).toNat = pc1) (pc2 : Nat) (h2 : pc2 = pc + 3) (g1 : (y < x) → Go p l e R s m args below meth c n0 Q h cells slots pc1 L st) (g2 : (¬ y < x) → Go p l e R s m args below meth c n0 Q h cells slots pc2 L st) : Go p l e R s m args below meth c n0 Q h cells slots pc L (.int y :: .int x :: st) := by
  subst h2
  by_cases q : y < x
  · exact step (fun T locs X _ t k => XS.icmpYes X.here C.1 rfl (pc0 := pc) (pc' := pc1) rfl (hb C.2.1 hd) rfl (tlt q).2.2.1 h1.1 h1.2 k) (g1 q)
  · exact step (fun T locs X _ t k => XS.icmpNo X.here C.1 rfl (hb C.2.1 hd) rfl (flt q).2.2.1 k) (g2 q)
theorem g_ifgt (C : Ctx p l e R s m args below meth c Z own nm bs ml rt) {x : Int32} {o : Int} (hd : decode bs pc = .ok (.ifCond .gt o, 3)) (pc1 : Nat) (h1 : 0 ≤ ((pc : Nat) : Int) + o ∧ (((pc : Nat) : Int) + o).toNat = pc1) (pc2 : Nat) (h2 : pc2 = pc + 3) (g1 : ((0 : Int32) < x) → Go p l e R s m args below meth c n0 Q h cells slots pc1 L st) (g2 : (¬ (0 : Int32) < x) → Go p l e R s m args below meth c n0 Q h cells slots pc2 L st) : Go p l e R s m args below meth c n0 Q h cells slots pc L (.int x :: st) := by
  subst h2
  by_cases q : (0 : Int32) < x
  · exact step (fun T locs X _ t k => XS.ifYes X.here C.1 rfl (pc0 := pc) (pc' := pc1) rfl (hb C.2.1 hd) rfl ((if0 _ _).trans (tlt q).2.2.1) h1.1 h1.2 k) (g1 q)
  · exact step (fun T locs X _ t k => XS.ifNo X.here C.1 rfl (hb C.2.1 hd) rfl ((if0 _ _).trans (flt q).2.2.1) k) (g2 q)
theorem g_lcmpgt (C : Ctx p l e R s m args below meth c Z own nm bs ml rt) {x y : Int64} {o : Int} (hd0 : decode bs pc = .ok (.lcmp, 1)) (pcm : Nat) (hm : pcm = pc + 1) (hd : decode bs pcm = .ok (.ifCond .gt o, 3)) (pc1 : Nat) (h1 : 0 ≤ ((pcm : Nat) : Int) + o ∧ (((pcm : Nat) : Int) + o).toNat = pc1) (pc2 : Nat) (h2 : pc2 = pcm + 3) (g1 : (y < x) → Go p l e R s m args below meth c n0 Q h cells slots pc1 L st) (g2 : (¬ y < x) → Go p l e R s m args below meth c n0 Q h cells slots pc2 L st) : Go p l e R s m args below meth c n0 Q h cells slots pc L (.long y :: .long x :: st) := by
  subst hm
  have hw : ∀ (T : State) (locs : List Loc), Stand p l e R s m args below meth c T locs cells slots → ∀ t, Steps p.tables e below (T.setTop (mkF m (pc + 1) L (.int (lcmpW x y) :: st))) t → Steps p.tables e below (T.setTop (mkF m pc L (.long y :: .long x :: st))) t := fun T locs X t k => XS.lcmp X.here C.1 rfl (hb C.2.1 hd0) rfl k
  subst h2
  by_cases q : y < x
  · exact step (fun T locs X _ t k => hw T locs X t (XS.ifYes X.here C.1 rfl (pc0 := pc + 1) (pc' := pc1) rfl (hb C.2.1 hd) rfl ((if0 _ _).trans (tlt ((lw_gt x y).mpr q)).2.2.1) h1.1 h1.2 k)) (g1 q)
  · exact step (fun T locs X _ t k => hw T locs X t (XS.ifNo X.here C.1 rfl (hb C.2.1 hd) rfl ((if0 _ _).trans (flt (fun z => q ((lw_gt x y).mp z))).2.2.1) k)) (g2 q)
theorem g_if_icmple (C : Ctx p l e R s m args below meth c Z own nm bs ml rt) {x y : Int32} {o : Int} (hd : decode bs pc = .ok (.if_icmp .le o, 3)) (pc1 : Nat) (h1 : 0 ≤ ((pc : Nat) : Int) + o ∧ (((pc : Nat) : Int) + o).toNat = pc1) (pc2 : Nat) (h2 : pc2 = pc + 3) (g1 : (¬ y < x) → Go p l e R s m args below meth c n0 Q h cells slots pc1 L st) (g2 : (y < x) → Go p l e R s m args below meth c n0 Q h cells slots pc2 L st) : Go p l e R s m args below meth c n0 Q h cells slots pc L (.int y :: .int x :: st) := by
  subst h2
  by_cases q : y < x
  · exact step (fun T locs X _ t k => XS.icmpNo X.here C.1 rfl (hb C.2.1 hd) rfl (tlt q).2.2.2 k) (g2 q)
  · exact step (fun T locs X _ t k => XS.icmpYes X.here C.1 rfl (pc0 := pc) (pc' := pc1) rfl (hb C.2.1 hd) rfl (flt q).2.2.2 h1.1 h1.2 k) (g1 q)
theorem g_ifle (C : Ctx p l e R s m args below meth c Z own nm bs ml rt) {x : Int32} {o : Int} (hd : decode bs pc = .ok (.ifCond .le o, 3)) (pc1 : Nat) (h1 : 0 ≤ ((pc : Nat) : Int) + o ∧ (((pc : Nat) : Int) + o).toNat = pc1) (pc2 : Nat) (h2 : pc2 = pc + 3) (g1 : (¬ (0 : Int32) < x) → Go p l e R s m args below meth c n0 Q h cells slots pc1 L st) (g2 : ((0 : Int32) < x) → Go p l e R s m args below meth c n0 Q h cells slots pc2 L st) : Go p l e R s m args below meth c n0 Q h cells slots pc L (.int x :: st) := by
  subst h2
  by_cases q : (0 : Int32) < x
  · exact step (fun T locs X _ t k => XS.ifNo X.here C.1 rfl (hb C.2.1 hd) rfl ((if0 _ _).trans (tlt q).2.2.2) k) (g2 q)
  · exact step (fun T locs X _ t k => XS.ifYes X.here C.1 rfl (pc0 := pc) (pc' := pc1) rfl (hb C.2.1 hd) rfl ((if0 _ _).trans (flt q).2.2.2) h1.1 h1.2 k) (g1 q)
theorem g_lcmple (C : Ctx p l e R s m args below meth c Z own nm bs ml rt) {x y : Int64} {o : Int} (hd0 : decode bs pc = .ok (.lcmp, 1)) (pcm : Nat) (hm : pcm = pc + 1) (hd : decode bs pcm = .ok (.ifCond .le o, 3)) (pc1 : Nat) (h1 : 0 ≤ ((pcm : Nat) : Int) + o ∧ (((pcm : Nat) : Int) + o).toNat = pc1) (pc2 : Nat) (h2 : pc2 = pcm + 3) (g1 : (¬ y < x) → Go p l e R s m args below meth c n0 Q h cells slots pc1 L st) (g2 : (y < x) → Go p l e R s m args below meth c n0 Q h cells slots pc2 L st) : Go p l e R s m args below meth c n0 Q h cells slots pc L (.long y :: .long x :: st) := by
  subst hm
  have hw : ∀ (T : State) (locs : List Loc), Stand p l e R s m args below meth c T locs cells slots → ∀ t, Steps p.tables e below (T.setTop (mkF m (pc + 1) L (.int (lcmpW x y) :: st))) t → Steps p.tables e below (T.setTop (mkF m pc L (.long y :: .long x :: st))) t := fun T locs X t k => XS.lcmp X.here C.1 rfl (hb C.2.1 hd0) rfl k
  subst h2
  by_cases q : y < x
  · exact step (fun T locs X _ t k => hw T locs X t (XS.ifNo X.here C.1 rfl (hb C.2.1 hd) rfl ((if0 _ _).trans (tlt ((lw_gt x y).mpr q)).2.2.2) k)) (g2 q)
  · exact step (fun T locs X _ t k => hw T locs X t (XS.ifYes X.here C.1 rfl (pc0 := pc + 1) (pc' := pc1) rfl (hb C.2.1 hd) rfl ((if0 _ _).trans (flt (fun z => q ((lw_gt x y).mp z))).2.2.2) h1.1 h1.2 k)) (g1 q)
theorem fin {v : Option Value} (C : Ctx p l e R s m args below meth c Z own nm bs ml rt) (hc : cells ≤ R.cells) (hs : slots ≤ R.slots) (hv : rt = none → v = none) (k : ∀ (T : State) (locs : List Loc), Stand p l e R s m args below meth c T locs cells slots → ∀ fs, (∀ (f : JFrame) (acts : List Action), f.method = m → f.locked = none → f.entered = [] → (doReturn e (T.setTop f) acts v).1 = T.setFrames fs) → Steps p.tables e below (T.setTop (mkF m pc L st)) (T.setFrames fs)) (q : Q v h) : Go p l e R s m args below meth c n0 Q h cells slots pc L st := fun T locs X eh N => by
  obtain ⟨fs, hr, hrun, hended, hW, hsame⟩ := X.leave (v := v) (fun h => hv (C.2.2.2.2.2.1.symm.trans h)) C.2.2.2.2.2.2.1
  refine ⟨_, v, locs, k T locs X fs hr, hrun, hended, ?_, N, hW, hsame.mono hc hs⟩
  show Q v T.heap
  rw [eh]; exact q
theorem r_int {P : Int32 → Heap → Prop} {z : Int32} (C : Ctx p l e R s m args below meth c Z own nm bs ml (some .int)) (hd : decode bs pc = .ok (.ireturn, 1)) (hc : cells ≤ R.cells) (hs : slots ≤ R.slots) (q : P z h) : Go p l e R s m args below meth c n0 (qI P) h cells slots pc L (.int z :: st) :=
  fin C hc hs (fun h => by cases h) (fun T locs X fs hr => retI X C.1 C.2.2.2.2.2.1 (hb C.2.1 hd) hr) ⟨z, rfl, q⟩
theorem r_nar {P : Int32 → Heap → Prop} {z : Int32} {t : FieldType} (C : Ctx p l e R s m args below meth c Z own nm bs ml (some t)) (ht : t = .boolean ∨ t = .byte ∨ t = .char ∨ t = .short) (hd : decode bs pc = .ok (.ireturn, 1)) (hc : cells ≤ R.cells) (hs : slots ≤ R.slots) (q : P (nar t z) h) : Go p l e R s m args below meth c n0 (qI P) h cells slots pc L (.int z :: st) :=
  fin C hc hs (fun h => by cases h) (fun T locs X fs hr => retN X C.1 C.2.2.2.2.2.1 ht (hb C.2.1 hd) hr) ⟨_, rfl, q⟩
theorem r_long {P : Int64 → Heap → Prop} {z : Int64} (C : Ctx p l e R s m args below meth c Z own nm bs ml (some .long)) (hd : decode bs pc = .ok (.lreturn, 1)) (hc : cells ≤ R.cells) (hs : slots ≤ R.slots) (q : P z h) : Go p l e R s m args below meth c n0 (qJ P) h cells slots pc L (.long z :: st) :=
  fin C hc hs (fun h => by cases h) (fun T locs X fs hr => retOut X C.1 C.2.2.2.2.2.1 rfl (Or.inr (Or.inl ⟨rfl, rfl, z, rfl⟩)) (hb C.2.1 hd) hr) ⟨z, rfl, q⟩
theorem r_ref {P : Addr → Heap → Prop} {z : Addr} {t : FieldType} (C : Ctx p l e R s m args below meth c Z own nm bs ml (some t)) (ht : t.isReference = true) (hn : narrow t (.ref z) = .ref z) (hd : decode bs pc = .ok (.areturn, 1)) (hc : cells ≤ R.cells) (hs : slots ≤ R.slots) (q : P z h) : Go p l e R s m args below meth c n0 (qA P) h cells slots pc L (.ref z :: st) :=
  fin C hc hs (fun h => by cases h) (fun T locs X fs hr => retOut X C.1 C.2.2.2.2.2.1 hn (Or.inr (Or.inr (Or.inr (Or.inr ⟨rfl, ht, rfl⟩)))) (hb C.2.1 hd) hr) ⟨z, rfl, q⟩
theorem r_void {P : Heap → Prop} (C : Ctx p l e R s m args below meth c Z own nm bs ml none) (hd : decode bs pc = .ok (.return_, 1)) (hc : cells ≤ R.cells) (hs : slots ≤ R.slots) (q : P h) : Go p l e R s m args below meth c n0 (qV P) h cells slots pc L [] :=
  fin C hc hs (fun _ => rfl) (fun T locs X fs hr => X.returnOut C.1 C.2.2.2.2.2.1 (hb C.2.1 hd) hr) ⟨rfl, q⟩
theorem g_getfield (C : Ctx p l e R s m args below meth c Z own nm bs ml rt) {O n d host : String} {i : Nat} {a : Addr} {v : Value} (w : (Jvm.Cond.fieldLink own i O n d).before a0 Z = true) (F : Fld Z h a O n d v) (hd : decode bs pc = .ok (.getfield i, 3)) (pc' : Nat) (hp : pc' = pc + 3) (g : Go p l e R s m args below meth c n0 Q h cells slots pc' L (v :: st)) : Go p l e R s m args below meth c n0 Q h cells slots pc L (.ref a :: st) := fun T locs X eh N => by
  subst hp
  obtain ⟨T1, X1, e1, st1⟩ := getF X C.1 C.2.2.1 C.2.2.2.1 (host := "") (Or.inl w) Via.refl eh F (g := mkF m pc L (.ref a :: st)) rfl rfl (hb C.2.1 hd)
  obtain ⟨s2, u, L', x1, x2⟩ := g T1 locs X1 e1 N
  exact ⟨s2, u, L', st1 _ x1, x2⟩
theorem g_putfield (C : Ctx p l e R s m args below meth c Z own nm bs ml rt) {O n d K : String} {i kk : Nat} {ty : FieldType} {a : Addr} {v old : Value} (w : (Jvm.Cond.fieldLink own i O n d).before a0 Z = true) (F : Fld Z h a O n d old) (E : Exa Z h a K) (hL : (Jvm.Cond.lays K O n d).before a0 Z = true ∨ ((Jvm.Cond.laysFinal K O n d).before a0 Z = true ∧ own = O ∧ nm = "<init>")) (wi : (Jvm.Cond.instantiable K kk).before a0 Z = true) (hty : parseFieldDescriptor d = some ty) (hn : narrow ty v = v) (hf : fits ty v = true) (hd : decode bs pc = .ok (.putfield i, 3)) (pc' : Nat) (hp : pc' = pc + 3) (hna : n0 ≤ a) (g : ∀ h', Wr h h' a (Jvm.RoadKit.slotOf Z O n d) v → Go p l e R s m args below meth c n0 Q h' cells slots pc' L st) : Go p l e R s m args below meth c n0 Q h cells slots pc L (v :: .ref a :: st) := fun T locs X eh N => by
  subst hp
  obtain ⟨T1, h1, X1, e1, W1, st1⟩ := putF X C.1 C.2.2.1 C.2.2.2.1 (host := "") (Or.inl w) Via.refl eh F E (hL.imp id fun q => ⟨q.1, q.2.1, C.2.2.2.2.2.2.2.trans q.2.2⟩) wi hty hn hf (g := mkF m pc L (v :: .ref a :: st)) rfl rfl (hb C.2.1 hd)
  obtain ⟨s2, u, L', x1, x2⟩ := g h1 W1 T1 _ X1 e1 (Fr.snoc X1 N hna)
  exact ⟨s2, u, L', st1 _ x1, x2⟩
theorem g_new (C : Ctx p l e R s m args below meth c Z own nm bs ml rt) {K : String} {i n : Nat} (w : (Jvm.Cond.classLink own i K).before a0 Z = true) (wi : (Jvm.Cond.instantiable K n).before a0 Z = true) (wz : (Jvm.Cond.initialized K).before a0 Z = true) (hd : decode bs pc = .ok (.new i, 3)) (pc' : Nat) (hp : pc' = pc + 3) (cells' slots' : Nat) (hc' : cells' = cells + 1) (hs' : slots' = slots + n) (hc : cells' ≤ R.cells) (hs : slots' ≤ R.slots) (g : ∀ h' a, a = h.size → Ext h h' → Exa Z h' a K → (∀ {O nm d : String} {ty : FieldType}, Laid Z a0 K O nm d → parseFieldDescriptor d = some ty → Fld Z h' a O nm d (defaultValue ty)) → Go p l e R s m args below meth c n0 Q h' cells' slots' pc' L (.ref a :: st)) : Go p l e R s m args below meth c n0 Q h cells slots pc L st := fun T locs X eh N => by
  subst hp hc' hs'
  obtain ⟨T1, h1, X1, e1, E1, A1, D1, -, st1⟩ := newO X C.1 C.2.2.1 C.2.2.2.1 w wi wz eh (g := mkF m pc L st) rfl (hb C.2.1 hd) hc hs
  obtain ⟨s2, u, L', x1, x2⟩ := g h1 _ rfl E1 A1 D1 T1 _ X1 e1 N
  exact ⟨s2, u, L', st1 _ x1, x2⟩
theorem g_objinit (C : Ctx p l e R s m args below meth c Z own nm bs ml rt) {i : Nat} {a : Addr} (w1 : (Jvm.Cond.methodLink own i Lib.objectInit).before a0 Z = true) (w2 : (Jvm.Cond.instanceMethod Lib.objectInit).before a0 Z = true) (w3 : (Jvm.Cond.code Lib.objectInit ⟨#[0xb1]⟩ 1 none).before a0 Z = true) (hd : decode bs pc = .ok (.invokespecial i, 3)) (pc' : Nat) (hp : pc' = pc + 3) (hL : L.size = ml) (hf : 1 ≤ R.frames) (W : Nat) (hW : 2 * 0 + (st.map fun v => v.category).sum ≤ W) (hl : W + 12 ≤ R.locals) (g : Go p l e R s m args below meth c n0 Q h cells slots pc' L st) : Go p l e R s m args below meth c n0 Q h cells slots pc L (.ref a :: st) := fun T locs X eh N => by
  subst hp
  obtain ⟨T1, X1, e1, st1⟩ := initO X C.1 C.2.2.1 C.2.2.2.1 w1 w2 w3 eh (g := mkF m pc L (.ref a :: st)) rfl (hL.trans C.2.2.2.2.1.symm) rfl (hb C.2.1 hd) hf (W := W) hW hl
  obtain ⟨s2, u, L', x1, x2⟩ := g T1 locs X1 e1 N
  exact ⟨s2, u, L', st1 _ x1, x2⟩
theorem g_instY (C : Ctx p l e R s m args below meth c Z own nm bs ml rt) {K : String} {i : Nat} {a : Addr} (w : (Jvm.Cond.classLink own i K).before a0 Z = true) (F : Ins Z h a K true) (hd : decode bs pc = .ok (.instanceof i, 3)) (pc' : Nat) (hp : pc' = pc + 3) (g : Go p l e R s m args below meth c n0 Q h cells slots pc' L (.int 1 :: st)) : Go p l e R s m args below meth c n0 Q h cells slots pc L (.ref a :: st) := fun T locs X eh N => by
  subst hp
  obtain ⟨T1, X1, e1, st1⟩ := instY X C.1 C.2.2.1 C.2.2.2.1 w eh F (g := mkF m pc L (.ref a :: st)) rfl rfl (hb C.2.1 hd)
  obtain ⟨s2, u, L', x1, x2⟩ := g T1 locs X1 e1 N
  exact ⟨s2, u, L', st1 _ x1, x2⟩
theorem g_instNo (C : Ctx p l e R s m args below meth c Z own nm bs ml rt) {K K0 : String} {i : Nat} {a : Addr} (w : (Jvm.Cond.classLink own i K).before a0 Z = true) (E : Exa Z h a K0) (F : ∃ c t, Z.vm.findClass K0 = some c ∧ Z.vm.findClass K = some t ∧ Z.vm.assignable c t = false) (hd : decode bs pc = .ok (.instanceof i, 3)) (pc' : Nat) (hp : pc' = pc + 3) (g : Go p l e R s m args below meth c n0 Q h cells slots pc' L (.int 0 :: st)) : Go p l e R s m args below meth c n0 Q h cells slots pc L (.ref a :: st) := fun T locs X eh N => by
  subst hp
  obtain ⟨T1, X1, e1, st1⟩ := instNo X C.1 C.2.2.1 C.2.2.2.1 w eh E F (g := mkF m pc L (.ref a :: st)) rfl rfl (hb C.2.1 hd)
  obtain ⟨s2, u, L', x1, x2⟩ := g T1 locs X1 e1 N
  exact ⟨s2, u, L', st1 _ x1, x2⟩
theorem g_instNull (C : Ctx p l e R s m args below meth c Z own nm bs ml rt) {i : Nat} (hd : decode bs pc = .ok (.instanceof i, 3)) (pc' : Nat) (hp : pc' = pc + 3) (g : Go p l e R s m args below meth c n0 Q h cells slots pc' L (.int 0 :: st)) : Go p l e R s m args below meth c n0 Q h cells slots pc L (.null :: st) := by
  subst hp
  exact step (fun T locs X _ t k => X.instanceofNull C.1 (g := mkF m pc L (.null :: st)) rfl rfl (hb C.2.1 hd) _ k) g
theorem g_checkcast (C : Ctx p l e R s m args below meth c Z own nm bs ml rt) {K : String} {i : Nat} {a : Addr} (w : (Jvm.Cond.classLink own i K).before a0 Z = true) (F : Ins Z h a K true) (hd : decode bs pc = .ok (.checkcast i, 3)) (pc' : Nat) (hp : pc' = pc + 3) (g : Go p l e R s m args below meth c n0 Q h cells slots pc' L (.ref a :: st)) : Go p l e R s m args below meth c n0 Q h cells slots pc L (.ref a :: st) := fun T locs X eh N => by
  subst hp
  obtain ⟨T1, X1, e1, st1⟩ := castY X C.1 C.2.2.1 C.2.2.2.1 w eh F (g := mkF m pc L (.ref a :: st)) rfl rfl (hb C.2.1 hd)
  obtain ⟨s2, u, L', x1, x2⟩ := g T1 locs X1 e1 N
  exact ⟨s2, u, L', st1 _ x1, x2⟩
/-- a local that holds nothing or an int; two that hold nothing or a long -/
def OneS (s : Slot) : Prop := s = .unset ∨ ∃ x : Int32, s = .val (.int x)
def TwoS (s t : Slot) : Prop := (s = .unset ∧ t = .unset) ∨ ∃ x : Int64, s = .val (.long x) ∧ t = .second
theorem OneS.u : OneS .unset := Or.inl rfl
theorem OneS.i {x : Int32} : OneS (.val (.int x)) := Or.inr ⟨x, rfl⟩
theorem TwoS.u : TwoS .unset .unset := Or.inl ⟨rfl, rfl⟩
theorem TwoS.j {x : Int64} : TwoS (.val (.long x)) .second := Or.inr ⟨x, rfl, rfl⟩
/-- the array at a: N places, place j holds f j -/
def Ary (Z : State) (h : Heap) (a : Addr) (ty : FieldType) (N : Nat) (f : Nat → Value) : Prop := N < 2 ^ 31 ∧ ∃ cl : Cell, Arr Z h a cl ty ∧ cl.slots.size = N ∧ ∀ j, j < N → cl.slots[j]? = some (f j)
def updA (f : Nat → Value) (i : Nat) (v : Value) : Nat → Value := fun j => if j = i then v else f j
theorem Ary.lt {a : Addr} {ty : FieldType} {N : Nat} {f : Nat → Value} (A : Ary Z h a ty N f) : a < h.size := by obtain ⟨-, cl, A1, -⟩ := A; exact A1.lt
theorem Ary.ext {h' : Heap} {a : Addr} {ty : FieldType} {N : Nat} {f : Nat → Value} (A : Ary Z h a ty N f) (E : Ext h h') : Ary Z h' a ty N f := by obtain ⟨q, cl, A1, A2⟩ := A; exact ⟨q, cl, A1.ext E, A2⟩
theorem Ary.other {h' : Heap} {a b : Addr} {sl : Nat} {v : Value} {ty : FieldType} {N : Nat} {f : Nat → Value} (A : Ary Z h a ty N f) (W : Wr h h' b sl v) (q : a ≠ b) : Ary Z h' a ty N f := by obtain ⟨q0, cl, A1, A2⟩ := A; exact ⟨q0, cl, A1.other W q, A2⟩
theorem Ary.keep {h' : Heap} {a : Addr} {ws : List Addr} {ty : FieldType} {N : Nat} {f : Nat → Value} (A : Ary Z h a ty N f) (K : Keep h h' ws) (q : a ∉ ws) : Ary Z h' a ty N f := by obtain ⟨q0, cl, A1, A2⟩ := A; exact ⟨q0, cl, ⟨K.2.1 _ _ A1.1 q, A1.2⟩, A2⟩
theorem Ary.congr {a : Addr} {ty : FieldType} {N : Nat} {f f' : Nat → Value} (A : Ary Z h a ty N f) (q : ∀ j, j < N → f j = f' j) : Ary Z h a ty N f' := by obtain ⟨q0, cl, A1, A2, A3⟩ := A; exact ⟨q0, cl, A1, A2, fun j hj => by rw [A3 j hj, q j hj]⟩
theorem Ary.set {h' : Heap} {a : Addr} {i : Nat} {v : Value} {ty : FieldType} {N : Nat} {f : Nat → Value} (A : Ary Z h a ty N f) (W : Wr h h' a i v) : Ary Z h' a ty N (updA f i v) := by
  obtain ⟨q0, cl, A1, A2, A3⟩ := A
  refine ⟨q0, _, A1.same W, by rw [sz_set]; exact A2, fun j hj => ?_⟩
  obtain ⟨cell, w1, -, w3, -⟩ := W
  cases A1.1.symm.trans w1
  by_cases q : j = i
  · subst q; simp [updA, Cell.setSlot, w3]
  · rw [updA, if_neg q, ← A3 j hj]; simp [Cell.setSlot, Ne.symm q]
theorem Ary.wrlt {h' : Heap} {a : Addr} {i : Nat} {v : Value} {ty : FieldType} {N : Nat} {f : Nat → Value} (A : Ary Z h a ty N f) (W : Wr h h' a i v) : h'.size = h.size := W.size
def upn (f : Nat → Int32) (i : Nat) (v : Int32) : Nat → Int32 := fun j => if j = i then v else f j
theorem Ary.asI {a : Addr} {ty : FieldType} {N i : Nat} {f : Nat → Int32} {v : Int32} (A : Ary Z h a ty N (updA (fun j => .int (f j)) i (.int v))) : Ary Z h a ty N (fun j => .int (upn f i v j)) := A.congr (fun j _ => by
  show (if j = i then Value.int v else Value.int (f j)) = Value.int (if j = i then v else f j)
  split <;> rfl)
/-- the int j is the place i -/
def Ix (j : Int32) (i : Nat) : Prop := ¬ j < 0 ∧ j.toNatClampNeg = i
theorem Ix.inb {j : Int32} {i N : Nat} {cl : Cell} (x : Ix j i) (hi : i < N) (S : cl.slots.size = N) : ¬ (j < 0 ∨ cl.slots.size ≤ j.toNatClampNeg) := by
  rintro (q | q)
  · exact x.1 q
  · rw [x.2] at q; omega
theorem Ix.toInt {j : Int32} {i : Nat} (x : Ix j i) : j.toInt = (i : Int) := by
  obtain ⟨h1, h2⟩ := x
  rw [Int32.lt_iff_toInt_lt] at h1
  have h3 : j.toInt.toNat = i := h2
  have h4 : (0 : Int32).toInt = 0 := rfl
  omega
theorem Ix.of {j : Int32} {i : Nat} (h : j.toInt = (i : Int)) : Ix j i := by
  refine ⟨?_, ?_⟩
  · rw [Int32.lt_iff_toInt_lt]
    have h4 : (0 : Int32).toInt = 0 := rfl
    omega
  · show j.toInt.toNat = i
    omega
theorem Ix.lt {a b : Int32} {i j : Nat} (x : Ix a i) (y : Ix b j) : a < b ↔ i < j := by
  rw [Int32.lt_iff_toInt_lt, x.toInt, y.toInt]; omega
theorem Ix.eq {a b : Int32} {i j : Nat} (x : Ix a i) (y : Ix b j) : a = b ↔ i = j := by
  rw [← Int32.toInt_inj, x.toInt, y.toInt]; omega
theorem Ix.add {a b : Int32} {i j : Nat} (x : Ix a i) (y : Ix b j) (h : i + j < 2147483648) : Ix (a + b) (i + j) := by
  apply Ix.of
  rw [Int32.toInt_add, x.toInt, y.toInt]
  have h2 : ((i : Int) + (j : Int)).bmod (2 ^ 32) = (i : Int) + (j : Int) := Int.bmod_eq_of_le (by omega) (by omega)
  rw [h2]; omega
theorem Ix.sub {a b : Int32} {i j : Nat} (x : Ix a i) (y : Ix b j) (h : j ≤ i) (hi : i < 2147483648) : Ix (a - b) (i - j) := by
  apply Ix.of
  rw [Int32.toInt_sub, x.toInt, y.toInt]
  have h2 : ((i : Int) - (j : Int)).bmod (2 ^ 32) = (i : Int) - (j : Int) := Int.bmod_eq_of_le (by omega) (by omega)
  rw [h2]; omega
theorem Ix.mul {a b : Int32} {i j : Nat} (x : Ix a i) (y : Ix b j) (h : i * j < 2147483648) : Ix (a * b) (i * j) := by
  apply Ix.of
  rw [Int32.toInt_mul, x.toInt, y.toInt, ← Int.natCast_mul]
  exact Int.bmod_eq_of_le (by omega) (by omega)
theorem Ix.nz {y : Int32} {n : Nat} (x : Ix y n) (h : 0 < n) : y ≠ 0 := fun q => by
  have := x.toInt
  rw [q] at this
  have h0 : (0 : Int32).toInt = 0 := rfl
  omega
theorem nn31 (x : Int32) : 0 ≤ (x &&& 2147483647).toInt := (c_andS x 2147483647).2.2 (by decide)
theorem Ix.rem {x y : Int32} {n : Nat} (hx : 0 ≤ x.toInt) (hy : Ix y n) (hn : 0 < n) : ∃ i, i < n ∧ Ix (x % y) i := by
  have h0 : (x % y).toInt = x.toInt % (n : Int) := by
    rw [Int32.toInt_mod, hy.toInt]; exact Int.tmod_eq_emod_of_nonneg hx
  have h1 : 0 ≤ x.toInt % (n : Int) := Int.emod_nonneg _ (by omega)
  have h2 : x.toInt % (n : Int) < n := Int.emod_lt_of_pos _ (by omega)
  exact ⟨(x.toInt % (n : Int)).toNat, by omega, Ix.of (by omega)⟩
theorem Ix.succ {a : Int32} {i : Nat} (x : Ix a i) (h : i + 1 < 2147483648) : Ix (a + 1) (i + 1) := x.add (b := 1) (j := 1) ⟨by decide, by decide⟩ h
theorem g_iaload (C : Ctx p l e R s m args below meth c Z own nm bs ml rt) {a : Addr} {N : Nat} {f : Nat → Value} {j : Int32} (A : Ary Z h a .int N f) (i : Nat) (hj : Ix j i) (hi : i < N) (v : Value) (hv : f i = v) (hd : decode bs pc = .ok (.iaload, 1)) (pc' : Nat) (hp : pc' = pc + 1) (g : Go p l e R s m args below meth c n0 Q h cells slots pc' L (v :: st)) : Go p l e R s m args below meth c n0 Q h cells slots pc L (.int j :: .ref a :: st) := by
  subst hp hv
  obtain ⟨q0, cl, A1, A2, A3⟩ := A
  exact step (fun T locs X eh t k => X.iaload C.1 (j := j) (v := f i) (by rw [eh]; exact A1.1) (State.isArrayOf_alike C.2.2.1.alike A1.2.1) A1.2.2 (hj.inb hi A2) (by rw [hj.2]; exact A3 i hi) (g := mkF m pc L (.int j :: .ref a :: st)) rfl rfl (hb C.2.1 hd) _ k) g
theorem g_laload (C : Ctx p l e R s m args below meth c Z own nm bs ml rt) {a : Addr} {N : Nat} {f : Nat → Value} {j : Int32} (A : Ary Z h a .long N f) (i : Nat) (hj : Ix j i) (hi : i < N) (v : Value) (hv : f i = v) (hd : decode bs pc = .ok (.laload, 1)) (pc' : Nat) (hp : pc' = pc + 1) (g : Go p l e R s m args below meth c n0 Q h cells slots pc' L (v :: st)) : Go p l e R s m args below meth c n0 Q h cells slots pc L (.int j :: .ref a :: st) := by
  subst hp hv
  obtain ⟨q0, cl, A1, A2, A3⟩ := A
  exact step (fun T locs X eh t k => X.laload C.1 (j := j) (v := f i) (by rw [eh]; exact A1.1) (State.isArrayOf_alike C.2.2.1.alike A1.2.1) A1.2.2 (hj.inb hi A2) (by rw [hj.2]; exact A3 i hi) (g := mkF m pc L (.int j :: .ref a :: st)) rfl rfl (hb C.2.1 hd) _ k) g
theorem g_caload (C : Ctx p l e R s m args below meth c Z own nm bs ml rt) {a : Addr} {N : Nat} {f : Nat → Value} {j : Int32} (A : Ary Z h a .char N f) (i : Nat) (hj : Ix j i) (hi : i < N) (v : Value) (hv : f i = v) (hd : decode bs pc = .ok (.caload, 1)) (pc' : Nat) (hp : pc' = pc + 1) (g : Go p l e R s m args below meth c n0 Q h cells slots pc' L (v :: st)) : Go p l e R s m args below meth c n0 Q h cells slots pc L (.int j :: .ref a :: st) := by
  subst hp hv
  obtain ⟨q0, cl, A1, A2, A3⟩ := A
  exact step (fun T locs X eh t k => X.caload C.1 (j := j) (v := f i) (by rw [eh]; exact A1.1) (State.isArrayOf_alike C.2.2.1.alike A1.2.1) A1.2.2 (hj.inb hi A2) (by rw [hj.2]; exact A3 i hi) (g := mkF m pc L (.int j :: .ref a :: st)) rfl rfl (hb C.2.1 hd) _ k) g
theorem g_baload (C : Ctx p l e R s m args below meth c Z own nm bs ml rt) {a : Addr} {N : Nat} {f : Nat → Value} {j : Int32} (A : Ary Z h a .byte N f) (i : Nat) (hj : Ix j i) (hi : i < N) (v : Value) (hv : f i = v) (hd : decode bs pc = .ok (.baload, 1)) (pc' : Nat) (hp : pc' = pc + 1) (g : Go p l e R s m args below meth c n0 Q h cells slots pc' L (v :: st)) : Go p l e R s m args below meth c n0 Q h cells slots pc L (.int j :: .ref a :: st) := by
  subst hp hv
  obtain ⟨q0, cl, A1, A2, A3⟩ := A
  exact step (fun T locs X eh t k => X.baloadBytes C.1 (j := j) (v := f i) (by rw [eh]; exact A1.1) (State.isArrayOf_alike C.2.2.1.alike A1.2.1) A1.2.2 (hj.inb hi A2) (by rw [hj.2]; exact A3 i hi) (g := mkF m pc L (.int j :: .ref a :: st)) rfl rfl (hb C.2.1 hd) _ k) g
theorem g_iastore (C : Ctx p l e R s m args below meth c Z own nm bs ml rt) {a : Addr} {N : Nat} {f : Nat → Value} {j : Int32} {x : Int32} (A : Ary Z h a .int N f) (i : Nat) (hj : Ix j i) (hi : i < N) (hd : decode bs pc = .ok (.iastore, 1)) (pc' : Nat) (hp : pc' = pc + 1) (hna : n0 ≤ a) (g : ∀ h', Wr h h' a i (.int x) → Ary Z h' a .int N (updA f i (.int x)) → Go p l e R s m args below meth c n0 Q h' cells slots pc' L st) : Go p l e R s m args below meth c n0 Q h cells slots pc L (.int x :: .int j :: .ref a :: st) := fun T locs X eh N' => by
  subst hp
  have A0 := A
  obtain ⟨q0, cl, A1, A2, A3⟩ := A
  obtain ⟨T1, h1, X1, e1, W1, st1⟩ := stI X C.1 C.2.2.1 eh A1 (hj.inb hi A2) (g := mkF m pc L (.int x :: .int j :: .ref a :: st)) rfl rfl (hb C.2.1 hd)
  have W2 : Wr h h1 a i (.int x) := by have := W1; rw [hj.2] at this; exact this
  obtain ⟨s2, u, L', x1, x2⟩ := g h1 W2 (A0.set W2) T1 _ X1 e1 (Fr.snoc X1 N' hna)
  exact ⟨s2, u, L', st1 _ x1, x2⟩
theorem g_lastore (C : Ctx p l e R s m args below meth c Z own nm bs ml rt) {a : Addr} {N : Nat} {f : Nat → Value} {j : Int32} {x : Int64} (A : Ary Z h a .long N f) (i : Nat) (hj : Ix j i) (hi : i < N) (hd : decode bs pc = .ok (.lastore, 1)) (pc' : Nat) (hp : pc' = pc + 1) (hna : n0 ≤ a) (g : ∀ h', Wr h h' a i (.long x) → Ary Z h' a .long N (updA f i (.long x)) → Go p l e R s m args below meth c n0 Q h' cells slots pc' L st) : Go p l e R s m args below meth c n0 Q h cells slots pc L (.long x :: .int j :: .ref a :: st) := fun T locs X eh N' => by
  subst hp
  have A0 := A
  obtain ⟨q0, cl, A1, A2, A3⟩ := A
  obtain ⟨T1, h1, X1, e1, W1, st1⟩ := stJ X C.1 C.2.2.1 eh A1 (hj.inb hi A2) (g := mkF m pc L (.long x :: .int j :: .ref a :: st)) rfl rfl (hb C.2.1 hd)
  have W2 : Wr h h1 a i (.long x) := by have := W1; rw [hj.2] at this; exact this
  obtain ⟨s2, u, L', x1, x2⟩ := g h1 W2 (A0.set W2) T1 _ X1 e1 (Fr.snoc X1 N' hna)
  exact ⟨s2, u, L', st1 _ x1, x2⟩
theorem g_castore (C : Ctx p l e R s m args below meth c Z own nm bs ml rt) {a : Addr} {N : Nat} {f : Nat → Value} {j : Int32} {x : Int32} (A : Ary Z h a .char N f) (i : Nat) (hj : Ix j i) (hi : i < N) (hd : decode bs pc = .ok (.castore, 1)) (pc' : Nat) (hp : pc' = pc + 1) (hna : n0 ≤ a) (g : ∀ h', Wr h h' a i (.int (nar .char x)) → Ary Z h' a .char N (updA f i (.int (nar .char x))) → Go p l e R s m args below meth c n0 Q h' cells slots pc' L st) : Go p l e R s m args below meth c n0 Q h cells slots pc L (.int x :: .int j :: .ref a :: st) := fun T locs X eh N' => by
  subst hp
  have A0 := A
  obtain ⟨q0, cl, A1, A2, A3⟩ := A
  obtain ⟨T1, h1, X1, e1, W1, st1⟩ := stC X C.1 C.2.2.1 eh A1 (hj.inb hi A2) (g := mkF m pc L (.int x :: .int j :: .ref a :: st)) rfl rfl (hb C.2.1 hd)
  have W2 : Wr h h1 a i (.int (nar .char x)) := by have := W1; rw [hj.2] at this; exact this
  obtain ⟨s2, u, L', x1, x2⟩ := g h1 W2 (A0.set W2) T1 _ X1 e1 (Fr.snoc X1 N' hna)
  exact ⟨s2, u, L', st1 _ x1, x2⟩
theorem g_bastore (C : Ctx p l e R s m args below meth c Z own nm bs ml rt) {a : Addr} {N : Nat} {f : Nat → Value} {j : Int32} {x : Int32} (A : Ary Z h a .byte N f) (i : Nat) (hj : Ix j i) (hi : i < N) (hd : decode bs pc = .ok (.bastore, 1)) (pc' : Nat) (hp : pc' = pc + 1) (hna : n0 ≤ a) (g : ∀ h', Wr h h' a i (.int (nar .byte x)) → Ary Z h' a .byte N (updA f i (.int (nar .byte x))) → Go p l e R s m args below meth c n0 Q h' cells slots pc' L st) : Go p l e R s m args below meth c n0 Q h cells slots pc L (.int x :: .int j :: .ref a :: st) := fun T locs X eh N' => by
  subst hp
  have A0 := A
  obtain ⟨q0, cl, A1, A2, A3⟩ := A
  obtain ⟨T1, h1, X1, e1, W1, st1⟩ := stB X C.1 C.2.2.1 eh A1 (hj.inb hi A2) (g := mkF m pc L (.int x :: .int j :: .ref a :: st)) rfl rfl (hb C.2.1 hd)
  have W2 : Wr h h1 a i (.int (nar .byte x)) := by have := W1; rw [hj.2] at this; exact this
  obtain ⟨s2, u, L', x1, x2⟩ := g h1 W2 (A0.set W2) T1 _ X1 e1 (Fr.snoc X1 N' hna)
  exact ⟨s2, u, L', st1 _ x1, x2⟩
theorem g_arraylength (C : Ctx p l e R s m args below meth c Z own nm bs ml rt) {a : Addr} {ty : FieldType} {N : Nat} {f : Nat → Value} (A : Ary Z h a ty N f) (z : Int32) (hz : Ix z N) (hd : decode bs pc = .ok (.arraylength, 1)) (pc' : Nat) (hp : pc' = pc + 1) (g : Go p l e R s m args below meth c n0 Q h cells slots pc' L (.int z :: st)) : Go p l e R s m args below meth c n0 Q h cells slots pc L (.ref a :: st) := by
  subst hp
  obtain ⟨q0, cl, A1, A2, A3⟩ := A
  have hl : cl.slots.size.toInt32 = z := len_of (A2.trans hz.2.symm) hz.1
  exact step (fun T locs X eh t k => X.arraylength C.1 (by rw [eh]; exact A1.1) (State.isArrayOf_alike C.2.2.1.alike A1.2.1) (g := mkF m pc L (.ref a :: st)) rfl rfl (hb C.2.1 hd) _ (by rw [hl]; exact k)) g
theorem g_newarray (C : Ctx p l e R s m args below meth c Z own nm bs ml rt) {aty : ArrayType} {n : Int32} (w : (Jvm.Cond.arrayClass (newarray.typeOf aty)).before a0 Z = true) (N cap : Nat) (hn : Ix n N) (hN : N ≤ cap) (hb8 : cap * 8 ≤ 536870912) (hd : decode bs pc = .ok (.newarray aty, 2)) (pc' : Nat) (hp : pc' = pc + 2) (cells' slots' : Nat) (hc' : cells' = cells + 1) (hs' : slots' = slots + cap) (hc : cells' ≤ R.cells) (hs : slots' ≤ R.slots) (g : ∀ h' a, a = h.size → Ext h h' → Ary Z h' a (newarray.typeOf aty) N (fun _ => defaultValue (newarray.typeOf aty)) → Go p l e R s m args below meth c n0 Q h' cells' slots' pc' L (.ref a :: st)) : Go p l e R s m args below meth c n0 Q h cells slots pc L (.int n :: st) := fun T locs X eh N' => by
  subst hp hc' hs'
  obtain ⟨T1, h1, cA, X1, e1, E1, A1, st1⟩ := newP X C.1 C.2.2.1 w eh (g := mkF m pc L (.int n :: st)) rfl (hb C.2.1 hd) rfl hn.1 (cap := cap) (by rw [hn.2]; exact hN) hb8 hc hs
  obtain ⟨s2, u, L', x1, x2⟩ := g h1 _ rfl E1 ⟨by omega, _, A1, by rw [sz_new, hn.2], fun j hj => by simp [newA, hn.2, hj]⟩ T1 _ X1 e1 N'
  exact ⟨s2, u, L', st1 _ x1, x2⟩
theorem c_static0 (C : Ctx p l e R s m args below meth c Z own nm bs ml rt) {i : Nat} {y : MethodName} {cb : ByteArray} {cm : Nat} {cr : Option FieldType} {rm : Room} {Q' : Option Value → Heap → Prop} (argsL rest : List Value) (w1 : (Jvm.Cond.methodLink own i y).before a0 Z = true) (w2 : (Jvm.Cond.static y).before a0 Z = true) (w3 : (Jvm.Cond.initialized y.cls).before a0 Z = true) (w4 : (Jvm.Cond.code y cb cm cr).before a0 Z = true) (hy : y.cls ≠ "java/lang/invoke/MethodHandle" ∧ y.cls ≠ "java/lang/invoke/VarHandle") (hM : Met l Z y cb cm cr rm argsL.toArray h n0 Q') (hd : decode bs pc = .ok (.invokestatic i, 3)) (pc' : Nat) (hp : pc' = pc + 3) (hlen : ∀ sig, parseMethodDescriptor y.desc = some sig → argsL.length = sig.parameters.length) (hL : L.size = ml) (W : Nat) (hW : 2 * 0 + (rest.map fun v => v.category).sum ≤ W) (hf : rm.frames + 1 ≤ R.frames) (hl : W + (cm + 11) + rm.locals ≤ R.locals) (cells' slots' : Nat) (hc' : cells' = cells + rm.cells) (hs' : slots' = slots + rm.slots) (hc : cells' ≤ R.cells) (hs : slots' ≤ R.slots) (g : ∀ v h', Q' v h' → Go p l e R s m args below meth c n0 Q h' cells' slots' pc' L (v.toList ++ rest)) : Go p l e R s m args below meth c n0 Q h cells slots pc L (argsL.reverse ++ rest) := fun T locs X eh N => by
  subst hp hc' hs'
  obtain ⟨v, _, ⟨U1, L1, k1, n1⟩, -, X1, ⟨Lc, hQ, l1, y1, z1⟩, st1⟩ := Jvm.LawKit.callS X C.1 (y := y) C.2.2.2.1 (mvT C.2.2.1 w1) (mvT C.2.2.1 w2) (mvT C.2.2.1 w3) (mvT C.2.2.1 w4) hy (backOf (W := W) (Q := fun v h L => Q' v h ∧ Fr n0 L) (hM []) C.2.2.1 w4 w3 hf hl) (g := mkF m pc L (argsL.reverse ++ rest)) rfl (hL.trans C.2.2.2.2.1.symm) (argsL := argsL) (rest := rest) hlen rfl hW (hb C.2.1 hd) (fun _ _ => ⟨rfl, eh, hc, hs⟩)
  dsimp only [Pt.U, Pt.locs, Pt.cells, Pt.slots] at X1 l1 y1 z1 st1 hQ
  subst l1 y1 z1
  obtain ⟨s2, u, L', x1, x2⟩ := g v U1.heap hQ.1 U1 _ X1 rfl (Fr.app N hQ.2)
  exact ⟨s2, u, L', st1 _ x1, x2⟩
theorem c_special0 (C : Ctx p l e R s m args below meth c Z own nm bs ml rt) {i : Nat} {y : MethodName} {cb : ByteArray} {cm : Nat} {rm : Room} {Q' : Option Value → Heap → Prop} (a : Addr) (argsL rest : List Value) (hin : y.name = "<init>") (w1 : (Jvm.Cond.methodLink own i y).before a0 Z = true) (w2 : (Jvm.Cond.instanceMethod y).before a0 Z = true) (w3 : (Jvm.Cond.initialized y.cls).before a0 Z = true) (w4 : (Jvm.Cond.code y cb cm none).before a0 Z = true) (hy : y.cls ≠ "java/lang/invoke/MethodHandle" ∧ y.cls ≠ "java/lang/invoke/VarHandle") (hM : Met l Z y cb cm none rm (.ref a :: argsL).toArray h n0 Q') (hd : decode bs pc = .ok (.invokespecial i, 3)) (pc' : Nat) (hp : pc' = pc + 3) (hlen : ∀ sig, parseMethodDescriptor y.desc = some sig → argsL.length = sig.parameters.length) (hL : L.size = ml) (W : Nat) (hW : 2 * 0 + (rest.map fun v => v.category).sum ≤ W) (hf : rm.frames + 1 ≤ R.frames) (hl : W + (cm + 11) + rm.locals ≤ R.locals) (cells' slots' : Nat) (hc' : cells' = cells + rm.cells) (hs' : slots' = slots + rm.slots) (hc : cells' ≤ R.cells) (hs : slots' ≤ R.slots) (g : ∀ v h', Q' v h' → Go p l e R s m args below meth c n0 Q h' cells' slots' pc' L (v.toList ++ rest)) : Go p l e R s m args below meth c n0 Q h cells slots pc L (argsL.reverse ++ .ref a :: rest) := fun T locs X eh N => by
  subst hp hc' hs'
  obtain ⟨v, _, ⟨U1, L1, k1, n1⟩, -, X1, ⟨Lc, hQ, l1, y1, z1⟩, st1⟩ := X.specialBack C.1 (y := y) hin C.2.2.2.1 (mvT C.2.2.1 w1) (mvT C.2.2.1 w2) (mvT C.2.2.1 w4) hy (backOf (W := W) (Q := fun v h L => Q' v h ∧ Fr n0 L) (hM []) C.2.2.1 w4 w3 hf hl) (g := mkF m pc L (argsL.reverse ++ .ref a :: rest)) rfl (hL.trans C.2.2.2.2.1.symm) (Steps.refl _) (a := a) (argsL := argsL) (rest := rest) hlen rfl hW (hb C.2.1 hd) (fun _ _ => ⟨rfl, eh, hc, hs⟩)
  dsimp only [Pt.U, Pt.locs, Pt.cells, Pt.slots] at X1 l1 y1 z1 st1 hQ
  subst l1 y1 z1
  obtain ⟨s2, u, L', x1, x2⟩ := g v U1.heap hQ.1 U1 _ X1 rfl (Fr.app N hQ.2)
  exact ⟨s2, u, L', st1.trans x1, x2⟩
theorem c_virtual0 (C : Ctx p l e R s m args below meth c Z own nm bs ml rt) {i : Nat} {K : String} {y : MethodName} {cb : ByteArray} {cm : Nat} {cr : Option FieldType} {rm : Room} {Q' : Option Value → Heap → Prop} (a : Addr) (argsL rest : List Value) (w1 : (Jvm.Cond.methodLink own i y).before a0 Z = true) (wd : (Jvm.Cond.declares y).before a0 Z = true) (ws : (Jvm.Cond.selects K y y).before a0 Z = true) (w2 : (Jvm.Cond.instanceMethod y).before a0 Z = true) (w3 : (Jvm.Cond.initialized y.cls).before a0 Z = true) (w4 : (Jvm.Cond.code y cb cm cr).before a0 Z = true) (hy : y.cls ≠ "java/lang/invoke/MethodHandle" ∧ y.cls ≠ "java/lang/invoke/VarHandle") (E : Exa Z h a K) (hM : Met l Z y cb cm cr rm (.ref a :: argsL).toArray h n0 Q') (hd : decode bs pc = .ok (.invokevirtual i, 3)) (pc' : Nat) (hp : pc' = pc + 3) (hlen : ∀ sig, parseMethodDescriptor y.desc = some sig → argsL.length = sig.parameters.length) (hL : L.size = ml) (W : Nat) (hW : 2 * 0 + (rest.map fun v => v.category).sum ≤ W) (hf : rm.frames + 1 ≤ R.frames) (hl : W + (cm + 11) + rm.locals ≤ R.locals) (cells' slots' : Nat) (hc' : cells' = cells + rm.cells) (hs' : slots' = slots + rm.slots) (hc : cells' ≤ R.cells) (hs : slots' ≤ R.slots) (g : ∀ v h', Q' v h' → Go p l e R s m args below meth c n0 Q h' cells' slots' pc' L (v.toList ++ rest)) : Go p l e R s m args below meth c n0 Q h cells slots pc L (argsL.reverse ++ .ref a :: rest) := fun T locs X eh N => by
  subst hp hc' hs'
  obtain ⟨cq, kq, qa, qb, qc⟩ := isOf C.2.2.1 eh E
  obtain ⟨v, _, ⟨U1, L1, k1, n1⟩, -, X1, ⟨Lc, hQ, l1, y1, z1⟩, st1⟩ := X.virtualBack C.1 (y := y) (z := y) C.2.2.2.1 (mvT C.2.2.1 w1) (mvT C.2.2.1 wd) (notFace_of_selects (args := #[]) (mvT C.2.2.1 ws)) (mvT C.2.2.1 ws) (mvT C.2.2.1 w2) hy (backOf (W := W) (Q := fun v h L => Q' v h ∧ Fr n0 L) (hM []) C.2.2.1 w4 w3 hf hl) qa qc (g := mkF m pc L (argsL.reverse ++ .ref a :: rest)) rfl (hL.trans C.2.2.2.2.1.symm) (Steps.refl _) (argsL := argsL) (rest := rest) hlen rfl hW (hb C.2.1 hd) (fun _ _ => ⟨rfl, eh, hc, hs⟩)
  dsimp only [Pt.U, Pt.locs, Pt.cells, Pt.slots] at X1 l1 y1 z1 st1 hQ
  subst l1 y1 z1
  obtain ⟨s2, u, L', x1, x2⟩ := g v U1.heap hQ.1 U1 _ X1 rfl (Fr.app N hQ.2)
  exact ⟨s2, u, L', st1.trans x1, x2⟩
theorem c_staticI (C : Ctx p l e R s m args below meth c Z own nm bs ml rt) {i : Nat} {y : MethodName} {cb : ByteArray} {cm : Nat} {cr : Option FieldType} {rm : Room} {P' : Int32 → Heap → Prop} (argsL rest : List Value) (w1 : (Jvm.Cond.methodLink own i y).before a0 Z = true) (w2 : (Jvm.Cond.static y).before a0 Z = true) (w3 : (Jvm.Cond.initialized y.cls).before a0 Z = true) (w4 : (Jvm.Cond.code y cb cm cr).before a0 Z = true) (hy : y.cls ≠ "java/lang/invoke/MethodHandle" ∧ y.cls ≠ "java/lang/invoke/VarHandle") (hM : Met l Z y cb cm cr rm argsL.toArray h n0 (qI P')) (hd : decode bs pc = .ok (.invokestatic i, 3)) (pc' : Nat) (hp : pc' = pc + 3) (hlen : ∀ sig, parseMethodDescriptor y.desc = some sig → argsL.length = sig.parameters.length) (hL : L.size = ml) (W : Nat) (hW : 2 * 0 + (rest.map fun v => v.category).sum ≤ W) (hf : rm.frames + 1 ≤ R.frames) (hl : W + (cm + 11) + rm.locals ≤ R.locals) (cells' slots' : Nat) (hc' : cells' = cells + rm.cells) (hs' : slots' = slots + rm.slots) (hc : cells' ≤ R.cells) (hs : slots' ≤ R.slots) (hst : st = argsL.reverse ++ rest) (g : ∀ r h', P' r h' → Go p l e R s m args below meth c n0 Q h' cells' slots' pc' L (.int r :: rest)) : Go p l e R s m args below meth c n0 Q h cells slots pc L st := by
  subst hst
  exact c_static0 C argsL rest w1 w2 w3 w4 hy hM hd pc' hp hlen hL W hW hf hl cells' slots' hc' hs' hc hs (fun v h' hq => by obtain ⟨r, rfl, q⟩ := hq; exact g r h' q)
theorem c_staticJ (C : Ctx p l e R s m args below meth c Z own nm bs ml rt) {i : Nat} {y : MethodName} {cb : ByteArray} {cm : Nat} {cr : Option FieldType} {rm : Room} {P' : Int64 → Heap → Prop} (argsL rest : List Value) (w1 : (Jvm.Cond.methodLink own i y).before a0 Z = true) (w2 : (Jvm.Cond.static y).before a0 Z = true) (w3 : (Jvm.Cond.initialized y.cls).before a0 Z = true) (w4 : (Jvm.Cond.code y cb cm cr).before a0 Z = true) (hy : y.cls ≠ "java/lang/invoke/MethodHandle" ∧ y.cls ≠ "java/lang/invoke/VarHandle") (hM : Met l Z y cb cm cr rm argsL.toArray h n0 (qJ P')) (hd : decode bs pc = .ok (.invokestatic i, 3)) (pc' : Nat) (hp : pc' = pc + 3) (hlen : ∀ sig, parseMethodDescriptor y.desc = some sig → argsL.length = sig.parameters.length) (hL : L.size = ml) (W : Nat) (hW : 2 * 0 + (rest.map fun v => v.category).sum ≤ W) (hf : rm.frames + 1 ≤ R.frames) (hl : W + (cm + 11) + rm.locals ≤ R.locals) (cells' slots' : Nat) (hc' : cells' = cells + rm.cells) (hs' : slots' = slots + rm.slots) (hc : cells' ≤ R.cells) (hs : slots' ≤ R.slots) (hst : st = argsL.reverse ++ rest) (g : ∀ r h', P' r h' → Go p l e R s m args below meth c n0 Q h' cells' slots' pc' L (.long r :: rest)) : Go p l e R s m args below meth c n0 Q h cells slots pc L st := by
  subst hst
  exact c_static0 C argsL rest w1 w2 w3 w4 hy hM hd pc' hp hlen hL W hW hf hl cells' slots' hc' hs' hc hs (fun v h' hq => by obtain ⟨r, rfl, q⟩ := hq; exact g r h' q)
theorem c_staticA (C : Ctx p l e R s m args below meth c Z own nm bs ml rt) {i : Nat} {y : MethodName} {cb : ByteArray} {cm : Nat} {cr : Option FieldType} {rm : Room} {P' : Addr → Heap → Prop} (argsL rest : List Value) (w1 : (Jvm.Cond.methodLink own i y).before a0 Z = true) (w2 : (Jvm.Cond.static y).before a0 Z = true) (w3 : (Jvm.Cond.initialized y.cls).before a0 Z = true) (w4 : (Jvm.Cond.code y cb cm cr).before a0 Z = true) (hy : y.cls ≠ "java/lang/invoke/MethodHandle" ∧ y.cls ≠ "java/lang/invoke/VarHandle") (hM : Met l Z y cb cm cr rm argsL.toArray h n0 (qA P')) (hd : decode bs pc = .ok (.invokestatic i, 3)) (pc' : Nat) (hp : pc' = pc + 3) (hlen : ∀ sig, parseMethodDescriptor y.desc = some sig → argsL.length = sig.parameters.length) (hL : L.size = ml) (W : Nat) (hW : 2 * 0 + (rest.map fun v => v.category).sum ≤ W) (hf : rm.frames + 1 ≤ R.frames) (hl : W + (cm + 11) + rm.locals ≤ R.locals) (cells' slots' : Nat) (hc' : cells' = cells + rm.cells) (hs' : slots' = slots + rm.slots) (hc : cells' ≤ R.cells) (hs : slots' ≤ R.slots) (hst : st = argsL.reverse ++ rest) (g : ∀ r h', P' r h' → Go p l e R s m args below meth c n0 Q h' cells' slots' pc' L (.ref r :: rest)) : Go p l e R s m args below meth c n0 Q h cells slots pc L st := by
  subst hst
  exact c_static0 C argsL rest w1 w2 w3 w4 hy hM hd pc' hp hlen hL W hW hf hl cells' slots' hc' hs' hc hs (fun v h' hq => by obtain ⟨r, rfl, q⟩ := hq; exact g r h' q)
theorem c_staticV (C : Ctx p l e R s m args below meth c Z own nm bs ml rt) {i : Nat} {y : MethodName} {cb : ByteArray} {cm : Nat} {cr : Option FieldType} {rm : Room} {P' : Heap → Prop} (argsL rest : List Value) (w1 : (Jvm.Cond.methodLink own i y).before a0 Z = true) (w2 : (Jvm.Cond.static y).before a0 Z = true) (w3 : (Jvm.Cond.initialized y.cls).before a0 Z = true) (w4 : (Jvm.Cond.code y cb cm cr).before a0 Z = true) (hy : y.cls ≠ "java/lang/invoke/MethodHandle" ∧ y.cls ≠ "java/lang/invoke/VarHandle") (hM : Met l Z y cb cm cr rm argsL.toArray h n0 (qV P')) (hd : decode bs pc = .ok (.invokestatic i, 3)) (pc' : Nat) (hp : pc' = pc + 3) (hlen : ∀ sig, parseMethodDescriptor y.desc = some sig → argsL.length = sig.parameters.length) (hL : L.size = ml) (W : Nat) (hW : 2 * 0 + (rest.map fun v => v.category).sum ≤ W) (hf : rm.frames + 1 ≤ R.frames) (hl : W + (cm + 11) + rm.locals ≤ R.locals) (cells' slots' : Nat) (hc' : cells' = cells + rm.cells) (hs' : slots' = slots + rm.slots) (hc : cells' ≤ R.cells) (hs : slots' ≤ R.slots) (hst : st = argsL.reverse ++ rest) (g : ∀ h', P' h' → Go p l e R s m args below meth c n0 Q h' cells' slots' pc' L rest) : Go p l e R s m args below meth c n0 Q h cells slots pc L st := by
  subst hst
  exact c_static0 C argsL rest w1 w2 w3 w4 hy hM hd pc' hp hlen hL W hW hf hl cells' slots' hc' hs' hc hs (fun v h' hq => by obtain ⟨rfl, q⟩ := hq; exact g h' q)
theorem c_specialV (C : Ctx p l e R s m args below meth c Z own nm bs ml rt) {i : Nat} {y : MethodName} {cb : ByteArray} {cm : Nat} {rm : Room} {P' : Heap → Prop} (a : Addr) (argsL rest : List Value) (hin : y.name = "<init>") (w1 : (Jvm.Cond.methodLink own i y).before a0 Z = true) (w2 : (Jvm.Cond.instanceMethod y).before a0 Z = true) (w3 : (Jvm.Cond.initialized y.cls).before a0 Z = true) (w4 : (Jvm.Cond.code y cb cm none).before a0 Z = true) (hy : y.cls ≠ "java/lang/invoke/MethodHandle" ∧ y.cls ≠ "java/lang/invoke/VarHandle") (hM : Met l Z y cb cm none rm (.ref a :: argsL).toArray h n0 (qV P')) (hd : decode bs pc = .ok (.invokespecial i, 3)) (pc' : Nat) (hp : pc' = pc + 3) (hlen : ∀ sig, parseMethodDescriptor y.desc = some sig → argsL.length = sig.parameters.length) (hL : L.size = ml) (W : Nat) (hW : 2 * 0 + (rest.map fun v => v.category).sum ≤ W) (hf : rm.frames + 1 ≤ R.frames) (hl : W + (cm + 11) + rm.locals ≤ R.locals) (cells' slots' : Nat) (hc' : cells' = cells + rm.cells) (hs' : slots' = slots + rm.slots) (hc : cells' ≤ R.cells) (hs : slots' ≤ R.slots) (hst : st = argsL.reverse ++ .ref a :: rest) (g : ∀ h', P' h' → Go p l e R s m args below meth c n0 Q h' cells' slots' pc' L rest) : Go p l e R s m args below meth c n0 Q h cells slots pc L st := by
  subst hst
  exact c_special0 C a argsL rest hin w1 w2 w3 w4 hy hM hd pc' hp hlen hL W hW hf hl cells' slots' hc' hs' hc hs (fun v h' hq => by obtain ⟨rfl, q⟩ := hq; exact g h' q)
theorem c_virtualI (C : Ctx p l e R s m args below meth c Z own nm bs ml rt) {i : Nat} {K : String} {y : MethodName} {cb : ByteArray} {cm : Nat} {cr : Option FieldType} {rm : Room} {P' : Int32 → Heap → Prop} (a : Addr) (argsL rest : List Value) (w1 : (Jvm.Cond.methodLink own i y).before a0 Z = true) (wd : (Jvm.Cond.declares y).before a0 Z = true) (ws : (Jvm.Cond.selects K y y).before a0 Z = true) (w2 : (Jvm.Cond.instanceMethod y).before a0 Z = true) (w3 : (Jvm.Cond.initialized y.cls).before a0 Z = true) (w4 : (Jvm.Cond.code y cb cm cr).before a0 Z = true) (hy : y.cls ≠ "java/lang/invoke/MethodHandle" ∧ y.cls ≠ "java/lang/invoke/VarHandle") (E : Exa Z h a K) (hM : Met l Z y cb cm cr rm (.ref a :: argsL).toArray h n0 (qI P')) (hd : decode bs pc = .ok (.invokevirtual i, 3)) (pc' : Nat) (hp : pc' = pc + 3) (hlen : ∀ sig, parseMethodDescriptor y.desc = some sig → argsL.length = sig.parameters.length) (hL : L.size = ml) (W : Nat) (hW : 2 * 0 + (rest.map fun v => v.category).sum ≤ W) (hf : rm.frames + 1 ≤ R.frames) (hl : W + (cm + 11) + rm.locals ≤ R.locals) (cells' slots' : Nat) (hc' : cells' = cells + rm.cells) (hs' : slots' = slots + rm.slots) (hc : cells' ≤ R.cells) (hs : slots' ≤ R.slots) (hst : st = argsL.reverse ++ .ref a :: rest) (g : ∀ r h', P' r h' → Go p l e R s m args below meth c n0 Q h' cells' slots' pc' L (.int r :: rest)) : Go p l e R s m args below meth c n0 Q h cells slots pc L st := by
  subst hst
  exact c_virtual0 C a argsL rest w1 wd ws w2 w3 w4 hy E hM hd pc' hp hlen hL W hW hf hl cells' slots' hc' hs' hc hs (fun v h' hq => by obtain ⟨r, rfl, q⟩ := hq; exact g r h' q)
theorem c_virtualJ (C : Ctx p l e R s m args below meth c Z own nm bs ml rt) {i : Nat} {K : String} {y : MethodName} {cb : ByteArray} {cm : Nat} {cr : Option FieldType} {rm : Room} {P' : Int64 → Heap → Prop} (a : Addr) (argsL rest : List Value) (w1 : (Jvm.Cond.methodLink own i y).before a0 Z = true) (wd : (Jvm.Cond.declares y).before a0 Z = true) (ws : (Jvm.Cond.selects K y y).before a0 Z = true) (w2 : (Jvm.Cond.instanceMethod y).before a0 Z = true) (w3 : (Jvm.Cond.initialized y.cls).before a0 Z = true) (w4 : (Jvm.Cond.code y cb cm cr).before a0 Z = true) (hy : y.cls ≠ "java/lang/invoke/MethodHandle" ∧ y.cls ≠ "java/lang/invoke/VarHandle") (E : Exa Z h a K) (hM : Met l Z y cb cm cr rm (.ref a :: argsL).toArray h n0 (qJ P')) (hd : decode bs pc = .ok (.invokevirtual i, 3)) (pc' : Nat) (hp : pc' = pc + 3) (hlen : ∀ sig, parseMethodDescriptor y.desc = some sig → argsL.length = sig.parameters.length) (hL : L.size = ml) (W : Nat) (hW : 2 * 0 + (rest.map fun v => v.category).sum ≤ W) (hf : rm.frames + 1 ≤ R.frames) (hl : W + (cm + 11) + rm.locals ≤ R.locals) (cells' slots' : Nat) (hc' : cells' = cells + rm.cells) (hs' : slots' = slots + rm.slots) (hc : cells' ≤ R.cells) (hs : slots' ≤ R.slots) (hst : st = argsL.reverse ++ .ref a :: rest) (g : ∀ r h', P' r h' → Go p l e R s m args below meth c n0 Q h' cells' slots' pc' L (.long r :: rest)) : Go p l e R s m args below meth c n0 Q h cells slots pc L st := by
  subst hst
  exact c_virtual0 C a argsL rest w1 wd ws w2 w3 w4 hy E hM hd pc' hp hlen hL W hW hf hl cells' slots' hc' hs' hc hs (fun v h' hq => by obtain ⟨r, rfl, q⟩ := hq; exact g r h' q)
theorem c_virtualA (C : Ctx p l e R s m args below meth c Z own nm bs ml rt) {i : Nat} {K : String} {y : MethodName} {cb : ByteArray} {cm : Nat} {cr : Option FieldType} {rm : Room} {P' : Addr → Heap → Prop} (a : Addr) (argsL rest : List Value) (w1 : (Jvm.Cond.methodLink own i y).before a0 Z = true) (wd : (Jvm.Cond.declares y).before a0 Z = true) (ws : (Jvm.Cond.selects K y y).before a0 Z = true) (w2 : (Jvm.Cond.instanceMethod y).before a0 Z = true) (w3 : (Jvm.Cond.initialized y.cls).before a0 Z = true) (w4 : (Jvm.Cond.code y cb cm cr).before a0 Z = true) (hy : y.cls ≠ "java/lang/invoke/MethodHandle" ∧ y.cls ≠ "java/lang/invoke/VarHandle") (E : Exa Z h a K) (hM : Met l Z y cb cm cr rm (.ref a :: argsL).toArray h n0 (qA P')) (hd : decode bs pc = .ok (.invokevirtual i, 3)) (pc' : Nat) (hp : pc' = pc + 3) (hlen : ∀ sig, parseMethodDescriptor y.desc = some sig → argsL.length = sig.parameters.length) (hL : L.size = ml) (W : Nat) (hW : 2 * 0 + (rest.map fun v => v.category).sum ≤ W) (hf : rm.frames + 1 ≤ R.frames) (hl : W + (cm + 11) + rm.locals ≤ R.locals) (cells' slots' : Nat) (hc' : cells' = cells + rm.cells) (hs' : slots' = slots + rm.slots) (hc : cells' ≤ R.cells) (hs : slots' ≤ R.slots) (hst : st = argsL.reverse ++ .ref a :: rest) (g : ∀ r h', P' r h' → Go p l e R s m args below meth c n0 Q h' cells' slots' pc' L (.ref r :: rest)) : Go p l e R s m args below meth c n0 Q h cells slots pc L st := by
  subst hst
  exact c_virtual0 C a argsL rest w1 wd ws w2 w3 w4 hy E hM hd pc' hp hlen hL W hW hf hl cells' slots' hc' hs' hc hs (fun v h' hq => by obtain ⟨r, rfl, q⟩ := hq; exact g r h' q)
theorem c_virtualV (C : Ctx p l e R s m args below meth c Z own nm bs ml rt) {i : Nat} {K : String} {y : MethodName} {cb : ByteArray} {cm : Nat} {cr : Option FieldType} {rm : Room} {P' : Heap → Prop} (a : Addr) (argsL rest : List Value) (w1 : (Jvm.Cond.methodLink own i y).before a0 Z = true) (wd : (Jvm.Cond.declares y).before a0 Z = true) (ws : (Jvm.Cond.selects K y y).before a0 Z = true) (w2 : (Jvm.Cond.instanceMethod y).before a0 Z = true) (w3 : (Jvm.Cond.initialized y.cls).before a0 Z = true) (w4 : (Jvm.Cond.code y cb cm cr).before a0 Z = true) (hy : y.cls ≠ "java/lang/invoke/MethodHandle" ∧ y.cls ≠ "java/lang/invoke/VarHandle") (E : Exa Z h a K) (hM : Met l Z y cb cm cr rm (.ref a :: argsL).toArray h n0 (qV P')) (hd : decode bs pc = .ok (.invokevirtual i, 3)) (pc' : Nat) (hp : pc' = pc + 3) (hlen : ∀ sig, parseMethodDescriptor y.desc = some sig → argsL.length = sig.parameters.length) (hL : L.size = ml) (W : Nat) (hW : 2 * 0 + (rest.map fun v => v.category).sum ≤ W) (hf : rm.frames + 1 ≤ R.frames) (hl : W + (cm + 11) + rm.locals ≤ R.locals) (cells' slots' : Nat) (hc' : cells' = cells + rm.cells) (hs' : slots' = slots + rm.slots) (hc : cells' ≤ R.cells) (hs : slots' ≤ R.slots) (hst : st = argsL.reverse ++ .ref a :: rest) (g : ∀ h', P' h' → Go p l e R s m args below meth c n0 Q h' cells' slots' pc' L rest) : Go p l e R s m args below meth c n0 Q h cells slots pc L st := by
  subst hst
  exact c_virtual0 C a argsL rest w1 wd ws w2 w3 w4 hy E hM hd pc' hp hlen hL W hW hf hl cells' slots' hc' hs' hc hs (fun v h' hq => by obtain ⟨rfl, q⟩ := hq; exact g h' q)
end OwnBase
end Jvm.Pilot.@@N@@.OwnW
namespace Jvm.Pilot.@@N@@
open Jvm Jvm.ClassFile Sem Op Lib Jvm.Free Jvm.Stand Jvm.LawKit Jvm.RoadKit Jvm.Pilot.@@N@@.OwnW Bundle Jvm.Pilot.@@N@@.Jvm.D
def ends (oc : Nat → Int32) (j : Nat) : Prop := oc j = 10 ∧ (oc (j - 1) = 10 ∨ (2 ≤ j ∧ oc (j - 1) = 13 ∧ oc (j - 2) = 10))
def TL (oc : Nat → Int32) (i : Nat) (le ll cr : Int32) : Prop := ∃ w, w ≤ i ∧ (∀ j, i - w ≤ j → j < i → ¬ oc j = 10) ∧ ((w = i ∧ le = 0) ∨ (w < i ∧ oc (i - w - 1) = 10 ∧ le = 1)) ∧ ((cr = 1 ∧ 0 < w ∧ oc (i - 1) = 13 ∧ Ix ll (w - 1)) ∨ (cr = 0 ∧ (0 < w → ¬ oc (i - 1) = 13) ∧ Ix ll w))
def NE (oc : Nat → Int32) (i : Nat) : Prop := ∀ j, 1 ≤ j → j < i → ¬ ends oc j
def INV (oc : Nat → Int32) (i : Nat) (cp le ll cr : Int32) : Prop := (cp = 1 ∧ ∃ j, 1 ≤ j ∧ j < i ∧ ends oc j) ∨ (cp = 0 ∧ NE oc i ∧ TL oc i le ll cr)
theorem INV.start (oc : Nat → Int32) : INV oc 0 0 0 0 0 := Or.inr ⟨rfl, fun j h1 h2 => absurd h2 (by omega), 0, by omega, fun j h1 h2 => absurd h2 (by omega), Or.inl ⟨rfl, rfl⟩, Or.inr ⟨rfl, fun h => absurd h (by omega), by decide, by decide⟩⟩
theorem INV.bool {oc : Nat → Int32} {i : Nat} {cp le ll cr : Int32} (q : INV oc i cp le ll cr) : cp = 0 ∨ cp = 1 := q.elim (fun q => Or.inr q.1) (fun q => Or.inl q.1)
theorem INV.run {oc : Nat → Int32} {i : Nat} {cp le ll cr : Int32} (q : INV oc i cp le ll cr) (k : cp = 0) : NE oc i ∧ TL oc i le ll cr := by
  rcases q with ⟨q, -⟩ | ⟨-, q⟩
  · rw [k] at q; exact absurd q (by decide)
  · exact q
theorem INV.done {oc : Nat → Int32} {i n : Nat} {cp le ll cr : Int32} (q : INV oc i cp le ll cr) (k : ¬ cp = 0) (h : i ≤ n) : INV oc n cp le ll cr := by
  rcases q with ⟨q, j, h1, h2, h3⟩ | ⟨q, -⟩
  · exact Or.inl ⟨q, j, h1, by omega, h3⟩
  · exact absurd q k
theorem own_ix0 {x : Int32} {n : Nat} (h : Ix x n) : x = 0 ↔ n = 0 := h.eq (b := 0) (j := 0) ⟨by decide, by decide⟩
theorem INV.hit {oc : Nat → Int32} {i : Nat} {le ll cr : Int32} (t : TL oc i le ll cr) (x : oc i = 10) (k1 : ¬ le = 0) (k2 : ll = 0) : INV oc (i + 1) 1 1 0 0 := by
  obtain ⟨w, hw, hr, hl, hc⟩ := t
  rcases hl with ⟨-, hl⟩ | ⟨hl1, hl2, -⟩
  · exact absurd hl k1
  · refine Or.inl ⟨rfl, i, by omega, by omega, x, ?_⟩
    rcases hc with ⟨-, h1, h2, h3⟩ | ⟨-, -, h3⟩
    · have h4 := (own_ix0 h3).mp k2
      have h5 : w = 1 := by omega
      subst h5
      have e2 : i - 1 - 1 = i - 2 := by omega
      rw [e2] at hl2
      exact Or.inr ⟨by omega, h2, hl2⟩
    · have h4 := (own_ix0 h3).mp k2
      subst h4
      exact Or.inl hl2
theorem TL.lf {oc : Nat → Int32} {i : Nat} (x : oc i = 10) : TL oc (i + 1) 1 0 0 := ⟨0, by omega, fun j h1 h2 => absurd h2 (by omega), Or.inr ⟨by omega, x, rfl⟩, Or.inr ⟨rfl, fun h => absurd h (by omega), by decide, by decide⟩⟩
theorem NE.more {oc : Nat → Int32} {i : Nat} (h : NE oc i) (q : 1 ≤ i → ¬ ends oc i) : NE oc (i + 1) := fun j h1 h2 => by
  by_cases e : j = i
  · rw [e]; exact q (by omega)
  · exact h j h1 (by omega)
theorem INV.miss {oc : Nat → Int32} {i : Nat} {le ll cr : Int32} (n : NE oc i) (t : TL oc i le ll cr) (x : oc i = 10) (k : le = 0 ∨ ¬ ll = 0) : INV oc (i + 1) 0 1 0 0 := by
  refine Or.inr ⟨rfl, n.more (fun h1 h2 => ?_), TL.lf x⟩
  obtain ⟨w, hw, hr, hl, hc⟩ := t
  have fin : le = 1 → ll = 0 → False := fun e1 e2 => by
    rcases k with k | k
    · rw [e1] at k; exact absurd k (by decide)
    · exact k e2
  rcases h2.2 with h3 | ⟨h3, h4, h5⟩
  · have hw0 : w = 0 := by
      rcases Nat.eq_zero_or_pos w with h | h
      · exact h
      · exact absurd h3 (hr (i - 1) (by omega) (by omega))
    rcases hl with ⟨hl, -⟩ | ⟨-, -, hl⟩
    · omega
    · rcases hc with ⟨-, h, -⟩ | ⟨-, -, h⟩
      · omega
      · exact fin hl ((own_ix0 h).mpr hw0)
  · have hw1 : w = 1 := by
      rcases Nat.lt_or_ge 1 w with h | h
      · exact absurd h5 (hr (i - 2) (by omega) (by omega))
      · rcases Nat.eq_zero_or_pos w with h0 | h0
        · rcases hl with ⟨hl, -⟩ | ⟨-, hl, -⟩
          · omega
          · rw [h0] at hl
            have : i - 0 - 1 = i - 1 := by omega
            rw [this, h4] at hl
            exact absurd hl (by decide)
        · omega
    rcases hl with ⟨hl, -⟩ | ⟨-, -, hl⟩
    · omega
    · rcases hc with ⟨-, -, -, h⟩ | ⟨-, h, -⟩
      · exact fin hl ((own_ix0 h).mpr (by omega))
      · exact absurd h4 (h (by omega))
theorem own_grow {oc : Nat → Int32} {i w : Nat} {le : Int32} (x : ¬ oc i = 10) (hw : w ≤ i) (hr : ∀ j, i - w ≤ j → j < i → ¬ oc j = 10) (hl : (w = i ∧ le = 0) ∨ (w < i ∧ oc (i - w - 1) = 10 ∧ le = 1)) :
    (∀ j, i + 1 - (w + 1) ≤ j → j < i + 1 → ¬ oc j = 10) ∧ ((w + 1 = i + 1 ∧ le = 0) ∨ (w + 1 < i + 1 ∧ oc (i + 1 - (w + 1) - 1) = 10 ∧ le = 1)) := by
  refine ⟨fun j h1 h2 => ?_, ?_⟩
  · by_cases e : j = i
    · rw [e]; exact x
    · exact hr j (by omega) (by omega)
  · have e : i + 1 - (w + 1) - 1 = i - w - 1 := by omega
    rw [e]
    rcases hl with ⟨h1, h2⟩ | ⟨h1, h2, h3⟩
    · exact Or.inl ⟨by omega, h2⟩
    · exact Or.inr ⟨by omega, h2, h3⟩
theorem INV.cr {oc : Nat → Int32} {i : Nat} {le ll cr u : Int32} (n : NE oc i) (t : TL oc i le ll cr) (x : oc i = 13) (hi : i < 1000) (hu : (cr = 0 ∧ u = 0) ∨ (¬ cr = 0 ∧ u = 1)) : INV oc (i + 1) 0 le (ll + (u + 0)) 1 := by
  obtain ⟨w, hw, hr, hl, hc⟩ := t
  have x' : ¬ oc i = 10 := by rw [x]; decide
  obtain ⟨g1, g2⟩ := own_grow x' hw hr hl
  have e1 : i + 1 - 1 = i := by omega
  refine Or.inr ⟨rfl, n.more (fun _ h => x' h.1), w + 1, by omega, g1, g2, Or.inl ⟨rfl, by omega, (by rw [e1]; exact x), ?_⟩⟩
  rcases hc with ⟨c1, c2, -, c4⟩ | ⟨c1, -, c4⟩
  · rcases hu with ⟨h1, -⟩ | ⟨-, rfl⟩
    · rw [c1] at h1; exact absurd h1 (by decide)
    · have h5 := c4.add (b := 1 + 0) (j := 1) ⟨by decide, by decide⟩ (by omega)
      have e : w + 1 - 1 = w - 1 + 1 := by omega
      rw [e]; exact h5
  · rcases hu with ⟨-, rfl⟩ | ⟨h1, -⟩
    · have h5 := c4.add (b := 0 + 0) (j := 0) ⟨by decide, by decide⟩ (by omega)
      exact h5
    · exact absurd c1 h1
theorem INV.oth {oc : Nat → Int32} {i : Nat} {le ll cr u : Int32} (n : NE oc i) (t : TL oc i le ll cr) (x' : ¬ oc i = 10) (x : ¬ oc i = 13) (hi : i < 1000) (hu : (cr = 0 ∧ u = 0) ∨ (¬ cr = 0 ∧ u = 1)) : INV oc (i + 1) 0 le (ll + (u + 1)) 0 := by
  obtain ⟨w, hw, hr, hl, hc⟩ := t
  obtain ⟨g1, g2⟩ := own_grow x' hw hr hl
  have e1 : i + 1 - 1 = i := by omega
  refine Or.inr ⟨rfl, n.more (fun _ h => x' h.1), w + 1, by omega, g1, g2, Or.inr ⟨rfl, fun _ => (by rw [e1]; exact x), ?_⟩⟩
  rcases hc with ⟨c1, c2, -, c4⟩ | ⟨c1, -, c4⟩
  · rcases hu with ⟨h1, -⟩ | ⟨-, rfl⟩
    · rw [c1] at h1; exact absurd h1 (by decide)
    · have h5 := c4.add (b := 1 + 1) (j := 2) ⟨by decide, by decide⟩ (by omega)
      have e : w + 1 = w - 1 + 2 := by omega
      rw [e]; exact h5
  · rcases hu with ⟨-, rfl⟩ | ⟨h1, -⟩
    · have h5 := c4.add (b := 0 + 1) (j := 1) ⟨by decide, by decide⟩ (by omega)
      exact h5
    · exact absurd c1 h1
def WT (oc : Nat → Int32) (n : Nat) (r : Int32) : Prop := (r = 1 ∧ ∃ j, 1 ≤ j ∧ j < n ∧ ends oc j) ∨ (r = 0 ∧ NE oc n)
theorem own_same {oc : Nat → Int32} {n : Nat} {cp le ll cr r : Int32} (q : INV oc n cp le ll cr) (w : WT oc n r) : cp = r := by
  rcases q with ⟨q, j, h1, h2, h3⟩ | ⟨q, h, -⟩
  · rcases w with ⟨w, -⟩ | ⟨-, w⟩
    · rw [q, w]
    · exact absurd h3 (w j h1 h2)
  · rcases w with ⟨-, j, h1, h2, h3⟩ | ⟨w, -⟩
    · exact absurd h3 (h j h1 h2)
    · rw [q, w]
def g9 (c0 c1 c2 c3 c4 c5 c6 c7 c8 : Int32) (j : Nat) : Int32 := if j = 0 then c0 else if j = 1 then c1 else if j = 2 then c2 else if j = 3 then c3 else if j = 4 then c4 else if j = 5 then c5 else if j = 6 then c6 else if j = 7 then c7 else c8
theorem nar2 (x : Int32) : nar .byte (nar .byte x) = nar .byte x := by
  show x.toInt8.toInt32.toInt8.toInt32 = x.toInt8.toInt32
  rw [Int8.toInt8_toInt32]
def RH (Z : State) (h : Heap) (a : Addr) (cp le ll cr : Int32) : Prop := Exa Z h a "com/example/curvehand/curvehand/cli/RequestHead" ∧ Fld Z h a "com/example/curvehand/curvehand/cli/RequestHead" "complete" "Z" (.int cp) ∧ Fld Z h a "com/example/curvehand/curvehand/cli/RequestHead" "lineEnded" "Z" (.int le) ∧ Fld Z h a "com/example/curvehand/curvehand/cli/RequestHead" "lineLength" "I" (.int ll) ∧ Fld Z h a "com/example/curvehand/curvehand/cli/RequestHead" "carriageReturn" "Z" (.int cr)
section
variable {Z : State} {a0 : Array Value} {h h' : Heap} {a : Addr} {cp le ll cr u : Int32}
theorem RH.set0 (hw : ∀ d ∈ tables_1, d.before a0 Z = true) (B : RH Z h a cp le ll cr) (W : Wr h h' a (Jvm.RoadKit.slotOf Z "com/example/curvehand/curvehand/cli/RequestHead" "complete" "Z") (.int u)) : RH Z h' a u le ll cr := ⟨B.1.wr W, B.2.1.same W, B.2.2.1.other W (Or.inr (slot_ne (Or.inl (hw _ (List.mem_of_getElem? (i := 22) rfl))) (Or.inl (hw _ (List.mem_of_getElem? (i := 20) rfl))) (by decide) (t := .boolean) (t' := .boolean) (by decide) (by decide))), B.2.2.2.1.other W (Or.inr (slot_ne (Or.inl (hw _ (List.mem_of_getElem? (i := 24) rfl))) (Or.inl (hw _ (List.mem_of_getElem? (i := 20) rfl))) (by decide) (t := .int) (t' := .boolean) (by decide) (by decide))), B.2.2.2.2.other W (Or.inr (slot_ne (Or.inl (hw _ (List.mem_of_getElem? (i := 26) rfl))) (Or.inl (hw _ (List.mem_of_getElem? (i := 20) rfl))) (by decide) (t := .boolean) (t' := .boolean) (by decide) (by decide)))⟩
theorem RH.set1 (hw : ∀ d ∈ tables_1, d.before a0 Z = true) (B : RH Z h a cp le ll cr) (W : Wr h h' a (Jvm.RoadKit.slotOf Z "com/example/curvehand/curvehand/cli/RequestHead" "lineEnded" "Z") (.int u)) : RH Z h' a cp u ll cr := ⟨B.1.wr W, B.2.1.other W (Or.inr (slot_ne (Or.inl (hw _ (List.mem_of_getElem? (i := 20) rfl))) (Or.inl (hw _ (List.mem_of_getElem? (i := 22) rfl))) (by decide) (t := .boolean) (t' := .boolean) (by decide) (by decide))), B.2.2.1.same W, B.2.2.2.1.other W (Or.inr (slot_ne (Or.inl (hw _ (List.mem_of_getElem? (i := 24) rfl))) (Or.inl (hw _ (List.mem_of_getElem? (i := 22) rfl))) (by decide) (t := .int) (t' := .boolean) (by decide) (by decide))), B.2.2.2.2.other W (Or.inr (slot_ne (Or.inl (hw _ (List.mem_of_getElem? (i := 26) rfl))) (Or.inl (hw _ (List.mem_of_getElem? (i := 22) rfl))) (by decide) (t := .boolean) (t' := .boolean) (by decide) (by decide)))⟩
theorem RH.set2 (hw : ∀ d ∈ tables_1, d.before a0 Z = true) (B : RH Z h a cp le ll cr) (W : Wr h h' a (Jvm.RoadKit.slotOf Z "com/example/curvehand/curvehand/cli/RequestHead" "lineLength" "I") (.int u)) : RH Z h' a cp le u cr := ⟨B.1.wr W, B.2.1.other W (Or.inr (slot_ne (Or.inl (hw _ (List.mem_of_getElem? (i := 20) rfl))) (Or.inl (hw _ (List.mem_of_getElem? (i := 24) rfl))) (by decide) (t := .boolean) (t' := .int) (by decide) (by decide))), B.2.2.1.other W (Or.inr (slot_ne (Or.inl (hw _ (List.mem_of_getElem? (i := 22) rfl))) (Or.inl (hw _ (List.mem_of_getElem? (i := 24) rfl))) (by decide) (t := .boolean) (t' := .int) (by decide) (by decide))), B.2.2.2.1.same W, B.2.2.2.2.other W (Or.inr (slot_ne (Or.inl (hw _ (List.mem_of_getElem? (i := 26) rfl))) (Or.inl (hw _ (List.mem_of_getElem? (i := 24) rfl))) (by decide) (t := .boolean) (t' := .int) (by decide) (by decide)))⟩
theorem RH.set3 (hw : ∀ d ∈ tables_1, d.before a0 Z = true) (B : RH Z h a cp le ll cr) (W : Wr h h' a (Jvm.RoadKit.slotOf Z "com/example/curvehand/curvehand/cli/RequestHead" "carriageReturn" "Z") (.int u)) : RH Z h' a cp le ll u := ⟨B.1.wr W, B.2.1.other W (Or.inr (slot_ne (Or.inl (hw _ (List.mem_of_getElem? (i := 20) rfl))) (Or.inl (hw _ (List.mem_of_getElem? (i := 26) rfl))) (by decide) (t := .boolean) (t' := .boolean) (by decide) (by decide))), B.2.2.1.other W (Or.inr (slot_ne (Or.inl (hw _ (List.mem_of_getElem? (i := 22) rfl))) (Or.inl (hw _ (List.mem_of_getElem? (i := 26) rfl))) (by decide) (t := .boolean) (t' := .boolean) (by decide) (by decide))), B.2.2.2.1.other W (Or.inr (slot_ne (Or.inl (hw _ (List.mem_of_getElem? (i := 24) rfl))) (Or.inl (hw _ (List.mem_of_getElem? (i := 26) rfl))) (by decide) (t := .int) (t' := .boolean) (by decide) (by decide))), B.2.2.2.2.same W⟩
end
theorem d1_0 : decode method_2_code 0 = .ok (.iload_n 0, 1) := by decide +kernel
theorem d1_1 : decode method_2_code 1 = .ok (.iconst 3, 1) := by decide +kernel
theorem d1_2 : decode method_2_code 2 = .ok (.iand, 1) := by decide +kernel
theorem d1_3 : decode method_2_code 3 = .ok (.istore_n 1, 1) := by decide +kernel
theorem d1_4 : decode method_2_code 4 = .ok (.iload_n 1, 1) := by decide +kernel
theorem d1_5 : decode method_2_code 5 = .ok (.ifCond .ne 6, 3) := by decide +kernel
theorem d1_8 : decode method_2_code 8 = .ok (.bipush 10, 2) := by decide +kernel
theorem d1_10 : decode method_2_code 10 = .ok (.ireturn, 1) := by decide +kernel
theorem d1_11 : decode method_2_code 11 = .ok (.iload_n 1, 1) := by decide +kernel
theorem d1_12 : decode method_2_code 12 = .ok (.iconst 1, 1) := by decide +kernel
theorem d1_13 : decode method_2_code 13 = .ok (.if_icmp .ne 6, 3) := by decide +kernel
theorem d1_16 : decode method_2_code 16 = .ok (.bipush 13, 2) := by decide +kernel
theorem d1_18 : decode method_2_code 18 = .ok (.ireturn, 1) := by decide +kernel
theorem d1_19 : decode method_2_code 19 = .ok (.iload_n 0, 1) := by decide +kernel
theorem d1_20 : decode method_2_code 20 = .ok (.iconst 2, 1) := by decide +kernel
theorem d1_21 : decode method_2_code 21 = .ok (.ishr, 1) := by decide +kernel
theorem d1_22 : decode method_2_code 22 = .ok (.sipush 255, 3) := by decide +kernel
theorem d1_25 : decode method_2_code 25 = .ok (.iand, 1) := by decide +kernel
theorem d1_26 : decode method_2_code 26 = .ok (.i2b, 1) := by decide +kernel
theorem d1_27 : decode method_2_code 27 = .ok (.ireturn, 1) := by decide +kernel
theorem pn_com_example_curvehand_curvehand_cli_RequestHeadScanPinLaw : plainName "com/example/curvehand/curvehand/cli/RequestHeadScanPinLaw" = true := by first | (simp [plainName, overriddenIn]; done) | decide +kernel
theorem ef_1 (m : MethodId) (x0 : Int32) : entryFrame m #[(.int x0)] 2 = mkF m 0 #[.val (.int x0), .unset] [] := by first | (simp [entryFrame, mkF, argsToLocals, Value.category, maxLocals]; done) | rfl
set_option maxRecDepth 65536 in
set_option maxHeartbeats 40000000 in
theorem m1 (l : Launch) (Z : State) (a0 : Array Value) (hw : ∀ d ∈ tables_1, d.before a0 Z = true) (p0 : Int32) (h0 : Heap) (n0 : Nat)  :
    Met l Z (⟨"com/example/curvehand/curvehand/cli/RequestHeadScanPinLaw", "pick", "(I)B"⟩ : MethodName) method_2_code 2 (some (.byte)) ({ frames := 0, cells := 0, slots := 0, locals := 0 } : Room) #[(.int p0)] h0 n0 (qI fun r h => True ∧ h0 = h) := by
  refine met (plainFor_of_name pn_com_example_curvehand_curvehand_cli_RequestHeadScanPinLaw) #[.val (.int p0), .unset] (fun m => ef_1 m p0) ?_
  intro p e s m below meth c C
  refine g_iloadN C d1_0 1 rfl rfl ?_
  refine g_iconst C d1_1 2 rfl (3 : Int32) (by decide) ?_
  refine g_iand C d1_2 3 rfl ?_
  refine g_istoreN C d1_3 4 rfl (fun z' => #[.val (.int p0), .val (.int z')]) (fun _ => rfl) (fun v3 ev3 => ?_)
  refine g_iloadN C d1_4 5 rfl rfl ?_
  refine g_ifne C d1_5 11 (by decide) 8 rfl (fun k5 => ?_) (fun k5 => ?_)
  · refine g_iloadN C d1_11 12 rfl rfl ?_
    refine g_iconst C d1_12 13 rfl (1 : Int32) (by decide) ?_
    refine g_if_icmpne C d1_13 19 (by decide) 16 rfl (fun k13 => ?_) (fun k13 => ?_)
    · refine g_iloadN C d1_19 20 rfl rfl ?_
      refine g_iconst C d1_20 21 rfl (2 : Int32) (by decide) ?_
      refine g_ishr C d1_21 22 rfl ?_
      refine g_sipush C d1_22 25 rfl (255 : Int32) (by decide) ?_
      refine g_iand C d1_25 26 rfl ?_
      refine g_i2b C d1_26 27 rfl ?_
      refine r_nar C (by simp) d1_27 (by decide) (by decide) ⟨trivial, rfl⟩
    · refine g_bipush C d1_16 18 rfl (13 : Int32) (by decide) ?_
      refine r_nar C (by simp) d1_18 (by decide) (by decide) ⟨trivial, rfl⟩
  · refine g_bipush C d1_8 10 rfl (10 : Int32) (by decide) ?_
    refine r_nar C (by simp) d1_10 (by decide) (by decide) ⟨trivial, rfl⟩
theorem d2_0 : decode prog_7_method_1_code 0 = .ok (.aload_n 0, 1) := by decide +kernel
theorem d2_1 : decode prog_7_method_1_code 1 = .ok (.invokespecial 1, 3) := by decide +kernel
theorem d2_4 : decode prog_7_method_1_code 4 = .ok (.return_, 1) := by decide +kernel
theorem pn_com_example_curvehand_curvehand_cli_RequestHead : plainName "com/example/curvehand/curvehand/cli/RequestHead" = true := by first | (simp [plainName, overriddenIn]; done) | decide +kernel
theorem pd_0 : parseMethodDescriptor "()V" = some ⟨[], none⟩ := by decide +kernel
theorem ef_2 (m : MethodId) (x0 : Addr) : entryFrame m #[(.ref x0)] 1 = mkF m 0 #[.val (.ref x0)] [] := by first | (simp [entryFrame, mkF, argsToLocals, Value.category, maxLocals]; done) | rfl
set_option maxRecDepth 65536 in
set_option maxHeartbeats 40000000 in
theorem m2 (l : Launch) (Z : State) (a0 : Array Value) (hw : ∀ d ∈ tables_1, d.before a0 Z = true) (a : Addr) (h0 : Heap) (n0 : Nat)  :
    Met l Z (⟨"com/example/curvehand/curvehand/cli/RequestHead", "<init>", "()V"⟩ : MethodName) prog_7_method_1_code 1 none ({ frames := 1, cells := 0, slots := 0, locals := 12 } : Room) #[(.ref a)] h0 n0 (qV fun h => h0 = h) := by
  refine met (plainFor_of_name pn_com_example_curvehand_curvehand_cli_RequestHead) #[.val (.ref a)] (fun m => ef_2 m a) ?_
  intro p e s m below meth c C
  refine g_aloadN C d2_0 1 rfl rfl rfl ?_
  refine g_objinit C (hw _ (List.mem_of_getElem? (i := 11) rfl)) (hw _ (List.mem_of_getElem? (i := 12) rfl)) (hw _ (List.mem_of_getElem? (i := 13) rfl)) d2_1 4 rfl rfl (by decide) 0 (Nat.le_of_eq rfl) (by decide) ?_
  refine r_void C d2_4 (by decide) (by decide) rfl
theorem d5_0 : decode prog_7_method_3_code 0 = .ok (.aload_n 0, 1) := by decide +kernel
theorem d5_1 : decode prog_7_method_3_code 1 = .ok (.getfield 7, 3) := by decide +kernel
theorem d5_4 : decode prog_7_method_3_code 4 = .ok (.ireturn, 1) := by decide +kernel
theorem ef_5 (m : MethodId) (x0 : Addr) : entryFrame m #[(.ref x0)] 1 = mkF m 0 #[.val (.ref x0)] [] := by first | (simp [entryFrame, mkF, argsToLocals, Value.category, maxLocals]; done) | rfl
set_option maxRecDepth 65536 in
set_option maxHeartbeats 40000000 in
theorem m5 (l : Launch) (Z : State) (a0 : Array Value) (hw : ∀ d ∈ tables_1, d.before a0 Z = true) (a : Addr) (h0 : Heap) (n0 : Nat) (cp le ll cr : Int32) (B : RH Z h0 a cp le ll cr) (hcp : cp = 0 ∨ cp = 1) :
    Met l Z (⟨"com/example/curvehand/curvehand/cli/RequestHead", "complete", "()Z"⟩ : MethodName) prog_7_method_3_code 1 (some (.boolean)) ({ frames := 0, cells := 0, slots := 0, locals := 0 } : Room) #[(.ref a)] h0 n0 (qI fun r h => r = cp ∧ h0 = h) := by
  refine met (plainFor_of_name pn_com_example_curvehand_curvehand_cli_RequestHead) #[.val (.ref a)] (fun m => ef_5 m a) ?_
  intro p e s m below meth c C
  refine g_aloadN C d5_0 1 rfl rfl rfl ?_
  refine g_getfield C (host := "") (hw _ (List.mem_of_getElem? (i := 19) rfl)) B.2.1 d5_1 4 rfl ?_
  refine r_nar C (by simp) d5_4 (by decide) (by decide) ⟨by rcases hcp with rfl | rfl <;> rfl, rfl⟩
theorem d7_0 : decode method_3_code 0 = .ok (.iload_n 1, 1) := by decide +kernel
theorem d7_1 : decode method_3_code 1 = .ok (.iconst 1, 1) := by decide +kernel
theorem d7_2 : decode method_3_code 2 = .ok (.if_icmp .lt 11, 3) := by decide +kernel
theorem d7_5 : decode method_3_code 5 = .ok (.aload_n 0, 1) := by decide +kernel
theorem d7_6 : decode method_3_code 6 = .ok (.iload_n 1, 1) := by decide +kernel
theorem d7_7 : decode method_3_code 7 = .ok (.baload, 1) := by decide +kernel
theorem d7_8 : decode method_3_code 8 = .ok (.bipush 10, 2) := by decide +kernel
theorem d7_10 : decode method_3_code 10 = .ok (.if_icmp .eq 5, 3) := by decide +kernel
theorem d7_13 : decode method_3_code 13 = .ok (.iconst 0, 1) := by decide +kernel
theorem d7_14 : decode method_3_code 14 = .ok (.ireturn, 1) := by decide +kernel
theorem d7_15 : decode method_3_code 15 = .ok (.aload_n 0, 1) := by decide +kernel
theorem d7_16 : decode method_3_code 16 = .ok (.iload_n 1, 1) := by decide +kernel
theorem d7_17 : decode method_3_code 17 = .ok (.iconst 1, 1) := by decide +kernel
theorem d7_18 : decode method_3_code 18 = .ok (.isub, 1) := by decide +kernel
theorem d7_19 : decode method_3_code 19 = .ok (.baload, 1) := by decide +kernel
theorem d7_20 : decode method_3_code 20 = .ok (.bipush 10, 2) := by decide +kernel
theorem d7_22 : decode method_3_code 22 = .ok (.if_icmp .ne 5, 3) := by decide +kernel
theorem d7_25 : decode method_3_code 25 = .ok (.iconst 1, 1) := by decide +kernel
theorem d7_26 : decode method_3_code 26 = .ok (.ireturn, 1) := by decide +kernel
theorem d7_27 : decode method_3_code 27 = .ok (.iload_n 1, 1) := by decide +kernel
theorem d7_28 : decode method_3_code 28 = .ok (.iconst 2, 1) := by decide +kernel
theorem d7_29 : decode method_3_code 29 = .ok (.if_icmp .lt 27, 3) := by decide +kernel
theorem d7_32 : decode method_3_code 32 = .ok (.aload_n 0, 1) := by decide +kernel
theorem d7_33 : decode method_3_code 33 = .ok (.iload_n 1, 1) := by decide +kernel
theorem d7_34 : decode method_3_code 34 = .ok (.iconst 1, 1) := by decide +kernel
theorem d7_35 : decode method_3_code 35 = .ok (.isub, 1) := by decide +kernel
theorem d7_36 : decode method_3_code 36 = .ok (.baload, 1) := by decide +kernel
theorem d7_37 : decode method_3_code 37 = .ok (.bipush 13, 2) := by decide +kernel
theorem d7_39 : decode method_3_code 39 = .ok (.if_icmp .ne 17, 3) := by decide +kernel
theorem d7_42 : decode method_3_code 42 = .ok (.aload_n 0, 1) := by decide +kernel
theorem d7_43 : decode method_3_code 43 = .ok (.iload_n 1, 1) := by decide +kernel
theorem d7_44 : decode method_3_code 44 = .ok (.iconst 2, 1) := by decide +kernel
theorem d7_45 : decode method_3_code 45 = .ok (.isub, 1) := by decide +kernel
theorem d7_46 : decode method_3_code 46 = .ok (.baload, 1) := by decide +kernel
theorem d7_47 : decode method_3_code 47 = .ok (.bipush 10, 2) := by decide +kernel
theorem d7_49 : decode method_3_code 49 = .ok (.if_icmp .ne 7, 3) := by decide +kernel
theorem d7_52 : decode method_3_code 52 = .ok (.iconst 1, 1) := by decide +kernel
theorem d7_53 : decode method_3_code 53 = .ok (.goto 4, 3) := by decide +kernel
theorem d7_56 : decode method_3_code 56 = .ok (.iconst 0, 1) := by decide +kernel
theorem d7_57 : decode method_3_code 57 = .ok (.ireturn, 1) := by decide +kernel
theorem ef_7 (m : MethodId) (x0 : Addr) (x1 : Int32) : entryFrame m #[(.ref x0), (.int x1)] 2 = mkF m 0 #[.val (.ref x0), .val (.int x1)] [] := by first | (simp [entryFrame, mkF, argsToLocals, Value.category, maxLocals]; done) | rfl
set_option maxRecDepth 65536 in
set_option maxHeartbeats 40000000 in
theorem m7 (l : Launch) (Z : State) (a0 : Array Value) (hw : ∀ d ∈ tables_1, d.before a0 Z = true) (a : Addr) (p1 : Int32) (h0 : Heap) (n0 : Nat) (oc : Nat → Int32) (j : Nat) (A : Ary Z h0 a .byte 9 (fun j => .int (oc j))) (x1 : Ix p1 j) (hj1 : 1 ≤ j) (hj : j < 9) :
    Met l Z (⟨"com/example/curvehand/curvehand/cli/RequestHeadScanPinLaw", "endsAt", "([BI)Z"⟩ : MethodName) method_3_code 2 (some (.boolean)) ({ frames := 0, cells := 0, slots := 0, locals := 0 } : Room) #[(.ref a), (.int p1)] h0 n0 (qI fun r h => ((r = 1 ∧ ends oc j) ∨ (r = 0 ∧ ¬ ends oc j)) ∧ h0 = h) := by
  refine met (plainFor_of_name pn_com_example_curvehand_curvehand_cli_RequestHeadScanPinLaw) #[.val (.ref a), .val (.int p1)] (fun m => ef_7 m a p1) ?_
  intro p e s m below meth c C
  refine g_iloadN C d7_0 1 rfl rfl ?_
  refine g_iconst C d7_1 2 rfl (1 : Int32) (by decide) ?_
  refine g_if_icmplt C d7_2 13 (by decide) 5 rfl (fun k2 => ?_) (fun k2 => ?_)
  · exact absurd ((x1.lt (b := 1) (j := 1) ⟨by decide, by decide⟩).mp k2) (by omega)
  · have x11 : Ix (p1 - 1) (j - 1) := x1.sub (b := 1) (j := 1) ⟨by decide, by decide⟩ (by omega) (by omega)
    refine g_aloadN C d7_5 6 rfl rfl rfl ?_
    refine g_iloadN C d7_6 7 rfl rfl ?_
    refine g_baload C A j x1 hj (.int (oc j)) rfl d7_7 8 rfl ?_
    refine g_bipush C d7_8 10 rfl (10 : Int32) (by decide) ?_
    refine g_if_icmpeq C d7_10 15 (by decide) 13 rfl (fun k10 => ?_) (fun k10 => ?_)
    · refine g_aloadN C d7_15 16 rfl rfl rfl ?_
      refine g_iloadN C d7_16 17 rfl rfl ?_
      refine g_iconst C d7_17 18 rfl (1 : Int32) (by decide) ?_
      refine g_isub C d7_18 19 rfl ?_
      refine g_baload C A (j - 1) x11 (by omega) (.int (oc (j - 1))) rfl d7_19 20 rfl ?_
      refine g_bipush C d7_20 22 rfl (10 : Int32) (by decide) ?_
      refine g_if_icmpne C d7_22 27 (by decide) 25 rfl (fun k22 => ?_) (fun k22 => ?_)
      · refine g_iloadN C d7_27 28 rfl rfl ?_
        refine g_iconst C d7_28 29 rfl (2 : Int32) (by decide) ?_
        refine g_if_icmplt C d7_29 56 (by decide) 32 rfl (fun k29 => ?_) (fun k29 => ?_)
        · have hj2 : j < 2 := (x1.lt (b := 2) (j := 2) ⟨by decide, by decide⟩).mp k29
          refine g_iconst C d7_56 57 rfl (0 : Int32) (by decide) ?_
          refine r_nar C (by simp) d7_57 (by decide) (by decide) ⟨Or.inr ⟨rfl, fun z => z.2.elim k22 (fun z => absurd z.1 (by omega))⟩, rfl⟩
        · have hj2 : 2 ≤ j := by
            have := mt (x1.lt (b := 2) (j := 2) ⟨by decide, by decide⟩).mpr k29; omega
          have x12 : Ix (p1 - 2) (j - 2) := x1.sub (b := 2) (j := 2) ⟨by decide, by decide⟩ (by omega) (by omega)
          refine g_aloadN C d7_32 33 rfl rfl rfl ?_
          refine g_iloadN C d7_33 34 rfl rfl ?_
          refine g_iconst C d7_34 35 rfl (1 : Int32) (by decide) ?_
          refine g_isub C d7_35 36 rfl ?_
          refine g_baload C A (j - 1) x11 (by omega) (.int (oc (j - 1))) rfl d7_36 37 rfl ?_
          refine g_bipush C d7_37 39 rfl (13 : Int32) (by decide) ?_
          refine g_if_icmpne C d7_39 56 (by decide) 42 rfl (fun k39 => ?_) (fun k39 => ?_)
          · refine g_iconst C d7_56 57 rfl (0 : Int32) (by decide) ?_
            refine r_nar C (by simp) d7_57 (by decide) (by decide) ⟨Or.inr ⟨rfl, fun z => z.2.elim k22 (fun z => k39 z.2.1)⟩, rfl⟩
          · refine g_aloadN C d7_42 43 rfl rfl rfl ?_
            refine g_iloadN C d7_43 44 rfl rfl ?_
            refine g_iconst C d7_44 45 rfl (2 : Int32) (by decide) ?_
            refine g_isub C d7_45 46 rfl ?_
            refine g_baload C A (j - 2) x12 (by omega) (.int (oc (j - 2))) rfl d7_46 47 rfl ?_
            refine g_bipush C d7_47 49 rfl (10 : Int32) (by decide) ?_
            refine g_if_icmpne C d7_49 56 (by decide) 52 rfl (fun k49 => ?_) (fun k49 => ?_)
            · refine g_iconst C d7_56 57 rfl (0 : Int32) (by decide) ?_
              refine r_nar C (by simp) d7_57 (by decide) (by decide) ⟨Or.inr ⟨rfl, fun z => z.2.elim k22 (fun z => k49 z.2.2)⟩, rfl⟩
            · refine g_iconst C d7_52 53 rfl (1 : Int32) (by decide) ?_
              refine g_goto C d7_53 57 (by decide) ?_
              refine r_nar C (by simp) d7_57 (by decide) (by decide) ⟨Or.inl ⟨rfl, k10, Or.inr ⟨hj2, k39, k49⟩⟩, rfl⟩
      · refine g_iconst C d7_25 26 rfl (1 : Int32) (by decide) ?_
        refine r_nar C (by simp) d7_26 (by decide) (by decide) ⟨Or.inl ⟨rfl, k10, Or.inl k22⟩, rfl⟩
    · refine g_iconst C d7_13 14 rfl (0 : Int32) (by decide) ?_
      refine r_nar C (by simp) d7_14 (by decide) (by decide) ⟨Or.inr ⟨rfl, fun z => k10 z.1⟩, rfl⟩
theorem d6_0 : decode method_4_code 0 = .ok (.iload_n 1, 1) := by decide +kernel
theorem d6_1 : decode method_4_code 1 = .ok (.iconst 1, 1) := by decide +kernel
theorem d6_2 : decode method_4_code 2 = .ok (.if_icmp .le 11, 3) := by decide +kernel
theorem d6_5 : decode method_4_code 5 = .ok (.aload_n 0, 1) := by decide +kernel
theorem d6_6 : decode method_4_code 6 = .ok (.iconst 1, 1) := by decide +kernel
theorem d6_7 : decode method_4_code 7 = .ok (.invokestatic 7, 3) := by decide +kernel
theorem d6_10 : decode method_4_code 10 = .ok (.ifCond .ne 100, 3) := by decide +kernel
theorem d6_13 : decode method_4_code 13 = .ok (.iload_n 1, 1) := by decide +kernel
theorem d6_14 : decode method_4_code 14 = .ok (.iconst 2, 1) := by decide +kernel
theorem d6_15 : decode method_4_code 15 = .ok (.if_icmp .le 11, 3) := by decide +kernel
theorem d6_18 : decode method_4_code 18 = .ok (.aload_n 0, 1) := by decide +kernel
theorem d6_19 : decode method_4_code 19 = .ok (.iconst 2, 1) := by decide +kernel
theorem d6_20 : decode method_4_code 20 = .ok (.invokestatic 7, 3) := by decide +kernel
theorem d6_23 : decode method_4_code 23 = .ok (.ifCond .ne 87, 3) := by decide +kernel
theorem d6_26 : decode method_4_code 26 = .ok (.iload_n 1, 1) := by decide +kernel
theorem d6_27 : decode method_4_code 27 = .ok (.iconst 3, 1) := by decide +kernel
theorem d6_28 : decode method_4_code 28 = .ok (.if_icmp .le 11, 3) := by decide +kernel
theorem d6_31 : decode method_4_code 31 = .ok (.aload_n 0, 1) := by decide +kernel
theorem d6_32 : decode method_4_code 32 = .ok (.iconst 3, 1) := by decide +kernel
theorem d6_33 : decode method_4_code 33 = .ok (.invokestatic 7, 3) := by decide +kernel
theorem d6_36 : decode method_4_code 36 = .ok (.ifCond .ne 74, 3) := by decide +kernel
theorem d6_39 : decode method_4_code 39 = .ok (.iload_n 1, 1) := by decide +kernel
theorem d6_40 : decode method_4_code 40 = .ok (.iconst 4, 1) := by decide +kernel
theorem d6_41 : decode method_4_code 41 = .ok (.if_icmp .le 11, 3) := by decide +kernel
theorem d6_44 : decode method_4_code 44 = .ok (.aload_n 0, 1) := by decide +kernel
theorem d6_45 : decode method_4_code 45 = .ok (.iconst 4, 1) := by decide +kernel
theorem d6_46 : decode method_4_code 46 = .ok (.invokestatic 7, 3) := by decide +kernel
theorem d6_49 : decode method_4_code 49 = .ok (.ifCond .ne 61, 3) := by decide +kernel
theorem d6_52 : decode method_4_code 52 = .ok (.iload_n 1, 1) := by decide +kernel
theorem d6_53 : decode method_4_code 53 = .ok (.iconst 5, 1) := by decide +kernel
theorem d6_54 : decode method_4_code 54 = .ok (.if_icmp .le 11, 3) := by decide +kernel
theorem d6_57 : decode method_4_code 57 = .ok (.aload_n 0, 1) := by decide +kernel
theorem d6_58 : decode method_4_code 58 = .ok (.iconst 5, 1) := by decide +kernel
theorem d6_59 : decode method_4_code 59 = .ok (.invokestatic 7, 3) := by decide +kernel
theorem d6_62 : decode method_4_code 62 = .ok (.ifCond .ne 48, 3) := by decide +kernel
theorem d6_65 : decode method_4_code 65 = .ok (.iload_n 1, 1) := by decide +kernel
theorem d6_66 : decode method_4_code 66 = .ok (.bipush 6, 2) := by decide +kernel
theorem d6_68 : decode method_4_code 68 = .ok (.if_icmp .le 12, 3) := by decide +kernel
theorem d6_71 : decode method_4_code 71 = .ok (.aload_n 0, 1) := by decide +kernel
theorem d6_72 : decode method_4_code 72 = .ok (.bipush 6, 2) := by decide +kernel
theorem d6_74 : decode method_4_code 74 = .ok (.invokestatic 7, 3) := by decide +kernel
theorem d6_77 : decode method_4_code 77 = .ok (.ifCond .ne 33, 3) := by decide +kernel
theorem d6_80 : decode method_4_code 80 = .ok (.iload_n 1, 1) := by decide +kernel
theorem d6_81 : decode method_4_code 81 = .ok (.bipush 7, 2) := by decide +kernel
theorem d6_83 : decode method_4_code 83 = .ok (.if_icmp .le 12, 3) := by decide +kernel
theorem d6_86 : decode method_4_code 86 = .ok (.aload_n 0, 1) := by decide +kernel
theorem d6_87 : decode method_4_code 87 = .ok (.bipush 7, 2) := by decide +kernel
theorem d6_89 : decode method_4_code 89 = .ok (.invokestatic 7, 3) := by decide +kernel
theorem d6_92 : decode method_4_code 92 = .ok (.ifCond .ne 18, 3) := by decide +kernel
theorem d6_95 : decode method_4_code 95 = .ok (.iload_n 1, 1) := by decide +kernel
theorem d6_96 : decode method_4_code 96 = .ok (.bipush 8, 2) := by decide +kernel
theorem d6_98 : decode method_4_code 98 = .ok (.if_icmp .le 16, 3) := by decide +kernel
theorem d6_101 : decode method_4_code 101 = .ok (.aload_n 0, 1) := by decide +kernel
theorem d6_102 : decode method_4_code 102 = .ok (.bipush 8, 2) := by decide +kernel
theorem d6_104 : decode method_4_code 104 = .ok (.invokestatic 7, 3) := by decide +kernel
theorem d6_107 : decode method_4_code 107 = .ok (.ifCond .eq 7, 3) := by decide +kernel
theorem d6_110 : decode method_4_code 110 = .ok (.iconst 1, 1) := by decide +kernel
theorem d6_111 : decode method_4_code 111 = .ok (.goto 4, 3) := by decide +kernel
theorem d6_114 : decode method_4_code 114 = .ok (.iconst 0, 1) := by decide +kernel
theorem d6_115 : decode method_4_code 115 = .ok (.ireturn, 1) := by decide +kernel
theorem pd_1 : parseMethodDescriptor "([BI)Z" = some ⟨[.array .byte, .int], some (.boolean)⟩ := by decide +kernel
theorem ef_6 (m : MethodId) (x0 : Addr) (x1 : Int32) : entryFrame m #[(.ref x0), (.int x1)] 2 = mkF m 0 #[.val (.ref x0), .val (.int x1)] [] := by first | (simp [entryFrame, mkF, argsToLocals, Value.category, maxLocals]; done) | rfl
set_option maxRecDepth 65536 in
set_option maxHeartbeats 40000000 in
theorem m6 (l : Launch) (Z : State) (a0 : Array Value) (hw : ∀ d ∈ tables_1, d.before a0 Z = true) (a : Addr) (p1 : Int32) (h0 : Heap) (n0 : Nat) (oc : Nat → Int32) (n : Nat) (A : Ary Z h0 a .byte 9 (fun j => .int (oc j))) (x1 : Ix p1 n) (hn : n ≤ 9) :
    Met l Z (⟨"com/example/curvehand/curvehand/cli/RequestHeadScanPinLaw", "within", "([BI)Z"⟩ : MethodName) method_4_code 2 (some (.boolean)) ({ frames := 1, cells := 0, slots := 0, locals := 13 } : Room) #[(.ref a), (.int p1)] h0 n0 (qI fun r h => WT oc n r ∧ h0 = h) := by
  refine met (plainFor_of_name pn_com_example_curvehand_curvehand_cli_RequestHeadScanPinLaw) #[.val (.ref a), .val (.int p1)] (fun m => ef_6 m a p1) ?_
  intro p e s m below meth c C
  have J114 : (∀ j, 1 ≤ j → j < 9 → j < n → ¬ ends oc j) → Go p l e ({ frames := 1, cells := 0, slots := 0, locals := 13 } : Room) s m #[(.ref a), (.int p1)] below meth c n0 (qI fun r h => WT oc n r ∧ h0 = h) h0 0 0 114 #[.val (.ref a), .val (.int p1)] [] := by
    intro hj
    refine g_iconst C d6_114 115 rfl (0 : Int32) (by decide) ?_
    refine r_nar C (by simp) d6_115 (by decide) (by decide) ⟨Or.inr ⟨rfl, fun j q1 q2 => hj j q1 (by omega) q2⟩, rfl⟩
  have J95 : (∀ j, 1 ≤ j → j < 8 → j < n → ¬ ends oc j) → Go p l e ({ frames := 1, cells := 0, slots := 0, locals := 13 } : Room) s m #[(.ref a), (.int p1)] below meth c n0 (qI fun r h => WT oc n r ∧ h0 = h) h0 0 0 95 #[.val (.ref a), .val (.int p1)] [] := by
    intro hj
    refine g_iloadN C d6_95 96 rfl rfl ?_
    refine g_bipush C d6_96 98 rfl (8 : Int32) (by decide) ?_
    refine g_if_icmple C d6_98 114 (by decide) 101 rfl (fun k98 => ?_) (fun k98 => ?_)
    · exact J114 (fun j q1 q2 q3 => by
        by_cases e : j = 8
        · have := mt (Ix.lt (a := 8) (i := 8) ⟨by decide, by decide⟩ x1).mpr k98; omega
        · exact hj j q1 (by omega) q3)
    · have hn8 : 8 < n := (Ix.lt (a := 8) (i := 8) ⟨by decide, by decide⟩ x1).mp k98
      refine g_aloadN C d6_101 102 rfl rfl rfl ?_
      refine g_bipush C d6_102 104 rfl (8 : Int32) (by decide) ?_
      refine c_staticI C [(.ref a), (.int (8 : Int32))] [] (hw _ (List.mem_of_getElem? (i := 35) rfl)) (hw _ (List.mem_of_getElem? (i := 36) rfl)) (hw _ (List.mem_of_getElem? (i := 3) rfl)) (hw _ (List.mem_of_getElem? (i := 37) rfl)) (by decide) (m7 l Z a0 hw a (8 : Int32) h0 n0 oc 8 A ⟨by decide, by decide⟩ (by omega) (by omega)) d6_104 107 rfl (lenOf pd_1 rfl) rfl 0 (Nat.le_of_eq rfl) (by decide) (by decide) 0 0 rfl rfl (by decide) (by decide) rfl (fun r104 h104 q104 => ?_)
      obtain ⟨hr104, rfl⟩ := q104
      refine g_ifeq C d6_107 114 (by decide) 110 rfl (fun k107 => ?_) (fun k107 => ?_)
      · have en8 : ¬ ends oc 8 := by
          rcases hr104 with ⟨q, -⟩ | ⟨-, q⟩
          · rw [q] at k107; exact absurd k107 (by decide)
          · exact q
        exact J114 (fun j q1 q2 q3 => by
          by_cases e : j = 8
          · rw [e]; exact en8
          · exact hj j q1 (by omega) q3)
      · have en8 : ends oc 8 := by
          rcases hr104 with ⟨-, q⟩ | ⟨q, -⟩
          · exact q
          · exact absurd q k107
        refine g_iconst C d6_110 111 rfl (1 : Int32) (by decide) ?_
        refine g_goto C d6_111 115 (by decide) ?_
        refine r_nar C (by simp) d6_115 (by decide) (by decide) ⟨Or.inl ⟨rfl, 8, by omega, by omega, en8⟩, rfl⟩
  have J80 : (∀ j, 1 ≤ j → j < 7 → j < n → ¬ ends oc j) → Go p l e ({ frames := 1, cells := 0, slots := 0, locals := 13 } : Room) s m #[(.ref a), (.int p1)] below meth c n0 (qI fun r h => WT oc n r ∧ h0 = h) h0 0 0 80 #[.val (.ref a), .val (.int p1)] [] := by
    intro hj
    refine g_iloadN C d6_80 81 rfl rfl ?_
    refine g_bipush C d6_81 83 rfl (7 : Int32) (by decide) ?_
    refine g_if_icmple C d6_83 95 (by decide) 86 rfl (fun k83 => ?_) (fun k83 => ?_)
    · exact J95 (fun j q1 q2 q3 => by
        by_cases e : j = 7
        · have := mt (Ix.lt (a := 7) (i := 7) ⟨by decide, by decide⟩ x1).mpr k83; omega
        · exact hj j q1 (by omega) q3)
    · have hn7 : 7 < n := (Ix.lt (a := 7) (i := 7) ⟨by decide, by decide⟩ x1).mp k83
      refine g_aloadN C d6_86 87 rfl rfl rfl ?_
      refine g_bipush C d6_87 89 rfl (7 : Int32) (by decide) ?_
      refine c_staticI C [(.ref a), (.int (7 : Int32))] [] (hw _ (List.mem_of_getElem? (i := 35) rfl)) (hw _ (List.mem_of_getElem? (i := 36) rfl)) (hw _ (List.mem_of_getElem? (i := 3) rfl)) (hw _ (List.mem_of_getElem? (i := 37) rfl)) (by decide) (m7 l Z a0 hw a (7 : Int32) h0 n0 oc 7 A ⟨by decide, by decide⟩ (by omega) (by omega)) d6_89 92 rfl (lenOf pd_1 rfl) rfl 0 (Nat.le_of_eq rfl) (by decide) (by decide) 0 0 rfl rfl (by decide) (by decide) rfl (fun r89 h89 q89 => ?_)
      obtain ⟨hr89, rfl⟩ := q89
      refine g_ifne C d6_92 110 (by decide) 95 rfl (fun k92 => ?_) (fun k92 => ?_)
      · have en7 : ends oc 7 := by
          rcases hr89 with ⟨-, q⟩ | ⟨q, -⟩
          · exact q
          · exact absurd q k92
        refine g_iconst C d6_110 111 rfl (1 : Int32) (by decide) ?_
        refine g_goto C d6_111 115 (by decide) ?_
        refine r_nar C (by simp) d6_115 (by decide) (by decide) ⟨Or.inl ⟨rfl, 7, by omega, by omega, en7⟩, rfl⟩
      · have en7 : ¬ ends oc 7 := by
          rcases hr89 with ⟨q, -⟩ | ⟨-, q⟩
          · rw [q] at k92; exact absurd k92 (by decide)
          · exact q
        exact J95 (fun j q1 q2 q3 => by
          by_cases e : j = 7
          · rw [e]; exact en7
          · exact hj j q1 (by omega) q3)
  have J65 : (∀ j, 1 ≤ j → j < 6 → j < n → ¬ ends oc j) → Go p l e ({ frames := 1, cells := 0, slots := 0, locals := 13 } : Room) s m #[(.ref a), (.int p1)] below meth c n0 (qI fun r h => WT oc n r ∧ h0 = h) h0 0 0 65 #[.val (.ref a), .val (.int p1)] [] := by
    intro hj
    refine g_iloadN C d6_65 66 rfl rfl ?_
    refine g_bipush C d6_66 68 rfl (6 : Int32) (by decide) ?_
    refine g_if_icmple C d6_68 80 (by decide) 71 rfl (fun k68 => ?_) (fun k68 => ?_)
    · exact J80 (fun j q1 q2 q3 => by
        by_cases e : j = 6
        · have := mt (Ix.lt (a := 6) (i := 6) ⟨by decide, by decide⟩ x1).mpr k68; omega
        · exact hj j q1 (by omega) q3)
    · have hn6 : 6 < n := (Ix.lt (a := 6) (i := 6) ⟨by decide, by decide⟩ x1).mp k68
      refine g_aloadN C d6_71 72 rfl rfl rfl ?_
      refine g_bipush C d6_72 74 rfl (6 : Int32) (by decide) ?_
      refine c_staticI C [(.ref a), (.int (6 : Int32))] [] (hw _ (List.mem_of_getElem? (i := 35) rfl)) (hw _ (List.mem_of_getElem? (i := 36) rfl)) (hw _ (List.mem_of_getElem? (i := 3) rfl)) (hw _ (List.mem_of_getElem? (i := 37) rfl)) (by decide) (m7 l Z a0 hw a (6 : Int32) h0 n0 oc 6 A ⟨by decide, by decide⟩ (by omega) (by omega)) d6_74 77 rfl (lenOf pd_1 rfl) rfl 0 (Nat.le_of_eq rfl) (by decide) (by decide) 0 0 rfl rfl (by decide) (by decide) rfl (fun r74 h74 q74 => ?_)
      obtain ⟨hr74, rfl⟩ := q74
      refine g_ifne C d6_77 110 (by decide) 80 rfl (fun k77 => ?_) (fun k77 => ?_)
      · have en6 : ends oc 6 := by
          rcases hr74 with ⟨-, q⟩ | ⟨q, -⟩
          · exact q
          · exact absurd q k77
        refine g_iconst C d6_110 111 rfl (1 : Int32) (by decide) ?_
        refine g_goto C d6_111 115 (by decide) ?_
        refine r_nar C (by simp) d6_115 (by decide) (by decide) ⟨Or.inl ⟨rfl, 6, by omega, by omega, en6⟩, rfl⟩
      · have en6 : ¬ ends oc 6 := by
          rcases hr74 with ⟨q, -⟩ | ⟨-, q⟩
          · rw [q] at k77; exact absurd k77 (by decide)
          · exact q
        exact J80 (fun j q1 q2 q3 => by
          by_cases e : j = 6
          · rw [e]; exact en6
          · exact hj j q1 (by omega) q3)
  have J52 : (∀ j, 1 ≤ j → j < 5 → j < n → ¬ ends oc j) → Go p l e ({ frames := 1, cells := 0, slots := 0, locals := 13 } : Room) s m #[(.ref a), (.int p1)] below meth c n0 (qI fun r h => WT oc n r ∧ h0 = h) h0 0 0 52 #[.val (.ref a), .val (.int p1)] [] := by
    intro hj
    refine g_iloadN C d6_52 53 rfl rfl ?_
    refine g_iconst C d6_53 54 rfl (5 : Int32) (by decide) ?_
    refine g_if_icmple C d6_54 65 (by decide) 57 rfl (fun k54 => ?_) (fun k54 => ?_)
    · exact J65 (fun j q1 q2 q3 => by
        by_cases e : j = 5
        · have := mt (Ix.lt (a := 5) (i := 5) ⟨by decide, by decide⟩ x1).mpr k54; omega
        · exact hj j q1 (by omega) q3)
    · have hn5 : 5 < n := (Ix.lt (a := 5) (i := 5) ⟨by decide, by decide⟩ x1).mp k54
      refine g_aloadN C d6_57 58 rfl rfl rfl ?_
      refine g_iconst C d6_58 59 rfl (5 : Int32) (by decide) ?_
      refine c_staticI C [(.ref a), (.int (5 : Int32))] [] (hw _ (List.mem_of_getElem? (i := 35) rfl)) (hw _ (List.mem_of_getElem? (i := 36) rfl)) (hw _ (List.mem_of_getElem? (i := 3) rfl)) (hw _ (List.mem_of_getElem? (i := 37) rfl)) (by decide) (m7 l Z a0 hw a (5 : Int32) h0 n0 oc 5 A ⟨by decide, by decide⟩ (by omega) (by omega)) d6_59 62 rfl (lenOf pd_1 rfl) rfl 0 (Nat.le_of_eq rfl) (by decide) (by decide) 0 0 rfl rfl (by decide) (by decide) rfl (fun r59 h59 q59 => ?_)
      obtain ⟨hr59, rfl⟩ := q59
      refine g_ifne C d6_62 110 (by decide) 65 rfl (fun k62 => ?_) (fun k62 => ?_)
      · have en5 : ends oc 5 := by
          rcases hr59 with ⟨-, q⟩ | ⟨q, -⟩
          · exact q
          · exact absurd q k62
        refine g_iconst C d6_110 111 rfl (1 : Int32) (by decide) ?_
        refine g_goto C d6_111 115 (by decide) ?_
        refine r_nar C (by simp) d6_115 (by decide) (by decide) ⟨Or.inl ⟨rfl, 5, by omega, by omega, en5⟩, rfl⟩
      · have en5 : ¬ ends oc 5 := by
          rcases hr59 with ⟨q, -⟩ | ⟨-, q⟩
          · rw [q] at k62; exact absurd k62 (by decide)
          · exact q
        exact J65 (fun j q1 q2 q3 => by
          by_cases e : j = 5
          · rw [e]; exact en5
          · exact hj j q1 (by omega) q3)
  have J39 : (∀ j, 1 ≤ j → j < 4 → j < n → ¬ ends oc j) → Go p l e ({ frames := 1, cells := 0, slots := 0, locals := 13 } : Room) s m #[(.ref a), (.int p1)] below meth c n0 (qI fun r h => WT oc n r ∧ h0 = h) h0 0 0 39 #[.val (.ref a), .val (.int p1)] [] := by
    intro hj
    refine g_iloadN C d6_39 40 rfl rfl ?_
    refine g_iconst C d6_40 41 rfl (4 : Int32) (by decide) ?_
    refine g_if_icmple C d6_41 52 (by decide) 44 rfl (fun k41 => ?_) (fun k41 => ?_)
    · exact J52 (fun j q1 q2 q3 => by
        by_cases e : j = 4
        · have := mt (Ix.lt (a := 4) (i := 4) ⟨by decide, by decide⟩ x1).mpr k41; omega
        · exact hj j q1 (by omega) q3)
    · have hn4 : 4 < n := (Ix.lt (a := 4) (i := 4) ⟨by decide, by decide⟩ x1).mp k41
      refine g_aloadN C d6_44 45 rfl rfl rfl ?_
      refine g_iconst C d6_45 46 rfl (4 : Int32) (by decide) ?_
      refine c_staticI C [(.ref a), (.int (4 : Int32))] [] (hw _ (List.mem_of_getElem? (i := 35) rfl)) (hw _ (List.mem_of_getElem? (i := 36) rfl)) (hw _ (List.mem_of_getElem? (i := 3) rfl)) (hw _ (List.mem_of_getElem? (i := 37) rfl)) (by decide) (m7 l Z a0 hw a (4 : Int32) h0 n0 oc 4 A ⟨by decide, by decide⟩ (by omega) (by omega)) d6_46 49 rfl (lenOf pd_1 rfl) rfl 0 (Nat.le_of_eq rfl) (by decide) (by decide) 0 0 rfl rfl (by decide) (by decide) rfl (fun r46 h46 q46 => ?_)
      obtain ⟨hr46, rfl⟩ := q46
      refine g_ifne C d6_49 110 (by decide) 52 rfl (fun k49 => ?_) (fun k49 => ?_)
      · have en4 : ends oc 4 := by
          rcases hr46 with ⟨-, q⟩ | ⟨q, -⟩
          · exact q
          · exact absurd q k49
        refine g_iconst C d6_110 111 rfl (1 : Int32) (by decide) ?_
        refine g_goto C d6_111 115 (by decide) ?_
        refine r_nar C (by simp) d6_115 (by decide) (by decide) ⟨Or.inl ⟨rfl, 4, by omega, by omega, en4⟩, rfl⟩
      · have en4 : ¬ ends oc 4 := by
          rcases hr46 with ⟨q, -⟩ | ⟨-, q⟩
          · rw [q] at k49; exact absurd k49 (by decide)
          · exact q
        exact J52 (fun j q1 q2 q3 => by
          by_cases e : j = 4
          · rw [e]; exact en4
          · exact hj j q1 (by omega) q3)
  have J26 : (∀ j, 1 ≤ j → j < 3 → j < n → ¬ ends oc j) → Go p l e ({ frames := 1, cells := 0, slots := 0, locals := 13 } : Room) s m #[(.ref a), (.int p1)] below meth c n0 (qI fun r h => WT oc n r ∧ h0 = h) h0 0 0 26 #[.val (.ref a), .val (.int p1)] [] := by
    intro hj
    refine g_iloadN C d6_26 27 rfl rfl ?_
    refine g_iconst C d6_27 28 rfl (3 : Int32) (by decide) ?_
    refine g_if_icmple C d6_28 39 (by decide) 31 rfl (fun k28 => ?_) (fun k28 => ?_)
    · exact J39 (fun j q1 q2 q3 => by
        by_cases e : j = 3
        · have := mt (Ix.lt (a := 3) (i := 3) ⟨by decide, by decide⟩ x1).mpr k28; omega
        · exact hj j q1 (by omega) q3)
    · have hn3 : 3 < n := (Ix.lt (a := 3) (i := 3) ⟨by decide, by decide⟩ x1).mp k28
      refine g_aloadN C d6_31 32 rfl rfl rfl ?_
      refine g_iconst C d6_32 33 rfl (3 : Int32) (by decide) ?_
      refine c_staticI C [(.ref a), (.int (3 : Int32))] [] (hw _ (List.mem_of_getElem? (i := 35) rfl)) (hw _ (List.mem_of_getElem? (i := 36) rfl)) (hw _ (List.mem_of_getElem? (i := 3) rfl)) (hw _ (List.mem_of_getElem? (i := 37) rfl)) (by decide) (m7 l Z a0 hw a (3 : Int32) h0 n0 oc 3 A ⟨by decide, by decide⟩ (by omega) (by omega)) d6_33 36 rfl (lenOf pd_1 rfl) rfl 0 (Nat.le_of_eq rfl) (by decide) (by decide) 0 0 rfl rfl (by decide) (by decide) rfl (fun r33 h33 q33 => ?_)
      obtain ⟨hr33, rfl⟩ := q33
      refine g_ifne C d6_36 110 (by decide) 39 rfl (fun k36 => ?_) (fun k36 => ?_)
      · have en3 : ends oc 3 := by
          rcases hr33 with ⟨-, q⟩ | ⟨q, -⟩
          · exact q
          · exact absurd q k36
        refine g_iconst C d6_110 111 rfl (1 : Int32) (by decide) ?_
        refine g_goto C d6_111 115 (by decide) ?_
        refine r_nar C (by simp) d6_115 (by decide) (by decide) ⟨Or.inl ⟨rfl, 3, by omega, by omega, en3⟩, rfl⟩
      · have en3 : ¬ ends oc 3 := by
          rcases hr33 with ⟨q, -⟩ | ⟨-, q⟩
          · rw [q] at k36; exact absurd k36 (by decide)
          · exact q
        exact J39 (fun j q1 q2 q3 => by
          by_cases e : j = 3
          · rw [e]; exact en3
          · exact hj j q1 (by omega) q3)
  have J13 : (∀ j, 1 ≤ j → j < 2 → j < n → ¬ ends oc j) → Go p l e ({ frames := 1, cells := 0, slots := 0, locals := 13 } : Room) s m #[(.ref a), (.int p1)] below meth c n0 (qI fun r h => WT oc n r ∧ h0 = h) h0 0 0 13 #[.val (.ref a), .val (.int p1)] [] := by
    intro hj
    refine g_iloadN C d6_13 14 rfl rfl ?_
    refine g_iconst C d6_14 15 rfl (2 : Int32) (by decide) ?_
    refine g_if_icmple C d6_15 26 (by decide) 18 rfl (fun k15 => ?_) (fun k15 => ?_)
    · exact J26 (fun j q1 q2 q3 => by
        by_cases e : j = 2
        · have := mt (Ix.lt (a := 2) (i := 2) ⟨by decide, by decide⟩ x1).mpr k15; omega
        · exact hj j q1 (by omega) q3)
    · have hn2 : 2 < n := (Ix.lt (a := 2) (i := 2) ⟨by decide, by decide⟩ x1).mp k15
      refine g_aloadN C d6_18 19 rfl rfl rfl ?_
      refine g_iconst C d6_19 20 rfl (2 : Int32) (by decide) ?_
      refine c_staticI C [(.ref a), (.int (2 : Int32))] [] (hw _ (List.mem_of_getElem? (i := 35) rfl)) (hw _ (List.mem_of_getElem? (i := 36) rfl)) (hw _ (List.mem_of_getElem? (i := 3) rfl)) (hw _ (List.mem_of_getElem? (i := 37) rfl)) (by decide) (m7 l Z a0 hw a (2 : Int32) h0 n0 oc 2 A ⟨by decide, by decide⟩ (by omega) (by omega)) d6_20 23 rfl (lenOf pd_1 rfl) rfl 0 (Nat.le_of_eq rfl) (by decide) (by decide) 0 0 rfl rfl (by decide) (by decide) rfl (fun r20 h20 q20 => ?_)
      obtain ⟨hr20, rfl⟩ := q20
      refine g_ifne C d6_23 110 (by decide) 26 rfl (fun k23 => ?_) (fun k23 => ?_)
      · have en2 : ends oc 2 := by
          rcases hr20 with ⟨-, q⟩ | ⟨q, -⟩
          · exact q
          · exact absurd q k23
        refine g_iconst C d6_110 111 rfl (1 : Int32) (by decide) ?_
        refine g_goto C d6_111 115 (by decide) ?_
        refine r_nar C (by simp) d6_115 (by decide) (by decide) ⟨Or.inl ⟨rfl, 2, by omega, by omega, en2⟩, rfl⟩
      · have en2 : ¬ ends oc 2 := by
          rcases hr20 with ⟨q, -⟩ | ⟨-, q⟩
          · rw [q] at k23; exact absurd k23 (by decide)
          · exact q
        exact J26 (fun j q1 q2 q3 => by
          by_cases e : j = 2
          · rw [e]; exact en2
          · exact hj j q1 (by omega) q3)
  have hj : ∀ j, 1 ≤ j → j < 1 → j < n → ¬ ends oc j := fun j q1 q2 => absurd q2 (by omega)
  refine g_iloadN C d6_0 1 rfl rfl ?_
  refine g_iconst C d6_1 2 rfl (1 : Int32) (by decide) ?_
  refine g_if_icmple C d6_2 13 (by decide) 5 rfl (fun k2 => ?_) (fun k2 => ?_)
  · exact J13 (fun j q1 q2 q3 => by
      by_cases e : j = 1
      · have := mt (Ix.lt (a := 1) (i := 1) ⟨by decide, by decide⟩ x1).mpr k2; omega
      · exact hj j q1 (by omega) q3)
  · have hn1 : 1 < n := (Ix.lt (a := 1) (i := 1) ⟨by decide, by decide⟩ x1).mp k2
    refine g_aloadN C d6_5 6 rfl rfl rfl ?_
    refine g_iconst C d6_6 7 rfl (1 : Int32) (by decide) ?_
    refine c_staticI C [(.ref a), (.int (1 : Int32))] [] (hw _ (List.mem_of_getElem? (i := 35) rfl)) (hw _ (List.mem_of_getElem? (i := 36) rfl)) (hw _ (List.mem_of_getElem? (i := 3) rfl)) (hw _ (List.mem_of_getElem? (i := 37) rfl)) (by decide) (m7 l Z a0 hw a (1 : Int32) h0 n0 oc 1 A ⟨by decide, by decide⟩ (by omega) (by omega)) d6_7 10 rfl (lenOf pd_1 rfl) rfl 0 (Nat.le_of_eq rfl) (by decide) (by decide) 0 0 rfl rfl (by decide) (by decide) rfl (fun r7 h7 q7 => ?_)
    obtain ⟨hr7, rfl⟩ := q7
    refine g_ifne C d6_10 110 (by decide) 13 rfl (fun k10 => ?_) (fun k10 => ?_)
    · have en1 : ends oc 1 := by
        rcases hr7 with ⟨-, q⟩ | ⟨q, -⟩
        · exact q
        · exact absurd q k10
      refine g_iconst C d6_110 111 rfl (1 : Int32) (by decide) ?_
      refine g_goto C d6_111 115 (by decide) ?_
      refine r_nar C (by simp) d6_115 (by decide) (by decide) ⟨Or.inl ⟨rfl, 1, by omega, by omega, en1⟩, rfl⟩
    · have en1 : ¬ ends oc 1 := by
        rcases hr7 with ⟨q, -⟩ | ⟨-, q⟩
        · rw [q] at k10; exact absurd k10 (by decide)
        · exact q
      exact J13 (fun j q1 q2 q3 => by
        by_cases e : j = 1
        · rw [e]; exact en1
        · exact hj j q1 (by omega) q3)
theorem d4_0 : decode prog_7_method_2_code 0 = .ok (.aload_n 1, 1) := by decide +kernel
theorem d4_1 : decode prog_7_method_2_code 1 = .ok (.astore_n 2, 1) := by decide +kernel
theorem d4_2 : decode prog_7_method_2_code 2 = .ok (.aload_n 2, 1) := by decide +kernel
theorem d4_3 : decode prog_7_method_2_code 3 = .ok (.arraylength, 1) := by decide +kernel
theorem d4_4 : decode prog_7_method_2_code 4 = .ok (.istore_n 3, 1) := by decide +kernel
theorem d4_5 : decode prog_7_method_2_code 5 = .ok (.iconst 0, 1) := by decide +kernel
theorem d4_6 : decode prog_7_method_2_code 6 = .ok (.istore 4, 2) := by decide +kernel
theorem d4_8 : decode prog_7_method_2_code 8 = .ok (.iload 4, 2) := by decide +kernel
theorem d4_10 : decode prog_7_method_2_code 10 = .ok (.iload_n 3, 1) := by decide +kernel
theorem d4_11 : decode prog_7_method_2_code 11 = .ok (.if_icmp .ge 116, 3) := by decide +kernel
theorem d4_14 : decode prog_7_method_2_code 14 = .ok (.aload_n 2, 1) := by decide +kernel
theorem d4_15 : decode prog_7_method_2_code 15 = .ok (.iload 4, 2) := by decide +kernel
theorem d4_17 : decode prog_7_method_2_code 17 = .ok (.baload, 1) := by decide +kernel
theorem d4_18 : decode prog_7_method_2_code 18 = .ok (.istore 5, 2) := by decide +kernel
theorem d4_20 : decode prog_7_method_2_code 20 = .ok (.aload_n 0, 1) := by decide +kernel
theorem d4_21 : decode prog_7_method_2_code 21 = .ok (.getfield 7, 3) := by decide +kernel
theorem d4_24 : decode prog_7_method_2_code 24 = .ok (.ifCond .eq 4, 3) := by decide +kernel
theorem d4_27 : decode prog_7_method_2_code 27 = .ok (.return_, 1) := by decide +kernel
theorem d4_28 : decode prog_7_method_2_code 28 = .ok (.iload 5, 2) := by decide +kernel
theorem d4_30 : decode prog_7_method_2_code 30 = .ok (.bipush 10, 2) := by decide +kernel
theorem d4_32 : decode prog_7_method_2_code 32 = .ok (.if_icmp .ne 39, 3) := by decide +kernel
theorem d4_35 : decode prog_7_method_2_code 35 = .ok (.aload_n 0, 1) := by decide +kernel
theorem d4_36 : decode prog_7_method_2_code 36 = .ok (.aload_n 0, 1) := by decide +kernel
theorem d4_37 : decode prog_7_method_2_code 37 = .ok (.getfield 13, 3) := by decide +kernel
theorem d4_40 : decode prog_7_method_2_code 40 = .ok (.ifCond .eq 14, 3) := by decide +kernel
theorem d4_43 : decode prog_7_method_2_code 43 = .ok (.aload_n 0, 1) := by decide +kernel
theorem d4_44 : decode prog_7_method_2_code 44 = .ok (.getfield 16, 3) := by decide +kernel
theorem d4_47 : decode prog_7_method_2_code 47 = .ok (.ifCond .ne 7, 3) := by decide +kernel
theorem d4_50 : decode prog_7_method_2_code 50 = .ok (.iconst 1, 1) := by decide +kernel
theorem d4_51 : decode prog_7_method_2_code 51 = .ok (.goto 4, 3) := by decide +kernel
theorem d4_54 : decode prog_7_method_2_code 54 = .ok (.iconst 0, 1) := by decide +kernel
theorem d4_55 : decode prog_7_method_2_code 55 = .ok (.putfield 7, 3) := by decide +kernel
theorem d4_58 : decode prog_7_method_2_code 58 = .ok (.aload_n 0, 1) := by decide +kernel
theorem d4_59 : decode prog_7_method_2_code 59 = .ok (.iconst 1, 1) := by decide +kernel
theorem d4_60 : decode prog_7_method_2_code 60 = .ok (.putfield 13, 3) := by decide +kernel
theorem d4_63 : decode prog_7_method_2_code 63 = .ok (.aload_n 0, 1) := by decide +kernel
theorem d4_64 : decode prog_7_method_2_code 64 = .ok (.iconst 0, 1) := by decide +kernel
theorem d4_65 : decode prog_7_method_2_code 65 = .ok (.putfield 16, 3) := by decide +kernel
theorem d4_68 : decode prog_7_method_2_code 68 = .ok (.goto 37, 3) := by decide +kernel
theorem d4_71 : decode prog_7_method_2_code 71 = .ok (.aload_n 0, 1) := by decide +kernel
theorem d4_72 : decode prog_7_method_2_code 72 = .ok (.dup, 1) := by decide +kernel
theorem d4_73 : decode prog_7_method_2_code 73 = .ok (.getfield 16, 3) := by decide +kernel
theorem d4_76 : decode prog_7_method_2_code 76 = .ok (.aload_n 0, 1) := by decide +kernel
theorem d4_77 : decode prog_7_method_2_code 77 = .ok (.getfield 20, 3) := by decide +kernel
theorem d4_80 : decode prog_7_method_2_code 80 = .ok (.ifCond .eq 7, 3) := by decide +kernel
theorem d4_83 : decode prog_7_method_2_code 83 = .ok (.iconst 1, 1) := by decide +kernel
theorem d4_84 : decode prog_7_method_2_code 84 = .ok (.goto 4, 3) := by decide +kernel
theorem d4_87 : decode prog_7_method_2_code 87 = .ok (.iconst 0, 1) := by decide +kernel
theorem d4_88 : decode prog_7_method_2_code 88 = .ok (.iload 5, 2) := by decide +kernel
theorem d4_90 : decode prog_7_method_2_code 90 = .ok (.bipush 13, 2) := by decide +kernel
theorem d4_92 : decode prog_7_method_2_code 92 = .ok (.if_icmp .ne 7, 3) := by decide +kernel
theorem d4_95 : decode prog_7_method_2_code 95 = .ok (.iconst 0, 1) := by decide +kernel
theorem d4_96 : decode prog_7_method_2_code 96 = .ok (.goto 4, 3) := by decide +kernel
theorem d4_99 : decode prog_7_method_2_code 99 = .ok (.iconst 1, 1) := by decide +kernel
theorem d4_100 : decode prog_7_method_2_code 100 = .ok (.iadd, 1) := by decide +kernel
theorem d4_101 : decode prog_7_method_2_code 101 = .ok (.iadd, 1) := by decide +kernel
theorem d4_102 : decode prog_7_method_2_code 102 = .ok (.putfield 16, 3) := by decide +kernel
theorem d4_105 : decode prog_7_method_2_code 105 = .ok (.aload_n 0, 1) := by decide +kernel
theorem d4_106 : decode prog_7_method_2_code 106 = .ok (.iload 5, 2) := by decide +kernel
theorem d4_108 : decode prog_7_method_2_code 108 = .ok (.bipush 13, 2) := by decide +kernel
theorem d4_110 : decode prog_7_method_2_code 110 = .ok (.if_icmp .ne 7, 3) := by decide +kernel
theorem d4_113 : decode prog_7_method_2_code 113 = .ok (.iconst 1, 1) := by decide +kernel
theorem d4_114 : decode prog_7_method_2_code 114 = .ok (.goto 4, 3) := by decide +kernel
theorem d4_117 : decode prog_7_method_2_code 117 = .ok (.iconst 0, 1) := by decide +kernel
theorem d4_118 : decode prog_7_method_2_code 118 = .ok (.putfield 20, 3) := by decide +kernel
theorem d4_121 : decode prog_7_method_2_code 121 = .ok (.iinc 4 1, 3) := by decide +kernel
theorem d4_124 : decode prog_7_method_2_code 124 = .ok (.goto (-116), 3) := by decide +kernel
theorem d4_127 : decode prog_7_method_2_code 127 = .ok (.return_, 1) := by decide +kernel
theorem ef_4 (m : MethodId) (x0 : Addr) (x1 : Addr) : entryFrame m #[(.ref x0), (.ref x1)] 6 = mkF m 0 #[.val (.ref x0), .val (.ref x1), .unset, .unset, .unset, .unset] [] := by first | (simp [entryFrame, mkF, argsToLocals, Value.category, maxLocals]; done) | rfl
set_option maxRecDepth 65536 in
set_option maxHeartbeats 40000000 in
theorem m4 (l : Launch) (Z : State) (a0 : Array Value) (hw : ∀ d ∈ tables_1, d.before a0 Z = true) (a : Addr) (bb : Addr) (h0 : Heap) (n0 : Nat) (oc : Nat → Int32) (i0 N : Nat) (z3 : Int32) (cp le ll cr : Int32) (na : n0 ≤ a) (nab : a ≠ bb) (B0 : RH Z h0 a cp le ll cr) (I0 : INV oc i0 cp le ll cr) (A0 : Ary Z h0 bb .byte N (fun j => .int (oc (i0 + j)))) (x3 : Ix z3 N) (hb : i0 + N ≤ 9) :
    Met l Z (⟨"com/example/curvehand/curvehand/cli/RequestHead", "scan", "([B)V"⟩ : MethodName) prog_7_method_2_code 6 none ({ frames := 0, cells := 0, slots := 0, locals := 0 } : Room) #[(.ref a), (.ref bb)] h0 n0 (qV fun h => ∃ cp' le' ll' cr', RH Z h a cp' le' ll' cr' ∧ INV oc (i0 + N) cp' le' ll' cr' ∧ Keep h0 h [a]) := by
  refine met (plainFor_of_name pn_com_example_curvehand_curvehand_cli_RequestHead) #[.val (.ref a), .val (.ref bb), .unset, .unset, .unset, .unset] (fun m => ef_4 m a bb) ?_
  intro p e s m below meth c C
  refine g_aloadN C d4_0 1 rfl rfl rfl ?_
  refine g_astoreN C d4_1 2 rfl #[.val (.ref a), .val (.ref bb), .val (.ref bb), .unset, .unset, .unset] rfl rfl ?_
  refine g_aloadN C d4_2 3 rfl rfl rfl ?_
  refine g_arraylength C A0 z3 x3 d4_3 4 rfl ?_
  refine g_istoreN C d4_4 5 rfl (fun z' => #[.val (.ref a), .val (.ref bb), .val (.ref bb), .val (.int z'), .unset, .unset]) (fun _ => rfl) (fun v4 ev4 => ?_)
  obtain rfl := ev4.symm
  refine g_iconst C d4_5 6 rfl (0 : Int32) (by decide) ?_
  refine g_istore C d4_6 8 rfl (fun z' => #[.val (.ref a), .val (.ref bb), .val (.ref bb), .val (.int z3), .val (.int z'), .unset]) (fun _ => rfl) (fun v6 ev6 => ?_)
  obtain rfl := ev6.symm
  have loop : ∀ (d i : Nat) (i' : Int32) (h : Heap) (cp le ll cr : Int32) (s5 : Slot) (o5 : OneS s5), Ix i' i → N - i = d → i ≤ N → RH Z h a cp le ll cr → INV oc (i0 + i) cp le ll cr → Ary Z h bb .byte N (fun j => .int (oc (i0 + j))) → Keep h0 h [a] → Go p l e ({ frames := 0, cells := 0, slots := 0, locals := 0 } : Room) s m #[(.ref a), (.ref bb)] below meth c n0 (qV fun h => ∃ cp' le' ll' cr', RH Z h a cp' le' ll' cr' ∧ INV oc (i0 + N) cp' le' ll' cr' ∧ Keep h0 h [a]) h 0 0 8 #[.val (.ref a), .val (.ref bb), .val (.ref bb), .val (.int z3), .val (.int i'), s5] [] := by
    intro d
    induction d using Nat.strongRecOn with
    | _ d ih =>
      intro i i' h cp le ll cr s5 o5 xi hd hi B I A K1
      refine g_iload C d4_8 10 rfl rfl ?_
      refine g_iloadN C d4_10 11 rfl rfl ?_
      refine g_if_icmpge C d4_11 127 (by decide) 14 rfl (fun k11 => ?_) (fun k11 => ?_)
      · have hin : i = N := by
          have := mt (xi.lt x3).mpr k11; omega
        refine r_void C d4_127 (by decide) (by decide) ⟨cp, le, ll, cr, B, by rw [← hin]; exact I, K1⟩
      · have hlt : i < N := (xi.lt x3).mp k11
        refine g_aloadN C d4_14 15 rfl rfl rfl ?_
        refine g_iload C d4_15 17 rfl rfl ?_
        refine g_baload C A i xi hlt (.int (oc (i0 + i))) rfl d4_17 18 rfl ?_
        refine g_istore C d4_18 20 rfl (fun z' => #[.val (.ref a), .val (.ref bb), .val (.ref bb), .val (.int z3), .val (.int i'), .val (.int z')]) (fun _ => by rcases o5 with rfl | ⟨w', rfl⟩ <;> rfl) (fun v18 ev18 => ?_)
        refine g_aloadN C d4_20 21 rfl rfl rfl ?_
        refine g_getfield C (host := "") (hw _ (List.mem_of_getElem? (i := 19) rfl)) B.2.1 d4_21 24 rfl ?_
        refine g_ifeq C d4_24 28 (by decide) 27 rfl (fun k24 => ?_) (fun k24 => ?_)
        · have RT := I.run k24
          subst k24
          refine g_iload C d4_28 30 rfl rfl ?_
          refine g_bipush C d4_30 32 rfl (10 : Int32) (by decide) ?_
          refine g_if_icmpne C d4_32 71 (by decide) 35 rfl (fun k32 => ?_) (fun k32 => ?_)
          · refine g_aloadN C d4_71 72 rfl rfl rfl ?_
            refine g_dup C d4_72 73 rfl rfl ?_
            refine g_getfield C (host := "") (hw _ (List.mem_of_getElem? (i := 23) rfl)) B.2.2.2.1 d4_73 76 rfl ?_
            refine g_aloadN C d4_76 77 rfl rfl rfl ?_
            refine g_getfield C (host := "") (hw _ (List.mem_of_getElem? (i := 25) rfl)) B.2.2.2.2 d4_77 80 rfl ?_
            refine g_ifeq C d4_80 87 (by decide) 83 rfl (fun k80 => ?_) (fun k80 => ?_)
            · refine g_iconst C d4_87 88 rfl (0 : Int32) (by decide) ?_
              refine g_iload C d4_88 90 rfl rfl ?_
              refine g_bipush C d4_90 92 rfl (13 : Int32) (by decide) ?_
              refine g_if_icmpne C d4_92 99 (by decide) 95 rfl (fun k92 => ?_) (fun k92 => ?_)
              · refine g_iconst C d4_99 100 rfl (1 : Int32) (by decide) ?_
                refine g_iadd C d4_100 101 rfl ?_
                refine g_iadd C d4_101 102 rfl ?_
                refine g_putfield C (hw _ (List.mem_of_getElem? (i := 23) rfl)) B.2.2.2.1 B.1 (Or.inl (hw _ (List.mem_of_getElem? (i := 24) rfl))) (hw _ (List.mem_of_getElem? (i := 6) rfl)) (ty := .int) (by decide) rfl rfl d4_102 105 rfl na (fun h102 W102 => ?_)
                have B102 := B.set2 hw W102
                have A102 := A.other W102 (Ne.symm nab)
                have K102 := K1.wr W102 (Or.inl (List.mem_of_getElem? (i := 0) rfl))
                refine g_aloadN C d4_105 106 rfl rfl rfl ?_
                refine g_iload C d4_106 108 rfl rfl ?_
                refine g_bipush C d4_108 110 rfl (13 : Int32) (by decide) ?_
                refine g_if_icmpne C d4_110 117 (by decide) 113 rfl (fun k110 => ?_) (fun k110 => ?_)
                · refine g_iconst C d4_117 118 rfl (0 : Int32) (by decide) ?_
                  
                  refine g_putfield C (hw _ (List.mem_of_getElem? (i := 25) rfl)) B102.2.2.2.2 B102.1 (Or.inl (hw _ (List.mem_of_getElem? (i := 26) rfl))) (hw _ (List.mem_of_getElem? (i := 6) rfl)) (ty := .boolean) (by decide) rfl rfl d4_118 121 rfl na (fun h118 W118 => ?_)
                  have B118 := B102.set3 hw W118
                  have A118 := A102.other W118 (Ne.symm nab)
                  have K118 := K102.wr W118 (Or.inl (List.mem_of_getElem? (i := 0) rfl))
                  have I118 := INV.oth RT.1 RT.2 (by rw [← ev18]; exact k32) (by rw [← ev18]; exact k92) (by omega) (Or.inl ⟨k80, rfl⟩)
                  refine g_iinc C d4_121 124 rfl rfl (1 : Int32) (by decide) (fun z' => #[.val (.ref a), .val (.ref bb), .val (.ref bb), .val (.int z3), .val (.int z'), .val (.int v18)]) (fun _ => rfl) (fun v121 ev121 => ?_)
                  refine g_goto C d4_124 8 (by decide) ?_
                  exact ih (N - (i + 1)) (by omega) (i + 1) _ _ _ _ _ _ (.val (.int v18)) OneS.i (by rw [ev121]; exact xi.succ (by omega)) rfl (by omega) B118 I118 A118 K118
                · exact absurd k110 k92
              · refine g_iconst C d4_95 96 rfl (0 : Int32) (by decide) ?_
                refine g_goto C d4_96 100 (by decide) ?_
                refine g_iadd C d4_100 101 rfl ?_
                refine g_iadd C d4_101 102 rfl ?_
                refine g_putfield C (hw _ (List.mem_of_getElem? (i := 23) rfl)) B.2.2.2.1 B.1 (Or.inl (hw _ (List.mem_of_getElem? (i := 24) rfl))) (hw _ (List.mem_of_getElem? (i := 6) rfl)) (ty := .int) (by decide) rfl rfl d4_102 105 rfl na (fun h102 W102 => ?_)
                have B102 := B.set2 hw W102
                have A102 := A.other W102 (Ne.symm nab)
                have K102 := K1.wr W102 (Or.inl (List.mem_of_getElem? (i := 0) rfl))
                refine g_aloadN C d4_105 106 rfl rfl rfl ?_
                refine g_iload C d4_106 108 rfl rfl ?_
                refine g_bipush C d4_108 110 rfl (13 : Int32) (by decide) ?_
                refine g_if_icmpne C d4_110 117 (by decide) 113 rfl (fun k110 => ?_) (fun k110 => ?_)
                · exact absurd k92 k110
                · refine g_iconst C d4_113 114 rfl (1 : Int32) (by decide) ?_
                  refine g_goto C d4_114 118 (by decide) ?_
                  
                  refine g_putfield C (hw _ (List.mem_of_getElem? (i := 25) rfl)) B102.2.2.2.2 B102.1 (Or.inl (hw _ (List.mem_of_getElem? (i := 26) rfl))) (hw _ (List.mem_of_getElem? (i := 6) rfl)) (ty := .boolean) (by decide) rfl rfl d4_118 121 rfl na (fun h118 W118 => ?_)
                  have B118 := B102.set3 hw W118
                  have A118 := A102.other W118 (Ne.symm nab)
                  have K118 := K102.wr W118 (Or.inl (List.mem_of_getElem? (i := 0) rfl))
                  have I118 := INV.cr RT.1 RT.2 (by rw [← ev18]; exact k92) (by omega) (Or.inl ⟨k80, rfl⟩)
                  refine g_iinc C d4_121 124 rfl rfl (1 : Int32) (by decide) (fun z' => #[.val (.ref a), .val (.ref bb), .val (.ref bb), .val (.int z3), .val (.int z'), .val (.int v18)]) (fun _ => rfl) (fun v121 ev121 => ?_)
                  refine g_goto C d4_124 8 (by decide) ?_
                  exact ih (N - (i + 1)) (by omega) (i + 1) _ _ _ _ _ _ (.val (.int v18)) OneS.i (by rw [ev121]; exact xi.succ (by omega)) rfl (by omega) B118 I118 A118 K118
            · refine g_iconst C d4_83 84 rfl (1 : Int32) (by decide) ?_
              refine g_goto C d4_84 88 (by decide) ?_
              refine g_iload C d4_88 90 rfl rfl ?_
              refine g_bipush C d4_90 92 rfl (13 : Int32) (by decide) ?_
              refine g_if_icmpne C d4_92 99 (by decide) 95 rfl (fun k92 => ?_) (fun k92 => ?_)
              · refine g_iconst C d4_99 100 rfl (1 : Int32) (by decide) ?_
                refine g_iadd C d4_100 101 rfl ?_
                refine g_iadd C d4_101 102 rfl ?_
                refine g_putfield C (hw _ (List.mem_of_getElem? (i := 23) rfl)) B.2.2.2.1 B.1 (Or.inl (hw _ (List.mem_of_getElem? (i := 24) rfl))) (hw _ (List.mem_of_getElem? (i := 6) rfl)) (ty := .int) (by decide) rfl rfl d4_102 105 rfl na (fun h102 W102 => ?_)
                have B102 := B.set2 hw W102
                have A102 := A.other W102 (Ne.symm nab)
                have K102 := K1.wr W102 (Or.inl (List.mem_of_getElem? (i := 0) rfl))
                refine g_aloadN C d4_105 106 rfl rfl rfl ?_
                refine g_iload C d4_106 108 rfl rfl ?_
                refine g_bipush C d4_108 110 rfl (13 : Int32) (by decide) ?_
                refine g_if_icmpne C d4_110 117 (by decide) 113 rfl (fun k110 => ?_) (fun k110 => ?_)
                · refine g_iconst C d4_117 118 rfl (0 : Int32) (by decide) ?_
                  
                  refine g_putfield C (hw _ (List.mem_of_getElem? (i := 25) rfl)) B102.2.2.2.2 B102.1 (Or.inl (hw _ (List.mem_of_getElem? (i := 26) rfl))) (hw _ (List.mem_of_getElem? (i := 6) rfl)) (ty := .boolean) (by decide) rfl rfl d4_118 121 rfl na (fun h118 W118 => ?_)
                  have B118 := B102.set3 hw W118
                  have A118 := A102.other W118 (Ne.symm nab)
                  have K118 := K102.wr W118 (Or.inl (List.mem_of_getElem? (i := 0) rfl))
                  have I118 := INV.oth RT.1 RT.2 (by rw [← ev18]; exact k32) (by rw [← ev18]; exact k92) (by omega) (Or.inr ⟨k80, rfl⟩)
                  refine g_iinc C d4_121 124 rfl rfl (1 : Int32) (by decide) (fun z' => #[.val (.ref a), .val (.ref bb), .val (.ref bb), .val (.int z3), .val (.int z'), .val (.int v18)]) (fun _ => rfl) (fun v121 ev121 => ?_)
                  refine g_goto C d4_124 8 (by decide) ?_
                  exact ih (N - (i + 1)) (by omega) (i + 1) _ _ _ _ _ _ (.val (.int v18)) OneS.i (by rw [ev121]; exact xi.succ (by omega)) rfl (by omega) B118 I118 A118 K118
                · exact absurd k110 k92
              · refine g_iconst C d4_95 96 rfl (0 : Int32) (by decide) ?_
                refine g_goto C d4_96 100 (by decide) ?_
                refine g_iadd C d4_100 101 rfl ?_
                refine g_iadd C d4_101 102 rfl ?_
                refine g_putfield C (hw _ (List.mem_of_getElem? (i := 23) rfl)) B.2.2.2.1 B.1 (Or.inl (hw _ (List.mem_of_getElem? (i := 24) rfl))) (hw _ (List.mem_of_getElem? (i := 6) rfl)) (ty := .int) (by decide) rfl rfl d4_102 105 rfl na (fun h102 W102 => ?_)
                have B102 := B.set2 hw W102
                have A102 := A.other W102 (Ne.symm nab)
                have K102 := K1.wr W102 (Or.inl (List.mem_of_getElem? (i := 0) rfl))
                refine g_aloadN C d4_105 106 rfl rfl rfl ?_
                refine g_iload C d4_106 108 rfl rfl ?_
                refine g_bipush C d4_108 110 rfl (13 : Int32) (by decide) ?_
                refine g_if_icmpne C d4_110 117 (by decide) 113 rfl (fun k110 => ?_) (fun k110 => ?_)
                · exact absurd k92 k110
                · refine g_iconst C d4_113 114 rfl (1 : Int32) (by decide) ?_
                  refine g_goto C d4_114 118 (by decide) ?_
                  
                  refine g_putfield C (hw _ (List.mem_of_getElem? (i := 25) rfl)) B102.2.2.2.2 B102.1 (Or.inl (hw _ (List.mem_of_getElem? (i := 26) rfl))) (hw _ (List.mem_of_getElem? (i := 6) rfl)) (ty := .boolean) (by decide) rfl rfl d4_118 121 rfl na (fun h118 W118 => ?_)
                  have B118 := B102.set3 hw W118
                  have A118 := A102.other W118 (Ne.symm nab)
                  have K118 := K102.wr W118 (Or.inl (List.mem_of_getElem? (i := 0) rfl))
                  have I118 := INV.cr RT.1 RT.2 (by rw [← ev18]; exact k92) (by omega) (Or.inr ⟨k80, rfl⟩)
                  refine g_iinc C d4_121 124 rfl rfl (1 : Int32) (by decide) (fun z' => #[.val (.ref a), .val (.ref bb), .val (.ref bb), .val (.int z3), .val (.int z'), .val (.int v18)]) (fun _ => rfl) (fun v121 ev121 => ?_)
                  refine g_goto C d4_124 8 (by decide) ?_
                  exact ih (N - (i + 1)) (by omega) (i + 1) _ _ _ _ _ _ (.val (.int v18)) OneS.i (by rw [ev121]; exact xi.succ (by omega)) rfl (by omega) B118 I118 A118 K118
          · have kx : oc (i0 + i) = 10 := by rw [← ev18]; exact k32
            refine g_aloadN C d4_35 36 rfl rfl rfl ?_
            refine g_aloadN C d4_36 37 rfl rfl rfl ?_
            refine g_getfield C (host := "") (hw _ (List.mem_of_getElem? (i := 21) rfl)) B.2.2.1 d4_37 40 rfl ?_
            refine g_ifeq C d4_40 54 (by decide) 43 rfl (fun k40 => ?_) (fun k40 => ?_)
            · refine g_iconst C d4_54 55 rfl (0 : Int32) (by decide) ?_
              refine g_putfield C (hw _ (List.mem_of_getElem? (i := 19) rfl)) B.2.1 B.1 (Or.inl (hw _ (List.mem_of_getElem? (i := 20) rfl))) (hw _ (List.mem_of_getElem? (i := 6) rfl)) (ty := .boolean) (by decide) rfl rfl d4_55 58 rfl na (fun h55 W55 => ?_)
              have B55 := B.set0 hw W55
              have A55 := A.other W55 (Ne.symm nab)
              have K55 := K1.wr W55 (Or.inl (List.mem_of_getElem? (i := 0) rfl))
              refine g_aloadN C d4_58 59 rfl rfl rfl ?_
              refine g_iconst C d4_59 60 rfl (1 : Int32) (by decide) ?_
              refine g_putfield C (hw _ (List.mem_of_getElem? (i := 21) rfl)) B55.2.2.1 B55.1 (Or.inl (hw _ (List.mem_of_getElem? (i := 22) rfl))) (hw _ (List.mem_of_getElem? (i := 6) rfl)) (ty := .boolean) (by decide) rfl rfl d4_60 63 rfl na (fun h60 W60 => ?_)
              have B60 := B55.set1 hw W60
              have A60 := A55.other W60 (Ne.symm nab)
              have K60 := K55.wr W60 (Or.inl (List.mem_of_getElem? (i := 0) rfl))
              refine g_aloadN C d4_63 64 rfl rfl rfl ?_
              refine g_iconst C d4_64 65 rfl (0 : Int32) (by decide) ?_
              refine g_putfield C (hw _ (List.mem_of_getElem? (i := 23) rfl)) B60.2.2.2.1 B60.1 (Or.inl (hw _ (List.mem_of_getElem? (i := 24) rfl))) (hw _ (List.mem_of_getElem? (i := 6) rfl)) (ty := .int) (by decide) rfl rfl d4_65 68 rfl na (fun h65 W65 => ?_)
              have B65 := B60.set2 hw W65
              have A65 := A60.other W65 (Ne.symm nab)
              have K65 := K60.wr W65 (Or.inl (List.mem_of_getElem? (i := 0) rfl))
              refine g_goto C d4_68 105 (by decide) ?_
              refine g_aloadN C d4_105 106 rfl rfl rfl ?_
              refine g_iload C d4_106 108 rfl rfl ?_
              refine g_bipush C d4_108 110 rfl (13 : Int32) (by decide) ?_
              refine g_if_icmpne C d4_110 117 (by decide) 113 rfl (fun k110 => ?_) (fun k110 => ?_)
              · refine g_iconst C d4_117 118 rfl (0 : Int32) (by decide) ?_
                
                refine g_putfield C (hw _ (List.mem_of_getElem? (i := 25) rfl)) B65.2.2.2.2 B65.1 (Or.inl (hw _ (List.mem_of_getElem? (i := 26) rfl))) (hw _ (List.mem_of_getElem? (i := 6) rfl)) (ty := .boolean) (by decide) rfl rfl d4_118 121 rfl na (fun h118 W118 => ?_)
                have B118 := B65.set3 hw W118
                have A118 := A65.other W118 (Ne.symm nab)
                have K118 := K65.wr W118 (Or.inl (List.mem_of_getElem? (i := 0) rfl))
                have I118 := INV.miss RT.1 RT.2 kx (Or.inl k40)
                refine g_iinc C d4_121 124 rfl rfl (1 : Int32) (by decide) (fun z' => #[.val (.ref a), .val (.ref bb), .val (.ref bb), .val (.int z3), .val (.int z'), .val (.int v18)]) (fun _ => rfl) (fun v121 ev121 => ?_)
                refine g_goto C d4_124 8 (by decide) ?_
                exact ih (N - (i + 1)) (by omega) (i + 1) _ _ _ _ _ _ (.val (.int v18)) OneS.i (by rw [ev121]; exact xi.succ (by omega)) rfl (by omega) B118 I118 A118 K118
              · exact absurd (k32.symm.trans k110) (by decide)
            · refine g_aloadN C d4_43 44 rfl rfl rfl ?_
              refine g_getfield C (host := "") (hw _ (List.mem_of_getElem? (i := 23) rfl)) B.2.2.2.1 d4_44 47 rfl ?_
              refine g_ifne C d4_47 54 (by decide) 50 rfl (fun k47 => ?_) (fun k47 => ?_)
              · refine g_iconst C d4_54 55 rfl (0 : Int32) (by decide) ?_
                refine g_putfield C (hw _ (List.mem_of_getElem? (i := 19) rfl)) B.2.1 B.1 (Or.inl (hw _ (List.mem_of_getElem? (i := 20) rfl))) (hw _ (List.mem_of_getElem? (i := 6) rfl)) (ty := .boolean) (by decide) rfl rfl d4_55 58 rfl na (fun h55 W55 => ?_)
                have B55 := B.set0 hw W55
                have A55 := A.other W55 (Ne.symm nab)
                have K55 := K1.wr W55 (Or.inl (List.mem_of_getElem? (i := 0) rfl))
                refine g_aloadN C d4_58 59 rfl rfl rfl ?_
                refine g_iconst C d4_59 60 rfl (1 : Int32) (by decide) ?_
                refine g_putfield C (hw _ (List.mem_of_getElem? (i := 21) rfl)) B55.2.2.1 B55.1 (Or.inl (hw _ (List.mem_of_getElem? (i := 22) rfl))) (hw _ (List.mem_of_getElem? (i := 6) rfl)) (ty := .boolean) (by decide) rfl rfl d4_60 63 rfl na (fun h60 W60 => ?_)
                have B60 := B55.set1 hw W60
                have A60 := A55.other W60 (Ne.symm nab)
                have K60 := K55.wr W60 (Or.inl (List.mem_of_getElem? (i := 0) rfl))
                refine g_aloadN C d4_63 64 rfl rfl rfl ?_
                refine g_iconst C d4_64 65 rfl (0 : Int32) (by decide) ?_
                refine g_putfield C (hw _ (List.mem_of_getElem? (i := 23) rfl)) B60.2.2.2.1 B60.1 (Or.inl (hw _ (List.mem_of_getElem? (i := 24) rfl))) (hw _ (List.mem_of_getElem? (i := 6) rfl)) (ty := .int) (by decide) rfl rfl d4_65 68 rfl na (fun h65 W65 => ?_)
                have B65 := B60.set2 hw W65
                have A65 := A60.other W65 (Ne.symm nab)
                have K65 := K60.wr W65 (Or.inl (List.mem_of_getElem? (i := 0) rfl))
                refine g_goto C d4_68 105 (by decide) ?_
                refine g_aloadN C d4_105 106 rfl rfl rfl ?_
                refine g_iload C d4_106 108 rfl rfl ?_
                refine g_bipush C d4_108 110 rfl (13 : Int32) (by decide) ?_
                refine g_if_icmpne C d4_110 117 (by decide) 113 rfl (fun k110 => ?_) (fun k110 => ?_)
                · refine g_iconst C d4_117 118 rfl (0 : Int32) (by decide) ?_
                  
                  refine g_putfield C (hw _ (List.mem_of_getElem? (i := 25) rfl)) B65.2.2.2.2 B65.1 (Or.inl (hw _ (List.mem_of_getElem? (i := 26) rfl))) (hw _ (List.mem_of_getElem? (i := 6) rfl)) (ty := .boolean) (by decide) rfl rfl d4_118 121 rfl na (fun h118 W118 => ?_)
                  have B118 := B65.set3 hw W118
                  have A118 := A65.other W118 (Ne.symm nab)
                  have K118 := K65.wr W118 (Or.inl (List.mem_of_getElem? (i := 0) rfl))
                  have I118 := INV.miss RT.1 RT.2 kx (Or.inr k47)
                  refine g_iinc C d4_121 124 rfl rfl (1 : Int32) (by decide) (fun z' => #[.val (.ref a), .val (.ref bb), .val (.ref bb), .val (.int z3), .val (.int z'), .val (.int v18)]) (fun _ => rfl) (fun v121 ev121 => ?_)
                  refine g_goto C d4_124 8 (by decide) ?_
                  exact ih (N - (i + 1)) (by omega) (i + 1) _ _ _ _ _ _ (.val (.int v18)) OneS.i (by rw [ev121]; exact xi.succ (by omega)) rfl (by omega) B118 I118 A118 K118
                · exact absurd (k32.symm.trans k110) (by decide)
              · refine g_iconst C d4_50 51 rfl (1 : Int32) (by decide) ?_
                refine g_goto C d4_51 55 (by decide) ?_
                refine g_putfield C (hw _ (List.mem_of_getElem? (i := 19) rfl)) B.2.1 B.1 (Or.inl (hw _ (List.mem_of_getElem? (i := 20) rfl))) (hw _ (List.mem_of_getElem? (i := 6) rfl)) (ty := .boolean) (by decide) rfl rfl d4_55 58 rfl na (fun h55 W55 => ?_)
                have B55 := B.set0 hw W55
                have A55 := A.other W55 (Ne.symm nab)
                have K55 := K1.wr W55 (Or.inl (List.mem_of_getElem? (i := 0) rfl))
                refine g_aloadN C d4_58 59 rfl rfl rfl ?_
                refine g_iconst C d4_59 60 rfl (1 : Int32) (by decide) ?_
                refine g_putfield C (hw _ (List.mem_of_getElem? (i := 21) rfl)) B55.2.2.1 B55.1 (Or.inl (hw _ (List.mem_of_getElem? (i := 22) rfl))) (hw _ (List.mem_of_getElem? (i := 6) rfl)) (ty := .boolean) (by decide) rfl rfl d4_60 63 rfl na (fun h60 W60 => ?_)
                have B60 := B55.set1 hw W60
                have A60 := A55.other W60 (Ne.symm nab)
                have K60 := K55.wr W60 (Or.inl (List.mem_of_getElem? (i := 0) rfl))
                refine g_aloadN C d4_63 64 rfl rfl rfl ?_
                refine g_iconst C d4_64 65 rfl (0 : Int32) (by decide) ?_
                refine g_putfield C (hw _ (List.mem_of_getElem? (i := 23) rfl)) B60.2.2.2.1 B60.1 (Or.inl (hw _ (List.mem_of_getElem? (i := 24) rfl))) (hw _ (List.mem_of_getElem? (i := 6) rfl)) (ty := .int) (by decide) rfl rfl d4_65 68 rfl na (fun h65 W65 => ?_)
                have B65 := B60.set2 hw W65
                have A65 := A60.other W65 (Ne.symm nab)
                have K65 := K60.wr W65 (Or.inl (List.mem_of_getElem? (i := 0) rfl))
                refine g_goto C d4_68 105 (by decide) ?_
                refine g_aloadN C d4_105 106 rfl rfl rfl ?_
                refine g_iload C d4_106 108 rfl rfl ?_
                refine g_bipush C d4_108 110 rfl (13 : Int32) (by decide) ?_
                refine g_if_icmpne C d4_110 117 (by decide) 113 rfl (fun k110 => ?_) (fun k110 => ?_)
                · refine g_iconst C d4_117 118 rfl (0 : Int32) (by decide) ?_
                  
                  refine g_putfield C (hw _ (List.mem_of_getElem? (i := 25) rfl)) B65.2.2.2.2 B65.1 (Or.inl (hw _ (List.mem_of_getElem? (i := 26) rfl))) (hw _ (List.mem_of_getElem? (i := 6) rfl)) (ty := .boolean) (by decide) rfl rfl d4_118 121 rfl na (fun h118 W118 => ?_)
                  have B118 := B65.set3 hw W118
                  have A118 := A65.other W118 (Ne.symm nab)
                  have K118 := K65.wr W118 (Or.inl (List.mem_of_getElem? (i := 0) rfl))
                  have I118 := INV.hit RT.2 kx k40 k47
                  refine g_iinc C d4_121 124 rfl rfl (1 : Int32) (by decide) (fun z' => #[.val (.ref a), .val (.ref bb), .val (.ref bb), .val (.int z3), .val (.int z'), .val (.int v18)]) (fun _ => rfl) (fun v121 ev121 => ?_)
                  refine g_goto C d4_124 8 (by decide) ?_
                  exact ih (N - (i + 1)) (by omega) (i + 1) _ _ _ _ _ _ (.val (.int v18)) OneS.i (by rw [ev121]; exact xi.succ (by omega)) rfl (by omega) B118 I118 A118 K118
                · exact absurd (k32.symm.trans k110) (by decide)
        · refine r_void C d4_27 (by decide) (by decide) ⟨cp, le, ll, cr, B, I.done k24 (by omega), K1⟩
  exact loop N 0 _ h0 cp le ll cr .unset OneS.u ⟨by decide, by decide⟩ rfl (by omega) B0 I0 A0 (Keep.refl _ _)
theorem pd_2 : parseMethodDescriptor "(I)B" = some ⟨[.int], some (.byte)⟩ := by decide +kernel
theorem pd_3 : parseMethodDescriptor "([B)V" = some ⟨[.array .byte], none⟩ := by decide +kernel
theorem pd_4 : parseMethodDescriptor "()Z" = some ⟨[], some (.boolean)⟩ := by decide +kernel
theorem ef_0 (m : MethodId) (x0 : Int32) (x1 : Int32) (x2 : Int32) : entryFrame m #[(.int x0), (.int x1), (.int x2)] maxLocals = mkF m 0 #[.val (.int x0), .val (.int x1), .val (.int x2), .unset, .unset, .unset, .unset, .unset, .unset] [] := by first | (simp [entryFrame, mkF, argsToLocals, Value.category, maxLocals]; done) | rfl
set_option maxRecDepth 65536 in
set_option maxHeartbeats 40000000 in
theorem m0 (l : Launch) (Z : State) (a0 : Array Value) (hw : ∀ d ∈ tables_1, d.before a0 Z = true) (p0 : Int32) (p1 : Int32) (p2 : Int32) (h0 : Heap) (n0 : Nat) (Z0 : n0 ≤ h0.size) :
    Met l Z x code maxLocals ret room_1 #[(.int p0), (.int p1), (.int p2)] h0 n0 (qI fun r h => r = 1) := by
  refine met (plainFor_of_name pn_com_example_curvehand_curvehand_cli_RequestHeadScanPinLaw) #[.val (.int p0), .val (.int p1), .val (.int p2), .unset, .unset, .unset, .unset, .unset, .unset] (fun m => ef_0 m p0 p1 p2) ?_
  intro p e s m below meth c C
  have C : Ctx p l e room_1 s m #[(.int p0), (.int p1), (.int p2)] below meth c Z "com/example/curvehand/curvehand/cli/RequestHeadScanPinLaw" "law" code 9 (some (.boolean)) := C
  refine g_bipush C at_0 2 rfl (9 : Int32) (by decide) ?_
  refine g_newarray C (hw _ (List.mem_of_getElem? (i := 0) rfl)) 9 9 ⟨by decide, by decide⟩ (by decide) (by decide) at_2 4 rfl 1 9 rfl rfl (by decide) (by decide) (fun h2 a2 ga2 E2 A2 => ?_)
  have n2 : n0 ≤ a2 := by rw [ga2]; exact Z0
  have Z2 : n0 ≤ h2.size := Nat.le_trans Z0 E2.1
  refine g_astoreN C at_4 5 rfl #[.val (.int p0), .val (.int p1), .val (.int p2), .val (.ref a2), .unset, .unset, .unset, .unset, .unset] rfl rfl ?_
  refine g_aloadN C at_5 6 rfl rfl rfl ?_
  refine g_iconst C at_6 7 rfl (0 : Int32) (by decide) ?_
  refine g_iloadN C at_7 8 rfl rfl ?_
  refine g_sipush C at_8 11 rfl (1023 : Int32) (by decide) ?_
  refine g_iand C at_11 12 rfl ?_
  refine c_staticI C [(.int (p0 &&& (1023 : Int32)))] [(.int (0 : Int32)), (.ref a2)] (hw _ (List.mem_of_getElem? (i := 1) rfl)) (hw _ (List.mem_of_getElem? (i := 2) rfl)) (hw _ (List.mem_of_getElem? (i := 3) rfl)) (hw _ (List.mem_of_getElem? (i := 4) rfl)) (by decide) (m1 l Z a0 hw (p0 &&& (1023 : Int32)) h2 n0) at_12 15 rfl (lenOf pd_2 rfl) rfl 2 (Nat.le_of_eq rfl) (by decide) (by decide) 1 9 rfl rfl (by decide) (by decide) rfl (fun r12 h12 q12 => ?_)
  obtain ⟨hr12, rfl⟩ := q12
  refine g_bastore C A2 0 ⟨by decide, by decide⟩ (by decide) at_15 16 rfl n2 (fun h15 W15 A15 => ?_)
  have Z15 : n0 ≤ h15.size := by rw [W15.size]; exact Z2
  refine g_aloadN C at_16 17 rfl rfl rfl ?_
  refine g_iconst C at_17 18 rfl (1 : Int32) (by decide) ?_
  refine g_iloadN C at_18 19 rfl rfl ?_
  refine g_bipush C at_19 21 rfl (10 : Int32) (by decide) ?_
  refine g_ishr C at_21 22 rfl ?_
  refine g_sipush C at_22 25 rfl (1023 : Int32) (by decide) ?_
  refine g_iand C at_25 26 rfl ?_
  refine c_staticI C [(.int ((p0 >>> ((10 : Int32) &&& 31)) &&& (1023 : Int32)))] [(.int (1 : Int32)), (.ref a2)] (hw _ (List.mem_of_getElem? (i := 1) rfl)) (hw _ (List.mem_of_getElem? (i := 2) rfl)) (hw _ (List.mem_of_getElem? (i := 3) rfl)) (hw _ (List.mem_of_getElem? (i := 4) rfl)) (by decide) (m1 l Z a0 hw ((p0 >>> ((10 : Int32) &&& 31)) &&& (1023 : Int32)) h15 n0) at_26 29 rfl (lenOf pd_2 rfl) rfl 2 (Nat.le_of_eq rfl) (by decide) (by decide) 1 9 rfl rfl (by decide) (by decide) rfl (fun r26 h26 q26 => ?_)
  obtain ⟨hr26, rfl⟩ := q26
  refine g_bastore C A15 1 ⟨by decide, by decide⟩ (by decide) at_29 30 rfl n2 (fun h29 W29 A29 => ?_)
  have Z29 : n0 ≤ h29.size := by rw [W29.size]; exact Z15
  refine g_aloadN C at_30 31 rfl rfl rfl ?_
  refine g_iconst C at_31 32 rfl (2 : Int32) (by decide) ?_
  refine g_iloadN C at_32 33 rfl rfl ?_
  refine g_bipush C at_33 35 rfl (20 : Int32) (by decide) ?_
  refine g_ishr C at_35 36 rfl ?_
  refine g_sipush C at_36 39 rfl (1023 : Int32) (by decide) ?_
  refine g_iand C at_39 40 rfl ?_
  refine c_staticI C [(.int ((p0 >>> ((20 : Int32) &&& 31)) &&& (1023 : Int32)))] [(.int (2 : Int32)), (.ref a2)] (hw _ (List.mem_of_getElem? (i := 1) rfl)) (hw _ (List.mem_of_getElem? (i := 2) rfl)) (hw _ (List.mem_of_getElem? (i := 3) rfl)) (hw _ (List.mem_of_getElem? (i := 4) rfl)) (by decide) (m1 l Z a0 hw ((p0 >>> ((20 : Int32) &&& 31)) &&& (1023 : Int32)) h29 n0) at_40 43 rfl (lenOf pd_2 rfl) rfl 2 (Nat.le_of_eq rfl) (by decide) (by decide) 1 9 rfl rfl (by decide) (by decide) rfl (fun r40 h40 q40 => ?_)
  obtain ⟨hr40, rfl⟩ := q40
  refine g_bastore C A29 2 ⟨by decide, by decide⟩ (by decide) at_43 44 rfl n2 (fun h43 W43 A43 => ?_)
  have Z43 : n0 ≤ h43.size := by rw [W43.size]; exact Z29
  refine g_aloadN C at_44 45 rfl rfl rfl ?_
  refine g_iconst C at_45 46 rfl (3 : Int32) (by decide) ?_
  refine g_iloadN C at_46 47 rfl rfl ?_
  refine g_sipush C at_47 50 rfl (1023 : Int32) (by decide) ?_
  refine g_iand C at_50 51 rfl ?_
  refine c_staticI C [(.int (p1 &&& (1023 : Int32)))] [(.int (3 : Int32)), (.ref a2)] (hw _ (List.mem_of_getElem? (i := 1) rfl)) (hw _ (List.mem_of_getElem? (i := 2) rfl)) (hw _ (List.mem_of_getElem? (i := 3) rfl)) (hw _ (List.mem_of_getElem? (i := 4) rfl)) (by decide) (m1 l Z a0 hw (p1 &&& (1023 : Int32)) h43 n0) at_51 54 rfl (lenOf pd_2 rfl) rfl 2 (Nat.le_of_eq rfl) (by decide) (by decide) 1 9 rfl rfl (by decide) (by decide) rfl (fun r51 h51 q51 => ?_)
  obtain ⟨hr51, rfl⟩ := q51
  refine g_bastore C A43 3 ⟨by decide, by decide⟩ (by decide) at_54 55 rfl n2 (fun h54 W54 A54 => ?_)
  have Z54 : n0 ≤ h54.size := by rw [W54.size]; exact Z43
  refine g_aloadN C at_55 56 rfl rfl rfl ?_
  refine g_iconst C at_56 57 rfl (4 : Int32) (by decide) ?_
  refine g_iloadN C at_57 58 rfl rfl ?_
  refine g_bipush C at_58 60 rfl (10 : Int32) (by decide) ?_
  refine g_ishr C at_60 61 rfl ?_
  refine g_sipush C at_61 64 rfl (1023 : Int32) (by decide) ?_
  refine g_iand C at_64 65 rfl ?_
  refine c_staticI C [(.int ((p1 >>> ((10 : Int32) &&& 31)) &&& (1023 : Int32)))] [(.int (4 : Int32)), (.ref a2)] (hw _ (List.mem_of_getElem? (i := 1) rfl)) (hw _ (List.mem_of_getElem? (i := 2) rfl)) (hw _ (List.mem_of_getElem? (i := 3) rfl)) (hw _ (List.mem_of_getElem? (i := 4) rfl)) (by decide) (m1 l Z a0 hw ((p1 >>> ((10 : Int32) &&& 31)) &&& (1023 : Int32)) h54 n0) at_65 68 rfl (lenOf pd_2 rfl) rfl 2 (Nat.le_of_eq rfl) (by decide) (by decide) 1 9 rfl rfl (by decide) (by decide) rfl (fun r65 h65 q65 => ?_)
  obtain ⟨hr65, rfl⟩ := q65
  refine g_bastore C A54 4 ⟨by decide, by decide⟩ (by decide) at_68 69 rfl n2 (fun h68 W68 A68 => ?_)
  have Z68 : n0 ≤ h68.size := by rw [W68.size]; exact Z54
  refine g_aloadN C at_69 70 rfl rfl rfl ?_
  refine g_iconst C at_70 71 rfl (5 : Int32) (by decide) ?_
  refine g_iloadN C at_71 72 rfl rfl ?_
  refine g_bipush C at_72 74 rfl (20 : Int32) (by decide) ?_
  refine g_ishr C at_74 75 rfl ?_
  refine g_sipush C at_75 78 rfl (1023 : Int32) (by decide) ?_
  refine g_iand C at_78 79 rfl ?_
  refine c_staticI C [(.int ((p1 >>> ((20 : Int32) &&& 31)) &&& (1023 : Int32)))] [(.int (5 : Int32)), (.ref a2)] (hw _ (List.mem_of_getElem? (i := 1) rfl)) (hw _ (List.mem_of_getElem? (i := 2) rfl)) (hw _ (List.mem_of_getElem? (i := 3) rfl)) (hw _ (List.mem_of_getElem? (i := 4) rfl)) (by decide) (m1 l Z a0 hw ((p1 >>> ((20 : Int32) &&& 31)) &&& (1023 : Int32)) h68 n0) at_79 82 rfl (lenOf pd_2 rfl) rfl 2 (Nat.le_of_eq rfl) (by decide) (by decide) 1 9 rfl rfl (by decide) (by decide) rfl (fun r79 h79 q79 => ?_)
  obtain ⟨hr79, rfl⟩ := q79
  refine g_bastore C A68 5 ⟨by decide, by decide⟩ (by decide) at_82 83 rfl n2 (fun h82 W82 A82 => ?_)
  have Z82 : n0 ≤ h82.size := by rw [W82.size]; exact Z68
  refine g_aloadN C at_83 84 rfl rfl rfl ?_
  refine g_bipush C at_84 86 rfl (6 : Int32) (by decide) ?_
  refine g_iloadN C at_86 87 rfl rfl ?_
  refine g_sipush C at_87 90 rfl (1023 : Int32) (by decide) ?_
  refine g_iand C at_90 91 rfl ?_
  refine c_staticI C [(.int (p2 &&& (1023 : Int32)))] [(.int (6 : Int32)), (.ref a2)] (hw _ (List.mem_of_getElem? (i := 1) rfl)) (hw _ (List.mem_of_getElem? (i := 2) rfl)) (hw _ (List.mem_of_getElem? (i := 3) rfl)) (hw _ (List.mem_of_getElem? (i := 4) rfl)) (by decide) (m1 l Z a0 hw (p2 &&& (1023 : Int32)) h82 n0) at_91 94 rfl (lenOf pd_2 rfl) rfl 2 (Nat.le_of_eq rfl) (by decide) (by decide) 1 9 rfl rfl (by decide) (by decide) rfl (fun r91 h91 q91 => ?_)
  obtain ⟨hr91, rfl⟩ := q91
  refine g_bastore C A82 6 ⟨by decide, by decide⟩ (by decide) at_94 95 rfl n2 (fun h94 W94 A94 => ?_)
  have Z94 : n0 ≤ h94.size := by rw [W94.size]; exact Z82
  refine g_aloadN C at_95 96 rfl rfl rfl ?_
  refine g_bipush C at_96 98 rfl (7 : Int32) (by decide) ?_
  refine g_iloadN C at_98 99 rfl rfl ?_
  refine g_bipush C at_99 101 rfl (10 : Int32) (by decide) ?_
  refine g_ishr C at_101 102 rfl ?_
  refine g_sipush C at_102 105 rfl (1023 : Int32) (by decide) ?_
  refine g_iand C at_105 106 rfl ?_
  refine c_staticI C [(.int ((p2 >>> ((10 : Int32) &&& 31)) &&& (1023 : Int32)))] [(.int (7 : Int32)), (.ref a2)] (hw _ (List.mem_of_getElem? (i := 1) rfl)) (hw _ (List.mem_of_getElem? (i := 2) rfl)) (hw _ (List.mem_of_getElem? (i := 3) rfl)) (hw _ (List.mem_of_getElem? (i := 4) rfl)) (by decide) (m1 l Z a0 hw ((p2 >>> ((10 : Int32) &&& 31)) &&& (1023 : Int32)) h94 n0) at_106 109 rfl (lenOf pd_2 rfl) rfl 2 (Nat.le_of_eq rfl) (by decide) (by decide) 1 9 rfl rfl (by decide) (by decide) rfl (fun r106 h106 q106 => ?_)
  obtain ⟨hr106, rfl⟩ := q106
  refine g_bastore C A94 7 ⟨by decide, by decide⟩ (by decide) at_109 110 rfl n2 (fun h109 W109 A109 => ?_)
  have Z109 : n0 ≤ h109.size := by rw [W109.size]; exact Z94
  refine g_aloadN C at_110 111 rfl rfl rfl ?_
  refine g_bipush C at_111 113 rfl (8 : Int32) (by decide) ?_
  refine g_iloadN C at_113 114 rfl rfl ?_
  refine g_bipush C at_114 116 rfl (20 : Int32) (by decide) ?_
  refine g_ishr C at_116 117 rfl ?_
  refine g_sipush C at_117 120 rfl (1023 : Int32) (by decide) ?_
  refine g_iand C at_120 121 rfl ?_
  refine c_staticI C [(.int ((p2 >>> ((20 : Int32) &&& 31)) &&& (1023 : Int32)))] [(.int (8 : Int32)), (.ref a2)] (hw _ (List.mem_of_getElem? (i := 1) rfl)) (hw _ (List.mem_of_getElem? (i := 2) rfl)) (hw _ (List.mem_of_getElem? (i := 3) rfl)) (hw _ (List.mem_of_getElem? (i := 4) rfl)) (by decide) (m1 l Z a0 hw ((p2 >>> ((20 : Int32) &&& 31)) &&& (1023 : Int32)) h109 n0) at_121 124 rfl (lenOf pd_2 rfl) rfl 2 (Nat.le_of_eq rfl) (by decide) (by decide) 1 9 rfl rfl (by decide) (by decide) rfl (fun r121 h121 q121 => ?_)
  obtain ⟨hr121, rfl⟩ := q121
  refine g_bastore C A109 8 ⟨by decide, by decide⟩ (by decide) at_124 125 rfl n2 (fun h124 W124 A124 => ?_)
  have Z124 : n0 ≤ h124.size := by rw [W124.size]; exact Z109
  obtain ⟨c0, hc0⟩ : ∃ z, z = nar .byte r12 := ⟨_, rfl⟩
  rw [← hc0] at A124
  have nc0 : nar .byte c0 = c0 := by rw [hc0, nar2]
  obtain ⟨c1, hc1⟩ : ∃ z, z = nar .byte r26 := ⟨_, rfl⟩
  rw [← hc1] at A124
  have nc1 : nar .byte c1 = c1 := by rw [hc1, nar2]
  obtain ⟨c2, hc2⟩ : ∃ z, z = nar .byte r40 := ⟨_, rfl⟩
  rw [← hc2] at A124
  have nc2 : nar .byte c2 = c2 := by rw [hc2, nar2]
  obtain ⟨c3, hc3⟩ : ∃ z, z = nar .byte r51 := ⟨_, rfl⟩
  rw [← hc3] at A124
  have nc3 : nar .byte c3 = c3 := by rw [hc3, nar2]
  obtain ⟨c4, hc4⟩ : ∃ z, z = nar .byte r65 := ⟨_, rfl⟩
  rw [← hc4] at A124
  have nc4 : nar .byte c4 = c4 := by rw [hc4, nar2]
  obtain ⟨c5, hc5⟩ : ∃ z, z = nar .byte r79 := ⟨_, rfl⟩
  rw [← hc5] at A124
  have nc5 : nar .byte c5 = c5 := by rw [hc5, nar2]
  obtain ⟨c6, hc6⟩ : ∃ z, z = nar .byte r91 := ⟨_, rfl⟩
  rw [← hc6] at A124
  have nc6 : nar .byte c6 = c6 := by rw [hc6, nar2]
  obtain ⟨c7, hc7⟩ : ∃ z, z = nar .byte r106 := ⟨_, rfl⟩
  rw [← hc7] at A124
  have nc7 : nar .byte c7 = c7 := by rw [hc7, nar2]
  obtain ⟨c8, hc8⟩ : ∃ z, z = nar .byte r121 := ⟨_, rfl⟩
  rw [← hc8] at A124
  have nc8 : nar .byte c8 = c8 := by rw [hc8, nar2]
  have AG124 : Ary Z h124 a2 .byte 9 (fun j => .int ((g9 c0 c1 c2 c3 c4 c5 c6 c7 c8) j)) := A124.congr (fun j hj => by
    have : j = 0 ∨ j = 1 ∨ j = 2 ∨ j = 3 ∨ j = 4 ∨ j = 5 ∨ j = 6 ∨ j = 7 ∨ j = 8 := by omega
    rcases this with rfl | rfl | rfl | rfl | rfl | rfl | rfl | rfl | rfl <;> rfl)
  refine g_iconst C at_125 126 rfl (4 : Int32) (by decide) ?_
  refine g_newarray C (hw _ (List.mem_of_getElem? (i := 0) rfl)) 4 4 ⟨by decide, by decide⟩ (by decide) (by decide) at_126 128 rfl 2 13 rfl rfl (by decide) (by decide) (fun h126 a126 ga126 E126 A126 => ?_)
  have n126 : n0 ≤ a126 := by rw [ga126]; exact Z124
  have Z126 : n0 ≤ h126.size := Nat.le_trans Z124 E126.1
  have AG126 := AG124.ext E126
  have ne1 : a2 ≠ a126 := by rw [ga126]; exact Nat.ne_of_lt AG124.lt
  refine g_astore C at_128 130 rfl #[.val (.int p0), .val (.int p1), .val (.int p2), .val (.ref a2), .val (.ref a126), .unset, .unset, .unset, .unset] rfl rfl ?_
  refine g_iconst C at_130 131 rfl (5 : Int32) (by decide) ?_
  refine g_newarray C (hw _ (List.mem_of_getElem? (i := 0) rfl)) 5 5 ⟨by decide, by decide⟩ (by decide) (by decide) at_131 133 rfl 3 18 rfl rfl (by decide) (by decide) (fun h131 a131 ga131 E131 A131 => ?_)
  have n131 : n0 ≤ a131 := by rw [ga131]; exact Z126
  have Z131 : n0 ≤ h131.size := Nat.le_trans Z126 E131.1
  have AG131 := AG126.ext E131
  have F131 := A126.ext E131
  have ne2 : a2 ≠ a131 := by rw [ga131]; exact Nat.ne_of_lt AG126.lt
  have ne3 : a126 ≠ a131 := by rw [ga131]; exact Nat.ne_of_lt A126.lt
  refine g_astore C at_133 135 rfl #[.val (.int p0), .val (.int p1), .val (.int p2), .val (.ref a2), .val (.ref a126), .val (.ref a131), .unset, .unset, .unset] rfl rfl ?_
  refine g_aload C at_135 137 rfl rfl rfl ?_
  refine g_iconst C at_137 138 rfl (0 : Int32) (by decide) ?_
  refine g_aloadN C at_138 139 rfl rfl rfl ?_
  refine g_iconst C at_139 140 rfl (0 : Int32) (by decide) ?_
  refine g_baload C AG131 0 ⟨by decide, by decide⟩ (by decide) (.int c0) rfl at_140 141 rfl ?_
  refine g_bastore C F131 0 ⟨by decide, by decide⟩ (by decide) at_141 142 rfl n126 (fun h141 W141 A141 => ?_)
  rw [nc0] at A141
  have AG141 := AG131.other W141 ne1
  have S141 := A131.other W141 (Ne.symm ne3)
  have Z141 : n0 ≤ h141.size := by rw [W141.size]; exact Z131
  refine g_aload C at_142 144 rfl rfl rfl ?_
  refine g_iconst C at_144 145 rfl (1 : Int32) (by decide) ?_
  refine g_aloadN C at_145 146 rfl rfl rfl ?_
  refine g_iconst C at_146 147 rfl (1 : Int32) (by decide) ?_
  refine g_baload C AG141 1 ⟨by decide, by decide⟩ (by decide) (.int c1) rfl at_147 148 rfl ?_
  refine g_bastore C A141 1 ⟨by decide, by decide⟩ (by decide) at_148 149 rfl n126 (fun h148 W148 A148 => ?_)
  rw [nc1] at A148
  have AG148 := AG141.other W148 ne1
  have S148 := S141.other W148 (Ne.symm ne3)
  have Z148 : n0 ≤ h148.size := by rw [W148.size]; exact Z141
  refine g_aload C at_149 151 rfl rfl rfl ?_
  refine g_iconst C at_151 152 rfl (2 : Int32) (by decide) ?_
  refine g_aloadN C at_152 153 rfl rfl rfl ?_
  refine g_iconst C at_153 154 rfl (2 : Int32) (by decide) ?_
  refine g_baload C AG148 2 ⟨by decide, by decide⟩ (by decide) (.int c2) rfl at_154 155 rfl ?_
  refine g_bastore C A148 2 ⟨by decide, by decide⟩ (by decide) at_155 156 rfl n126 (fun h155 W155 A155 => ?_)
  rw [nc2] at A155
  have AG155 := AG148.other W155 ne1
  have S155 := S148.other W155 (Ne.symm ne3)
  have Z155 : n0 ≤ h155.size := by rw [W155.size]; exact Z148
  refine g_aload C at_156 158 rfl rfl rfl ?_
  refine g_iconst C at_158 159 rfl (3 : Int32) (by decide) ?_
  refine g_aloadN C at_159 160 rfl rfl rfl ?_
  refine g_iconst C at_160 161 rfl (3 : Int32) (by decide) ?_
  refine g_baload C AG155 3 ⟨by decide, by decide⟩ (by decide) (.int c3) rfl at_161 162 rfl ?_
  refine g_bastore C A155 3 ⟨by decide, by decide⟩ (by decide) at_162 163 rfl n126 (fun h162 W162 A162 => ?_)
  rw [nc3] at A162
  have AG162 := AG155.other W162 ne1
  have S162 := S155.other W162 (Ne.symm ne3)
  have Z162 : n0 ≤ h162.size := by rw [W162.size]; exact Z155
  refine g_aload C at_163 165 rfl rfl rfl ?_
  refine g_iconst C at_165 166 rfl (0 : Int32) (by decide) ?_
  refine g_aloadN C at_166 167 rfl rfl rfl ?_
  refine g_iconst C at_167 168 rfl (4 : Int32) (by decide) ?_
  refine g_baload C AG162 4 ⟨by decide, by decide⟩ (by decide) (.int c4) rfl at_168 169 rfl ?_
  refine g_bastore C S162 0 ⟨by decide, by decide⟩ (by decide) at_169 170 rfl n131 (fun h169 W169 A169 => ?_)
  rw [nc4] at A169
  have AG169 := AG162.other W169 ne2
  have F169 := A162.other W169 ne3
  have Z169 : n0 ≤ h169.size := by rw [W169.size]; exact Z162
  refine g_aload C at_170 172 rfl rfl rfl ?_
  refine g_iconst C at_172 173 rfl (1 : Int32) (by decide) ?_
  refine g_aloadN C at_173 174 rfl rfl rfl ?_
  refine g_iconst C at_174 175 rfl (5 : Int32) (by decide) ?_
  refine g_baload C AG169 5 ⟨by decide, by decide⟩ (by decide) (.int c5) rfl at_175 176 rfl ?_
  refine g_bastore C A169 1 ⟨by decide, by decide⟩ (by decide) at_176 177 rfl n131 (fun h176 W176 A176 => ?_)
  rw [nc5] at A176
  have AG176 := AG169.other W176 ne2
  have F176 := F169.other W176 ne3
  have Z176 : n0 ≤ h176.size := by rw [W176.size]; exact Z169
  refine g_aload C at_177 179 rfl rfl rfl ?_
  refine g_iconst C at_179 180 rfl (2 : Int32) (by decide) ?_
  refine g_aloadN C at_180 181 rfl rfl rfl ?_
  refine g_bipush C at_181 183 rfl (6 : Int32) (by decide) ?_
  refine g_baload C AG176 6 ⟨by decide, by decide⟩ (by decide) (.int c6) rfl at_183 184 rfl ?_
  refine g_bastore C A176 2 ⟨by decide, by decide⟩ (by decide) at_184 185 rfl n131 (fun h184 W184 A184 => ?_)
  rw [nc6] at A184
  have AG184 := AG176.other W184 ne2
  have F184 := F176.other W184 ne3
  have Z184 : n0 ≤ h184.size := by rw [W184.size]; exact Z176
  refine g_aload C at_185 187 rfl rfl rfl ?_
  refine g_iconst C at_187 188 rfl (3 : Int32) (by decide) ?_
  refine g_aloadN C at_188 189 rfl rfl rfl ?_
  refine g_bipush C at_189 191 rfl (7 : Int32) (by decide) ?_
  refine g_baload C AG184 7 ⟨by decide, by decide⟩ (by decide) (.int c7) rfl at_191 192 rfl ?_
  refine g_bastore C A184 3 ⟨by decide, by decide⟩ (by decide) at_192 193 rfl n131 (fun h192 W192 A192 => ?_)
  rw [nc7] at A192
  have AG192 := AG184.other W192 ne2
  have F192 := F184.other W192 ne3
  have Z192 : n0 ≤ h192.size := by rw [W192.size]; exact Z184
  refine g_aload C at_193 195 rfl rfl rfl ?_
  refine g_iconst C at_195 196 rfl (4 : Int32) (by decide) ?_
  refine g_aloadN C at_196 197 rfl rfl rfl ?_
  refine g_bipush C at_197 199 rfl (8 : Int32) (by decide) ?_
  refine g_baload C AG192 8 ⟨by decide, by decide⟩ (by decide) (.int c8) rfl at_199 200 rfl ?_
  refine g_bastore C A192 4 ⟨by decide, by decide⟩ (by decide) at_200 201 rfl n131 (fun h200 W200 A200 => ?_)
  rw [nc8] at A200
  have AG200 := AG192.other W200 ne2
  have F200 := F192.other W200 ne3
  have Z200 : n0 ≤ h200.size := by rw [W200.size]; exact Z192
  have FF : Ary Z h200 a126 .byte 4 (fun j => .int ((g9 c0 c1 c2 c3 c4 c5 c6 c7 c8) (0 + j))) := F200.congr (fun j hj => by
    have : j = 0 ∨ j = 1 ∨ j = 2 ∨ j = 3 := by omega
    rcases this with rfl | rfl | rfl | rfl <;> rfl)
  have SS : Ary Z h200 a131 .byte 5 (fun j => .int ((g9 c0 c1 c2 c3 c4 c5 c6 c7 c8) (4 + j))) := A200.congr (fun j hj => by
    have : j = 0 ∨ j = 1 ∨ j = 2 ∨ j = 3 ∨ j = 4 := by omega
    rcases this with rfl | rfl | rfl | rfl | rfl <;> rfl)
  refine g_new C (hw _ (List.mem_of_getElem? (i := 5) rfl)) (hw _ (List.mem_of_getElem? (i := 6) rfl)) (hw _ (List.mem_of_getElem? (i := 7) rfl)) at_201 204 rfl 4 22 rfl rfl (by decide) (by decide) (fun h201 a201 ga201 E201 X201 D201 => ?_)
  have n201 : n0 ≤ a201 := by rw [ga201]; exact Z200
  have m1 : a2 ≠ a201 := by rw [ga201]; exact Nat.ne_of_lt AG200.lt
  have m2' : a126 ≠ a201 := by rw [ga201]; exact Nat.ne_of_lt FF.lt
  have m3 : a131 ≠ a201 := by rw [ga201]; exact Nat.ne_of_lt SS.lt
  have R201 : RH Z h201 a201 0 0 0 0 := ⟨X201, D201 (Or.inl (hw _ (List.mem_of_getElem? (i := 20) rfl))) (ty := .boolean) (by decide), D201 (Or.inl (hw _ (List.mem_of_getElem? (i := 22) rfl))) (ty := .boolean) (by decide), D201 (Or.inl (hw _ (List.mem_of_getElem? (i := 24) rfl))) (ty := .int) (by decide), D201 (Or.inl (hw _ (List.mem_of_getElem? (i := 26) rfl))) (ty := .boolean) (by decide)⟩
  have AG201 := AG200.ext E201
  have F201 := FF.ext E201
  have S201 := SS.ext E201
  refine g_dup C at_204 205 rfl rfl ?_
  refine c_specialV C a201 [] [(.ref a201)] rfl (hw _ (List.mem_of_getElem? (i := 8) rfl)) (hw _ (List.mem_of_getElem? (i := 9) rfl)) (hw _ (List.mem_of_getElem? (i := 7) rfl)) (hw _ (List.mem_of_getElem? (i := 10) rfl)) (by decide) (m2 l Z a0 hw a201 h201 n0) at_205 208 rfl (lenOf pd_0 rfl) rfl 1 (Nat.le_of_eq rfl) (by decide) (by decide) 4 22 rfl rfl (by decide) (by decide) rfl (fun h205 q205 => ?_)
  obtain rfl := q205
  refine g_astore C at_208 210 rfl #[.val (.int p0), .val (.int p1), .val (.int p2), .val (.ref a2), .val (.ref a126), .val (.ref a131), .val (.ref a201), .unset, .unset] rfl rfl ?_
  refine g_aload C at_210 212 rfl rfl rfl ?_
  refine g_aload C at_212 214 rfl rfl rfl ?_
  refine c_virtualV C a201 [(.ref a126)] [] (hw _ (List.mem_of_getElem? (i := 14) rfl)) (hw _ (List.mem_of_getElem? (i := 15) rfl)) (hw _ (List.mem_of_getElem? (i := 17) rfl)) (hw _ (List.mem_of_getElem? (i := 16) rfl)) (hw _ (List.mem_of_getElem? (i := 7) rfl)) (hw _ (List.mem_of_getElem? (i := 18) rfl)) (by decide) R201.1 (m4 l Z a0 hw a201 a126 h201 n0 (g9 c0 c1 c2 c3 c4 c5 c6 c7 c8) 0 4 4 0 0 0 0 n201 (Ne.symm m2') R201 (INV.start _) F201 ⟨by decide, by decide⟩ (by decide)) at_214 217 rfl (lenOf pd_3 rfl) rfl 0 (Nat.le_of_eq rfl) (by decide) (by decide) 4 22 rfl rfl (by decide) (by decide) rfl (fun h214 q214 => ?_)
  obtain ⟨cp1, le1, ll1, cr1, R214, I214, K214⟩ := q214
  have AG214 := AG201.keep K214 (by simpa using m1)
  have S214 := S201.keep K214 (by simpa using m3)
  refine g_aload C at_217 219 rfl rfl rfl ?_
  refine c_virtualI C a201 [] [] (hw _ (List.mem_of_getElem? (i := 27) rfl)) (hw _ (List.mem_of_getElem? (i := 28) rfl)) (hw _ (List.mem_of_getElem? (i := 30) rfl)) (hw _ (List.mem_of_getElem? (i := 29) rfl)) (hw _ (List.mem_of_getElem? (i := 7) rfl)) (hw _ (List.mem_of_getElem? (i := 31) rfl)) (by decide) R214.1 (m5 l Z a0 hw a201 h214 n0 cp1 le1 ll1 cr1 R214 I214.bool) at_219 222 rfl (lenOf pd_4 rfl) rfl 0 (Nat.le_of_eq rfl) (by decide) (by decide) 4 22 rfl rfl (by decide) (by decide) rfl (fun r219 h219 q219 => ?_)
  obtain ⟨hr219, rfl⟩ := q219
  refine g_istore C at_222 224 rfl (fun z' => #[.val (.int p0), .val (.int p1), .val (.int p2), .val (.ref a2), .val (.ref a126), .val (.ref a131), .val (.ref a201), .val (.int z'), .unset]) (fun _ => rfl) (fun v222 ev222 => ?_)
  refine g_aload C at_224 226 rfl rfl rfl ?_
  refine g_aload C at_226 228 rfl rfl rfl ?_
  refine c_virtualV C a201 [(.ref a131)] [] (hw _ (List.mem_of_getElem? (i := 14) rfl)) (hw _ (List.mem_of_getElem? (i := 15) rfl)) (hw _ (List.mem_of_getElem? (i := 17) rfl)) (hw _ (List.mem_of_getElem? (i := 16) rfl)) (hw _ (List.mem_of_getElem? (i := 7) rfl)) (hw _ (List.mem_of_getElem? (i := 18) rfl)) (by decide) R214.1 (m4 l Z a0 hw a201 a131 h214 n0 (g9 c0 c1 c2 c3 c4 c5 c6 c7 c8) 4 5 5 cp1 le1 ll1 cr1 n201 (Ne.symm m3) R214 I214 S214 ⟨by decide, by decide⟩ (by decide)) at_228 231 rfl (lenOf pd_3 rfl) rfl 0 (Nat.le_of_eq rfl) (by decide) (by decide) 4 22 rfl rfl (by decide) (by decide) rfl (fun h228 q228 => ?_)
  obtain ⟨cp2, le2, ll2, cr2, R228, I228, K228⟩ := q228
  have AG228 := AG214.keep K228 (by simpa using m1)
  refine g_aload C at_231 233 rfl rfl rfl ?_
  refine c_virtualI C a201 [] [] (hw _ (List.mem_of_getElem? (i := 27) rfl)) (hw _ (List.mem_of_getElem? (i := 28) rfl)) (hw _ (List.mem_of_getElem? (i := 30) rfl)) (hw _ (List.mem_of_getElem? (i := 29) rfl)) (hw _ (List.mem_of_getElem? (i := 7) rfl)) (hw _ (List.mem_of_getElem? (i := 31) rfl)) (by decide) R228.1 (m5 l Z a0 hw a201 h228 n0 cp2 le2 ll2 cr2 R228 I228.bool) at_233 236 rfl (lenOf pd_4 rfl) rfl 0 (Nat.le_of_eq rfl) (by decide) (by decide) 4 22 rfl rfl (by decide) (by decide) rfl (fun r233 h233 q233 => ?_)
  obtain ⟨hr233, rfl⟩ := q233
  refine g_istore C at_236 238 rfl (fun z' => #[.val (.int p0), .val (.int p1), .val (.int p2), .val (.ref a2), .val (.ref a126), .val (.ref a131), .val (.ref a201), .val (.int v222), .val (.int z')]) (fun _ => rfl) (fun v236 ev236 => ?_)
  refine g_iload C at_238 240 rfl rfl ?_
  refine g_aloadN C at_240 241 rfl rfl rfl ?_
  refine g_iconst C at_241 242 rfl (4 : Int32) (by decide) ?_
  refine c_staticI C [(.ref a2), (.int (4 : Int32))] [(.int v222)] (hw _ (List.mem_of_getElem? (i := 32) rfl)) (hw _ (List.mem_of_getElem? (i := 33) rfl)) (hw _ (List.mem_of_getElem? (i := 3) rfl)) (hw _ (List.mem_of_getElem? (i := 34) rfl)) (by decide) (m6 l Z a0 hw a2 (4 : Int32) h228 n0 (g9 c0 c1 c2 c3 c4 c5 c6 c7 c8) 4 AG228 ⟨by decide, by decide⟩ (by decide)) at_242 245 rfl (lenOf pd_1 rfl) rfl 1 (Nat.le_of_eq rfl) (by decide) (by decide) 4 22 rfl rfl (by decide) (by decide) rfl (fun r242 h242 q242 => ?_)
  obtain ⟨hr242, rfl⟩ := q242
  refine g_if_icmpne C at_245 263 (by decide) 248 rfl (fun k245 => ?_) (fun k245 => ?_)
  · exact absurd (by rw [ev222, hr219]; exact own_same I214 hr242) k245
  · refine g_iload C at_248 250 rfl rfl ?_
    refine g_aloadN C at_250 251 rfl rfl rfl ?_
    refine g_bipush C at_251 253 rfl (9 : Int32) (by decide) ?_
    refine c_staticI C [(.ref a2), (.int (9 : Int32))] [(.int v236)] (hw _ (List.mem_of_getElem? (i := 32) rfl)) (hw _ (List.mem_of_getElem? (i := 33) rfl)) (hw _ (List.mem_of_getElem? (i := 3) rfl)) (hw _ (List.mem_of_getElem? (i := 34) rfl)) (by decide) (m6 l Z a0 hw a2 (9 : Int32) h228 n0 (g9 c0 c1 c2 c3 c4 c5 c6 c7 c8) 9 AG228 ⟨by decide, by decide⟩ (by decide)) at_253 256 rfl (lenOf pd_1 rfl) rfl 1 (Nat.le_of_eq rfl) (by decide) (by decide) 4 22 rfl rfl (by decide) (by decide) rfl (fun r253 h253 q253 => ?_)
    obtain ⟨hr253, rfl⟩ := q253
    refine g_if_icmpne C at_256 263 (by decide) 259 rfl (fun k256 => ?_) (fun k256 => ?_)
    · exact absurd (by rw [ev236, hr233]; exact own_same I228 hr253) k256
    · refine g_iconst C at_259 260 rfl (1 : Int32) (by decide) ?_
      refine g_goto C at_260 264 (by decide) ?_
      refine r_nar C (by simp) at_264 (by decide) (by decide) rfl
set_option maxRecDepth 65536 in
set_option maxHeartbeats 40000000 in
theorem comes_1 {Post : Tables → Env → Array Value → State → Outcome → State → Prop} (hpost : ∀ tb e args s v u, (limb_1_1.after args s (.returned v) u = true ∧ limb_1_2.after args s (.returned v) u = true ∧ True) → FrameEnd s (.returned v) u (Jvm.fieldLocs frame_1_writes args s ++ Jvm.arrayLocs frame_1_arrays args s ++ Jvm.staticLocs frame_1_statics s) 16 128 → Post tb e args s (.returned v) u) :
    ArmFor flags0 classFile x code maxLocals ret World_1 tables_1 room_1 Calls_1 rest_1 Pre_1 Post := by
  intro l hfl _ _ p e ha hc hk s m args below hf hA hF happ hP
  obtain ⟨hcalls, hrest, hpre⟩ := hP
  obtain ⟨-, -, -, hnamed, -, -, -, hat⟩ := (Spec.applies_iff hf).mp happ
  obtain ⟨hg, hn⟩ := and_e (Cond.before_iff.mp (show (Jvm.Cond.and given_1 narrow_1).before args s = true from hpre))
  obtain ⟨h1, g0⟩ := and_e hg
  obtain ⟨w0, w1, w2, rfl⟩ : ∃ w0 w1 w2 : Value, args = #[w0, w1, w2] := by
    have hs : args.size = 3 := by simpa [Cond.value, given_1] using h1
    obtain ⟨L⟩ := args
    match L, hs with
    | [w0, w1, w2], _ => exact ⟨w0, w1, w2, rfl⟩
  have hw := fun d (hd : d ∈ tables_1) => atoms_spec (ws := Jvm.Cond.code x code maxLocals ret :: tables_1) hat d (List.mem_cons_of_mem _ hd)
  obtain ⟨b0, g1⟩ := and_e g0
  obtain ⟨i0, q0⟩ := is_v b0
  obtain rfl : w0 = (.int i0) := Option.some.inj q0
  obtain ⟨b1, g2⟩ := and_e g1
  obtain ⟨i1, q1⟩ := is_v b1
  obtain rfl : w1 = (.int i1) := Option.some.inj q1
  obtain ⟨i2, q2⟩ := is_v g2
  obtain rfl : w2 = (.int i2) := Option.some.inj q2
  obtain ⟨n, o, h1, h2, h3, _, L, rfl, ⟨⟨r, rfl, rfl⟩, N⟩, hq⟩ := m0 l s _ hw i0 i1 i2 s.heap s.heap.size (Nat.le_refl _) tables_1 p e ha hc hk s m _ below hf ((Spec.applies_iff_loose hf).mp happ).1 ⟨rfl, State.Warmed39.refl s, rfl⟩ trivial
  refine ⟨n, _, h1, h2, h3, hpost _ _ _ _ _ _ ⟨Cond.after_iff.mpr rfl, Cond.after_iff.mpr (eq_i res_at (Term.int_eval (1)) rfl), trivial⟩ ⟨hq.1, hq.2.1, (hq.2.2.sift fun y hy => Or.inr (N y hy)).mono (by decide) (by decide)⟩⟩
theorem main_1_1 : Claimed_1_1 := comes_1 fun _ _ _ _ _ _ h hF => ⟨h.1, hF⟩
theorem main_1_2 : Claimed_1_2 := comes_1 fun _ _ _ _ _ _ h hF => ⟨h.2.1, hF⟩
end Jvm.Pilot.@@N@@
namespace Jvm.Pilot.@@N@@
open Jvm Jvm.ClassFile Sem Op Lib Jvm.Free Jvm.Stand Jvm.Pilot.@@N@@.Jvm.D
/-! MADE BY PROGRAM (witnessworld.py) out of the Statement's table words and the real class files: 9 classes; the members and pool entries that the words name. The judged class is class 1, her method 4. -/
namespace start1
open Jvm.ClassFile
def u (s : String) : CpInfo := .utf8 (stringToUtf16 s)
/-- a pool by its gaps: so many unusable entries, then the entry; so many at the end -/
def gap : Nat → List CpInfo → List CpInfo
  | 0, r => r
  | n + 1, r => .unusable :: gap n r
def poolList (es : List (Nat × CpInfo)) (last : Nat) : List CpInfo := es.foldr (fun e r => gap e.1 (e.2 :: r)) (gap last [])
def pool (es : List (Nat × CpInfo)) (last : Nat) : Array CpInfo := ⟨poolList es last⟩
def fileOf (pool : Array CpInfo) (this : Nat) (attrs : Array Attribute := #[]) (ms : Array MethodInfo := #[]) (fl : Nat := 33) (sup : Nat := 0) (ifs : Array Nat := #[]) (fds : Array FieldInfo := #[]) : ClassFile where
  minorVersion := 0
  majorVersion := 65
  constantPool := pool
  accessFlags := fl
  thisClass := this
  superClass := sup
  interfaces := ifs
  fields := fds
  methods := ms
  attributes := attrs
def plain (name : String) (sup : Option ClassId) : Class where
  name := name
  kind := .ordinary
  loader := none
  accessFlags := 33
  super := sup
  interfaces := #[]
  cf := none
  fields := #[]
  methods := #[]
  instanceTypes := #[]
  staticTypes := #[]
  resolved := #[]
  callSites := []
  init := .initialized
  statics := none
  mirror := none

def pool0 : Array CpInfo := pool [(5, u "<init>"), (0, u "()V"), (1, .class_ 10), (1, u "java/lang/Object")] 113

def k0c0 : Code := { maxStack := 0, maxLocals := 1, code := object_method_1_code, exceptionTable := #[], attributes := #[] }
def k0m0 : Method := { name := "<init>", desc := "()V", sig := { parameters := [], returnType := none }, accessFlags := 1, code := some k0c0 }
/-- java/lang/Object -/
def k0 : Class := { plain "java/lang/Object" none with
  accessFlags := 33
  interfaces := #[]
  cf := some (fileOf pool0 8 #[] #[{ accessFlags := 1, nameIndex := 5, descriptorIndex := 6, attributes := #[] }] 33 0 #[] #[])
  fields := #[]
  methods := #[k0m0]
  instanceTypes := #[]
  staticTypes := #[]
  resolved := Array.replicate 124 none
  statics := none }

def pool1 : Array CpInfo := pool [(2, .class_ 4), (0, .nameAndType 5 6), (0, u "java/lang/Object"), (0, u "<init>"), (0, u "()V"), (0, .methodref 8 9), (0, .class_ 10), (0, .nameAndType 11 12), (0, u "com/example/curvehand/curvehand/cli/RequestHeadScanPinLaw"), (0, u "endsAt"), (0, u "([BI)Z"), (0, .methodref 8 14), (0, .nameAndType 15 16), (0, u "pick"), (0, u "(I)B"), (0, .class_ 18), (0, u "com/example/curvehand/curvehand/cli/RequestHead"), (0, .methodref 17 3), (0, .methodref 17 21), (0, .nameAndType 22 23), (0, u "scan"), (0, u "([B)V"), (0, .methodref 17 25), (0, .nameAndType 26 27), (0, u "complete"), (0, u "()Z"), (0, .methodref 8 29), (0, .nameAndType 30 12), (0, u "within"), (3, u "law"), (0, u "(III)Z")] 4

def k1m0 : Method := { name := "<init>", desc := "()V", sig := { parameters := [], returnType := none }, accessFlags := 1, code := none }
def k1c1 : Code := { maxStack := 2, maxLocals := 2, code := method_2_code, exceptionTable := #[], attributes := #[] }
def k1m1 : Method := { name := "pick", desc := "(I)B", sig := { parameters := [.int], returnType := some .byte }, accessFlags := 10, code := some k1c1 }
def k1c2 : Code := { maxStack := 3, maxLocals := 2, code := method_3_code, exceptionTable := #[], attributes := #[] }
def k1m2 : Method := { name := "endsAt", desc := "([BI)Z", sig := { parameters := [(.array .byte), .int], returnType := some .boolean }, accessFlags := 10, code := some k1c2 }
def k1c3 : Code := { maxStack := 2, maxLocals := 2, code := method_4_code, exceptionTable := #[], attributes := #[] }
def k1m3 : Method := { name := "within", desc := "([BI)Z", sig := { parameters := [(.array .byte), .int], returnType := some .boolean }, accessFlags := 10, code := some k1c3 }
def k1c4 : Code := { maxStack := 4, maxLocals := 9, code := code, exceptionTable := #[], attributes := #[] }
def k1m4 : Method := { name := "law", desc := "(III)Z", sig := { parameters := [.int, .int, .int], returnType := some .boolean }, accessFlags := 9, code := some k1c4 }
/-- com/example/curvehand/curvehand/cli/RequestHeadScanPinLaw -/
def k1 : Class := { plain "com/example/curvehand/curvehand/cli/RequestHeadScanPinLaw" (some 0) with
  accessFlags := 49
  interfaces := #[]
  cf := some (fileOf pool1 8 #[] #[{ accessFlags := 1, nameIndex := 5, descriptorIndex := 6, attributes := #[] }, { accessFlags := 10, nameIndex := 15, descriptorIndex := 16, attributes := #[] }, { accessFlags := 10, nameIndex := 11, descriptorIndex := 12, attributes := #[] }, { accessFlags := 10, nameIndex := 30, descriptorIndex := 12, attributes := #[] }, { accessFlags := 9, nameIndex := 34, descriptorIndex := 35, attributes := #[] }] 49 2 #[] #[])
  fields := #[]
  methods := #[k1m0, k1m1, k1m2, k1m3, k1m4]
  instanceTypes := #[]
  staticTypes := #[]
  resolved := Array.replicate 40 none
  statics := none }

def pool2 : Array CpInfo := pool [(1, .methodref 2 3), (0, .class_ 4), (0, .nameAndType 5 6), (0, u "java/lang/Object"), (0, u "<init>"), (0, u "()V"), (0, .fieldref 8 9), (0, .class_ 10), (0, .nameAndType 11 12), (0, u "com/example/curvehand/curvehand/cli/RequestHead"), (0, u "complete"), (0, u "Z"), (0, .fieldref 8 14), (0, .nameAndType 15 12), (0, u "lineEnded"), (0, .fieldref 8 17), (0, .nameAndType 18 19), (0, u "lineLength"), (0, u "I"), (0, .fieldref 8 21), (0, .nameAndType 22 12), (0, u "carriageReturn"), (2, u "scan"), (0, u "([B)V"), (3, u "()Z")] 2

def k2c0 : Code := { maxStack := 1, maxLocals := 1, code := prog_7_method_1_code, exceptionTable := #[], attributes := #[] }
def k2m0 : Method := { name := "<init>", desc := "()V", sig := { parameters := [], returnType := none }, accessFlags := 0, code := some k2c0 }
def k2c1 : Code := { maxStack := 5, maxLocals := 6, code := prog_7_method_2_code, exceptionTable := #[], attributes := #[] }
def k2m1 : Method := { name := "scan", desc := "([B)V", sig := { parameters := [(.array .byte)], returnType := none }, accessFlags := 0, code := some k2c1 }
def k2c2 : Code := { maxStack := 1, maxLocals := 1, code := prog_7_method_3_code, exceptionTable := #[], attributes := #[] }
def k2m2 : Method := { name := "complete", desc := "()Z", sig := { parameters := [], returnType := some .boolean }, accessFlags := 0, code := some k2c2 }
/-- com/example/curvehand/curvehand/cli/RequestHead -/
def k2 : Class := { plain "com/example/curvehand/curvehand/cli/RequestHead" (some 0) with
  accessFlags := 48
  interfaces := #[]
  cf := some (fileOf pool2 8 #[] #[{ accessFlags := 0, nameIndex := 5, descriptorIndex := 6, attributes := #[] }, { accessFlags := 0, nameIndex := 25, descriptorIndex := 26, attributes := #[] }, { accessFlags := 0, nameIndex := 11, descriptorIndex := 30, attributes := #[] }] 48 2 #[] #[{ accessFlags := 2, nameIndex := 18, descriptorIndex := 19, attributes := #[] }, { accessFlags := 2, nameIndex := 22, descriptorIndex := 12, attributes := #[] }, { accessFlags := 2, nameIndex := 15, descriptorIndex := 12, attributes := #[] }, { accessFlags := 2, nameIndex := 11, descriptorIndex := 12, attributes := #[] }])
  fields := #[{ name := "lineLength", type := .int, accessFlags := 2, slot := 0, constantValue := 0 }, { name := "carriageReturn", type := .boolean, accessFlags := 2, slot := 1, constantValue := 0 }, { name := "lineEnded", type := .boolean, accessFlags := 2, slot := 2, constantValue := 0 }, { name := "complete", type := .boolean, accessFlags := 2, slot := 3, constantValue := 0 }]
  methods := #[k2m0, k2m1, k2m2]
  instanceTypes := #[.int, .boolean, .boolean, .boolean]
  staticTypes := #[]
  resolved := Array.replicate 33 none
  statics := none }

def pool3 : Array CpInfo := pool [(1, u "java/lang/Cloneable"), (0, .class_ 1), (0, u "java/lang/Object"), (0, .class_ 3)] 3

/-- java/lang/Cloneable -/
def k3 : Class := { plain "java/lang/Cloneable" (some 0) with
  accessFlags := 1537
  interfaces := #[]
  cf := some (fileOf pool3 2 #[] #[] 1537 4 #[] #[])
  fields := #[]
  methods := #[]
  instanceTypes := #[]
  staticTypes := #[]
  resolved := Array.replicate 8 none
  statics := none }

def pool4 : Array CpInfo := pool [(1, u "java/io/Serializable"), (0, .class_ 1), (0, u "java/lang/Object"), (0, .class_ 3)] 3

/-- java/io/Serializable -/
def k4 : Class := { plain "java/io/Serializable" (some 0) with
  accessFlags := 1537
  interfaces := #[]
  cf := some (fileOf pool4 2 #[] #[] 1537 4 #[] #[])
  fields := #[]
  methods := #[]
  instanceTypes := #[]
  staticTypes := #[]
  resolved := Array.replicate 8 none
  statics := none }

/-- the primitive byte -/
def k5 : Class := { plain "byte" none with kind := .primitive 'B', accessFlags := 0x411 }
/-- [B -/
def k6 : Class := { plain "[B" (some 0) with kind := .array 5 .byte, interfaces := #[3, 4], accessFlags := 1041 }

/-- the primitive int -/
def k7 : Class := { plain "int" none with kind := .primitive 'I', accessFlags := 0x411 }
/-- [I -/
def k8 : Class := { plain "[I" (some 0) with kind := .array 7 .int, interfaces := #[3, 4], accessFlags := 1041 }

def heap : Heap := #[]
def classes : Array Class := #[k0, k1, k2, k3, k4, k5, k6, k7, k8]
def interned : List (Array UInt16 × Addr) := []
def slotsUsed : Nat := 0
def theMethod : MethodId := ⟨1, 4⟩
def args0 : Array Value := #[.int 5, .int 5, .int 5]
def aboutOver (below : List Frame) : State where
  vm := { classes := classes, interned := interned.toArray }
  heap := heap
  slotsUsed := slotsUsed
  threads := #[{ frames := .invoking theMethod args0 :: below }]
def below0 : List Frame := [.native { method := ⟨0, 0⟩, args := #[] }]
def about1 : State := aboutOver below0
def p0 : Program := .bare "" "" ""
def e0 : Env := launch0.env 0 0 0
theorem w_frames : about1.frames = Frame.invoking theMethod args0 :: below0 := rfl
set_option maxRecDepth 65536 in
theorem w_args : argsFit about1.vm theMethod args0 = true := by decide +kernel
set_option maxRecDepth 65536 in
theorem w_heap : heapFits about1 = true := by decide +kernel
set_option maxRecDepth 65536 in
theorem w_runnable : about1.curStatus? = some .runnable := by decide +kernel
set_option maxRecDepth 65536 in
theorem w_alone : about1.alone = true := by decide +kernel
set_option maxRecDepth 65536 in
theorem w_named : about1.methodNamed? x = some theMethod := by decide +kernel
set_option maxRecDepth 65536 in
theorem w_hears : about1.hears theMethod below0 = true := by decide +kernel
set_option maxRecDepth 65536 in
theorem w_ripe : about1.ripe theMethod args0 below0 = true := by decide +kernel
theorem w_running : about1.status = .running := rfl
set_option maxRecDepth 65536 in
theorem w_room : about1.hasRoom e0.platform room_1 = true :=
  launch0.hasRoom_least _ room_1 (by decide +kernel) (by decide +kernel) (by decide +kernel) (by decide +kernel) (by decide +kernel) (by decide +kernel)
theorem allAtoms_all (ts : List Jvm.Cond) (a : Array Jvm.Value) (st : Jvm.State) : (allAtoms ts).before a st = ts.all (fun c => c.before a st) := by
  induction ts with
  | nil => rfl
  | cons c t ih =>
    show (Jvm.Cond.and c (allAtoms t)).before a st = _
    rw [Jvm.Cond.before_and, ih, List.all_cons]
def words1 : List Jvm.Cond := Jvm.Cond.code x code maxLocals ret :: tables_1
/-- a 'code' word, met by the world's own term for the bytes: nothing is compared byte by byte -/
theorem code_word {y : MethodName} {bytes : ByteArray} {mx : Nat} {rt : Option FieldType} {a : Array Value} {s : State} {m : MethodId} {meth : Method} {c : Code} (h1 : s.methodNamed? y = some m) (h2 : s.vm.method? m = some meth) (h3 : meth.code = some c) (h4 : c.code = bytes)
    (h5 : (c.maxLocals == mx && c.exceptionTable.isEmpty && decide (c.maxStack ≤ mostOperands) && decide (meth.sig.returnType = rt) && !meth.locks && decide (parseMethodDescriptor y.desc = some meth.sig)) = true) : (Jvm.Cond.code y bytes mx rt).before a s = true := by
  simp only [Bool.and_eq_true, beq_iff_eq, Bool.not_eq_true', decide_eq_true_eq] at h5
  obtain ⟨⟨⟨⟨⟨g1, g2⟩, g3⟩, g4⟩, g5⟩, g6⟩ := h5
  simp [Cond.before, Cond.holds, Cond.value, h1, h2, h3, h4, g1, g2, g3, g4, g5, g6]
def isCode : Jvm.Cond → Bool
  | .code _ _ _ _ => true
  | _ => false
theorem all_split {L : List Jvm.Cond} {P : Jvm.Cond → Bool} (h1 : L.all (fun c => isCode c || P c) = true) (h2 : ∀ c ∈ L.filter isCode, P c = true) : L.all P = true := by
  refine List.all_eq_true.mpr fun c hc => ?_
  have h := List.all_eq_true.mp h1 c hc
  rcases Bool.eq_false_or_eq_true (isCode c) with hi | hi
  · exact h2 c (List.mem_filter.mpr ⟨hc, hi⟩)
  · simpa [hi] using h
set_option maxRecDepth 65536 in
theorem w_c0 : (Jvm.Cond.code x code maxLocals ret).before args0 about1 = true := code_word (m := ⟨1, 4⟩) (meth := k1m4) (c := k1c4) (by decide +kernel) rfl rfl rfl (by decide +kernel)
set_option maxRecDepth 65536 in
theorem w_c1 : (Jvm.Cond.code ({ cls := "com/example/curvehand/curvehand/cli/RequestHeadScanPinLaw", name := "pick", desc := "(I)B" } : Jvm.MethodName) method_2_code (2 : Nat) (Option.some Jvm.ClassFile.FieldType.byte)).before args0 about1 = true := code_word (m := ⟨1, 1⟩) (meth := k1m1) (c := k1c1) (by decide +kernel) rfl rfl rfl (by decide +kernel)
set_option maxRecDepth 65536 in
theorem w_c2 : (Jvm.Cond.code ({ cls := "com/example/curvehand/curvehand/cli/RequestHead", name := "<init>", desc := "()V" } : Jvm.MethodName) prog_7_method_1_code (1 : Nat) (Option.none : Option Jvm.ClassFile.FieldType)).before args0 about1 = true := code_word (m := ⟨2, 0⟩) (meth := k2m0) (c := k2c0) (by decide +kernel) rfl rfl rfl (by decide +kernel)
set_option maxRecDepth 65536 in
theorem w_c3 : (Jvm.Cond.code ({ cls := "java/lang/Object", name := "<init>", desc := "()V" } : Jvm.MethodName) object_method_1_code (1 : Nat) (Option.none : Option Jvm.ClassFile.FieldType)).before args0 about1 = true := code_word (m := ⟨0, 0⟩) (meth := k0m0) (c := k0c0) (by decide +kernel) rfl rfl rfl (by decide +kernel)
set_option maxRecDepth 65536 in
theorem w_c4 : (Jvm.Cond.code ({ cls := "com/example/curvehand/curvehand/cli/RequestHead", name := "scan", desc := "([B)V" } : Jvm.MethodName) prog_7_method_2_code (6 : Nat) (Option.none : Option Jvm.ClassFile.FieldType)).before args0 about1 = true := code_word (m := ⟨2, 1⟩) (meth := k2m1) (c := k2c1) (by decide +kernel) rfl rfl rfl (by decide +kernel)
set_option maxRecDepth 65536 in
theorem w_c5 : (Jvm.Cond.code ({ cls := "com/example/curvehand/curvehand/cli/RequestHead", name := "complete", desc := "()Z" } : Jvm.MethodName) prog_7_method_3_code (1 : Nat) (Option.some Jvm.ClassFile.FieldType.boolean)).before args0 about1 = true := code_word (m := ⟨2, 2⟩) (meth := k2m2) (c := k2c2) (by decide +kernel) rfl rfl rfl (by decide +kernel)
set_option maxRecDepth 65536 in
theorem w_c6 : (Jvm.Cond.code ({ cls := "com/example/curvehand/curvehand/cli/RequestHeadScanPinLaw", name := "within", desc := "([BI)Z" } : Jvm.MethodName) method_4_code (2 : Nat) (Option.some Jvm.ClassFile.FieldType.boolean)).before args0 about1 = true := code_word (m := ⟨1, 3⟩) (meth := k1m3) (c := k1c3) (by decide +kernel) rfl rfl rfl (by decide +kernel)
set_option maxRecDepth 65536 in
theorem w_c7 : (Jvm.Cond.code ({ cls := "com/example/curvehand/curvehand/cli/RequestHeadScanPinLaw", name := "endsAt", desc := "([BI)Z" } : Jvm.MethodName) method_3_code (2 : Nat) (Option.some Jvm.ClassFile.FieldType.boolean)).before args0 about1 = true := code_word (m := ⟨1, 2⟩) (meth := k1m2) (c := k1c2) (by decide +kernel) rfl rfl rfl (by decide +kernel)
def codes1 : List Jvm.Cond := [Jvm.Cond.code x code maxLocals ret, Jvm.Cond.code ({ cls := "com/example/curvehand/curvehand/cli/RequestHeadScanPinLaw", name := "pick", desc := "(I)B" } : Jvm.MethodName) method_2_code (2 : Nat) (Option.some Jvm.ClassFile.FieldType.byte), Jvm.Cond.code ({ cls := "com/example/curvehand/curvehand/cli/RequestHead", name := "<init>", desc := "()V" } : Jvm.MethodName) prog_7_method_1_code (1 : Nat) (Option.none : Option Jvm.ClassFile.FieldType), Jvm.Cond.code ({ cls := "java/lang/Object", name := "<init>", desc := "()V" } : Jvm.MethodName) object_method_1_code (1 : Nat) (Option.none : Option Jvm.ClassFile.FieldType), Jvm.Cond.code ({ cls := "com/example/curvehand/curvehand/cli/RequestHead", name := "scan", desc := "([B)V" } : Jvm.MethodName) prog_7_method_2_code (6 : Nat) (Option.none : Option Jvm.ClassFile.FieldType), Jvm.Cond.code ({ cls := "com/example/curvehand/curvehand/cli/RequestHead", name := "complete", desc := "()Z" } : Jvm.MethodName) prog_7_method_3_code (1 : Nat) (Option.some Jvm.ClassFile.FieldType.boolean), Jvm.Cond.code ({ cls := "com/example/curvehand/curvehand/cli/RequestHeadScanPinLaw", name := "within", desc := "([BI)Z" } : Jvm.MethodName) method_4_code (2 : Nat) (Option.some Jvm.ClassFile.FieldType.boolean), Jvm.Cond.code ({ cls := "com/example/curvehand/curvehand/cli/RequestHeadScanPinLaw", name := "endsAt", desc := "([BI)Z" } : Jvm.MethodName) method_3_code (2 : Nat) (Option.some Jvm.ClassFile.FieldType.boolean)]
set_option maxRecDepth 65536 in
theorem codes_eq : words1.filter isCode = codes1 := rfl
theorem w_codes : ∀ c ∈ words1.filter isCode, c.before args0 about1 = true := by
  rw [codes_eq]
  intro c hc
  simp only [codes1, List.mem_cons, List.not_mem_nil, or_false] at hc
  rcases hc with rfl | rfl | rfl | rfl | rfl | rfl | rfl | rfl
  · exact w_c0
  · exact w_c1
  · exact w_c2
  · exact w_c3
  · exact w_c4
  · exact w_c5
  · exact w_c6
  · exact w_c7
set_option maxRecDepth 65536 in
theorem w_t1 : (words1.take 24).all (fun c => isCode c || c.before args0 about1) = true := by decide +kernel
set_option maxRecDepth 65536 in
theorem w_t2 : (words1.drop 24).all (fun c => isCode c || c.before args0 about1) = true := by decide +kernel
theorem w_tables : (allAtoms (Jvm.Cond.code x code maxLocals ret :: tables_1)).before args0 about1 = true := by
  rw [allAtoms_all]
  show words1.all (fun c => c.before args0 about1) = true
  refine all_split ?_ w_codes
  rw [← List.take_append_drop 24 words1, List.all_append, w_t1, w_t2]
  rfl
set_option maxRecDepth 65536 in
theorem w_case : (Jvm.Cond.and given_1 narrow_1).before args0 about1 = true := by decide +kernel
theorem w_applies : (headSpec (Jvm.Cond.code x code maxLocals ret :: tables_1) room_1).applies x e0.platform about1 = true :=
  (Spec.applies_iff w_frames).mpr ⟨w_running, w_runnable, w_alone, w_named, w_hears, w_ripe, w_room, w_tables⟩
theorem atStart : AtStart classFile x code maxLocals ret World_1 tables_1 room_1 Calls_1 rest_1 Pre_1 launch0 p0 e0 about1 theMethod args0 below0 :=
  ⟨lists_1, trivial, launch0.admits_env _ _ _, launch0.least_env, fairChoices_fair.cas, fairChoices_fair.clock, w_frames, w_args, w_heap, w_applies, trivial, trivial, w_case⟩
end start1
theorem witness_1 : WitnessClaimed_1 := ⟨start1.p0, start1.e0, start1.about1, start1.theMethod, start1.args0, start1.below0, start1.atStart⟩
end Jvm.Pilot.@@N@@
