import JvmDerived
import JvmDerived.Pilot.@@N@@Statement
import JvmDerived.Pilot.@@N@@Code
set_option linter.unusedVariables false
set_option linter.unusedSimpArgs false
namespace Jvm.RoadKit
open Sem ClassFile Op Lib Jvm.Stand Jvm.Free Jvm.LawKit
section New
variable {p : Program} {l : Launch} {e : Env} {R : Room} {s : State} {m : MethodId} {args : Array Value} {below : List Frame} {meth : Method} {c : Code} {T : State} {locs : List Loc} {cells slots : Nat}
theorem retI (X : Stand p l e R s m args below meth c T locs cells slots) (hx : p.tables.exec = Jvm.exec) {pc : Nat} {Ls : Array Slot} {z : Int32} {rest : List Value} (hret : meth.sig.returnType = some .int) (hd : decode c.code pc = .ok (.ireturn, 1)) {fs : List Frame}
    (hl : ∀ (f : JFrame) (acts : List Action), f.method = m → f.locked = none → f.entered = [] → (doReturn e (T.setTop f) acts (some (.int z))).1 = T.setFrames fs) : Steps p.tables e below (T.setTop (mkF m pc Ls (.int z :: rest))) (T.setFrames fs) := by
  have hm' : T.vm.method? m = some meth := X.method'
  have hn : narrow .int (.int z) = .int z := rfl
  show Steps p.tables e below (T.setTop { method := m, pc := pc, locals := Ls, stack := _ :: rest, locked := none }) _
  jvm_step X.here [X.here.top, hx, hd, hm', hret, hn]
  first | (intro acts; rw [hl _ acts rfl rfl rfl]) | rw [hl _ _ rfl rfl rfl]
  exact Steps.refl _
end New
end Jvm.RoadKit
namespace Jvm.Pilot.@@N@@.OwnW
open Jvm Jvm.ClassFile Sem Op Lib Jvm.Free Jvm.Stand Jvm.LawKit Jvm.RoadKit
section OwnBase
variable {p : Program} {l : Launch} {e : Env} {R : Room} {s : State} {m : MethodId} {args : Array Value} {below : List Frame} {meth : Method} {c : Code} {Z : State} {own nm : String} {bs : ByteArray} {ml : Nat} {rt : Option FieldType} {n0 : Nat} {Q : Option Value → Heap → Prop} {h : Heap} {cells slots pc : Nat} {L : Array Slot} {st : List Value} {a0 : Array Value}
/-- what is known throughout a body's walk -/
def Ctx (p : Program) (l : Launch) (e : Env) (R : Room) (s : State) (m : MethodId) (args : Array Value) (below : List Frame) (meth : Method) (c : Code) (Z : State) (own nm : String) (bs : ByteArray) (ml : Nat) (rt : Option FieldType) : Prop :=
  p.tables.exec = Jvm.exec ∧ c.code = bs ∧ Z.Warmed39 s.vm ∧ s.vm.findClass own = some m.cls ∧ c.maxLocals = ml ∧ meth.sig.returnType = rt ∧ meth.locks = false ∧ meth.name = nm
/-- from here the body comes to its end, and Q holds there -/
def Go (p : Program) (l : Launch) (e : Env) (R : Room) (s : State) (m : MethodId) (args : Array Value) (below : List Frame) (meth : Method) (c : Code) (n0 : Nat) (Q : Option Value → Heap → Prop) (h : Heap) (cells slots pc : Nat) (L : Array Slot) (st : List Value) : Prop :=
  ∀ (T : State) (locs : List Loc), Stand p l e R s m args below meth c T locs cells slots → T.heap = h → Fr n0 locs →
    ∃ (s2 : State) (v : Option Value) (L' : List Loc), Steps p.tables e below (T.setTop (mkF m pc L st)) s2 ∧ s2.status = .running ∧ Ended s2 below (.returned v) ∧ Q v s2.heap ∧ Fr n0 L' ∧ s.WarmedH s2.vm ∧ s.sameButNew ({ s2 with vm := s.vm } : State) L' R.cells R.slots
/-- the contract of a body at given arguments and a given heap -/
def Met (l : Launch) (Z : State) (y : MethodName) (bs : ByteArray) (ml : Nat) (rt : Option FieldType) (rm : Room) (as : Array Value) (h0 : Heap) (n0 : Nat) (Q : Option Value → Heap → Prop) : Prop :=
  ∀ ws : List Jvm.Cond, MetFree l y (head1 (Jvm.Cond.code y bs ml rt :: ws) rm) (fun a U => a = as ∧ Z.Warmed39 U.vm ∧ U.heap = h0) (fun _ _ _ _ _ => True) (fun _ U o U' => ∃ v L, o = .returned v ∧ (Q v U'.heap ∧ Fr n0 L) ∧ FrameEnd U o U' L rm.cells rm.slots)
def qI (P : Int32 → Heap → Prop) : Option Value → Heap → Prop := fun v h => ∃ r, v = some (.int r) ∧ P r h
def qJ (P : Int64 → Heap → Prop) : Option Value → Heap → Prop := fun v h => ∃ r, v = some (.long r) ∧ P r h
def qA (P : Addr → Heap → Prop) : Option Value → Heap → Prop := fun v h => ∃ r, v = some (.ref r) ∧ P r h
def qV (P : Heap → Prop) : Option Value → Heap → Prop := fun v h => v = none ∧ P h
theorem met {y : MethodName} {rm : Room} {as : Array Value} {h0 : Heap} (hpf : plainFor y = true) (L0 : Array Slot) (hE : ∀ m, entryFrame m as ml = mkF m 0 L0 [])
    (body : ∀ (p : Program) (e : Env) (s : State) (m : MethodId) (below : List Frame) (meth : Method) (c : Code), Ctx p l e rm s m as below meth c Z y.cls y.name bs ml rt → Go p l e rm s m as below meth c n0 Q h0 0 0 0 L0 []) : Met l Z y bs ml rt rm as h0 n0 Q := by
  intro ws
  refine MetFree.of_bodySF hpf hisR ?_
  intro p e s m args below meth c s1 Bd hml0 hP hK
  obtain ⟨rfl, hZ, hh⟩ := hP
  have e0 : s1.heap = h0 := by rw [← hh, Bd.state]; rfl
  obtain ⟨s2, v, L', a, b, d, q, fr, w, sm⟩ := body p e s m below meth c ⟨Bd.exec, Bd.bytes, hZ, findClass_of_methodNamed Bd.named, hml0, Bd.returns, Bd.notSynchronized, (name_of_methodNamed Bd.named Bd.method).1⟩ s1 [] (Stand.of_body Bd) e0 (Fr.nil n0)
  exact ⟨s2, _, castTop (hE m) a, b, d, v, L', rfl, ⟨q, fr⟩, ⟨v, rfl⟩, w, sm⟩
theorem step {pc' : Nat} {L' : Array Slot} {st' : List Value}
    (k : ∀ (T : State) (locs : List Loc), Stand p l e R s m args below meth c T locs cells slots → T.heap = h → ∀ t, Steps p.tables e below (T.setTop (mkF m pc' L' st')) t → Steps p.tables e below (T.setTop (mkF m pc L st)) t)
    (g : Go p l e R s m args below meth c n0 Q h cells slots pc' L' st') : Go p l e R s m args below meth c n0 Q h cells slots pc L st := fun T locs X eh N => by
  obtain ⟨s2, v, L', a, b⟩ := g T locs X eh N
  exact ⟨s2, v, L', k T locs X eh _ a, b⟩
def ush (x y : Int32) : Int32 := (x.toUInt32 >>> (y &&& 31).toUInt32).toInt32
def ushL (x : Int64) (y : Int32) : Int64 := (x.toUInt64 >>> (y &&& 0x3f).toInt64.toUInt64).toInt64
def shlL (x : Int64) (y : Int32) : Int64 := x <<< (y &&& 0x3f).toInt64
theorem g_iadd (C : Ctx p l e R s m args below meth c Z own nm bs ml rt) {x y : Int32} (hd : decode bs pc = .ok (.iadd, 1)) (pc' : Nat) (hp : pc' = pc + 1) (g : Go p l e R s m args below meth c n0 Q h cells slots pc' L (.int (x + y) :: st)) : Go p l e R s m args below meth c n0 Q h cells slots pc L (.int y :: .int x :: st) := by
  subst hp
  exact step (fun T locs X _ t k => XS.iadd X.here C.1 rfl (hb C.2.1 hd) rfl k) g
theorem g_isub (C : Ctx p l e R s m args below meth c Z own nm bs ml rt) {x y : Int32} (hd : decode bs pc = .ok (.isub, 1)) (pc' : Nat) (hp : pc' = pc + 1) (g : Go p l e R s m args below meth c n0 Q h cells slots pc' L (.int (x - y) :: st)) : Go p l e R s m args below meth c n0 Q h cells slots pc L (.int y :: .int x :: st) := by
  subst hp
  exact step (fun T locs X _ t k => XS.isub X.here C.1 rfl (hb C.2.1 hd) rfl k) g
theorem g_imul (C : Ctx p l e R s m args below meth c Z own nm bs ml rt) {x y : Int32} (hd : decode bs pc = .ok (.imul, 1)) (pc' : Nat) (hp : pc' = pc + 1) (g : Go p l e R s m args below meth c n0 Q h cells slots pc' L (.int (x * y) :: st)) : Go p l e R s m args below meth c n0 Q h cells slots pc L (.int y :: .int x :: st) := by
  subst hp
  exact step (fun T locs X _ t k => XS.imul X.here C.1 rfl (hb C.2.1 hd) rfl k) g
theorem g_iand (C : Ctx p l e R s m args below meth c Z own nm bs ml rt) {x y : Int32} (hd : decode bs pc = .ok (.iand, 1)) (pc' : Nat) (hp : pc' = pc + 1) (g : Go p l e R s m args below meth c n0 Q h cells slots pc' L (.int (x &&& y) :: st)) : Go p l e R s m args below meth c n0 Q h cells slots pc L (.int y :: .int x :: st) := by
  subst hp
  exact step (fun T locs X _ t k => XS.iand X.here C.1 rfl (hb C.2.1 hd) rfl k) g
theorem g_ior (C : Ctx p l e R s m args below meth c Z own nm bs ml rt) {x y : Int32} (hd : decode bs pc = .ok (.ior, 1)) (pc' : Nat) (hp : pc' = pc + 1) (g : Go p l e R s m args below meth c n0 Q h cells slots pc' L (.int (x ||| y) :: st)) : Go p l e R s m args below meth c n0 Q h cells slots pc L (.int y :: .int x :: st) := by
  subst hp
  exact step (fun T locs X _ t k => XS.ior X.here C.1 rfl (hb C.2.1 hd) rfl k) g
theorem g_ixor (C : Ctx p l e R s m args below meth c Z own nm bs ml rt) {x y : Int32} (hd : decode bs pc = .ok (.ixor, 1)) (pc' : Nat) (hp : pc' = pc + 1) (g : Go p l e R s m args below meth c n0 Q h cells slots pc' L (.int (x ^^^ y) :: st)) : Go p l e R s m args below meth c n0 Q h cells slots pc L (.int y :: .int x :: st) := by
  subst hp
  exact step (fun T locs X _ t k => XS.ixor X.here C.1 rfl (hb C.2.1 hd) rfl k) g
theorem g_ishl (C : Ctx p l e R s m args below meth c Z own nm bs ml rt) {x y : Int32} (hd : decode bs pc = .ok (.ishl, 1)) (pc' : Nat) (hp : pc' = pc + 1) (g : Go p l e R s m args below meth c n0 Q h cells slots pc' L (.int (x <<< (y &&& 31)) :: st)) : Go p l e R s m args below meth c n0 Q h cells slots pc L (.int y :: .int x :: st) := by
  subst hp
  exact step (fun T locs X _ t k => XS.ishl X.here C.1 rfl (hb C.2.1 hd) rfl k) g
theorem g_ishr (C : Ctx p l e R s m args below meth c Z own nm bs ml rt) {x y : Int32} (hd : decode bs pc = .ok (.ishr, 1)) (pc' : Nat) (hp : pc' = pc + 1) (g : Go p l e R s m args below meth c n0 Q h cells slots pc' L (.int (x >>> (y &&& 31)) :: st)) : Go p l e R s m args below meth c n0 Q h cells slots pc L (.int y :: .int x :: st) := by
  subst hp
  exact step (fun T locs X _ t k => XS.ishr X.here C.1 rfl (hb C.2.1 hd) rfl k) g
theorem g_iushr (C : Ctx p l e R s m args below meth c Z own nm bs ml rt) {x y : Int32} (hd : decode bs pc = .ok (.iushr, 1)) (pc' : Nat) (hp : pc' = pc + 1) (g : Go p l e R s m args below meth c n0 Q h cells slots pc' L (.int (ush x y) :: st)) : Go p l e R s m args below meth c n0 Q h cells slots pc L (.int y :: .int x :: st) := by
  subst hp
  exact step (fun T locs X _ t k => XS.iushr X.here C.1 rfl (hb C.2.1 hd) rfl k) g
theorem g_ladd (C : Ctx p l e R s m args below meth c Z own nm bs ml rt) {x y : Int64} (hd : decode bs pc = .ok (.ladd, 1)) (pc' : Nat) (hp : pc' = pc + 1) (g : Go p l e R s m args below meth c n0 Q h cells slots pc' L (.long (x + y) :: st)) : Go p l e R s m args below meth c n0 Q h cells slots pc L (.long y :: .long x :: st) := by
  subst hp
  exact step (fun T locs X _ t k => XS.ladd X.here C.1 rfl (hb C.2.1 hd) rfl k) g
theorem g_lsub (C : Ctx p l e R s m args below meth c Z own nm bs ml rt) {x y : Int64} (hd : decode bs pc = .ok (.lsub, 1)) (pc' : Nat) (hp : pc' = pc + 1) (g : Go p l e R s m args below meth c n0 Q h cells slots pc' L (.long (x - y) :: st)) : Go p l e R s m args below meth c n0 Q h cells slots pc L (.long y :: .long x :: st) := by
  subst hp
  exact step (fun T locs X _ t k => XS.lsub X.here C.1 rfl (hb C.2.1 hd) rfl k) g
theorem g_lmul (C : Ctx p l e R s m args below meth c Z own nm bs ml rt) {x y : Int64} (hd : decode bs pc = .ok (.lmul, 1)) (pc' : Nat) (hp : pc' = pc + 1) (g : Go p l e R s m args below meth c n0 Q h cells slots pc' L (.long (x * y) :: st)) : Go p l e R s m args below meth c n0 Q h cells slots pc L (.long y :: .long x :: st) := by
  subst hp
  exact step (fun T locs X _ t k => XS.lmul X.here C.1 rfl (hb C.2.1 hd) rfl k) g
theorem g_land (C : Ctx p l e R s m args below meth c Z own nm bs ml rt) {x y : Int64} (hd : decode bs pc = .ok (.land, 1)) (pc' : Nat) (hp : pc' = pc + 1) (g : Go p l e R s m args below meth c n0 Q h cells slots pc' L (.long (x &&& y) :: st)) : Go p l e R s m args below meth c n0 Q h cells slots pc L (.long y :: .long x :: st) := by
  subst hp
  exact step (fun T locs X _ t k => XS.land X.here C.1 rfl (hb C.2.1 hd) rfl k) g
theorem g_lor (C : Ctx p l e R s m args below meth c Z own nm bs ml rt) {x y : Int64} (hd : decode bs pc = .ok (.lor, 1)) (pc' : Nat) (hp : pc' = pc + 1) (g : Go p l e R s m args below meth c n0 Q h cells slots pc' L (.long (x ||| y) :: st)) : Go p l e R s m args below meth c n0 Q h cells slots pc L (.long y :: .long x :: st) := by
  subst hp
  exact step (fun T locs X _ t k => XS.lor X.here C.1 rfl (hb C.2.1 hd) rfl k) g
theorem g_lxor (C : Ctx p l e R s m args below meth c Z own nm bs ml rt) {x y : Int64} (hd : decode bs pc = .ok (.lxor, 1)) (pc' : Nat) (hp : pc' = pc + 1) (g : Go p l e R s m args below meth c n0 Q h cells slots pc' L (.long (x ^^^ y) :: st)) : Go p l e R s m args below meth c n0 Q h cells slots pc L (.long y :: .long x :: st) := by
  subst hp
  exact step (fun T locs X _ t k => XS.lxor X.here C.1 rfl (hb C.2.1 hd) rfl k) g
theorem g_lshl (C : Ctx p l e R s m args below meth c Z own nm bs ml rt) {x : Int64} {y : Int32} (hd : decode bs pc = .ok (.lshl, 1)) (pc' : Nat) (hp : pc' = pc + 1) (g : Go p l e R s m args below meth c n0 Q h cells slots pc' L (.long (shlL x y) :: st)) : Go p l e R s m args below meth c n0 Q h cells slots pc L (.int y :: .long x :: st) := by
  subst hp
  exact step (fun T locs X _ t k => XS.lshl X.here C.1 rfl (hb C.2.1 hd) rfl k) g
theorem g_lushr (C : Ctx p l e R s m args below meth c Z own nm bs ml rt) {x : Int64} {y : Int32} (hd : decode bs pc = .ok (.lushr, 1)) (pc' : Nat) (hp : pc' = pc + 1) (g : Go p l e R s m args below meth c n0 Q h cells slots pc' L (.long (ushL x y) :: st)) : Go p l e R s m args below meth c n0 Q h cells slots pc L (.int y :: .long x :: st) := by
  subst hp
  exact step (fun T locs X _ t k => XS.lushr X.here C.1 rfl (hb C.2.1 hd) rfl k) g
theorem g_i2l (C : Ctx p l e R s m args below meth c Z own nm bs ml rt) {x : Int32} (hd : decode bs pc = .ok (.i2l, 1)) (pc' : Nat) (hp : pc' = pc + 1) (g : Go p l e R s m args below meth c n0 Q h cells slots pc' L (.long x.toInt64 :: st)) : Go p l e R s m args below meth c n0 Q h cells slots pc L (.int x :: st) := by
  subst hp
  exact step (fun T locs X _ t k => XS.i2l X.here C.1 rfl (hb C.2.1 hd) rfl k) g
theorem g_i2b (C : Ctx p l e R s m args below meth c Z own nm bs ml rt) {x : Int32} (hd : decode bs pc = .ok (.i2b, 1)) (pc' : Nat) (hp : pc' = pc + 1) (g : Go p l e R s m args below meth c n0 Q h cells slots pc' L (.int x.toInt8.toInt32 :: st)) : Go p l e R s m args below meth c n0 Q h cells slots pc L (.int x :: st) := by
  subst hp
  exact step (fun T locs X _ t k => XS.i2b X.here C.1 rfl (hb C.2.1 hd) rfl k) g
theorem g_i2c (C : Ctx p l e R s m args below meth c Z own nm bs ml rt) {x : Int32} (hd : decode bs pc = .ok (.i2c, 1)) (pc' : Nat) (hp : pc' = pc + 1) (g : Go p l e R s m args below meth c n0 Q h cells slots pc' L (.int x.toUInt32.toUInt16.toUInt32.toInt32 :: st)) : Go p l e R s m args below meth c n0 Q h cells slots pc L (.int x :: st) := by
  subst hp
  exact step (fun T locs X _ t k => XS.i2c X.here C.1 rfl (hb C.2.1 hd) rfl k) g
theorem g_l2i (C : Ctx p l e R s m args below meth c Z own nm bs ml rt) {x : Int64} (hd : decode bs pc = .ok (.l2i, 1)) (pc' : Nat) (hp : pc' = pc + 1) (g : Go p l e R s m args below meth c n0 Q h cells slots pc' L (.int x.toInt32 :: st)) : Go p l e R s m args below meth c n0 Q h cells slots pc L (.long x :: st) := by
  subst hp
  exact step (fun T locs X _ t k => XS.l2i X.here C.1 rfl (hb C.2.1 hd) rfl k) g
theorem g_lneg (C : Ctx p l e R s m args below meth c Z own nm bs ml rt) {x : Int64} (hd : decode bs pc = .ok (.lneg, 1)) (pc' : Nat) (hp : pc' = pc + 1) (g : Go p l e R s m args below meth c n0 Q h cells slots pc' L (.long (-x) :: st)) : Go p l e R s m args below meth c n0 Q h cells slots pc L (.long x :: st) := by
  subst hp
  exact step (fun T locs X _ t k => XS.lneg X.here C.1 rfl (hb C.2.1 hd) rfl k) g
theorem g_irem (C : Ctx p l e R s m args below meth c Z own nm bs ml rt) {x y : Int32} (hd : decode bs pc = .ok (.irem, 1)) (pc' : Nat) (hp : pc' = pc + 1) (hy : y ≠ 0) (g : Go p l e R s m args below meth c n0 Q h cells slots pc' L (.int (x % y) :: st)) : Go p l e R s m args below meth c n0 Q h cells slots pc L (.int y :: .int x :: st) := by
  subst hp
  exact step (fun T locs X _ t k => iremM X C.1 rfl (hb C.2.1 hd) rfl hy k) g
theorem g_iconst (C : Ctx p l e R s m args below meth c Z own nm bs ml rt) {i : Int} (hd : decode bs pc = .ok (.iconst i, 1)) (pc' : Nat) (hp : pc' = pc + 1) (z : Int32) (hz : Int32.ofInt i = z) (g : Go p l e R s m args below meth c n0 Q h cells slots pc' L (.int z :: st)) : Go p l e R s m args below meth c n0 Q h cells slots pc L st := by
  subst hp hz
  exact step (fun T locs X _ t k => XS.iconst X.here C.1 rfl (hb C.2.1 hd) k) g
theorem g_bipush (C : Ctx p l e R s m args below meth c Z own nm bs ml rt) {i : Int} (hd : decode bs pc = .ok (.bipush i, 2)) (pc' : Nat) (hp : pc' = pc + 2) (z : Int32) (hz : (Int8.ofInt i).toInt32 = z) (g : Go p l e R s m args below meth c n0 Q h cells slots pc' L (.int z :: st)) : Go p l e R s m args below meth c n0 Q h cells slots pc L st := by
  subst hp hz
  exact step (fun T locs X _ t k => XS.bipush X.here C.1 rfl (hb C.2.1 hd) k) g
theorem g_sipush (C : Ctx p l e R s m args below meth c Z own nm bs ml rt) {i : Int} (hd : decode bs pc = .ok (.sipush i, 3)) (pc' : Nat) (hp : pc' = pc + 3) (z : Int32) (hz : (Int16.ofInt i).toInt32 = z) (g : Go p l e R s m args below meth c n0 Q h cells slots pc' L (.int z :: st)) : Go p l e R s m args below meth c n0 Q h cells slots pc L st := by
  subst hp hz
  exact step (fun T locs X _ t k => XS.sipush X.here C.1 rfl (hb C.2.1 hd) k) g
theorem g_lconst (C : Ctx p l e R s m args below meth c Z own nm bs ml rt) {i : Fin 2} (hd : decode bs pc = .ok (.lconst i, 1)) (pc' : Nat) (hp : pc' = pc + 1) (z : Int64) (hz : Int64.ofNat i = z) (g : Go p l e R s m args below meth c n0 Q h cells slots pc' L (.long z :: st)) : Go p l e R s m args below meth c n0 Q h cells slots pc L st := by
  subst hp hz
  exact step (fun T locs X _ t k => XS.lconst X.here C.1 rfl (hb C.2.1 hd) k) g
theorem g_aconst_null (C : Ctx p l e R s m args below meth c Z own nm bs ml rt)  (hd : decode bs pc = .ok (.aconst_null, 1)) (pc' : Nat) (hp : pc' = pc + 1) (g : Go p l e R s m args below meth c n0 Q h cells slots pc' L (.null :: st)) : Go p l e R s m args below meth c n0 Q h cells slots pc L st := by
  subst hp
  exact step (fun T locs X _ t k => XS.aconstNull X.here C.1 rfl (hb C.2.1 hd)  k) g
theorem g_ldc (C : Ctx p l e R s m args below meth c Z own nm bs ml rt) {i : Nat} {z : Int32} (w : (Jvm.Cond.constant own i z).before a0 Z = true) (hd : decode bs pc = .ok (.ldc i, 2)) (pc' : Nat) (hp : pc' = pc + 2) (g : Go p l e R s m args below meth c n0 Q h cells slots pc' L (.int z :: st)) : Go p l e R s m args below meth c n0 Q h cells slots pc L st := by
  subst hp
  exact step (fun T locs X _ t k => X.ldcInt C.1 C.2.2.2.1 (mvT C.2.2.1 w) (g := mkF m pc L st) rfl (hb C.2.1 hd) _ k) g
theorem g_ldc2_w (C : Ctx p l e R s m args below meth c Z own nm bs ml rt) {i : Nat} {z : Int64} (w : (Jvm.Cond.constantLong own i z).before a0 Z = true) (hd : decode bs pc = .ok (.ldc2_w i, 3)) (pc' : Nat) (hp : pc' = pc + 3) (g : Go p l e R s m args below meth c n0 Q h cells slots pc' L (.long z :: st)) : Go p l e R s m args below meth c n0 Q h cells slots pc L st := by
  subst hp
  exact step (fun T locs X _ t k => X.ldc2Long C.1 C.2.2.2.1 (mvT C.2.2.1 w) (g := mkF m pc L st) rfl (hb C.2.1 hd) _ k) g
theorem g_iload (C : Ctx p l e R s m args below meth c Z own nm bs ml rt) {k : Nat} {v : Int32} (hd : decode bs pc = .ok (.iload k, 2)) (pc' : Nat) (hp : pc' = pc + 2) (hl : L[k]? = some (.val (.int v))) (g : Go p l e R s m args below meth c n0 Q h cells slots pc' L (.int v :: st)) : Go p l e R s m args below meth c n0 Q h cells slots pc L st := by
  subst hp
  exact step (fun T locs X _ t k => XS.iload X.here C.1 rfl (hb C.2.1 hd) hl k) g
theorem g_iloadN (C : Ctx p l e R s m args below meth c Z own nm bs ml rt) {k : Fin 4} {v : Int32} (hd : decode bs pc = .ok (.iload_n k, 1)) (pc' : Nat) (hp : pc' = pc + 1) (hl : L[k.val]? = some (.val (.int v))) (g : Go p l e R s m args below meth c n0 Q h cells slots pc' L (.int v :: st)) : Go p l e R s m args below meth c n0 Q h cells slots pc L st := by
  subst hp
  exact step (fun T locs X _ t k => XS.iloadN X.here C.1 rfl (hb C.2.1 hd) hl k) g
theorem g_lload (C : Ctx p l e R s m args below meth c Z own nm bs ml rt) {k : Nat} {v : Int64} (hd : decode bs pc = .ok (.lload k, 2)) (pc' : Nat) (hp : pc' = pc + 2) (hl : L[k]? = some (.val (.long v))) (g : Go p l e R s m args below meth c n0 Q h cells slots pc' L (.long v :: st)) : Go p l e R s m args below meth c n0 Q h cells slots pc L st := by
  subst hp
  exact step (fun T locs X _ t k => XS.lload X.here C.1 rfl (hb C.2.1 hd) hl k) g
theorem g_lloadN (C : Ctx p l e R s m args below meth c Z own nm bs ml rt) {k : Fin 4} {v : Int64} (hd : decode bs pc = .ok (.lload_n k, 1)) (pc' : Nat) (hp : pc' = pc + 1) (hl : L[k.val]? = some (.val (.long v))) (g : Go p l e R s m args below meth c n0 Q h cells slots pc' L (.long v :: st)) : Go p l e R s m args below meth c n0 Q h cells slots pc L st := by
  subst hp
  exact step (fun T locs X _ t k => XS.lloadN X.here C.1 rfl (hb C.2.1 hd) hl k) g
theorem g_aload (C : Ctx p l e R s m args below meth c Z own nm bs ml rt) {k : Nat} {v : Value} (hd : decode bs pc = .ok (.aload k, 2)) (pc' : Nat) (hp : pc' = pc + 2) (hl : L[k]? = some (.val (v))) (hv : v.isRef = true) (g : Go p l e R s m args below meth c n0 Q h cells slots pc' L (v :: st)) : Go p l e R s m args below meth c n0 Q h cells slots pc L st := by
  subst hp
  exact step (fun T locs X _ t k => XS.aload X.here C.1 rfl (hb C.2.1 hd) hl hv k) g
theorem g_aloadN (C : Ctx p l e R s m args below meth c Z own nm bs ml rt) {k : Fin 4} {v : Value} (hd : decode bs pc = .ok (.aload_n k, 1)) (pc' : Nat) (hp : pc' = pc + 1) (hl : L[k.val]? = some (.val (v))) (hv : v.isRef = true) (g : Go p l e R s m args below meth c n0 Q h cells slots pc' L (v :: st)) : Go p l e R s m args below meth c n0 Q h cells slots pc L st := by
  subst hp
  exact step (fun T locs X _ t k => XS.aloadN X.here C.1 rfl (hb C.2.1 hd) hl hv k) g
theorem g_istore (C : Ctx p l e R s m args below meth c Z own nm bs ml rt) {k : Nat} {x : Int32} (hd : decode bs pc = .ok (.istore k, 2)) (pc' : Nat) (hp : pc' = pc + 2) (l' : Int32 → Array Slot) (hl : ∀ z, storeLocals L k (.int z) = some (l' z)) (g : ∀ z, z = x → Go p l e R s m args below meth c n0 Q h cells slots pc' (l' z) st) : Go p l e R s m args below meth c n0 Q h cells slots pc L (.int x :: st) := by
  subst hp
  exact step (fun T locs X _ t k => XS.istore X.here C.1 rfl (hb C.2.1 hd) rfl (hl x) k) (g x rfl)
theorem g_istoreN (C : Ctx p l e R s m args below meth c Z own nm bs ml rt) {k : Fin 4} {x : Int32} (hd : decode bs pc = .ok (.istore_n k, 1)) (pc' : Nat) (hp : pc' = pc + 1) (l' : Int32 → Array Slot) (hl : ∀ z, storeLocals L k.val (.int z) = some (l' z)) (g : ∀ z, z = x → Go p l e R s m args below meth c n0 Q h cells slots pc' (l' z) st) : Go p l e R s m args below meth c n0 Q h cells slots pc L (.int x :: st) := by
  subst hp
  exact step (fun T locs X _ t k => XS.istoreN X.here C.1 rfl (hb C.2.1 hd) rfl (hl x) k) (g x rfl)
theorem g_lstore (C : Ctx p l e R s m args below meth c Z own nm bs ml rt) {k : Nat} {x : Int64} (hd : decode bs pc = .ok (.lstore k, 2)) (pc' : Nat) (hp : pc' = pc + 2) (l' : Int64 → Array Slot) (hl : ∀ z, storeLocals L k (.long z) = some (l' z)) (g : ∀ z, z = x → Go p l e R s m args below meth c n0 Q h cells slots pc' (l' z) st) : Go p l e R s m args below meth c n0 Q h cells slots pc L (.long x :: st) := by
  subst hp
  exact step (fun T locs X _ t k => XS.lstore X.here C.1 rfl (hb C.2.1 hd) rfl (hl x) k) (g x rfl)
theorem g_lstoreN (C : Ctx p l e R s m args below meth c Z own nm bs ml rt) {k : Fin 4} {x : Int64} (hd : decode bs pc = .ok (.lstore_n k, 1)) (pc' : Nat) (hp : pc' = pc + 1) (l' : Int64 → Array Slot) (hl : ∀ z, storeLocals L k.val (.long z) = some (l' z)) (g : ∀ z, z = x → Go p l e R s m args below meth c n0 Q h cells slots pc' (l' z) st) : Go p l e R s m args below meth c n0 Q h cells slots pc L (.long x :: st) := by
  subst hp
  exact step (fun T locs X _ t k => XS.lstoreN X.here C.1 rfl (hb C.2.1 hd) rfl (hl x) k) (g x rfl)
theorem g_astore (C : Ctx p l e R s m args below meth c Z own nm bs ml rt) {k : Nat} {x : Value} (hd : decode bs pc = .ok (.astore k, 2)) (pc' : Nat) (hp : pc' = pc + 2) (l' : Array Slot) (hl : storeLocals L k x = some l') (hv : x.isRef = true) (g : Go p l e R s m args below meth c n0 Q h cells slots pc' l' st) : Go p l e R s m args below meth c n0 Q h cells slots pc L (x :: st) := by
  subst hp
  exact step (fun T locs X _ t k => XS.astore X.here C.1 rfl (hb C.2.1 hd) rfl hv hl k) g
theorem g_astoreN (C : Ctx p l e R s m args below meth c Z own nm bs ml rt) {k : Fin 4} {x : Value} (hd : decode bs pc = .ok (.astore_n k, 1)) (pc' : Nat) (hp : pc' = pc + 1) (l' : Array Slot) (hl : storeLocals L k.val x = some l') (hv : x.isRef = true) (g : Go p l e R s m args below meth c n0 Q h cells slots pc' l' st) : Go p l e R s m args below meth c n0 Q h cells slots pc L (x :: st) := by
  subst hp
  exact step (fun T locs X _ t k => XS.astoreN X.here C.1 rfl (hb C.2.1 hd) rfl hv hl k) g
theorem g_iinc (C : Ctx p l e R s m args below meth c Z own nm bs ml rt) {k : Nat} {i : Int} {x : Int32} (hd : decode bs pc = .ok (.iinc k i, 3)) (pc' : Nat) (hp : pc' = pc + 3) (hl0 : L[k]? = some (.val (.int x))) (d : Int32) (hz : Int32.ofInt i = d) (l' : Int32 → Array Slot) (hl : ∀ z, storeLocals L k (.int z) = some (l' z)) (g : ∀ z, z = x + d → Go p l e R s m args below meth c n0 Q h cells slots pc' (l' z) st) : Go p l e R s m args below meth c n0 Q h cells slots pc L st := by
  subst hp hz
  exact step (fun T locs X _ t k => XS.iinc X.here C.1 rfl (hb C.2.1 hd) hl0 (hl _) k) (g _ rfl)
theorem g_dup (C : Ctx p l e R s m args below meth c Z own nm bs ml rt) {x : Value} (hd : decode bs pc = .ok (.dup, 1)) (pc' : Nat) (hp : pc' = pc + 1) (hc : x.category = 1) (g : Go p l e R s m args below meth c n0 Q h cells slots pc' L (x :: x :: st)) : Go p l e R s m args below meth c n0 Q h cells slots pc L (x :: st) := by
  subst hp
  exact step (fun T locs X _ t k => XS.dup X.here C.1 rfl (hb C.2.1 hd) rfl hc k) g
theorem g_pop (C : Ctx p l e R s m args below meth c Z own nm bs ml rt) {x : Value} (hd : decode bs pc = .ok (.pop, 1)) (pc' : Nat) (hp : pc' = pc + 1) (hc : x.category = 1) (g : Go p l e R s m args below meth c n0 Q h cells slots pc' L st) : Go p l e R s m args below meth c n0 Q h cells slots pc L (x :: st) := by
  subst hp
  exact step (fun T locs X _ t k => XS.pop X.here C.1 rfl (hb C.2.1 hd) rfl hc k) g
theorem g_dup2 (C : Ctx p l e R s m args below meth c Z own nm bs ml rt) {x y : Value} (hd : decode bs pc = .ok (.dup2, 1)) (pc' : Nat) (hp : pc' = pc + 1) (hc : x.category = 1) (hc2 : y.category = 1) (g : Go p l e R s m args below meth c n0 Q h cells slots pc' L (x :: y :: x :: y :: st)) : Go p l e R s m args below meth c n0 Q h cells slots pc L (x :: y :: st) := by
  subst hp
  exact step (fun T locs X _ t k => XT.dup2 X.here C.1 rfl (hb C.2.1 hd) rfl hc hc2 k) g
theorem g_goto (C : Ctx p l e R s m args below meth c Z own nm bs ml rt) {o : Int} (hd : decode bs pc = .ok (.goto o, 3)) (pc' : Nat) (hp : 0 ≤ (pc : Int) + o ∧ ((pc : Int) + o).toNat = pc') (g : Go p l e R s m args below meth c n0 Q h cells slots pc' L st) : Go p l e R s m args below meth c n0 Q h cells slots pc L st :=
  step (fun T locs X _ t k => XS.goto X.here C.1 rfl (pc0 := pc) (pc' := pc') rfl (hb C.2.1 hd) hp.1 hp.2 k) g
theorem g_if_icmpeq (C : Ctx p l e R s m args below meth c Z own nm bs ml rt) {x y : Int32} {o : Int} (hd : decode bs pc = .ok (.if_icmp .eq o, 3)) (pc1 : Nat) (h1 : 0 ≤ ((pc : Nat) : Int) + o ∧ (((pc : Nat) : Int) + o).toNat = pc1) (pc2 : Nat) (h2 : pc2 = pc + 3) (g1 : (x = y) → Go p l e R s m args below meth c n0 Q h cells slots pc1 L st) (g2 : (¬ x = y) → Go p l e R s m args below meth c n0 Q h cells slots pc2 L st) : Go p l e R s m args below meth c n0 Q h cells slots pc L (.int y :: .int x :: st) := by
  subst h2
  by_cases q : x = y
  · exact step (fun T locs X _ t k => XS.icmpYes X.here C.1 rfl (pc0 := pc) (pc' := pc1) rfl (hb C.2.1 hd) rfl (teq q).1 h1.1 h1.2 k) (g1 q)
  · exact step (fun T locs X _ t k => XS.icmpNo X.here C.1 rfl (hb C.2.1 hd) rfl (feq q).1 k) (g2 q)
theorem g_ifeq (C : Ctx p l e R s m args below meth c Z own nm bs ml rt) {x : Int32} {o : Int} (hd : decode bs pc = .ok (.ifCond .eq o, 3)) (pc1 : Nat) (h1 : 0 ≤ ((pc : Nat) : Int) + o ∧ (((pc : Nat) : Int) + o).toNat = pc1) (pc2 : Nat) (h2 : pc2 = pc + 3) (g1 : (x = (0 : Int32)) → Go p l e R s m args below meth c n0 Q h cells slots pc1 L st) (g2 : (¬ x = (0 : Int32)) → Go p l e R s m args below meth c n0 Q h cells slots pc2 L st) : Go p l e R s m args below meth c n0 Q h cells slots pc L (.int x :: st) := by
  subst h2
  by_cases q : x = (0 : Int32)
  · exact step (fun T locs X _ t k => XS.ifYes X.here C.1 rfl (pc0 := pc) (pc' := pc1) rfl (hb C.2.1 hd) rfl ((if0 _ _).trans (teq q).1) h1.1 h1.2 k) (g1 q)
  · exact step (fun T locs X _ t k => XS.ifNo X.here C.1 rfl (hb C.2.1 hd) rfl ((if0 _ _).trans (feq q).1) k) (g2 q)
theorem g_lcmpeq (C : Ctx p l e R s m args below meth c Z own nm bs ml rt) {x y : Int64} {o : Int} (hd0 : decode bs pc = .ok (.lcmp, 1)) (pcm : Nat) (hm : pcm = pc + 1) (hd : decode bs pcm = .ok (.ifCond .eq o, 3)) (pc1 : Nat) (h1 : 0 ≤ ((pcm : Nat) : Int) + o ∧ (((pcm : Nat) : Int) + o).toNat = pc1) (pc2 : Nat) (h2 : pc2 = pcm + 3) (g1 : (x = y) → Go p l e R s m args below meth c n0 Q h cells slots pc1 L st) (g2 : (¬ x = y) → Go p l e R s m args below meth c n0 Q h cells slots pc2 L st) : Go p l e R s m args below meth c n0 Q h cells slots pc L (.long y :: .long x :: st) := by
  subst hm
  have hw : ∀ (T : State) (locs : List Loc), Stand p l e R s m args below meth c T locs cells slots → ∀ t, Steps p.tables e below (T.setTop (mkF m (pc + 1) L (.int (lcmpW x y) :: st))) t → Steps p.tables e below (T.setTop (mkF m pc L (.long y :: .long x :: st))) t := fun T locs X t k => XS.lcmp X.here C.1 rfl (hb C.2.1 hd0) rfl k
  subst h2
  by_cases q : x = y
  · exact step (fun T locs X _ t k => hw T locs X t (XS.ifYes X.here C.1 rfl (pc0 := pc + 1) (pc' := pc1) rfl (hb C.2.1 hd) rfl ((if0 _ _).trans (teq ((lw_eq x y).mpr q)).1) h1.1 h1.2 k)) (g1 q)
  · exact step (fun T locs X _ t k => hw T locs X t (XS.ifNo X.here C.1 rfl (hb C.2.1 hd) rfl ((if0 _ _).trans (feq (fun z => q ((lw_eq x y).mp z))).1) k)) (g2 q)
theorem g_if_icmpne (C : Ctx p l e R s m args below meth c Z own nm bs ml rt) {x y : Int32} {o : Int} (hd : decode bs pc = .ok (.if_icmp .ne o, 3)) (pc1 : Nat) (h1 : 0 ≤ ((pc : Nat) : Int) + o ∧ (((pc : Nat) : Int) + o).toNat = pc1) (pc2 : Nat) (h2 : pc2 = pc + 3) (g1 : (¬ x = y) → Go p l e R s m args below meth c n0 Q h cells slots pc1 L st) (g2 : (x = y) → Go p l e R s m args below meth c n0 Q h cells slots pc2 L st) : Go p l e R s m args below meth c n0 Q h cells slots pc L (.int y :: .int x :: st) := by
  subst h2
  by_cases q : x = y
  · exact step (fun T locs X _ t k => XS.icmpNo X.here C.1 rfl (hb C.2.1 hd) rfl (teq q).2 k) (g2 q)
  · exact step (fun T locs X _ t k => XS.icmpYes X.here C.1 rfl (pc0 := pc) (pc' := pc1) rfl (hb C.2.1 hd) rfl (feq q).2 h1.1 h1.2 k) (g1 q)
theorem g_ifne (C : Ctx p l e R s m args below meth c Z own nm bs ml rt) {x : Int32} {o : Int} (hd : decode bs pc = .ok (.ifCond .ne o, 3)) (pc1 : Nat) (h1 : 0 ≤ ((pc : Nat) : Int) + o ∧ (((pc : Nat) : Int) + o).toNat = pc1) (pc2 : Nat) (h2 : pc2 = pc + 3) (g1 : (¬ x = (0 : Int32)) → Go p l e R s m args below meth c n0 Q h cells slots pc1 L st) (g2 : (x = (0 : Int32)) → Go p l e R s m args below meth c n0 Q h cells slots pc2 L st) : Go p l e R s m args below meth c n0 Q h cells slots pc L (.int x :: st) := by
  subst h2
  by_cases q : x = (0 : Int32)
  · exact step (fun T locs X _ t k => XS.ifNo X.here C.1 rfl (hb C.2.1 hd) rfl ((if0 _ _).trans (teq q).2) k) (g2 q)
  · exact step (fun T locs X _ t k => XS.ifYes X.here C.1 rfl (pc0 := pc) (pc' := pc1) rfl (hb C.2.1 hd) rfl ((if0 _ _).trans (feq q).2) h1.1 h1.2 k) (g1 q)
theorem g_lcmpne (C : Ctx p l e R s m args below meth c Z own nm bs ml rt) {x y : Int64} {o : Int} (hd0 : decode bs pc = .ok (.lcmp, 1)) (pcm : Nat) (hm : pcm = pc + 1) (hd : decode bs pcm = .ok (.ifCond .ne o, 3)) (pc1 : Nat) (h1 : 0 ≤ ((pcm : Nat) : Int) + o ∧ (((pcm : Nat) : Int) + o).toNat = pc1) (pc2 : Nat) (h2 : pc2 = pcm + 3) (g1 : (¬ x = y) → Go p l e R s m args below meth c n0 Q h cells slots pc1 L st) (g2 : (x = y) → Go p l e R s m args below meth c n0 Q h cells slots pc2 L st) : Go p l e R s m args below meth c n0 Q h cells slots pc L (.long y :: .long x :: st) := by
  subst hm
  have hw : ∀ (T : State) (locs : List Loc), Stand p l e R s m args below meth c T locs cells slots → ∀ t, Steps p.tables e below (T.setTop (mkF m (pc + 1) L (.int (lcmpW x y) :: st))) t → Steps p.tables e below (T.setTop (mkF m pc L (.long y :: .long x :: st))) t := fun T locs X t k => XS.lcmp X.here C.1 rfl (hb C.2.1 hd0) rfl k
  subst h2
  by_cases q : x = y
  · exact step (fun T locs X _ t k => hw T locs X t (XS.ifNo X.here C.1 rfl (hb C.2.1 hd) rfl ((if0 _ _).trans (teq ((lw_eq x y).mpr q)).2) k)) (g2 q)
  · exact step (fun T locs X _ t k => hw T locs X t (XS.ifYes X.here C.1 rfl (pc0 := pc + 1) (pc' := pc1) rfl (hb C.2.1 hd) rfl ((if0 _ _).trans (feq (fun z => q ((lw_eq x y).mp z))).2) h1.1 h1.2 k)) (g1 q)
theorem g_if_icmplt (C : Ctx p l e R s m args below meth c Z own nm bs ml rt) {x y : Int32} {o : Int} (hd : decode bs pc = .ok (.if_icmp .lt o, 3)) (pc1 : Nat) (h1 : 0 ≤ ((pc : Nat) : Int) + o ∧ (((pc : Nat) : Int) + o).toNat = pc1) (pc2 : Nat) (h2 : pc2 = pc + 3) (g1 : (x < y) → Go p l e R s m args below meth c n0 Q h cells slots pc1 L st) (g2 : (¬ x < y) → Go p l e R s m args below meth c n0 Q h cells slots pc2 L st) : Go p l e R s m args below meth c n0 Q h cells slots pc L (.int y :: .int x :: st) := by
  subst h2
  by_cases q : x < y
  · exact step (fun T locs X _ t k => XS.icmpYes X.here C.1 rfl (pc0 := pc) (pc' := pc1) rfl (hb C.2.1 hd) rfl (tlt q).1 h1.1 h1.2 k) (g1 q)
  · exact step (fun T locs X _ t k => XS.icmpNo X.here C.1 rfl (hb C.2.1 hd) rfl (flt q).1 k) (g2 q)
theorem g_iflt (C : Ctx p l e R s m args below meth c Z own nm bs ml rt) {x : Int32} {o : Int} (hd : decode bs pc = .ok (.ifCond .lt o, 3)) (pc1 : Nat) (h1 : 0 ≤ ((pc : Nat) : Int) + o ∧ (((pc : Nat) : Int) + o).toNat = pc1) (pc2 : Nat) (h2 : pc2 = pc + 3) (g1 : (x < (0 : Int32)) → Go p l e R s m args below meth c n0 Q h cells slots pc1 L st) (g2 : (¬ x < (0 : Int32)) → Go p l e R s m args below meth c n0 Q h cells slots pc2 L st) : Go p l e R s m args below meth c n0 Q h cells slots pc L (.int x :: st) := by
  subst h2
  by_cases q : x < (0 : Int32)
  · exact step (fun T locs X _ t k => XS.ifYes X.here C.1 rfl (pc0 := pc) (pc' := pc1) rfl (hb C.2.1 hd) rfl ((if0 _ _).trans (tlt q).1) h1.1 h1.2 k) (g1 q)
  · exact step (fun T locs X _ t k => XS.ifNo X.here C.1 rfl (hb C.2.1 hd) rfl ((if0 _ _).trans (flt q).1) k) (g2 q)
theorem g_lcmplt (C : Ctx p l e R s m args below meth c Z own nm bs ml rt) {x y : Int64} {o : Int} (hd0 : decode bs pc = .ok (.lcmp, 1)) (pcm : Nat) (hm : pcm = pc + 1) (hd : decode bs pcm = .ok (.ifCond .lt o, 3)) (pc1 : Nat) (h1 : 0 ≤ ((pcm : Nat) : Int) + o ∧ (((pcm : Nat) : Int) + o).toNat = pc1) (pc2 : Nat) (h2 : pc2 = pcm + 3) (g1 : (x < y) → Go p l e R s m args below meth c n0 Q h cells slots pc1 L st) (g2 : (¬ x < y) → Go p l e R s m args below meth c n0 Q h cells slots pc2 L st) : Go p l e R s m args below meth c n0 Q h cells slots pc L (.long y :: .long x :: st) := by
  subst hm
  have hw : ∀ (T : State) (locs : List Loc), Stand p l e R s m args below meth c T locs cells slots → ∀ t, Steps p.tables e below (T.setTop (mkF m (pc + 1) L (.int (lcmpW x y) :: st))) t → Steps p.tables e below (T.setTop (mkF m pc L (.long y :: .long x :: st))) t := fun T locs X t k => XS.lcmp X.here C.1 rfl (hb C.2.1 hd0) rfl k
  subst h2
  by_cases q : x < y
  · exact step (fun T locs X _ t k => hw T locs X t (XS.ifYes X.here C.1 rfl (pc0 := pc + 1) (pc' := pc1) rfl (hb C.2.1 hd) rfl ((if0 _ _).trans (tlt ((lw_lt x y).mpr q)).1) h1.1 h1.2 k)) (g1 q)
  · exact step (fun T locs X _ t k => hw T locs X t (XS.ifNo X.here C.1 rfl (hb C.2.1 hd) rfl ((if0 _ _).trans (flt (fun z => q ((lw_lt x y).mp z))).1) k)) (g2 q)
theorem g_if_icmpge (C : Ctx p l e R s m args below meth c Z own nm bs ml rt) {x y : Int32} {o : Int} (hd : decode bs pc = .ok (.if_icmp .ge o, 3)) (pc1 : Nat) (h1 : 0 ≤ ((pc : Nat) : Int) + o ∧ (((pc : Nat) : Int) + o).toNat = pc1) (pc2 : Nat) (h2 : pc2 = pc + 3) (g1 : (¬ x < y) → Go p l e R s m args below meth c n0 Q h cells slots pc1 L st) (g2 : (x < y) → Go p l e R s m args below meth c n0 Q h cells slots pc2 L st) : Go p l e R s m args below meth c n0 Q h cells slots pc L (.int y :: .int x :: st) := by
  subst h2
  by_cases q : x < y
  · exact step (fun T locs X _ t k => XS.icmpNo X.here C.1 rfl (hb C.2.1 hd) rfl (tlt q).2.1 k) (g2 q)
  · exact step (fun T locs X _ t k => XS.icmpYes X.here C.1 rfl (pc0 := pc) (pc' := pc1) rfl (hb C.2.1 hd) rfl (flt q).2.1 h1.1 h1.2 k) (g1 q)
theorem g_ifge (C : Ctx p l e R s m args below meth c Z own nm bs ml rt) {x : Int32} {o : Int} (hd : decode bs pc = .ok (.ifCond .ge o, 3)) (pc1 : Nat) (h1 : 0 ≤ ((pc : Nat) : Int) + o ∧ (((pc : Nat) : Int) + o).toNat = pc1) (pc2 : Nat) (h2 : pc2 = pc + 3) (g1 : (¬ x < (0 : Int32)) → Go p l e R s m args below meth c n0 Q h cells slots pc1 L st) (g2 : (x < (0 : Int32)) → Go p l e R s m args below meth c n0 Q h cells slots pc2 L st) : Go p l e R s m args below meth c n0 Q h cells slots pc L (.int x :: st) := by
  subst h2
  by_cases q : x < (0 : Int32)
  · exact step (fun T locs X _ t k => XS.ifNo X.here C.1 rfl (hb C.2.1 hd) rfl ((if0 _ _).trans (tlt q).2.1) k) (g2 q)
  · exact step (fun T locs X _ t k => XS.ifYes X.here C.1 rfl (pc0 := pc) (pc' := pc1) rfl (hb C.2.1 hd) rfl ((if0 _ _).trans (flt q).2.1) h1.1 h1.2 k) (g1 q)
theorem g_lcmpge (C : Ctx p l e R s m args below meth c Z own nm bs ml rt) {x y : Int64} {o : Int} (hd0 : decode bs pc = .ok (.lcmp, 1)) (pcm : Nat) (hm : pcm = pc + 1) (hd : decode bs pcm = .ok (.ifCond .ge o, 3)) (pc1 : Nat) (h1 : 0 ≤ ((pcm : Nat) : Int) + o ∧ (((pcm : Nat) : Int) + o).toNat = pc1) (pc2 : Nat) (h2 : pc2 = pcm + 3) (g1 : (¬ x < y) → Go p l e R s m args below meth c n0 Q h cells slots pc1 L st) (g2 : (x < y) → Go p l e R s m args below meth c n0 Q h cells slots pc2 L st) : Go p l e R s m args below meth c n0 Q h cells slots pc L (.long y :: .long x :: st) := by
  subst hm
  have hw : ∀ (T : State) (locs : List Loc), Stand p l e R s m args below meth c T locs cells slots → ∀ t, Steps p.tables e below (T.setTop (mkF m (pc + 1) L (.int (lcmpW x y) :: st))) t → Steps p.tables e below (T.setTop (mkF m pc L (.long y :: .long x :: st))) t := fun T locs X t k => XS.lcmp X.here C.1 rfl (hb C.2.1 hd0) rfl k
  subst h2
  by_cases q : x < y
  · exact step (fun T locs X _ t k => hw T locs X t (XS.ifNo X.here C.1 rfl (hb C.2.1 hd) rfl ((if0 _ _).trans (tlt ((lw_lt x y).mpr q)).2.1) k)) (g2 q)
  · exact step (fun T locs X _ t k => hw T locs X t (XS.ifYes X.here C.1 rfl (pc0 := pc + 1) (pc' := pc1) rfl (hb C.2.1 hd) rfl ((if0 _ _).trans (flt (fun z => q ((lw_lt x y).mp z))).2.1) h1.1 h1.2 k)) (g1 q)
theorem g_if_icmpgt (C : Ctx p l e R s m args below meth c Z own nm bs ml rt) {x y : Int32} {o : Int} (hd : decode bs pc = .ok (.if_icmp .gt o, 3)) (pc1 : Nat) (h1 : 0 ≤ ((pc : Nat) : Int) + o ∧ (((pc : Nat) : Int) + o).toNat = pc1) (pc2 : Nat) (h2 : pc2 = pc + 3) (g1 : (y < x) → Go p l e R s m args below meth c n0 Q h cells slots pc1 L st) (g2 : (¬ y < x) → Go p l e R s m args below meth c n0 Q h cells slots pc2 L st) : Go p l e R s m args below meth c n0 Q h cells slots pc L (.int y :: .int x :: st) := by
  subst h2
  by_cases q : y < x
  · exact step (fun T locs X _ t k => XS.icmpYes X.here C.1 rfl (pc0 := pc) (pc' := pc1) rfl (hb C.2.1 hd) rfl (tlt q).2.2.1 h1.1 h1.2 k) (g1 q)
  · exact step (fun T locs X _ t k => XS.icmpNo X.here C.1 rfl (hb C.2.1 hd) rfl (flt q).2.2.1 k) (g2 q)
theorem g_ifgt (C : Ctx p l e R s m args below meth c Z own nm bs ml rt) {x : Int32} {o : Int} (hd : decode bs pc = .ok (.ifCond .gt o, 3)) (pc1 : Nat) (h1 : 0 ≤ ((pc : Nat) : Int) + o ∧ (((pc : Nat) : Int) + o).toNat = pc1) (pc2 : Nat) (h2 : pc2 = pc + 3) (g1 : ((0 : Int32) < x) → Go p l e R s m args below meth c n0 Q h cells slots pc1 L st) (g2 : (¬ (0 : Int32) < x) → Go p l e R s m args below meth c n0 Q h cells slots pc2 L st) : Go p l e R s m args below meth c n0 Q h cells slots pc L (.int x :: st) := by
  subst h2
  by_cases q : (0 : Int32) < x
  · exact step (fun T locs X _ t k => XS.ifYes X.here C.1 rfl (pc0 := pc) (pc' := pc1) rfl (hb C.2.1 hd) rfl ((if0 _ _).trans (tlt q).2.2.1) h1.1 h1.2 k) (g1 q)
  · exact step (fun T locs X _ t k => XS.ifNo X.here C.1 rfl (hb C.2.1 hd) rfl ((if0 _ _).trans (flt q).2.2.1) k) (g2 q)
theorem g_lcmpgt (C : Ctx p l e R s m args below meth c Z own nm bs ml rt) {x y : Int64} {o : Int} (hd0 : decode bs pc = .ok (.lcmp, 1)) (pcm : Nat) (hm : pcm = pc + 1) (hd : decode bs pcm = .ok (.ifCond .gt o, 3)) (pc1 : Nat) (h1 : 0 ≤ ((pcm : Nat) : Int) + o ∧ (((pcm : Nat) : Int) + o).toNat = pc1) (pc2 : Nat) (h2 : pc2 = pcm + 3) (g1 : (y < x) → Go p l e R s m args below meth c n0 Q h cells slots pc1 L st) (g2 : (¬ y < x) → Go p l e R s m args below meth c n0 Q h cells slots pc2 L st) : Go p l e R s m args below meth c n0 Q h cells slots pc L (.long y :: .long x :: st) := by
  subst hm
  have hw : ∀ (T : State) (locs : List Loc), Stand p l e R s m args below meth c T locs cells slots → ∀ t, Steps p.tables e below (T.setTop (mkF m (pc + 1) L (.int (lcmpW x y) :: st))) t → Steps p.tables e below (T.setTop (mkF m pc L (.long y :: .long x :: st))) t := fun T locs X t k => XS.lcmp X.here C.1 rfl (hb C.2.1 hd0) rfl k
  subst h2
  by_cases q : y < x
  · exact step (fun T locs X _ t k => hw T locs X t (XS.ifYes X.here C.1 rfl (pc0 := pc + 1) (pc' := pc1) rfl (hb C.2.1 hd) rfl ((if0 _ _).trans (tlt ((lw_gt x y).mpr q)).2.2.1) h1.1 h1.2 k)) (g1 q)
  · exact step (fun T locs X _ t k => hw T locs X t (XS.ifNo X.here C.1 rfl (hb C.2.1 hd) rfl ((if0 _ _).trans (flt (fun z => q ((lw_gt x y).mp z))).2.2.1) k)) (g2 q)
theorem g_if_icmple (C : Ctx p l e R s m args below meth c Z own nm bs ml rt) {x y : Int32} {o : Int} (hd : decode bs pc = .ok (.if_icmp .le o, 3)) (pc1 : Nat) (h1 : 0 ≤ ((pc : Nat) : Int) + o ∧ (((pc : Nat) : Int) + o).toNat = pc1) (pc2 : Nat) (h2 : pc2 = pc + 3) (g1 : (¬ y < x) → Go p l e R s m args below meth c n0 Q h cells slots pc1 L st) (g2 : (y < x) → Go p l e R s m args below meth c n0 Q h cells slots pc2 L st) : Go p l e R s m args below meth c n0 Q h cells slots pc L (.int y :: .int x :: st) := by
  subst h2
  by_cases q : y < x
  · exact step (fun T locs X _ t k => XS.icmpNo X.here C.1 rfl (hb C.2.1 hd) rfl (tlt q).2.2.2 k) (g2 q)
  · exact step (fun T locs X _ t k => XS.icmpYes X.here C.1 rfl (pc0 := pc) (pc' := pc1) rfl (hb C.2.1 hd) rfl (flt q).2.2.2 h1.1 h1.2 k) (g1 q)
theorem g_ifle (C : Ctx p l e R s m args below meth c Z own nm bs ml rt) {x : Int32} {o : Int} (hd : decode bs pc = .ok (.ifCond .le o, 3)) (pc1 : Nat) (h1 : 0 ≤ ((pc : Nat) : Int) + o ∧ (((pc : Nat) : Int) + o).toNat = pc1) (pc2 : Nat) (h2 : pc2 = pc + 3) (g1 : (¬ (0 : Int32) < x) → Go p l e R s m args below meth c n0 Q h cells slots pc1 L st) (g2 : ((0 : Int32) < x) → Go p l e R s m args below meth c n0 Q h cells slots pc2 L st) : Go p l e R s m args below meth c n0 Q h cells slots pc L (.int x :: st) := by
  subst h2
  by_cases q : (0 : Int32) < x
  · exact step (fun T locs X _ t k => XS.ifNo X.here C.1 rfl (hb C.2.1 hd) rfl ((if0 _ _).trans (tlt q).2.2.2) k) (g2 q)
  · exact step (fun T locs X _ t k => XS.ifYes X.here C.1 rfl (pc0 := pc) (pc' := pc1) rfl (hb C.2.1 hd) rfl ((if0 _ _).trans (flt q).2.2.2) h1.1 h1.2 k) (g1 q)
theorem g_lcmple (C : Ctx p l e R s m args below meth c Z own nm bs ml rt) {x y : Int64} {o : Int} (hd0 : decode bs pc = .ok (.lcmp, 1)) (pcm : Nat) (hm : pcm = pc + 1) (hd : decode bs pcm = .ok (.ifCond .le o, 3)) (pc1 : Nat) (h1 : 0 ≤ ((pcm : Nat) : Int) + o ∧ (((pcm : Nat) : Int) + o).toNat = pc1) (pc2 : Nat) (h2 : pc2 = pcm + 3) (g1 : (¬ y < x) → Go p l e R s m args below meth c n0 Q h cells slots pc1 L st) (g2 : (y < x) → Go p l e R s m args below meth c n0 Q h cells slots pc2 L st) : Go p l e R s m args below meth c n0 Q h cells slots pc L (.long y :: .long x :: st) := by
  subst hm
  have hw : ∀ (T : State) (locs : List Loc), Stand p l e R s m args below meth c T locs cells slots → ∀ t, Steps p.tables e below (T.setTop (mkF m (pc + 1) L (.int (lcmpW x y) :: st))) t → Steps p.tables e below (T.setTop (mkF m pc L (.long y :: .long x :: st))) t := fun T locs X t k => XS.lcmp X.here C.1 rfl (hb C.2.1 hd0) rfl k
  subst h2
  by_cases q : y < x
  · exact step (fun T locs X _ t k => hw T locs X t (XS.ifNo X.here C.1 rfl (hb C.2.1 hd) rfl ((if0 _ _).trans (tlt ((lw_gt x y).mpr q)).2.2.2) k)) (g2 q)
  · exact step (fun T locs X _ t k => hw T locs X t (XS.ifYes X.here C.1 rfl (pc0 := pc + 1) (pc' := pc1) rfl (hb C.2.1 hd) rfl ((if0 _ _).trans (flt (fun z => q ((lw_gt x y).mp z))).2.2.2) h1.1 h1.2 k)) (g1 q)
theorem fin {v : Option Value} (C : Ctx p l e R s m args below meth c Z own nm bs ml rt) (hc : cells ≤ R.cells) (hs : slots ≤ R.slots) (hv : rt = none → v = none) (k : ∀ (T : State) (locs : List Loc), Stand p l e R s m args below meth c T locs cells slots → ∀ fs, (∀ (f : JFrame) (acts : List Action), f.method = m → f.locked = none → f.entered = [] → (doReturn e (T.setTop f) acts v).1 = T.setFrames fs) → Steps p.tables e below (T.setTop (mkF m pc L st)) (T.setFrames fs)) (q : Q v h) : Go p l e R s m args below meth c n0 Q h cells slots pc L st := fun T locs X eh N => by
  obtain ⟨fs, hr, hrun, hended, hW, hsame⟩ := X.leave (v := v) (fun h => hv (C.2.2.2.2.2.1.symm.trans h)) C.2.2.2.2.2.2.1
  refine ⟨_, v, locs, k T locs X fs hr, hrun, hended, ?_, N, hW, hsame.mono hc hs⟩
  show Q v T.heap
  rw [eh]; exact q
theorem r_int {P : Int32 → Heap → Prop} {z : Int32} (C : Ctx p l e R s m args below meth c Z own nm bs ml (some .int)) (hd : decode bs pc = .ok (.ireturn, 1)) (hc : cells ≤ R.cells) (hs : slots ≤ R.slots) (q : P z h) : Go p l e R s m args below meth c n0 (qI P) h cells slots pc L (.int z :: st) :=
  fin C hc hs (fun h => by cases h) (fun T locs X fs hr => retI X C.1 C.2.2.2.2.2.1 (hb C.2.1 hd) hr) ⟨z, rfl, q⟩
theorem r_nar {P : Int32 → Heap → Prop} {z : Int32} {t : FieldType} (C : Ctx p l e R s m args below meth c Z own nm bs ml (some t)) (ht : t = .boolean ∨ t = .byte ∨ t = .char ∨ t = .short) (hd : decode bs pc = .ok (.ireturn, 1)) (hc : cells ≤ R.cells) (hs : slots ≤ R.slots) (q : P (nar t z) h) : Go p l e R s m args below meth c n0 (qI P) h cells slots pc L (.int z :: st) :=
  fin C hc hs (fun h => by cases h) (fun T locs X fs hr => retN X C.1 C.2.2.2.2.2.1 ht (hb C.2.1 hd) hr) ⟨_, rfl, q⟩
theorem r_long {P : Int64 → Heap → Prop} {z : Int64} (C : Ctx p l e R s m args below meth c Z own nm bs ml (some .long)) (hd : decode bs pc = .ok (.lreturn, 1)) (hc : cells ≤ R.cells) (hs : slots ≤ R.slots) (q : P z h) : Go p l e R s m args below meth c n0 (qJ P) h cells slots pc L (.long z :: st) :=
  fin C hc hs (fun h => by cases h) (fun T locs X fs hr => retOut X C.1 C.2.2.2.2.2.1 rfl (Or.inr (Or.inl ⟨rfl, rfl, z, rfl⟩)) (hb C.2.1 hd) hr) ⟨z, rfl, q⟩
theorem r_ref {P : Addr → Heap → Prop} {z : Addr} {t : FieldType} (C : Ctx p l e R s m args below meth c Z own nm bs ml (some t)) (ht : t.isReference = true) (hn : narrow t (.ref z) = .ref z) (hd : decode bs pc = .ok (.areturn, 1)) (hc : cells ≤ R.cells) (hs : slots ≤ R.slots) (q : P z h) : Go p l e R s m args below meth c n0 (qA P) h cells slots pc L (.ref z :: st) :=
  fin C hc hs (fun h => by cases h) (fun T locs X fs hr => retOut X C.1 C.2.2.2.2.2.1 hn (Or.inr (Or.inr (Or.inr (Or.inr ⟨rfl, ht, rfl⟩)))) (hb C.2.1 hd) hr) ⟨z, rfl, q⟩
theorem r_void {P : Heap → Prop} (C : Ctx p l e R s m args below meth c Z own nm bs ml none) (hd : decode bs pc = .ok (.return_, 1)) (hc : cells ≤ R.cells) (hs : slots ≤ R.slots) (q : P h) : Go p l e R s m args below meth c n0 (qV P) h cells slots pc L [] :=
  fin C hc hs (fun _ => rfl) (fun T locs X fs hr => X.returnOut C.1 C.2.2.2.2.2.1 (hb C.2.1 hd) hr) ⟨rfl, q⟩
theorem g_getfield (C : Ctx p l e R s m args below meth c Z own nm bs ml rt) {O n d host : String} {i : Nat} {a : Addr} {v : Value} (w : (Jvm.Cond.fieldLink own i O n d).before a0 Z = true) (F : Fld Z h a O n d v) (hd : decode bs pc = .ok (.getfield i, 3)) (pc' : Nat) (hp : pc' = pc + 3) (g : Go p l e R s m args below meth c n0 Q h cells slots pc' L (v :: st)) : Go p l e R s m args below meth c n0 Q h cells slots pc L (.ref a :: st) := fun T locs X eh N => by
  subst hp
  obtain ⟨T1, X1, e1, st1⟩ := getF X C.1 C.2.2.1 C.2.2.2.1 (host := "") (Or.inl w) Via.refl eh F (g := mkF m pc L (.ref a :: st)) rfl rfl (hb C.2.1 hd)
  obtain ⟨s2, u, L', x1, x2⟩ := g T1 locs X1 e1 N
  exact ⟨s2, u, L', st1 _ x1, x2⟩
theorem g_putfield (C : Ctx p l e R s m args below meth c Z own nm bs ml rt) {O n d K : String} {i kk : Nat} {ty : FieldType} {a : Addr} {v old : Value} (w : (Jvm.Cond.fieldLink own i O n d).before a0 Z = true) (F : Fld Z h a O n d old) (E : Exa Z h a K) (hL : (Jvm.Cond.lays K O n d).before a0 Z = true ∨ ((Jvm.Cond.laysFinal K O n d).before a0 Z = true ∧ own = O ∧ nm = "<init>")) (wi : (Jvm.Cond.instantiable K kk).before a0 Z = true) (hty : parseFieldDescriptor d = some ty) (hn : narrow ty v = v) (hf : fits ty v = true) (hd : decode bs pc = .ok (.putfield i, 3)) (pc' : Nat) (hp : pc' = pc + 3) (hna : n0 ≤ a) (g : ∀ h', Wr h h' a (Jvm.RoadKit.slotOf Z O n d) v → Go p l e R s m args below meth c n0 Q h' cells slots pc' L st) : Go p l e R s m args below meth c n0 Q h cells slots pc L (v :: .ref a :: st) := fun T locs X eh N => by
  subst hp
  obtain ⟨T1, h1, X1, e1, W1, st1⟩ := putF X C.1 C.2.2.1 C.2.2.2.1 (host := "") (Or.inl w) Via.refl eh F E (hL.imp id fun q => ⟨q.1, q.2.1, C.2.2.2.2.2.2.2.trans q.2.2⟩) wi hty hn hf (g := mkF m pc L (v :: .ref a :: st)) rfl rfl (hb C.2.1 hd)
  obtain ⟨s2, u, L', x1, x2⟩ := g h1 W1 T1 _ X1 e1 (Fr.snoc X1 N hna)
  exact ⟨s2, u, L', st1 _ x1, x2⟩
theorem g_new (C : Ctx p l e R s m args below meth c Z own nm bs ml rt) {K : String} {i n : Nat} (w : (Jvm.Cond.classLink own i K).before a0 Z = true) (wi : (Jvm.Cond.instantiable K n).before a0 Z = true) (wz : (Jvm.Cond.initialized K).before a0 Z = true) (hd : decode bs pc = .ok (.new i, 3)) (pc' : Nat) (hp : pc' = pc + 3) (cells' slots' : Nat) (hc' : cells' = cells + 1) (hs' : slots' = slots + n) (hc : cells' ≤ R.cells) (hs : slots' ≤ R.slots) (g : ∀ h' a, a = h.size → Ext h h' → Exa Z h' a K → (∀ {O nm d : String} {ty : FieldType}, Laid Z a0 K O nm d → parseFieldDescriptor d = some ty → Fld Z h' a O nm d (defaultValue ty)) → Go p l e R s m args below meth c n0 Q h' cells' slots' pc' L (.ref a :: st)) : Go p l e R s m args below meth c n0 Q h cells slots pc L st := fun T locs X eh N => by
  subst hp hc' hs'
  obtain ⟨T1, h1, X1, e1, E1, A1, D1, -, st1⟩ := newO X C.1 C.2.2.1 C.2.2.2.1 w wi wz eh (g := mkF m pc L st) rfl (hb C.2.1 hd) hc hs
  obtain ⟨s2, u, L', x1, x2⟩ := g h1 _ rfl E1 A1 D1 T1 _ X1 e1 N
  exact ⟨s2, u, L', st1 _ x1, x2⟩
theorem g_objinit (C : Ctx p l e R s m args below meth c Z own nm bs ml rt) {i : Nat} {a : Addr} (w1 : (Jvm.Cond.methodLink own i Lib.objectInit).before a0 Z = true) (w2 : (Jvm.Cond.instanceMethod Lib.objectInit).before a0 Z = true) (w3 : (Jvm.Cond.code Lib.objectInit ⟨#[0xb1]⟩ 1 none).before a0 Z = true) (hd : decode bs pc = .ok (.invokespecial i, 3)) (pc' : Nat) (hp : pc' = pc + 3) (hL : L.size = ml) (hf : 1 ≤ R.frames) (W : Nat) (hW : 2 * 0 + (st.map fun v => v.category).sum ≤ W) (hl : W + 12 ≤ R.locals) (g : Go p l e R s m args below meth c n0 Q h cells slots pc' L st) : Go p l e R s m args below meth c n0 Q h cells slots pc L (.ref a :: st) := fun T locs X eh N => by
  subst hp
  obtain ⟨T1, X1, e1, st1⟩ := initO X C.1 C.2.2.1 C.2.2.2.1 w1 w2 w3 eh (g := mkF m pc L (.ref a :: st)) rfl (hL.trans C.2.2.2.2.1.symm) rfl (hb C.2.1 hd) hf (W := W) hW hl
  obtain ⟨s2, u, L', x1, x2⟩ := g T1 locs X1 e1 N
  exact ⟨s2, u, L', st1 _ x1, x2⟩
theorem g_instY (C : Ctx p l e R s m args below meth c Z own nm bs ml rt) {K : String} {i : Nat} {a : Addr} (w : (Jvm.Cond.classLink own i K).before a0 Z = true) (F : Ins Z h a K true) (hd : decode bs pc = .ok (.instanceof i, 3)) (pc' : Nat) (hp : pc' = pc + 3) (g : Go p l e R s m args below meth c n0 Q h cells slots pc' L (.int 1 :: st)) : Go p l e R s m args below meth c n0 Q h cells slots pc L (.ref a :: st) := fun T locs X eh N => by
  subst hp
  obtain ⟨T1, X1, e1, st1⟩ := instY X C.1 C.2.2.1 C.2.2.2.1 w eh F (g := mkF m pc L (.ref a :: st)) rfl rfl (hb C.2.1 hd)
  obtain ⟨s2, u, L', x1, x2⟩ := g T1 locs X1 e1 N
  exact ⟨s2, u, L', st1 _ x1, x2⟩
theorem g_instNo (C : Ctx p l e R s m args below meth c Z own nm bs ml rt) {K K0 : String} {i : Nat} {a : Addr} (w : (Jvm.Cond.classLink own i K).before a0 Z = true) (E : Exa Z h a K0) (F : ∃ c t, Z.vm.findClass K0 = some c ∧ Z.vm.findClass K = some t ∧ Z.vm.assignable c t = false) (hd : decode bs pc = .ok (.instanceof i, 3)) (pc' : Nat) (hp : pc' = pc + 3) (g : Go p l e R s m args below meth c n0 Q h cells slots pc' L (.int 0 :: st)) : Go p l e R s m args below meth c n0 Q h cells slots pc L (.ref a :: st) := fun T locs X eh N => by
  subst hp
  obtain ⟨T1, X1, e1, st1⟩ := instNo X C.1 C.2.2.1 C.2.2.2.1 w eh E F (g := mkF m pc L (.ref a :: st)) rfl rfl (hb C.2.1 hd)
  obtain ⟨s2, u, L', x1, x2⟩ := g T1 locs X1 e1 N
  exact ⟨s2, u, L', st1 _ x1, x2⟩
theorem g_instNull (C : Ctx p l e R s m args below meth c Z own nm bs ml rt) {i : Nat} (hd : decode bs pc = .ok (.instanceof i, 3)) (pc' : Nat) (hp : pc' = pc + 3) (g : Go p l e R s m args below meth c n0 Q h cells slots pc' L (.int 0 :: st)) : Go p l e R s m args below meth c n0 Q h cells slots pc L (.null :: st) := by
  subst hp
  exact step (fun T locs X _ t k => X.instanceofNull C.1 (g := mkF m pc L (.null :: st)) rfl rfl (hb C.2.1 hd) _ k) g
theorem g_checkcast (C : Ctx p l e R s m args below meth c Z own nm bs ml rt) {K : String} {i : Nat} {a : Addr} (w : (Jvm.Cond.classLink own i K).before a0 Z = true) (F : Ins Z h a K true) (hd : decode bs pc = .ok (.checkcast i, 3)) (pc' : Nat) (hp : pc' = pc + 3) (g : Go p l e R s m args below meth c n0 Q h cells slots pc' L (.ref a :: st)) : Go p l e R s m args below meth c n0 Q h cells slots pc L (.ref a :: st) := fun T locs X eh N => by
  subst hp
  obtain ⟨T1, X1, e1, st1⟩ := castY X C.1 C.2.2.1 C.2.2.2.1 w eh F (g := mkF m pc L (.ref a :: st)) rfl rfl (hb C.2.1 hd)
  obtain ⟨s2, u, L', x1, x2⟩ := g T1 locs X1 e1 N
  exact ⟨s2, u, L', st1 _ x1, x2⟩
/-- a local that holds nothing or an int; two that hold nothing or a long -/
def OneS (s : Slot) : Prop := s = .unset ∨ ∃ x : Int32, s = .val (.int x)
def TwoS (s t : Slot) : Prop := (s = .unset ∧ t = .unset) ∨ ∃ x : Int64, s = .val (.long x) ∧ t = .second
theorem OneS.u : OneS .unset := Or.inl rfl
theorem OneS.i {x : Int32} : OneS (.val (.int x)) := Or.inr ⟨x, rfl⟩
theorem TwoS.u : TwoS .unset .unset := Or.inl ⟨rfl, rfl⟩
theorem TwoS.j {x : Int64} : TwoS (.val (.long x)) .second := Or.inr ⟨x, rfl, rfl⟩
/-- the array at a: N places, place j holds f j -/
def Ary (Z : State) (h : Heap) (a : Addr) (ty : FieldType) (N : Nat) (f : Nat → Value) : Prop := N < 2 ^ 31 ∧ ∃ cl : Cell, Arr Z h a cl ty ∧ cl.slots.size = N ∧ ∀ j, j < N → cl.slots[j]? = some (f j)
def updA (f : Nat → Value) (i : Nat) (v : Value) : Nat → Value := fun j => if j = i then v else f j
theorem Ary.lt {a : Addr} {ty : FieldType} {N : Nat} {f : Nat → Value} (A : Ary Z h a ty N f) : a < h.size := by obtain ⟨-, cl, A1, -⟩ := A; exact A1.lt
theorem Ary.ext {h' : Heap} {a : Addr} {ty : FieldType} {N : Nat} {f : Nat → Value} (A : Ary Z h a ty N f) (E : Ext h h') : Ary Z h' a ty N f := by obtain ⟨q, cl, A1, A2⟩ := A; exact ⟨q, cl, A1.ext E, A2⟩
theorem Ary.other {h' : Heap} {a b : Addr} {sl : Nat} {v : Value} {ty : FieldType} {N : Nat} {f : Nat → Value} (A : Ary Z h a ty N f) (W : Wr h h' b sl v) (q : a ≠ b) : Ary Z h' a ty N f := by obtain ⟨q0, cl, A1, A2⟩ := A; exact ⟨q0, cl, A1.other W q, A2⟩
theorem Ary.keep {h' : Heap} {a : Addr} {ws : List Addr} {ty : FieldType} {N : Nat} {f : Nat → Value} (A : Ary Z h a ty N f) (K : Keep h h' ws) (q : a ∉ ws) : Ary Z h' a ty N f := by obtain ⟨q0, cl, A1, A2⟩ := A; exact ⟨q0, cl, ⟨K.2.1 _ _ A1.1 q, A1.2⟩, A2⟩
theorem Ary.congr {a : Addr} {ty : FieldType} {N : Nat} {f f' : Nat → Value} (A : Ary Z h a ty N f) (q : ∀ j, j < N → f j = f' j) : Ary Z h a ty N f' := by obtain ⟨q0, cl, A1, A2, A3⟩ := A; exact ⟨q0, cl, A1, A2, fun j hj => by rw [A3 j hj, q j hj]⟩
theorem Ary.set {h' : Heap} {a : Addr} {i : Nat} {v : Value} {ty : FieldType} {N : Nat} {f : Nat → Value} (A : Ary Z h a ty N f) (W : Wr h h' a i v) : Ary Z h' a ty N (updA f i v) := by
  obtain ⟨q0, cl, A1, A2, A3⟩ := A
  refine ⟨q0, _, A1.same W, by rw [sz_set]; exact A2, fun j hj => ?_⟩
  obtain ⟨cell, w1, -, w3, -⟩ := W
  cases A1.1.symm.trans w1
  by_cases q : j = i
  · subst q; simp [updA, Cell.setSlot, w3]
  · rw [updA, if_neg q, ← A3 j hj]; simp [Cell.setSlot, Ne.symm q]
theorem Ary.wrlt {h' : Heap} {a : Addr} {i : Nat} {v : Value} {ty : FieldType} {N : Nat} {f : Nat → Value} (A : Ary Z h a ty N f) (W : Wr h h' a i v) : h'.size = h.size := W.size
def upn (f : Nat → Int32) (i : Nat) (v : Int32) : Nat → Int32 := fun j => if j = i then v else f j
theorem Ary.asI {a : Addr} {ty : FieldType} {N i : Nat} {f : Nat → Int32} {v : Int32} (A : Ary Z h a ty N (updA (fun j => .int (f j)) i (.int v))) : Ary Z h a ty N (fun j => .int (upn f i v j)) := A.congr (fun j _ => by
  show (if j = i then Value.int v else Value.int (f j)) = Value.int (if j = i then v else f j)
  split <;> rfl)
/-- the int j is the place i -/
def Ix (j : Int32) (i : Nat) : Prop := ¬ j < 0 ∧ j.toNatClampNeg = i
theorem Ix.inb {j : Int32} {i N : Nat} {cl : Cell} (x : Ix j i) (hi : i < N) (S : cl.slots.size = N) : ¬ (j < 0 ∨ cl.slots.size ≤ j.toNatClampNeg) := by
  rintro (q | q)
  · exact x.1 q
  · rw [x.2] at q; omega
theorem Ix.toInt {j : Int32} {i : Nat} (x : Ix j i) : j.toInt = (i : Int) := by
  obtain ⟨h1, h2⟩ := x
  rw [Int32.lt_iff_toInt_lt] at h1
  have h3 : j.toInt.toNat = i := h2
  have h4 : (0 : Int32).toInt = 0 := rfl
  omega
theorem Ix.of {j : Int32} {i : Nat} (h : j.toInt = (i : Int)) : Ix j i := by
  refine ⟨?_, ?_⟩
  · rw [Int32.lt_iff_toInt_lt]
    have h4 : (0 : Int32).toInt = 0 := rfl
    omega
  · show j.toInt.toNat = i
    omega
theorem Ix.lt {a b : Int32} {i j : Nat} (x : Ix a i) (y : Ix b j) : a < b ↔ i < j := by
  rw [Int32.lt_iff_toInt_lt, x.toInt, y.toInt]; omega
theorem Ix.eq {a b : Int32} {i j : Nat} (x : Ix a i) (y : Ix b j) : a = b ↔ i = j := by
  rw [← Int32.toInt_inj, x.toInt, y.toInt]; omega
theorem Ix.add {a b : Int32} {i j : Nat} (x : Ix a i) (y : Ix b j) (h : i + j < 2147483648) : Ix (a + b) (i + j) := by
  apply Ix.of
  rw [Int32.toInt_add, x.toInt, y.toInt]
  have h2 : ((i : Int) + (j : Int)).bmod (2 ^ 32) = (i : Int) + (j : Int) := Int.bmod_eq_of_le (by omega) (by omega)
  rw [h2]; omega
theorem Ix.sub {a b : Int32} {i j : Nat} (x : Ix a i) (y : Ix b j) (h : j ≤ i) (hi : i < 2147483648) : Ix (a - b) (i - j) := by
  apply Ix.of
  rw [Int32.toInt_sub, x.toInt, y.toInt]
  have h2 : ((i : Int) - (j : Int)).bmod (2 ^ 32) = (i : Int) - (j : Int) := Int.bmod_eq_of_le (by omega) (by omega)
  rw [h2]; omega
theorem Ix.mul {a b : Int32} {i j : Nat} (x : Ix a i) (y : Ix b j) (h : i * j < 2147483648) : Ix (a * b) (i * j) := by
  apply Ix.of
  rw [Int32.toInt_mul, x.toInt, y.toInt, ← Int.natCast_mul]
  exact Int.bmod_eq_of_le (by omega) (by omega)
theorem Ix.nz {y : Int32} {n : Nat} (x : Ix y n) (h : 0 < n) : y ≠ 0 := fun q => by
  have := x.toInt
  rw [q] at this
  have h0 : (0 : Int32).toInt = 0 := rfl
  omega
theorem nn31 (x : Int32) : 0 ≤ (x &&& 2147483647).toInt := (c_andS x 2147483647).2.2 (by decide)
theorem Ix.rem {x y : Int32} {n : Nat} (hx : 0 ≤ x.toInt) (hy : Ix y n) (hn : 0 < n) : ∃ i, i < n ∧ Ix (x % y) i := by
  have h0 : (x % y).toInt = x.toInt % (n : Int) := by
    rw [Int32.toInt_mod, hy.toInt]; exact Int.tmod_eq_emod_of_nonneg hx
  have h1 : 0 ≤ x.toInt % (n : Int) := Int.emod_nonneg _ (by omega)
  have h2 : x.toInt % (n : Int) < n := Int.emod_lt_of_pos _ (by omega)
  exact ⟨(x.toInt % (n : Int)).toNat, by omega, Ix.of (by omega)⟩
theorem Ix.succ {a : Int32} {i : Nat} (x : Ix a i) (h : i + 1 < 2147483648) : Ix (a + 1) (i + 1) := x.add (b := 1) (j := 1) ⟨by decide, by decide⟩ h
theorem g_iaload (C : Ctx p l e R s m args below meth c Z own nm bs ml rt) {a : Addr} {N : Nat} {f : Nat → Value} {j : Int32} (A : Ary Z h a .int N f) (i : Nat) (hj : Ix j i) (hi : i < N) (v : Value) (hv : f i = v) (hd : decode bs pc = .ok (.iaload, 1)) (pc' : Nat) (hp : pc' = pc + 1) (g : Go p l e R s m args below meth c n0 Q h cells slots pc' L (v :: st)) : Go p l e R s m args below meth c n0 Q h cells slots pc L (.int j :: .ref a :: st) := by
  subst hp hv
  obtain ⟨q0, cl, A1, A2, A3⟩ := A
  exact step (fun T locs X eh t k => X.iaload C.1 (j := j) (v := f i) (by rw [eh]; exact A1.1) (State.isArrayOf_alike C.2.2.1.alike A1.2.1) A1.2.2 (hj.inb hi A2) (by rw [hj.2]; exact A3 i hi) (g := mkF m pc L (.int j :: .ref a :: st)) rfl rfl (hb C.2.1 hd) _ k) g
theorem g_laload (C : Ctx p l e R s m args below meth c Z own nm bs ml rt) {a : Addr} {N : Nat} {f : Nat → Value} {j : Int32} (A : Ary Z h a .long N f) (i : Nat) (hj : Ix j i) (hi : i < N) (v : Value) (hv : f i = v) (hd : decode bs pc = .ok (.laload, 1)) (pc' : Nat) (hp : pc' = pc + 1) (g : Go p l e R s m args below meth c n0 Q h cells slots pc' L (v :: st)) : Go p l e R s m args below meth c n0 Q h cells slots pc L (.int j :: .ref a :: st) := by
  subst hp hv
  obtain ⟨q0, cl, A1, A2, A3⟩ := A
  exact step (fun T locs X eh t k => X.laload C.1 (j := j) (v := f i) (by rw [eh]; exact A1.1) (State.isArrayOf_alike C.2.2.1.alike A1.2.1) A1.2.2 (hj.inb hi A2) (by rw [hj.2]; exact A3 i hi) (g := mkF m pc L (.int j :: .ref a :: st)) rfl rfl (hb C.2.1 hd) _ k) g
theorem g_caload (C : Ctx p l e R s m args below meth c Z own nm bs ml rt) {a : Addr} {N : Nat} {f : Nat → Value} {j : Int32} (A : Ary Z h a .char N f) (i : Nat) (hj : Ix j i) (hi : i < N) (v : Value) (hv : f i = v) (hd : decode bs pc = .ok (.caload, 1)) (pc' : Nat) (hp : pc' = pc + 1) (g : Go p l e R s m args below meth c n0 Q h cells slots pc' L (v :: st)) : Go p l e R s m args below meth c n0 Q h cells slots pc L (.int j :: .ref a :: st) := by
  subst hp hv
  obtain ⟨q0, cl, A1, A2, A3⟩ := A
  exact step (fun T locs X eh t k => X.caload C.1 (j := j) (v := f i) (by rw [eh]; exact A1.1) (State.isArrayOf_alike C.2.2.1.alike A1.2.1) A1.2.2 (hj.inb hi A2) (by rw [hj.2]; exact A3 i hi) (g := mkF m pc L (.int j :: .ref a :: st)) rfl rfl (hb C.2.1 hd) _ k) g
theorem g_baload (C : Ctx p l e R s m args below meth c Z own nm bs ml rt) {a : Addr} {N : Nat} {f : Nat → Value} {j : Int32} (A : Ary Z h a .byte N f) (i : Nat) (hj : Ix j i) (hi : i < N) (v : Value) (hv : f i = v) (hd : decode bs pc = .ok (.baload, 1)) (pc' : Nat) (hp : pc' = pc + 1) (g : Go p l e R s m args below meth c n0 Q h cells slots pc' L (v :: st)) : Go p l e R s m args below meth c n0 Q h cells slots pc L (.int j :: .ref a :: st) := by
  subst hp hv
  obtain ⟨q0, cl, A1, A2, A3⟩ := A
  exact step (fun T locs X eh t k => X.baloadBytes C.1 (j := j) (v := f i) (by rw [eh]; exact A1.1) (State.isArrayOf_alike C.2.2.1.alike A1.2.1) A1.2.2 (hj.inb hi A2) (by rw [hj.2]; exact A3 i hi) (g := mkF m pc L (.int j :: .ref a :: st)) rfl rfl (hb C.2.1 hd) _ k) g
theorem g_iastore (C : Ctx p l e R s m args below meth c Z own nm bs ml rt) {a : Addr} {N : Nat} {f : Nat → Value} {j : Int32} {x : Int32} (A : Ary Z h a .int N f) (i : Nat) (hj : Ix j i) (hi : i < N) (hd : decode bs pc = .ok (.iastore, 1)) (pc' : Nat) (hp : pc' = pc + 1) (hna : n0 ≤ a) (g : ∀ h', Wr h h' a i (.int x) → Ary Z h' a .int N (updA f i (.int x)) → Go p l e R s m args below meth c n0 Q h' cells slots pc' L st) : Go p l e R s m args below meth c n0 Q h cells slots pc L (.int x :: .int j :: .ref a :: st) := fun T locs X eh N' => by
  subst hp
  have A0 := A
  obtain ⟨q0, cl, A1, A2, A3⟩ := A
  obtain ⟨T1, h1, X1, e1, W1, st1⟩ := stI X C.1 C.2.2.1 eh A1 (hj.inb hi A2) (g := mkF m pc L (.int x :: .int j :: .ref a :: st)) rfl rfl (hb C.2.1 hd)
  have W2 : Wr h h1 a i (.int x) := by have := W1; rw [hj.2] at this; exact this
  obtain ⟨s2, u, L', x1, x2⟩ := g h1 W2 (A0.set W2) T1 _ X1 e1 (Fr.snoc X1 N' hna)
  exact ⟨s2, u, L', st1 _ x1, x2⟩
theorem g_lastore (C : Ctx p l e R s m args below meth c Z own nm bs ml rt) {a : Addr} {N : Nat} {f : Nat → Value} {j : Int32} {x : Int64} (A : Ary Z h a .long N f) (i : Nat) (hj : Ix j i) (hi : i < N) (hd : decode bs pc = .ok (.lastore, 1)) (pc' : Nat) (hp : pc' = pc + 1) (hna : n0 ≤ a) (g : ∀ h', Wr h h' a i (.long x) → Ary Z h' a .long N (updA f i (.long x)) → Go p l e R s m args below meth c n0 Q h' cells slots pc' L st) : Go p l e R s m args below meth c n0 Q h cells slots pc L (.long x :: .int j :: .ref a :: st) := fun T locs X eh N' => by
  subst hp
  have A0 := A
  obtain ⟨q0, cl, A1, A2, A3⟩ := A
  obtain ⟨T1, h1, X1, e1, W1, st1⟩ := stJ X C.1 C.2.2.1 eh A1 (hj.inb hi A2) (g := mkF m pc L (.long x :: .int j :: .ref a :: st)) rfl rfl (hb C.2.1 hd)
  have W2 : Wr h h1 a i (.long x) := by have := W1; rw [hj.2] at this; exact this
  obtain ⟨s2, u, L', x1, x2⟩ := g h1 W2 (A0.set W2) T1 _ X1 e1 (Fr.snoc X1 N' hna)
  exact ⟨s2, u, L', st1 _ x1, x2⟩
theorem g_castore (C : Ctx p l e R s m args below meth c Z own nm bs ml rt) {a : Addr} {N : Nat} {f : Nat → Value} {j : Int32} {x : Int32} (A : Ary Z h a .char N f) (i : Nat) (hj : Ix j i) (hi : i < N) (hd : decode bs pc = .ok (.castore, 1)) (pc' : Nat) (hp : pc' = pc + 1) (hna : n0 ≤ a) (g : ∀ h', Wr h h' a i (.int (nar .char x)) → Ary Z h' a .char N (updA f i (.int (nar .char x))) → Go p l e R s m args below meth c n0 Q h' cells slots pc' L st) : Go p l e R s m args below meth c n0 Q h cells slots pc L (.int x :: .int j :: .ref a :: st) := fun T locs X eh N' => by
  subst hp
  have A0 := A
  obtain ⟨q0, cl, A1, A2, A3⟩ := A
  obtain ⟨T1, h1, X1, e1, W1, st1⟩ := stC X C.1 C.2.2.1 eh A1 (hj.inb hi A2) (g := mkF m pc L (.int x :: .int j :: .ref a :: st)) rfl rfl (hb C.2.1 hd)
  have W2 : Wr h h1 a i (.int (nar .char x)) := by have := W1; rw [hj.2] at this; exact this
  obtain ⟨s2, u, L', x1, x2⟩ := g h1 W2 (A0.set W2) T1 _ X1 e1 (Fr.snoc X1 N' hna)
  exact ⟨s2, u, L', st1 _ x1, x2⟩
theorem g_bastore (C : Ctx p l e R s m args below meth c Z own nm bs ml rt) {a : Addr} {N : Nat} {f : Nat → Value} {j : Int32} {x : Int32} (A : Ary Z h a .byte N f) (i : Nat) (hj : Ix j i) (hi : i < N) (hd : decode bs pc = .ok (.bastore, 1)) (pc' : Nat) (hp : pc' = pc + 1) (hna : n0 ≤ a) (g : ∀ h', Wr h h' a i (.int (nar .byte x)) → Ary Z h' a .byte N (updA f i (.int (nar .byte x))) → Go p l e R s m args below meth c n0 Q h' cells slots pc' L st) : Go p l e R s m args below meth c n0 Q h cells slots pc L (.int x :: .int j :: .ref a :: st) := fun T locs X eh N' => by
  subst hp
  have A0 := A
  obtain ⟨q0, cl, A1, A2, A3⟩ := A
  obtain ⟨T1, h1, X1, e1, W1, st1⟩ := stB X C.1 C.2.2.1 eh A1 (hj.inb hi A2) (g := mkF m pc L (.int x :: .int j :: .ref a :: st)) rfl rfl (hb C.2.1 hd)
  have W2 : Wr h h1 a i (.int (nar .byte x)) := by have := W1; rw [hj.2] at this; exact this
  obtain ⟨s2, u, L', x1, x2⟩ := g h1 W2 (A0.set W2) T1 _ X1 e1 (Fr.snoc X1 N' hna)
  exact ⟨s2, u, L', st1 _ x1, x2⟩
theorem g_arraylength (C : Ctx p l e R s m args below meth c Z own nm bs ml rt) {a : Addr} {ty : FieldType} {N : Nat} {f : Nat → Value} (A : Ary Z h a ty N f) (z : Int32) (hz : Ix z N) (hd : decode bs pc = .ok (.arraylength, 1)) (pc' : Nat) (hp : pc' = pc + 1) (g : Go p l e R s m args below meth c n0 Q h cells slots pc' L (.int z :: st)) : Go p l e R s m args below meth c n0 Q h cells slots pc L (.ref a :: st) := by
  subst hp
  obtain ⟨q0, cl, A1, A2, A3⟩ := A
  have hl : cl.slots.size.toInt32 = z := len_of (A2.trans hz.2.symm) hz.1
  exact step (fun T locs X eh t k => X.arraylength C.1 (by rw [eh]; exact A1.1) (State.isArrayOf_alike C.2.2.1.alike A1.2.1) (g := mkF m pc L (.ref a :: st)) rfl rfl (hb C.2.1 hd) _ (by rw [hl]; exact k)) g
theorem g_newarray (C : Ctx p l e R s m args below meth c Z own nm bs ml rt) {aty : ArrayType} {n : Int32} (w : (Jvm.Cond.arrayClass (newarray.typeOf aty)).before a0 Z = true) (N cap : Nat) (hn : Ix n N) (hN : N ≤ cap) (hb8 : cap * 8 ≤ 536870912) (hd : decode bs pc = .ok (.newarray aty, 2)) (pc' : Nat) (hp : pc' = pc + 2) (cells' slots' : Nat) (hc' : cells' = cells + 1) (hs' : slots' = slots + cap) (hc : cells' ≤ R.cells) (hs : slots' ≤ R.slots) (g : ∀ h' a, a = h.size → Ext h h' → Ary Z h' a (newarray.typeOf aty) N (fun _ => defaultValue (newarray.typeOf aty)) → Go p l e R s m args below meth c n0 Q h' cells' slots' pc' L (.ref a :: st)) : Go p l e R s m args below meth c n0 Q h cells slots pc L (.int n :: st) := fun T locs X eh N' => by
  subst hp hc' hs'
  obtain ⟨T1, h1, cA, X1, e1, E1, A1, st1⟩ := newP X C.1 C.2.2.1 w eh (g := mkF m pc L (.int n :: st)) rfl (hb C.2.1 hd) rfl hn.1 (cap := cap) (by rw [hn.2]; exact hN) hb8 hc hs
  obtain ⟨s2, u, L', x1, x2⟩ := g h1 _ rfl E1 ⟨by omega, _, A1, by rw [sz_new, hn.2], fun j hj => by simp [newA, hn.2, hj]⟩ T1 _ X1 e1 N'
  exact ⟨s2, u, L', st1 _ x1, x2⟩
theorem c_static0 (C : Ctx p l e R s m args below meth c Z own nm bs ml rt) {i : Nat} {y : MethodName} {cb : ByteArray} {cm : Nat} {cr : Option FieldType} {rm : Room} {Q' : Option Value → Heap → Prop} (argsL rest : List Value) (w1 : (Jvm.Cond.methodLink own i y).before a0 Z = true) (w2 : (Jvm.Cond.static y).before a0 Z = true) (w3 : (Jvm.Cond.initialized y.cls).before a0 Z = true) (w4 : (Jvm.Cond.code y cb cm cr).before a0 Z = true) (hy : y.cls ≠ "java/lang/invoke/MethodHandle" ∧ y.cls ≠ "java/lang/invoke/VarHandle") (hM : Met l Z y cb cm cr rm argsL.toArray h n0 Q') (hd : decode bs pc = .ok (.invokestatic i, 3)) (pc' : Nat) (hp : pc' = pc + 3) (hlen : ∀ sig, parseMethodDescriptor y.desc = some sig → argsL.length = sig.parameters.length) (hL : L.size = ml) (W : Nat) (hW : 2 * 0 + (rest.map fun v => v.category).sum ≤ W) (hf : rm.frames + 1 ≤ R.frames) (hl : W + (cm + 11) + rm.locals ≤ R.locals) (cells' slots' : Nat) (hc' : cells' = cells + rm.cells) (hs' : slots' = slots + rm.slots) (hc : cells' ≤ R.cells) (hs : slots' ≤ R.slots) (g : ∀ v h', Q' v h' → Go p l e R s m args below meth c n0 Q h' cells' slots' pc' L (v.toList ++ rest)) : Go p l e R s m args below meth c n0 Q h cells slots pc L (argsL.reverse ++ rest) := fun T locs X eh N => by
  subst hp hc' hs'
  obtain ⟨v, _, ⟨U1, L1, k1, n1⟩, -, X1, ⟨Lc, hQ, l1, y1, z1⟩, st1⟩ := Jvm.LawKit.callS X C.1 (y := y) C.2.2.2.1 (mvT C.2.2.1 w1) (mvT C.2.2.1 w2) (mvT C.2.2.1 w3) (mvT C.2.2.1 w4) hy (backOf (W := W) (Q := fun v h L => Q' v h ∧ Fr n0 L) (hM []) C.2.2.1 w4 w3 hf hl) (g := mkF m pc L (argsL.reverse ++ rest)) rfl (hL.trans C.2.2.2.2.1.symm) (argsL := argsL) (rest := rest) hlen rfl hW (hb C.2.1 hd) (fun _ _ => ⟨rfl, eh, hc, hs⟩)
  dsimp only [Pt.U, Pt.locs, Pt.cells, Pt.slots] at X1 l1 y1 z1 st1 hQ
  subst l1 y1 z1
  obtain ⟨s2, u, L', x1, x2⟩ := g v U1.heap hQ.1 U1 _ X1 rfl (Fr.app N hQ.2)
  exact ⟨s2, u, L', st1 _ x1, x2⟩
theorem c_special0 (C : Ctx p l e R s m args below meth c Z own nm bs ml rt) {i : Nat} {y : MethodName} {cb : ByteArray} {cm : Nat} {rm : Room} {Q' : Option Value → Heap → Prop} (a : Addr) (argsL rest : List Value) (hin : y.name = "<init>") (w1 : (Jvm.Cond.methodLink own i y).before a0 Z = true) (w2 : (Jvm.Cond.instanceMethod y).before a0 Z = true) (w3 : (Jvm.Cond.initialized y.cls).before a0 Z = true) (w4 : (Jvm.Cond.code y cb cm none).before a0 Z = true) (hy : y.cls ≠ "java/lang/invoke/MethodHandle" ∧ y.cls ≠ "java/lang/invoke/VarHandle") (hM : Met l Z y cb cm none rm (.ref a :: argsL).toArray h n0 Q') (hd : decode bs pc = .ok (.invokespecial i, 3)) (pc' : Nat) (hp : pc' = pc + 3) (hlen : ∀ sig, parseMethodDescriptor y.desc = some sig → argsL.length = sig.parameters.length) (hL : L.size = ml) (W : Nat) (hW : 2 * 0 + (rest.map fun v => v.category).sum ≤ W) (hf : rm.frames + 1 ≤ R.frames) (hl : W + (cm + 11) + rm.locals ≤ R.locals) (cells' slots' : Nat) (hc' : cells' = cells + rm.cells) (hs' : slots' = slots + rm.slots) (hc : cells' ≤ R.cells) (hs : slots' ≤ R.slots) (g : ∀ v h', Q' v h' → Go p l e R s m args below meth c n0 Q h' cells' slots' pc' L (v.toList ++ rest)) : Go p l e R s m args below meth c n0 Q h cells slots pc L (argsL.reverse ++ .ref a :: rest) := fun T locs X eh N => by
  subst hp hc' hs'
  obtain ⟨v, _, ⟨U1, L1, k1, n1⟩, -, X1, ⟨Lc, hQ, l1, y1, z1⟩, st1⟩ := X.specialBack C.1 (y := y) hin C.2.2.2.1 (mvT C.2.2.1 w1) (mvT C.2.2.1 w2) (mvT C.2.2.1 w4) hy (backOf (W := W) (Q := fun v h L => Q' v h ∧ Fr n0 L) (hM []) C.2.2.1 w4 w3 hf hl) (g := mkF m pc L (argsL.reverse ++ .ref a :: rest)) rfl (hL.trans C.2.2.2.2.1.symm) (Steps.refl _) (a := a) (argsL := argsL) (rest := rest) hlen rfl hW (hb C.2.1 hd) (fun _ _ => ⟨rfl, eh, hc, hs⟩)
  dsimp only [Pt.U, Pt.locs, Pt.cells, Pt.slots] at X1 l1 y1 z1 st1 hQ
  subst l1 y1 z1
  obtain ⟨s2, u, L', x1, x2⟩ := g v U1.heap hQ.1 U1 _ X1 rfl (Fr.app N hQ.2)
  exact ⟨s2, u, L', st1.trans x1, x2⟩
theorem c_virtual0 (C : Ctx p l e R s m args below meth c Z own nm bs ml rt) {i : Nat} {K : String} {y : MethodName} {cb : ByteArray} {cm : Nat} {cr : Option FieldType} {rm : Room} {Q' : Option Value → Heap → Prop} (a : Addr) (argsL rest : List Value) (w1 : (Jvm.Cond.methodLink own i y).before a0 Z = true) (wd : (Jvm.Cond.declares y).before a0 Z = true) (ws : (Jvm.Cond.selects K y y).before a0 Z = true) (w2 : (Jvm.Cond.instanceMethod y).before a0 Z = true) (w3 : (Jvm.Cond.initialized y.cls).before a0 Z = true) (w4 : (Jvm.Cond.code y cb cm cr).before a0 Z = true) (hy : y.cls ≠ "java/lang/invoke/MethodHandle" ∧ y.cls ≠ "java/lang/invoke/VarHandle") (E : Exa Z h a K) (hM : Met l Z y cb cm cr rm (.ref a :: argsL).toArray h n0 Q') (hd : decode bs pc = .ok (.invokevirtual i, 3)) (pc' : Nat) (hp : pc' = pc + 3) (hlen : ∀ sig, parseMethodDescriptor y.desc = some sig → argsL.length = sig.parameters.length) (hL : L.size = ml) (W : Nat) (hW : 2 * 0 + (rest.map fun v => v.category).sum ≤ W) (hf : rm.frames + 1 ≤ R.frames) (hl : W + (cm + 11) + rm.locals ≤ R.locals) (cells' slots' : Nat) (hc' : cells' = cells + rm.cells) (hs' : slots' = slots + rm.slots) (hc : cells' ≤ R.cells) (hs : slots' ≤ R.slots) (g : ∀ v h', Q' v h' → Go p l e R s m args below meth c n0 Q h' cells' slots' pc' L (v.toList ++ rest)) : Go p l e R s m args below meth c n0 Q h cells slots pc L (argsL.reverse ++ .ref a :: rest) := fun T locs X eh N => by
  subst hp hc' hs'
  obtain ⟨cq, kq, qa, qb, qc⟩ := isOf C.2.2.1 eh E
  obtain ⟨v, _, ⟨U1, L1, k1, n1⟩, -, X1, ⟨Lc, hQ, l1, y1, z1⟩, st1⟩ := X.virtualBack C.1 (y := y) (z := y) C.2.2.2.1 (mvT C.2.2.1 w1) (mvT C.2.2.1 wd) (notFace_of_selects (args := #[]) (mvT C.2.2.1 ws)) (mvT C.2.2.1 ws) (mvT C.2.2.1 w2) hy (backOf (W := W) (Q := fun v h L => Q' v h ∧ Fr n0 L) (hM []) C.2.2.1 w4 w3 hf hl) qa qc (g := mkF m pc L (argsL.reverse ++ .ref a :: rest)) rfl (hL.trans C.2.2.2.2.1.symm) (Steps.refl _) (argsL := argsL) (rest := rest) hlen rfl hW (hb C.2.1 hd) (fun _ _ => ⟨rfl, eh, hc, hs⟩)
  dsimp only [Pt.U, Pt.locs, Pt.cells, Pt.slots] at X1 l1 y1 z1 st1 hQ
  subst l1 y1 z1
  obtain ⟨s2, u, L', x1, x2⟩ := g v U1.heap hQ.1 U1 _ X1 rfl (Fr.app N hQ.2)
  exact ⟨s2, u, L', st1.trans x1, x2⟩
theorem c_staticI (C : Ctx p l e R s m args below meth c Z own nm bs ml rt) {i : Nat} {y : MethodName} {cb : ByteArray} {cm : Nat} {cr : Option FieldType} {rm : Room} {P' : Int32 → Heap → Prop} (argsL rest : List Value) (w1 : (Jvm.Cond.methodLink own i y).before a0 Z = true) (w2 : (Jvm.Cond.static y).before a0 Z = true) (w3 : (Jvm.Cond.initialized y.cls).before a0 Z = true) (w4 : (Jvm.Cond.code y cb cm cr).before a0 Z = true) (hy : y.cls ≠ "java/lang/invoke/MethodHandle" ∧ y.cls ≠ "java/lang/invoke/VarHandle") (hM : Met l Z y cb cm cr rm argsL.toArray h n0 (qI P')) (hd : decode bs pc = .ok (.invokestatic i, 3)) (pc' : Nat) (hp : pc' = pc + 3) (hlen : ∀ sig, parseMethodDescriptor y.desc = some sig → argsL.length = sig.parameters.length) (hL : L.size = ml) (W : Nat) (hW : 2 * 0 + (rest.map fun v => v.category).sum ≤ W) (hf : rm.frames + 1 ≤ R.frames) (hl : W + (cm + 11) + rm.locals ≤ R.locals) (cells' slots' : Nat) (hc' : cells' = cells + rm.cells) (hs' : slots' = slots + rm.slots) (hc : cells' ≤ R.cells) (hs : slots' ≤ R.slots) (hst : st = argsL.reverse ++ rest) (g : ∀ r h', P' r h' → Go p l e R s m args below meth c n0 Q h' cells' slots' pc' L (.int r :: rest)) : Go p l e R s m args below meth c n0 Q h cells slots pc L st := by
  subst hst
  exact c_static0 C argsL rest w1 w2 w3 w4 hy hM hd pc' hp hlen hL W hW hf hl cells' slots' hc' hs' hc hs (fun v h' hq => by obtain ⟨r, rfl, q⟩ := hq; exact g r h' q)
theorem c_staticJ (C : Ctx p l e R s m args below meth c Z own nm bs ml rt) {i : Nat} {y : MethodName} {cb : ByteArray} {cm : Nat} {cr : Option FieldType} {rm : Room} {P' : Int64 → Heap → Prop} (argsL rest : List Value) (w1 : (Jvm.Cond.methodLink own i y).before a0 Z = true) (w2 : (Jvm.Cond.static y).before a0 Z = true) (w3 : (Jvm.Cond.initialized y.cls).before a0 Z = true) (w4 : (Jvm.Cond.code y cb cm cr).before a0 Z = true) (hy : y.cls ≠ "java/lang/invoke/MethodHandle" ∧ y.cls ≠ "java/lang/invoke/VarHandle") (hM : Met l Z y cb cm cr rm argsL.toArray h n0 (qJ P')) (hd : decode bs pc = .ok (.invokestatic i, 3)) (pc' : Nat) (hp : pc' = pc + 3) (hlen : ∀ sig, parseMethodDescriptor y.desc = some sig → argsL.length = sig.parameters.length) (hL : L.size = ml) (W : Nat) (hW : 2 * 0 + (rest.map fun v => v.category).sum ≤ W) (hf : rm.frames + 1 ≤ R.frames) (hl : W + (cm + 11) + rm.locals ≤ R.locals) (cells' slots' : Nat) (hc' : cells' = cells + rm.cells) (hs' : slots' = slots + rm.slots) (hc : cells' ≤ R.cells) (hs : slots' ≤ R.slots) (hst : st = argsL.reverse ++ rest) (g : ∀ r h', P' r h' → Go p l e R s m args below meth c n0 Q h' cells' slots' pc' L (.long r :: rest)) : Go p l e R s m args below meth c n0 Q h cells slots pc L st := by
  subst hst
  exact c_static0 C argsL rest w1 w2 w3 w4 hy hM hd pc' hp hlen hL W hW hf hl cells' slots' hc' hs' hc hs (fun v h' hq => by obtain ⟨r, rfl, q⟩ := hq; exact g r h' q)
theorem c_staticA (C : Ctx p l e R s m args below meth c Z own nm bs ml rt) {i : Nat} {y : MethodName} {cb : ByteArray} {cm : Nat} {cr : Option FieldType} {rm : Room} {P' : Addr → Heap → Prop} (argsL rest : List Value) (w1 : (Jvm.Cond.methodLink own i y).before a0 Z = true) (w2 : (Jvm.Cond.static y).before a0 Z = true) (w3 : (Jvm.Cond.initialized y.cls).before a0 Z = true) (w4 : (Jvm.Cond.code y cb cm cr).before a0 Z = true) (hy : y.cls ≠ "java/lang/invoke/MethodHandle" ∧ y.cls ≠ "java/lang/invoke/VarHandle") (hM : Met l Z y cb cm cr rm argsL.toArray h n0 (qA P')) (hd : decode bs pc = .ok (.invokestatic i, 3)) (pc' : Nat) (hp : pc' = pc + 3) (hlen : ∀ sig, parseMethodDescriptor y.desc = some sig → argsL.length = sig.parameters.length) (hL : L.size = ml) (W : Nat) (hW : 2 * 0 + (rest.map fun v => v.category).sum ≤ W) (hf : rm.frames + 1 ≤ R.frames) (hl : W + (cm + 11) + rm.locals ≤ R.locals) (cells' slots' : Nat) (hc' : cells' = cells + rm.cells) (hs' : slots' = slots + rm.slots) (hc : cells' ≤ R.cells) (hs : slots' ≤ R.slots) (hst : st = argsL.reverse ++ rest) (g : ∀ r h', P' r h' → Go p l e R s m args below meth c n0 Q h' cells' slots' pc' L (.ref r :: rest)) : Go p l e R s m args below meth c n0 Q h cells slots pc L st := by
  subst hst
  exact c_static0 C argsL rest w1 w2 w3 w4 hy hM hd pc' hp hlen hL W hW hf hl cells' slots' hc' hs' hc hs (fun v h' hq => by obtain ⟨r, rfl, q⟩ := hq; exact g r h' q)
theorem c_staticV (C : Ctx p l e R s m args below meth c Z own nm bs ml rt) {i : Nat} {y : MethodName} {cb : ByteArray} {cm : Nat} {cr : Option FieldType} {rm : Room} {P' : Heap → Prop} (argsL rest : List Value) (w1 : (Jvm.Cond.methodLink own i y).before a0 Z = true) (w2 : (Jvm.Cond.static y).before a0 Z = true) (w3 : (Jvm.Cond.initialized y.cls).before a0 Z = true) (w4 : (Jvm.Cond.code y cb cm cr).before a0 Z = true) (hy : y.cls ≠ "java/lang/invoke/MethodHandle" ∧ y.cls ≠ "java/lang/invoke/VarHandle") (hM : Met l Z y cb cm cr rm argsL.toArray h n0 (qV P')) (hd : decode bs pc = .ok (.invokestatic i, 3)) (pc' : Nat) (hp : pc' = pc + 3) (hlen : ∀ sig, parseMethodDescriptor y.desc = some sig → argsL.length = sig.parameters.length) (hL : L.size = ml) (W : Nat) (hW : 2 * 0 + (rest.map fun v => v.category).sum ≤ W) (hf : rm.frames + 1 ≤ R.frames) (hl : W + (cm + 11) + rm.locals ≤ R.locals) (cells' slots' : Nat) (hc' : cells' = cells + rm.cells) (hs' : slots' = slots + rm.slots) (hc : cells' ≤ R.cells) (hs : slots' ≤ R.slots) (hst : st = argsL.reverse ++ rest) (g : ∀ h', P' h' → Go p l e R s m args below meth c n0 Q h' cells' slots' pc' L rest) : Go p l e R s m args below meth c n0 Q h cells slots pc L st := by
  subst hst
  exact c_static0 C argsL rest w1 w2 w3 w4 hy hM hd pc' hp hlen hL W hW hf hl cells' slots' hc' hs' hc hs (fun v h' hq => by obtain ⟨rfl, q⟩ := hq; exact g h' q)
theorem c_specialV (C : Ctx p l e R s m args below meth c Z own nm bs ml rt) {i : Nat} {y : MethodName} {cb : ByteArray} {cm : Nat} {rm : Room} {P' : Heap → Prop} (a : Addr) (argsL rest : List Value) (hin : y.name = "<init>") (w1 : (Jvm.Cond.methodLink own i y).before a0 Z = true) (w2 : (Jvm.Cond.instanceMethod y).before a0 Z = true) (w3 : (Jvm.Cond.initialized y.cls).before a0 Z = true) (w4 : (Jvm.Cond.code y cb cm none).before a0 Z = true) (hy : y.cls ≠ "java/lang/invoke/MethodHandle" ∧ y.cls ≠ "java/lang/invoke/VarHandle") (hM : Met l Z y cb cm none rm (.ref a :: argsL).toArray h n0 (qV P')) (hd : decode bs pc = .ok (.invokespecial i, 3)) (pc' : Nat) (hp : pc' = pc + 3) (hlen : ∀ sig, parseMethodDescriptor y.desc = some sig → argsL.length = sig.parameters.length) (hL : L.size = ml) (W : Nat) (hW : 2 * 0 + (rest.map fun v => v.category).sum ≤ W) (hf : rm.frames + 1 ≤ R.frames) (hl : W + (cm + 11) + rm.locals ≤ R.locals) (cells' slots' : Nat) (hc' : cells' = cells + rm.cells) (hs' : slots' = slots + rm.slots) (hc : cells' ≤ R.cells) (hs : slots' ≤ R.slots) (hst : st = argsL.reverse ++ .ref a :: rest) (g : ∀ h', P' h' → Go p l e R s m args below meth c n0 Q h' cells' slots' pc' L rest) : Go p l e R s m args below meth c n0 Q h cells slots pc L st := by
  subst hst
  exact c_special0 C a argsL rest hin w1 w2 w3 w4 hy hM hd pc' hp hlen hL W hW hf hl cells' slots' hc' hs' hc hs (fun v h' hq => by obtain ⟨rfl, q⟩ := hq; exact g h' q)
theorem c_virtualI (C : Ctx p l e R s m args below meth c Z own nm bs ml rt) {i : Nat} {K : String} {y : MethodName} {cb : ByteArray} {cm : Nat} {cr : Option FieldType} {rm : Room} {P' : Int32 → Heap → Prop} (a : Addr) (argsL rest : List Value) (w1 : (Jvm.Cond.methodLink own i y).before a0 Z = true) (wd : (Jvm.Cond.declares y).before a0 Z = true) (ws : (Jvm.Cond.selects K y y).before a0 Z = true) (w2 : (Jvm.Cond.instanceMethod y).before a0 Z = true) (w3 : (Jvm.Cond.initialized y.cls).before a0 Z = true) (w4 : (Jvm.Cond.code y cb cm cr).before a0 Z = true) (hy : y.cls ≠ "java/lang/invoke/MethodHandle" ∧ y.cls ≠ "java/lang/invoke/VarHandle") (E : Exa Z h a K) (hM : Met l Z y cb cm cr rm (.ref a :: argsL).toArray h n0 (qI P')) (hd : decode bs pc = .ok (.invokevirtual i, 3)) (pc' : Nat) (hp : pc' = pc + 3) (hlen : ∀ sig, parseMethodDescriptor y.desc = some sig → argsL.length = sig.parameters.length) (hL : L.size = ml) (W : Nat) (hW : 2 * 0 + (rest.map fun v => v.category).sum ≤ W) (hf : rm.frames + 1 ≤ R.frames) (hl : W + (cm + 11) + rm.locals ≤ R.locals) (cells' slots' : Nat) (hc' : cells' = cells + rm.cells) (hs' : slots' = slots + rm.slots) (hc : cells' ≤ R.cells) (hs : slots' ≤ R.slots) (hst : st = argsL.reverse ++ .ref a :: rest) (g : ∀ r h', P' r h' → Go p l e R s m args below meth c n0 Q h' cells' slots' pc' L (.int r :: rest)) : Go p l e R s m args below meth c n0 Q h cells slots pc L st := by
  subst hst
  exact c_virtual0 C a argsL rest w1 wd ws w2 w3 w4 hy E hM hd pc' hp hlen hL W hW hf hl cells' slots' hc' hs' hc hs (fun v h' hq => by obtain ⟨r, rfl, q⟩ := hq; exact g r h' q)
theorem c_virtualJ (C : Ctx p l e R s m args below meth c Z own nm bs ml rt) {i : Nat} {K : String} {y : MethodName} {cb : ByteArray} {cm : Nat} {cr : Option FieldType} {rm : Room} {P' : Int64 → Heap → Prop} (a : Addr) (argsL rest : List Value) (w1 : (Jvm.Cond.methodLink own i y).before a0 Z = true) (wd : (Jvm.Cond.declares y).before a0 Z = true) (ws : (Jvm.Cond.selects K y y).before a0 Z = true) (w2 : (Jvm.Cond.instanceMethod y).before a0 Z = true) (w3 : (Jvm.Cond.initialized y.cls).before a0 Z = true) (w4 : (Jvm.Cond.code y cb cm cr).before a0 Z = true) (hy : y.cls ≠ "java/lang/invoke/MethodHandle" ∧ y.cls ≠ "java/lang/invoke/VarHandle") (E : Exa Z h a K) (hM : Met l Z y cb cm cr rm (.ref a :: argsL).toArray h n0 (qJ P')) (hd : decode bs pc = .ok (.invokevirtual i, 3)) (pc' : Nat) (hp : pc' = pc + 3) (hlen : ∀ sig, parseMethodDescriptor y.desc = some sig → argsL.length = sig.parameters.length) (hL : L.size = ml) (W : Nat) (hW : 2 * 0 + (rest.map fun v => v.category).sum ≤ W) (hf : rm.frames + 1 ≤ R.frames) (hl : W + (cm + 11) + rm.locals ≤ R.locals) (cells' slots' : Nat) (hc' : cells' = cells + rm.cells) (hs' : slots' = slots + rm.slots) (hc : cells' ≤ R.cells) (hs : slots' ≤ R.slots) (hst : st = argsL.reverse ++ .ref a :: rest) (g : ∀ r h', P' r h' → Go p l e R s m args below meth c n0 Q h' cells' slots' pc' L (.long r :: rest)) : Go p l e R s m args below meth c n0 Q h cells slots pc L st := by
  subst hst
  exact c_virtual0 C a argsL rest w1 wd ws w2 w3 w4 hy E hM hd pc' hp hlen hL W hW hf hl cells' slots' hc' hs' hc hs (fun v h' hq => by obtain ⟨r, rfl, q⟩ := hq; exact g r h' q)
theorem c_virtualA (C : Ctx p l e R s m args below meth c Z own nm bs ml rt) {i : Nat} {K : String} {y : MethodName} {cb : ByteArray} {cm : Nat} {cr : Option FieldType} {rm : Room} {P' : Addr → Heap → Prop} (a : Addr) (argsL rest : List Value) (w1 : (Jvm.Cond.methodLink own i y).before a0 Z = true) (wd : (Jvm.Cond.declares y).before a0 Z = true) (ws : (Jvm.Cond.selects K y y).before a0 Z = true) (w2 : (Jvm.Cond.instanceMethod y).before a0 Z = true) (w3 : (Jvm.Cond.initialized y.cls).before a0 Z = true) (w4 : (Jvm.Cond.code y cb cm cr).before a0 Z = true) (hy : y.cls ≠ "java/lang/invoke/MethodHandle" ∧ y.cls ≠ "java/lang/invoke/VarHandle") (E : Exa Z h a K) (hM : Met l Z y cb cm cr rm (.ref a :: argsL).toArray h n0 (qA P')) (hd : decode bs pc = .ok (.invokevirtual i, 3)) (pc' : Nat) (hp : pc' = pc + 3) (hlen : ∀ sig, parseMethodDescriptor y.desc = some sig → argsL.length = sig.parameters.length) (hL : L.size = ml) (W : Nat) (hW : 2 * 0 + (rest.map fun v => v.category).sum ≤ W) (hf : rm.frames + 1 ≤ R.frames) (hl : W + (cm + 11) + rm.locals ≤ R.locals) (cells' slots' : Nat) (hc' : cells' = cells + rm.cells) (hs' : slots' = slots + rm.slots) (hc : cells' ≤ R.cells) (hs : slots' ≤ R.slots) (hst : st = argsL.reverse ++ .ref a :: rest) (g : ∀ r h', P' r h' → Go p l e R s m args below meth c n0 Q h' cells' slots' pc' L (.ref r :: rest)) : Go p l e R s m args below meth c n0 Q h cells slots pc L st := by
  subst hst
  exact c_virtual0 C a argsL rest w1 wd ws w2 w3 w4 hy E hM hd pc' hp hlen hL W hW hf hl cells' slots' hc' hs' hc hs (fun v h' hq => by obtain ⟨r, rfl, q⟩ := hq; exact g r h' q)
theorem c_virtualV (C : Ctx p l e R s m args below meth c Z own nm bs ml rt) {i : Nat} {K : String} {y : MethodName} {cb : ByteArray} {cm : Nat} {cr : Option FieldType} {rm : Room} {P' : Heap → Prop} (a : Addr) (argsL rest : List Value) (w1 : (Jvm.Cond.methodLink own i y).before a0 Z = true) (wd : (Jvm.Cond.declares y).before a0 Z = true) (ws : (Jvm.Cond.selects K y y).before a0 Z = true) (w2 : (Jvm.Cond.instanceMethod y).before a0 Z = true) (w3 : (Jvm.Cond.initialized y.cls).before a0 Z = true) (w4 : (Jvm.Cond.code y cb cm cr).before a0 Z = true) (hy : y.cls ≠ "java/lang/invoke/MethodHandle" ∧ y.cls ≠ "java/lang/invoke/VarHandle") (E : Exa Z h a K) (hM : Met l Z y cb cm cr rm (.ref a :: argsL).toArray h n0 (qV P')) (hd : decode bs pc = .ok (.invokevirtual i, 3)) (pc' : Nat) (hp : pc' = pc + 3) (hlen : ∀ sig, parseMethodDescriptor y.desc = some sig → argsL.length = sig.parameters.length) (hL : L.size = ml) (W : Nat) (hW : 2 * 0 + (rest.map fun v => v.category).sum ≤ W) (hf : rm.frames + 1 ≤ R.frames) (hl : W + (cm + 11) + rm.locals ≤ R.locals) (cells' slots' : Nat) (hc' : cells' = cells + rm.cells) (hs' : slots' = slots + rm.slots) (hc : cells' ≤ R.cells) (hs : slots' ≤ R.slots) (hst : st = argsL.reverse ++ .ref a :: rest) (g : ∀ h', P' h' → Go p l e R s m args below meth c n0 Q h' cells' slots' pc' L rest) : Go p l e R s m args below meth c n0 Q h cells slots pc L st := by
  subst hst
  exact c_virtual0 C a argsL rest w1 wd ws w2 w3 w4 hy E hM hd pc' hp hlen hL W hW hf hl cells' slots' hc' hs' hc hs (fun v h' hq => by obtain ⟨rfl, q⟩ := hq; exact g h' q)
end OwnBase
end Jvm.Pilot.@@N@@.OwnW
namespace Jvm.Pilot.@@N@@
open Jvm Jvm.ClassFile Sem Op Lib Jvm.Free Jvm.Stand Jvm.LawKit Jvm.RoadKit Jvm.Pilot.@@N@@.OwnW Bundle Jvm.Pilot.@@N@@.Jvm.D
def minI (a b : Int32) : Int32 := if b < a then b else a
def stI (x : Int64) (m k : Int32) : Int32 := x.toInt32 - (x.toInt32 &&& m) + k + 1
def ff1 (s a b m : Int32) : Int32 := if s = a then (s + 1) &&& m else if s = b then (s + 1) &&& m else s
def ffI (s a b m : Int32) : Int32 := ff1 (ff1 s a b m) a b m
def upI (f : Nat → Int32) (p : Nat) (v : Int32) : Nat → Int32 := fun j => if j = p then v else f j
abbrev nt (x : Int64) : Nat := x.toBitVec.toNat
def hmN (x : Int64) (N : Nat) : Nat := nt x / (18446744073709551616 / N)
def pr (f : Nat → Int32) (N s : Nat) : Nat := if f s = 0 then s else if f ((s + 1) % N) = 0 then (s + 1) % N else (s + 2) % N
def k32 : Nat → Int32
  | 0 => 0
  | k + 1 => k32 k + 1
def PK (N : Nat) (m : Int32) (H : Nat → Int64) : Nat → Nat → Int32
  | 0 => fun _ => 0
  | k + 1 => upI (PK N m H k) (pr (PK N m H k) N (hmN (H k) N)) (stI (H k) m (k32 k))
/-- bits, length, mask -/
def HB (b : Int32) (N : Nat) (m : Int32) : Prop := (b = 1 ∧ N = 2 ∧ m = 1) ∨ (b = 2 ∧ N = 4 ∧ m = 3) ∨ (b = 3 ∧ N = 8 ∧ m = 7)
theorem k32_ix : ∀ {k : Nat}, k ≤ 3 → Ix (k32 k) k
  | 0, _ => ⟨by decide, by decide⟩
  | k + 1, h => (k32_ix (k := k) (by omega)).succ (by omega)
theorem HB.len {b m : Int32} {N : Nat} (q : HB b N m) : Ix ((1 : Int32) <<< (b &&& 31)) N := by
  rcases q with ⟨rfl, rfl, -⟩ | ⟨rfl, rfl, -⟩ | ⟨rfl, rfl, -⟩ <;> exact ⟨by decide, by decide⟩
theorem HB.mk' {b m : Int32} {N : Nat} (q : HB b N m) : ((1 : Int32) <<< (b &&& 31)) - 1 = m := by
  rcases q with ⟨rfl, -, rfl⟩ | ⟨rfl, -, rfl⟩ | ⟨rfl, -, rfl⟩ <;> decide
theorem HB.le8 {b m : Int32} {N : Nat} (q : HB b N m) : N ≤ 8 ∧ 0 < N := by
  rcases q with ⟨-, rfl, -⟩ | ⟨-, rfl, -⟩ | ⟨-, rfl, -⟩ <;> omega
theorem HB.mix {b m : Int32} {N : Nat} (q : HB b N m) : Ix m (N - 1) := by
  rcases q with ⟨-, rfl, rfl⟩ | ⟨-, rfl, rfl⟩ | ⟨-, rfl, rfl⟩ <;> exact ⟨by decide, by decide⟩
theorem hm_lt {x : Int64} {b m : Int32} {N : Nat} (q : HB b N m) : hmN x N < N := by
  have h : nt x < 18446744073709551616 := x.toBitVec.isLt
  unfold hmN
  rcases q with ⟨-, rfl, -⟩ | ⟨-, rfl, -⟩ | ⟨-, rfl, -⟩ <;> omega
theorem ix_low {z : Int64} {n : Nat} (h : nt z = n) (hn : n < 8) : Ix z.toInt32 n := by
  apply Ix.of
  have h' : z.toBitVec.toNat = n := h
  have h2 : z.toInt = (nt z : Int) := by
    rw [← Int64.toInt_toBitVec]; exact BitVec.toInt_eq_toNat_of_lt (by omega)
  rw [Int64.toInt_toInt32, h2, h]
  exact Int.bmod_eq_of_le (by omega) (by omega)
theorem own_hmA {x : Int64} {b m : Int32} {N : Nat} (q : HB b N m) : Ix (ushL x ((64 : Int32) - b)).toInt32 (hmN x N) := by
  have hl := hm_lt (x := x) q
  have h8 := q.le8.1
  refine ix_low ?_ (by omega)
  rcases q with ⟨rfl, rfl, -⟩ | ⟨rfl, rfl, -⟩ | ⟨rfl, rfl, -⟩
  · have h : (ushL x ((64 : Int32) - 1)).toBitVec = x.toBitVec >>> 63 := rfl
    show (ushL x ((64 : Int32) - 1)).toBitVec.toNat = _
    rw [h, BitVec.toNat_ushiftRight, Nat.shiftRight_eq_div_pow]; rfl
  · have h : (ushL x ((64 : Int32) - 2)).toBitVec = x.toBitVec >>> 62 := rfl
    show (ushL x ((64 : Int32) - 2)).toBitVec.toNat = _
    rw [h, BitVec.toNat_ushiftRight, Nat.shiftRight_eq_div_pow]; rfl
  · have h : (ushL x ((64 : Int32) - 3)).toBitVec = x.toBitVec >>> 61 := rfl
    show (ushL x ((64 : Int32) - 3)).toBitVec.toNat = _
    rw [h, BitVec.toNat_ushiftRight, Nat.shiftRight_eq_div_pow]; rfl
theorem own_hmB {x : Int64} {b m : Int32} {N : Nat} (q : HB b N m) : Ix (ushL (ushL x 61) ((3 : Int32) - b)).toInt32 (hmN x N) := by
  have hl := hm_lt (x := x) q
  have h8 := q.le8.1
  refine ix_low ?_ (by omega)
  rcases q with ⟨rfl, rfl, -⟩ | ⟨rfl, rfl, -⟩ | ⟨rfl, rfl, -⟩
  · have h : (ushL (ushL x 61) ((3 : Int32) - 1)).toBitVec = x.toBitVec >>> 61 >>> 2 := rfl
    show (ushL (ushL x 61) ((3 : Int32) - 1)).toBitVec.toNat = _
    rw [h, BitVec.toNat_ushiftRight, BitVec.toNat_ushiftRight, Nat.shiftRight_eq_div_pow, Nat.shiftRight_eq_div_pow, Nat.div_div_eq_div_mul]; rfl
  · have h : (ushL (ushL x 61) ((3 : Int32) - 2)).toBitVec = x.toBitVec >>> 61 >>> 1 := rfl
    show (ushL (ushL x 61) ((3 : Int32) - 2)).toBitVec.toNat = _
    rw [h, BitVec.toNat_ushiftRight, BitVec.toNat_ushiftRight, Nat.shiftRight_eq_div_pow, Nat.shiftRight_eq_div_pow, Nat.div_div_eq_div_mul]; rfl
  · have h : (ushL (ushL x 61) ((3 : Int32) - 3)).toBitVec = x.toBitVec >>> 61 := rfl
    show (ushL (ushL x 61) ((3 : Int32) - 3)).toBitVec.toNat = _
    rw [h, BitVec.toNat_ushiftRight, Nat.shiftRight_eq_div_pow]; rfl
theorem own_and {x m b : Int32} {N i : Nat} (q : HB b N m) (h : Ix x i) : Ix (x &&& m) (i % N) := by
  apply Ix.of
  have h1 : x.toBitVec.toNat = i := by
    have h4 := h.toInt
    rw [← Int32.toInt_toBitVec, BitVec.toInt_eq_toNat_cond] at h4
    have h5 := x.toBitVec.isLt
    split at h4 <;> omega
  have h2 : (x &&& m).toBitVec.toNat = i % N := by
    rw [Int32.toBitVec_and, BitVec.toNat_and, h1]
    rcases q with ⟨-, rfl, rfl⟩ | ⟨-, rfl, rfl⟩ | ⟨-, rfl, rfl⟩
    · exact Nat.and_two_pow_sub_one_eq_mod i 1
    · exact Nat.and_two_pow_sub_one_eq_mod i 2
    · exact Nat.and_two_pow_sub_one_eq_mod i 3
  have h3 : i % N < 8 := by
    have := q.le8
    have := Nat.mod_lt i (show N > 0 by omega)
    omega
  rw [← Int32.toInt_toBitVec, BitVec.toInt_eq_toNat_of_lt (by omega), h2]
theorem own_next {x m b : Int32} {N i : Nat} (q : HB b N m) (h : Ix x i) (hi : i < N) : Ix ((x + 1) &&& m) ((i + 1) % N) := own_and q (h.succ (by have := q.le8; omega))
theorem own_next2 {N i : Nat} (h : 0 < N) : ((i + 1) % N + 1) % N = (i + 2) % N := by
  rw [Nat.add_mod ((i + 1) % N) 1 N, Nat.mod_mod, ← Nat.add_mod]
/-! what is stored -/
theorem own_stored {x k m b : Int32} {N i : Nat} (q : HB b N m) (hk : Ix k i) (hi : i + 1 < N) (h2 : i < 3) : (x &&& (m ^^^ (-1 : Int32))) ||| (k + 1) = x - (x &&& m) + k + 1 := by
  have hk' : k = 0 ∨ k = 1 ∨ k = 2 := by
    have : i = 0 ∨ i = 1 ∨ i = 2 := by omega
    rcases this with rfl | rfl | rfl
    · exact Or.inl ((hk.eq (b := 0) (j := 0) ⟨by decide, by decide⟩).mpr rfl)
    · exact Or.inr (Or.inl ((hk.eq (b := 1) (j := 1) ⟨by decide, by decide⟩).mpr rfl))
    · exact Or.inr (Or.inr ((hk.eq (b := 2) (j := 2) ⟨by decide, by decide⟩).mpr rfl))
  have hz : (k + 1) &&& (m ^^^ (-1 : Int32)) = 0 := by
    have hki := hk.toInt
    rcases q with ⟨-, rfl, rfl⟩ | ⟨-, rfl, rfl⟩ | ⟨-, rfl, rfl⟩ <;> rcases hk' with rfl | rfl | rfl <;> first | decide | (exfalso; simp at hki; omega)
  have e1 : (x &&& m) + (x &&& (m ^^^ (-1 : Int32))) = x := by
    apply Int32.toBitVec_inj.mp
    rw [Int32.toBitVec_add, Int32.toBitVec_and, Int32.toBitVec_and, Int32.toBitVec_xor]
    have hn : (-1 : Int32).toBitVec = BitVec.allOnes 32 := rfl
    rw [hn, BitVec.xor_allOnes]
    generalize x.toBitVec = X
    generalize m.toBitVec = M
    rw [BitVec.add_eq_or_of_and_eq_zero]
    · apply BitVec.eq_of_getLsbD_eq
      intro i hi
      simp only [BitVec.getLsbD_or, BitVec.getLsbD_and, BitVec.getLsbD_not, hi, decide_true, Bool.true_and]
      cases X.getLsbD i <;> cases M.getLsbD i <;> rfl
    · apply BitVec.eq_of_getLsbD_eq
      intro i hi
      simp only [BitVec.getLsbD_and, BitVec.getLsbD_not, hi, decide_true, Bool.true_and, BitVec.getLsbD_zero]
      cases X.getLsbD i <;> cases M.getLsbD i <;> rfl
  have e2 : (x &&& (m ^^^ (-1 : Int32))) ||| (k + 1) = (x &&& (m ^^^ (-1 : Int32))) + (k + 1) := by
    apply Int32.toBitVec_inj.mp
    rw [Int32.toBitVec_add, Int32.toBitVec_or, BitVec.add_eq_or_of_and_eq_zero]
    have hz' := congrArg Int32.toBitVec hz
    rw [Int32.toBitVec_and] at hz'
    rw [Int32.toBitVec_and, BitVec.and_assoc, BitVec.and_comm (m ^^^ (-1 : Int32)).toBitVec, hz']
    have h0 : (0 : Int32).toBitVec = 0#32 := rfl
    rw [h0, BitVec.and_zero]
  have e3 : x &&& (m ^^^ (-1 : Int32)) = x - (x &&& m) := by
    have h := congrArg (fun z => z - (x &&& m)) e1
    simp only [Int32.add_comm (x &&& m), Int32.add_sub_cancel] at h
    exact h
  rw [e2, e3, Int32.add_assoc]
theorem own_stn {x : Int64} {k m b : Int32} {N i : Nat} (q : HB b N m) (hk : Ix k i) (hi : i + 1 < N) (h2 : i < 3) : ¬ stI x m k = 0 := by
  intro h
  rw [stI, ← own_stored q hk hi h2] at h
  have hk' : k = 0 ∨ k = 1 ∨ k = 2 := by
    have : i = 0 ∨ i = 1 ∨ i = 2 := by omega
    rcases this with rfl | rfl | rfl
    · exact Or.inl ((hk.eq (b := 0) (j := 0) ⟨by decide, by decide⟩).mpr rfl)
    · exact Or.inr (Or.inl ((hk.eq (b := 1) (j := 1) ⟨by decide, by decide⟩).mpr rfl))
    · exact Or.inr (Or.inr ((hk.eq (b := 2) (j := 2) ⟨by decide, by decide⟩).mpr rfl))
  have hb := congrArg Int32.toBitVec h
  rw [Int32.toBitVec_or] at hb
  have hz : (0 : Int32).toBitVec = 0#32 := rfl
  rw [hz] at hb
  have h0 := congrArg (fun z : BitVec 32 => z.getLsbD 0) hb
  have h1 := congrArg (fun z : BitVec 32 => z.getLsbD 1) hb
  simp only [BitVec.getLsbD_or, BitVec.getLsbD_zero, Bool.or_eq_false_iff] at h0 h1
  rcases hk' with rfl | rfl | rfl
  · exact absurd h0.2 (by decide)
  · exact absurd h1.2 (by decide)
  · exact absurd h0.2 (by decide)
/-! where it is stored -/
theorem pr_lt {f : Nat → Int32} {N s : Nat} (h : 0 < N) (hs : s < N) : pr f N s < N := by
  unfold pr
  split
  · exact hs
  · split
    · exact Nat.mod_lt _ h
    · exact Nat.mod_lt _ h
/-- the fields that hold something -/
theorem PK1 {N : Nat} {m : Int32} {H : Nat → Int64} : PK N m H 1 = upI (fun _ => 0) (hmN (H 0) N) (stI (H 0) m 0) := by
  have : pr (PK N m H 0) N (hmN (H 0) N) = hmN (H 0) N := by
    exact if_pos rfl
  show upI (PK N m H 0) (pr (PK N m H 0) N (hmN (H 0) N)) (stI (H 0) m (k32 0)) = _
  rw [this]; rfl
theorem PK1_z {N : Nat} {m b : Int32} {H : Nat → Int64} (q : HB b N m) (h2 : 4 ≤ N) (j : Nat) : ¬ PK N m H 1 j = 0 ↔ j = hmN (H 0) N := by
  rw [PK1, upI]
  by_cases e : j = hmN (H 0) N
  · rw [if_pos e]; exact ⟨fun _ => e, fun _ => own_stn q (i := 0) ⟨by decide, by decide⟩ (by omega) (by omega)⟩
  · rw [if_neg e]; exact ⟨fun h => absurd rfl h, fun h => absurd h e⟩
theorem PK2_z {N : Nat} {m b : Int32} {H : Nat → Int64} (q : HB b N m) (h2 : 4 ≤ N) (j : Nat) : ¬ PK N m H 2 j = 0 ↔ j = hmN (H 0) N ∨ j = pr (PK N m H 1) N (hmN (H 1) N) := by
  show ¬ upI (PK N m H 1) (pr (PK N m H 1) N (hmN (H 1) N)) (stI (H 1) m (k32 1)) j = 0 ↔ _
  rw [upI]
  by_cases e : j = pr (PK N m H 1) N (hmN (H 1) N)
  · rw [if_pos e]; exact ⟨fun _ => Or.inr e, fun _ => own_stn q (i := 1) (k32_ix (by decide)) (by omega) (by omega)⟩
  · rw [if_neg e, PK1_z q h2]; exact ⟨fun h => Or.inl h, fun h => h.resolve_right e⟩
theorem own_mods {N s : Nat} (h : N = 4 ∨ N = 8) (hs : s < N) : s ≠ (s + 1) % N ∧ s ≠ (s + 2) % N ∧ (s + 1) % N ≠ (s + 2) % N := by
  rcases h with rfl | rfl <;> omega
theorem own_free {N : Nat} {m b : Int32} {H : Nat → Int64} {k cnt : Nat} (q : HB b N m) (hk : k < cnt) (hc : cnt ≤ 3) (hm : cnt ≤ N - 1) : PK N m H k (hmN (H k) N) = 0 ∨ PK N m H k ((hmN (H k) N + 1) % N) = 0 ∨ PK N m H k ((hmN (H k) N + 2) % N) = 0 := by
  have hl := hm_lt (x := H k) q
  have : k = 0 ∨ k = 1 ∨ k = 2 := by omega
  rcases this with rfl | rfl | rfl
  · exact Or.inl rfl
  · have hN : N = 4 ∨ N = 8 := by rcases q with ⟨-, h, -⟩ | ⟨-, h, -⟩ | ⟨-, h, -⟩ <;> omega
    have hd := own_mods hN hl
    by_cases z0 : PK N m H 1 (hmN (H 1) N) = 0
    · exact Or.inl z0
    · by_cases z1 : PK N m H 1 ((hmN (H 1) N + 1) % N) = 0
      · exact Or.inr (Or.inl z1)
      · have y0 := (PK1_z q (by omega) _).mp z0
        have y1 := (PK1_z q (by omega) _).mp z1
        omega
  · have hN : N = 4 ∨ N = 8 := by rcases q with ⟨-, h, -⟩ | ⟨-, h, -⟩ | ⟨-, h, -⟩ <;> omega
    have hd := own_mods hN hl
    by_cases z0 : PK N m H 2 (hmN (H 2) N) = 0
    · exact Or.inl z0
    · by_cases z1 : PK N m H 2 ((hmN (H 2) N + 1) % N) = 0
      · exact Or.inr (Or.inl z1)
      · by_cases z2 : PK N m H 2 ((hmN (H 2) N + 2) % N) = 0
        · exact Or.inr (Or.inr z2)
        · have y0 := (PK2_z q (by omega) _).mp z0
          have y1 := (PK2_z q (by omega) _).mp z1
          have y2 := (PK2_z q (by omega) _).mp z2
          omega
theorem own_ff {f : Nat → Int32} {N i : Nat} {s a b m bb : Int32} (q : HB bb N m) (xs : Ix s i) (hi : i < N) (hocc : ∀ (x : Int32) (j : Nat), Ix x j → j < N → ((x = a ∨ x = b) ↔ ¬ f j = 0)) : Ix (ffI s a b m) (pr f N i) := by
  have hN := q.le8
  have no : ∀ (x : Int32) (j : Nat), Ix x j → j < N → f j = 0 → ff1 x a b m = x := by
    intro x j hx hj hf
    have h1 : ¬ x = a := fun e => (hocc x j hx hj).mp (Or.inl e) hf
    have h2 : ¬ x = b := fun e => (hocc x j hx hj).mp (Or.inr e) hf
    rw [ff1, if_neg h1, if_neg h2]
  have yes : ∀ (x : Int32) (j : Nat), Ix x j → j < N → ¬ f j = 0 → ff1 x a b m = (x + 1) &&& m := by
    intro x j hx hj hf
    rcases (hocc x j hx hj).mpr hf with e | e
    · rw [ff1, if_pos e]
    · by_cases e2 : x = a
      · rw [ff1, if_pos e2]
      · rw [ff1, if_neg e2, if_pos e]
  unfold ffI pr
  by_cases z0 : f i = 0
  · rw [if_pos z0, no s i xs hi z0, no s i xs hi z0]; exact xs
  · rw [if_neg z0, yes s i xs hi z0]
    have x1 := own_next q xs hi
    have l1 : (i + 1) % N < N := Nat.mod_lt _ (by omega)
    by_cases z1 : f ((i + 1) % N) = 0
    · rw [if_pos z1, no _ _ x1 l1 z1]; exact x1
    · rw [if_neg z1, yes _ _ x1 l1 z1, ← own_next2 (by omega)]
      exact own_next q x1 l1
theorem own_m1 {x : Int32} {j : Nat} (h : Ix x j) : ¬ x = -1 := fun e => by
  have := h.toInt
  rw [e] at this
  have h1 : (-1 : Int32).toInt = -1 := rfl
  omega
theorem own_min {x m : Int32} {N : Nat} {b : Int32} (q : HB b N m) : ∃ n, n ≤ 3 ∧ n ≤ N - 1 ∧ Ix (minI (x &&& 3) m) n := by
  have h1 : (x &&& 3).toBitVec.toNat ≤ 3 := by
    rw [Int32.toBitVec_and, BitVec.toNat_and]; exact Nat.and_le_right
  have x1 : Ix (x &&& 3) (x &&& 3).toBitVec.toNat := Ix.of (by rw [← Int32.toInt_toBitVec]; exact BitVec.toInt_eq_toNat_of_lt (by omega))
  have x2 := q.mix
  unfold minI
  split
  · rename_i h
    have := (x2.lt x1).mp h
    exact ⟨N - 1, by omega, by omega, x2⟩
  · rename_i h
    have := mt (x2.lt x1).mpr h
    exact ⟨_, h1, by omega, x1⟩
theorem own_c4 {v : Int32} {n : Nat} (h : n ≤ 3) (x : Ix v n) : (v = 0 ∧ n = 0) ∨ (v = 1 ∧ n = 1) ∨ (v = 2 ∧ n = 2) ∨ (v = 3 ∧ n = 3) := by
  have : n = 0 ∨ n = 1 ∨ n = 2 ∨ n = 3 := by omega
  rcases this with rfl | rfl | rfl | rfl
  · exact Or.inl ⟨(x.eq (b := 0) (j := 0) ⟨by decide, by decide⟩).mpr rfl, rfl⟩
  · exact Or.inr (Or.inl ⟨(x.eq (b := 1) (j := 1) ⟨by decide, by decide⟩).mpr rfl, rfl⟩)
  · exact Or.inr (Or.inr (Or.inl ⟨(x.eq (b := 2) (j := 2) ⟨by decide, by decide⟩).mpr rfl, rfl⟩))
  · exact Or.inr (Or.inr (Or.inr ⟨(x.eq (b := 3) (j := 3) ⟨by decide, by decide⟩).mpr rfl, rfl⟩))
theorem own_bits {v x : Int32} (q : v = 1 + (x &&& 2147483647) % 3) : ∃ N m, HB v N m := by
  obtain ⟨i, hi, xi⟩ := Ix.rem (nn31 x) (y := 3) (n := 3) ⟨by decide, by decide⟩ (by decide)
  have x1 : Ix v (1 + i) := by rw [q]; exact Ix.add ⟨by decide, by decide⟩ xi (by omega)
  have h3 : i = 0 ∨ i = 1 ∨ i = 2 := by omega
  rcases h3 with rfl | rfl | rfl
  · exact ⟨2, 1, Or.inl ⟨(x1.eq (b := 1) (j := 1) ⟨by decide, by decide⟩).mpr rfl, rfl, rfl⟩⟩
  · exact ⟨4, 3, Or.inr (Or.inl ⟨(x1.eq (b := 2) (j := 2) ⟨by decide, by decide⟩).mpr rfl, rfl, rfl⟩)⟩
  · exact ⟨8, 7, Or.inr (Or.inr ⟨(x1.eq (b := 3) (j := 3) ⟨by decide, by decide⟩).mpr rfl, rfl, rfl⟩)⟩
def g3 (x y z : Int64) (j : Nat) : Int64 := if j = 0 then x else if j = 1 then y else z
theorem own_N4 {N : Nat} {m b : Int32} (q : HB b N m) (h : 2 ≤ N - 1) : 4 ≤ N := by
  rcases q with ⟨-, h1, -⟩ | ⟨-, h1, -⟩ | ⟨-, h1, -⟩ <;> omega
theorem d1_0 : decode jdk_29_method_69_code 0 = .ok (.iload_n 0, 1) := by decide +kernel
theorem d1_1 : decode jdk_29_method_69_code 1 = .ok (.iload_n 1, 1) := by decide +kernel
theorem d1_2 : decode jdk_29_method_69_code 2 = .ok (.if_icmp .gt 7, 3) := by decide +kernel
theorem d1_5 : decode jdk_29_method_69_code 5 = .ok (.iload_n 0, 1) := by decide +kernel
theorem d1_6 : decode jdk_29_method_69_code 6 = .ok (.goto 4, 3) := by decide +kernel
theorem d1_9 : decode jdk_29_method_69_code 9 = .ok (.iload_n 1, 1) := by decide +kernel
theorem d1_10 : decode jdk_29_method_69_code 10 = .ok (.ireturn, 1) := by decide +kernel
theorem pf_1 : plainFor (⟨"java/lang/Math", "min", "(II)I"⟩ : MethodName) = true := by decide +kernel
theorem ef_1 (m : MethodId) (x0 : Int32) (x1 : Int32) : entryFrame m #[(.int x0), (.int x1)] 2 = mkF m 0 #[.val (.int x0), .val (.int x1)] [] := by first | (simp [entryFrame, mkF, argsToLocals, Value.category, maxLocals]; done) | rfl
set_option maxRecDepth 65536 in
set_option maxHeartbeats 40000000 in
theorem m1 (l : Launch) (Z : State) (a0 : Array Value) (hw : ∀ d ∈ tables_1, d.before a0 Z = true) (p0 : Int32) (p1 : Int32) (h0 : Heap) (n0 : Nat)  :
    Met l Z (⟨"java/lang/Math", "min", "(II)I"⟩ : MethodName) jdk_29_method_69_code 2 (some (.int)) ({ frames := 0, cells := 0, slots := 0, locals := 0 } : Room) #[(.int p0), (.int p1)] h0 n0 (qI fun r h => r = minI p0 p1 ∧ h0 = h) := by
  refine met pf_1 #[.val (.int p0), .val (.int p1)] (fun m => ef_1 m p0 p1) ?_
  intro p e s m below meth c C
  refine g_iloadN C d1_0 1 rfl rfl ?_
  refine g_iloadN C d1_1 2 rfl rfl ?_
  refine g_if_icmpgt C d1_2 9 (by decide) 5 rfl (fun k2 => ?_) (fun k2 => ?_)
  · refine g_iloadN C d1_9 10 rfl rfl ?_
    refine r_int C d1_10 (by decide) (by decide) ⟨by rw [minI, if_pos k2], rfl⟩
  · refine g_iloadN C d1_5 6 rfl rfl ?_
    refine g_goto C d1_6 10 (by decide) ?_
    refine r_int C d1_10 (by decide) (by decide) ⟨by rw [minI, if_neg k2], rfl⟩
theorem d4_0 : decode method_3_code 0 = .ok (.lload_n 0, 1) := by decide +kernel
theorem d4_1 : decode method_3_code 1 = .ok (.bipush 61, 2) := by decide +kernel
theorem d4_3 : decode method_3_code 3 = .ok (.lushr, 1) := by decide +kernel
theorem d4_4 : decode method_3_code 4 = .ok (.iconst 3, 1) := by decide +kernel
theorem d4_5 : decode method_3_code 5 = .ok (.iload_n 2, 1) := by decide +kernel
theorem d4_6 : decode method_3_code 6 = .ok (.isub, 1) := by decide +kernel
theorem d4_7 : decode method_3_code 7 = .ok (.lushr, 1) := by decide +kernel
theorem d4_8 : decode method_3_code 8 = .ok (.l2i, 1) := by decide +kernel
theorem d4_9 : decode method_3_code 9 = .ok (.ireturn, 1) := by decide +kernel
theorem pn_nearsign_NumberSlotsPlacedPinLaw : plainName "nearsign/NumberSlotsPlacedPinLaw" = true := by first | (simp [plainName, overriddenIn]; done) | decide +kernel
theorem ef_4 (m : MethodId) (x0 : Int64) (x1 : Int32) : entryFrame m #[(.long x0), (.int x1)] 3 = mkF m 0 #[.val (.long x0), .second, .val (.int x1)] [] := by first | (simp [entryFrame, mkF, argsToLocals, Value.category, maxLocals]; done) | rfl
set_option maxRecDepth 65536 in
set_option maxHeartbeats 40000000 in
theorem m4 (l : Launch) (Z : State) (a0 : Array Value) (hw : ∀ d ∈ tables_1, d.before a0 Z = true) (p0 : Int64) (p1 : Int32) (h0 : Heap) (n0 : Nat)  :
    Met l Z (⟨"nearsign/NumberSlotsPlacedPinLaw", "home", "(JI)I"⟩ : MethodName) method_3_code 3 (some (.int)) ({ frames := 0, cells := 0, slots := 0, locals := 0 } : Room) #[(.long p0), (.int p1)] h0 n0 (qI fun r h => r = (ushL (ushL p0 61) ((3 : Int32) - p1)).toInt32 ∧ h0 = h) := by
  refine met (plainFor_of_name pn_nearsign_NumberSlotsPlacedPinLaw) #[.val (.long p0), .second, .val (.int p1)] (fun m => ef_4 m p0 p1) ?_
  intro p e s m below meth c C
  refine g_lloadN C d4_0 1 rfl rfl ?_
  refine g_bipush C d4_1 3 rfl (61 : Int32) (by decide) ?_
  refine g_lushr C d4_3 4 rfl ?_
  refine g_iconst C d4_4 5 rfl (3 : Int32) (by decide) ?_
  refine g_iloadN C d4_5 6 rfl rfl ?_
  refine g_isub C d4_6 7 rfl ?_
  refine g_lushr C d4_7 8 rfl ?_
  refine g_l2i C d4_8 9 rfl ?_
  refine r_int C d4_9 (by decide) (by decide) ⟨rfl, rfl⟩
theorem d5_0 : decode method_5_code 0 = .ok (.lload_n 0, 1) := by decide +kernel
theorem d5_1 : decode method_5_code 1 = .ok (.l2i, 1) := by decide +kernel
theorem d5_2 : decode method_5_code 2 = .ok (.istore 4, 2) := by decide +kernel
theorem d5_4 : decode method_5_code 4 = .ok (.iload 4, 2) := by decide +kernel
theorem d5_6 : decode method_5_code 6 = .ok (.iload 4, 2) := by decide +kernel
theorem d5_8 : decode method_5_code 8 = .ok (.iload_n 2, 1) := by decide +kernel
theorem d5_9 : decode method_5_code 9 = .ok (.iand, 1) := by decide +kernel
theorem d5_10 : decode method_5_code 10 = .ok (.isub, 1) := by decide +kernel
theorem d5_11 : decode method_5_code 11 = .ok (.iload_n 3, 1) := by decide +kernel
theorem d5_12 : decode method_5_code 12 = .ok (.iadd, 1) := by decide +kernel
theorem d5_13 : decode method_5_code 13 = .ok (.iconst 1, 1) := by decide +kernel
theorem d5_14 : decode method_5_code 14 = .ok (.iadd, 1) := by decide +kernel
theorem d5_15 : decode method_5_code 15 = .ok (.ireturn, 1) := by decide +kernel
theorem ef_5 (m : MethodId) (x0 : Int64) (x1 : Int32) (x2 : Int32) : entryFrame m #[(.long x0), (.int x1), (.int x2)] 5 = mkF m 0 #[.val (.long x0), .second, .val (.int x1), .val (.int x2), .unset] [] := by first | (simp [entryFrame, mkF, argsToLocals, Value.category, maxLocals]; done) | rfl
set_option maxRecDepth 65536 in
set_option maxHeartbeats 40000000 in
theorem m5 (l : Launch) (Z : State) (a0 : Array Value) (hw : ∀ d ∈ tables_1, d.before a0 Z = true) (p0 : Int64) (p1 : Int32) (p2 : Int32) (h0 : Heap) (n0 : Nat)  :
    Met l Z (⟨"nearsign/NumberSlotsPlacedPinLaw", "stored", "(JII)I"⟩ : MethodName) method_5_code 5 (some (.int)) ({ frames := 0, cells := 0, slots := 0, locals := 0 } : Room) #[(.long p0), (.int p1), (.int p2)] h0 n0 (qI fun r h => r = stI p0 p1 p2 ∧ h0 = h) := by
  refine met (plainFor_of_name pn_nearsign_NumberSlotsPlacedPinLaw) #[.val (.long p0), .second, .val (.int p1), .val (.int p2), .unset] (fun m => ef_5 m p0 p1 p2) ?_
  intro p e s m below meth c C
  refine g_lloadN C d5_0 1 rfl rfl ?_
  refine g_l2i C d5_1 2 rfl ?_
  refine g_istore C d5_2 4 rfl (fun z' => #[.val (.long p0), .second, .val (.int p1), .val (.int p2), .val (.int z')]) (fun _ => rfl) (fun v2 ev2 => ?_)
  refine g_iload C d5_4 6 rfl rfl ?_
  refine g_iload C d5_6 8 rfl rfl ?_
  refine g_iloadN C d5_8 9 rfl rfl ?_
  refine g_iand C d5_9 10 rfl ?_
  refine g_isub C d5_10 11 rfl ?_
  refine g_iloadN C d5_11 12 rfl rfl ?_
  refine g_iadd C d5_12 13 rfl ?_
  refine g_iconst C d5_13 14 rfl (1 : Int32) (by decide) ?_
  refine g_iadd C d5_14 15 rfl ?_
  refine r_int C d5_15 (by decide) (by decide) ⟨by subst_vars; rfl, rfl⟩
theorem d6_0 : decode method_4_code 0 = .ok (.iload_n 0, 1) := by decide +kernel
theorem d6_1 : decode method_4_code 1 = .ok (.istore 4, 2) := by decide +kernel
theorem d6_3 : decode method_4_code 3 = .ok (.iload 4, 2) := by decide +kernel
theorem d6_5 : decode method_4_code 5 = .ok (.iload_n 1, 1) := by decide +kernel
theorem d6_6 : decode method_4_code 6 = .ok (.if_icmp .eq 9, 3) := by decide +kernel
theorem d6_9 : decode method_4_code 9 = .ok (.iload 4, 2) := by decide +kernel
theorem d6_11 : decode method_4_code 11 = .ok (.iload_n 2, 1) := by decide +kernel
theorem d6_12 : decode method_4_code 12 = .ok (.if_icmp .ne 11, 3) := by decide +kernel
theorem d6_15 : decode method_4_code 15 = .ok (.iload 4, 2) := by decide +kernel
theorem d6_17 : decode method_4_code 17 = .ok (.iconst 1, 1) := by decide +kernel
theorem d6_18 : decode method_4_code 18 = .ok (.iadd, 1) := by decide +kernel
theorem d6_19 : decode method_4_code 19 = .ok (.iload_n 3, 1) := by decide +kernel
theorem d6_20 : decode method_4_code 20 = .ok (.iand, 1) := by decide +kernel
theorem d6_21 : decode method_4_code 21 = .ok (.istore 4, 2) := by decide +kernel
theorem d6_23 : decode method_4_code 23 = .ok (.iload 4, 2) := by decide +kernel
theorem d6_25 : decode method_4_code 25 = .ok (.iload_n 1, 1) := by decide +kernel
theorem d6_26 : decode method_4_code 26 = .ok (.if_icmp .eq 9, 3) := by decide +kernel
theorem d6_29 : decode method_4_code 29 = .ok (.iload 4, 2) := by decide +kernel
theorem d6_31 : decode method_4_code 31 = .ok (.iload_n 2, 1) := by decide +kernel
theorem d6_32 : decode method_4_code 32 = .ok (.if_icmp .ne 11, 3) := by decide +kernel
theorem d6_35 : decode method_4_code 35 = .ok (.iload 4, 2) := by decide +kernel
theorem d6_37 : decode method_4_code 37 = .ok (.iconst 1, 1) := by decide +kernel
theorem d6_38 : decode method_4_code 38 = .ok (.iadd, 1) := by decide +kernel
theorem d6_39 : decode method_4_code 39 = .ok (.iload_n 3, 1) := by decide +kernel
theorem d6_40 : decode method_4_code 40 = .ok (.iand, 1) := by decide +kernel
theorem d6_41 : decode method_4_code 41 = .ok (.istore 4, 2) := by decide +kernel
theorem d6_43 : decode method_4_code 43 = .ok (.iload 4, 2) := by decide +kernel
theorem d6_45 : decode method_4_code 45 = .ok (.ireturn, 1) := by decide +kernel
theorem ef_6 (m : MethodId) (x0 : Int32) (x1 : Int32) (x2 : Int32) (x3 : Int32) : entryFrame m #[(.int x0), (.int x1), (.int x2), (.int x3)] 5 = mkF m 0 #[.val (.int x0), .val (.int x1), .val (.int x2), .val (.int x3), .unset] [] := by first | (simp [entryFrame, mkF, argsToLocals, Value.category, maxLocals]; done) | rfl
set_option maxRecDepth 65536 in
set_option maxHeartbeats 40000000 in
theorem m6 (l : Launch) (Z : State) (a0 : Array Value) (hw : ∀ d ∈ tables_1, d.before a0 Z = true) (p0 : Int32) (p1 : Int32) (p2 : Int32) (p3 : Int32) (h0 : Heap) (n0 : Nat)  :
    Met l Z (⟨"nearsign/NumberSlotsPlacedPinLaw", "firstFree", "(IIII)I"⟩ : MethodName) method_4_code 5 (some (.int)) ({ frames := 0, cells := 0, slots := 0, locals := 0 } : Room) #[(.int p0), (.int p1), (.int p2), (.int p3)] h0 n0 (qI fun r h => r = ffI p0 p1 p2 p3 ∧ h0 = h) := by
  refine met (plainFor_of_name pn_nearsign_NumberSlotsPlacedPinLaw) #[.val (.int p0), .val (.int p1), .val (.int p2), .val (.int p3), .unset] (fun m => ef_6 m p0 p1 p2 p3) ?_
  intro p e s m below meth c C
  refine g_iloadN C d6_0 1 rfl rfl ?_
  refine g_istore C d6_1 3 rfl (fun z' => #[.val (.int p0), .val (.int p1), .val (.int p2), .val (.int p3), .val (.int z')]) (fun _ => rfl) (fun v1 ev1 => ?_)
  obtain rfl := ev1.symm
  have J23 : ∀ x : Int32, x = ff1 p0 p1 p2 p3 → Go p l e ({ frames := 0, cells := 0, slots := 0, locals := 0 } : Room) s m #[(.int p0), (.int p1), (.int p2), (.int p3)] below meth c n0 (qI fun r h => r = ffI p0 p1 p2 p3 ∧ h0 = h) h0 0 0 23 #[.val (.int p0), .val (.int p1), .val (.int p2), .val (.int p3), .val (.int x)] [] := by
    intro x hx
    refine g_iload C d6_23 25 rfl rfl ?_
    refine g_iloadN C d6_25 26 rfl rfl ?_
    refine g_if_icmpeq C d6_26 35 (by decide) 29 rfl (fun k26 => ?_) (fun k26 => ?_)
    · refine g_iload C d6_35 37 rfl rfl ?_
      refine g_iconst C d6_37 38 rfl (1 : Int32) (by decide) ?_
      refine g_iadd C d6_38 39 rfl ?_
      refine g_iloadN C d6_39 40 rfl rfl ?_
      refine g_iand C d6_40 41 rfl ?_
      refine g_istore C d6_41 43 rfl (fun z' => #[.val (.int p0), .val (.int p1), .val (.int p2), .val (.int p3), .val (.int z')]) (fun _ => rfl) (fun v41 ev41 => ?_)
      refine g_iload C d6_43 45 rfl rfl ?_
      refine r_int C d6_45 (by decide) (by decide) ⟨by rw [ev41, ffI, ← hx, ff1, if_pos k26], rfl⟩
    · refine g_iload C d6_29 31 rfl rfl ?_
      refine g_iloadN C d6_31 32 rfl rfl ?_
      refine g_if_icmpne C d6_32 43 (by decide) 35 rfl (fun k32 => ?_) (fun k32 => ?_)
      · refine g_iload C d6_43 45 rfl rfl ?_
        refine r_int C d6_45 (by decide) (by decide) ⟨by rw [ffI, ← hx, ff1, if_neg k26, if_neg k32], rfl⟩
      · refine g_iload C d6_35 37 rfl rfl ?_
        refine g_iconst C d6_37 38 rfl (1 : Int32) (by decide) ?_
        refine g_iadd C d6_38 39 rfl ?_
        refine g_iloadN C d6_39 40 rfl rfl ?_
        refine g_iand C d6_40 41 rfl ?_
        refine g_istore C d6_41 43 rfl (fun z' => #[.val (.int p0), .val (.int p1), .val (.int p2), .val (.int p3), .val (.int z')]) (fun _ => rfl) (fun v41 ev41 => ?_)
        refine g_iload C d6_43 45 rfl rfl ?_
        refine r_int C d6_45 (by decide) (by decide) ⟨by rw [ev41, ffI, ← hx, ff1, if_neg k26, if_pos k32], rfl⟩
  refine g_iload C d6_3 5 rfl rfl ?_
  refine g_iloadN C d6_5 6 rfl rfl ?_
  refine g_if_icmpeq C d6_6 15 (by decide) 9 rfl (fun k6 => ?_) (fun k6 => ?_)
  · refine g_iload C d6_15 17 rfl rfl ?_
    refine g_iconst C d6_17 18 rfl (1 : Int32) (by decide) ?_
    refine g_iadd C d6_18 19 rfl ?_
    refine g_iloadN C d6_19 20 rfl rfl ?_
    refine g_iand C d6_20 21 rfl ?_
    refine g_istore C d6_21 23 rfl (fun z' => #[.val (.int p0), .val (.int p1), .val (.int p2), .val (.int p3), .val (.int z')]) (fun _ => rfl) (fun v21 ev21 => ?_)
    exact J23 v21 (by rw [ev21, ff1, if_pos k6])
  · refine g_iload C d6_9 11 rfl rfl ?_
    refine g_iloadN C d6_11 12 rfl rfl ?_
    refine g_if_icmpne C d6_12 23 (by decide) 15 rfl (fun k12 => ?_) (fun k12 => ?_)
    · exact J23 p0 (by rw [ff1, if_neg k6, if_neg k12])
    · refine g_iload C d6_15 17 rfl rfl ?_
      refine g_iconst C d6_17 18 rfl (1 : Int32) (by decide) ?_
      refine g_iadd C d6_18 19 rfl ?_
      refine g_iloadN C d6_19 20 rfl rfl ?_
      refine g_iand C d6_20 21 rfl ?_
      refine g_istore C d6_21 23 rfl (fun z' => #[.val (.int p0), .val (.int p1), .val (.int p2), .val (.int p3), .val (.int z')]) (fun _ => rfl) (fun v21 ev21 => ?_)
      exact J23 v21 (by rw [ev21, ff1, if_neg k6, if_pos k12])
theorem d3_0 : decode method_6_code 0 = .ok (.iload_n 2, 1) := by decide +kernel
theorem d3_1 : decode method_6_code 1 = .ok (.iload_n 3, 1) := by decide +kernel
theorem d3_2 : decode method_6_code 2 = .ok (.if_icmp .ge 12, 3) := by decide +kernel
theorem d3_5 : decode method_6_code 5 = .ok (.aload_n 0, 1) := by decide +kernel
theorem d3_6 : decode method_6_code 6 = .ok (.iload_n 2, 1) := by decide +kernel
theorem d3_7 : decode method_6_code 7 = .ok (.iaload, 1) := by decide +kernel
theorem d3_8 : decode method_6_code 8 = .ok (.aload_n 1, 1) := by decide +kernel
theorem d3_9 : decode method_6_code 9 = .ok (.iload_n 2, 1) := by decide +kernel
theorem d3_10 : decode method_6_code 10 = .ok (.iaload, 1) := by decide +kernel
theorem d3_11 : decode method_6_code 11 = .ok (.if_icmp .ne 7, 3) := by decide +kernel
theorem d3_14 : decode method_6_code 14 = .ok (.iconst 1, 1) := by decide +kernel
theorem d3_15 : decode method_6_code 15 = .ok (.goto 4, 3) := by decide +kernel
theorem d3_18 : decode method_6_code 18 = .ok (.iconst 0, 1) := by decide +kernel
theorem d3_19 : decode method_6_code 19 = .ok (.ireturn, 1) := by decide +kernel
theorem ef_3 (m : MethodId) (x0 : Addr) (x1 : Addr) (x2 : Int32) (x3 : Int32) : entryFrame m #[(.ref x0), (.ref x1), (.int x2), (.int x3)] 4 = mkF m 0 #[.val (.ref x0), .val (.ref x1), .val (.int x2), .val (.int x3)] [] := by first | (simp [entryFrame, mkF, argsToLocals, Value.category, maxLocals]; done) | rfl
set_option maxRecDepth 65536 in
set_option maxHeartbeats 40000000 in
theorem m3 (l : Launch) (Z : State) (a0 : Array Value) (hw : ∀ d ∈ tables_1, d.before a0 Z = true) (a : Addr) (b : Addr) (p2 : Int32) (p3 : Int32) (h0 : Heap) (n0 : Nat) (N : Nat) (f : Nat → Int32) (i : Nat) (A1 : Ary Z h0 a .int N (fun j => .int (f j))) (A2 : Ary Z h0 b .int 8 (fun j => .int (f j))) (x2 : Ix p2 i) (x3 : Ix p3 N) (h8 : N ≤ 8) :
    Met l Z (⟨"nearsign/NumberSlotsPlacedPinLaw", "ok", "([I[III)Z"⟩ : MethodName) method_6_code 4 (some (.boolean)) ({ frames := 0, cells := 0, slots := 0, locals := 0 } : Room) #[(.ref a), (.ref b), (.int p2), (.int p3)] h0 n0 (qI fun r h => r = 1 ∧ h0 = h) := by
  refine met (plainFor_of_name pn_nearsign_NumberSlotsPlacedPinLaw) #[.val (.ref a), .val (.ref b), .val (.int p2), .val (.int p3)] (fun m => ef_3 m a b p2 p3) ?_
  intro p e s m below meth c C
  refine g_iloadN C d3_0 1 rfl rfl ?_
  refine g_iloadN C d3_1 2 rfl rfl ?_
  refine g_if_icmpge C d3_2 14 (by decide) 5 rfl (fun k2 => ?_) (fun k2 => ?_)
  · refine g_iconst C d3_14 15 rfl (1 : Int32) (by decide) ?_
    refine g_goto C d3_15 19 (by decide) ?_
    refine r_nar C (by simp) d3_19 (by decide) (by decide) ⟨rfl, rfl⟩
  · have hi : i < N := (x2.lt x3).mp k2
    refine g_aloadN C d3_5 6 rfl rfl rfl ?_
    refine g_iloadN C d3_6 7 rfl rfl ?_
    refine g_iaload C A1 i x2 hi (.int (f i)) rfl d3_7 8 rfl ?_
    refine g_aloadN C d3_8 9 rfl rfl rfl ?_
    refine g_iloadN C d3_9 10 rfl rfl ?_
    refine g_iaload C A2 i x2 (by omega) (.int (f i)) rfl d3_10 11 rfl ?_
    refine g_if_icmpne C d3_11 18 (by decide) 14 rfl (fun k11 => ?_) (fun k11 => ?_)
    · exact absurd rfl k11
    · refine g_iconst C d3_14 15 rfl (1 : Int32) (by decide) ?_
      refine g_goto C d3_15 19 (by decide) ?_
      refine r_nar C (by simp) d3_19 (by decide) (by decide) ⟨rfl, rfl⟩
theorem d2_0 : decode prog_120_method_4_code 0 = .ok (.iconst 1, 1) := by decide +kernel
theorem d2_1 : decode prog_120_method_4_code 1 = .ok (.iload_n 0, 1) := by decide +kernel
theorem d2_2 : decode prog_120_method_4_code 2 = .ok (.ishl, 1) := by decide +kernel
theorem d2_3 : decode prog_120_method_4_code 3 = .ok (.newarray .int, 2) := by decide +kernel
theorem d2_5 : decode prog_120_method_4_code 5 = .ok (.astore_n 3, 1) := by decide +kernel
theorem d2_6 : decode prog_120_method_4_code 6 = .ok (.aload_n 3, 1) := by decide +kernel
theorem d2_7 : decode prog_120_method_4_code 7 = .ok (.arraylength, 1) := by decide +kernel
theorem d2_8 : decode prog_120_method_4_code 8 = .ok (.iconst 1, 1) := by decide +kernel
theorem d2_9 : decode prog_120_method_4_code 9 = .ok (.isub, 1) := by decide +kernel
theorem d2_10 : decode prog_120_method_4_code 10 = .ok (.istore 4, 2) := by decide +kernel
theorem d2_12 : decode prog_120_method_4_code 12 = .ok (.iconst 0, 1) := by decide +kernel
theorem d2_13 : decode prog_120_method_4_code 13 = .ok (.istore 5, 2) := by decide +kernel
theorem d2_15 : decode prog_120_method_4_code 15 = .ok (.iload 5, 2) := by decide +kernel
theorem d2_17 : decode prog_120_method_4_code 17 = .ok (.iload_n 2, 1) := by decide +kernel
theorem d2_18 : decode prog_120_method_4_code 18 = .ok (.if_icmp .ge 59, 3) := by decide +kernel
theorem d2_21 : decode prog_120_method_4_code 21 = .ok (.aload_n 1, 1) := by decide +kernel
theorem d2_22 : decode prog_120_method_4_code 22 = .ok (.iload 5, 2) := by decide +kernel
theorem d2_24 : decode prog_120_method_4_code 24 = .ok (.laload, 1) := by decide +kernel
theorem d2_25 : decode prog_120_method_4_code 25 = .ok (.bipush 64, 2) := by decide +kernel
theorem d2_27 : decode prog_120_method_4_code 27 = .ok (.iload_n 0, 1) := by decide +kernel
theorem d2_28 : decode prog_120_method_4_code 28 = .ok (.isub, 1) := by decide +kernel
theorem d2_29 : decode prog_120_method_4_code 29 = .ok (.lushr, 1) := by decide +kernel
theorem d2_30 : decode prog_120_method_4_code 30 = .ok (.l2i, 1) := by decide +kernel
theorem d2_31 : decode prog_120_method_4_code 31 = .ok (.istore 6, 2) := by decide +kernel
theorem d2_33 : decode prog_120_method_4_code 33 = .ok (.aload_n 3, 1) := by decide +kernel
theorem d2_34 : decode prog_120_method_4_code 34 = .ok (.iload 6, 2) := by decide +kernel
theorem d2_36 : decode prog_120_method_4_code 36 = .ok (.iaload, 1) := by decide +kernel
theorem d2_37 : decode prog_120_method_4_code 37 = .ok (.ifCond .eq 15, 3) := by decide +kernel
theorem d2_40 : decode prog_120_method_4_code 40 = .ok (.iload 6, 2) := by decide +kernel
theorem d2_42 : decode prog_120_method_4_code 42 = .ok (.iconst 1, 1) := by decide +kernel
theorem d2_43 : decode prog_120_method_4_code 43 = .ok (.iadd, 1) := by decide +kernel
theorem d2_44 : decode prog_120_method_4_code 44 = .ok (.iload 4, 2) := by decide +kernel
theorem d2_46 : decode prog_120_method_4_code 46 = .ok (.iand, 1) := by decide +kernel
theorem d2_47 : decode prog_120_method_4_code 47 = .ok (.istore 6, 2) := by decide +kernel
theorem d2_49 : decode prog_120_method_4_code 49 = .ok (.goto (-16), 3) := by decide +kernel
theorem d2_52 : decode prog_120_method_4_code 52 = .ok (.aload_n 3, 1) := by decide +kernel
theorem d2_53 : decode prog_120_method_4_code 53 = .ok (.iload 6, 2) := by decide +kernel
theorem d2_55 : decode prog_120_method_4_code 55 = .ok (.aload_n 1, 1) := by decide +kernel
theorem d2_56 : decode prog_120_method_4_code 56 = .ok (.iload 5, 2) := by decide +kernel
theorem d2_58 : decode prog_120_method_4_code 58 = .ok (.laload, 1) := by decide +kernel
theorem d2_59 : decode prog_120_method_4_code 59 = .ok (.l2i, 1) := by decide +kernel
theorem d2_60 : decode prog_120_method_4_code 60 = .ok (.iload 4, 2) := by decide +kernel
theorem d2_62 : decode prog_120_method_4_code 62 = .ok (.iconst (-1), 1) := by decide +kernel
theorem d2_63 : decode prog_120_method_4_code 63 = .ok (.ixor, 1) := by decide +kernel
theorem d2_64 : decode prog_120_method_4_code 64 = .ok (.iand, 1) := by decide +kernel
theorem d2_65 : decode prog_120_method_4_code 65 = .ok (.iload 5, 2) := by decide +kernel
theorem d2_67 : decode prog_120_method_4_code 67 = .ok (.iconst 1, 1) := by decide +kernel
theorem d2_68 : decode prog_120_method_4_code 68 = .ok (.iadd, 1) := by decide +kernel
theorem d2_69 : decode prog_120_method_4_code 69 = .ok (.ior, 1) := by decide +kernel
theorem d2_70 : decode prog_120_method_4_code 70 = .ok (.iastore, 1) := by decide +kernel
theorem d2_71 : decode prog_120_method_4_code 71 = .ok (.iinc 5 1, 3) := by decide +kernel
theorem d2_74 : decode prog_120_method_4_code 74 = .ok (.goto (-59), 3) := by decide +kernel
theorem d2_77 : decode prog_120_method_4_code 77 = .ok (.aload_n 3, 1) := by decide +kernel
theorem d2_78 : decode prog_120_method_4_code 78 = .ok (.areturn, 1) := by decide +kernel
theorem pn_nearsign_NumberSlots : plainName "nearsign/NumberSlots" = true := by first | (simp [plainName, overriddenIn]; done) | decide +kernel
theorem ef_2 (m : MethodId) (x0 : Int32) (x1 : Addr) (x2 : Int32) : entryFrame m #[(.int x0), (.ref x1), (.int x2)] 7 = mkF m 0 #[.val (.int x0), .val (.ref x1), .val (.int x2), .unset, .unset, .unset, .unset] [] := by first | (simp [entryFrame, mkF, argsToLocals, Value.category, maxLocals]; done) | rfl
set_option maxRecDepth 65536 in
set_option maxHeartbeats 40000000 in
theorem m2 (l : Launch) (Z : State) (a0 : Array Value) (hw : ∀ d ∈ tables_1, d.before a0 Z = true) (p0 : Int32) (b : Addr) (p2 : Int32) (h0 : Heap) (n0 : Nat) (N cnt : Nat) (mk : Int32) (H : Nat → Int64) (hb : HB p0 N mk) (Z0 : n0 ≤ h0.size) (B : Ary Z h0 b .long 3 (fun j => .long (H j))) (x2 : Ix p2 cnt) (c3 : cnt ≤ 3) (cN : cnt ≤ N - 1) :
    Met l Z (⟨"nearsign/NumberSlots", "placed", "(I[JI)[I"⟩ : MethodName) prog_120_method_4_code 7 (some (.array .int)) ({ frames := 0, cells := 1, slots := 8, locals := 0 } : Room) #[(.int p0), (.ref b), (.int p2)] h0 n0 (qA fun r h => Ary Z h r .int N (fun j => .int (PK N mk H cnt j)) ∧ Keep h0 h []) := by
  refine met (plainFor_of_name pn_nearsign_NumberSlots) #[.val (.int p0), .val (.ref b), .val (.int p2), .unset, .unset, .unset, .unset] (fun m => ef_2 m p0 b p2) ?_
  intro p e s m below meth c C
  refine g_iconst C d2_0 1 rfl (1 : Int32) (by decide) ?_
  refine g_iloadN C d2_1 2 rfl rfl ?_
  refine g_ishl C d2_2 3 rfl ?_
  refine g_newarray C (hw _ (List.mem_of_getElem? (i := 6) rfl)) N 8 hb.len hb.le8.1 (by decide) d2_3 5 rfl 1 8 rfl rfl (by decide) (by decide) (fun h3 a3 ga3 E3 A3 => ?_)
  have n3 : n0 ≤ a3 := by rw [ga3]; exact Z0
  have K3 : Keep h0 h3 [] := (Keep.refl _ _).ext E3
  have B3 := B.ext E3
  have nb : b ≠ a3 := by rw [ga3]; exact Nat.ne_of_lt B.lt
  have hN0 : 0 < N := hb.le8.2
  refine g_astoreN C d2_5 6 rfl #[.val (.int p0), .val (.ref b), .val (.int p2), .val (.ref a3), .unset, .unset, .unset] rfl rfl ?_
  refine g_aloadN C d2_6 7 rfl rfl rfl ?_
  refine g_arraylength C A3 ((1 : Int32) <<< (p0 &&& 31)) hb.len d2_7 8 rfl ?_
  refine g_iconst C d2_8 9 rfl (1 : Int32) (by decide) ?_
  refine g_isub C d2_9 10 rfl ?_
  refine g_istore C d2_10 12 rfl (fun z' => #[.val (.int p0), .val (.ref b), .val (.int p2), .val (.ref a3), .val (.int z'), .unset, .unset]) (fun _ => rfl) (fun v10 ev10 => ?_)
  obtain rfl : mk = v10 := by rw [ev10]; exact hb.mk'.symm
  refine g_iconst C d2_12 13 rfl (0 : Int32) (by decide) ?_
  refine g_istore C d2_13 15 rfl (fun z' => #[.val (.int p0), .val (.ref b), .val (.int p2), .val (.ref a3), .val (.int mk), .val (.int z'), .unset]) (fun _ => rfl) (fun v13 ev13 => ?_)
  obtain rfl := ev13.symm
  have loop : ∀ (d k : Nat) (k' : Int32) (h : Heap) (s6 : Slot) (o6 : OneS s6), Ix k' k → cnt - k = d → k ≤ cnt → Ary Z h a3 .int N (fun j => .int (PK N mk H k j)) → Ary Z h b .long 3 (fun j => .long (H j)) → Keep h0 h [] → Go p l e ({ frames := 0, cells := 1, slots := 8, locals := 0 } : Room) s m #[(.int p0), (.ref b), (.int p2)] below meth c n0 (qA fun r h => Ary Z h r .int N (fun j => .int (PK N mk H cnt j)) ∧ Keep h0 h []) h 1 8 15 #[.val (.int p0), .val (.ref b), .val (.int p2), .val (.ref a3), .val (.int mk), .val (.int k'), s6] [] := by
    intro d
    induction d using Nat.strongRecOn with
    | _ d ih =>
      intro k k' h s6 o6 xk hd hk A1 B1 K1
      refine g_iload C d2_15 17 rfl rfl ?_
      refine g_iloadN C d2_17 18 rfl rfl ?_
      refine g_if_icmpge C d2_18 77 (by decide) 21 rfl (fun k18 => ?_) (fun k18 => ?_)
      · have hkc : k = cnt := by
          have := mt (xk.lt x2).mpr k18; omega
        refine g_aloadN C d2_77 78 rfl rfl rfl ?_
        refine r_ref C rfl rfl d2_78 (by decide) (by decide) ⟨by rw [← hkc]; exact A1, K1⟩
      · have hlt : k < cnt := (xk.lt x2).mp k18
        refine g_aloadN C d2_21 22 rfl rfl rfl ?_
        refine g_iload C d2_22 24 rfl rfl ?_
        refine g_laload C B1 k xk (by omega) (.long (H k)) rfl d2_24 25 rfl ?_
        refine g_bipush C d2_25 27 rfl (64 : Int32) (by decide) ?_
        refine g_iloadN C d2_27 28 rfl rfl ?_
        refine g_isub C d2_28 29 rfl ?_
        refine g_lushr C d2_29 30 rfl ?_
        refine g_l2i C d2_30 31 rfl ?_
        refine g_istore C d2_31 33 rfl (fun z' => #[.val (.int p0), .val (.ref b), .val (.int p2), .val (.ref a3), .val (.int mk), .val (.int k'), .val (.int z')]) (fun _ => by rcases o6 with rfl | ⟨w', rfl⟩ <;> rfl) (fun v31 ev31 => ?_)
        obtain ⟨s0, hs0⟩ : ∃ z, z = hmN (H k) N := ⟨_, rfl⟩
        have xs : Ix v31 s0 := by rw [ev31, hs0]; exact own_hmA hb
        have ls : s0 < N := by rw [hs0]; exact hm_lt hb
        have hfree := own_free (H := H) hb hlt c3 cN
        rw [← hs0] at hfree
        refine g_aloadN C d2_33 34 rfl rfl rfl ?_
        refine g_iload C d2_34 36 rfl rfl ?_
        refine g_iaload C A1 s0 xs ls (.int (PK N mk H k s0)) rfl d2_36 37 rfl ?_
        refine g_ifeq C d2_37 52 (by decide) 40 rfl (fun z0 => ?_) (fun z0 => ?_)
        · refine g_aloadN C d2_52 53 rfl rfl rfl ?_
          refine g_iload C d2_53 55 rfl rfl ?_
          refine g_aloadN C d2_55 56 rfl rfl rfl ?_
          refine g_iload C d2_56 58 rfl rfl ?_
          refine g_laload C B1 k xk (by omega) (.long (H k)) rfl d2_58 59 rfl ?_
          refine g_l2i C d2_59 60 rfl ?_
          refine g_iload C d2_60 62 rfl rfl ?_
          refine g_iconst C d2_62 63 rfl (-1 : Int32) (by decide) ?_
          refine g_ixor C d2_63 64 rfl ?_
          refine g_iand C d2_64 65 rfl ?_
          refine g_iload C d2_65 67 rfl rfl ?_
          refine g_iconst C d2_67 68 rfl (1 : Int32) (by decide) ?_
          refine g_iadd C d2_68 69 rfl ?_
          refine g_ior C d2_69 70 rfl ?_
          refine g_iastore C A1 s0 xs ls d2_70 71 rfl n3 (fun h70 W70 A70 => ?_)
          have hp : pr (PK N mk H k) N (hmN (H k) N) = s0 := by rw [← hs0, pr, if_pos z0]
          have hv : (((H k).toInt32 &&& (mk ^^^ (-1 : Int32))) ||| (k' + (1 : Int32))) = stI (H k) mk (k32 k) := by
            have hk' : k' = k32 k := (xk.eq (k32_ix (by omega))).mpr rfl
            rw [← hk', stI]; exact own_stored hb xk (by omega) (by omega)
          have A70' : Ary Z h70 a3 .int N (fun j => .int (PK N mk H (k + 1) j)) := A70.congr (fun j hj => by
            show _ = Value.int (upI (PK N mk H k) (pr (PK N mk H k) N (hmN (H k) N)) (stI (H k) mk (k32 k)) j)
            rw [hp, upI, updA, hv]
            by_cases q : j = s0
            · rw [if_pos q, if_pos q]
            · rw [if_neg q, if_neg q])
          have B70 := B1.other W70 nb
          have K70 := K1.wr W70 (Or.inr (Nat.le_of_eq ga3.symm))
          refine g_iinc C d2_71 74 rfl rfl (1 : Int32) (by decide) (fun z' => #[.val (.int p0), .val (.ref b), .val (.int p2), .val (.ref a3), .val (.int mk), .val (.int z'), .val (.int v31)]) (fun _ => rfl) (fun v71 ev71 => ?_)
          refine g_goto C d2_74 15 (by decide) ?_
          exact ih (cnt - (k + 1)) (by omega) (k + 1) _ h70 (.val (.int v31)) OneS.i (by rw [ev71]; exact xk.succ (by omega)) rfl (by omega) A70' B70 K70
        · refine g_iload C d2_40 42 rfl rfl ?_
          refine g_iconst C d2_42 43 rfl (1 : Int32) (by decide) ?_
          refine g_iadd C d2_43 44 rfl ?_
          refine g_iload C d2_44 46 rfl rfl ?_
          refine g_iand C d2_46 47 rfl ?_
          refine g_istore C d2_47 49 rfl (fun z' => #[.val (.int p0), .val (.ref b), .val (.int p2), .val (.ref a3), .val (.int mk), .val (.int k'), .val (.int z')]) (fun _ => rfl) (fun w1 ew1 => ?_)
          have xs1 : Ix w1 ((s0 + 1) % N) := by rw [ew1]; exact own_next hb xs ls
          refine g_goto C d2_49 33 (by decide) ?_
          refine g_aloadN C d2_33 34 rfl rfl rfl ?_
          refine g_iload C d2_34 36 rfl rfl ?_
          refine g_iaload C A1 ((s0 + 1) % N) xs1 (Nat.mod_lt _ hN0) (.int (PK N mk H k ((s0 + 1) % N))) rfl d2_36 37 rfl ?_
          refine g_ifeq C d2_37 52 (by decide) 40 rfl (fun z1 => ?_) (fun z1 => ?_)
          · refine g_aloadN C d2_52 53 rfl rfl rfl ?_
            refine g_iload C d2_53 55 rfl rfl ?_
            refine g_aloadN C d2_55 56 rfl rfl rfl ?_
            refine g_iload C d2_56 58 rfl rfl ?_
            refine g_laload C B1 k xk (by omega) (.long (H k)) rfl d2_58 59 rfl ?_
            refine g_l2i C d2_59 60 rfl ?_
            refine g_iload C d2_60 62 rfl rfl ?_
            refine g_iconst C d2_62 63 rfl (-1 : Int32) (by decide) ?_
            refine g_ixor C d2_63 64 rfl ?_
            refine g_iand C d2_64 65 rfl ?_
            refine g_iload C d2_65 67 rfl rfl ?_
            refine g_iconst C d2_67 68 rfl (1 : Int32) (by decide) ?_
            refine g_iadd C d2_68 69 rfl ?_
            refine g_ior C d2_69 70 rfl ?_
            refine g_iastore C A1 ((s0 + 1) % N) xs1 (Nat.mod_lt _ hN0) d2_70 71 rfl n3 (fun h70 W70 A70 => ?_)
            have hp : pr (PK N mk H k) N (hmN (H k) N) = ((s0 + 1) % N) := by rw [← hs0, pr, if_neg z0, if_pos z1]
            have hv : (((H k).toInt32 &&& (mk ^^^ (-1 : Int32))) ||| (k' + (1 : Int32))) = stI (H k) mk (k32 k) := by
              have hk' : k' = k32 k := (xk.eq (k32_ix (by omega))).mpr rfl
              rw [← hk', stI]; exact own_stored hb xk (by omega) (by omega)
            have A70' : Ary Z h70 a3 .int N (fun j => .int (PK N mk H (k + 1) j)) := A70.congr (fun j hj => by
              show _ = Value.int (upI (PK N mk H k) (pr (PK N mk H k) N (hmN (H k) N)) (stI (H k) mk (k32 k)) j)
              rw [hp, upI, updA, hv]
              by_cases q : j = ((s0 + 1) % N)
              · rw [if_pos q, if_pos q]
              · rw [if_neg q, if_neg q])
            have B70 := B1.other W70 nb
            have K70 := K1.wr W70 (Or.inr (Nat.le_of_eq ga3.symm))
            refine g_iinc C d2_71 74 rfl rfl (1 : Int32) (by decide) (fun z' => #[.val (.int p0), .val (.ref b), .val (.int p2), .val (.ref a3), .val (.int mk), .val (.int z'), .val (.int w1)]) (fun _ => rfl) (fun v71 ev71 => ?_)
            refine g_goto C d2_74 15 (by decide) ?_
            exact ih (cnt - (k + 1)) (by omega) (k + 1) _ h70 (.val (.int w1)) OneS.i (by rw [ev71]; exact xk.succ (by omega)) rfl (by omega) A70' B70 K70
          · refine g_iload C d2_40 42 rfl rfl ?_
            refine g_iconst C d2_42 43 rfl (1 : Int32) (by decide) ?_
            refine g_iadd C d2_43 44 rfl ?_
            refine g_iload C d2_44 46 rfl rfl ?_
            refine g_iand C d2_46 47 rfl ?_
            refine g_istore C d2_47 49 rfl (fun z' => #[.val (.int p0), .val (.ref b), .val (.int p2), .val (.ref a3), .val (.int mk), .val (.int k'), .val (.int z')]) (fun _ => rfl) (fun w2 ew2 => ?_)
            have xs2 : Ix w2 ((s0 + 2) % N) := by rw [ew2, ← own_next2 hN0]; exact own_next hb xs1 (Nat.mod_lt _ hN0)
            refine g_goto C d2_49 33 (by decide) ?_
            refine g_aloadN C d2_33 34 rfl rfl rfl ?_
            refine g_iload C d2_34 36 rfl rfl ?_
            refine g_iaload C A1 ((s0 + 2) % N) xs2 (Nat.mod_lt _ hN0) (.int (PK N mk H k ((s0 + 2) % N))) rfl d2_36 37 rfl ?_
            refine g_ifeq C d2_37 52 (by decide) 40 rfl (fun z2 => ?_) (fun z2 => ?_)
            · refine g_aloadN C d2_52 53 rfl rfl rfl ?_
              refine g_iload C d2_53 55 rfl rfl ?_
              refine g_aloadN C d2_55 56 rfl rfl rfl ?_
              refine g_iload C d2_56 58 rfl rfl ?_
              refine g_laload C B1 k xk (by omega) (.long (H k)) rfl d2_58 59 rfl ?_
              refine g_l2i C d2_59 60 rfl ?_
              refine g_iload C d2_60 62 rfl rfl ?_
              refine g_iconst C d2_62 63 rfl (-1 : Int32) (by decide) ?_
              refine g_ixor C d2_63 64 rfl ?_
              refine g_iand C d2_64 65 rfl ?_
              refine g_iload C d2_65 67 rfl rfl ?_
              refine g_iconst C d2_67 68 rfl (1 : Int32) (by decide) ?_
              refine g_iadd C d2_68 69 rfl ?_
              refine g_ior C d2_69 70 rfl ?_
              refine g_iastore C A1 ((s0 + 2) % N) xs2 (Nat.mod_lt _ hN0) d2_70 71 rfl n3 (fun h70 W70 A70 => ?_)
              have hp : pr (PK N mk H k) N (hmN (H k) N) = ((s0 + 2) % N) := by rw [← hs0, pr, if_neg z0, if_neg z1]
              have hv : (((H k).toInt32 &&& (mk ^^^ (-1 : Int32))) ||| (k' + (1 : Int32))) = stI (H k) mk (k32 k) := by
                have hk' : k' = k32 k := (xk.eq (k32_ix (by omega))).mpr rfl
                rw [← hk', stI]; exact own_stored hb xk (by omega) (by omega)
              have A70' : Ary Z h70 a3 .int N (fun j => .int (PK N mk H (k + 1) j)) := A70.congr (fun j hj => by
                show _ = Value.int (upI (PK N mk H k) (pr (PK N mk H k) N (hmN (H k) N)) (stI (H k) mk (k32 k)) j)
                rw [hp, upI, updA, hv]
                by_cases q : j = ((s0 + 2) % N)
                · rw [if_pos q, if_pos q]
                · rw [if_neg q, if_neg q])
              have B70 := B1.other W70 nb
              have K70 := K1.wr W70 (Or.inr (Nat.le_of_eq ga3.symm))
              refine g_iinc C d2_71 74 rfl rfl (1 : Int32) (by decide) (fun z' => #[.val (.int p0), .val (.ref b), .val (.int p2), .val (.ref a3), .val (.int mk), .val (.int z'), .val (.int w2)]) (fun _ => rfl) (fun v71 ev71 => ?_)
              refine g_goto C d2_74 15 (by decide) ?_
              exact ih (cnt - (k + 1)) (by omega) (k + 1) _ h70 (.val (.int w2)) OneS.i (by rw [ev71]; exact xk.succ (by omega)) rfl (by omega) A70' B70 K70
            · exact absurd ((hfree.resolve_left z0).resolve_left z1) z2
  exact loop cnt 0 _ h3 .unset OneS.u ⟨by decide, by decide⟩ rfl (by omega) (A3.congr (fun j hj => rfl)) B3 K3
theorem pd_0 : parseMethodDescriptor "(II)I" = some ⟨[.int, .int], some (.int)⟩ := by decide +kernel
theorem pd_1 : parseMethodDescriptor "(JI)I" = some ⟨[.long, .int], some (.int)⟩ := by decide +kernel
theorem pd_2 : parseMethodDescriptor "(IIII)I" = some ⟨[.int, .int, .int, .int], some (.int)⟩ := by decide +kernel
theorem pd_3 : parseMethodDescriptor "(JII)I" = some ⟨[.long, .int, .int], some (.int)⟩ := by decide +kernel
theorem pd_4 : parseMethodDescriptor "(I[JI)[I" = some ⟨[.int, .array .long, .int], some (.array .int)⟩ := by decide +kernel
theorem pd_5 : parseMethodDescriptor "([I[III)Z" = some ⟨[.array .int, .array .int, .int, .int], some (.boolean)⟩ := by decide +kernel
theorem ef_0 (m : MethodId) (x0 : Int32) (x1 : Int64) (x2 : Int64) (x3 : Int64) : entryFrame m #[(.int x0), (.long x1), (.long x2), (.long x3)] maxLocals = mkF m 0 #[.val (.int x0), .val (.long x1), .second, .val (.long x2), .second, .val (.long x3), .second, .unset, .unset, .unset, .unset, .unset, .unset, .unset, .unset, .unset, .unset] [] := by first | (simp [entryFrame, mkF, argsToLocals, Value.category, maxLocals]; done) | rfl
set_option maxRecDepth 65536 in
set_option maxHeartbeats 40000000 in
theorem m0 (l : Launch) (Z : State) (a0 : Array Value) (hw : ∀ d ∈ tables_1, d.before a0 Z = true) (p0 : Int32) (p1 : Int64) (p2 : Int64) (p3 : Int64) (h0 : Heap) (n0 : Nat) (Z0 : n0 ≤ h0.size) :
    Met l Z x code maxLocals ret room_1 #[(.int p0), (.long p1), (.long p2), (.long p3)] h0 n0 (qI fun r h => r = 1) := by
  refine met (plainFor_of_name pn_nearsign_NumberSlotsPlacedPinLaw) #[.val (.int p0), .val (.long p1), .second, .val (.long p2), .second, .val (.long p3), .second, .unset, .unset, .unset, .unset, .unset, .unset, .unset, .unset, .unset, .unset] (fun m => ef_0 m p0 p1 p2 p3) ?_
  intro p e s m below meth c C
  have C : Ctx p l e room_1 s m #[(.int p0), (.long p1), (.long p2), (.long p3)] below meth c Z "nearsign/NumberSlotsPlacedPinLaw" "law" code 17 (some (.boolean)) := C
  refine g_iconst C at_0 1 rfl (1 : Int32) (by decide) ?_
  refine g_iloadN C at_1 2 rfl rfl ?_
  refine g_ldc C (hw _ (List.mem_of_getElem? (i := 0) rfl)) at_2 4 rfl ?_
  refine g_iand C at_4 5 rfl ?_
  refine g_iconst C at_5 6 rfl (3 : Int32) (by decide) ?_
  refine g_irem C at_6 7 rfl (by decide) ?_
  refine g_iadd C at_7 8 rfl ?_
  refine g_istore C at_8 10 rfl (fun z' => #[.val (.int p0), .val (.long p1), .second, .val (.long p2), .second, .val (.long p3), .second, .val (.int z'), .unset, .unset, .unset, .unset, .unset, .unset, .unset, .unset, .unset]) (fun _ => rfl) (fun v8 ev8 => ?_)
  obtain ⟨N, mk, hb⟩ := own_bits ev8
  refine g_iconst C at_10 11 rfl (1 : Int32) (by decide) ?_
  refine g_iload C at_11 13 rfl rfl ?_
  refine g_ishl C at_13 14 rfl ?_
  refine g_istore C at_14 16 rfl (fun z' => #[.val (.int p0), .val (.long p1), .second, .val (.long p2), .second, .val (.long p3), .second, .val (.int v8), .val (.int z'), .unset, .unset, .unset, .unset, .unset, .unset, .unset, .unset]) (fun _ => rfl) (fun v14 ev14 => ?_)
  have xn : Ix v14 N := by rw [ev14]; exact hb.len
  refine g_iload C at_16 18 rfl rfl ?_
  refine g_iconst C at_18 19 rfl (1 : Int32) (by decide) ?_
  refine g_isub C at_19 20 rfl ?_
  refine g_istore C at_20 22 rfl (fun z' => #[.val (.int p0), .val (.long p1), .second, .val (.long p2), .second, .val (.long p3), .second, .val (.int v8), .val (.int v14), .val (.int z'), .unset, .unset, .unset, .unset, .unset, .unset, .unset]) (fun _ => rfl) (fun v20 ev20 => ?_)
  obtain rfl : mk = v20 := by rw [ev20, ev14]; exact hb.mk'.symm
  refine g_iloadN C at_22 23 rfl rfl ?_
  refine g_bipush C at_23 25 rfl (8 : Int32) (by decide) ?_
  refine g_iushr C at_25 26 rfl ?_
  refine g_iconst C at_26 27 rfl (3 : Int32) (by decide) ?_
  refine g_iand C at_27 28 rfl ?_
  refine g_iload C at_28 30 rfl rfl ?_
  refine c_staticI C [(.int ((ush p0 (8 : Int32)) &&& (3 : Int32))), (.int mk)] [] (hw _ (List.mem_of_getElem? (i := 1) rfl)) (hw _ (List.mem_of_getElem? (i := 2) rfl)) (hw _ (List.mem_of_getElem? (i := 3) rfl)) (hw _ (List.mem_of_getElem? (i := 4) rfl)) (by decide) (m1 l Z a0 hw ((ush p0 (8 : Int32)) &&& (3 : Int32)) mk h0 n0) at_30 33 rfl (lenOf pd_0 rfl) rfl 0 (Nat.le_of_eq rfl) (by decide) (by decide) 0 0 rfl rfl (by decide) (by decide) rfl (fun r30 h30 q30 => ?_)
  obtain ⟨hr30, rfl⟩ := q30
  refine g_istore C at_33 35 rfl (fun z' => #[.val (.int p0), .val (.long p1), .second, .val (.long p2), .second, .val (.long p3), .second, .val (.int v8), .val (.int v14), .val (.int mk), .val (.int z'), .unset, .unset, .unset, .unset, .unset, .unset]) (fun _ => rfl) (fun v33 ev33 => ?_)
  obtain ⟨cnt, c3, cN, xc⟩ := own_min (x := ush p0 8) hb
  rw [← hr30, ← ev33] at xc
  refine g_iconst C at_35 36 rfl (3 : Int32) (by decide) ?_
  refine g_newarray C (hw _ (List.mem_of_getElem? (i := 5) rfl)) 3 3 ⟨by decide, by decide⟩ (by decide) (by decide) at_36 38 rfl 1 3 rfl rfl (by decide) (by decide) (fun h36 a36 ga36 E36 A36 => ?_)
  have n36 : n0 ≤ a36 := by rw [ga36]; exact Z0
  have Z36 : n0 ≤ h36.size := Nat.le_trans Z0 E36.1
  refine g_dup C at_38 39 rfl rfl ?_
  refine g_iconst C at_39 40 rfl (0 : Int32) (by decide) ?_
  refine g_lloadN C at_40 41 rfl rfl ?_
  refine g_lastore C A36 0 ⟨by decide, by decide⟩ (by decide) at_41 42 rfl n36 (fun h41 W41 A41 => ?_)
  refine g_dup C at_42 43 rfl rfl ?_
  refine g_iconst C at_43 44 rfl (1 : Int32) (by decide) ?_
  refine g_lloadN C at_44 45 rfl rfl ?_
  refine g_lastore C A41 1 ⟨by decide, by decide⟩ (by decide) at_45 46 rfl n36 (fun h45 W45 A45 => ?_)
  refine g_dup C at_46 47 rfl rfl ?_
  refine g_iconst C at_47 48 rfl (2 : Int32) (by decide) ?_
  refine g_lload C at_48 50 rfl rfl ?_
  refine g_lastore C A45 2 ⟨by decide, by decide⟩ (by decide) at_50 51 rfl n36 (fun h50 W50 A50 => ?_)
  have Z50 : n0 ≤ h50.size := by rw [W50.size, W45.size, W41.size]; exact Z36
  have AHs : Ary Z h50 a36 .long 3 (fun j => .long (g3 p1 p2 p3 j)) := A50.congr (fun j hj => by
    have : j = 0 ∨ j = 1 ∨ j = 2 := by omega
    rcases this with rfl | rfl | rfl <;> rfl)
  rcases own_c4 c3 xc with ⟨rfl, rfl⟩ | ⟨rfl, rfl⟩ | ⟨rfl, rfl⟩ | ⟨rfl, rfl⟩
  · refine g_astore C at_51 53 rfl #[.val (.int p0), .val (.long p1), .second, .val (.long p2), .second, .val (.long p3), .second, .val (.int v8), .val (.int v14), .val (.int mk), .val (.int (0 : Int32)), .val (.ref a36), .unset, .unset, .unset, .unset, .unset] rfl rfl ?_
    refine g_iload C at_53 55 rfl rfl ?_
    refine g_ifle C at_55 67 (by decide) 58 rfl (fun k55 => ?_) (fun k55 => ?_)
    · refine g_iconst C at_67 68 rfl (-1 : Int32) (by decide) ?_
      refine g_istore C at_68 70 rfl (fun z' => #[.val (.int p0), .val (.long p1), .second, .val (.long p2), .second, .val (.long p3), .second, .val (.int v8), .val (.int v14), .val (.int mk), .val (.int (0 : Int32)), .val (.ref a36), .val (.int z'), .unset, .unset, .unset, .unset]) (fun _ => rfl) (fun v68 ev68 => ?_)
      obtain rfl := ev68.symm
      refine g_iload C at_70 72 rfl rfl ?_
      refine g_iconst C at_72 73 rfl (1 : Int32) (by decide) ?_
      refine g_if_icmple C at_73 93 (by decide) 76 rfl (fun k73 => ?_) (fun k73 => ?_)
      · refine g_iconst C at_93 94 rfl (-1 : Int32) (by decide) ?_
        refine g_istore C at_94 96 rfl (fun z' => #[.val (.int p0), .val (.long p1), .second, .val (.long p2), .second, .val (.long p3), .second, .val (.int v8), .val (.int v14), .val (.int mk), .val (.int (0 : Int32)), .val (.ref a36), .val (.int (-1 : Int32)), .val (.int z'), .unset, .unset, .unset]) (fun _ => rfl) (fun v94 ev94 => ?_)
        obtain rfl := ev94.symm
        refine g_iload C at_96 98 rfl rfl ?_
        refine g_iconst C at_98 99 rfl (2 : Int32) (by decide) ?_
        refine g_if_icmple C at_99 121 (by decide) 102 rfl (fun k99 => ?_) (fun k99 => ?_)
        · refine g_iconst C at_121 122 rfl (-1 : Int32) (by decide) ?_
          refine g_istore C at_122 124 rfl (fun z' => #[.val (.int p0), .val (.long p1), .second, .val (.long p2), .second, .val (.long p3), .second, .val (.int v8), .val (.int v14), .val (.int mk), .val (.int (0 : Int32)), .val (.ref a36), .val (.int (-1 : Int32)), .val (.int (-1 : Int32)), .val (.int z'), .unset, .unset]) (fun _ => rfl) (fun v122 ev122 => ?_)
          obtain rfl := ev122.symm
          refine g_bipush C at_124 126 rfl (8 : Int32) (by decide) ?_
          refine g_newarray C (hw _ (List.mem_of_getElem? (i := 6) rfl)) 8 8 ⟨by decide, by decide⟩ (by decide) (by decide) at_126 128 rfl 2 11 rfl rfl (by decide) (by decide) (fun h126 a126 ga126 E126 A126 => ?_)
          have n126 : n0 ≤ a126 := by rw [ga126]; exact Z50
          have Z126 : n0 ≤ h126.size := Nat.le_trans Z50 E126.1
          have AH126 := AHs.ext E126
          have nh : a36 ≠ a126 := by rw [ga126]; exact Nat.ne_of_lt AHs.lt
          refine g_astore C at_128 130 rfl #[.val (.int p0), .val (.long p1), .second, .val (.long p2), .second, .val (.long p3), .second, .val (.int v8), .val (.int v14), .val (.int mk), .val (.int (0 : Int32)), .val (.ref a36), .val (.int (-1 : Int32)), .val (.int (-1 : Int32)), .val (.int (-1 : Int32)), .val (.ref a126), .unset] rfl rfl ?_
          refine g_iload C at_130 132 rfl rfl ?_
          refine g_iflt C at_132 147 (by decide) 135 rfl (fun k132 => ?_) (fun k132 => ?_)
          · refine g_iload C at_147 149 rfl rfl ?_
            refine g_iflt C at_149 164 (by decide) 152 rfl (fun k149 => ?_) (fun k149 => ?_)
            · refine g_iload C at_164 166 rfl rfl ?_
              refine g_iflt C at_166 182 (by decide) 169 rfl (fun k166 => ?_) (fun k166 => ?_)
              · refine g_iload C at_182 184 rfl rfl ?_
                refine g_aload C at_184 186 rfl rfl rfl ?_
                refine g_iload C at_186 188 rfl rfl ?_
                have AE0 : Ary Z h126 a126 .int 8 (fun j => .int ((PK N mk (g3 p1 p2 p3) 0) j)) := A126.congr (fun j hj => rfl)
                have Z9 : n0 ≤ h126.size := Z126
                refine c_staticA C [(.int v8), (.ref a36), (.int (0 : Int32))] [] (hw _ (List.mem_of_getElem? (i := 7) rfl)) (hw _ (List.mem_of_getElem? (i := 8) rfl)) (hw _ (List.mem_of_getElem? (i := 9) rfl)) (hw _ (List.mem_of_getElem? (i := 10) rfl)) (by decide) (m2 l Z a0 hw v8 a36 (0 : Int32) h126 n0 N 0 mk (g3 p1 p2 p3) hb Z9 AH126 xc c3 cN) at_188 191 rfl (lenOf pd_4 rfl) rfl 0 (Nat.le_of_eq rfl) (by decide) (by decide) 3 19 rfl rfl (by decide) (by decide) rfl (fun r188 h188 q188 => ?_)
                have AX := AE0.keep q188.2 (by simp)
                refine g_astore C at_191 193 rfl #[.val (.int p0), .val (.long p1), .second, .val (.long p2), .second, .val (.long p3), .second, .val (.int v8), .val (.int v14), .val (.int mk), .val (.int (0 : Int32)), .val (.ref a36), .val (.int (-1 : Int32)), .val (.int (-1 : Int32)), .val (.int (-1 : Int32)), .val (.ref a126), .val (.ref r188)] rfl rfl ?_
                refine g_aload C at_193 195 rfl rfl rfl ?_
                refine g_arraylength C q188.1 v14 xn at_195 196 rfl ?_
                refine g_iload C at_196 198 rfl rfl ?_
                refine g_if_icmpeq C at_198 203 (by decide) 201 rfl (fun k198 => ?_) (fun k198 => ?_)
                · refine g_aload C at_203 205 rfl rfl rfl ?_
                  refine g_aload C at_205 207 rfl rfl rfl ?_
                  refine g_iconst C at_207 208 rfl (0 : Int32) (by decide) ?_
                  refine g_iload C at_208 210 rfl rfl ?_
                  refine c_staticI C [(.ref r188), (.ref a126), (.int (0 : Int32)), (.int v14)] [] (hw _ (List.mem_of_getElem? (i := 11) rfl)) (hw _ (List.mem_of_getElem? (i := 12) rfl)) (hw _ (List.mem_of_getElem? (i := 13) rfl)) (hw _ (List.mem_of_getElem? (i := 14) rfl)) (by decide) (m3 l Z a0 hw r188 a126 (0 : Int32) v14 h188 n0 N (PK N mk (g3 p1 p2 p3) 0) 0 q188.1 AX ⟨by decide, by decide⟩ xn hb.le8.1) at_210 213 rfl (lenOf pd_5 rfl) rfl 0 (Nat.le_of_eq rfl) (by decide) (by decide) 3 19 rfl rfl (by decide) (by decide) rfl (fun r210 h210 q210 => ?_)
                  obtain ⟨hr210, rfl⟩ := q210
                  subst hr210
                  refine g_ifeq C at_213 313 (by decide) 216 rfl (fun k213 => ?_) (fun k213 => ?_)
                  · exact absurd k213 (by decide)
                  · refine g_aload C at_216 218 rfl rfl rfl ?_
                    refine g_aload C at_218 220 rfl rfl rfl ?_
                    refine g_iconst C at_220 221 rfl (1 : Int32) (by decide) ?_
                    refine g_iload C at_221 223 rfl rfl ?_
                    refine c_staticI C [(.ref r188), (.ref a126), (.int (1 : Int32)), (.int v14)] [] (hw _ (List.mem_of_getElem? (i := 11) rfl)) (hw _ (List.mem_of_getElem? (i := 12) rfl)) (hw _ (List.mem_of_getElem? (i := 13) rfl)) (hw _ (List.mem_of_getElem? (i := 14) rfl)) (by decide) (m3 l Z a0 hw r188 a126 (1 : Int32) v14 h188 n0 N (PK N mk (g3 p1 p2 p3) 0) 1 q188.1 AX ⟨by decide, by decide⟩ xn hb.le8.1) at_223 226 rfl (lenOf pd_5 rfl) rfl 0 (Nat.le_of_eq rfl) (by decide) (by decide) 3 19 rfl rfl (by decide) (by decide) rfl (fun r223 h223 q223 => ?_)
                    obtain ⟨hr223, rfl⟩ := q223
                    subst hr223
                    refine g_ifeq C at_226 313 (by decide) 229 rfl (fun k226 => ?_) (fun k226 => ?_)
                    · exact absurd k226 (by decide)
                    · refine g_aload C at_229 231 rfl rfl rfl ?_
                      refine g_aload C at_231 233 rfl rfl rfl ?_
                      refine g_iconst C at_233 234 rfl (2 : Int32) (by decide) ?_
                      refine g_iload C at_234 236 rfl rfl ?_
                      refine c_staticI C [(.ref r188), (.ref a126), (.int (2 : Int32)), (.int v14)] [] (hw _ (List.mem_of_getElem? (i := 11) rfl)) (hw _ (List.mem_of_getElem? (i := 12) rfl)) (hw _ (List.mem_of_getElem? (i := 13) rfl)) (hw _ (List.mem_of_getElem? (i := 14) rfl)) (by decide) (m3 l Z a0 hw r188 a126 (2 : Int32) v14 h188 n0 N (PK N mk (g3 p1 p2 p3) 0) 2 q188.1 AX ⟨by decide, by decide⟩ xn hb.le8.1) at_236 239 rfl (lenOf pd_5 rfl) rfl 0 (Nat.le_of_eq rfl) (by decide) (by decide) 3 19 rfl rfl (by decide) (by decide) rfl (fun r236 h236 q236 => ?_)
                      obtain ⟨hr236, rfl⟩ := q236
                      subst hr236
                      refine g_ifeq C at_239 313 (by decide) 242 rfl (fun k239 => ?_) (fun k239 => ?_)
                      · exact absurd k239 (by decide)
                      · refine g_aload C at_242 244 rfl rfl rfl ?_
                        refine g_aload C at_244 246 rfl rfl rfl ?_
                        refine g_iconst C at_246 247 rfl (3 : Int32) (by decide) ?_
                        refine g_iload C at_247 249 rfl rfl ?_
                        refine c_staticI C [(.ref r188), (.ref a126), (.int (3 : Int32)), (.int v14)] [] (hw _ (List.mem_of_getElem? (i := 11) rfl)) (hw _ (List.mem_of_getElem? (i := 12) rfl)) (hw _ (List.mem_of_getElem? (i := 13) rfl)) (hw _ (List.mem_of_getElem? (i := 14) rfl)) (by decide) (m3 l Z a0 hw r188 a126 (3 : Int32) v14 h188 n0 N (PK N mk (g3 p1 p2 p3) 0) 3 q188.1 AX ⟨by decide, by decide⟩ xn hb.le8.1) at_249 252 rfl (lenOf pd_5 rfl) rfl 0 (Nat.le_of_eq rfl) (by decide) (by decide) 3 19 rfl rfl (by decide) (by decide) rfl (fun r249 h249 q249 => ?_)
                        obtain ⟨hr249, rfl⟩ := q249
                        subst hr249
                        refine g_ifeq C at_252 313 (by decide) 255 rfl (fun k252 => ?_) (fun k252 => ?_)
                        · exact absurd k252 (by decide)
                        · refine g_aload C at_255 257 rfl rfl rfl ?_
                          refine g_aload C at_257 259 rfl rfl rfl ?_
                          refine g_iconst C at_259 260 rfl (4 : Int32) (by decide) ?_
                          refine g_iload C at_260 262 rfl rfl ?_
                          refine c_staticI C [(.ref r188), (.ref a126), (.int (4 : Int32)), (.int v14)] [] (hw _ (List.mem_of_getElem? (i := 11) rfl)) (hw _ (List.mem_of_getElem? (i := 12) rfl)) (hw _ (List.mem_of_getElem? (i := 13) rfl)) (hw _ (List.mem_of_getElem? (i := 14) rfl)) (by decide) (m3 l Z a0 hw r188 a126 (4 : Int32) v14 h188 n0 N (PK N mk (g3 p1 p2 p3) 0) 4 q188.1 AX ⟨by decide, by decide⟩ xn hb.le8.1) at_262 265 rfl (lenOf pd_5 rfl) rfl 0 (Nat.le_of_eq rfl) (by decide) (by decide) 3 19 rfl rfl (by decide) (by decide) rfl (fun r262 h262 q262 => ?_)
                          obtain ⟨hr262, rfl⟩ := q262
                          subst hr262
                          refine g_ifeq C at_265 313 (by decide) 268 rfl (fun k265 => ?_) (fun k265 => ?_)
                          · exact absurd k265 (by decide)
                          · refine g_aload C at_268 270 rfl rfl rfl ?_
                            refine g_aload C at_270 272 rfl rfl rfl ?_
                            refine g_iconst C at_272 273 rfl (5 : Int32) (by decide) ?_
                            refine g_iload C at_273 275 rfl rfl ?_
                            refine c_staticI C [(.ref r188), (.ref a126), (.int (5 : Int32)), (.int v14)] [] (hw _ (List.mem_of_getElem? (i := 11) rfl)) (hw _ (List.mem_of_getElem? (i := 12) rfl)) (hw _ (List.mem_of_getElem? (i := 13) rfl)) (hw _ (List.mem_of_getElem? (i := 14) rfl)) (by decide) (m3 l Z a0 hw r188 a126 (5 : Int32) v14 h188 n0 N (PK N mk (g3 p1 p2 p3) 0) 5 q188.1 AX ⟨by decide, by decide⟩ xn hb.le8.1) at_275 278 rfl (lenOf pd_5 rfl) rfl 0 (Nat.le_of_eq rfl) (by decide) (by decide) 3 19 rfl rfl (by decide) (by decide) rfl (fun r275 h275 q275 => ?_)
                            obtain ⟨hr275, rfl⟩ := q275
                            subst hr275
                            refine g_ifeq C at_278 313 (by decide) 281 rfl (fun k278 => ?_) (fun k278 => ?_)
                            · exact absurd k278 (by decide)
                            · refine g_aload C at_281 283 rfl rfl rfl ?_
                              refine g_aload C at_283 285 rfl rfl rfl ?_
                              refine g_bipush C at_285 287 rfl (6 : Int32) (by decide) ?_
                              refine g_iload C at_287 289 rfl rfl ?_
                              refine c_staticI C [(.ref r188), (.ref a126), (.int (6 : Int32)), (.int v14)] [] (hw _ (List.mem_of_getElem? (i := 11) rfl)) (hw _ (List.mem_of_getElem? (i := 12) rfl)) (hw _ (List.mem_of_getElem? (i := 13) rfl)) (hw _ (List.mem_of_getElem? (i := 14) rfl)) (by decide) (m3 l Z a0 hw r188 a126 (6 : Int32) v14 h188 n0 N (PK N mk (g3 p1 p2 p3) 0) 6 q188.1 AX ⟨by decide, by decide⟩ xn hb.le8.1) at_289 292 rfl (lenOf pd_5 rfl) rfl 0 (Nat.le_of_eq rfl) (by decide) (by decide) 3 19 rfl rfl (by decide) (by decide) rfl (fun r289 h289 q289 => ?_)
                              obtain ⟨hr289, rfl⟩ := q289
                              subst hr289
                              refine g_ifeq C at_292 313 (by decide) 295 rfl (fun k292 => ?_) (fun k292 => ?_)
                              · exact absurd k292 (by decide)
                              · refine g_aload C at_295 297 rfl rfl rfl ?_
                                refine g_aload C at_297 299 rfl rfl rfl ?_
                                refine g_bipush C at_299 301 rfl (7 : Int32) (by decide) ?_
                                refine g_iload C at_301 303 rfl rfl ?_
                                refine c_staticI C [(.ref r188), (.ref a126), (.int (7 : Int32)), (.int v14)] [] (hw _ (List.mem_of_getElem? (i := 11) rfl)) (hw _ (List.mem_of_getElem? (i := 12) rfl)) (hw _ (List.mem_of_getElem? (i := 13) rfl)) (hw _ (List.mem_of_getElem? (i := 14) rfl)) (by decide) (m3 l Z a0 hw r188 a126 (7 : Int32) v14 h188 n0 N (PK N mk (g3 p1 p2 p3) 0) 7 q188.1 AX ⟨by decide, by decide⟩ xn hb.le8.1) at_303 306 rfl (lenOf pd_5 rfl) rfl 0 (Nat.le_of_eq rfl) (by decide) (by decide) 3 19 rfl rfl (by decide) (by decide) rfl (fun r303 h303 q303 => ?_)
                                obtain ⟨hr303, rfl⟩ := q303
                                subst hr303
                                refine g_ifeq C at_306 313 (by decide) 309 rfl (fun k306 => ?_) (fun k306 => ?_)
                                · exact absurd k306 (by decide)
                                · refine g_iconst C at_309 310 rfl (1 : Int32) (by decide) ?_
                                  refine g_goto C at_310 314 (by decide) ?_
                                  refine r_nar C (by simp) at_314 (by decide) (by decide) rfl
                · exact absurd rfl k198
              · exact absurd k166 (by decide)
            · exact absurd k149 (by decide)
          · exact absurd k132 (by decide)
        · exact absurd k99 (by decide)
      · exact absurd k73 (by decide)
    · exact absurd k55 (by decide)
  · refine g_astore C at_51 53 rfl #[.val (.int p0), .val (.long p1), .second, .val (.long p2), .second, .val (.long p3), .second, .val (.int v8), .val (.int v14), .val (.int mk), .val (.int (1 : Int32)), .val (.ref a36), .unset, .unset, .unset, .unset, .unset] rfl rfl ?_
    refine g_iload C at_53 55 rfl rfl ?_
    refine g_ifle C at_55 67 (by decide) 58 rfl (fun k55 => ?_) (fun k55 => ?_)
    · exact absurd k55 (by decide)
    · refine g_lloadN C at_58 59 rfl rfl ?_
      refine g_iload C at_59 61 rfl rfl ?_
      refine c_staticI C [(.long p1), (.int v8)] [] (hw _ (List.mem_of_getElem? (i := 15) rfl)) (hw _ (List.mem_of_getElem? (i := 16) rfl)) (hw _ (List.mem_of_getElem? (i := 13) rfl)) (hw _ (List.mem_of_getElem? (i := 17) rfl)) (by decide) (m4 l Z a0 hw p1 v8 h50 n0) at_61 64 rfl (lenOf pd_1 rfl) rfl 0 (Nat.le_of_eq rfl) (by decide) (by decide) 1 3 rfl rfl (by decide) (by decide) rfl (fun r61 h61 q61 => ?_)
      obtain ⟨hr61, rfl⟩ := q61
      have x61 : Ix r61 (hmN p1 N) := by rw [hr61]; exact own_hmB hb
      refine g_goto C at_64 68 (by decide) ?_
      refine g_istore C at_68 70 rfl (fun z' => #[.val (.int p0), .val (.long p1), .second, .val (.long p2), .second, .val (.long p3), .second, .val (.int v8), .val (.int v14), .val (.int mk), .val (.int (1 : Int32)), .val (.ref a36), .val (.int z'), .unset, .unset, .unset, .unset]) (fun _ => rfl) (fun v68 ev68 => ?_)
      have x68 : Ix v68 (hmN p1 N) := by rw [ev68]; exact x61
      refine g_iload C at_70 72 rfl rfl ?_
      refine g_iconst C at_72 73 rfl (1 : Int32) (by decide) ?_
      refine g_if_icmple C at_73 93 (by decide) 76 rfl (fun k73 => ?_) (fun k73 => ?_)
      · refine g_iconst C at_93 94 rfl (-1 : Int32) (by decide) ?_
        refine g_istore C at_94 96 rfl (fun z' => #[.val (.int p0), .val (.long p1), .second, .val (.long p2), .second, .val (.long p3), .second, .val (.int v8), .val (.int v14), .val (.int mk), .val (.int (1 : Int32)), .val (.ref a36), .val (.int v68), .val (.int z'), .unset, .unset, .unset]) (fun _ => rfl) (fun v94 ev94 => ?_)
        obtain rfl := ev94.symm
        refine g_iload C at_96 98 rfl rfl ?_
        refine g_iconst C at_98 99 rfl (2 : Int32) (by decide) ?_
        refine g_if_icmple C at_99 121 (by decide) 102 rfl (fun k99 => ?_) (fun k99 => ?_)
        · refine g_iconst C at_121 122 rfl (-1 : Int32) (by decide) ?_
          refine g_istore C at_122 124 rfl (fun z' => #[.val (.int p0), .val (.long p1), .second, .val (.long p2), .second, .val (.long p3), .second, .val (.int v8), .val (.int v14), .val (.int mk), .val (.int (1 : Int32)), .val (.ref a36), .val (.int v68), .val (.int (-1 : Int32)), .val (.int z'), .unset, .unset]) (fun _ => rfl) (fun v122 ev122 => ?_)
          obtain rfl := ev122.symm
          refine g_bipush C at_124 126 rfl (8 : Int32) (by decide) ?_
          refine g_newarray C (hw _ (List.mem_of_getElem? (i := 6) rfl)) 8 8 ⟨by decide, by decide⟩ (by decide) (by decide) at_126 128 rfl 2 11 rfl rfl (by decide) (by decide) (fun h126 a126 ga126 E126 A126 => ?_)
          have n126 : n0 ≤ a126 := by rw [ga126]; exact Z50
          have Z126 : n0 ≤ h126.size := Nat.le_trans Z50 E126.1
          have AH126 := AHs.ext E126
          have nh : a36 ≠ a126 := by rw [ga126]; exact Nat.ne_of_lt AHs.lt
          refine g_astore C at_128 130 rfl #[.val (.int p0), .val (.long p1), .second, .val (.long p2), .second, .val (.long p3), .second, .val (.int v8), .val (.int v14), .val (.int mk), .val (.int (1 : Int32)), .val (.ref a36), .val (.int v68), .val (.int (-1 : Int32)), .val (.int (-1 : Int32)), .val (.ref a126), .unset] rfl rfl ?_
          refine g_iload C at_130 132 rfl rfl ?_
          refine g_iflt C at_132 147 (by decide) 135 rfl (fun k132 => ?_) (fun k132 => ?_)
          · exact absurd k132 x68.1
          · refine g_aload C at_135 137 rfl rfl rfl ?_
            refine g_iload C at_137 139 rfl rfl ?_
            refine g_lloadN C at_139 140 rfl rfl ?_
            refine g_iload C at_140 142 rfl rfl ?_
            refine g_iconst C at_142 143 rfl (0 : Int32) (by decide) ?_
            refine c_staticI C [(.long p1), (.int mk), (.int (0 : Int32))] [(.int v68), (.ref a126)] (hw _ (List.mem_of_getElem? (i := 18) rfl)) (hw _ (List.mem_of_getElem? (i := 19) rfl)) (hw _ (List.mem_of_getElem? (i := 13) rfl)) (hw _ (List.mem_of_getElem? (i := 20) rfl)) (by decide) (m5 l Z a0 hw p1 mk (0 : Int32) h126 n0) at_143 146 rfl (lenOf pd_3 rfl) rfl 2 (Nat.le_of_eq rfl) (by decide) (by decide) 2 11 rfl rfl (by decide) (by decide) rfl (fun r143 h143 q143 => ?_)
            obtain ⟨hr143, rfl⟩ := q143
            refine g_iastore C A126 (hmN p1 N) x68 (by have := hm_lt (x := p1) hb; have := hb.le8; omega) at_146 147 rfl n126 (fun h146 W146 A146 => ?_)
            have AE1 : Ary Z h146 a126 .int 8 (fun j => .int ((PK N mk (g3 p1 p2 p3) 1) j)) := A146.congr (fun j hj => by
              show _ = Value.int ((PK N mk (g3 p1 p2 p3) 1) j)
              rw [PK1, upI, updA, hr143]
              by_cases q : j = (hmN p1 N)
              · rw [if_pos q]; exact congrArg Value.int (if_pos q).symm
              · rw [if_neg q]; exact congrArg Value.int (if_neg q).symm)
            have AH146 := AH126.other W146 nh
            refine g_iload C at_147 149 rfl rfl ?_
            refine g_iflt C at_149 164 (by decide) 152 rfl (fun k149 => ?_) (fun k149 => ?_)
            · refine g_iload C at_164 166 rfl rfl ?_
              refine g_iflt C at_166 182 (by decide) 169 rfl (fun k166 => ?_) (fun k166 => ?_)
              · refine g_iload C at_182 184 rfl rfl ?_
                refine g_aload C at_184 186 rfl rfl rfl ?_
                refine g_iload C at_186 188 rfl rfl ?_
                have Z9 : n0 ≤ h146.size := by rw [W146.size]; exact Z126
                refine c_staticA C [(.int v8), (.ref a36), (.int (1 : Int32))] [] (hw _ (List.mem_of_getElem? (i := 7) rfl)) (hw _ (List.mem_of_getElem? (i := 8) rfl)) (hw _ (List.mem_of_getElem? (i := 9) rfl)) (hw _ (List.mem_of_getElem? (i := 10) rfl)) (by decide) (m2 l Z a0 hw v8 a36 (1 : Int32) h146 n0 N 1 mk (g3 p1 p2 p3) hb Z9 AH146 xc c3 cN) at_188 191 rfl (lenOf pd_4 rfl) rfl 0 (Nat.le_of_eq rfl) (by decide) (by decide) 3 19 rfl rfl (by decide) (by decide) rfl (fun r188 h188 q188 => ?_)
                have AX := AE1.keep q188.2 (by simp)
                refine g_astore C at_191 193 rfl #[.val (.int p0), .val (.long p1), .second, .val (.long p2), .second, .val (.long p3), .second, .val (.int v8), .val (.int v14), .val (.int mk), .val (.int (1 : Int32)), .val (.ref a36), .val (.int v68), .val (.int (-1 : Int32)), .val (.int (-1 : Int32)), .val (.ref a126), .val (.ref r188)] rfl rfl ?_
                refine g_aload C at_193 195 rfl rfl rfl ?_
                refine g_arraylength C q188.1 v14 xn at_195 196 rfl ?_
                refine g_iload C at_196 198 rfl rfl ?_
                refine g_if_icmpeq C at_198 203 (by decide) 201 rfl (fun k198 => ?_) (fun k198 => ?_)
                · refine g_aload C at_203 205 rfl rfl rfl ?_
                  refine g_aload C at_205 207 rfl rfl rfl ?_
                  refine g_iconst C at_207 208 rfl (0 : Int32) (by decide) ?_
                  refine g_iload C at_208 210 rfl rfl ?_
                  refine c_staticI C [(.ref r188), (.ref a126), (.int (0 : Int32)), (.int v14)] [] (hw _ (List.mem_of_getElem? (i := 11) rfl)) (hw _ (List.mem_of_getElem? (i := 12) rfl)) (hw _ (List.mem_of_getElem? (i := 13) rfl)) (hw _ (List.mem_of_getElem? (i := 14) rfl)) (by decide) (m3 l Z a0 hw r188 a126 (0 : Int32) v14 h188 n0 N (PK N mk (g3 p1 p2 p3) 1) 0 q188.1 AX ⟨by decide, by decide⟩ xn hb.le8.1) at_210 213 rfl (lenOf pd_5 rfl) rfl 0 (Nat.le_of_eq rfl) (by decide) (by decide) 3 19 rfl rfl (by decide) (by decide) rfl (fun r210 h210 q210 => ?_)
                  obtain ⟨hr210, rfl⟩ := q210
                  subst hr210
                  refine g_ifeq C at_213 313 (by decide) 216 rfl (fun k213 => ?_) (fun k213 => ?_)
                  · exact absurd k213 (by decide)
                  · refine g_aload C at_216 218 rfl rfl rfl ?_
                    refine g_aload C at_218 220 rfl rfl rfl ?_
                    refine g_iconst C at_220 221 rfl (1 : Int32) (by decide) ?_
                    refine g_iload C at_221 223 rfl rfl ?_
                    refine c_staticI C [(.ref r188), (.ref a126), (.int (1 : Int32)), (.int v14)] [] (hw _ (List.mem_of_getElem? (i := 11) rfl)) (hw _ (List.mem_of_getElem? (i := 12) rfl)) (hw _ (List.mem_of_getElem? (i := 13) rfl)) (hw _ (List.mem_of_getElem? (i := 14) rfl)) (by decide) (m3 l Z a0 hw r188 a126 (1 : Int32) v14 h188 n0 N (PK N mk (g3 p1 p2 p3) 1) 1 q188.1 AX ⟨by decide, by decide⟩ xn hb.le8.1) at_223 226 rfl (lenOf pd_5 rfl) rfl 0 (Nat.le_of_eq rfl) (by decide) (by decide) 3 19 rfl rfl (by decide) (by decide) rfl (fun r223 h223 q223 => ?_)
                    obtain ⟨hr223, rfl⟩ := q223
                    subst hr223
                    refine g_ifeq C at_226 313 (by decide) 229 rfl (fun k226 => ?_) (fun k226 => ?_)
                    · exact absurd k226 (by decide)
                    · refine g_aload C at_229 231 rfl rfl rfl ?_
                      refine g_aload C at_231 233 rfl rfl rfl ?_
                      refine g_iconst C at_233 234 rfl (2 : Int32) (by decide) ?_
                      refine g_iload C at_234 236 rfl rfl ?_
                      refine c_staticI C [(.ref r188), (.ref a126), (.int (2 : Int32)), (.int v14)] [] (hw _ (List.mem_of_getElem? (i := 11) rfl)) (hw _ (List.mem_of_getElem? (i := 12) rfl)) (hw _ (List.mem_of_getElem? (i := 13) rfl)) (hw _ (List.mem_of_getElem? (i := 14) rfl)) (by decide) (m3 l Z a0 hw r188 a126 (2 : Int32) v14 h188 n0 N (PK N mk (g3 p1 p2 p3) 1) 2 q188.1 AX ⟨by decide, by decide⟩ xn hb.le8.1) at_236 239 rfl (lenOf pd_5 rfl) rfl 0 (Nat.le_of_eq rfl) (by decide) (by decide) 3 19 rfl rfl (by decide) (by decide) rfl (fun r236 h236 q236 => ?_)
                      obtain ⟨hr236, rfl⟩ := q236
                      subst hr236
                      refine g_ifeq C at_239 313 (by decide) 242 rfl (fun k239 => ?_) (fun k239 => ?_)
                      · exact absurd k239 (by decide)
                      · refine g_aload C at_242 244 rfl rfl rfl ?_
                        refine g_aload C at_244 246 rfl rfl rfl ?_
                        refine g_iconst C at_246 247 rfl (3 : Int32) (by decide) ?_
                        refine g_iload C at_247 249 rfl rfl ?_
                        refine c_staticI C [(.ref r188), (.ref a126), (.int (3 : Int32)), (.int v14)] [] (hw _ (List.mem_of_getElem? (i := 11) rfl)) (hw _ (List.mem_of_getElem? (i := 12) rfl)) (hw _ (List.mem_of_getElem? (i := 13) rfl)) (hw _ (List.mem_of_getElem? (i := 14) rfl)) (by decide) (m3 l Z a0 hw r188 a126 (3 : Int32) v14 h188 n0 N (PK N mk (g3 p1 p2 p3) 1) 3 q188.1 AX ⟨by decide, by decide⟩ xn hb.le8.1) at_249 252 rfl (lenOf pd_5 rfl) rfl 0 (Nat.le_of_eq rfl) (by decide) (by decide) 3 19 rfl rfl (by decide) (by decide) rfl (fun r249 h249 q249 => ?_)
                        obtain ⟨hr249, rfl⟩ := q249
                        subst hr249
                        refine g_ifeq C at_252 313 (by decide) 255 rfl (fun k252 => ?_) (fun k252 => ?_)
                        · exact absurd k252 (by decide)
                        · refine g_aload C at_255 257 rfl rfl rfl ?_
                          refine g_aload C at_257 259 rfl rfl rfl ?_
                          refine g_iconst C at_259 260 rfl (4 : Int32) (by decide) ?_
                          refine g_iload C at_260 262 rfl rfl ?_
                          refine c_staticI C [(.ref r188), (.ref a126), (.int (4 : Int32)), (.int v14)] [] (hw _ (List.mem_of_getElem? (i := 11) rfl)) (hw _ (List.mem_of_getElem? (i := 12) rfl)) (hw _ (List.mem_of_getElem? (i := 13) rfl)) (hw _ (List.mem_of_getElem? (i := 14) rfl)) (by decide) (m3 l Z a0 hw r188 a126 (4 : Int32) v14 h188 n0 N (PK N mk (g3 p1 p2 p3) 1) 4 q188.1 AX ⟨by decide, by decide⟩ xn hb.le8.1) at_262 265 rfl (lenOf pd_5 rfl) rfl 0 (Nat.le_of_eq rfl) (by decide) (by decide) 3 19 rfl rfl (by decide) (by decide) rfl (fun r262 h262 q262 => ?_)
                          obtain ⟨hr262, rfl⟩ := q262
                          subst hr262
                          refine g_ifeq C at_265 313 (by decide) 268 rfl (fun k265 => ?_) (fun k265 => ?_)
                          · exact absurd k265 (by decide)
                          · refine g_aload C at_268 270 rfl rfl rfl ?_
                            refine g_aload C at_270 272 rfl rfl rfl ?_
                            refine g_iconst C at_272 273 rfl (5 : Int32) (by decide) ?_
                            refine g_iload C at_273 275 rfl rfl ?_
                            refine c_staticI C [(.ref r188), (.ref a126), (.int (5 : Int32)), (.int v14)] [] (hw _ (List.mem_of_getElem? (i := 11) rfl)) (hw _ (List.mem_of_getElem? (i := 12) rfl)) (hw _ (List.mem_of_getElem? (i := 13) rfl)) (hw _ (List.mem_of_getElem? (i := 14) rfl)) (by decide) (m3 l Z a0 hw r188 a126 (5 : Int32) v14 h188 n0 N (PK N mk (g3 p1 p2 p3) 1) 5 q188.1 AX ⟨by decide, by decide⟩ xn hb.le8.1) at_275 278 rfl (lenOf pd_5 rfl) rfl 0 (Nat.le_of_eq rfl) (by decide) (by decide) 3 19 rfl rfl (by decide) (by decide) rfl (fun r275 h275 q275 => ?_)
                            obtain ⟨hr275, rfl⟩ := q275
                            subst hr275
                            refine g_ifeq C at_278 313 (by decide) 281 rfl (fun k278 => ?_) (fun k278 => ?_)
                            · exact absurd k278 (by decide)
                            · refine g_aload C at_281 283 rfl rfl rfl ?_
                              refine g_aload C at_283 285 rfl rfl rfl ?_
                              refine g_bipush C at_285 287 rfl (6 : Int32) (by decide) ?_
                              refine g_iload C at_287 289 rfl rfl ?_
                              refine c_staticI C [(.ref r188), (.ref a126), (.int (6 : Int32)), (.int v14)] [] (hw _ (List.mem_of_getElem? (i := 11) rfl)) (hw _ (List.mem_of_getElem? (i := 12) rfl)) (hw _ (List.mem_of_getElem? (i := 13) rfl)) (hw _ (List.mem_of_getElem? (i := 14) rfl)) (by decide) (m3 l Z a0 hw r188 a126 (6 : Int32) v14 h188 n0 N (PK N mk (g3 p1 p2 p3) 1) 6 q188.1 AX ⟨by decide, by decide⟩ xn hb.le8.1) at_289 292 rfl (lenOf pd_5 rfl) rfl 0 (Nat.le_of_eq rfl) (by decide) (by decide) 3 19 rfl rfl (by decide) (by decide) rfl (fun r289 h289 q289 => ?_)
                              obtain ⟨hr289, rfl⟩ := q289
                              subst hr289
                              refine g_ifeq C at_292 313 (by decide) 295 rfl (fun k292 => ?_) (fun k292 => ?_)
                              · exact absurd k292 (by decide)
                              · refine g_aload C at_295 297 rfl rfl rfl ?_
                                refine g_aload C at_297 299 rfl rfl rfl ?_
                                refine g_bipush C at_299 301 rfl (7 : Int32) (by decide) ?_
                                refine g_iload C at_301 303 rfl rfl ?_
                                refine c_staticI C [(.ref r188), (.ref a126), (.int (7 : Int32)), (.int v14)] [] (hw _ (List.mem_of_getElem? (i := 11) rfl)) (hw _ (List.mem_of_getElem? (i := 12) rfl)) (hw _ (List.mem_of_getElem? (i := 13) rfl)) (hw _ (List.mem_of_getElem? (i := 14) rfl)) (by decide) (m3 l Z a0 hw r188 a126 (7 : Int32) v14 h188 n0 N (PK N mk (g3 p1 p2 p3) 1) 7 q188.1 AX ⟨by decide, by decide⟩ xn hb.le8.1) at_303 306 rfl (lenOf pd_5 rfl) rfl 0 (Nat.le_of_eq rfl) (by decide) (by decide) 3 19 rfl rfl (by decide) (by decide) rfl (fun r303 h303 q303 => ?_)
                                obtain ⟨hr303, rfl⟩ := q303
                                subst hr303
                                refine g_ifeq C at_306 313 (by decide) 309 rfl (fun k306 => ?_) (fun k306 => ?_)
                                · exact absurd k306 (by decide)
                                · refine g_iconst C at_309 310 rfl (1 : Int32) (by decide) ?_
                                  refine g_goto C at_310 314 (by decide) ?_
                                  refine r_nar C (by simp) at_314 (by decide) (by decide) rfl
                · exact absurd rfl k198
              · exact absurd k166 (by decide)
            · exact absurd k149 (by decide)
        · exact absurd k99 (by decide)
      · exact absurd k73 (by decide)
  · refine g_astore C at_51 53 rfl #[.val (.int p0), .val (.long p1), .second, .val (.long p2), .second, .val (.long p3), .second, .val (.int v8), .val (.int v14), .val (.int mk), .val (.int (2 : Int32)), .val (.ref a36), .unset, .unset, .unset, .unset, .unset] rfl rfl ?_
    refine g_iload C at_53 55 rfl rfl ?_
    refine g_ifle C at_55 67 (by decide) 58 rfl (fun k55 => ?_) (fun k55 => ?_)
    · exact absurd k55 (by decide)
    · refine g_lloadN C at_58 59 rfl rfl ?_
      refine g_iload C at_59 61 rfl rfl ?_
      refine c_staticI C [(.long p1), (.int v8)] [] (hw _ (List.mem_of_getElem? (i := 15) rfl)) (hw _ (List.mem_of_getElem? (i := 16) rfl)) (hw _ (List.mem_of_getElem? (i := 13) rfl)) (hw _ (List.mem_of_getElem? (i := 17) rfl)) (by decide) (m4 l Z a0 hw p1 v8 h50 n0) at_61 64 rfl (lenOf pd_1 rfl) rfl 0 (Nat.le_of_eq rfl) (by decide) (by decide) 1 3 rfl rfl (by decide) (by decide) rfl (fun r61 h61 q61 => ?_)
      obtain ⟨hr61, rfl⟩ := q61
      have x61 : Ix r61 (hmN p1 N) := by rw [hr61]; exact own_hmB hb
      refine g_goto C at_64 68 (by decide) ?_
      refine g_istore C at_68 70 rfl (fun z' => #[.val (.int p0), .val (.long p1), .second, .val (.long p2), .second, .val (.long p3), .second, .val (.int v8), .val (.int v14), .val (.int mk), .val (.int (2 : Int32)), .val (.ref a36), .val (.int z'), .unset, .unset, .unset, .unset]) (fun _ => rfl) (fun v68 ev68 => ?_)
      have x68 : Ix v68 (hmN p1 N) := by rw [ev68]; exact x61
      refine g_iload C at_70 72 rfl rfl ?_
      refine g_iconst C at_72 73 rfl (1 : Int32) (by decide) ?_
      refine g_if_icmple C at_73 93 (by decide) 76 rfl (fun k73 => ?_) (fun k73 => ?_)
      · exact absurd k73 (by decide)
      · refine g_lloadN C at_76 77 rfl rfl ?_
        refine g_iload C at_77 79 rfl rfl ?_
        refine c_staticI C [(.long p2), (.int v8)] [] (hw _ (List.mem_of_getElem? (i := 15) rfl)) (hw _ (List.mem_of_getElem? (i := 16) rfl)) (hw _ (List.mem_of_getElem? (i := 13) rfl)) (hw _ (List.mem_of_getElem? (i := 17) rfl)) (by decide) (m4 l Z a0 hw p2 v8 h50 n0) at_79 82 rfl (lenOf pd_1 rfl) rfl 0 (Nat.le_of_eq rfl) (by decide) (by decide) 1 3 rfl rfl (by decide) (by decide) rfl (fun r79 h79 q79 => ?_)
        obtain ⟨hr79, rfl⟩ := q79
        have x79 : Ix r79 (hmN p2 N) := by rw [hr79]; exact own_hmB hb
        refine g_iload C at_82 84 rfl rfl ?_
        refine g_iconst C at_84 85 rfl (-1 : Int32) (by decide) ?_
        refine g_iload C at_85 87 rfl rfl ?_
        refine c_staticI C [(.int r79), (.int v68), (.int (-1 : Int32)), (.int mk)] [] (hw _ (List.mem_of_getElem? (i := 21) rfl)) (hw _ (List.mem_of_getElem? (i := 22) rfl)) (hw _ (List.mem_of_getElem? (i := 13) rfl)) (hw _ (List.mem_of_getElem? (i := 23) rfl)) (by decide) (m6 l Z a0 hw r79 v68 (-1 : Int32) mk h50 n0) at_87 90 rfl (lenOf pd_2 rfl) rfl 0 (Nat.le_of_eq rfl) (by decide) (by decide) 1 3 rfl rfl (by decide) (by decide) rfl (fun r87 h87 q87 => ?_)
        obtain ⟨hr87, rfl⟩ := q87
        have h4 : 4 ≤ N := own_N4 hb (by omega)
        have x87 : Ix r87 (pr (PK N mk (g3 p1 p2 p3) 1) N (hmN p2 N)) := by rw [hr87]; exact own_ff hb x79 (hm_lt hb) (fun x j hx hj => ⟨fun z => (PK1_z hb h4 j).mpr (z.elim (fun e => (hx.eq x68).mp e) (fun e => absurd e (own_m1 hx))), fun z => Or.inl ((hx.eq x68).mpr ((PK1_z hb h4 j).mp z))⟩)
        refine g_goto C at_90 94 (by decide) ?_
        refine g_istore C at_94 96 rfl (fun z' => #[.val (.int p0), .val (.long p1), .second, .val (.long p2), .second, .val (.long p3), .second, .val (.int v8), .val (.int v14), .val (.int mk), .val (.int (2 : Int32)), .val (.ref a36), .val (.int v68), .val (.int z'), .unset, .unset, .unset]) (fun _ => rfl) (fun v94 ev94 => ?_)
        have x94 : Ix v94 (pr (PK N mk (g3 p1 p2 p3) 1) N (hmN p2 N)) := by rw [ev94]; exact x87
        refine g_iload C at_96 98 rfl rfl ?_
        refine g_iconst C at_98 99 rfl (2 : Int32) (by decide) ?_
        refine g_if_icmple C at_99 121 (by decide) 102 rfl (fun k99 => ?_) (fun k99 => ?_)
        · refine g_iconst C at_121 122 rfl (-1 : Int32) (by decide) ?_
          refine g_istore C at_122 124 rfl (fun z' => #[.val (.int p0), .val (.long p1), .second, .val (.long p2), .second, .val (.long p3), .second, .val (.int v8), .val (.int v14), .val (.int mk), .val (.int (2 : Int32)), .val (.ref a36), .val (.int v68), .val (.int v94), .val (.int z'), .unset, .unset]) (fun _ => rfl) (fun v122 ev122 => ?_)
          obtain rfl := ev122.symm
          refine g_bipush C at_124 126 rfl (8 : Int32) (by decide) ?_
          refine g_newarray C (hw _ (List.mem_of_getElem? (i := 6) rfl)) 8 8 ⟨by decide, by decide⟩ (by decide) (by decide) at_126 128 rfl 2 11 rfl rfl (by decide) (by decide) (fun h126 a126 ga126 E126 A126 => ?_)
          have n126 : n0 ≤ a126 := by rw [ga126]; exact Z50
          have Z126 : n0 ≤ h126.size := Nat.le_trans Z50 E126.1
          have AH126 := AHs.ext E126
          have nh : a36 ≠ a126 := by rw [ga126]; exact Nat.ne_of_lt AHs.lt
          refine g_astore C at_128 130 rfl #[.val (.int p0), .val (.long p1), .second, .val (.long p2), .second, .val (.long p3), .second, .val (.int v8), .val (.int v14), .val (.int mk), .val (.int (2 : Int32)), .val (.ref a36), .val (.int v68), .val (.int v94), .val (.int (-1 : Int32)), .val (.ref a126), .unset] rfl rfl ?_
          refine g_iload C at_130 132 rfl rfl ?_
          refine g_iflt C at_132 147 (by decide) 135 rfl (fun k132 => ?_) (fun k132 => ?_)
          · exact absurd k132 x68.1
          · refine g_aload C at_135 137 rfl rfl rfl ?_
            refine g_iload C at_137 139 rfl rfl ?_
            refine g_lloadN C at_139 140 rfl rfl ?_
            refine g_iload C at_140 142 rfl rfl ?_
            refine g_iconst C at_142 143 rfl (0 : Int32) (by decide) ?_
            refine c_staticI C [(.long p1), (.int mk), (.int (0 : Int32))] [(.int v68), (.ref a126)] (hw _ (List.mem_of_getElem? (i := 18) rfl)) (hw _ (List.mem_of_getElem? (i := 19) rfl)) (hw _ (List.mem_of_getElem? (i := 13) rfl)) (hw _ (List.mem_of_getElem? (i := 20) rfl)) (by decide) (m5 l Z a0 hw p1 mk (0 : Int32) h126 n0) at_143 146 rfl (lenOf pd_3 rfl) rfl 2 (Nat.le_of_eq rfl) (by decide) (by decide) 2 11 rfl rfl (by decide) (by decide) rfl (fun r143 h143 q143 => ?_)
            obtain ⟨hr143, rfl⟩ := q143
            refine g_iastore C A126 (hmN p1 N) x68 (by have := hm_lt (x := p1) hb; have := hb.le8; omega) at_146 147 rfl n126 (fun h146 W146 A146 => ?_)
            have AE1 : Ary Z h146 a126 .int 8 (fun j => .int ((PK N mk (g3 p1 p2 p3) 1) j)) := A146.congr (fun j hj => by
              show _ = Value.int ((PK N mk (g3 p1 p2 p3) 1) j)
              rw [PK1, upI, updA, hr143]
              by_cases q : j = (hmN p1 N)
              · rw [if_pos q]; exact congrArg Value.int (if_pos q).symm
              · rw [if_neg q]; exact congrArg Value.int (if_neg q).symm)
            have AH146 := AH126.other W146 nh
            refine g_iload C at_147 149 rfl rfl ?_
            refine g_iflt C at_149 164 (by decide) 152 rfl (fun k149 => ?_) (fun k149 => ?_)
            · exact absurd k149 x94.1
            · refine g_aload C at_152 154 rfl rfl rfl ?_
              refine g_iload C at_154 156 rfl rfl ?_
              refine g_lloadN C at_156 157 rfl rfl ?_
              refine g_iload C at_157 159 rfl rfl ?_
              refine g_iconst C at_159 160 rfl (1 : Int32) (by decide) ?_
              refine c_staticI C [(.long p2), (.int mk), (.int (1 : Int32))] [(.int v94), (.ref a126)] (hw _ (List.mem_of_getElem? (i := 18) rfl)) (hw _ (List.mem_of_getElem? (i := 19) rfl)) (hw _ (List.mem_of_getElem? (i := 13) rfl)) (hw _ (List.mem_of_getElem? (i := 20) rfl)) (by decide) (m5 l Z a0 hw p2 mk (1 : Int32) h146 n0) at_160 163 rfl (lenOf pd_3 rfl) rfl 2 (Nat.le_of_eq rfl) (by decide) (by decide) 2 11 rfl rfl (by decide) (by decide) rfl (fun r160 h160 q160 => ?_)
              obtain ⟨hr160, rfl⟩ := q160
              refine g_iastore C AE1 (pr (PK N mk (g3 p1 p2 p3) 1) N (hmN p2 N)) x94 (by have := pr_lt (f := (PK N mk (g3 p1 p2 p3) 1)) hb.le8.2 (hm_lt (x := p2) hb); have := hb.le8; omega) at_163 164 rfl n126 (fun h163 W163 A163 => ?_)
              have AE2 : Ary Z h163 a126 .int 8 (fun j => .int ((PK N mk (g3 p1 p2 p3) 2) j)) := A163.congr (fun j hj => by
                show _ = Value.int (upI (PK N mk (g3 p1 p2 p3) 1) (pr (PK N mk (g3 p1 p2 p3) 1) N (hmN p2 N)) (stI p2 mk (k32 1)) j)
                rw [upI, updA, hr160]
                by_cases q : j = (pr (PK N mk (g3 p1 p2 p3) 1) N (hmN p2 N))
                · rw [if_pos q, if_pos q]; rfl
                · rw [if_neg q, if_neg q])
              have AH163 := AH146.other W163 nh
              refine g_iload C at_164 166 rfl rfl ?_
              refine g_iflt C at_166 182 (by decide) 169 rfl (fun k166 => ?_) (fun k166 => ?_)
              · refine g_iload C at_182 184 rfl rfl ?_
                refine g_aload C at_184 186 rfl rfl rfl ?_
                refine g_iload C at_186 188 rfl rfl ?_
                have Z9 : n0 ≤ h163.size := by rw [W163.size, W146.size]; exact Z126
                refine c_staticA C [(.int v8), (.ref a36), (.int (2 : Int32))] [] (hw _ (List.mem_of_getElem? (i := 7) rfl)) (hw _ (List.mem_of_getElem? (i := 8) rfl)) (hw _ (List.mem_of_getElem? (i := 9) rfl)) (hw _ (List.mem_of_getElem? (i := 10) rfl)) (by decide) (m2 l Z a0 hw v8 a36 (2 : Int32) h163 n0 N 2 mk (g3 p1 p2 p3) hb Z9 AH163 xc c3 cN) at_188 191 rfl (lenOf pd_4 rfl) rfl 0 (Nat.le_of_eq rfl) (by decide) (by decide) 3 19 rfl rfl (by decide) (by decide) rfl (fun r188 h188 q188 => ?_)
                have AX := AE2.keep q188.2 (by simp)
                refine g_astore C at_191 193 rfl #[.val (.int p0), .val (.long p1), .second, .val (.long p2), .second, .val (.long p3), .second, .val (.int v8), .val (.int v14), .val (.int mk), .val (.int (2 : Int32)), .val (.ref a36), .val (.int v68), .val (.int v94), .val (.int (-1 : Int32)), .val (.ref a126), .val (.ref r188)] rfl rfl ?_
                refine g_aload C at_193 195 rfl rfl rfl ?_
                refine g_arraylength C q188.1 v14 xn at_195 196 rfl ?_
                refine g_iload C at_196 198 rfl rfl ?_
                refine g_if_icmpeq C at_198 203 (by decide) 201 rfl (fun k198 => ?_) (fun k198 => ?_)
                · refine g_aload C at_203 205 rfl rfl rfl ?_
                  refine g_aload C at_205 207 rfl rfl rfl ?_
                  refine g_iconst C at_207 208 rfl (0 : Int32) (by decide) ?_
                  refine g_iload C at_208 210 rfl rfl ?_
                  refine c_staticI C [(.ref r188), (.ref a126), (.int (0 : Int32)), (.int v14)] [] (hw _ (List.mem_of_getElem? (i := 11) rfl)) (hw _ (List.mem_of_getElem? (i := 12) rfl)) (hw _ (List.mem_of_getElem? (i := 13) rfl)) (hw _ (List.mem_of_getElem? (i := 14) rfl)) (by decide) (m3 l Z a0 hw r188 a126 (0 : Int32) v14 h188 n0 N (PK N mk (g3 p1 p2 p3) 2) 0 q188.1 AX ⟨by decide, by decide⟩ xn hb.le8.1) at_210 213 rfl (lenOf pd_5 rfl) rfl 0 (Nat.le_of_eq rfl) (by decide) (by decide) 3 19 rfl rfl (by decide) (by decide) rfl (fun r210 h210 q210 => ?_)
                  obtain ⟨hr210, rfl⟩ := q210
                  subst hr210
                  refine g_ifeq C at_213 313 (by decide) 216 rfl (fun k213 => ?_) (fun k213 => ?_)
                  · exact absurd k213 (by decide)
                  · refine g_aload C at_216 218 rfl rfl rfl ?_
                    refine g_aload C at_218 220 rfl rfl rfl ?_
                    refine g_iconst C at_220 221 rfl (1 : Int32) (by decide) ?_
                    refine g_iload C at_221 223 rfl rfl ?_
                    refine c_staticI C [(.ref r188), (.ref a126), (.int (1 : Int32)), (.int v14)] [] (hw _ (List.mem_of_getElem? (i := 11) rfl)) (hw _ (List.mem_of_getElem? (i := 12) rfl)) (hw _ (List.mem_of_getElem? (i := 13) rfl)) (hw _ (List.mem_of_getElem? (i := 14) rfl)) (by decide) (m3 l Z a0 hw r188 a126 (1 : Int32) v14 h188 n0 N (PK N mk (g3 p1 p2 p3) 2) 1 q188.1 AX ⟨by decide, by decide⟩ xn hb.le8.1) at_223 226 rfl (lenOf pd_5 rfl) rfl 0 (Nat.le_of_eq rfl) (by decide) (by decide) 3 19 rfl rfl (by decide) (by decide) rfl (fun r223 h223 q223 => ?_)
                    obtain ⟨hr223, rfl⟩ := q223
                    subst hr223
                    refine g_ifeq C at_226 313 (by decide) 229 rfl (fun k226 => ?_) (fun k226 => ?_)
                    · exact absurd k226 (by decide)
                    · refine g_aload C at_229 231 rfl rfl rfl ?_
                      refine g_aload C at_231 233 rfl rfl rfl ?_
                      refine g_iconst C at_233 234 rfl (2 : Int32) (by decide) ?_
                      refine g_iload C at_234 236 rfl rfl ?_
                      refine c_staticI C [(.ref r188), (.ref a126), (.int (2 : Int32)), (.int v14)] [] (hw _ (List.mem_of_getElem? (i := 11) rfl)) (hw _ (List.mem_of_getElem? (i := 12) rfl)) (hw _ (List.mem_of_getElem? (i := 13) rfl)) (hw _ (List.mem_of_getElem? (i := 14) rfl)) (by decide) (m3 l Z a0 hw r188 a126 (2 : Int32) v14 h188 n0 N (PK N mk (g3 p1 p2 p3) 2) 2 q188.1 AX ⟨by decide, by decide⟩ xn hb.le8.1) at_236 239 rfl (lenOf pd_5 rfl) rfl 0 (Nat.le_of_eq rfl) (by decide) (by decide) 3 19 rfl rfl (by decide) (by decide) rfl (fun r236 h236 q236 => ?_)
                      obtain ⟨hr236, rfl⟩ := q236
                      subst hr236
                      refine g_ifeq C at_239 313 (by decide) 242 rfl (fun k239 => ?_) (fun k239 => ?_)
                      · exact absurd k239 (by decide)
                      · refine g_aload C at_242 244 rfl rfl rfl ?_
                        refine g_aload C at_244 246 rfl rfl rfl ?_
                        refine g_iconst C at_246 247 rfl (3 : Int32) (by decide) ?_
                        refine g_iload C at_247 249 rfl rfl ?_
                        refine c_staticI C [(.ref r188), (.ref a126), (.int (3 : Int32)), (.int v14)] [] (hw _ (List.mem_of_getElem? (i := 11) rfl)) (hw _ (List.mem_of_getElem? (i := 12) rfl)) (hw _ (List.mem_of_getElem? (i := 13) rfl)) (hw _ (List.mem_of_getElem? (i := 14) rfl)) (by decide) (m3 l Z a0 hw r188 a126 (3 : Int32) v14 h188 n0 N (PK N mk (g3 p1 p2 p3) 2) 3 q188.1 AX ⟨by decide, by decide⟩ xn hb.le8.1) at_249 252 rfl (lenOf pd_5 rfl) rfl 0 (Nat.le_of_eq rfl) (by decide) (by decide) 3 19 rfl rfl (by decide) (by decide) rfl (fun r249 h249 q249 => ?_)
                        obtain ⟨hr249, rfl⟩ := q249
                        subst hr249
                        refine g_ifeq C at_252 313 (by decide) 255 rfl (fun k252 => ?_) (fun k252 => ?_)
                        · exact absurd k252 (by decide)
                        · refine g_aload C at_255 257 rfl rfl rfl ?_
                          refine g_aload C at_257 259 rfl rfl rfl ?_
                          refine g_iconst C at_259 260 rfl (4 : Int32) (by decide) ?_
                          refine g_iload C at_260 262 rfl rfl ?_
                          refine c_staticI C [(.ref r188), (.ref a126), (.int (4 : Int32)), (.int v14)] [] (hw _ (List.mem_of_getElem? (i := 11) rfl)) (hw _ (List.mem_of_getElem? (i := 12) rfl)) (hw _ (List.mem_of_getElem? (i := 13) rfl)) (hw _ (List.mem_of_getElem? (i := 14) rfl)) (by decide) (m3 l Z a0 hw r188 a126 (4 : Int32) v14 h188 n0 N (PK N mk (g3 p1 p2 p3) 2) 4 q188.1 AX ⟨by decide, by decide⟩ xn hb.le8.1) at_262 265 rfl (lenOf pd_5 rfl) rfl 0 (Nat.le_of_eq rfl) (by decide) (by decide) 3 19 rfl rfl (by decide) (by decide) rfl (fun r262 h262 q262 => ?_)
                          obtain ⟨hr262, rfl⟩ := q262
                          subst hr262
                          refine g_ifeq C at_265 313 (by decide) 268 rfl (fun k265 => ?_) (fun k265 => ?_)
                          · exact absurd k265 (by decide)
                          · refine g_aload C at_268 270 rfl rfl rfl ?_
                            refine g_aload C at_270 272 rfl rfl rfl ?_
                            refine g_iconst C at_272 273 rfl (5 : Int32) (by decide) ?_
                            refine g_iload C at_273 275 rfl rfl ?_
                            refine c_staticI C [(.ref r188), (.ref a126), (.int (5 : Int32)), (.int v14)] [] (hw _ (List.mem_of_getElem? (i := 11) rfl)) (hw _ (List.mem_of_getElem? (i := 12) rfl)) (hw _ (List.mem_of_getElem? (i := 13) rfl)) (hw _ (List.mem_of_getElem? (i := 14) rfl)) (by decide) (m3 l Z a0 hw r188 a126 (5 : Int32) v14 h188 n0 N (PK N mk (g3 p1 p2 p3) 2) 5 q188.1 AX ⟨by decide, by decide⟩ xn hb.le8.1) at_275 278 rfl (lenOf pd_5 rfl) rfl 0 (Nat.le_of_eq rfl) (by decide) (by decide) 3 19 rfl rfl (by decide) (by decide) rfl (fun r275 h275 q275 => ?_)
                            obtain ⟨hr275, rfl⟩ := q275
                            subst hr275
                            refine g_ifeq C at_278 313 (by decide) 281 rfl (fun k278 => ?_) (fun k278 => ?_)
                            · exact absurd k278 (by decide)
                            · refine g_aload C at_281 283 rfl rfl rfl ?_
                              refine g_aload C at_283 285 rfl rfl rfl ?_
                              refine g_bipush C at_285 287 rfl (6 : Int32) (by decide) ?_
                              refine g_iload C at_287 289 rfl rfl ?_
                              refine c_staticI C [(.ref r188), (.ref a126), (.int (6 : Int32)), (.int v14)] [] (hw _ (List.mem_of_getElem? (i := 11) rfl)) (hw _ (List.mem_of_getElem? (i := 12) rfl)) (hw _ (List.mem_of_getElem? (i := 13) rfl)) (hw _ (List.mem_of_getElem? (i := 14) rfl)) (by decide) (m3 l Z a0 hw r188 a126 (6 : Int32) v14 h188 n0 N (PK N mk (g3 p1 p2 p3) 2) 6 q188.1 AX ⟨by decide, by decide⟩ xn hb.le8.1) at_289 292 rfl (lenOf pd_5 rfl) rfl 0 (Nat.le_of_eq rfl) (by decide) (by decide) 3 19 rfl rfl (by decide) (by decide) rfl (fun r289 h289 q289 => ?_)
                              obtain ⟨hr289, rfl⟩ := q289
                              subst hr289
                              refine g_ifeq C at_292 313 (by decide) 295 rfl (fun k292 => ?_) (fun k292 => ?_)
                              · exact absurd k292 (by decide)
                              · refine g_aload C at_295 297 rfl rfl rfl ?_
                                refine g_aload C at_297 299 rfl rfl rfl ?_
                                refine g_bipush C at_299 301 rfl (7 : Int32) (by decide) ?_
                                refine g_iload C at_301 303 rfl rfl ?_
                                refine c_staticI C [(.ref r188), (.ref a126), (.int (7 : Int32)), (.int v14)] [] (hw _ (List.mem_of_getElem? (i := 11) rfl)) (hw _ (List.mem_of_getElem? (i := 12) rfl)) (hw _ (List.mem_of_getElem? (i := 13) rfl)) (hw _ (List.mem_of_getElem? (i := 14) rfl)) (by decide) (m3 l Z a0 hw r188 a126 (7 : Int32) v14 h188 n0 N (PK N mk (g3 p1 p2 p3) 2) 7 q188.1 AX ⟨by decide, by decide⟩ xn hb.le8.1) at_303 306 rfl (lenOf pd_5 rfl) rfl 0 (Nat.le_of_eq rfl) (by decide) (by decide) 3 19 rfl rfl (by decide) (by decide) rfl (fun r303 h303 q303 => ?_)
                                obtain ⟨hr303, rfl⟩ := q303
                                subst hr303
                                refine g_ifeq C at_306 313 (by decide) 309 rfl (fun k306 => ?_) (fun k306 => ?_)
                                · exact absurd k306 (by decide)
                                · refine g_iconst C at_309 310 rfl (1 : Int32) (by decide) ?_
                                  refine g_goto C at_310 314 (by decide) ?_
                                  refine r_nar C (by simp) at_314 (by decide) (by decide) rfl
                · exact absurd rfl k198
              · exact absurd k166 (by decide)
        · exact absurd k99 (by decide)
  · refine g_astore C at_51 53 rfl #[.val (.int p0), .val (.long p1), .second, .val (.long p2), .second, .val (.long p3), .second, .val (.int v8), .val (.int v14), .val (.int mk), .val (.int (3 : Int32)), .val (.ref a36), .unset, .unset, .unset, .unset, .unset] rfl rfl ?_
    refine g_iload C at_53 55 rfl rfl ?_
    refine g_ifle C at_55 67 (by decide) 58 rfl (fun k55 => ?_) (fun k55 => ?_)
    · exact absurd k55 (by decide)
    · refine g_lloadN C at_58 59 rfl rfl ?_
      refine g_iload C at_59 61 rfl rfl ?_
      refine c_staticI C [(.long p1), (.int v8)] [] (hw _ (List.mem_of_getElem? (i := 15) rfl)) (hw _ (List.mem_of_getElem? (i := 16) rfl)) (hw _ (List.mem_of_getElem? (i := 13) rfl)) (hw _ (List.mem_of_getElem? (i := 17) rfl)) (by decide) (m4 l Z a0 hw p1 v8 h50 n0) at_61 64 rfl (lenOf pd_1 rfl) rfl 0 (Nat.le_of_eq rfl) (by decide) (by decide) 1 3 rfl rfl (by decide) (by decide) rfl (fun r61 h61 q61 => ?_)
      obtain ⟨hr61, rfl⟩ := q61
      have x61 : Ix r61 (hmN p1 N) := by rw [hr61]; exact own_hmB hb
      refine g_goto C at_64 68 (by decide) ?_
      refine g_istore C at_68 70 rfl (fun z' => #[.val (.int p0), .val (.long p1), .second, .val (.long p2), .second, .val (.long p3), .second, .val (.int v8), .val (.int v14), .val (.int mk), .val (.int (3 : Int32)), .val (.ref a36), .val (.int z'), .unset, .unset, .unset, .unset]) (fun _ => rfl) (fun v68 ev68 => ?_)
      have x68 : Ix v68 (hmN p1 N) := by rw [ev68]; exact x61
      refine g_iload C at_70 72 rfl rfl ?_
      refine g_iconst C at_72 73 rfl (1 : Int32) (by decide) ?_
      refine g_if_icmple C at_73 93 (by decide) 76 rfl (fun k73 => ?_) (fun k73 => ?_)
      · exact absurd k73 (by decide)
      · refine g_lloadN C at_76 77 rfl rfl ?_
        refine g_iload C at_77 79 rfl rfl ?_
        refine c_staticI C [(.long p2), (.int v8)] [] (hw _ (List.mem_of_getElem? (i := 15) rfl)) (hw _ (List.mem_of_getElem? (i := 16) rfl)) (hw _ (List.mem_of_getElem? (i := 13) rfl)) (hw _ (List.mem_of_getElem? (i := 17) rfl)) (by decide) (m4 l Z a0 hw p2 v8 h50 n0) at_79 82 rfl (lenOf pd_1 rfl) rfl 0 (Nat.le_of_eq rfl) (by decide) (by decide) 1 3 rfl rfl (by decide) (by decide) rfl (fun r79 h79 q79 => ?_)
        obtain ⟨hr79, rfl⟩ := q79
        have x79 : Ix r79 (hmN p2 N) := by rw [hr79]; exact own_hmB hb
        refine g_iload C at_82 84 rfl rfl ?_
        refine g_iconst C at_84 85 rfl (-1 : Int32) (by decide) ?_
        refine g_iload C at_85 87 rfl rfl ?_
        refine c_staticI C [(.int r79), (.int v68), (.int (-1 : Int32)), (.int mk)] [] (hw _ (List.mem_of_getElem? (i := 21) rfl)) (hw _ (List.mem_of_getElem? (i := 22) rfl)) (hw _ (List.mem_of_getElem? (i := 13) rfl)) (hw _ (List.mem_of_getElem? (i := 23) rfl)) (by decide) (m6 l Z a0 hw r79 v68 (-1 : Int32) mk h50 n0) at_87 90 rfl (lenOf pd_2 rfl) rfl 0 (Nat.le_of_eq rfl) (by decide) (by decide) 1 3 rfl rfl (by decide) (by decide) rfl (fun r87 h87 q87 => ?_)
        obtain ⟨hr87, rfl⟩ := q87
        have h4 : 4 ≤ N := own_N4 hb (by omega)
        have x87 : Ix r87 (pr (PK N mk (g3 p1 p2 p3) 1) N (hmN p2 N)) := by rw [hr87]; exact own_ff hb x79 (hm_lt hb) (fun x j hx hj => ⟨fun z => (PK1_z hb h4 j).mpr (z.elim (fun e => (hx.eq x68).mp e) (fun e => absurd e (own_m1 hx))), fun z => Or.inl ((hx.eq x68).mpr ((PK1_z hb h4 j).mp z))⟩)
        refine g_goto C at_90 94 (by decide) ?_
        refine g_istore C at_94 96 rfl (fun z' => #[.val (.int p0), .val (.long p1), .second, .val (.long p2), .second, .val (.long p3), .second, .val (.int v8), .val (.int v14), .val (.int mk), .val (.int (3 : Int32)), .val (.ref a36), .val (.int v68), .val (.int z'), .unset, .unset, .unset]) (fun _ => rfl) (fun v94 ev94 => ?_)
        have x94 : Ix v94 (pr (PK N mk (g3 p1 p2 p3) 1) N (hmN p2 N)) := by rw [ev94]; exact x87
        refine g_iload C at_96 98 rfl rfl ?_
        refine g_iconst C at_98 99 rfl (2 : Int32) (by decide) ?_
        refine g_if_icmple C at_99 121 (by decide) 102 rfl (fun k99 => ?_) (fun k99 => ?_)
        · exact absurd k99 (by decide)
        · refine g_lload C at_102 104 rfl rfl ?_
          refine g_iload C at_104 106 rfl rfl ?_
          refine c_staticI C [(.long p3), (.int v8)] [] (hw _ (List.mem_of_getElem? (i := 15) rfl)) (hw _ (List.mem_of_getElem? (i := 16) rfl)) (hw _ (List.mem_of_getElem? (i := 13) rfl)) (hw _ (List.mem_of_getElem? (i := 17) rfl)) (by decide) (m4 l Z a0 hw p3 v8 h50 n0) at_106 109 rfl (lenOf pd_1 rfl) rfl 0 (Nat.le_of_eq rfl) (by decide) (by decide) 1 3 rfl rfl (by decide) (by decide) rfl (fun r106 h106 q106 => ?_)
          obtain ⟨hr106, rfl⟩ := q106
          have x106 : Ix r106 (hmN p3 N) := by rw [hr106]; exact own_hmB hb
          refine g_iload C at_109 111 rfl rfl ?_
          refine g_iload C at_111 113 rfl rfl ?_
          refine g_iload C at_113 115 rfl rfl ?_
          refine c_staticI C [(.int r106), (.int v68), (.int v94), (.int mk)] [] (hw _ (List.mem_of_getElem? (i := 21) rfl)) (hw _ (List.mem_of_getElem? (i := 22) rfl)) (hw _ (List.mem_of_getElem? (i := 13) rfl)) (hw _ (List.mem_of_getElem? (i := 23) rfl)) (by decide) (m6 l Z a0 hw r106 v68 v94 mk h50 n0) at_115 118 rfl (lenOf pd_2 rfl) rfl 0 (Nat.le_of_eq rfl) (by decide) (by decide) 1 3 rfl rfl (by decide) (by decide) rfl (fun r115 h115 q115 => ?_)
          obtain ⟨hr115, rfl⟩ := q115
          have x115 : Ix r115 (pr (PK N mk (g3 p1 p2 p3) 2) N (hmN p3 N)) := by rw [hr115]; exact own_ff hb x106 (hm_lt hb) (fun x j hx hj => ⟨fun z => (PK2_z hb h4 j).mpr (z.elim (fun e => Or.inl ((hx.eq x68).mp e)) (fun e => Or.inr ((hx.eq x94).mp e))), fun z => ((PK2_z hb h4 j).mp z).elim (fun e => Or.inl ((hx.eq x68).mpr e)) (fun e => Or.inr ((hx.eq x94).mpr e))⟩)
          refine g_goto C at_118 122 (by decide) ?_
          refine g_istore C at_122 124 rfl (fun z' => #[.val (.int p0), .val (.long p1), .second, .val (.long p2), .second, .val (.long p3), .second, .val (.int v8), .val (.int v14), .val (.int mk), .val (.int (3 : Int32)), .val (.ref a36), .val (.int v68), .val (.int v94), .val (.int z'), .unset, .unset]) (fun _ => rfl) (fun v122 ev122 => ?_)
          have x122 : Ix v122 (pr (PK N mk (g3 p1 p2 p3) 2) N (hmN p3 N)) := by rw [ev122]; exact x115
          refine g_bipush C at_124 126 rfl (8 : Int32) (by decide) ?_
          refine g_newarray C (hw _ (List.mem_of_getElem? (i := 6) rfl)) 8 8 ⟨by decide, by decide⟩ (by decide) (by decide) at_126 128 rfl 2 11 rfl rfl (by decide) (by decide) (fun h126 a126 ga126 E126 A126 => ?_)
          have n126 : n0 ≤ a126 := by rw [ga126]; exact Z50
          have Z126 : n0 ≤ h126.size := Nat.le_trans Z50 E126.1
          have AH126 := AHs.ext E126
          have nh : a36 ≠ a126 := by rw [ga126]; exact Nat.ne_of_lt AHs.lt
          refine g_astore C at_128 130 rfl #[.val (.int p0), .val (.long p1), .second, .val (.long p2), .second, .val (.long p3), .second, .val (.int v8), .val (.int v14), .val (.int mk), .val (.int (3 : Int32)), .val (.ref a36), .val (.int v68), .val (.int v94), .val (.int v122), .val (.ref a126), .unset] rfl rfl ?_
          refine g_iload C at_130 132 rfl rfl ?_
          refine g_iflt C at_132 147 (by decide) 135 rfl (fun k132 => ?_) (fun k132 => ?_)
          · exact absurd k132 x68.1
          · refine g_aload C at_135 137 rfl rfl rfl ?_
            refine g_iload C at_137 139 rfl rfl ?_
            refine g_lloadN C at_139 140 rfl rfl ?_
            refine g_iload C at_140 142 rfl rfl ?_
            refine g_iconst C at_142 143 rfl (0 : Int32) (by decide) ?_
            refine c_staticI C [(.long p1), (.int mk), (.int (0 : Int32))] [(.int v68), (.ref a126)] (hw _ (List.mem_of_getElem? (i := 18) rfl)) (hw _ (List.mem_of_getElem? (i := 19) rfl)) (hw _ (List.mem_of_getElem? (i := 13) rfl)) (hw _ (List.mem_of_getElem? (i := 20) rfl)) (by decide) (m5 l Z a0 hw p1 mk (0 : Int32) h126 n0) at_143 146 rfl (lenOf pd_3 rfl) rfl 2 (Nat.le_of_eq rfl) (by decide) (by decide) 2 11 rfl rfl (by decide) (by decide) rfl (fun r143 h143 q143 => ?_)
            obtain ⟨hr143, rfl⟩ := q143
            refine g_iastore C A126 (hmN p1 N) x68 (by have := hm_lt (x := p1) hb; have := hb.le8; omega) at_146 147 rfl n126 (fun h146 W146 A146 => ?_)
            have AE1 : Ary Z h146 a126 .int 8 (fun j => .int ((PK N mk (g3 p1 p2 p3) 1) j)) := A146.congr (fun j hj => by
              show _ = Value.int ((PK N mk (g3 p1 p2 p3) 1) j)
              rw [PK1, upI, updA, hr143]
              by_cases q : j = (hmN p1 N)
              · rw [if_pos q]; exact congrArg Value.int (if_pos q).symm
              · rw [if_neg q]; exact congrArg Value.int (if_neg q).symm)
            have AH146 := AH126.other W146 nh
            refine g_iload C at_147 149 rfl rfl ?_
            refine g_iflt C at_149 164 (by decide) 152 rfl (fun k149 => ?_) (fun k149 => ?_)
            · exact absurd k149 x94.1
            · refine g_aload C at_152 154 rfl rfl rfl ?_
              refine g_iload C at_154 156 rfl rfl ?_
              refine g_lloadN C at_156 157 rfl rfl ?_
              refine g_iload C at_157 159 rfl rfl ?_
              refine g_iconst C at_159 160 rfl (1 : Int32) (by decide) ?_
              refine c_staticI C [(.long p2), (.int mk), (.int (1 : Int32))] [(.int v94), (.ref a126)] (hw _ (List.mem_of_getElem? (i := 18) rfl)) (hw _ (List.mem_of_getElem? (i := 19) rfl)) (hw _ (List.mem_of_getElem? (i := 13) rfl)) (hw _ (List.mem_of_getElem? (i := 20) rfl)) (by decide) (m5 l Z a0 hw p2 mk (1 : Int32) h146 n0) at_160 163 rfl (lenOf pd_3 rfl) rfl 2 (Nat.le_of_eq rfl) (by decide) (by decide) 2 11 rfl rfl (by decide) (by decide) rfl (fun r160 h160 q160 => ?_)
              obtain ⟨hr160, rfl⟩ := q160
              refine g_iastore C AE1 (pr (PK N mk (g3 p1 p2 p3) 1) N (hmN p2 N)) x94 (by have := pr_lt (f := (PK N mk (g3 p1 p2 p3) 1)) hb.le8.2 (hm_lt (x := p2) hb); have := hb.le8; omega) at_163 164 rfl n126 (fun h163 W163 A163 => ?_)
              have AE2 : Ary Z h163 a126 .int 8 (fun j => .int ((PK N mk (g3 p1 p2 p3) 2) j)) := A163.congr (fun j hj => by
                show _ = Value.int (upI (PK N mk (g3 p1 p2 p3) 1) (pr (PK N mk (g3 p1 p2 p3) 1) N (hmN p2 N)) (stI p2 mk (k32 1)) j)
                rw [upI, updA, hr160]
                by_cases q : j = (pr (PK N mk (g3 p1 p2 p3) 1) N (hmN p2 N))
                · rw [if_pos q, if_pos q]; rfl
                · rw [if_neg q, if_neg q])
              have AH163 := AH146.other W163 nh
              refine g_iload C at_164 166 rfl rfl ?_
              refine g_iflt C at_166 182 (by decide) 169 rfl (fun k166 => ?_) (fun k166 => ?_)
              · exact absurd k166 x122.1
              · refine g_aload C at_169 171 rfl rfl rfl ?_
                refine g_iload C at_171 173 rfl rfl ?_
                refine g_lload C at_173 175 rfl rfl ?_
                refine g_iload C at_175 177 rfl rfl ?_
                refine g_iconst C at_177 178 rfl (2 : Int32) (by decide) ?_
                refine c_staticI C [(.long p3), (.int mk), (.int (2 : Int32))] [(.int v122), (.ref a126)] (hw _ (List.mem_of_getElem? (i := 18) rfl)) (hw _ (List.mem_of_getElem? (i := 19) rfl)) (hw _ (List.mem_of_getElem? (i := 13) rfl)) (hw _ (List.mem_of_getElem? (i := 20) rfl)) (by decide) (m5 l Z a0 hw p3 mk (2 : Int32) h163 n0) at_178 181 rfl (lenOf pd_3 rfl) rfl 2 (Nat.le_of_eq rfl) (by decide) (by decide) 2 11 rfl rfl (by decide) (by decide) rfl (fun r178 h178 q178 => ?_)
                obtain ⟨hr178, rfl⟩ := q178
                refine g_iastore C AE2 (pr (PK N mk (g3 p1 p2 p3) 2) N (hmN p3 N)) x122 (by have := pr_lt (f := (PK N mk (g3 p1 p2 p3) 2)) hb.le8.2 (hm_lt (x := p3) hb); have := hb.le8; omega) at_181 182 rfl n126 (fun h181 W181 A181 => ?_)
                have AE3 : Ary Z h181 a126 .int 8 (fun j => .int ((PK N mk (g3 p1 p2 p3) 3) j)) := A181.congr (fun j hj => by
                  show _ = Value.int (upI (PK N mk (g3 p1 p2 p3) 2) (pr (PK N mk (g3 p1 p2 p3) 2) N (hmN p3 N)) (stI p3 mk (k32 2)) j)
                  rw [upI, updA, hr178]
                  by_cases q : j = (pr (PK N mk (g3 p1 p2 p3) 2) N (hmN p3 N))
                  · rw [if_pos q, if_pos q]; rfl
                  · rw [if_neg q, if_neg q])
                have AH181 := AH163.other W181 nh
                refine g_iload C at_182 184 rfl rfl ?_
                refine g_aload C at_184 186 rfl rfl rfl ?_
                refine g_iload C at_186 188 rfl rfl ?_
                have Z9 : n0 ≤ h181.size := by rw [W181.size, W163.size, W146.size]; exact Z126
                refine c_staticA C [(.int v8), (.ref a36), (.int (3 : Int32))] [] (hw _ (List.mem_of_getElem? (i := 7) rfl)) (hw _ (List.mem_of_getElem? (i := 8) rfl)) (hw _ (List.mem_of_getElem? (i := 9) rfl)) (hw _ (List.mem_of_getElem? (i := 10) rfl)) (by decide) (m2 l Z a0 hw v8 a36 (3 : Int32) h181 n0 N 3 mk (g3 p1 p2 p3) hb Z9 AH181 xc c3 cN) at_188 191 rfl (lenOf pd_4 rfl) rfl 0 (Nat.le_of_eq rfl) (by decide) (by decide) 3 19 rfl rfl (by decide) (by decide) rfl (fun r188 h188 q188 => ?_)
                have AX := AE3.keep q188.2 (by simp)
                refine g_astore C at_191 193 rfl #[.val (.int p0), .val (.long p1), .second, .val (.long p2), .second, .val (.long p3), .second, .val (.int v8), .val (.int v14), .val (.int mk), .val (.int (3 : Int32)), .val (.ref a36), .val (.int v68), .val (.int v94), .val (.int v122), .val (.ref a126), .val (.ref r188)] rfl rfl ?_
                refine g_aload C at_193 195 rfl rfl rfl ?_
                refine g_arraylength C q188.1 v14 xn at_195 196 rfl ?_
                refine g_iload C at_196 198 rfl rfl ?_
                refine g_if_icmpeq C at_198 203 (by decide) 201 rfl (fun k198 => ?_) (fun k198 => ?_)
                · refine g_aload C at_203 205 rfl rfl rfl ?_
                  refine g_aload C at_205 207 rfl rfl rfl ?_
                  refine g_iconst C at_207 208 rfl (0 : Int32) (by decide) ?_
                  refine g_iload C at_208 210 rfl rfl ?_
                  refine c_staticI C [(.ref r188), (.ref a126), (.int (0 : Int32)), (.int v14)] [] (hw _ (List.mem_of_getElem? (i := 11) rfl)) (hw _ (List.mem_of_getElem? (i := 12) rfl)) (hw _ (List.mem_of_getElem? (i := 13) rfl)) (hw _ (List.mem_of_getElem? (i := 14) rfl)) (by decide) (m3 l Z a0 hw r188 a126 (0 : Int32) v14 h188 n0 N (PK N mk (g3 p1 p2 p3) 3) 0 q188.1 AX ⟨by decide, by decide⟩ xn hb.le8.1) at_210 213 rfl (lenOf pd_5 rfl) rfl 0 (Nat.le_of_eq rfl) (by decide) (by decide) 3 19 rfl rfl (by decide) (by decide) rfl (fun r210 h210 q210 => ?_)
                  obtain ⟨hr210, rfl⟩ := q210
                  subst hr210
                  refine g_ifeq C at_213 313 (by decide) 216 rfl (fun k213 => ?_) (fun k213 => ?_)
                  · exact absurd k213 (by decide)
                  · refine g_aload C at_216 218 rfl rfl rfl ?_
                    refine g_aload C at_218 220 rfl rfl rfl ?_
                    refine g_iconst C at_220 221 rfl (1 : Int32) (by decide) ?_
                    refine g_iload C at_221 223 rfl rfl ?_
                    refine c_staticI C [(.ref r188), (.ref a126), (.int (1 : Int32)), (.int v14)] [] (hw _ (List.mem_of_getElem? (i := 11) rfl)) (hw _ (List.mem_of_getElem? (i := 12) rfl)) (hw _ (List.mem_of_getElem? (i := 13) rfl)) (hw _ (List.mem_of_getElem? (i := 14) rfl)) (by decide) (m3 l Z a0 hw r188 a126 (1 : Int32) v14 h188 n0 N (PK N mk (g3 p1 p2 p3) 3) 1 q188.1 AX ⟨by decide, by decide⟩ xn hb.le8.1) at_223 226 rfl (lenOf pd_5 rfl) rfl 0 (Nat.le_of_eq rfl) (by decide) (by decide) 3 19 rfl rfl (by decide) (by decide) rfl (fun r223 h223 q223 => ?_)
                    obtain ⟨hr223, rfl⟩ := q223
                    subst hr223
                    refine g_ifeq C at_226 313 (by decide) 229 rfl (fun k226 => ?_) (fun k226 => ?_)
                    · exact absurd k226 (by decide)
                    · refine g_aload C at_229 231 rfl rfl rfl ?_
                      refine g_aload C at_231 233 rfl rfl rfl ?_
                      refine g_iconst C at_233 234 rfl (2 : Int32) (by decide) ?_
                      refine g_iload C at_234 236 rfl rfl ?_
                      refine c_staticI C [(.ref r188), (.ref a126), (.int (2 : Int32)), (.int v14)] [] (hw _ (List.mem_of_getElem? (i := 11) rfl)) (hw _ (List.mem_of_getElem? (i := 12) rfl)) (hw _ (List.mem_of_getElem? (i := 13) rfl)) (hw _ (List.mem_of_getElem? (i := 14) rfl)) (by decide) (m3 l Z a0 hw r188 a126 (2 : Int32) v14 h188 n0 N (PK N mk (g3 p1 p2 p3) 3) 2 q188.1 AX ⟨by decide, by decide⟩ xn hb.le8.1) at_236 239 rfl (lenOf pd_5 rfl) rfl 0 (Nat.le_of_eq rfl) (by decide) (by decide) 3 19 rfl rfl (by decide) (by decide) rfl (fun r236 h236 q236 => ?_)
                      obtain ⟨hr236, rfl⟩ := q236
                      subst hr236
                      refine g_ifeq C at_239 313 (by decide) 242 rfl (fun k239 => ?_) (fun k239 => ?_)
                      · exact absurd k239 (by decide)
                      · refine g_aload C at_242 244 rfl rfl rfl ?_
                        refine g_aload C at_244 246 rfl rfl rfl ?_
                        refine g_iconst C at_246 247 rfl (3 : Int32) (by decide) ?_
                        refine g_iload C at_247 249 rfl rfl ?_
                        refine c_staticI C [(.ref r188), (.ref a126), (.int (3 : Int32)), (.int v14)] [] (hw _ (List.mem_of_getElem? (i := 11) rfl)) (hw _ (List.mem_of_getElem? (i := 12) rfl)) (hw _ (List.mem_of_getElem? (i := 13) rfl)) (hw _ (List.mem_of_getElem? (i := 14) rfl)) (by decide) (m3 l Z a0 hw r188 a126 (3 : Int32) v14 h188 n0 N (PK N mk (g3 p1 p2 p3) 3) 3 q188.1 AX ⟨by decide, by decide⟩ xn hb.le8.1) at_249 252 rfl (lenOf pd_5 rfl) rfl 0 (Nat.le_of_eq rfl) (by decide) (by decide) 3 19 rfl rfl (by decide) (by decide) rfl (fun r249 h249 q249 => ?_)
                        obtain ⟨hr249, rfl⟩ := q249
                        subst hr249
                        refine g_ifeq C at_252 313 (by decide) 255 rfl (fun k252 => ?_) (fun k252 => ?_)
                        · exact absurd k252 (by decide)
                        · refine g_aload C at_255 257 rfl rfl rfl ?_
                          refine g_aload C at_257 259 rfl rfl rfl ?_
                          refine g_iconst C at_259 260 rfl (4 : Int32) (by decide) ?_
                          refine g_iload C at_260 262 rfl rfl ?_
                          refine c_staticI C [(.ref r188), (.ref a126), (.int (4 : Int32)), (.int v14)] [] (hw _ (List.mem_of_getElem? (i := 11) rfl)) (hw _ (List.mem_of_getElem? (i := 12) rfl)) (hw _ (List.mem_of_getElem? (i := 13) rfl)) (hw _ (List.mem_of_getElem? (i := 14) rfl)) (by decide) (m3 l Z a0 hw r188 a126 (4 : Int32) v14 h188 n0 N (PK N mk (g3 p1 p2 p3) 3) 4 q188.1 AX ⟨by decide, by decide⟩ xn hb.le8.1) at_262 265 rfl (lenOf pd_5 rfl) rfl 0 (Nat.le_of_eq rfl) (by decide) (by decide) 3 19 rfl rfl (by decide) (by decide) rfl (fun r262 h262 q262 => ?_)
                          obtain ⟨hr262, rfl⟩ := q262
                          subst hr262
                          refine g_ifeq C at_265 313 (by decide) 268 rfl (fun k265 => ?_) (fun k265 => ?_)
                          · exact absurd k265 (by decide)
                          · refine g_aload C at_268 270 rfl rfl rfl ?_
                            refine g_aload C at_270 272 rfl rfl rfl ?_
                            refine g_iconst C at_272 273 rfl (5 : Int32) (by decide) ?_
                            refine g_iload C at_273 275 rfl rfl ?_
                            refine c_staticI C [(.ref r188), (.ref a126), (.int (5 : Int32)), (.int v14)] [] (hw _ (List.mem_of_getElem? (i := 11) rfl)) (hw _ (List.mem_of_getElem? (i := 12) rfl)) (hw _ (List.mem_of_getElem? (i := 13) rfl)) (hw _ (List.mem_of_getElem? (i := 14) rfl)) (by decide) (m3 l Z a0 hw r188 a126 (5 : Int32) v14 h188 n0 N (PK N mk (g3 p1 p2 p3) 3) 5 q188.1 AX ⟨by decide, by decide⟩ xn hb.le8.1) at_275 278 rfl (lenOf pd_5 rfl) rfl 0 (Nat.le_of_eq rfl) (by decide) (by decide) 3 19 rfl rfl (by decide) (by decide) rfl (fun r275 h275 q275 => ?_)
                            obtain ⟨hr275, rfl⟩ := q275
                            subst hr275
                            refine g_ifeq C at_278 313 (by decide) 281 rfl (fun k278 => ?_) (fun k278 => ?_)
                            · exact absurd k278 (by decide)
                            · refine g_aload C at_281 283 rfl rfl rfl ?_
                              refine g_aload C at_283 285 rfl rfl rfl ?_
                              refine g_bipush C at_285 287 rfl (6 : Int32) (by decide) ?_
                              refine g_iload C at_287 289 rfl rfl ?_
                              refine c_staticI C [(.ref r188), (.ref a126), (.int (6 : Int32)), (.int v14)] [] (hw _ (List.mem_of_getElem? (i := 11) rfl)) (hw _ (List.mem_of_getElem? (i := 12) rfl)) (hw _ (List.mem_of_getElem? (i := 13) rfl)) (hw _ (List.mem_of_getElem? (i := 14) rfl)) (by decide) (m3 l Z a0 hw r188 a126 (6 : Int32) v14 h188 n0 N (PK N mk (g3 p1 p2 p3) 3) 6 q188.1 AX ⟨by decide, by decide⟩ xn hb.le8.1) at_289 292 rfl (lenOf pd_5 rfl) rfl 0 (Nat.le_of_eq rfl) (by decide) (by decide) 3 19 rfl rfl (by decide) (by decide) rfl (fun r289 h289 q289 => ?_)
                              obtain ⟨hr289, rfl⟩ := q289
                              subst hr289
                              refine g_ifeq C at_292 313 (by decide) 295 rfl (fun k292 => ?_) (fun k292 => ?_)
                              · exact absurd k292 (by decide)
                              · refine g_aload C at_295 297 rfl rfl rfl ?_
                                refine g_aload C at_297 299 rfl rfl rfl ?_
                                refine g_bipush C at_299 301 rfl (7 : Int32) (by decide) ?_
                                refine g_iload C at_301 303 rfl rfl ?_
                                refine c_staticI C [(.ref r188), (.ref a126), (.int (7 : Int32)), (.int v14)] [] (hw _ (List.mem_of_getElem? (i := 11) rfl)) (hw _ (List.mem_of_getElem? (i := 12) rfl)) (hw _ (List.mem_of_getElem? (i := 13) rfl)) (hw _ (List.mem_of_getElem? (i := 14) rfl)) (by decide) (m3 l Z a0 hw r188 a126 (7 : Int32) v14 h188 n0 N (PK N mk (g3 p1 p2 p3) 3) 7 q188.1 AX ⟨by decide, by decide⟩ xn hb.le8.1) at_303 306 rfl (lenOf pd_5 rfl) rfl 0 (Nat.le_of_eq rfl) (by decide) (by decide) 3 19 rfl rfl (by decide) (by decide) rfl (fun r303 h303 q303 => ?_)
                                obtain ⟨hr303, rfl⟩ := q303
                                subst hr303
                                refine g_ifeq C at_306 313 (by decide) 309 rfl (fun k306 => ?_) (fun k306 => ?_)
                                · exact absurd k306 (by decide)
                                · refine g_iconst C at_309 310 rfl (1 : Int32) (by decide) ?_
                                  refine g_goto C at_310 314 (by decide) ?_
                                  refine r_nar C (by simp) at_314 (by decide) (by decide) rfl
                · exact absurd rfl k198
set_option maxRecDepth 65536 in
set_option maxHeartbeats 40000000 in
theorem comes_1 {Post : Tables → Env → Array Value → State → Outcome → State → Prop} (hpost : ∀ tb e args s v u, (limb_1_1.after args s (.returned v) u = true ∧ limb_1_2.after args s (.returned v) u = true ∧ True) → FrameEnd s (.returned v) u (Jvm.fieldLocs frame_1_writes args s ++ Jvm.arrayLocs frame_1_arrays args s ++ Jvm.staticLocs frame_1_statics s) 16 128 → Post tb e args s (.returned v) u) :
    ArmFor flags0 classFile x code maxLocals ret World_1 tables_1 room_1 Calls_1 rest_1 Pre_1 Post := by
  intro l hfl _ _ p e ha hc hk s m args below hf hA hF happ hP
  obtain ⟨hcalls, hrest, hpre⟩ := hP
  obtain ⟨-, -, -, hnamed, -, -, -, hat⟩ := (Spec.applies_iff hf).mp happ
  obtain ⟨hg, hn⟩ := and_e (Cond.before_iff.mp (show (Jvm.Cond.and given_1 narrow_1).before args s = true from hpre))
  obtain ⟨h1, g0⟩ := and_e hg
  obtain ⟨w0, w1, w2, w3, rfl⟩ : ∃ w0 w1 w2 w3 : Value, args = #[w0, w1, w2, w3] := by
    have hs : args.size = 4 := by simpa [Cond.value, given_1] using h1
    obtain ⟨L⟩ := args
    match L, hs with
    | [w0, w1, w2, w3], _ => exact ⟨w0, w1, w2, w3, rfl⟩
  have hw := fun d (hd : d ∈ tables_1) => atoms_spec (ws := Jvm.Cond.code x code maxLocals ret :: tables_1) hat d (List.mem_cons_of_mem _ hd)
  obtain ⟨b0, g1⟩ := and_e g0
  obtain ⟨i0, q0⟩ := is_v b0
  obtain rfl : w0 = (.int i0) := Option.some.inj q0
  obtain ⟨b1, g2⟩ := and_e g1
  obtain ⟨i1, q1⟩ := isL_v b1
  obtain rfl : w1 = (.long i1) := Option.some.inj q1
  obtain ⟨b2, g3⟩ := and_e g2
  obtain ⟨i2, q2⟩ := isL_v b2
  obtain rfl : w2 = (.long i2) := Option.some.inj q2
  obtain ⟨i3, q3⟩ := isL_v g3
  obtain rfl : w3 = (.long i3) := Option.some.inj q3
  obtain ⟨n, o, h1, h2, h3, _, L, rfl, ⟨⟨r, rfl, rfl⟩, N⟩, hq⟩ := m0 l s _ hw i0 i1 i2 i3 s.heap s.heap.size (Nat.le_refl _) tables_1 p e ha hc hk s m _ below hf ((Spec.applies_iff_loose hf).mp happ).1 ⟨rfl, State.Warmed39.refl s, rfl⟩ trivial
  refine ⟨n, _, h1, h2, h3, hpost _ _ _ _ _ _ ⟨Cond.after_iff.mpr rfl, Cond.after_iff.mpr (eq_i res_at (Term.int_eval (1)) rfl), trivial⟩ ⟨hq.1, hq.2.1, (hq.2.2.sift fun y hy => Or.inr (N y hy)).mono (by decide) (by decide)⟩⟩
theorem main_1_1 : Claimed_1_1 := comes_1 fun _ _ _ _ _ _ h hF => ⟨h.1, hF⟩
theorem main_1_2 : Claimed_1_2 := comes_1 fun _ _ _ _ _ _ h hF => ⟨h.2.1, hF⟩
end Jvm.Pilot.@@N@@
namespace Jvm.Pilot.@@N@@
open Jvm Jvm.ClassFile Sem Op Lib Jvm.Free Jvm.Stand Jvm.Pilot.@@N@@.Jvm.D
/-! MADE BY PROGRAM (witnessworld.py) out of the Statement's table words and the real class files: 12 classes; the members and pool entries that the words name. The judged class is class 1, her method 1. -/
namespace start1
open Jvm.ClassFile
def u (s : String) : CpInfo := .utf8 (stringToUtf16 s)
/-- a pool by its gaps: so many unusable entries, then the entry; so many at the end -/
def gap : Nat → List CpInfo → List CpInfo
  | 0, r => r
  | n + 1, r => .unusable :: gap n r
def poolList (es : List (Nat × CpInfo)) (last : Nat) : List CpInfo := es.foldr (fun e r => gap e.1 (e.2 :: r)) (gap last [])
def pool (es : List (Nat × CpInfo)) (last : Nat) : Array CpInfo := ⟨poolList es last⟩
def fileOf (pool : Array CpInfo) (this : Nat) (attrs : Array Attribute := #[]) (ms : Array MethodInfo := #[]) (fl : Nat := 33) (sup : Nat := 0) (ifs : Array Nat := #[]) (fds : Array FieldInfo := #[]) : ClassFile where
  minorVersion := 0
  majorVersion := 65
  constantPool := pool
  accessFlags := fl
  thisClass := this
  superClass := sup
  interfaces := ifs
  fields := fds
  methods := ms
  attributes := attrs
def plain (name : String) (sup : Option ClassId) : Class where
  name := name
  kind := .ordinary
  loader := none
  accessFlags := 33
  super := sup
  interfaces := #[]
  cf := none
  fields := #[]
  methods := #[]
  instanceTypes := #[]
  staticTypes := #[]
  resolved := #[]
  callSites := []
  init := .initialized
  statics := none
  mirror := none

def pool0 : Array CpInfo := pool [(5, u "<init>"), (0, u "()V"), (1, .class_ 10), (1, u "java/lang/Object")] 113

def k0m0 : Method := { name := "<init>", desc := "()V", sig := { parameters := [], returnType := none }, accessFlags := 1, code := none }
/-- java/lang/Object -/
def k0 : Class := { plain "java/lang/Object" none with
  accessFlags := 33
  interfaces := #[]
  cf := some (fileOf pool0 8 #[] #[{ accessFlags := 1, nameIndex := 5, descriptorIndex := 6, attributes := #[] }] 33 0 #[] #[])
  fields := #[]
  methods := #[k0m0]
  instanceTypes := #[]
  staticTypes := #[]
  resolved := Array.replicate 124 none
  statics := none }

def pool1 : Array CpInfo := pool [(2, .class_ 4), (1, u "java/lang/Object"), (0, u "<init>"), (0, u "()V"), (0, .integer 2147483647), (0, .methodref 9 10), (0, .class_ 11), (0, .nameAndType 12 13), (0, u "java/lang/Math"), (0, u "min"), (0, u "(II)I"), (0, .methodref 15 16), (0, .class_ 17), (0, .nameAndType 18 19), (0, u "nearsign/NumberSlotsPlacedPinLaw"), (0, u "home"), (0, u "(JI)I"), (0, .methodref 15 21), (0, .nameAndType 22 23), (0, u "firstFree"), (0, u "(IIII)I"), (0, .methodref 15 25), (0, .nameAndType 26 27), (0, u "stored"), (0, u "(JII)I"), (0, .methodref 29 30), (0, .class_ 31), (0, .nameAndType 32 33), (0, u "nearsign/NumberSlots"), (0, u "placed"), (0, u "(I[JI)[I"), (0, .methodref 15 35), (0, .nameAndType 36 37), (0, u "ok"), (0, u "([I[III)Z"), (2, u "law"), (0, u "(IJJJ)Z")] 7

def k1m0 : Method := { name := "<init>", desc := "()V", sig := { parameters := [], returnType := none }, accessFlags := 2, code := none }
def k1c1 : Code := { maxStack := 6, maxLocals := 17, code := code, exceptionTable := #[], attributes := #[] }
def k1m1 : Method := { name := "law", desc := "(IJJJ)Z", sig := { parameters := [.int, .long, .long, .long], returnType := some .boolean }, accessFlags := 9, code := some k1c1 }
def k1c2 : Code := { maxStack := 4, maxLocals := 3, code := method_3_code, exceptionTable := #[], attributes := #[] }
def k1m2 : Method := { name := "home", desc := "(JI)I", sig := { parameters := [.long, .int], returnType := some .int }, accessFlags := 10, code := some k1c2 }
def k1c3 : Code := { maxStack := 2, maxLocals := 5, code := method_4_code, exceptionTable := #[], attributes := #[] }
def k1m3 : Method := { name := "firstFree", desc := "(IIII)I", sig := { parameters := [.int, .int, .int, .int], returnType := some .int }, accessFlags := 10, code := some k1c3 }
def k1c4 : Code := { maxStack := 3, maxLocals := 5, code := method_5_code, exceptionTable := #[], attributes := #[] }
def k1m4 : Method := { name := "stored", desc := "(JII)I", sig := { parameters := [.long, .int, .int], returnType := some .int }, accessFlags := 10, code := some k1c4 }
def k1c5 : Code := { maxStack := 3, maxLocals := 4, code := method_6_code, exceptionTable := #[], attributes := #[] }
def k1m5 : Method := { name := "ok", desc := "([I[III)Z", sig := { parameters := [(.array .int), (.array .int), .int, .int], returnType := some .boolean }, accessFlags := 10, code := some k1c5 }
/-- nearsign/NumberSlotsPlacedPinLaw -/
def k1 : Class := { plain "nearsign/NumberSlotsPlacedPinLaw" (some 0) with
  accessFlags := 49
  interfaces := #[]
  cf := some (fileOf pool1 15 #[] #[{ accessFlags := 2, nameIndex := 5, descriptorIndex := 6, attributes := #[] }, { accessFlags := 9, nameIndex := 40, descriptorIndex := 41, attributes := #[] }, { accessFlags := 10, nameIndex := 18, descriptorIndex := 19, attributes := #[] }, { accessFlags := 10, nameIndex := 22, descriptorIndex := 23, attributes := #[] }, { accessFlags := 10, nameIndex := 26, descriptorIndex := 27, attributes := #[] }, { accessFlags := 10, nameIndex := 36, descriptorIndex := 37, attributes := #[] }] 49 2 #[] #[])
  fields := #[]
  methods := #[k1m0, k1m1, k1m2, k1m3, k1m4, k1m5]
  instanceTypes := #[]
  staticTypes := #[]
  resolved := Array.replicate 49 none
  statics := none }

def pool2 : Array CpInfo := pool [(1, .class_ 2), (0, u "java/lang/Math"), (1, .class_ 6), (1, u "java/lang/Object"), (0, u "<init>"), (0, u "()V"), (89, .class_ 100), (1, u "java/lang/Math$RandomNumberGeneratorHolder"), (71, u "negativeZeroFloatBits"), (0, u "J"), (2, u "negativeZeroDoubleBits"), (24, u "min"), (43, u "$assertionsDisabled"), (0, u "Z"), (88, u "(II)I"), (2, u "twoToTheDoubleScaleDown"), (0, u "D"), (4, u "twoToTheDoubleScaleUp"), (9, u "E"), (3, u "PI"), (2, u "TAU"), (2, u "DEGREES_TO_RADIANS"), (0, u "RADIANS_TO_DEGREES")] 94

def k2m0 : Method := { name := "<init>", desc := "()V", sig := { parameters := [], returnType := none }, accessFlags := 2, code := none }
def k2c1 : Code := { maxStack := 2, maxLocals := 2, code := jdk_29_method_69_code, exceptionTable := #[], attributes := #[] }
def k2m1 : Method := { name := "min", desc := "(II)I", sig := { parameters := [.int, .int], returnType := some .int }, accessFlags := 9, code := some k2c1 }
/-- java/lang/Math -/
def k2 : Class := { plain "java/lang/Math" (some 0) with
  accessFlags := 49
  interfaces := #[]
  cf := some (fileOf pool2 1 #[.nestMembers #[98]] #[{ accessFlags := 2, nameIndex := 7, descriptorIndex := 8, attributes := #[] }, { accessFlags := 9, nameIndex := 201, descriptorIndex := 335, attributes := #[] }] 49 4 #[] #[{ accessFlags := 25, nameIndex := 354, descriptorIndex := 339, attributes := #[] }, { accessFlags := 25, nameIndex := 358, descriptorIndex := 339, attributes := #[] }, { accessFlags := 25, nameIndex := 361, descriptorIndex := 339, attributes := #[] }, { accessFlags := 26, nameIndex := 364, descriptorIndex := 339, attributes := #[] }, { accessFlags := 26, nameIndex := 365, descriptorIndex := 339, attributes := #[] }, { accessFlags := 26, nameIndex := 172, descriptorIndex := 173, attributes := #[] }, { accessFlags := 26, nameIndex := 176, descriptorIndex := 173, attributes := #[] }, { accessFlags := 8, nameIndex := 344, descriptorIndex := 339, attributes := #[] }, { accessFlags := 8, nameIndex := 338, descriptorIndex := 339, attributes := #[] }, { accessFlags := 4120, nameIndex := 245, descriptorIndex := 246, attributes := #[] }])
  fields := #[{ name := "E", type := .double, accessFlags := 25, slot := 0, constantValue := 0 }, { name := "PI", type := .double, accessFlags := 25, slot := 1, constantValue := 0 }, { name := "TAU", type := .double, accessFlags := 25, slot := 2, constantValue := 0 }, { name := "DEGREES_TO_RADIANS", type := .double, accessFlags := 26, slot := 3, constantValue := 0 }, { name := "RADIANS_TO_DEGREES", type := .double, accessFlags := 26, slot := 4, constantValue := 0 }, { name := "negativeZeroFloatBits", type := .long, accessFlags := 26, slot := 5, constantValue := 0 }, { name := "negativeZeroDoubleBits", type := .long, accessFlags := 26, slot := 6, constantValue := 0 }, { name := "twoToTheDoubleScaleUp", type := .double, accessFlags := 8, slot := 7, constantValue := 0 }, { name := "twoToTheDoubleScaleDown", type := .double, accessFlags := 8, slot := 8, constantValue := 0 }, { name := "$assertionsDisabled", type := .boolean, accessFlags := 4120, slot := 9, constantValue := 0 }]
  methods := #[k2m0, k2m1]
  instanceTypes := #[]
  staticTypes := #[.double, .double, .double, .double, .double, .long, .long, .double, .double, .boolean]
  resolved := Array.replicate 460 none
  statics := none }

def pool3 : Array CpInfo := pool [(2, .class_ 4), (1, u "java/lang/Object"), (0, u "<init>"), (0, u "()V"), (0, .class_ 8), (0, u "nearsign/NumberSlots"), (27, u "FIRST_BITS"), (0, u "I"), (0, u "FIRST_ROOM"), (2, u "MOST_BITS"), (5, u "placed"), (0, u "(I[JI)[I")] 20

def k3m0 : Method := { name := "<init>", desc := "()V", sig := { parameters := [], returnType := none }, accessFlags := 2, code := none }
def k3c1 : Code := { maxStack := 5, maxLocals := 7, code := prog_120_method_4_code, exceptionTable := #[], attributes := #[] }
def k3m1 : Method := { name := "placed", desc := "(I[JI)[I", sig := { parameters := [.int, (.array .long), .int], returnType := some (.array .int) }, accessFlags := 8, code := some k3c1 }
/-- nearsign/NumberSlots -/
def k3 : Class := { plain "nearsign/NumberSlots" (some 0) with
  accessFlags := 48
  interfaces := #[]
  cf := some (fileOf pool3 7 #[] #[{ accessFlags := 2, nameIndex := 5, descriptorIndex := 6, attributes := #[] }, { accessFlags := 8, nameIndex := 47, descriptorIndex := 48, attributes := #[] }] 48 2 #[] #[{ accessFlags := 24, nameIndex := 38, descriptorIndex := 37, attributes := #[] }, { accessFlags := 24, nameIndex := 36, descriptorIndex := 37, attributes := #[] }, { accessFlags := 26, nameIndex := 41, descriptorIndex := 37, attributes := #[] }])
  fields := #[{ name := "FIRST_ROOM", type := .int, accessFlags := 24, slot := 0, constantValue := 0 }, { name := "FIRST_BITS", type := .int, accessFlags := 24, slot := 1, constantValue := 0 }, { name := "MOST_BITS", type := .int, accessFlags := 26, slot := 2, constantValue := 0 }]
  methods := #[k3m0, k3m1]
  instanceTypes := #[]
  staticTypes := #[.int, .int, .int]
  resolved := Array.replicate 69 none
  statics := none }

def pool4 : Array CpInfo := pool [(1, u "java/lang/Cloneable"), (0, .class_ 1), (0, u "java/lang/Object"), (0, .class_ 3)] 3

/-- java/lang/Cloneable -/
def k4 : Class := { plain "java/lang/Cloneable" (some 0) with
  accessFlags := 1537
  interfaces := #[]
  cf := some (fileOf pool4 2 #[] #[] 1537 4 #[] #[])
  fields := #[]
  methods := #[]
  instanceTypes := #[]
  staticTypes := #[]
  resolved := Array.replicate 8 none
  statics := none }

def pool5 : Array CpInfo := pool [(1, u "java/io/Serializable"), (0, .class_ 1), (0, u "java/lang/Object"), (0, .class_ 3)] 3

/-- java/io/Serializable -/
def k5 : Class := { plain "java/io/Serializable" (some 0) with
  accessFlags := 1537
  interfaces := #[]
  cf := some (fileOf pool5 2 #[] #[] 1537 4 #[] #[])
  fields := #[]
  methods := #[]
  instanceTypes := #[]
  staticTypes := #[]
  resolved := Array.replicate 8 none
  statics := none }

/-- the primitive byte -/
def k6 : Class := { plain "byte" none with kind := .primitive 'B', accessFlags := 0x411 }
/-- [B -/
def k7 : Class := { plain "[B" (some 0) with kind := .array 6 .byte, interfaces := #[4, 5], accessFlags := 1041 }

/-- the primitive int -/
def k8 : Class := { plain "int" none with kind := .primitive 'I', accessFlags := 0x411 }
/-- [I -/
def k9 : Class := { plain "[I" (some 0) with kind := .array 8 .int, interfaces := #[4, 5], accessFlags := 1041 }

/-- the primitive long -/
def k10 : Class := { plain "long" none with kind := .primitive 'J', accessFlags := 0x411 }
/-- [J -/
def k11 : Class := { plain "[J" (some 0) with kind := .array 10 .long, interfaces := #[4, 5], accessFlags := 1041 }

def heap : Heap := #[]
def classes : Array Class := #[k0, k1, k2, k3, k4, k5, k6, k7, k8, k9, k10, k11]
def interned : List (Array UInt16 × Addr) := []
def slotsUsed : Nat := 0
def theMethod : MethodId := ⟨1, 1⟩
def args0 : Array Value := #[.int 5, .long 5, .long 5, .long 5]
def aboutOver (below : List Frame) : State where
  vm := { classes := classes, interned := interned.toArray }
  heap := heap
  slotsUsed := slotsUsed
  threads := #[{ frames := .invoking theMethod args0 :: below }]
def below0 : List Frame := [.native { method := ⟨0, 0⟩, args := #[] }]
def about1 : State := aboutOver below0
def p0 : Program := .bare "" "" ""
def e0 : Env := launch0.env 0 0 0
theorem w_frames : about1.frames = Frame.invoking theMethod args0 :: below0 := rfl
set_option maxRecDepth 65536 in
theorem w_args : argsFit about1.vm theMethod args0 = true := by decide +kernel
set_option maxRecDepth 65536 in
theorem w_heap : heapFits about1 = true := by decide +kernel
set_option maxRecDepth 65536 in
theorem w_runnable : about1.curStatus? = some .runnable := by decide +kernel
set_option maxRecDepth 65536 in
theorem w_alone : about1.alone = true := by decide +kernel
set_option maxRecDepth 65536 in
theorem w_named : about1.methodNamed? x = some theMethod := by decide +kernel
set_option maxRecDepth 65536 in
theorem w_hears : about1.hears theMethod below0 = true := by decide +kernel
set_option maxRecDepth 65536 in
theorem w_ripe : about1.ripe theMethod args0 below0 = true := by decide +kernel
theorem w_running : about1.status = .running := rfl
set_option maxRecDepth 65536 in
theorem w_room : about1.hasRoom e0.platform room_1 = true :=
  launch0.hasRoom_least _ room_1 (by decide +kernel) (by decide +kernel) (by decide +kernel) (by decide +kernel) (by decide +kernel) (by decide +kernel)
theorem allAtoms_all (ts : List Jvm.Cond) (a : Array Jvm.Value) (st : Jvm.State) : (allAtoms ts).before a st = ts.all (fun c => c.before a st) := by
  induction ts with
  | nil => rfl
  | cons c t ih =>
    show (Jvm.Cond.and c (allAtoms t)).before a st = _
    rw [Jvm.Cond.before_and, ih, List.all_cons]
def words1 : List Jvm.Cond := Jvm.Cond.code x code maxLocals ret :: tables_1
/-- a 'code' word, met by the world's own term for the bytes: nothing is compared byte by byte -/
theorem code_word {y : MethodName} {bytes : ByteArray} {mx : Nat} {rt : Option FieldType} {a : Array Value} {s : State} {m : MethodId} {meth : Method} {c : Code} (h1 : s.methodNamed? y = some m) (h2 : s.vm.method? m = some meth) (h3 : meth.code = some c) (h4 : c.code = bytes)
    (h5 : (c.maxLocals == mx && c.exceptionTable.isEmpty && decide (c.maxStack ≤ mostOperands) && decide (meth.sig.returnType = rt) && !meth.locks && decide (parseMethodDescriptor y.desc = some meth.sig)) = true) : (Jvm.Cond.code y bytes mx rt).before a s = true := by
  simp only [Bool.and_eq_true, beq_iff_eq, Bool.not_eq_true', decide_eq_true_eq] at h5
  obtain ⟨⟨⟨⟨⟨g1, g2⟩, g3⟩, g4⟩, g5⟩, g6⟩ := h5
  simp [Cond.before, Cond.holds, Cond.value, h1, h2, h3, h4, g1, g2, g3, g4, g5, g6]
def isCode : Jvm.Cond → Bool
  | .code _ _ _ _ => true
  | _ => false
theorem all_split {L : List Jvm.Cond} {P : Jvm.Cond → Bool} (h1 : L.all (fun c => isCode c || P c) = true) (h2 : ∀ c ∈ L.filter isCode, P c = true) : L.all P = true := by
  refine List.all_eq_true.mpr fun c hc => ?_
  have h := List.all_eq_true.mp h1 c hc
  rcases Bool.eq_false_or_eq_true (isCode c) with hi | hi
  · exact h2 c (List.mem_filter.mpr ⟨hc, hi⟩)
  · simpa [hi] using h
set_option maxRecDepth 65536 in
theorem w_c0 : (Jvm.Cond.code x code maxLocals ret).before args0 about1 = true := code_word (m := ⟨1, 1⟩) (meth := k1m1) (c := k1c1) (by decide +kernel) rfl rfl rfl (by decide +kernel)
set_option maxRecDepth 65536 in
theorem w_c1 : (Jvm.Cond.code ({ cls := "java/lang/Math", name := "min", desc := "(II)I" } : Jvm.MethodName) jdk_29_method_69_code (2 : Nat) (Option.some Jvm.ClassFile.FieldType.int)).before args0 about1 = true := code_word (m := ⟨2, 1⟩) (meth := k2m1) (c := k2c1) (by decide +kernel) rfl rfl rfl (by decide +kernel)
set_option maxRecDepth 65536 in
theorem w_c2 : (Jvm.Cond.code ({ cls := "nearsign/NumberSlots", name := "placed", desc := "(I[JI)[I" } : Jvm.MethodName) prog_120_method_4_code (7 : Nat) (Option.some (Jvm.ClassFile.FieldType.array Jvm.ClassFile.FieldType.int))).before args0 about1 = true := code_word (m := ⟨3, 1⟩) (meth := k3m1) (c := k3c1) (by decide +kernel) rfl rfl rfl (by decide +kernel)
set_option maxRecDepth 65536 in
theorem w_c3 : (Jvm.Cond.code ({ cls := "nearsign/NumberSlotsPlacedPinLaw", name := "ok", desc := "([I[III)Z" } : Jvm.MethodName) method_6_code (4 : Nat) (Option.some Jvm.ClassFile.FieldType.boolean)).before args0 about1 = true := code_word (m := ⟨1, 5⟩) (meth := k1m5) (c := k1c5) (by decide +kernel) rfl rfl rfl (by decide +kernel)
set_option maxRecDepth 65536 in
theorem w_c4 : (Jvm.Cond.code ({ cls := "nearsign/NumberSlotsPlacedPinLaw", name := "home", desc := "(JI)I" } : Jvm.MethodName) method_3_code (3 : Nat) (Option.some Jvm.ClassFile.FieldType.int)).before args0 about1 = true := code_word (m := ⟨1, 2⟩) (meth := k1m2) (c := k1c2) (by decide +kernel) rfl rfl rfl (by decide +kernel)
set_option maxRecDepth 65536 in
theorem w_c5 : (Jvm.Cond.code ({ cls := "nearsign/NumberSlotsPlacedPinLaw", name := "stored", desc := "(JII)I" } : Jvm.MethodName) method_5_code (5 : Nat) (Option.some Jvm.ClassFile.FieldType.int)).before args0 about1 = true := code_word (m := ⟨1, 4⟩) (meth := k1m4) (c := k1c4) (by decide +kernel) rfl rfl rfl (by decide +kernel)
set_option maxRecDepth 65536 in
theorem w_c6 : (Jvm.Cond.code ({ cls := "nearsign/NumberSlotsPlacedPinLaw", name := "firstFree", desc := "(IIII)I" } : Jvm.MethodName) method_4_code (5 : Nat) (Option.some Jvm.ClassFile.FieldType.int)).before args0 about1 = true := code_word (m := ⟨1, 3⟩) (meth := k1m3) (c := k1c3) (by decide +kernel) rfl rfl rfl (by decide +kernel)
def codes1 : List Jvm.Cond := [Jvm.Cond.code x code maxLocals ret, Jvm.Cond.code ({ cls := "java/lang/Math", name := "min", desc := "(II)I" } : Jvm.MethodName) jdk_29_method_69_code (2 : Nat) (Option.some Jvm.ClassFile.FieldType.int), Jvm.Cond.code ({ cls := "nearsign/NumberSlots", name := "placed", desc := "(I[JI)[I" } : Jvm.MethodName) prog_120_method_4_code (7 : Nat) (Option.some (Jvm.ClassFile.FieldType.array Jvm.ClassFile.FieldType.int)), Jvm.Cond.code ({ cls := "nearsign/NumberSlotsPlacedPinLaw", name := "ok", desc := "([I[III)Z" } : Jvm.MethodName) method_6_code (4 : Nat) (Option.some Jvm.ClassFile.FieldType.boolean), Jvm.Cond.code ({ cls := "nearsign/NumberSlotsPlacedPinLaw", name := "home", desc := "(JI)I" } : Jvm.MethodName) method_3_code (3 : Nat) (Option.some Jvm.ClassFile.FieldType.int), Jvm.Cond.code ({ cls := "nearsign/NumberSlotsPlacedPinLaw", name := "stored", desc := "(JII)I" } : Jvm.MethodName) method_5_code (5 : Nat) (Option.some Jvm.ClassFile.FieldType.int), Jvm.Cond.code ({ cls := "nearsign/NumberSlotsPlacedPinLaw", name := "firstFree", desc := "(IIII)I" } : Jvm.MethodName) method_4_code (5 : Nat) (Option.some Jvm.ClassFile.FieldType.int)]
set_option maxRecDepth 65536 in
theorem codes_eq : words1.filter isCode = codes1 := rfl
theorem w_codes : ∀ c ∈ words1.filter isCode, c.before args0 about1 = true := by
  rw [codes_eq]
  intro c hc
  simp only [codes1, List.mem_cons, List.not_mem_nil, or_false] at hc
  rcases hc with rfl | rfl | rfl | rfl | rfl | rfl | rfl
  · exact w_c0
  · exact w_c1
  · exact w_c2
  · exact w_c3
  · exact w_c4
  · exact w_c5
  · exact w_c6
set_option maxRecDepth 65536 in
theorem w_t1 : (words1.take 24).all (fun c => isCode c || c.before args0 about1) = true := by decide +kernel
set_option maxRecDepth 65536 in
theorem w_t2 : (words1.drop 24).all (fun c => isCode c || c.before args0 about1) = true := by decide +kernel
theorem w_tables : (allAtoms (Jvm.Cond.code x code maxLocals ret :: tables_1)).before args0 about1 = true := by
  rw [allAtoms_all]
  show words1.all (fun c => c.before args0 about1) = true
  refine all_split ?_ w_codes
  rw [← List.take_append_drop 24 words1, List.all_append, w_t1, w_t2]
  rfl
set_option maxRecDepth 65536 in
theorem w_case : (Jvm.Cond.and given_1 narrow_1).before args0 about1 = true := by decide +kernel
theorem w_applies : (headSpec (Jvm.Cond.code x code maxLocals ret :: tables_1) room_1).applies x e0.platform about1 = true :=
  (Spec.applies_iff w_frames).mpr ⟨w_running, w_runnable, w_alone, w_named, w_hears, w_ripe, w_room, w_tables⟩
theorem atStart : AtStart classFile x code maxLocals ret World_1 tables_1 room_1 Calls_1 rest_1 Pre_1 launch0 p0 e0 about1 theMethod args0 below0 :=
  ⟨lists_1, trivial, launch0.admits_env _ _ _, launch0.least_env, fairChoices_fair.cas, fairChoices_fair.clock, w_frames, w_args, w_heap, w_applies, trivial, trivial, w_case⟩
end start1
theorem witness_1 : WitnessClaimed_1 := ⟨start1.p0, start1.e0, start1.about1, start1.theMethod, start1.args0, start1.below0, start1.atStart⟩
end Jvm.Pilot.@@N@@
