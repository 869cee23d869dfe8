import JvmDerived
import JvmDerived.Pilot.@@N@@Statement
import JvmDerived.Pilot.@@N@@Code
set_option linter.unusedVariables false
set_option linter.unusedSimpArgs false

namespace Jvm.OwnW
open Sem ClassFile Op Lib Jvm.Stand Jvm.Free Jvm.LawKit Jvm.RoadKit
/-- what the walk of one body stands on -/
def Ctx (p : Program) (l : Launch) (e : Env) (R : Room) (s : State) (m : MethodId) (args : Array Value) (below : List Frame) (meth : Method) (c : Code) (Z : State) (own : String) (code : ByteArray) (maxL : Nat) (ret : Option FieldType) (nm : String) : Prop :=
  p.tables.exec = Jvm.exec ∧ c.code = code ∧ c.maxLocals = maxL ∧ s.vm.findClass own = some m.cls ∧ Z.Warmed39 s.vm ∧ meth.sig.returnType = ret ∧ meth.locks = false ∧ meth.name = nm
/-- from here the body returns, and G holds of what it returns and of the heap -/
def WP (p : Program) (l : Launch) (e : Env) (R : Room) (s : State) (m : MethodId) (args : Array Value) (below : List Frame) (meth : Method) (c : Code) (n0 : Nat) (G : Option Value → Heap → Prop)
    (h : Heap) (k n pc : Nat) (Ls : Array Slot) (st : List Value) : Prop :=
  ∀ (T : State) (locs : List Loc) (k' n' : Nat), k' ≤ k → n' ≤ n → Stand p l e R s m args below meth c T locs k' n' → T.heap = h → Fr n0 locs →
    ∃ s₂ o, Steps p.tables e below (T.setTop (mkF m pc Ls st)) s₂ ∧ s₂.status = .running ∧ Ended s₂ below o ∧ ∃ v L, o = .returned v ∧ (Fr n0 L ∧ G v s₂.heap) ∧ FrameEnd s o s₂ L R.cells R.slots
abbrev WT : Type := Heap → Nat → Nat → Nat → Array Slot → List Value → Prop
def Ru (l : Launch) (Z : State) (own : String) (code : ByteArray) (maxL : Nat) (ret : Option FieldType) (nm : String) (R : Room) (n0 : Nat) (G : Option Value → Heap → Prop) (W : WT) : Prop :=
  ∃ (p : Program) (e : Env) (s : State) (m : MethodId) (args : Array Value) (below : List Frame) (meth : Method) (c : Code), Ctx p l e R s m args below meth c Z own code maxL ret nm ∧ W = WP p l e R s m args below meth c n0 G
/-- a body's contract -/
def MeetsW (l : Launch) (Z : State) (n0 : Nat) (y : MethodName) (bytes : ByteArray) (maxL : Nat) (ret : Option FieldType) (rm : Room) (as : Array Value) (h : Heap) (G : Option Value → Heap → Prop) : Prop :=
  ∀ ws : List Cond, MetFree l y (head1 (Cond.code y bytes maxL ret :: ws) rm) (fun a U => a = as ∧ Z.Warmed39 U.vm ∧ U.heap = h) (fun _ _ _ _ _ => True)
    (fun _ U o U' => ∃ v L, o = .returned v ∧ (Fr n0 L ∧ G v U'.heap) ∧ FrameEnd U o U' L rm.cells rm.slots)
theorem MeetsW.intro {l : Launch} {Z : State} {n0 : Nat} {y : MethodName} {bytes : ByteArray} {maxL : Nat} {ret : Option FieldType} {rm : Room} {as : Array Value} {h : Heap} {G : Option Value → Heap → Prop} {Ls : Array Slot}
    (hp : plainFor y = true) (hef : ∀ m, entryFrame m as maxL = mkF m 0 Ls [])
    (body : ∀ W, Ru l Z y.cls bytes maxL ret y.name rm n0 G W → W h 0 0 0 Ls []) : MeetsW l Z n0 y bytes maxL ret rm as h G := by
  intro ws
  refine MetFree.of_bodySF hp hisR ?_
  intro p e s m args below meth c s₁ Bd hml0 hP hK
  obtain ⟨rfl, hZ, hh⟩ := hP
  have X0 : Stand p l e rm s m args below meth c s₁ [] 0 0 := Stand.of_body Bd
  have e0 : s₁.heap = h := by rw [← hh, Bd.state]; rfl
  have C : Ctx p l e rm s m args below meth c Z y.cls bytes maxL ret y.name := ⟨Bd.exec, Bd.bytes, hml0, findClass_of_methodNamed Bd.named, hZ, Bd.returns, Bd.notSynchronized, (name_of_methodNamed Bd.named Bd.method).1⟩
  have q := body _ ⟨p, e, s, m, args, below, meth, c, C, rfl⟩ s₁ [] 0 0 (Nat.le_refl _) (Nat.le_refl _) X0 e0 (Fr.nil n0)
  rw [hef]
  exact q

/-! shifts, by how many places -/
def sh5 (y : Int32) : Nat := y.toBitVec.toNat % 32
def sh6 (y : Int32) : Nat := y.toBitVec.toNat % 64
def shlI (x : Int32) (k : Nat) : Int32 := Int32.ofBitVec (x.toBitVec <<< k)
def shrI (x : Int32) (k : Nat) : Int32 := Int32.ofBitVec (x.toBitVec >>> k)
def sarI (x : Int32) (k : Nat) : Int32 := Int32.ofBitVec (x.toBitVec.sshiftRight k)
def shlL (x : Int64) (k : Nat) : Int64 := Int64.ofBitVec (x.toBitVec <<< k)
def shrL (x : Int64) (k : Nat) : Int64 := Int64.ofBitVec (x.toBitVec >>> k)
def sarL (x : Int64) (k : Nat) : Int64 := Int64.ofBitVec (x.toBitVec.sshiftRight k)
theorem and31 (y : Int32) : (y &&& 31).toBitVec.toNat = sh5 y := by
  show (y.toBitVec &&& (31 : Int32).toBitVec).toNat = _
  rw [BitVec.toNat_and, show (31 : Int32).toBitVec.toNat = 2 ^ 5 - 1 from by decide, Nat.and_two_pow_sub_one_eq_mod]; rfl
theorem and63 (y : Int32) : (y.toInt64 &&& 63).toBitVec = BitVec.ofNat 64 (sh6 y) := by
  apply BitVec.eq_of_toNat_eq
  show (y.toBitVec.signExtend 64 &&& (63 : Int64).toBitVec).toNat = _
  rw [BitVec.toNat_and, show (63 : Int64).toBitVec.toNat = 2 ^ 6 - 1 from by decide, Nat.and_two_pow_sub_one_eq_mod, BitVec.toNat_ofNat, BitVec.toNat_signExtend]
  have h1 := y.toBitVec.isLt
  have h2 : (BitVec.setWidth 64 y.toBitVec).toNat = y.toBitVec.toNat := by rw [BitVec.toNat_setWidth]; omega
  rw [h2]
  unfold sh6
  split <;> omega
theorem ishl_eq (x y : Int32) : x <<< (y &&& 31) = shlI x (sh5 y) := by
  apply Int32.toBitVec_inj.mp
  show x.toBitVec <<< ((y &&& 31).toBitVec.smod 32) = x.toBitVec <<< (sh5 y)
  rw [BitVec.shiftLeft_eq', sm32 y _ rfl]; rfl
theorem ishr_eq (x y : Int32) : x >>> (y &&& 31) = sarI x (sh5 y) := by
  apply Int32.toBitVec_inj.mp
  show x.toBitVec.sshiftRight (((y &&& 31).toBitVec.smod 32).toNat) = x.toBitVec.sshiftRight (sh5 y)
  rw [sm32 y _ rfl]; rfl
theorem iushr_eq (x y : Int32) : XT.ushr x y = shrI x (sh5 y) := by
  apply Int32.toBitVec_inj.mp
  show x.toBitVec >>> ((y &&& 31).toBitVec % 32) = x.toBitVec >>> (sh5 y)
  rw [BitVec.ushiftRight_eq', BitVec.toNat_umod, and31]
  congr 1
  show sh5 y % 32 = sh5 y
  unfold sh5; omega
theorem lshl_eq (x : Int64) (y : Int32) : x <<< (y.toInt64 &&& 63) = shlL x (sh6 y) := by
  apply Int64.toBitVec_inj.mp
  show x.toBitVec <<< ((y.toInt64 &&& 63).toBitVec.smod 64) = x.toBitVec <<< (sh6 y)
  rw [BitVec.shiftLeft_eq', and63, smod64 _ (by unfold sh6; omega)]
theorem lshr_eq (x : Int64) (y : Int32) : x >>> (y.toInt64 &&& 63) = sarL x (sh6 y) := by
  apply Int64.toBitVec_inj.mp
  show x.toBitVec.sshiftRight (((y.toInt64 &&& 63).toBitVec.smod 64).toNat) = x.toBitVec.sshiftRight (sh6 y)
  rw [and63, smod64 _ (by unfold sh6; omega)]
theorem lushr_eq (x : Int64) (y : Int32) : XT.ushrL x y = shrL x (sh6 y) := by
  apply Int64.toBitVec_inj.mp
  show x.toBitVec >>> ((y.toInt64 &&& 63).toBitVec % 64) = x.toBitVec >>> (sh6 y)
  rw [BitVec.ushiftRight_eq', BitVec.toNat_umod, and63, BitVec.toNat_ofNat]
  congr 1
  show sh6 y % 2 ^ 64 % 64 = sh6 y
  unfold sh6; omega
section Steps
variable {l : Launch} {Z : State} {own : String} {code : ByteArray} {maxL : Nat} {ret : Option FieldType} {nm : String} {R : Room} {n0 : Nat} {G : Option Value → Heap → Prop} {W : WT} {h : Heap} {k n pc pc' : Nat} {Ls : Array Slot} {st rest : List Value}
theorem Ru.mono (C : Ru l Z own code maxL ret nm R n0 G W) {k2 n2 : Nat} (hk : k ≤ k2) (hn : n ≤ n2) (q : W h k2 n2 pc Ls st) : W h k n pc Ls st := by
  obtain ⟨p, e, s, m, args, below, meth, c, C, rfl⟩ := C
  intro T locs k' n' q1 q2 X eT N
  exact q T locs k' n' (Nat.le_trans q1 hk) (Nat.le_trans q2 hn) X eT N
theorem Ru.atPc (C : Ru l Z own code maxL ret nm R n0 G W) {pc2 : Nat} (hp : pc2 = pc) (q : W h k n pc2 Ls st) : W h k n pc Ls st := hp ▸ q
theorem Ru.iadd (C : Ru l Z own code maxL ret nm R n0 G W) {x y : Int32} (hd : decode code pc = .ok (.iadd, 1)) (hp : pc + 1 = pc') (q : W h k n pc' Ls (.int (x + y) :: rest)) : W h k n pc Ls (.int y :: .int x :: rest) := by
  obtain ⟨p, e, s, m, args, below, meth, c, ⟨hx, hby, hml, hown, hZ, hre, hlk, hnm⟩, rfl⟩ := C
  subst hp
  intro T locs k' n' q1 q2 X eT N
  obtain ⟨s2, o, st2, r⟩ := q T locs k' n' q1 q2 X eT N
  exact ⟨s2, o, XS.iadd (X.here) hx rfl (hb hby hd) rfl st2, r⟩
theorem Ru.isub (C : Ru l Z own code maxL ret nm R n0 G W) {x y : Int32} (hd : decode code pc = .ok (.isub, 1)) (hp : pc + 1 = pc') (q : W h k n pc' Ls (.int (x - y) :: rest)) : W h k n pc Ls (.int y :: .int x :: rest) := by
  obtain ⟨p, e, s, m, args, below, meth, c, ⟨hx, hby, hml, hown, hZ, hre, hlk, hnm⟩, rfl⟩ := C
  subst hp
  intro T locs k' n' q1 q2 X eT N
  obtain ⟨s2, o, st2, r⟩ := q T locs k' n' q1 q2 X eT N
  exact ⟨s2, o, XS.isub (X.here) hx rfl (hb hby hd) rfl st2, r⟩
theorem Ru.iand (C : Ru l Z own code maxL ret nm R n0 G W) {x y : Int32} (hd : decode code pc = .ok (.iand, 1)) (hp : pc + 1 = pc') (q : W h k n pc' Ls (.int (x &&& y) :: rest)) : W h k n pc Ls (.int y :: .int x :: rest) := by
  obtain ⟨p, e, s, m, args, below, meth, c, ⟨hx, hby, hml, hown, hZ, hre, hlk, hnm⟩, rfl⟩ := C
  subst hp
  intro T locs k' n' q1 q2 X eT N
  obtain ⟨s2, o, st2, r⟩ := q T locs k' n' q1 q2 X eT N
  exact ⟨s2, o, XS.iand (X.here) hx rfl (hb hby hd) rfl st2, r⟩
theorem Ru.imul (C : Ru l Z own code maxL ret nm R n0 G W) {x y : Int32} (hd : decode code pc = .ok (.imul, 1)) (hp : pc + 1 = pc') (q : W h k n pc' Ls (.int (x * y) :: rest)) : W h k n pc Ls (.int y :: .int x :: rest) := by
  obtain ⟨p, e, s, m, args, below, meth, c, ⟨hx, hby, hml, hown, hZ, hre, hlk, hnm⟩, rfl⟩ := C
  subst hp
  intro T locs k' n' q1 q2 X eT N
  obtain ⟨s2, o, st2, r⟩ := q T locs k' n' q1 q2 X eT N
  exact ⟨s2, o, XS.imul (X.here) hx rfl (hb hby hd) rfl st2, r⟩
theorem Ru.ixor (C : Ru l Z own code maxL ret nm R n0 G W) {x y : Int32} (hd : decode code pc = .ok (.ixor, 1)) (hp : pc + 1 = pc') (q : W h k n pc' Ls (.int (x ^^^ y) :: rest)) : W h k n pc Ls (.int y :: .int x :: rest) := by
  obtain ⟨p, e, s, m, args, below, meth, c, ⟨hx, hby, hml, hown, hZ, hre, hlk, hnm⟩, rfl⟩ := C
  subst hp
  intro T locs k' n' q1 q2 X eT N
  obtain ⟨s2, o, st2, r⟩ := q T locs k' n' q1 q2 X eT N
  exact ⟨s2, o, XT.ixor (X.here) hx rfl (hb hby hd) rfl st2, r⟩
theorem Ru.ior (C : Ru l Z own code maxL ret nm R n0 G W) {x y : Int32} (hd : decode code pc = .ok (.ior, 1)) (hp : pc + 1 = pc') (q : W h k n pc' Ls (.int (x ||| y) :: rest)) : W h k n pc Ls (.int y :: .int x :: rest) := by
  obtain ⟨p, e, s, m, args, below, meth, c, ⟨hx, hby, hml, hown, hZ, hre, hlk, hnm⟩, rfl⟩ := C
  subst hp
  intro T locs k' n' q1 q2 X eT N
  obtain ⟨s2, o, st2, r⟩ := q T locs k' n' q1 q2 X eT N
  exact ⟨s2, o, XT.ior (X.here) hx rfl (hb hby hd) rfl st2, r⟩
theorem Ru.idiv (C : Ru l Z own code maxL ret nm R n0 G W) {x y : Int32} (hd : decode code pc = .ok (.idiv, 1)) (hp : pc + 1 = pc') (hy : y ≠ 0) (q : W h k n pc' Ls (.int (x / y) :: rest)) : W h k n pc Ls (.int y :: .int x :: rest) := by
  obtain ⟨p, e, s, m, args, below, meth, c, ⟨hx, hby, hml, hown, hZ, hre, hlk, hnm⟩, rfl⟩ := C
  subst hp
  intro T locs k' n' q1 q2 X eT N
  obtain ⟨s2, o, st2, r⟩ := q T locs k' n' q1 q2 X eT N
  exact ⟨s2, o, XS.idiv (X.here) hx rfl (hb hby hd) rfl hy st2, r⟩
theorem Ru.irem (C : Ru l Z own code maxL ret nm R n0 G W) {x y : Int32} (hd : decode code pc = .ok (.irem, 1)) (hp : pc + 1 = pc') (hy : y ≠ 0) (q : W h k n pc' Ls (.int (x % y) :: rest)) : W h k n pc Ls (.int y :: .int x :: rest) := by
  obtain ⟨p, e, s, m, args, below, meth, c, ⟨hx, hby, hml, hown, hZ, hre, hlk, hnm⟩, rfl⟩ := C
  subst hp
  intro T locs k' n' q1 q2 X eT N
  obtain ⟨s2, o, st2, r⟩ := q T locs k' n' q1 q2 X eT N
  exact ⟨s2, o, iremM (X) hx rfl (hb hby hd) rfl hy st2, r⟩
theorem Ru.ineg (C : Ru l Z own code maxL ret nm R n0 G W) {x : Int32} (hd : decode code pc = .ok (.ineg, 1)) (hp : pc + 1 = pc') (q : W h k n pc' Ls (.int (-x) :: rest)) : W h k n pc Ls (.int x :: rest) := by
  obtain ⟨p, e, s, m, args, below, meth, c, ⟨hx, hby, hml, hown, hZ, hre, hlk, hnm⟩, rfl⟩ := C
  subst hp
  intro T locs k' n' q1 q2 X eT N
  obtain ⟨s2, o, st2, r⟩ := q T locs k' n' q1 q2 X eT N
  exact ⟨s2, o, XS.ineg (X.here) hx rfl (hb hby hd) rfl st2, r⟩
theorem Ru.ladd (C : Ru l Z own code maxL ret nm R n0 G W) {x y : Int64} (hd : decode code pc = .ok (.ladd, 1)) (hp : pc + 1 = pc') (q : W h k n pc' Ls (.long (x + y) :: rest)) : W h k n pc Ls (.long y :: .long x :: rest) := by
  obtain ⟨p, e, s, m, args, below, meth, c, ⟨hx, hby, hml, hown, hZ, hre, hlk, hnm⟩, rfl⟩ := C
  subst hp
  intro T locs k' n' q1 q2 X eT N
  obtain ⟨s2, o, st2, r⟩ := q T locs k' n' q1 q2 X eT N
  exact ⟨s2, o, XT.ladd (X.here) hx rfl (hb hby hd) rfl st2, r⟩
theorem Ru.lsub (C : Ru l Z own code maxL ret nm R n0 G W) {x y : Int64} (hd : decode code pc = .ok (.lsub, 1)) (hp : pc + 1 = pc') (q : W h k n pc' Ls (.long (x - y) :: rest)) : W h k n pc Ls (.long y :: .long x :: rest) := by
  obtain ⟨p, e, s, m, args, below, meth, c, ⟨hx, hby, hml, hown, hZ, hre, hlk, hnm⟩, rfl⟩ := C
  subst hp
  intro T locs k' n' q1 q2 X eT N
  obtain ⟨s2, o, st2, r⟩ := q T locs k' n' q1 q2 X eT N
  exact ⟨s2, o, XT.lsub (X.here) hx rfl (hb hby hd) rfl st2, r⟩
theorem Ru.lmul (C : Ru l Z own code maxL ret nm R n0 G W) {x y : Int64} (hd : decode code pc = .ok (.lmul, 1)) (hp : pc + 1 = pc') (q : W h k n pc' Ls (.long (x * y) :: rest)) : W h k n pc Ls (.long y :: .long x :: rest) := by
  obtain ⟨p, e, s, m, args, below, meth, c, ⟨hx, hby, hml, hown, hZ, hre, hlk, hnm⟩, rfl⟩ := C
  subst hp
  intro T locs k' n' q1 q2 X eT N
  obtain ⟨s2, o, st2, r⟩ := q T locs k' n' q1 q2 X eT N
  exact ⟨s2, o, XT.lmul (X.here) hx rfl (hb hby hd) rfl st2, r⟩
theorem Ru.land (C : Ru l Z own code maxL ret nm R n0 G W) {x y : Int64} (hd : decode code pc = .ok (.land, 1)) (hp : pc + 1 = pc') (q : W h k n pc' Ls (.long (x &&& y) :: rest)) : W h k n pc Ls (.long y :: .long x :: rest) := by
  obtain ⟨p, e, s, m, args, below, meth, c, ⟨hx, hby, hml, hown, hZ, hre, hlk, hnm⟩, rfl⟩ := C
  subst hp
  intro T locs k' n' q1 q2 X eT N
  obtain ⟨s2, o, st2, r⟩ := q T locs k' n' q1 q2 X eT N
  exact ⟨s2, o, XT.land (X.here) hx rfl (hb hby hd) rfl st2, r⟩
theorem Ru.lor (C : Ru l Z own code maxL ret nm R n0 G W) {x y : Int64} (hd : decode code pc = .ok (.lor, 1)) (hp : pc + 1 = pc') (q : W h k n pc' Ls (.long (x ||| y) :: rest)) : W h k n pc Ls (.long y :: .long x :: rest) := by
  obtain ⟨p, e, s, m, args, below, meth, c, ⟨hx, hby, hml, hown, hZ, hre, hlk, hnm⟩, rfl⟩ := C
  subst hp
  intro T locs k' n' q1 q2 X eT N
  obtain ⟨s2, o, st2, r⟩ := q T locs k' n' q1 q2 X eT N
  exact ⟨s2, o, XT.lor (X.here) hx rfl (hb hby hd) rfl st2, r⟩
theorem Ru.lxor (C : Ru l Z own code maxL ret nm R n0 G W) {x y : Int64} (hd : decode code pc = .ok (.lxor, 1)) (hp : pc + 1 = pc') (q : W h k n pc' Ls (.long (x ^^^ y) :: rest)) : W h k n pc Ls (.long y :: .long x :: rest) := by
  obtain ⟨p, e, s, m, args, below, meth, c, ⟨hx, hby, hml, hown, hZ, hre, hlk, hnm⟩, rfl⟩ := C
  subst hp
  intro T locs k' n' q1 q2 X eT N
  obtain ⟨s2, o, st2, r⟩ := q T locs k' n' q1 q2 X eT N
  exact ⟨s2, o, XT.lxor (X.here) hx rfl (hb hby hd) rfl st2, r⟩
theorem Ru.ldiv (C : Ru l Z own code maxL ret nm R n0 G W) {x y : Int64} (hd : decode code pc = .ok (.ldiv, 1)) (hp : pc + 1 = pc') (hy : y ≠ 0) (q : W h k n pc' Ls (.long (x / y) :: rest)) : W h k n pc Ls (.long y :: .long x :: rest) := by
  obtain ⟨p, e, s, m, args, below, meth, c, ⟨hx, hby, hml, hown, hZ, hre, hlk, hnm⟩, rfl⟩ := C
  subst hp
  intro T locs k' n' q1 q2 X eT N
  obtain ⟨s2, o, st2, r⟩ := q T locs k' n' q1 q2 X eT N
  exact ⟨s2, o, XT.ldiv (X.here) hx rfl (hb hby hd) rfl hy st2, r⟩
theorem Ru.ishl (C : Ru l Z own code maxL ret nm R n0 G W) {x : Int32} {y : Int32} {s : Nat} (hd : decode code pc = .ok (.ishl, 1)) (hp : pc + 1 = pc') (hs : sh5 y = s) (q : W h k n pc' Ls (.int (shlI x s) :: rest)) : W h k n pc Ls (.int y :: .int x :: rest) := by
  obtain ⟨p, e, s', m, args, below, meth, c, ⟨hx, hby, hml, hown, hZ, hre, hlk, hnm⟩, rfl⟩ := C
  subst hp hs
  intro T locs k' n' q1 q2 X eT N
  obtain ⟨s2, o, st2, r⟩ := q T locs k' n' q1 q2 X eT N
  exact ⟨s2, o, XT.ishl X.here hx rfl (hb hby hd) rfl (by rw [ishl_eq]; exact st2), r⟩
theorem Ru.ishr (C : Ru l Z own code maxL ret nm R n0 G W) {x : Int32} {y : Int32} {s : Nat} (hd : decode code pc = .ok (.ishr, 1)) (hp : pc + 1 = pc') (hs : sh5 y = s) (q : W h k n pc' Ls (.int (sarI x s) :: rest)) : W h k n pc Ls (.int y :: .int x :: rest) := by
  obtain ⟨p, e, s', m, args, below, meth, c, ⟨hx, hby, hml, hown, hZ, hre, hlk, hnm⟩, rfl⟩ := C
  subst hp hs
  intro T locs k' n' q1 q2 X eT N
  obtain ⟨s2, o, st2, r⟩ := q T locs k' n' q1 q2 X eT N
  exact ⟨s2, o, XT.ishr X.here hx rfl (hb hby hd) rfl (by rw [ishr_eq]; exact st2), r⟩
theorem Ru.iushr (C : Ru l Z own code maxL ret nm R n0 G W) {x : Int32} {y : Int32} {s : Nat} (hd : decode code pc = .ok (.iushr, 1)) (hp : pc + 1 = pc') (hs : sh5 y = s) (q : W h k n pc' Ls (.int (shrI x s) :: rest)) : W h k n pc Ls (.int y :: .int x :: rest) := by
  obtain ⟨p, e, s', m, args, below, meth, c, ⟨hx, hby, hml, hown, hZ, hre, hlk, hnm⟩, rfl⟩ := C
  subst hp hs
  intro T locs k' n' q1 q2 X eT N
  obtain ⟨s2, o, st2, r⟩ := q T locs k' n' q1 q2 X eT N
  exact ⟨s2, o, XT.iushr X.here hx rfl (hb hby hd) rfl (by rw [iushr_eq]; exact st2), r⟩
theorem Ru.lshl (C : Ru l Z own code maxL ret nm R n0 G W) {x : Int64} {y : Int32} {s : Nat} (hd : decode code pc = .ok (.lshl, 1)) (hp : pc + 1 = pc') (hs : sh6 y = s) (q : W h k n pc' Ls (.long (shlL x s) :: rest)) : W h k n pc Ls (.int y :: .long x :: rest) := by
  obtain ⟨p, e, s', m, args, below, meth, c, ⟨hx, hby, hml, hown, hZ, hre, hlk, hnm⟩, rfl⟩ := C
  subst hp hs
  intro T locs k' n' q1 q2 X eT N
  obtain ⟨s2, o, st2, r⟩ := q T locs k' n' q1 q2 X eT N
  exact ⟨s2, o, XT.lshl X.here hx rfl (hb hby hd) rfl (by rw [lshl_eq]; exact st2), r⟩
theorem Ru.lshr (C : Ru l Z own code maxL ret nm R n0 G W) {x : Int64} {y : Int32} {s : Nat} (hd : decode code pc = .ok (.lshr, 1)) (hp : pc + 1 = pc') (hs : sh6 y = s) (q : W h k n pc' Ls (.long (sarL x s) :: rest)) : W h k n pc Ls (.int y :: .long x :: rest) := by
  obtain ⟨p, e, s', m, args, below, meth, c, ⟨hx, hby, hml, hown, hZ, hre, hlk, hnm⟩, rfl⟩ := C
  subst hp hs
  intro T locs k' n' q1 q2 X eT N
  obtain ⟨s2, o, st2, r⟩ := q T locs k' n' q1 q2 X eT N
  exact ⟨s2, o, XT.lshr X.here hx rfl (hb hby hd) rfl (by rw [lshr_eq]; exact st2), r⟩
theorem Ru.lushr (C : Ru l Z own code maxL ret nm R n0 G W) {x : Int64} {y : Int32} {s : Nat} (hd : decode code pc = .ok (.lushr, 1)) (hp : pc + 1 = pc') (hs : sh6 y = s) (q : W h k n pc' Ls (.long (shrL x s) :: rest)) : W h k n pc Ls (.int y :: .long x :: rest) := by
  obtain ⟨p, e, s', m, args, below, meth, c, ⟨hx, hby, hml, hown, hZ, hre, hlk, hnm⟩, rfl⟩ := C
  subst hp hs
  intro T locs k' n' q1 q2 X eT N
  obtain ⟨s2, o, st2, r⟩ := q T locs k' n' q1 q2 X eT N
  exact ⟨s2, o, XT.lushr X.here hx rfl (hb hby hd) rfl (by rw [lushr_eq]; exact st2), r⟩
theorem Ru.i2l (C : Ru l Z own code maxL ret nm R n0 G W) {x : Int32} (hd : decode code pc = .ok (.i2l, 1)) (hp : pc + 1 = pc') (q : W h k n pc' Ls (.long x.toInt64 :: rest)) : W h k n pc Ls (.int x :: rest) := by
  obtain ⟨p, e, s, m, args, below, meth, c, ⟨hx, hby, hml, hown, hZ, hre, hlk, hnm⟩, rfl⟩ := C
  subst hp
  intro T locs k' n' q1 q2 X eT N
  obtain ⟨s2, o, st2, r⟩ := q T locs k' n' q1 q2 X eT N
  exact ⟨s2, o, XT.i2l (X.here) hx rfl (hb hby hd) rfl st2, r⟩
theorem Ru.l2i (C : Ru l Z own code maxL ret nm R n0 G W) {x : Int64} (hd : decode code pc = .ok (.l2i, 1)) (hp : pc + 1 = pc') (q : W h k n pc' Ls (.int x.toInt32 :: rest)) : W h k n pc Ls (.long x :: rest) := by
  obtain ⟨p, e, s, m, args, below, meth, c, ⟨hx, hby, hml, hown, hZ, hre, hlk, hnm⟩, rfl⟩ := C
  subst hp
  intro T locs k' n' q1 q2 X eT N
  obtain ⟨s2, o, st2, r⟩ := q T locs k' n' q1 q2 X eT N
  exact ⟨s2, o, XT.l2i (X.here) hx rfl (hb hby hd) rfl st2, r⟩
theorem Ru.i2b (C : Ru l Z own code maxL ret nm R n0 G W) {x : Int32} (hd : decode code pc = .ok (.i2b, 1)) (hp : pc + 1 = pc') (q : W h k n pc' Ls (.int x.toInt8.toInt32 :: rest)) : W h k n pc Ls (.int x :: rest) := by
  obtain ⟨p, e, s, m, args, below, meth, c, ⟨hx, hby, hml, hown, hZ, hre, hlk, hnm⟩, rfl⟩ := C
  subst hp
  intro T locs k' n' q1 q2 X eT N
  obtain ⟨s2, o, st2, r⟩ := q T locs k' n' q1 q2 X eT N
  exact ⟨s2, o, XT.i2b (X.here) hx rfl (hb hby hd) rfl st2, r⟩
theorem Ru.iconst (C : Ru l Z own code maxL ret nm R n0 G W) {i : Int} {v : Int32} (hd : decode code pc = .ok (.iconst i, 1)) (hp : pc + 1 = pc') (hv : Int32.ofInt i = v) (q : W h k n pc' Ls (.int v :: st)) : W h k n pc Ls (st) := by
  obtain ⟨p, e, s, m, args, below, meth, c, ⟨hx, hby, hml, hown, hZ, hre, hlk, hnm⟩, rfl⟩ := C
  subst hp hv
  intro T locs k' n' q1 q2 X eT N
  obtain ⟨s2, o, st2, r⟩ := q T locs k' n' q1 q2 X eT N
  exact ⟨s2, o, XS.iconst (X.here) hx rfl (hb hby hd)  st2, r⟩
theorem Ru.bipush (C : Ru l Z own code maxL ret nm R n0 G W) {i : Int} {v : Int32} (hd : decode code pc = .ok (.bipush i, 2)) (hp : pc + 2 = pc') (hv : (Int8.ofInt i).toInt32 = v) (q : W h k n pc' Ls (.int v :: st)) : W h k n pc Ls (st) := by
  obtain ⟨p, e, s, m, args, below, meth, c, ⟨hx, hby, hml, hown, hZ, hre, hlk, hnm⟩, rfl⟩ := C
  subst hp hv
  intro T locs k' n' q1 q2 X eT N
  obtain ⟨s2, o, st2, r⟩ := q T locs k' n' q1 q2 X eT N
  exact ⟨s2, o, XS.bipush (X.here) hx rfl (hb hby hd)  st2, r⟩
theorem Ru.sipush (C : Ru l Z own code maxL ret nm R n0 G W) {i : Int} {v : Int32} (hd : decode code pc = .ok (.sipush i, 3)) (hp : pc + 3 = pc') (hv : (Int16.ofInt i).toInt32 = v) (q : W h k n pc' Ls (.int v :: st)) : W h k n pc Ls (st) := by
  obtain ⟨p, e, s, m, args, below, meth, c, ⟨hx, hby, hml, hown, hZ, hre, hlk, hnm⟩, rfl⟩ := C
  subst hp hv
  intro T locs k' n' q1 q2 X eT N
  obtain ⟨s2, o, st2, r⟩ := q T locs k' n' q1 q2 X eT N
  exact ⟨s2, o, XS.sipush (X.here) hx rfl (hb hby hd)  st2, r⟩
theorem Ru.lconst (C : Ru l Z own code maxL ret nm R n0 G W) {i : Fin 2} {v : Int64} (hd : decode code pc = .ok (.lconst i, 1)) (hp : pc + 1 = pc') (hv : Int64.ofNat i = v) (q : W h k n pc' Ls (.long v :: st)) : W h k n pc Ls (st) := by
  obtain ⟨p, e, s, m, args, below, meth, c, ⟨hx, hby, hml, hown, hZ, hre, hlk, hnm⟩, rfl⟩ := C
  subst hp hv
  intro T locs k' n' q1 q2 X eT N
  obtain ⟨s2, o, st2, r⟩ := q T locs k' n' q1 q2 X eT N
  exact ⟨s2, o, XT.lconst (X.here) hx rfl (hb hby hd)  st2, r⟩
theorem Ru.aconstNull (C : Ru l Z own code maxL ret nm R n0 G W)  (hd : decode code pc = .ok (.aconst_null, 1)) (hp : pc + 1 = pc') (q : W h k n pc' Ls (.null :: st)) : W h k n pc Ls (st) := by
  obtain ⟨p, e, s, m, args, below, meth, c, ⟨hx, hby, hml, hown, hZ, hre, hlk, hnm⟩, rfl⟩ := C
  subst hp
  intro T locs k' n' q1 q2 X eT N
  obtain ⟨s2, o, st2, r⟩ := q T locs k' n' q1 q2 X eT N
  exact ⟨s2, o, XS.aconstNull (X.here) hx rfl (hb hby hd)  st2, r⟩
theorem Ru.dup (C : Ru l Z own code maxL ret nm R n0 G W) {x : Value} (hd : decode code pc = .ok (.dup, 1)) (hp : pc + 1 = pc') (hc : x.category = 1) (q : W h k n pc' Ls (x :: x :: rest)) : W h k n pc Ls (x :: rest) := by
  obtain ⟨p, e, s, m, args, below, meth, c, ⟨hx, hby, hml, hown, hZ, hre, hlk, hnm⟩, rfl⟩ := C
  subst hp
  intro T locs k' n' q1 q2 X eT N
  obtain ⟨s2, o, st2, r⟩ := q T locs k' n' q1 q2 X eT N
  exact ⟨s2, o, XS.dup (X.here) hx rfl (hb hby hd) rfl hc st2, r⟩
theorem Ru.pop (C : Ru l Z own code maxL ret nm R n0 G W) {x : Value} (hd : decode code pc = .ok (.pop, 1)) (hp : pc + 1 = pc') (hc : x.category = 1) (q : W h k n pc' Ls (rest)) : W h k n pc Ls (x :: rest) := by
  obtain ⟨p, e, s, m, args, below, meth, c, ⟨hx, hby, hml, hown, hZ, hre, hlk, hnm⟩, rfl⟩ := C
  subst hp
  intro T locs k' n' q1 q2 X eT N
  obtain ⟨s2, o, st2, r⟩ := q T locs k' n' q1 q2 X eT N
  exact ⟨s2, o, XT.pop (X.here) hx rfl (hb hby hd) rfl hc st2, r⟩
theorem Ru.dup2 (C : Ru l Z own code maxL ret nm R n0 G W) {x y : Value} (hd : decode code pc = .ok (.dup2, 1)) (hp : pc + 1 = pc') (hc : x.category = 1) (hc' : y.category = 1) (q : W h k n pc' Ls (x :: y :: x :: y :: rest)) : W h k n pc Ls (x :: y :: rest) := by
  obtain ⟨p, e, s, m, args, below, meth, c, ⟨hx, hby, hml, hown, hZ, hre, hlk, hnm⟩, rfl⟩ := C
  subst hp
  intro T locs k' n' q1 q2 X eT N
  obtain ⟨s2, o, st2, r⟩ := q T locs k' n' q1 q2 X eT N
  exact ⟨s2, o, XT.dup2 (X.here) hx rfl (hb hby hd) rfl hc hc' st2, r⟩
theorem Ru.dup2L (C : Ru l Z own code maxL ret nm R n0 G W) {x : Int64} (hd : decode code pc = .ok (.dup2, 1)) (hp : pc + 1 = pc') (q : W h k n pc' Ls (.long x :: .long x :: rest)) : W h k n pc Ls (.long x :: rest) := by
  obtain ⟨p, e, s, m, args, below, meth, c, ⟨hx, hby, hml, hown, hZ, hre, hlk, hnm⟩, rfl⟩ := C
  subst hp
  intro T locs k' n' q1 q2 X eT N
  obtain ⟨s2, o, st2, r⟩ := q T locs k' n' q1 q2 X eT N
  exact ⟨s2, o, XT.dup2L (X.here) hx rfl (hb hby hd) rfl st2, r⟩
theorem Ru.dupX1 (C : Ru l Z own code maxL ret nm R n0 G W) {x y : Value} (hd : decode code pc = .ok (.dup_x1, 1)) (hp : pc + 1 = pc') (hc : x.category = 1) (hc' : y.category = 1) (q : W h k n pc' Ls (x :: y :: x :: rest)) : W h k n pc Ls (x :: y :: rest) := by
  obtain ⟨p, e, s, m, args, below, meth, c, ⟨hx, hby, hml, hown, hZ, hre, hlk, hnm⟩, rfl⟩ := C
  subst hp
  intro T locs k' n' q1 q2 X eT N
  obtain ⟨s2, o, st2, r⟩ := q T locs k' n' q1 q2 X eT N
  exact ⟨s2, o, XT.dupX1 (X.here) hx rfl (hb hby hd) rfl hc hc' st2, r⟩
theorem Ru.iload (C : Ru l Z own code maxL ret nm R n0 G W) {j : Nat} {v : Int32} (hd : decode code pc = .ok (.iload j, 2)) (hp : pc + 2 = pc') (hl : Ls[j]? = some (.val (.int v))) (q : W h k n pc' Ls (.int v :: st)) : W h k n pc Ls (st) := by
  obtain ⟨p, e, s, m, args, below, meth, c, ⟨hx, hby, hml, hown, hZ, hre, hlk, hnm⟩, rfl⟩ := C
  subst hp
  intro T locs k' n' q1 q2 X eT N
  obtain ⟨s2, o, st2, r⟩ := q T locs k' n' q1 q2 X eT N
  exact ⟨s2, o, XS.iload (X.here) hx rfl (hb hby hd) hl st2, r⟩
theorem Ru.iloadN (C : Ru l Z own code maxL ret nm R n0 G W) {j : Fin 4} {v : Int32} (hd : decode code pc = .ok (.iload_n j, 1)) (hp : pc + 1 = pc') (hl : Ls[j.val]? = some (.val (.int v))) (q : W h k n pc' Ls (.int v :: st)) : W h k n pc Ls (st) := by
  obtain ⟨p, e, s, m, args, below, meth, c, ⟨hx, hby, hml, hown, hZ, hre, hlk, hnm⟩, rfl⟩ := C
  subst hp
  intro T locs k' n' q1 q2 X eT N
  obtain ⟨s2, o, st2, r⟩ := q T locs k' n' q1 q2 X eT N
  exact ⟨s2, o, XS.iloadN (X.here) hx rfl (hb hby hd) hl st2, r⟩
theorem Ru.lload (C : Ru l Z own code maxL ret nm R n0 G W) {j : Nat} {v : Int64} (hd : decode code pc = .ok (.lload j, 2)) (hp : pc + 2 = pc') (hl : Ls[j]? = some (.val (.long v))) (q : W h k n pc' Ls (.long v :: st)) : W h k n pc Ls (st) := by
  obtain ⟨p, e, s, m, args, below, meth, c, ⟨hx, hby, hml, hown, hZ, hre, hlk, hnm⟩, rfl⟩ := C
  subst hp
  intro T locs k' n' q1 q2 X eT N
  obtain ⟨s2, o, st2, r⟩ := q T locs k' n' q1 q2 X eT N
  exact ⟨s2, o, XT.lload (X.here) hx rfl (hb hby hd) hl st2, r⟩
theorem Ru.lloadN (C : Ru l Z own code maxL ret nm R n0 G W) {j : Fin 4} {v : Int64} (hd : decode code pc = .ok (.lload_n j, 1)) (hp : pc + 1 = pc') (hl : Ls[j.val]? = some (.val (.long v))) (q : W h k n pc' Ls (.long v :: st)) : W h k n pc Ls (st) := by
  obtain ⟨p, e, s, m, args, below, meth, c, ⟨hx, hby, hml, hown, hZ, hre, hlk, hnm⟩, rfl⟩ := C
  subst hp
  intro T locs k' n' q1 q2 X eT N
  obtain ⟨s2, o, st2, r⟩ := q T locs k' n' q1 q2 X eT N
  exact ⟨s2, o, XT.lloadN (X.here) hx rfl (hb hby hd) hl st2, r⟩
theorem Ru.aload (C : Ru l Z own code maxL ret nm R n0 G W) {j : Nat} {v : Value} (hd : decode code pc = .ok (.aload j, 2)) (hp : pc + 2 = pc') (hl : Ls[j]? = some (.val v)) (hv : v.isRef = true) (q : W h k n pc' Ls (v :: st)) : W h k n pc Ls (st) := by
  obtain ⟨p, e, s, m, args, below, meth, c, ⟨hx, hby, hml, hown, hZ, hre, hlk, hnm⟩, rfl⟩ := C
  subst hp
  intro T locs k' n' q1 q2 X eT N
  obtain ⟨s2, o, st2, r⟩ := q T locs k' n' q1 q2 X eT N
  exact ⟨s2, o, XS.aload (X.here) hx rfl (hb hby hd) hl hv st2, r⟩
theorem Ru.aloadN (C : Ru l Z own code maxL ret nm R n0 G W) {j : Fin 4} {v : Value} (hd : decode code pc = .ok (.aload_n j, 1)) (hp : pc + 1 = pc') (hl : Ls[j.val]? = some (.val v)) (hv : v.isRef = true) (q : W h k n pc' Ls (v :: st)) : W h k n pc Ls (st) := by
  obtain ⟨p, e, s, m, args, below, meth, c, ⟨hx, hby, hml, hown, hZ, hre, hlk, hnm⟩, rfl⟩ := C
  subst hp
  intro T locs k' n' q1 q2 X eT N
  obtain ⟨s2, o, st2, r⟩ := q T locs k' n' q1 q2 X eT N
  exact ⟨s2, o, XS.aloadN (X.here) hx rfl (hb hby hd) hl hv st2, r⟩
theorem Ru.istoreX (C : Ru l Z own code maxL ret nm R n0 G W) {j : Nat} {x : Int32} {l' : Array Slot} (hd : decode code pc = .ok (.istore j, 2)) (hp : pc + 2 = pc') (hl : storeLocals Ls j (.int x) = some l') (q : W h k n pc' l' rest) : W h k n pc Ls (.int x :: rest) := by
  obtain ⟨p, e, s, m, args, below, meth, c, ⟨hx, hby, hml, hown, hZ, hre, hlk, hnm⟩, rfl⟩ := C
  subst hp
  intro T locs k' n' q1 q2 X eT N
  obtain ⟨s2, o, st2, r⟩ := q T locs k' n' q1 q2 X eT N
  exact ⟨s2, o, XS.istore X.here hx rfl (hb hby hd) rfl hl st2, r⟩
theorem Ru.istoreNX (C : Ru l Z own code maxL ret nm R n0 G W) {j : Fin 4} {x : Int32} {l' : Array Slot} (hd : decode code pc = .ok (.istore_n j, 1)) (hp : pc + 1 = pc') (hl : storeLocals Ls j.val (.int x) = some l') (q : W h k n pc' l' rest) : W h k n pc Ls (.int x :: rest) := by
  obtain ⟨p, e, s, m, args, below, meth, c, ⟨hx, hby, hml, hown, hZ, hre, hlk, hnm⟩, rfl⟩ := C
  subst hp
  intro T locs k' n' q1 q2 X eT N
  obtain ⟨s2, o, st2, r⟩ := q T locs k' n' q1 q2 X eT N
  exact ⟨s2, o, XS.istoreN X.here hx rfl (hb hby hd) rfl hl st2, r⟩
theorem Ru.lstoreX (C : Ru l Z own code maxL ret nm R n0 G W) {j : Nat} {x : Int64} {l' : Array Slot} (hd : decode code pc = .ok (.lstore j, 2)) (hp : pc + 2 = pc') (hl : storeLocals Ls j (.long x) = some l') (q : W h k n pc' l' rest) : W h k n pc Ls (.long x :: rest) := by
  obtain ⟨p, e, s, m, args, below, meth, c, ⟨hx, hby, hml, hown, hZ, hre, hlk, hnm⟩, rfl⟩ := C
  subst hp
  intro T locs k' n' q1 q2 X eT N
  obtain ⟨s2, o, st2, r⟩ := q T locs k' n' q1 q2 X eT N
  exact ⟨s2, o, XT.lstore X.here hx rfl (hb hby hd) rfl hl st2, r⟩
theorem Ru.lstoreNX (C : Ru l Z own code maxL ret nm R n0 G W) {j : Fin 4} {x : Int64} {l' : Array Slot} (hd : decode code pc = .ok (.lstore_n j, 1)) (hp : pc + 1 = pc') (hl : storeLocals Ls j.val (.long x) = some l') (q : W h k n pc' l' rest) : W h k n pc Ls (.long x :: rest) := by
  obtain ⟨p, e, s, m, args, below, meth, c, ⟨hx, hby, hml, hown, hZ, hre, hlk, hnm⟩, rfl⟩ := C
  subst hp
  intro T locs k' n' q1 q2 X eT N
  obtain ⟨s2, o, st2, r⟩ := q T locs k' n' q1 q2 X eT N
  exact ⟨s2, o, XT.lstoreN X.here hx rfl (hb hby hd) rfl hl st2, r⟩
theorem Ru.istore (C : Ru l Z own code maxL ret nm R n0 G W) {j : Nat} {x : Int32} {f : Int32 → Array Slot} (hd : decode code pc = .ok (.istore j, 2)) (hp : pc + 2 = pc') (hl : ∀ v, storeLocals Ls j (.int v) = some (f v)) (q : ∀ v, v = x → W h k n pc' (f v) rest) : W h k n pc Ls (.int x :: rest) := by
  obtain ⟨p, e, s, m, args, below, meth, c, ⟨hx, hby, hml, hown, hZ, hre, hlk, hnm⟩, rfl⟩ := C
  subst hp
  intro T locs k' n' q1 q2 X eT N
  obtain ⟨s2, o, st2, r⟩ := q x rfl T locs k' n' q1 q2 X eT N
  exact ⟨s2, o, XS.istore X.here hx rfl (hb hby hd) rfl (hl x) st2, r⟩
theorem Ru.istoreN (C : Ru l Z own code maxL ret nm R n0 G W) {j : Fin 4} {x : Int32} {f : Int32 → Array Slot} (hd : decode code pc = .ok (.istore_n j, 1)) (hp : pc + 1 = pc') (hl : ∀ v, storeLocals Ls j.val (.int v) = some (f v)) (q : ∀ v, v = x → W h k n pc' (f v) rest) : W h k n pc Ls (.int x :: rest) := by
  obtain ⟨p, e, s, m, args, below, meth, c, ⟨hx, hby, hml, hown, hZ, hre, hlk, hnm⟩, rfl⟩ := C
  subst hp
  intro T locs k' n' q1 q2 X eT N
  obtain ⟨s2, o, st2, r⟩ := q x rfl T locs k' n' q1 q2 X eT N
  exact ⟨s2, o, XS.istoreN X.here hx rfl (hb hby hd) rfl (hl x) st2, r⟩
theorem Ru.lstore (C : Ru l Z own code maxL ret nm R n0 G W) {j : Nat} {x : Int64} {f : Int64 → Array Slot} (hd : decode code pc = .ok (.lstore j, 2)) (hp : pc + 2 = pc') (hl : ∀ v, storeLocals Ls j (.long v) = some (f v)) (q : ∀ v, v = x → W h k n pc' (f v) rest) : W h k n pc Ls (.long x :: rest) := by
  obtain ⟨p, e, s, m, args, below, meth, c, ⟨hx, hby, hml, hown, hZ, hre, hlk, hnm⟩, rfl⟩ := C
  subst hp
  intro T locs k' n' q1 q2 X eT N
  obtain ⟨s2, o, st2, r⟩ := q x rfl T locs k' n' q1 q2 X eT N
  exact ⟨s2, o, XT.lstore X.here hx rfl (hb hby hd) rfl (hl x) st2, r⟩
theorem Ru.lstoreN (C : Ru l Z own code maxL ret nm R n0 G W) {j : Fin 4} {x : Int64} {f : Int64 → Array Slot} (hd : decode code pc = .ok (.lstore_n j, 1)) (hp : pc + 1 = pc') (hl : ∀ v, storeLocals Ls j.val (.long v) = some (f v)) (q : ∀ v, v = x → W h k n pc' (f v) rest) : W h k n pc Ls (.long x :: rest) := by
  obtain ⟨p, e, s, m, args, below, meth, c, ⟨hx, hby, hml, hown, hZ, hre, hlk, hnm⟩, rfl⟩ := C
  subst hp
  intro T locs k' n' q1 q2 X eT N
  obtain ⟨s2, o, st2, r⟩ := q x rfl T locs k' n' q1 q2 X eT N
  exact ⟨s2, o, XT.lstoreN X.here hx rfl (hb hby hd) rfl (hl x) st2, r⟩
theorem Ru.astore (C : Ru l Z own code maxL ret nm R n0 G W) {j : Nat} {x : Value} {l' : Array Slot} (hd : decode code pc = .ok (.astore j, 2)) (hp : pc + 2 = pc') (hv : x.isRef = true) (hl : storeLocals Ls j x = some l') (q : W h k n pc' l' rest) : W h k n pc Ls (x :: rest) := by
  obtain ⟨p, e, s, m, args, below, meth, c, ⟨hx, hby, hml, hown, hZ, hre, hlk, hnm⟩, rfl⟩ := C
  subst hp
  intro T locs k' n' q1 q2 X eT N
  obtain ⟨s2, o, st2, r⟩ := q T locs k' n' q1 q2 X eT N
  exact ⟨s2, o, XS.astore X.here hx rfl (hb hby hd) rfl hv hl st2, r⟩
theorem Ru.astoreN (C : Ru l Z own code maxL ret nm R n0 G W) {j : Fin 4} {x : Value} {l' : Array Slot} (hd : decode code pc = .ok (.astore_n j, 1)) (hp : pc + 1 = pc') (hv : x.isRef = true) (hl : storeLocals Ls j.val x = some l') (q : W h k n pc' l' rest) : W h k n pc Ls (x :: rest) := by
  obtain ⟨p, e, s, m, args, below, meth, c, ⟨hx, hby, hml, hown, hZ, hre, hlk, hnm⟩, rfl⟩ := C
  subst hp
  intro T locs k' n' q1 q2 X eT N
  obtain ⟨s2, o, st2, r⟩ := q T locs k' n' q1 q2 X eT N
  exact ⟨s2, o, XS.astoreN X.here hx rfl (hb hby hd) rfl hv hl st2, r⟩
theorem Ru.iinc (C : Ru l Z own code maxL ret nm R n0 G W) {j : Nat} {cst : Int} {x d : Int32} {f : Int32 → Array Slot} (hd : decode code pc = .ok (.iinc j cst, 3)) (hp : pc + 3 = pc') (hl : Ls[j]? = some (.val (.int x))) (hc : Int32.ofInt cst = d) (hl' : ∀ v, storeLocals Ls j (.int v) = some (f v)) (q : ∀ v, v = x + d → W h k n pc' (f v) st) : W h k n pc Ls st := by
  obtain ⟨p, e, s, m, args, below, meth, c, ⟨hx, hby, hml, hown, hZ, hre, hlk, hnm⟩, rfl⟩ := C
  subst hp hc
  intro T locs k' n' q1 q2 X eT N
  obtain ⟨s2, o, st2, r⟩ := q _ rfl T locs k' n' q1 q2 X eT N
  exact ⟨s2, o, XS.iinc X.here hx rfl (hb hby hd) hl (hl' _) st2, r⟩
theorem Ru.goto (C : Ru l Z own code maxL ret nm R n0 G W) {o : Int} (hd : decode code pc = .ok (.goto o, 3)) (hp : (pc : Int) + o = (pc' : Int)) (q : W h k n pc' Ls st) : W h k n pc Ls st := by
  obtain ⟨p, e, s, m, args, below, meth, c, ⟨hx, hby, hml, hown, hZ, hre, hlk, hnm⟩, rfl⟩ := C
  intro T locs k' n' q1 q2 X eT N
  obtain ⟨s2, o2, st2, r⟩ := q T locs k' n' q1 q2 X eT N
  exact ⟨s2, o2, XS.goto X.here hx rfl (pc0 := pc) (pc' := pc') rfl (hb hby hd) (by omega) (by omega) st2, r⟩
theorem Ru.ifAny (C : Ru l Z own code maxL ret nm R n0 G W) {cd : ClassFile.Cond} {o : Int} {x : Int32} {pt : Nat} (hd : decode code pc = .ok (.ifCond cd o, 3)) (hp : pc + 3 = pc') (ht : (pc : Int) + o = (pt : Int)) (q1 : ifCond.holds cd x = true → W h k n pt Ls rest) (q2 : ifCond.holds cd x = false → W h k n pc' Ls rest) : W h k n pc Ls (.int x :: rest) := by
  obtain ⟨p, e, s, m, args, below, meth, c, ⟨hx, hby, hml, hown, hZ, hre, hlk, hnm⟩, rfl⟩ := C
  subst hp
  intro T locs k' n' u1 u2 X eT N
  cases hc : ifCond.holds cd x
  · obtain ⟨s2, o2, st2, r⟩ := q2 hc T locs k' n' u1 u2 X eT N
    exact ⟨s2, o2, XS.ifNo X.here hx rfl (hb hby hd) rfl hc st2, r⟩
  · obtain ⟨s2, o2, st2, r⟩ := q1 hc T locs k' n' u1 u2 X eT N
    exact ⟨s2, o2, XS.ifYes X.here hx rfl (pc0 := pc) (pc' := pt) rfl (hb hby hd) rfl hc (by omega) (by omega) st2, r⟩
theorem Ru.icmpAny (C : Ru l Z own code maxL ret nm R n0 G W) {cd : ClassFile.Cond} {o : Int} {x y : Int32} {pt : Nat} (hd : decode code pc = .ok (.if_icmp cd o, 3)) (hp : pc + 3 = pc') (ht : (pc : Int) + o = (pt : Int)) (q1 : if_icmp.holds cd x y = true → W h k n pt Ls rest) (q2 : if_icmp.holds cd x y = false → W h k n pc' Ls rest) : W h k n pc Ls (.int y :: .int x :: rest) := by
  obtain ⟨p, e, s, m, args, below, meth, c, ⟨hx, hby, hml, hown, hZ, hre, hlk, hnm⟩, rfl⟩ := C
  subst hp
  intro T locs k' n' u1 u2 X eT N
  cases hc : if_icmp.holds cd x y
  · obtain ⟨s2, o2, st2, r⟩ := q2 hc T locs k' n' u1 u2 X eT N
    exact ⟨s2, o2, XS.icmpNo X.here hx rfl (hb hby hd) rfl hc st2, r⟩
  · obtain ⟨s2, o2, st2, r⟩ := q1 hc T locs k' n' u1 u2 X eT N
    exact ⟨s2, o2, XS.icmpYes X.here hx rfl (pc0 := pc) (pc' := pt) rfl (hb hby hd) rfl hc (by omega) (by omega) st2, r⟩
theorem Ru.lcmp (C : Ru l Z own code maxL ret nm R n0 G W) {x y : Int64} (hd : decode code pc = .ok (.lcmp, 1)) (hp : pc + 1 = pc') (q : W h k n pc' Ls (.int (XT.cmpL x y) :: rest)) : W h k n pc Ls (.long y :: .long x :: rest) := by
  obtain ⟨p, e, s, m, args, below, meth, c, ⟨hx, hby, hml, hown, hZ, hre, hlk, hnm⟩, rfl⟩ := C
  subst hp
  intro T locs k' n' q1 q2 X eT N
  obtain ⟨s2, o, st2, r⟩ := q T locs k' n' q1 q2 X eT N
  exact ⟨s2, o, XT.lcmp X.here hx rfl (hb hby hd) rfl st2, r⟩
theorem cmpL_lt (x y : Int64) : XT.cmpL x y < 0 ↔ x < y := by
  have e : XT.cmpL x y = lcmpV x y := by simp only [XT.cmpL, lcmpV]; split <;> simp_all
  rw [e]; exact lc_lt x y
theorem cmpL_gt (x y : Int64) : 0 < XT.cmpL x y ↔ y < x := by
  have e : XT.cmpL x y = lcmpV x y := by simp only [XT.cmpL, lcmpV]; split <;> simp_all
  rw [e]; exact lc_gt x y
theorem cmpL_eq (x y : Int64) : XT.cmpL x y = 0 ↔ x = y := by
  have e : XT.cmpL x y = lcmpV x y := by simp only [XT.cmpL, lcmpV]; split <;> simp_all
  rw [e]; exact lc_eq x y
theorem Ru.if_eq (C : Ru l Z own code maxL ret nm R n0 G W) {o : Int} {x : Int32} {pt : Nat} (hd : decode code pc = .ok (.ifCond .eq o, 3)) (hp : pc + 3 = pc') (ht : (pc : Int) + o = (pt : Int)) (q1 : x = 0 → W h k n pt Ls rest) (q2 : ¬ x = 0 → W h k n pc' Ls rest) : W h k n pc Ls (.int x :: rest) :=
  C.ifAny hd hp ht (fun q => q1 (by simpa [ifCond.holds] using q)) (fun q => q2 (by simpa [ifCond.holds] using q))
theorem Ru.icmp_eq (C : Ru l Z own code maxL ret nm R n0 G W) {o : Int} {x y : Int32} {pt : Nat} (hd : decode code pc = .ok (.if_icmp .eq o, 3)) (hp : pc + 3 = pc') (ht : (pc : Int) + o = (pt : Int)) (q1 : x = y → W h k n pt Ls rest) (q2 : ¬ x = y → W h k n pc' Ls rest) : W h k n pc Ls (.int y :: .int x :: rest) :=
  C.icmpAny hd hp ht (fun q => q1 (by simpa [if_icmp.holds] using q)) (fun q => q2 (by simpa [if_icmp.holds] using q))
theorem Ru.lif_eq (C : Ru l Z own code maxL ret nm R n0 G W) {o : Int} {x y : Int64} {pi pt : Nat} (hd : decode code pc = .ok (.lcmp, 1)) (hi : pc + 1 = pi) (hd2 : decode code pi = .ok (.ifCond .eq o, 3)) (hp : pi + 3 = pc') (ht : (pi : Int) + o = (pt : Int)) (q1 : x = y → W h k n pt Ls rest) (q2 : ¬ x = y → W h k n pc' Ls rest) : W h k n pc Ls (.long y :: .long x :: rest) :=
  C.lcmp hd hi (C.if_eq hd2 hp ht (fun q => q1 (by simpa only [cmpL_eq, cmpL_lt, cmpL_gt] using q)) (fun q => q2 (by simpa only [cmpL_eq, cmpL_lt, cmpL_gt] using q)))
theorem Ru.if_ne (C : Ru l Z own code maxL ret nm R n0 G W) {o : Int} {x : Int32} {pt : Nat} (hd : decode code pc = .ok (.ifCond .ne o, 3)) (hp : pc + 3 = pc') (ht : (pc : Int) + o = (pt : Int)) (q1 : ¬ x = 0 → W h k n pt Ls rest) (q2 : x = 0 → W h k n pc' Ls rest) : W h k n pc Ls (.int x :: rest) :=
  C.ifAny hd hp ht (fun q => q1 (by simpa [ifCond.holds] using q)) (fun q => q2 (by simpa [ifCond.holds] using q))
theorem Ru.icmp_ne (C : Ru l Z own code maxL ret nm R n0 G W) {o : Int} {x y : Int32} {pt : Nat} (hd : decode code pc = .ok (.if_icmp .ne o, 3)) (hp : pc + 3 = pc') (ht : (pc : Int) + o = (pt : Int)) (q1 : ¬ x = y → W h k n pt Ls rest) (q2 : x = y → W h k n pc' Ls rest) : W h k n pc Ls (.int y :: .int x :: rest) :=
  C.icmpAny hd hp ht (fun q => q1 (by simpa [if_icmp.holds] using q)) (fun q => q2 (by simpa [if_icmp.holds] using q))
theorem Ru.lif_ne (C : Ru l Z own code maxL ret nm R n0 G W) {o : Int} {x y : Int64} {pi pt : Nat} (hd : decode code pc = .ok (.lcmp, 1)) (hi : pc + 1 = pi) (hd2 : decode code pi = .ok (.ifCond .ne o, 3)) (hp : pi + 3 = pc') (ht : (pi : Int) + o = (pt : Int)) (q1 : ¬ x = y → W h k n pt Ls rest) (q2 : x = y → W h k n pc' Ls rest) : W h k n pc Ls (.long y :: .long x :: rest) :=
  C.lcmp hd hi (C.if_ne hd2 hp ht (fun q => q1 (by simpa only [cmpL_eq, cmpL_lt, cmpL_gt] using q)) (fun q => q2 (by simpa only [cmpL_eq, cmpL_lt, cmpL_gt] using q)))
theorem Ru.if_lt (C : Ru l Z own code maxL ret nm R n0 G W) {o : Int} {x : Int32} {pt : Nat} (hd : decode code pc = .ok (.ifCond .lt o, 3)) (hp : pc + 3 = pc') (ht : (pc : Int) + o = (pt : Int)) (q1 : x < 0 → W h k n pt Ls rest) (q2 : ¬ x < 0 → W h k n pc' Ls rest) : W h k n pc Ls (.int x :: rest) :=
  C.ifAny hd hp ht (fun q => q1 (by simpa [ifCond.holds] using q)) (fun q => q2 (by simpa [ifCond.holds] using q))
theorem Ru.icmp_lt (C : Ru l Z own code maxL ret nm R n0 G W) {o : Int} {x y : Int32} {pt : Nat} (hd : decode code pc = .ok (.if_icmp .lt o, 3)) (hp : pc + 3 = pc') (ht : (pc : Int) + o = (pt : Int)) (q1 : x < y → W h k n pt Ls rest) (q2 : ¬ x < y → W h k n pc' Ls rest) : W h k n pc Ls (.int y :: .int x :: rest) :=
  C.icmpAny hd hp ht (fun q => q1 (by simpa [if_icmp.holds] using q)) (fun q => q2 (by simpa [if_icmp.holds] using q))
theorem Ru.lif_lt (C : Ru l Z own code maxL ret nm R n0 G W) {o : Int} {x y : Int64} {pi pt : Nat} (hd : decode code pc = .ok (.lcmp, 1)) (hi : pc + 1 = pi) (hd2 : decode code pi = .ok (.ifCond .lt o, 3)) (hp : pi + 3 = pc') (ht : (pi : Int) + o = (pt : Int)) (q1 : x < y → W h k n pt Ls rest) (q2 : ¬ x < y → W h k n pc' Ls rest) : W h k n pc Ls (.long y :: .long x :: rest) :=
  C.lcmp hd hi (C.if_lt hd2 hp ht (fun q => q1 (by simpa only [cmpL_eq, cmpL_lt, cmpL_gt] using q)) (fun q => q2 (by simpa only [cmpL_eq, cmpL_lt, cmpL_gt] using q)))
theorem Ru.if_ge (C : Ru l Z own code maxL ret nm R n0 G W) {o : Int} {x : Int32} {pt : Nat} (hd : decode code pc = .ok (.ifCond .ge o, 3)) (hp : pc + 3 = pc') (ht : (pc : Int) + o = (pt : Int)) (q1 : ¬ x < 0 → W h k n pt Ls rest) (q2 : x < 0 → W h k n pc' Ls rest) : W h k n pc Ls (.int x :: rest) :=
  C.ifAny hd hp ht (fun q => q1 (by simpa [ifCond.holds] using q)) (fun q => q2 (by simpa [ifCond.holds] using q))
theorem Ru.icmp_ge (C : Ru l Z own code maxL ret nm R n0 G W) {o : Int} {x y : Int32} {pt : Nat} (hd : decode code pc = .ok (.if_icmp .ge o, 3)) (hp : pc + 3 = pc') (ht : (pc : Int) + o = (pt : Int)) (q1 : ¬ x < y → W h k n pt Ls rest) (q2 : x < y → W h k n pc' Ls rest) : W h k n pc Ls (.int y :: .int x :: rest) :=
  C.icmpAny hd hp ht (fun q => q1 (by simpa [if_icmp.holds] using q)) (fun q => q2 (by simpa [if_icmp.holds] using q))
theorem Ru.lif_ge (C : Ru l Z own code maxL ret nm R n0 G W) {o : Int} {x y : Int64} {pi pt : Nat} (hd : decode code pc = .ok (.lcmp, 1)) (hi : pc + 1 = pi) (hd2 : decode code pi = .ok (.ifCond .ge o, 3)) (hp : pi + 3 = pc') (ht : (pi : Int) + o = (pt : Int)) (q1 : ¬ x < y → W h k n pt Ls rest) (q2 : x < y → W h k n pc' Ls rest) : W h k n pc Ls (.long y :: .long x :: rest) :=
  C.lcmp hd hi (C.if_ge hd2 hp ht (fun q => q1 (by simpa only [cmpL_eq, cmpL_lt, cmpL_gt] using q)) (fun q => q2 (by simpa only [cmpL_eq, cmpL_lt, cmpL_gt] using q)))
theorem Ru.if_gt (C : Ru l Z own code maxL ret nm R n0 G W) {o : Int} {x : Int32} {pt : Nat} (hd : decode code pc = .ok (.ifCond .gt o, 3)) (hp : pc + 3 = pc') (ht : (pc : Int) + o = (pt : Int)) (q1 : 0 < x → W h k n pt Ls rest) (q2 : ¬ 0 < x → W h k n pc' Ls rest) : W h k n pc Ls (.int x :: rest) :=
  C.ifAny hd hp ht (fun q => q1 (by simpa [ifCond.holds] using q)) (fun q => q2 (by simpa [ifCond.holds] using q))
theorem Ru.icmp_gt (C : Ru l Z own code maxL ret nm R n0 G W) {o : Int} {x y : Int32} {pt : Nat} (hd : decode code pc = .ok (.if_icmp .gt o, 3)) (hp : pc + 3 = pc') (ht : (pc : Int) + o = (pt : Int)) (q1 : y < x → W h k n pt Ls rest) (q2 : ¬ y < x → W h k n pc' Ls rest) : W h k n pc Ls (.int y :: .int x :: rest) :=
  C.icmpAny hd hp ht (fun q => q1 (by simpa [if_icmp.holds] using q)) (fun q => q2 (by simpa [if_icmp.holds] using q))
theorem Ru.lif_gt (C : Ru l Z own code maxL ret nm R n0 G W) {o : Int} {x y : Int64} {pi pt : Nat} (hd : decode code pc = .ok (.lcmp, 1)) (hi : pc + 1 = pi) (hd2 : decode code pi = .ok (.ifCond .gt o, 3)) (hp : pi + 3 = pc') (ht : (pi : Int) + o = (pt : Int)) (q1 : y < x → W h k n pt Ls rest) (q2 : ¬ y < x → W h k n pc' Ls rest) : W h k n pc Ls (.long y :: .long x :: rest) :=
  C.lcmp hd hi (C.if_gt hd2 hp ht (fun q => q1 (by simpa only [cmpL_eq, cmpL_lt, cmpL_gt] using q)) (fun q => q2 (by simpa only [cmpL_eq, cmpL_lt, cmpL_gt] using q)))
theorem Ru.if_le (C : Ru l Z own code maxL ret nm R n0 G W) {o : Int} {x : Int32} {pt : Nat} (hd : decode code pc = .ok (.ifCond .le o, 3)) (hp : pc + 3 = pc') (ht : (pc : Int) + o = (pt : Int)) (q1 : ¬ 0 < x → W h k n pt Ls rest) (q2 : 0 < x → W h k n pc' Ls rest) : W h k n pc Ls (.int x :: rest) :=
  C.ifAny hd hp ht (fun q => q1 (by simpa [ifCond.holds] using q)) (fun q => q2 (by simpa [ifCond.holds] using q))
theorem Ru.icmp_le (C : Ru l Z own code maxL ret nm R n0 G W) {o : Int} {x y : Int32} {pt : Nat} (hd : decode code pc = .ok (.if_icmp .le o, 3)) (hp : pc + 3 = pc') (ht : (pc : Int) + o = (pt : Int)) (q1 : ¬ y < x → W h k n pt Ls rest) (q2 : y < x → W h k n pc' Ls rest) : W h k n pc Ls (.int y :: .int x :: rest) :=
  C.icmpAny hd hp ht (fun q => q1 (by simpa [if_icmp.holds] using q)) (fun q => q2 (by simpa [if_icmp.holds] using q))
theorem Ru.lif_le (C : Ru l Z own code maxL ret nm R n0 G W) {o : Int} {x y : Int64} {pi pt : Nat} (hd : decode code pc = .ok (.lcmp, 1)) (hi : pc + 1 = pi) (hd2 : decode code pi = .ok (.ifCond .le o, 3)) (hp : pi + 3 = pc') (ht : (pi : Int) + o = (pt : Int)) (q1 : ¬ y < x → W h k n pt Ls rest) (q2 : y < x → W h k n pc' Ls rest) : W h k n pc Ls (.long y :: .long x :: rest) :=
  C.lcmp hd hi (C.if_le hd2 hp ht (fun q => q1 (by simpa only [cmpL_eq, cmpL_lt, cmpL_gt] using q)) (fun q => q2 (by simpa only [cmpL_eq, cmpL_lt, cmpL_gt] using q)))
theorem Ru.ifnullYes (C : Ru l Z own code maxL ret nm R n0 G W) {o : Int}  (hd : decode code pc = .ok (.ifnull o, 3)) (hp : (pc : Int) + o = (pc' : Int)) (q : W h k n pc' Ls rest) : W h k n pc Ls (.null :: rest) := by
  obtain ⟨p, e, s, m, args, below, meth, c, ⟨hx, hby, hml, hown, hZ, hre, hlk, hnm⟩, rfl⟩ := C
  intro T locs k' n' q1 q2 X eT N
  obtain ⟨s2, o2, st2, r⟩ := q T locs k' n' q1 q2 X eT N
  exact ⟨s2, o2, XS.ifnullYes X.here hx rfl (pc0 := pc) (pc' := pc') rfl (hb hby hd) rfl (by omega) (by omega) st2, r⟩
theorem Ru.ifnullNo (C : Ru l Z own code maxL ret nm R n0 G W) {o : Int} {b : Addr} (hd : decode code pc = .ok (.ifnull o, 3)) (hp : pc + 3 = pc') (q : W h k n pc' Ls rest) : W h k n pc Ls (.ref b :: rest) := by
  obtain ⟨p, e, s, m, args, below, meth, c, ⟨hx, hby, hml, hown, hZ, hre, hlk, hnm⟩, rfl⟩ := C
  subst hp
  intro T locs k' n' q1 q2 X eT N
  obtain ⟨s2, o2, st2, r⟩ := q T locs k' n' q1 q2 X eT N
  exact ⟨s2, o2, XS.ifnullNo X.here hx rfl (hb hby hd) rfl st2, r⟩
theorem Ru.ifnonnullYes (C : Ru l Z own code maxL ret nm R n0 G W) {o : Int} {b : Addr} (hd : decode code pc = .ok (.ifnonnull o, 3)) (hp : (pc : Int) + o = (pc' : Int)) (q : W h k n pc' Ls rest) : W h k n pc Ls (.ref b :: rest) := by
  obtain ⟨p, e, s, m, args, below, meth, c, ⟨hx, hby, hml, hown, hZ, hre, hlk, hnm⟩, rfl⟩ := C
  intro T locs k' n' q1 q2 X eT N
  obtain ⟨s2, o2, st2, r⟩ := q T locs k' n' q1 q2 X eT N
  exact ⟨s2, o2, XT.ifnonnullYes X.here hx rfl (pc0 := pc) (pc' := pc') rfl (hb hby hd) rfl (by omega) (by omega) st2, r⟩
theorem Ru.ifnonnullNo (C : Ru l Z own code maxL ret nm R n0 G W) {o : Int}  (hd : decode code pc = .ok (.ifnonnull o, 3)) (hp : pc + 3 = pc') (q : W h k n pc' Ls rest) : W h k n pc Ls (.null :: rest) := by
  obtain ⟨p, e, s, m, args, below, meth, c, ⟨hx, hby, hml, hown, hZ, hre, hlk, hnm⟩, rfl⟩ := C
  subst hp
  intro T locs k' n' q1 q2 X eT N
  obtain ⟨s2, o2, st2, r⟩ := q T locs k' n' q1 q2 X eT N
  exact ⟨s2, o2, XT.ifnonnullNo X.here hx rfl (hb hby hd) rfl st2, r⟩
theorem lrem_eq (x y : Int64) : x - (x / y) * y = x % y := lrem_mod x y
theorem Ru.lrem (C : Ru l Z own code maxL ret nm R n0 G W) {x y : Int64} (hd : decode code pc = .ok (.lrem, 1)) (hp : pc + 1 = pc') (hy : y ≠ 0) (q : W h k n pc' Ls (.long (x % y) :: rest)) : W h k n pc Ls (.long y :: .long x :: rest) := by
  obtain ⟨p, e, s, m, args, below, meth, c, ⟨hx, hby, hml, hown, hZ, hre, hlk, hnm⟩, rfl⟩ := C
  subst hp
  intro T locs k' n' q1 q2 X eT N
  obtain ⟨s2, o, st2, r⟩ := q T locs k' n' q1 q2 X eT N
  exact ⟨s2, o, XT.lrem X.here hx rfl (hb hby hd) rfl hy (by rw [lrem_mod]; exact st2), r⟩
theorem Ru.ldcI (C : Ru l Z own code maxL ret nm R n0 G W) {a0 : Array Value} {i : Nat} {v : Int32} (w : (Cond.constant own i v).before a0 Z = true) (hd : decode code pc = .ok (.ldc i, 2)) (hp : pc + 2 = pc') (q : W h k n pc' Ls (.int v :: st)) : W h k n pc Ls st := by
  obtain ⟨p, e, s, m, args, below, meth, c, ⟨hx, hby, hml, hown, hZ, hre, hlk, hnm⟩, rfl⟩ := C
  subst hp
  intro T locs k' n' q1 q2 X eT N
  obtain ⟨s2, o, st2, r⟩ := q T locs k' n' q1 q2 X eT N
  exact ⟨s2, o, X.ldcInt hx hown (mvT hZ w) (g := mkF m pc Ls st) rfl (hb hby hd) _ st2, r⟩
theorem Ru.ldcJ (C : Ru l Z own code maxL ret nm R n0 G W) {a0 : Array Value} {i : Nat} {v : Int64} (w : (Cond.constantLong own i v).before a0 Z = true) (hd : decode code pc = .ok (.ldc2_w i, 3)) (hp : pc + 3 = pc') (q : W h k n pc' Ls (.long v :: st)) : W h k n pc Ls st := by
  obtain ⟨p, e, s, m, args, below, meth, c, ⟨hx, hby, hml, hown, hZ, hre, hlk, hnm⟩, rfl⟩ := C
  subst hp
  intro T locs k' n' q1 q2 X eT N
  obtain ⟨s2, o, st2, r⟩ := q T locs k' n' q1 q2 X eT N
  exact ⟨s2, o, X.ldc2Long hx hown (mvT hZ w) (g := mkF m pc Ls st) rfl (hb hby hd) _ st2, r⟩
/-! the heap -/
theorem Ru.getf (C : Ru l Z own code maxL ret nm R n0 G W) {a0 : Array Value} {R0 O f d : String} {i : Nat} {a : Addr} {v : Value} (w : (Cond.fieldLink own i R0 f d).before a0 Z = true) (via : Via Z R0 O f d) (F : Fld Z h a O f d v) (hd : decode code pc = .ok (.getfield i, 3)) (hp : pc + 3 = pc') (q : W h k n pc' Ls (v :: rest)) : W h k n pc Ls (.ref a :: rest) := by
  obtain ⟨p, e, s, m, args, below, meth, c, ⟨hx, hby, hml, hown, hZ, hre, hlk, hnm⟩, rfl⟩ := C
  subst hp
  intro T locs k' n' q1 q2 X eT N
  obtain ⟨T', X', e', st'⟩ := getF X hx hZ hown (host := "") (Or.inl w) via eT F (g := mkF m pc Ls (.ref a :: rest)) rfl rfl (hb hby hd)
  obtain ⟨s2, o, st2, r⟩ := q T' locs k' n' q1 q2 X' e' N
  exact ⟨s2, o, st' _ st2, r⟩
theorem Ru.gets (C : Ru l Z own code maxL ret nm R n0 G W) {a0 : Array Value} {R0 O f d : String} {i : Nat} {v : Value} (w : (Cond.fieldLink own i R0 f d).before a0 Z = true) (via : Via Z R0 O f d) (F : Sta Z h O f d v) (hd : decode code pc = .ok (.getstatic i, 3)) (hp : pc + 3 = pc') (q : W h k n pc' Ls (v :: st)) : W h k n pc Ls st := by
  obtain ⟨p, e, s, m, args, below, meth, c, ⟨hx, hby, hml, hown, hZ, hre, hlk, hnm⟩, rfl⟩ := C
  subst hp
  intro T locs k' n' q1 q2 X eT N
  obtain ⟨T', X', e', st'⟩ := getS X hx hZ (host := "") hown w via eT F (g := mkF m pc Ls st) rfl (hb hby hd)
  obtain ⟨s2, o, st2, r⟩ := q T' locs k' n' q1 q2 X' e' N
  exact ⟨s2, o, st' _ st2, r⟩
theorem Ru.putf (C : Ru l Z own code maxL ret nm R n0 G W) {a0 : Array Value} {R0 O f d D : String} {i kk : Nat} {ty : FieldType} {a : Addr} {v old : Value} (w : (Cond.fieldLink own i R0 f d).before a0 Z = true) (via : Via Z R0 O f d) (F : Fld Z h a O f d old) (E : Exa Z h a D)
    (L : (Cond.lays D O f d).before a0 Z = true ∨ ((Cond.laysFinal D O f d).before a0 Z = true ∧ own = O ∧ nm = "<init>")) (wi : (Cond.instantiable D kk).before a0 Z = true) (hty : parseFieldDescriptor d = some ty) (hn : narrow ty v = v) (hf : fits ty v = true) (hg : n0 ≤ a)
    (hd : decode code pc = .ok (.putfield i, 3)) (hp : pc + 3 = pc') (q : ∀ h', Wr h h' a (Jvm.RoadKit.slotOf Z O f d) v → W h' k n pc' Ls rest) : W h k n pc Ls (v :: .ref a :: rest) := by
  obtain ⟨p, e, s, m, args, below, meth, c, ⟨hx, hby, hml, hown, hZ, hre, hlk, hnm⟩, rfl⟩ := C
  subst hp
  intro T locs k' n' q1 q2 X eT N
  obtain ⟨T', h', X', e', W', st'⟩ := putF X hx hZ hown (host := "") (Or.inl w) via eT F E (L.imp id fun u => ⟨u.1, u.2.1, hnm.trans u.2.2⟩) wi hty hn hf (g := mkF m pc Ls (v :: .ref a :: rest)) rfl rfl (hb hby hd)
  obtain ⟨s2, o, st2, r⟩ := q h' W' T' _ k' n' q1 q2 X' e' (Fr.snoc X' N hg)
  exact ⟨s2, o, st' _ st2, r⟩
theorem Ru.putfN (C : Ru l Z own code maxL ret nm R n0 G W) {a0 : Array Value} {R0 O f d D : String} {i kk : Nat} {ty : FieldType} {a : Addr} {v v' old : Value} (w : (Cond.fieldLink own i R0 f d).before a0 Z = true) (via : Via Z R0 O f d) (F : Fld Z h a O f d old) (E : Exa Z h a D)
    (L : (Cond.lays D O f d).before a0 Z = true ∨ ((Cond.laysFinal D O f d).before a0 Z = true ∧ own = O ∧ nm = "<init>")) (wi : (Cond.instantiable D kk).before a0 Z = true) (hty : parseFieldDescriptor d = some ty) (hn : narrow ty v = v') (hf : fits ty v' = true) (hg : n0 ≤ a)
    (hd : decode code pc = .ok (.putfield i, 3)) (hp : pc + 3 = pc') (q : ∀ h', Wr h h' a (Jvm.RoadKit.slotOf Z O f d) v' → W h' k n pc' Ls rest) : W h k n pc Ls (v :: .ref a :: rest) := by
  obtain ⟨p, e, s, m, args, below, meth, c, ⟨hx, hby, hml, hown, hZ, hre, hlk, hnm⟩, rfl⟩ := C
  subst hp
  intro T locs k' n' q1 q2 X eT N
  obtain ⟨T', h', X', e', W', st'⟩ := putFN X hx hZ hown w via eT F E (L.imp id fun u => ⟨u.1, u.2.1, hnm.trans u.2.2⟩) wi hty hn hf (g := mkF m pc Ls (v :: .ref a :: rest)) rfl rfl (hb hby hd)
  obtain ⟨s2, o, st2, r⟩ := q h' W' T' _ k' n' q1 q2 X' e' (Fr.snoc X' N hg)
  exact ⟨s2, o, st' _ st2, r⟩
theorem Ru.new (C : Ru l Z own code maxL ret nm R n0 G W) {a0 : Array Value} {D : String} {i sl : Nat} (w : (Cond.classLink own i D).before a0 Z = true) (wi : (Cond.instantiable D sl).before a0 Z = true) (wz : (Cond.initialized D).before a0 Z = true)
    (hd : decode code pc = .ok (.new i, 3)) (hp : pc + 3 = pc') (hk : k + 1 ≤ R.cells) (hn : n + sl ≤ R.slots)
    (q : ∀ h' b, b = h.size → Ext h h' → Exa Z h' b D → (∀ {O nm d : String} {ty : FieldType}, Laid Z a0 D O nm d → parseFieldDescriptor d = some ty → Fld Z h' b O nm d (defaultValue ty)) → W h' (k + 1) (n + sl) pc' Ls (.ref b :: st)) : W h k n pc Ls st := by
  obtain ⟨p, e, s, m, args, below, meth, c, ⟨hx, hby, hml, hown, hZ, hre, hlk, hnm⟩, rfl⟩ := C
  subst hp
  intro T locs k' n' q1 q2 X eT N
  obtain ⟨T', h', X', e', E', A', D', -, st'⟩ := newO X hx hZ hown w wi wz eT (g := mkF m pc Ls st) rfl (hb hby hd) (by omega) (by omega)
  obtain ⟨s2, o, st2, r⟩ := q h' _ rfl E' A' D' T' locs (k' + 1) (n' + sl) (by omega) (by omega) X' e' N
  exact ⟨s2, o, st' _ st2, r⟩
/-- an int array with just these elements -/
def AI (Z : State) (h : Heap) (a : Addr) (vs : List Int32) : Prop := ∃ c : Cell, Arr Z h a c .int ∧ c.slots = (vs.map Value.int).toArray ∧ vs.length < 2 ^ 31
def AJ (Z : State) (h : Heap) (a : Addr) (vs : List Int64) : Prop := ∃ c : Cell, Arr Z h a c .long ∧ c.slots = (vs.map Value.long).toArray ∧ vs.length < 2 ^ 31
/-- a byte array of this length -/
def AB (Z : State) (h : Heap) (a : Addr) (z : Nat) : Prop := ∃ c : Cell, Arr Z h a c .byte ∧ c.slots.size = z ∧ z < 2 ^ 31
theorem AI.lt {Z : State} {h : Heap} {a : Addr} {vs : List Int32} (F : AI Z h a vs) : a < h.size := by obtain ⟨c, A, -⟩ := F; exact A.lt
theorem AI.ext {Z : State} {h h' : Heap} {a : Addr} {vs : List Int32} (F : AI Z h a vs) (E : Ext h h') : AI Z h' a vs := by obtain ⟨c, A, r⟩ := F; exact ⟨c, A.ext E, r⟩
theorem AI.other {Z : State} {h h' : Heap} {a b : Addr} {sl : Nat} {v : Value} {vs : List Int32} (F : AI Z h b vs) (W : Wr h h' a sl v) (q : b ≠ a) : AI Z h' b vs := by obtain ⟨c, A, r⟩ := F; exact ⟨c, A.other W q, r⟩
theorem AI.keep {Z : State} {h h' : Heap} {a : Addr} {ws : List Addr} {vs : List Int32} (F : AI Z h a vs) (K : Keep h h' ws) (q : a ∉ ws) : AI Z h' a vs := by obtain ⟨c, A, r⟩ := F; exact ⟨c, ⟨K.2.1 a c A.1 q, A.2⟩, r⟩
theorem AI.set {Z : State} {h h' : Heap} {a : Addr} {j : Nat} {v : Int32} {vs : List Int32} (F : AI Z h a vs) (W : Wr h h' a j (.int v)) : AI Z h' a (vs.set j v) := by
  obtain ⟨c, A, e, r⟩ := F
  refine ⟨_, A.same W, ?_, by rw [List.length_set]; exact r⟩
  have q : (c.setSlot j (.int v)).slots = c.slots.setIfInBounds j (.int v) := rfl
  rw [q, e]
  apply Array.ext'
  simp [List.map_set]
theorem Ru.newAI (C : Ru l Z own code maxL ret nm R n0 G W) {a0 : Array Value} {z : Int32} {N cap : Nat} (w : (Cond.arrayClass .int).before a0 Z = true) (hd : decode code pc = .ok (.newarray .int, 2)) (hp : pc + 2 = pc') (hz : z.toInt = (N : Int)) (hcap : N ≤ cap) (hb8 : cap * 8 ≤ 536870912) (hk : k + 1 ≤ R.cells) (hn : n + cap ≤ R.slots)
    (q : ∀ h' b, b = h.size → Ext h h' → AI Z h' b (List.replicate N 0) → W h' (k + 1) (n + cap) pc' Ls (.ref b :: rest)) : W h k n pc Ls (.int z :: rest) := by
  obtain ⟨p, e, s, m, args, below, meth, c, ⟨hx, hby, hml, hown, hZ, hre, hlk, hnm⟩, rfl⟩ := C
  subst hp
  intro T locs k' n' q1 q2 X eT Nf
  have hnn : ¬ z < 0 := by rw [Int32.lt_iff_toInt_lt]; show ¬ z.toInt < 0; omega
  have hzn : z.toNatClampNeg = N := by show z.toInt.toNat = N; omega
  have hlt : N < 2 ^ 31 := by have := (rng32 z).2; omega
  obtain ⟨T', h', cA, X', e', E', A', st'⟩ := newP X hx hZ (aty := .int) w eT (g := mkF m pc Ls (.int z :: rest)) rfl (hb hby hd) rfl hnn (cap := cap) (by omega) hb8 (by omega) (by omega)
  have F : AI Z h' h.size (List.replicate N 0) := by
    refine ⟨_, A', ?_, by rw [List.length_replicate]; exact hlt⟩
    simp only [newA, hzn]
    apply Array.ext'
    simp [defaultValue, newarray.typeOf]
  obtain ⟨s2, o, st2, r⟩ := q h' _ rfl E' F T' locs (k' + 1) (n' + cap) (by omega) (by omega) X' e' Nf
  exact ⟨s2, o, st' _ st2, r⟩
theorem Ru.ldAI (C : Ru l Z own code maxL ret nm R n0 G W) {a : Addr} {j : Int32} {i : Nat} {v : Int32} {vs : List Int32} (F : AI Z h a vs) (hj : j.toInt = (i : Int)) (hv : vs[i]? = some v) (hd : decode code pc = .ok (.iaload, 1)) (hp : pc + 1 = pc') (q : W h k n pc' Ls (.int v :: rest)) : W h k n pc Ls (.int j :: .ref a :: rest) := by
  obtain ⟨p, e, s, m, args, below, meth, c, ⟨hx, hby, hml, hown, hZ, hre, hlk, hnm⟩, rfl⟩ := C
  subst hp
  intro T locs k' n' q1 q2 X eT N
  obtain ⟨cl, A, es, hl⟩ := F
  have hjn : j.toNatClampNeg = i := by show j.toInt.toNat = i; omega
  have hlt : i < vs.length := (List.getElem?_eq_some_iff.mp hv).1
  have hin : ¬ (j < 0 ∨ cl.slots.size ≤ j.toNatClampNeg) := by
    rw [Int32.lt_iff_toInt_lt, es, hjn]
    simp only [List.size_toArray, List.length_map]
    show ¬ (j.toInt < 0 ∨ _); omega
  have hat : cl.slots[j.toNatClampNeg]? = some (.int v) := by rw [es, hjn]; simp [hv]
  obtain ⟨s2, o, st2, r⟩ := q T locs k' n' q1 q2 X eT N
  exact ⟨s2, o, X.iaload hx (by rw [eT]; exact A.1) (State.isArrayOf_alike hZ.alike A.2.1) A.2.2 hin hat (g := mkF m pc Ls (.int j :: .ref a :: rest)) rfl rfl (hb hby hd) _ st2, r⟩
theorem Ru.stAI (C : Ru l Z own code maxL ret nm R n0 G W) {a : Addr} {j : Int32} {i : Nat} {v : Int32} {vs : List Int32} (F : AI Z h a vs) (hj : j.toInt = (i : Int)) (hlt : i < vs.length) (hg : n0 ≤ a) (hd : decode code pc = .ok (.iastore, 1)) (hp : pc + 1 = pc') (q : ∀ h', Wr h h' a i (.int v) → AI Z h' a (vs.set i v) → W h' k n pc' Ls rest) : W h k n pc Ls (.int v :: .int j :: .ref a :: rest) := by
  obtain ⟨p, e, s, m, args, below, meth, c, ⟨hx, hby, hml, hown, hZ, hre, hlk, hnm⟩, rfl⟩ := C
  subst hp
  intro T locs k' n' q1 q2 X eT N
  have F0 := F
  obtain ⟨cl, A, es, hl⟩ := F
  have hjn : j.toNatClampNeg = i := by show j.toInt.toNat = i; omega
  have hin : ¬ (j < 0 ∨ cl.slots.size ≤ j.toNatClampNeg) := by
    rw [Int32.lt_iff_toInt_lt, es, hjn]
    simp only [List.size_toArray, List.length_map]
    show ¬ (j.toInt < 0 ∨ _); omega
  obtain ⟨T', h', X', e', W', st'⟩ := stI X hx hZ eT A (j := j) hin (g := mkF m pc Ls (.int v :: .int j :: .ref a :: rest)) rfl rfl (hb hby hd)
  rw [hjn] at W'
  obtain ⟨s2, o, st2, r⟩ := q h' W' (F0.set W') T' _ k' n' q1 q2 X' e' (Fr.snoc X' N hg)
  exact ⟨s2, o, st' _ st2, r⟩
theorem Ru.lenAI (C : Ru l Z own code maxL ret nm R n0 G W) {a : Addr} {vs : List Int32} {z : Int32} (F : AI Z h a vs) (hz : z.toInt = (vs.length : Int)) (hd : decode code pc = .ok (.arraylength, 1)) (hp : pc + 1 = pc') (q : W h k n pc' Ls (.int z :: rest)) : W h k n pc Ls (.ref a :: rest) := by
  obtain ⟨p, e, s, m, args, below, meth, c, ⟨hx, hby, hml, hown, hZ, hre, hlk, hnm⟩, rfl⟩ := C
  subst hp
  intro T locs k' n' q1 q2 X eT N
  obtain ⟨cl, A, es, hl⟩ := F
  have e1 : cl.slots.size.toInt32 = z := by
    apply Int32.toInt_inj.mp
    rw [es, hz]
    simp only [List.size_toArray, List.length_map]
    exact len_toInt hl
  obtain ⟨s2, o, st2, r⟩ := q T locs k' n' q1 q2 X eT N
  exact ⟨s2, o, X.arraylength hx (by rw [eT]; exact A.1) (State.isArrayOf_alike hZ.alike A.2.1) (g := mkF m pc Ls (.ref a :: rest)) rfl rfl (hb hby hd) _ (by rw [e1]; exact st2), r⟩
theorem AJ.lt {Z : State} {h : Heap} {a : Addr} {vs : List Int64} (F : AJ Z h a vs) : a < h.size := by obtain ⟨c, A, -⟩ := F; exact A.lt
theorem AJ.ext {Z : State} {h h' : Heap} {a : Addr} {vs : List Int64} (F : AJ Z h a vs) (E : Ext h h') : AJ Z h' a vs := by obtain ⟨c, A, r⟩ := F; exact ⟨c, A.ext E, r⟩
theorem AJ.other {Z : State} {h h' : Heap} {a b : Addr} {sl : Nat} {v : Value} {vs : List Int64} (F : AJ Z h b vs) (W : Wr h h' a sl v) (q : b ≠ a) : AJ Z h' b vs := by obtain ⟨c, A, r⟩ := F; exact ⟨c, A.other W q, r⟩
theorem AJ.keep {Z : State} {h h' : Heap} {a : Addr} {ws : List Addr} {vs : List Int64} (F : AJ Z h a vs) (K : Keep h h' ws) (q : a ∉ ws) : AJ Z h' a vs := by obtain ⟨c, A, r⟩ := F; exact ⟨c, ⟨K.2.1 a c A.1 q, A.2⟩, r⟩
theorem AJ.set {Z : State} {h h' : Heap} {a : Addr} {j : Nat} {v : Int64} {vs : List Int64} (F : AJ Z h a vs) (W : Wr h h' a j (.long v)) : AJ Z h' a (vs.set j v) := by
  obtain ⟨c, A, e, r⟩ := F
  refine ⟨_, A.same W, ?_, by rw [List.length_set]; exact r⟩
  have q : (c.setSlot j (.long v)).slots = c.slots.setIfInBounds j (.long v) := rfl
  rw [q, e]
  apply Array.ext'
  simp [List.map_set]
theorem Ru.newAJ (C : Ru l Z own code maxL ret nm R n0 G W) {a0 : Array Value} {z : Int32} {N cap : Nat} (w : (Cond.arrayClass .long).before a0 Z = true) (hd : decode code pc = .ok (.newarray .long, 2)) (hp : pc + 2 = pc') (hz : z.toInt = (N : Int)) (hcap : N ≤ cap) (hb8 : cap * 8 ≤ 536870912) (hk : k + 1 ≤ R.cells) (hn : n + cap ≤ R.slots)
    (q : ∀ h' b, b = h.size → Ext h h' → AJ Z h' b (List.replicate N 0) → W h' (k + 1) (n + cap) pc' Ls (.ref b :: rest)) : W h k n pc Ls (.int z :: rest) := by
  obtain ⟨p, e, s, m, args, below, meth, c, ⟨hx, hby, hml, hown, hZ, hre, hlk, hnm⟩, rfl⟩ := C
  subst hp
  intro T locs k' n' q1 q2 X eT Nf
  have hnn : ¬ z < 0 := by rw [Int32.lt_iff_toInt_lt]; show ¬ z.toInt < 0; omega
  have hzn : z.toNatClampNeg = N := by show z.toInt.toNat = N; omega
  have hlt : N < 2 ^ 31 := by have := (rng32 z).2; omega
  obtain ⟨T', h', cA, X', e', E', A', st'⟩ := newP X hx hZ (aty := .long) w eT (g := mkF m pc Ls (.int z :: rest)) rfl (hb hby hd) rfl hnn (cap := cap) (by omega) hb8 (by omega) (by omega)
  have F : AJ Z h' h.size (List.replicate N 0) := by
    refine ⟨_, A', ?_, by rw [List.length_replicate]; exact hlt⟩
    simp only [newA, hzn]
    apply Array.ext'
    simp [defaultValue, newarray.typeOf]
  obtain ⟨s2, o, st2, r⟩ := q h' _ rfl E' F T' locs (k' + 1) (n' + cap) (by omega) (by omega) X' e' Nf
  exact ⟨s2, o, st' _ st2, r⟩
theorem Ru.ldAJ (C : Ru l Z own code maxL ret nm R n0 G W) {a : Addr} {j : Int32} {i : Nat} {v : Int64} {vs : List Int64} (F : AJ Z h a vs) (hj : j.toInt = (i : Int)) (hv : vs[i]? = some v) (hd : decode code pc = .ok (.laload, 1)) (hp : pc + 1 = pc') (q : W h k n pc' Ls (.long v :: rest)) : W h k n pc Ls (.int j :: .ref a :: rest) := by
  obtain ⟨p, e, s, m, args, below, meth, c, ⟨hx, hby, hml, hown, hZ, hre, hlk, hnm⟩, rfl⟩ := C
  subst hp
  intro T locs k' n' q1 q2 X eT N
  obtain ⟨cl, A, es, hl⟩ := F
  have hjn : j.toNatClampNeg = i := by show j.toInt.toNat = i; omega
  have hlt : i < vs.length := (List.getElem?_eq_some_iff.mp hv).1
  have hin : ¬ (j < 0 ∨ cl.slots.size ≤ j.toNatClampNeg) := by
    rw [Int32.lt_iff_toInt_lt, es, hjn]
    simp only [List.size_toArray, List.length_map]
    show ¬ (j.toInt < 0 ∨ _); omega
  have hat : cl.slots[j.toNatClampNeg]? = some (.long v) := by rw [es, hjn]; simp [hv]
  obtain ⟨s2, o, st2, r⟩ := q T locs k' n' q1 q2 X eT N
  exact ⟨s2, o, X.laload hx (by rw [eT]; exact A.1) (State.isArrayOf_alike hZ.alike A.2.1) A.2.2 hin hat (g := mkF m pc Ls (.int j :: .ref a :: rest)) rfl rfl (hb hby hd) _ st2, r⟩
theorem Ru.stAJ (C : Ru l Z own code maxL ret nm R n0 G W) {a : Addr} {j : Int32} {i : Nat} {v : Int64} {vs : List Int64} (F : AJ Z h a vs) (hj : j.toInt = (i : Int)) (hlt : i < vs.length) (hg : n0 ≤ a) (hd : decode code pc = .ok (.lastore, 1)) (hp : pc + 1 = pc') (q : ∀ h', Wr h h' a i (.long v) → AJ Z h' a (vs.set i v) → W h' k n pc' Ls rest) : W h k n pc Ls (.long v :: .int j :: .ref a :: rest) := by
  obtain ⟨p, e, s, m, args, below, meth, c, ⟨hx, hby, hml, hown, hZ, hre, hlk, hnm⟩, rfl⟩ := C
  subst hp
  intro T locs k' n' q1 q2 X eT N
  have F0 := F
  obtain ⟨cl, A, es, hl⟩ := F
  have hjn : j.toNatClampNeg = i := by show j.toInt.toNat = i; omega
  have hin : ¬ (j < 0 ∨ cl.slots.size ≤ j.toNatClampNeg) := by
    rw [Int32.lt_iff_toInt_lt, es, hjn]
    simp only [List.size_toArray, List.length_map]
    show ¬ (j.toInt < 0 ∨ _); omega
  obtain ⟨T', h', X', e', W', st'⟩ := stJ X hx hZ eT A (j := j) hin (g := mkF m pc Ls (.long v :: .int j :: .ref a :: rest)) rfl rfl (hb hby hd)
  rw [hjn] at W'
  obtain ⟨s2, o, st2, r⟩ := q h' W' (F0.set W') T' _ k' n' q1 q2 X' e' (Fr.snoc X' N hg)
  exact ⟨s2, o, st' _ st2, r⟩
theorem Ru.lenAJ (C : Ru l Z own code maxL ret nm R n0 G W) {a : Addr} {vs : List Int64} {z : Int32} (F : AJ Z h a vs) (hz : z.toInt = (vs.length : Int)) (hd : decode code pc = .ok (.arraylength, 1)) (hp : pc + 1 = pc') (q : W h k n pc' Ls (.int z :: rest)) : W h k n pc Ls (.ref a :: rest) := by
  obtain ⟨p, e, s, m, args, below, meth, c, ⟨hx, hby, hml, hown, hZ, hre, hlk, hnm⟩, rfl⟩ := C
  subst hp
  intro T locs k' n' q1 q2 X eT N
  obtain ⟨cl, A, es, hl⟩ := F
  have e1 : cl.slots.size.toInt32 = z := by
    apply Int32.toInt_inj.mp
    rw [es, hz]
    simp only [List.size_toArray, List.length_map]
    exact len_toInt hl
  obtain ⟨s2, o, st2, r⟩ := q T locs k' n' q1 q2 X eT N
  exact ⟨s2, o, X.arraylength hx (by rw [eT]; exact A.1) (State.isArrayOf_alike hZ.alike A.2.1) (g := mkF m pc Ls (.ref a :: rest)) rfl rfl (hb hby hd) _ (by rw [e1]; exact st2), r⟩
theorem AB.lt {Z : State} {h : Heap} {a : Addr} {z : Nat} (F : AB Z h a z) : a < h.size := by obtain ⟨c, A, -⟩ := F; exact A.lt
theorem AB.ext {Z : State} {h h' : Heap} {a : Addr} {z : Nat} (F : AB Z h a z) (E : Ext h h') : AB Z h' a z := by obtain ⟨c, A, r⟩ := F; exact ⟨c, A.ext E, r⟩
theorem AB.other {Z : State} {h h' : Heap} {a b : Addr} {sl : Nat} {v : Value} {z : Nat} (F : AB Z h b z) (W : Wr h h' a sl v) (q : b ≠ a) : AB Z h' b z := by obtain ⟨c, A, r⟩ := F; exact ⟨c, A.other W q, r⟩
theorem AB.keep {Z : State} {h h' : Heap} {a : Addr} {ws : List Addr} {z : Nat} (F : AB Z h a z) (K : Keep h h' ws) (q : a ∉ ws) : AB Z h' a z := by obtain ⟨c, A, r⟩ := F; exact ⟨c, ⟨K.2.1 a c A.1 q, A.2⟩, r⟩
theorem Ru.newAB (C : Ru l Z own code maxL ret nm R n0 G W) {a0 : Array Value} {z : Int32} {N cap : Nat} (w : (Cond.arrayClass .byte).before a0 Z = true) (hd : decode code pc = .ok (.newarray .byte, 2)) (hp : pc + 2 = pc') (hz : z.toInt = (N : Int)) (hcap : N ≤ cap) (hb8 : cap * 8 ≤ 536870912) (hk : k + 1 ≤ R.cells) (hn : n + cap ≤ R.slots)
    (q : ∀ h' b, b = h.size → Ext h h' → AB Z h' b N → W h' (k + 1) (n + cap) pc' Ls (.ref b :: rest)) : W h k n pc Ls (.int z :: rest) := by
  obtain ⟨p, e, s, m, args, below, meth, c, ⟨hx, hby, hml, hown, hZ, hre, hlk, hnm⟩, rfl⟩ := C
  subst hp
  intro T locs k' n' q1 q2 X eT Nf
  have hnn : ¬ z < 0 := by rw [Int32.lt_iff_toInt_lt]; show ¬ z.toInt < 0; omega
  have hzn : z.toNatClampNeg = N := by show z.toInt.toNat = N; omega
  have hlt : N < 2 ^ 31 := by have := (rng32 z).2; omega
  obtain ⟨T', h', cA, X', e', E', A', st'⟩ := newP X hx hZ (aty := .byte) w eT (g := mkF m pc Ls (.int z :: rest)) rfl (hb hby hd) rfl hnn (cap := cap) (by omega) hb8 (by omega) (by omega)
  have F : AB Z h' h.size N := ⟨_, A', by rw [sz_new]; exact hzn, hlt⟩
  obtain ⟨s2, o, st2, r⟩ := q h' _ rfl E' F T' locs (k' + 1) (n' + cap) (by omega) (by omega) X' e' Nf
  exact ⟨s2, o, st' _ st2, r⟩
theorem Ru.stAB (C : Ru l Z own code maxL ret nm R n0 G W) {a : Addr} {j : Int32} {i : Nat} {v : Int32} {z : Nat} (F : AB Z h a z) (hj : j.toInt = (i : Int)) (hlt : i < z) (hg : n0 ≤ a) (hd : decode code pc = .ok (.bastore, 1)) (hp : pc + 1 = pc') (q : ∀ h', Wr h h' a i (.int (nar .byte v)) → AB Z h' a z → W h' k n pc' Ls rest) : W h k n pc Ls (.int v :: .int j :: .ref a :: rest) := by
  obtain ⟨p, e, s, m, args, below, meth, c, ⟨hx, hby, hml, hown, hZ, hre, hlk, hnm⟩, rfl⟩ := C
  subst hp
  intro T locs k' n' q1 q2 X eT N
  obtain ⟨cl, A, es, hl⟩ := F
  have hjn : j.toNatClampNeg = i := by show j.toInt.toNat = i; omega
  have hin : ¬ (j < 0 ∨ cl.slots.size ≤ j.toNatClampNeg) := by
    rw [Int32.lt_iff_toInt_lt, es, hjn]
    show ¬ (j.toInt < 0 ∨ _); omega
  obtain ⟨T', h', X', e', W', st'⟩ := stB X hx hZ eT A (j := j) hin (g := mkF m pc Ls (.int v :: .int j :: .ref a :: rest)) rfl rfl (hb hby hd)
  rw [hjn] at W'
  obtain ⟨s2, o, st2, r⟩ := q h' W' ⟨_, A.same W', by rw [sz_set]; exact es, hl⟩ T' _ k' n' q1 q2 X' e' (Fr.snoc X' N hg)
  exact ⟨s2, o, st' _ st2, r⟩
theorem Ru.lenAB (C : Ru l Z own code maxL ret nm R n0 G W) {a : Addr} {N : Nat} {z : Int32} (F : AB Z h a N) (hz : z.toInt = (N : Int)) (hd : decode code pc = .ok (.arraylength, 1)) (hp : pc + 1 = pc') (q : W h k n pc' Ls (.int z :: rest)) : W h k n pc Ls (.ref a :: rest) := by
  obtain ⟨p, e, s, m, args, below, meth, c, ⟨hx, hby, hml, hown, hZ, hre, hlk, hnm⟩, rfl⟩ := C
  subst hp
  intro T locs k' n' q1 q2 X eT Nf
  obtain ⟨cl, A, es, hl⟩ := F
  have e1 : cl.slots.size.toInt32 = z := by
    apply Int32.toInt_inj.mp
    rw [es, hz]
    exact len_toInt hl
  obtain ⟨s2, o, st2, r⟩ := q T locs k' n' q1 q2 X eT Nf
  exact ⟨s2, o, X.arraylength hx (by rw [eT]; exact A.1) (State.isArrayOf_alike hZ.alike A.2.1) (g := mkF m pc Ls (.ref a :: rest)) rfl rfl (hb hby hd) _ (by rw [e1]; exact st2), r⟩
/-! calls -/
/-- what a stack weighs -/
def wt (st : List Value) : Nat := (st.map fun v => v.category).sum
/-- Object.<init> -/
theorem Ru.initObj (C : Ru l Z own code maxL ret nm R n0 G W) {a0 : Array Value} {i w : Nat} {a : Addr} (w1 : (Cond.methodLink own i Lib.objectInit).before a0 Z = true) (w2 : (Cond.instanceMethod Lib.objectInit).before a0 Z = true) (w3 : (Cond.code Lib.objectInit ⟨#[0xb1]⟩ 1 none).before a0 Z = true)
    (hd : decode code pc = .ok (.invokespecial i, 3)) (hp : pc + 3 = pc') (hs : Ls.size = maxL) (hf : 1 ≤ R.frames) (hw : wt rest ≤ w) (hl : w + 12 ≤ R.locals) (q : W h k n pc' Ls rest) : W h k n pc Ls (.ref a :: rest) := by
  obtain ⟨p, e, s, m, args, below, meth, c, ⟨hx, hby, hml, hown, hZ, hre, hlk, hnm⟩, rfl⟩ := C
  subst hp
  intro T locs k' n' q1 q2 X eT N
  obtain ⟨T', X', e', st'⟩ := initO X hx hZ hown w1 w2 w3 eT (g := mkF m pc Ls (.ref a :: rest)) rfl (by rw [hml]; exact hs) rfl (hb hby hd) hf (W := w) (by show 2 * 0 + _ ≤ _; simpa [wt] using hw) hl
  obtain ⟨s2, o, st2, r⟩ := q T' locs k' n' q1 q2 X' e' N
  exact ⟨s2, o, st' _ st2, r⟩
theorem Ru.calls (C : Ru l Z own code maxL ret nm R n0 G W) {a0 : Array Value} {i w : Nat} {y : MethodName} {bytes : ByteArray} {mx : Nat} {rt : Option FieldType} {rm : Room} {GC : Option Value → Heap → Prop} {argsL : List Value} {ps : List FieldType} {rt' : Option FieldType}
    (M : MeetsW l Z n0 y bytes mx rt rm argsL.toArray h GC) (w1 : (Cond.methodLink own i y).before a0 Z = true) (w2 : (Cond.static y).before a0 Z = true) (w3 : (Cond.initialized y.cls).before a0 Z = true) (w4 : (Cond.code y bytes mx rt).before a0 Z = true)
    (hd : decode code pc = .ok (.invokestatic i, 3)) (hp : pc + 3 = pc') (hs : Ls.size = maxL) (hst : st = argsL.reverse ++ rest) (hy : y.cls ≠ "java/lang/invoke/MethodHandle" ∧ y.cls ≠ "java/lang/invoke/VarHandle")
    (hdesc : parseMethodDescriptor y.desc = some ⟨ps, rt'⟩) (hlen : argsL.length = ps.length) (hf : rm.frames + 1 ≤ R.frames) (hw : wt rest ≤ w) (hl : w + (mx + 11) + rm.locals ≤ R.locals) (hk : k + rm.cells ≤ R.cells) (hn : n + rm.slots ≤ R.slots)
    (q : ∀ v h', GC v h' → W h' (k + rm.cells) (n + rm.slots) pc' Ls (v.toList ++ rest)) : W h k n pc Ls st := by
  obtain ⟨p, e, s, m, args, below, meth, c, ⟨hx, hby, hml, hown, hZ, hre, hlk, hnm⟩, rfl⟩ := C
  subst hp hst
  intro T locs k' n' q1 q2 X eT N
  obtain ⟨v, _, ⟨T', L', k2, n2⟩, -, X', ⟨Lc, ⟨N', hQ⟩, hl', hk', hn'⟩, st'⟩ := Jvm.LawKit.callS X hx (y := y) hown (mvT hZ w1) (mvT hZ w2) (mvT hZ w3) (mvT hZ w4) hy (backOf (W := w) (Q := fun v h L => Fr n0 L ∧ GC v h) (M []) hZ w4 w3 hf hl) (g := mkF m pc Ls (argsL.reverse ++ rest)) rfl (by rw [hml]; exact hs) (argsL := argsL) (rest := rest) (lenOf hdesc hlen) rfl (by show 2 * 0 + _ ≤ _; simpa [wt] using hw) (hb hby hd) (fun _ _ => ⟨rfl, eT, (by show k' + rm.cells ≤ _; omega), (by show n' + rm.slots ≤ _; omega)⟩)
  dsimp only [Pt.U, Pt.locs, Pt.cells, Pt.slots] at X' hl' hk' hn' st' hQ
  subst hl' hk' hn'
  obtain ⟨s2, o, st2, r⟩ := q v T'.heap hQ T' _ _ _ (by omega) (by omega) X' rfl (Fr.app N N')
  exact ⟨s2, o, st' _ st2, r⟩
theorem Ru.callc (C : Ru l Z own code maxL ret nm R n0 G W) {a0 : Array Value} {i w : Nat} {y : MethodName} {bytes : ByteArray} {mx : Nat} {rm : Room} {GC : Option Value → Heap → Prop} {a : Addr} {argsL : List Value} {ps : List FieldType} {rt' : Option FieldType}
    (M : MeetsW l Z n0 y bytes mx none rm (.ref a :: argsL).toArray h GC) (hy1 : y.name = "<init>") (w1 : (Cond.methodLink own i y).before a0 Z = true) (w2 : (Cond.instanceMethod y).before a0 Z = true) (w3 : (Cond.initialized y.cls).before a0 Z = true) (w4 : (Cond.code y bytes mx none).before a0 Z = true)
    (hd : decode code pc = .ok (.invokespecial i, 3)) (hp : pc + 3 = pc') (hs : Ls.size = maxL) (hst : st = argsL.reverse ++ .ref a :: rest) (hy : y.cls ≠ "java/lang/invoke/MethodHandle" ∧ y.cls ≠ "java/lang/invoke/VarHandle")
    (hdesc : parseMethodDescriptor y.desc = some ⟨ps, rt'⟩) (hlen : argsL.length = ps.length) (hf : rm.frames + 1 ≤ R.frames) (hw : wt rest ≤ w) (hl : w + (mx + 11) + rm.locals ≤ R.locals) (hk : k + rm.cells ≤ R.cells) (hn : n + rm.slots ≤ R.slots)
    (q : ∀ v h', GC v h' → W h' (k + rm.cells) (n + rm.slots) pc' Ls (v.toList ++ rest)) : W h k n pc Ls st := by
  obtain ⟨p, e, s, m, args, below, meth, c, ⟨hx, hby, hml, hown, hZ, hre, hlk, hnm⟩, rfl⟩ := C
  subst hp hst
  intro T locs k' n' q1 q2 X eT N
  obtain ⟨v, _, ⟨T', L', k2, n2⟩, -, X', ⟨Lc, ⟨N', hQ⟩, hl', hk', hn'⟩, st'⟩ := X.specialBack hx (y := y) hy1 hown (mvT hZ w1) (mvT hZ w2) (mvT hZ w4) hy (backOf (W := w) (Q := fun v h L => Fr n0 L ∧ GC v h) (M []) hZ w4 w3 hf hl) (g := mkF m pc Ls (argsL.reverse ++ .ref a :: rest)) rfl (by rw [hml]; exact hs) (Steps.refl _) (a := a) (argsL := argsL) (rest := rest) (lenOf hdesc hlen) rfl (by show 2 * 0 + _ ≤ _; simpa [wt] using hw) (hb hby hd) (fun _ _ => ⟨rfl, eT, (by show k' + rm.cells ≤ _; omega), (by show n' + rm.slots ≤ _; omega)⟩)
  dsimp only [Pt.U, Pt.locs, Pt.cells, Pt.slots] at X' hl' hk' hn' st' hQ
  subst hl' hk' hn'
  obtain ⟨s2, o, st2, r⟩ := q v T'.heap hQ T' _ _ _ (by omega) (by omega) X' rfl (Fr.app N N')
  exact ⟨s2, o, st'.trans st2, r⟩
theorem Ru.callv (C : Ru l Z own code maxL ret nm R n0 G W) {a0 : Array Value} {i w : Nat} {y : MethodName} {bytes : ByteArray} {mx : Nat} {rt : Option FieldType} {rm : Room} {GC : Option Value → Heap → Prop} {a : Addr} {argsL : List Value} {ps : List FieldType} {rt' : Option FieldType} {D : String}
    (M : MeetsW l Z n0 y bytes mx rt rm (.ref a :: argsL).toArray h GC) (E : Exa Z h a D) (w1 : (Cond.methodLink own i y).before a0 Z = true) (w2 : (Cond.declares y).before a0 Z = true) (w5 : (Cond.selects D y y).before a0 Z = true) (w6 : (Cond.instanceMethod y).before a0 Z = true) (w3 : (Cond.initialized y.cls).before a0 Z = true) (w4 : (Cond.code y bytes mx rt).before a0 Z = true)
    (hd : decode code pc = .ok (.invokevirtual i, 3)) (hp : pc + 3 = pc') (hs : Ls.size = maxL) (hst : st = argsL.reverse ++ .ref a :: rest) (hy : y.cls ≠ "java/lang/invoke/MethodHandle" ∧ y.cls ≠ "java/lang/invoke/VarHandle")
    (hdesc : parseMethodDescriptor y.desc = some ⟨ps, rt'⟩) (hlen : argsL.length = ps.length) (hf : rm.frames + 1 ≤ R.frames) (hw : wt rest ≤ w) (hl : w + (mx + 11) + rm.locals ≤ R.locals) (hk : k + rm.cells ≤ R.cells) (hn : n + rm.slots ≤ R.slots)
    (q : ∀ v h', GC v h' → W h' (k + rm.cells) (n + rm.slots) pc' Ls (v.toList ++ rest)) : W h k n pc Ls st := by
  obtain ⟨p, e, s, m, args, below, meth, c, ⟨hx, hby, hml, hown, hZ, hre, hlk, hnm⟩, rfl⟩ := C
  subst hp hst
  intro T locs k' n' q1 q2 X eT N
  obtain ⟨cq, kq, qa, qb, qc⟩ := isOf hZ eT E
  obtain ⟨v, _, ⟨T', L', k2, n2⟩, -, X', ⟨Lc, ⟨N', hQ⟩, hl', hk', hn'⟩, st'⟩ := X.virtualBack hx (y := y) (z := y) hown (mvT hZ w1) (mvT hZ w2) (notFace_of_selects (args := #[]) (mvT hZ w5)) (mvT hZ w5) (mvT hZ w6) hy (backOf (W := w) (Q := fun v h L => Fr n0 L ∧ GC v h) (M []) hZ w4 w3 hf hl) qa qc (g := mkF m pc Ls (argsL.reverse ++ .ref a :: rest)) rfl (by rw [hml]; exact hs) (Steps.refl _) (argsL := argsL) (rest := rest) (lenOf hdesc hlen) rfl (by show 2 * 0 + _ ≤ _; simpa [wt] using hw) (hb hby hd) (fun _ _ => ⟨rfl, eT, (by show k' + rm.cells ≤ _; omega), (by show n' + rm.slots ≤ _; omega)⟩)
  dsimp only [Pt.U, Pt.locs, Pt.cells, Pt.slots] at X' hl' hk' hn' st' hQ
  subst hl' hk' hn'
  obtain ⟨s2, o, st2, r⟩ := q v T'.heap hQ T' _ _ _ (by omega) (by omega) X' rfl (Fr.app N N')
  exact ⟨s2, o, st'.trans st2, r⟩
theorem Ru.callp (C : Ru l Z own code maxL ret nm R n0 G W) {a0 : Array Value} {i w : Nat} {y : MethodName} {bytes : ByteArray} {mx : Nat} {rt : Option FieldType} {rm : Room} {GC : Option Value → Heap → Prop} {a : Addr} {argsL : List Value} {ps : List FieldType} {rt' : Option FieldType} {D : String}
    (M : MeetsW l Z n0 y bytes mx rt rm (.ref a :: argsL).toArray h GC) (E : Exa Z h a D) (w1 : (Cond.methodLink own i y).before a0 Z = true) (w6 : (Cond.instanceMethod y).before a0 Z = true) (w5 : (Cond.selects y.cls y y).before a0 Z = true) (w7 : (Cond.privateMethod y).before a0 Z = true) (w3 : (Cond.initialized y.cls).before a0 Z = true) (w4 : (Cond.code y bytes mx rt).before a0 Z = true)
    (hd : decode code pc = .ok (.invokevirtual i, 3)) (hp : pc + 3 = pc') (hs : Ls.size = maxL) (hst : st = argsL.reverse ++ .ref a :: rest) (hy : y.cls ≠ "java/lang/invoke/MethodHandle" ∧ y.cls ≠ "java/lang/invoke/VarHandle")
    (hdesc : parseMethodDescriptor y.desc = some ⟨ps, rt'⟩) (hlen : argsL.length = ps.length) (hf : rm.frames + 1 ≤ R.frames) (hw : wt rest ≤ w) (hl : w + (mx + 11) + rm.locals ≤ R.locals) (hk : k + rm.cells ≤ R.cells) (hn : n + rm.slots ≤ R.slots)
    (q : ∀ v h', GC v h' → W h' (k + rm.cells) (n + rm.slots) pc' Ls (v.toList ++ rest)) : W h k n pc Ls st := by
  obtain ⟨p, e, s, m, args, below, meth, c, ⟨hx, hby, hml, hown, hZ, hre, hlk, hnm⟩, rfl⟩ := C
  subst hp hst
  intro T locs k' n' q1 q2 X eT N
  obtain ⟨cq, qa, qb⟩ := E.cell
  obtain ⟨v, _, ⟨T', L', k2, n2⟩, -, X', ⟨Lc, ⟨N', hQ⟩, hl', hk', hn'⟩, st'⟩ := X.privateBack hx (y := y) hown (mvT hZ w1) (mvT hZ w6) (mvT hZ w5) (Cond.privateMethod_at (mvP hZ w7 (args := #[]))) (mvT hZ w4) hy (backOf (W := w) (Q := fun v h L => Fr n0 L ∧ GC v h) (M []) hZ w4 w3 hf hl) (g := mkF m pc Ls (argsL.reverse ++ .ref a :: rest)) rfl (by rw [hml]; exact hs) (Steps.refl _) (a := a) (by rw [eT]; exact qa) qb (argsL := argsL) (rest := rest) (lenOf hdesc hlen) rfl (by show 2 * 0 + _ ≤ _; simpa [wt] using hw) (hb hby hd) (fun _ _ => ⟨rfl, eT, (by show k' + rm.cells ≤ _; omega), (by show n' + rm.slots ≤ _; omega)⟩)
  dsimp only [Pt.U, Pt.locs, Pt.cells, Pt.slots] at X' hl' hk' hn' st' hQ
  subst hl' hk' hn'
  obtain ⟨s2, o, st2, r⟩ := q v T'.heap hQ T' _ _ _ (by omega) (by omega) X' rfl (Fr.app N N')
  exact ⟨s2, o, st'.trans st2, r⟩
theorem Ru.castY (C : Ru l Z own code maxL ret nm R n0 G W) {a0 : Array Value} {D : String} {i : Nat} {a : Addr} (w : (Cond.classLink own i D).before a0 Z = true) (F : Ins Z h a D true) (hd : decode code pc = .ok (.checkcast i, 3)) (hp : pc + 3 = pc') (q : W h k n pc' Ls (.ref a :: rest)) : W h k n pc Ls (.ref a :: rest) := by
  obtain ⟨p, e, s, m, args, below, meth, c, ⟨hx, hby, hml, hown, hZ, hre, hlk, hnm⟩, rfl⟩ := C
  subst hp
  intro T locs k' n' q1 q2 X eT N
  obtain ⟨T', X', e', st'⟩ := castY X hx hZ hown w eT F (g := mkF m pc Ls (.ref a :: rest)) rfl rfl (hb hby hd)
  obtain ⟨s2, o, st2, r⟩ := q T' locs k' n' q1 q2 X' e' N
  exact ⟨s2, o, st' _ st2, r⟩
theorem Ru.newAIE (C : Ru l Z own code maxL ret nm R n0 G W) {a0 : Array Value} {z : Int32} {N cap : Nat} (w : (Cond.arrayClass .int).before a0 Z = true) (hd : decode code pc = .ok (.newarray .int, 2)) (hp : pc + 2 = pc') (hz : z.toInt = (N : Int)) (hcap : N ≤ cap) (hb8 : cap * 8 ≤ 536870912) (hk : k + 1 ≤ R.cells) (hn : n + cap ≤ R.slots)
    (q : ∀ h' b, b = h.size → Ext h h' → AI Z h' b (List.replicate N 0) → Exa Z h' b "[I" → W h' (k + 1) (n + cap) pc' Ls (.ref b :: rest)) : W h k n pc Ls (.int z :: rest) := by
  obtain ⟨p, e, s, m, args, below, meth, c, ⟨hx, hby, hml, hown, hZ, hre, hlk, hnm⟩, rfl⟩ := C
  subst hp
  intro T locs k' n' q1 q2 X eT Nf
  have hnn : ¬ z < 0 := by rw [Int32.lt_iff_toInt_lt]; show ¬ z.toInt < 0; omega
  have hzn : z.toNatClampNeg = N := by show z.toInt.toNat = N; omega
  have hlt : N < 2 ^ 31 := by have := (rng32 z).2; omega
  obtain ⟨T', h', cA, X', e', E', A', B', st'⟩ := newPE X hx hZ (aty := .int) w eT (g := mkF m pc Ls (.int z :: rest)) rfl (hb hby hd) rfl hnn (cap := cap) (by omega) hb8 (by omega) (by omega) (ad := "[I") (by decide)
  have F : AI Z h' h.size (List.replicate N 0) := by
    refine ⟨_, A', ?_, by rw [List.length_replicate]; exact hlt⟩
    simp only [newA, hzn]
    apply Array.ext'
    simp [defaultValue, newarray.typeOf]
  obtain ⟨s2, o, st2, r⟩ := q h' _ rfl E' F B' T' locs (k' + 1) (n' + cap) (by omega) (by omega) X' e' Nf
  exact ⟨s2, o, st' _ st2, r⟩
theorem Ru.cloneAI (C : Ru l Z own code maxL ret nm R n0 G W) {a0 : Array Value} {i w cap : Nat} {a : Addr} {vs : List Int32}
    (w1 : (Cond.methodLink own i ⟨"[I", "clone", "()Ljava/lang/Object;"⟩).before a0 Z = true) (w2 : (Cond.sameMethod "[I" "java/lang/Object" "clone" "()Ljava/lang/Object;").before a0 Z = true) (w3 : (Cond.native ⟨"java/lang/Object", "clone", "()Ljava/lang/Object;"⟩).before a0 Z = true)
    (w4 : (Cond.instanceMethod ⟨"java/lang/Object", "clone", "()Ljava/lang/Object;"⟩).before a0 Z = true) (w5 : (Cond.selects "[I" ⟨"[I", "clone", "()Ljava/lang/Object;"⟩ ⟨"java/lang/Object", "clone", "()Ljava/lang/Object;"⟩).before a0 Z = true) (w6 : (Cond.castable "[I" "java/lang/Cloneable").before a0 Z = true)
    (F : AI Z h a vs) (E : Exa Z h a "[I") (hd : decode code pc = .ok (.invokevirtual i, 3)) (hp : pc + 3 = pc') (hs : Ls.size = maxL) (hf : 1 ≤ R.frames) (hw : wt rest ≤ w) (hl : w + 14 ≤ R.locals) (hcap : vs.length ≤ cap) (hk : k + 1 ≤ R.cells) (hn : n + cap ≤ R.slots)
    (q : ∀ h' b, b = h.size → Ext h h' → AI Z h' b vs → Exa Z h' b "[I" → W h' (k + 1) (n + cap) pc' Ls (.ref b :: rest)) : W h k n pc Ls (.ref a :: rest) := by
  obtain ⟨p, e, s, m, args, below, meth, c, ⟨hx, hby, hml, hown, hZ, hre, hlk, hnm⟩, rfl⟩ := C
  subst hp
  intro T locs k' n' q1 q2 X eT Nf
  obtain ⟨cl, A, es, hlen⟩ := F
  have hsz : cl.slots.size = vs.length := by rw [es]; simp
  have FC : FitC Z cl := fitC_of A fun j hj v hv => by
    rw [es] at hv
    simp only [List.getElem?_toArray, List.getElem?_map, Option.map_eq_some_iff] at hv
    obtain ⟨y, -, rfl⟩ := hv
    rfl
  obtain ⟨T', h', X', e', E', A', B', st'⟩ := cloneA X hx hZ hown w1 w2 w3 w4 w5 w6 eT A E FC (g := mkF m pc Ls (.ref a :: rest)) rfl (by rw [hml]; exact hs) rfl (hb hby hd) hf (W := w) (cap := cap) (by show 2 * 0 + _ ≤ _; simpa [wt] using hw) hl (by omega) (by omega) (by omega)
  obtain ⟨s2, o, st2, r⟩ := q h' _ rfl E' ⟨_, A', es, hlen⟩ B' T' locs (k' + 1) (n' + cap) (by omega) (by omega) X' e' Nf
  exact ⟨s2, o, st' _ st2, r⟩
/-! returns -/
theorem Ru.retV (C : Ru l Z own code maxL ret nm R n0 G W) (hr : ret = none) (hd : decode code pc = .ok (.return_, 1)) (hk : k ≤ R.cells) (hn : n ≤ R.slots) (q : G none h) : W h k n pc Ls [] := by
  obtain ⟨p, e, s, m, args, below, meth, c, ⟨hx, hby, hml, hown, hZ, hre, hlk, hnm⟩, rfl⟩ := C
  intro T locs k' n' q1 q2 X eT N
  obtain ⟨fs, hrr, hrun, hended, hW, hsame⟩ := X.leave (v := none) (fun _ => rfl)
  exact ⟨_, _, X.returnOut hx (hre.trans hr) (hb hby hd) hrr, hrun, hended, _, _, rfl, ⟨N, by show G none T.heap; rw [eT]; exact q⟩, ⟨_, rfl⟩, hW, hsame.mono (by omega) (by omega)⟩
theorem Ru.retI (C : Ru l Z own code maxL ret nm R n0 G W) {z : Int32} (hr : ret = some .int) (hd : decode code pc = .ok (.ireturn, 1)) (hk : k ≤ R.cells) (hn : n ≤ R.slots) (q : G (some (.int z)) h) : W h k n pc Ls (.int z :: rest) := by
  obtain ⟨p, e, s, m, args, below, meth, c, ⟨hx, hby, hml, hown, hZ, hre, hlk, hnm⟩, rfl⟩ := C
  intro T locs k' n' q1 q2 X eT N
  obtain ⟨fs, hrr, hrun, hended, hW, hsame⟩ := X.leave (v := some (.int z)) (fun h => by rw [hre, hr] at h; cases h)
  exact ⟨_, _, retOut X hx (hre.trans hr) rfl (Or.inl ⟨rfl, Or.inl rfl, z, rfl⟩) (hb hby hd) hrr, hrun, hended, _, _, rfl, ⟨N, by show G _ T.heap; rw [eT]; exact q⟩, ⟨_, rfl⟩, hW, hsame.mono (by omega) (by omega)⟩
theorem Ru.retZ (C : Ru l Z own code maxL ret nm R n0 G W) {z : Int32} (hr : ret = some .boolean) (hz : z = 0 ∨ z = 1) (hd : decode code pc = .ok (.ireturn, 1)) (hk : k ≤ R.cells) (hn : n ≤ R.slots) (q : G (some (.int z)) h) : W h k n pc Ls (.int z :: rest) := by
  obtain ⟨p, e, s, m, args, below, meth, c, ⟨hx, hby, hml, hown, hZ, hre, hlk, hnm⟩, rfl⟩ := C
  intro T locs k' n' q1 q2 X eT N
  obtain ⟨fs, hrr, hrun, hended, hW, hsame⟩ := X.leave (v := some (.int z)) (fun h => by rw [hre, hr] at h; cases h)
  have hnr : narrow .boolean (.int z) = .int z := by rcases hz with rfl | rfl <;> decide
  exact ⟨_, _, retOut X hx (hre.trans hr) hnr (Or.inl ⟨rfl, Or.inr (Or.inl rfl), z, rfl⟩) (hb hby hd) hrr, hrun, hended, _, _, rfl, ⟨N, by show G _ T.heap; rw [eT]; exact q⟩, ⟨_, rfl⟩, hW, hsame.mono (by omega) (by omega)⟩
theorem Ru.retJ (C : Ru l Z own code maxL ret nm R n0 G W) {z : Int64} (hr : ret = some .long) (hd : decode code pc = .ok (.lreturn, 1)) (hk : k ≤ R.cells) (hn : n ≤ R.slots) (q : G (some (.long z)) h) : W h k n pc Ls (.long z :: rest) := by
  obtain ⟨p, e, s, m, args, below, meth, c, ⟨hx, hby, hml, hown, hZ, hre, hlk, hnm⟩, rfl⟩ := C
  intro T locs k' n' q1 q2 X eT N
  obtain ⟨fs, hrr, hrun, hended, hW, hsame⟩ := X.leave (v := some (.long z)) (fun h => by rw [hre, hr] at h; cases h)
  exact ⟨_, _, retOut X hx (hre.trans hr) rfl (Or.inr (Or.inl ⟨rfl, rfl, z, rfl⟩)) (hb hby hd) hrr, hrun, hended, _, _, rfl, ⟨N, by show G _ T.heap; rw [eT]; exact q⟩, ⟨_, rfl⟩, hW, hsame.mono (by omega) (by omega)⟩
theorem Ru.retA (C : Ru l Z own code maxL ret nm R n0 G W) {a : Addr} {t : FieldType} (hr : ret = some t) (ht : t.isReference = true) (hd : decode code pc = .ok (.areturn, 1)) (hk : k ≤ R.cells) (hn : n ≤ R.slots) (q : G (some (.ref a)) h) : W h k n pc Ls (.ref a :: rest) := by
  obtain ⟨p, e, s, m, args, below, meth, c, ⟨hx, hby, hml, hown, hZ, hre, hlk, hnm⟩, rfl⟩ := C
  intro T locs k' n' q1 q2 X eT N
  obtain ⟨fs, hrr, hrun, hended, hW, hsame⟩ := X.leave (v := some (.ref a)) (fun h => by rw [hre, hr] at h; cases h)
  have hnr : narrow t (.ref a) = .ref a := by cases t <;> first | rfl | cases ht
  exact ⟨_, _, retOut X hx (hre.trans hr) hnr (Or.inr (Or.inr (Or.inr (Or.inr ⟨rfl, ht, rfl⟩)))) (hb hby hd) hrr, hrun, hended, _, _, rfl, ⟨N, by show G _ T.heap; rw [eT]; exact q⟩, ⟨_, rfl⟩, hW, hsame.mono (by omega) (by omega)⟩
end Steps
/-! kinds of results -/
def RI (P : Int32 → Heap → Prop) : Option Value → Heap → Prop := fun v h => ∃ r, v = some (.int r) ∧ P r h
def RJ (P : Int64 → Heap → Prop) : Option Value → Heap → Prop := fun v h => ∃ r, v = some (.long r) ∧ P r h
def RA (P : Addr → Heap → Prop) : Option Value → Heap → Prop := fun v h => ∃ r, v = some (.ref r) ∧ P r h
def RV (P : Heap → Prop) : Option Value → Heap → Prop := fun v h => v = none ∧ P h
theorem kI {P : Int32 → Heap → Prop} {W : WT} {k n pc : Nat} {Ls : Array Slot} {rest : List Value} (q : ∀ r h, P r h → W h k n pc Ls (.int r :: rest)) : ∀ v h, RI P v h → W h k n pc Ls (v.toList ++ rest) := by
  rintro _ h ⟨r, rfl, p⟩; exact q r h p
theorem kJ {P : Int64 → Heap → Prop} {W : WT} {k n pc : Nat} {Ls : Array Slot} {rest : List Value} (q : ∀ r h, P r h → W h k n pc Ls (.long r :: rest)) : ∀ v h, RJ P v h → W h k n pc Ls (v.toList ++ rest) := by
  rintro _ h ⟨r, rfl, p⟩; exact q r h p
theorem kA {P : Addr → Heap → Prop} {W : WT} {k n pc : Nat} {Ls : Array Slot} {rest : List Value} (q : ∀ r h, P r h → W h k n pc Ls (.ref r :: rest)) : ∀ v h, RA P v h → W h k n pc Ls (v.toList ++ rest) := by
  rintro _ h ⟨r, rfl, p⟩; exact q r h p
theorem kV {P : Heap → Prop} {W : WT} {k n pc : Nat} {Ls : Array Slot} {rest : List Value} (q : ∀ h, P h → W h k n pc Ls rest) : ∀ v h, RV P v h → W h k n pc Ls (v.toList ++ rest) := by
  rintro _ h ⟨rfl, p⟩; exact q h p
/-- the same, for a callee that leaves the heap as it was and returns just this -/
theorem kI0 {P : Int32 → Prop} {h0 : Heap} {W : WT} {k n pc : Nat} {Ls : Array Slot} {rest : List Value} (q : ∀ r, P r → W h0 k n pc Ls (.int r :: rest)) : ∀ v h, RI (fun r h => P r ∧ h = h0) v h → W h k n pc Ls (v.toList ++ rest) := by
  rintro _ h ⟨r, rfl, p, rfl⟩; exact q r p
theorem kJ0 {P : Int64 → Prop} {h0 : Heap} {W : WT} {k n pc : Nat} {Ls : Array Slot} {rest : List Value} (q : ∀ r, P r → W h0 k n pc Ls (.long r :: rest)) : ∀ v h, RJ (fun r h => P r ∧ h = h0) v h → W h k n pc Ls (v.toList ++ rest) := by
  rintro _ h ⟨r, rfl, p, rfl⟩; exact q r p
theorem kIe {x : Int32} {h0 : Heap} {W : WT} {k n pc : Nat} {Ls : Array Slot} {rest : List Value} (q : W h0 k n pc Ls (.int x :: rest)) : ∀ v h, RI (fun r h => r = x ∧ h = h0) v h → W h k n pc Ls (v.toList ++ rest) := by
  rintro _ h ⟨r, rfl, rfl, rfl⟩; exact q
theorem kJe {x : Int64} {h0 : Heap} {W : WT} {k n pc : Nat} {Ls : Array Slot} {rest : List Value} (q : W h0 k n pc Ls (.long x :: rest)) : ∀ v h, RJ (fun r h => r = x ∧ h = h0) v h → W h k n pc Ls (v.toList ++ rest) := by
  rintro _ h ⟨r, rfl, rfl, rfl⟩; exact q
theorem exaLt {Z : State} {h : Heap} {a : Addr} {C : String} (F : Exa Z h a C) : a < h.size := by obtain ⟨c, _, h1, -⟩ := F; exact (Array.getElem?_eq_some_iff.mp h1).1
end Jvm.OwnW

namespace Jvm.Pilot.@@N@@
open Jvm Jvm.ClassFile Sem Op Lib Jvm.Free Jvm.Stand Jvm.LawKit Jvm.RoadKit Bundle Jvm.Pilot.@@N@@.Jvm.D Jvm.OwnW

def tcl (K B : Nat) : Nat → Nat → Nat → Nat
  | 0, _, c => c
  | n + 1, i, c => if i ≤ K then tcl K B n (i + 1) (c * (B - K + i) / i) else c
def okl (K B : Nat) : Nat → Nat → Nat → Bool
  | 0, _, _ => true
  | n + 1, i, c => if i ≤ K then decide (c * (B - K + i) < 9223372036854775808) && okl K B n (i + 1) (c * (B - K + i) / i) else true
def cnt (K B : Nat) : Nat := tcl K B 65 1 1
def okc (K B : Nat) : Bool := okl K B 65 1 1
theorem own_step {cv : Int64} {b k iv : Int32} {c B K i : Nat} (hb : b.toInt = (B : Int)) (hk : k.toInt = (K : Int)) (hi : iv.toInt = (i : Int)) (hc : cv.toInt = (c : Int)) (h1 : 1 ≤ i) (hKB : K ≤ B) (hB : B ≤ 64) (hi2 : i ≤ 65) (hp : c * (B - K + i) < 9223372036854775808) :
    ((cv * ((b - k) + iv).toInt64) / iv.toInt64).toInt = ((c * (B - K + i) / i : Nat) : Int) := by
  have a1 := c_isub b k; have b1 := rng32 (b - k); have a2 := c_iadd (b - k) iv; have b2 := rng32 (b - k + iv)
  have e1 : ((b - k) + iv).toInt64.toInt = ((B - K + i : Nat) : Int) := by rw [Int32.toInt_toInt64]; omega
  have a3 := c_lmul cv ((b - k) + iv).toInt64; have b3 := rng64 (cv * ((b - k) + iv).toInt64)
  rw [e1, hc, ← Int.natCast_mul] at a3
  have e3 : (cv * ((b - k) + iv).toInt64).toInt = ((c * (B - K + i) : Nat) : Int) := by
    generalize c * (B - K + i) = P at *
    omega
  have nm : iv.toInt64 ≠ -1 := by
    intro q
    have z := congrArg Int64.toInt q
    have o : (-1 : Int64).toInt = -1 := by decide
    rw [Int32.toInt_toInt64, hi, o] at z
    omega
  have d := (c_ldiv (cv * ((b - k) + iv).toInt64) iv.toInt64 (i : Int) (by rw [Int32.toInt_toInt64]; exact hi) nm).1 (by rw [e3]; omega)
  rw [d, e3]; exact (Int.natCast_ediv _ _).symm
theorem own_nz {iv : Int32} {i : Nat} (hi : iv.toInt = (i : Int)) (h1 : 1 ≤ i) : iv.toInt64 ≠ 0 := by
  intro q; have := congrArg Int64.toInt q; rw [Int32.toInt_toInt64, hi] at this
  have o : (0 : Int64).toInt = 0 := by decide
  rw [o] at this; omega
theorem own_inc {iv v : Int32} {i : Nat} (hi : iv.toInt = (i : Int)) (h : i ≤ 65) (e : v = iv + 1) : v.toInt = ((i + 1 : Nat) : Int) := by
  have a := c_iadd iv 1; have b := rng32 (iv + 1); have o : (1 : Int32).toInt = 1 := by decide
  rw [e]; omega
theorem own_lt {k iv : Int32} {i K : Nat} (hi : iv.toInt = (i : Int)) (hk : k.toInt = (K : Int)) : k < iv ↔ K < i := by
  rw [Int32.lt_iff_toInt_lt]; omega

def dom (b k : Nat) : Bool := !(decide (61 < b) && decide (8 < k) && decide (k < b - 8))
def chk (b k : Nat) : Bool := decide (b = 0) || decide (b < k) || !(dom b k) || (okc k b && (if k = 0 ∨ k = b then decide (cnt k b = 1) else okc k (b - 1) && okc (k - 1) (b - 1) && decide (cnt k b = cnt k (b - 1) + cnt (k - 1) (b - 1)) && decide (cnt k b < 9223372036854775808)))
theorem own_chk : ∀ b : Fin 65, ∀ k : Fin 65, chk b.val k.val = true := by decide +kernel
theorem own_b {p v : Int32} (e : v = (p &&& 2147483647) % 64 + 1) : ∃ B : Nat, v.toInt = (B : Int) ∧ 1 ≤ B ∧ B ≤ 64 := by
  have m := c_mask p 2147483647 31 (by decide) (by decide)
  have r := (c_irem (p &&& 2147483647) 64 64 (by decide)).1 (by rw [m]; omega)
  have s := c_iadd ((p &&& 2147483647) % 64) 1; have b := rng32 ((p &&& 2147483647) % 64 + 1)
  have o : (1 : Int32).toInt = 1 := by decide
  rw [← e] at s b
  exact ⟨v.toInt.toNat, by omega, by omega, by omega⟩
theorem own_b1 {v : Int32} {B : Nat} (h : v.toInt = (B : Int)) (h2 : B ≤ 64) : (v + 1).toInt = ((B + 1 : Nat) : Int) := by
  have s := c_iadd v 1; have b := rng32 (v + 1); have o : (1 : Int32).toInt = 1 := by decide
  omega
theorem own_bnz {v : Int32} {B : Nat} (h : v.toInt = (B : Int)) (h2 : B ≤ 64) : v + 1 ≠ 0 := by
  intro q; have k := own_b1 h h2; rw [q] at k; have o : (0 : Int32).toInt = 0 := by decide
  omega
theorem own_k {p v w : Int32} {B : Nat} (h : w.toInt = (B : Int)) (h2 : B ≤ 64) (e : v = (p &&& 2147483647) % (w + 1)) : ∃ K : Nat, v.toInt = (K : Int) ∧ K ≤ B := by
  have m := c_mask p 2147483647 31 (by decide) (by decide)
  have k := own_b1 h h2
  have r := (c_iremV (p &&& 2147483647) (w + 1)).1 (by rw [m]; omega) (by omega)
  rw [← e] at r
  exact ⟨v.toInt.toNat, by omega, by omega⟩
theorem own_dec {v : Int32} {B : Nat} (h : v.toInt = (B : Int)) (h1 : 1 ≤ B) (h2 : B ≤ 64) : (v - 1).toInt = ((B - 1 : Nat) : Int) := by
  have s := c_isub v 1; have b := rng32 (v - 1); have o : (1 : Int32).toInt = 1 := by decide
  omega
/-- what the law's second adjustment leaves -/
theorem own_u {v w u : Int32} {B K : Nat} (hB : w.toInt = (B : Int)) (hB1 : 1 ≤ B) (hB2 : B ≤ 64) (hK : v.toInt = (K : Int)) (hKB : K ≤ B)
    (h : (¬ ((61 : Int32) < w) ∧ u = v) ∨ ((61 : Int32) < w ∧ ¬ ((8 : Int32) < v) ∧ u = v) ∨ ((61 : Int32) < w ∧ (8 : Int32) < v ∧ ¬ (v < (w - (8 : Int32))) ∧ u = v) ∨ ((61 : Int32) < w ∧ (8 : Int32) < v ∧ v < (w - (8 : Int32)) ∧ u = (v % (9 : Int32)))) : ∃ U : Nat, u.toInt = (U : Int) ∧ U ≤ B ∧ dom B U = true := by
  have s := c_isub w 8; have b := rng32 (w - 8); have o8 : (8 : Int32).toInt = 8 := by decide
  have o61 : (61 : Int32).toInt = 61 := by decide
  simp only [Int32.lt_iff_toInt_lt, o8, o61] at h
  have r := (c_irem v 9 9 (by decide)).1 (by omega)
  rcases h with ⟨h1, rfl⟩ | ⟨h1, h2, rfl⟩ | ⟨h1, h2, h3, rfl⟩ | ⟨h1, h2, h3, rfl⟩
  · exact ⟨K, hK, hKB, by simp only [dom, Bool.not_eq_true', Bool.and_eq_false_iff, decide_eq_false_iff_not]; omega⟩
  · exact ⟨K, hK, hKB, by simp only [dom, Bool.not_eq_true', Bool.and_eq_false_iff, decide_eq_false_iff_not]; omega⟩
  · exact ⟨K, hK, hKB, by simp only [dom, Bool.not_eq_true', Bool.and_eq_false_iff, decide_eq_false_iff_not]; omega⟩
  · exact ⟨K % 9, by omega, by omega, by simp only [dom, Bool.not_eq_true', Bool.and_eq_false_iff, decide_eq_false_iff_not]; omega⟩
theorem own_ok {B U : Nat} (h1 : 1 ≤ B) (h2 : B ≤ 64) (h3 : U ≤ B) (h4 : dom B U = true) : okc U B = true ∧ ((U = 0 ∨ U = B) → cnt U B = 1) ∧ (¬ (U = 0 ∨ U = B) → okc U (B - 1) = true ∧ okc (U - 1) (B - 1) = true ∧ cnt U B = cnt U (B - 1) + cnt (U - 1) (B - 1) ∧ cnt U B < 9223372036854775808) := by
  have q := own_chk ⟨B, by omega⟩ ⟨U, by omega⟩
  simp only [chk, h4, Bool.or_eq_true, Bool.and_eq_true, decide_eq_true_eq, Bool.not_true, Bool.false_eq_true, or_false] at q
  have q2 := q.resolve_left (by omega)
  refine ⟨q2.1, fun h => ?_, fun h => ?_⟩
  · have q3 := q2.2; rw [if_pos h] at q3; exact of_decide_eq_true q3
  · have q3 := q2.2; rw [if_neg h] at q3
    simp only [Bool.and_eq_true, decide_eq_true_eq] at q3
    exact ⟨q3.1.1.1, q3.1.1.2, q3.1.2, q3.2⟩
theorem own_one {r : Int64} {n : Nat} (h : r.toInt = (n : Int)) (e : n = 1) : r = (1 : Int64) := Int64.toInt_inj.mp (by rw [h, e]; rfl)
theorem own_sum {x y z : Int64} {a b c : Nat} (hx : x.toInt = (a : Int)) (hy : y.toInt = (b : Int)) (hz : z.toInt = (c : Int)) (e : a = b + c) (l : a < 9223372036854775808) : x = y + z := by
  apply Int64.toInt_inj.mp
  have s := c_ladd y z; have r := rng64 (y + z)
  omega
theorem own_zero {u : Int32} {U : Nat} (h : u.toInt = (U : Int)) : u = 0 ↔ U = 0 := by
  rw [← Int32.toInt_inj, h]; have o : (0 : Int32).toInt = 0 := by decide
  rw [o]; omega
theorem own_eqb {u w : Int32} {U B : Nat} (h : u.toInt = (U : Int)) (k : w.toInt = (B : Int)) : u = w ↔ U = B := by
  rw [← Int32.toInt_inj, h, k]; omega

theorem od1_0 : decode prog_14_method_17_code 0 = .ok (.lconst 1, 1) := by decide +kernel
theorem od1_1 : decode prog_14_method_17_code 1 = .ok (.lstore_n 2, 1) := by decide +kernel
theorem od1_2 : decode prog_14_method_17_code 2 = .ok (.iconst 1, 1) := by decide +kernel
theorem od1_3 : decode prog_14_method_17_code 3 = .ok (.istore 4, 2) := by decide +kernel
theorem od1_5 : decode prog_14_method_17_code 5 = .ok (.iload 4, 2) := by decide +kernel
theorem od1_7 : decode prog_14_method_17_code 7 = .ok (.iload_n 0, 1) := by decide +kernel
theorem od1_8 : decode prog_14_method_17_code 8 = .ok (.if_icmp .gt 23, 3) := by decide +kernel
theorem od1_31 : decode prog_14_method_17_code 31 = .ok (.lload_n 2, 1) := by decide +kernel
theorem od1_32 : decode prog_14_method_17_code 32 = .ok (.lreturn, 1) := by decide +kernel
theorem od1_11 : decode prog_14_method_17_code 11 = .ok (.lload_n 2, 1) := by decide +kernel
theorem od1_12 : decode prog_14_method_17_code 12 = .ok (.iload_n 1, 1) := by decide +kernel
theorem od1_13 : decode prog_14_method_17_code 13 = .ok (.iload_n 0, 1) := by decide +kernel
theorem od1_14 : decode prog_14_method_17_code 14 = .ok (.isub, 1) := by decide +kernel
theorem od1_15 : decode prog_14_method_17_code 15 = .ok (.iload 4, 2) := by decide +kernel
theorem od1_17 : decode prog_14_method_17_code 17 = .ok (.iadd, 1) := by decide +kernel
theorem od1_18 : decode prog_14_method_17_code 18 = .ok (.i2l, 1) := by decide +kernel
theorem od1_19 : decode prog_14_method_17_code 19 = .ok (.lmul, 1) := by decide +kernel
theorem od1_20 : decode prog_14_method_17_code 20 = .ok (.iload 4, 2) := by decide +kernel
theorem od1_22 : decode prog_14_method_17_code 22 = .ok (.i2l, 1) := by decide +kernel
theorem od1_23 : decode prog_14_method_17_code 23 = .ok (.ldiv, 1) := by decide +kernel
theorem od1_24 : decode prog_14_method_17_code 24 = .ok (.lstore_n 2, 1) := by decide +kernel
theorem od1_25 : decode prog_14_method_17_code 25 = .ok (.iinc 4 1, 3) := by decide +kernel
theorem od1_28 : decode prog_14_method_17_code 28 = .ok (.goto (-23), 3) := by decide +kernel
theorem ef_own_rm1 (m : MethodId) (x0 : Int32) (x1 : Int32) : entryFrame m #[(.int x0), (.int x1)] 5 = mkF m 0 #[.val (.int x0), .val (.int x1), .unset, .unset, .unset] [] := by first | (simp [entryFrame, mkF, argsToLocals, Value.category]; done) | rfl
theorem pn_com_example_hyperplane_hyperplane_index_Design_tableCount__II_J : plainFor (⟨"com/example/hyperplane/hyperplane/index/Design", "tableCount", "(II)J"⟩ : MethodName) = true := plainFor_of_name (by first | (simp [plainName, overriddenIn]; done) | decide +kernel)
set_option maxRecDepth 65536 in
set_option maxHeartbeats 40000000 in
theorem own_rm1 (l : Launch) (Z : State) (a0 : Array Value) (hw : ∀ d ∈ tables_1, d.before a0 Z = true) (n0 : Nat) (hO : Heap) (k : Int32) (b : Int32) (K : Nat) (B : Nat) (hk : k.toInt = (K : Int)) (hb : b.toInt = (B : Int)) (hKB : K ≤ B) (hB : B ≤ 64) (hok : okc K B = true) :
    MeetsW l Z n0 (⟨"com/example/hyperplane/hyperplane/index/Design", "tableCount", "(II)J"⟩ : MethodName) prog_14_method_17_code 5 (some .long) ({ frames := 0, cells := 0, slots := 0, locals := 0 } : Room) #[(.int k), (.int b)] hO (RJ fun r h => r.toInt = (cnt K B : Int) ∧ h = hO) := by
  refine MeetsW.intro pn_com_example_hyperplane_hyperplane_index_Design_tableCount__II_J (fun m => ef_own_rm1 m k b) ?_
  intro W C
  replace C : Ru l Z "com/example/hyperplane/hyperplane/index/Design" prog_14_method_17_code 5 (some .long) "tableCount" ({ frames := 0, cells := 0, slots := 0, locals := 0 } : Room) n0 (RJ fun r h => r.toInt = (cnt K B : Int) ∧ h = hO) W := C
  refine C.lconst (v := 1) (pc' := 1) od1_0 rfl rfl ?_
  refine C.lstoreNX (l' := #[.val (.int k), .val (.int b), .val (.long (1 : Int64)), .second, .unset]) (pc' := 2) od1_1 rfl rfl ?_
  refine C.iconst (v := 1) (pc' := 3) od1_2 rfl rfl ?_
  refine C.istoreX (l' := #[.val (.int k), .val (.int b), .val (.long (1 : Int64)), .second, .val (.int (1 : Int32))]) (pc' := 5) od1_3 rfl rfl ?_
  have loop : ∀ (n i c : Nat) (iv : Int32) (cv : Int64), iv.toInt = (i : Int) → cv.toInt = (c : Int) → 1 ≤ i → K + 1 ≤ i + n → i ≤ 65 → okl K B n i c = true → tcl K B n i c = cnt K B → W hO 0 0 5 #[.val (.int k), .val (.int b), .val (.long cv), .second, .val (.int iv)] [] := by
    intro n
    induction n with
    | zero =>
      intro i c iv cv hi hc h1 hn h65 hok heq
      refine C.iload (pc' := 7) od1_5 rfl rfl ?_
      refine C.iloadN (pc' := 8) od1_7 rfl rfl ?_
      refine C.icmp_gt (pc' := 11) (pt := 31) od1_8 rfl rfl (fun c8 => ?_) (fun c8 => absurd ((own_lt hi hk).mpr (by omega)) c8)
      refine C.lloadN (pc' := 32) od1_31 rfl rfl ?_
      refine C.retJ rfl od1_32 (by decide) (by decide) ⟨_, rfl, ?_⟩
      exact ⟨by rw [hc, ← heq]; rfl, rfl⟩
    | succ n ih =>
      intro i c iv cv hi hc h1 hn h65 hok heq
      refine C.iload (pc' := 7) od1_5 rfl rfl ?_
      refine C.iloadN (pc' := 8) od1_7 rfl rfl ?_
      refine C.icmp_gt (pc' := 11) (pt := 31) od1_8 rfl rfl (fun c8 => ?_) (fun c8 => ?_)
      · skip
        refine C.lloadN (pc' := 32) od1_31 rfl rfl ?_
        refine C.retJ rfl od1_32 (by decide) (by decide) ⟨_, rfl, ?_⟩
        exact ⟨by rw [hc, ← heq, tcl, if_neg (by have := (own_lt hi hk).mp c8; omega)], rfl⟩
      · skip
        refine C.lloadN (pc' := 12) od1_11 rfl rfl ?_
        refine C.iloadN (pc' := 13) od1_12 rfl rfl ?_
        refine C.iloadN (pc' := 14) od1_13 rfl rfl ?_
        refine C.isub (pc' := 15) od1_14 rfl ?_
        refine C.iload (pc' := 17) od1_15 rfl rfl ?_
        refine C.iadd (pc' := 18) od1_17 rfl ?_
        refine C.i2l (pc' := 19) od1_18 rfl ?_
        refine C.lmul (pc' := 20) od1_19 rfl ?_
        refine C.iload (pc' := 22) od1_20 rfl rfl ?_
        refine C.i2l (pc' := 23) od1_22 rfl ?_
        refine C.ldiv (pc' := 24) od1_23 rfl (own_nz hi h1) ?_
        refine C.lstoreN (f := fun v_ => #[.val (.int k), .val (.int b), .val (.long v_), .second, .val (.int iv)]) (pc' := 25) od1_24 rfl (fun _ => rfl) (fun v24 e24 => ?_)
        refine C.iinc (d := 1) (f := fun v_ => #[.val (.int k), .val (.int b), .val (.long v24), .second, .val (.int v_)]) (pc' := 28) od1_25 rfl rfl rfl (fun _ => rfl) (fun v25 e25 => ?_)
        refine C.goto (pc' := 5) od1_28 rfl ?_
        have hle : i ≤ K := by have := mt (own_lt hi hk).mpr c8; omega
        rw [okl, if_pos hle, Bool.and_eq_true, decide_eq_true_eq] at hok
        rw [tcl, if_pos hle] at heq
        exact ih (i + 1) _ v25 v24 (own_inc hi h65 e25) (by rw [e24]; exact own_step hb hk hi hc h1 hKB hB h65 hok.1) (by omega) (by omega) (by omega) hok.2 heq
  exact loop 65 1 1 _ _ (by decide) (by decide) (by decide) (by omega) (by decide) hok rfl
theorem ow0 {a0 : Array Value} {Z : State} (hw : ∀ d ∈ tables_1, d.before a0 Z = true) : (Jvm.Cond.constant "com/example/hyperplane/hyperplane/index/DesignTableCountPinLaw" (7 : Nat) (2147483647 : Int32)).before a0 Z = true := hw _ (List.mem_of_getElem? (i := 0) rfl)
theorem pd__II_J : parseMethodDescriptor "(II)J" = some ⟨[.int, .int], some .long⟩ := by decide +kernel
theorem ow4 {a0 : Array Value} {Z : State} (hw : ∀ d ∈ tables_1, d.before a0 Z = true) : (Jvm.Cond.code ({ cls := "com/example/hyperplane/hyperplane/index/Design", name := "tableCount", desc := "(II)J" } : Jvm.MethodName) prog_14_method_17_code (5 : Nat) (Option.some Jvm.ClassFile.FieldType.long)).before a0 Z = true := hw _ (List.mem_of_getElem? (i := 4) rfl)
theorem ow3 {a0 : Array Value} {Z : State} (hw : ∀ d ∈ tables_1, d.before a0 Z = true) : (Jvm.Cond.initialized "com/example/hyperplane/hyperplane/index/Design").before a0 Z = true := hw _ (List.mem_of_getElem? (i := 3) rfl)
theorem ow1 {a0 : Array Value} {Z : State} (hw : ∀ d ∈ tables_1, d.before a0 Z = true) : (Jvm.Cond.methodLink "com/example/hyperplane/hyperplane/index/DesignTableCountPinLaw" (8 : Nat) ({ cls := "com/example/hyperplane/hyperplane/index/Design", name := "tableCount", desc := "(II)J" } : Jvm.MethodName)).before a0 Z = true := hw _ (List.mem_of_getElem? (i := 1) rfl)
theorem ow2 {a0 : Array Value} {Z : State} (hw : ∀ d ∈ tables_1, d.before a0 Z = true) : (Jvm.Cond.static ({ cls := "com/example/hyperplane/hyperplane/index/Design", name := "tableCount", desc := "(II)J" } : Jvm.MethodName)).before a0 Z = true := hw _ (List.mem_of_getElem? (i := 2) rfl)
theorem ef_own_rm0 (m : MethodId) (x0 : Int32) (x1 : Int32) : entryFrame m #[(.int x0), (.int x1)] maxLocals = mkF m 0 #[.val (.int x0), .val (.int x1), .unset, .unset, .unset, .unset, .unset, .unset, .unset, .unset] [] := by first | (simp [entryFrame, mkF, argsToLocals, Value.category, maxLocals]; done) | rfl
theorem pn_com_example_hyperplane_hyperplane_index_DesignTableCountPinLaw_law__II_Z : plainFor (⟨"com/example/hyperplane/hyperplane/index/DesignTableCountPinLaw", "law", "(II)Z"⟩ : MethodName) = true := plainFor_of_name (by first | (simp [plainName, overriddenIn]; done) | decide +kernel)
set_option maxRecDepth 65536 in
set_option maxHeartbeats 40000000 in
theorem own_rm0 (l : Launch) (Z : State) (a0 : Array Value) (hw : ∀ d ∈ tables_1, d.before a0 Z = true) (n0 : Nat) (hO : Heap) (p1 : Int32) (p2 : Int32) (Z0 : n0 ≤ hO.size) :
    MeetsW l Z n0 x code maxLocals ret room_1 #[(.int p1), (.int p2)] hO (RI fun r h => r = 1) := by
  refine MeetsW.intro (show plainFor x = true from pn_com_example_hyperplane_hyperplane_index_DesignTableCountPinLaw_law__II_Z) (fun m => ef_own_rm0 m p1 p2) ?_
  intro W C
  replace C : Ru l Z "com/example/hyperplane/hyperplane/index/DesignTableCountPinLaw" code maxLocals ret "law" room_1 n0 (RI fun r h => r = 1) W := C
  have K : Keep hO hO [] := Keep.refl _ _
  refine C.iloadN (pc' := 1) at_0 rfl rfl ?_
  refine C.ldcI (ow0 hw) (pc' := 3) at_1 rfl ?_
  refine C.iand (pc' := 4) at_3 rfl ?_
  refine C.bipush (v := 64) (pc' := 6) at_4 rfl rfl ?_
  refine C.irem (pc' := 7) at_6 rfl (by decide) ?_
  refine C.iconst (v := 1) (pc' := 8) at_7 rfl rfl ?_
  refine C.iadd (pc' := 9) at_8 rfl ?_
  refine C.istoreN (f := fun v_ => #[.val (.int p1), .val (.int p2), .val (.int v_), .unset, .unset, .unset, .unset, .unset, .unset, .unset]) (pc' := 10) at_9 rfl (fun _ => rfl) (fun v9 e9 => ?_)
  obtain ⟨B, hB, hB1, hB2⟩ := own_b e9
  refine C.iloadN (pc' := 11) at_10 rfl rfl ?_
  refine C.ldcI (ow0 hw) (pc' := 13) at_11 rfl ?_
  refine C.iand (pc' := 14) at_13 rfl ?_
  refine C.iloadN (pc' := 15) at_14 rfl rfl ?_
  refine C.iconst (v := 1) (pc' := 16) at_15 rfl rfl ?_
  refine C.iadd (pc' := 17) at_16 rfl ?_
  refine C.irem (pc' := 18) at_17 rfl (own_bnz hB hB2) ?_
  refine C.istoreN (f := fun v_ => #[.val (.int p1), .val (.int p2), .val (.int v9), .val (.int v_), .unset, .unset, .unset, .unset, .unset, .unset]) (pc' := 19) at_18 rfl (fun _ => rfl) (fun v18 e18 => ?_)
  obtain ⟨K', hK', hKB'⟩ := own_k hB hB2 e18
  refine C.iloadN (pc' := 20) at_19 rfl rfl ?_
  refine C.bipush (v := 61) (pc' := 22) at_20 rfl rfl ?_
  have j44 : ∀ (u44_3 : Int32), ((¬ ((61 : Int32) < v9) ∧ u44_3 = v18) ∨ ((61 : Int32) < v9 ∧ ¬ ((8 : Int32) < v18) ∧ u44_3 = v18) ∨ ((61 : Int32) < v9 ∧ (8 : Int32) < v18 ∧ ¬ (v18 < (v9 - (8 : Int32))) ∧ u44_3 = v18) ∨ ((61 : Int32) < v9 ∧ (8 : Int32) < v18 ∧ v18 < (v9 - (8 : Int32)) ∧ u44_3 = (v18 % (9 : Int32)))) → W hO 0 0 44 #[.val (.int p1), .val (.int p2), .val (.int v9), .val (.int u44_3), .unset, .unset, .unset, .unset, .unset, .unset] [] := by
    intro u44_3 x44
    obtain ⟨U, hU, hUB, hdom⟩ := own_u hB hB1 hB2 hK' hKB' x44
    have ok := own_ok hB1 hB2 hUB hdom
    refine C.iloadN (pc' := 45) at_44 rfl rfl ?_
    refine C.if_ne (pc' := 48) (pt := 64) at_45 rfl rfl (fun c45 => ?_) (fun c45 => ?_)
    · skip
      refine C.iloadN (pc' := 65) at_64 rfl rfl ?_
      refine C.iloadN (pc' := 66) at_65 rfl rfl ?_
      refine C.icmp_ne (pc' := 69) (pt := 85) at_66 rfl rfl (fun c66 => ?_) (fun c66 => ?_)
      · skip
        have nu0 : ¬ U = 0 := fun q => c45 ((own_zero hU).mpr q)
        have nub : ¬ U = B := fun q => c66 ((own_eqb hU hB).mpr q)
        have ok3 := ok.2.2 (fun q => q.elim nu0 nub)
        refine C.iloadN (pc' := 86) at_85 rfl rfl ?_
        refine C.iloadN (pc' := 87) at_86 rfl rfl ?_
        refine C.calls (w := 0) (own_rm1 l Z a0 hw n0 hO u44_3 v9 U B hU hB hUB hB2 ok.1) (ow1 hw) (ow2 hw) (ow3 hw) (ow4 hw) (pc' := 90) at_87 rfl rfl rfl (by decide) pd__II_J rfl (by decide) (Nat.le_of_eq rfl) (by decide) (by decide) (by decide) (kJ0 fun r87 q87 => ?_)
        refine C.lstoreX (l' := #[.val (.int p1), .val (.int p2), .val (.int v9), .val (.int u44_3), .val (.long r87), .second, .unset, .unset, .unset, .unset]) (pc' := 92) at_90 rfl rfl ?_
        refine C.iloadN (pc' := 93) at_92 rfl rfl ?_
        refine C.iloadN (pc' := 94) at_93 rfl rfl ?_
        refine C.iconst (v := 1) (pc' := 95) at_94 rfl rfl ?_
        refine C.isub (pc' := 96) at_95 rfl ?_
        refine C.calls (w := 0) (own_rm1 l Z a0 hw n0 hO u44_3 (v9 - (1 : Int32)) U (B - 1) hU (own_dec hB hB1 hB2) (by omega) (by omega) ok3.1) (ow1 hw) (ow2 hw) (ow3 hw) (ow4 hw) (pc' := 99) at_96 rfl rfl rfl (by decide) pd__II_J rfl (by decide) (Nat.le_of_eq rfl) (by decide) (by decide) (by decide) (kJ0 fun r96 q96 => ?_)
        refine C.lstoreX (l' := #[.val (.int p1), .val (.int p2), .val (.int v9), .val (.int u44_3), .val (.long r87), .second, .val (.long r96), .second, .unset, .unset]) (pc' := 101) at_99 rfl rfl ?_
        refine C.iloadN (pc' := 102) at_101 rfl rfl ?_
        refine C.iconst (v := 1) (pc' := 103) at_102 rfl rfl ?_
        refine C.isub (pc' := 104) at_103 rfl ?_
        refine C.iloadN (pc' := 105) at_104 rfl rfl ?_
        refine C.iconst (v := 1) (pc' := 106) at_105 rfl rfl ?_
        refine C.isub (pc' := 107) at_106 rfl ?_
        refine C.calls (w := 0) (own_rm1 l Z a0 hw n0 hO (u44_3 - (1 : Int32)) (v9 - (1 : Int32)) (U - 1) (B - 1) (own_dec hU (by omega) (by omega)) (own_dec hB hB1 hB2) (by omega) (by omega) ok3.2.1) (ow1 hw) (ow2 hw) (ow3 hw) (ow4 hw) (pc' := 110) at_107 rfl rfl rfl (by decide) pd__II_J rfl (by decide) (Nat.le_of_eq rfl) (by decide) (by decide) (by decide) (kJ0 fun r107 q107 => ?_)
        refine C.lstoreX (l' := #[.val (.int p1), .val (.int p2), .val (.int v9), .val (.int u44_3), .val (.long r87), .second, .val (.long r96), .second, .val (.long r107), .second]) (pc' := 112) at_110 rfl rfl ?_
        refine C.lload (pc' := 114) at_112 rfl rfl ?_
        refine C.lload (pc' := 116) at_114 rfl rfl ?_
        refine C.lload (pc' := 118) at_116 rfl rfl ?_
        refine C.ladd (pc' := 119) at_118 rfl ?_
        refine C.lif_ne (pc' := 123) (pt := 127) at_119 rfl at_120 rfl rfl (fun c119 => absurd (own_sum q87 q96 q107 ok3.2.2.1 ok3.2.2.2) c119) (fun c119 => ?_)
        refine C.iconst (v := 1) (pc' := 124) at_123 rfl rfl ?_
        refine C.goto (pc' := 128) at_124 rfl ?_
        refine C.retZ (show ret = some .boolean from rfl) (by decide) at_128 (by decide) (by decide) ⟨_, rfl, rfl⟩
      · skip
        refine C.iloadN (pc' := 70) at_69 rfl rfl ?_
        refine C.iloadN (pc' := 71) at_70 rfl rfl ?_
        refine C.calls (w := 0) (own_rm1 l Z a0 hw n0 hO v9 v9 B B hB hB (Nat.le_refl _) hB2 (by have := ok.1; rw [(own_eqb hU hB).mp c66] at this; exact this)) (ow1 hw) (ow2 hw) (ow3 hw) (ow4 hw) (pc' := 74) at_71 rfl rfl rfl (by decide) pd__II_J rfl (by decide) (Nat.le_of_eq rfl) (by decide) (by decide) (by decide) (kJ0 fun r71 q71 => ?_)
        refine C.lconst (v := 1) (pc' := 75) at_74 rfl rfl ?_
        refine C.lif_ne (pc' := 79) (pt := 83) at_75 rfl at_76 rfl rfl (fun c75 => absurd (own_one q71 (by have := ok.2.1 (Or.inr ((own_eqb hU hB).mp c66)); rw [(own_eqb hU hB).mp c66] at this; exact this)) c75) (fun c75 => ?_)
        refine C.iconst (v := 1) (pc' := 80) at_79 rfl rfl ?_
        refine C.goto (pc' := 84) at_80 rfl ?_
        refine C.retZ (show ret = some .boolean from rfl) (by decide) at_84 (by decide) (by decide) ⟨_, rfl, rfl⟩
    · skip
      refine C.iconst (v := 0) (pc' := 49) at_48 rfl rfl ?_
      refine C.iloadN (pc' := 50) at_49 rfl rfl ?_
      refine C.calls (w := 0) (own_rm1 l Z a0 hw n0 hO (0 : Int32) v9 0 B rfl hB (Nat.zero_le _) hB2 (by have := ok.1; rw [(own_zero hU).mp c45] at this; exact this)) (ow1 hw) (ow2 hw) (ow3 hw) (ow4 hw) (pc' := 53) at_50 rfl rfl rfl (by decide) pd__II_J rfl (by decide) (Nat.le_of_eq rfl) (by decide) (by decide) (by decide) (kJ0 fun r50 q50 => ?_)
      refine C.lconst (v := 1) (pc' := 54) at_53 rfl rfl ?_
      refine C.lif_ne (pc' := 58) (pt := 62) at_54 rfl at_55 rfl rfl (fun c54 => absurd (own_one q50 (by have := ok.2.1 (Or.inl ((own_zero hU).mp c45)); rw [(own_zero hU).mp c45] at this; exact this)) c54) (fun c54 => ?_)
      refine C.iconst (v := 1) (pc' := 59) at_58 rfl rfl ?_
      refine C.goto (pc' := 63) at_59 rfl ?_
      refine C.retZ (show ret = some .boolean from rfl) (by decide) at_63 (by decide) (by decide) ⟨_, rfl, rfl⟩
  refine C.icmp_le (pc' := 25) (pt := 44) at_22 rfl rfl (fun c22 => ?_) (fun c22 => ?_)
  · skip
    exact C.mono (by decide) (by decide) (j44 _ (Or.inl ⟨c22, rfl⟩))
  · skip
    refine C.iloadN (pc' := 26) at_25 rfl rfl ?_
    refine C.bipush (v := 8) (pc' := 28) at_26 rfl rfl ?_
    refine C.icmp_le (pc' := 31) (pt := 44) at_28 rfl rfl (fun c28 => ?_) (fun c28 => ?_)
    · skip
      exact C.mono (by decide) (by decide) (j44 _ (Or.inr (Or.inl ⟨c22, c28, rfl⟩)))
    · skip
      refine C.iloadN (pc' := 32) at_31 rfl rfl ?_
      refine C.iloadN (pc' := 33) at_32 rfl rfl ?_
      refine C.bipush (v := 8) (pc' := 35) at_33 rfl rfl ?_
      refine C.isub (pc' := 36) at_35 rfl ?_
      refine C.icmp_ge (pc' := 39) (pt := 44) at_36 rfl rfl (fun c36 => ?_) (fun c36 => ?_)
      · skip
        exact C.mono (by decide) (by decide) (j44 _ (Or.inr (Or.inr (Or.inl ⟨c22, c28, c36, rfl⟩))))
      · skip
        refine C.iloadN (pc' := 40) at_39 rfl rfl ?_
        refine C.bipush (v := 9) (pc' := 42) at_40 rfl rfl ?_
        refine C.irem (pc' := 43) at_42 rfl (by decide) ?_
        refine C.istoreNX (l' := #[.val (.int p1), .val (.int p2), .val (.int v9), .val (.int (v18 % (9 : Int32))), .unset, .unset, .unset, .unset, .unset, .unset]) (pc' := 44) at_43 rfl rfl ?_
        exact C.mono (by decide) (by decide) (j44 _ (Or.inr (Or.inr (Or.inr ⟨c22, c28, c36, rfl⟩))))
set_option maxRecDepth 65536 in
set_option maxHeartbeats 40000000 in
theorem comes_1 {Post : Tables → Env → Array Value → State → Outcome → State → Prop} (hpost : ∀ tb e args s v u, (limb_1_1.after args s (.returned v) u = true ∧ limb_1_2.after args s (.returned v) u = true ∧ True) → FrameEnd s (.returned v) u (Jvm.fieldLocs frame_1_writes args s ++ Jvm.arrayLocs frame_1_arrays args s ++ Jvm.staticLocs frame_1_statics s) 0 0 → Post tb e args s (.returned v) u) :
    ArmFor flags0 classFile x code maxLocals ret World_1 tables_1 room_1 Calls_1 rest_1 Pre_1 Post := by
  intro l hfl _ _ p e ha hc hk s m args below hf hA hF happ hP
  obtain ⟨hcalls, hrest, hpre⟩ := hP
  obtain ⟨-, -, -, hnamed, -, -, -, hat⟩ := (Spec.applies_iff hf).mp happ
  obtain ⟨hg, hn⟩ := and_e (Cond.before_iff.mp (show (Jvm.Cond.and given_1 narrow_1).before args s = true from hpre))
  obtain ⟨g0, t0⟩ := and_e hg
  obtain ⟨k0, t1⟩ := and_e t0
  obtain ⟨w0_, w1_, rfl⟩ : ∃ w0_ w1_ : Value, args = #[w0_, w1_] := by
    have hs : args.size = 2 := by simpa [Cond.value, given_1] using g0
    obtain ⟨L⟩ := args
    match L, hs with
    | [w0_, w1_], _ => exact ⟨w0_, w1_, rfl⟩
  have hw := fun d (hd : d ∈ tables_1) => atoms_spec (ws := Jvm.Cond.code x code maxLocals ret :: tables_1) hat d (List.mem_cons_of_mem _ hd)
  obtain ⟨i0_, e0_⟩ := is_v k0
  obtain rfl : w0_ = (.int i0_) := Option.some.inj e0_
  obtain ⟨i1_, e1_⟩ := is_v t1
  obtain rfl : w1_ = (.int i1_) := Option.some.inj e1_
  obtain ⟨n, o, h1, h2, h3, _, L, rfl, ⟨N, _, rfl, rfl⟩, hq⟩ := own_rm0 l s _ hw s.heap.size s.heap i0_ i1_  (Nat.le_refl _)  tables_1 p e ha hc hk s m _ below hf ((Spec.applies_iff_loose hf).mp happ).1 ⟨rfl, State.Warmed39.refl s, rfl⟩ trivial
  refine ⟨n, _, h1, h2, h3, hpost _ _ _ _ _ _ ⟨Cond.after_iff.mpr rfl, Cond.after_iff.mpr (eq_i res_at (Term.int_eval (1)) rfl), trivial⟩ ⟨hq.1, hq.2.1, (hq.2.2.sift fun y hy => Or.inr (N y hy)).mono (by decide) (by decide)⟩⟩
theorem main_1_1 : Claimed_1_1 := comes_1 fun _ _ _ _ _ _ h hF => ⟨h.1, hF⟩
theorem main_1_2 : Claimed_1_2 := comes_1 fun _ _ _ _ _ _ h hF => ⟨h.2.1, hF⟩
end Jvm.Pilot.@@N@@
namespace Jvm.Pilot.@@N@@
open Jvm Jvm.ClassFile Sem Op Lib Jvm.Free Jvm.Stand Jvm.Pilot.@@N@@.Jvm.D
/-! MADE BY PROGRAM (witnessworld.py) out of the Statement's table words and the real class files: 9 classes; the members and pool entries that the words name. The judged class is class 1, her method 1. -/
namespace start1
open Jvm.ClassFile
def u (s : String) : CpInfo := .utf8 (stringToUtf16 s)
/-- a pool by its gaps: so many unusable entries, then the entry; so many at the end -/
def gap : Nat → List CpInfo → List CpInfo
  | 0, r => r
  | n + 1, r => .unusable :: gap n r
def poolList (es : List (Nat × CpInfo)) (last : Nat) : List CpInfo := es.foldr (fun e r => gap e.1 (e.2 :: r)) (gap last [])
def pool (es : List (Nat × CpInfo)) (last : Nat) : Array CpInfo := ⟨poolList es last⟩
def fileOf (pool : Array CpInfo) (this : Nat) (attrs : Array Attribute := #[]) (ms : Array MethodInfo := #[]) (fl : Nat := 33) (sup : Nat := 0) (ifs : Array Nat := #[]) (fds : Array FieldInfo := #[]) : ClassFile where
  minorVersion := 0
  majorVersion := 65
  constantPool := pool
  accessFlags := fl
  thisClass := this
  superClass := sup
  interfaces := ifs
  fields := fds
  methods := ms
  attributes := attrs
def plain (name : String) (sup : Option ClassId) : Class where
  name := name
  kind := .ordinary
  loader := none
  accessFlags := 33
  super := sup
  interfaces := #[]
  cf := none
  fields := #[]
  methods := #[]
  instanceTypes := #[]
  staticTypes := #[]
  resolved := #[]
  callSites := []
  init := .initialized
  statics := none
  mirror := none

def pool0 : Array CpInfo := pool [(5, u "<init>"), (0, u "()V"), (1, .class_ 10), (1, u "java/lang/Object")] 113

def k0m0 : Method := { name := "<init>", desc := "()V", sig := { parameters := [], returnType := none }, accessFlags := 1, code := none }
/-- java/lang/Object -/
def k0 : Class := { plain "java/lang/Object" none with
  accessFlags := 33
  interfaces := #[]
  cf := some (fileOf pool0 8 #[] #[{ accessFlags := 1, nameIndex := 5, descriptorIndex := 6, attributes := #[] }] 33 0 #[] #[])
  fields := #[]
  methods := #[k0m0]
  instanceTypes := #[]
  staticTypes := #[]
  resolved := Array.replicate 124 none
  statics := none }

def pool1 : Array CpInfo := pool [(2, .class_ 4), (1, u "java/lang/Object"), (0, u "<init>"), (0, u "()V"), (0, .integer 2147483647), (0, .methodref 9 10), (0, .class_ 11), (0, .nameAndType 12 13), (0, u "com/example/hyperplane/hyperplane/index/Design"), (0, u "tableCount"), (0, u "(II)J"), (0, .class_ 15), (0, u "com/example/hyperplane/hyperplane/index/DesignTableCountPinLaw"), (2, u "law"), (0, u "(II)Z")] 3

def k1m0 : Method := { name := "<init>", desc := "()V", sig := { parameters := [], returnType := none }, accessFlags := 1, code := none }
def k1c1 : Code := { maxStack := 6, maxLocals := 10, code := code, exceptionTable := #[], attributes := #[] }
def k1m1 : Method := { name := "law", desc := "(II)Z", sig := { parameters := [.int, .int], returnType := some .boolean }, accessFlags := 9, code := some k1c1 }
/-- com/example/hyperplane/hyperplane/index/DesignTableCountPinLaw -/
def k1 : Class := { plain "com/example/hyperplane/hyperplane/index/DesignTableCountPinLaw" (some 0) with
  accessFlags := 49
  interfaces := #[]
  cf := some (fileOf pool1 14 #[] #[{ accessFlags := 1, nameIndex := 5, descriptorIndex := 6, attributes := #[] }, { accessFlags := 9, nameIndex := 18, descriptorIndex := 19, attributes := #[] }] 49 2 #[] #[])
  fields := #[]
  methods := #[k1m0, k1m1]
  instanceTypes := #[]
  staticTypes := #[]
  resolved := Array.replicate 23 none
  statics := none }

def pool2 : Array CpInfo := pool [(2, .class_ 4), (1, u "java/lang/Object"), (17, .class_ 24), (1, u "com/example/hyperplane/hyperplane/index/Design"), (10, u "k"), (0, u "I"), (2, u "blocks"), (7, u "[Lcom/example/hyperplane/hyperplane/index/Table;"), (2, u "tables"), (12, u "tableCount"), (0, u "(II)J"), (129, u "MAX_TABLES"), (2, u "NANOS_PER_RECORD"), (0, u "D"), (0, u "NANOS_PER_RECORD_AND_PASS"), (0, u "NANOS_PER_COMPARISON"), (0, u "NANOS_PER_SEARCH_STEP"), (0, u "NANOS_PER_CANDIDATE"), (0, u "NANOS_PER_CHUNK_RECORD"), (0, u "NANOS_PER_CHUNK_RECORD_AND_PASS"), (0, u "NANOS_PER_WALKED_ENTRY"), (0, u "NANOS_PER_GROUP_ENTRY"), (0, u "BATCH_SLOWDOWN_FOR_SPACE"), (0, u "QUERY_SLOWDOWN_FOR_SPACE")] 72

def k2c0 : Code := { maxStack := 4, maxLocals := 5, code := prog_14_method_17_code, exceptionTable := #[], attributes := #[] }
def k2m0 : Method := { name := "tableCount", desc := "(II)J", sig := { parameters := [.int, .int], returnType := some .long }, accessFlags := 8, code := some k2c0 }
/-- com/example/hyperplane/hyperplane/index/Design -/
def k2 : Class := { plain "com/example/hyperplane/hyperplane/index/Design" (some 0) with
  accessFlags := 32
  interfaces := #[]
  cf := some (fileOf pool2 22 #[] #[{ accessFlags := 8, nameIndex := 63, descriptorIndex := 64, attributes := #[] }] 32 2 #[] #[{ accessFlags := 24, nameIndex := 194, descriptorIndex := 36, attributes := #[] }, { accessFlags := 26, nameIndex := 197, descriptorIndex := 198, attributes := #[] }, { accessFlags := 26, nameIndex := 199, descriptorIndex := 198, attributes := #[] }, { accessFlags := 26, nameIndex := 200, descriptorIndex := 198, attributes := #[] }, { accessFlags := 26, nameIndex := 201, descriptorIndex := 198, attributes := #[] }, { accessFlags := 26, nameIndex := 202, descriptorIndex := 198, attributes := #[] }, { accessFlags := 26, nameIndex := 203, descriptorIndex := 198, attributes := #[] }, { accessFlags := 26, nameIndex := 204, descriptorIndex := 198, attributes := #[] }, { accessFlags := 26, nameIndex := 205, descriptorIndex := 198, attributes := #[] }, { accessFlags := 26, nameIndex := 206, descriptorIndex := 198, attributes := #[] }, { accessFlags := 26, nameIndex := 207, descriptorIndex := 198, attributes := #[] }, { accessFlags := 26, nameIndex := 208, descriptorIndex := 198, attributes := #[] }, { accessFlags := 18, nameIndex := 35, descriptorIndex := 36, attributes := #[] }, { accessFlags := 18, nameIndex := 39, descriptorIndex := 36, attributes := #[] }, { accessFlags := 18, nameIndex := 50, descriptorIndex := 47, attributes := #[] }])
  fields := #[{ name := "MAX_TABLES", type := .int, accessFlags := 24, slot := 0, constantValue := 0 }, { name := "NANOS_PER_RECORD", type := .double, accessFlags := 26, slot := 1, constantValue := 0 }, { name := "NANOS_PER_RECORD_AND_PASS", type := .double, accessFlags := 26, slot := 2, constantValue := 0 }, { name := "NANOS_PER_COMPARISON", type := .double, accessFlags := 26, slot := 3, constantValue := 0 }, { name := "NANOS_PER_SEARCH_STEP", type := .double, accessFlags := 26, slot := 4, constantValue := 0 }, { name := "NANOS_PER_CANDIDATE", type := .double, accessFlags := 26, slot := 5, constantValue := 0 }, { name := "NANOS_PER_CHUNK_RECORD", type := .double, accessFlags := 26, slot := 6, constantValue := 0 }, { name := "NANOS_PER_CHUNK_RECORD_AND_PASS", type := .double, accessFlags := 26, slot := 7, constantValue := 0 }, { name := "NANOS_PER_WALKED_ENTRY", type := .double, accessFlags := 26, slot := 8, constantValue := 0 }, { name := "NANOS_PER_GROUP_ENTRY", type := .double, accessFlags := 26, slot := 9, constantValue := 0 }, { name := "BATCH_SLOWDOWN_FOR_SPACE", type := .double, accessFlags := 26, slot := 10, constantValue := 0 }, { name := "QUERY_SLOWDOWN_FOR_SPACE", type := .double, accessFlags := 26, slot := 11, constantValue := 0 }, { name := "k", type := .int, accessFlags := 18, slot := 0, constantValue := 0 }, { name := "blocks", type := .int, accessFlags := 18, slot := 1, constantValue := 0 }, { name := "tables", type := (.array (.object "com/example/hyperplane/hyperplane/index/Table")), accessFlags := 18, slot := 2, constantValue := 0 }]
  methods := #[k2m0]
  instanceTypes := #[.int, .int, (.array (.object "com/example/hyperplane/hyperplane/index/Table"))]
  staticTypes := #[.int, .double, .double, .double, .double, .double, .double, .double, .double, .double, .double, .double]
  resolved := Array.replicate 281 none
  statics := none }

def pool3 : Array CpInfo := pool [(1, u "java/lang/Cloneable"), (0, .class_ 1), (0, u "java/lang/Object"), (0, .class_ 3)] 3

/-- java/lang/Cloneable -/
def k3 : Class := { plain "java/lang/Cloneable" (some 0) with
  accessFlags := 1537
  interfaces := #[]
  cf := some (fileOf pool3 2 #[] #[] 1537 4 #[] #[])
  fields := #[]
  methods := #[]
  instanceTypes := #[]
  staticTypes := #[]
  resolved := Array.replicate 8 none
  statics := none }

def pool4 : Array CpInfo := pool [(1, u "java/io/Serializable"), (0, .class_ 1), (0, u "java/lang/Object"), (0, .class_ 3)] 3

/-- java/io/Serializable -/
def k4 : Class := { plain "java/io/Serializable" (some 0) with
  accessFlags := 1537
  interfaces := #[]
  cf := some (fileOf pool4 2 #[] #[] 1537 4 #[] #[])
  fields := #[]
  methods := #[]
  instanceTypes := #[]
  staticTypes := #[]
  resolved := Array.replicate 8 none
  statics := none }

/-- the primitive byte -/
def k5 : Class := { plain "byte" none with kind := .primitive 'B', accessFlags := 0x411 }
/-- [B -/
def k6 : Class := { plain "[B" (some 0) with kind := .array 5 .byte, interfaces := #[3, 4], accessFlags := 1041 }

/-- the primitive int -/
def k7 : Class := { plain "int" none with kind := .primitive 'I', accessFlags := 0x411 }
/-- [I -/
def k8 : Class := { plain "[I" (some 0) with kind := .array 7 .int, interfaces := #[3, 4], accessFlags := 1041 }

def heap : Heap := #[]
def classes : Array Class := #[k0, k1, k2, k3, k4, k5, k6, k7, k8]
def interned : List (Array UInt16 × Addr) := []
def slotsUsed : Nat := 0
def theMethod : MethodId := ⟨1, 1⟩
def args0 : Array Value := #[.int 5, .int 7]
def aboutOver (below : List Frame) : State where
  vm := { classes := classes, interned := interned.toArray }
  heap := heap
  slotsUsed := slotsUsed
  threads := #[{ frames := .invoking theMethod args0 :: below }]
def below0 : List Frame := [.native { method := ⟨0, 0⟩, args := #[] }]
def about1 : State := aboutOver below0
def p0 : Program := .bare "" "" ""
def e0 : Env := launch0.env 0 0 0
theorem w_frames : about1.frames = Frame.invoking theMethod args0 :: below0 := rfl
set_option maxRecDepth 65536 in
theorem w_args : argsFit about1.vm theMethod args0 = true := by decide +kernel
set_option maxRecDepth 65536 in
theorem w_heap : heapFits about1 = true := by decide +kernel
set_option maxRecDepth 65536 in
theorem w_runnable : about1.curStatus? = some .runnable := by decide +kernel
set_option maxRecDepth 65536 in
theorem w_alone : about1.alone = true := by decide +kernel
set_option maxRecDepth 65536 in
theorem w_named : about1.methodNamed? x = some theMethod := by decide +kernel
set_option maxRecDepth 65536 in
theorem w_hears : about1.hears theMethod below0 = true := by decide +kernel
set_option maxRecDepth 65536 in
theorem w_ripe : about1.ripe theMethod args0 below0 = true := by decide +kernel
theorem w_running : about1.status = .running := rfl
set_option maxRecDepth 65536 in
theorem w_room : about1.hasRoom e0.platform room_1 = true :=
  launch0.hasRoom_least _ room_1 (by decide +kernel) (by decide +kernel) (by decide +kernel) (by decide +kernel) (by decide +kernel) (by decide +kernel)
theorem allAtoms_all (ts : List Jvm.Cond) (a : Array Jvm.Value) (st : Jvm.State) : (allAtoms ts).before a st = ts.all (fun c => c.before a st) := by
  induction ts with
  | nil => rfl
  | cons c t ih =>
    show (Jvm.Cond.and c (allAtoms t)).before a st = _
    rw [Jvm.Cond.before_and, ih, List.all_cons]
def words1 : List Jvm.Cond := Jvm.Cond.code x code maxLocals ret :: tables_1
/-- a 'code' word, met by the world's own term for the bytes: nothing is compared byte by byte -/
theorem code_word {y : MethodName} {bytes : ByteArray} {mx : Nat} {rt : Option FieldType} {a : Array Value} {s : State} {m : MethodId} {meth : Method} {c : Code} (h1 : s.methodNamed? y = some m) (h2 : s.vm.method? m = some meth) (h3 : meth.code = some c) (h4 : c.code = bytes)
    (h5 : (c.maxLocals == mx && c.exceptionTable.isEmpty && decide (c.maxStack ≤ mostOperands) && decide (meth.sig.returnType = rt) && !meth.locks && decide (parseMethodDescriptor y.desc = some meth.sig)) = true) : (Jvm.Cond.code y bytes mx rt).before a s = true := by
  simp only [Bool.and_eq_true, beq_iff_eq, Bool.not_eq_true', decide_eq_true_eq] at h5
  obtain ⟨⟨⟨⟨⟨g1, g2⟩, g3⟩, g4⟩, g5⟩, g6⟩ := h5
  simp [Cond.before, Cond.holds, Cond.value, h1, h2, h3, h4, g1, g2, g3, g4, g5, g6]
def isCode : Jvm.Cond → Bool
  | .code _ _ _ _ => true
  | _ => false
theorem all_split {L : List Jvm.Cond} {P : Jvm.Cond → Bool} (h1 : L.all (fun c => isCode c || P c) = true) (h2 : ∀ c ∈ L.filter isCode, P c = true) : L.all P = true := by
  refine List.all_eq_true.mpr fun c hc => ?_
  have h := List.all_eq_true.mp h1 c hc
  rcases Bool.eq_false_or_eq_true (isCode c) with hi | hi
  · exact h2 c (List.mem_filter.mpr ⟨hc, hi⟩)
  · simpa [hi] using h
set_option maxRecDepth 65536 in
theorem w_c0 : (Jvm.Cond.code x code maxLocals ret).before args0 about1 = true := code_word (m := ⟨1, 1⟩) (meth := k1m1) (c := k1c1) (by decide +kernel) rfl rfl rfl (by decide +kernel)
set_option maxRecDepth 65536 in
theorem w_c1 : (Jvm.Cond.code ({ cls := "com/example/hyperplane/hyperplane/index/Design", name := "tableCount", desc := "(II)J" } : Jvm.MethodName) prog_14_method_17_code (5 : Nat) (Option.some Jvm.ClassFile.FieldType.long)).before args0 about1 = true := code_word (m := ⟨2, 0⟩) (meth := k2m0) (c := k2c0) (by decide +kernel) rfl rfl rfl (by decide +kernel)
def codes1 : List Jvm.Cond := [Jvm.Cond.code x code maxLocals ret, Jvm.Cond.code ({ cls := "com/example/hyperplane/hyperplane/index/Design", name := "tableCount", desc := "(II)J" } : Jvm.MethodName) prog_14_method_17_code (5 : Nat) (Option.some Jvm.ClassFile.FieldType.long)]
set_option maxRecDepth 65536 in
theorem codes_eq : words1.filter isCode = codes1 := rfl
theorem w_codes : ∀ c ∈ words1.filter isCode, c.before args0 about1 = true := by
  rw [codes_eq]
  intro c hc
  simp only [codes1, List.mem_cons, List.not_mem_nil, or_false] at hc
  rcases hc with rfl | rfl
  · exact w_c0
  · exact w_c1
set_option maxRecDepth 65536 in
theorem w_t1 : words1.all (fun c => isCode c || c.before args0 about1) = true := by decide +kernel
theorem w_tables : (allAtoms (Jvm.Cond.code x code maxLocals ret :: tables_1)).before args0 about1 = true := by
  rw [allAtoms_all]
  show words1.all (fun c => c.before args0 about1) = true
  refine all_split ?_ w_codes
  rw [w_t1]
set_option maxRecDepth 65536 in
theorem w_case : (Jvm.Cond.and given_1 narrow_1).before args0 about1 = true := by decide +kernel
theorem w_applies : (headSpec (Jvm.Cond.code x code maxLocals ret :: tables_1) room_1).applies x e0.platform about1 = true :=
  (Spec.applies_iff w_frames).mpr ⟨w_running, w_runnable, w_alone, w_named, w_hears, w_ripe, w_room, w_tables⟩
theorem atStart : AtStart classFile x code maxLocals ret World_1 tables_1 room_1 Calls_1 rest_1 Pre_1 launch0 p0 e0 about1 theMethod args0 below0 :=
  ⟨lists_1, trivial, launch0.admits_env _ _ _, launch0.least_env, fairChoices_fair.cas, fairChoices_fair.clock, w_frames, w_args, w_heap, w_applies, trivial, trivial, w_case⟩
end start1
theorem witness_1 : WitnessClaimed_1 := ⟨start1.p0, start1.e0, start1.about1, start1.theMethod, start1.args0, start1.below0, start1.atStart⟩
end Jvm.Pilot.@@N@@
