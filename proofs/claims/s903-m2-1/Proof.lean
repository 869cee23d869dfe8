import JvmDerived
import JvmDerived.Pilot.@@N@@Statement
import JvmDerived.Pilot.@@N@@Code
set_option linter.unusedVariables false
set_option linter.unusedSimpArgs false

namespace Jvm.OwnW
open Sem ClassFile Op Lib Jvm.Stand Jvm.Free Jvm.LawKit Jvm.RoadKit
/-- what the walk of one body stands on -/
def Ctx (p : Program) (l : Launch) (e : Env) (R : Room) (s : State) (m : MethodId) (args : Array Value) (below : List Frame) (meth : Method) (c : Code) (Z : State) (own : String) (code : ByteArray) (maxL : Nat) (ret : Option FieldType) (nm : String) : Prop :=
  p.tables.exec = Jvm.exec ∧ c.code = code ∧ c.maxLocals = maxL ∧ s.vm.findClass own = some m.cls ∧ Z.Warmed39 s.vm ∧ meth.sig.returnType = ret ∧ meth.locks = false ∧ meth.name = nm
/-- from here the body returns, and G holds of what it returns and of the heap -/
def WP (p : Program) (l : Launch) (e : Env) (R : Room) (s : State) (m : MethodId) (args : Array Value) (below : List Frame) (meth : Method) (c : Code) (n0 : Nat) (G : Option Value → Heap → Prop)
    (h : Heap) (k n pc : Nat) (Ls : Array Slot) (st : List Value) : Prop :=
  ∀ (T : State) (locs : List Loc) (k' n' : Nat), k' ≤ k → n' ≤ n → Stand p l e R s m args below meth c T locs k' n' → T.heap = h → Fr n0 locs →
    ∃ s₂ o, Steps p.tables e below (T.setTop (mkF m pc Ls st)) s₂ ∧ s₂.status = .running ∧ Ended s₂ below o ∧ ∃ v L, o = .returned v ∧ (Fr n0 L ∧ G v s₂.heap) ∧ FrameEnd s o s₂ L R.cells R.slots
abbrev WT : Type := Heap → Nat → Nat → Nat → Array Slot → List Value → Prop
def Ru (l : Launch) (Z : State) (own : String) (code : ByteArray) (maxL : Nat) (ret : Option FieldType) (nm : String) (R : Room) (n0 : Nat) (G : Option Value → Heap → Prop) (W : WT) : Prop :=
  ∃ (p : Program) (e : Env) (s : State) (m : MethodId) (args : Array Value) (below : List Frame) (meth : Method) (c : Code), Ctx p l e R s m args below meth c Z own code maxL ret nm ∧ W = WP p l e R s m args below meth c n0 G
/-- a body's contract -/
def MeetsW (l : Launch) (Z : State) (n0 : Nat) (y : MethodName) (bytes : ByteArray) (maxL : Nat) (ret : Option FieldType) (rm : Room) (as : Array Value) (h : Heap) (G : Option Value → Heap → Prop) : Prop :=
  ∀ ws : List Cond, MetFree l y (head1 (Cond.code y bytes maxL ret :: ws) rm) (fun a U => a = as ∧ Z.Warmed39 U.vm ∧ U.heap = h) (fun _ _ _ _ _ => True)
    (fun _ U o U' => ∃ v L, o = .returned v ∧ (Fr n0 L ∧ G v U'.heap) ∧ FrameEnd U o U' L rm.cells rm.slots)
theorem MeetsW.intro {l : Launch} {Z : State} {n0 : Nat} {y : MethodName} {bytes : ByteArray} {maxL : Nat} {ret : Option FieldType} {rm : Room} {as : Array Value} {h : Heap} {G : Option Value → Heap → Prop} {Ls : Array Slot}
    (hp : plainFor y = true) (hef : ∀ m, entryFrame m as maxL = mkF m 0 Ls [])
    (body : ∀ W, Ru l Z y.cls bytes maxL ret y.name rm n0 G W → W h 0 0 0 Ls []) : MeetsW l Z n0 y bytes maxL ret rm as h G := by
  intro ws
  refine MetFree.of_bodySF hp hisR ?_
  intro p e s m args below meth c s₁ Bd hml0 hP hK
  obtain ⟨rfl, hZ, hh⟩ := hP
  have X0 : Stand p l e rm s m args below meth c s₁ [] 0 0 := Stand.of_body Bd
  have e0 : s₁.heap = h := by rw [← hh, Bd.state]; rfl
  have C : Ctx p l e rm s m args below meth c Z y.cls bytes maxL ret y.name := ⟨Bd.exec, Bd.bytes, hml0, findClass_of_methodNamed Bd.named, hZ, Bd.returns, Bd.notSynchronized, (name_of_methodNamed Bd.named Bd.method).1⟩
  have q := body _ ⟨p, e, s, m, args, below, meth, c, C, rfl⟩ s₁ [] 0 0 (Nat.le_refl _) (Nat.le_refl _) X0 e0 (Fr.nil n0)
  rw [hef]
  exact q

/-! shifts, by how many places -/
def sh5 (y : Int32) : Nat := y.toBitVec.toNat % 32
def sh6 (y : Int32) : Nat := y.toBitVec.toNat % 64
def shlI (x : Int32) (k : Nat) : Int32 := Int32.ofBitVec (x.toBitVec <<< k)
def shrI (x : Int32) (k : Nat) : Int32 := Int32.ofBitVec (x.toBitVec >>> k)
def sarI (x : Int32) (k : Nat) : Int32 := Int32.ofBitVec (x.toBitVec.sshiftRight k)
def shlL (x : Int64) (k : Nat) : Int64 := Int64.ofBitVec (x.toBitVec <<< k)
def shrL (x : Int64) (k : Nat) : Int64 := Int64.ofBitVec (x.toBitVec >>> k)
def sarL (x : Int64) (k : Nat) : Int64 := Int64.ofBitVec (x.toBitVec.sshiftRight k)
theorem and31 (y : Int32) : (y &&& 31).toBitVec.toNat = sh5 y := by
  show (y.toBitVec &&& (31 : Int32).toBitVec).toNat = _
  rw [BitVec.toNat_and, show (31 : Int32).toBitVec.toNat = 2 ^ 5 - 1 from by decide, Nat.and_two_pow_sub_one_eq_mod]; rfl
theorem and63 (y : Int32) : (y.toInt64 &&& 63).toBitVec = BitVec.ofNat 64 (sh6 y) := by
  apply BitVec.eq_of_toNat_eq
  show (y.toBitVec.signExtend 64 &&& (63 : Int64).toBitVec).toNat = _
  rw [BitVec.toNat_and, show (63 : Int64).toBitVec.toNat = 2 ^ 6 - 1 from by decide, Nat.and_two_pow_sub_one_eq_mod, BitVec.toNat_ofNat, BitVec.toNat_signExtend]
  have h1 := y.toBitVec.isLt
  have h2 : (BitVec.setWidth 64 y.toBitVec).toNat = y.toBitVec.toNat := by rw [BitVec.toNat_setWidth]; omega
  rw [h2]
  unfold sh6
  split <;> omega
theorem ishl_eq (x y : Int32) : x <<< (y &&& 31) = shlI x (sh5 y) := by
  apply Int32.toBitVec_inj.mp
  show x.toBitVec <<< ((y &&& 31).toBitVec.smod 32) = x.toBitVec <<< (sh5 y)
  rw [BitVec.shiftLeft_eq', sm32 y _ rfl]; rfl
theorem ishr_eq (x y : Int32) : x >>> (y &&& 31) = sarI x (sh5 y) := by
  apply Int32.toBitVec_inj.mp
  show x.toBitVec.sshiftRight (((y &&& 31).toBitVec.smod 32).toNat) = x.toBitVec.sshiftRight (sh5 y)
  rw [sm32 y _ rfl]; rfl
theorem iushr_eq (x y : Int32) : XT.ushr x y = shrI x (sh5 y) := by
  apply Int32.toBitVec_inj.mp
  show x.toBitVec >>> ((y &&& 31).toBitVec % 32) = x.toBitVec >>> (sh5 y)
  rw [BitVec.ushiftRight_eq', BitVec.toNat_umod, and31]
  congr 1
  show sh5 y % 32 = sh5 y
  unfold sh5; omega
theorem lshl_eq (x : Int64) (y : Int32) : x <<< (y.toInt64 &&& 63) = shlL x (sh6 y) := by
  apply Int64.toBitVec_inj.mp
  show x.toBitVec <<< ((y.toInt64 &&& 63).toBitVec.smod 64) = x.toBitVec <<< (sh6 y)
  rw [BitVec.shiftLeft_eq', and63, smod64 _ (by unfold sh6; omega)]
theorem lshr_eq (x : Int64) (y : Int32) : x >>> (y.toInt64 &&& 63) = sarL x (sh6 y) := by
  apply Int64.toBitVec_inj.mp
  show x.toBitVec.sshiftRight (((y.toInt64 &&& 63).toBitVec.smod 64).toNat) = x.toBitVec.sshiftRight (sh6 y)
  rw [and63, smod64 _ (by unfold sh6; omega)]
theorem lushr_eq (x : Int64) (y : Int32) : XT.ushrL x y = shrL x (sh6 y) := by
  apply Int64.toBitVec_inj.mp
  show x.toBitVec >>> ((y.toInt64 &&& 63).toBitVec % 64) = x.toBitVec >>> (sh6 y)
  rw [BitVec.ushiftRight_eq', BitVec.toNat_umod, and63, BitVec.toNat_ofNat]
  congr 1
  show sh6 y % 2 ^ 64 % 64 = sh6 y
  unfold sh6; omega
section Steps
variable {l : Launch} {Z : State} {own : String} {code : ByteArray} {maxL : Nat} {ret : Option FieldType} {nm : String} {R : Room} {n0 : Nat} {G : Option Value → Heap → Prop} {W : WT} {h : Heap} {k n pc pc' : Nat} {Ls : Array Slot} {st rest : List Value}
theorem Ru.mono (C : Ru l Z own code maxL ret nm R n0 G W) {k2 n2 : Nat} (hk : k ≤ k2) (hn : n ≤ n2) (q : W h k2 n2 pc Ls st) : W h k n pc Ls st := by
  obtain ⟨p, e, s, m, args, below, meth, c, C, rfl⟩ := C
  intro T locs k' n' q1 q2 X eT N
  exact q T locs k' n' (Nat.le_trans q1 hk) (Nat.le_trans q2 hn) X eT N
theorem Ru.atPc (C : Ru l Z own code maxL ret nm R n0 G W) {pc2 : Nat} (hp : pc2 = pc) (q : W h k n pc2 Ls st) : W h k n pc Ls st := hp ▸ q
theorem Ru.iadd (C : Ru l Z own code maxL ret nm R n0 G W) {x y : Int32} (hd : decode code pc = .ok (.iadd, 1)) (hp : pc + 1 = pc') (q : W h k n pc' Ls (.int (x + y) :: rest)) : W h k n pc Ls (.int y :: .int x :: rest) := by
  obtain ⟨p, e, s, m, args, below, meth, c, ⟨hx, hby, hml, hown, hZ, hre, hlk, hnm⟩, rfl⟩ := C
  subst hp
  intro T locs k' n' q1 q2 X eT N
  obtain ⟨s2, o, st2, r⟩ := q T locs k' n' q1 q2 X eT N
  exact ⟨s2, o, XS.iadd (X.here) hx rfl (hb hby hd) rfl st2, r⟩
theorem Ru.isub (C : Ru l Z own code maxL ret nm R n0 G W) {x y : Int32} (hd : decode code pc = .ok (.isub, 1)) (hp : pc + 1 = pc') (q : W h k n pc' Ls (.int (x - y) :: rest)) : W h k n pc Ls (.int y :: .int x :: rest) := by
  obtain ⟨p, e, s, m, args, below, meth, c, ⟨hx, hby, hml, hown, hZ, hre, hlk, hnm⟩, rfl⟩ := C
  subst hp
  intro T locs k' n' q1 q2 X eT N
  obtain ⟨s2, o, st2, r⟩ := q T locs k' n' q1 q2 X eT N
  exact ⟨s2, o, XS.isub (X.here) hx rfl (hb hby hd) rfl st2, r⟩
theorem Ru.iand (C : Ru l Z own code maxL ret nm R n0 G W) {x y : Int32} (hd : decode code pc = .ok (.iand, 1)) (hp : pc + 1 = pc') (q : W h k n pc' Ls (.int (x &&& y) :: rest)) : W h k n pc Ls (.int y :: .int x :: rest) := by
  obtain ⟨p, e, s, m, args, below, meth, c, ⟨hx, hby, hml, hown, hZ, hre, hlk, hnm⟩, rfl⟩ := C
  subst hp
  intro T locs k' n' q1 q2 X eT N
  obtain ⟨s2, o, st2, r⟩ := q T locs k' n' q1 q2 X eT N
  exact ⟨s2, o, XS.iand (X.here) hx rfl (hb hby hd) rfl st2, r⟩
theorem Ru.imul (C : Ru l Z own code maxL ret nm R n0 G W) {x y : Int32} (hd : decode code pc = .ok (.imul, 1)) (hp : pc + 1 = pc') (q : W h k n pc' Ls (.int (x * y) :: rest)) : W h k n pc Ls (.int y :: .int x :: rest) := by
  obtain ⟨p, e, s, m, args, below, meth, c, ⟨hx, hby, hml, hown, hZ, hre, hlk, hnm⟩, rfl⟩ := C
  subst hp
  intro T locs k' n' q1 q2 X eT N
  obtain ⟨s2, o, st2, r⟩ := q T locs k' n' q1 q2 X eT N
  exact ⟨s2, o, XS.imul (X.here) hx rfl (hb hby hd) rfl st2, r⟩
theorem Ru.ixor (C : Ru l Z own code maxL ret nm R n0 G W) {x y : Int32} (hd : decode code pc = .ok (.ixor, 1)) (hp : pc + 1 = pc') (q : W h k n pc' Ls (.int (x ^^^ y) :: rest)) : W h k n pc Ls (.int y :: .int x :: rest) := by
  obtain ⟨p, e, s, m, args, below, meth, c, ⟨hx, hby, hml, hown, hZ, hre, hlk, hnm⟩, rfl⟩ := C
  subst hp
  intro T locs k' n' q1 q2 X eT N
  obtain ⟨s2, o, st2, r⟩ := q T locs k' n' q1 q2 X eT N
  exact ⟨s2, o, XT.ixor (X.here) hx rfl (hb hby hd) rfl st2, r⟩
theorem Ru.ior (C : Ru l Z own code maxL ret nm R n0 G W) {x y : Int32} (hd : decode code pc = .ok (.ior, 1)) (hp : pc + 1 = pc') (q : W h k n pc' Ls (.int (x ||| y) :: rest)) : W h k n pc Ls (.int y :: .int x :: rest) := by
  obtain ⟨p, e, s, m, args, below, meth, c, ⟨hx, hby, hml, hown, hZ, hre, hlk, hnm⟩, rfl⟩ := C
  subst hp
  intro T locs k' n' q1 q2 X eT N
  obtain ⟨s2, o, st2, r⟩ := q T locs k' n' q1 q2 X eT N
  exact ⟨s2, o, XT.ior (X.here) hx rfl (hb hby hd) rfl st2, r⟩
theorem Ru.idiv (C : Ru l Z own code maxL ret nm R n0 G W) {x y : Int32} (hd : decode code pc = .ok (.idiv, 1)) (hp : pc + 1 = pc') (hy : y ≠ 0) (q : W h k n pc' Ls (.int (x / y) :: rest)) : W h k n pc Ls (.int y :: .int x :: rest) := by
  obtain ⟨p, e, s, m, args, below, meth, c, ⟨hx, hby, hml, hown, hZ, hre, hlk, hnm⟩, rfl⟩ := C
  subst hp
  intro T locs k' n' q1 q2 X eT N
  obtain ⟨s2, o, st2, r⟩ := q T locs k' n' q1 q2 X eT N
  exact ⟨s2, o, XS.idiv (X.here) hx rfl (hb hby hd) rfl hy st2, r⟩
theorem Ru.irem (C : Ru l Z own code maxL ret nm R n0 G W) {x y : Int32} (hd : decode code pc = .ok (.irem, 1)) (hp : pc + 1 = pc') (hy : y ≠ 0) (q : W h k n pc' Ls (.int (x % y) :: rest)) : W h k n pc Ls (.int y :: .int x :: rest) := by
  obtain ⟨p, e, s, m, args, below, meth, c, ⟨hx, hby, hml, hown, hZ, hre, hlk, hnm⟩, rfl⟩ := C
  subst hp
  intro T locs k' n' q1 q2 X eT N
  obtain ⟨s2, o, st2, r⟩ := q T locs k' n' q1 q2 X eT N
  exact ⟨s2, o, iremM (X) hx rfl (hb hby hd) rfl hy st2, r⟩
theorem Ru.ineg (C : Ru l Z own code maxL ret nm R n0 G W) {x : Int32} (hd : decode code pc = .ok (.ineg, 1)) (hp : pc + 1 = pc') (q : W h k n pc' Ls (.int (-x) :: rest)) : W h k n pc Ls (.int x :: rest) := by
  obtain ⟨p, e, s, m, args, below, meth, c, ⟨hx, hby, hml, hown, hZ, hre, hlk, hnm⟩, rfl⟩ := C
  subst hp
  intro T locs k' n' q1 q2 X eT N
  obtain ⟨s2, o, st2, r⟩ := q T locs k' n' q1 q2 X eT N
  exact ⟨s2, o, XS.ineg (X.here) hx rfl (hb hby hd) rfl st2, r⟩
theorem Ru.ladd (C : Ru l Z own code maxL ret nm R n0 G W) {x y : Int64} (hd : decode code pc = .ok (.ladd, 1)) (hp : pc + 1 = pc') (q : W h k n pc' Ls (.long (x + y) :: rest)) : W h k n pc Ls (.long y :: .long x :: rest) := by
  obtain ⟨p, e, s, m, args, below, meth, c, ⟨hx, hby, hml, hown, hZ, hre, hlk, hnm⟩, rfl⟩ := C
  subst hp
  intro T locs k' n' q1 q2 X eT N
  obtain ⟨s2, o, st2, r⟩ := q T locs k' n' q1 q2 X eT N
  exact ⟨s2, o, XT.ladd (X.here) hx rfl (hb hby hd) rfl st2, r⟩
theorem Ru.lsub (C : Ru l Z own code maxL ret nm R n0 G W) {x y : Int64} (hd : decode code pc = .ok (.lsub, 1)) (hp : pc + 1 = pc') (q : W h k n pc' Ls (.long (x - y) :: rest)) : W h k n pc Ls (.long y :: .long x :: rest) := by
  obtain ⟨p, e, s, m, args, below, meth, c, ⟨hx, hby, hml, hown, hZ, hre, hlk, hnm⟩, rfl⟩ := C
  subst hp
  intro T locs k' n' q1 q2 X eT N
  obtain ⟨s2, o, st2, r⟩ := q T locs k' n' q1 q2 X eT N
  exact ⟨s2, o, XT.lsub (X.here) hx rfl (hb hby hd) rfl st2, r⟩
theorem Ru.lmul (C : Ru l Z own code maxL ret nm R n0 G W) {x y : Int64} (hd : decode code pc = .ok (.lmul, 1)) (hp : pc + 1 = pc') (q : W h k n pc' Ls (.long (x * y) :: rest)) : W h k n pc Ls (.long y :: .long x :: rest) := by
  obtain ⟨p, e, s, m, args, below, meth, c, ⟨hx, hby, hml, hown, hZ, hre, hlk, hnm⟩, rfl⟩ := C
  subst hp
  intro T locs k' n' q1 q2 X eT N
  obtain ⟨s2, o, st2, r⟩ := q T locs k' n' q1 q2 X eT N
  exact ⟨s2, o, XT.lmul (X.here) hx rfl (hb hby hd) rfl st2, r⟩
theorem Ru.land (C : Ru l Z own code maxL ret nm R n0 G W) {x y : Int64} (hd : decode code pc = .ok (.land, 1)) (hp : pc + 1 = pc') (q : W h k n pc' Ls (.long (x &&& y) :: rest)) : W h k n pc Ls (.long y :: .long x :: rest) := by
  obtain ⟨p, e, s, m, args, below, meth, c, ⟨hx, hby, hml, hown, hZ, hre, hlk, hnm⟩, rfl⟩ := C
  subst hp
  intro T locs k' n' q1 q2 X eT N
  obtain ⟨s2, o, st2, r⟩ := q T locs k' n' q1 q2 X eT N
  exact ⟨s2, o, XT.land (X.here) hx rfl (hb hby hd) rfl st2, r⟩
theorem Ru.lor (C : Ru l Z own code maxL ret nm R n0 G W) {x y : Int64} (hd : decode code pc = .ok (.lor, 1)) (hp : pc + 1 = pc') (q : W h k n pc' Ls (.long (x ||| y) :: rest)) : W h k n pc Ls (.long y :: .long x :: rest) := by
  obtain ⟨p, e, s, m, args, below, meth, c, ⟨hx, hby, hml, hown, hZ, hre, hlk, hnm⟩, rfl⟩ := C
  subst hp
  intro T locs k' n' q1 q2 X eT N
  obtain ⟨s2, o, st2, r⟩ := q T locs k' n' q1 q2 X eT N
  exact ⟨s2, o, XT.lor (X.here) hx rfl (hb hby hd) rfl st2, r⟩
theorem Ru.lxor (C : Ru l Z own code maxL ret nm R n0 G W) {x y : Int64} (hd : decode code pc = .ok (.lxor, 1)) (hp : pc + 1 = pc') (q : W h k n pc' Ls (.long (x ^^^ y) :: rest)) : W h k n pc Ls (.long y :: .long x :: rest) := by
  obtain ⟨p, e, s, m, args, below, meth, c, ⟨hx, hby, hml, hown, hZ, hre, hlk, hnm⟩, rfl⟩ := C
  subst hp
  intro T locs k' n' q1 q2 X eT N
  obtain ⟨s2, o, st2, r⟩ := q T locs k' n' q1 q2 X eT N
  exact ⟨s2, o, XT.lxor (X.here) hx rfl (hb hby hd) rfl st2, r⟩
theorem Ru.ldiv (C : Ru l Z own code maxL ret nm R n0 G W) {x y : Int64} (hd : decode code pc = .ok (.ldiv, 1)) (hp : pc + 1 = pc') (hy : y ≠ 0) (q : W h k n pc' Ls (.long (x / y) :: rest)) : W h k n pc Ls (.long y :: .long x :: rest) := by
  obtain ⟨p, e, s, m, args, below, meth, c, ⟨hx, hby, hml, hown, hZ, hre, hlk, hnm⟩, rfl⟩ := C
  subst hp
  intro T locs k' n' q1 q2 X eT N
  obtain ⟨s2, o, st2, r⟩ := q T locs k' n' q1 q2 X eT N
  exact ⟨s2, o, XT.ldiv (X.here) hx rfl (hb hby hd) rfl hy st2, r⟩
theorem Ru.ishl (C : Ru l Z own code maxL ret nm R n0 G W) {x : Int32} {y : Int32} {s : Nat} (hd : decode code pc = .ok (.ishl, 1)) (hp : pc + 1 = pc') (hs : sh5 y = s) (q : W h k n pc' Ls (.int (shlI x s) :: rest)) : W h k n pc Ls (.int y :: .int x :: rest) := by
  obtain ⟨p, e, s', m, args, below, meth, c, ⟨hx, hby, hml, hown, hZ, hre, hlk, hnm⟩, rfl⟩ := C
  subst hp hs
  intro T locs k' n' q1 q2 X eT N
  obtain ⟨s2, o, st2, r⟩ := q T locs k' n' q1 q2 X eT N
  exact ⟨s2, o, XT.ishl X.here hx rfl (hb hby hd) rfl (by rw [ishl_eq]; exact st2), r⟩
theorem Ru.ishr (C : Ru l Z own code maxL ret nm R n0 G W) {x : Int32} {y : Int32} {s : Nat} (hd : decode code pc = .ok (.ishr, 1)) (hp : pc + 1 = pc') (hs : sh5 y = s) (q : W h k n pc' Ls (.int (sarI x s) :: rest)) : W h k n pc Ls (.int y :: .int x :: rest) := by
  obtain ⟨p, e, s', m, args, below, meth, c, ⟨hx, hby, hml, hown, hZ, hre, hlk, hnm⟩, rfl⟩ := C
  subst hp hs
  intro T locs k' n' q1 q2 X eT N
  obtain ⟨s2, o, st2, r⟩ := q T locs k' n' q1 q2 X eT N
  exact ⟨s2, o, XT.ishr X.here hx rfl (hb hby hd) rfl (by rw [ishr_eq]; exact st2), r⟩
theorem Ru.iushr (C : Ru l Z own code maxL ret nm R n0 G W) {x : Int32} {y : Int32} {s : Nat} (hd : decode code pc = .ok (.iushr, 1)) (hp : pc + 1 = pc') (hs : sh5 y = s) (q : W h k n pc' Ls (.int (shrI x s) :: rest)) : W h k n pc Ls (.int y :: .int x :: rest) := by
  obtain ⟨p, e, s', m, args, below, meth, c, ⟨hx, hby, hml, hown, hZ, hre, hlk, hnm⟩, rfl⟩ := C
  subst hp hs
  intro T locs k' n' q1 q2 X eT N
  obtain ⟨s2, o, st2, r⟩ := q T locs k' n' q1 q2 X eT N
  exact ⟨s2, o, XT.iushr X.here hx rfl (hb hby hd) rfl (by rw [iushr_eq]; exact st2), r⟩
theorem Ru.lshl (C : Ru l Z own code maxL ret nm R n0 G W) {x : Int64} {y : Int32} {s : Nat} (hd : decode code pc = .ok (.lshl, 1)) (hp : pc + 1 = pc') (hs : sh6 y = s) (q : W h k n pc' Ls (.long (shlL x s) :: rest)) : W h k n pc Ls (.int y :: .long x :: rest) := by
  obtain ⟨p, e, s', m, args, below, meth, c, ⟨hx, hby, hml, hown, hZ, hre, hlk, hnm⟩, rfl⟩ := C
  subst hp hs
  intro T locs k' n' q1 q2 X eT N
  obtain ⟨s2, o, st2, r⟩ := q T locs k' n' q1 q2 X eT N
  exact ⟨s2, o, XT.lshl X.here hx rfl (hb hby hd) rfl (by rw [lshl_eq]; exact st2), r⟩
theorem Ru.lshr (C : Ru l Z own code maxL ret nm R n0 G W) {x : Int64} {y : Int32} {s : Nat} (hd : decode code pc = .ok (.lshr, 1)) (hp : pc + 1 = pc') (hs : sh6 y = s) (q : W h k n pc' Ls (.long (sarL x s) :: rest)) : W h k n pc Ls (.int y :: .long x :: rest) := by
  obtain ⟨p, e, s', m, args, below, meth, c, ⟨hx, hby, hml, hown, hZ, hre, hlk, hnm⟩, rfl⟩ := C
  subst hp hs
  intro T locs k' n' q1 q2 X eT N
  obtain ⟨s2, o, st2, r⟩ := q T locs k' n' q1 q2 X eT N
  exact ⟨s2, o, XT.lshr X.here hx rfl (hb hby hd) rfl (by rw [lshr_eq]; exact st2), r⟩
theorem Ru.lushr (C : Ru l Z own code maxL ret nm R n0 G W) {x : Int64} {y : Int32} {s : Nat} (hd : decode code pc = .ok (.lushr, 1)) (hp : pc + 1 = pc') (hs : sh6 y = s) (q : W h k n pc' Ls (.long (shrL x s) :: rest)) : W h k n pc Ls (.int y :: .long x :: rest) := by
  obtain ⟨p, e, s', m, args, below, meth, c, ⟨hx, hby, hml, hown, hZ, hre, hlk, hnm⟩, rfl⟩ := C
  subst hp hs
  intro T locs k' n' q1 q2 X eT N
  obtain ⟨s2, o, st2, r⟩ := q T locs k' n' q1 q2 X eT N
  exact ⟨s2, o, XT.lushr X.here hx rfl (hb hby hd) rfl (by rw [lushr_eq]; exact st2), r⟩
theorem Ru.i2l (C : Ru l Z own code maxL ret nm R n0 G W) {x : Int32} (hd : decode code pc = .ok (.i2l, 1)) (hp : pc + 1 = pc') (q : W h k n pc' Ls (.long x.toInt64 :: rest)) : W h k n pc Ls (.int x :: rest) := by
  obtain ⟨p, e, s, m, args, below, meth, c, ⟨hx, hby, hml, hown, hZ, hre, hlk, hnm⟩, rfl⟩ := C
  subst hp
  intro T locs k' n' q1 q2 X eT N
  obtain ⟨s2, o, st2, r⟩ := q T locs k' n' q1 q2 X eT N
  exact ⟨s2, o, XT.i2l (X.here) hx rfl (hb hby hd) rfl st2, r⟩
theorem Ru.l2i (C : Ru l Z own code maxL ret nm R n0 G W) {x : Int64} (hd : decode code pc = .ok (.l2i, 1)) (hp : pc + 1 = pc') (q : W h k n pc' Ls (.int x.toInt32 :: rest)) : W h k n pc Ls (.long x :: rest) := by
  obtain ⟨p, e, s, m, args, below, meth, c, ⟨hx, hby, hml, hown, hZ, hre, hlk, hnm⟩, rfl⟩ := C
  subst hp
  intro T locs k' n' q1 q2 X eT N
  obtain ⟨s2, o, st2, r⟩ := q T locs k' n' q1 q2 X eT N
  exact ⟨s2, o, XT.l2i (X.here) hx rfl (hb hby hd) rfl st2, r⟩
theorem Ru.i2b (C : Ru l Z own code maxL ret nm R n0 G W) {x : Int32} (hd : decode code pc = .ok (.i2b, 1)) (hp : pc + 1 = pc') (q : W h k n pc' Ls (.int x.toInt8.toInt32 :: rest)) : W h k n pc Ls (.int x :: rest) := by
  obtain ⟨p, e, s, m, args, below, meth, c, ⟨hx, hby, hml, hown, hZ, hre, hlk, hnm⟩, rfl⟩ := C
  subst hp
  intro T locs k' n' q1 q2 X eT N
  obtain ⟨s2, o, st2, r⟩ := q T locs k' n' q1 q2 X eT N
  exact ⟨s2, o, XT.i2b (X.here) hx rfl (hb hby hd) rfl st2, r⟩
theorem Ru.iconst (C : Ru l Z own code maxL ret nm R n0 G W) {i : Int} {v : Int32} (hd : decode code pc = .ok (.iconst i, 1)) (hp : pc + 1 = pc') (hv : Int32.ofInt i = v) (q : W h k n pc' Ls (.int v :: st)) : W h k n pc Ls (st) := by
  obtain ⟨p, e, s, m, args, below, meth, c, ⟨hx, hby, hml, hown, hZ, hre, hlk, hnm⟩, rfl⟩ := C
  subst hp hv
  intro T locs k' n' q1 q2 X eT N
  obtain ⟨s2, o, st2, r⟩ := q T locs k' n' q1 q2 X eT N
  exact ⟨s2, o, XS.iconst (X.here) hx rfl (hb hby hd)  st2, r⟩
theorem Ru.bipush (C : Ru l Z own code maxL ret nm R n0 G W) {i : Int} {v : Int32} (hd : decode code pc = .ok (.bipush i, 2)) (hp : pc + 2 = pc') (hv : (Int8.ofInt i).toInt32 = v) (q : W h k n pc' Ls (.int v :: st)) : W h k n pc Ls (st) := by
  obtain ⟨p, e, s, m, args, below, meth, c, ⟨hx, hby, hml, hown, hZ, hre, hlk, hnm⟩, rfl⟩ := C
  subst hp hv
  intro T locs k' n' q1 q2 X eT N
  obtain ⟨s2, o, st2, r⟩ := q T locs k' n' q1 q2 X eT N
  exact ⟨s2, o, XS.bipush (X.here) hx rfl (hb hby hd)  st2, r⟩
theorem Ru.sipush (C : Ru l Z own code maxL ret nm R n0 G W) {i : Int} {v : Int32} (hd : decode code pc = .ok (.sipush i, 3)) (hp : pc + 3 = pc') (hv : (Int16.ofInt i).toInt32 = v) (q : W h k n pc' Ls (.int v :: st)) : W h k n pc Ls (st) := by
  obtain ⟨p, e, s, m, args, below, meth, c, ⟨hx, hby, hml, hown, hZ, hre, hlk, hnm⟩, rfl⟩ := C
  subst hp hv
  intro T locs k' n' q1 q2 X eT N
  obtain ⟨s2, o, st2, r⟩ := q T locs k' n' q1 q2 X eT N
  exact ⟨s2, o, XS.sipush (X.here) hx rfl (hb hby hd)  st2, r⟩
theorem Ru.lconst (C : Ru l Z own code maxL ret nm R n0 G W) {i : Fin 2} {v : Int64} (hd : decode code pc = .ok (.lconst i, 1)) (hp : pc + 1 = pc') (hv : Int64.ofNat i = v) (q : W h k n pc' Ls (.long v :: st)) : W h k n pc Ls (st) := by
  obtain ⟨p, e, s, m, args, below, meth, c, ⟨hx, hby, hml, hown, hZ, hre, hlk, hnm⟩, rfl⟩ := C
  subst hp hv
  intro T locs k' n' q1 q2 X eT N
  obtain ⟨s2, o, st2, r⟩ := q T locs k' n' q1 q2 X eT N
  exact ⟨s2, o, XT.lconst (X.here) hx rfl (hb hby hd)  st2, r⟩
theorem Ru.aconstNull (C : Ru l Z own code maxL ret nm R n0 G W)  (hd : decode code pc = .ok (.aconst_null, 1)) (hp : pc + 1 = pc') (q : W h k n pc' Ls (.null :: st)) : W h k n pc Ls (st) := by
  obtain ⟨p, e, s, m, args, below, meth, c, ⟨hx, hby, hml, hown, hZ, hre, hlk, hnm⟩, rfl⟩ := C
  subst hp
  intro T locs k' n' q1 q2 X eT N
  obtain ⟨s2, o, st2, r⟩ := q T locs k' n' q1 q2 X eT N
  exact ⟨s2, o, XS.aconstNull (X.here) hx rfl (hb hby hd)  st2, r⟩
theorem Ru.dup (C : Ru l Z own code maxL ret nm R n0 G W) {x : Value} (hd : decode code pc = .ok (.dup, 1)) (hp : pc + 1 = pc') (hc : x.category = 1) (q : W h k n pc' Ls (x :: x :: rest)) : W h k n pc Ls (x :: rest) := by
  obtain ⟨p, e, s, m, args, below, meth, c, ⟨hx, hby, hml, hown, hZ, hre, hlk, hnm⟩, rfl⟩ := C
  subst hp
  intro T locs k' n' q1 q2 X eT N
  obtain ⟨s2, o, st2, r⟩ := q T locs k' n' q1 q2 X eT N
  exact ⟨s2, o, XS.dup (X.here) hx rfl (hb hby hd) rfl hc st2, r⟩
theorem Ru.pop (C : Ru l Z own code maxL ret nm R n0 G W) {x : Value} (hd : decode code pc = .ok (.pop, 1)) (hp : pc + 1 = pc') (hc : x.category = 1) (q : W h k n pc' Ls (rest)) : W h k n pc Ls (x :: rest) := by
  obtain ⟨p, e, s, m, args, below, meth, c, ⟨hx, hby, hml, hown, hZ, hre, hlk, hnm⟩, rfl⟩ := C
  subst hp
  intro T locs k' n' q1 q2 X eT N
  obtain ⟨s2, o, st2, r⟩ := q T locs k' n' q1 q2 X eT N
  exact ⟨s2, o, XT.pop (X.here) hx rfl (hb hby hd) rfl hc st2, r⟩
theorem Ru.dup2 (C : Ru l Z own code maxL ret nm R n0 G W) {x y : Value} (hd : decode code pc = .ok (.dup2, 1)) (hp : pc + 1 = pc') (hc : x.category = 1) (hc' : y.category = 1) (q : W h k n pc' Ls (x :: y :: x :: y :: rest)) : W h k n pc Ls (x :: y :: rest) := by
  obtain ⟨p, e, s, m, args, below, meth, c, ⟨hx, hby, hml, hown, hZ, hre, hlk, hnm⟩, rfl⟩ := C
  subst hp
  intro T locs k' n' q1 q2 X eT N
  obtain ⟨s2, o, st2, r⟩ := q T locs k' n' q1 q2 X eT N
  exact ⟨s2, o, XT.dup2 (X.here) hx rfl (hb hby hd) rfl hc hc' st2, r⟩
theorem Ru.dup2L (C : Ru l Z own code maxL ret nm R n0 G W) {x : Int64} (hd : decode code pc = .ok (.dup2, 1)) (hp : pc + 1 = pc') (q : W h k n pc' Ls (.long x :: .long x :: rest)) : W h k n pc Ls (.long x :: rest) := by
  obtain ⟨p, e, s, m, args, below, meth, c, ⟨hx, hby, hml, hown, hZ, hre, hlk, hnm⟩, rfl⟩ := C
  subst hp
  intro T locs k' n' q1 q2 X eT N
  obtain ⟨s2, o, st2, r⟩ := q T locs k' n' q1 q2 X eT N
  exact ⟨s2, o, XT.dup2L (X.here) hx rfl (hb hby hd) rfl st2, r⟩
theorem Ru.dupX1 (C : Ru l Z own code maxL ret nm R n0 G W) {x y : Value} (hd : decode code pc = .ok (.dup_x1, 1)) (hp : pc + 1 = pc') (hc : x.category = 1) (hc' : y.category = 1) (q : W h k n pc' Ls (x :: y :: x :: rest)) : W h k n pc Ls (x :: y :: rest) := by
  obtain ⟨p, e, s, m, args, below, meth, c, ⟨hx, hby, hml, hown, hZ, hre, hlk, hnm⟩, rfl⟩ := C
  subst hp
  intro T locs k' n' q1 q2 X eT N
  obtain ⟨s2, o, st2, r⟩ := q T locs k' n' q1 q2 X eT N
  exact ⟨s2, o, XT.dupX1 (X.here) hx rfl (hb hby hd) rfl hc hc' st2, r⟩
theorem Ru.iload (C : Ru l Z own code maxL ret nm R n0 G W) {j : Nat} {v : Int32} (hd : decode code pc = .ok (.iload j, 2)) (hp : pc + 2 = pc') (hl : Ls[j]? = some (.val (.int v))) (q : W h k n pc' Ls (.int v :: st)) : W h k n pc Ls (st) := by
  obtain ⟨p, e, s, m, args, below, meth, c, ⟨hx, hby, hml, hown, hZ, hre, hlk, hnm⟩, rfl⟩ := C
  subst hp
  intro T locs k' n' q1 q2 X eT N
  obtain ⟨s2, o, st2, r⟩ := q T locs k' n' q1 q2 X eT N
  exact ⟨s2, o, XS.iload (X.here) hx rfl (hb hby hd) hl st2, r⟩
theorem Ru.iloadN (C : Ru l Z own code maxL ret nm R n0 G W) {j : Fin 4} {v : Int32} (hd : decode code pc = .ok (.iload_n j, 1)) (hp : pc + 1 = pc') (hl : Ls[j.val]? = some (.val (.int v))) (q : W h k n pc' Ls (.int v :: st)) : W h k n pc Ls (st) := by
  obtain ⟨p, e, s, m, args, below, meth, c, ⟨hx, hby, hml, hown, hZ, hre, hlk, hnm⟩, rfl⟩ := C
  subst hp
  intro T locs k' n' q1 q2 X eT N
  obtain ⟨s2, o, st2, r⟩ := q T locs k' n' q1 q2 X eT N
  exact ⟨s2, o, XS.iloadN (X.here) hx rfl (hb hby hd) hl st2, r⟩
theorem Ru.lload (C : Ru l Z own code maxL ret nm R n0 G W) {j : Nat} {v : Int64} (hd : decode code pc = .ok (.lload j, 2)) (hp : pc + 2 = pc') (hl : Ls[j]? = some (.val (.long v))) (q : W h k n pc' Ls (.long v :: st)) : W h k n pc Ls (st) := by
  obtain ⟨p, e, s, m, args, below, meth, c, ⟨hx, hby, hml, hown, hZ, hre, hlk, hnm⟩, rfl⟩ := C
  subst hp
  intro T locs k' n' q1 q2 X eT N
  obtain ⟨s2, o, st2, r⟩ := q T locs k' n' q1 q2 X eT N
  exact ⟨s2, o, XT.lload (X.here) hx rfl (hb hby hd) hl st2, r⟩
theorem Ru.lloadN (C : Ru l Z own code maxL ret nm R n0 G W) {j : Fin 4} {v : Int64} (hd : decode code pc = .ok (.lload_n j, 1)) (hp : pc + 1 = pc') (hl : Ls[j.val]? = some (.val (.long v))) (q : W h k n pc' Ls (.long v :: st)) : W h k n pc Ls (st) := by
  obtain ⟨p, e, s, m, args, below, meth, c, ⟨hx, hby, hml, hown, hZ, hre, hlk, hnm⟩, rfl⟩ := C
  subst hp
  intro T locs k' n' q1 q2 X eT N
  obtain ⟨s2, o, st2, r⟩ := q T locs k' n' q1 q2 X eT N
  exact ⟨s2, o, XT.lloadN (X.here) hx rfl (hb hby hd) hl st2, r⟩
theorem Ru.aload (C : Ru l Z own code maxL ret nm R n0 G W) {j : Nat} {v : Value} (hd : decode code pc = .ok (.aload j, 2)) (hp : pc + 2 = pc') (hl : Ls[j]? = some (.val v)) (hv : v.isRef = true) (q : W h k n pc' Ls (v :: st)) : W h k n pc Ls (st) := by
  obtain ⟨p, e, s, m, args, below, meth, c, ⟨hx, hby, hml, hown, hZ, hre, hlk, hnm⟩, rfl⟩ := C
  subst hp
  intro T locs k' n' q1 q2 X eT N
  obtain ⟨s2, o, st2, r⟩ := q T locs k' n' q1 q2 X eT N
  exact ⟨s2, o, XS.aload (X.here) hx rfl (hb hby hd) hl hv st2, r⟩
theorem Ru.aloadN (C : Ru l Z own code maxL ret nm R n0 G W) {j : Fin 4} {v : Value} (hd : decode code pc = .ok (.aload_n j, 1)) (hp : pc + 1 = pc') (hl : Ls[j.val]? = some (.val v)) (hv : v.isRef = true) (q : W h k n pc' Ls (v :: st)) : W h k n pc Ls (st) := by
  obtain ⟨p, e, s, m, args, below, meth, c, ⟨hx, hby, hml, hown, hZ, hre, hlk, hnm⟩, rfl⟩ := C
  subst hp
  intro T locs k' n' q1 q2 X eT N
  obtain ⟨s2, o, st2, r⟩ := q T locs k' n' q1 q2 X eT N
  exact ⟨s2, o, XS.aloadN (X.here) hx rfl (hb hby hd) hl hv st2, r⟩
theorem Ru.istoreX (C : Ru l Z own code maxL ret nm R n0 G W) {j : Nat} {x : Int32} {l' : Array Slot} (hd : decode code pc = .ok (.istore j, 2)) (hp : pc + 2 = pc') (hl : storeLocals Ls j (.int x) = some l') (q : W h k n pc' l' rest) : W h k n pc Ls (.int x :: rest) := by
  obtain ⟨p, e, s, m, args, below, meth, c, ⟨hx, hby, hml, hown, hZ, hre, hlk, hnm⟩, rfl⟩ := C
  subst hp
  intro T locs k' n' q1 q2 X eT N
  obtain ⟨s2, o, st2, r⟩ := q T locs k' n' q1 q2 X eT N
  exact ⟨s2, o, XS.istore X.here hx rfl (hb hby hd) rfl hl st2, r⟩
theorem Ru.istoreNX (C : Ru l Z own code maxL ret nm R n0 G W) {j : Fin 4} {x : Int32} {l' : Array Slot} (hd : decode code pc = .ok (.istore_n j, 1)) (hp : pc + 1 = pc') (hl : storeLocals Ls j.val (.int x) = some l') (q : W h k n pc' l' rest) : W h k n pc Ls (.int x :: rest) := by
  obtain ⟨p, e, s, m, args, below, meth, c, ⟨hx, hby, hml, hown, hZ, hre, hlk, hnm⟩, rfl⟩ := C
  subst hp
  intro T locs k' n' q1 q2 X eT N
  obtain ⟨s2, o, st2, r⟩ := q T locs k' n' q1 q2 X eT N
  exact ⟨s2, o, XS.istoreN X.here hx rfl (hb hby hd) rfl hl st2, r⟩
theorem Ru.lstoreX (C : Ru l Z own code maxL ret nm R n0 G W) {j : Nat} {x : Int64} {l' : Array Slot} (hd : decode code pc = .ok (.lstore j, 2)) (hp : pc + 2 = pc') (hl : storeLocals Ls j (.long x) = some l') (q : W h k n pc' l' rest) : W h k n pc Ls (.long x :: rest) := by
  obtain ⟨p, e, s, m, args, below, meth, c, ⟨hx, hby, hml, hown, hZ, hre, hlk, hnm⟩, rfl⟩ := C
  subst hp
  intro T locs k' n' q1 q2 X eT N
  obtain ⟨s2, o, st2, r⟩ := q T locs k' n' q1 q2 X eT N
  exact ⟨s2, o, XT.lstore X.here hx rfl (hb hby hd) rfl hl st2, r⟩
theorem Ru.lstoreNX (C : Ru l Z own code maxL ret nm R n0 G W) {j : Fin 4} {x : Int64} {l' : Array Slot} (hd : decode code pc = .ok (.lstore_n j, 1)) (hp : pc + 1 = pc') (hl : storeLocals Ls j.val (.long x) = some l') (q : W h k n pc' l' rest) : W h k n pc Ls (.long x :: rest) := by
  obtain ⟨p, e, s, m, args, below, meth, c, ⟨hx, hby, hml, hown, hZ, hre, hlk, hnm⟩, rfl⟩ := C
  subst hp
  intro T locs k' n' q1 q2 X eT N
  obtain ⟨s2, o, st2, r⟩ := q T locs k' n' q1 q2 X eT N
  exact ⟨s2, o, XT.lstoreN X.here hx rfl (hb hby hd) rfl hl st2, r⟩
theorem Ru.istore (C : Ru l Z own code maxL ret nm R n0 G W) {j : Nat} {x : Int32} {f : Int32 → Array Slot} (hd : decode code pc = .ok (.istore j, 2)) (hp : pc + 2 = pc') (hl : ∀ v, storeLocals Ls j (.int v) = some (f v)) (q : ∀ v, v = x → W h k n pc' (f v) rest) : W h k n pc Ls (.int x :: rest) := by
  obtain ⟨p, e, s, m, args, below, meth, c, ⟨hx, hby, hml, hown, hZ, hre, hlk, hnm⟩, rfl⟩ := C
  subst hp
  intro T locs k' n' q1 q2 X eT N
  obtain ⟨s2, o, st2, r⟩ := q x rfl T locs k' n' q1 q2 X eT N
  exact ⟨s2, o, XS.istore X.here hx rfl (hb hby hd) rfl (hl x) st2, r⟩
theorem Ru.istoreN (C : Ru l Z own code maxL ret nm R n0 G W) {j : Fin 4} {x : Int32} {f : Int32 → Array Slot} (hd : decode code pc = .ok (.istore_n j, 1)) (hp : pc + 1 = pc') (hl : ∀ v, storeLocals Ls j.val (.int v) = some (f v)) (q : ∀ v, v = x → W h k n pc' (f v) rest) : W h k n pc Ls (.int x :: rest) := by
  obtain ⟨p, e, s, m, args, below, meth, c, ⟨hx, hby, hml, hown, hZ, hre, hlk, hnm⟩, rfl⟩ := C
  subst hp
  intro T locs k' n' q1 q2 X eT N
  obtain ⟨s2, o, st2, r⟩ := q x rfl T locs k' n' q1 q2 X eT N
  exact ⟨s2, o, XS.istoreN X.here hx rfl (hb hby hd) rfl (hl x) st2, r⟩
theorem Ru.lstore (C : Ru l Z own code maxL ret nm R n0 G W) {j : Nat} {x : Int64} {f : Int64 → Array Slot} (hd : decode code pc = .ok (.lstore j, 2)) (hp : pc + 2 = pc') (hl : ∀ v, storeLocals Ls j (.long v) = some (f v)) (q : ∀ v, v = x → W h k n pc' (f v) rest) : W h k n pc Ls (.long x :: rest) := by
  obtain ⟨p, e, s, m, args, below, meth, c, ⟨hx, hby, hml, hown, hZ, hre, hlk, hnm⟩, rfl⟩ := C
  subst hp
  intro T locs k' n' q1 q2 X eT N
  obtain ⟨s2, o, st2, r⟩ := q x rfl T locs k' n' q1 q2 X eT N
  exact ⟨s2, o, XT.lstore X.here hx rfl (hb hby hd) rfl (hl x) st2, r⟩
theorem Ru.lstoreN (C : Ru l Z own code maxL ret nm R n0 G W) {j : Fin 4} {x : Int64} {f : Int64 → Array Slot} (hd : decode code pc = .ok (.lstore_n j, 1)) (hp : pc + 1 = pc') (hl : ∀ v, storeLocals Ls j.val (.long v) = some (f v)) (q : ∀ v, v = x → W h k n pc' (f v) rest) : W h k n pc Ls (.long x :: rest) := by
  obtain ⟨p, e, s, m, args, below, meth, c, ⟨hx, hby, hml, hown, hZ, hre, hlk, hnm⟩, rfl⟩ := C
  subst hp
  intro T locs k' n' q1 q2 X eT N
  obtain ⟨s2, o, st2, r⟩ := q x rfl T locs k' n' q1 q2 X eT N
  exact ⟨s2, o, XT.lstoreN X.here hx rfl (hb hby hd) rfl (hl x) st2, r⟩
theorem Ru.astore (C : Ru l Z own code maxL ret nm R n0 G W) {j : Nat} {x : Value} {l' : Array Slot} (hd : decode code pc = .ok (.astore j, 2)) (hp : pc + 2 = pc') (hv : x.isRef = true) (hl : storeLocals Ls j x = some l') (q : W h k n pc' l' rest) : W h k n pc Ls (x :: rest) := by
  obtain ⟨p, e, s, m, args, below, meth, c, ⟨hx, hby, hml, hown, hZ, hre, hlk, hnm⟩, rfl⟩ := C
  subst hp
  intro T locs k' n' q1 q2 X eT N
  obtain ⟨s2, o, st2, r⟩ := q T locs k' n' q1 q2 X eT N
  exact ⟨s2, o, XS.astore X.here hx rfl (hb hby hd) rfl hv hl st2, r⟩
theorem Ru.astoreN (C : Ru l Z own code maxL ret nm R n0 G W) {j : Fin 4} {x : Value} {l' : Array Slot} (hd : decode code pc = .ok (.astore_n j, 1)) (hp : pc + 1 = pc') (hv : x.isRef = true) (hl : storeLocals Ls j.val x = some l') (q : W h k n pc' l' rest) : W h k n pc Ls (x :: rest) := by
  obtain ⟨p, e, s, m, args, below, meth, c, ⟨hx, hby, hml, hown, hZ, hre, hlk, hnm⟩, rfl⟩ := C
  subst hp
  intro T locs k' n' q1 q2 X eT N
  obtain ⟨s2, o, st2, r⟩ := q T locs k' n' q1 q2 X eT N
  exact ⟨s2, o, XS.astoreN X.here hx rfl (hb hby hd) rfl hv hl st2, r⟩
theorem Ru.iinc (C : Ru l Z own code maxL ret nm R n0 G W) {j : Nat} {cst : Int} {x d : Int32} {f : Int32 → Array Slot} (hd : decode code pc = .ok (.iinc j cst, 3)) (hp : pc + 3 = pc') (hl : Ls[j]? = some (.val (.int x))) (hc : Int32.ofInt cst = d) (hl' : ∀ v, storeLocals Ls j (.int v) = some (f v)) (q : ∀ v, v = x + d → W h k n pc' (f v) st) : W h k n pc Ls st := by
  obtain ⟨p, e, s, m, args, below, meth, c, ⟨hx, hby, hml, hown, hZ, hre, hlk, hnm⟩, rfl⟩ := C
  subst hp hc
  intro T locs k' n' q1 q2 X eT N
  obtain ⟨s2, o, st2, r⟩ := q _ rfl T locs k' n' q1 q2 X eT N
  exact ⟨s2, o, XS.iinc X.here hx rfl (hb hby hd) hl (hl' _) st2, r⟩
theorem Ru.goto (C : Ru l Z own code maxL ret nm R n0 G W) {o : Int} (hd : decode code pc = .ok (.goto o, 3)) (hp : (pc : Int) + o = (pc' : Int)) (q : W h k n pc' Ls st) : W h k n pc Ls st := by
  obtain ⟨p, e, s, m, args, below, meth, c, ⟨hx, hby, hml, hown, hZ, hre, hlk, hnm⟩, rfl⟩ := C
  intro T locs k' n' q1 q2 X eT N
  obtain ⟨s2, o2, st2, r⟩ := q T locs k' n' q1 q2 X eT N
  exact ⟨s2, o2, XS.goto X.here hx rfl (pc0 := pc) (pc' := pc') rfl (hb hby hd) (by omega) (by omega) st2, r⟩
theorem Ru.ifAny (C : Ru l Z own code maxL ret nm R n0 G W) {cd : ClassFile.Cond} {o : Int} {x : Int32} {pt : Nat} (hd : decode code pc = .ok (.ifCond cd o, 3)) (hp : pc + 3 = pc') (ht : (pc : Int) + o = (pt : Int)) (q1 : ifCond.holds cd x = true → W h k n pt Ls rest) (q2 : ifCond.holds cd x = false → W h k n pc' Ls rest) : W h k n pc Ls (.int x :: rest) := by
  obtain ⟨p, e, s, m, args, below, meth, c, ⟨hx, hby, hml, hown, hZ, hre, hlk, hnm⟩, rfl⟩ := C
  subst hp
  intro T locs k' n' u1 u2 X eT N
  cases hc : ifCond.holds cd x
  · obtain ⟨s2, o2, st2, r⟩ := q2 hc T locs k' n' u1 u2 X eT N
    exact ⟨s2, o2, XS.ifNo X.here hx rfl (hb hby hd) rfl hc st2, r⟩
  · obtain ⟨s2, o2, st2, r⟩ := q1 hc T locs k' n' u1 u2 X eT N
    exact ⟨s2, o2, XS.ifYes X.here hx rfl (pc0 := pc) (pc' := pt) rfl (hb hby hd) rfl hc (by omega) (by omega) st2, r⟩
theorem Ru.icmpAny (C : Ru l Z own code maxL ret nm R n0 G W) {cd : ClassFile.Cond} {o : Int} {x y : Int32} {pt : Nat} (hd : decode code pc = .ok (.if_icmp cd o, 3)) (hp : pc + 3 = pc') (ht : (pc : Int) + o = (pt : Int)) (q1 : if_icmp.holds cd x y = true → W h k n pt Ls rest) (q2 : if_icmp.holds cd x y = false → W h k n pc' Ls rest) : W h k n pc Ls (.int y :: .int x :: rest) := by
  obtain ⟨p, e, s, m, args, below, meth, c, ⟨hx, hby, hml, hown, hZ, hre, hlk, hnm⟩, rfl⟩ := C
  subst hp
  intro T locs k' n' u1 u2 X eT N
  cases hc : if_icmp.holds cd x y
  · obtain ⟨s2, o2, st2, r⟩ := q2 hc T locs k' n' u1 u2 X eT N
    exact ⟨s2, o2, XS.icmpNo X.here hx rfl (hb hby hd) rfl hc st2, r⟩
  · obtain ⟨s2, o2, st2, r⟩ := q1 hc T locs k' n' u1 u2 X eT N
    exact ⟨s2, o2, XS.icmpYes X.here hx rfl (pc0 := pc) (pc' := pt) rfl (hb hby hd) rfl hc (by omega) (by omega) st2, r⟩
theorem Ru.lcmp (C : Ru l Z own code maxL ret nm R n0 G W) {x y : Int64} (hd : decode code pc = .ok (.lcmp, 1)) (hp : pc + 1 = pc') (q : W h k n pc' Ls (.int (XT.cmpL x y) :: rest)) : W h k n pc Ls (.long y :: .long x :: rest) := by
  obtain ⟨p, e, s, m, args, below, meth, c, ⟨hx, hby, hml, hown, hZ, hre, hlk, hnm⟩, rfl⟩ := C
  subst hp
  intro T locs k' n' q1 q2 X eT N
  obtain ⟨s2, o, st2, r⟩ := q T locs k' n' q1 q2 X eT N
  exact ⟨s2, o, XT.lcmp X.here hx rfl (hb hby hd) rfl st2, r⟩
theorem cmpL_lt (x y : Int64) : XT.cmpL x y < 0 ↔ x < y := by
  have e : XT.cmpL x y = lcmpV x y := by simp only [XT.cmpL, lcmpV]; split <;> simp_all
  rw [e]; exact lc_lt x y
theorem cmpL_gt (x y : Int64) : 0 < XT.cmpL x y ↔ y < x := by
  have e : XT.cmpL x y = lcmpV x y := by simp only [XT.cmpL, lcmpV]; split <;> simp_all
  rw [e]; exact lc_gt x y
theorem cmpL_eq (x y : Int64) : XT.cmpL x y = 0 ↔ x = y := by
  have e : XT.cmpL x y = lcmpV x y := by simp only [XT.cmpL, lcmpV]; split <;> simp_all
  rw [e]; exact lc_eq x y
theorem Ru.if_eq (C : Ru l Z own code maxL ret nm R n0 G W) {o : Int} {x : Int32} {pt : Nat} (hd : decode code pc = .ok (.ifCond .eq o, 3)) (hp : pc + 3 = pc') (ht : (pc : Int) + o = (pt : Int)) (q1 : x = 0 → W h k n pt Ls rest) (q2 : ¬ x = 0 → W h k n pc' Ls rest) : W h k n pc Ls (.int x :: rest) :=
  C.ifAny hd hp ht (fun q => q1 (by simpa [ifCond.holds] using q)) (fun q => q2 (by simpa [ifCond.holds] using q))
theorem Ru.icmp_eq (C : Ru l Z own code maxL ret nm R n0 G W) {o : Int} {x y : Int32} {pt : Nat} (hd : decode code pc = .ok (.if_icmp .eq o, 3)) (hp : pc + 3 = pc') (ht : (pc : Int) + o = (pt : Int)) (q1 : x = y → W h k n pt Ls rest) (q2 : ¬ x = y → W h k n pc' Ls rest) : W h k n pc Ls (.int y :: .int x :: rest) :=
  C.icmpAny hd hp ht (fun q => q1 (by simpa [if_icmp.holds] using q)) (fun q => q2 (by simpa [if_icmp.holds] using q))
theorem Ru.lif_eq (C : Ru l Z own code maxL ret nm R n0 G W) {o : Int} {x y : Int64} {pi pt : Nat} (hd : decode code pc = .ok (.lcmp, 1)) (hi : pc + 1 = pi) (hd2 : decode code pi = .ok (.ifCond .eq o, 3)) (hp : pi + 3 = pc') (ht : (pi : Int) + o = (pt : Int)) (q1 : x = y → W h k n pt Ls rest) (q2 : ¬ x = y → W h k n pc' Ls rest) : W h k n pc Ls (.long y :: .long x :: rest) :=
  C.lcmp hd hi (C.if_eq hd2 hp ht (fun q => q1 (by simpa only [cmpL_eq, cmpL_lt, cmpL_gt] using q)) (fun q => q2 (by simpa only [cmpL_eq, cmpL_lt, cmpL_gt] using q)))
theorem Ru.if_ne (C : Ru l Z own code maxL ret nm R n0 G W) {o : Int} {x : Int32} {pt : Nat} (hd : decode code pc = .ok (.ifCond .ne o, 3)) (hp : pc + 3 = pc') (ht : (pc : Int) + o = (pt : Int)) (q1 : ¬ x = 0 → W h k n pt Ls rest) (q2 : x = 0 → W h k n pc' Ls rest) : W h k n pc Ls (.int x :: rest) :=
  C.ifAny hd hp ht (fun q => q1 (by simpa [ifCond.holds] using q)) (fun q => q2 (by simpa [ifCond.holds] using q))
theorem Ru.icmp_ne (C : Ru l Z own code maxL ret nm R n0 G W) {o : Int} {x y : Int32} {pt : Nat} (hd : decode code pc = .ok (.if_icmp .ne o, 3)) (hp : pc + 3 = pc') (ht : (pc : Int) + o = (pt : Int)) (q1 : ¬ x = y → W h k n pt Ls rest) (q2 : x = y → W h k n pc' Ls rest) : W h k n pc Ls (.int y :: .int x :: rest) :=
  C.icmpAny hd hp ht (fun q => q1 (by simpa [if_icmp.holds] using q)) (fun q => q2 (by simpa [if_icmp.holds] using q))
theorem Ru.lif_ne (C : Ru l Z own code maxL ret nm R n0 G W) {o : Int} {x y : Int64} {pi pt : Nat} (hd : decode code pc = .ok (.lcmp, 1)) (hi : pc + 1 = pi) (hd2 : decode code pi = .ok (.ifCond .ne o, 3)) (hp : pi + 3 = pc') (ht : (pi : Int) + o = (pt : Int)) (q1 : ¬ x = y → W h k n pt Ls rest) (q2 : x = y → W h k n pc' Ls rest) : W h k n pc Ls (.long y :: .long x :: rest) :=
  C.lcmp hd hi (C.if_ne hd2 hp ht (fun q => q1 (by simpa only [cmpL_eq, cmpL_lt, cmpL_gt] using q)) (fun q => q2 (by simpa only [cmpL_eq, cmpL_lt, cmpL_gt] using q)))
theorem Ru.if_lt (C : Ru l Z own code maxL ret nm R n0 G W) {o : Int} {x : Int32} {pt : Nat} (hd : decode code pc = .ok (.ifCond .lt o, 3)) (hp : pc + 3 = pc') (ht : (pc : Int) + o = (pt : Int)) (q1 : x < 0 → W h k n pt Ls rest) (q2 : ¬ x < 0 → W h k n pc' Ls rest) : W h k n pc Ls (.int x :: rest) :=
  C.ifAny hd hp ht (fun q => q1 (by simpa [ifCond.holds] using q)) (fun q => q2 (by simpa [ifCond.holds] using q))
theorem Ru.icmp_lt (C : Ru l Z own code maxL ret nm R n0 G W) {o : Int} {x y : Int32} {pt : Nat} (hd : decode code pc = .ok (.if_icmp .lt o, 3)) (hp : pc + 3 = pc') (ht : (pc : Int) + o = (pt : Int)) (q1 : x < y → W h k n pt Ls rest) (q2 : ¬ x < y → W h k n pc' Ls rest) : W h k n pc Ls (.int y :: .int x :: rest) :=
  C.icmpAny hd hp ht (fun q => q1 (by simpa [if_icmp.holds] using q)) (fun q => q2 (by simpa [if_icmp.holds] using q))
theorem Ru.lif_lt (C : Ru l Z own code maxL ret nm R n0 G W) {o : Int} {x y : Int64} {pi pt : Nat} (hd : decode code pc = .ok (.lcmp, 1)) (hi : pc + 1 = pi) (hd2 : decode code pi = .ok (.ifCond .lt o, 3)) (hp : pi + 3 = pc') (ht : (pi : Int) + o = (pt : Int)) (q1 : x < y → W h k n pt Ls rest) (q2 : ¬ x < y → W h k n pc' Ls rest) : W h k n pc Ls (.long y :: .long x :: rest) :=
  C.lcmp hd hi (C.if_lt hd2 hp ht (fun q => q1 (by simpa only [cmpL_eq, cmpL_lt, cmpL_gt] using q)) (fun q => q2 (by simpa only [cmpL_eq, cmpL_lt, cmpL_gt] using q)))
theorem Ru.if_ge (C : Ru l Z own code maxL ret nm R n0 G W) {o : Int} {x : Int32} {pt : Nat} (hd : decode code pc = .ok (.ifCond .ge o, 3)) (hp : pc + 3 = pc') (ht : (pc : Int) + o = (pt : Int)) (q1 : ¬ x < 0 → W h k n pt Ls rest) (q2 : x < 0 → W h k n pc' Ls rest) : W h k n pc Ls (.int x :: rest) :=
  C.ifAny hd hp ht (fun q => q1 (by simpa [ifCond.holds] using q)) (fun q => q2 (by simpa [ifCond.holds] using q))
theorem Ru.icmp_ge (C : Ru l Z own code maxL ret nm R n0 G W) {o : Int} {x y : Int32} {pt : Nat} (hd : decode code pc = .ok (.if_icmp .ge o, 3)) (hp : pc + 3 = pc') (ht : (pc : Int) + o = (pt : Int)) (q1 : ¬ x < y → W h k n pt Ls rest) (q2 : x < y → W h k n pc' Ls rest) : W h k n pc Ls (.int y :: .int x :: rest) :=
  C.icmpAny hd hp ht (fun q => q1 (by simpa [if_icmp.holds] using q)) (fun q => q2 (by simpa [if_icmp.holds] using q))
theorem Ru.lif_ge (C : Ru l Z own code maxL ret nm R n0 G W) {o : Int} {x y : Int64} {pi pt : Nat} (hd : decode code pc = .ok (.lcmp, 1)) (hi : pc + 1 = pi) (hd2 : decode code pi = .ok (.ifCond .ge o, 3)) (hp : pi + 3 = pc') (ht : (pi : Int) + o = (pt : Int)) (q1 : ¬ x < y → W h k n pt Ls rest) (q2 : x < y → W h k n pc' Ls rest) : W h k n pc Ls (.long y :: .long x :: rest) :=
  C.lcmp hd hi (C.if_ge hd2 hp ht (fun q => q1 (by simpa only [cmpL_eq, cmpL_lt, cmpL_gt] using q)) (fun q => q2 (by simpa only [cmpL_eq, cmpL_lt, cmpL_gt] using q)))
theorem Ru.if_gt (C : Ru l Z own code maxL ret nm R n0 G W) {o : Int} {x : Int32} {pt : Nat} (hd : decode code pc = .ok (.ifCond .gt o, 3)) (hp : pc + 3 = pc') (ht : (pc : Int) + o = (pt : Int)) (q1 : 0 < x → W h k n pt Ls rest) (q2 : ¬ 0 < x → W h k n pc' Ls rest) : W h k n pc Ls (.int x :: rest) :=
  C.ifAny hd hp ht (fun q => q1 (by simpa [ifCond.holds] using q)) (fun q => q2 (by simpa [ifCond.holds] using q))
theorem Ru.icmp_gt (C : Ru l Z own code maxL ret nm R n0 G W) {o : Int} {x y : Int32} {pt : Nat} (hd : decode code pc = .ok (.if_icmp .gt o, 3)) (hp : pc + 3 = pc') (ht : (pc : Int) + o = (pt : Int)) (q1 : y < x → W h k n pt Ls rest) (q2 : ¬ y < x → W h k n pc' Ls rest) : W h k n pc Ls (.int y :: .int x :: rest) :=
  C.icmpAny hd hp ht (fun q => q1 (by simpa [if_icmp.holds] using q)) (fun q => q2 (by simpa [if_icmp.holds] using q))
theorem Ru.lif_gt (C : Ru l Z own code maxL ret nm R n0 G W) {o : Int} {x y : Int64} {pi pt : Nat} (hd : decode code pc = .ok (.lcmp, 1)) (hi : pc + 1 = pi) (hd2 : decode code pi = .ok (.ifCond .gt o, 3)) (hp : pi + 3 = pc') (ht : (pi : Int) + o = (pt : Int)) (q1 : y < x → W h k n pt Ls rest) (q2 : ¬ y < x → W h k n pc' Ls rest) : W h k n pc Ls (.long y :: .long x :: rest) :=
  C.lcmp hd hi (C.if_gt hd2 hp ht (fun q => q1 (by simpa only [cmpL_eq, cmpL_lt, cmpL_gt] using q)) (fun q => q2 (by simpa only [cmpL_eq, cmpL_lt, cmpL_gt] using q)))
theorem Ru.if_le (C : Ru l Z own code maxL ret nm R n0 G W) {o : Int} {x : Int32} {pt : Nat} (hd : decode code pc = .ok (.ifCond .le o, 3)) (hp : pc + 3 = pc') (ht : (pc : Int) + o = (pt : Int)) (q1 : ¬ 0 < x → W h k n pt Ls rest) (q2 : 0 < x → W h k n pc' Ls rest) : W h k n pc Ls (.int x :: rest) :=
  C.ifAny hd hp ht (fun q => q1 (by simpa [ifCond.holds] using q)) (fun q => q2 (by simpa [ifCond.holds] using q))
theorem Ru.icmp_le (C : Ru l Z own code maxL ret nm R n0 G W) {o : Int} {x y : Int32} {pt : Nat} (hd : decode code pc = .ok (.if_icmp .le o, 3)) (hp : pc + 3 = pc') (ht : (pc : Int) + o = (pt : Int)) (q1 : ¬ y < x → W h k n pt Ls rest) (q2 : y < x → W h k n pc' Ls rest) : W h k n pc Ls (.int y :: .int x :: rest) :=
  C.icmpAny hd hp ht (fun q => q1 (by simpa [if_icmp.holds] using q)) (fun q => q2 (by simpa [if_icmp.holds] using q))
theorem Ru.lif_le (C : Ru l Z own code maxL ret nm R n0 G W) {o : Int} {x y : Int64} {pi pt : Nat} (hd : decode code pc = .ok (.lcmp, 1)) (hi : pc + 1 = pi) (hd2 : decode code pi = .ok (.ifCond .le o, 3)) (hp : pi + 3 = pc') (ht : (pi : Int) + o = (pt : Int)) (q1 : ¬ y < x → W h k n pt Ls rest) (q2 : y < x → W h k n pc' Ls rest) : W h k n pc Ls (.long y :: .long x :: rest) :=
  C.lcmp hd hi (C.if_le hd2 hp ht (fun q => q1 (by simpa only [cmpL_eq, cmpL_lt, cmpL_gt] using q)) (fun q => q2 (by simpa only [cmpL_eq, cmpL_lt, cmpL_gt] using q)))
theorem Ru.ifnullYes (C : Ru l Z own code maxL ret nm R n0 G W) {o : Int}  (hd : decode code pc = .ok (.ifnull o, 3)) (hp : (pc : Int) + o = (pc' : Int)) (q : W h k n pc' Ls rest) : W h k n pc Ls (.null :: rest) := by
  obtain ⟨p, e, s, m, args, below, meth, c, ⟨hx, hby, hml, hown, hZ, hre, hlk, hnm⟩, rfl⟩ := C
  intro T locs k' n' q1 q2 X eT N
  obtain ⟨s2, o2, st2, r⟩ := q T locs k' n' q1 q2 X eT N
  exact ⟨s2, o2, XS.ifnullYes X.here hx rfl (pc0 := pc) (pc' := pc') rfl (hb hby hd) rfl (by omega) (by omega) st2, r⟩
theorem Ru.ifnullNo (C : Ru l Z own code maxL ret nm R n0 G W) {o : Int} {b : Addr} (hd : decode code pc = .ok (.ifnull o, 3)) (hp : pc + 3 = pc') (q : W h k n pc' Ls rest) : W h k n pc Ls (.ref b :: rest) := by
  obtain ⟨p, e, s, m, args, below, meth, c, ⟨hx, hby, hml, hown, hZ, hre, hlk, hnm⟩, rfl⟩ := C
  subst hp
  intro T locs k' n' q1 q2 X eT N
  obtain ⟨s2, o2, st2, r⟩ := q T locs k' n' q1 q2 X eT N
  exact ⟨s2, o2, XS.ifnullNo X.here hx rfl (hb hby hd) rfl st2, r⟩
theorem Ru.ifnonnullYes (C : Ru l Z own code maxL ret nm R n0 G W) {o : Int} {b : Addr} (hd : decode code pc = .ok (.ifnonnull o, 3)) (hp : (pc : Int) + o = (pc' : Int)) (q : W h k n pc' Ls rest) : W h k n pc Ls (.ref b :: rest) := by
  obtain ⟨p, e, s, m, args, below, meth, c, ⟨hx, hby, hml, hown, hZ, hre, hlk, hnm⟩, rfl⟩ := C
  intro T locs k' n' q1 q2 X eT N
  obtain ⟨s2, o2, st2, r⟩ := q T locs k' n' q1 q2 X eT N
  exact ⟨s2, o2, XT.ifnonnullYes X.here hx rfl (pc0 := pc) (pc' := pc') rfl (hb hby hd) rfl (by omega) (by omega) st2, r⟩
theorem Ru.ifnonnullNo (C : Ru l Z own code maxL ret nm R n0 G W) {o : Int}  (hd : decode code pc = .ok (.ifnonnull o, 3)) (hp : pc + 3 = pc') (q : W h k n pc' Ls rest) : W h k n pc Ls (.null :: rest) := by
  obtain ⟨p, e, s, m, args, below, meth, c, ⟨hx, hby, hml, hown, hZ, hre, hlk, hnm⟩, rfl⟩ := C
  subst hp
  intro T locs k' n' q1 q2 X eT N
  obtain ⟨s2, o2, st2, r⟩ := q T locs k' n' q1 q2 X eT N
  exact ⟨s2, o2, XT.ifnonnullNo X.here hx rfl (hb hby hd) rfl st2, r⟩
theorem lrem_eq (x y : Int64) : x - (x / y) * y = x % y := lrem_mod x y
theorem Ru.lrem (C : Ru l Z own code maxL ret nm R n0 G W) {x y : Int64} (hd : decode code pc = .ok (.lrem, 1)) (hp : pc + 1 = pc') (hy : y ≠ 0) (q : W h k n pc' Ls (.long (x % y) :: rest)) : W h k n pc Ls (.long y :: .long x :: rest) := by
  obtain ⟨p, e, s, m, args, below, meth, c, ⟨hx, hby, hml, hown, hZ, hre, hlk, hnm⟩, rfl⟩ := C
  subst hp
  intro T locs k' n' q1 q2 X eT N
  obtain ⟨s2, o, st2, r⟩ := q T locs k' n' q1 q2 X eT N
  exact ⟨s2, o, XT.lrem X.here hx rfl (hb hby hd) rfl hy (by rw [lrem_mod]; exact st2), r⟩
theorem Ru.ldcI (C : Ru l Z own code maxL ret nm R n0 G W) {a0 : Array Value} {i : Nat} {v : Int32} (w : (Cond.constant own i v).before a0 Z = true) (hd : decode code pc = .ok (.ldc i, 2)) (hp : pc + 2 = pc') (q : W h k n pc' Ls (.int v :: st)) : W h k n pc Ls st := by
  obtain ⟨p, e, s, m, args, below, meth, c, ⟨hx, hby, hml, hown, hZ, hre, hlk, hnm⟩, rfl⟩ := C
  subst hp
  intro T locs k' n' q1 q2 X eT N
  obtain ⟨s2, o, st2, r⟩ := q T locs k' n' q1 q2 X eT N
  exact ⟨s2, o, X.ldcInt hx hown (mvT hZ w) (g := mkF m pc Ls st) rfl (hb hby hd) _ st2, r⟩
theorem Ru.ldcJ (C : Ru l Z own code maxL ret nm R n0 G W) {a0 : Array Value} {i : Nat} {v : Int64} (w : (Cond.constantLong own i v).before a0 Z = true) (hd : decode code pc = .ok (.ldc2_w i, 3)) (hp : pc + 3 = pc') (q : W h k n pc' Ls (.long v :: st)) : W h k n pc Ls st := by
  obtain ⟨p, e, s, m, args, below, meth, c, ⟨hx, hby, hml, hown, hZ, hre, hlk, hnm⟩, rfl⟩ := C
  subst hp
  intro T locs k' n' q1 q2 X eT N
  obtain ⟨s2, o, st2, r⟩ := q T locs k' n' q1 q2 X eT N
  exact ⟨s2, o, X.ldc2Long hx hown (mvT hZ w) (g := mkF m pc Ls st) rfl (hb hby hd) _ st2, r⟩
/-! the heap -/
theorem Ru.getf (C : Ru l Z own code maxL ret nm R n0 G W) {a0 : Array Value} {R0 O f d : String} {i : Nat} {a : Addr} {v : Value} (w : (Cond.fieldLink own i R0 f d).before a0 Z = true) (via : Via Z R0 O f d) (F : Fld Z h a O f d v) (hd : decode code pc = .ok (.getfield i, 3)) (hp : pc + 3 = pc') (q : W h k n pc' Ls (v :: rest)) : W h k n pc Ls (.ref a :: rest) := by
  obtain ⟨p, e, s, m, args, below, meth, c, ⟨hx, hby, hml, hown, hZ, hre, hlk, hnm⟩, rfl⟩ := C
  subst hp
  intro T locs k' n' q1 q2 X eT N
  obtain ⟨T', X', e', st'⟩ := getF X hx hZ hown (host := "") (Or.inl w) via eT F (g := mkF m pc Ls (.ref a :: rest)) rfl rfl (hb hby hd)
  obtain ⟨s2, o, st2, r⟩ := q T' locs k' n' q1 q2 X' e' N
  exact ⟨s2, o, st' _ st2, r⟩
theorem Ru.gets (C : Ru l Z own code maxL ret nm R n0 G W) {a0 : Array Value} {R0 O f d : String} {i : Nat} {v : Value} (w : (Cond.fieldLink own i R0 f d).before a0 Z = true) (via : Via Z R0 O f d) (F : Sta Z h O f d v) (hd : decode code pc = .ok (.getstatic i, 3)) (hp : pc + 3 = pc') (q : W h k n pc' Ls (v :: st)) : W h k n pc Ls st := by
  obtain ⟨p, e, s, m, args, below, meth, c, ⟨hx, hby, hml, hown, hZ, hre, hlk, hnm⟩, rfl⟩ := C
  subst hp
  intro T locs k' n' q1 q2 X eT N
  obtain ⟨T', X', e', st'⟩ := getS X hx hZ (host := "") hown w via eT F (g := mkF m pc Ls st) rfl (hb hby hd)
  obtain ⟨s2, o, st2, r⟩ := q T' locs k' n' q1 q2 X' e' N
  exact ⟨s2, o, st' _ st2, r⟩
theorem Ru.putf (C : Ru l Z own code maxL ret nm R n0 G W) {a0 : Array Value} {R0 O f d D : String} {i kk : Nat} {ty : FieldType} {a : Addr} {v old : Value} (w : (Cond.fieldLink own i R0 f d).before a0 Z = true) (via : Via Z R0 O f d) (F : Fld Z h a O f d old) (E : Exa Z h a D)
    (L : (Cond.lays D O f d).before a0 Z = true ∨ ((Cond.laysFinal D O f d).before a0 Z = true ∧ own = O ∧ nm = "<init>")) (wi : (Cond.instantiable D kk).before a0 Z = true) (hty : parseFieldDescriptor d = some ty) (hn : narrow ty v = v) (hf : fits ty v = true) (hg : n0 ≤ a)
    (hd : decode code pc = .ok (.putfield i, 3)) (hp : pc + 3 = pc') (q : ∀ h', Wr h h' a (Jvm.RoadKit.slotOf Z O f d) v → W h' k n pc' Ls rest) : W h k n pc Ls (v :: .ref a :: rest) := by
  obtain ⟨p, e, s, m, args, below, meth, c, ⟨hx, hby, hml, hown, hZ, hre, hlk, hnm⟩, rfl⟩ := C
  subst hp
  intro T locs k' n' q1 q2 X eT N
  obtain ⟨T', h', X', e', W', st'⟩ := putF X hx hZ hown (host := "") (Or.inl w) via eT F E (L.imp id fun u => ⟨u.1, u.2.1, hnm.trans u.2.2⟩) wi hty hn hf (g := mkF m pc Ls (v :: .ref a :: rest)) rfl rfl (hb hby hd)
  obtain ⟨s2, o, st2, r⟩ := q h' W' T' _ k' n' q1 q2 X' e' (Fr.snoc X' N hg)
  exact ⟨s2, o, st' _ st2, r⟩
theorem Ru.putfN (C : Ru l Z own code maxL ret nm R n0 G W) {a0 : Array Value} {R0 O f d D : String} {i kk : Nat} {ty : FieldType} {a : Addr} {v v' old : Value} (w : (Cond.fieldLink own i R0 f d).before a0 Z = true) (via : Via Z R0 O f d) (F : Fld Z h a O f d old) (E : Exa Z h a D)
    (L : (Cond.lays D O f d).before a0 Z = true ∨ ((Cond.laysFinal D O f d).before a0 Z = true ∧ own = O ∧ nm = "<init>")) (wi : (Cond.instantiable D kk).before a0 Z = true) (hty : parseFieldDescriptor d = some ty) (hn : narrow ty v = v') (hf : fits ty v' = true) (hg : n0 ≤ a)
    (hd : decode code pc = .ok (.putfield i, 3)) (hp : pc + 3 = pc') (q : ∀ h', Wr h h' a (Jvm.RoadKit.slotOf Z O f d) v' → W h' k n pc' Ls rest) : W h k n pc Ls (v :: .ref a :: rest) := by
  obtain ⟨p, e, s, m, args, below, meth, c, ⟨hx, hby, hml, hown, hZ, hre, hlk, hnm⟩, rfl⟩ := C
  subst hp
  intro T locs k' n' q1 q2 X eT N
  obtain ⟨T', h', X', e', W', st'⟩ := putFN X hx hZ hown w via eT F E (L.imp id fun u => ⟨u.1, u.2.1, hnm.trans u.2.2⟩) wi hty hn hf (g := mkF m pc Ls (v :: .ref a :: rest)) rfl rfl (hb hby hd)
  obtain ⟨s2, o, st2, r⟩ := q h' W' T' _ k' n' q1 q2 X' e' (Fr.snoc X' N hg)
  exact ⟨s2, o, st' _ st2, r⟩
theorem Ru.new (C : Ru l Z own code maxL ret nm R n0 G W) {a0 : Array Value} {D : String} {i sl : Nat} (w : (Cond.classLink own i D).before a0 Z = true) (wi : (Cond.instantiable D sl).before a0 Z = true) (wz : (Cond.initialized D).before a0 Z = true)
    (hd : decode code pc = .ok (.new i, 3)) (hp : pc + 3 = pc') (hk : k + 1 ≤ R.cells) (hn : n + sl ≤ R.slots)
    (q : ∀ h' b, b = h.size → Ext h h' → Exa Z h' b D → (∀ {O nm d : String} {ty : FieldType}, Laid Z a0 D O nm d → parseFieldDescriptor d = some ty → Fld Z h' b O nm d (defaultValue ty)) → W h' (k + 1) (n + sl) pc' Ls (.ref b :: st)) : W h k n pc Ls st := by
  obtain ⟨p, e, s, m, args, below, meth, c, ⟨hx, hby, hml, hown, hZ, hre, hlk, hnm⟩, rfl⟩ := C
  subst hp
  intro T locs k' n' q1 q2 X eT N
  obtain ⟨T', h', X', e', E', A', D', -, st'⟩ := newO X hx hZ hown w wi wz eT (g := mkF m pc Ls st) rfl (hb hby hd) (by omega) (by omega)
  obtain ⟨s2, o, st2, r⟩ := q h' _ rfl E' A' D' T' locs (k' + 1) (n' + sl) (by omega) (by omega) X' e' N
  exact ⟨s2, o, st' _ st2, r⟩
/-- an int array with just these elements -/
def AI (Z : State) (h : Heap) (a : Addr) (vs : List Int32) : Prop := ∃ c : Cell, Arr Z h a c .int ∧ c.slots = (vs.map Value.int).toArray ∧ vs.length < 2 ^ 31
def AJ (Z : State) (h : Heap) (a : Addr) (vs : List Int64) : Prop := ∃ c : Cell, Arr Z h a c .long ∧ c.slots = (vs.map Value.long).toArray ∧ vs.length < 2 ^ 31
/-- a byte array of this length -/
def AB (Z : State) (h : Heap) (a : Addr) (z : Nat) : Prop := ∃ c : Cell, Arr Z h a c .byte ∧ c.slots.size = z ∧ z < 2 ^ 31
theorem AI.lt {Z : State} {h : Heap} {a : Addr} {vs : List Int32} (F : AI Z h a vs) : a < h.size := by obtain ⟨c, A, -⟩ := F; exact A.lt
theorem AI.ext {Z : State} {h h' : Heap} {a : Addr} {vs : List Int32} (F : AI Z h a vs) (E : Ext h h') : AI Z h' a vs := by obtain ⟨c, A, r⟩ := F; exact ⟨c, A.ext E, r⟩
theorem AI.other {Z : State} {h h' : Heap} {a b : Addr} {sl : Nat} {v : Value} {vs : List Int32} (F : AI Z h b vs) (W : Wr h h' a sl v) (q : b ≠ a) : AI Z h' b vs := by obtain ⟨c, A, r⟩ := F; exact ⟨c, A.other W q, r⟩
theorem AI.keep {Z : State} {h h' : Heap} {a : Addr} {ws : List Addr} {vs : List Int32} (F : AI Z h a vs) (K : Keep h h' ws) (q : a ∉ ws) : AI Z h' a vs := by obtain ⟨c, A, r⟩ := F; exact ⟨c, ⟨K.2.1 a c A.1 q, A.2⟩, r⟩
theorem AI.set {Z : State} {h h' : Heap} {a : Addr} {j : Nat} {v : Int32} {vs : List Int32} (F : AI Z h a vs) (W : Wr h h' a j (.int v)) : AI Z h' a (vs.set j v) := by
  obtain ⟨c, A, e, r⟩ := F
  refine ⟨_, A.same W, ?_, by rw [List.length_set]; exact r⟩
  have q : (c.setSlot j (.int v)).slots = c.slots.setIfInBounds j (.int v) := rfl
  rw [q, e]
  apply Array.ext'
  simp [List.map_set]
theorem Ru.newAI (C : Ru l Z own code maxL ret nm R n0 G W) {a0 : Array Value} {z : Int32} {N cap : Nat} (w : (Cond.arrayClass .int).before a0 Z = true) (hd : decode code pc = .ok (.newarray .int, 2)) (hp : pc + 2 = pc') (hz : z.toInt = (N : Int)) (hcap : N ≤ cap) (hb8 : cap * 8 ≤ 536870912) (hk : k + 1 ≤ R.cells) (hn : n + cap ≤ R.slots)
    (q : ∀ h' b, b = h.size → Ext h h' → AI Z h' b (List.replicate N 0) → W h' (k + 1) (n + cap) pc' Ls (.ref b :: rest)) : W h k n pc Ls (.int z :: rest) := by
  obtain ⟨p, e, s, m, args, below, meth, c, ⟨hx, hby, hml, hown, hZ, hre, hlk, hnm⟩, rfl⟩ := C
  subst hp
  intro T locs k' n' q1 q2 X eT Nf
  have hnn : ¬ z < 0 := by rw [Int32.lt_iff_toInt_lt]; show ¬ z.toInt < 0; omega
  have hzn : z.toNatClampNeg = N := by show z.toInt.toNat = N; omega
  have hlt : N < 2 ^ 31 := by have := (rng32 z).2; omega
  obtain ⟨T', h', cA, X', e', E', A', st'⟩ := newP X hx hZ (aty := .int) w eT (g := mkF m pc Ls (.int z :: rest)) rfl (hb hby hd) rfl hnn (cap := cap) (by omega) hb8 (by omega) (by omega)
  have F : AI Z h' h.size (List.replicate N 0) := by
    refine ⟨_, A', ?_, by rw [List.length_replicate]; exact hlt⟩
    simp only [newA, hzn]
    apply Array.ext'
    simp [defaultValue, newarray.typeOf]
  obtain ⟨s2, o, st2, r⟩ := q h' _ rfl E' F T' locs (k' + 1) (n' + cap) (by omega) (by omega) X' e' Nf
  exact ⟨s2, o, st' _ st2, r⟩
theorem Ru.ldAI (C : Ru l Z own code maxL ret nm R n0 G W) {a : Addr} {j : Int32} {i : Nat} {v : Int32} {vs : List Int32} (F : AI Z h a vs) (hj : j.toInt = (i : Int)) (hv : vs[i]? = some v) (hd : decode code pc = .ok (.iaload, 1)) (hp : pc + 1 = pc') (q : W h k n pc' Ls (.int v :: rest)) : W h k n pc Ls (.int j :: .ref a :: rest) := by
  obtain ⟨p, e, s, m, args, below, meth, c, ⟨hx, hby, hml, hown, hZ, hre, hlk, hnm⟩, rfl⟩ := C
  subst hp
  intro T locs k' n' q1 q2 X eT N
  obtain ⟨cl, A, es, hl⟩ := F
  have hjn : j.toNatClampNeg = i := by show j.toInt.toNat = i; omega
  have hlt : i < vs.length := (List.getElem?_eq_some_iff.mp hv).1
  have hin : ¬ (j < 0 ∨ cl.slots.size ≤ j.toNatClampNeg) := by
    rw [Int32.lt_iff_toInt_lt, es, hjn]
    simp only [List.size_toArray, List.length_map]
    show ¬ (j.toInt < 0 ∨ _); omega
  have hat : cl.slots[j.toNatClampNeg]? = some (.int v) := by rw [es, hjn]; simp [hv]
  obtain ⟨s2, o, st2, r⟩ := q T locs k' n' q1 q2 X eT N
  exact ⟨s2, o, X.iaload hx (by rw [eT]; exact A.1) (State.isArrayOf_alike hZ.alike A.2.1) A.2.2 hin hat (g := mkF m pc Ls (.int j :: .ref a :: rest)) rfl rfl (hb hby hd) _ st2, r⟩
theorem Ru.stAI (C : Ru l Z own code maxL ret nm R n0 G W) {a : Addr} {j : Int32} {i : Nat} {v : Int32} {vs : List Int32} (F : AI Z h a vs) (hj : j.toInt = (i : Int)) (hlt : i < vs.length) (hg : n0 ≤ a) (hd : decode code pc = .ok (.iastore, 1)) (hp : pc + 1 = pc') (q : ∀ h', Wr h h' a i (.int v) → AI Z h' a (vs.set i v) → W h' k n pc' Ls rest) : W h k n pc Ls (.int v :: .int j :: .ref a :: rest) := by
  obtain ⟨p, e, s, m, args, below, meth, c, ⟨hx, hby, hml, hown, hZ, hre, hlk, hnm⟩, rfl⟩ := C
  subst hp
  intro T locs k' n' q1 q2 X eT N
  have F0 := F
  obtain ⟨cl, A, es, hl⟩ := F
  have hjn : j.toNatClampNeg = i := by show j.toInt.toNat = i; omega
  have hin : ¬ (j < 0 ∨ cl.slots.size ≤ j.toNatClampNeg) := by
    rw [Int32.lt_iff_toInt_lt, es, hjn]
    simp only [List.size_toArray, List.length_map]
    show ¬ (j.toInt < 0 ∨ _); omega
  obtain ⟨T', h', X', e', W', st'⟩ := stI X hx hZ eT A (j := j) hin (g := mkF m pc Ls (.int v :: .int j :: .ref a :: rest)) rfl rfl (hb hby hd)
  rw [hjn] at W'
  obtain ⟨s2, o, st2, r⟩ := q h' W' (F0.set W') T' _ k' n' q1 q2 X' e' (Fr.snoc X' N hg)
  exact ⟨s2, o, st' _ st2, r⟩
theorem Ru.lenAI (C : Ru l Z own code maxL ret nm R n0 G W) {a : Addr} {vs : List Int32} {z : Int32} (F : AI Z h a vs) (hz : z.toInt = (vs.length : Int)) (hd : decode code pc = .ok (.arraylength, 1)) (hp : pc + 1 = pc') (q : W h k n pc' Ls (.int z :: rest)) : W h k n pc Ls (.ref a :: rest) := by
  obtain ⟨p, e, s, m, args, below, meth, c, ⟨hx, hby, hml, hown, hZ, hre, hlk, hnm⟩, rfl⟩ := C
  subst hp
  intro T locs k' n' q1 q2 X eT N
  obtain ⟨cl, A, es, hl⟩ := F
  have e1 : cl.slots.size.toInt32 = z := by
    apply Int32.toInt_inj.mp
    rw [es, hz]
    simp only [List.size_toArray, List.length_map]
    exact len_toInt hl
  obtain ⟨s2, o, st2, r⟩ := q T locs k' n' q1 q2 X eT N
  exact ⟨s2, o, X.arraylength hx (by rw [eT]; exact A.1) (State.isArrayOf_alike hZ.alike A.2.1) (g := mkF m pc Ls (.ref a :: rest)) rfl rfl (hb hby hd) _ (by rw [e1]; exact st2), r⟩
theorem AJ.lt {Z : State} {h : Heap} {a : Addr} {vs : List Int64} (F : AJ Z h a vs) : a < h.size := by obtain ⟨c, A, -⟩ := F; exact A.lt
theorem AJ.ext {Z : State} {h h' : Heap} {a : Addr} {vs : List Int64} (F : AJ Z h a vs) (E : Ext h h') : AJ Z h' a vs := by obtain ⟨c, A, r⟩ := F; exact ⟨c, A.ext E, r⟩
theorem AJ.other {Z : State} {h h' : Heap} {a b : Addr} {sl : Nat} {v : Value} {vs : List Int64} (F : AJ Z h b vs) (W : Wr h h' a sl v) (q : b ≠ a) : AJ Z h' b vs := by obtain ⟨c, A, r⟩ := F; exact ⟨c, A.other W q, r⟩
theorem AJ.keep {Z : State} {h h' : Heap} {a : Addr} {ws : List Addr} {vs : List Int64} (F : AJ Z h a vs) (K : Keep h h' ws) (q : a ∉ ws) : AJ Z h' a vs := by obtain ⟨c, A, r⟩ := F; exact ⟨c, ⟨K.2.1 a c A.1 q, A.2⟩, r⟩
theorem AJ.set {Z : State} {h h' : Heap} {a : Addr} {j : Nat} {v : Int64} {vs : List Int64} (F : AJ Z h a vs) (W : Wr h h' a j (.long v)) : AJ Z h' a (vs.set j v) := by
  obtain ⟨c, A, e, r⟩ := F
  refine ⟨_, A.same W, ?_, by rw [List.length_set]; exact r⟩
  have q : (c.setSlot j (.long v)).slots = c.slots.setIfInBounds j (.long v) := rfl
  rw [q, e]
  apply Array.ext'
  simp [List.map_set]
theorem Ru.newAJ (C : Ru l Z own code maxL ret nm R n0 G W) {a0 : Array Value} {z : Int32} {N cap : Nat} (w : (Cond.arrayClass .long).before a0 Z = true) (hd : decode code pc = .ok (.newarray .long, 2)) (hp : pc + 2 = pc') (hz : z.toInt = (N : Int)) (hcap : N ≤ cap) (hb8 : cap * 8 ≤ 536870912) (hk : k + 1 ≤ R.cells) (hn : n + cap ≤ R.slots)
    (q : ∀ h' b, b = h.size → Ext h h' → AJ Z h' b (List.replicate N 0) → W h' (k + 1) (n + cap) pc' Ls (.ref b :: rest)) : W h k n pc Ls (.int z :: rest) := by
  obtain ⟨p, e, s, m, args, below, meth, c, ⟨hx, hby, hml, hown, hZ, hre, hlk, hnm⟩, rfl⟩ := C
  subst hp
  intro T locs k' n' q1 q2 X eT Nf
  have hnn : ¬ z < 0 := by rw [Int32.lt_iff_toInt_lt]; show ¬ z.toInt < 0; omega
  have hzn : z.toNatClampNeg = N := by show z.toInt.toNat = N; omega
  have hlt : N < 2 ^ 31 := by have := (rng32 z).2; omega
  obtain ⟨T', h', cA, X', e', E', A', st'⟩ := newP X hx hZ (aty := .long) w eT (g := mkF m pc Ls (.int z :: rest)) rfl (hb hby hd) rfl hnn (cap := cap) (by omega) hb8 (by omega) (by omega)
  have F : AJ Z h' h.size (List.replicate N 0) := by
    refine ⟨_, A', ?_, by rw [List.length_replicate]; exact hlt⟩
    simp only [newA, hzn]
    apply Array.ext'
    simp [defaultValue, newarray.typeOf]
  obtain ⟨s2, o, st2, r⟩ := q h' _ rfl E' F T' locs (k' + 1) (n' + cap) (by omega) (by omega) X' e' Nf
  exact ⟨s2, o, st' _ st2, r⟩
theorem Ru.ldAJ (C : Ru l Z own code maxL ret nm R n0 G W) {a : Addr} {j : Int32} {i : Nat} {v : Int64} {vs : List Int64} (F : AJ Z h a vs) (hj : j.toInt = (i : Int)) (hv : vs[i]? = some v) (hd : decode code pc = .ok (.laload, 1)) (hp : pc + 1 = pc') (q : W h k n pc' Ls (.long v :: rest)) : W h k n pc Ls (.int j :: .ref a :: rest) := by
  obtain ⟨p, e, s, m, args, below, meth, c, ⟨hx, hby, hml, hown, hZ, hre, hlk, hnm⟩, rfl⟩ := C
  subst hp
  intro T locs k' n' q1 q2 X eT N
  obtain ⟨cl, A, es, hl⟩ := F
  have hjn : j.toNatClampNeg = i := by show j.toInt.toNat = i; omega
  have hlt : i < vs.length := (List.getElem?_eq_some_iff.mp hv).1
  have hin : ¬ (j < 0 ∨ cl.slots.size ≤ j.toNatClampNeg) := by
    rw [Int32.lt_iff_toInt_lt, es, hjn]
    simp only [List.size_toArray, List.length_map]
    show ¬ (j.toInt < 0 ∨ _); omega
  have hat : cl.slots[j.toNatClampNeg]? = some (.long v) := by rw [es, hjn]; simp [hv]
  obtain ⟨s2, o, st2, r⟩ := q T locs k' n' q1 q2 X eT N
  exact ⟨s2, o, X.laload hx (by rw [eT]; exact A.1) (State.isArrayOf_alike hZ.alike A.2.1) A.2.2 hin hat (g := mkF m pc Ls (.int j :: .ref a :: rest)) rfl rfl (hb hby hd) _ st2, r⟩
theorem Ru.stAJ (C : Ru l Z own code maxL ret nm R n0 G W) {a : Addr} {j : Int32} {i : Nat} {v : Int64} {vs : List Int64} (F : AJ Z h a vs) (hj : j.toInt = (i : Int)) (hlt : i < vs.length) (hg : n0 ≤ a) (hd : decode code pc = .ok (.lastore, 1)) (hp : pc + 1 = pc') (q : ∀ h', Wr h h' a i (.long v) → AJ Z h' a (vs.set i v) → W h' k n pc' Ls rest) : W h k n pc Ls (.long v :: .int j :: .ref a :: rest) := by
  obtain ⟨p, e, s, m, args, below, meth, c, ⟨hx, hby, hml, hown, hZ, hre, hlk, hnm⟩, rfl⟩ := C
  subst hp
  intro T locs k' n' q1 q2 X eT N
  have F0 := F
  obtain ⟨cl, A, es, hl⟩ := F
  have hjn : j.toNatClampNeg = i := by show j.toInt.toNat = i; omega
  have hin : ¬ (j < 0 ∨ cl.slots.size ≤ j.toNatClampNeg) := by
    rw [Int32.lt_iff_toInt_lt, es, hjn]
    simp only [List.size_toArray, List.length_map]
    show ¬ (j.toInt < 0 ∨ _); omega
  obtain ⟨T', h', X', e', W', st'⟩ := stJ X hx hZ eT A (j := j) hin (g := mkF m pc Ls (.long v :: .int j :: .ref a :: rest)) rfl rfl (hb hby hd)
  rw [hjn] at W'
  obtain ⟨s2, o, st2, r⟩ := q h' W' (F0.set W') T' _ k' n' q1 q2 X' e' (Fr.snoc X' N hg)
  exact ⟨s2, o, st' _ st2, r⟩
theorem Ru.lenAJ (C : Ru l Z own code maxL ret nm R n0 G W) {a : Addr} {vs : List Int64} {z : Int32} (F : AJ Z h a vs) (hz : z.toInt = (vs.length : Int)) (hd : decode code pc = .ok (.arraylength, 1)) (hp : pc + 1 = pc') (q : W h k n pc' Ls (.int z :: rest)) : W h k n pc Ls (.ref a :: rest) := by
  obtain ⟨p, e, s, m, args, below, meth, c, ⟨hx, hby, hml, hown, hZ, hre, hlk, hnm⟩, rfl⟩ := C
  subst hp
  intro T locs k' n' q1 q2 X eT N
  obtain ⟨cl, A, es, hl⟩ := F
  have e1 : cl.slots.size.toInt32 = z := by
    apply Int32.toInt_inj.mp
    rw [es, hz]
    simp only [List.size_toArray, List.length_map]
    exact len_toInt hl
  obtain ⟨s2, o, st2, r⟩ := q T locs k' n' q1 q2 X eT N
  exact ⟨s2, o, X.arraylength hx (by rw [eT]; exact A.1) (State.isArrayOf_alike hZ.alike A.2.1) (g := mkF m pc Ls (.ref a :: rest)) rfl rfl (hb hby hd) _ (by rw [e1]; exact st2), r⟩
theorem AB.lt {Z : State} {h : Heap} {a : Addr} {z : Nat} (F : AB Z h a z) : a < h.size := by obtain ⟨c, A, -⟩ := F; exact A.lt
theorem AB.ext {Z : State} {h h' : Heap} {a : Addr} {z : Nat} (F : AB Z h a z) (E : Ext h h') : AB Z h' a z := by obtain ⟨c, A, r⟩ := F; exact ⟨c, A.ext E, r⟩
theorem AB.other {Z : State} {h h' : Heap} {a b : Addr} {sl : Nat} {v : Value} {z : Nat} (F : AB Z h b z) (W : Wr h h' a sl v) (q : b ≠ a) : AB Z h' b z := by obtain ⟨c, A, r⟩ := F; exact ⟨c, A.other W q, r⟩
theorem AB.keep {Z : State} {h h' : Heap} {a : Addr} {ws : List Addr} {z : Nat} (F : AB Z h a z) (K : Keep h h' ws) (q : a ∉ ws) : AB Z h' a z := by obtain ⟨c, A, r⟩ := F; exact ⟨c, ⟨K.2.1 a c A.1 q, A.2⟩, r⟩
theorem Ru.newAB (C : Ru l Z own code maxL ret nm R n0 G W) {a0 : Array Value} {z : Int32} {N cap : Nat} (w : (Cond.arrayClass .byte).before a0 Z = true) (hd : decode code pc = .ok (.newarray .byte, 2)) (hp : pc + 2 = pc') (hz : z.toInt = (N : Int)) (hcap : N ≤ cap) (hb8 : cap * 8 ≤ 536870912) (hk : k + 1 ≤ R.cells) (hn : n + cap ≤ R.slots)
    (q : ∀ h' b, b = h.size → Ext h h' → AB Z h' b N → W h' (k + 1) (n + cap) pc' Ls (.ref b :: rest)) : W h k n pc Ls (.int z :: rest) := by
  obtain ⟨p, e, s, m, args, below, meth, c, ⟨hx, hby, hml, hown, hZ, hre, hlk, hnm⟩, rfl⟩ := C
  subst hp
  intro T locs k' n' q1 q2 X eT Nf
  have hnn : ¬ z < 0 := by rw [Int32.lt_iff_toInt_lt]; show ¬ z.toInt < 0; omega
  have hzn : z.toNatClampNeg = N := by show z.toInt.toNat = N; omega
  have hlt : N < 2 ^ 31 := by have := (rng32 z).2; omega
  obtain ⟨T', h', cA, X', e', E', A', st'⟩ := newP X hx hZ (aty := .byte) w eT (g := mkF m pc Ls (.int z :: rest)) rfl (hb hby hd) rfl hnn (cap := cap) (by omega) hb8 (by omega) (by omega)
  have F : AB Z h' h.size N := ⟨_, A', by rw [sz_new]; exact hzn, hlt⟩
  obtain ⟨s2, o, st2, r⟩ := q h' _ rfl E' F T' locs (k' + 1) (n' + cap) (by omega) (by omega) X' e' Nf
  exact ⟨s2, o, st' _ st2, r⟩
theorem Ru.stAB (C : Ru l Z own code maxL ret nm R n0 G W) {a : Addr} {j : Int32} {i : Nat} {v : Int32} {z : Nat} (F : AB Z h a z) (hj : j.toInt = (i : Int)) (hlt : i < z) (hg : n0 ≤ a) (hd : decode code pc = .ok (.bastore, 1)) (hp : pc + 1 = pc') (q : ∀ h', Wr h h' a i (.int (nar .byte v)) → AB Z h' a z → W h' k n pc' Ls rest) : W h k n pc Ls (.int v :: .int j :: .ref a :: rest) := by
  obtain ⟨p, e, s, m, args, below, meth, c, ⟨hx, hby, hml, hown, hZ, hre, hlk, hnm⟩, rfl⟩ := C
  subst hp
  intro T locs k' n' q1 q2 X eT N
  obtain ⟨cl, A, es, hl⟩ := F
  have hjn : j.toNatClampNeg = i := by show j.toInt.toNat = i; omega
  have hin : ¬ (j < 0 ∨ cl.slots.size ≤ j.toNatClampNeg) := by
    rw [Int32.lt_iff_toInt_lt, es, hjn]
    show ¬ (j.toInt < 0 ∨ _); omega
  obtain ⟨T', h', X', e', W', st'⟩ := stB X hx hZ eT A (j := j) hin (g := mkF m pc Ls (.int v :: .int j :: .ref a :: rest)) rfl rfl (hb hby hd)
  rw [hjn] at W'
  obtain ⟨s2, o, st2, r⟩ := q h' W' ⟨_, A.same W', by rw [sz_set]; exact es, hl⟩ T' _ k' n' q1 q2 X' e' (Fr.snoc X' N hg)
  exact ⟨s2, o, st' _ st2, r⟩
theorem Ru.lenAB (C : Ru l Z own code maxL ret nm R n0 G W) {a : Addr} {N : Nat} {z : Int32} (F : AB Z h a N) (hz : z.toInt = (N : Int)) (hd : decode code pc = .ok (.arraylength, 1)) (hp : pc + 1 = pc') (q : W h k n pc' Ls (.int z :: rest)) : W h k n pc Ls (.ref a :: rest) := by
  obtain ⟨p, e, s, m, args, below, meth, c, ⟨hx, hby, hml, hown, hZ, hre, hlk, hnm⟩, rfl⟩ := C
  subst hp
  intro T locs k' n' q1 q2 X eT Nf
  obtain ⟨cl, A, es, hl⟩ := F
  have e1 : cl.slots.size.toInt32 = z := by
    apply Int32.toInt_inj.mp
    rw [es, hz]
    exact len_toInt hl
  obtain ⟨s2, o, st2, r⟩ := q T locs k' n' q1 q2 X eT Nf
  exact ⟨s2, o, X.arraylength hx (by rw [eT]; exact A.1) (State.isArrayOf_alike hZ.alike A.2.1) (g := mkF m pc Ls (.ref a :: rest)) rfl rfl (hb hby hd) _ (by rw [e1]; exact st2), r⟩
/-! calls -/
/-- what a stack weighs -/
def wt (st : List Value) : Nat := (st.map fun v => v.category).sum
/-- Object.<init> -/
theorem Ru.initObj (C : Ru l Z own code maxL ret nm R n0 G W) {a0 : Array Value} {i w : Nat} {a : Addr} (w1 : (Cond.methodLink own i Lib.objectInit).before a0 Z = true) (w2 : (Cond.instanceMethod Lib.objectInit).before a0 Z = true) (w3 : (Cond.code Lib.objectInit ⟨#[0xb1]⟩ 1 none).before a0 Z = true)
    (hd : decode code pc = .ok (.invokespecial i, 3)) (hp : pc + 3 = pc') (hs : Ls.size = maxL) (hf : 1 ≤ R.frames) (hw : wt rest ≤ w) (hl : w + 12 ≤ R.locals) (q : W h k n pc' Ls rest) : W h k n pc Ls (.ref a :: rest) := by
  obtain ⟨p, e, s, m, args, below, meth, c, ⟨hx, hby, hml, hown, hZ, hre, hlk, hnm⟩, rfl⟩ := C
  subst hp
  intro T locs k' n' q1 q2 X eT N
  obtain ⟨T', X', e', st'⟩ := initO X hx hZ hown w1 w2 w3 eT (g := mkF m pc Ls (.ref a :: rest)) rfl (by rw [hml]; exact hs) rfl (hb hby hd) hf (W := w) (by show 2 * 0 + _ ≤ _; simpa [wt] using hw) hl
  obtain ⟨s2, o, st2, r⟩ := q T' locs k' n' q1 q2 X' e' N
  exact ⟨s2, o, st' _ st2, r⟩
theorem Ru.calls (C : Ru l Z own code maxL ret nm R n0 G W) {a0 : Array Value} {i w : Nat} {y : MethodName} {bytes : ByteArray} {mx : Nat} {rt : Option FieldType} {rm : Room} {GC : Option Value → Heap → Prop} {argsL : List Value} {ps : List FieldType} {rt' : Option FieldType}
    (M : MeetsW l Z n0 y bytes mx rt rm argsL.toArray h GC) (w1 : (Cond.methodLink own i y).before a0 Z = true) (w2 : (Cond.static y).before a0 Z = true) (w3 : (Cond.initialized y.cls).before a0 Z = true) (w4 : (Cond.code y bytes mx rt).before a0 Z = true)
    (hd : decode code pc = .ok (.invokestatic i, 3)) (hp : pc + 3 = pc') (hs : Ls.size = maxL) (hst : st = argsL.reverse ++ rest) (hy : y.cls ≠ "java/lang/invoke/MethodHandle" ∧ y.cls ≠ "java/lang/invoke/VarHandle")
    (hdesc : parseMethodDescriptor y.desc = some ⟨ps, rt'⟩) (hlen : argsL.length = ps.length) (hf : rm.frames + 1 ≤ R.frames) (hw : wt rest ≤ w) (hl : w + (mx + 11) + rm.locals ≤ R.locals) (hk : k + rm.cells ≤ R.cells) (hn : n + rm.slots ≤ R.slots)
    (q : ∀ v h', GC v h' → W h' (k + rm.cells) (n + rm.slots) pc' Ls (v.toList ++ rest)) : W h k n pc Ls st := by
  obtain ⟨p, e, s, m, args, below, meth, c, ⟨hx, hby, hml, hown, hZ, hre, hlk, hnm⟩, rfl⟩ := C
  subst hp hst
  intro T locs k' n' q1 q2 X eT N
  obtain ⟨v, _, ⟨T', L', k2, n2⟩, -, X', ⟨Lc, ⟨N', hQ⟩, hl', hk', hn'⟩, st'⟩ := Jvm.LawKit.callS X hx (y := y) hown (mvT hZ w1) (mvT hZ w2) (mvT hZ w3) (mvT hZ w4) hy (backOf (W := w) (Q := fun v h L => Fr n0 L ∧ GC v h) (M []) hZ w4 w3 hf hl) (g := mkF m pc Ls (argsL.reverse ++ rest)) rfl (by rw [hml]; exact hs) (argsL := argsL) (rest := rest) (lenOf hdesc hlen) rfl (by show 2 * 0 + _ ≤ _; simpa [wt] using hw) (hb hby hd) (fun _ _ => ⟨rfl, eT, (by show k' + rm.cells ≤ _; omega), (by show n' + rm.slots ≤ _; omega)⟩)
  dsimp only [Pt.U, Pt.locs, Pt.cells, Pt.slots] at X' hl' hk' hn' st' hQ
  subst hl' hk' hn'
  obtain ⟨s2, o, st2, r⟩ := q v T'.heap hQ T' _ _ _ (by omega) (by omega) X' rfl (Fr.app N N')
  exact ⟨s2, o, st' _ st2, r⟩
theorem Ru.callc (C : Ru l Z own code maxL ret nm R n0 G W) {a0 : Array Value} {i w : Nat} {y : MethodName} {bytes : ByteArray} {mx : Nat} {rm : Room} {GC : Option Value → Heap → Prop} {a : Addr} {argsL : List Value} {ps : List FieldType} {rt' : Option FieldType}
    (M : MeetsW l Z n0 y bytes mx none rm (.ref a :: argsL).toArray h GC) (hy1 : y.name = "<init>") (w1 : (Cond.methodLink own i y).before a0 Z = true) (w2 : (Cond.instanceMethod y).before a0 Z = true) (w3 : (Cond.initialized y.cls).before a0 Z = true) (w4 : (Cond.code y bytes mx none).before a0 Z = true)
    (hd : decode code pc = .ok (.invokespecial i, 3)) (hp : pc + 3 = pc') (hs : Ls.size = maxL) (hst : st = argsL.reverse ++ .ref a :: rest) (hy : y.cls ≠ "java/lang/invoke/MethodHandle" ∧ y.cls ≠ "java/lang/invoke/VarHandle")
    (hdesc : parseMethodDescriptor y.desc = some ⟨ps, rt'⟩) (hlen : argsL.length = ps.length) (hf : rm.frames + 1 ≤ R.frames) (hw : wt rest ≤ w) (hl : w + (mx + 11) + rm.locals ≤ R.locals) (hk : k + rm.cells ≤ R.cells) (hn : n + rm.slots ≤ R.slots)
    (q : ∀ v h', GC v h' → W h' (k + rm.cells) (n + rm.slots) pc' Ls (v.toList ++ rest)) : W h k n pc Ls st := by
  obtain ⟨p, e, s, m, args, below, meth, c, ⟨hx, hby, hml, hown, hZ, hre, hlk, hnm⟩, rfl⟩ := C
  subst hp hst
  intro T locs k' n' q1 q2 X eT N
  obtain ⟨v, _, ⟨T', L', k2, n2⟩, -, X', ⟨Lc, ⟨N', hQ⟩, hl', hk', hn'⟩, st'⟩ := X.specialBack hx (y := y) hy1 hown (mvT hZ w1) (mvT hZ w2) (mvT hZ w4) hy (backOf (W := w) (Q := fun v h L => Fr n0 L ∧ GC v h) (M []) hZ w4 w3 hf hl) (g := mkF m pc Ls (argsL.reverse ++ .ref a :: rest)) rfl (by rw [hml]; exact hs) (Steps.refl _) (a := a) (argsL := argsL) (rest := rest) (lenOf hdesc hlen) rfl (by show 2 * 0 + _ ≤ _; simpa [wt] using hw) (hb hby hd) (fun _ _ => ⟨rfl, eT, (by show k' + rm.cells ≤ _; omega), (by show n' + rm.slots ≤ _; omega)⟩)
  dsimp only [Pt.U, Pt.locs, Pt.cells, Pt.slots] at X' hl' hk' hn' st' hQ
  subst hl' hk' hn'
  obtain ⟨s2, o, st2, r⟩ := q v T'.heap hQ T' _ _ _ (by omega) (by omega) X' rfl (Fr.app N N')
  exact ⟨s2, o, st'.trans st2, r⟩
theorem Ru.callv (C : Ru l Z own code maxL ret nm R n0 G W) {a0 : Array Value} {i w : Nat} {y : MethodName} {bytes : ByteArray} {mx : Nat} {rt : Option FieldType} {rm : Room} {GC : Option Value → Heap → Prop} {a : Addr} {argsL : List Value} {ps : List FieldType} {rt' : Option FieldType} {D : String}
    (M : MeetsW l Z n0 y bytes mx rt rm (.ref a :: argsL).toArray h GC) (E : Exa Z h a D) (w1 : (Cond.methodLink own i y).before a0 Z = true) (w2 : (Cond.declares y).before a0 Z = true) (w5 : (Cond.selects D y y).before a0 Z = true) (w6 : (Cond.instanceMethod y).before a0 Z = true) (w3 : (Cond.initialized y.cls).before a0 Z = true) (w4 : (Cond.code y bytes mx rt).before a0 Z = true)
    (hd : decode code pc = .ok (.invokevirtual i, 3)) (hp : pc + 3 = pc') (hs : Ls.size = maxL) (hst : st = argsL.reverse ++ .ref a :: rest) (hy : y.cls ≠ "java/lang/invoke/MethodHandle" ∧ y.cls ≠ "java/lang/invoke/VarHandle")
    (hdesc : parseMethodDescriptor y.desc = some ⟨ps, rt'⟩) (hlen : argsL.length = ps.length) (hf : rm.frames + 1 ≤ R.frames) (hw : wt rest ≤ w) (hl : w + (mx + 11) + rm.locals ≤ R.locals) (hk : k + rm.cells ≤ R.cells) (hn : n + rm.slots ≤ R.slots)
    (q : ∀ v h', GC v h' → W h' (k + rm.cells) (n + rm.slots) pc' Ls (v.toList ++ rest)) : W h k n pc Ls st := by
  obtain ⟨p, e, s, m, args, below, meth, c, ⟨hx, hby, hml, hown, hZ, hre, hlk, hnm⟩, rfl⟩ := C
  subst hp hst
  intro T locs k' n' q1 q2 X eT N
  obtain ⟨cq, kq, qa, qb, qc⟩ := isOf hZ eT E
  obtain ⟨v, _, ⟨T', L', k2, n2⟩, -, X', ⟨Lc, ⟨N', hQ⟩, hl', hk', hn'⟩, st'⟩ := X.virtualBack hx (y := y) (z := y) hown (mvT hZ w1) (mvT hZ w2) (notFace_of_selects (args := #[]) (mvT hZ w5)) (mvT hZ w5) (mvT hZ w6) hy (backOf (W := w) (Q := fun v h L => Fr n0 L ∧ GC v h) (M []) hZ w4 w3 hf hl) qa qc (g := mkF m pc Ls (argsL.reverse ++ .ref a :: rest)) rfl (by rw [hml]; exact hs) (Steps.refl _) (argsL := argsL) (rest := rest) (lenOf hdesc hlen) rfl (by show 2 * 0 + _ ≤ _; simpa [wt] using hw) (hb hby hd) (fun _ _ => ⟨rfl, eT, (by show k' + rm.cells ≤ _; omega), (by show n' + rm.slots ≤ _; omega)⟩)
  dsimp only [Pt.U, Pt.locs, Pt.cells, Pt.slots] at X' hl' hk' hn' st' hQ
  subst hl' hk' hn'
  obtain ⟨s2, o, st2, r⟩ := q v T'.heap hQ T' _ _ _ (by omega) (by omega) X' rfl (Fr.app N N')
  exact ⟨s2, o, st'.trans st2, r⟩
theorem Ru.callp (C : Ru l Z own code maxL ret nm R n0 G W) {a0 : Array Value} {i w : Nat} {y : MethodName} {bytes : ByteArray} {mx : Nat} {rt : Option FieldType} {rm : Room} {GC : Option Value → Heap → Prop} {a : Addr} {argsL : List Value} {ps : List FieldType} {rt' : Option FieldType} {D : String}
    (M : MeetsW l Z n0 y bytes mx rt rm (.ref a :: argsL).toArray h GC) (E : Exa Z h a D) (w1 : (Cond.methodLink own i y).before a0 Z = true) (w6 : (Cond.instanceMethod y).before a0 Z = true) (w5 : (Cond.selects y.cls y y).before a0 Z = true) (w7 : (Cond.privateMethod y).before a0 Z = true) (w3 : (Cond.initialized y.cls).before a0 Z = true) (w4 : (Cond.code y bytes mx rt).before a0 Z = true)
    (hd : decode code pc = .ok (.invokevirtual i, 3)) (hp : pc + 3 = pc') (hs : Ls.size = maxL) (hst : st = argsL.reverse ++ .ref a :: rest) (hy : y.cls ≠ "java/lang/invoke/MethodHandle" ∧ y.cls ≠ "java/lang/invoke/VarHandle")
    (hdesc : parseMethodDescriptor y.desc = some ⟨ps, rt'⟩) (hlen : argsL.length = ps.length) (hf : rm.frames + 1 ≤ R.frames) (hw : wt rest ≤ w) (hl : w + (mx + 11) + rm.locals ≤ R.locals) (hk : k + rm.cells ≤ R.cells) (hn : n + rm.slots ≤ R.slots)
    (q : ∀ v h', GC v h' → W h' (k + rm.cells) (n + rm.slots) pc' Ls (v.toList ++ rest)) : W h k n pc Ls st := by
  obtain ⟨p, e, s, m, args, below, meth, c, ⟨hx, hby, hml, hown, hZ, hre, hlk, hnm⟩, rfl⟩ := C
  subst hp hst
  intro T locs k' n' q1 q2 X eT N
  obtain ⟨cq, qa, qb⟩ := E.cell
  obtain ⟨v, _, ⟨T', L', k2, n2⟩, -, X', ⟨Lc, ⟨N', hQ⟩, hl', hk', hn'⟩, st'⟩ := X.privateBack hx (y := y) hown (mvT hZ w1) (mvT hZ w6) (mvT hZ w5) (Cond.privateMethod_at (mvP hZ w7 (args := #[]))) (mvT hZ w4) hy (backOf (W := w) (Q := fun v h L => Fr n0 L ∧ GC v h) (M []) hZ w4 w3 hf hl) (g := mkF m pc Ls (argsL.reverse ++ .ref a :: rest)) rfl (by rw [hml]; exact hs) (Steps.refl _) (a := a) (by rw [eT]; exact qa) qb (argsL := argsL) (rest := rest) (lenOf hdesc hlen) rfl (by show 2 * 0 + _ ≤ _; simpa [wt] using hw) (hb hby hd) (fun _ _ => ⟨rfl, eT, (by show k' + rm.cells ≤ _; omega), (by show n' + rm.slots ≤ _; omega)⟩)
  dsimp only [Pt.U, Pt.locs, Pt.cells, Pt.slots] at X' hl' hk' hn' st' hQ
  subst hl' hk' hn'
  obtain ⟨s2, o, st2, r⟩ := q v T'.heap hQ T' _ _ _ (by omega) (by omega) X' rfl (Fr.app N N')
  exact ⟨s2, o, st'.trans st2, r⟩
theorem Ru.castY (C : Ru l Z own code maxL ret nm R n0 G W) {a0 : Array Value} {D : String} {i : Nat} {a : Addr} (w : (Cond.classLink own i D).before a0 Z = true) (F : Ins Z h a D true) (hd : decode code pc = .ok (.checkcast i, 3)) (hp : pc + 3 = pc') (q : W h k n pc' Ls (.ref a :: rest)) : W h k n pc Ls (.ref a :: rest) := by
  obtain ⟨p, e, s, m, args, below, meth, c, ⟨hx, hby, hml, hown, hZ, hre, hlk, hnm⟩, rfl⟩ := C
  subst hp
  intro T locs k' n' q1 q2 X eT N
  obtain ⟨T', X', e', st'⟩ := castY X hx hZ hown w eT F (g := mkF m pc Ls (.ref a :: rest)) rfl rfl (hb hby hd)
  obtain ⟨s2, o, st2, r⟩ := q T' locs k' n' q1 q2 X' e' N
  exact ⟨s2, o, st' _ st2, r⟩
theorem Ru.newAIE (C : Ru l Z own code maxL ret nm R n0 G W) {a0 : Array Value} {z : Int32} {N cap : Nat} (w : (Cond.arrayClass .int).before a0 Z = true) (hd : decode code pc = .ok (.newarray .int, 2)) (hp : pc + 2 = pc') (hz : z.toInt = (N : Int)) (hcap : N ≤ cap) (hb8 : cap * 8 ≤ 536870912) (hk : k + 1 ≤ R.cells) (hn : n + cap ≤ R.slots)
    (q : ∀ h' b, b = h.size → Ext h h' → AI Z h' b (List.replicate N 0) → Exa Z h' b "[I" → W h' (k + 1) (n + cap) pc' Ls (.ref b :: rest)) : W h k n pc Ls (.int z :: rest) := by
  obtain ⟨p, e, s, m, args, below, meth, c, ⟨hx, hby, hml, hown, hZ, hre, hlk, hnm⟩, rfl⟩ := C
  subst hp
  intro T locs k' n' q1 q2 X eT Nf
  have hnn : ¬ z < 0 := by rw [Int32.lt_iff_toInt_lt]; show ¬ z.toInt < 0; omega
  have hzn : z.toNatClampNeg = N := by show z.toInt.toNat = N; omega
  have hlt : N < 2 ^ 31 := by have := (rng32 z).2; omega
  obtain ⟨T', h', cA, X', e', E', A', B', st'⟩ := newPE X hx hZ (aty := .int) w eT (g := mkF m pc Ls (.int z :: rest)) rfl (hb hby hd) rfl hnn (cap := cap) (by omega) hb8 (by omega) (by omega) (ad := "[I") (by decide)
  have F : AI Z h' h.size (List.replicate N 0) := by
    refine ⟨_, A', ?_, by rw [List.length_replicate]; exact hlt⟩
    simp only [newA, hzn]
    apply Array.ext'
    simp [defaultValue, newarray.typeOf]
  obtain ⟨s2, o, st2, r⟩ := q h' _ rfl E' F B' T' locs (k' + 1) (n' + cap) (by omega) (by omega) X' e' Nf
  exact ⟨s2, o, st' _ st2, r⟩
theorem Ru.cloneAI (C : Ru l Z own code maxL ret nm R n0 G W) {a0 : Array Value} {i w cap : Nat} {a : Addr} {vs : List Int32}
    (w1 : (Cond.methodLink own i ⟨"[I", "clone", "()Ljava/lang/Object;"⟩).before a0 Z = true) (w2 : (Cond.sameMethod "[I" "java/lang/Object" "clone" "()Ljava/lang/Object;").before a0 Z = true) (w3 : (Cond.native ⟨"java/lang/Object", "clone", "()Ljava/lang/Object;"⟩).before a0 Z = true)
    (w4 : (Cond.instanceMethod ⟨"java/lang/Object", "clone", "()Ljava/lang/Object;"⟩).before a0 Z = true) (w5 : (Cond.selects "[I" ⟨"[I", "clone", "()Ljava/lang/Object;"⟩ ⟨"java/lang/Object", "clone", "()Ljava/lang/Object;"⟩).before a0 Z = true) (w6 : (Cond.castable "[I" "java/lang/Cloneable").before a0 Z = true)
    (F : AI Z h a vs) (E : Exa Z h a "[I") (hd : decode code pc = .ok (.invokevirtual i, 3)) (hp : pc + 3 = pc') (hs : Ls.size = maxL) (hf : 1 ≤ R.frames) (hw : wt rest ≤ w) (hl : w + 14 ≤ R.locals) (hcap : vs.length ≤ cap) (hk : k + 1 ≤ R.cells) (hn : n + cap ≤ R.slots)
    (q : ∀ h' b, b = h.size → Ext h h' → AI Z h' b vs → Exa Z h' b "[I" → W h' (k + 1) (n + cap) pc' Ls (.ref b :: rest)) : W h k n pc Ls (.ref a :: rest) := by
  obtain ⟨p, e, s, m, args, below, meth, c, ⟨hx, hby, hml, hown, hZ, hre, hlk, hnm⟩, rfl⟩ := C
  subst hp
  intro T locs k' n' q1 q2 X eT Nf
  obtain ⟨cl, A, es, hlen⟩ := F
  have hsz : cl.slots.size = vs.length := by rw [es]; simp
  have FC : FitC Z cl := fitC_of A fun j hj v hv => by
    rw [es] at hv
    simp only [List.getElem?_toArray, List.getElem?_map, Option.map_eq_some_iff] at hv
    obtain ⟨y, -, rfl⟩ := hv
    rfl
  obtain ⟨T', h', X', e', E', A', B', st'⟩ := cloneA X hx hZ hown w1 w2 w3 w4 w5 w6 eT A E FC (g := mkF m pc Ls (.ref a :: rest)) rfl (by rw [hml]; exact hs) rfl (hb hby hd) hf (W := w) (cap := cap) (by show 2 * 0 + _ ≤ _; simpa [wt] using hw) hl (by omega) (by omega) (by omega)
  obtain ⟨s2, o, st2, r⟩ := q h' _ rfl E' ⟨_, A', es, hlen⟩ B' T' locs (k' + 1) (n' + cap) (by omega) (by omega) X' e' Nf
  exact ⟨s2, o, st' _ st2, r⟩
/-! returns -/
theorem Ru.retV (C : Ru l Z own code maxL ret nm R n0 G W) (hr : ret = none) (hd : decode code pc = .ok (.return_, 1)) (hk : k ≤ R.cells) (hn : n ≤ R.slots) (q : G none h) : W h k n pc Ls [] := by
  obtain ⟨p, e, s, m, args, below, meth, c, ⟨hx, hby, hml, hown, hZ, hre, hlk, hnm⟩, rfl⟩ := C
  intro T locs k' n' q1 q2 X eT N
  obtain ⟨fs, hrr, hrun, hended, hW, hsame⟩ := X.leave (v := none) (fun _ => rfl)
  exact ⟨_, _, X.returnOut hx (hre.trans hr) (hb hby hd) hrr, hrun, hended, _, _, rfl, ⟨N, by show G none T.heap; rw [eT]; exact q⟩, ⟨_, rfl⟩, hW, hsame.mono (by omega) (by omega)⟩
theorem Ru.retI (C : Ru l Z own code maxL ret nm R n0 G W) {z : Int32} (hr : ret = some .int) (hd : decode code pc = .ok (.ireturn, 1)) (hk : k ≤ R.cells) (hn : n ≤ R.slots) (q : G (some (.int z)) h) : W h k n pc Ls (.int z :: rest) := by
  obtain ⟨p, e, s, m, args, below, meth, c, ⟨hx, hby, hml, hown, hZ, hre, hlk, hnm⟩, rfl⟩ := C
  intro T locs k' n' q1 q2 X eT N
  obtain ⟨fs, hrr, hrun, hended, hW, hsame⟩ := X.leave (v := some (.int z)) (fun h => by rw [hre, hr] at h; cases h)
  exact ⟨_, _, retOut X hx (hre.trans hr) rfl (Or.inl ⟨rfl, Or.inl rfl, z, rfl⟩) (hb hby hd) hrr, hrun, hended, _, _, rfl, ⟨N, by show G _ T.heap; rw [eT]; exact q⟩, ⟨_, rfl⟩, hW, hsame.mono (by omega) (by omega)⟩
theorem Ru.retZ (C : Ru l Z own code maxL ret nm R n0 G W) {z : Int32} (hr : ret = some .boolean) (hz : z = 0 ∨ z = 1) (hd : decode code pc = .ok (.ireturn, 1)) (hk : k ≤ R.cells) (hn : n ≤ R.slots) (q : G (some (.int z)) h) : W h k n pc Ls (.int z :: rest) := by
  obtain ⟨p, e, s, m, args, below, meth, c, ⟨hx, hby, hml, hown, hZ, hre, hlk, hnm⟩, rfl⟩ := C
  intro T locs k' n' q1 q2 X eT N
  obtain ⟨fs, hrr, hrun, hended, hW, hsame⟩ := X.leave (v := some (.int z)) (fun h => by rw [hre, hr] at h; cases h)
  have hnr : narrow .boolean (.int z) = .int z := by rcases hz with rfl | rfl <;> decide
  exact ⟨_, _, retOut X hx (hre.trans hr) hnr (Or.inl ⟨rfl, Or.inr (Or.inl rfl), z, rfl⟩) (hb hby hd) hrr, hrun, hended, _, _, rfl, ⟨N, by show G _ T.heap; rw [eT]; exact q⟩, ⟨_, rfl⟩, hW, hsame.mono (by omega) (by omega)⟩
theorem Ru.retJ (C : Ru l Z own code maxL ret nm R n0 G W) {z : Int64} (hr : ret = some .long) (hd : decode code pc = .ok (.lreturn, 1)) (hk : k ≤ R.cells) (hn : n ≤ R.slots) (q : G (some (.long z)) h) : W h k n pc Ls (.long z :: rest) := by
  obtain ⟨p, e, s, m, args, below, meth, c, ⟨hx, hby, hml, hown, hZ, hre, hlk, hnm⟩, rfl⟩ := C
  intro T locs k' n' q1 q2 X eT N
  obtain ⟨fs, hrr, hrun, hended, hW, hsame⟩ := X.leave (v := some (.long z)) (fun h => by rw [hre, hr] at h; cases h)
  exact ⟨_, _, retOut X hx (hre.trans hr) rfl (Or.inr (Or.inl ⟨rfl, rfl, z, rfl⟩)) (hb hby hd) hrr, hrun, hended, _, _, rfl, ⟨N, by show G _ T.heap; rw [eT]; exact q⟩, ⟨_, rfl⟩, hW, hsame.mono (by omega) (by omega)⟩
theorem Ru.retA (C : Ru l Z own code maxL ret nm R n0 G W) {a : Addr} {t : FieldType} (hr : ret = some t) (ht : t.isReference = true) (hd : decode code pc = .ok (.areturn, 1)) (hk : k ≤ R.cells) (hn : n ≤ R.slots) (q : G (some (.ref a)) h) : W h k n pc Ls (.ref a :: rest) := by
  obtain ⟨p, e, s, m, args, below, meth, c, ⟨hx, hby, hml, hown, hZ, hre, hlk, hnm⟩, rfl⟩ := C
  intro T locs k' n' q1 q2 X eT N
  obtain ⟨fs, hrr, hrun, hended, hW, hsame⟩ := X.leave (v := some (.ref a)) (fun h => by rw [hre, hr] at h; cases h)
  have hnr : narrow t (.ref a) = .ref a := by cases t <;> first | rfl | cases ht
  exact ⟨_, _, retOut X hx (hre.trans hr) hnr (Or.inr (Or.inr (Or.inr (Or.inr ⟨rfl, ht, rfl⟩)))) (hb hby hd) hrr, hrun, hended, _, _, rfl, ⟨N, by show G _ T.heap; rw [eT]; exact q⟩, ⟨_, rfl⟩, hW, hsame.mono (by omega) (by omega)⟩
end Steps
/-! kinds of results -/
def RI (P : Int32 → Heap → Prop) : Option Value → Heap → Prop := fun v h => ∃ r, v = some (.int r) ∧ P r h
def RJ (P : Int64 → Heap → Prop) : Option Value → Heap → Prop := fun v h => ∃ r, v = some (.long r) ∧ P r h
def RA (P : Addr → Heap → Prop) : Option Value → Heap → Prop := fun v h => ∃ r, v = some (.ref r) ∧ P r h
def RV (P : Heap → Prop) : Option Value → Heap → Prop := fun v h => v = none ∧ P h
theorem kI {P : Int32 → Heap → Prop} {W : WT} {k n pc : Nat} {Ls : Array Slot} {rest : List Value} (q : ∀ r h, P r h → W h k n pc Ls (.int r :: rest)) : ∀ v h, RI P v h → W h k n pc Ls (v.toList ++ rest) := by
  rintro _ h ⟨r, rfl, p⟩; exact q r h p
theorem kJ {P : Int64 → Heap → Prop} {W : WT} {k n pc : Nat} {Ls : Array Slot} {rest : List Value} (q : ∀ r h, P r h → W h k n pc Ls (.long r :: rest)) : ∀ v h, RJ P v h → W h k n pc Ls (v.toList ++ rest) := by
  rintro _ h ⟨r, rfl, p⟩; exact q r h p
theorem kA {P : Addr → Heap → Prop} {W : WT} {k n pc : Nat} {Ls : Array Slot} {rest : List Value} (q : ∀ r h, P r h → W h k n pc Ls (.ref r :: rest)) : ∀ v h, RA P v h → W h k n pc Ls (v.toList ++ rest) := by
  rintro _ h ⟨r, rfl, p⟩; exact q r h p
theorem kV {P : Heap → Prop} {W : WT} {k n pc : Nat} {Ls : Array Slot} {rest : List Value} (q : ∀ h, P h → W h k n pc Ls rest) : ∀ v h, RV P v h → W h k n pc Ls (v.toList ++ rest) := by
  rintro _ h ⟨rfl, p⟩; exact q h p
/-- the same, for a callee that leaves the heap as it was and returns just this -/
theorem kI0 {P : Int32 → Prop} {h0 : Heap} {W : WT} {k n pc : Nat} {Ls : Array Slot} {rest : List Value} (q : ∀ r, P r → W h0 k n pc Ls (.int r :: rest)) : ∀ v h, RI (fun r h => P r ∧ h = h0) v h → W h k n pc Ls (v.toList ++ rest) := by
  rintro _ h ⟨r, rfl, p, rfl⟩; exact q r p
theorem kJ0 {P : Int64 → Prop} {h0 : Heap} {W : WT} {k n pc : Nat} {Ls : Array Slot} {rest : List Value} (q : ∀ r, P r → W h0 k n pc Ls (.long r :: rest)) : ∀ v h, RJ (fun r h => P r ∧ h = h0) v h → W h k n pc Ls (v.toList ++ rest) := by
  rintro _ h ⟨r, rfl, p, rfl⟩; exact q r p
theorem kIe {x : Int32} {h0 : Heap} {W : WT} {k n pc : Nat} {Ls : Array Slot} {rest : List Value} (q : W h0 k n pc Ls (.int x :: rest)) : ∀ v h, RI (fun r h => r = x ∧ h = h0) v h → W h k n pc Ls (v.toList ++ rest) := by
  rintro _ h ⟨r, rfl, rfl, rfl⟩; exact q
theorem kJe {x : Int64} {h0 : Heap} {W : WT} {k n pc : Nat} {Ls : Array Slot} {rest : List Value} (q : W h0 k n pc Ls (.long x :: rest)) : ∀ v h, RJ (fun r h => r = x ∧ h = h0) v h → W h k n pc Ls (v.toList ++ rest) := by
  rintro _ h ⟨r, rfl, rfl, rfl⟩; exact q
theorem exaLt {Z : State} {h : Heap} {a : Addr} {C : String} (F : Exa Z h a C) : a < h.size := by obtain ⟨c, _, h1, -⟩ := F; exact (Array.getElem?_eq_some_iff.mp h1).1
end Jvm.OwnW

namespace Jvm.Pilot.@@N@@
open Jvm Jvm.ClassFile Sem Op Lib Jvm.Free Jvm.Stand Jvm.LawKit Jvm.RoadKit Bundle Jvm.Pilot.@@N@@.Jvm.D Jvm.OwnW

def grt (x : Int64) (y : Int32) (z : Int64) (w : Int32) : Int32 := (if x = z then (if w < y then (1 : Int32) else 0) else (if z < x then (1 : Int32) else 0))
theorem own_q {p s mode : Int32} (h : ((mode &&& (2 : Int32)) = (0 : Int32) ∧ s = (p &&& (65535 : Int32))) ∨ (¬ ((mode &&& (2 : Int32)) = (0 : Int32)) ∧ s = (65535 : Int32))) : 0 ≤ s.toInt ∧ s.toInt ≤ 65535 := by
  rcases h with ⟨-, rfl⟩ | ⟨-, rfl⟩
  · have m := c_mask p 65535 16 (by decide) (by decide)
    omega
  · decide
theorem own_cases {m now rm : Int64} {q rs : Int32} (e1 : rm = (if m < now then now else if q < (65535 : Int32) then m else m + (1 : Int64))) (e2 : rs = (if m < now then (0 : Int32) else if q < (65535 : Int32) then q + (1 : Int32) else 0)) (hq : 0 ≤ q.toInt ∧ q.toInt ≤ 65535) (hm : (¬ (m = (9223372036854775807 : Int64)) ∧ True) ∨ (m = (9223372036854775807 : Int64) ∧ ¬ (q = (65535 : Int32)) ∧ True)) :
    (m.toInt < now.toInt ∧ rm.toInt = now.toInt ∧ rs.toInt = 0) ∨ (now.toInt ≤ m.toInt ∧ q.toInt < 65535 ∧ rm.toInt = m.toInt ∧ rs.toInt = q.toInt + 1) ∨ (now.toInt ≤ m.toInt ∧ q.toInt = 65535 ∧ rm.toInt = m.toInt + 1 ∧ rs.toInt = 0) := by
  have k65 : (65535 : Int32).toInt = 65535 := by decide
  have k0 : (0 : Int32).toInt = 0 := by decide
  have k1 : (1 : Int32).toInt = 1 := by decide
  have j1 : (1 : Int64).toInt = 1 := by decide
  have kM : (9223372036854775807 : Int64).toInt = 9223372036854775807 := by decide
  have a1 := c_iadd q 1; have b1 := rng32 (q + 1); have a2 := c_ladd m 1; have b2 := rng64 (m + 1); have b3 := rng64 m
  by_cases h1 : m < now
  · rw [if_pos h1] at e1 e2
    rw [Int64.lt_iff_toInt_lt] at h1
    exact Or.inl ⟨h1, by rw [e1], by rw [e2]; exact k0⟩
  · rw [if_neg h1] at e1 e2
    rw [Int64.lt_iff_toInt_lt] at h1
    by_cases h2 : q < (65535 : Int32)
    · rw [if_pos h2] at e1 e2
      rw [Int32.lt_iff_toInt_lt] at h2
      exact Or.inr (Or.inl ⟨by omega, by omega, by rw [e1], by rw [e2]; omega⟩)
    · rw [if_neg h2] at e1 e2
      rw [Int32.lt_iff_toInt_lt] at h2
      have hq2 : q.toInt = 65535 := by omega
      have hm2 : ¬ m.toInt = 9223372036854775807 := by
        rcases hm with ⟨h, -⟩ | ⟨-, h, -⟩
        · intro e; exact h (Int64.toInt_inj.mp (by rw [e, kM]))
        · exact absurd (Int32.toInt_inj.mp (by rw [hq2, k65])) h
      exact Or.inr (Or.inr ⟨by omega, hq2, by rw [e1]; omega, by rw [e2]; exact k0⟩)
theorem own_grt1 {x z : Int64} {y w : Int32} (h : z.toInt < x.toInt ∨ (x.toInt = z.toInt ∧ w.toInt < y.toInt)) : ¬ (grt x y z w = 0) := by
  unfold grt
  rcases h with h | ⟨h1, h2⟩
  · rw [if_neg (fun e => by rw [e] at h; omega), if_pos (Int64.lt_iff_toInt_lt.mpr h)]; decide
  · rw [if_pos (Int64.toInt_inj.mp h1), if_pos (Int32.lt_iff_toInt_lt.mpr h2)]; decide
theorem own_grt0 {x z : Int64} {y w : Int32} (h : x.toInt < z.toInt ∨ (x.toInt = z.toInt ∧ y.toInt ≤ w.toInt)) : grt x y z w = 0 := by
  unfold grt
  rcases h with h | ⟨h1, h2⟩
  · rw [if_neg (fun e => by rw [e] at h; omega), if_neg (fun q => by rw [Int64.lt_iff_toInt_lt] at q; omega)]
  · rw [if_pos (Int64.toInt_inj.mp h1), if_neg (fun q => by rw [Int32.lt_iff_toInt_lt] at q; omega)]

theorem own_r1 {m now rm : Int64} {q rs : Int32} (h : (m.toInt < now.toInt ∧ rm.toInt = now.toInt ∧ rs.toInt = 0) ∨ (now.toInt ≤ m.toInt ∧ q.toInt < 65535 ∧ rm.toInt = m.toInt ∧ rs.toInt = q.toInt + 1) ∨ (now.toInt ≤ m.toInt ∧ q.toInt = 65535 ∧ rm.toInt = m.toInt + 1 ∧ rs.toInt = 0)) (hq : 0 ≤ q.toInt ∧ q.toInt ≤ 65535) : ¬ (rs < (0 : Int32)) := by
  rw [Int32.lt_iff_toInt_lt]; have k0 : (0 : Int32).toInt = 0 := by decide
  omega
theorem own_r2 {m now rm : Int64} {q rs : Int32} (h : (m.toInt < now.toInt ∧ rm.toInt = now.toInt ∧ rs.toInt = 0) ∨ (now.toInt ≤ m.toInt ∧ q.toInt < 65535 ∧ rm.toInt = m.toInt ∧ rs.toInt = q.toInt + 1) ∨ (now.toInt ≤ m.toInt ∧ q.toInt = 65535 ∧ rm.toInt = m.toInt + 1 ∧ rs.toInt = 0)) (hq : 0 ≤ q.toInt ∧ q.toInt ≤ 65535) : ¬ ((65535 : Int32) < rs) := by
  rw [Int32.lt_iff_toInt_lt]; have k0 : (65535 : Int32).toInt = 65535 := by decide
  omega
theorem own_r3 {m now rm : Int64} {q rs : Int32} (h : (m.toInt < now.toInt ∧ rm.toInt = now.toInt ∧ rs.toInt = 0) ∨ (now.toInt ≤ m.toInt ∧ q.toInt < 65535 ∧ rm.toInt = m.toInt ∧ rs.toInt = q.toInt + 1) ∨ (now.toInt ≤ m.toInt ∧ q.toInt = 65535 ∧ rm.toInt = m.toInt + 1 ∧ rs.toInt = 0)) (hq : 0 ≤ q.toInt ∧ q.toInt ≤ 65535) : ¬ (rm < now) := by rw [Int64.lt_iff_toInt_lt]; omega
theorem own_r4 {m now rm : Int64} {q rs : Int32} (h : (m.toInt < now.toInt ∧ rm.toInt = now.toInt ∧ rs.toInt = 0) ∨ (now.toInt ≤ m.toInt ∧ q.toInt < 65535 ∧ rm.toInt = m.toInt ∧ rs.toInt = q.toInt + 1) ∨ (now.toInt ≤ m.toInt ∧ q.toInt = 65535 ∧ rm.toInt = m.toInt + 1 ∧ rs.toInt = 0)) (hq : 0 ≤ q.toInt ∧ q.toInt ≤ 65535) : ¬ (grt rm rs m q = 0) := own_grt1 (by omega)
theorem own_r5 {m now rm : Int64} {q rs : Int32} (h : (m.toInt < now.toInt ∧ rm.toInt = now.toInt ∧ rs.toInt = 0) ∨ (now.toInt ≤ m.toInt ∧ q.toInt < 65535 ∧ rm.toInt = m.toInt ∧ rs.toInt = q.toInt + 1) ∨ (now.toInt ≤ m.toInt ∧ q.toInt = 65535 ∧ rm.toInt = m.toInt + 1 ∧ rs.toInt = 0)) (hq : 0 ≤ q.toInt ∧ q.toInt ≤ 65535) (c : ¬ (rs = (0 : Int32))) : (0 : Int32) < rs := by
  rw [Int32.lt_iff_toInt_lt]; have k0 : (0 : Int32).toInt = 0 := by decide
  rw [← Int32.toInt_inj] at c
  omega
theorem own_r6 {m now rm : Int64} {q rs : Int32} (h : (m.toInt < now.toInt ∧ rm.toInt = now.toInt ∧ rs.toInt = 0) ∨ (now.toInt ≤ m.toInt ∧ q.toInt < 65535 ∧ rm.toInt = m.toInt ∧ rs.toInt = q.toInt + 1) ∨ (now.toInt ≤ m.toInt ∧ q.toInt = 65535 ∧ rm.toInt = m.toInt + 1 ∧ rs.toInt = 0)) (hq : 0 ≤ q.toInt ∧ q.toInt ≤ 65535) (c : ¬ (rs = (0 : Int32))) : grt rm (rs - 1) m q = 0 := by
  have k0 : (0 : Int32).toInt = 0 := by decide
  have k1 : (1 : Int32).toInt = 1 := by decide
  rw [← Int32.toInt_inj] at c
  have a := c_isub rs 1; have b := rng32 (rs - 1)
  exact own_grt0 (by omega)
theorem own_r7 {m now rm : Int64} {q rs : Int32} (h : (m.toInt < now.toInt ∧ rm.toInt = now.toInt ∧ rs.toInt = 0) ∨ (now.toInt ≤ m.toInt ∧ q.toInt < 65535 ∧ rm.toInt = m.toInt ∧ rs.toInt = q.toInt + 1) ∨ (now.toInt ≤ m.toInt ∧ q.toInt = 65535 ∧ rm.toInt = m.toInt + 1 ∧ rs.toInt = 0)) (hq : 0 ≤ q.toInt ∧ q.toInt ≤ 65535) (c : rs = (0 : Int32)) (d : ¬ (rm = (-9223372036854775808 : Int64))) (e : ¬ (rm - 1 < now)) : grt (rm - 1) 65535 m q = 0 := by
  have k0 : (0 : Int32).toInt = 0 := by decide
  have j1 : (1 : Int64).toInt = 1 := by decide
  have k65 : (65535 : Int32).toInt = 65535 := by decide
  have kM : (-9223372036854775808 : Int64).toInt = -9223372036854775808 := by decide
  rw [← Int32.toInt_inj] at c; rw [← Int64.toInt_inj] at d; rw [Int64.lt_iff_toInt_lt] at e
  have a := c_lsub rm 1; have b := rng64 (rm - 1); have b2 := rng64 rm
  exact own_grt0 (by omega)
theorem own_n7 {rm : Int64} (d : ¬ (rm = (-9223372036854775808 : Int64))) : rm - 1 < rm := by
  have j1 : (1 : Int64).toInt = 1 := by decide
  have kM : (-9223372036854775808 : Int64).toInt = -9223372036854775808 := by decide
  rw [← Int64.toInt_inj] at d; rw [Int64.lt_iff_toInt_lt]
  have a := c_lsub rm 1; have b := rng64 (rm - 1); have b2 := rng64 rm
  omega

theorem od2_0 : decode jdk_30_method_1_code 0 = .ok (.aload_n 0, 1) := by decide +kernel
theorem od2_1 : decode jdk_30_method_1_code 1 = .ok (.invokespecial 1, 3) := by decide +kernel
theorem ow13 {a0 : Array Value} {Z : State} (hw : ∀ d ∈ tables_1, d.before a0 Z = true) : (Jvm.Cond.methodLink "java/lang/Record" (1 : Nat) ({ cls := "java/lang/Object", name := "<init>", desc := "()V" } : Jvm.MethodName)).before a0 Z = true := hw _ (List.mem_of_getElem? (i := 13) rfl)
theorem ow14 {a0 : Array Value} {Z : State} (hw : ∀ d ∈ tables_1, d.before a0 Z = true) : (Jvm.Cond.instanceMethod ({ cls := "java/lang/Object", name := "<init>", desc := "()V" } : Jvm.MethodName)).before a0 Z = true := hw _ (List.mem_of_getElem? (i := 14) rfl)
theorem ow15 {a0 : Array Value} {Z : State} (hw : ∀ d ∈ tables_1, d.before a0 Z = true) : (Jvm.Cond.code ({ cls := "java/lang/Object", name := "<init>", desc := "()V" } : Jvm.MethodName) object_method_1_code (1 : Nat) (Option.none : Option Jvm.ClassFile.FieldType)).before a0 Z = true := hw _ (List.mem_of_getElem? (i := 15) rfl)
theorem od2_4 : decode jdk_30_method_1_code 4 = .ok (.return_, 1) := by decide +kernel
theorem ef_own_rm2 (m : MethodId) (x0 : Addr) : entryFrame m #[(.ref x0)] 1 = mkF m 0 #[.val (.ref x0)] [] := by first | (simp [entryFrame, mkF, argsToLocals, Value.category]; done) | rfl
theorem pn_java_lang_Record__init____V : plainFor (⟨"java/lang/Record", "<init>", "()V"⟩ : MethodName) = true := plainFor_of_name (by first | (simp [plainName, overriddenIn]; done) | decide +kernel)
set_option maxRecDepth 65536 in
set_option maxHeartbeats 40000000 in
theorem own_rm2 (l : Launch) (Z : State) (a0 : Array Value) (hw : ∀ d ∈ tables_1, d.before a0 Z = true) (n0 : Nat) (hO : Heap) (a : Addr) :
    MeetsW l Z n0 (⟨"java/lang/Record", "<init>", "()V"⟩ : MethodName) jdk_30_method_1_code 1 none ({ frames := 1, cells := 0, slots := 0, locals := 12 } : Room) #[(.ref a)] hO (RV fun h => h = hO) := by
  refine MeetsW.intro pn_java_lang_Record__init____V (fun m => ef_own_rm2 m a) ?_
  intro W C
  replace C : Ru l Z "java/lang/Record" jdk_30_method_1_code 1 none "<init>" ({ frames := 1, cells := 0, slots := 0, locals := 12 } : Room) n0 (RV fun h => h = hO) W := C
  refine C.aloadN (pc' := 1) od2_0 rfl rfl rfl ?_
  refine C.initObj (w := 0) (ow13 hw) (ow14 hw) (ow15 hw) (pc' := 4) od2_1 rfl rfl (by decide) (Nat.le_of_eq rfl) (by decide) ?_
  refine C.retV rfl od2_4 (by decide) (by decide) ⟨rfl, ?_⟩
  exact rfl
theorem od1_0 : decode prog_8_method_1_code 0 = .ok (.aload_n 0, 1) := by decide +kernel
theorem od1_1 : decode prog_8_method_1_code 1 = .ok (.invokespecial 1, 3) := by decide +kernel
theorem pd___V : parseMethodDescriptor "()V" = some ⟨[], none⟩ := by decide +kernel
theorem ow12 {a0 : Array Value} {Z : State} (hw : ∀ d ∈ tables_1, d.before a0 Z = true) : (Jvm.Cond.code ({ cls := "java/lang/Record", name := "<init>", desc := "()V" } : Jvm.MethodName) jdk_30_method_1_code (1 : Nat) (Option.none : Option Jvm.ClassFile.FieldType)).before a0 Z = true := hw _ (List.mem_of_getElem? (i := 12) rfl)
theorem ow11 {a0 : Array Value} {Z : State} (hw : ∀ d ∈ tables_1, d.before a0 Z = true) : (Jvm.Cond.initialized "java/lang/Record").before a0 Z = true := hw _ (List.mem_of_getElem? (i := 11) rfl)
theorem ow8 {a0 : Array Value} {Z : State} (hw : ∀ d ∈ tables_1, d.before a0 Z = true) : (Jvm.Cond.methodLink "com/example/outbox/outbox/Stamp" (1 : Nat) ({ cls := "java/lang/Record", name := "<init>", desc := "()V" } : Jvm.MethodName)).before a0 Z = true := hw _ (List.mem_of_getElem? (i := 8) rfl)
theorem ow9 {a0 : Array Value} {Z : State} (hw : ∀ d ∈ tables_1, d.before a0 Z = true) : (Jvm.Cond.instanceMethod ({ cls := "java/lang/Record", name := "<init>", desc := "()V" } : Jvm.MethodName)).before a0 Z = true := hw _ (List.mem_of_getElem? (i := 9) rfl)
theorem od1_4 : decode prog_8_method_1_code 4 = .ok (.aload_n 0, 1) := by decide +kernel
theorem od1_5 : decode prog_8_method_1_code 5 = .ok (.lload_n 1, 1) := by decide +kernel
theorem ow17 {a0 : Array Value} {Z : State} (hw : ∀ d ∈ tables_1, d.before a0 Z = true) : (Jvm.Cond.laysFinal "com/example/outbox/outbox/Stamp" "com/example/outbox/outbox/Stamp" "millis" "J").before a0 Z = true := hw _ (List.mem_of_getElem? (i := 17) rfl)
theorem ow16 {a0 : Array Value} {Z : State} (hw : ∀ d ∈ tables_1, d.before a0 Z = true) : (Jvm.Cond.fieldLink "com/example/outbox/outbox/Stamp" (7 : Nat) "com/example/outbox/outbox/Stamp" "millis" "J").before a0 Z = true := hw _ (List.mem_of_getElem? (i := 16) rfl)
theorem ow3 {a0 : Array Value} {Z : State} (hw : ∀ d ∈ tables_1, d.before a0 Z = true) : (Jvm.Cond.instantiable "com/example/outbox/outbox/Stamp" (2 : Nat)).before a0 Z = true := hw _ (List.mem_of_getElem? (i := 3) rfl)
theorem pf_J : parseFieldDescriptor "J" = some .long := by decide
theorem od1_6 : decode prog_8_method_1_code 6 = .ok (.putfield 7, 3) := by decide +kernel
theorem ow19 {a0 : Array Value} {Z : State} (hw : ∀ d ∈ tables_1, d.before a0 Z = true) : (Jvm.Cond.laysFinal "com/example/outbox/outbox/Stamp" "com/example/outbox/outbox/Stamp" "sequence" "I").before a0 Z = true := hw _ (List.mem_of_getElem? (i := 19) rfl)
theorem pf_I : parseFieldDescriptor "I" = some .int := by decide
theorem sne_19_17 {a0 : Array Value} {Z : State} (hw : ∀ d ∈ tables_1, d.before a0 Z = true) : Jvm.RoadKit.slotOf Z "com/example/outbox/outbox/Stamp" "sequence" "I" ≠ Jvm.RoadKit.slotOf Z "com/example/outbox/outbox/Stamp" "millis" "J" := slot_ne (C := "com/example/outbox/outbox/Stamp") (a0 := a0) (Or.inr (ow19 hw)) (Or.inr (ow17 hw)) (by decide) pf_I pf_J
theorem od1_9 : decode prog_8_method_1_code 9 = .ok (.aload_n 0, 1) := by decide +kernel
theorem od1_10 : decode prog_8_method_1_code 10 = .ok (.iload_n 3, 1) := by decide +kernel
theorem ow18 {a0 : Array Value} {Z : State} (hw : ∀ d ∈ tables_1, d.before a0 Z = true) : (Jvm.Cond.fieldLink "com/example/outbox/outbox/Stamp" (13 : Nat) "com/example/outbox/outbox/Stamp" "sequence" "I").before a0 Z = true := hw _ (List.mem_of_getElem? (i := 18) rfl)
theorem od1_11 : decode prog_8_method_1_code 11 = .ok (.putfield 13, 3) := by decide +kernel
theorem sne_17_19 {a0 : Array Value} {Z : State} (hw : ∀ d ∈ tables_1, d.before a0 Z = true) : Jvm.RoadKit.slotOf Z "com/example/outbox/outbox/Stamp" "millis" "J" ≠ Jvm.RoadKit.slotOf Z "com/example/outbox/outbox/Stamp" "sequence" "I" := slot_ne (C := "com/example/outbox/outbox/Stamp") (a0 := a0) (Or.inr (ow17 hw)) (Or.inr (ow19 hw)) (by decide) pf_J pf_I
theorem od1_14 : decode prog_8_method_1_code 14 = .ok (.return_, 1) := by decide +kernel
theorem ef_own_rm1 (m : MethodId) (x0 : Addr) (x1 : Int64) (x2 : Int32) : entryFrame m #[(.ref x0), (.long x1), (.int x2)] 4 = mkF m 0 #[.val (.ref x0), .val (.long x1), .second, .val (.int x2)] [] := by first | (simp [entryFrame, mkF, argsToLocals, Value.category]; done) | rfl
theorem pn_com_example_outbox_outbox_Stamp__init___JI_V : plainFor (⟨"com/example/outbox/outbox/Stamp", "<init>", "(JI)V"⟩ : MethodName) = true := plainFor_of_name (by first | (simp [plainName, overriddenIn]; done) | decide +kernel)
set_option maxRecDepth 65536 in
set_option maxHeartbeats 40000000 in
theorem own_rm1 (l : Launch) (Z : State) (a0 : Array Value) (hw : ∀ d ∈ tables_1, d.before a0 Z = true) (n0 : Nat) (hO : Heap) (a : Addr) (x : Int64) (y : Int32) (Z0 : n0 ≤ hO.size) (E_a : Exa Z hO a "com/example/outbox/outbox/Stamp") (F_a_millis : Fld Z hO a "com/example/outbox/outbox/Stamp" "millis" "J" (.long (0 : Int64))) (F_a_sequence : Fld Z hO a "com/example/outbox/outbox/Stamp" "sequence" "I" (.int (0 : Int32))) (g_a : n0 ≤ a) :
    MeetsW l Z n0 (⟨"com/example/outbox/outbox/Stamp", "<init>", "(JI)V"⟩ : MethodName) prog_8_method_1_code 4 none ({ frames := 2, cells := 0, slots := 0, locals := 24 } : Room) #[(.ref a), (.long x), (.int y)] hO (RV fun h => Keep hO h [a] ∧ Fld Z h a "com/example/outbox/outbox/Stamp" "millis" "J" (.long x) ∧ Fld Z h a "com/example/outbox/outbox/Stamp" "sequence" "I" (.int y)) := by
  refine MeetsW.intro pn_com_example_outbox_outbox_Stamp__init___JI_V (fun m => ef_own_rm1 m a x y) ?_
  intro W C
  replace C : Ru l Z "com/example/outbox/outbox/Stamp" prog_8_method_1_code 4 none "<init>" ({ frames := 2, cells := 0, slots := 0, locals := 24 } : Room) n0 (RV fun h => Keep hO h [a] ∧ Fld Z h a "com/example/outbox/outbox/Stamp" "millis" "J" (.long x) ∧ Fld Z h a "com/example/outbox/outbox/Stamp" "sequence" "I" (.int y)) W := C
  have K : Keep hO hO [a] := Keep.refl _ _
  refine C.aloadN (pc' := 1) od1_0 rfl rfl rfl ?_
  refine C.callc (w := 0) (own_rm2 l Z a0 hw n0 hO a) rfl (ow8 hw) (ow9 hw) (ow11 hw) (ow12 hw) (pc' := 4) od1_1 rfl rfl rfl (by decide) pd___V rfl (by decide) (Nat.le_of_eq rfl) (by decide) (by decide) (by decide) (kV fun h1 q1 => ?_)
  obtain ⟨rfl⟩ := q1
  refine C.aloadN (pc' := 5) od1_4 rfl rfl rfl ?_
  refine C.lloadN (pc' := 6) od1_5 rfl rfl ?_
  refine C.putf (ow16 hw) Via.refl F_a_millis E_a (Or.inr ⟨(ow17 hw), rfl, rfl⟩) (ow3 hw) pf_J rfl rfl g_a (pc' := 9) od1_6 rfl (fun h6 X6 => ?_)
  replace F_a_millis := F_a_millis.same X6
  replace E_a := E_a.wr X6
  replace F_a_sequence := F_a_sequence.other X6 (Or.inr (sne_19_17 hw))
  replace K := K.wr X6 (Or.inl (List.mem_of_getElem? (i := 0) rfl))
  refine C.aloadN (pc' := 10) od1_9 rfl rfl rfl ?_
  refine C.iloadN (pc' := 11) od1_10 rfl rfl ?_
  refine C.putf (ow18 hw) Via.refl F_a_sequence E_a (Or.inr ⟨(ow19 hw), rfl, rfl⟩) (ow3 hw) pf_I rfl rfl g_a (pc' := 14) od1_11 rfl (fun h11 X11 => ?_)
  replace F_a_sequence := F_a_sequence.same X11
  replace E_a := E_a.wr X11
  replace F_a_millis := F_a_millis.other X11 (Or.inr (sne_17_19 hw))
  replace K := K.wr X11 (Or.inl (List.mem_of_getElem? (i := 0) rfl))
  refine C.retV rfl od1_14 (by decide) (by decide) ⟨rfl, ?_⟩
  exact ⟨K, F_a_millis, F_a_sequence⟩
theorem od5_0 : decode prog_8_method_6_code 0 = .ok (.aload_n 0, 1) := by decide +kernel
theorem od5_1 : decode prog_8_method_6_code 1 = .ok (.getfield 7, 3) := by decide +kernel
theorem od5_4 : decode prog_8_method_6_code 4 = .ok (.lreturn, 1) := by decide +kernel
theorem ef_own_rm5 (m : MethodId) (x0 : Addr) : entryFrame m #[(.ref x0)] 1 = mkF m 0 #[.val (.ref x0)] [] := by first | (simp [entryFrame, mkF, argsToLocals, Value.category]; done) | rfl
theorem pn_com_example_outbox_outbox_Stamp_millis___J : plainFor (⟨"com/example/outbox/outbox/Stamp", "millis", "()J"⟩ : MethodName) = true := plainFor_of_name (by first | (simp [plainName, overriddenIn]; done) | decide +kernel)
set_option maxRecDepth 65536 in
set_option maxHeartbeats 40000000 in
theorem own_rm5 (l : Launch) (Z : State) (a0 : Array Value) (hw : ∀ d ∈ tables_1, d.before a0 Z = true) (n0 : Nat) (hO : Heap) (a : Addr) (x : Int64) (F_a_millis : Fld Z hO a "com/example/outbox/outbox/Stamp" "millis" "J" (.long x)) :
    MeetsW l Z n0 (⟨"com/example/outbox/outbox/Stamp", "millis", "()J"⟩ : MethodName) prog_8_method_6_code 1 (some .long) ({ frames := 0, cells := 0, slots := 0, locals := 0 } : Room) #[(.ref a)] hO (RJ fun r h => r = x ∧ h = hO) := by
  refine MeetsW.intro pn_com_example_outbox_outbox_Stamp_millis___J (fun m => ef_own_rm5 m a) ?_
  intro W C
  replace C : Ru l Z "com/example/outbox/outbox/Stamp" prog_8_method_6_code 1 (some .long) "millis" ({ frames := 0, cells := 0, slots := 0, locals := 0 } : Room) n0 (RJ fun r h => r = x ∧ h = hO) W := C
  refine C.aloadN (pc' := 1) od5_0 rfl rfl rfl ?_
  refine C.getf (ow16 hw) Via.refl F_a_millis (pc' := 4) od5_1 rfl ?_
  refine C.retJ rfl od5_4 (by decide) (by decide) ⟨_, rfl, ?_⟩
  exact ⟨(by subst_vars; rfl), rfl⟩
theorem od6_0 : decode prog_8_method_7_code 0 = .ok (.aload_n 0, 1) := by decide +kernel
theorem od6_1 : decode prog_8_method_7_code 1 = .ok (.getfield 13, 3) := by decide +kernel
theorem od6_4 : decode prog_8_method_7_code 4 = .ok (.ireturn, 1) := by decide +kernel
theorem ef_own_rm6 (m : MethodId) (x0 : Addr) : entryFrame m #[(.ref x0)] 1 = mkF m 0 #[.val (.ref x0)] [] := by first | (simp [entryFrame, mkF, argsToLocals, Value.category]; done) | rfl
theorem pn_com_example_outbox_outbox_Stamp_sequence___I : plainFor (⟨"com/example/outbox/outbox/Stamp", "sequence", "()I"⟩ : MethodName) = true := plainFor_of_name (by first | (simp [plainName, overriddenIn]; done) | decide +kernel)
set_option maxRecDepth 65536 in
set_option maxHeartbeats 40000000 in
theorem own_rm6 (l : Launch) (Z : State) (a0 : Array Value) (hw : ∀ d ∈ tables_1, d.before a0 Z = true) (n0 : Nat) (hO : Heap) (a : Addr) (x : Int32) (F_a_sequence : Fld Z hO a "com/example/outbox/outbox/Stamp" "sequence" "I" (.int x)) :
    MeetsW l Z n0 (⟨"com/example/outbox/outbox/Stamp", "sequence", "()I"⟩ : MethodName) prog_8_method_7_code 1 (some .int) ({ frames := 0, cells := 0, slots := 0, locals := 0 } : Room) #[(.ref a)] hO (RI fun r h => r = x ∧ h = hO) := by
  refine MeetsW.intro pn_com_example_outbox_outbox_Stamp_sequence___I (fun m => ef_own_rm6 m a) ?_
  intro W C
  replace C : Ru l Z "com/example/outbox/outbox/Stamp" prog_8_method_7_code 1 (some .int) "sequence" ({ frames := 0, cells := 0, slots := 0, locals := 0 } : Room) n0 (RI fun r h => r = x ∧ h = hO) W := C
  refine C.aloadN (pc' := 1) od6_0 rfl rfl rfl ?_
  refine C.getf (ow18 hw) Via.refl F_a_sequence (pc' := 4) od6_1 rfl ?_
  refine C.retI rfl od6_4 (by decide) (by decide) ⟨_, rfl, ?_⟩
  exact ⟨(by subst_vars; rfl), rfl⟩
theorem od4_0 : decode prog_8_method_2_code 0 = .ok (.aload_n 0, 1) := by decide +kernel
theorem od4_1 : decode prog_8_method_2_code 1 = .ok (.ifnull 12, 3) := by decide +kernel
theorem ow24 {a0 : Array Value} {Z : State} (hw : ∀ d ∈ tables_1, d.before a0 Z = true) : (Jvm.Cond.classLink "com/example/outbox/outbox/Stamp" (8 : Nat) "com/example/outbox/outbox/Stamp").before a0 Z = true := hw _ (List.mem_of_getElem? (i := 24) rfl)
theorem ow4 {a0 : Array Value} {Z : State} (hw : ∀ d ∈ tables_1, d.before a0 Z = true) : (Jvm.Cond.initialized "com/example/outbox/outbox/Stamp").before a0 Z = true := hw _ (List.mem_of_getElem? (i := 4) rfl)
theorem od4_13 : decode prog_8_method_2_code 13 = .ok (.new 8, 3) := by decide +kernel
theorem od4_16 : decode prog_8_method_2_code 16 = .ok (.dup, 1) := by decide +kernel
theorem od4_17 : decode prog_8_method_2_code 17 = .ok (.lload_n 1, 1) := by decide +kernel
theorem od4_18 : decode prog_8_method_2_code 18 = .ok (.iconst 0, 1) := by decide +kernel
theorem od4_19 : decode prog_8_method_2_code 19 = .ok (.invokespecial 17, 3) := by decide +kernel
theorem pd__JI_V : parseMethodDescriptor "(JI)V" = some ⟨[.long, .int], none⟩ := by decide +kernel
theorem ow7 {a0 : Array Value} {Z : State} (hw : ∀ d ∈ tables_1, d.before a0 Z = true) : (Jvm.Cond.code ({ cls := "com/example/outbox/outbox/Stamp", name := "<init>", desc := "(JI)V" } : Jvm.MethodName) prog_8_method_1_code (4 : Nat) (Option.none : Option Jvm.ClassFile.FieldType)).before a0 Z = true := hw _ (List.mem_of_getElem? (i := 7) rfl)
theorem ow25 {a0 : Array Value} {Z : State} (hw : ∀ d ∈ tables_1, d.before a0 Z = true) : (Jvm.Cond.methodLink "com/example/outbox/outbox/Stamp" (17 : Nat) ({ cls := "com/example/outbox/outbox/Stamp", name := "<init>", desc := "(JI)V" } : Jvm.MethodName)).before a0 Z = true := hw _ (List.mem_of_getElem? (i := 25) rfl)
theorem ow6 {a0 : Array Value} {Z : State} (hw : ∀ d ∈ tables_1, d.before a0 Z = true) : (Jvm.Cond.instanceMethod ({ cls := "com/example/outbox/outbox/Stamp", name := "<init>", desc := "(JI)V" } : Jvm.MethodName)).before a0 Z = true := hw _ (List.mem_of_getElem? (i := 6) rfl)
theorem od4_22 : decode prog_8_method_2_code 22 = .ok (.areturn, 1) := by decide +kernel
theorem ef_own_rm4n (m : MethodId) (x1 : Int64) : entryFrame m #[.null, (.long x1)] 3 = mkF m 0 #[.val .null, .val (.long x1), .second] [] := by first | (simp [entryFrame, mkF, argsToLocals, Value.category]; done) | rfl
theorem pn_com_example_outbox_outbox_Stamp_next__Lcom_example_outbox_outbox_Stamp_J_Lcom_example_outbox_outbox_Stamp_ : plainFor (⟨"com/example/outbox/outbox/Stamp", "next", "(Lcom/example/outbox/outbox/Stamp;J)Lcom/example/outbox/outbox/Stamp;"⟩ : MethodName) = true := plainFor_of_name (by first | (simp [plainName, overriddenIn]; done) | decide +kernel)
set_option maxRecDepth 65536 in
set_option maxHeartbeats 40000000 in
theorem own_rm4n (l : Launch) (Z : State) (a0 : Array Value) (hw : ∀ d ∈ tables_1, d.before a0 Z = true) (n0 : Nat) (hO : Heap) (now : Int64) (Z0 : n0 ≤ hO.size) :
    MeetsW l Z n0 (⟨"com/example/outbox/outbox/Stamp", "next", "(Lcom/example/outbox/outbox/Stamp;J)Lcom/example/outbox/outbox/Stamp;"⟩ : MethodName) prog_8_method_2_code 3 (some (.object "com/example/outbox/outbox/Stamp")) ({ frames := 3, cells := 1, slots := 2, locals := 40 } : Room) #[.null, (.long now)] hO (RA fun r h => Keep hO h [] ∧ hO.size ≤ r ∧ Exa Z h r "com/example/outbox/outbox/Stamp" ∧ Fld Z h r "com/example/outbox/outbox/Stamp" "millis" "J" (.long now) ∧ Fld Z h r "com/example/outbox/outbox/Stamp" "sequence" "I" (.int (0 : Int32))) := by
  refine MeetsW.intro pn_com_example_outbox_outbox_Stamp_next__Lcom_example_outbox_outbox_Stamp_J_Lcom_example_outbox_outbox_Stamp_ (fun m => ef_own_rm4n m now) ?_
  intro W C
  replace C : Ru l Z "com/example/outbox/outbox/Stamp" prog_8_method_2_code 3 (some (.object "com/example/outbox/outbox/Stamp")) "next" ({ frames := 3, cells := 1, slots := 2, locals := 40 } : Room) n0 (RA fun r h => Keep hO h [] ∧ hO.size ≤ r ∧ Exa Z h r "com/example/outbox/outbox/Stamp" ∧ Fld Z h r "com/example/outbox/outbox/Stamp" "millis" "J" (.long now) ∧ Fld Z h r "com/example/outbox/outbox/Stamp" "sequence" "I" (.int (0 : Int32))) W := C
  have K : Keep hO hO [] := Keep.refl _ _
  refine C.aloadN (pc' := 1) od4_0 rfl rfl rfl ?_
  refine C.ifnullYes (pc' := 13) od4_1 rfl ?_
  refine C.new (ow24 hw) (ow3 hw) (ow4 hw) (pc' := 16) od4_13 rfl (by decide) (by decide) (fun h13 b13 hb13 X13 E_b13 D13 => ?_)
  have sz_b13 : hO.size ≤ b13 := by rw [hb13]; exact K.1
  have g_b13 : n0 ≤ b13 := Nat.le_trans Z0 sz_b13
  replace K := K.ext X13
  have F_b13_millis : Fld Z h13 b13 "com/example/outbox/outbox/Stamp" "millis" "J" (.long (0 : Int64)) := D13 (Or.inr (ow17 hw)) pf_J
  have F_b13_sequence : Fld Z h13 b13 "com/example/outbox/outbox/Stamp" "sequence" "I" (.int (0 : Int32)) := D13 (Or.inr (ow19 hw)) pf_I
  refine C.dup (pc' := 17) od4_16 rfl rfl ?_
  refine C.lloadN (pc' := 18) od4_17 rfl rfl ?_
  refine C.iconst (v := 0) (pc' := 19) od4_18 rfl rfl ?_
  refine C.callc (w := 1) (own_rm1 l Z a0 hw n0 h13 b13 now (0 : Int32) (Nat.le_trans Z0 K.1) E_b13 F_b13_millis F_b13_sequence g_b13) rfl (ow25 hw) (ow6 hw) (ow4 hw) (ow7 hw) (pc' := 22) od4_19 rfl rfl rfl (by decide) pd__JI_V rfl (by decide) (Nat.le_of_eq rfl) (by decide) (by decide) (by decide) (kV fun h19 q19 => ?_)
  obtain ⟨K19, N19_0, N19_1⟩ := q19
  replace E_b13 := E_b13.keep K19
  have F_b13_millis : Fld Z h19 b13 "com/example/outbox/outbox/Stamp" "millis" "J" (.long now) := N19_0
  have F_b13_sequence : Fld Z h19 b13 "com/example/outbox/outbox/Stamp" "sequence" "I" (.int (0 : Int32)) := N19_1
  replace K := K.trans K19 (allS (Or.inr sz_b13) all0)
  refine C.retA rfl rfl od4_22 (by decide) (by decide) ⟨_, rfl, ?_⟩
  exact ⟨K, sz_b13, E_b13, F_b13_millis, F_b13_sequence⟩
theorem od4_4 : decode prog_8_method_2_code 4 = .ok (.lload_n 1, 1) := by decide +kernel
theorem od4_5 : decode prog_8_method_2_code 5 = .ok (.aload_n 0, 1) := by decide +kernel
theorem od4_6 : decode prog_8_method_2_code 6 = .ok (.getfield 7, 3) := by decide +kernel
theorem od4_9 : decode prog_8_method_2_code 9 = .ok (.lcmp, 1) := by decide +kernel
theorem od4_10 : decode prog_8_method_2_code 10 = .ok (.ifCond .le 13, 3) := by decide +kernel
theorem od4_23 : decode prog_8_method_2_code 23 = .ok (.aload_n 0, 1) := by decide +kernel
theorem od4_24 : decode prog_8_method_2_code 24 = .ok (.getfield 13, 3) := by decide +kernel
theorem ow23 {a0 : Array Value} {Z : State} (hw : ∀ d ∈ tables_1, d.before a0 Z = true) : (Jvm.Cond.constant "com/example/outbox/outbox/Stamp" (22 : Nat) (65535 : Int32)).before a0 Z = true := hw _ (List.mem_of_getElem? (i := 23) rfl)
theorem od4_27 : decode prog_8_method_2_code 27 = .ok (.ldc 22, 2) := by decide +kernel
theorem od4_29 : decode prog_8_method_2_code 29 = .ok (.if_icmp .ge 21, 3) := by decide +kernel
theorem od4_50 : decode prog_8_method_2_code 50 = .ok (.new 8, 3) := by decide +kernel
theorem od4_53 : decode prog_8_method_2_code 53 = .ok (.dup, 1) := by decide +kernel
theorem od4_54 : decode prog_8_method_2_code 54 = .ok (.aload_n 0, 1) := by decide +kernel
theorem od4_55 : decode prog_8_method_2_code 55 = .ok (.getfield 7, 3) := by decide +kernel
theorem od4_58 : decode prog_8_method_2_code 58 = .ok (.lconst 1, 1) := by decide +kernel
theorem od4_59 : decode prog_8_method_2_code 59 = .ok (.ladd, 1) := by decide +kernel
theorem od4_60 : decode prog_8_method_2_code 60 = .ok (.iconst 0, 1) := by decide +kernel
theorem od4_61 : decode prog_8_method_2_code 61 = .ok (.invokespecial 17, 3) := by decide +kernel
theorem od4_64 : decode prog_8_method_2_code 64 = .ok (.areturn, 1) := by decide +kernel
theorem od4_32 : decode prog_8_method_2_code 32 = .ok (.new 8, 3) := by decide +kernel
theorem od4_35 : decode prog_8_method_2_code 35 = .ok (.dup, 1) := by decide +kernel
theorem od4_36 : decode prog_8_method_2_code 36 = .ok (.aload_n 0, 1) := by decide +kernel
theorem od4_37 : decode prog_8_method_2_code 37 = .ok (.getfield 7, 3) := by decide +kernel
theorem od4_40 : decode prog_8_method_2_code 40 = .ok (.aload_n 0, 1) := by decide +kernel
theorem od4_41 : decode prog_8_method_2_code 41 = .ok (.getfield 13, 3) := by decide +kernel
theorem od4_44 : decode prog_8_method_2_code 44 = .ok (.iconst 1, 1) := by decide +kernel
theorem od4_45 : decode prog_8_method_2_code 45 = .ok (.iadd, 1) := by decide +kernel
theorem od4_46 : decode prog_8_method_2_code 46 = .ok (.invokespecial 17, 3) := by decide +kernel
theorem od4_49 : decode prog_8_method_2_code 49 = .ok (.areturn, 1) := by decide +kernel
theorem ef_own_rm4 (m : MethodId) (x0 : Addr) (x1 : Int64) : entryFrame m #[(.ref x0), (.long x1)] 3 = mkF m 0 #[.val (.ref x0), .val (.long x1), .second] [] := by first | (simp [entryFrame, mkF, argsToLocals, Value.category]; done) | rfl
set_option maxRecDepth 65536 in
set_option maxHeartbeats 40000000 in
theorem own_rm4 (l : Launch) (Z : State) (a0 : Array Value) (hw : ∀ d ∈ tables_1, d.before a0 Z = true) (n0 : Nat) (hO : Heap) (a : Addr) (now : Int64) (m : Int64) (q : Int32) (Z0 : n0 ≤ hO.size) (E_a : Exa Z hO a "com/example/outbox/outbox/Stamp") (F_a_millis : Fld Z hO a "com/example/outbox/outbox/Stamp" "millis" "J" (.long m)) (F_a_sequence : Fld Z hO a "com/example/outbox/outbox/Stamp" "sequence" "I" (.int q)) :
    MeetsW l Z n0 (⟨"com/example/outbox/outbox/Stamp", "next", "(Lcom/example/outbox/outbox/Stamp;J)Lcom/example/outbox/outbox/Stamp;"⟩ : MethodName) prog_8_method_2_code 3 (some (.object "com/example/outbox/outbox/Stamp")) ({ frames := 3, cells := 1, slots := 2, locals := 40 } : Room) #[(.ref a), (.long now)] hO (RA fun r h => Keep hO h [] ∧ hO.size ≤ r ∧ Exa Z h r "com/example/outbox/outbox/Stamp" ∧ Fld Z h r "com/example/outbox/outbox/Stamp" "millis" "J" (.long (if m < now then now else if q < (65535 : Int32) then m else m + (1 : Int64))) ∧ Fld Z h r "com/example/outbox/outbox/Stamp" "sequence" "I" (.int (if m < now then (0 : Int32) else if q < (65535 : Int32) then q + (1 : Int32) else 0))) := by
  refine MeetsW.intro pn_com_example_outbox_outbox_Stamp_next__Lcom_example_outbox_outbox_Stamp_J_Lcom_example_outbox_outbox_Stamp_ (fun m => ef_own_rm4 m a now) ?_
  intro W C
  replace C : Ru l Z "com/example/outbox/outbox/Stamp" prog_8_method_2_code 3 (some (.object "com/example/outbox/outbox/Stamp")) "next" ({ frames := 3, cells := 1, slots := 2, locals := 40 } : Room) n0 (RA fun r h => Keep hO h [] ∧ hO.size ≤ r ∧ Exa Z h r "com/example/outbox/outbox/Stamp" ∧ Fld Z h r "com/example/outbox/outbox/Stamp" "millis" "J" (.long (if m < now then now else if q < (65535 : Int32) then m else m + (1 : Int64))) ∧ Fld Z h r "com/example/outbox/outbox/Stamp" "sequence" "I" (.int (if m < now then (0 : Int32) else if q < (65535 : Int32) then q + (1 : Int32) else 0))) W := C
  have K : Keep hO hO [] := Keep.refl _ _
  refine C.aloadN (pc' := 1) od4_0 rfl rfl rfl ?_
  refine C.ifnullNo (pc' := 4) od4_1 rfl ?_
  refine C.lloadN (pc' := 5) od4_4 rfl rfl ?_
  refine C.aloadN (pc' := 6) od4_5 rfl rfl rfl ?_
  refine C.getf (ow16 hw) Via.refl F_a_millis (pc' := 9) od4_6 rfl ?_
  refine C.lif_le (pc' := 13) (pt := 23) od4_9 rfl od4_10 rfl rfl (fun c9 => ?_) (fun c9 => ?_)
  · skip
    refine C.aloadN (pc' := 24) od4_23 rfl rfl rfl ?_
    refine C.getf (ow18 hw) Via.refl F_a_sequence (pc' := 27) od4_24 rfl ?_
    refine C.ldcI (ow23 hw) (pc' := 29) od4_27 rfl ?_
    refine C.icmp_ge (pc' := 32) (pt := 50) od4_29 rfl rfl (fun c29 => ?_) (fun c29 => ?_)
    · skip
      refine C.new (ow24 hw) (ow3 hw) (ow4 hw) (pc' := 53) od4_50 rfl (by decide) (by decide) (fun h50 b50 hb50 X50 E_b50 D50 => ?_)
      have ne_a_b50 : a ≠ b50 := by rw [hb50]; exact Nat.ne_of_lt (exaLt E_a)
      have sz_b50 : hO.size ≤ b50 := by rw [hb50]; exact K.1
      have g_b50 : n0 ≤ b50 := Nat.le_trans Z0 sz_b50
      replace E_a := E_a.ext X50
      replace F_a_millis := F_a_millis.ext X50
      replace F_a_sequence := F_a_sequence.ext X50
      replace K := K.ext X50
      have F_b50_millis : Fld Z h50 b50 "com/example/outbox/outbox/Stamp" "millis" "J" (.long (0 : Int64)) := D50 (Or.inr (ow17 hw)) pf_J
      have F_b50_sequence : Fld Z h50 b50 "com/example/outbox/outbox/Stamp" "sequence" "I" (.int (0 : Int32)) := D50 (Or.inr (ow19 hw)) pf_I
      refine C.dup (pc' := 54) od4_53 rfl rfl ?_
      refine C.aloadN (pc' := 55) od4_54 rfl rfl rfl ?_
      refine C.getf (ow16 hw) Via.refl F_a_millis (pc' := 58) od4_55 rfl ?_
      refine C.lconst (v := 1) (pc' := 59) od4_58 rfl rfl ?_
      refine C.ladd (pc' := 60) od4_59 rfl ?_
      refine C.iconst (v := 0) (pc' := 61) od4_60 rfl rfl ?_
      refine C.callc (w := 1) (own_rm1 l Z a0 hw n0 h50 b50 (m + (1 : Int64)) (0 : Int32) (Nat.le_trans Z0 K.1) E_b50 F_b50_millis F_b50_sequence g_b50) rfl (ow25 hw) (ow6 hw) (ow4 hw) (ow7 hw) (pc' := 64) od4_61 rfl rfl rfl (by decide) pd__JI_V rfl (by decide) (Nat.le_of_eq rfl) (by decide) (by decide) (by decide) (kV fun h61 q61 => ?_)
      obtain ⟨K61, N61_0, N61_1⟩ := q61
      replace E_a := E_a.keep K61
      replace F_a_millis := F_a_millis.keep K61 (ninS ne_a_b50 nin0)
      replace F_a_sequence := F_a_sequence.keep K61 (ninS ne_a_b50 nin0)
      replace E_b50 := E_b50.keep K61
      have F_b50_millis : Fld Z h61 b50 "com/example/outbox/outbox/Stamp" "millis" "J" (.long (m + (1 : Int64))) := N61_0
      have F_b50_sequence : Fld Z h61 b50 "com/example/outbox/outbox/Stamp" "sequence" "I" (.int (0 : Int32)) := N61_1
      replace K := K.trans K61 (allS (Or.inr sz_b50) all0)
      refine C.retA rfl rfl od4_64 (by decide) (by decide) ⟨_, rfl, ?_⟩
      exact ⟨K, sz_b50, E_b50, by simpa [c9, c29] using F_b50_millis, by simpa [c9, c29] using F_b50_sequence⟩
    · skip
      refine C.new (ow24 hw) (ow3 hw) (ow4 hw) (pc' := 35) od4_32 rfl (by decide) (by decide) (fun h32 b32 hb32 X32 E_b32 D32 => ?_)
      have ne_a_b32 : a ≠ b32 := by rw [hb32]; exact Nat.ne_of_lt (exaLt E_a)
      have sz_b32 : hO.size ≤ b32 := by rw [hb32]; exact K.1
      have g_b32 : n0 ≤ b32 := Nat.le_trans Z0 sz_b32
      replace E_a := E_a.ext X32
      replace F_a_millis := F_a_millis.ext X32
      replace F_a_sequence := F_a_sequence.ext X32
      replace K := K.ext X32
      have F_b32_millis : Fld Z h32 b32 "com/example/outbox/outbox/Stamp" "millis" "J" (.long (0 : Int64)) := D32 (Or.inr (ow17 hw)) pf_J
      have F_b32_sequence : Fld Z h32 b32 "com/example/outbox/outbox/Stamp" "sequence" "I" (.int (0 : Int32)) := D32 (Or.inr (ow19 hw)) pf_I
      refine C.dup (pc' := 36) od4_35 rfl rfl ?_
      refine C.aloadN (pc' := 37) od4_36 rfl rfl rfl ?_
      refine C.getf (ow16 hw) Via.refl F_a_millis (pc' := 40) od4_37 rfl ?_
      refine C.aloadN (pc' := 41) od4_40 rfl rfl rfl ?_
      refine C.getf (ow18 hw) Via.refl F_a_sequence (pc' := 44) od4_41 rfl ?_
      refine C.iconst (v := 1) (pc' := 45) od4_44 rfl rfl ?_
      refine C.iadd (pc' := 46) od4_45 rfl ?_
      refine C.callc (w := 1) (own_rm1 l Z a0 hw n0 h32 b32 m (q + (1 : Int32)) (Nat.le_trans Z0 K.1) E_b32 F_b32_millis F_b32_sequence g_b32) rfl (ow25 hw) (ow6 hw) (ow4 hw) (ow7 hw) (pc' := 49) od4_46 rfl rfl rfl (by decide) pd__JI_V rfl (by decide) (Nat.le_of_eq rfl) (by decide) (by decide) (by decide) (kV fun h46 q46 => ?_)
      obtain ⟨K46, N46_0, N46_1⟩ := q46
      replace E_a := E_a.keep K46
      replace F_a_millis := F_a_millis.keep K46 (ninS ne_a_b32 nin0)
      replace F_a_sequence := F_a_sequence.keep K46 (ninS ne_a_b32 nin0)
      replace E_b32 := E_b32.keep K46
      have F_b32_millis : Fld Z h46 b32 "com/example/outbox/outbox/Stamp" "millis" "J" (.long m) := N46_0
      have F_b32_sequence : Fld Z h46 b32 "com/example/outbox/outbox/Stamp" "sequence" "I" (.int (q + (1 : Int32))) := N46_1
      replace K := K.trans K46 (allS (Or.inr sz_b32) all0)
      refine C.retA rfl rfl od4_49 (by decide) (by decide) ⟨_, rfl, ?_⟩
      exact ⟨K, sz_b32, E_b32, by simpa [c9, c29] using F_b32_millis, by simpa [c9, c29] using F_b32_sequence⟩
  · skip
    refine C.new (ow24 hw) (ow3 hw) (ow4 hw) (pc' := 16) od4_13 rfl (by decide) (by decide) (fun h13 b13 hb13 X13 E_b13 D13 => ?_)
    have ne_a_b13 : a ≠ b13 := by rw [hb13]; exact Nat.ne_of_lt (exaLt E_a)
    have sz_b13 : hO.size ≤ b13 := by rw [hb13]; exact K.1
    have g_b13 : n0 ≤ b13 := Nat.le_trans Z0 sz_b13
    replace E_a := E_a.ext X13
    replace F_a_millis := F_a_millis.ext X13
    replace F_a_sequence := F_a_sequence.ext X13
    replace K := K.ext X13
    have F_b13_millis : Fld Z h13 b13 "com/example/outbox/outbox/Stamp" "millis" "J" (.long (0 : Int64)) := D13 (Or.inr (ow17 hw)) pf_J
    have F_b13_sequence : Fld Z h13 b13 "com/example/outbox/outbox/Stamp" "sequence" "I" (.int (0 : Int32)) := D13 (Or.inr (ow19 hw)) pf_I
    refine C.dup (pc' := 17) od4_16 rfl rfl ?_
    refine C.lloadN (pc' := 18) od4_17 rfl rfl ?_
    refine C.iconst (v := 0) (pc' := 19) od4_18 rfl rfl ?_
    refine C.callc (w := 1) (own_rm1 l Z a0 hw n0 h13 b13 now (0 : Int32) (Nat.le_trans Z0 K.1) E_b13 F_b13_millis F_b13_sequence g_b13) rfl (ow25 hw) (ow6 hw) (ow4 hw) (ow7 hw) (pc' := 22) od4_19 rfl rfl rfl (by decide) pd__JI_V rfl (by decide) (Nat.le_of_eq rfl) (by decide) (by decide) (by decide) (kV fun h19 q19 => ?_)
    obtain ⟨K19, N19_0, N19_1⟩ := q19
    replace E_a := E_a.keep K19
    replace F_a_millis := F_a_millis.keep K19 (ninS ne_a_b13 nin0)
    replace F_a_sequence := F_a_sequence.keep K19 (ninS ne_a_b13 nin0)
    replace E_b13 := E_b13.keep K19
    have F_b13_millis : Fld Z h19 b13 "com/example/outbox/outbox/Stamp" "millis" "J" (.long now) := N19_0
    have F_b13_sequence : Fld Z h19 b13 "com/example/outbox/outbox/Stamp" "sequence" "I" (.int (0 : Int32)) := N19_1
    replace K := K.trans K19 (allS (Or.inr sz_b13) all0)
    refine C.retA rfl rfl od4_22 (by decide) (by decide) ⟨_, rfl, ?_⟩
    exact ⟨K, sz_b13, E_b13, by simpa [c9] using F_b13_millis, by simpa [c9] using F_b13_sequence⟩
theorem od7_0 : decode method_2_code 0 = .ok (.lload_n 0, 1) := by decide +kernel
theorem od7_1 : decode method_2_code 1 = .ok (.lload_n 3, 1) := by decide +kernel
theorem od7_2 : decode method_2_code 2 = .ok (.lcmp, 1) := by decide +kernel
theorem od7_3 : decode method_2_code 3 = .ok (.ifCond .eq 15, 3) := by decide +kernel
theorem od7_18 : decode method_2_code 18 = .ok (.iload_n 2, 1) := by decide +kernel
theorem od7_19 : decode method_2_code 19 = .ok (.iload 5, 2) := by decide +kernel
theorem od7_21 : decode method_2_code 21 = .ok (.if_icmp .le 7, 3) := by decide +kernel
theorem od7_28 : decode method_2_code 28 = .ok (.iconst 0, 1) := by decide +kernel
theorem od7_29 : decode method_2_code 29 = .ok (.ireturn, 1) := by decide +kernel
theorem od7_24 : decode method_2_code 24 = .ok (.iconst 1, 1) := by decide +kernel
theorem od7_25 : decode method_2_code 25 = .ok (.goto 4, 3) := by decide +kernel
theorem od7_6 : decode method_2_code 6 = .ok (.lload_n 0, 1) := by decide +kernel
theorem od7_7 : decode method_2_code 7 = .ok (.lload_n 3, 1) := by decide +kernel
theorem od7_8 : decode method_2_code 8 = .ok (.lcmp, 1) := by decide +kernel
theorem od7_9 : decode method_2_code 9 = .ok (.ifCond .le 7, 3) := by decide +kernel
theorem od7_16 : decode method_2_code 16 = .ok (.iconst 0, 1) := by decide +kernel
theorem od7_17 : decode method_2_code 17 = .ok (.ireturn, 1) := by decide +kernel
theorem od7_12 : decode method_2_code 12 = .ok (.iconst 1, 1) := by decide +kernel
theorem od7_13 : decode method_2_code 13 = .ok (.goto 4, 3) := by decide +kernel
theorem ef_own_rm7 (m : MethodId) (x0 : Int64) (x1 : Int32) (x2 : Int64) (x3 : Int32) : entryFrame m #[(.long x0), (.int x1), (.long x2), (.int x3)] 6 = mkF m 0 #[.val (.long x0), .second, .val (.int x1), .val (.long x2), .second, .val (.int x3)] [] := by first | (simp [entryFrame, mkF, argsToLocals, Value.category]; done) | rfl
theorem pn_com_example_outbox_outbox_StampNextPinLaw_greater__JIJI_Z : plainFor (⟨"com/example/outbox/outbox/StampNextPinLaw", "greater", "(JIJI)Z"⟩ : MethodName) = true := plainFor_of_name (by first | (simp [plainName, overriddenIn]; done) | decide +kernel)
set_option maxRecDepth 65536 in
set_option maxHeartbeats 40000000 in
theorem own_rm7 (l : Launch) (Z : State) (a0 : Array Value) (hw : ∀ d ∈ tables_1, d.before a0 Z = true) (n0 : Nat) (hO : Heap) (x : Int64) (y : Int32) (z : Int64) (w : Int32) :
    MeetsW l Z n0 (⟨"com/example/outbox/outbox/StampNextPinLaw", "greater", "(JIJI)Z"⟩ : MethodName) method_2_code 6 (some .boolean) ({ frames := 0, cells := 0, slots := 0, locals := 0 } : Room) #[(.long x), (.int y), (.long z), (.int w)] hO (RI fun r h => r = (if x = z then (if w < y then (1 : Int32) else 0) else (if z < x then (1 : Int32) else 0)) ∧ h = hO) := by
  refine MeetsW.intro pn_com_example_outbox_outbox_StampNextPinLaw_greater__JIJI_Z (fun m => ef_own_rm7 m x y z w) ?_
  intro W C
  replace C : Ru l Z "com/example/outbox/outbox/StampNextPinLaw" method_2_code 6 (some .boolean) "greater" ({ frames := 0, cells := 0, slots := 0, locals := 0 } : Room) n0 (RI fun r h => r = (if x = z then (if w < y then (1 : Int32) else 0) else (if z < x then (1 : Int32) else 0)) ∧ h = hO) W := C
  refine C.lloadN (pc' := 1) od7_0 rfl rfl ?_
  refine C.lloadN (pc' := 2) od7_1 rfl rfl ?_
  refine C.lif_eq (pc' := 6) (pt := 18) od7_2 rfl od7_3 rfl rfl (fun c2 => ?_) (fun c2 => ?_)
  · skip
    refine C.iloadN (pc' := 19) od7_18 rfl rfl ?_
    refine C.iload (pc' := 21) od7_19 rfl rfl ?_
    refine C.icmp_le (pc' := 24) (pt := 28) od7_21 rfl rfl (fun c21 => ?_) (fun c21 => ?_)
    · skip
      refine C.iconst (v := 0) (pc' := 29) od7_28 rfl rfl ?_
      refine C.retZ rfl (by decide) od7_29 (by decide) (by decide) ⟨_, rfl, ?_⟩
      exact ⟨by simp [c2, c21], rfl⟩
    · skip
      refine C.iconst (v := 1) (pc' := 25) od7_24 rfl rfl ?_
      refine C.goto (pc' := 29) od7_25 rfl ?_
      refine C.retZ rfl (by decide) od7_29 (by decide) (by decide) ⟨_, rfl, ?_⟩
      exact ⟨by simp [c2, c21], rfl⟩
  · skip
    refine C.lloadN (pc' := 7) od7_6 rfl rfl ?_
    refine C.lloadN (pc' := 8) od7_7 rfl rfl ?_
    refine C.lif_le (pc' := 12) (pt := 16) od7_8 rfl od7_9 rfl rfl (fun c8 => ?_) (fun c8 => ?_)
    · skip
      refine C.iconst (v := 0) (pc' := 17) od7_16 rfl rfl ?_
      refine C.retZ rfl (by decide) od7_17 (by decide) (by decide) ⟨_, rfl, ?_⟩
      exact ⟨by simp [c2, c8], rfl⟩
    · skip
      refine C.iconst (v := 1) (pc' := 13) od7_12 rfl rfl ?_
      refine C.goto (pc' := 17) od7_13 rfl ?_
      refine C.retZ rfl (by decide) od7_17 (by decide) (by decide) ⟨_, rfl, ?_⟩
      exact ⟨by simp [c2, c8], rfl⟩
theorem ow0 {a0 : Array Value} {Z : State} (hw : ∀ d ∈ tables_1, d.before a0 Z = true) : (Jvm.Cond.constant "com/example/outbox/outbox/StampNextPinLaw" (7 : Nat) (65535 : Int32)).before a0 Z = true := hw _ (List.mem_of_getElem? (i := 0) rfl)
theorem ow41 {a0 : Array Value} {Z : State} (hw : ∀ d ∈ tables_1, d.before a0 Z = true) : (Jvm.Cond.constantLong "com/example/outbox/outbox/StampNextPinLaw" (8 : Nat) (2 : Int64)).before a0 Z = true := hw _ (List.mem_of_getElem? (i := 41) rfl)
theorem ow1 {a0 : Array Value} {Z : State} (hw : ∀ d ∈ tables_1, d.before a0 Z = true) : (Jvm.Cond.constantLong "com/example/outbox/outbox/StampNextPinLaw" (12 : Nat) (9223372036854775807 : Int64)).before a0 Z = true := hw _ (List.mem_of_getElem? (i := 1) rfl)
theorem ow2 {a0 : Array Value} {Z : State} (hw : ∀ d ∈ tables_1, d.before a0 Z = true) : (Jvm.Cond.classLink "com/example/outbox/outbox/StampNextPinLaw" (14 : Nat) "com/example/outbox/outbox/Stamp").before a0 Z = true := hw _ (List.mem_of_getElem? (i := 2) rfl)
theorem ow5 {a0 : Array Value} {Z : State} (hw : ∀ d ∈ tables_1, d.before a0 Z = true) : (Jvm.Cond.methodLink "com/example/outbox/outbox/StampNextPinLaw" (16 : Nat) ({ cls := "com/example/outbox/outbox/Stamp", name := "<init>", desc := "(JI)V" } : Jvm.MethodName)).before a0 Z = true := hw _ (List.mem_of_getElem? (i := 5) rfl)
theorem pd__Lcom_example_outbox_outbox_Stamp_J_Lcom_example_outbox_outbox_Stamp_ : parseMethodDescriptor "(Lcom/example/outbox/outbox/Stamp;J)Lcom/example/outbox/outbox/Stamp;" = some ⟨[(.object "com/example/outbox/outbox/Stamp"), .long], some (.object "com/example/outbox/outbox/Stamp")⟩ := by decide +kernel
theorem ow22 {a0 : Array Value} {Z : State} (hw : ∀ d ∈ tables_1, d.before a0 Z = true) : (Jvm.Cond.code ({ cls := "com/example/outbox/outbox/Stamp", name := "next", desc := "(Lcom/example/outbox/outbox/Stamp;J)Lcom/example/outbox/outbox/Stamp;" } : Jvm.MethodName) prog_8_method_2_code (3 : Nat) (Option.some (Jvm.ClassFile.FieldType.object "com/example/outbox/outbox/Stamp"))).before a0 Z = true := hw _ (List.mem_of_getElem? (i := 22) rfl)
theorem ow20 {a0 : Array Value} {Z : State} (hw : ∀ d ∈ tables_1, d.before a0 Z = true) : (Jvm.Cond.methodLink "com/example/outbox/outbox/StampNextPinLaw" (19 : Nat) ({ cls := "com/example/outbox/outbox/Stamp", name := "next", desc := "(Lcom/example/outbox/outbox/Stamp;J)Lcom/example/outbox/outbox/Stamp;" } : Jvm.MethodName)).before a0 Z = true := hw _ (List.mem_of_getElem? (i := 20) rfl)
theorem ow21 {a0 : Array Value} {Z : State} (hw : ∀ d ∈ tables_1, d.before a0 Z = true) : (Jvm.Cond.static ({ cls := "com/example/outbox/outbox/Stamp", name := "next", desc := "(Lcom/example/outbox/outbox/Stamp;J)Lcom/example/outbox/outbox/Stamp;" } : Jvm.MethodName)).before a0 Z = true := hw _ (List.mem_of_getElem? (i := 21) rfl)
theorem pd___J : parseMethodDescriptor "()J" = some ⟨[], some .long⟩ := by decide +kernel
theorem ow30 {a0 : Array Value} {Z : State} (hw : ∀ d ∈ tables_1, d.before a0 Z = true) : (Jvm.Cond.code ({ cls := "com/example/outbox/outbox/Stamp", name := "millis", desc := "()J" } : Jvm.MethodName) prog_8_method_6_code (1 : Nat) (Option.some Jvm.ClassFile.FieldType.long)).before a0 Z = true := hw _ (List.mem_of_getElem? (i := 30) rfl)
theorem ow26 {a0 : Array Value} {Z : State} (hw : ∀ d ∈ tables_1, d.before a0 Z = true) : (Jvm.Cond.methodLink "com/example/outbox/outbox/StampNextPinLaw" (23 : Nat) ({ cls := "com/example/outbox/outbox/Stamp", name := "millis", desc := "()J" } : Jvm.MethodName)).before a0 Z = true := hw _ (List.mem_of_getElem? (i := 26) rfl)
theorem ow27 {a0 : Array Value} {Z : State} (hw : ∀ d ∈ tables_1, d.before a0 Z = true) : (Jvm.Cond.declares ({ cls := "com/example/outbox/outbox/Stamp", name := "millis", desc := "()J" } : Jvm.MethodName)).before a0 Z = true := hw _ (List.mem_of_getElem? (i := 27) rfl)
theorem ow29 {a0 : Array Value} {Z : State} (hw : ∀ d ∈ tables_1, d.before a0 Z = true) : (Jvm.Cond.selects "com/example/outbox/outbox/Stamp" ({ cls := "com/example/outbox/outbox/Stamp", name := "millis", desc := "()J" } : Jvm.MethodName) ({ cls := "com/example/outbox/outbox/Stamp", name := "millis", desc := "()J" } : Jvm.MethodName)).before a0 Z = true := hw _ (List.mem_of_getElem? (i := 29) rfl)
theorem ow28 {a0 : Array Value} {Z : State} (hw : ∀ d ∈ tables_1, d.before a0 Z = true) : (Jvm.Cond.instanceMethod ({ cls := "com/example/outbox/outbox/Stamp", name := "millis", desc := "()J" } : Jvm.MethodName)).before a0 Z = true := hw _ (List.mem_of_getElem? (i := 28) rfl)
theorem pd___I : parseMethodDescriptor "()I" = some ⟨[], some .int⟩ := by decide +kernel
theorem ow35 {a0 : Array Value} {Z : State} (hw : ∀ d ∈ tables_1, d.before a0 Z = true) : (Jvm.Cond.code ({ cls := "com/example/outbox/outbox/Stamp", name := "sequence", desc := "()I" } : Jvm.MethodName) prog_8_method_7_code (1 : Nat) (Option.some Jvm.ClassFile.FieldType.int)).before a0 Z = true := hw _ (List.mem_of_getElem? (i := 35) rfl)
theorem ow31 {a0 : Array Value} {Z : State} (hw : ∀ d ∈ tables_1, d.before a0 Z = true) : (Jvm.Cond.methodLink "com/example/outbox/outbox/StampNextPinLaw" (27 : Nat) ({ cls := "com/example/outbox/outbox/Stamp", name := "sequence", desc := "()I" } : Jvm.MethodName)).before a0 Z = true := hw _ (List.mem_of_getElem? (i := 31) rfl)
theorem ow32 {a0 : Array Value} {Z : State} (hw : ∀ d ∈ tables_1, d.before a0 Z = true) : (Jvm.Cond.declares ({ cls := "com/example/outbox/outbox/Stamp", name := "sequence", desc := "()I" } : Jvm.MethodName)).before a0 Z = true := hw _ (List.mem_of_getElem? (i := 32) rfl)
theorem ow34 {a0 : Array Value} {Z : State} (hw : ∀ d ∈ tables_1, d.before a0 Z = true) : (Jvm.Cond.selects "com/example/outbox/outbox/Stamp" ({ cls := "com/example/outbox/outbox/Stamp", name := "sequence", desc := "()I" } : Jvm.MethodName) ({ cls := "com/example/outbox/outbox/Stamp", name := "sequence", desc := "()I" } : Jvm.MethodName)).before a0 Z = true := hw _ (List.mem_of_getElem? (i := 34) rfl)
theorem ow33 {a0 : Array Value} {Z : State} (hw : ∀ d ∈ tables_1, d.before a0 Z = true) : (Jvm.Cond.instanceMethod ({ cls := "com/example/outbox/outbox/Stamp", name := "sequence", desc := "()I" } : Jvm.MethodName)).before a0 Z = true := hw _ (List.mem_of_getElem? (i := 33) rfl)
theorem pd__JIJI_Z : parseMethodDescriptor "(JIJI)Z" = some ⟨[.long, .int, .long, .int], some .boolean⟩ := by decide +kernel
theorem ow39 {a0 : Array Value} {Z : State} (hw : ∀ d ∈ tables_1, d.before a0 Z = true) : (Jvm.Cond.code ({ cls := "com/example/outbox/outbox/StampNextPinLaw", name := "greater", desc := "(JIJI)Z" } : Jvm.MethodName) method_2_code (6 : Nat) (Option.some Jvm.ClassFile.FieldType.boolean)).before a0 Z = true := hw _ (List.mem_of_getElem? (i := 39) rfl)
theorem ow38 {a0 : Array Value} {Z : State} (hw : ∀ d ∈ tables_1, d.before a0 Z = true) : (Jvm.Cond.initialized "com/example/outbox/outbox/StampNextPinLaw").before a0 Z = true := hw _ (List.mem_of_getElem? (i := 38) rfl)
theorem ow36 {a0 : Array Value} {Z : State} (hw : ∀ d ∈ tables_1, d.before a0 Z = true) : (Jvm.Cond.methodLink "com/example/outbox/outbox/StampNextPinLaw" (31 : Nat) ({ cls := "com/example/outbox/outbox/StampNextPinLaw", name := "greater", desc := "(JIJI)Z" } : Jvm.MethodName)).before a0 Z = true := hw _ (List.mem_of_getElem? (i := 36) rfl)
theorem ow37 {a0 : Array Value} {Z : State} (hw : ∀ d ∈ tables_1, d.before a0 Z = true) : (Jvm.Cond.static ({ cls := "com/example/outbox/outbox/StampNextPinLaw", name := "greater", desc := "(JIJI)Z" } : Jvm.MethodName)).before a0 Z = true := hw _ (List.mem_of_getElem? (i := 37) rfl)
theorem ow40 {a0 : Array Value} {Z : State} (hw : ∀ d ∈ tables_1, d.before a0 Z = true) : (Jvm.Cond.constantLong "com/example/outbox/outbox/StampNextPinLaw" (37 : Nat) (-9223372036854775808 : Int64)).before a0 Z = true := hw _ (List.mem_of_getElem? (i := 40) rfl)
theorem ef_own_rm0 (m : MethodId) (x0 : Int64) (x1 : Int32) (x2 : Int64) (x3 : Int32) : entryFrame m #[(.long x0), (.int x1), (.long x2), (.int x3)] maxLocals = mkF m 0 #[.val (.long x0), .second, .val (.int x1), .val (.long x2), .second, .val (.int x3), .unset, .unset, .unset, .unset, .unset, .unset, .unset, .unset, .unset, .unset, .unset, .unset, .unset, .unset, .unset, .unset, .unset] [] := by first | (simp [entryFrame, mkF, argsToLocals, Value.category, maxLocals]; done) | rfl
theorem pn_com_example_outbox_outbox_StampNextPinLaw_law__JIJI_Z : plainFor (⟨"com/example/outbox/outbox/StampNextPinLaw", "law", "(JIJI)Z"⟩ : MethodName) = true := plainFor_of_name (by first | (simp [plainName, overriddenIn]; done) | decide +kernel)
set_option maxRecDepth 65536 in
set_option maxHeartbeats 40000000 in
theorem own_rm0 (l : Launch) (Z : State) (a0 : Array Value) (hw : ∀ d ∈ tables_1, d.before a0 Z = true) (n0 : Nat) (hO : Heap) (p1 : Int64) (p2 : Int32) (p3 : Int64) (p4 : Int32) (Z0 : n0 ≤ hO.size) :
    MeetsW l Z n0 x code maxLocals ret room_1 #[(.long p1), (.int p2), (.long p3), (.int p4)] hO (RI fun r h => r = 1) := by
  refine MeetsW.intro (show plainFor x = true from pn_com_example_outbox_outbox_StampNextPinLaw_law__JIJI_Z) (fun m => ef_own_rm0 m p1 p2 p3 p4) ?_
  intro W C
  replace C : Ru l Z "com/example/outbox/outbox/StampNextPinLaw" code maxLocals ret "law" room_1 n0 (RI fun r h => r = 1) W := C
  have K : Keep hO hO [] := Keep.refl _ _
  refine C.iload (pc' := 2) at_0 rfl rfl ?_
  refine C.iconst (v := 1) (pc' := 3) at_2 rfl rfl ?_
  refine C.iand (pc' := 4) at_3 rfl ?_
  refine C.if_eq (pc' := 7) (pt := 11) at_4 rfl rfl (fun c4 => ?_) (fun c4 => ?_)
  · skip
    refine C.iconst (v := 0) (pc' := 12) at_11 rfl rfl ?_
    refine C.istoreX (l' := #[.val (.long p1), .second, .val (.int p2), .val (.long p3), .second, .val (.int p4), .val (.int (0 : Int32)), .unset, .unset, .unset, .unset, .unset, .unset, .unset, .unset, .unset, .unset, .unset, .unset, .unset, .unset, .unset, .unset]) (pc' := 14) at_12 rfl rfl ?_
    refine C.iload (pc' := 16) at_14 rfl rfl ?_
    refine C.iconst (v := 2) (pc' := 17) at_16 rfl rfl ?_
    refine C.iand (pc' := 18) at_17 rfl ?_
    have j30 : ∀ (s30_0 : Int32), (((p4 &&& (2 : Int32)) = (0 : Int32) ∧ s30_0 = (p2 &&& (65535 : Int32))) ∨ (¬ ((p4 &&& (2 : Int32)) = (0 : Int32)) ∧ s30_0 = (65535 : Int32))) → W hO 0 0 30 #[.val (.long p1), .second, .val (.int p2), .val (.long p3), .second, .val (.int p4), .val (.int (0 : Int32)), .unset, .unset, .unset, .unset, .unset, .unset, .unset, .unset, .unset, .unset, .unset, .unset, .unset, .unset, .unset, .unset] [(.int s30_0)] := by
      intro s30_0 x30
      refine C.istoreX (l' := #[.val (.long p1), .second, .val (.int p2), .val (.long p3), .second, .val (.int p4), .val (.int (0 : Int32)), .val (.int s30_0), .unset, .unset, .unset, .unset, .unset, .unset, .unset, .unset, .unset, .unset, .unset, .unset, .unset, .unset, .unset]) (pc' := 32) at_30 rfl rfl ?_
      refine C.iload (pc' := 34) at_32 rfl rfl ?_
      refine C.iconst (v := 4) (pc' := 35) at_34 rfl rfl ?_
      refine C.iand (pc' := 36) at_35 rfl ?_
      have j56 : ∀ (s56_0 : Int64), (((p4 &&& (4 : Int32)) = (0 : Int32) ∧ s56_0 = p3) ∨ (¬ ((p4 &&& (4 : Int32)) = (0 : Int32)) ∧ s56_0 = ((p1 + (((sarI p4 3) &&& (3 : Int32)).toInt64)) - (2 : Int64)))) → W hO 0 0 56 #[.val (.long p1), .second, .val (.int p2), .val (.long p3), .second, .val (.int p4), .val (.int (0 : Int32)), .val (.int s30_0), .unset, .unset, .unset, .unset, .unset, .unset, .unset, .unset, .unset, .unset, .unset, .unset, .unset, .unset, .unset] [(.long s56_0)] := by
        intro s56_0 x56
        refine C.lstoreX (l' := #[.val (.long p1), .second, .val (.int p2), .val (.long p3), .second, .val (.int p4), .val (.int (0 : Int32)), .val (.int s30_0), .val (.long s56_0), .second, .unset, .unset, .unset, .unset, .unset, .unset, .unset, .unset, .unset, .unset, .unset, .unset, .unset]) (pc' := 58) at_56 rfl rfl ?_
        refine C.iload (pc' := 60) at_58 rfl rfl ?_
        refine C.if_ne (pc' := 63) (pt := 80) at_60 rfl rfl (fun c60 => absurd rfl c60) (fun c60 => ?_)
        refine C.lloadN (pc' := 64) at_63 rfl rfl ?_
        refine C.ldcJ (ow1 hw) (pc' := 67) at_64 rfl ?_
        have j80 : ((¬ (p1 = (9223372036854775807 : Int64)) ∧ True) ∨ (p1 = (9223372036854775807 : Int64) ∧ ¬ (s30_0 = (65535 : Int32)) ∧ True)) → W hO 0 0 80 #[.val (.long p1), .second, .val (.int p2), .val (.long p3), .second, .val (.int p4), .val (.int (0 : Int32)), .val (.int s30_0), .val (.long s56_0), .second, .unset, .unset, .unset, .unset, .unset, .unset, .unset, .unset, .unset, .unset, .unset, .unset, .unset] [] := by
          intro x80
          refine C.iload (pc' := 82) at_80 rfl rfl ?_
          refine C.if_eq (pc' := 85) (pt := 89) at_82 rfl rfl (fun c82 => ?_) (fun c82 => absurd rfl c82)
          refine C.new (ow2 hw) (ow3 hw) (ow4 hw) (pc' := 92) at_89 rfl (by decide) (by decide) (fun h89 b89 hb89 X89 E_b89 D89 => ?_)
          have sz_b89 : hO.size ≤ b89 := by rw [hb89]; exact K.1
          have g_b89 : n0 ≤ b89 := Nat.le_trans Z0 sz_b89
          replace K := K.ext X89
          have F_b89_millis : Fld Z h89 b89 "com/example/outbox/outbox/Stamp" "millis" "J" (.long (0 : Int64)) := D89 (Or.inr (ow17 hw)) pf_J
          have F_b89_sequence : Fld Z h89 b89 "com/example/outbox/outbox/Stamp" "sequence" "I" (.int (0 : Int32)) := D89 (Or.inr (ow19 hw)) pf_I
          refine C.dup (pc' := 93) at_92 rfl rfl ?_
          refine C.lloadN (pc' := 94) at_93 rfl rfl ?_
          refine C.iload (pc' := 96) at_94 rfl rfl ?_
          refine C.callc (w := 1) (own_rm1 l Z a0 hw n0 h89 b89 p1 s30_0 (Nat.le_trans Z0 K.1) E_b89 F_b89_millis F_b89_sequence g_b89) rfl (ow5 hw) (ow6 hw) (ow4 hw) (ow7 hw) (pc' := 99) at_96 rfl rfl rfl (by decide) pd__JI_V rfl (by decide) (Nat.le_of_eq rfl) (by decide) (by decide) (by decide) (kV fun h96 q96 => ?_)
          obtain ⟨K96, N96_0, N96_1⟩ := q96
          replace E_b89 := E_b89.keep K96
          have F_b89_millis : Fld Z h96 b89 "com/example/outbox/outbox/Stamp" "millis" "J" (.long p1) := N96_0
          have F_b89_sequence : Fld Z h96 b89 "com/example/outbox/outbox/Stamp" "sequence" "I" (.int s30_0) := N96_1
          replace K := K.trans K96 (allS (Or.inr sz_b89) all0)
          refine C.astore (l' := #[.val (.long p1), .second, .val (.int p2), .val (.long p3), .second, .val (.int p4), .val (.int (0 : Int32)), .val (.int s30_0), .val (.long s56_0), .second, .val (.ref b89), .unset, .unset, .unset, .unset, .unset, .unset, .unset, .unset, .unset, .unset, .unset, .unset]) (pc' := 101) at_99 rfl rfl rfl ?_
          refine C.aload (pc' := 103) at_101 rfl rfl rfl ?_
          refine C.lload (pc' := 105) at_103 rfl rfl ?_
          refine C.calls (w := 0) (own_rm4 l Z a0 hw n0 h96 b89 s56_0 p1 s30_0 (Nat.le_trans Z0 K.1) E_b89 F_b89_millis F_b89_sequence) (ow20 hw) (ow21 hw) (ow4 hw) (ow22 hw) (pc' := 108) at_105 rfl rfl rfl (by decide) pd__Lcom_example_outbox_outbox_Stamp_J_Lcom_example_outbox_outbox_Stamp_ rfl (by decide) (Nat.le_of_eq rfl) (by decide) (by decide) (by decide) (kA fun r105 h105 q105 => ?_)
          obtain ⟨K105, z105_r105, N105_0, N105_1, N105_2⟩ := q105
          have ne_b89_r105 : b89 ≠ r105 := Nat.ne_of_lt (Nat.lt_of_lt_of_le (exaLt E_b89) z105_r105)
          have sz_r105 : hO.size ≤ r105 := Nat.le_trans K.1 z105_r105
          have g_r105 : n0 ≤ r105 := Nat.le_trans Z0 sz_r105
          replace E_b89 := E_b89.keep K105
          replace F_b89_millis := F_b89_millis.keep K105 nin0
          replace F_b89_sequence := F_b89_sequence.keep K105 nin0
          have E_r105 : Exa Z h105 r105 "com/example/outbox/outbox/Stamp" := N105_0
          have F_r105_millis : Fld Z h105 r105 "com/example/outbox/outbox/Stamp" "millis" "J" (.long (if p1 < s56_0 then s56_0 else if s30_0 < (65535 : Int32) then p1 else p1 + (1 : Int64))) := N105_1
          have F_r105_sequence : Fld Z h105 r105 "com/example/outbox/outbox/Stamp" "sequence" "I" (.int (if p1 < s56_0 then (0 : Int32) else if s30_0 < (65535 : Int32) then s30_0 + (1 : Int32) else 0)) := N105_2
          replace K := K.trans K105 all0
          refine C.astore (l' := #[.val (.long p1), .second, .val (.int p2), .val (.long p3), .second, .val (.int p4), .val (.int (0 : Int32)), .val (.int s30_0), .val (.long s56_0), .second, .val (.ref b89), .val (.ref r105), .unset, .unset, .unset, .unset, .unset, .unset, .unset, .unset, .unset, .unset, .unset]) (pc' := 110) at_108 rfl rfl rfl ?_
          refine C.aload (pc' := 112) at_110 rfl rfl rfl ?_
          refine C.ifnonnullYes (pc' := 117) at_112 rfl ?_
          refine C.aload (pc' := 119) at_117 rfl rfl rfl ?_
          refine C.callv (w := 0) (own_rm5 l Z a0 hw n0 h105 r105 (if p1 < s56_0 then s56_0 else if s30_0 < (65535 : Int32) then p1 else p1 + (1 : Int64)) F_r105_millis) E_r105 (ow26 hw) (ow27 hw) (ow29 hw) (ow28 hw) (ow4 hw) (ow30 hw) (pc' := 122) at_119 rfl rfl rfl (by decide) pd___J rfl (by decide) (Nat.le_of_eq rfl) (by decide) (by decide) (by decide) (kJe ?_)
          refine C.lstore (f := fun v_ => #[.val (.long p1), .second, .val (.int p2), .val (.long p3), .second, .val (.int p4), .val (.int (0 : Int32)), .val (.int s30_0), .val (.long s56_0), .second, .val (.ref b89), .val (.ref r105), .val (.long v_), .second, .unset, .unset, .unset, .unset, .unset, .unset, .unset, .unset, .unset]) (pc' := 124) at_122 rfl (fun _ => rfl) (fun v122 e122 => ?_)
          refine C.aload (pc' := 126) at_124 rfl rfl rfl ?_
          refine C.callv (w := 0) (own_rm6 l Z a0 hw n0 h105 r105 (if p1 < s56_0 then (0 : Int32) else if s30_0 < (65535 : Int32) then s30_0 + (1 : Int32) else 0) F_r105_sequence) E_r105 (ow31 hw) (ow32 hw) (ow34 hw) (ow33 hw) (ow4 hw) (ow35 hw) (pc' := 129) at_126 rfl rfl rfl (by decide) pd___I rfl (by decide) (Nat.le_of_eq rfl) (by decide) (by decide) (by decide) (kIe ?_)
          refine C.istore (f := fun v_ => #[.val (.long p1), .second, .val (.int p2), .val (.long p3), .second, .val (.int p4), .val (.int (0 : Int32)), .val (.int s30_0), .val (.long s56_0), .second, .val (.ref b89), .val (.ref r105), .val (.long v122), .second, .val (.int v_), .unset, .unset, .unset, .unset, .unset, .unset, .unset, .unset]) (pc' := 131) at_129 rfl (fun _ => rfl) (fun v129 e129 => ?_)
          refine C.iload (pc' := 133) at_131 rfl rfl ?_
          refine C.if_lt (pc' := 136) (pt := 147) at_133 rfl rfl (fun c133 => absurd c133 (own_r1 (own_cases e122 e129 (own_q x30) x80) (own_q x30))) (fun c133 => ?_)
          refine C.iload (pc' := 138) at_136 rfl rfl ?_
          refine C.ldcI (ow0 hw) (pc' := 140) at_138 rfl ?_
          refine C.icmp_gt (pc' := 143) (pt := 147) at_140 rfl rfl (fun c140 => absurd c140 (own_r2 (own_cases e122 e129 (own_q x30) x80) (own_q x30))) (fun c140 => ?_)
          refine C.iconst (v := 1) (pc' := 144) at_143 rfl rfl ?_
          refine C.goto (pc' := 148) at_144 rfl ?_
          refine C.istoreX (l' := #[.val (.long p1), .second, .val (.int p2), .val (.long p3), .second, .val (.int p4), .val (.int (0 : Int32)), .val (.int s30_0), .val (.long s56_0), .second, .val (.ref b89), .val (.ref r105), .val (.long v122), .second, .val (.int v129), .val (.int (1 : Int32)), .unset, .unset, .unset, .unset, .unset, .unset, .unset]) (pc' := 150) at_148 rfl rfl ?_
          refine C.lload (pc' := 152) at_150 rfl rfl ?_
          refine C.lload (pc' := 154) at_152 rfl rfl ?_
          refine C.lif_lt (pc' := 158) (pt := 162) at_154 rfl at_155 rfl rfl (fun c154 => absurd c154 (own_r3 (own_cases e122 e129 (own_q x30) x80) (own_q x30))) (fun c154 => ?_)
          refine C.iconst (v := 1) (pc' := 159) at_158 rfl rfl ?_
          refine C.goto (pc' := 163) at_159 rfl ?_
          refine C.istoreX (l' := #[.val (.long p1), .second, .val (.int p2), .val (.long p3), .second, .val (.int p4), .val (.int (0 : Int32)), .val (.int s30_0), .val (.long s56_0), .second, .val (.ref b89), .val (.ref r105), .val (.long v122), .second, .val (.int v129), .val (.int (1 : Int32)), .val (.int (1 : Int32)), .unset, .unset, .unset, .unset, .unset, .unset]) (pc' := 165) at_163 rfl rfl ?_
          refine C.iload (pc' := 167) at_165 rfl rfl ?_
          refine C.if_ne (pc' := 170) (pt := 183) at_167 rfl rfl (fun c167 => absurd rfl c167) (fun c167 => ?_)
          refine C.lload (pc' := 172) at_170 rfl rfl ?_
          refine C.iload (pc' := 174) at_172 rfl rfl ?_
          refine C.lloadN (pc' := 175) at_174 rfl rfl ?_
          refine C.iload (pc' := 177) at_175 rfl rfl ?_
          refine C.calls (w := 0) (own_rm7 l Z a0 hw n0 h105 v122 v129 p1 s30_0) (ow36 hw) (ow37 hw) (ow38 hw) (ow39 hw) (pc' := 180) at_177 rfl rfl rfl (by decide) pd__JIJI_Z rfl (by decide) (Nat.le_of_eq rfl) (by decide) (by decide) (by decide) (kIe ?_)
          refine C.if_eq (pc' := 183) (pt := 187) at_180 rfl rfl (fun c180 => absurd c180 (own_r4 (own_cases e122 e129 (own_q x30) x80) (own_q x30))) (fun c180 => ?_)
          refine C.iconst (v := 1) (pc' := 184) at_183 rfl rfl ?_
          refine C.goto (pc' := 188) at_184 rfl ?_
          refine C.istoreX (l' := #[.val (.long p1), .second, .val (.int p2), .val (.long p3), .second, .val (.int p4), .val (.int (0 : Int32)), .val (.int s30_0), .val (.long s56_0), .second, .val (.ref b89), .val (.ref r105), .val (.long v122), .second, .val (.int v129), .val (.int (1 : Int32)), .val (.int (1 : Int32)), .val (.int (1 : Int32)), .unset, .unset, .unset, .unset, .unset]) (pc' := 190) at_188 rfl rfl ?_
          refine C.iload (pc' := 192) at_190 rfl rfl ?_
          have j287 : ∀ (z287_19 : Slot) (z287_20 : Slot) (z287_21 : Slot) (z287_22 : Slot), ((¬ (v129 = (0 : Int32)) ∧ v122 < s56_0 ∧ True) ∨ (¬ (v129 = (0 : Int32)) ∧ ¬ (v122 < s56_0) ∧ True) ∨ (v129 = (0 : Int32) ∧ ¬ (v122 = (-9223372036854775808 : Int64)) ∧ (v122 - (1 : Int64)) < s56_0 ∧ True) ∨ (v129 = (0 : Int32) ∧ ¬ (v122 = (-9223372036854775808 : Int64)) ∧ ¬ ((v122 - (1 : Int64)) < s56_0) ∧ True) ∨ (v129 = (0 : Int32) ∧ v122 = (-9223372036854775808 : Int64) ∧ True)) → W h105 2 4 287 #[.val (.long p1), .second, .val (.int p2), .val (.long p3), .second, .val (.int p4), .val (.int (0 : Int32)), .val (.int s30_0), .val (.long s56_0), .second, .val (.ref b89), .val (.ref r105), .val (.long v122), .second, .val (.int v129), .val (.int (1 : Int32)), .val (.int (1 : Int32)), .val (.int (1 : Int32)), .val (.int (1 : Int32)), z287_19, z287_20, z287_21, z287_22] [] := by
            intro z287_19 z287_20 z287_21 z287_22 x287
            refine C.iload (pc' := 289) at_287 rfl rfl ?_
            refine C.if_eq (pc' := 292) (pt := 311) at_289 rfl rfl (fun c289 => absurd c289 (by decide)) (fun c289 => ?_)
            refine C.iload (pc' := 294) at_292 rfl rfl ?_
            refine C.if_eq (pc' := 297) (pt := 311) at_294 rfl rfl (fun c294 => absurd c294 (by decide)) (fun c294 => ?_)
            refine C.iload (pc' := 299) at_297 rfl rfl ?_
            refine C.if_eq (pc' := 302) (pt := 311) at_299 rfl rfl (fun c299 => absurd c299 (by decide)) (fun c299 => ?_)
            refine C.iload (pc' := 304) at_302 rfl rfl ?_
            refine C.if_eq (pc' := 307) (pt := 311) at_304 rfl rfl (fun c304 => absurd c304 (by decide)) (fun c304 => ?_)
            refine C.iconst (v := 1) (pc' := 308) at_307 rfl rfl ?_
            refine C.goto (pc' := 312) at_308 rfl ?_
            refine C.retZ (show ret = some .boolean from rfl) (by decide) at_312 (by decide) (by decide) ⟨_, rfl, rfl⟩
          refine C.if_ne (pc' := 195) (pt := 210) at_192 rfl rfl (fun c192 => ?_) (fun c192 => ?_)
          · skip
            refine C.iload (pc' := 212) at_210 rfl rfl ?_
            refine C.if_le (pc' := 215) (pt := 220) at_212 rfl rfl (fun c212 => absurd (own_r5 (own_cases e122 e129 (own_q x30) x80) (own_q x30) c192) c212) (fun c212 => ?_)
            refine C.lload (pc' := 217) at_215 rfl rfl ?_
            refine C.goto (pc' := 224) at_217 rfl ?_
            refine C.lstoreX (l' := #[.val (.long p1), .second, .val (.int p2), .val (.long p3), .second, .val (.int p4), .val (.int (0 : Int32)), .val (.int s30_0), .val (.long s56_0), .second, .val (.ref b89), .val (.ref r105), .val (.long v122), .second, .val (.int v129), .val (.int (1 : Int32)), .val (.int (1 : Int32)), .val (.int (1 : Int32)), .unset, .val (.long v122), .second, .unset, .unset]) (pc' := 226) at_224 rfl rfl ?_
            refine C.iload (pc' := 228) at_226 rfl rfl ?_
            refine C.if_le (pc' := 231) (pt := 238) at_228 rfl rfl (fun c228 => absurd (own_r5 (own_cases e122 e129 (own_q x30) x80) (own_q x30) c192) c228) (fun c228 => ?_)
            refine C.iload (pc' := 233) at_231 rfl rfl ?_
            refine C.iconst (v := 1) (pc' := 234) at_233 rfl rfl ?_
            refine C.isub (pc' := 235) at_234 rfl ?_
            refine C.goto (pc' := 240) at_235 rfl ?_
            refine C.istoreX (l' := #[.val (.long p1), .second, .val (.int p2), .val (.long p3), .second, .val (.int p4), .val (.int (0 : Int32)), .val (.int s30_0), .val (.long s56_0), .second, .val (.ref b89), .val (.ref r105), .val (.long v122), .second, .val (.int v129), .val (.int (1 : Int32)), .val (.int (1 : Int32)), .val (.int (1 : Int32)), .unset, .val (.long v122), .second, .val (.int (v129 - (1 : Int32))), .unset]) (pc' := 242) at_240 rfl rfl ?_
            refine C.lload (pc' := 244) at_242 rfl rfl ?_
            refine C.lload (pc' := 246) at_244 rfl rfl ?_
            refine C.lif_lt (pc' := 250) (pt := 272) at_246 rfl at_247 rfl rfl (fun c246 => ?_) (fun c246 => ?_)
            · skip
              refine C.iconst (v := 0) (pc' := 273) at_272 rfl rfl ?_
              refine C.istoreX (l' := #[.val (.long p1), .second, .val (.int p2), .val (.long p3), .second, .val (.int p4), .val (.int (0 : Int32)), .val (.int s30_0), .val (.long s56_0), .second, .val (.ref b89), .val (.ref r105), .val (.long v122), .second, .val (.int v129), .val (.int (1 : Int32)), .val (.int (1 : Int32)), .val (.int (1 : Int32)), .unset, .val (.long v122), .second, .val (.int (v129 - (1 : Int32))), .val (.int (0 : Int32))]) (pc' := 275) at_273 rfl rfl ?_
              refine C.iload (pc' := 277) at_275 rfl rfl ?_
              refine C.if_ne (pc' := 280) (pt := 284) at_277 rfl rfl (fun c277 => absurd rfl c277) (fun c277 => ?_)
              refine C.iconst (v := 1) (pc' := 281) at_280 rfl rfl ?_
              refine C.goto (pc' := 285) at_281 rfl ?_
              refine C.istoreX (l' := #[.val (.long p1), .second, .val (.int p2), .val (.long p3), .second, .val (.int p4), .val (.int (0 : Int32)), .val (.int s30_0), .val (.long s56_0), .second, .val (.ref b89), .val (.ref r105), .val (.long v122), .second, .val (.int v129), .val (.int (1 : Int32)), .val (.int (1 : Int32)), .val (.int (1 : Int32)), .val (.int (1 : Int32)), .val (.long v122), .second, .val (.int (v129 - (1 : Int32))), .val (.int (0 : Int32))]) (pc' := 287) at_285 rfl rfl ?_
              exact C.mono (by decide) (by decide) (j287 _ _ _ _ (Or.inl ⟨c192, c246, trivial⟩))
            · skip
              refine C.iload (pc' := 252) at_250 rfl rfl ?_
              refine C.if_ne (pc' := 255) (pt := 268) at_252 rfl rfl (fun c252 => absurd rfl c252) (fun c252 => ?_)
              refine C.lload (pc' := 257) at_255 rfl rfl ?_
              refine C.iload (pc' := 259) at_257 rfl rfl ?_
              refine C.lloadN (pc' := 260) at_259 rfl rfl ?_
              refine C.iload (pc' := 262) at_260 rfl rfl ?_
              refine C.calls (w := 0) (own_rm7 l Z a0 hw n0 h105 v122 (v129 - (1 : Int32)) p1 s30_0) (ow36 hw) (ow37 hw) (ow38 hw) (ow39 hw) (pc' := 265) at_262 rfl rfl rfl (by decide) pd__JIJI_Z rfl (by decide) (Nat.le_of_eq rfl) (by decide) (by decide) (by decide) (kIe ?_)
              refine C.if_eq (pc' := 268) (pt := 272) at_265 rfl rfl (fun c265 => ?_) (fun c265 => absurd (own_r6 (own_cases e122 e129 (own_q x30) x80) (own_q x30) c192) c265)
              refine C.iconst (v := 0) (pc' := 273) at_272 rfl rfl ?_
              refine C.istoreX (l' := #[.val (.long p1), .second, .val (.int p2), .val (.long p3), .second, .val (.int p4), .val (.int (0 : Int32)), .val (.int s30_0), .val (.long s56_0), .second, .val (.ref b89), .val (.ref r105), .val (.long v122), .second, .val (.int v129), .val (.int (1 : Int32)), .val (.int (1 : Int32)), .val (.int (1 : Int32)), .unset, .val (.long v122), .second, .val (.int (v129 - (1 : Int32))), .val (.int (0 : Int32))]) (pc' := 275) at_273 rfl rfl ?_
              refine C.iload (pc' := 277) at_275 rfl rfl ?_
              refine C.if_ne (pc' := 280) (pt := 284) at_277 rfl rfl (fun c277 => absurd rfl c277) (fun c277 => ?_)
              refine C.iconst (v := 1) (pc' := 281) at_280 rfl rfl ?_
              refine C.goto (pc' := 285) at_281 rfl ?_
              refine C.istoreX (l' := #[.val (.long p1), .second, .val (.int p2), .val (.long p3), .second, .val (.int p4), .val (.int (0 : Int32)), .val (.int s30_0), .val (.long s56_0), .second, .val (.ref b89), .val (.ref r105), .val (.long v122), .second, .val (.int v129), .val (.int (1 : Int32)), .val (.int (1 : Int32)), .val (.int (1 : Int32)), .val (.int (1 : Int32)), .val (.long v122), .second, .val (.int (v129 - (1 : Int32))), .val (.int (0 : Int32))]) (pc' := 287) at_285 rfl rfl ?_
              exact C.mono (by decide) (by decide) (j287 _ _ _ _ (Or.inr (Or.inl ⟨c192, c246, trivial⟩)))
          · skip
            refine C.lload (pc' := 197) at_195 rfl rfl ?_
            refine C.ldcJ (ow40 hw) (pc' := 200) at_197 rfl ?_
            refine C.lif_ne (pc' := 204) (pt := 210) at_200 rfl at_201 rfl rfl (fun c200 => ?_) (fun c200 => ?_)
            · skip
              refine C.iload (pc' := 212) at_210 rfl rfl ?_
              refine C.if_le (pc' := 215) (pt := 220) at_212 rfl rfl (fun c212 => ?_) (fun c212 => absurd c212 (by rw [c192]; decide))
              refine C.lload (pc' := 222) at_220 rfl rfl ?_
              refine C.lconst (v := 1) (pc' := 223) at_222 rfl rfl ?_
              refine C.lsub (pc' := 224) at_223 rfl ?_
              refine C.lstoreX (l' := #[.val (.long p1), .second, .val (.int p2), .val (.long p3), .second, .val (.int p4), .val (.int (0 : Int32)), .val (.int s30_0), .val (.long s56_0), .second, .val (.ref b89), .val (.ref r105), .val (.long v122), .second, .val (.int v129), .val (.int (1 : Int32)), .val (.int (1 : Int32)), .val (.int (1 : Int32)), .unset, .val (.long (v122 - (1 : Int64))), .second, .unset, .unset]) (pc' := 226) at_224 rfl rfl ?_
              refine C.iload (pc' := 228) at_226 rfl rfl ?_
              refine C.if_le (pc' := 231) (pt := 238) at_228 rfl rfl (fun c228 => ?_) (fun c228 => absurd c228 (by rw [c192]; decide))
              refine C.ldcI (ow0 hw) (pc' := 240) at_238 rfl ?_
              refine C.istoreX (l' := #[.val (.long p1), .second, .val (.int p2), .val (.long p3), .second, .val (.int p4), .val (.int (0 : Int32)), .val (.int s30_0), .val (.long s56_0), .second, .val (.ref b89), .val (.ref r105), .val (.long v122), .second, .val (.int v129), .val (.int (1 : Int32)), .val (.int (1 : Int32)), .val (.int (1 : Int32)), .unset, .val (.long (v122 - (1 : Int64))), .second, .val (.int (65535 : Int32)), .unset]) (pc' := 242) at_240 rfl rfl ?_
              refine C.lload (pc' := 244) at_242 rfl rfl ?_
              refine C.lload (pc' := 246) at_244 rfl rfl ?_
              refine C.lif_lt (pc' := 250) (pt := 272) at_246 rfl at_247 rfl rfl (fun c246 => ?_) (fun c246 => ?_)
              · skip
                refine C.iconst (v := 0) (pc' := 273) at_272 rfl rfl ?_
                refine C.istoreX (l' := #[.val (.long p1), .second, .val (.int p2), .val (.long p3), .second, .val (.int p4), .val (.int (0 : Int32)), .val (.int s30_0), .val (.long s56_0), .second, .val (.ref b89), .val (.ref r105), .val (.long v122), .second, .val (.int v129), .val (.int (1 : Int32)), .val (.int (1 : Int32)), .val (.int (1 : Int32)), .unset, .val (.long (v122 - (1 : Int64))), .second, .val (.int (65535 : Int32)), .val (.int (0 : Int32))]) (pc' := 275) at_273 rfl rfl ?_
                refine C.iload (pc' := 277) at_275 rfl rfl ?_
                refine C.if_ne (pc' := 280) (pt := 284) at_277 rfl rfl (fun c277 => absurd rfl c277) (fun c277 => ?_)
                refine C.iconst (v := 1) (pc' := 281) at_280 rfl rfl ?_
                refine C.goto (pc' := 285) at_281 rfl ?_
                refine C.istoreX (l' := #[.val (.long p1), .second, .val (.int p2), .val (.long p3), .second, .val (.int p4), .val (.int (0 : Int32)), .val (.int s30_0), .val (.long s56_0), .second, .val (.ref b89), .val (.ref r105), .val (.long v122), .second, .val (.int v129), .val (.int (1 : Int32)), .val (.int (1 : Int32)), .val (.int (1 : Int32)), .val (.int (1 : Int32)), .val (.long (v122 - (1 : Int64))), .second, .val (.int (65535 : Int32)), .val (.int (0 : Int32))]) (pc' := 287) at_285 rfl rfl ?_
                exact C.mono (by decide) (by decide) (j287 _ _ _ _ (Or.inr (Or.inr (Or.inl ⟨c192, c200, c246, trivial⟩))))
              · skip
                refine C.iload (pc' := 252) at_250 rfl rfl ?_
                refine C.if_ne (pc' := 255) (pt := 268) at_252 rfl rfl (fun c252 => absurd rfl c252) (fun c252 => ?_)
                refine C.lload (pc' := 257) at_255 rfl rfl ?_
                refine C.iload (pc' := 259) at_257 rfl rfl ?_
                refine C.lloadN (pc' := 260) at_259 rfl rfl ?_
                refine C.iload (pc' := 262) at_260 rfl rfl ?_
                refine C.calls (w := 0) (own_rm7 l Z a0 hw n0 h105 (v122 - (1 : Int64)) (65535 : Int32) p1 s30_0) (ow36 hw) (ow37 hw) (ow38 hw) (ow39 hw) (pc' := 265) at_262 rfl rfl rfl (by decide) pd__JIJI_Z rfl (by decide) (Nat.le_of_eq rfl) (by decide) (by decide) (by decide) (kIe ?_)
                refine C.if_eq (pc' := 268) (pt := 272) at_265 rfl rfl (fun c265 => ?_) (fun c265 => absurd (own_r7 (own_cases e122 e129 (own_q x30) x80) (own_q x30) c192 c200 c246) c265)
                refine C.iconst (v := 0) (pc' := 273) at_272 rfl rfl ?_
                refine C.istoreX (l' := #[.val (.long p1), .second, .val (.int p2), .val (.long p3), .second, .val (.int p4), .val (.int (0 : Int32)), .val (.int s30_0), .val (.long s56_0), .second, .val (.ref b89), .val (.ref r105), .val (.long v122), .second, .val (.int v129), .val (.int (1 : Int32)), .val (.int (1 : Int32)), .val (.int (1 : Int32)), .unset, .val (.long (v122 - (1 : Int64))), .second, .val (.int (65535 : Int32)), .val (.int (0 : Int32))]) (pc' := 275) at_273 rfl rfl ?_
                refine C.iload (pc' := 277) at_275 rfl rfl ?_
                refine C.if_ne (pc' := 280) (pt := 284) at_277 rfl rfl (fun c277 => absurd rfl c277) (fun c277 => ?_)
                refine C.iconst (v := 1) (pc' := 281) at_280 rfl rfl ?_
                refine C.goto (pc' := 285) at_281 rfl ?_
                refine C.istoreX (l' := #[.val (.long p1), .second, .val (.int p2), .val (.long p3), .second, .val (.int p4), .val (.int (0 : Int32)), .val (.int s30_0), .val (.long s56_0), .second, .val (.ref b89), .val (.ref r105), .val (.long v122), .second, .val (.int v129), .val (.int (1 : Int32)), .val (.int (1 : Int32)), .val (.int (1 : Int32)), .val (.int (1 : Int32)), .val (.long (v122 - (1 : Int64))), .second, .val (.int (65535 : Int32)), .val (.int (0 : Int32))]) (pc' := 287) at_285 rfl rfl ?_
                exact C.mono (by decide) (by decide) (j287 _ _ _ _ (Or.inr (Or.inr (Or.inr (Or.inl ⟨c192, c200, c246, trivial⟩)))))
            · skip
              refine C.iconst (v := 1) (pc' := 205) at_204 rfl rfl ?_
              refine C.istoreX (l' := #[.val (.long p1), .second, .val (.int p2), .val (.long p3), .second, .val (.int p4), .val (.int (0 : Int32)), .val (.int s30_0), .val (.long s56_0), .second, .val (.ref b89), .val (.ref r105), .val (.long v122), .second, .val (.int v129), .val (.int (1 : Int32)), .val (.int (1 : Int32)), .val (.int (1 : Int32)), .val (.int (1 : Int32)), .unset, .unset, .unset, .unset]) (pc' := 207) at_205 rfl rfl ?_
              refine C.goto (pc' := 287) at_207 rfl ?_
              exact C.mono (by decide) (by decide) (j287 _ _ _ _ (Or.inr (Or.inr (Or.inr (Or.inr ⟨c192, c200, trivial⟩)))))
        refine C.lif_ne (pc' := 71) (pt := 80) at_67 rfl at_68 rfl rfl (fun c67 => ?_) (fun c67 => ?_)
        · skip
          exact C.mono (by decide) (by decide) (j80 (Or.inl ⟨c67, trivial⟩))
        · skip
          refine C.iload (pc' := 73) at_71 rfl rfl ?_
          refine C.ldcI (ow0 hw) (pc' := 75) at_73 rfl ?_
          refine C.icmp_ne (pc' := 78) (pt := 80) at_75 rfl rfl (fun c75 => ?_) (fun c75 => ?_)
          · skip
            exact C.mono (by decide) (by decide) (j80 (Or.inr ⟨c67, c75, trivial⟩))
          · skip
            refine C.iconst (v := 1) (pc' := 79) at_78 rfl rfl ?_
            refine C.retZ (show ret = some .boolean from rfl) (by decide) at_79 (by decide) (by decide) ⟨_, rfl, rfl⟩
      refine C.if_eq (pc' := 39) (pt := 55) at_36 rfl rfl (fun c36 => ?_) (fun c36 => ?_)
      · skip
        refine C.lloadN (pc' := 56) at_55 rfl rfl ?_
        exact C.mono (by decide) (by decide) (j56 _ (Or.inl ⟨c36, rfl⟩))
      · skip
        refine C.lloadN (pc' := 40) at_39 rfl rfl ?_
        refine C.iload (pc' := 42) at_40 rfl rfl ?_
        refine C.iconst (v := 3) (pc' := 43) at_42 rfl rfl ?_
        refine C.ishr (s := 3) (pc' := 44) at_43 rfl (by decide) ?_
        refine C.iconst (v := 3) (pc' := 45) at_44 rfl rfl ?_
        refine C.iand (pc' := 46) at_45 rfl ?_
        refine C.i2l (pc' := 47) at_46 rfl ?_
        refine C.ladd (pc' := 48) at_47 rfl ?_
        refine C.ldcJ (ow41 hw) (pc' := 51) at_48 rfl ?_
        refine C.lsub (pc' := 52) at_51 rfl ?_
        refine C.goto (pc' := 56) at_52 rfl ?_
        exact C.mono (by decide) (by decide) (j56 _ (Or.inr ⟨c36, rfl⟩))
    refine C.if_eq (pc' := 21) (pt := 26) at_18 rfl rfl (fun c18 => ?_) (fun c18 => ?_)
    · skip
      refine C.iloadN (pc' := 27) at_26 rfl rfl ?_
      refine C.ldcI (ow0 hw) (pc' := 29) at_27 rfl ?_
      refine C.iand (pc' := 30) at_29 rfl ?_
      exact C.mono (by decide) (by decide) (j30 _ (Or.inl ⟨c18, rfl⟩))
    · skip
      refine C.ldcI (ow0 hw) (pc' := 23) at_21 rfl ?_
      refine C.goto (pc' := 30) at_23 rfl ?_
      exact C.mono (by decide) (by decide) (j30 _ (Or.inr ⟨c18, rfl⟩))
  · skip
    refine C.iconst (v := 1) (pc' := 8) at_7 rfl rfl ?_
    refine C.goto (pc' := 12) at_8 rfl ?_
    refine C.istoreX (l' := #[.val (.long p1), .second, .val (.int p2), .val (.long p3), .second, .val (.int p4), .val (.int (1 : Int32)), .unset, .unset, .unset, .unset, .unset, .unset, .unset, .unset, .unset, .unset, .unset, .unset, .unset, .unset, .unset, .unset]) (pc' := 14) at_12 rfl rfl ?_
    refine C.iload (pc' := 16) at_14 rfl rfl ?_
    refine C.iconst (v := 2) (pc' := 17) at_16 rfl rfl ?_
    refine C.iand (pc' := 18) at_17 rfl ?_
    have j30 : ∀ (s30_0 : Int32), (((p4 &&& (2 : Int32)) = (0 : Int32) ∧ s30_0 = (p2 &&& (65535 : Int32))) ∨ (¬ ((p4 &&& (2 : Int32)) = (0 : Int32)) ∧ s30_0 = (65535 : Int32))) → W hO 0 0 30 #[.val (.long p1), .second, .val (.int p2), .val (.long p3), .second, .val (.int p4), .val (.int (1 : Int32)), .unset, .unset, .unset, .unset, .unset, .unset, .unset, .unset, .unset, .unset, .unset, .unset, .unset, .unset, .unset, .unset] [(.int s30_0)] := by
      intro s30_0 x30
      refine C.istoreX (l' := #[.val (.long p1), .second, .val (.int p2), .val (.long p3), .second, .val (.int p4), .val (.int (1 : Int32)), .val (.int s30_0), .unset, .unset, .unset, .unset, .unset, .unset, .unset, .unset, .unset, .unset, .unset, .unset, .unset, .unset, .unset]) (pc' := 32) at_30 rfl rfl ?_
      refine C.iload (pc' := 34) at_32 rfl rfl ?_
      refine C.iconst (v := 4) (pc' := 35) at_34 rfl rfl ?_
      refine C.iand (pc' := 36) at_35 rfl ?_
      have j56 : ∀ (s56_0 : Int64), (((p4 &&& (4 : Int32)) = (0 : Int32) ∧ s56_0 = p3) ∨ (¬ ((p4 &&& (4 : Int32)) = (0 : Int32)) ∧ s56_0 = ((p1 + (((sarI p4 3) &&& (3 : Int32)).toInt64)) - (2 : Int64)))) → W hO 0 0 56 #[.val (.long p1), .second, .val (.int p2), .val (.long p3), .second, .val (.int p4), .val (.int (1 : Int32)), .val (.int s30_0), .unset, .unset, .unset, .unset, .unset, .unset, .unset, .unset, .unset, .unset, .unset, .unset, .unset, .unset, .unset] [(.long s56_0)] := by
        intro s56_0 x56
        refine C.lstoreX (l' := #[.val (.long p1), .second, .val (.int p2), .val (.long p3), .second, .val (.int p4), .val (.int (1 : Int32)), .val (.int s30_0), .val (.long s56_0), .second, .unset, .unset, .unset, .unset, .unset, .unset, .unset, .unset, .unset, .unset, .unset, .unset, .unset]) (pc' := 58) at_56 rfl rfl ?_
        refine C.iload (pc' := 60) at_58 rfl rfl ?_
        refine C.if_ne (pc' := 63) (pt := 80) at_60 rfl rfl (fun c60 => ?_) (fun c60 => absurd c60 (by decide))
        refine C.iload (pc' := 82) at_80 rfl rfl ?_
        refine C.if_eq (pc' := 85) (pt := 89) at_82 rfl rfl (fun c82 => absurd c82 (by decide)) (fun c82 => ?_)
        refine C.aconstNull (pc' := 86) at_85 rfl ?_
        refine C.goto (pc' := 99) at_86 rfl ?_
        refine C.astore (l' := #[.val (.long p1), .second, .val (.int p2), .val (.long p3), .second, .val (.int p4), .val (.int (1 : Int32)), .val (.int s30_0), .val (.long s56_0), .second, .val .null, .unset, .unset, .unset, .unset, .unset, .unset, .unset, .unset, .unset, .unset, .unset, .unset]) (pc' := 101) at_99 rfl rfl rfl ?_
        refine C.aload (pc' := 103) at_101 rfl rfl rfl ?_
        refine C.lload (pc' := 105) at_103 rfl rfl ?_
        refine C.calls (w := 0) (own_rm4n l Z a0 hw n0 hO s56_0 (Nat.le_trans Z0 K.1)) (ow20 hw) (ow21 hw) (ow4 hw) (ow22 hw) (pc' := 108) at_105 rfl rfl rfl (by decide) pd__Lcom_example_outbox_outbox_Stamp_J_Lcom_example_outbox_outbox_Stamp_ rfl (by decide) (Nat.le_of_eq rfl) (by decide) (by decide) (by decide) (kA fun r105 h105 q105 => ?_)
        obtain ⟨K105, z105_r105, N105_0, N105_1, N105_2⟩ := q105
        have sz_r105 : hO.size ≤ r105 := Nat.le_trans K.1 z105_r105
        have g_r105 : n0 ≤ r105 := Nat.le_trans Z0 sz_r105
        have E_r105 : Exa Z h105 r105 "com/example/outbox/outbox/Stamp" := N105_0
        have F_r105_millis : Fld Z h105 r105 "com/example/outbox/outbox/Stamp" "millis" "J" (.long s56_0) := N105_1
        have F_r105_sequence : Fld Z h105 r105 "com/example/outbox/outbox/Stamp" "sequence" "I" (.int (0 : Int32)) := N105_2
        replace K := K.trans K105 all0
        refine C.astore (l' := #[.val (.long p1), .second, .val (.int p2), .val (.long p3), .second, .val (.int p4), .val (.int (1 : Int32)), .val (.int s30_0), .val (.long s56_0), .second, .val .null, .val (.ref r105), .unset, .unset, .unset, .unset, .unset, .unset, .unset, .unset, .unset, .unset, .unset]) (pc' := 110) at_108 rfl rfl rfl ?_
        refine C.aload (pc' := 112) at_110 rfl rfl rfl ?_
        refine C.ifnonnullYes (pc' := 117) at_112 rfl ?_
        refine C.aload (pc' := 119) at_117 rfl rfl rfl ?_
        refine C.callv (w := 0) (own_rm5 l Z a0 hw n0 h105 r105 s56_0 F_r105_millis) E_r105 (ow26 hw) (ow27 hw) (ow29 hw) (ow28 hw) (ow4 hw) (ow30 hw) (pc' := 122) at_119 rfl rfl rfl (by decide) pd___J rfl (by decide) (Nat.le_of_eq rfl) (by decide) (by decide) (by decide) (kJe ?_)
        refine C.lstoreX (l' := #[.val (.long p1), .second, .val (.int p2), .val (.long p3), .second, .val (.int p4), .val (.int (1 : Int32)), .val (.int s30_0), .val (.long s56_0), .second, .val .null, .val (.ref r105), .val (.long s56_0), .second, .unset, .unset, .unset, .unset, .unset, .unset, .unset, .unset, .unset]) (pc' := 124) at_122 rfl rfl ?_
        refine C.aload (pc' := 126) at_124 rfl rfl rfl ?_
        refine C.callv (w := 0) (own_rm6 l Z a0 hw n0 h105 r105 (0 : Int32) F_r105_sequence) E_r105 (ow31 hw) (ow32 hw) (ow34 hw) (ow33 hw) (ow4 hw) (ow35 hw) (pc' := 129) at_126 rfl rfl rfl (by decide) pd___I rfl (by decide) (Nat.le_of_eq rfl) (by decide) (by decide) (by decide) (kIe ?_)
        refine C.istoreX (l' := #[.val (.long p1), .second, .val (.int p2), .val (.long p3), .second, .val (.int p4), .val (.int (1 : Int32)), .val (.int s30_0), .val (.long s56_0), .second, .val .null, .val (.ref r105), .val (.long s56_0), .second, .val (.int (0 : Int32)), .unset, .unset, .unset, .unset, .unset, .unset, .unset, .unset]) (pc' := 131) at_129 rfl rfl ?_
        refine C.iload (pc' := 133) at_131 rfl rfl ?_
        refine C.if_lt (pc' := 136) (pt := 147) at_133 rfl rfl (fun c133 => absurd c133 (by decide)) (fun c133 => ?_)
        refine C.iload (pc' := 138) at_136 rfl rfl ?_
        refine C.ldcI (ow0 hw) (pc' := 140) at_138 rfl ?_
        refine C.icmp_gt (pc' := 143) (pt := 147) at_140 rfl rfl (fun c140 => absurd c140 (by decide)) (fun c140 => ?_)
        refine C.iconst (v := 1) (pc' := 144) at_143 rfl rfl ?_
        refine C.goto (pc' := 148) at_144 rfl ?_
        refine C.istoreX (l' := #[.val (.long p1), .second, .val (.int p2), .val (.long p3), .second, .val (.int p4), .val (.int (1 : Int32)), .val (.int s30_0), .val (.long s56_0), .second, .val .null, .val (.ref r105), .val (.long s56_0), .second, .val (.int (0 : Int32)), .val (.int (1 : Int32)), .unset, .unset, .unset, .unset, .unset, .unset, .unset]) (pc' := 150) at_148 rfl rfl ?_
        refine C.lload (pc' := 152) at_150 rfl rfl ?_
        refine C.lload (pc' := 154) at_152 rfl rfl ?_
        refine C.lif_lt (pc' := 158) (pt := 162) at_154 rfl at_155 rfl rfl (fun c154 => absurd c154 Int64.lt_irrefl) (fun c154 => ?_)
        refine C.iconst (v := 1) (pc' := 159) at_158 rfl rfl ?_
        refine C.goto (pc' := 163) at_159 rfl ?_
        refine C.istoreX (l' := #[.val (.long p1), .second, .val (.int p2), .val (.long p3), .second, .val (.int p4), .val (.int (1 : Int32)), .val (.int s30_0), .val (.long s56_0), .second, .val .null, .val (.ref r105), .val (.long s56_0), .second, .val (.int (0 : Int32)), .val (.int (1 : Int32)), .val (.int (1 : Int32)), .unset, .unset, .unset, .unset, .unset, .unset]) (pc' := 165) at_163 rfl rfl ?_
        refine C.iload (pc' := 167) at_165 rfl rfl ?_
        refine C.if_ne (pc' := 170) (pt := 183) at_167 rfl rfl (fun c167 => ?_) (fun c167 => absurd c167 (by decide))
        refine C.iconst (v := 1) (pc' := 184) at_183 rfl rfl ?_
        refine C.goto (pc' := 188) at_184 rfl ?_
        refine C.istoreX (l' := #[.val (.long p1), .second, .val (.int p2), .val (.long p3), .second, .val (.int p4), .val (.int (1 : Int32)), .val (.int s30_0), .val (.long s56_0), .second, .val .null, .val (.ref r105), .val (.long s56_0), .second, .val (.int (0 : Int32)), .val (.int (1 : Int32)), .val (.int (1 : Int32)), .val (.int (1 : Int32)), .unset, .unset, .unset, .unset, .unset]) (pc' := 190) at_188 rfl rfl ?_
        refine C.iload (pc' := 192) at_190 rfl rfl ?_
        refine C.if_ne (pc' := 195) (pt := 210) at_192 rfl rfl (fun c192 => absurd rfl c192) (fun c192 => ?_)
        refine C.lload (pc' := 197) at_195 rfl rfl ?_
        refine C.ldcJ (ow40 hw) (pc' := 200) at_197 rfl ?_
        have j287 : ∀ (z287_19 : Slot) (z287_20 : Slot) (z287_21 : Slot) (z287_22 : Slot), ((¬ (s56_0 = (-9223372036854775808 : Int64)) ∧ True) ∨ (s56_0 = (-9223372036854775808 : Int64) ∧ True)) → W h105 1 2 287 #[.val (.long p1), .second, .val (.int p2), .val (.long p3), .second, .val (.int p4), .val (.int (1 : Int32)), .val (.int s30_0), .val (.long s56_0), .second, .val .null, .val (.ref r105), .val (.long s56_0), .second, .val (.int (0 : Int32)), .val (.int (1 : Int32)), .val (.int (1 : Int32)), .val (.int (1 : Int32)), .val (.int (1 : Int32)), z287_19, z287_20, z287_21, z287_22] [] := by
          intro z287_19 z287_20 z287_21 z287_22 x287
          refine C.iload (pc' := 289) at_287 rfl rfl ?_
          refine C.if_eq (pc' := 292) (pt := 311) at_289 rfl rfl (fun c289 => absurd c289 (by decide)) (fun c289 => ?_)
          refine C.iload (pc' := 294) at_292 rfl rfl ?_
          refine C.if_eq (pc' := 297) (pt := 311) at_294 rfl rfl (fun c294 => absurd c294 (by decide)) (fun c294 => ?_)
          refine C.iload (pc' := 299) at_297 rfl rfl ?_
          refine C.if_eq (pc' := 302) (pt := 311) at_299 rfl rfl (fun c299 => absurd c299 (by decide)) (fun c299 => ?_)
          refine C.iload (pc' := 304) at_302 rfl rfl ?_
          refine C.if_eq (pc' := 307) (pt := 311) at_304 rfl rfl (fun c304 => absurd c304 (by decide)) (fun c304 => ?_)
          refine C.iconst (v := 1) (pc' := 308) at_307 rfl rfl ?_
          refine C.goto (pc' := 312) at_308 rfl ?_
          refine C.retZ (show ret = some .boolean from rfl) (by decide) at_312 (by decide) (by decide) ⟨_, rfl, rfl⟩
        refine C.lif_ne (pc' := 204) (pt := 210) at_200 rfl at_201 rfl rfl (fun c200 => ?_) (fun c200 => ?_)
        · skip
          refine C.iload (pc' := 212) at_210 rfl rfl ?_
          refine C.if_le (pc' := 215) (pt := 220) at_212 rfl rfl (fun c212 => ?_) (fun c212 => absurd c212 (by decide))
          refine C.lload (pc' := 222) at_220 rfl rfl ?_
          refine C.lconst (v := 1) (pc' := 223) at_222 rfl rfl ?_
          refine C.lsub (pc' := 224) at_223 rfl ?_
          refine C.lstoreX (l' := #[.val (.long p1), .second, .val (.int p2), .val (.long p3), .second, .val (.int p4), .val (.int (1 : Int32)), .val (.int s30_0), .val (.long s56_0), .second, .val .null, .val (.ref r105), .val (.long s56_0), .second, .val (.int (0 : Int32)), .val (.int (1 : Int32)), .val (.int (1 : Int32)), .val (.int (1 : Int32)), .unset, .val (.long (s56_0 - (1 : Int64))), .second, .unset, .unset]) (pc' := 226) at_224 rfl rfl ?_
          refine C.iload (pc' := 228) at_226 rfl rfl ?_
          refine C.if_le (pc' := 231) (pt := 238) at_228 rfl rfl (fun c228 => ?_) (fun c228 => absurd c228 (by decide))
          refine C.ldcI (ow0 hw) (pc' := 240) at_238 rfl ?_
          refine C.istoreX (l' := #[.val (.long p1), .second, .val (.int p2), .val (.long p3), .second, .val (.int p4), .val (.int (1 : Int32)), .val (.int s30_0), .val (.long s56_0), .second, .val .null, .val (.ref r105), .val (.long s56_0), .second, .val (.int (0 : Int32)), .val (.int (1 : Int32)), .val (.int (1 : Int32)), .val (.int (1 : Int32)), .unset, .val (.long (s56_0 - (1 : Int64))), .second, .val (.int (65535 : Int32)), .unset]) (pc' := 242) at_240 rfl rfl ?_
          refine C.lload (pc' := 244) at_242 rfl rfl ?_
          refine C.lload (pc' := 246) at_244 rfl rfl ?_
          refine C.lif_lt (pc' := 250) (pt := 272) at_246 rfl at_247 rfl rfl (fun c246 => ?_) (fun c246 => absurd (own_n7 c200) c246)
          refine C.iconst (v := 0) (pc' := 273) at_272 rfl rfl ?_
          refine C.istoreX (l' := #[.val (.long p1), .second, .val (.int p2), .val (.long p3), .second, .val (.int p4), .val (.int (1 : Int32)), .val (.int s30_0), .val (.long s56_0), .second, .val .null, .val (.ref r105), .val (.long s56_0), .second, .val (.int (0 : Int32)), .val (.int (1 : Int32)), .val (.int (1 : Int32)), .val (.int (1 : Int32)), .unset, .val (.long (s56_0 - (1 : Int64))), .second, .val (.int (65535 : Int32)), .val (.int (0 : Int32))]) (pc' := 275) at_273 rfl rfl ?_
          refine C.iload (pc' := 277) at_275 rfl rfl ?_
          refine C.if_ne (pc' := 280) (pt := 284) at_277 rfl rfl (fun c277 => absurd rfl c277) (fun c277 => ?_)
          refine C.iconst (v := 1) (pc' := 281) at_280 rfl rfl ?_
          refine C.goto (pc' := 285) at_281 rfl ?_
          refine C.istoreX (l' := #[.val (.long p1), .second, .val (.int p2), .val (.long p3), .second, .val (.int p4), .val (.int (1 : Int32)), .val (.int s30_0), .val (.long s56_0), .second, .val .null, .val (.ref r105), .val (.long s56_0), .second, .val (.int (0 : Int32)), .val (.int (1 : Int32)), .val (.int (1 : Int32)), .val (.int (1 : Int32)), .val (.int (1 : Int32)), .val (.long (s56_0 - (1 : Int64))), .second, .val (.int (65535 : Int32)), .val (.int (0 : Int32))]) (pc' := 287) at_285 rfl rfl ?_
          exact C.mono (by decide) (by decide) (j287 _ _ _ _ (Or.inl ⟨c200, trivial⟩))
        · skip
          refine C.iconst (v := 1) (pc' := 205) at_204 rfl rfl ?_
          refine C.istoreX (l' := #[.val (.long p1), .second, .val (.int p2), .val (.long p3), .second, .val (.int p4), .val (.int (1 : Int32)), .val (.int s30_0), .val (.long s56_0), .second, .val .null, .val (.ref r105), .val (.long s56_0), .second, .val (.int (0 : Int32)), .val (.int (1 : Int32)), .val (.int (1 : Int32)), .val (.int (1 : Int32)), .val (.int (1 : Int32)), .unset, .unset, .unset, .unset]) (pc' := 207) at_205 rfl rfl ?_
          refine C.goto (pc' := 287) at_207 rfl ?_
          exact C.mono (by decide) (by decide) (j287 _ _ _ _ (Or.inr ⟨c200, trivial⟩))
      refine C.if_eq (pc' := 39) (pt := 55) at_36 rfl rfl (fun c36 => ?_) (fun c36 => ?_)
      · skip
        refine C.lloadN (pc' := 56) at_55 rfl rfl ?_
        exact C.mono (by decide) (by decide) (j56 _ (Or.inl ⟨c36, rfl⟩))
      · skip
        refine C.lloadN (pc' := 40) at_39 rfl rfl ?_
        refine C.iload (pc' := 42) at_40 rfl rfl ?_
        refine C.iconst (v := 3) (pc' := 43) at_42 rfl rfl ?_
        refine C.ishr (s := 3) (pc' := 44) at_43 rfl (by decide) ?_
        refine C.iconst (v := 3) (pc' := 45) at_44 rfl rfl ?_
        refine C.iand (pc' := 46) at_45 rfl ?_
        refine C.i2l (pc' := 47) at_46 rfl ?_
        refine C.ladd (pc' := 48) at_47 rfl ?_
        refine C.ldcJ (ow41 hw) (pc' := 51) at_48 rfl ?_
        refine C.lsub (pc' := 52) at_51 rfl ?_
        refine C.goto (pc' := 56) at_52 rfl ?_
        exact C.mono (by decide) (by decide) (j56 _ (Or.inr ⟨c36, rfl⟩))
    refine C.if_eq (pc' := 21) (pt := 26) at_18 rfl rfl (fun c18 => ?_) (fun c18 => ?_)
    · skip
      refine C.iloadN (pc' := 27) at_26 rfl rfl ?_
      refine C.ldcI (ow0 hw) (pc' := 29) at_27 rfl ?_
      refine C.iand (pc' := 30) at_29 rfl ?_
      exact C.mono (by decide) (by decide) (j30 _ (Or.inl ⟨c18, rfl⟩))
    · skip
      refine C.ldcI (ow0 hw) (pc' := 23) at_21 rfl ?_
      refine C.goto (pc' := 30) at_23 rfl ?_
      exact C.mono (by decide) (by decide) (j30 _ (Or.inr ⟨c18, rfl⟩))
set_option maxRecDepth 65536 in
set_option maxHeartbeats 40000000 in
theorem comes_1 {Post : Tables → Env → Array Value → State → Outcome → State → Prop} (hpost : ∀ tb e args s v u, (limb_1_1.after args s (.returned v) u = true ∧ limb_1_2.after args s (.returned v) u = true ∧ True) → FrameEnd s (.returned v) u (Jvm.fieldLocs frame_1_writes args s ++ Jvm.arrayLocs frame_1_arrays args s ++ Jvm.staticLocs frame_1_statics s) 16 128 → Post tb e args s (.returned v) u) :
    ArmFor flags0 classFile x code maxLocals ret World_1 tables_1 room_1 Calls_1 rest_1 Pre_1 Post := by
  intro l hfl _ _ p e ha hc hk s m args below hf hA hF happ hP
  obtain ⟨hcalls, hrest, hpre⟩ := hP
  obtain ⟨-, -, -, hnamed, -, -, -, hat⟩ := (Spec.applies_iff hf).mp happ
  obtain ⟨hg, hn⟩ := and_e (Cond.before_iff.mp (show (Jvm.Cond.and given_1 narrow_1).before args s = true from hpre))
  obtain ⟨g0, t0⟩ := and_e hg
  obtain ⟨k0, t1⟩ := and_e t0
  obtain ⟨k1, t2⟩ := and_e t1
  obtain ⟨k2, t3⟩ := and_e t2
  obtain ⟨w0_, w1_, w2_, w3_, rfl⟩ : ∃ w0_ w1_ w2_ w3_ : Value, args = #[w0_, w1_, w2_, w3_] := by
    have hs : args.size = 4 := by simpa [Cond.value, given_1] using g0
    obtain ⟨L⟩ := args
    match L, hs with
    | [w0_, w1_, w2_, w3_], _ => exact ⟨w0_, w1_, w2_, w3_, rfl⟩
  have hw := fun d (hd : d ∈ tables_1) => atoms_spec (ws := Jvm.Cond.code x code maxLocals ret :: tables_1) hat d (List.mem_cons_of_mem _ hd)
  obtain ⟨i0_, e0_⟩ := isL_v k0
  obtain rfl : w0_ = (.long i0_) := Option.some.inj e0_
  obtain ⟨i1_, e1_⟩ := is_v k1
  obtain rfl : w1_ = (.int i1_) := Option.some.inj e1_
  obtain ⟨i2_, e2_⟩ := isL_v k2
  obtain rfl : w2_ = (.long i2_) := Option.some.inj e2_
  obtain ⟨i3_, e3_⟩ := is_v t3
  obtain rfl : w3_ = (.int i3_) := Option.some.inj e3_
  obtain ⟨n, o, h1, h2, h3, _, L, rfl, ⟨N, _, rfl, rfl⟩, hq⟩ := own_rm0 l s _ hw s.heap.size s.heap i0_ i1_ i2_ i3_  (Nat.le_refl _)  tables_1 p e ha hc hk s m _ below hf ((Spec.applies_iff_loose hf).mp happ).1 ⟨rfl, State.Warmed39.refl s, rfl⟩ trivial
  refine ⟨n, _, h1, h2, h3, hpost _ _ _ _ _ _ ⟨Cond.after_iff.mpr rfl, Cond.after_iff.mpr (eq_i res_at (Term.int_eval (1)) rfl), trivial⟩ ⟨hq.1, hq.2.1, (hq.2.2.sift fun y hy => Or.inr (N y hy)).mono (by decide) (by decide)⟩⟩
theorem main_1_1 : Claimed_1_1 := comes_1 fun _ _ _ _ _ _ h hF => ⟨h.1, hF⟩
theorem main_1_2 : Claimed_1_2 := comes_1 fun _ _ _ _ _ _ h hF => ⟨h.2.1, hF⟩
end Jvm.Pilot.@@N@@
namespace Jvm.Pilot.@@N@@
open Jvm Jvm.ClassFile Sem Op Lib Jvm.Free Jvm.Stand Jvm.Pilot.@@N@@.Jvm.D
/-! MADE BY PROGRAM (witnessworld.py) out of the Statement's table words and the real class files: 10 classes; the members and pool entries that the words name. The judged class is class 1, her method 2. -/
namespace start1
open Jvm.ClassFile
def u (s : String) : CpInfo := .utf8 (stringToUtf16 s)
/-- a pool by its gaps: so many unusable entries, then the entry; so many at the end -/
def gap : Nat → List CpInfo → List CpInfo
  | 0, r => r
  | n + 1, r => .unusable :: gap n r
def poolList (es : List (Nat × CpInfo)) (last : Nat) : List CpInfo := es.foldr (fun e r => gap e.1 (e.2 :: r)) (gap last [])
def pool (es : List (Nat × CpInfo)) (last : Nat) : Array CpInfo := ⟨poolList es last⟩
def fileOf (pool : Array CpInfo) (this : Nat) (attrs : Array Attribute := #[]) (ms : Array MethodInfo := #[]) (fl : Nat := 33) (sup : Nat := 0) (ifs : Array Nat := #[]) (fds : Array FieldInfo := #[]) : ClassFile where
  minorVersion := 0
  majorVersion := 65
  constantPool := pool
  accessFlags := fl
  thisClass := this
  superClass := sup
  interfaces := ifs
  fields := fds
  methods := ms
  attributes := attrs
def plain (name : String) (sup : Option ClassId) : Class where
  name := name
  kind := .ordinary
  loader := none
  accessFlags := 33
  super := sup
  interfaces := #[]
  cf := none
  fields := #[]
  methods := #[]
  instanceTypes := #[]
  staticTypes := #[]
  resolved := #[]
  callSites := []
  init := .initialized
  statics := none
  mirror := none

def pool0 : Array CpInfo := pool [(5, u "<init>"), (0, u "()V"), (1, .class_ 10), (1, u "java/lang/Object")] 113

def k0c0 : Code := { maxStack := 0, maxLocals := 1, code := object_method_1_code, exceptionTable := #[], attributes := #[] }
def k0m0 : Method := { name := "<init>", desc := "()V", sig := { parameters := [], returnType := none }, accessFlags := 1, code := some k0c0 }
/-- java/lang/Object -/
def k0 : Class := { plain "java/lang/Object" none with
  accessFlags := 33
  interfaces := #[]
  cf := some (fileOf pool0 8 #[] #[{ accessFlags := 1, nameIndex := 5, descriptorIndex := 6, attributes := #[] }] 33 0 #[] #[])
  fields := #[]
  methods := #[k0m0]
  instanceTypes := #[]
  staticTypes := #[]
  resolved := Array.replicate 124 none
  statics := none }

def pool1 : Array CpInfo := pool [(2, .class_ 4), (1, u "java/lang/Object"), (0, u "<init>"), (0, u "()V"), (0, .integer 65535), (0, .long 2), (3, .long 9223372036854775807), (1, .class_ 15), (0, u "com/example/outbox/outbox/Stamp"), (0, .methodref 14 17), (0, .nameAndType 5 18), (0, u "(JI)V"), (0, .methodref 14 20), (0, .nameAndType 21 22), (0, u "next"), (0, u "(Lcom/example/outbox/outbox/Stamp;J)Lcom/example/outbox/outbox/Stamp;"), (0, .methodref 14 24), (0, .nameAndType 25 26), (0, u "millis"), (0, u "()J"), (0, .methodref 14 28), (0, .nameAndType 29 30), (0, u "sequence"), (0, u "()I"), (0, .methodref 32 33), (0, .class_ 34), (0, .nameAndType 35 36), (0, u "com/example/outbox/outbox/StampNextPinLaw"), (0, u "greater"), (0, u "(JIJI)Z"), (0, .long 9223372036854775808), (4, u "law")] 2

def k1m0 : Method := { name := "<init>", desc := "()V", sig := { parameters := [], returnType := none }, accessFlags := 1, code := none }
def k1c1 : Code := { maxStack := 4, maxLocals := 6, code := method_2_code, exceptionTable := #[], attributes := #[] }
def k1m1 : Method := { name := "greater", desc := "(JIJI)Z", sig := { parameters := [.long, .int, .long, .int], returnType := some .boolean }, accessFlags := 10, code := some k1c1 }
def k1c2 : Code := { maxStack := 6, maxLocals := 23, code := code, exceptionTable := #[], attributes := #[] }
def k1m2 : Method := { name := "law", desc := "(JIJI)Z", sig := { parameters := [.long, .int, .long, .int], returnType := some .boolean }, accessFlags := 9, code := some k1c2 }
/-- com/example/outbox/outbox/StampNextPinLaw -/
def k1 : Class := { plain "com/example/outbox/outbox/StampNextPinLaw" (some 0) with
  accessFlags := 49
  interfaces := #[]
  cf := some (fileOf pool1 32 #[] #[{ accessFlags := 1, nameIndex := 5, descriptorIndex := 6, attributes := #[] }, { accessFlags := 10, nameIndex := 35, descriptorIndex := 36, attributes := #[] }, { accessFlags := 9, nameIndex := 42, descriptorIndex := 36, attributes := #[] }] 49 2 #[] #[])
  fields := #[]
  methods := #[k1m0, k1m1, k1m2]
  instanceTypes := #[]
  staticTypes := #[]
  resolved := Array.replicate 45 none
  statics := none }

def pool2 : Array CpInfo := pool [(1, .methodref 2 3), (0, .class_ 4), (0, .nameAndType 5 6), (0, u "java/lang/Object"), (0, u "<init>"), (0, u "()V"), (0, .class_ 8), (0, u "java/lang/Record")] 13

def k2c0 : Code := { maxStack := 1, maxLocals := 1, code := jdk_30_method_1_code, exceptionTable := #[], attributes := #[] }
def k2m0 : Method := { name := "<init>", desc := "()V", sig := { parameters := [], returnType := none }, accessFlags := 4, code := some k2c0 }
/-- java/lang/Record -/
def k2 : Class := { plain "java/lang/Record" (some 0) with
  accessFlags := 1057
  interfaces := #[]
  cf := some (fileOf pool2 7 #[] #[{ accessFlags := 4, nameIndex := 5, descriptorIndex := 6, attributes := #[] }] 1057 2 #[] #[])
  fields := #[]
  methods := #[k2m0]
  instanceTypes := #[]
  staticTypes := #[]
  resolved := Array.replicate 22 none
  statics := none }

def pool3 : Array CpInfo := pool [(1, .methodref 2 3), (0, .class_ 4), (0, .nameAndType 5 6), (0, u "java/lang/Record"), (0, u "<init>"), (0, u "()V"), (0, .fieldref 8 9), (0, .class_ 10), (0, .nameAndType 11 12), (0, u "com/example/outbox/outbox/Stamp"), (0, u "millis"), (0, u "J"), (0, .fieldref 8 14), (0, .nameAndType 15 16), (0, u "sequence"), (0, u "I"), (0, .methodref 8 18), (0, .nameAndType 5 19), (0, u "(JI)V"), (2, .integer 65535), (15, u "next"), (0, u "(Lcom/example/outbox/outbox/Stamp;J)Lcom/example/outbox/outbox/Stamp;"), (2, u "()I"), (1, u "()J")] 21

def k3c0 : Code := { maxStack := 3, maxLocals := 4, code := prog_8_method_1_code, exceptionTable := #[], attributes := #[] }
def k3m0 : Method := { name := "<init>", desc := "(JI)V", sig := { parameters := [.long, .int], returnType := none }, accessFlags := 0, code := some k3c0 }
def k3c1 : Code := { maxStack := 6, maxLocals := 3, code := prog_8_method_2_code, exceptionTable := #[], attributes := #[] }
def k3m1 : Method := { name := "next", desc := "(Lcom/example/outbox/outbox/Stamp;J)Lcom/example/outbox/outbox/Stamp;", sig := { parameters := [(.object "com/example/outbox/outbox/Stamp"), .long], returnType := some (.object "com/example/outbox/outbox/Stamp") }, accessFlags := 8, code := some k3c1 }
def k3c2 : Code := { maxStack := 2, maxLocals := 1, code := prog_8_method_6_code, exceptionTable := #[], attributes := #[] }
def k3m2 : Method := { name := "millis", desc := "()J", sig := { parameters := [], returnType := some .long }, accessFlags := 1, code := some k3c2 }
def k3c3 : Code := { maxStack := 1, maxLocals := 1, code := prog_8_method_7_code, exceptionTable := #[], attributes := #[] }
def k3m3 : Method := { name := "sequence", desc := "()I", sig := { parameters := [], returnType := some .int }, accessFlags := 1, code := some k3c3 }
/-- com/example/outbox/outbox/Stamp -/
def k3 : Class := { plain "com/example/outbox/outbox/Stamp" (some 2) with
  accessFlags := 48
  interfaces := #[]
  cf := some (fileOf pool3 8 #[] #[{ accessFlags := 0, nameIndex := 5, descriptorIndex := 19, attributes := #[] }, { accessFlags := 8, nameIndex := 38, descriptorIndex := 39, attributes := #[] }, { accessFlags := 1, nameIndex := 11, descriptorIndex := 44, attributes := #[] }, { accessFlags := 1, nameIndex := 15, descriptorIndex := 42, attributes := #[] }] 48 2 #[] #[{ accessFlags := 18, nameIndex := 11, descriptorIndex := 12, attributes := #[] }, { accessFlags := 18, nameIndex := 15, descriptorIndex := 16, attributes := #[] }])
  fields := #[{ name := "millis", type := .long, accessFlags := 18, slot := 0, constantValue := 0 }, { name := "sequence", type := .int, accessFlags := 18, slot := 1, constantValue := 0 }]
  methods := #[k3m0, k3m1, k3m2, k3m3]
  instanceTypes := #[.long, .int]
  staticTypes := #[]
  resolved := Array.replicate 66 none
  statics := none }

def pool4 : Array CpInfo := pool [(1, u "java/lang/Cloneable"), (0, .class_ 1), (0, u "java/lang/Object"), (0, .class_ 3)] 3

/-- java/lang/Cloneable -/
def k4 : Class := { plain "java/lang/Cloneable" (some 0) with
  accessFlags := 1537
  interfaces := #[]
  cf := some (fileOf pool4 2 #[] #[] 1537 4 #[] #[])
  fields := #[]
  methods := #[]
  instanceTypes := #[]
  staticTypes := #[]
  resolved := Array.replicate 8 none
  statics := none }

def pool5 : Array CpInfo := pool [(1, u "java/io/Serializable"), (0, .class_ 1), (0, u "java/lang/Object"), (0, .class_ 3)] 3

/-- java/io/Serializable -/
def k5 : Class := { plain "java/io/Serializable" (some 0) with
  accessFlags := 1537
  interfaces := #[]
  cf := some (fileOf pool5 2 #[] #[] 1537 4 #[] #[])
  fields := #[]
  methods := #[]
  instanceTypes := #[]
  staticTypes := #[]
  resolved := Array.replicate 8 none
  statics := none }

/-- the primitive byte -/
def k6 : Class := { plain "byte" none with kind := .primitive 'B', accessFlags := 0x411 }
/-- [B -/
def k7 : Class := { plain "[B" (some 0) with kind := .array 6 .byte, interfaces := #[4, 5], accessFlags := 1041 }

/-- the primitive int -/
def k8 : Class := { plain "int" none with kind := .primitive 'I', accessFlags := 0x411 }
/-- [I -/
def k9 : Class := { plain "[I" (some 0) with kind := .array 8 .int, interfaces := #[4, 5], accessFlags := 1041 }

def heap : Heap := #[]
def classes : Array Class := #[k0, k1, k2, k3, k4, k5, k6, k7, k8, k9]
def interned : List (Array UInt16 × Addr) := []
def slotsUsed : Nat := 0
def theMethod : MethodId := ⟨1, 2⟩
def args0 : Array Value := #[.long 5, .int 7, .long 9, .int 3]
def aboutOver (below : List Frame) : State where
  vm := { classes := classes, interned := interned.toArray }
  heap := heap
  slotsUsed := slotsUsed
  threads := #[{ frames := .invoking theMethod args0 :: below }]
def below0 : List Frame := [.native { method := ⟨0, 0⟩, args := #[] }]
def about1 : State := aboutOver below0
def p0 : Program := .bare "" "" ""
def e0 : Env := launch0.env 0 0 0
theorem w_frames : about1.frames = Frame.invoking theMethod args0 :: below0 := rfl
set_option maxRecDepth 65536 in
theorem w_args : argsFit about1.vm theMethod args0 = true := by decide +kernel
set_option maxRecDepth 65536 in
theorem w_heap : heapFits about1 = true := by decide +kernel
set_option maxRecDepth 65536 in
theorem w_runnable : about1.curStatus? = some .runnable := by decide +kernel
set_option maxRecDepth 65536 in
theorem w_alone : about1.alone = true := by decide +kernel
set_option maxRecDepth 65536 in
theorem w_named : about1.methodNamed? x = some theMethod := by decide +kernel
set_option maxRecDepth 65536 in
theorem w_hears : about1.hears theMethod below0 = true := by decide +kernel
set_option maxRecDepth 65536 in
theorem w_ripe : about1.ripe theMethod args0 below0 = true := by decide +kernel
theorem w_running : about1.status = .running := rfl
set_option maxRecDepth 65536 in
theorem w_room : about1.hasRoom e0.platform room_1 = true :=
  launch0.hasRoom_least _ room_1 (by decide +kernel) (by decide +kernel) (by decide +kernel) (by decide +kernel) (by decide +kernel) (by decide +kernel)
theorem allAtoms_all (ts : List Jvm.Cond) (a : Array Jvm.Value) (st : Jvm.State) : (allAtoms ts).before a st = ts.all (fun c => c.before a st) := by
  induction ts with
  | nil => rfl
  | cons c t ih =>
    show (Jvm.Cond.and c (allAtoms t)).before a st = _
    rw [Jvm.Cond.before_and, ih, List.all_cons]
def words1 : List Jvm.Cond := Jvm.Cond.code x code maxLocals ret :: tables_1
/-- a 'code' word, met by the world's own term for the bytes: nothing is compared byte by byte -/
theorem code_word {y : MethodName} {bytes : ByteArray} {mx : Nat} {rt : Option FieldType} {a : Array Value} {s : State} {m : MethodId} {meth : Method} {c : Code} (h1 : s.methodNamed? y = some m) (h2 : s.vm.method? m = some meth) (h3 : meth.code = some c) (h4 : c.code = bytes)
    (h5 : (c.maxLocals == mx && c.exceptionTable.isEmpty && decide (c.maxStack ≤ mostOperands) && decide (meth.sig.returnType = rt) && !meth.locks && decide (parseMethodDescriptor y.desc = some meth.sig)) = true) : (Jvm.Cond.code y bytes mx rt).before a s = true := by
  simp only [Bool.and_eq_true, beq_iff_eq, Bool.not_eq_true', decide_eq_true_eq] at h5
  obtain ⟨⟨⟨⟨⟨g1, g2⟩, g3⟩, g4⟩, g5⟩, g6⟩ := h5
  simp [Cond.before, Cond.holds, Cond.value, h1, h2, h3, h4, g1, g2, g3, g4, g5, g6]
def isCode : Jvm.Cond → Bool
  | .code _ _ _ _ => true
  | _ => false
theorem all_split {L : List Jvm.Cond} {P : Jvm.Cond → Bool} (h1 : L.all (fun c => isCode c || P c) = true) (h2 : ∀ c ∈ L.filter isCode, P c = true) : L.all P = true := by
  refine List.all_eq_true.mpr fun c hc => ?_
  have h := List.all_eq_true.mp h1 c hc
  rcases Bool.eq_false_or_eq_true (isCode c) with hi | hi
  · exact h2 c (List.mem_filter.mpr ⟨hc, hi⟩)
  · simpa [hi] using h
set_option maxRecDepth 65536 in
theorem w_c0 : (Jvm.Cond.code x code maxLocals ret).before args0 about1 = true := code_word (m := ⟨1, 2⟩) (meth := k1m2) (c := k1c2) (by decide +kernel) rfl rfl rfl (by decide +kernel)
set_option maxRecDepth 65536 in
theorem w_c1 : (Jvm.Cond.code ({ cls := "com/example/outbox/outbox/Stamp", name := "<init>", desc := "(JI)V" } : Jvm.MethodName) prog_8_method_1_code (4 : Nat) (Option.none : Option Jvm.ClassFile.FieldType)).before args0 about1 = true := code_word (m := ⟨3, 0⟩) (meth := k3m0) (c := k3c0) (by decide +kernel) rfl rfl rfl (by decide +kernel)
set_option maxRecDepth 65536 in
theorem w_c2 : (Jvm.Cond.code ({ cls := "java/lang/Record", name := "<init>", desc := "()V" } : Jvm.MethodName) jdk_30_method_1_code (1 : Nat) (Option.none : Option Jvm.ClassFile.FieldType)).before args0 about1 = true := code_word (m := ⟨2, 0⟩) (meth := k2m0) (c := k2c0) (by decide +kernel) rfl rfl rfl (by decide +kernel)
set_option maxRecDepth 65536 in
theorem w_c3 : (Jvm.Cond.code ({ cls := "java/lang/Object", name := "<init>", desc := "()V" } : Jvm.MethodName) object_method_1_code (1 : Nat) (Option.none : Option Jvm.ClassFile.FieldType)).before args0 about1 = true := code_word (m := ⟨0, 0⟩) (meth := k0m0) (c := k0c0) (by decide +kernel) rfl rfl rfl (by decide +kernel)
set_option maxRecDepth 65536 in
theorem w_c4 : (Jvm.Cond.code ({ cls := "com/example/outbox/outbox/Stamp", name := "next", desc := "(Lcom/example/outbox/outbox/Stamp;J)Lcom/example/outbox/outbox/Stamp;" } : Jvm.MethodName) prog_8_method_2_code (3 : Nat) (Option.some (Jvm.ClassFile.FieldType.object "com/example/outbox/outbox/Stamp"))).before args0 about1 = true := code_word (m := ⟨3, 1⟩) (meth := k3m1) (c := k3c1) (by decide +kernel) rfl rfl rfl (by decide +kernel)
set_option maxRecDepth 65536 in
theorem w_c5 : (Jvm.Cond.code ({ cls := "com/example/outbox/outbox/Stamp", name := "millis", desc := "()J" } : Jvm.MethodName) prog_8_method_6_code (1 : Nat) (Option.some Jvm.ClassFile.FieldType.long)).before args0 about1 = true := code_word (m := ⟨3, 2⟩) (meth := k3m2) (c := k3c2) (by decide +kernel) rfl rfl rfl (by decide +kernel)
set_option maxRecDepth 65536 in
theorem w_c6 : (Jvm.Cond.code ({ cls := "com/example/outbox/outbox/Stamp", name := "sequence", desc := "()I" } : Jvm.MethodName) prog_8_method_7_code (1 : Nat) (Option.some Jvm.ClassFile.FieldType.int)).before args0 about1 = true := code_word (m := ⟨3, 3⟩) (meth := k3m3) (c := k3c3) (by decide +kernel) rfl rfl rfl (by decide +kernel)
set_option maxRecDepth 65536 in
theorem w_c7 : (Jvm.Cond.code ({ cls := "com/example/outbox/outbox/StampNextPinLaw", name := "greater", desc := "(JIJI)Z" } : Jvm.MethodName) method_2_code (6 : Nat) (Option.some Jvm.ClassFile.FieldType.boolean)).before args0 about1 = true := code_word (m := ⟨1, 1⟩) (meth := k1m1) (c := k1c1) (by decide +kernel) rfl rfl rfl (by decide +kernel)
def codes1 : List Jvm.Cond := [Jvm.Cond.code x code maxLocals ret, Jvm.Cond.code ({ cls := "com/example/outbox/outbox/Stamp", name := "<init>", desc := "(JI)V" } : Jvm.MethodName) prog_8_method_1_code (4 : Nat) (Option.none : Option Jvm.ClassFile.FieldType), Jvm.Cond.code ({ cls := "java/lang/Record", name := "<init>", desc := "()V" } : Jvm.MethodName) jdk_30_method_1_code (1 : Nat) (Option.none : Option Jvm.ClassFile.FieldType), Jvm.Cond.code ({ cls := "java/lang/Object", name := "<init>", desc := "()V" } : Jvm.MethodName) object_method_1_code (1 : Nat) (Option.none : Option Jvm.ClassFile.FieldType), Jvm.Cond.code ({ cls := "com/example/outbox/outbox/Stamp", name := "next", desc := "(Lcom/example/outbox/outbox/Stamp;J)Lcom/example/outbox/outbox/Stamp;" } : Jvm.MethodName) prog_8_method_2_code (3 : Nat) (Option.some (Jvm.ClassFile.FieldType.object "com/example/outbox/outbox/Stamp")), Jvm.Cond.code ({ cls := "com/example/outbox/outbox/Stamp", name := "millis", desc := "()J" } : Jvm.MethodName) prog_8_method_6_code (1 : Nat) (Option.some Jvm.ClassFile.FieldType.long), Jvm.Cond.code ({ cls := "com/example/outbox/outbox/Stamp", name := "sequence", desc := "()I" } : Jvm.MethodName) prog_8_method_7_code (1 : Nat) (Option.some Jvm.ClassFile.FieldType.int), Jvm.Cond.code ({ cls := "com/example/outbox/outbox/StampNextPinLaw", name := "greater", desc := "(JIJI)Z" } : Jvm.MethodName) method_2_code (6 : Nat) (Option.some Jvm.ClassFile.FieldType.boolean)]
set_option maxRecDepth 65536 in
theorem codes_eq : words1.filter isCode = codes1 := rfl
theorem w_codes : ∀ c ∈ words1.filter isCode, c.before args0 about1 = true := by
  rw [codes_eq]
  intro c hc
  simp only [codes1, List.mem_cons, List.not_mem_nil, or_false] at hc
  rcases hc with rfl | rfl | rfl | rfl | rfl | rfl | rfl | rfl
  · exact w_c0
  · exact w_c1
  · exact w_c2
  · exact w_c3
  · exact w_c4
  · exact w_c5
  · exact w_c6
  · exact w_c7
set_option maxRecDepth 65536 in
theorem w_t1 : (words1.take 24).all (fun c => isCode c || c.before args0 about1) = true := by decide +kernel
set_option maxRecDepth 65536 in
theorem w_t2 : (words1.drop 24).all (fun c => isCode c || c.before args0 about1) = true := by decide +kernel
theorem w_tables : (allAtoms (Jvm.Cond.code x code maxLocals ret :: tables_1)).before args0 about1 = true := by
  rw [allAtoms_all]
  show words1.all (fun c => c.before args0 about1) = true
  refine all_split ?_ w_codes
  rw [← List.take_append_drop 24 words1, List.all_append, w_t1, w_t2]
  rfl
set_option maxRecDepth 65536 in
theorem w_case : (Jvm.Cond.and given_1 narrow_1).before args0 about1 = true := by decide +kernel
theorem w_applies : (headSpec (Jvm.Cond.code x code maxLocals ret :: tables_1) room_1).applies x e0.platform about1 = true :=
  (Spec.applies_iff w_frames).mpr ⟨w_running, w_runnable, w_alone, w_named, w_hears, w_ripe, w_room, w_tables⟩
theorem atStart : AtStart classFile x code maxLocals ret World_1 tables_1 room_1 Calls_1 rest_1 Pre_1 launch0 p0 e0 about1 theMethod args0 below0 :=
  ⟨lists_1, trivial, launch0.admits_env _ _ _, launch0.least_env, fairChoices_fair.cas, fairChoices_fair.clock, w_frames, w_args, w_heap, w_applies, trivial, trivial, w_case⟩
end start1
theorem witness_1 : WitnessClaimed_1 := ⟨start1.p0, start1.e0, start1.about1, start1.theMethod, start1.args0, start1.below0, start1.atStart⟩
end Jvm.Pilot.@@N@@
