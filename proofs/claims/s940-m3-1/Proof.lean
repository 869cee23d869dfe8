import JvmDerived
import JvmDerived.Pilot.@@N@@Statement
import JvmDerived.Pilot.@@N@@Code
set_option linter.unusedVariables false
set_option linter.unusedSimpArgs false

namespace Jvm.OwnW
open Sem ClassFile Op Lib Jvm.Stand Jvm.Free Jvm.LawKit Jvm.RoadKit
/-- what the walk of one body stands on -/
def Ctx (p : Program) (l : Launch) (e : Env) (R : Room) (s : State) (m : MethodId) (args : Array Value) (below : List Frame) (meth : Method) (c : Code) (Z : State) (own : String) (code : ByteArray) (maxL : Nat) (ret : Option FieldType) (nm : String) : Prop :=
  p.tables.exec = Jvm.exec ∧ c.code = code ∧ c.maxLocals = maxL ∧ s.vm.findClass own = some m.cls ∧ Z.Warmed39 s.vm ∧ meth.sig.returnType = ret ∧ meth.locks = false ∧ meth.name = nm
/-- from here the body returns, and G holds of what it returns and of the heap -/
def WP (p : Program) (l : Launch) (e : Env) (R : Room) (s : State) (m : MethodId) (args : Array Value) (below : List Frame) (meth : Method) (c : Code) (n0 : Nat) (G : Option Value → Heap → Prop)
    (h : Heap) (k n pc : Nat) (Ls : Array Slot) (st : List Value) : Prop :=
  ∀ (T : State) (locs : List Loc) (k' n' : Nat), k' ≤ k → n' ≤ n → Stand p l e R s m args below meth c T locs k' n' → T.heap = h → Fr n0 locs →
    ∃ s₂ o, Steps p.tables e below (T.setTop (mkF m pc Ls st)) s₂ ∧ s₂.status = .running ∧ Ended s₂ below o ∧ ∃ v L, o = .returned v ∧ (Fr n0 L ∧ G v s₂.heap) ∧ FrameEnd s o s₂ L R.cells R.slots
abbrev WT : Type := Heap → Nat → Nat → Nat → Array Slot → List Value → Prop
def Ru (l : Launch) (Z : State) (own : String) (code : ByteArray) (maxL : Nat) (ret : Option FieldType) (nm : String) (R : Room) (n0 : Nat) (G : Option Value → Heap → Prop) (W : WT) : Prop :=
  ∃ (p : Program) (e : Env) (s : State) (m : MethodId) (args : Array Value) (below : List Frame) (meth : Method) (c : Code), Ctx p l e R s m args below meth c Z own code maxL ret nm ∧ W = WP p l e R s m args below meth c n0 G
/-- a body's contract -/
def MeetsW (l : Launch) (Z : State) (n0 : Nat) (y : MethodName) (bytes : ByteArray) (maxL : Nat) (ret : Option FieldType) (rm : Room) (as : Array Value) (h : Heap) (G : Option Value → Heap → Prop) : Prop :=
  ∀ ws : List Cond, MetFree l y (head1 (Cond.code y bytes maxL ret :: ws) rm) (fun a U => a = as ∧ Z.Warmed39 U.vm ∧ U.heap = h) (fun _ _ _ _ _ => True)
    (fun _ U o U' => ∃ v L, o = .returned v ∧ (Fr n0 L ∧ G v U'.heap) ∧ FrameEnd U o U' L rm.cells rm.slots)
theorem MeetsW.intro {l : Launch} {Z : State} {n0 : Nat} {y : MethodName} {bytes : ByteArray} {maxL : Nat} {ret : Option FieldType} {rm : Room} {as : Array Value} {h : Heap} {G : Option Value → Heap → Prop} {Ls : Array Slot}
    (hp : plainFor y = true) (hef : ∀ m, entryFrame m as maxL = mkF m 0 Ls [])
    (body : ∀ W, Ru l Z y.cls bytes maxL ret y.name rm n0 G W → W h 0 0 0 Ls []) : MeetsW l Z n0 y bytes maxL ret rm as h G := by
  intro ws
  refine MetFree.of_bodySF hp hisR ?_
  intro p e s m args below meth c s₁ Bd hml0 hP hK
  obtain ⟨rfl, hZ, hh⟩ := hP
  have X0 : Stand p l e rm s m args below meth c s₁ [] 0 0 := Stand.of_body Bd
  have e0 : s₁.heap = h := by rw [← hh, Bd.state]; rfl
  have C : Ctx p l e rm s m args below meth c Z y.cls bytes maxL ret y.name := ⟨Bd.exec, Bd.bytes, hml0, findClass_of_methodNamed Bd.named, hZ, Bd.returns, Bd.notSynchronized, (name_of_methodNamed Bd.named Bd.method).1⟩
  have q := body _ ⟨p, e, s, m, args, below, meth, c, C, rfl⟩ s₁ [] 0 0 (Nat.le_refl _) (Nat.le_refl _) X0 e0 (Fr.nil n0)
  rw [hef]
  exact q

/-! shifts, by how many places -/
def sh5 (y : Int32) : Nat := y.toBitVec.toNat % 32
def sh6 (y : Int32) : Nat := y.toBitVec.toNat % 64
def shlI (x : Int32) (k : Nat) : Int32 := Int32.ofBitVec (x.toBitVec <<< k)
def shrI (x : Int32) (k : Nat) : Int32 := Int32.ofBitVec (x.toBitVec >>> k)
def sarI (x : Int32) (k : Nat) : Int32 := Int32.ofBitVec (x.toBitVec.sshiftRight k)
def shlL (x : Int64) (k : Nat) : Int64 := Int64.ofBitVec (x.toBitVec <<< k)
def shrL (x : Int64) (k : Nat) : Int64 := Int64.ofBitVec (x.toBitVec >>> k)
def sarL (x : Int64) (k : Nat) : Int64 := Int64.ofBitVec (x.toBitVec.sshiftRight k)
theorem and31 (y : Int32) : (y &&& 31).toBitVec.toNat = sh5 y := by
  show (y.toBitVec &&& (31 : Int32).toBitVec).toNat = _
  rw [BitVec.toNat_and, show (31 : Int32).toBitVec.toNat = 2 ^ 5 - 1 from by decide, Nat.and_two_pow_sub_one_eq_mod]; rfl
theorem and63 (y : Int32) : (y.toInt64 &&& 63).toBitVec = BitVec.ofNat 64 (sh6 y) := by
  apply BitVec.eq_of_toNat_eq
  show (y.toBitVec.signExtend 64 &&& (63 : Int64).toBitVec).toNat = _
  rw [BitVec.toNat_and, show (63 : Int64).toBitVec.toNat = 2 ^ 6 - 1 from by decide, Nat.and_two_pow_sub_one_eq_mod, BitVec.toNat_ofNat, BitVec.toNat_signExtend]
  have h1 := y.toBitVec.isLt
  have h2 : (BitVec.setWidth 64 y.toBitVec).toNat = y.toBitVec.toNat := by rw [BitVec.toNat_setWidth]; omega
  rw [h2]
  unfold sh6
  split <;> omega
theorem ishl_eq (x y : Int32) : x <<< (y &&& 31) = shlI x (sh5 y) := by
  apply Int32.toBitVec_inj.mp
  show x.toBitVec <<< ((y &&& 31).toBitVec.smod 32) = x.toBitVec <<< (sh5 y)
  rw [BitVec.shiftLeft_eq', sm32 y _ rfl]; rfl
theorem ishr_eq (x y : Int32) : x >>> (y &&& 31) = sarI x (sh5 y) := by
  apply Int32.toBitVec_inj.mp
  show x.toBitVec.sshiftRight (((y &&& 31).toBitVec.smod 32).toNat) = x.toBitVec.sshiftRight (sh5 y)
  rw [sm32 y _ rfl]; rfl
theorem iushr_eq (x y : Int32) : XT.ushr x y = shrI x (sh5 y) := by
  apply Int32.toBitVec_inj.mp
  show x.toBitVec >>> ((y &&& 31).toBitVec % 32) = x.toBitVec >>> (sh5 y)
  rw [BitVec.ushiftRight_eq', BitVec.toNat_umod, and31]
  congr 1
  show sh5 y % 32 = sh5 y
  unfold sh5; omega
theorem lshl_eq (x : Int64) (y : Int32) : x <<< (y.toInt64 &&& 63) = shlL x (sh6 y) := by
  apply Int64.toBitVec_inj.mp
  show x.toBitVec <<< ((y.toInt64 &&& 63).toBitVec.smod 64) = x.toBitVec <<< (sh6 y)
  rw [BitVec.shiftLeft_eq', and63, smod64 _ (by unfold sh6; omega)]
theorem lshr_eq (x : Int64) (y : Int32) : x >>> (y.toInt64 &&& 63) = sarL x (sh6 y) := by
  apply Int64.toBitVec_inj.mp
  show x.toBitVec.sshiftRight (((y.toInt64 &&& 63).toBitVec.smod 64).toNat) = x.toBitVec.sshiftRight (sh6 y)
  rw [and63, smod64 _ (by unfold sh6; omega)]
theorem lushr_eq (x : Int64) (y : Int32) : XT.ushrL x y = shrL x (sh6 y) := by
  apply Int64.toBitVec_inj.mp
  show x.toBitVec >>> ((y.toInt64 &&& 63).toBitVec % 64) = x.toBitVec >>> (sh6 y)
  rw [BitVec.ushiftRight_eq', BitVec.toNat_umod, and63, BitVec.toNat_ofNat]
  congr 1
  show sh6 y % 2 ^ 64 % 64 = sh6 y
  unfold sh6; omega
section Steps
variable {l : Launch} {Z : State} {own : String} {code : ByteArray} {maxL : Nat} {ret : Option FieldType} {nm : String} {R : Room} {n0 : Nat} {G : Option Value → Heap → Prop} {W : WT} {h : Heap} {k n pc pc' : Nat} {Ls : Array Slot} {st rest : List Value}
theorem Ru.mono (C : Ru l Z own code maxL ret nm R n0 G W) {k2 n2 : Nat} (hk : k ≤ k2) (hn : n ≤ n2) (q : W h k2 n2 pc Ls st) : W h k n pc Ls st := by
  obtain ⟨p, e, s, m, args, below, meth, c, C, rfl⟩ := C
  intro T locs k' n' q1 q2 X eT N
  exact q T locs k' n' (Nat.le_trans q1 hk) (Nat.le_trans q2 hn) X eT N
theorem Ru.atPc (C : Ru l Z own code maxL ret nm R n0 G W) {pc2 : Nat} (hp : pc2 = pc) (q : W h k n pc2 Ls st) : W h k n pc Ls st := hp ▸ q
theorem Ru.iadd (C : Ru l Z own code maxL ret nm R n0 G W) {x y : Int32} (hd : decode code pc = .ok (.iadd, 1)) (hp : pc + 1 = pc') (q : W h k n pc' Ls (.int (x + y) :: rest)) : W h k n pc Ls (.int y :: .int x :: rest) := by
  obtain ⟨p, e, s, m, args, below, meth, c, ⟨hx, hby, hml, hown, hZ, hre, hlk, hnm⟩, rfl⟩ := C
  subst hp
  intro T locs k' n' q1 q2 X eT N
  obtain ⟨s2, o, st2, r⟩ := q T locs k' n' q1 q2 X eT N
  exact ⟨s2, o, XS.iadd (X.here) hx rfl (hb hby hd) rfl st2, r⟩
theorem Ru.isub (C : Ru l Z own code maxL ret nm R n0 G W) {x y : Int32} (hd : decode code pc = .ok (.isub, 1)) (hp : pc + 1 = pc') (q : W h k n pc' Ls (.int (x - y) :: rest)) : W h k n pc Ls (.int y :: .int x :: rest) := by
  obtain ⟨p, e, s, m, args, below, meth, c, ⟨hx, hby, hml, hown, hZ, hre, hlk, hnm⟩, rfl⟩ := C
  subst hp
  intro T locs k' n' q1 q2 X eT N
  obtain ⟨s2, o, st2, r⟩ := q T locs k' n' q1 q2 X eT N
  exact ⟨s2, o, XS.isub (X.here) hx rfl (hb hby hd) rfl st2, r⟩
theorem Ru.iand (C : Ru l Z own code maxL ret nm R n0 G W) {x y : Int32} (hd : decode code pc = .ok (.iand, 1)) (hp : pc + 1 = pc') (q : W h k n pc' Ls (.int (x &&& y) :: rest)) : W h k n pc Ls (.int y :: .int x :: rest) := by
  obtain ⟨p, e, s, m, args, below, meth, c, ⟨hx, hby, hml, hown, hZ, hre, hlk, hnm⟩, rfl⟩ := C
  subst hp
  intro T locs k' n' q1 q2 X eT N
  obtain ⟨s2, o, st2, r⟩ := q T locs k' n' q1 q2 X eT N
  exact ⟨s2, o, XS.iand (X.here) hx rfl (hb hby hd) rfl st2, r⟩
theorem Ru.imul (C : Ru l Z own code maxL ret nm R n0 G W) {x y : Int32} (hd : decode code pc = .ok (.imul, 1)) (hp : pc + 1 = pc') (q : W h k n pc' Ls (.int (x * y) :: rest)) : W h k n pc Ls (.int y :: .int x :: rest) := by
  obtain ⟨p, e, s, m, args, below, meth, c, ⟨hx, hby, hml, hown, hZ, hre, hlk, hnm⟩, rfl⟩ := C
  subst hp
  intro T locs k' n' q1 q2 X eT N
  obtain ⟨s2, o, st2, r⟩ := q T locs k' n' q1 q2 X eT N
  exact ⟨s2, o, XS.imul (X.here) hx rfl (hb hby hd) rfl st2, r⟩
theorem Ru.ixor (C : Ru l Z own code maxL ret nm R n0 G W) {x y : Int32} (hd : decode code pc = .ok (.ixor, 1)) (hp : pc + 1 = pc') (q : W h k n pc' Ls (.int (x ^^^ y) :: rest)) : W h k n pc Ls (.int y :: .int x :: rest) := by
  obtain ⟨p, e, s, m, args, below, meth, c, ⟨hx, hby, hml, hown, hZ, hre, hlk, hnm⟩, rfl⟩ := C
  subst hp
  intro T locs k' n' q1 q2 X eT N
  obtain ⟨s2, o, st2, r⟩ := q T locs k' n' q1 q2 X eT N
  exact ⟨s2, o, XT.ixor (X.here) hx rfl (hb hby hd) rfl st2, r⟩
theorem Ru.ior (C : Ru l Z own code maxL ret nm R n0 G W) {x y : Int32} (hd : decode code pc = .ok (.ior, 1)) (hp : pc + 1 = pc') (q : W h k n pc' Ls (.int (x ||| y) :: rest)) : W h k n pc Ls (.int y :: .int x :: rest) := by
  obtain ⟨p, e, s, m, args, below, meth, c, ⟨hx, hby, hml, hown, hZ, hre, hlk, hnm⟩, rfl⟩ := C
  subst hp
  intro T locs k' n' q1 q2 X eT N
  obtain ⟨s2, o, st2, r⟩ := q T locs k' n' q1 q2 X eT N
  exact ⟨s2, o, XT.ior (X.here) hx rfl (hb hby hd) rfl st2, r⟩
theorem Ru.idiv (C : Ru l Z own code maxL ret nm R n0 G W) {x y : Int32} (hd : decode code pc = .ok (.idiv, 1)) (hp : pc + 1 = pc') (hy : y ≠ 0) (q : W h k n pc' Ls (.int (x / y) :: rest)) : W h k n pc Ls (.int y :: .int x :: rest) := by
  obtain ⟨p, e, s, m, args, below, meth, c, ⟨hx, hby, hml, hown, hZ, hre, hlk, hnm⟩, rfl⟩ := C
  subst hp
  intro T locs k' n' q1 q2 X eT N
  obtain ⟨s2, o, st2, r⟩ := q T locs k' n' q1 q2 X eT N
  exact ⟨s2, o, XS.idiv (X.here) hx rfl (hb hby hd) rfl hy st2, r⟩
theorem Ru.irem (C : Ru l Z own code maxL ret nm R n0 G W) {x y : Int32} (hd : decode code pc = .ok (.irem, 1)) (hp : pc + 1 = pc') (hy : y ≠ 0) (q : W h k n pc' Ls (.int (x % y) :: rest)) : W h k n pc Ls (.int y :: .int x :: rest) := by
  obtain ⟨p, e, s, m, args, below, meth, c, ⟨hx, hby, hml, hown, hZ, hre, hlk, hnm⟩, rfl⟩ := C
  subst hp
  intro T locs k' n' q1 q2 X eT N
  obtain ⟨s2, o, st2, r⟩ := q T locs k' n' q1 q2 X eT N
  exact ⟨s2, o, iremM (X) hx rfl (hb hby hd) rfl hy st2, r⟩
theorem Ru.ineg (C : Ru l Z own code maxL ret nm R n0 G W) {x : Int32} (hd : decode code pc = .ok (.ineg, 1)) (hp : pc + 1 = pc') (q : W h k n pc' Ls (.int (-x) :: rest)) : W h k n pc Ls (.int x :: rest) := by
  obtain ⟨p, e, s, m, args, below, meth, c, ⟨hx, hby, hml, hown, hZ, hre, hlk, hnm⟩, rfl⟩ := C
  subst hp
  intro T locs k' n' q1 q2 X eT N
  obtain ⟨s2, o, st2, r⟩ := q T locs k' n' q1 q2 X eT N
  exact ⟨s2, o, XS.ineg (X.here) hx rfl (hb hby hd) rfl st2, r⟩
theorem Ru.ladd (C : Ru l Z own code maxL ret nm R n0 G W) {x y : Int64} (hd : decode code pc = .ok (.ladd, 1)) (hp : pc + 1 = pc') (q : W h k n pc' Ls (.long (x + y) :: rest)) : W h k n pc Ls (.long y :: .long x :: rest) := by
  obtain ⟨p, e, s, m, args, below, meth, c, ⟨hx, hby, hml, hown, hZ, hre, hlk, hnm⟩, rfl⟩ := C
  subst hp
  intro T locs k' n' q1 q2 X eT N
  obtain ⟨s2, o, st2, r⟩ := q T locs k' n' q1 q2 X eT N
  exact ⟨s2, o, XT.ladd (X.here) hx rfl (hb hby hd) rfl st2, r⟩
theorem Ru.lsub (C : Ru l Z own code maxL ret nm R n0 G W) {x y : Int64} (hd : decode code pc = .ok (.lsub, 1)) (hp : pc + 1 = pc') (q : W h k n pc' Ls (.long (x - y) :: rest)) : W h k n pc Ls (.long y :: .long x :: rest) := by
  obtain ⟨p, e, s, m, args, below, meth, c, ⟨hx, hby, hml, hown, hZ, hre, hlk, hnm⟩, rfl⟩ := C
  subst hp
  intro T locs k' n' q1 q2 X eT N
  obtain ⟨s2, o, st2, r⟩ := q T locs k' n' q1 q2 X eT N
  exact ⟨s2, o, XT.lsub (X.here) hx rfl (hb hby hd) rfl st2, r⟩
theorem Ru.lmul (C : Ru l Z own code maxL ret nm R n0 G W) {x y : Int64} (hd : decode code pc = .ok (.lmul, 1)) (hp : pc + 1 = pc') (q : W h k n pc' Ls (.long (x * y) :: rest)) : W h k n pc Ls (.long y :: .long x :: rest) := by
  obtain ⟨p, e, s, m, args, below, meth, c, ⟨hx, hby, hml, hown, hZ, hre, hlk, hnm⟩, rfl⟩ := C
  subst hp
  intro T locs k' n' q1 q2 X eT N
  obtain ⟨s2, o, st2, r⟩ := q T locs k' n' q1 q2 X eT N
  exact ⟨s2, o, XT.lmul (X.here) hx rfl (hb hby hd) rfl st2, r⟩
theorem Ru.land (C : Ru l Z own code maxL ret nm R n0 G W) {x y : Int64} (hd : decode code pc = .ok (.land, 1)) (hp : pc + 1 = pc') (q : W h k n pc' Ls (.long (x &&& y) :: rest)) : W h k n pc Ls (.long y :: .long x :: rest) := by
  obtain ⟨p, e, s, m, args, below, meth, c, ⟨hx, hby, hml, hown, hZ, hre, hlk, hnm⟩, rfl⟩ := C
  subst hp
  intro T locs k' n' q1 q2 X eT N
  obtain ⟨s2, o, st2, r⟩ := q T locs k' n' q1 q2 X eT N
  exact ⟨s2, o, XT.land (X.here) hx rfl (hb hby hd) rfl st2, r⟩
theorem Ru.lor (C : Ru l Z own code maxL ret nm R n0 G W) {x y : Int64} (hd : decode code pc = .ok (.lor, 1)) (hp : pc + 1 = pc') (q : W h k n pc' Ls (.long (x ||| y) :: rest)) : W h k n pc Ls (.long y :: .long x :: rest) := by
  obtain ⟨p, e, s, m, args, below, meth, c, ⟨hx, hby, hml, hown, hZ, hre, hlk, hnm⟩, rfl⟩ := C
  subst hp
  intro T locs k' n' q1 q2 X eT N
  obtain ⟨s2, o, st2, r⟩ := q T locs k' n' q1 q2 X eT N
  exact ⟨s2, o, XT.lor (X.here) hx rfl (hb hby hd) rfl st2, r⟩
theorem Ru.lxor (C : Ru l Z own code maxL ret nm R n0 G W) {x y : Int64} (hd : decode code pc = .ok (.lxor, 1)) (hp : pc + 1 = pc') (q : W h k n pc' Ls (.long (x ^^^ y) :: rest)) : W h k n pc Ls (.long y :: .long x :: rest) := by
  obtain ⟨p, e, s, m, args, below, meth, c, ⟨hx, hby, hml, hown, hZ, hre, hlk, hnm⟩, rfl⟩ := C
  subst hp
  intro T locs k' n' q1 q2 X eT N
  obtain ⟨s2, o, st2, r⟩ := q T locs k' n' q1 q2 X eT N
  exact ⟨s2, o, XT.lxor (X.here) hx rfl (hb hby hd) rfl st2, r⟩
theorem Ru.ldiv (C : Ru l Z own code maxL ret nm R n0 G W) {x y : Int64} (hd : decode code pc = .ok (.ldiv, 1)) (hp : pc + 1 = pc') (hy : y ≠ 0) (q : W h k n pc' Ls (.long (x / y) :: rest)) : W h k n pc Ls (.long y :: .long x :: rest) := by
  obtain ⟨p, e, s, m, args, below, meth, c, ⟨hx, hby, hml, hown, hZ, hre, hlk, hnm⟩, rfl⟩ := C
  subst hp
  intro T locs k' n' q1 q2 X eT N
  obtain ⟨s2, o, st2, r⟩ := q T locs k' n' q1 q2 X eT N
  exact ⟨s2, o, XT.ldiv (X.here) hx rfl (hb hby hd) rfl hy st2, r⟩
theorem Ru.ishl (C : Ru l Z own code maxL ret nm R n0 G W) {x : Int32} {y : Int32} {s : Nat} (hd : decode code pc = .ok (.ishl, 1)) (hp : pc + 1 = pc') (hs : sh5 y = s) (q : W h k n pc' Ls (.int (shlI x s) :: rest)) : W h k n pc Ls (.int y :: .int x :: rest) := by
  obtain ⟨p, e, s', m, args, below, meth, c, ⟨hx, hby, hml, hown, hZ, hre, hlk, hnm⟩, rfl⟩ := C
  subst hp hs
  intro T locs k' n' q1 q2 X eT N
  obtain ⟨s2, o, st2, r⟩ := q T locs k' n' q1 q2 X eT N
  exact ⟨s2, o, XT.ishl X.here hx rfl (hb hby hd) rfl (by rw [ishl_eq]; exact st2), r⟩
theorem Ru.ishr (C : Ru l Z own code maxL ret nm R n0 G W) {x : Int32} {y : Int32} {s : Nat} (hd : decode code pc = .ok (.ishr, 1)) (hp : pc + 1 = pc') (hs : sh5 y = s) (q : W h k n pc' Ls (.int (sarI x s) :: rest)) : W h k n pc Ls (.int y :: .int x :: rest) := by
  obtain ⟨p, e, s', m, args, below, meth, c, ⟨hx, hby, hml, hown, hZ, hre, hlk, hnm⟩, rfl⟩ := C
  subst hp hs
  intro T locs k' n' q1 q2 X eT N
  obtain ⟨s2, o, st2, r⟩ := q T locs k' n' q1 q2 X eT N
  exact ⟨s2, o, XT.ishr X.here hx rfl (hb hby hd) rfl (by rw [ishr_eq]; exact st2), r⟩
theorem Ru.iushr (C : Ru l Z own code maxL ret nm R n0 G W) {x : Int32} {y : Int32} {s : Nat} (hd : decode code pc = .ok (.iushr, 1)) (hp : pc + 1 = pc') (hs : sh5 y = s) (q : W h k n pc' Ls (.int (shrI x s) :: rest)) : W h k n pc Ls (.int y :: .int x :: rest) := by
  obtain ⟨p, e, s', m, args, below, meth, c, ⟨hx, hby, hml, hown, hZ, hre, hlk, hnm⟩, rfl⟩ := C
  subst hp hs
  intro T locs k' n' q1 q2 X eT N
  obtain ⟨s2, o, st2, r⟩ := q T locs k' n' q1 q2 X eT N
  exact ⟨s2, o, XT.iushr X.here hx rfl (hb hby hd) rfl (by rw [iushr_eq]; exact st2), r⟩
theorem Ru.lshl (C : Ru l Z own code maxL ret nm R n0 G W) {x : Int64} {y : Int32} {s : Nat} (hd : decode code pc = .ok (.lshl, 1)) (hp : pc + 1 = pc') (hs : sh6 y = s) (q : W h k n pc' Ls (.long (shlL x s) :: rest)) : W h k n pc Ls (.int y :: .long x :: rest) := by
  obtain ⟨p, e, s', m, args, below, meth, c, ⟨hx, hby, hml, hown, hZ, hre, hlk, hnm⟩, rfl⟩ := C
  subst hp hs
  intro T locs k' n' q1 q2 X eT N
  obtain ⟨s2, o, st2, r⟩ := q T locs k' n' q1 q2 X eT N
  exact ⟨s2, o, XT.lshl X.here hx rfl (hb hby hd) rfl (by rw [lshl_eq]; exact st2), r⟩
theorem Ru.lshr (C : Ru l Z own code maxL ret nm R n0 G W) {x : Int64} {y : Int32} {s : Nat} (hd : decode code pc = .ok (.lshr, 1)) (hp : pc + 1 = pc') (hs : sh6 y = s) (q : W h k n pc' Ls (.long (sarL x s) :: rest)) : W h k n pc Ls (.int y :: .long x :: rest) := by
  obtain ⟨p, e, s', m, args, below, meth, c, ⟨hx, hby, hml, hown, hZ, hre, hlk, hnm⟩, rfl⟩ := C
  subst hp hs
  intro T locs k' n' q1 q2 X eT N
  obtain ⟨s2, o, st2, r⟩ := q T locs k' n' q1 q2 X eT N
  exact ⟨s2, o, XT.lshr X.here hx rfl (hb hby hd) rfl (by rw [lshr_eq]; exact st2), r⟩
theorem Ru.lushr (C : Ru l Z own code maxL ret nm R n0 G W) {x : Int64} {y : Int32} {s : Nat} (hd : decode code pc = .ok (.lushr, 1)) (hp : pc + 1 = pc') (hs : sh6 y = s) (q : W h k n pc' Ls (.long (shrL x s) :: rest)) : W h k n pc Ls (.int y :: .long x :: rest) := by
  obtain ⟨p, e, s', m, args, below, meth, c, ⟨hx, hby, hml, hown, hZ, hre, hlk, hnm⟩, rfl⟩ := C
  subst hp hs
  intro T locs k' n' q1 q2 X eT N
  obtain ⟨s2, o, st2, r⟩ := q T locs k' n' q1 q2 X eT N
  exact ⟨s2, o, XT.lushr X.here hx rfl (hb hby hd) rfl (by rw [lushr_eq]; exact st2), r⟩
theorem Ru.i2l (C : Ru l Z own code maxL ret nm R n0 G W) {x : Int32} (hd : decode code pc = .ok (.i2l, 1)) (hp : pc + 1 = pc') (q : W h k n pc' Ls (.long x.toInt64 :: rest)) : W h k n pc Ls (.int x :: rest) := by
  obtain ⟨p, e, s, m, args, below, meth, c, ⟨hx, hby, hml, hown, hZ, hre, hlk, hnm⟩, rfl⟩ := C
  subst hp
  intro T locs k' n' q1 q2 X eT N
  obtain ⟨s2, o, st2, r⟩ := q T locs k' n' q1 q2 X eT N
  exact ⟨s2, o, XT.i2l (X.here) hx rfl (hb hby hd) rfl st2, r⟩
theorem Ru.l2i (C : Ru l Z own code maxL ret nm R n0 G W) {x : Int64} (hd : decode code pc = .ok (.l2i, 1)) (hp : pc + 1 = pc') (q : W h k n pc' Ls (.int x.toInt32 :: rest)) : W h k n pc Ls (.long x :: rest) := by
  obtain ⟨p, e, s, m, args, below, meth, c, ⟨hx, hby, hml, hown, hZ, hre, hlk, hnm⟩, rfl⟩ := C
  subst hp
  intro T locs k' n' q1 q2 X eT N
  obtain ⟨s2, o, st2, r⟩ := q T locs k' n' q1 q2 X eT N
  exact ⟨s2, o, XT.l2i (X.here) hx rfl (hb hby hd) rfl st2, r⟩
theorem Ru.i2b (C : Ru l Z own code maxL ret nm R n0 G W) {x : Int32} (hd : decode code pc = .ok (.i2b, 1)) (hp : pc + 1 = pc') (q : W h k n pc' Ls (.int x.toInt8.toInt32 :: rest)) : W h k n pc Ls (.int x :: rest) := by
  obtain ⟨p, e, s, m, args, below, meth, c, ⟨hx, hby, hml, hown, hZ, hre, hlk, hnm⟩, rfl⟩ := C
  subst hp
  intro T locs k' n' q1 q2 X eT N
  obtain ⟨s2, o, st2, r⟩ := q T locs k' n' q1 q2 X eT N
  exact ⟨s2, o, XT.i2b (X.here) hx rfl (hb hby hd) rfl st2, r⟩
theorem Ru.iconst (C : Ru l Z own code maxL ret nm R n0 G W) {i : Int} {v : Int32} (hd : decode code pc = .ok (.iconst i, 1)) (hp : pc + 1 = pc') (hv : Int32.ofInt i = v) (q : W h k n pc' Ls (.int v :: st)) : W h k n pc Ls (st) := by
  obtain ⟨p, e, s, m, args, below, meth, c, ⟨hx, hby, hml, hown, hZ, hre, hlk, hnm⟩, rfl⟩ := C
  subst hp hv
  intro T locs k' n' q1 q2 X eT N
  obtain ⟨s2, o, st2, r⟩ := q T locs k' n' q1 q2 X eT N
  exact ⟨s2, o, XS.iconst (X.here) hx rfl (hb hby hd)  st2, r⟩
theorem Ru.bipush (C : Ru l Z own code maxL ret nm R n0 G W) {i : Int} {v : Int32} (hd : decode code pc = .ok (.bipush i, 2)) (hp : pc + 2 = pc') (hv : (Int8.ofInt i).toInt32 = v) (q : W h k n pc' Ls (.int v :: st)) : W h k n pc Ls (st) := by
  obtain ⟨p, e, s, m, args, below, meth, c, ⟨hx, hby, hml, hown, hZ, hre, hlk, hnm⟩, rfl⟩ := C
  subst hp hv
  intro T locs k' n' q1 q2 X eT N
  obtain ⟨s2, o, st2, r⟩ := q T locs k' n' q1 q2 X eT N
  exact ⟨s2, o, XS.bipush (X.here) hx rfl (hb hby hd)  st2, r⟩
theorem Ru.sipush (C : Ru l Z own code maxL ret nm R n0 G W) {i : Int} {v : Int32} (hd : decode code pc = .ok (.sipush i, 3)) (hp : pc + 3 = pc') (hv : (Int16.ofInt i).toInt32 = v) (q : W h k n pc' Ls (.int v :: st)) : W h k n pc Ls (st) := by
  obtain ⟨p, e, s, m, args, below, meth, c, ⟨hx, hby, hml, hown, hZ, hre, hlk, hnm⟩, rfl⟩ := C
  subst hp hv
  intro T locs k' n' q1 q2 X eT N
  obtain ⟨s2, o, st2, r⟩ := q T locs k' n' q1 q2 X eT N
  exact ⟨s2, o, XS.sipush (X.here) hx rfl (hb hby hd)  st2, r⟩
theorem Ru.lconst (C : Ru l Z own code maxL ret nm R n0 G W) {i : Fin 2} {v : Int64} (hd : decode code pc = .ok (.lconst i, 1)) (hp : pc + 1 = pc') (hv : Int64.ofNat i = v) (q : W h k n pc' Ls (.long v :: st)) : W h k n pc Ls (st) := by
  obtain ⟨p, e, s, m, args, below, meth, c, ⟨hx, hby, hml, hown, hZ, hre, hlk, hnm⟩, rfl⟩ := C
  subst hp hv
  intro T locs k' n' q1 q2 X eT N
  obtain ⟨s2, o, st2, r⟩ := q T locs k' n' q1 q2 X eT N
  exact ⟨s2, o, XT.lconst (X.here) hx rfl (hb hby hd)  st2, r⟩
theorem Ru.aconstNull (C : Ru l Z own code maxL ret nm R n0 G W)  (hd : decode code pc = .ok (.aconst_null, 1)) (hp : pc + 1 = pc') (q : W h k n pc' Ls (.null :: st)) : W h k n pc Ls (st) := by
  obtain ⟨p, e, s, m, args, below, meth, c, ⟨hx, hby, hml, hown, hZ, hre, hlk, hnm⟩, rfl⟩ := C
  subst hp
  intro T locs k' n' q1 q2 X eT N
  obtain ⟨s2, o, st2, r⟩ := q T locs k' n' q1 q2 X eT N
  exact ⟨s2, o, XS.aconstNull (X.here) hx rfl (hb hby hd)  st2, r⟩
theorem Ru.dup (C : Ru l Z own code maxL ret nm R n0 G W) {x : Value} (hd : decode code pc = .ok (.dup, 1)) (hp : pc + 1 = pc') (hc : x.category = 1) (q : W h k n pc' Ls (x :: x :: rest)) : W h k n pc Ls (x :: rest) := by
  obtain ⟨p, e, s, m, args, below, meth, c, ⟨hx, hby, hml, hown, hZ, hre, hlk, hnm⟩, rfl⟩ := C
  subst hp
  intro T locs k' n' q1 q2 X eT N
  obtain ⟨s2, o, st2, r⟩ := q T locs k' n' q1 q2 X eT N
  exact ⟨s2, o, XS.dup (X.here) hx rfl (hb hby hd) rfl hc st2, r⟩
theorem Ru.pop (C : Ru l Z own code maxL ret nm R n0 G W) {x : Value} (hd : decode code pc = .ok (.pop, 1)) (hp : pc + 1 = pc') (hc : x.category = 1) (q : W h k n pc' Ls (rest)) : W h k n pc Ls (x :: rest) := by
  obtain ⟨p, e, s, m, args, below, meth, c, ⟨hx, hby, hml, hown, hZ, hre, hlk, hnm⟩, rfl⟩ := C
  subst hp
  intro T locs k' n' q1 q2 X eT N
  obtain ⟨s2, o, st2, r⟩ := q T locs k' n' q1 q2 X eT N
  exact ⟨s2, o, XT.pop (X.here) hx rfl (hb hby hd) rfl hc st2, r⟩
theorem Ru.dup2 (C : Ru l Z own code maxL ret nm R n0 G W) {x y : Value} (hd : decode code pc = .ok (.dup2, 1)) (hp : pc + 1 = pc') (hc : x.category = 1) (hc' : y.category = 1) (q : W h k n pc' Ls (x :: y :: x :: y :: rest)) : W h k n pc Ls (x :: y :: rest) := by
  obtain ⟨p, e, s, m, args, below, meth, c, ⟨hx, hby, hml, hown, hZ, hre, hlk, hnm⟩, rfl⟩ := C
  subst hp
  intro T locs k' n' q1 q2 X eT N
  obtain ⟨s2, o, st2, r⟩ := q T locs k' n' q1 q2 X eT N
  exact ⟨s2, o, XT.dup2 (X.here) hx rfl (hb hby hd) rfl hc hc' st2, r⟩
theorem Ru.dup2L (C : Ru l Z own code maxL ret nm R n0 G W) {x : Int64} (hd : decode code pc = .ok (.dup2, 1)) (hp : pc + 1 = pc') (q : W h k n pc' Ls (.long x :: .long x :: rest)) : W h k n pc Ls (.long x :: rest) := by
  obtain ⟨p, e, s, m, args, below, meth, c, ⟨hx, hby, hml, hown, hZ, hre, hlk, hnm⟩, rfl⟩ := C
  subst hp
  intro T locs k' n' q1 q2 X eT N
  obtain ⟨s2, o, st2, r⟩ := q T locs k' n' q1 q2 X eT N
  exact ⟨s2, o, XT.dup2L (X.here) hx rfl (hb hby hd) rfl st2, r⟩
theorem Ru.dupX1 (C : Ru l Z own code maxL ret nm R n0 G W) {x y : Value} (hd : decode code pc = .ok (.dup_x1, 1)) (hp : pc + 1 = pc') (hc : x.category = 1) (hc' : y.category = 1) (q : W h k n pc' Ls (x :: y :: x :: rest)) : W h k n pc Ls (x :: y :: rest) := by
  obtain ⟨p, e, s, m, args, below, meth, c, ⟨hx, hby, hml, hown, hZ, hre, hlk, hnm⟩, rfl⟩ := C
  subst hp
  intro T locs k' n' q1 q2 X eT N
  obtain ⟨s2, o, st2, r⟩ := q T locs k' n' q1 q2 X eT N
  exact ⟨s2, o, XT.dupX1 (X.here) hx rfl (hb hby hd) rfl hc hc' st2, r⟩
theorem Ru.iload (C : Ru l Z own code maxL ret nm R n0 G W) {j : Nat} {v : Int32} (hd : decode code pc = .ok (.iload j, 2)) (hp : pc + 2 = pc') (hl : Ls[j]? = some (.val (.int v))) (q : W h k n pc' Ls (.int v :: st)) : W h k n pc Ls (st) := by
  obtain ⟨p, e, s, m, args, below, meth, c, ⟨hx, hby, hml, hown, hZ, hre, hlk, hnm⟩, rfl⟩ := C
  subst hp
  intro T locs k' n' q1 q2 X eT N
  obtain ⟨s2, o, st2, r⟩ := q T locs k' n' q1 q2 X eT N
  exact ⟨s2, o, XS.iload (X.here) hx rfl (hb hby hd) hl st2, r⟩
theorem Ru.iloadN (C : Ru l Z own code maxL ret nm R n0 G W) {j : Fin 4} {v : Int32} (hd : decode code pc = .ok (.iload_n j, 1)) (hp : pc + 1 = pc') (hl : Ls[j.val]? = some (.val (.int v))) (q : W h k n pc' Ls (.int v :: st)) : W h k n pc Ls (st) := by
  obtain ⟨p, e, s, m, args, below, meth, c, ⟨hx, hby, hml, hown, hZ, hre, hlk, hnm⟩, rfl⟩ := C
  subst hp
  intro T locs k' n' q1 q2 X eT N
  obtain ⟨s2, o, st2, r⟩ := q T locs k' n' q1 q2 X eT N
  exact ⟨s2, o, XS.iloadN (X.here) hx rfl (hb hby hd) hl st2, r⟩
theorem Ru.lload (C : Ru l Z own code maxL ret nm R n0 G W) {j : Nat} {v : Int64} (hd : decode code pc = .ok (.lload j, 2)) (hp : pc + 2 = pc') (hl : Ls[j]? = some (.val (.long v))) (q : W h k n pc' Ls (.long v :: st)) : W h k n pc Ls (st) := by
  obtain ⟨p, e, s, m, args, below, meth, c, ⟨hx, hby, hml, hown, hZ, hre, hlk, hnm⟩, rfl⟩ := C
  subst hp
  intro T locs k' n' q1 q2 X eT N
  obtain ⟨s2, o, st2, r⟩ := q T locs k' n' q1 q2 X eT N
  exact ⟨s2, o, XT.lload (X.here) hx rfl (hb hby hd) hl st2, r⟩
theorem Ru.lloadN (C : Ru l Z own code maxL ret nm R n0 G W) {j : Fin 4} {v : Int64} (hd : decode code pc = .ok (.lload_n j, 1)) (hp : pc + 1 = pc') (hl : Ls[j.val]? = some (.val (.long v))) (q : W h k n pc' Ls (.long v :: st)) : W h k n pc Ls (st) := by
  obtain ⟨p, e, s, m, args, below, meth, c, ⟨hx, hby, hml, hown, hZ, hre, hlk, hnm⟩, rfl⟩ := C
  subst hp
  intro T locs k' n' q1 q2 X eT N
  obtain ⟨s2, o, st2, r⟩ := q T locs k' n' q1 q2 X eT N
  exact ⟨s2, o, XT.lloadN (X.here) hx rfl (hb hby hd) hl st2, r⟩
theorem Ru.aload (C : Ru l Z own code maxL ret nm R n0 G W) {j : Nat} {v : Value} (hd : decode code pc = .ok (.aload j, 2)) (hp : pc + 2 = pc') (hl : Ls[j]? = some (.val v)) (hv : v.isRef = true) (q : W h k n pc' Ls (v :: st)) : W h k n pc Ls (st) := by
  obtain ⟨p, e, s, m, args, below, meth, c, ⟨hx, hby, hml, hown, hZ, hre, hlk, hnm⟩, rfl⟩ := C
  subst hp
  intro T locs k' n' q1 q2 X eT N
  obtain ⟨s2, o, st2, r⟩ := q T locs k' n' q1 q2 X eT N
  exact ⟨s2, o, XS.aload (X.here) hx rfl (hb hby hd) hl hv st2, r⟩
theorem Ru.aloadN (C : Ru l Z own code maxL ret nm R n0 G W) {j : Fin 4} {v : Value} (hd : decode code pc = .ok (.aload_n j, 1)) (hp : pc + 1 = pc') (hl : Ls[j.val]? = some (.val v)) (hv : v.isRef = true) (q : W h k n pc' Ls (v :: st)) : W h k n pc Ls (st) := by
  obtain ⟨p, e, s, m, args, below, meth, c, ⟨hx, hby, hml, hown, hZ, hre, hlk, hnm⟩, rfl⟩ := C
  subst hp
  intro T locs k' n' q1 q2 X eT N
  obtain ⟨s2, o, st2, r⟩ := q T locs k' n' q1 q2 X eT N
  exact ⟨s2, o, XS.aloadN (X.here) hx rfl (hb hby hd) hl hv st2, r⟩
theorem Ru.istoreX (C : Ru l Z own code maxL ret nm R n0 G W) {j : Nat} {x : Int32} {l' : Array Slot} (hd : decode code pc = .ok (.istore j, 2)) (hp : pc + 2 = pc') (hl : storeLocals Ls j (.int x) = some l') (q : W h k n pc' l' rest) : W h k n pc Ls (.int x :: rest) := by
  obtain ⟨p, e, s, m, args, below, meth, c, ⟨hx, hby, hml, hown, hZ, hre, hlk, hnm⟩, rfl⟩ := C
  subst hp
  intro T locs k' n' q1 q2 X eT N
  obtain ⟨s2, o, st2, r⟩ := q T locs k' n' q1 q2 X eT N
  exact ⟨s2, o, XS.istore X.here hx rfl (hb hby hd) rfl hl st2, r⟩
theorem Ru.istoreNX (C : Ru l Z own code maxL ret nm R n0 G W) {j : Fin 4} {x : Int32} {l' : Array Slot} (hd : decode code pc = .ok (.istore_n j, 1)) (hp : pc + 1 = pc') (hl : storeLocals Ls j.val (.int x) = some l') (q : W h k n pc' l' rest) : W h k n pc Ls (.int x :: rest) := by
  obtain ⟨p, e, s, m, args, below, meth, c, ⟨hx, hby, hml, hown, hZ, hre, hlk, hnm⟩, rfl⟩ := C
  subst hp
  intro T locs k' n' q1 q2 X eT N
  obtain ⟨s2, o, st2, r⟩ := q T locs k' n' q1 q2 X eT N
  exact ⟨s2, o, XS.istoreN X.here hx rfl (hb hby hd) rfl hl st2, r⟩
theorem Ru.lstoreX (C : Ru l Z own code maxL ret nm R n0 G W) {j : Nat} {x : Int64} {l' : Array Slot} (hd : decode code pc = .ok (.lstore j, 2)) (hp : pc + 2 = pc') (hl : storeLocals Ls j (.long x) = some l') (q : W h k n pc' l' rest) : W h k n pc Ls (.long x :: rest) := by
  obtain ⟨p, e, s, m, args, below, meth, c, ⟨hx, hby, hml, hown, hZ, hre, hlk, hnm⟩, rfl⟩ := C
  subst hp
  intro T locs k' n' q1 q2 X eT N
  obtain ⟨s2, o, st2, r⟩ := q T locs k' n' q1 q2 X eT N
  exact ⟨s2, o, XT.lstore X.here hx rfl (hb hby hd) rfl hl st2, r⟩
theorem Ru.lstoreNX (C : Ru l Z own code maxL ret nm R n0 G W) {j : Fin 4} {x : Int64} {l' : Array Slot} (hd : decode code pc = .ok (.lstore_n j, 1)) (hp : pc + 1 = pc') (hl : storeLocals Ls j.val (.long x) = some l') (q : W h k n pc' l' rest) : W h k n pc Ls (.long x :: rest) := by
  obtain ⟨p, e, s, m, args, below, meth, c, ⟨hx, hby, hml, hown, hZ, hre, hlk, hnm⟩, rfl⟩ := C
  subst hp
  intro T locs k' n' q1 q2 X eT N
  obtain ⟨s2, o, st2, r⟩ := q T locs k' n' q1 q2 X eT N
  exact ⟨s2, o, XT.lstoreN X.here hx rfl (hb hby hd) rfl hl st2, r⟩
theorem Ru.istore (C : Ru l Z own code maxL ret nm R n0 G W) {j : Nat} {x : Int32} {f : Int32 → Array Slot} (hd : decode code pc = .ok (.istore j, 2)) (hp : pc + 2 = pc') (hl : ∀ v, storeLocals Ls j (.int v) = some (f v)) (q : ∀ v, v = x → W h k n pc' (f v) rest) : W h k n pc Ls (.int x :: rest) := by
  obtain ⟨p, e, s, m, args, below, meth, c, ⟨hx, hby, hml, hown, hZ, hre, hlk, hnm⟩, rfl⟩ := C
  subst hp
  intro T locs k' n' q1 q2 X eT N
  obtain ⟨s2, o, st2, r⟩ := q x rfl T locs k' n' q1 q2 X eT N
  exact ⟨s2, o, XS.istore X.here hx rfl (hb hby hd) rfl (hl x) st2, r⟩
theorem Ru.istoreN (C : Ru l Z own code maxL ret nm R n0 G W) {j : Fin 4} {x : Int32} {f : Int32 → Array Slot} (hd : decode code pc = .ok (.istore_n j, 1)) (hp : pc + 1 = pc') (hl : ∀ v, storeLocals Ls j.val (.int v) = some (f v)) (q : ∀ v, v = x → W h k n pc' (f v) rest) : W h k n pc Ls (.int x :: rest) := by
  obtain ⟨p, e, s, m, args, below, meth, c, ⟨hx, hby, hml, hown, hZ, hre, hlk, hnm⟩, rfl⟩ := C
  subst hp
  intro T locs k' n' q1 q2 X eT N
  obtain ⟨s2, o, st2, r⟩ := q x rfl T locs k' n' q1 q2 X eT N
  exact ⟨s2, o, XS.istoreN X.here hx rfl (hb hby hd) rfl (hl x) st2, r⟩
theorem Ru.lstore (C : Ru l Z own code maxL ret nm R n0 G W) {j : Nat} {x : Int64} {f : Int64 → Array Slot} (hd : decode code pc = .ok (.lstore j, 2)) (hp : pc + 2 = pc') (hl : ∀ v, storeLocals Ls j (.long v) = some (f v)) (q : ∀ v, v = x → W h k n pc' (f v) rest) : W h k n pc Ls (.long x :: rest) := by
  obtain ⟨p, e, s, m, args, below, meth, c, ⟨hx, hby, hml, hown, hZ, hre, hlk, hnm⟩, rfl⟩ := C
  subst hp
  intro T locs k' n' q1 q2 X eT N
  obtain ⟨s2, o, st2, r⟩ := q x rfl T locs k' n' q1 q2 X eT N
  exact ⟨s2, o, XT.lstore X.here hx rfl (hb hby hd) rfl (hl x) st2, r⟩
theorem Ru.lstoreN (C : Ru l Z own code maxL ret nm R n0 G W) {j : Fin 4} {x : Int64} {f : Int64 → Array Slot} (hd : decode code pc = .ok (.lstore_n j, 1)) (hp : pc + 1 = pc') (hl : ∀ v, storeLocals Ls j.val (.long v) = some (f v)) (q : ∀ v, v = x → W h k n pc' (f v) rest) : W h k n pc Ls (.long x :: rest) := by
  obtain ⟨p, e, s, m, args, below, meth, c, ⟨hx, hby, hml, hown, hZ, hre, hlk, hnm⟩, rfl⟩ := C
  subst hp
  intro T locs k' n' q1 q2 X eT N
  obtain ⟨s2, o, st2, r⟩ := q x rfl T locs k' n' q1 q2 X eT N
  exact ⟨s2, o, XT.lstoreN X.here hx rfl (hb hby hd) rfl (hl x) st2, r⟩
theorem Ru.astore (C : Ru l Z own code maxL ret nm R n0 G W) {j : Nat} {x : Value} {l' : Array Slot} (hd : decode code pc = .ok (.astore j, 2)) (hp : pc + 2 = pc') (hv : x.isRef = true) (hl : storeLocals Ls j x = some l') (q : W h k n pc' l' rest) : W h k n pc Ls (x :: rest) := by
  obtain ⟨p, e, s, m, args, below, meth, c, ⟨hx, hby, hml, hown, hZ, hre, hlk, hnm⟩, rfl⟩ := C
  subst hp
  intro T locs k' n' q1 q2 X eT N
  obtain ⟨s2, o, st2, r⟩ := q T locs k' n' q1 q2 X eT N
  exact ⟨s2, o, XS.astore X.here hx rfl (hb hby hd) rfl hv hl st2, r⟩
theorem Ru.astoreN (C : Ru l Z own code maxL ret nm R n0 G W) {j : Fin 4} {x : Value} {l' : Array Slot} (hd : decode code pc = .ok (.astore_n j, 1)) (hp : pc + 1 = pc') (hv : x.isRef = true) (hl : storeLocals Ls j.val x = some l') (q : W h k n pc' l' rest) : W h k n pc Ls (x :: rest) := by
  obtain ⟨p, e, s, m, args, below, meth, c, ⟨hx, hby, hml, hown, hZ, hre, hlk, hnm⟩, rfl⟩ := C
  subst hp
  intro T locs k' n' q1 q2 X eT N
  obtain ⟨s2, o, st2, r⟩ := q T locs k' n' q1 q2 X eT N
  exact ⟨s2, o, XS.astoreN X.here hx rfl (hb hby hd) rfl hv hl st2, r⟩
theorem Ru.iinc (C : Ru l Z own code maxL ret nm R n0 G W) {j : Nat} {cst : Int} {x d : Int32} {f : Int32 → Array Slot} (hd : decode code pc = .ok (.iinc j cst, 3)) (hp : pc + 3 = pc') (hl : Ls[j]? = some (.val (.int x))) (hc : Int32.ofInt cst = d) (hl' : ∀ v, storeLocals Ls j (.int v) = some (f v)) (q : ∀ v, v = x + d → W h k n pc' (f v) st) : W h k n pc Ls st := by
  obtain ⟨p, e, s, m, args, below, meth, c, ⟨hx, hby, hml, hown, hZ, hre, hlk, hnm⟩, rfl⟩ := C
  subst hp hc
  intro T locs k' n' q1 q2 X eT N
  obtain ⟨s2, o, st2, r⟩ := q _ rfl T locs k' n' q1 q2 X eT N
  exact ⟨s2, o, XS.iinc X.here hx rfl (hb hby hd) hl (hl' _) st2, r⟩
theorem Ru.goto (C : Ru l Z own code maxL ret nm R n0 G W) {o : Int} (hd : decode code pc = .ok (.goto o, 3)) (hp : (pc : Int) + o = (pc' : Int)) (q : W h k n pc' Ls st) : W h k n pc Ls st := by
  obtain ⟨p, e, s, m, args, below, meth, c, ⟨hx, hby, hml, hown, hZ, hre, hlk, hnm⟩, rfl⟩ := C
  intro T locs k' n' q1 q2 X eT N
  obtain ⟨s2, o2, st2, r⟩ := q T locs k' n' q1 q2 X eT N
  exact ⟨s2, o2, XS.goto X.here hx rfl (pc0 := pc) (pc' := pc') rfl (hb hby hd) (by omega) (by omega) st2, r⟩
theorem Ru.ifAny (C : Ru l Z own code maxL ret nm R n0 G W) {cd : ClassFile.Cond} {o : Int} {x : Int32} {pt : Nat} (hd : decode code pc = .ok (.ifCond cd o, 3)) (hp : pc + 3 = pc') (ht : (pc : Int) + o = (pt : Int)) (q1 : ifCond.holds cd x = true → W h k n pt Ls rest) (q2 : ifCond.holds cd x = false → W h k n pc' Ls rest) : W h k n pc Ls (.int x :: rest) := by
  obtain ⟨p, e, s, m, args, below, meth, c, ⟨hx, hby, hml, hown, hZ, hre, hlk, hnm⟩, rfl⟩ := C
  subst hp
  intro T locs k' n' u1 u2 X eT N
  cases hc : ifCond.holds cd x
  · obtain ⟨s2, o2, st2, r⟩ := q2 hc T locs k' n' u1 u2 X eT N
    exact ⟨s2, o2, XS.ifNo X.here hx rfl (hb hby hd) rfl hc st2, r⟩
  · obtain ⟨s2, o2, st2, r⟩ := q1 hc T locs k' n' u1 u2 X eT N
    exact ⟨s2, o2, XS.ifYes X.here hx rfl (pc0 := pc) (pc' := pt) rfl (hb hby hd) rfl hc (by omega) (by omega) st2, r⟩
theorem Ru.icmpAny (C : Ru l Z own code maxL ret nm R n0 G W) {cd : ClassFile.Cond} {o : Int} {x y : Int32} {pt : Nat} (hd : decode code pc = .ok (.if_icmp cd o, 3)) (hp : pc + 3 = pc') (ht : (pc : Int) + o = (pt : Int)) (q1 : if_icmp.holds cd x y = true → W h k n pt Ls rest) (q2 : if_icmp.holds cd x y = false → W h k n pc' Ls rest) : W h k n pc Ls (.int y :: .int x :: rest) := by
  obtain ⟨p, e, s, m, args, below, meth, c, ⟨hx, hby, hml, hown, hZ, hre, hlk, hnm⟩, rfl⟩ := C
  subst hp
  intro T locs k' n' u1 u2 X eT N
  cases hc : if_icmp.holds cd x y
  · obtain ⟨s2, o2, st2, r⟩ := q2 hc T locs k' n' u1 u2 X eT N
    exact ⟨s2, o2, XS.icmpNo X.here hx rfl (hb hby hd) rfl hc st2, r⟩
  · obtain ⟨s2, o2, st2, r⟩ := q1 hc T locs k' n' u1 u2 X eT N
    exact ⟨s2, o2, XS.icmpYes X.here hx rfl (pc0 := pc) (pc' := pt) rfl (hb hby hd) rfl hc (by omega) (by omega) st2, r⟩
theorem Ru.lcmp (C : Ru l Z own code maxL ret nm R n0 G W) {x y : Int64} (hd : decode code pc = .ok (.lcmp, 1)) (hp : pc + 1 = pc') (q : W h k n pc' Ls (.int (XT.cmpL x y) :: rest)) : W h k n pc Ls (.long y :: .long x :: rest) := by
  obtain ⟨p, e, s, m, args, below, meth, c, ⟨hx, hby, hml, hown, hZ, hre, hlk, hnm⟩, rfl⟩ := C
  subst hp
  intro T locs k' n' q1 q2 X eT N
  obtain ⟨s2, o, st2, r⟩ := q T locs k' n' q1 q2 X eT N
  exact ⟨s2, o, XT.lcmp X.here hx rfl (hb hby hd) rfl st2, r⟩
theorem cmpL_lt (x y : Int64) : XT.cmpL x y < 0 ↔ x < y := by
  have e : XT.cmpL x y = lcmpV x y := by simp only [XT.cmpL, lcmpV]; split <;> simp_all
  rw [e]; exact lc_lt x y
theorem cmpL_gt (x y : Int64) : 0 < XT.cmpL x y ↔ y < x := by
  have e : XT.cmpL x y = lcmpV x y := by simp only [XT.cmpL, lcmpV]; split <;> simp_all
  rw [e]; exact lc_gt x y
theorem cmpL_eq (x y : Int64) : XT.cmpL x y = 0 ↔ x = y := by
  have e : XT.cmpL x y = lcmpV x y := by simp only [XT.cmpL, lcmpV]; split <;> simp_all
  rw [e]; exact lc_eq x y
theorem Ru.if_eq (C : Ru l Z own code maxL ret nm R n0 G W) {o : Int} {x : Int32} {pt : Nat} (hd : decode code pc = .ok (.ifCond .eq o, 3)) (hp : pc + 3 = pc') (ht : (pc : Int) + o = (pt : Int)) (q1 : x = 0 → W h k n pt Ls rest) (q2 : ¬ x = 0 → W h k n pc' Ls rest) : W h k n pc Ls (.int x :: rest) :=
  C.ifAny hd hp ht (fun q => q1 (by simpa [ifCond.holds] using q)) (fun q => q2 (by simpa [ifCond.holds] using q))
theorem Ru.icmp_eq (C : Ru l Z own code maxL ret nm R n0 G W) {o : Int} {x y : Int32} {pt : Nat} (hd : decode code pc = .ok (.if_icmp .eq o, 3)) (hp : pc + 3 = pc') (ht : (pc : Int) + o = (pt : Int)) (q1 : x = y → W h k n pt Ls rest) (q2 : ¬ x = y → W h k n pc' Ls rest) : W h k n pc Ls (.int y :: .int x :: rest) :=
  C.icmpAny hd hp ht (fun q => q1 (by simpa [if_icmp.holds] using q)) (fun q => q2 (by simpa [if_icmp.holds] using q))
theorem Ru.lif_eq (C : Ru l Z own code maxL ret nm R n0 G W) {o : Int} {x y : Int64} {pi pt : Nat} (hd : decode code pc = .ok (.lcmp, 1)) (hi : pc + 1 = pi) (hd2 : decode code pi = .ok (.ifCond .eq o, 3)) (hp : pi + 3 = pc') (ht : (pi : Int) + o = (pt : Int)) (q1 : x = y → W h k n pt Ls rest) (q2 : ¬ x = y → W h k n pc' Ls rest) : W h k n pc Ls (.long y :: .long x :: rest) :=
  C.lcmp hd hi (C.if_eq hd2 hp ht (fun q => q1 (by simpa only [cmpL_eq, cmpL_lt, cmpL_gt] using q)) (fun q => q2 (by simpa only [cmpL_eq, cmpL_lt, cmpL_gt] using q)))
theorem Ru.if_ne (C : Ru l Z own code maxL ret nm R n0 G W) {o : Int} {x : Int32} {pt : Nat} (hd : decode code pc = .ok (.ifCond .ne o, 3)) (hp : pc + 3 = pc') (ht : (pc : Int) + o = (pt : Int)) (q1 : ¬ x = 0 → W h k n pt Ls rest) (q2 : x = 0 → W h k n pc' Ls rest) : W h k n pc Ls (.int x :: rest) :=
  C.ifAny hd hp ht (fun q => q1 (by simpa [ifCond.holds] using q)) (fun q => q2 (by simpa [ifCond.holds] using q))
theorem Ru.icmp_ne (C : Ru l Z own code maxL ret nm R n0 G W) {o : Int} {x y : Int32} {pt : Nat} (hd : decode code pc = .ok (.if_icmp .ne o, 3)) (hp : pc + 3 = pc') (ht : (pc : Int) + o = (pt : Int)) (q1 : ¬ x = y → W h k n pt Ls rest) (q2 : x = y → W h k n pc' Ls rest) : W h k n pc Ls (.int y :: .int x :: rest) :=
  C.icmpAny hd hp ht (fun q => q1 (by simpa [if_icmp.holds] using q)) (fun q => q2 (by simpa [if_icmp.holds] using q))
theorem Ru.lif_ne (C : Ru l Z own code maxL ret nm R n0 G W) {o : Int} {x y : Int64} {pi pt : Nat} (hd : decode code pc = .ok (.lcmp, 1)) (hi : pc + 1 = pi) (hd2 : decode code pi = .ok (.ifCond .ne o, 3)) (hp : pi + 3 = pc') (ht : (pi : Int) + o = (pt : Int)) (q1 : ¬ x = y → W h k n pt Ls rest) (q2 : x = y → W h k n pc' Ls rest) : W h k n pc Ls (.long y :: .long x :: rest) :=
  C.lcmp hd hi (C.if_ne hd2 hp ht (fun q => q1 (by simpa only [cmpL_eq, cmpL_lt, cmpL_gt] using q)) (fun q => q2 (by simpa only [cmpL_eq, cmpL_lt, cmpL_gt] using q)))
theorem Ru.if_lt (C : Ru l Z own code maxL ret nm R n0 G W) {o : Int} {x : Int32} {pt : Nat} (hd : decode code pc = .ok (.ifCond .lt o, 3)) (hp : pc + 3 = pc') (ht : (pc : Int) + o = (pt : Int)) (q1 : x < 0 → W h k n pt Ls rest) (q2 : ¬ x < 0 → W h k n pc' Ls rest) : W h k n pc Ls (.int x :: rest) :=
  C.ifAny hd hp ht (fun q => q1 (by simpa [ifCond.holds] using q)) (fun q => q2 (by simpa [ifCond.holds] using q))
theorem Ru.icmp_lt (C : Ru l Z own code maxL ret nm R n0 G W) {o : Int} {x y : Int32} {pt : Nat} (hd : decode code pc = .ok (.if_icmp .lt o, 3)) (hp : pc + 3 = pc') (ht : (pc : Int) + o = (pt : Int)) (q1 : x < y → W h k n pt Ls rest) (q2 : ¬ x < y → W h k n pc' Ls rest) : W h k n pc Ls (.int y :: .int x :: rest) :=
  C.icmpAny hd hp ht (fun q => q1 (by simpa [if_icmp.holds] using q)) (fun q => q2 (by simpa [if_icmp.holds] using q))
theorem Ru.lif_lt (C : Ru l Z own code maxL ret nm R n0 G W) {o : Int} {x y : Int64} {pi pt : Nat} (hd : decode code pc = .ok (.lcmp, 1)) (hi : pc + 1 = pi) (hd2 : decode code pi = .ok (.ifCond .lt o, 3)) (hp : pi + 3 = pc') (ht : (pi : Int) + o = (pt : Int)) (q1 : x < y → W h k n pt Ls rest) (q2 : ¬ x < y → W h k n pc' Ls rest) : W h k n pc Ls (.long y :: .long x :: rest) :=
  C.lcmp hd hi (C.if_lt hd2 hp ht (fun q => q1 (by simpa only [cmpL_eq, cmpL_lt, cmpL_gt] using q)) (fun q => q2 (by simpa only [cmpL_eq, cmpL_lt, cmpL_gt] using q)))
theorem Ru.if_ge (C : Ru l Z own code maxL ret nm R n0 G W) {o : Int} {x : Int32} {pt : Nat} (hd : decode code pc = .ok (.ifCond .ge o, 3)) (hp : pc + 3 = pc') (ht : (pc : Int) + o = (pt : Int)) (q1 : ¬ x < 0 → W h k n pt Ls rest) (q2 : x < 0 → W h k n pc' Ls rest) : W h k n pc Ls (.int x :: rest) :=
  C.ifAny hd hp ht (fun q => q1 (by simpa [ifCond.holds] using q)) (fun q => q2 (by simpa [ifCond.holds] using q))
theorem Ru.icmp_ge (C : Ru l Z own code maxL ret nm R n0 G W) {o : Int} {x y : Int32} {pt : Nat} (hd : decode code pc = .ok (.if_icmp .ge o, 3)) (hp : pc + 3 = pc') (ht : (pc : Int) + o = (pt : Int)) (q1 : ¬ x < y → W h k n pt Ls rest) (q2 : x < y → W h k n pc' Ls rest) : W h k n pc Ls (.int y :: .int x :: rest) :=
  C.icmpAny hd hp ht (fun q => q1 (by simpa [if_icmp.holds] using q)) (fun q => q2 (by simpa [if_icmp.holds] using q))
theorem Ru.lif_ge (C : Ru l Z own code maxL ret nm R n0 G W) {o : Int} {x y : Int64} {pi pt : Nat} (hd : decode code pc = .ok (.lcmp, 1)) (hi : pc + 1 = pi) (hd2 : decode code pi = .ok (.ifCond .ge o, 3)) (hp : pi + 3 = pc') (ht : (pi : Int) + o = (pt : Int)) (q1 : ¬ x < y → W h k n pt Ls rest) (q2 : x < y → W h k n pc' Ls rest) : W h k n pc Ls (.long y :: .long x :: rest) :=
  C.lcmp hd hi (C.if_ge hd2 hp ht (fun q => q1 (by simpa only [cmpL_eq, cmpL_lt, cmpL_gt] using q)) (fun q => q2 (by simpa only [cmpL_eq, cmpL_lt, cmpL_gt] using q)))
theorem Ru.if_gt (C : Ru l Z own code maxL ret nm R n0 G W) {o : Int} {x : Int32} {pt : Nat} (hd : decode code pc = .ok (.ifCond .gt o, 3)) (hp : pc + 3 = pc') (ht : (pc : Int) + o = (pt : Int)) (q1 : 0 < x → W h k n pt Ls rest) (q2 : ¬ 0 < x → W h k n pc' Ls rest) : W h k n pc Ls (.int x :: rest) :=
  C.ifAny hd hp ht (fun q => q1 (by simpa [ifCond.holds] using q)) (fun q => q2 (by simpa [ifCond.holds] using q))
theorem Ru.icmp_gt (C : Ru l Z own code maxL ret nm R n0 G W) {o : Int} {x y : Int32} {pt : Nat} (hd : decode code pc = .ok (.if_icmp .gt o, 3)) (hp : pc + 3 = pc') (ht : (pc : Int) + o = (pt : Int)) (q1 : y < x → W h k n pt Ls rest) (q2 : ¬ y < x → W h k n pc' Ls rest) : W h k n pc Ls (.int y :: .int x :: rest) :=
  C.icmpAny hd hp ht (fun q => q1 (by simpa [if_icmp.holds] using q)) (fun q => q2 (by simpa [if_icmp.holds] using q))
theorem Ru.lif_gt (C : Ru l Z own code maxL ret nm R n0 G W) {o : Int} {x y : Int64} {pi pt : Nat} (hd : decode code pc = .ok (.lcmp, 1)) (hi : pc + 1 = pi) (hd2 : decode code pi = .ok (.ifCond .gt o, 3)) (hp : pi + 3 = pc') (ht : (pi : Int) + o = (pt : Int)) (q1 : y < x → W h k n pt Ls rest) (q2 : ¬ y < x → W h k n pc' Ls rest) : W h k n pc Ls (.long y :: .long x :: rest) :=
  C.lcmp hd hi (C.if_gt hd2 hp ht (fun q => q1 (by simpa only [cmpL_eq, cmpL_lt, cmpL_gt] using q)) (fun q => q2 (by simpa only [cmpL_eq, cmpL_lt, cmpL_gt] using q)))
theorem Ru.if_le (C : Ru l Z own code maxL ret nm R n0 G W) {o : Int} {x : Int32} {pt : Nat} (hd : decode code pc = .ok (.ifCond .le o, 3)) (hp : pc + 3 = pc') (ht : (pc : Int) + o = (pt : Int)) (q1 : ¬ 0 < x → W h k n pt Ls rest) (q2 : 0 < x → W h k n pc' Ls rest) : W h k n pc Ls (.int x :: rest) :=
  C.ifAny hd hp ht (fun q => q1 (by simpa [ifCond.holds] using q)) (fun q => q2 (by simpa [ifCond.holds] using q))
theorem Ru.icmp_le (C : Ru l Z own code maxL ret nm R n0 G W) {o : Int} {x y : Int32} {pt : Nat} (hd : decode code pc = .ok (.if_icmp .le o, 3)) (hp : pc + 3 = pc') (ht : (pc : Int) + o = (pt : Int)) (q1 : ¬ y < x → W h k n pt Ls rest) (q2 : y < x → W h k n pc' Ls rest) : W h k n pc Ls (.int y :: .int x :: rest) :=
  C.icmpAny hd hp ht (fun q => q1 (by simpa [if_icmp.holds] using q)) (fun q => q2 (by simpa [if_icmp.holds] using q))
theorem Ru.lif_le (C : Ru l Z own code maxL ret nm R n0 G W) {o : Int} {x y : Int64} {pi pt : Nat} (hd : decode code pc = .ok (.lcmp, 1)) (hi : pc + 1 = pi) (hd2 : decode code pi = .ok (.ifCond .le o, 3)) (hp : pi + 3 = pc') (ht : (pi : Int) + o = (pt : Int)) (q1 : ¬ y < x → W h k n pt Ls rest) (q2 : y < x → W h k n pc' Ls rest) : W h k n pc Ls (.long y :: .long x :: rest) :=
  C.lcmp hd hi (C.if_le hd2 hp ht (fun q => q1 (by simpa only [cmpL_eq, cmpL_lt, cmpL_gt] using q)) (fun q => q2 (by simpa only [cmpL_eq, cmpL_lt, cmpL_gt] using q)))
theorem Ru.ifnullYes (C : Ru l Z own code maxL ret nm R n0 G W) {o : Int}  (hd : decode code pc = .ok (.ifnull o, 3)) (hp : (pc : Int) + o = (pc' : Int)) (q : W h k n pc' Ls rest) : W h k n pc Ls (.null :: rest) := by
  obtain ⟨p, e, s, m, args, below, meth, c, ⟨hx, hby, hml, hown, hZ, hre, hlk, hnm⟩, rfl⟩ := C
  intro T locs k' n' q1 q2 X eT N
  obtain ⟨s2, o2, st2, r⟩ := q T locs k' n' q1 q2 X eT N
  exact ⟨s2, o2, XS.ifnullYes X.here hx rfl (pc0 := pc) (pc' := pc') rfl (hb hby hd) rfl (by omega) (by omega) st2, r⟩
theorem Ru.ifnullNo (C : Ru l Z own code maxL ret nm R n0 G W) {o : Int} {b : Addr} (hd : decode code pc = .ok (.ifnull o, 3)) (hp : pc + 3 = pc') (q : W h k n pc' Ls rest) : W h k n pc Ls (.ref b :: rest) := by
  obtain ⟨p, e, s, m, args, below, meth, c, ⟨hx, hby, hml, hown, hZ, hre, hlk, hnm⟩, rfl⟩ := C
  subst hp
  intro T locs k' n' q1 q2 X eT N
  obtain ⟨s2, o2, st2, r⟩ := q T locs k' n' q1 q2 X eT N
  exact ⟨s2, o2, XS.ifnullNo X.here hx rfl (hb hby hd) rfl st2, r⟩
theorem Ru.ifnonnullYes (C : Ru l Z own code maxL ret nm R n0 G W) {o : Int} {b : Addr} (hd : decode code pc = .ok (.ifnonnull o, 3)) (hp : (pc : Int) + o = (pc' : Int)) (q : W h k n pc' Ls rest) : W h k n pc Ls (.ref b :: rest) := by
  obtain ⟨p, e, s, m, args, below, meth, c, ⟨hx, hby, hml, hown, hZ, hre, hlk, hnm⟩, rfl⟩ := C
  intro T locs k' n' q1 q2 X eT N
  obtain ⟨s2, o2, st2, r⟩ := q T locs k' n' q1 q2 X eT N
  exact ⟨s2, o2, XT.ifnonnullYes X.here hx rfl (pc0 := pc) (pc' := pc') rfl (hb hby hd) rfl (by omega) (by omega) st2, r⟩
theorem Ru.ifnonnullNo (C : Ru l Z own code maxL ret nm R n0 G W) {o : Int}  (hd : decode code pc = .ok (.ifnonnull o, 3)) (hp : pc + 3 = pc') (q : W h k n pc' Ls rest) : W h k n pc Ls (.null :: rest) := by
  obtain ⟨p, e, s, m, args, below, meth, c, ⟨hx, hby, hml, hown, hZ, hre, hlk, hnm⟩, rfl⟩ := C
  subst hp
  intro T locs k' n' q1 q2 X eT N
  obtain ⟨s2, o2, st2, r⟩ := q T locs k' n' q1 q2 X eT N
  exact ⟨s2, o2, XT.ifnonnullNo X.here hx rfl (hb hby hd) rfl st2, r⟩
theorem lrem_eq (x y : Int64) : x - (x / y) * y = x % y := lrem_mod x y
theorem Ru.lrem (C : Ru l Z own code maxL ret nm R n0 G W) {x y : Int64} (hd : decode code pc = .ok (.lrem, 1)) (hp : pc + 1 = pc') (hy : y ≠ 0) (q : W h k n pc' Ls (.long (x % y) :: rest)) : W h k n pc Ls (.long y :: .long x :: rest) := by
  obtain ⟨p, e, s, m, args, below, meth, c, ⟨hx, hby, hml, hown, hZ, hre, hlk, hnm⟩, rfl⟩ := C
  subst hp
  intro T locs k' n' q1 q2 X eT N
  obtain ⟨s2, o, st2, r⟩ := q T locs k' n' q1 q2 X eT N
  exact ⟨s2, o, XT.lrem X.here hx rfl (hb hby hd) rfl hy (by rw [lrem_mod]; exact st2), r⟩
theorem Ru.ldcI (C : Ru l Z own code maxL ret nm R n0 G W) {a0 : Array Value} {i : Nat} {v : Int32} (w : (Cond.constant own i v).before a0 Z = true) (hd : decode code pc = .ok (.ldc i, 2)) (hp : pc + 2 = pc') (q : W h k n pc' Ls (.int v :: st)) : W h k n pc Ls st := by
  obtain ⟨p, e, s, m, args, below, meth, c, ⟨hx, hby, hml, hown, hZ, hre, hlk, hnm⟩, rfl⟩ := C
  subst hp
  intro T locs k' n' q1 q2 X eT N
  obtain ⟨s2, o, st2, r⟩ := q T locs k' n' q1 q2 X eT N
  exact ⟨s2, o, X.ldcInt hx hown (mvT hZ w) (g := mkF m pc Ls st) rfl (hb hby hd) _ st2, r⟩
theorem Ru.ldcJ (C : Ru l Z own code maxL ret nm R n0 G W) {a0 : Array Value} {i : Nat} {v : Int64} (w : (Cond.constantLong own i v).before a0 Z = true) (hd : decode code pc = .ok (.ldc2_w i, 3)) (hp : pc + 3 = pc') (q : W h k n pc' Ls (.long v :: st)) : W h k n pc Ls st := by
  obtain ⟨p, e, s, m, args, below, meth, c, ⟨hx, hby, hml, hown, hZ, hre, hlk, hnm⟩, rfl⟩ := C
  subst hp
  intro T locs k' n' q1 q2 X eT N
  obtain ⟨s2, o, st2, r⟩ := q T locs k' n' q1 q2 X eT N
  exact ⟨s2, o, X.ldc2Long hx hown (mvT hZ w) (g := mkF m pc Ls st) rfl (hb hby hd) _ st2, r⟩
/-! the heap -/
theorem Ru.getf (C : Ru l Z own code maxL ret nm R n0 G W) {a0 : Array Value} {R0 O f d : String} {i : Nat} {a : Addr} {v : Value} (w : (Cond.fieldLink own i R0 f d).before a0 Z = true) (via : Via Z R0 O f d) (F : Fld Z h a O f d v) (hd : decode code pc = .ok (.getfield i, 3)) (hp : pc + 3 = pc') (q : W h k n pc' Ls (v :: rest)) : W h k n pc Ls (.ref a :: rest) := by
  obtain ⟨p, e, s, m, args, below, meth, c, ⟨hx, hby, hml, hown, hZ, hre, hlk, hnm⟩, rfl⟩ := C
  subst hp
  intro T locs k' n' q1 q2 X eT N
  obtain ⟨T', X', e', st'⟩ := getF X hx hZ hown (host := "") (Or.inl w) via eT F (g := mkF m pc Ls (.ref a :: rest)) rfl rfl (hb hby hd)
  obtain ⟨s2, o, st2, r⟩ := q T' locs k' n' q1 q2 X' e' N
  exact ⟨s2, o, st' _ st2, r⟩
theorem Ru.gets (C : Ru l Z own code maxL ret nm R n0 G W) {a0 : Array Value} {R0 O f d : String} {i : Nat} {v : Value} (w : (Cond.fieldLink own i R0 f d).before a0 Z = true) (via : Via Z R0 O f d) (F : Sta Z h O f d v) (hd : decode code pc = .ok (.getstatic i, 3)) (hp : pc + 3 = pc') (q : W h k n pc' Ls (v :: st)) : W h k n pc Ls st := by
  obtain ⟨p, e, s, m, args, below, meth, c, ⟨hx, hby, hml, hown, hZ, hre, hlk, hnm⟩, rfl⟩ := C
  subst hp
  intro T locs k' n' q1 q2 X eT N
  obtain ⟨T', X', e', st'⟩ := getS X hx hZ (host := "") hown w via eT F (g := mkF m pc Ls st) rfl (hb hby hd)
  obtain ⟨s2, o, st2, r⟩ := q T' locs k' n' q1 q2 X' e' N
  exact ⟨s2, o, st' _ st2, r⟩
theorem Ru.putf (C : Ru l Z own code maxL ret nm R n0 G W) {a0 : Array Value} {R0 O f d D : String} {i kk : Nat} {ty : FieldType} {a : Addr} {v old : Value} (w : (Cond.fieldLink own i R0 f d).before a0 Z = true) (via : Via Z R0 O f d) (F : Fld Z h a O f d old) (E : Exa Z h a D)
    (L : (Cond.lays D O f d).before a0 Z = true ∨ ((Cond.laysFinal D O f d).before a0 Z = true ∧ own = O ∧ nm = "<init>")) (wi : (Cond.instantiable D kk).before a0 Z = true) (hty : parseFieldDescriptor d = some ty) (hn : narrow ty v = v) (hf : fits ty v = true) (hg : n0 ≤ a)
    (hd : decode code pc = .ok (.putfield i, 3)) (hp : pc + 3 = pc') (q : ∀ h', Wr h h' a (Jvm.RoadKit.slotOf Z O f d) v → W h' k n pc' Ls rest) : W h k n pc Ls (v :: .ref a :: rest) := by
  obtain ⟨p, e, s, m, args, below, meth, c, ⟨hx, hby, hml, hown, hZ, hre, hlk, hnm⟩, rfl⟩ := C
  subst hp
  intro T locs k' n' q1 q2 X eT N
  obtain ⟨T', h', X', e', W', st'⟩ := putF X hx hZ hown (host := "") (Or.inl w) via eT F E (L.imp id fun u => ⟨u.1, u.2.1, hnm.trans u.2.2⟩) wi hty hn hf (g := mkF m pc Ls (v :: .ref a :: rest)) rfl rfl (hb hby hd)
  obtain ⟨s2, o, st2, r⟩ := q h' W' T' _ k' n' q1 q2 X' e' (Fr.snoc X' N hg)
  exact ⟨s2, o, st' _ st2, r⟩
theorem Ru.putfN (C : Ru l Z own code maxL ret nm R n0 G W) {a0 : Array Value} {R0 O f d D : String} {i kk : Nat} {ty : FieldType} {a : Addr} {v v' old : Value} (w : (Cond.fieldLink own i R0 f d).before a0 Z = true) (via : Via Z R0 O f d) (F : Fld Z h a O f d old) (E : Exa Z h a D)
    (L : (Cond.lays D O f d).before a0 Z = true ∨ ((Cond.laysFinal D O f d).before a0 Z = true ∧ own = O ∧ nm = "<init>")) (wi : (Cond.instantiable D kk).before a0 Z = true) (hty : parseFieldDescriptor d = some ty) (hn : narrow ty v = v') (hf : fits ty v' = true) (hg : n0 ≤ a)
    (hd : decode code pc = .ok (.putfield i, 3)) (hp : pc + 3 = pc') (q : ∀ h', Wr h h' a (Jvm.RoadKit.slotOf Z O f d) v' → W h' k n pc' Ls rest) : W h k n pc Ls (v :: .ref a :: rest) := by
  obtain ⟨p, e, s, m, args, below, meth, c, ⟨hx, hby, hml, hown, hZ, hre, hlk, hnm⟩, rfl⟩ := C
  subst hp
  intro T locs k' n' q1 q2 X eT N
  obtain ⟨T', h', X', e', W', st'⟩ := putFN X hx hZ hown w via eT F E (L.imp id fun u => ⟨u.1, u.2.1, hnm.trans u.2.2⟩) wi hty hn hf (g := mkF m pc Ls (v :: .ref a :: rest)) rfl rfl (hb hby hd)
  obtain ⟨s2, o, st2, r⟩ := q h' W' T' _ k' n' q1 q2 X' e' (Fr.snoc X' N hg)
  exact ⟨s2, o, st' _ st2, r⟩
theorem Ru.new (C : Ru l Z own code maxL ret nm R n0 G W) {a0 : Array Value} {D : String} {i sl : Nat} (w : (Cond.classLink own i D).before a0 Z = true) (wi : (Cond.instantiable D sl).before a0 Z = true) (wz : (Cond.initialized D).before a0 Z = true)
    (hd : decode code pc = .ok (.new i, 3)) (hp : pc + 3 = pc') (hk : k + 1 ≤ R.cells) (hn : n + sl ≤ R.slots)
    (q : ∀ h' b, b = h.size → Ext h h' → Exa Z h' b D → (∀ {O nm d : String} {ty : FieldType}, Laid Z a0 D O nm d → parseFieldDescriptor d = some ty → Fld Z h' b O nm d (defaultValue ty)) → W h' (k + 1) (n + sl) pc' Ls (.ref b :: st)) : W h k n pc Ls st := by
  obtain ⟨p, e, s, m, args, below, meth, c, ⟨hx, hby, hml, hown, hZ, hre, hlk, hnm⟩, rfl⟩ := C
  subst hp
  intro T locs k' n' q1 q2 X eT N
  obtain ⟨T', h', X', e', E', A', D', -, st'⟩ := newO X hx hZ hown w wi wz eT (g := mkF m pc Ls st) rfl (hb hby hd) (by omega) (by omega)
  obtain ⟨s2, o, st2, r⟩ := q h' _ rfl E' A' D' T' locs (k' + 1) (n' + sl) (by omega) (by omega) X' e' N
  exact ⟨s2, o, st' _ st2, r⟩
/-- an int array with just these elements -/
def AI (Z : State) (h : Heap) (a : Addr) (vs : List Int32) : Prop := ∃ c : Cell, Arr Z h a c .int ∧ c.slots = (vs.map Value.int).toArray ∧ vs.length < 2 ^ 31
def AJ (Z : State) (h : Heap) (a : Addr) (vs : List Int64) : Prop := ∃ c : Cell, Arr Z h a c .long ∧ c.slots = (vs.map Value.long).toArray ∧ vs.length < 2 ^ 31
/-- a byte array of this length -/
def AB (Z : State) (h : Heap) (a : Addr) (z : Nat) : Prop := ∃ c : Cell, Arr Z h a c .byte ∧ c.slots.size = z ∧ z < 2 ^ 31
theorem AI.lt {Z : State} {h : Heap} {a : Addr} {vs : List Int32} (F : AI Z h a vs) : a < h.size := by obtain ⟨c, A, -⟩ := F; exact A.lt
theorem AI.ext {Z : State} {h h' : Heap} {a : Addr} {vs : List Int32} (F : AI Z h a vs) (E : Ext h h') : AI Z h' a vs := by obtain ⟨c, A, r⟩ := F; exact ⟨c, A.ext E, r⟩
theorem AI.other {Z : State} {h h' : Heap} {a b : Addr} {sl : Nat} {v : Value} {vs : List Int32} (F : AI Z h b vs) (W : Wr h h' a sl v) (q : b ≠ a) : AI Z h' b vs := by obtain ⟨c, A, r⟩ := F; exact ⟨c, A.other W q, r⟩
theorem AI.keep {Z : State} {h h' : Heap} {a : Addr} {ws : List Addr} {vs : List Int32} (F : AI Z h a vs) (K : Keep h h' ws) (q : a ∉ ws) : AI Z h' a vs := by obtain ⟨c, A, r⟩ := F; exact ⟨c, ⟨K.2.1 a c A.1 q, A.2⟩, r⟩
theorem AI.set {Z : State} {h h' : Heap} {a : Addr} {j : Nat} {v : Int32} {vs : List Int32} (F : AI Z h a vs) (W : Wr h h' a j (.int v)) : AI Z h' a (vs.set j v) := by
  obtain ⟨c, A, e, r⟩ := F
  refine ⟨_, A.same W, ?_, by rw [List.length_set]; exact r⟩
  have q : (c.setSlot j (.int v)).slots = c.slots.setIfInBounds j (.int v) := rfl
  rw [q, e]
  apply Array.ext'
  simp [List.map_set]
theorem Ru.newAI (C : Ru l Z own code maxL ret nm R n0 G W) {a0 : Array Value} {z : Int32} {N cap : Nat} (w : (Cond.arrayClass .int).before a0 Z = true) (hd : decode code pc = .ok (.newarray .int, 2)) (hp : pc + 2 = pc') (hz : z.toInt = (N : Int)) (hcap : N ≤ cap) (hb8 : cap * 8 ≤ 536870912) (hk : k + 1 ≤ R.cells) (hn : n + cap ≤ R.slots)
    (q : ∀ h' b, b = h.size → Ext h h' → AI Z h' b (List.replicate N 0) → W h' (k + 1) (n + cap) pc' Ls (.ref b :: rest)) : W h k n pc Ls (.int z :: rest) := by
  obtain ⟨p, e, s, m, args, below, meth, c, ⟨hx, hby, hml, hown, hZ, hre, hlk, hnm⟩, rfl⟩ := C
  subst hp
  intro T locs k' n' q1 q2 X eT Nf
  have hnn : ¬ z < 0 := by rw [Int32.lt_iff_toInt_lt]; show ¬ z.toInt < 0; omega
  have hzn : z.toNatClampNeg = N := by show z.toInt.toNat = N; omega
  have hlt : N < 2 ^ 31 := by have := (rng32 z).2; omega
  obtain ⟨T', h', cA, X', e', E', A', st'⟩ := newP X hx hZ (aty := .int) w eT (g := mkF m pc Ls (.int z :: rest)) rfl (hb hby hd) rfl hnn (cap := cap) (by omega) hb8 (by omega) (by omega)
  have F : AI Z h' h.size (List.replicate N 0) := by
    refine ⟨_, A', ?_, by rw [List.length_replicate]; exact hlt⟩
    simp only [newA, hzn]
    apply Array.ext'
    simp [defaultValue, newarray.typeOf]
  obtain ⟨s2, o, st2, r⟩ := q h' _ rfl E' F T' locs (k' + 1) (n' + cap) (by omega) (by omega) X' e' Nf
  exact ⟨s2, o, st' _ st2, r⟩
theorem Ru.ldAI (C : Ru l Z own code maxL ret nm R n0 G W) {a : Addr} {j : Int32} {i : Nat} {v : Int32} {vs : List Int32} (F : AI Z h a vs) (hj : j.toInt = (i : Int)) (hv : vs[i]? = some v) (hd : decode code pc = .ok (.iaload, 1)) (hp : pc + 1 = pc') (q : W h k n pc' Ls (.int v :: rest)) : W h k n pc Ls (.int j :: .ref a :: rest) := by
  obtain ⟨p, e, s, m, args, below, meth, c, ⟨hx, hby, hml, hown, hZ, hre, hlk, hnm⟩, rfl⟩ := C
  subst hp
  intro T locs k' n' q1 q2 X eT N
  obtain ⟨cl, A, es, hl⟩ := F
  have hjn : j.toNatClampNeg = i := by show j.toInt.toNat = i; omega
  have hlt : i < vs.length := (List.getElem?_eq_some_iff.mp hv).1
  have hin : ¬ (j < 0 ∨ cl.slots.size ≤ j.toNatClampNeg) := by
    rw [Int32.lt_iff_toInt_lt, es, hjn]
    simp only [List.size_toArray, List.length_map]
    show ¬ (j.toInt < 0 ∨ _); omega
  have hat : cl.slots[j.toNatClampNeg]? = some (.int v) := by rw [es, hjn]; simp [hv]
  obtain ⟨s2, o, st2, r⟩ := q T locs k' n' q1 q2 X eT N
  exact ⟨s2, o, X.iaload hx (by rw [eT]; exact A.1) (State.isArrayOf_alike hZ.alike A.2.1) A.2.2 hin hat (g := mkF m pc Ls (.int j :: .ref a :: rest)) rfl rfl (hb hby hd) _ st2, r⟩
theorem Ru.stAI (C : Ru l Z own code maxL ret nm R n0 G W) {a : Addr} {j : Int32} {i : Nat} {v : Int32} {vs : List Int32} (F : AI Z h a vs) (hj : j.toInt = (i : Int)) (hlt : i < vs.length) (hg : n0 ≤ a) (hd : decode code pc = .ok (.iastore, 1)) (hp : pc + 1 = pc') (q : ∀ h', Wr h h' a i (.int v) → AI Z h' a (vs.set i v) → W h' k n pc' Ls rest) : W h k n pc Ls (.int v :: .int j :: .ref a :: rest) := by
  obtain ⟨p, e, s, m, args, below, meth, c, ⟨hx, hby, hml, hown, hZ, hre, hlk, hnm⟩, rfl⟩ := C
  subst hp
  intro T locs k' n' q1 q2 X eT N
  have F0 := F
  obtain ⟨cl, A, es, hl⟩ := F
  have hjn : j.toNatClampNeg = i := by show j.toInt.toNat = i; omega
  have hin : ¬ (j < 0 ∨ cl.slots.size ≤ j.toNatClampNeg) := by
    rw [Int32.lt_iff_toInt_lt, es, hjn]
    simp only [List.size_toArray, List.length_map]
    show ¬ (j.toInt < 0 ∨ _); omega
  obtain ⟨T', h', X', e', W', st'⟩ := stI X hx hZ eT A (j := j) hin (g := mkF m pc Ls (.int v :: .int j :: .ref a :: rest)) rfl rfl (hb hby hd)
  rw [hjn] at W'
  obtain ⟨s2, o, st2, r⟩ := q h' W' (F0.set W') T' _ k' n' q1 q2 X' e' (Fr.snoc X' N hg)
  exact ⟨s2, o, st' _ st2, r⟩
theorem Ru.lenAI (C : Ru l Z own code maxL ret nm R n0 G W) {a : Addr} {vs : List Int32} {z : Int32} (F : AI Z h a vs) (hz : z.toInt = (vs.length : Int)) (hd : decode code pc = .ok (.arraylength, 1)) (hp : pc + 1 = pc') (q : W h k n pc' Ls (.int z :: rest)) : W h k n pc Ls (.ref a :: rest) := by
  obtain ⟨p, e, s, m, args, below, meth, c, ⟨hx, hby, hml, hown, hZ, hre, hlk, hnm⟩, rfl⟩ := C
  subst hp
  intro T locs k' n' q1 q2 X eT N
  obtain ⟨cl, A, es, hl⟩ := F
  have e1 : cl.slots.size.toInt32 = z := by
    apply Int32.toInt_inj.mp
    rw [es, hz]
    simp only [List.size_toArray, List.length_map]
    exact len_toInt hl
  obtain ⟨s2, o, st2, r⟩ := q T locs k' n' q1 q2 X eT N
  exact ⟨s2, o, X.arraylength hx (by rw [eT]; exact A.1) (State.isArrayOf_alike hZ.alike A.2.1) (g := mkF m pc Ls (.ref a :: rest)) rfl rfl (hb hby hd) _ (by rw [e1]; exact st2), r⟩
theorem AJ.lt {Z : State} {h : Heap} {a : Addr} {vs : List Int64} (F : AJ Z h a vs) : a < h.size := by obtain ⟨c, A, -⟩ := F; exact A.lt
theorem AJ.ext {Z : State} {h h' : Heap} {a : Addr} {vs : List Int64} (F : AJ Z h a vs) (E : Ext h h') : AJ Z h' a vs := by obtain ⟨c, A, r⟩ := F; exact ⟨c, A.ext E, r⟩
theorem AJ.other {Z : State} {h h' : Heap} {a b : Addr} {sl : Nat} {v : Value} {vs : List Int64} (F : AJ Z h b vs) (W : Wr h h' a sl v) (q : b ≠ a) : AJ Z h' b vs := by obtain ⟨c, A, r⟩ := F; exact ⟨c, A.other W q, r⟩
theorem AJ.keep {Z : State} {h h' : Heap} {a : Addr} {ws : List Addr} {vs : List Int64} (F : AJ Z h a vs) (K : Keep h h' ws) (q : a ∉ ws) : AJ Z h' a vs := by obtain ⟨c, A, r⟩ := F; exact ⟨c, ⟨K.2.1 a c A.1 q, A.2⟩, r⟩
theorem AJ.set {Z : State} {h h' : Heap} {a : Addr} {j : Nat} {v : Int64} {vs : List Int64} (F : AJ Z h a vs) (W : Wr h h' a j (.long v)) : AJ Z h' a (vs.set j v) := by
  obtain ⟨c, A, e, r⟩ := F
  refine ⟨_, A.same W, ?_, by rw [List.length_set]; exact r⟩
  have q : (c.setSlot j (.long v)).slots = c.slots.setIfInBounds j (.long v) := rfl
  rw [q, e]
  apply Array.ext'
  simp [List.map_set]
theorem Ru.newAJ (C : Ru l Z own code maxL ret nm R n0 G W) {a0 : Array Value} {z : Int32} {N cap : Nat} (w : (Cond.arrayClass .long).before a0 Z = true) (hd : decode code pc = .ok (.newarray .long, 2)) (hp : pc + 2 = pc') (hz : z.toInt = (N : Int)) (hcap : N ≤ cap) (hb8 : cap * 8 ≤ 536870912) (hk : k + 1 ≤ R.cells) (hn : n + cap ≤ R.slots)
    (q : ∀ h' b, b = h.size → Ext h h' → AJ Z h' b (List.replicate N 0) → W h' (k + 1) (n + cap) pc' Ls (.ref b :: rest)) : W h k n pc Ls (.int z :: rest) := by
  obtain ⟨p, e, s, m, args, below, meth, c, ⟨hx, hby, hml, hown, hZ, hre, hlk, hnm⟩, rfl⟩ := C
  subst hp
  intro T locs k' n' q1 q2 X eT Nf
  have hnn : ¬ z < 0 := by rw [Int32.lt_iff_toInt_lt]; show ¬ z.toInt < 0; omega
  have hzn : z.toNatClampNeg = N := by show z.toInt.toNat = N; omega
  have hlt : N < 2 ^ 31 := by have := (rng32 z).2; omega
  obtain ⟨T', h', cA, X', e', E', A', st'⟩ := newP X hx hZ (aty := .long) w eT (g := mkF m pc Ls (.int z :: rest)) rfl (hb hby hd) rfl hnn (cap := cap) (by omega) hb8 (by omega) (by omega)
  have F : AJ Z h' h.size (List.replicate N 0) := by
    refine ⟨_, A', ?_, by rw [List.length_replicate]; exact hlt⟩
    simp only [newA, hzn]
    apply Array.ext'
    simp [defaultValue, newarray.typeOf]
  obtain ⟨s2, o, st2, r⟩ := q h' _ rfl E' F T' locs (k' + 1) (n' + cap) (by omega) (by omega) X' e' Nf
  exact ⟨s2, o, st' _ st2, r⟩
theorem Ru.ldAJ (C : Ru l Z own code maxL ret nm R n0 G W) {a : Addr} {j : Int32} {i : Nat} {v : Int64} {vs : List Int64} (F : AJ Z h a vs) (hj : j.toInt = (i : Int)) (hv : vs[i]? = some v) (hd : decode code pc = .ok (.laload, 1)) (hp : pc + 1 = pc') (q : W h k n pc' Ls (.long v :: rest)) : W h k n pc Ls (.int j :: .ref a :: rest) := by
  obtain ⟨p, e, s, m, args, below, meth, c, ⟨hx, hby, hml, hown, hZ, hre, hlk, hnm⟩, rfl⟩ := C
  subst hp
  intro T locs k' n' q1 q2 X eT N
  obtain ⟨cl, A, es, hl⟩ := F
  have hjn : j.toNatClampNeg = i := by show j.toInt.toNat = i; omega
  have hlt : i < vs.length := (List.getElem?_eq_some_iff.mp hv).1
  have hin : ¬ (j < 0 ∨ cl.slots.size ≤ j.toNatClampNeg) := by
    rw [Int32.lt_iff_toInt_lt, es, hjn]
    simp only [List.size_toArray, List.length_map]
    show ¬ (j.toInt < 0 ∨ _); omega
  have hat : cl.slots[j.toNatClampNeg]? = some (.long v) := by rw [es, hjn]; simp [hv]
  obtain ⟨s2, o, st2, r⟩ := q T locs k' n' q1 q2 X eT N
  exact ⟨s2, o, X.laload hx (by rw [eT]; exact A.1) (State.isArrayOf_alike hZ.alike A.2.1) A.2.2 hin hat (g := mkF m pc Ls (.int j :: .ref a :: rest)) rfl rfl (hb hby hd) _ st2, r⟩
theorem Ru.stAJ (C : Ru l Z own code maxL ret nm R n0 G W) {a : Addr} {j : Int32} {i : Nat} {v : Int64} {vs : List Int64} (F : AJ Z h a vs) (hj : j.toInt = (i : Int)) (hlt : i < vs.length) (hg : n0 ≤ a) (hd : decode code pc = .ok (.lastore, 1)) (hp : pc + 1 = pc') (q : ∀ h', Wr h h' a i (.long v) → AJ Z h' a (vs.set i v) → W h' k n pc' Ls rest) : W h k n pc Ls (.long v :: .int j :: .ref a :: rest) := by
  obtain ⟨p, e, s, m, args, below, meth, c, ⟨hx, hby, hml, hown, hZ, hre, hlk, hnm⟩, rfl⟩ := C
  subst hp
  intro T locs k' n' q1 q2 X eT N
  have F0 := F
  obtain ⟨cl, A, es, hl⟩ := F
  have hjn : j.toNatClampNeg = i := by show j.toInt.toNat = i; omega
  have hin : ¬ (j < 0 ∨ cl.slots.size ≤ j.toNatClampNeg) := by
    rw [Int32.lt_iff_toInt_lt, es, hjn]
    simp only [List.size_toArray, List.length_map]
    show ¬ (j.toInt < 0 ∨ _); omega
  obtain ⟨T', h', X', e', W', st'⟩ := stJ X hx hZ eT A (j := j) hin (g := mkF m pc Ls (.long v :: .int j :: .ref a :: rest)) rfl rfl (hb hby hd)
  rw [hjn] at W'
  obtain ⟨s2, o, st2, r⟩ := q h' W' (F0.set W') T' _ k' n' q1 q2 X' e' (Fr.snoc X' N hg)
  exact ⟨s2, o, st' _ st2, r⟩
theorem Ru.lenAJ (C : Ru l Z own code maxL ret nm R n0 G W) {a : Addr} {vs : List Int64} {z : Int32} (F : AJ Z h a vs) (hz : z.toInt = (vs.length : Int)) (hd : decode code pc = .ok (.arraylength, 1)) (hp : pc + 1 = pc') (q : W h k n pc' Ls (.int z :: rest)) : W h k n pc Ls (.ref a :: rest) := by
  obtain ⟨p, e, s, m, args, below, meth, c, ⟨hx, hby, hml, hown, hZ, hre, hlk, hnm⟩, rfl⟩ := C
  subst hp
  intro T locs k' n' q1 q2 X eT N
  obtain ⟨cl, A, es, hl⟩ := F
  have e1 : cl.slots.size.toInt32 = z := by
    apply Int32.toInt_inj.mp
    rw [es, hz]
    simp only [List.size_toArray, List.length_map]
    exact len_toInt hl
  obtain ⟨s2, o, st2, r⟩ := q T locs k' n' q1 q2 X eT N
  exact ⟨s2, o, X.arraylength hx (by rw [eT]; exact A.1) (State.isArrayOf_alike hZ.alike A.2.1) (g := mkF m pc Ls (.ref a :: rest)) rfl rfl (hb hby hd) _ (by rw [e1]; exact st2), r⟩
theorem AB.lt {Z : State} {h : Heap} {a : Addr} {z : Nat} (F : AB Z h a z) : a < h.size := by obtain ⟨c, A, -⟩ := F; exact A.lt
theorem AB.ext {Z : State} {h h' : Heap} {a : Addr} {z : Nat} (F : AB Z h a z) (E : Ext h h') : AB Z h' a z := by obtain ⟨c, A, r⟩ := F; exact ⟨c, A.ext E, r⟩
theorem AB.other {Z : State} {h h' : Heap} {a b : Addr} {sl : Nat} {v : Value} {z : Nat} (F : AB Z h b z) (W : Wr h h' a sl v) (q : b ≠ a) : AB Z h' b z := by obtain ⟨c, A, r⟩ := F; exact ⟨c, A.other W q, r⟩
theorem AB.keep {Z : State} {h h' : Heap} {a : Addr} {ws : List Addr} {z : Nat} (F : AB Z h a z) (K : Keep h h' ws) (q : a ∉ ws) : AB Z h' a z := by obtain ⟨c, A, r⟩ := F; exact ⟨c, ⟨K.2.1 a c A.1 q, A.2⟩, r⟩
theorem Ru.newAB (C : Ru l Z own code maxL ret nm R n0 G W) {a0 : Array Value} {z : Int32} {N cap : Nat} (w : (Cond.arrayClass .byte).before a0 Z = true) (hd : decode code pc = .ok (.newarray .byte, 2)) (hp : pc + 2 = pc') (hz : z.toInt = (N : Int)) (hcap : N ≤ cap) (hb8 : cap * 8 ≤ 536870912) (hk : k + 1 ≤ R.cells) (hn : n + cap ≤ R.slots)
    (q : ∀ h' b, b = h.size → Ext h h' → AB Z h' b N → W h' (k + 1) (n + cap) pc' Ls (.ref b :: rest)) : W h k n pc Ls (.int z :: rest) := by
  obtain ⟨p, e, s, m, args, below, meth, c, ⟨hx, hby, hml, hown, hZ, hre, hlk, hnm⟩, rfl⟩ := C
  subst hp
  intro T locs k' n' q1 q2 X eT Nf
  have hnn : ¬ z < 0 := by rw [Int32.lt_iff_toInt_lt]; show ¬ z.toInt < 0; omega
  have hzn : z.toNatClampNeg = N := by show z.toInt.toNat = N; omega
  have hlt : N < 2 ^ 31 := by have := (rng32 z).2; omega
  obtain ⟨T', h', cA, X', e', E', A', st'⟩ := newP X hx hZ (aty := .byte) w eT (g := mkF m pc Ls (.int z :: rest)) rfl (hb hby hd) rfl hnn (cap := cap) (by omega) hb8 (by omega) (by omega)
  have F : AB Z h' h.size N := ⟨_, A', by rw [sz_new]; exact hzn, hlt⟩
  obtain ⟨s2, o, st2, r⟩ := q h' _ rfl E' F T' locs (k' + 1) (n' + cap) (by omega) (by omega) X' e' Nf
  exact ⟨s2, o, st' _ st2, r⟩
theorem Ru.stAB (C : Ru l Z own code maxL ret nm R n0 G W) {a : Addr} {j : Int32} {i : Nat} {v : Int32} {z : Nat} (F : AB Z h a z) (hj : j.toInt = (i : Int)) (hlt : i < z) (hg : n0 ≤ a) (hd : decode code pc = .ok (.bastore, 1)) (hp : pc + 1 = pc') (q : ∀ h', Wr h h' a i (.int (nar .byte v)) → AB Z h' a z → W h' k n pc' Ls rest) : W h k n pc Ls (.int v :: .int j :: .ref a :: rest) := by
  obtain ⟨p, e, s, m, args, below, meth, c, ⟨hx, hby, hml, hown, hZ, hre, hlk, hnm⟩, rfl⟩ := C
  subst hp
  intro T locs k' n' q1 q2 X eT N
  obtain ⟨cl, A, es, hl⟩ := F
  have hjn : j.toNatClampNeg = i := by show j.toInt.toNat = i; omega
  have hin : ¬ (j < 0 ∨ cl.slots.size ≤ j.toNatClampNeg) := by
    rw [Int32.lt_iff_toInt_lt, es, hjn]
    show ¬ (j.toInt < 0 ∨ _); omega
  obtain ⟨T', h', X', e', W', st'⟩ := stB X hx hZ eT A (j := j) hin (g := mkF m pc Ls (.int v :: .int j :: .ref a :: rest)) rfl rfl (hb hby hd)
  rw [hjn] at W'
  obtain ⟨s2, o, st2, r⟩ := q h' W' ⟨_, A.same W', by rw [sz_set]; exact es, hl⟩ T' _ k' n' q1 q2 X' e' (Fr.snoc X' N hg)
  exact ⟨s2, o, st' _ st2, r⟩
theorem Ru.lenAB (C : Ru l Z own code maxL ret nm R n0 G W) {a : Addr} {N : Nat} {z : Int32} (F : AB Z h a N) (hz : z.toInt = (N : Int)) (hd : decode code pc = .ok (.arraylength, 1)) (hp : pc + 1 = pc') (q : W h k n pc' Ls (.int z :: rest)) : W h k n pc Ls (.ref a :: rest) := by
  obtain ⟨p, e, s, m, args, below, meth, c, ⟨hx, hby, hml, hown, hZ, hre, hlk, hnm⟩, rfl⟩ := C
  subst hp
  intro T locs k' n' q1 q2 X eT Nf
  obtain ⟨cl, A, es, hl⟩ := F
  have e1 : cl.slots.size.toInt32 = z := by
    apply Int32.toInt_inj.mp
    rw [es, hz]
    exact len_toInt hl
  obtain ⟨s2, o, st2, r⟩ := q T locs k' n' q1 q2 X eT Nf
  exact ⟨s2, o, X.arraylength hx (by rw [eT]; exact A.1) (State.isArrayOf_alike hZ.alike A.2.1) (g := mkF m pc Ls (.ref a :: rest)) rfl rfl (hb hby hd) _ (by rw [e1]; exact st2), r⟩
/-! calls -/
/-- what a stack weighs -/
def wt (st : List Value) : Nat := (st.map fun v => v.category).sum
/-- Object.<init> -/
theorem Ru.initObj (C : Ru l Z own code maxL ret nm R n0 G W) {a0 : Array Value} {i w : Nat} {a : Addr} (w1 : (Cond.methodLink own i Lib.objectInit).before a0 Z = true) (w2 : (Cond.instanceMethod Lib.objectInit).before a0 Z = true) (w3 : (Cond.code Lib.objectInit ⟨#[0xb1]⟩ 1 none).before a0 Z = true)
    (hd : decode code pc = .ok (.invokespecial i, 3)) (hp : pc + 3 = pc') (hs : Ls.size = maxL) (hf : 1 ≤ R.frames) (hw : wt rest ≤ w) (hl : w + 12 ≤ R.locals) (q : W h k n pc' Ls rest) : W h k n pc Ls (.ref a :: rest) := by
  obtain ⟨p, e, s, m, args, below, meth, c, ⟨hx, hby, hml, hown, hZ, hre, hlk, hnm⟩, rfl⟩ := C
  subst hp
  intro T locs k' n' q1 q2 X eT N
  obtain ⟨T', X', e', st'⟩ := initO X hx hZ hown w1 w2 w3 eT (g := mkF m pc Ls (.ref a :: rest)) rfl (by rw [hml]; exact hs) rfl (hb hby hd) hf (W := w) (by show 2 * 0 + _ ≤ _; simpa [wt] using hw) hl
  obtain ⟨s2, o, st2, r⟩ := q T' locs k' n' q1 q2 X' e' N
  exact ⟨s2, o, st' _ st2, r⟩
theorem Ru.calls (C : Ru l Z own code maxL ret nm R n0 G W) {a0 : Array Value} {i w : Nat} {y : MethodName} {bytes : ByteArray} {mx : Nat} {rt : Option FieldType} {rm : Room} {GC : Option Value → Heap → Prop} {argsL : List Value} {ps : List FieldType} {rt' : Option FieldType}
    (M : MeetsW l Z n0 y bytes mx rt rm argsL.toArray h GC) (w1 : (Cond.methodLink own i y).before a0 Z = true) (w2 : (Cond.static y).before a0 Z = true) (w3 : (Cond.initialized y.cls).before a0 Z = true) (w4 : (Cond.code y bytes mx rt).before a0 Z = true)
    (hd : decode code pc = .ok (.invokestatic i, 3)) (hp : pc + 3 = pc') (hs : Ls.size = maxL) (hst : st = argsL.reverse ++ rest) (hy : y.cls ≠ "java/lang/invoke/MethodHandle" ∧ y.cls ≠ "java/lang/invoke/VarHandle")
    (hdesc : parseMethodDescriptor y.desc = some ⟨ps, rt'⟩) (hlen : argsL.length = ps.length) (hf : rm.frames + 1 ≤ R.frames) (hw : wt rest ≤ w) (hl : w + (mx + 11) + rm.locals ≤ R.locals) (hk : k + rm.cells ≤ R.cells) (hn : n + rm.slots ≤ R.slots)
    (q : ∀ v h', GC v h' → W h' (k + rm.cells) (n + rm.slots) pc' Ls (v.toList ++ rest)) : W h k n pc Ls st := by
  obtain ⟨p, e, s, m, args, below, meth, c, ⟨hx, hby, hml, hown, hZ, hre, hlk, hnm⟩, rfl⟩ := C
  subst hp hst
  intro T locs k' n' q1 q2 X eT N
  obtain ⟨v, _, ⟨T', L', k2, n2⟩, -, X', ⟨Lc, ⟨N', hQ⟩, hl', hk', hn'⟩, st'⟩ := Jvm.LawKit.callS X hx (y := y) hown (mvT hZ w1) (mvT hZ w2) (mvT hZ w3) (mvT hZ w4) hy (backOf (W := w) (Q := fun v h L => Fr n0 L ∧ GC v h) (M []) hZ w4 w3 hf hl) (g := mkF m pc Ls (argsL.reverse ++ rest)) rfl (by rw [hml]; exact hs) (argsL := argsL) (rest := rest) (lenOf hdesc hlen) rfl (by show 2 * 0 + _ ≤ _; simpa [wt] using hw) (hb hby hd) (fun _ _ => ⟨rfl, eT, (by show k' + rm.cells ≤ _; omega), (by show n' + rm.slots ≤ _; omega)⟩)
  dsimp only [Pt.U, Pt.locs, Pt.cells, Pt.slots] at X' hl' hk' hn' st' hQ
  subst hl' hk' hn'
  obtain ⟨s2, o, st2, r⟩ := q v T'.heap hQ T' _ _ _ (by omega) (by omega) X' rfl (Fr.app N N')
  exact ⟨s2, o, st' _ st2, r⟩
theorem Ru.callc (C : Ru l Z own code maxL ret nm R n0 G W) {a0 : Array Value} {i w : Nat} {y : MethodName} {bytes : ByteArray} {mx : Nat} {rm : Room} {GC : Option Value → Heap → Prop} {a : Addr} {argsL : List Value} {ps : List FieldType} {rt' : Option FieldType}
    (M : MeetsW l Z n0 y bytes mx none rm (.ref a :: argsL).toArray h GC) (hy1 : y.name = "<init>") (w1 : (Cond.methodLink own i y).before a0 Z = true) (w2 : (Cond.instanceMethod y).before a0 Z = true) (w3 : (Cond.initialized y.cls).before a0 Z = true) (w4 : (Cond.code y bytes mx none).before a0 Z = true)
    (hd : decode code pc = .ok (.invokespecial i, 3)) (hp : pc + 3 = pc') (hs : Ls.size = maxL) (hst : st = argsL.reverse ++ .ref a :: rest) (hy : y.cls ≠ "java/lang/invoke/MethodHandle" ∧ y.cls ≠ "java/lang/invoke/VarHandle")
    (hdesc : parseMethodDescriptor y.desc = some ⟨ps, rt'⟩) (hlen : argsL.length = ps.length) (hf : rm.frames + 1 ≤ R.frames) (hw : wt rest ≤ w) (hl : w + (mx + 11) + rm.locals ≤ R.locals) (hk : k + rm.cells ≤ R.cells) (hn : n + rm.slots ≤ R.slots)
    (q : ∀ v h', GC v h' → W h' (k + rm.cells) (n + rm.slots) pc' Ls (v.toList ++ rest)) : W h k n pc Ls st := by
  obtain ⟨p, e, s, m, args, below, meth, c, ⟨hx, hby, hml, hown, hZ, hre, hlk, hnm⟩, rfl⟩ := C
  subst hp hst
  intro T locs k' n' q1 q2 X eT N
  obtain ⟨v, _, ⟨T', L', k2, n2⟩, -, X', ⟨Lc, ⟨N', hQ⟩, hl', hk', hn'⟩, st'⟩ := X.specialBack hx (y := y) hy1 hown (mvT hZ w1) (mvT hZ w2) (mvT hZ w4) hy (backOf (W := w) (Q := fun v h L => Fr n0 L ∧ GC v h) (M []) hZ w4 w3 hf hl) (g := mkF m pc Ls (argsL.reverse ++ .ref a :: rest)) rfl (by rw [hml]; exact hs) (Steps.refl _) (a := a) (argsL := argsL) (rest := rest) (lenOf hdesc hlen) rfl (by show 2 * 0 + _ ≤ _; simpa [wt] using hw) (hb hby hd) (fun _ _ => ⟨rfl, eT, (by show k' + rm.cells ≤ _; omega), (by show n' + rm.slots ≤ _; omega)⟩)
  dsimp only [Pt.U, Pt.locs, Pt.cells, Pt.slots] at X' hl' hk' hn' st' hQ
  subst hl' hk' hn'
  obtain ⟨s2, o, st2, r⟩ := q v T'.heap hQ T' _ _ _ (by omega) (by omega) X' rfl (Fr.app N N')
  exact ⟨s2, o, st'.trans st2, r⟩
theorem Ru.callv (C : Ru l Z own code maxL ret nm R n0 G W) {a0 : Array Value} {i w : Nat} {y : MethodName} {bytes : ByteArray} {mx : Nat} {rt : Option FieldType} {rm : Room} {GC : Option Value → Heap → Prop} {a : Addr} {argsL : List Value} {ps : List FieldType} {rt' : Option FieldType} {D : String}
    (M : MeetsW l Z n0 y bytes mx rt rm (.ref a :: argsL).toArray h GC) (E : Exa Z h a D) (w1 : (Cond.methodLink own i y).before a0 Z = true) (w2 : (Cond.declares y).before a0 Z = true) (w5 : (Cond.selects D y y).before a0 Z = true) (w6 : (Cond.instanceMethod y).before a0 Z = true) (w3 : (Cond.initialized y.cls).before a0 Z = true) (w4 : (Cond.code y bytes mx rt).before a0 Z = true)
    (hd : decode code pc = .ok (.invokevirtual i, 3)) (hp : pc + 3 = pc') (hs : Ls.size = maxL) (hst : st = argsL.reverse ++ .ref a :: rest) (hy : y.cls ≠ "java/lang/invoke/MethodHandle" ∧ y.cls ≠ "java/lang/invoke/VarHandle")
    (hdesc : parseMethodDescriptor y.desc = some ⟨ps, rt'⟩) (hlen : argsL.length = ps.length) (hf : rm.frames + 1 ≤ R.frames) (hw : wt rest ≤ w) (hl : w + (mx + 11) + rm.locals ≤ R.locals) (hk : k + rm.cells ≤ R.cells) (hn : n + rm.slots ≤ R.slots)
    (q : ∀ v h', GC v h' → W h' (k + rm.cells) (n + rm.slots) pc' Ls (v.toList ++ rest)) : W h k n pc Ls st := by
  obtain ⟨p, e, s, m, args, below, meth, c, ⟨hx, hby, hml, hown, hZ, hre, hlk, hnm⟩, rfl⟩ := C
  subst hp hst
  intro T locs k' n' q1 q2 X eT N
  obtain ⟨cq, kq, qa, qb, qc⟩ := isOf hZ eT E
  obtain ⟨v, _, ⟨T', L', k2, n2⟩, -, X', ⟨Lc, ⟨N', hQ⟩, hl', hk', hn'⟩, st'⟩ := X.virtualBack hx (y := y) (z := y) hown (mvT hZ w1) (mvT hZ w2) (notFace_of_selects (args := #[]) (mvT hZ w5)) (mvT hZ w5) (mvT hZ w6) hy (backOf (W := w) (Q := fun v h L => Fr n0 L ∧ GC v h) (M []) hZ w4 w3 hf hl) qa qc (g := mkF m pc Ls (argsL.reverse ++ .ref a :: rest)) rfl (by rw [hml]; exact hs) (Steps.refl _) (argsL := argsL) (rest := rest) (lenOf hdesc hlen) rfl (by show 2 * 0 + _ ≤ _; simpa [wt] using hw) (hb hby hd) (fun _ _ => ⟨rfl, eT, (by show k' + rm.cells ≤ _; omega), (by show n' + rm.slots ≤ _; omega)⟩)
  dsimp only [Pt.U, Pt.locs, Pt.cells, Pt.slots] at X' hl' hk' hn' st' hQ
  subst hl' hk' hn'
  obtain ⟨s2, o, st2, r⟩ := q v T'.heap hQ T' _ _ _ (by omega) (by omega) X' rfl (Fr.app N N')
  exact ⟨s2, o, st'.trans st2, r⟩
theorem Ru.callp (C : Ru l Z own code maxL ret nm R n0 G W) {a0 : Array Value} {i w : Nat} {y : MethodName} {bytes : ByteArray} {mx : Nat} {rt : Option FieldType} {rm : Room} {GC : Option Value → Heap → Prop} {a : Addr} {argsL : List Value} {ps : List FieldType} {rt' : Option FieldType} {D : String}
    (M : MeetsW l Z n0 y bytes mx rt rm (.ref a :: argsL).toArray h GC) (E : Exa Z h a D) (w1 : (Cond.methodLink own i y).before a0 Z = true) (w6 : (Cond.instanceMethod y).before a0 Z = true) (w5 : (Cond.selects y.cls y y).before a0 Z = true) (w7 : (Cond.privateMethod y).before a0 Z = true) (w3 : (Cond.initialized y.cls).before a0 Z = true) (w4 : (Cond.code y bytes mx rt).before a0 Z = true)
    (hd : decode code pc = .ok (.invokevirtual i, 3)) (hp : pc + 3 = pc') (hs : Ls.size = maxL) (hst : st = argsL.reverse ++ .ref a :: rest) (hy : y.cls ≠ "java/lang/invoke/MethodHandle" ∧ y.cls ≠ "java/lang/invoke/VarHandle")
    (hdesc : parseMethodDescriptor y.desc = some ⟨ps, rt'⟩) (hlen : argsL.length = ps.length) (hf : rm.frames + 1 ≤ R.frames) (hw : wt rest ≤ w) (hl : w + (mx + 11) + rm.locals ≤ R.locals) (hk : k + rm.cells ≤ R.cells) (hn : n + rm.slots ≤ R.slots)
    (q : ∀ v h', GC v h' → W h' (k + rm.cells) (n + rm.slots) pc' Ls (v.toList ++ rest)) : W h k n pc Ls st := by
  obtain ⟨p, e, s, m, args, below, meth, c, ⟨hx, hby, hml, hown, hZ, hre, hlk, hnm⟩, rfl⟩ := C
  subst hp hst
  intro T locs k' n' q1 q2 X eT N
  obtain ⟨cq, qa, qb⟩ := E.cell
  obtain ⟨v, _, ⟨T', L', k2, n2⟩, -, X', ⟨Lc, ⟨N', hQ⟩, hl', hk', hn'⟩, st'⟩ := X.privateBack hx (y := y) hown (mvT hZ w1) (mvT hZ w6) (mvT hZ w5) (Cond.privateMethod_at (mvP hZ w7 (args := #[]))) (mvT hZ w4) hy (backOf (W := w) (Q := fun v h L => Fr n0 L ∧ GC v h) (M []) hZ w4 w3 hf hl) (g := mkF m pc Ls (argsL.reverse ++ .ref a :: rest)) rfl (by rw [hml]; exact hs) (Steps.refl _) (a := a) (by rw [eT]; exact qa) qb (argsL := argsL) (rest := rest) (lenOf hdesc hlen) rfl (by show 2 * 0 + _ ≤ _; simpa [wt] using hw) (hb hby hd) (fun _ _ => ⟨rfl, eT, (by show k' + rm.cells ≤ _; omega), (by show n' + rm.slots ≤ _; omega)⟩)
  dsimp only [Pt.U, Pt.locs, Pt.cells, Pt.slots] at X' hl' hk' hn' st' hQ
  subst hl' hk' hn'
  obtain ⟨s2, o, st2, r⟩ := q v T'.heap hQ T' _ _ _ (by omega) (by omega) X' rfl (Fr.app N N')
  exact ⟨s2, o, st'.trans st2, r⟩
theorem Ru.castY (C : Ru l Z own code maxL ret nm R n0 G W) {a0 : Array Value} {D : String} {i : Nat} {a : Addr} (w : (Cond.classLink own i D).before a0 Z = true) (F : Ins Z h a D true) (hd : decode code pc = .ok (.checkcast i, 3)) (hp : pc + 3 = pc') (q : W h k n pc' Ls (.ref a :: rest)) : W h k n pc Ls (.ref a :: rest) := by
  obtain ⟨p, e, s, m, args, below, meth, c, ⟨hx, hby, hml, hown, hZ, hre, hlk, hnm⟩, rfl⟩ := C
  subst hp
  intro T locs k' n' q1 q2 X eT N
  obtain ⟨T', X', e', st'⟩ := castY X hx hZ hown w eT F (g := mkF m pc Ls (.ref a :: rest)) rfl rfl (hb hby hd)
  obtain ⟨s2, o, st2, r⟩ := q T' locs k' n' q1 q2 X' e' N
  exact ⟨s2, o, st' _ st2, r⟩
theorem Ru.newAIE (C : Ru l Z own code maxL ret nm R n0 G W) {a0 : Array Value} {z : Int32} {N cap : Nat} (w : (Cond.arrayClass .int).before a0 Z = true) (hd : decode code pc = .ok (.newarray .int, 2)) (hp : pc + 2 = pc') (hz : z.toInt = (N : Int)) (hcap : N ≤ cap) (hb8 : cap * 8 ≤ 536870912) (hk : k + 1 ≤ R.cells) (hn : n + cap ≤ R.slots)
    (q : ∀ h' b, b = h.size → Ext h h' → AI Z h' b (List.replicate N 0) → Exa Z h' b "[I" → W h' (k + 1) (n + cap) pc' Ls (.ref b :: rest)) : W h k n pc Ls (.int z :: rest) := by
  obtain ⟨p, e, s, m, args, below, meth, c, ⟨hx, hby, hml, hown, hZ, hre, hlk, hnm⟩, rfl⟩ := C
  subst hp
  intro T locs k' n' q1 q2 X eT Nf
  have hnn : ¬ z < 0 := by rw [Int32.lt_iff_toInt_lt]; show ¬ z.toInt < 0; omega
  have hzn : z.toNatClampNeg = N := by show z.toInt.toNat = N; omega
  have hlt : N < 2 ^ 31 := by have := (rng32 z).2; omega
  obtain ⟨T', h', cA, X', e', E', A', B', st'⟩ := newPE X hx hZ (aty := .int) w eT (g := mkF m pc Ls (.int z :: rest)) rfl (hb hby hd) rfl hnn (cap := cap) (by omega) hb8 (by omega) (by omega) (ad := "[I") (by decide)
  have F : AI Z h' h.size (List.replicate N 0) := by
    refine ⟨_, A', ?_, by rw [List.length_replicate]; exact hlt⟩
    simp only [newA, hzn]
    apply Array.ext'
    simp [defaultValue, newarray.typeOf]
  obtain ⟨s2, o, st2, r⟩ := q h' _ rfl E' F B' T' locs (k' + 1) (n' + cap) (by omega) (by omega) X' e' Nf
  exact ⟨s2, o, st' _ st2, r⟩
theorem Ru.cloneAI (C : Ru l Z own code maxL ret nm R n0 G W) {a0 : Array Value} {i w cap : Nat} {a : Addr} {vs : List Int32}
    (w1 : (Cond.methodLink own i ⟨"[I", "clone", "()Ljava/lang/Object;"⟩).before a0 Z = true) (w2 : (Cond.sameMethod "[I" "java/lang/Object" "clone" "()Ljava/lang/Object;").before a0 Z = true) (w3 : (Cond.native ⟨"java/lang/Object", "clone", "()Ljava/lang/Object;"⟩).before a0 Z = true)
    (w4 : (Cond.instanceMethod ⟨"java/lang/Object", "clone", "()Ljava/lang/Object;"⟩).before a0 Z = true) (w5 : (Cond.selects "[I" ⟨"[I", "clone", "()Ljava/lang/Object;"⟩ ⟨"java/lang/Object", "clone", "()Ljava/lang/Object;"⟩).before a0 Z = true) (w6 : (Cond.castable "[I" "java/lang/Cloneable").before a0 Z = true)
    (F : AI Z h a vs) (E : Exa Z h a "[I") (hd : decode code pc = .ok (.invokevirtual i, 3)) (hp : pc + 3 = pc') (hs : Ls.size = maxL) (hf : 1 ≤ R.frames) (hw : wt rest ≤ w) (hl : w + 14 ≤ R.locals) (hcap : vs.length ≤ cap) (hk : k + 1 ≤ R.cells) (hn : n + cap ≤ R.slots)
    (q : ∀ h' b, b = h.size → Ext h h' → AI Z h' b vs → Exa Z h' b "[I" → W h' (k + 1) (n + cap) pc' Ls (.ref b :: rest)) : W h k n pc Ls (.ref a :: rest) := by
  obtain ⟨p, e, s, m, args, below, meth, c, ⟨hx, hby, hml, hown, hZ, hre, hlk, hnm⟩, rfl⟩ := C
  subst hp
  intro T locs k' n' q1 q2 X eT Nf
  obtain ⟨cl, A, es, hlen⟩ := F
  have hsz : cl.slots.size = vs.length := by rw [es]; simp
  have FC : FitC Z cl := fitC_of A fun j hj v hv => by
    rw [es] at hv
    simp only [List.getElem?_toArray, List.getElem?_map, Option.map_eq_some_iff] at hv
    obtain ⟨y, -, rfl⟩ := hv
    rfl
  obtain ⟨T', h', X', e', E', A', B', st'⟩ := cloneA X hx hZ hown w1 w2 w3 w4 w5 w6 eT A E FC (g := mkF m pc Ls (.ref a :: rest)) rfl (by rw [hml]; exact hs) rfl (hb hby hd) hf (W := w) (cap := cap) (by show 2 * 0 + _ ≤ _; simpa [wt] using hw) hl (by omega) (by omega) (by omega)
  obtain ⟨s2, o, st2, r⟩ := q h' _ rfl E' ⟨_, A', es, hlen⟩ B' T' locs (k' + 1) (n' + cap) (by omega) (by omega) X' e' Nf
  exact ⟨s2, o, st' _ st2, r⟩
/-! returns -/
theorem Ru.retV (C : Ru l Z own code maxL ret nm R n0 G W) (hr : ret = none) (hd : decode code pc = .ok (.return_, 1)) (hk : k ≤ R.cells) (hn : n ≤ R.slots) (q : G none h) : W h k n pc Ls [] := by
  obtain ⟨p, e, s, m, args, below, meth, c, ⟨hx, hby, hml, hown, hZ, hre, hlk, hnm⟩, rfl⟩ := C
  intro T locs k' n' q1 q2 X eT N
  obtain ⟨fs, hrr, hrun, hended, hW, hsame⟩ := X.leave (v := none) (fun _ => rfl)
  exact ⟨_, _, X.returnOut hx (hre.trans hr) (hb hby hd) hrr, hrun, hended, _, _, rfl, ⟨N, by show G none T.heap; rw [eT]; exact q⟩, ⟨_, rfl⟩, hW, hsame.mono (by omega) (by omega)⟩
theorem Ru.retI (C : Ru l Z own code maxL ret nm R n0 G W) {z : Int32} (hr : ret = some .int) (hd : decode code pc = .ok (.ireturn, 1)) (hk : k ≤ R.cells) (hn : n ≤ R.slots) (q : G (some (.int z)) h) : W h k n pc Ls (.int z :: rest) := by
  obtain ⟨p, e, s, m, args, below, meth, c, ⟨hx, hby, hml, hown, hZ, hre, hlk, hnm⟩, rfl⟩ := C
  intro T locs k' n' q1 q2 X eT N
  obtain ⟨fs, hrr, hrun, hended, hW, hsame⟩ := X.leave (v := some (.int z)) (fun h => by rw [hre, hr] at h; cases h)
  exact ⟨_, _, retOut X hx (hre.trans hr) rfl (Or.inl ⟨rfl, Or.inl rfl, z, rfl⟩) (hb hby hd) hrr, hrun, hended, _, _, rfl, ⟨N, by show G _ T.heap; rw [eT]; exact q⟩, ⟨_, rfl⟩, hW, hsame.mono (by omega) (by omega)⟩
theorem Ru.retZ (C : Ru l Z own code maxL ret nm R n0 G W) {z : Int32} (hr : ret = some .boolean) (hz : z = 0 ∨ z = 1) (hd : decode code pc = .ok (.ireturn, 1)) (hk : k ≤ R.cells) (hn : n ≤ R.slots) (q : G (some (.int z)) h) : W h k n pc Ls (.int z :: rest) := by
  obtain ⟨p, e, s, m, args, below, meth, c, ⟨hx, hby, hml, hown, hZ, hre, hlk, hnm⟩, rfl⟩ := C
  intro T locs k' n' q1 q2 X eT N
  obtain ⟨fs, hrr, hrun, hended, hW, hsame⟩ := X.leave (v := some (.int z)) (fun h => by rw [hre, hr] at h; cases h)
  have hnr : narrow .boolean (.int z) = .int z := by rcases hz with rfl | rfl <;> decide
  exact ⟨_, _, retOut X hx (hre.trans hr) hnr (Or.inl ⟨rfl, Or.inr (Or.inl rfl), z, rfl⟩) (hb hby hd) hrr, hrun, hended, _, _, rfl, ⟨N, by show G _ T.heap; rw [eT]; exact q⟩, ⟨_, rfl⟩, hW, hsame.mono (by omega) (by omega)⟩
theorem Ru.retJ (C : Ru l Z own code maxL ret nm R n0 G W) {z : Int64} (hr : ret = some .long) (hd : decode code pc = .ok (.lreturn, 1)) (hk : k ≤ R.cells) (hn : n ≤ R.slots) (q : G (some (.long z)) h) : W h k n pc Ls (.long z :: rest) := by
  obtain ⟨p, e, s, m, args, below, meth, c, ⟨hx, hby, hml, hown, hZ, hre, hlk, hnm⟩, rfl⟩ := C
  intro T locs k' n' q1 q2 X eT N
  obtain ⟨fs, hrr, hrun, hended, hW, hsame⟩ := X.leave (v := some (.long z)) (fun h => by rw [hre, hr] at h; cases h)
  exact ⟨_, _, retOut X hx (hre.trans hr) rfl (Or.inr (Or.inl ⟨rfl, rfl, z, rfl⟩)) (hb hby hd) hrr, hrun, hended, _, _, rfl, ⟨N, by show G _ T.heap; rw [eT]; exact q⟩, ⟨_, rfl⟩, hW, hsame.mono (by omega) (by omega)⟩
theorem Ru.retA (C : Ru l Z own code maxL ret nm R n0 G W) {a : Addr} {t : FieldType} (hr : ret = some t) (ht : t.isReference = true) (hd : decode code pc = .ok (.areturn, 1)) (hk : k ≤ R.cells) (hn : n ≤ R.slots) (q : G (some (.ref a)) h) : W h k n pc Ls (.ref a :: rest) := by
  obtain ⟨p, e, s, m, args, below, meth, c, ⟨hx, hby, hml, hown, hZ, hre, hlk, hnm⟩, rfl⟩ := C
  intro T locs k' n' q1 q2 X eT N
  obtain ⟨fs, hrr, hrun, hended, hW, hsame⟩ := X.leave (v := some (.ref a)) (fun h => by rw [hre, hr] at h; cases h)
  have hnr : narrow t (.ref a) = .ref a := by cases t <;> first | rfl | cases ht
  exact ⟨_, _, retOut X hx (hre.trans hr) hnr (Or.inr (Or.inr (Or.inr (Or.inr ⟨rfl, ht, rfl⟩)))) (hb hby hd) hrr, hrun, hended, _, _, rfl, ⟨N, by show G _ T.heap; rw [eT]; exact q⟩, ⟨_, rfl⟩, hW, hsame.mono (by omega) (by omega)⟩
end Steps
/-! kinds of results -/
def RI (P : Int32 → Heap → Prop) : Option Value → Heap → Prop := fun v h => ∃ r, v = some (.int r) ∧ P r h
def RJ (P : Int64 → Heap → Prop) : Option Value → Heap → Prop := fun v h => ∃ r, v = some (.long r) ∧ P r h
def RA (P : Addr → Heap → Prop) : Option Value → Heap → Prop := fun v h => ∃ r, v = some (.ref r) ∧ P r h
def RV (P : Heap → Prop) : Option Value → Heap → Prop := fun v h => v = none ∧ P h
theorem kI {P : Int32 → Heap → Prop} {W : WT} {k n pc : Nat} {Ls : Array Slot} {rest : List Value} (q : ∀ r h, P r h → W h k n pc Ls (.int r :: rest)) : ∀ v h, RI P v h → W h k n pc Ls (v.toList ++ rest) := by
  rintro _ h ⟨r, rfl, p⟩; exact q r h p
theorem kJ {P : Int64 → Heap → Prop} {W : WT} {k n pc : Nat} {Ls : Array Slot} {rest : List Value} (q : ∀ r h, P r h → W h k n pc Ls (.long r :: rest)) : ∀ v h, RJ P v h → W h k n pc Ls (v.toList ++ rest) := by
  rintro _ h ⟨r, rfl, p⟩; exact q r h p
theorem kA {P : Addr → Heap → Prop} {W : WT} {k n pc : Nat} {Ls : Array Slot} {rest : List Value} (q : ∀ r h, P r h → W h k n pc Ls (.ref r :: rest)) : ∀ v h, RA P v h → W h k n pc Ls (v.toList ++ rest) := by
  rintro _ h ⟨r, rfl, p⟩; exact q r h p
theorem kV {P : Heap → Prop} {W : WT} {k n pc : Nat} {Ls : Array Slot} {rest : List Value} (q : ∀ h, P h → W h k n pc Ls rest) : ∀ v h, RV P v h → W h k n pc Ls (v.toList ++ rest) := by
  rintro _ h ⟨rfl, p⟩; exact q h p
/-- the same, for a callee that leaves the heap as it was and returns just this -/
theorem kI0 {P : Int32 → Prop} {h0 : Heap} {W : WT} {k n pc : Nat} {Ls : Array Slot} {rest : List Value} (q : ∀ r, P r → W h0 k n pc Ls (.int r :: rest)) : ∀ v h, RI (fun r h => P r ∧ h = h0) v h → W h k n pc Ls (v.toList ++ rest) := by
  rintro _ h ⟨r, rfl, p, rfl⟩; exact q r p
theorem kJ0 {P : Int64 → Prop} {h0 : Heap} {W : WT} {k n pc : Nat} {Ls : Array Slot} {rest : List Value} (q : ∀ r, P r → W h0 k n pc Ls (.long r :: rest)) : ∀ v h, RJ (fun r h => P r ∧ h = h0) v h → W h k n pc Ls (v.toList ++ rest) := by
  rintro _ h ⟨r, rfl, p, rfl⟩; exact q r p
theorem kIe {x : Int32} {h0 : Heap} {W : WT} {k n pc : Nat} {Ls : Array Slot} {rest : List Value} (q : W h0 k n pc Ls (.int x :: rest)) : ∀ v h, RI (fun r h => r = x ∧ h = h0) v h → W h k n pc Ls (v.toList ++ rest) := by
  rintro _ h ⟨r, rfl, rfl, rfl⟩; exact q
theorem kJe {x : Int64} {h0 : Heap} {W : WT} {k n pc : Nat} {Ls : Array Slot} {rest : List Value} (q : W h0 k n pc Ls (.long x :: rest)) : ∀ v h, RJ (fun r h => r = x ∧ h = h0) v h → W h k n pc Ls (v.toList ++ rest) := by
  rintro _ h ⟨r, rfl, rfl, rfl⟩; exact q
theorem exaLt {Z : State} {h : Heap} {a : Addr} {C : String} (F : Exa Z h a C) : a < h.size := by obtain ⟨c, _, h1, -⟩ := F; exact (Array.getElem?_eq_some_iff.mp h1).1
end Jvm.OwnW

namespace Jvm.Pilot.@@N@@
open Jvm Jvm.ClassFile Sem Op Lib Jvm.Free Jvm.Stand Jvm.LawKit Jvm.RoadKit Bundle Jvm.Pilot.@@N@@.Jvm.D Jvm.OwnW
end Jvm.Pilot.@@N@@
namespace Jvm.OwnP
open Jvm.RoadKit
theorem nn_toInt {j : Int32} (h : ¬ j < 0) : j.toInt = (j.toInt.toNat : Int) := by
  rw [Int32.lt_iff_toInt_lt] at h
  have : ¬ j.toInt < 0 := h
  omega
theorem getD_some {α : Type} {vs : List α} {i : Nat} {d : α} (h : i < vs.length) : vs[i]? = some (vs.getD i d) := by
  rw [List.getD_eq_getElem?_getD, List.getElem?_eq_getElem h]; rfl
theorem and3 (c : Int32) : c &&& 3 = 0 ∨ c &&& 3 = 1 ∨ c &&& 3 = 2 ∨ c &&& 3 = 3 := by
  have m := c_mask c 3 2 (by decide) (by decide)
  have h : (c &&& 3).toInt = 0 ∨ (c &&& 3).toInt = 1 ∨ (c &&& 3).toInt = 2 ∨ (c &&& 3).toInt = 3 := by omega
  rcases h with h | h | h | h
  · exact Or.inl (Int32.toInt_inj.mp h)
  · exact Or.inr (Or.inl (Int32.toInt_inj.mp h))
  · exact Or.inr (Or.inr (Or.inl (Int32.toInt_inj.mp h)))
  · exact Or.inr (Or.inr (Or.inr (Int32.toInt_inj.mp h)))
theorem fill_step {α : Type} {L M : List α} {i : Nat} (hl : L.length = M.length) (h : ∀ j, j < i → L[j]? = M[j]?) {v : α} (hv : M[i]? = some v) : (L.set i v).length = M.length ∧ ∀ j, j < i + 1 → (L.set i v)[j]? = M[j]? := by
  have hi : i < L.length := by rw [hl]; exact (List.getElem?_eq_some_iff.mp hv).1
  refine ⟨by rw [List.length_set]; exact hl, fun j hj => ?_⟩
  by_cases e : j = i
  · subst e; rw [List.getElem?_set_self hi, hv]
  · rw [List.getElem?_set_ne (Ne.symm e)]; exact h j (by omega)
theorem fill_done {α : Type} {L M : List α} {i : Nat} (hl : L.length = M.length) (h : ∀ j, j < i → L[j]? = M[j]?) (hi : M.length ≤ i) : L = M := by
  apply List.ext_getElem?
  intro j
  by_cases e : j < i
  · exact h j e
  · rw [List.getElem?_eq_none (by omega), List.getElem?_eq_none (by omega)]
theorem lt_iff {x y : Int32} {a b : Nat} (hx : x.toInt = (a : Int)) (hy : y.toInt = (b : Int)) : x < y ↔ a < b := by
  rw [Int32.lt_iff_toInt_lt, hx, hy]; omega
theorem inc_toInt {x v : Int32} {a : Nat} (hx : x.toInt = (a : Int)) (h : a < 2147483647) (e : v = x + 1) : v.toInt = ((a + 1 : Nat) : Int) := by
  have s := c_iadd x 1; have b := rng32 (x + 1); have o : (1 : Int32).toInt = 1 := by decide
  rw [e]; omega
theorem narZ {x : Int32} (h : x = 0 ∨ x = 1) : Jvm.narrow .boolean (.int x) = .int x ∧ Jvm.fits .boolean (.int x) = true := by
  rcases h with rfl | rfl <;> exact ⟨by decide, by decide⟩
theorem rem3 {c : Int32} (h : ¬ c < 0) : c % 3 = 0 ∨ c % 3 = 1 ∨ c % 3 = 2 := by
  rw [Int32.lt_iff_toInt_lt] at h
  have h0 : ¬ c.toInt < 0 := h
  have m := (c_irem c 3 3 (by decide)).1 (by omega)
  have h : (c % 3).toInt = 0 ∨ (c % 3).toInt = 1 ∨ (c % 3).toInt = 2 := by omega
  rcases h with h | h | h
  · exact Or.inl (Int32.toInt_inj.mp h)
  · exact Or.inr (Or.inl (Int32.toInt_inj.mp h))
  · exact Or.inr (Or.inr (Int32.toInt_inj.mp h))
end Jvm.OwnP
namespace Jvm.Pilot.@@N@@
open Jvm Jvm.ClassFile Sem Op Lib Jvm.Free Jvm.Stand Jvm.LawKit Jvm.RoadKit Bundle Jvm.Pilot.@@N@@.Jvm.D Jvm.OwnW

def runV (vs : List Int64) (s : Int32) : Int64 := vs.getD (s / 8).toInt.toNat 0
theorem own_in {ss : List Int32} {vs : List Int64} (h : ∀ s, s ∈ ss → 0 ≤ s.toInt ∧ s.toInt / 8 < (vs.length : Int)) {i : Nat} (hi : i < ss.length) : ∃ s, ss[i]? = some s ∧ (s / 8).toInt = ((s / 8).toInt.toNat : Int) ∧ vs[(s / 8).toInt.toNat]? = some (runV vs s) ∧ (ss.map (runV vs))[i]? = some (runV vs s) := by
  have hm : ss[i] ∈ ss := List.getElem_mem hi
  obtain ⟨h1, h2⟩ := h _ hm
  have d := (c_idiv ss[i] 8 8 (by decide) (by decide)).1 h1
  refine ⟨ss[i], List.getElem?_eq_getElem hi, by omega, Jvm.OwnP.getD_some (by omega), ?_⟩
  rw [List.getElem?_map, List.getElem?_eq_getElem hi]; rfl

theorem own_n {p v : Int32} (e : v = (p &&& 7) % 5) : v = 0 ∨ v = 1 ∨ v = 2 ∨ v = 3 ∨ v = 4 := by
  have m := c_mask p 7 3 (by decide) (by decide)
  have r := (c_irem (p &&& 7) 5 5 (by decide)).1 (by omega)
  rw [← e] at r
  have h : v.toInt = 0 ∨ v.toInt = 1 ∨ v.toInt = 2 ∨ v.toInt = 3 ∨ v.toInt = 4 := by omega
  rcases h with h | h | h | h | h
  · exact Or.inl (Int32.toInt_inj.mp h)
  · exact Or.inr (Or.inl (Int32.toInt_inj.mp h))
  · exact Or.inr (Or.inr (Or.inl (Int32.toInt_inj.mp h)))
  · exact Or.inr (Or.inr (Or.inr (Or.inl (Int32.toInt_inj.mp h))))
  · exact Or.inr (Or.inr (Or.inr (Or.inr (Int32.toInt_inj.mp h))))
theorem own_m {p v : Int32} (e : v = p &&& 3) : v = 0 ∨ v = 1 ∨ v = 2 ∨ v = 3 := by rw [e]; exact Jvm.OwnP.and3 p
theorem own_pk {a b c d : Int64} {p v : Int32} (e : v = p &&& 3) : runV [a, b, c, d] (v * 8) = (if v = 0 then a else if v = 1 then b else if v = 2 then c else d) := by
  rcases own_m e with rfl | rfl | rfl | rfl <;> rfl
theorem own_rng {p v : Int32} (e : v = p &&& 3) : 0 ≤ (v * 8).toInt ∧ (v * 8).toInt / 8 < 4 := by
  rcases own_m e with rfl | rfl | rfl | rfl <;> decide

theorem od1_0 : decode prog_45_method_11_code 0 = .ok (.aload_n 1, 1) := by decide +kernel
theorem od1_1 : decode prog_45_method_11_code 1 = .ok (.arraylength, 1) := by decide +kernel
theorem ow0 {a0 : Array Value} {Z : State} (hw : ∀ d ∈ tables_1, d.before a0 Z = true) : (Jvm.Cond.arrayClass Jvm.ClassFile.FieldType.long).before a0 Z = true := hw _ (List.mem_of_getElem? (i := 0) rfl)
theorem od1_2 : decode prog_45_method_11_code 2 = .ok (.newarray .long, 2) := by decide +kernel
theorem od1_4 : decode prog_45_method_11_code 4 = .ok (.astore_n 2, 1) := by decide +kernel
theorem od1_5 : decode prog_45_method_11_code 5 = .ok (.iconst 0, 1) := by decide +kernel
theorem od1_6 : decode prog_45_method_11_code 6 = .ok (.istore_n 3, 1) := by decide +kernel
theorem od1_7 : decode prog_45_method_11_code 7 = .ok (.iload_n 3, 1) := by decide +kernel
theorem od1_8 : decode prog_45_method_11_code 8 = .ok (.aload_n 1, 1) := by decide +kernel
theorem od1_9 : decode prog_45_method_11_code 9 = .ok (.arraylength, 1) := by decide +kernel
theorem od1_10 : decode prog_45_method_11_code 10 = .ok (.if_icmp .ge 20, 3) := by decide +kernel
theorem od1_30 : decode prog_45_method_11_code 30 = .ok (.aload_n 2, 1) := by decide +kernel
theorem od1_31 : decode prog_45_method_11_code 31 = .ok (.areturn, 1) := by decide +kernel
theorem od1_13 : decode prog_45_method_11_code 13 = .ok (.aload_n 2, 1) := by decide +kernel
theorem od1_14 : decode prog_45_method_11_code 14 = .ok (.iload_n 3, 1) := by decide +kernel
theorem od1_15 : decode prog_45_method_11_code 15 = .ok (.aload_n 0, 1) := by decide +kernel
theorem od1_16 : decode prog_45_method_11_code 16 = .ok (.aload_n 1, 1) := by decide +kernel
theorem od1_17 : decode prog_45_method_11_code 17 = .ok (.iload_n 3, 1) := by decide +kernel
theorem od1_18 : decode prog_45_method_11_code 18 = .ok (.iaload, 1) := by decide +kernel
theorem od1_19 : decode prog_45_method_11_code 19 = .ok (.bipush 8, 2) := by decide +kernel
theorem od1_21 : decode prog_45_method_11_code 21 = .ok (.idiv, 1) := by decide +kernel
theorem od1_22 : decode prog_45_method_11_code 22 = .ok (.laload, 1) := by decide +kernel
theorem od1_23 : decode prog_45_method_11_code 23 = .ok (.lastore, 1) := by decide +kernel
theorem od1_24 : decode prog_45_method_11_code 24 = .ok (.iinc 3 1, 3) := by decide +kernel
theorem od1_27 : decode prog_45_method_11_code 27 = .ok (.goto (-20), 3) := by decide +kernel
theorem ef_own_rm1 (m : MethodId) (x0 : Addr) (x1 : Addr) : entryFrame m #[(.ref x0), (.ref x1)] 4 = mkF m 0 #[.val (.ref x0), .val (.ref x1), .unset, .unset] [] := by first | (simp [entryFrame, mkF, argsToLocals, Value.category]; done) | rfl
theorem pn_com_example_cobradora_cobradora_EightBytes_ofRuns___J_I__J : plainFor (⟨"com/example/cobradora/cobradora/EightBytes", "ofRuns", "([J[I)[J"⟩ : MethodName) = true := plainFor_of_name (by first | (simp [plainName, overriddenIn]; done) | decide +kernel)
set_option maxRecDepth 65536 in
set_option maxHeartbeats 40000000 in
theorem own_rm1 (l : Launch) (Z : State) (a0 : Array Value) (hw : ∀ d ∈ tables_1, d.before a0 Z = true) (n0 : Nat) (hO : Heap) (a : Addr) (b : Addr) (vs : List Int64) (ss : List Int32) (z : Int32) (Z0 : n0 ≤ hO.size) (A_a : AJ Z hO a vs) (A_b : AI Z hO b ss) (hz : z.toInt = (ss.length : Int)) (hcap : ss.length ≤ 4) (hss : ∀ s, s ∈ ss → 0 ≤ s.toInt ∧ s.toInt / 8 < (vs.length : Int)) :
    MeetsW l Z n0 (⟨"com/example/cobradora/cobradora/EightBytes", "ofRuns", "([J[I)[J"⟩ : MethodName) prog_45_method_11_code 4 (some (.array .long)) ({ frames := 0, cells := 1, slots := 4, locals := 0 } : Room) #[(.ref a), (.ref b)] hO (RA fun r h => Keep hO h [] ∧ hO.size ≤ r ∧ AJ Z h r (ss.map (runV vs))) := by
  refine MeetsW.intro pn_com_example_cobradora_cobradora_EightBytes_ofRuns___J_I__J (fun m => ef_own_rm1 m a b) ?_
  intro W C
  replace C : Ru l Z "com/example/cobradora/cobradora/EightBytes" prog_45_method_11_code 4 (some (.array .long)) "ofRuns" ({ frames := 0, cells := 1, slots := 4, locals := 0 } : Room) n0 (RA fun r h => Keep hO h [] ∧ hO.size ≤ r ∧ AJ Z h r (ss.map (runV vs))) W := C
  have K : Keep hO hO [] := Keep.refl _ _
  refine C.aloadN (pc' := 1) od1_0 rfl rfl rfl ?_
  refine C.lenAI (z := z) A_b hz (pc' := 2) od1_1 rfl ?_
  refine C.newAJ (N := ss.length) (cap := 4) (ow0 hw) (pc' := 4) od1_2 rfl hz hcap (by decide) (by decide) (by decide) (fun h2 b2 hb2 X2 A_b2 => ?_)
  have ne_a_b2 : a ≠ b2 := by rw [hb2]; exact Nat.ne_of_lt A_a.lt
  have ne_b_b2 : b ≠ b2 := by rw [hb2]; exact Nat.ne_of_lt A_b.lt
  have sz_b2 : hO.size ≤ b2 := by rw [hb2]; exact K.1
  have g_b2 : n0 ≤ b2 := Nat.le_trans Z0 sz_b2
  replace A_a := A_a.ext X2
  replace A_b := A_b.ext X2
  replace K := K.ext X2
  refine C.astoreN (l' := #[.val (.ref a), .val (.ref b), .val (.ref b2), .unset]) (pc' := 5) od1_4 rfl rfl rfl ?_
  refine C.iconst (v := 0) (pc' := 6) od1_5 rfl rfl ?_
  refine C.istoreNX (l' := #[.val (.ref a), .val (.ref b), .val (.ref b2), .val (.int (0 : Int32))]) (pc' := 7) od1_6 rfl rfl ?_
  have loop : ∀ (n i : Nat) (iv : Int32) (hl : Heap) (L : List Int64), iv.toInt = (i : Int) → i + n = ss.length → L.length = (ss.map (runV vs)).length → (∀ j, j < i → L[j]? = (ss.map (runV vs))[j]?) → Keep hO hl [] → AJ Z hl a vs → AI Z hl b ss → AJ Z hl b2 L → W hl 1 4 7 #[.val (.ref a), .val (.ref b), .val (.ref b2), .val (.int iv)] [] := by
    intro n
    induction n with
    | zero =>
      intro i iv hl L hi hn hl0 hL K A_a A_b A_b2
      have hM := Jvm.OwnP.fill_done hl0 hL (by rw [List.length_map]; omega)
      subst hM
      refine C.iloadN (pc' := 8) od1_7 rfl rfl ?_
      refine C.aloadN (pc' := 9) od1_8 rfl rfl rfl ?_
      refine C.lenAI (z := z) A_b hz (pc' := 10) od1_9 rfl ?_
      refine C.icmp_ge (pc' := 13) (pt := 30) od1_10 rfl rfl (fun c10 => ?_) (fun c10 => absurd c10 (fun q => by have := (Jvm.OwnP.lt_iff hi hz).mp q; omega))
      refine C.aloadN (pc' := 31) od1_30 rfl rfl rfl ?_
      refine C.retA rfl rfl od1_31 (by decide) (by decide) ⟨_, rfl, ?_⟩
      exact ⟨K, sz_b2, A_b2⟩
    | succ n ih =>
      intro i iv hl L hi hn hl0 hL K A_a A_b A_b2
      have hlt : i < ss.length := by omega
      obtain ⟨s, hs, hsd, hvs, hms⟩ := own_in hss hlt
      refine C.iloadN (pc' := 8) od1_7 rfl rfl ?_
      refine C.aloadN (pc' := 9) od1_8 rfl rfl rfl ?_
      refine C.lenAI (z := z) A_b hz (pc' := 10) od1_9 rfl ?_
      refine C.icmp_ge (pc' := 13) (pt := 30) od1_10 rfl rfl (fun c10 => absurd ((Jvm.OwnP.lt_iff hi hz).mpr hlt) c10) (fun c10 => ?_)
      refine C.aloadN (pc' := 14) od1_13 rfl rfl rfl ?_
      refine C.iloadN (pc' := 15) od1_14 rfl rfl ?_
      refine C.aloadN (pc' := 16) od1_15 rfl rfl rfl ?_
      refine C.aloadN (pc' := 17) od1_16 rfl rfl rfl ?_
      refine C.iloadN (pc' := 18) od1_17 rfl rfl ?_
      refine C.ldAI (i := i) (v := s) A_b hi hs (pc' := 19) od1_18 rfl ?_
      refine C.bipush (v := 8) (pc' := 21) od1_19 rfl rfl ?_
      refine C.idiv (pc' := 22) od1_21 rfl (by decide) ?_
      refine C.ldAJ (i := (s / 8).toInt.toNat) (v := (runV vs s)) A_a hsd hvs (pc' := 23) od1_22 rfl ?_
      refine C.stAJ (i := i) A_b2 hi (by rw [hl0, List.length_map]; exact hlt) g_b2 (pc' := 24) od1_23 rfl (fun h23 X23 B23 => ?_)
      replace A_a := A_a.other X23 ne_a_b2
      replace A_b := A_b.other X23 ne_b_b2
      have A_b2 : AJ Z h23 b2 (L.set i (runV vs s)) := B23
      replace K := K.wr X23 (Or.inr sz_b2)
      refine C.iinc (d := 1) (f := fun v_ => #[.val (.ref a), .val (.ref b), .val (.ref b2), .val (.int v_)]) (pc' := 27) od1_24 rfl rfl rfl (fun _ => rfl) (fun v24 e24 => ?_)
      refine C.goto (pc' := 7) od1_27 rfl ?_
      exact ih (i + 1) v24 _ _ (Jvm.OwnP.inc_toInt hi (by omega) e24) (by omega) (Jvm.OwnP.fill_step hl0 hL hms).1 (Jvm.OwnP.fill_step hl0 hL hms).2 K A_a A_b A_b2
  exact loop ss.length 0 _ _ _ rfl (by omega) (by rw [List.length_replicate, List.length_map]) (fun j hj => absurd hj (by omega)) K A_a A_b A_b2
theorem od2_0 : decode method_2_code 0 = .ok (.iload 8, 2) := by decide +kernel
theorem od2_2 : decode method_2_code 2 = .ok (.ifCond .ne 5, 3) := by decide +kernel
theorem od2_7 : decode method_2_code 7 = .ok (.iload 8, 2) := by decide +kernel
theorem od2_9 : decode method_2_code 9 = .ok (.iconst 1, 1) := by decide +kernel
theorem od2_10 : decode method_2_code 10 = .ok (.if_icmp .ne 5, 3) := by decide +kernel
theorem od2_15 : decode method_2_code 15 = .ok (.iload 8, 2) := by decide +kernel
theorem od2_17 : decode method_2_code 17 = .ok (.iconst 2, 1) := by decide +kernel
theorem od2_18 : decode method_2_code 18 = .ok (.if_icmp .ne 6, 3) := by decide +kernel
theorem od2_24 : decode method_2_code 24 = .ok (.lload 6, 2) := by decide +kernel
theorem od2_26 : decode method_2_code 26 = .ok (.lreturn, 1) := by decide +kernel
theorem od2_21 : decode method_2_code 21 = .ok (.lload 4, 2) := by decide +kernel
theorem od2_23 : decode method_2_code 23 = .ok (.lreturn, 1) := by decide +kernel
theorem od2_13 : decode method_2_code 13 = .ok (.lload_n 2, 1) := by decide +kernel
theorem od2_14 : decode method_2_code 14 = .ok (.lreturn, 1) := by decide +kernel
theorem od2_5 : decode method_2_code 5 = .ok (.lload_n 0, 1) := by decide +kernel
theorem od2_6 : decode method_2_code 6 = .ok (.lreturn, 1) := by decide +kernel
theorem ef_own_rm2 (m : MethodId) (x0 : Int64) (x1 : Int64) (x2 : Int64) (x3 : Int64) (x4 : Int32) : entryFrame m #[(.long x0), (.long x1), (.long x2), (.long x3), (.int x4)] 9 = mkF m 0 #[.val (.long x0), .second, .val (.long x1), .second, .val (.long x2), .second, .val (.long x3), .second, .val (.int x4)] [] := by first | (simp [entryFrame, mkF, argsToLocals, Value.category]; done) | rfl
theorem pn_com_example_cobradora_cobradora_EightBytesOfRunsPinLaw_pick__JJJJI_J : plainFor (⟨"com/example/cobradora/cobradora/EightBytesOfRunsPinLaw", "pick", "(JJJJI)J"⟩ : MethodName) = true := plainFor_of_name (by first | (simp [plainName, overriddenIn]; done) | decide +kernel)
set_option maxRecDepth 65536 in
set_option maxHeartbeats 40000000 in
theorem own_rm2 (l : Launch) (Z : State) (a0 : Array Value) (hw : ∀ d ∈ tables_1, d.before a0 Z = true) (n0 : Nat) (hO : Heap) (x0 : Int64) (x1 : Int64) (x2 : Int64) (x3 : Int64) (j : Int32) :
    MeetsW l Z n0 (⟨"com/example/cobradora/cobradora/EightBytesOfRunsPinLaw", "pick", "(JJJJI)J"⟩ : MethodName) method_2_code 9 (some .long) ({ frames := 0, cells := 0, slots := 0, locals := 0 } : Room) #[(.long x0), (.long x1), (.long x2), (.long x3), (.int j)] hO (RJ fun r h => r = (if j = 0 then x0 else if j = 1 then x1 else if j = 2 then x2 else x3) ∧ h = hO) := by
  refine MeetsW.intro pn_com_example_cobradora_cobradora_EightBytesOfRunsPinLaw_pick__JJJJI_J (fun m => ef_own_rm2 m x0 x1 x2 x3 j) ?_
  intro W C
  replace C : Ru l Z "com/example/cobradora/cobradora/EightBytesOfRunsPinLaw" method_2_code 9 (some .long) "pick" ({ frames := 0, cells := 0, slots := 0, locals := 0 } : Room) n0 (RJ fun r h => r = (if j = 0 then x0 else if j = 1 then x1 else if j = 2 then x2 else x3) ∧ h = hO) W := C
  refine C.iload (pc' := 2) od2_0 rfl rfl ?_
  refine C.if_ne (pc' := 5) (pt := 7) od2_2 rfl rfl (fun c2 => ?_) (fun c2 => ?_)
  · skip
    refine C.iload (pc' := 9) od2_7 rfl rfl ?_
    refine C.iconst (v := 1) (pc' := 10) od2_9 rfl rfl ?_
    refine C.icmp_ne (pc' := 13) (pt := 15) od2_10 rfl rfl (fun c10 => ?_) (fun c10 => ?_)
    · skip
      refine C.iload (pc' := 17) od2_15 rfl rfl ?_
      refine C.iconst (v := 2) (pc' := 18) od2_17 rfl rfl ?_
      refine C.icmp_ne (pc' := 21) (pt := 24) od2_18 rfl rfl (fun c18 => ?_) (fun c18 => ?_)
      · skip
        refine C.lload (pc' := 26) od2_24 rfl rfl ?_
        refine C.retJ rfl od2_26 (by decide) (by decide) ⟨_, rfl, ?_⟩
        exact ⟨by simp [c2, c10, c18], rfl⟩
      · skip
        refine C.lload (pc' := 23) od2_21 rfl rfl ?_
        refine C.retJ rfl od2_23 (by decide) (by decide) ⟨_, rfl, ?_⟩
        exact ⟨by simp [c2, c10, c18], rfl⟩
    · skip
      refine C.lloadN (pc' := 14) od2_13 rfl rfl ?_
      refine C.retJ rfl od2_14 (by decide) (by decide) ⟨_, rfl, ?_⟩
      exact ⟨by simp [c2, c10], rfl⟩
  · skip
    refine C.lloadN (pc' := 6) od2_5 rfl rfl ?_
    refine C.retJ rfl od2_6 (by decide) (by decide) ⟨_, rfl, ?_⟩
    exact ⟨by simp [c2], rfl⟩
theorem ow1 {a0 : Array Value} {Z : State} (hw : ∀ d ∈ tables_1, d.before a0 Z = true) : (Jvm.Cond.arrayClass Jvm.ClassFile.FieldType.int).before a0 Z = true := hw _ (List.mem_of_getElem? (i := 1) rfl)
theorem pd___J_I__J : parseMethodDescriptor "([J[I)[J" = some ⟨[(.array .long), (.array .int)], some (.array .long)⟩ := by decide +kernel
theorem ow5 {a0 : Array Value} {Z : State} (hw : ∀ d ∈ tables_1, d.before a0 Z = true) : (Jvm.Cond.code ({ cls := "com/example/cobradora/cobradora/EightBytes", name := "ofRuns", desc := "([J[I)[J" } : Jvm.MethodName) prog_45_method_11_code (4 : Nat) (Option.some (Jvm.ClassFile.FieldType.array Jvm.ClassFile.FieldType.long))).before a0 Z = true := hw _ (List.mem_of_getElem? (i := 5) rfl)
theorem ow4 {a0 : Array Value} {Z : State} (hw : ∀ d ∈ tables_1, d.before a0 Z = true) : (Jvm.Cond.initialized "com/example/cobradora/cobradora/EightBytes").before a0 Z = true := hw _ (List.mem_of_getElem? (i := 4) rfl)
theorem ow2 {a0 : Array Value} {Z : State} (hw : ∀ d ∈ tables_1, d.before a0 Z = true) : (Jvm.Cond.methodLink "com/example/cobradora/cobradora/EightBytesOfRunsPinLaw" (7 : Nat) ({ cls := "com/example/cobradora/cobradora/EightBytes", name := "ofRuns", desc := "([J[I)[J" } : Jvm.MethodName)).before a0 Z = true := hw _ (List.mem_of_getElem? (i := 2) rfl)
theorem ow3 {a0 : Array Value} {Z : State} (hw : ∀ d ∈ tables_1, d.before a0 Z = true) : (Jvm.Cond.static ({ cls := "com/example/cobradora/cobradora/EightBytes", name := "ofRuns", desc := "([J[I)[J" } : Jvm.MethodName)).before a0 Z = true := hw _ (List.mem_of_getElem? (i := 3) rfl)
theorem pd__JJJJI_J : parseMethodDescriptor "(JJJJI)J" = some ⟨[.long, .long, .long, .long, .int], some .long⟩ := by decide +kernel
theorem ow9 {a0 : Array Value} {Z : State} (hw : ∀ d ∈ tables_1, d.before a0 Z = true) : (Jvm.Cond.code ({ cls := "com/example/cobradora/cobradora/EightBytesOfRunsPinLaw", name := "pick", desc := "(JJJJI)J" } : Jvm.MethodName) method_2_code (9 : Nat) (Option.some Jvm.ClassFile.FieldType.long)).before a0 Z = true := hw _ (List.mem_of_getElem? (i := 9) rfl)
theorem ow8 {a0 : Array Value} {Z : State} (hw : ∀ d ∈ tables_1, d.before a0 Z = true) : (Jvm.Cond.initialized "com/example/cobradora/cobradora/EightBytesOfRunsPinLaw").before a0 Z = true := hw _ (List.mem_of_getElem? (i := 8) rfl)
theorem ow6 {a0 : Array Value} {Z : State} (hw : ∀ d ∈ tables_1, d.before a0 Z = true) : (Jvm.Cond.methodLink "com/example/cobradora/cobradora/EightBytesOfRunsPinLaw" (13 : Nat) ({ cls := "com/example/cobradora/cobradora/EightBytesOfRunsPinLaw", name := "pick", desc := "(JJJJI)J" } : Jvm.MethodName)).before a0 Z = true := hw _ (List.mem_of_getElem? (i := 6) rfl)
theorem ow7 {a0 : Array Value} {Z : State} (hw : ∀ d ∈ tables_1, d.before a0 Z = true) : (Jvm.Cond.static ({ cls := "com/example/cobradora/cobradora/EightBytesOfRunsPinLaw", name := "pick", desc := "(JJJJI)J" } : Jvm.MethodName)).before a0 Z = true := hw _ (List.mem_of_getElem? (i := 7) rfl)
theorem ef_own_rm0 (m : MethodId) (x0 : Int64) (x1 : Int64) (x2 : Int64) (x3 : Int64) (x4 : Int32) : entryFrame m #[(.long x0), (.long x1), (.long x2), (.long x3), (.int x4)] maxLocals = mkF m 0 #[.val (.long x0), .second, .val (.long x1), .second, .val (.long x2), .second, .val (.long x3), .second, .val (.int x4), .unset, .unset, .unset, .unset, .unset, .unset, .unset, .unset] [] := by first | (simp [entryFrame, mkF, argsToLocals, Value.category, maxLocals]; done) | rfl
theorem pn_com_example_cobradora_cobradora_EightBytesOfRunsPinLaw_law__JJJJI_Z : plainFor (⟨"com/example/cobradora/cobradora/EightBytesOfRunsPinLaw", "law", "(JJJJI)Z"⟩ : MethodName) = true := plainFor_of_name (by first | (simp [plainName, overriddenIn]; done) | decide +kernel)
set_option maxRecDepth 65536 in
set_option maxHeartbeats 40000000 in
theorem own_rm0 (l : Launch) (Z : State) (a0 : Array Value) (hw : ∀ d ∈ tables_1, d.before a0 Z = true) (n0 : Nat) (hO : Heap) (p1 : Int64) (p2 : Int64) (p3 : Int64) (p4 : Int64) (p5 : Int32) (Z0 : n0 ≤ hO.size) :
    MeetsW l Z n0 x code maxLocals ret room_1 #[(.long p1), (.long p2), (.long p3), (.long p4), (.int p5)] hO (RI fun r h => r = 1) := by
  refine MeetsW.intro (show plainFor x = true from pn_com_example_cobradora_cobradora_EightBytesOfRunsPinLaw_law__JJJJI_Z) (fun m => ef_own_rm0 m p1 p2 p3 p4 p5) ?_
  intro W C
  replace C : Ru l Z "com/example/cobradora/cobradora/EightBytesOfRunsPinLaw" code maxLocals ret "law" room_1 n0 (RI fun r h => r = 1) W := C
  have K : Keep hO hO [] := Keep.refl _ _
  refine C.iload (pc' := 2) at_0 rfl rfl ?_
  refine C.bipush (v := 7) (pc' := 4) at_2 rfl rfl ?_
  refine C.iand (pc' := 5) at_4 rfl ?_
  refine C.iconst (v := 5) (pc' := 6) at_5 rfl rfl ?_
  refine C.irem (pc' := 7) at_6 rfl (by decide) ?_
  refine C.istore (f := fun v_ => #[.val (.long p1), .second, .val (.long p2), .second, .val (.long p3), .second, .val (.long p4), .second, .val (.int p5), .val (.int v_), .unset, .unset, .unset, .unset, .unset, .unset, .unset]) (pc' := 9) at_7 rfl (fun _ => rfl) (fun v7 e7 => ?_)
  refine C.iload (pc' := 11) at_9 rfl rfl ?_
  refine C.iconst (v := 3) (pc' := 12) at_11 rfl rfl ?_
  refine C.iushr (s := 3) (pc' := 13) at_12 rfl (by decide) ?_
  refine C.iconst (v := 3) (pc' := 14) at_13 rfl rfl ?_
  refine C.iand (pc' := 15) at_14 rfl ?_
  refine C.istore (f := fun v_ => #[.val (.long p1), .second, .val (.long p2), .second, .val (.long p3), .second, .val (.long p4), .second, .val (.int p5), .val (.int v7), .val (.int v_), .unset, .unset, .unset, .unset, .unset, .unset]) (pc' := 17) at_15 rfl (fun _ => rfl) (fun v15 e15 => ?_)
  refine C.iload (pc' := 19) at_17 rfl rfl ?_
  refine C.iconst (v := 5) (pc' := 20) at_19 rfl rfl ?_
  refine C.iushr (s := 5) (pc' := 21) at_20 rfl (by decide) ?_
  refine C.iconst (v := 3) (pc' := 22) at_21 rfl rfl ?_
  refine C.iand (pc' := 23) at_22 rfl ?_
  refine C.istore (f := fun v_ => #[.val (.long p1), .second, .val (.long p2), .second, .val (.long p3), .second, .val (.long p4), .second, .val (.int p5), .val (.int v7), .val (.int v15), .val (.int v_), .unset, .unset, .unset, .unset, .unset]) (pc' := 25) at_23 rfl (fun _ => rfl) (fun v23 e23 => ?_)
  refine C.iload (pc' := 27) at_25 rfl rfl ?_
  refine C.bipush (v := 7) (pc' := 29) at_27 rfl rfl ?_
  refine C.iushr (s := 7) (pc' := 30) at_29 rfl (by decide) ?_
  refine C.iconst (v := 3) (pc' := 31) at_30 rfl rfl ?_
  refine C.iand (pc' := 32) at_31 rfl ?_
  refine C.istore (f := fun v_ => #[.val (.long p1), .second, .val (.long p2), .second, .val (.long p3), .second, .val (.long p4), .second, .val (.int p5), .val (.int v7), .val (.int v15), .val (.int v23), .val (.int v_), .unset, .unset, .unset, .unset]) (pc' := 34) at_32 rfl (fun _ => rfl) (fun v32 e32 => ?_)
  refine C.iload (pc' := 36) at_34 rfl rfl ?_
  refine C.bipush (v := 9) (pc' := 38) at_36 rfl rfl ?_
  refine C.iushr (s := 9) (pc' := 39) at_38 rfl (by decide) ?_
  refine C.iconst (v := 3) (pc' := 40) at_39 rfl rfl ?_
  refine C.iand (pc' := 41) at_40 rfl ?_
  refine C.istore (f := fun v_ => #[.val (.long p1), .second, .val (.long p2), .second, .val (.long p3), .second, .val (.long p4), .second, .val (.int p5), .val (.int v7), .val (.int v15), .val (.int v23), .val (.int v32), .val (.int v_), .unset, .unset, .unset]) (pc' := 43) at_41 rfl (fun _ => rfl) (fun v41 e41 => ?_)
  rcases own_n e7 with q7 | q7 | q7 | q7 | q7
  · subst q7
    refine C.iconst (v := 4) (pc' := 44) at_43 rfl rfl ?_
    refine C.newAJ (N := 4) (cap := 4) (ow0 hw) (pc' := 46) at_44 rfl (by decide) (by decide) (by decide) (by decide) (by decide) (fun h44 b44 hb44 X44 A_b44 => ?_)
    have sz_b44 : hO.size ≤ b44 := by rw [hb44]; exact K.1
    have g_b44 : n0 ≤ b44 := Nat.le_trans Z0 sz_b44
    replace K := K.ext X44
    replace A_b44 : AJ Z h44 b44 [(0 : Int64), (0 : Int64), (0 : Int64), (0 : Int64)] := A_b44
    refine C.dup (pc' := 47) at_46 rfl rfl ?_
    refine C.iconst (v := 0) (pc' := 48) at_47 rfl rfl ?_
    refine C.lloadN (pc' := 49) at_48 rfl rfl ?_
    refine C.stAJ (i := 0) A_b44 (by decide) (by show 0 < 4; decide) g_b44 (pc' := 50) at_49 rfl (fun h49 X49 B49 => ?_)
    have A_b44 : AJ Z h49 b44 [p1, (0 : Int64), (0 : Int64), (0 : Int64)] := B49
    replace K := K.wr X49 (Or.inr sz_b44)
    refine C.dup (pc' := 51) at_50 rfl rfl ?_
    refine C.iconst (v := 1) (pc' := 52) at_51 rfl rfl ?_
    refine C.lloadN (pc' := 53) at_52 rfl rfl ?_
    refine C.stAJ (i := 1) A_b44 (by decide) (by show 1 < 4; decide) g_b44 (pc' := 54) at_53 rfl (fun h53 X53 B53 => ?_)
    have A_b44 : AJ Z h53 b44 [p1, p2, (0 : Int64), (0 : Int64)] := B53
    replace K := K.wr X53 (Or.inr sz_b44)
    refine C.dup (pc' := 55) at_54 rfl rfl ?_
    refine C.iconst (v := 2) (pc' := 56) at_55 rfl rfl ?_
    refine C.lload (pc' := 58) at_56 rfl rfl ?_
    refine C.stAJ (i := 2) A_b44 (by decide) (by show 2 < 4; decide) g_b44 (pc' := 59) at_58 rfl (fun h58 X58 B58 => ?_)
    have A_b44 : AJ Z h58 b44 [p1, p2, p3, (0 : Int64)] := B58
    replace K := K.wr X58 (Or.inr sz_b44)
    refine C.dup (pc' := 60) at_59 rfl rfl ?_
    refine C.iconst (v := 3) (pc' := 61) at_60 rfl rfl ?_
    refine C.lload (pc' := 63) at_61 rfl rfl ?_
    refine C.stAJ (i := 3) A_b44 (by decide) (by show 3 < 4; decide) g_b44 (pc' := 64) at_63 rfl (fun h63 X63 B63 => ?_)
    have A_b44 : AJ Z h63 b44 [p1, p2, p3, p4] := B63
    replace K := K.wr X63 (Or.inr sz_b44)
    refine C.astore (l' := #[.val (.long p1), .second, .val (.long p2), .second, .val (.long p3), .second, .val (.long p4), .second, .val (.int p5), .val (.int (0 : Int32)), .val (.int v15), .val (.int v23), .val (.int v32), .val (.int v41), .val (.ref b44), .unset, .unset]) (pc' := 66) at_64 rfl rfl rfl ?_
    refine C.iload (pc' := 68) at_66 rfl rfl ?_
    refine C.newAI (N := 0) (cap := 0) (ow1 hw) (pc' := 70) at_68 rfl (by decide) (by decide) (by decide) (by decide) (by decide) (fun h68 b68 hb68 X68 A_b68 => ?_)
    have ne_b44_b68 : b44 ≠ b68 := by rw [hb68]; exact Nat.ne_of_lt A_b44.lt
    have sz_b68 : hO.size ≤ b68 := by rw [hb68]; exact K.1
    have g_b68 : n0 ≤ b68 := Nat.le_trans Z0 sz_b68
    replace A_b44 := A_b44.ext X68
    replace K := K.ext X68
    replace A_b68 : AI Z h68 b68 [] := A_b68
    refine C.astore (l' := #[.val (.long p1), .second, .val (.long p2), .second, .val (.long p3), .second, .val (.long p4), .second, .val (.int p5), .val (.int (0 : Int32)), .val (.int v15), .val (.int v23), .val (.int v32), .val (.int v41), .val (.ref b44), .val (.ref b68), .unset]) (pc' := 72) at_70 rfl rfl rfl ?_
    refine C.iload (pc' := 74) at_72 rfl rfl ?_
    refine C.if_le (pc' := 77) (pt := 86) at_74 rfl rfl (fun c74 => ?_) (fun c74 => absurd c74 (by decide))
    refine C.iload (pc' := 88) at_86 rfl rfl ?_
    refine C.iconst (v := 1) (pc' := 89) at_88 rfl rfl ?_
    refine C.icmp_le (pc' := 92) (pt := 101) at_89 rfl rfl (fun c89 => ?_) (fun c89 => absurd c89 (by decide))
    refine C.iload (pc' := 103) at_101 rfl rfl ?_
    refine C.iconst (v := 2) (pc' := 104) at_103 rfl rfl ?_
    refine C.icmp_le (pc' := 107) (pt := 116) at_104 rfl rfl (fun c104 => ?_) (fun c104 => absurd c104 (by decide))
    refine C.iload (pc' := 118) at_116 rfl rfl ?_
    refine C.iconst (v := 3) (pc' := 119) at_118 rfl rfl ?_
    refine C.icmp_le (pc' := 122) (pt := 131) at_119 rfl rfl (fun c119 => ?_) (fun c119 => absurd c119 (by decide))
    refine C.aload (pc' := 133) at_131 rfl rfl rfl ?_
    refine C.aload (pc' := 135) at_133 rfl rfl rfl ?_
    refine C.calls (w := 0) (own_rm1 l Z a0 hw n0 h68 b44 b68 [p1, p2, p3, p4] [] (0 : Int32) (Nat.le_trans Z0 K.1) A_b44 A_b68 (by decide : (0 : Int32).toInt = ((0 : Nat) : Int)) (by decide : 0 ≤ 4) (fun s hs => nomatch hs)) (ow2 hw) (ow3 hw) (ow4 hw) (ow5 hw) (pc' := 138) at_135 rfl rfl rfl (by decide) pd___J_I__J rfl (by decide) (Nat.le_of_eq rfl) (by decide) (by decide) (by decide) (kA fun r135 h135 q135 => ?_)
    obtain ⟨K135, z135_r135, N135_0⟩ := q135
    have ne_b44_r135 : b44 ≠ r135 := Nat.ne_of_lt (Nat.lt_of_lt_of_le A_b44.lt z135_r135)
    have ne_b68_r135 : b68 ≠ r135 := Nat.ne_of_lt (Nat.lt_of_lt_of_le A_b68.lt z135_r135)
    have sz_r135 : hO.size ≤ r135 := Nat.le_trans K.1 z135_r135
    have g_r135 : n0 ≤ r135 := Nat.le_trans Z0 sz_r135
    replace A_b44 := A_b44.keep K135 nin0
    replace A_b68 := A_b68.keep K135 nin0
    have A_r135 : AJ Z h135 r135 [] := N135_0
    replace K := K.trans K135 all0
    refine C.astore (l' := #[.val (.long p1), .second, .val (.long p2), .second, .val (.long p3), .second, .val (.long p4), .second, .val (.int p5), .val (.int (0 : Int32)), .val (.int v15), .val (.int v23), .val (.int v32), .val (.int v41), .val (.ref b44), .val (.ref b68), .val (.ref r135)]) (pc' := 140) at_138 rfl rfl rfl ?_
    refine C.aload (pc' := 142) at_140 rfl rfl rfl ?_
    refine C.ifnullNo (pc' := 145) at_142 rfl ?_
    refine C.aload (pc' := 147) at_145 rfl rfl rfl ?_
    refine C.lenAJ (z := 0) A_r135 (by show (0 : Int32).toInt = ((0 : Nat) : Int); decide) (pc' := 148) at_147 rfl ?_
    refine C.iload (pc' := 150) at_148 rfl rfl ?_
    refine C.icmp_eq (pc' := 153) (pt := 155) at_150 rfl rfl (fun c150 => ?_) (fun c150 => absurd rfl c150)
    refine C.iload (pc' := 157) at_155 rfl rfl ?_
    refine C.if_le (pc' := 160) (pt := 181) at_157 rfl rfl (fun c157 => ?_) (fun c157 => absurd c157 (by decide))
    refine C.iload (pc' := 183) at_181 rfl rfl ?_
    refine C.iconst (v := 1) (pc' := 184) at_183 rfl rfl ?_
    refine C.icmp_le (pc' := 187) (pt := 208) at_184 rfl rfl (fun c184 => ?_) (fun c184 => absurd c184 (by decide))
    refine C.iload (pc' := 210) at_208 rfl rfl ?_
    refine C.iconst (v := 2) (pc' := 211) at_210 rfl rfl ?_
    refine C.icmp_le (pc' := 214) (pt := 235) at_211 rfl rfl (fun c211 => ?_) (fun c211 => absurd c211 (by decide))
    refine C.iload (pc' := 237) at_235 rfl rfl ?_
    refine C.iconst (v := 3) (pc' := 238) at_237 rfl rfl ?_
    refine C.icmp_le (pc' := 241) (pt := 262) at_238 rfl rfl (fun c238 => ?_) (fun c238 => absurd c238 (by decide))
    refine C.aload (pc' := 264) at_262 rfl rfl rfl ?_
    refine C.iconst (v := 0) (pc' := 265) at_264 rfl rfl ?_
    refine C.ldAJ (i := 0) (v := p1) A_b44 (by decide) rfl (pc' := 266) at_265 rfl ?_
    refine C.lloadN (pc' := 267) at_266 rfl rfl ?_
    refine C.lif_ne (pc' := 271) (pt := 300) at_267 rfl at_268 rfl rfl (fun c267 => absurd rfl c267) (fun c267 => ?_)
    refine C.aload (pc' := 273) at_271 rfl rfl rfl ?_
    refine C.iconst (v := 1) (pc' := 274) at_273 rfl rfl ?_
    refine C.ldAJ (i := 1) (v := p2) A_b44 (by decide) rfl (pc' := 275) at_274 rfl ?_
    refine C.lloadN (pc' := 276) at_275 rfl rfl ?_
    refine C.lif_ne (pc' := 280) (pt := 300) at_276 rfl at_277 rfl rfl (fun c276 => absurd rfl c276) (fun c276 => ?_)
    refine C.aload (pc' := 282) at_280 rfl rfl rfl ?_
    refine C.iconst (v := 2) (pc' := 283) at_282 rfl rfl ?_
    refine C.ldAJ (i := 2) (v := p3) A_b44 (by decide) rfl (pc' := 284) at_283 rfl ?_
    refine C.lload (pc' := 286) at_284 rfl rfl ?_
    refine C.lif_ne (pc' := 290) (pt := 300) at_286 rfl at_287 rfl rfl (fun c286 => absurd rfl c286) (fun c286 => ?_)
    refine C.aload (pc' := 292) at_290 rfl rfl rfl ?_
    refine C.iconst (v := 3) (pc' := 293) at_292 rfl rfl ?_
    refine C.ldAJ (i := 3) (v := p4) A_b44 (by decide) rfl (pc' := 294) at_293 rfl ?_
    refine C.lload (pc' := 296) at_294 rfl rfl ?_
    refine C.lif_eq (pc' := 300) (pt := 302) at_296 rfl at_297 rfl rfl (fun c296 => ?_) (fun c296 => absurd rfl c296)
    refine C.iload (pc' := 304) at_302 rfl rfl ?_
    refine C.if_le (pc' := 307) (pt := 321) at_304 rfl rfl (fun c304 => ?_) (fun c304 => absurd c304 (by decide))
    refine C.iload (pc' := 323) at_321 rfl rfl ?_
    refine C.iconst (v := 1) (pc' := 324) at_323 rfl rfl ?_
    refine C.icmp_le (pc' := 327) (pt := 341) at_324 rfl rfl (fun c324 => ?_) (fun c324 => absurd c324 (by decide))
    refine C.iload (pc' := 343) at_341 rfl rfl ?_
    refine C.iconst (v := 2) (pc' := 344) at_343 rfl rfl ?_
    refine C.icmp_le (pc' := 347) (pt := 361) at_344 rfl rfl (fun c344 => ?_) (fun c344 => absurd c344 (by decide))
    refine C.iload (pc' := 363) at_361 rfl rfl ?_
    refine C.iconst (v := 3) (pc' := 364) at_363 rfl rfl ?_
    refine C.icmp_le (pc' := 367) (pt := 381) at_364 rfl rfl (fun c364 => ?_) (fun c364 => absurd c364 (by decide))
    refine C.iconst (v := 1) (pc' := 382) at_381 rfl rfl ?_
    refine C.retZ (show ret = some .boolean from rfl) (by decide) at_382 (by decide) (by decide) ⟨_, rfl, rfl⟩
  · subst q7
    refine C.iconst (v := 4) (pc' := 44) at_43 rfl rfl ?_
    refine C.newAJ (N := 4) (cap := 4) (ow0 hw) (pc' := 46) at_44 rfl (by decide) (by decide) (by decide) (by decide) (by decide) (fun h44 b44 hb44 X44 A_b44 => ?_)
    have sz_b44 : hO.size ≤ b44 := by rw [hb44]; exact K.1
    have g_b44 : n0 ≤ b44 := Nat.le_trans Z0 sz_b44
    replace K := K.ext X44
    replace A_b44 : AJ Z h44 b44 [(0 : Int64), (0 : Int64), (0 : Int64), (0 : Int64)] := A_b44
    refine C.dup (pc' := 47) at_46 rfl rfl ?_
    refine C.iconst (v := 0) (pc' := 48) at_47 rfl rfl ?_
    refine C.lloadN (pc' := 49) at_48 rfl rfl ?_
    refine C.stAJ (i := 0) A_b44 (by decide) (by show 0 < 4; decide) g_b44 (pc' := 50) at_49 rfl (fun h49 X49 B49 => ?_)
    have A_b44 : AJ Z h49 b44 [p1, (0 : Int64), (0 : Int64), (0 : Int64)] := B49
    replace K := K.wr X49 (Or.inr sz_b44)
    refine C.dup (pc' := 51) at_50 rfl rfl ?_
    refine C.iconst (v := 1) (pc' := 52) at_51 rfl rfl ?_
    refine C.lloadN (pc' := 53) at_52 rfl rfl ?_
    refine C.stAJ (i := 1) A_b44 (by decide) (by show 1 < 4; decide) g_b44 (pc' := 54) at_53 rfl (fun h53 X53 B53 => ?_)
    have A_b44 : AJ Z h53 b44 [p1, p2, (0 : Int64), (0 : Int64)] := B53
    replace K := K.wr X53 (Or.inr sz_b44)
    refine C.dup (pc' := 55) at_54 rfl rfl ?_
    refine C.iconst (v := 2) (pc' := 56) at_55 rfl rfl ?_
    refine C.lload (pc' := 58) at_56 rfl rfl ?_
    refine C.stAJ (i := 2) A_b44 (by decide) (by show 2 < 4; decide) g_b44 (pc' := 59) at_58 rfl (fun h58 X58 B58 => ?_)
    have A_b44 : AJ Z h58 b44 [p1, p2, p3, (0 : Int64)] := B58
    replace K := K.wr X58 (Or.inr sz_b44)
    refine C.dup (pc' := 60) at_59 rfl rfl ?_
    refine C.iconst (v := 3) (pc' := 61) at_60 rfl rfl ?_
    refine C.lload (pc' := 63) at_61 rfl rfl ?_
    refine C.stAJ (i := 3) A_b44 (by decide) (by show 3 < 4; decide) g_b44 (pc' := 64) at_63 rfl (fun h63 X63 B63 => ?_)
    have A_b44 : AJ Z h63 b44 [p1, p2, p3, p4] := B63
    replace K := K.wr X63 (Or.inr sz_b44)
    refine C.astore (l' := #[.val (.long p1), .second, .val (.long p2), .second, .val (.long p3), .second, .val (.long p4), .second, .val (.int p5), .val (.int (1 : Int32)), .val (.int v15), .val (.int v23), .val (.int v32), .val (.int v41), .val (.ref b44), .unset, .unset]) (pc' := 66) at_64 rfl rfl rfl ?_
    refine C.iload (pc' := 68) at_66 rfl rfl ?_
    refine C.newAI (N := 1) (cap := 1) (ow1 hw) (pc' := 70) at_68 rfl (by decide) (by decide) (by decide) (by decide) (by decide) (fun h68 b68 hb68 X68 A_b68 => ?_)
    have ne_b44_b68 : b44 ≠ b68 := by rw [hb68]; exact Nat.ne_of_lt A_b44.lt
    have sz_b68 : hO.size ≤ b68 := by rw [hb68]; exact K.1
    have g_b68 : n0 ≤ b68 := Nat.le_trans Z0 sz_b68
    replace A_b44 := A_b44.ext X68
    replace K := K.ext X68
    replace A_b68 : AI Z h68 b68 [(0 : Int32)] := A_b68
    refine C.astore (l' := #[.val (.long p1), .second, .val (.long p2), .second, .val (.long p3), .second, .val (.long p4), .second, .val (.int p5), .val (.int (1 : Int32)), .val (.int v15), .val (.int v23), .val (.int v32), .val (.int v41), .val (.ref b44), .val (.ref b68), .unset]) (pc' := 72) at_70 rfl rfl rfl ?_
    refine C.iload (pc' := 74) at_72 rfl rfl ?_
    refine C.if_le (pc' := 77) (pt := 86) at_74 rfl rfl (fun c74 => absurd (by decide) c74) (fun c74 => ?_)
    refine C.aload (pc' := 79) at_77 rfl rfl rfl ?_
    refine C.iconst (v := 0) (pc' := 80) at_79 rfl rfl ?_
    refine C.iload (pc' := 82) at_80 rfl rfl ?_
    refine C.bipush (v := 8) (pc' := 84) at_82 rfl rfl ?_
    refine C.imul (pc' := 85) at_84 rfl ?_
    refine C.stAI (i := 0) A_b68 (by decide) (by show 0 < 1; decide) g_b68 (pc' := 86) at_85 rfl (fun h85 X85 B85 => ?_)
    replace A_b44 := A_b44.other X85 ne_b44_b68
    have A_b68 : AI Z h85 b68 [(v15 * (8 : Int32))] := B85
    replace K := K.wr X85 (Or.inr sz_b68)
    refine C.iload (pc' := 88) at_86 rfl rfl ?_
    refine C.iconst (v := 1) (pc' := 89) at_88 rfl rfl ?_
    refine C.icmp_le (pc' := 92) (pt := 101) at_89 rfl rfl (fun c89 => ?_) (fun c89 => absurd c89 (by decide))
    refine C.iload (pc' := 103) at_101 rfl rfl ?_
    refine C.iconst (v := 2) (pc' := 104) at_103 rfl rfl ?_
    refine C.icmp_le (pc' := 107) (pt := 116) at_104 rfl rfl (fun c104 => ?_) (fun c104 => absurd c104 (by decide))
    refine C.iload (pc' := 118) at_116 rfl rfl ?_
    refine C.iconst (v := 3) (pc' := 119) at_118 rfl rfl ?_
    refine C.icmp_le (pc' := 122) (pt := 131) at_119 rfl rfl (fun c119 => ?_) (fun c119 => absurd c119 (by decide))
    refine C.aload (pc' := 133) at_131 rfl rfl rfl ?_
    refine C.aload (pc' := 135) at_133 rfl rfl rfl ?_
    refine C.calls (w := 0) (own_rm1 l Z a0 hw n0 h85 b44 b68 [p1, p2, p3, p4] [(v15 * (8 : Int32))] (1 : Int32) (Nat.le_trans Z0 K.1) A_b44 A_b68 (by decide : (1 : Int32).toInt = ((1 : Nat) : Int)) (by decide : 1 ≤ 4) (by intro s hs; simp only [List.mem_cons, List.not_mem_nil, or_false] at hs; subst hs; exact own_rng e15)) (ow2 hw) (ow3 hw) (ow4 hw) (ow5 hw) (pc' := 138) at_135 rfl rfl rfl (by decide) pd___J_I__J rfl (by decide) (Nat.le_of_eq rfl) (by decide) (by decide) (by decide) (kA fun r135 h135 q135 => ?_)
    obtain ⟨K135, z135_r135, N135_0⟩ := q135
    have ne_b44_r135 : b44 ≠ r135 := Nat.ne_of_lt (Nat.lt_of_lt_of_le A_b44.lt z135_r135)
    have ne_b68_r135 : b68 ≠ r135 := Nat.ne_of_lt (Nat.lt_of_lt_of_le A_b68.lt z135_r135)
    have sz_r135 : hO.size ≤ r135 := Nat.le_trans K.1 z135_r135
    have g_r135 : n0 ≤ r135 := Nat.le_trans Z0 sz_r135
    replace A_b44 := A_b44.keep K135 nin0
    replace A_b68 := A_b68.keep K135 nin0
    have A_r135 : AJ Z h135 r135 [(runV [p1, p2, p3, p4] (v15 * (8 : Int32)))] := N135_0
    replace K := K.trans K135 all0
    refine C.astore (l' := #[.val (.long p1), .second, .val (.long p2), .second, .val (.long p3), .second, .val (.long p4), .second, .val (.int p5), .val (.int (1 : Int32)), .val (.int v15), .val (.int v23), .val (.int v32), .val (.int v41), .val (.ref b44), .val (.ref b68), .val (.ref r135)]) (pc' := 140) at_138 rfl rfl rfl ?_
    refine C.aload (pc' := 142) at_140 rfl rfl rfl ?_
    refine C.ifnullNo (pc' := 145) at_142 rfl ?_
    refine C.aload (pc' := 147) at_145 rfl rfl rfl ?_
    refine C.lenAJ (z := 1) A_r135 (by show (1 : Int32).toInt = ((1 : Nat) : Int); decide) (pc' := 148) at_147 rfl ?_
    refine C.iload (pc' := 150) at_148 rfl rfl ?_
    refine C.icmp_eq (pc' := 153) (pt := 155) at_150 rfl rfl (fun c150 => ?_) (fun c150 => absurd rfl c150)
    refine C.iload (pc' := 157) at_155 rfl rfl ?_
    refine C.if_le (pc' := 160) (pt := 181) at_157 rfl rfl (fun c157 => absurd (by decide) c157) (fun c157 => ?_)
    refine C.aload (pc' := 162) at_160 rfl rfl rfl ?_
    refine C.iconst (v := 0) (pc' := 163) at_162 rfl rfl ?_
    refine C.ldAJ (i := 0) (v := (runV [p1, p2, p3, p4] (v15 * (8 : Int32)))) A_r135 (by decide) rfl (pc' := 164) at_163 rfl ?_
    refine C.lloadN (pc' := 165) at_164 rfl rfl ?_
    refine C.lloadN (pc' := 166) at_165 rfl rfl ?_
    refine C.lload (pc' := 168) at_166 rfl rfl ?_
    refine C.lload (pc' := 170) at_168 rfl rfl ?_
    refine C.iload (pc' := 172) at_170 rfl rfl ?_
    refine C.calls (w := 2) (own_rm2 l Z a0 hw n0 h135 p1 p2 p3 p4 v15) (ow6 hw) (ow7 hw) (ow8 hw) (ow9 hw) (pc' := 175) at_172 rfl rfl rfl (by decide) pd__JJJJI_J rfl (by decide) (Nat.le_of_eq rfl) (by decide) (by decide) (by decide) (kJe ?_)
    refine C.lif_eq (pc' := 179) (pt := 181) at_175 rfl at_176 rfl rfl (fun c175 => ?_) (fun c175 => absurd (own_pk e15) c175)
    refine C.iload (pc' := 183) at_181 rfl rfl ?_
    refine C.iconst (v := 1) (pc' := 184) at_183 rfl rfl ?_
    refine C.icmp_le (pc' := 187) (pt := 208) at_184 rfl rfl (fun c184 => ?_) (fun c184 => absurd c184 (by decide))
    refine C.iload (pc' := 210) at_208 rfl rfl ?_
    refine C.iconst (v := 2) (pc' := 211) at_210 rfl rfl ?_
    refine C.icmp_le (pc' := 214) (pt := 235) at_211 rfl rfl (fun c211 => ?_) (fun c211 => absurd c211 (by decide))
    refine C.iload (pc' := 237) at_235 rfl rfl ?_
    refine C.iconst (v := 3) (pc' := 238) at_237 rfl rfl ?_
    refine C.icmp_le (pc' := 241) (pt := 262) at_238 rfl rfl (fun c238 => ?_) (fun c238 => absurd c238 (by decide))
    refine C.aload (pc' := 264) at_262 rfl rfl rfl ?_
    refine C.iconst (v := 0) (pc' := 265) at_264 rfl rfl ?_
    refine C.ldAJ (i := 0) (v := p1) A_b44 (by decide) rfl (pc' := 266) at_265 rfl ?_
    refine C.lloadN (pc' := 267) at_266 rfl rfl ?_
    refine C.lif_ne (pc' := 271) (pt := 300) at_267 rfl at_268 rfl rfl (fun c267 => absurd rfl c267) (fun c267 => ?_)
    refine C.aload (pc' := 273) at_271 rfl rfl rfl ?_
    refine C.iconst (v := 1) (pc' := 274) at_273 rfl rfl ?_
    refine C.ldAJ (i := 1) (v := p2) A_b44 (by decide) rfl (pc' := 275) at_274 rfl ?_
    refine C.lloadN (pc' := 276) at_275 rfl rfl ?_
    refine C.lif_ne (pc' := 280) (pt := 300) at_276 rfl at_277 rfl rfl (fun c276 => absurd rfl c276) (fun c276 => ?_)
    refine C.aload (pc' := 282) at_280 rfl rfl rfl ?_
    refine C.iconst (v := 2) (pc' := 283) at_282 rfl rfl ?_
    refine C.ldAJ (i := 2) (v := p3) A_b44 (by decide) rfl (pc' := 284) at_283 rfl ?_
    refine C.lload (pc' := 286) at_284 rfl rfl ?_
    refine C.lif_ne (pc' := 290) (pt := 300) at_286 rfl at_287 rfl rfl (fun c286 => absurd rfl c286) (fun c286 => ?_)
    refine C.aload (pc' := 292) at_290 rfl rfl rfl ?_
    refine C.iconst (v := 3) (pc' := 293) at_292 rfl rfl ?_
    refine C.ldAJ (i := 3) (v := p4) A_b44 (by decide) rfl (pc' := 294) at_293 rfl ?_
    refine C.lload (pc' := 296) at_294 rfl rfl ?_
    refine C.lif_eq (pc' := 300) (pt := 302) at_296 rfl at_297 rfl rfl (fun c296 => ?_) (fun c296 => absurd rfl c296)
    refine C.iload (pc' := 304) at_302 rfl rfl ?_
    refine C.if_le (pc' := 307) (pt := 321) at_304 rfl rfl (fun c304 => absurd (by decide) c304) (fun c304 => ?_)
    refine C.aload (pc' := 309) at_307 rfl rfl rfl ?_
    refine C.iconst (v := 0) (pc' := 310) at_309 rfl rfl ?_
    refine C.ldAI (i := 0) (v := (v15 * (8 : Int32))) A_b68 (by decide) rfl (pc' := 311) at_310 rfl ?_
    refine C.iload (pc' := 313) at_311 rfl rfl ?_
    refine C.bipush (v := 8) (pc' := 315) at_313 rfl rfl ?_
    refine C.imul (pc' := 316) at_315 rfl ?_
    refine C.icmp_eq (pc' := 319) (pt := 321) at_316 rfl rfl (fun c316 => ?_) (fun c316 => absurd rfl c316)
    refine C.iload (pc' := 323) at_321 rfl rfl ?_
    refine C.iconst (v := 1) (pc' := 324) at_323 rfl rfl ?_
    refine C.icmp_le (pc' := 327) (pt := 341) at_324 rfl rfl (fun c324 => ?_) (fun c324 => absurd c324 (by decide))
    refine C.iload (pc' := 343) at_341 rfl rfl ?_
    refine C.iconst (v := 2) (pc' := 344) at_343 rfl rfl ?_
    refine C.icmp_le (pc' := 347) (pt := 361) at_344 rfl rfl (fun c344 => ?_) (fun c344 => absurd c344 (by decide))
    refine C.iload (pc' := 363) at_361 rfl rfl ?_
    refine C.iconst (v := 3) (pc' := 364) at_363 rfl rfl ?_
    refine C.icmp_le (pc' := 367) (pt := 381) at_364 rfl rfl (fun c364 => ?_) (fun c364 => absurd c364 (by decide))
    refine C.iconst (v := 1) (pc' := 382) at_381 rfl rfl ?_
    refine C.retZ (show ret = some .boolean from rfl) (by decide) at_382 (by decide) (by decide) ⟨_, rfl, rfl⟩
  · subst q7
    refine C.iconst (v := 4) (pc' := 44) at_43 rfl rfl ?_
    refine C.newAJ (N := 4) (cap := 4) (ow0 hw) (pc' := 46) at_44 rfl (by decide) (by decide) (by decide) (by decide) (by decide) (fun h44 b44 hb44 X44 A_b44 => ?_)
    have sz_b44 : hO.size ≤ b44 := by rw [hb44]; exact K.1
    have g_b44 : n0 ≤ b44 := Nat.le_trans Z0 sz_b44
    replace K := K.ext X44
    replace A_b44 : AJ Z h44 b44 [(0 : Int64), (0 : Int64), (0 : Int64), (0 : Int64)] := A_b44
    refine C.dup (pc' := 47) at_46 rfl rfl ?_
    refine C.iconst (v := 0) (pc' := 48) at_47 rfl rfl ?_
    refine C.lloadN (pc' := 49) at_48 rfl rfl ?_
    refine C.stAJ (i := 0) A_b44 (by decide) (by show 0 < 4; decide) g_b44 (pc' := 50) at_49 rfl (fun h49 X49 B49 => ?_)
    have A_b44 : AJ Z h49 b44 [p1, (0 : Int64), (0 : Int64), (0 : Int64)] := B49
    replace K := K.wr X49 (Or.inr sz_b44)
    refine C.dup (pc' := 51) at_50 rfl rfl ?_
    refine C.iconst (v := 1) (pc' := 52) at_51 rfl rfl ?_
    refine C.lloadN (pc' := 53) at_52 rfl rfl ?_
    refine C.stAJ (i := 1) A_b44 (by decide) (by show 1 < 4; decide) g_b44 (pc' := 54) at_53 rfl (fun h53 X53 B53 => ?_)
    have A_b44 : AJ Z h53 b44 [p1, p2, (0 : Int64), (0 : Int64)] := B53
    replace K := K.wr X53 (Or.inr sz_b44)
    refine C.dup (pc' := 55) at_54 rfl rfl ?_
    refine C.iconst (v := 2) (pc' := 56) at_55 rfl rfl ?_
    refine C.lload (pc' := 58) at_56 rfl rfl ?_
    refine C.stAJ (i := 2) A_b44 (by decide) (by show 2 < 4; decide) g_b44 (pc' := 59) at_58 rfl (fun h58 X58 B58 => ?_)
    have A_b44 : AJ Z h58 b44 [p1, p2, p3, (0 : Int64)] := B58
    replace K := K.wr X58 (Or.inr sz_b44)
    refine C.dup (pc' := 60) at_59 rfl rfl ?_
    refine C.iconst (v := 3) (pc' := 61) at_60 rfl rfl ?_
    refine C.lload (pc' := 63) at_61 rfl rfl ?_
    refine C.stAJ (i := 3) A_b44 (by decide) (by show 3 < 4; decide) g_b44 (pc' := 64) at_63 rfl (fun h63 X63 B63 => ?_)
    have A_b44 : AJ Z h63 b44 [p1, p2, p3, p4] := B63
    replace K := K.wr X63 (Or.inr sz_b44)
    refine C.astore (l' := #[.val (.long p1), .second, .val (.long p2), .second, .val (.long p3), .second, .val (.long p4), .second, .val (.int p5), .val (.int (2 : Int32)), .val (.int v15), .val (.int v23), .val (.int v32), .val (.int v41), .val (.ref b44), .unset, .unset]) (pc' := 66) at_64 rfl rfl rfl ?_
    refine C.iload (pc' := 68) at_66 rfl rfl ?_
    refine C.newAI (N := 2) (cap := 2) (ow1 hw) (pc' := 70) at_68 rfl (by decide) (by decide) (by decide) (by decide) (by decide) (fun h68 b68 hb68 X68 A_b68 => ?_)
    have ne_b44_b68 : b44 ≠ b68 := by rw [hb68]; exact Nat.ne_of_lt A_b44.lt
    have sz_b68 : hO.size ≤ b68 := by rw [hb68]; exact K.1
    have g_b68 : n0 ≤ b68 := Nat.le_trans Z0 sz_b68
    replace A_b44 := A_b44.ext X68
    replace K := K.ext X68
    replace A_b68 : AI Z h68 b68 [(0 : Int32), (0 : Int32)] := A_b68
    refine C.astore (l' := #[.val (.long p1), .second, .val (.long p2), .second, .val (.long p3), .second, .val (.long p4), .second, .val (.int p5), .val (.int (2 : Int32)), .val (.int v15), .val (.int v23), .val (.int v32), .val (.int v41), .val (.ref b44), .val (.ref b68), .unset]) (pc' := 72) at_70 rfl rfl rfl ?_
    refine C.iload (pc' := 74) at_72 rfl rfl ?_
    refine C.if_le (pc' := 77) (pt := 86) at_74 rfl rfl (fun c74 => absurd (by decide) c74) (fun c74 => ?_)
    refine C.aload (pc' := 79) at_77 rfl rfl rfl ?_
    refine C.iconst (v := 0) (pc' := 80) at_79 rfl rfl ?_
    refine C.iload (pc' := 82) at_80 rfl rfl ?_
    refine C.bipush (v := 8) (pc' := 84) at_82 rfl rfl ?_
    refine C.imul (pc' := 85) at_84 rfl ?_
    refine C.stAI (i := 0) A_b68 (by decide) (by show 0 < 2; decide) g_b68 (pc' := 86) at_85 rfl (fun h85 X85 B85 => ?_)
    replace A_b44 := A_b44.other X85 ne_b44_b68
    have A_b68 : AI Z h85 b68 [(v15 * (8 : Int32)), (0 : Int32)] := B85
    replace K := K.wr X85 (Or.inr sz_b68)
    refine C.iload (pc' := 88) at_86 rfl rfl ?_
    refine C.iconst (v := 1) (pc' := 89) at_88 rfl rfl ?_
    refine C.icmp_le (pc' := 92) (pt := 101) at_89 rfl rfl (fun c89 => absurd (by decide) c89) (fun c89 => ?_)
    refine C.aload (pc' := 94) at_92 rfl rfl rfl ?_
    refine C.iconst (v := 1) (pc' := 95) at_94 rfl rfl ?_
    refine C.iload (pc' := 97) at_95 rfl rfl ?_
    refine C.bipush (v := 8) (pc' := 99) at_97 rfl rfl ?_
    refine C.imul (pc' := 100) at_99 rfl ?_
    refine C.stAI (i := 1) A_b68 (by decide) (by show 1 < 2; decide) g_b68 (pc' := 101) at_100 rfl (fun h100 X100 B100 => ?_)
    replace A_b44 := A_b44.other X100 ne_b44_b68
    have A_b68 : AI Z h100 b68 [(v15 * (8 : Int32)), (v23 * (8 : Int32))] := B100
    replace K := K.wr X100 (Or.inr sz_b68)
    refine C.iload (pc' := 103) at_101 rfl rfl ?_
    refine C.iconst (v := 2) (pc' := 104) at_103 rfl rfl ?_
    refine C.icmp_le (pc' := 107) (pt := 116) at_104 rfl rfl (fun c104 => ?_) (fun c104 => absurd c104 (by decide))
    refine C.iload (pc' := 118) at_116 rfl rfl ?_
    refine C.iconst (v := 3) (pc' := 119) at_118 rfl rfl ?_
    refine C.icmp_le (pc' := 122) (pt := 131) at_119 rfl rfl (fun c119 => ?_) (fun c119 => absurd c119 (by decide))
    refine C.aload (pc' := 133) at_131 rfl rfl rfl ?_
    refine C.aload (pc' := 135) at_133 rfl rfl rfl ?_
    refine C.calls (w := 0) (own_rm1 l Z a0 hw n0 h100 b44 b68 [p1, p2, p3, p4] [(v15 * (8 : Int32)), (v23 * (8 : Int32))] (2 : Int32) (Nat.le_trans Z0 K.1) A_b44 A_b68 (by decide : (2 : Int32).toInt = ((2 : Nat) : Int)) (by decide : 2 ≤ 4) (by intro s hs; simp only [List.mem_cons, List.not_mem_nil, or_false] at hs; rcases hs with rfl | rfl <;> first | exact own_rng e15 | exact own_rng e23)) (ow2 hw) (ow3 hw) (ow4 hw) (ow5 hw) (pc' := 138) at_135 rfl rfl rfl (by decide) pd___J_I__J rfl (by decide) (Nat.le_of_eq rfl) (by decide) (by decide) (by decide) (kA fun r135 h135 q135 => ?_)
    obtain ⟨K135, z135_r135, N135_0⟩ := q135
    have ne_b44_r135 : b44 ≠ r135 := Nat.ne_of_lt (Nat.lt_of_lt_of_le A_b44.lt z135_r135)
    have ne_b68_r135 : b68 ≠ r135 := Nat.ne_of_lt (Nat.lt_of_lt_of_le A_b68.lt z135_r135)
    have sz_r135 : hO.size ≤ r135 := Nat.le_trans K.1 z135_r135
    have g_r135 : n0 ≤ r135 := Nat.le_trans Z0 sz_r135
    replace A_b44 := A_b44.keep K135 nin0
    replace A_b68 := A_b68.keep K135 nin0
    have A_r135 : AJ Z h135 r135 [(runV [p1, p2, p3, p4] (v15 * (8 : Int32))), (runV [p1, p2, p3, p4] (v23 * (8 : Int32)))] := N135_0
    replace K := K.trans K135 all0
    refine C.astore (l' := #[.val (.long p1), .second, .val (.long p2), .second, .val (.long p3), .second, .val (.long p4), .second, .val (.int p5), .val (.int (2 : Int32)), .val (.int v15), .val (.int v23), .val (.int v32), .val (.int v41), .val (.ref b44), .val (.ref b68), .val (.ref r135)]) (pc' := 140) at_138 rfl rfl rfl ?_
    refine C.aload (pc' := 142) at_140 rfl rfl rfl ?_
    refine C.ifnullNo (pc' := 145) at_142 rfl ?_
    refine C.aload (pc' := 147) at_145 rfl rfl rfl ?_
    refine C.lenAJ (z := 2) A_r135 (by show (2 : Int32).toInt = ((2 : Nat) : Int); decide) (pc' := 148) at_147 rfl ?_
    refine C.iload (pc' := 150) at_148 rfl rfl ?_
    refine C.icmp_eq (pc' := 153) (pt := 155) at_150 rfl rfl (fun c150 => ?_) (fun c150 => absurd rfl c150)
    refine C.iload (pc' := 157) at_155 rfl rfl ?_
    refine C.if_le (pc' := 160) (pt := 181) at_157 rfl rfl (fun c157 => absurd (by decide) c157) (fun c157 => ?_)
    refine C.aload (pc' := 162) at_160 rfl rfl rfl ?_
    refine C.iconst (v := 0) (pc' := 163) at_162 rfl rfl ?_
    refine C.ldAJ (i := 0) (v := (runV [p1, p2, p3, p4] (v15 * (8 : Int32)))) A_r135 (by decide) rfl (pc' := 164) at_163 rfl ?_
    refine C.lloadN (pc' := 165) at_164 rfl rfl ?_
    refine C.lloadN (pc' := 166) at_165 rfl rfl ?_
    refine C.lload (pc' := 168) at_166 rfl rfl ?_
    refine C.lload (pc' := 170) at_168 rfl rfl ?_
    refine C.iload (pc' := 172) at_170 rfl rfl ?_
    refine C.calls (w := 2) (own_rm2 l Z a0 hw n0 h135 p1 p2 p3 p4 v15) (ow6 hw) (ow7 hw) (ow8 hw) (ow9 hw) (pc' := 175) at_172 rfl rfl rfl (by decide) pd__JJJJI_J rfl (by decide) (Nat.le_of_eq rfl) (by decide) (by decide) (by decide) (kJe ?_)
    refine C.lif_eq (pc' := 179) (pt := 181) at_175 rfl at_176 rfl rfl (fun c175 => ?_) (fun c175 => absurd (own_pk e15) c175)
    refine C.iload (pc' := 183) at_181 rfl rfl ?_
    refine C.iconst (v := 1) (pc' := 184) at_183 rfl rfl ?_
    refine C.icmp_le (pc' := 187) (pt := 208) at_184 rfl rfl (fun c184 => absurd (by decide) c184) (fun c184 => ?_)
    refine C.aload (pc' := 189) at_187 rfl rfl rfl ?_
    refine C.iconst (v := 1) (pc' := 190) at_189 rfl rfl ?_
    refine C.ldAJ (i := 1) (v := (runV [p1, p2, p3, p4] (v23 * (8 : Int32)))) A_r135 (by decide) rfl (pc' := 191) at_190 rfl ?_
    refine C.lloadN (pc' := 192) at_191 rfl rfl ?_
    refine C.lloadN (pc' := 193) at_192 rfl rfl ?_
    refine C.lload (pc' := 195) at_193 rfl rfl ?_
    refine C.lload (pc' := 197) at_195 rfl rfl ?_
    refine C.iload (pc' := 199) at_197 rfl rfl ?_
    refine C.calls (w := 2) (own_rm2 l Z a0 hw n0 h135 p1 p2 p3 p4 v23) (ow6 hw) (ow7 hw) (ow8 hw) (ow9 hw) (pc' := 202) at_199 rfl rfl rfl (by decide) pd__JJJJI_J rfl (by decide) (Nat.le_of_eq rfl) (by decide) (by decide) (by decide) (kJe ?_)
    refine C.lif_eq (pc' := 206) (pt := 208) at_202 rfl at_203 rfl rfl (fun c202 => ?_) (fun c202 => absurd (own_pk e23) c202)
    refine C.iload (pc' := 210) at_208 rfl rfl ?_
    refine C.iconst (v := 2) (pc' := 211) at_210 rfl rfl ?_
    refine C.icmp_le (pc' := 214) (pt := 235) at_211 rfl rfl (fun c211 => ?_) (fun c211 => absurd c211 (by decide))
    refine C.iload (pc' := 237) at_235 rfl rfl ?_
    refine C.iconst (v := 3) (pc' := 238) at_237 rfl rfl ?_
    refine C.icmp_le (pc' := 241) (pt := 262) at_238 rfl rfl (fun c238 => ?_) (fun c238 => absurd c238 (by decide))
    refine C.aload (pc' := 264) at_262 rfl rfl rfl ?_
    refine C.iconst (v := 0) (pc' := 265) at_264 rfl rfl ?_
    refine C.ldAJ (i := 0) (v := p1) A_b44 (by decide) rfl (pc' := 266) at_265 rfl ?_
    refine C.lloadN (pc' := 267) at_266 rfl rfl ?_
    refine C.lif_ne (pc' := 271) (pt := 300) at_267 rfl at_268 rfl rfl (fun c267 => absurd rfl c267) (fun c267 => ?_)
    refine C.aload (pc' := 273) at_271 rfl rfl rfl ?_
    refine C.iconst (v := 1) (pc' := 274) at_273 rfl rfl ?_
    refine C.ldAJ (i := 1) (v := p2) A_b44 (by decide) rfl (pc' := 275) at_274 rfl ?_
    refine C.lloadN (pc' := 276) at_275 rfl rfl ?_
    refine C.lif_ne (pc' := 280) (pt := 300) at_276 rfl at_277 rfl rfl (fun c276 => absurd rfl c276) (fun c276 => ?_)
    refine C.aload (pc' := 282) at_280 rfl rfl rfl ?_
    refine C.iconst (v := 2) (pc' := 283) at_282 rfl rfl ?_
    refine C.ldAJ (i := 2) (v := p3) A_b44 (by decide) rfl (pc' := 284) at_283 rfl ?_
    refine C.lload (pc' := 286) at_284 rfl rfl ?_
    refine C.lif_ne (pc' := 290) (pt := 300) at_286 rfl at_287 rfl rfl (fun c286 => absurd rfl c286) (fun c286 => ?_)
    refine C.aload (pc' := 292) at_290 rfl rfl rfl ?_
    refine C.iconst (v := 3) (pc' := 293) at_292 rfl rfl ?_
    refine C.ldAJ (i := 3) (v := p4) A_b44 (by decide) rfl (pc' := 294) at_293 rfl ?_
    refine C.lload (pc' := 296) at_294 rfl rfl ?_
    refine C.lif_eq (pc' := 300) (pt := 302) at_296 rfl at_297 rfl rfl (fun c296 => ?_) (fun c296 => absurd rfl c296)
    refine C.iload (pc' := 304) at_302 rfl rfl ?_
    refine C.if_le (pc' := 307) (pt := 321) at_304 rfl rfl (fun c304 => absurd (by decide) c304) (fun c304 => ?_)
    refine C.aload (pc' := 309) at_307 rfl rfl rfl ?_
    refine C.iconst (v := 0) (pc' := 310) at_309 rfl rfl ?_
    refine C.ldAI (i := 0) (v := (v15 * (8 : Int32))) A_b68 (by decide) rfl (pc' := 311) at_310 rfl ?_
    refine C.iload (pc' := 313) at_311 rfl rfl ?_
    refine C.bipush (v := 8) (pc' := 315) at_313 rfl rfl ?_
    refine C.imul (pc' := 316) at_315 rfl ?_
    refine C.icmp_eq (pc' := 319) (pt := 321) at_316 rfl rfl (fun c316 => ?_) (fun c316 => absurd rfl c316)
    refine C.iload (pc' := 323) at_321 rfl rfl ?_
    refine C.iconst (v := 1) (pc' := 324) at_323 rfl rfl ?_
    refine C.icmp_le (pc' := 327) (pt := 341) at_324 rfl rfl (fun c324 => absurd (by decide) c324) (fun c324 => ?_)
    refine C.aload (pc' := 329) at_327 rfl rfl rfl ?_
    refine C.iconst (v := 1) (pc' := 330) at_329 rfl rfl ?_
    refine C.ldAI (i := 1) (v := (v23 * (8 : Int32))) A_b68 (by decide) rfl (pc' := 331) at_330 rfl ?_
    refine C.iload (pc' := 333) at_331 rfl rfl ?_
    refine C.bipush (v := 8) (pc' := 335) at_333 rfl rfl ?_
    refine C.imul (pc' := 336) at_335 rfl ?_
    refine C.icmp_eq (pc' := 339) (pt := 341) at_336 rfl rfl (fun c336 => ?_) (fun c336 => absurd rfl c336)
    refine C.iload (pc' := 343) at_341 rfl rfl ?_
    refine C.iconst (v := 2) (pc' := 344) at_343 rfl rfl ?_
    refine C.icmp_le (pc' := 347) (pt := 361) at_344 rfl rfl (fun c344 => ?_) (fun c344 => absurd c344 (by decide))
    refine C.iload (pc' := 363) at_361 rfl rfl ?_
    refine C.iconst (v := 3) (pc' := 364) at_363 rfl rfl ?_
    refine C.icmp_le (pc' := 367) (pt := 381) at_364 rfl rfl (fun c364 => ?_) (fun c364 => absurd c364 (by decide))
    refine C.iconst (v := 1) (pc' := 382) at_381 rfl rfl ?_
    refine C.retZ (show ret = some .boolean from rfl) (by decide) at_382 (by decide) (by decide) ⟨_, rfl, rfl⟩
  · subst q7
    refine C.iconst (v := 4) (pc' := 44) at_43 rfl rfl ?_
    refine C.newAJ (N := 4) (cap := 4) (ow0 hw) (pc' := 46) at_44 rfl (by decide) (by decide) (by decide) (by decide) (by decide) (fun h44 b44 hb44 X44 A_b44 => ?_)
    have sz_b44 : hO.size ≤ b44 := by rw [hb44]; exact K.1
    have g_b44 : n0 ≤ b44 := Nat.le_trans Z0 sz_b44
    replace K := K.ext X44
    replace A_b44 : AJ Z h44 b44 [(0 : Int64), (0 : Int64), (0 : Int64), (0 : Int64)] := A_b44
    refine C.dup (pc' := 47) at_46 rfl rfl ?_
    refine C.iconst (v := 0) (pc' := 48) at_47 rfl rfl ?_
    refine C.lloadN (pc' := 49) at_48 rfl rfl ?_
    refine C.stAJ (i := 0) A_b44 (by decide) (by show 0 < 4; decide) g_b44 (pc' := 50) at_49 rfl (fun h49 X49 B49 => ?_)
    have A_b44 : AJ Z h49 b44 [p1, (0 : Int64), (0 : Int64), (0 : Int64)] := B49
    replace K := K.wr X49 (Or.inr sz_b44)
    refine C.dup (pc' := 51) at_50 rfl rfl ?_
    refine C.iconst (v := 1) (pc' := 52) at_51 rfl rfl ?_
    refine C.lloadN (pc' := 53) at_52 rfl rfl ?_
    refine C.stAJ (i := 1) A_b44 (by decide) (by show 1 < 4; decide) g_b44 (pc' := 54) at_53 rfl (fun h53 X53 B53 => ?_)
    have A_b44 : AJ Z h53 b44 [p1, p2, (0 : Int64), (0 : Int64)] := B53
    replace K := K.wr X53 (Or.inr sz_b44)
    refine C.dup (pc' := 55) at_54 rfl rfl ?_
    refine C.iconst (v := 2) (pc' := 56) at_55 rfl rfl ?_
    refine C.lload (pc' := 58) at_56 rfl rfl ?_
    refine C.stAJ (i := 2) A_b44 (by decide) (by show 2 < 4; decide) g_b44 (pc' := 59) at_58 rfl (fun h58 X58 B58 => ?_)
    have A_b44 : AJ Z h58 b44 [p1, p2, p3, (0 : Int64)] := B58
    replace K := K.wr X58 (Or.inr sz_b44)
    refine C.dup (pc' := 60) at_59 rfl rfl ?_
    refine C.iconst (v := 3) (pc' := 61) at_60 rfl rfl ?_
    refine C.lload (pc' := 63) at_61 rfl rfl ?_
    refine C.stAJ (i := 3) A_b44 (by decide) (by show 3 < 4; decide) g_b44 (pc' := 64) at_63 rfl (fun h63 X63 B63 => ?_)
    have A_b44 : AJ Z h63 b44 [p1, p2, p3, p4] := B63
    replace K := K.wr X63 (Or.inr sz_b44)
    refine C.astore (l' := #[.val (.long p1), .second, .val (.long p2), .second, .val (.long p3), .second, .val (.long p4), .second, .val (.int p5), .val (.int (3 : Int32)), .val (.int v15), .val (.int v23), .val (.int v32), .val (.int v41), .val (.ref b44), .unset, .unset]) (pc' := 66) at_64 rfl rfl rfl ?_
    refine C.iload (pc' := 68) at_66 rfl rfl ?_
    refine C.newAI (N := 3) (cap := 3) (ow1 hw) (pc' := 70) at_68 rfl (by decide) (by decide) (by decide) (by decide) (by decide) (fun h68 b68 hb68 X68 A_b68 => ?_)
    have ne_b44_b68 : b44 ≠ b68 := by rw [hb68]; exact Nat.ne_of_lt A_b44.lt
    have sz_b68 : hO.size ≤ b68 := by rw [hb68]; exact K.1
    have g_b68 : n0 ≤ b68 := Nat.le_trans Z0 sz_b68
    replace A_b44 := A_b44.ext X68
    replace K := K.ext X68
    replace A_b68 : AI Z h68 b68 [(0 : Int32), (0 : Int32), (0 : Int32)] := A_b68
    refine C.astore (l' := #[.val (.long p1), .second, .val (.long p2), .second, .val (.long p3), .second, .val (.long p4), .second, .val (.int p5), .val (.int (3 : Int32)), .val (.int v15), .val (.int v23), .val (.int v32), .val (.int v41), .val (.ref b44), .val (.ref b68), .unset]) (pc' := 72) at_70 rfl rfl rfl ?_
    refine C.iload (pc' := 74) at_72 rfl rfl ?_
    refine C.if_le (pc' := 77) (pt := 86) at_74 rfl rfl (fun c74 => absurd (by decide) c74) (fun c74 => ?_)
    refine C.aload (pc' := 79) at_77 rfl rfl rfl ?_
    refine C.iconst (v := 0) (pc' := 80) at_79 rfl rfl ?_
    refine C.iload (pc' := 82) at_80 rfl rfl ?_
    refine C.bipush (v := 8) (pc' := 84) at_82 rfl rfl ?_
    refine C.imul (pc' := 85) at_84 rfl ?_
    refine C.stAI (i := 0) A_b68 (by decide) (by show 0 < 3; decide) g_b68 (pc' := 86) at_85 rfl (fun h85 X85 B85 => ?_)
    replace A_b44 := A_b44.other X85 ne_b44_b68
    have A_b68 : AI Z h85 b68 [(v15 * (8 : Int32)), (0 : Int32), (0 : Int32)] := B85
    replace K := K.wr X85 (Or.inr sz_b68)
    refine C.iload (pc' := 88) at_86 rfl rfl ?_
    refine C.iconst (v := 1) (pc' := 89) at_88 rfl rfl ?_
    refine C.icmp_le (pc' := 92) (pt := 101) at_89 rfl rfl (fun c89 => absurd (by decide) c89) (fun c89 => ?_)
    refine C.aload (pc' := 94) at_92 rfl rfl rfl ?_
    refine C.iconst (v := 1) (pc' := 95) at_94 rfl rfl ?_
    refine C.iload (pc' := 97) at_95 rfl rfl ?_
    refine C.bipush (v := 8) (pc' := 99) at_97 rfl rfl ?_
    refine C.imul (pc' := 100) at_99 rfl ?_
    refine C.stAI (i := 1) A_b68 (by decide) (by show 1 < 3; decide) g_b68 (pc' := 101) at_100 rfl (fun h100 X100 B100 => ?_)
    replace A_b44 := A_b44.other X100 ne_b44_b68
    have A_b68 : AI Z h100 b68 [(v15 * (8 : Int32)), (v23 * (8 : Int32)), (0 : Int32)] := B100
    replace K := K.wr X100 (Or.inr sz_b68)
    refine C.iload (pc' := 103) at_101 rfl rfl ?_
    refine C.iconst (v := 2) (pc' := 104) at_103 rfl rfl ?_
    refine C.icmp_le (pc' := 107) (pt := 116) at_104 rfl rfl (fun c104 => absurd (by decide) c104) (fun c104 => ?_)
    refine C.aload (pc' := 109) at_107 rfl rfl rfl ?_
    refine C.iconst (v := 2) (pc' := 110) at_109 rfl rfl ?_
    refine C.iload (pc' := 112) at_110 rfl rfl ?_
    refine C.bipush (v := 8) (pc' := 114) at_112 rfl rfl ?_
    refine C.imul (pc' := 115) at_114 rfl ?_
    refine C.stAI (i := 2) A_b68 (by decide) (by show 2 < 3; decide) g_b68 (pc' := 116) at_115 rfl (fun h115 X115 B115 => ?_)
    replace A_b44 := A_b44.other X115 ne_b44_b68
    have A_b68 : AI Z h115 b68 [(v15 * (8 : Int32)), (v23 * (8 : Int32)), (v32 * (8 : Int32))] := B115
    replace K := K.wr X115 (Or.inr sz_b68)
    refine C.iload (pc' := 118) at_116 rfl rfl ?_
    refine C.iconst (v := 3) (pc' := 119) at_118 rfl rfl ?_
    refine C.icmp_le (pc' := 122) (pt := 131) at_119 rfl rfl (fun c119 => ?_) (fun c119 => absurd c119 (by decide))
    refine C.aload (pc' := 133) at_131 rfl rfl rfl ?_
    refine C.aload (pc' := 135) at_133 rfl rfl rfl ?_
    refine C.calls (w := 0) (own_rm1 l Z a0 hw n0 h115 b44 b68 [p1, p2, p3, p4] [(v15 * (8 : Int32)), (v23 * (8 : Int32)), (v32 * (8 : Int32))] (3 : Int32) (Nat.le_trans Z0 K.1) A_b44 A_b68 (by decide : (3 : Int32).toInt = ((3 : Nat) : Int)) (by decide : 3 ≤ 4) (by intro s hs; simp only [List.mem_cons, List.not_mem_nil, or_false] at hs; rcases hs with rfl | rfl | rfl <;> first | exact own_rng e15 | exact own_rng e23 | exact own_rng e32)) (ow2 hw) (ow3 hw) (ow4 hw) (ow5 hw) (pc' := 138) at_135 rfl rfl rfl (by decide) pd___J_I__J rfl (by decide) (Nat.le_of_eq rfl) (by decide) (by decide) (by decide) (kA fun r135 h135 q135 => ?_)
    obtain ⟨K135, z135_r135, N135_0⟩ := q135
    have ne_b44_r135 : b44 ≠ r135 := Nat.ne_of_lt (Nat.lt_of_lt_of_le A_b44.lt z135_r135)
    have ne_b68_r135 : b68 ≠ r135 := Nat.ne_of_lt (Nat.lt_of_lt_of_le A_b68.lt z135_r135)
    have sz_r135 : hO.size ≤ r135 := Nat.le_trans K.1 z135_r135
    have g_r135 : n0 ≤ r135 := Nat.le_trans Z0 sz_r135
    replace A_b44 := A_b44.keep K135 nin0
    replace A_b68 := A_b68.keep K135 nin0
    have A_r135 : AJ Z h135 r135 [(runV [p1, p2, p3, p4] (v15 * (8 : Int32))), (runV [p1, p2, p3, p4] (v23 * (8 : Int32))), (runV [p1, p2, p3, p4] (v32 * (8 : Int32)))] := N135_0
    replace K := K.trans K135 all0
    refine C.astore (l' := #[.val (.long p1), .second, .val (.long p2), .second, .val (.long p3), .second, .val (.long p4), .second, .val (.int p5), .val (.int (3 : Int32)), .val (.int v15), .val (.int v23), .val (.int v32), .val (.int v41), .val (.ref b44), .val (.ref b68), .val (.ref r135)]) (pc' := 140) at_138 rfl rfl rfl ?_
    refine C.aload (pc' := 142) at_140 rfl rfl rfl ?_
    refine C.ifnullNo (pc' := 145) at_142 rfl ?_
    refine C.aload (pc' := 147) at_145 rfl rfl rfl ?_
    refine C.lenAJ (z := 3) A_r135 (by show (3 : Int32).toInt = ((3 : Nat) : Int); decide) (pc' := 148) at_147 rfl ?_
    refine C.iload (pc' := 150) at_148 rfl rfl ?_
    refine C.icmp_eq (pc' := 153) (pt := 155) at_150 rfl rfl (fun c150 => ?_) (fun c150 => absurd rfl c150)
    refine C.iload (pc' := 157) at_155 rfl rfl ?_
    refine C.if_le (pc' := 160) (pt := 181) at_157 rfl rfl (fun c157 => absurd (by decide) c157) (fun c157 => ?_)
    refine C.aload (pc' := 162) at_160 rfl rfl rfl ?_
    refine C.iconst (v := 0) (pc' := 163) at_162 rfl rfl ?_
    refine C.ldAJ (i := 0) (v := (runV [p1, p2, p3, p4] (v15 * (8 : Int32)))) A_r135 (by decide) rfl (pc' := 164) at_163 rfl ?_
    refine C.lloadN (pc' := 165) at_164 rfl rfl ?_
    refine C.lloadN (pc' := 166) at_165 rfl rfl ?_
    refine C.lload (pc' := 168) at_166 rfl rfl ?_
    refine C.lload (pc' := 170) at_168 rfl rfl ?_
    refine C.iload (pc' := 172) at_170 rfl rfl ?_
    refine C.calls (w := 2) (own_rm2 l Z a0 hw n0 h135 p1 p2 p3 p4 v15) (ow6 hw) (ow7 hw) (ow8 hw) (ow9 hw) (pc' := 175) at_172 rfl rfl rfl (by decide) pd__JJJJI_J rfl (by decide) (Nat.le_of_eq rfl) (by decide) (by decide) (by decide) (kJe ?_)
    refine C.lif_eq (pc' := 179) (pt := 181) at_175 rfl at_176 rfl rfl (fun c175 => ?_) (fun c175 => absurd (own_pk e15) c175)
    refine C.iload (pc' := 183) at_181 rfl rfl ?_
    refine C.iconst (v := 1) (pc' := 184) at_183 rfl rfl ?_
    refine C.icmp_le (pc' := 187) (pt := 208) at_184 rfl rfl (fun c184 => absurd (by decide) c184) (fun c184 => ?_)
    refine C.aload (pc' := 189) at_187 rfl rfl rfl ?_
    refine C.iconst (v := 1) (pc' := 190) at_189 rfl rfl ?_
    refine C.ldAJ (i := 1) (v := (runV [p1, p2, p3, p4] (v23 * (8 : Int32)))) A_r135 (by decide) rfl (pc' := 191) at_190 rfl ?_
    refine C.lloadN (pc' := 192) at_191 rfl rfl ?_
    refine C.lloadN (pc' := 193) at_192 rfl rfl ?_
    refine C.lload (pc' := 195) at_193 rfl rfl ?_
    refine C.lload (pc' := 197) at_195 rfl rfl ?_
    refine C.iload (pc' := 199) at_197 rfl rfl ?_
    refine C.calls (w := 2) (own_rm2 l Z a0 hw n0 h135 p1 p2 p3 p4 v23) (ow6 hw) (ow7 hw) (ow8 hw) (ow9 hw) (pc' := 202) at_199 rfl rfl rfl (by decide) pd__JJJJI_J rfl (by decide) (Nat.le_of_eq rfl) (by decide) (by decide) (by decide) (kJe ?_)
    refine C.lif_eq (pc' := 206) (pt := 208) at_202 rfl at_203 rfl rfl (fun c202 => ?_) (fun c202 => absurd (own_pk e23) c202)
    refine C.iload (pc' := 210) at_208 rfl rfl ?_
    refine C.iconst (v := 2) (pc' := 211) at_210 rfl rfl ?_
    refine C.icmp_le (pc' := 214) (pt := 235) at_211 rfl rfl (fun c211 => absurd (by decide) c211) (fun c211 => ?_)
    refine C.aload (pc' := 216) at_214 rfl rfl rfl ?_
    refine C.iconst (v := 2) (pc' := 217) at_216 rfl rfl ?_
    refine C.ldAJ (i := 2) (v := (runV [p1, p2, p3, p4] (v32 * (8 : Int32)))) A_r135 (by decide) rfl (pc' := 218) at_217 rfl ?_
    refine C.lloadN (pc' := 219) at_218 rfl rfl ?_
    refine C.lloadN (pc' := 220) at_219 rfl rfl ?_
    refine C.lload (pc' := 222) at_220 rfl rfl ?_
    refine C.lload (pc' := 224) at_222 rfl rfl ?_
    refine C.iload (pc' := 226) at_224 rfl rfl ?_
    refine C.calls (w := 2) (own_rm2 l Z a0 hw n0 h135 p1 p2 p3 p4 v32) (ow6 hw) (ow7 hw) (ow8 hw) (ow9 hw) (pc' := 229) at_226 rfl rfl rfl (by decide) pd__JJJJI_J rfl (by decide) (Nat.le_of_eq rfl) (by decide) (by decide) (by decide) (kJe ?_)
    refine C.lif_eq (pc' := 233) (pt := 235) at_229 rfl at_230 rfl rfl (fun c229 => ?_) (fun c229 => absurd (own_pk e32) c229)
    refine C.iload (pc' := 237) at_235 rfl rfl ?_
    refine C.iconst (v := 3) (pc' := 238) at_237 rfl rfl ?_
    refine C.icmp_le (pc' := 241) (pt := 262) at_238 rfl rfl (fun c238 => ?_) (fun c238 => absurd c238 (by decide))
    refine C.aload (pc' := 264) at_262 rfl rfl rfl ?_
    refine C.iconst (v := 0) (pc' := 265) at_264 rfl rfl ?_
    refine C.ldAJ (i := 0) (v := p1) A_b44 (by decide) rfl (pc' := 266) at_265 rfl ?_
    refine C.lloadN (pc' := 267) at_266 rfl rfl ?_
    refine C.lif_ne (pc' := 271) (pt := 300) at_267 rfl at_268 rfl rfl (fun c267 => absurd rfl c267) (fun c267 => ?_)
    refine C.aload (pc' := 273) at_271 rfl rfl rfl ?_
    refine C.iconst (v := 1) (pc' := 274) at_273 rfl rfl ?_
    refine C.ldAJ (i := 1) (v := p2) A_b44 (by decide) rfl (pc' := 275) at_274 rfl ?_
    refine C.lloadN (pc' := 276) at_275 rfl rfl ?_
    refine C.lif_ne (pc' := 280) (pt := 300) at_276 rfl at_277 rfl rfl (fun c276 => absurd rfl c276) (fun c276 => ?_)
    refine C.aload (pc' := 282) at_280 rfl rfl rfl ?_
    refine C.iconst (v := 2) (pc' := 283) at_282 rfl rfl ?_
    refine C.ldAJ (i := 2) (v := p3) A_b44 (by decide) rfl (pc' := 284) at_283 rfl ?_
    refine C.lload (pc' := 286) at_284 rfl rfl ?_
    refine C.lif_ne (pc' := 290) (pt := 300) at_286 rfl at_287 rfl rfl (fun c286 => absurd rfl c286) (fun c286 => ?_)
    refine C.aload (pc' := 292) at_290 rfl rfl rfl ?_
    refine C.iconst (v := 3) (pc' := 293) at_292 rfl rfl ?_
    refine C.ldAJ (i := 3) (v := p4) A_b44 (by decide) rfl (pc' := 294) at_293 rfl ?_
    refine C.lload (pc' := 296) at_294 rfl rfl ?_
    refine C.lif_eq (pc' := 300) (pt := 302) at_296 rfl at_297 rfl rfl (fun c296 => ?_) (fun c296 => absurd rfl c296)
    refine C.iload (pc' := 304) at_302 rfl rfl ?_
    refine C.if_le (pc' := 307) (pt := 321) at_304 rfl rfl (fun c304 => absurd (by decide) c304) (fun c304 => ?_)
    refine C.aload (pc' := 309) at_307 rfl rfl rfl ?_
    refine C.iconst (v := 0) (pc' := 310) at_309 rfl rfl ?_
    refine C.ldAI (i := 0) (v := (v15 * (8 : Int32))) A_b68 (by decide) rfl (pc' := 311) at_310 rfl ?_
    refine C.iload (pc' := 313) at_311 rfl rfl ?_
    refine C.bipush (v := 8) (pc' := 315) at_313 rfl rfl ?_
    refine C.imul (pc' := 316) at_315 rfl ?_
    refine C.icmp_eq (pc' := 319) (pt := 321) at_316 rfl rfl (fun c316 => ?_) (fun c316 => absurd rfl c316)
    refine C.iload (pc' := 323) at_321 rfl rfl ?_
    refine C.iconst (v := 1) (pc' := 324) at_323 rfl rfl ?_
    refine C.icmp_le (pc' := 327) (pt := 341) at_324 rfl rfl (fun c324 => absurd (by decide) c324) (fun c324 => ?_)
    refine C.aload (pc' := 329) at_327 rfl rfl rfl ?_
    refine C.iconst (v := 1) (pc' := 330) at_329 rfl rfl ?_
    refine C.ldAI (i := 1) (v := (v23 * (8 : Int32))) A_b68 (by decide) rfl (pc' := 331) at_330 rfl ?_
    refine C.iload (pc' := 333) at_331 rfl rfl ?_
    refine C.bipush (v := 8) (pc' := 335) at_333 rfl rfl ?_
    refine C.imul (pc' := 336) at_335 rfl ?_
    refine C.icmp_eq (pc' := 339) (pt := 341) at_336 rfl rfl (fun c336 => ?_) (fun c336 => absurd rfl c336)
    refine C.iload (pc' := 343) at_341 rfl rfl ?_
    refine C.iconst (v := 2) (pc' := 344) at_343 rfl rfl ?_
    refine C.icmp_le (pc' := 347) (pt := 361) at_344 rfl rfl (fun c344 => absurd (by decide) c344) (fun c344 => ?_)
    refine C.aload (pc' := 349) at_347 rfl rfl rfl ?_
    refine C.iconst (v := 2) (pc' := 350) at_349 rfl rfl ?_
    refine C.ldAI (i := 2) (v := (v32 * (8 : Int32))) A_b68 (by decide) rfl (pc' := 351) at_350 rfl ?_
    refine C.iload (pc' := 353) at_351 rfl rfl ?_
    refine C.bipush (v := 8) (pc' := 355) at_353 rfl rfl ?_
    refine C.imul (pc' := 356) at_355 rfl ?_
    refine C.icmp_eq (pc' := 359) (pt := 361) at_356 rfl rfl (fun c356 => ?_) (fun c356 => absurd rfl c356)
    refine C.iload (pc' := 363) at_361 rfl rfl ?_
    refine C.iconst (v := 3) (pc' := 364) at_363 rfl rfl ?_
    refine C.icmp_le (pc' := 367) (pt := 381) at_364 rfl rfl (fun c364 => ?_) (fun c364 => absurd c364 (by decide))
    refine C.iconst (v := 1) (pc' := 382) at_381 rfl rfl ?_
    refine C.retZ (show ret = some .boolean from rfl) (by decide) at_382 (by decide) (by decide) ⟨_, rfl, rfl⟩
  · subst q7
    refine C.iconst (v := 4) (pc' := 44) at_43 rfl rfl ?_
    refine C.newAJ (N := 4) (cap := 4) (ow0 hw) (pc' := 46) at_44 rfl (by decide) (by decide) (by decide) (by decide) (by decide) (fun h44 b44 hb44 X44 A_b44 => ?_)
    have sz_b44 : hO.size ≤ b44 := by rw [hb44]; exact K.1
    have g_b44 : n0 ≤ b44 := Nat.le_trans Z0 sz_b44
    replace K := K.ext X44
    replace A_b44 : AJ Z h44 b44 [(0 : Int64), (0 : Int64), (0 : Int64), (0 : Int64)] := A_b44
    refine C.dup (pc' := 47) at_46 rfl rfl ?_
    refine C.iconst (v := 0) (pc' := 48) at_47 rfl rfl ?_
    refine C.lloadN (pc' := 49) at_48 rfl rfl ?_
    refine C.stAJ (i := 0) A_b44 (by decide) (by show 0 < 4; decide) g_b44 (pc' := 50) at_49 rfl (fun h49 X49 B49 => ?_)
    have A_b44 : AJ Z h49 b44 [p1, (0 : Int64), (0 : Int64), (0 : Int64)] := B49
    replace K := K.wr X49 (Or.inr sz_b44)
    refine C.dup (pc' := 51) at_50 rfl rfl ?_
    refine C.iconst (v := 1) (pc' := 52) at_51 rfl rfl ?_
    refine C.lloadN (pc' := 53) at_52 rfl rfl ?_
    refine C.stAJ (i := 1) A_b44 (by decide) (by show 1 < 4; decide) g_b44 (pc' := 54) at_53 rfl (fun h53 X53 B53 => ?_)
    have A_b44 : AJ Z h53 b44 [p1, p2, (0 : Int64), (0 : Int64)] := B53
    replace K := K.wr X53 (Or.inr sz_b44)
    refine C.dup (pc' := 55) at_54 rfl rfl ?_
    refine C.iconst (v := 2) (pc' := 56) at_55 rfl rfl ?_
    refine C.lload (pc' := 58) at_56 rfl rfl ?_
    refine C.stAJ (i := 2) A_b44 (by decide) (by show 2 < 4; decide) g_b44 (pc' := 59) at_58 rfl (fun h58 X58 B58 => ?_)
    have A_b44 : AJ Z h58 b44 [p1, p2, p3, (0 : Int64)] := B58
    replace K := K.wr X58 (Or.inr sz_b44)
    refine C.dup (pc' := 60) at_59 rfl rfl ?_
    refine C.iconst (v := 3) (pc' := 61) at_60 rfl rfl ?_
    refine C.lload (pc' := 63) at_61 rfl rfl ?_
    refine C.stAJ (i := 3) A_b44 (by decide) (by show 3 < 4; decide) g_b44 (pc' := 64) at_63 rfl (fun h63 X63 B63 => ?_)
    have A_b44 : AJ Z h63 b44 [p1, p2, p3, p4] := B63
    replace K := K.wr X63 (Or.inr sz_b44)
    refine C.astore (l' := #[.val (.long p1), .second, .val (.long p2), .second, .val (.long p3), .second, .val (.long p4), .second, .val (.int p5), .val (.int (4 : Int32)), .val (.int v15), .val (.int v23), .val (.int v32), .val (.int v41), .val (.ref b44), .unset, .unset]) (pc' := 66) at_64 rfl rfl rfl ?_
    refine C.iload (pc' := 68) at_66 rfl rfl ?_
    refine C.newAI (N := 4) (cap := 4) (ow1 hw) (pc' := 70) at_68 rfl (by decide) (by decide) (by decide) (by decide) (by decide) (fun h68 b68 hb68 X68 A_b68 => ?_)
    have ne_b44_b68 : b44 ≠ b68 := by rw [hb68]; exact Nat.ne_of_lt A_b44.lt
    have sz_b68 : hO.size ≤ b68 := by rw [hb68]; exact K.1
    have g_b68 : n0 ≤ b68 := Nat.le_trans Z0 sz_b68
    replace A_b44 := A_b44.ext X68
    replace K := K.ext X68
    replace A_b68 : AI Z h68 b68 [(0 : Int32), (0 : Int32), (0 : Int32), (0 : Int32)] := A_b68
    refine C.astore (l' := #[.val (.long p1), .second, .val (.long p2), .second, .val (.long p3), .second, .val (.long p4), .second, .val (.int p5), .val (.int (4 : Int32)), .val (.int v15), .val (.int v23), .val (.int v32), .val (.int v41), .val (.ref b44), .val (.ref b68), .unset]) (pc' := 72) at_70 rfl rfl rfl ?_
    refine C.iload (pc' := 74) at_72 rfl rfl ?_
    refine C.if_le (pc' := 77) (pt := 86) at_74 rfl rfl (fun c74 => absurd (by decide) c74) (fun c74 => ?_)
    refine C.aload (pc' := 79) at_77 rfl rfl rfl ?_
    refine C.iconst (v := 0) (pc' := 80) at_79 rfl rfl ?_
    refine C.iload (pc' := 82) at_80 rfl rfl ?_
    refine C.bipush (v := 8) (pc' := 84) at_82 rfl rfl ?_
    refine C.imul (pc' := 85) at_84 rfl ?_
    refine C.stAI (i := 0) A_b68 (by decide) (by show 0 < 4; decide) g_b68 (pc' := 86) at_85 rfl (fun h85 X85 B85 => ?_)
    replace A_b44 := A_b44.other X85 ne_b44_b68
    have A_b68 : AI Z h85 b68 [(v15 * (8 : Int32)), (0 : Int32), (0 : Int32), (0 : Int32)] := B85
    replace K := K.wr X85 (Or.inr sz_b68)
    refine C.iload (pc' := 88) at_86 rfl rfl ?_
    refine C.iconst (v := 1) (pc' := 89) at_88 rfl rfl ?_
    refine C.icmp_le (pc' := 92) (pt := 101) at_89 rfl rfl (fun c89 => absurd (by decide) c89) (fun c89 => ?_)
    refine C.aload (pc' := 94) at_92 rfl rfl rfl ?_
    refine C.iconst (v := 1) (pc' := 95) at_94 rfl rfl ?_
    refine C.iload (pc' := 97) at_95 rfl rfl ?_
    refine C.bipush (v := 8) (pc' := 99) at_97 rfl rfl ?_
    refine C.imul (pc' := 100) at_99 rfl ?_
    refine C.stAI (i := 1) A_b68 (by decide) (by show 1 < 4; decide) g_b68 (pc' := 101) at_100 rfl (fun h100 X100 B100 => ?_)
    replace A_b44 := A_b44.other X100 ne_b44_b68
    have A_b68 : AI Z h100 b68 [(v15 * (8 : Int32)), (v23 * (8 : Int32)), (0 : Int32), (0 : Int32)] := B100
    replace K := K.wr X100 (Or.inr sz_b68)
    refine C.iload (pc' := 103) at_101 rfl rfl ?_
    refine C.iconst (v := 2) (pc' := 104) at_103 rfl rfl ?_
    refine C.icmp_le (pc' := 107) (pt := 116) at_104 rfl rfl (fun c104 => absurd (by decide) c104) (fun c104 => ?_)
    refine C.aload (pc' := 109) at_107 rfl rfl rfl ?_
    refine C.iconst (v := 2) (pc' := 110) at_109 rfl rfl ?_
    refine C.iload (pc' := 112) at_110 rfl rfl ?_
    refine C.bipush (v := 8) (pc' := 114) at_112 rfl rfl ?_
    refine C.imul (pc' := 115) at_114 rfl ?_
    refine C.stAI (i := 2) A_b68 (by decide) (by show 2 < 4; decide) g_b68 (pc' := 116) at_115 rfl (fun h115 X115 B115 => ?_)
    replace A_b44 := A_b44.other X115 ne_b44_b68
    have A_b68 : AI Z h115 b68 [(v15 * (8 : Int32)), (v23 * (8 : Int32)), (v32 * (8 : Int32)), (0 : Int32)] := B115
    replace K := K.wr X115 (Or.inr sz_b68)
    refine C.iload (pc' := 118) at_116 rfl rfl ?_
    refine C.iconst (v := 3) (pc' := 119) at_118 rfl rfl ?_
    refine C.icmp_le (pc' := 122) (pt := 131) at_119 rfl rfl (fun c119 => absurd (by decide) c119) (fun c119 => ?_)
    refine C.aload (pc' := 124) at_122 rfl rfl rfl ?_
    refine C.iconst (v := 3) (pc' := 125) at_124 rfl rfl ?_
    refine C.iload (pc' := 127) at_125 rfl rfl ?_
    refine C.bipush (v := 8) (pc' := 129) at_127 rfl rfl ?_
    refine C.imul (pc' := 130) at_129 rfl ?_
    refine C.stAI (i := 3) A_b68 (by decide) (by show 3 < 4; decide) g_b68 (pc' := 131) at_130 rfl (fun h130 X130 B130 => ?_)
    replace A_b44 := A_b44.other X130 ne_b44_b68
    have A_b68 : AI Z h130 b68 [(v15 * (8 : Int32)), (v23 * (8 : Int32)), (v32 * (8 : Int32)), (v41 * (8 : Int32))] := B130
    replace K := K.wr X130 (Or.inr sz_b68)
    refine C.aload (pc' := 133) at_131 rfl rfl rfl ?_
    refine C.aload (pc' := 135) at_133 rfl rfl rfl ?_
    refine C.calls (w := 0) (own_rm1 l Z a0 hw n0 h130 b44 b68 [p1, p2, p3, p4] [(v15 * (8 : Int32)), (v23 * (8 : Int32)), (v32 * (8 : Int32)), (v41 * (8 : Int32))] (4 : Int32) (Nat.le_trans Z0 K.1) A_b44 A_b68 (by decide : (4 : Int32).toInt = ((4 : Nat) : Int)) (by decide : 4 ≤ 4) (by intro s hs; simp only [List.mem_cons, List.not_mem_nil, or_false] at hs; rcases hs with rfl | rfl | rfl | rfl <;> first | exact own_rng e15 | exact own_rng e23 | exact own_rng e32 | exact own_rng e41)) (ow2 hw) (ow3 hw) (ow4 hw) (ow5 hw) (pc' := 138) at_135 rfl rfl rfl (by decide) pd___J_I__J rfl (by decide) (Nat.le_of_eq rfl) (by decide) (by decide) (by decide) (kA fun r135 h135 q135 => ?_)
    obtain ⟨K135, z135_r135, N135_0⟩ := q135
    have ne_b44_r135 : b44 ≠ r135 := Nat.ne_of_lt (Nat.lt_of_lt_of_le A_b44.lt z135_r135)
    have ne_b68_r135 : b68 ≠ r135 := Nat.ne_of_lt (Nat.lt_of_lt_of_le A_b68.lt z135_r135)
    have sz_r135 : hO.size ≤ r135 := Nat.le_trans K.1 z135_r135
    have g_r135 : n0 ≤ r135 := Nat.le_trans Z0 sz_r135
    replace A_b44 := A_b44.keep K135 nin0
    replace A_b68 := A_b68.keep K135 nin0
    have A_r135 : AJ Z h135 r135 [(runV [p1, p2, p3, p4] (v15 * (8 : Int32))), (runV [p1, p2, p3, p4] (v23 * (8 : Int32))), (runV [p1, p2, p3, p4] (v32 * (8 : Int32))), (runV [p1, p2, p3, p4] (v41 * (8 : Int32)))] := N135_0
    replace K := K.trans K135 all0
    refine C.astore (l' := #[.val (.long p1), .second, .val (.long p2), .second, .val (.long p3), .second, .val (.long p4), .second, .val (.int p5), .val (.int (4 : Int32)), .val (.int v15), .val (.int v23), .val (.int v32), .val (.int v41), .val (.ref b44), .val (.ref b68), .val (.ref r135)]) (pc' := 140) at_138 rfl rfl rfl ?_
    refine C.aload (pc' := 142) at_140 rfl rfl rfl ?_
    refine C.ifnullNo (pc' := 145) at_142 rfl ?_
    refine C.aload (pc' := 147) at_145 rfl rfl rfl ?_
    refine C.lenAJ (z := 4) A_r135 (by show (4 : Int32).toInt = ((4 : Nat) : Int); decide) (pc' := 148) at_147 rfl ?_
    refine C.iload (pc' := 150) at_148 rfl rfl ?_
    refine C.icmp_eq (pc' := 153) (pt := 155) at_150 rfl rfl (fun c150 => ?_) (fun c150 => absurd rfl c150)
    refine C.iload (pc' := 157) at_155 rfl rfl ?_
    refine C.if_le (pc' := 160) (pt := 181) at_157 rfl rfl (fun c157 => absurd (by decide) c157) (fun c157 => ?_)
    refine C.aload (pc' := 162) at_160 rfl rfl rfl ?_
    refine C.iconst (v := 0) (pc' := 163) at_162 rfl rfl ?_
    refine C.ldAJ (i := 0) (v := (runV [p1, p2, p3, p4] (v15 * (8 : Int32)))) A_r135 (by decide) rfl (pc' := 164) at_163 rfl ?_
    refine C.lloadN (pc' := 165) at_164 rfl rfl ?_
    refine C.lloadN (pc' := 166) at_165 rfl rfl ?_
    refine C.lload (pc' := 168) at_166 rfl rfl ?_
    refine C.lload (pc' := 170) at_168 rfl rfl ?_
    refine C.iload (pc' := 172) at_170 rfl rfl ?_
    refine C.calls (w := 2) (own_rm2 l Z a0 hw n0 h135 p1 p2 p3 p4 v15) (ow6 hw) (ow7 hw) (ow8 hw) (ow9 hw) (pc' := 175) at_172 rfl rfl rfl (by decide) pd__JJJJI_J rfl (by decide) (Nat.le_of_eq rfl) (by decide) (by decide) (by decide) (kJe ?_)
    refine C.lif_eq (pc' := 179) (pt := 181) at_175 rfl at_176 rfl rfl (fun c175 => ?_) (fun c175 => absurd (own_pk e15) c175)
    refine C.iload (pc' := 183) at_181 rfl rfl ?_
    refine C.iconst (v := 1) (pc' := 184) at_183 rfl rfl ?_
    refine C.icmp_le (pc' := 187) (pt := 208) at_184 rfl rfl (fun c184 => absurd (by decide) c184) (fun c184 => ?_)
    refine C.aload (pc' := 189) at_187 rfl rfl rfl ?_
    refine C.iconst (v := 1) (pc' := 190) at_189 rfl rfl ?_
    refine C.ldAJ (i := 1) (v := (runV [p1, p2, p3, p4] (v23 * (8 : Int32)))) A_r135 (by decide) rfl (pc' := 191) at_190 rfl ?_
    refine C.lloadN (pc' := 192) at_191 rfl rfl ?_
    refine C.lloadN (pc' := 193) at_192 rfl rfl ?_
    refine C.lload (pc' := 195) at_193 rfl rfl ?_
    refine C.lload (pc' := 197) at_195 rfl rfl ?_
    refine C.iload (pc' := 199) at_197 rfl rfl ?_
    refine C.calls (w := 2) (own_rm2 l Z a0 hw n0 h135 p1 p2 p3 p4 v23) (ow6 hw) (ow7 hw) (ow8 hw) (ow9 hw) (pc' := 202) at_199 rfl rfl rfl (by decide) pd__JJJJI_J rfl (by decide) (Nat.le_of_eq rfl) (by decide) (by decide) (by decide) (kJe ?_)
    refine C.lif_eq (pc' := 206) (pt := 208) at_202 rfl at_203 rfl rfl (fun c202 => ?_) (fun c202 => absurd (own_pk e23) c202)
    refine C.iload (pc' := 210) at_208 rfl rfl ?_
    refine C.iconst (v := 2) (pc' := 211) at_210 rfl rfl ?_
    refine C.icmp_le (pc' := 214) (pt := 235) at_211 rfl rfl (fun c211 => absurd (by decide) c211) (fun c211 => ?_)
    refine C.aload (pc' := 216) at_214 rfl rfl rfl ?_
    refine C.iconst (v := 2) (pc' := 217) at_216 rfl rfl ?_
    refine C.ldAJ (i := 2) (v := (runV [p1, p2, p3, p4] (v32 * (8 : Int32)))) A_r135 (by decide) rfl (pc' := 218) at_217 rfl ?_
    refine C.lloadN (pc' := 219) at_218 rfl rfl ?_
    refine C.lloadN (pc' := 220) at_219 rfl rfl ?_
    refine C.lload (pc' := 222) at_220 rfl rfl ?_
    refine C.lload (pc' := 224) at_222 rfl rfl ?_
    refine C.iload (pc' := 226) at_224 rfl rfl ?_
    refine C.calls (w := 2) (own_rm2 l Z a0 hw n0 h135 p1 p2 p3 p4 v32) (ow6 hw) (ow7 hw) (ow8 hw) (ow9 hw) (pc' := 229) at_226 rfl rfl rfl (by decide) pd__JJJJI_J rfl (by decide) (Nat.le_of_eq rfl) (by decide) (by decide) (by decide) (kJe ?_)
    refine C.lif_eq (pc' := 233) (pt := 235) at_229 rfl at_230 rfl rfl (fun c229 => ?_) (fun c229 => absurd (own_pk e32) c229)
    refine C.iload (pc' := 237) at_235 rfl rfl ?_
    refine C.iconst (v := 3) (pc' := 238) at_237 rfl rfl ?_
    refine C.icmp_le (pc' := 241) (pt := 262) at_238 rfl rfl (fun c238 => absurd (by decide) c238) (fun c238 => ?_)
    refine C.aload (pc' := 243) at_241 rfl rfl rfl ?_
    refine C.iconst (v := 3) (pc' := 244) at_243 rfl rfl ?_
    refine C.ldAJ (i := 3) (v := (runV [p1, p2, p3, p4] (v41 * (8 : Int32)))) A_r135 (by decide) rfl (pc' := 245) at_244 rfl ?_
    refine C.lloadN (pc' := 246) at_245 rfl rfl ?_
    refine C.lloadN (pc' := 247) at_246 rfl rfl ?_
    refine C.lload (pc' := 249) at_247 rfl rfl ?_
    refine C.lload (pc' := 251) at_249 rfl rfl ?_
    refine C.iload (pc' := 253) at_251 rfl rfl ?_
    refine C.calls (w := 2) (own_rm2 l Z a0 hw n0 h135 p1 p2 p3 p4 v41) (ow6 hw) (ow7 hw) (ow8 hw) (ow9 hw) (pc' := 256) at_253 rfl rfl rfl (by decide) pd__JJJJI_J rfl (by decide) (Nat.le_of_eq rfl) (by decide) (by decide) (by decide) (kJe ?_)
    refine C.lif_eq (pc' := 260) (pt := 262) at_256 rfl at_257 rfl rfl (fun c256 => ?_) (fun c256 => absurd (own_pk e41) c256)
    refine C.aload (pc' := 264) at_262 rfl rfl rfl ?_
    refine C.iconst (v := 0) (pc' := 265) at_264 rfl rfl ?_
    refine C.ldAJ (i := 0) (v := p1) A_b44 (by decide) rfl (pc' := 266) at_265 rfl ?_
    refine C.lloadN (pc' := 267) at_266 rfl rfl ?_
    refine C.lif_ne (pc' := 271) (pt := 300) at_267 rfl at_268 rfl rfl (fun c267 => absurd rfl c267) (fun c267 => ?_)
    refine C.aload (pc' := 273) at_271 rfl rfl rfl ?_
    refine C.iconst (v := 1) (pc' := 274) at_273 rfl rfl ?_
    refine C.ldAJ (i := 1) (v := p2) A_b44 (by decide) rfl (pc' := 275) at_274 rfl ?_
    refine C.lloadN (pc' := 276) at_275 rfl rfl ?_
    refine C.lif_ne (pc' := 280) (pt := 300) at_276 rfl at_277 rfl rfl (fun c276 => absurd rfl c276) (fun c276 => ?_)
    refine C.aload (pc' := 282) at_280 rfl rfl rfl ?_
    refine C.iconst (v := 2) (pc' := 283) at_282 rfl rfl ?_
    refine C.ldAJ (i := 2) (v := p3) A_b44 (by decide) rfl (pc' := 284) at_283 rfl ?_
    refine C.lload (pc' := 286) at_284 rfl rfl ?_
    refine C.lif_ne (pc' := 290) (pt := 300) at_286 rfl at_287 rfl rfl (fun c286 => absurd rfl c286) (fun c286 => ?_)
    refine C.aload (pc' := 292) at_290 rfl rfl rfl ?_
    refine C.iconst (v := 3) (pc' := 293) at_292 rfl rfl ?_
    refine C.ldAJ (i := 3) (v := p4) A_b44 (by decide) rfl (pc' := 294) at_293 rfl ?_
    refine C.lload (pc' := 296) at_294 rfl rfl ?_
    refine C.lif_eq (pc' := 300) (pt := 302) at_296 rfl at_297 rfl rfl (fun c296 => ?_) (fun c296 => absurd rfl c296)
    refine C.iload (pc' := 304) at_302 rfl rfl ?_
    refine C.if_le (pc' := 307) (pt := 321) at_304 rfl rfl (fun c304 => absurd (by decide) c304) (fun c304 => ?_)
    refine C.aload (pc' := 309) at_307 rfl rfl rfl ?_
    refine C.iconst (v := 0) (pc' := 310) at_309 rfl rfl ?_
    refine C.ldAI (i := 0) (v := (v15 * (8 : Int32))) A_b68 (by decide) rfl (pc' := 311) at_310 rfl ?_
    refine C.iload (pc' := 313) at_311 rfl rfl ?_
    refine C.bipush (v := 8) (pc' := 315) at_313 rfl rfl ?_
    refine C.imul (pc' := 316) at_315 rfl ?_
    refine C.icmp_eq (pc' := 319) (pt := 321) at_316 rfl rfl (fun c316 => ?_) (fun c316 => absurd rfl c316)
    refine C.iload (pc' := 323) at_321 rfl rfl ?_
    refine C.iconst (v := 1) (pc' := 324) at_323 rfl rfl ?_
    refine C.icmp_le (pc' := 327) (pt := 341) at_324 rfl rfl (fun c324 => absurd (by decide) c324) (fun c324 => ?_)
    refine C.aload (pc' := 329) at_327 rfl rfl rfl ?_
    refine C.iconst (v := 1) (pc' := 330) at_329 rfl rfl ?_
    refine C.ldAI (i := 1) (v := (v23 * (8 : Int32))) A_b68 (by decide) rfl (pc' := 331) at_330 rfl ?_
    refine C.iload (pc' := 333) at_331 rfl rfl ?_
    refine C.bipush (v := 8) (pc' := 335) at_333 rfl rfl ?_
    refine C.imul (pc' := 336) at_335 rfl ?_
    refine C.icmp_eq (pc' := 339) (pt := 341) at_336 rfl rfl (fun c336 => ?_) (fun c336 => absurd rfl c336)
    refine C.iload (pc' := 343) at_341 rfl rfl ?_
    refine C.iconst (v := 2) (pc' := 344) at_343 rfl rfl ?_
    refine C.icmp_le (pc' := 347) (pt := 361) at_344 rfl rfl (fun c344 => absurd (by decide) c344) (fun c344 => ?_)
    refine C.aload (pc' := 349) at_347 rfl rfl rfl ?_
    refine C.iconst (v := 2) (pc' := 350) at_349 rfl rfl ?_
    refine C.ldAI (i := 2) (v := (v32 * (8 : Int32))) A_b68 (by decide) rfl (pc' := 351) at_350 rfl ?_
    refine C.iload (pc' := 353) at_351 rfl rfl ?_
    refine C.bipush (v := 8) (pc' := 355) at_353 rfl rfl ?_
    refine C.imul (pc' := 356) at_355 rfl ?_
    refine C.icmp_eq (pc' := 359) (pt := 361) at_356 rfl rfl (fun c356 => ?_) (fun c356 => absurd rfl c356)
    refine C.iload (pc' := 363) at_361 rfl rfl ?_
    refine C.iconst (v := 3) (pc' := 364) at_363 rfl rfl ?_
    refine C.icmp_le (pc' := 367) (pt := 381) at_364 rfl rfl (fun c364 => absurd (by decide) c364) (fun c364 => ?_)
    refine C.aload (pc' := 369) at_367 rfl rfl rfl ?_
    refine C.iconst (v := 3) (pc' := 370) at_369 rfl rfl ?_
    refine C.ldAI (i := 3) (v := (v41 * (8 : Int32))) A_b68 (by decide) rfl (pc' := 371) at_370 rfl ?_
    refine C.iload (pc' := 373) at_371 rfl rfl ?_
    refine C.bipush (v := 8) (pc' := 375) at_373 rfl rfl ?_
    refine C.imul (pc' := 376) at_375 rfl ?_
    refine C.icmp_eq (pc' := 379) (pt := 381) at_376 rfl rfl (fun c376 => ?_) (fun c376 => absurd rfl c376)
    refine C.iconst (v := 1) (pc' := 382) at_381 rfl rfl ?_
    refine C.retZ (show ret = some .boolean from rfl) (by decide) at_382 (by decide) (by decide) ⟨_, rfl, rfl⟩
set_option maxRecDepth 65536 in
set_option maxHeartbeats 40000000 in
theorem comes_1 {Post : Tables → Env → Array Value → State → Outcome → State → Prop} (hpost : ∀ tb e args s v u, (limb_1_1.after args s (.returned v) u = true ∧ limb_1_2.after args s (.returned v) u = true ∧ True) → FrameEnd s (.returned v) u (Jvm.fieldLocs frame_1_writes args s ++ Jvm.arrayLocs frame_1_arrays args s ++ Jvm.staticLocs frame_1_statics s) 16 128 → Post tb e args s (.returned v) u) :
    ArmFor flags0 classFile x code maxLocals ret World_1 tables_1 room_1 Calls_1 rest_1 Pre_1 Post := by
  intro l hfl _ _ p e ha hc hk s m args below hf hA hF happ hP
  obtain ⟨hcalls, hrest, hpre⟩ := hP
  obtain ⟨-, -, -, hnamed, -, -, -, hat⟩ := (Spec.applies_iff hf).mp happ
  obtain ⟨hg, hn⟩ := and_e (Cond.before_iff.mp (show (Jvm.Cond.and given_1 narrow_1).before args s = true from hpre))
  obtain ⟨g0, t0⟩ := and_e hg
  obtain ⟨k0, t1⟩ := and_e t0
  obtain ⟨k1, t2⟩ := and_e t1
  obtain ⟨k2, t3⟩ := and_e t2
  obtain ⟨k3, t4⟩ := and_e t3
  obtain ⟨w0_, w1_, w2_, w3_, w4_, rfl⟩ : ∃ w0_ w1_ w2_ w3_ w4_ : Value, args = #[w0_, w1_, w2_, w3_, w4_] := by
    have hs : args.size = 5 := by simpa [Cond.value, given_1] using g0
    obtain ⟨L⟩ := args
    match L, hs with
    | [w0_, w1_, w2_, w3_, w4_], _ => exact ⟨w0_, w1_, w2_, w3_, w4_, rfl⟩
  have hw := fun d (hd : d ∈ tables_1) => atoms_spec (ws := Jvm.Cond.code x code maxLocals ret :: tables_1) hat d (List.mem_cons_of_mem _ hd)
  obtain ⟨i0_, e0_⟩ := isL_v k0
  obtain rfl : w0_ = (.long i0_) := Option.some.inj e0_
  obtain ⟨i1_, e1_⟩ := isL_v k1
  obtain rfl : w1_ = (.long i1_) := Option.some.inj e1_
  obtain ⟨i2_, e2_⟩ := isL_v k2
  obtain rfl : w2_ = (.long i2_) := Option.some.inj e2_
  obtain ⟨i3_, e3_⟩ := isL_v k3
  obtain rfl : w3_ = (.long i3_) := Option.some.inj e3_
  obtain ⟨i4_, e4_⟩ := is_v t4
  obtain rfl : w4_ = (.int i4_) := Option.some.inj e4_
  obtain ⟨n, o, h1, h2, h3, _, L, rfl, ⟨N, _, rfl, rfl⟩, hq⟩ := own_rm0 l s _ hw s.heap.size s.heap i0_ i1_ i2_ i3_ i4_  (Nat.le_refl _)  tables_1 p e ha hc hk s m _ below hf ((Spec.applies_iff_loose hf).mp happ).1 ⟨rfl, State.Warmed39.refl s, rfl⟩ trivial
  refine ⟨n, _, h1, h2, h3, hpost _ _ _ _ _ _ ⟨Cond.after_iff.mpr rfl, Cond.after_iff.mpr (eq_i res_at (Term.int_eval (1)) rfl), trivial⟩ ⟨hq.1, hq.2.1, (hq.2.2.sift fun y hy => Or.inr (N y hy)).mono (by decide) (by decide)⟩⟩
theorem main_1_1 : Claimed_1_1 := comes_1 fun _ _ _ _ _ _ h hF => ⟨h.1, hF⟩
theorem main_1_2 : Claimed_1_2 := comes_1 fun _ _ _ _ _ _ h hF => ⟨h.2.1, hF⟩
end Jvm.Pilot.@@N@@
namespace Jvm.Pilot.@@N@@
open Jvm Jvm.ClassFile Sem Op Lib Jvm.Free Jvm.Stand Jvm.Pilot.@@N@@.Jvm.D
/-! MADE BY PROGRAM (witnessworld.py) out of the Statement's table words and the real class files: 11 classes; the members and pool entries that the words name. The judged class is class 1, her method 2. -/
namespace start1
open Jvm.ClassFile
def u (s : String) : CpInfo := .utf8 (stringToUtf16 s)
/-- a pool by its gaps: so many unusable entries, then the entry; so many at the end -/
def gap : Nat → List CpInfo → List CpInfo
  | 0, r => r
  | n + 1, r => .unusable :: gap n r
def poolList (es : List (Nat × CpInfo)) (last : Nat) : List CpInfo := es.foldr (fun e r => gap e.1 (e.2 :: r)) (gap last [])
def pool (es : List (Nat × CpInfo)) (last : Nat) : Array CpInfo := ⟨poolList es last⟩
def fileOf (pool : Array CpInfo) (this : Nat) (attrs : Array Attribute := #[]) (ms : Array MethodInfo := #[]) (fl : Nat := 33) (sup : Nat := 0) (ifs : Array Nat := #[]) (fds : Array FieldInfo := #[]) : ClassFile where
  minorVersion := 0
  majorVersion := 65
  constantPool := pool
  accessFlags := fl
  thisClass := this
  superClass := sup
  interfaces := ifs
  fields := fds
  methods := ms
  attributes := attrs
def plain (name : String) (sup : Option ClassId) : Class where
  name := name
  kind := .ordinary
  loader := none
  accessFlags := 33
  super := sup
  interfaces := #[]
  cf := none
  fields := #[]
  methods := #[]
  instanceTypes := #[]
  staticTypes := #[]
  resolved := #[]
  callSites := []
  init := .initialized
  statics := none
  mirror := none

def pool0 : Array CpInfo := pool [(5, u "<init>"), (0, u "()V"), (1, .class_ 10), (1, u "java/lang/Object")] 113

def k0m0 : Method := { name := "<init>", desc := "()V", sig := { parameters := [], returnType := none }, accessFlags := 1, code := none }
/-- java/lang/Object -/
def k0 : Class := { plain "java/lang/Object" none with
  accessFlags := 33
  interfaces := #[]
  cf := some (fileOf pool0 8 #[] #[{ accessFlags := 1, nameIndex := 5, descriptorIndex := 6, attributes := #[] }] 33 0 #[] #[])
  fields := #[]
  methods := #[k0m0]
  instanceTypes := #[]
  staticTypes := #[]
  resolved := Array.replicate 124 none
  statics := none }

def pool1 : Array CpInfo := pool [(2, .class_ 4), (1, u "java/lang/Object"), (0, u "<init>"), (0, u "()V"), (0, .methodref 8 9), (0, .class_ 10), (0, .nameAndType 11 12), (0, u "com/example/cobradora/cobradora/EightBytes"), (0, u "ofRuns"), (0, u "([J[I)[J"), (0, .methodref 14 15), (0, .class_ 16), (0, .nameAndType 17 18), (0, u "com/example/cobradora/cobradora/EightBytesOfRunsPinLaw"), (0, u "pick"), (0, u "(JJJJI)J"), (3, u "law"), (0, u "(JJJJI)Z")] 6

def k1m0 : Method := { name := "<init>", desc := "()V", sig := { parameters := [], returnType := none }, accessFlags := 2, code := none }
def k1c1 : Code := { maxStack := 2, maxLocals := 9, code := method_2_code, exceptionTable := #[], attributes := #[] }
def k1m1 : Method := { name := "pick", desc := "(JJJJI)J", sig := { parameters := [.long, .long, .long, .long, .int], returnType := some .long }, accessFlags := 10, code := some k1c1 }
def k1c2 : Code := { maxStack := 11, maxLocals := 17, code := code, exceptionTable := #[], attributes := #[] }
def k1m2 : Method := { name := "law", desc := "(JJJJI)Z", sig := { parameters := [.long, .long, .long, .long, .int], returnType := some .boolean }, accessFlags := 9, code := some k1c2 }
/-- com/example/cobradora/cobradora/EightBytesOfRunsPinLaw -/
def k1 : Class := { plain "com/example/cobradora/cobradora/EightBytesOfRunsPinLaw" (some 0) with
  accessFlags := 49
  interfaces := #[]
  cf := some (fileOf pool1 14 #[] #[{ accessFlags := 2, nameIndex := 5, descriptorIndex := 6, attributes := #[] }, { accessFlags := 10, nameIndex := 17, descriptorIndex := 18, attributes := #[] }, { accessFlags := 9, nameIndex := 22, descriptorIndex := 23, attributes := #[] }] 49 2 #[] #[])
  fields := #[]
  methods := #[k1m0, k1m1, k1m2]
  instanceTypes := #[]
  staticTypes := #[]
  resolved := Array.replicate 30 none
  statics := none }

def pool2 : Array CpInfo := pool [(3, .class_ 4), (0, u "com/example/cobradora/cobradora/EightBytes"), (1, .class_ 8), (1, u "java/lang/Object"), (0, u "<init>"), (0, u "()V"), (2, u "LONGS"), (0, u "Ljava/lang/invoke/VarHandle;"), (61, u "SIZE"), (0, u "I"), (2, u "ONES"), (0, u "J"), (0, u "HIGH_BITS"), (0, u "ZEROS"), (0, u "BLANKS"), (0, u "PAST_NINE"), (16, u "ofRuns"), (0, u "([J[I)[J")] 6

def k2m0 : Method := { name := "<init>", desc := "()V", sig := { parameters := [], returnType := none }, accessFlags := 2, code := none }
def k2c1 : Code := { maxStack := 5, maxLocals := 4, code := prog_45_method_11_code, exceptionTable := #[], attributes := #[] }
def k2m1 : Method := { name := "ofRuns", desc := "([J[I)[J", sig := { parameters := [(.array .long), (.array .int)], returnType := some (.array .long) }, accessFlags := 8, code := some k2c1 }
/-- com/example/cobradora/cobradora/EightBytes -/
def k2 : Class := { plain "com/example/cobradora/cobradora/EightBytes" (some 0) with
  accessFlags := 48
  interfaces := #[]
  cf := some (fileOf pool2 3 #[] #[{ accessFlags := 2, nameIndex := 9, descriptorIndex := 10, attributes := #[] }, { accessFlags := 8, nameIndex := 102, descriptorIndex := 103, attributes := #[] }] 48 6 #[] #[{ accessFlags := 24, nameIndex := 76, descriptorIndex := 77, attributes := #[] }, { accessFlags := 26, nameIndex := 13, descriptorIndex := 14, attributes := #[] }, { accessFlags := 26, nameIndex := 80, descriptorIndex := 81, attributes := #[] }, { accessFlags := 26, nameIndex := 82, descriptorIndex := 81, attributes := #[] }, { accessFlags := 26, nameIndex := 83, descriptorIndex := 81, attributes := #[] }, { accessFlags := 26, nameIndex := 84, descriptorIndex := 81, attributes := #[] }, { accessFlags := 26, nameIndex := 85, descriptorIndex := 81, attributes := #[] }])
  fields := #[{ name := "SIZE", type := .int, accessFlags := 24, slot := 0, constantValue := 0 }, { name := "LONGS", type := (.object "java/lang/invoke/VarHandle"), accessFlags := 26, slot := 1, constantValue := 0 }, { name := "ONES", type := .long, accessFlags := 26, slot := 2, constantValue := 0 }, { name := "HIGH_BITS", type := .long, accessFlags := 26, slot := 3, constantValue := 0 }, { name := "ZEROS", type := .long, accessFlags := 26, slot := 4, constantValue := 0 }, { name := "BLANKS", type := .long, accessFlags := 26, slot := 5, constantValue := 0 }, { name := "PAST_NINE", type := .long, accessFlags := 26, slot := 6, constantValue := 0 }]
  methods := #[k2m0, k2m1]
  instanceTypes := #[]
  staticTypes := #[.int, (.object "java/lang/invoke/VarHandle"), .long, .long, .long, .long, .long]
  resolved := Array.replicate 110 none
  statics := none }

def pool3 : Array CpInfo := pool [(1, u "java/lang/Cloneable"), (0, .class_ 1), (0, u "java/lang/Object"), (0, .class_ 3)] 3

/-- java/lang/Cloneable -/
def k3 : Class := { plain "java/lang/Cloneable" (some 0) with
  accessFlags := 1537
  interfaces := #[]
  cf := some (fileOf pool3 2 #[] #[] 1537 4 #[] #[])
  fields := #[]
  methods := #[]
  instanceTypes := #[]
  staticTypes := #[]
  resolved := Array.replicate 8 none
  statics := none }

def pool4 : Array CpInfo := pool [(1, u "java/io/Serializable"), (0, .class_ 1), (0, u "java/lang/Object"), (0, .class_ 3)] 3

/-- java/io/Serializable -/
def k4 : Class := { plain "java/io/Serializable" (some 0) with
  accessFlags := 1537
  interfaces := #[]
  cf := some (fileOf pool4 2 #[] #[] 1537 4 #[] #[])
  fields := #[]
  methods := #[]
  instanceTypes := #[]
  staticTypes := #[]
  resolved := Array.replicate 8 none
  statics := none }

/-- the primitive byte -/
def k5 : Class := { plain "byte" none with kind := .primitive 'B', accessFlags := 0x411 }
/-- [B -/
def k6 : Class := { plain "[B" (some 0) with kind := .array 5 .byte, interfaces := #[3, 4], accessFlags := 1041 }

/-- the primitive int -/
def k7 : Class := { plain "int" none with kind := .primitive 'I', accessFlags := 0x411 }
/-- [I -/
def k8 : Class := { plain "[I" (some 0) with kind := .array 7 .int, interfaces := #[3, 4], accessFlags := 1041 }

/-- the primitive long -/
def k9 : Class := { plain "long" none with kind := .primitive 'J', accessFlags := 0x411 }
/-- [J -/
def k10 : Class := { plain "[J" (some 0) with kind := .array 9 .long, interfaces := #[3, 4], accessFlags := 1041 }

def heap : Heap := #[]
def classes : Array Class := #[k0, k1, k2, k3, k4, k5, k6, k7, k8, k9, k10]
def interned : List (Array UInt16 × Addr) := []
def slotsUsed : Nat := 0
def theMethod : MethodId := ⟨1, 2⟩
def args0 : Array Value := #[.long 5, .long 5, .long 5, .long 5, .int 3]
def aboutOver (below : List Frame) : State where
  vm := { classes := classes, interned := interned.toArray }
  heap := heap
  slotsUsed := slotsUsed
  threads := #[{ frames := .invoking theMethod args0 :: below }]
def below0 : List Frame := [.native { method := ⟨0, 0⟩, args := #[] }]
def about1 : State := aboutOver below0
def p0 : Program := .bare "" "" ""
def e0 : Env := launch0.env 0 0 0
theorem w_frames : about1.frames = Frame.invoking theMethod args0 :: below0 := rfl
set_option maxRecDepth 65536 in
theorem w_args : argsFit about1.vm theMethod args0 = true := by decide +kernel
set_option maxRecDepth 65536 in
theorem w_heap : heapFits about1 = true := by decide +kernel
set_option maxRecDepth 65536 in
theorem w_runnable : about1.curStatus? = some .runnable := by decide +kernel
set_option maxRecDepth 65536 in
theorem w_alone : about1.alone = true := by decide +kernel
set_option maxRecDepth 65536 in
theorem w_named : about1.methodNamed? x = some theMethod := by decide +kernel
set_option maxRecDepth 65536 in
theorem w_hears : about1.hears theMethod below0 = true := by decide +kernel
set_option maxRecDepth 65536 in
theorem w_ripe : about1.ripe theMethod args0 below0 = true := by decide +kernel
theorem w_running : about1.status = .running := rfl
set_option maxRecDepth 65536 in
theorem w_room : about1.hasRoom e0.platform room_1 = true :=
  launch0.hasRoom_least _ room_1 (by decide +kernel) (by decide +kernel) (by decide +kernel) (by decide +kernel) (by decide +kernel) (by decide +kernel)
theorem allAtoms_all (ts : List Jvm.Cond) (a : Array Jvm.Value) (st : Jvm.State) : (allAtoms ts).before a st = ts.all (fun c => c.before a st) := by
  induction ts with
  | nil => rfl
  | cons c t ih =>
    show (Jvm.Cond.and c (allAtoms t)).before a st = _
    rw [Jvm.Cond.before_and, ih, List.all_cons]
def words1 : List Jvm.Cond := Jvm.Cond.code x code maxLocals ret :: tables_1
/-- a 'code' word, met by the world's own term for the bytes: nothing is compared byte by byte -/
theorem code_word {y : MethodName} {bytes : ByteArray} {mx : Nat} {rt : Option FieldType} {a : Array Value} {s : State} {m : MethodId} {meth : Method} {c : Code} (h1 : s.methodNamed? y = some m) (h2 : s.vm.method? m = some meth) (h3 : meth.code = some c) (h4 : c.code = bytes)
    (h5 : (c.maxLocals == mx && c.exceptionTable.isEmpty && decide (c.maxStack ≤ mostOperands) && decide (meth.sig.returnType = rt) && !meth.locks && decide (parseMethodDescriptor y.desc = some meth.sig)) = true) : (Jvm.Cond.code y bytes mx rt).before a s = true := by
  simp only [Bool.and_eq_true, beq_iff_eq, Bool.not_eq_true', decide_eq_true_eq] at h5
  obtain ⟨⟨⟨⟨⟨g1, g2⟩, g3⟩, g4⟩, g5⟩, g6⟩ := h5
  simp [Cond.before, Cond.holds, Cond.value, h1, h2, h3, h4, g1, g2, g3, g4, g5, g6]
def isCode : Jvm.Cond → Bool
  | .code _ _ _ _ => true
  | _ => false
theorem all_split {L : List Jvm.Cond} {P : Jvm.Cond → Bool} (h1 : L.all (fun c => isCode c || P c) = true) (h2 : ∀ c ∈ L.filter isCode, P c = true) : L.all P = true := by
  refine List.all_eq_true.mpr fun c hc => ?_
  have h := List.all_eq_true.mp h1 c hc
  rcases Bool.eq_false_or_eq_true (isCode c) with hi | hi
  · exact h2 c (List.mem_filter.mpr ⟨hc, hi⟩)
  · simpa [hi] using h
set_option maxRecDepth 65536 in
theorem w_c0 : (Jvm.Cond.code x code maxLocals ret).before args0 about1 = true := code_word (m := ⟨1, 2⟩) (meth := k1m2) (c := k1c2) (by decide +kernel) rfl rfl rfl (by decide +kernel)
set_option maxRecDepth 65536 in
theorem w_c1 : (Jvm.Cond.code ({ cls := "com/example/cobradora/cobradora/EightBytes", name := "ofRuns", desc := "([J[I)[J" } : Jvm.MethodName) prog_45_method_11_code (4 : Nat) (Option.some (Jvm.ClassFile.FieldType.array Jvm.ClassFile.FieldType.long))).before args0 about1 = true := code_word (m := ⟨2, 1⟩) (meth := k2m1) (c := k2c1) (by decide +kernel) rfl rfl rfl (by decide +kernel)
set_option maxRecDepth 65536 in
theorem w_c2 : (Jvm.Cond.code ({ cls := "com/example/cobradora/cobradora/EightBytesOfRunsPinLaw", name := "pick", desc := "(JJJJI)J" } : Jvm.MethodName) method_2_code (9 : Nat) (Option.some Jvm.ClassFile.FieldType.long)).before args0 about1 = true := code_word (m := ⟨1, 1⟩) (meth := k1m1) (c := k1c1) (by decide +kernel) rfl rfl rfl (by decide +kernel)
def codes1 : List Jvm.Cond := [Jvm.Cond.code x code maxLocals ret, Jvm.Cond.code ({ cls := "com/example/cobradora/cobradora/EightBytes", name := "ofRuns", desc := "([J[I)[J" } : Jvm.MethodName) prog_45_method_11_code (4 : Nat) (Option.some (Jvm.ClassFile.FieldType.array Jvm.ClassFile.FieldType.long)), Jvm.Cond.code ({ cls := "com/example/cobradora/cobradora/EightBytesOfRunsPinLaw", name := "pick", desc := "(JJJJI)J" } : Jvm.MethodName) method_2_code (9 : Nat) (Option.some Jvm.ClassFile.FieldType.long)]
set_option maxRecDepth 65536 in
theorem codes_eq : words1.filter isCode = codes1 := rfl
theorem w_codes : ∀ c ∈ words1.filter isCode, c.before args0 about1 = true := by
  rw [codes_eq]
  intro c hc
  simp only [codes1, List.mem_cons, List.not_mem_nil, or_false] at hc
  rcases hc with rfl | rfl | rfl
  · exact w_c0
  · exact w_c1
  · exact w_c2
set_option maxRecDepth 65536 in
theorem w_t1 : words1.all (fun c => isCode c || c.before args0 about1) = true := by decide +kernel
theorem w_tables : (allAtoms (Jvm.Cond.code x code maxLocals ret :: tables_1)).before args0 about1 = true := by
  rw [allAtoms_all]
  show words1.all (fun c => c.before args0 about1) = true
  refine all_split ?_ w_codes
  rw [w_t1]
set_option maxRecDepth 65536 in
theorem w_case : (Jvm.Cond.and given_1 narrow_1).before args0 about1 = true := by decide +kernel
theorem w_applies : (headSpec (Jvm.Cond.code x code maxLocals ret :: tables_1) room_1).applies x e0.platform about1 = true :=
  (Spec.applies_iff w_frames).mpr ⟨w_running, w_runnable, w_alone, w_named, w_hears, w_ripe, w_room, w_tables⟩
theorem atStart : AtStart classFile x code maxLocals ret World_1 tables_1 room_1 Calls_1 rest_1 Pre_1 launch0 p0 e0 about1 theMethod args0 below0 :=
  ⟨lists_1, trivial, launch0.admits_env _ _ _, launch0.least_env, fairChoices_fair.cas, fairChoices_fair.clock, w_frames, w_args, w_heap, w_applies, trivial, trivial, w_case⟩
end start1
theorem witness_1 : WitnessClaimed_1 := ⟨start1.p0, start1.e0, start1.about1, start1.theMethod, start1.args0, start1.below0, start1.atStart⟩
end Jvm.Pilot.@@N@@
