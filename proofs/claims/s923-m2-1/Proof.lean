import JvmDerived
import JvmDerived.Pilot.@@N@@Statement
import JvmDerived.Pilot.@@N@@Code
set_option linter.unusedVariables false
set_option linter.unusedSimpArgs false

namespace Jvm.OwnW
open Sem ClassFile Op Lib Jvm.Stand Jvm.Free Jvm.LawKit Jvm.RoadKit
/-- what the walk of one body stands on -/
def Ctx (p : Program) (l : Launch) (e : Env) (R : Room) (s : State) (m : MethodId) (args : Array Value) (below : List Frame) (meth : Method) (c : Code) (Z : State) (own : String) (code : ByteArray) (maxL : Nat) (ret : Option FieldType) (nm : String) : Prop :=
  p.tables.exec = Jvm.exec ∧ c.code = code ∧ c.maxLocals = maxL ∧ s.vm.findClass own = some m.cls ∧ Z.Warmed39 s.vm ∧ meth.sig.returnType = ret ∧ meth.locks = false ∧ meth.name = nm
/-- from here the body returns, and G holds of what it returns and of the heap -/
def WP (p : Program) (l : Launch) (e : Env) (R : Room) (s : State) (m : MethodId) (args : Array Value) (below : List Frame) (meth : Method) (c : Code) (n0 : Nat) (G : Option Value → Heap → Prop) (FE : Outcome → State → List Loc → Prop)
    (h : Heap) (k n pc : Nat) (Ls : Array Slot) (st : List Value) : Prop :=
  ∀ (T : State) (locs : List Loc) (k' n' : Nat), k' ≤ k → n' ≤ n → Stand p l e R s m args below meth c T locs k' n' → T.heap = h → Fr n0 locs →
    ∃ s₂ o, Steps p.tables e below (T.setTop (mkF m pc Ls st)) s₂ ∧ s₂.status = .running ∧ Ended s₂ below o ∧ ∃ v L, o = .returned v ∧ (Fr n0 L ∧ G v s₂.heap) ∧ FE o s₂ L
abbrev WT : Type := Heap → Nat → Nat → Nat → Array Slot → List Value → Prop
def Ru (l : Launch) (Z : State) (own : String) (code : ByteArray) (maxL : Nat) (ret : Option FieldType) (nm : String) (R : Room) (n0 : Nat) (G : Option Value → Heap → Prop) (W : WT) : Prop :=
  ∃ (p : Program) (e : Env) (s : State) (m : MethodId) (args : Array Value) (below : List Frame) (meth : Method) (c : Code) (FE : Outcome → State → List Loc → Prop), Ctx p l e R s m args below meth c Z own code maxL ret nm ∧ (∀ o t L, FrameEnd s o t L R.cells R.slots → FE o t L) ∧ W = WP p l e R s m args below meth c n0 G FE
/-- a body's contract -/
def MeetsW (l : Launch) (Z : State) (n0 : Nat) (y : MethodName) (bytes : ByteArray) (maxL : Nat) (ret : Option FieldType) (rm : Room) (as : Array Value) (h : Heap) (G : Option Value → Heap → Prop) : Prop :=
  ∀ ws : List Cond, MetFree l y (head1 (Cond.code y bytes maxL ret :: ws) rm) (fun a U => a = as ∧ Z.Warmed39 U.vm ∧ U.heap = h) (fun _ _ _ _ _ => True)
    (fun _ U o U' => ∃ v L, o = .returned v ∧ (Fr n0 L ∧ G v U'.heap) ∧ FrameEnd U o U' L rm.cells rm.slots)
theorem MeetsW.intro {l : Launch} {Z : State} {n0 : Nat} {y : MethodName} {bytes : ByteArray} {maxL : Nat} {ret : Option FieldType} {rm : Room} {as : Array Value} {h : Heap} {G : Option Value → Heap → Prop} {Ls : Array Slot}
    (hp : plainFor y = true) (hef : ∀ m, entryFrame m as maxL = mkF m 0 Ls [])
    (body : ∀ W, Ru l Z y.cls bytes maxL ret y.name rm n0 G W → W h 0 0 0 Ls []) : MeetsW l Z n0 y bytes maxL ret rm as h G := by
  intro ws
  refine MetFree.of_bodySF hp hisR ?_
  intro p e s m args below meth c s₁ Bd hml0 hP hK
  obtain ⟨rfl, hZ, hh⟩ := hP
  have X0 : Stand p l e rm s m args below meth c s₁ [] 0 0 := Stand.of_body Bd
  have e0 : s₁.heap = h := by rw [← hh, Bd.state]; rfl
  have C : Ctx p l e rm s m args below meth c Z y.cls bytes maxL ret y.name := ⟨Bd.exec, Bd.bytes, hml0, findClass_of_methodNamed Bd.named, hZ, Bd.returns, Bd.notSynchronized, (name_of_methodNamed Bd.named Bd.method).1⟩
  have q := body _ ⟨p, e, s, m, args, below, meth, c, _, C, fun _ _ _ q => q, rfl⟩ s₁ [] 0 0 (Nat.le_refl _) (Nat.le_refl _) X0 e0 (Fr.nil n0)
  rw [hef]
  exact q

/-! shifts, by how many places -/
def sh5 (y : Int32) : Nat := y.toBitVec.toNat % 32
def sh6 (y : Int32) : Nat := y.toBitVec.toNat % 64
def shlI (x : Int32) (k : Nat) : Int32 := Int32.ofBitVec (x.toBitVec <<< k)
def shrI (x : Int32) (k : Nat) : Int32 := Int32.ofBitVec (x.toBitVec >>> k)
def sarI (x : Int32) (k : Nat) : Int32 := Int32.ofBitVec (x.toBitVec.sshiftRight k)
def shlL (x : Int64) (k : Nat) : Int64 := Int64.ofBitVec (x.toBitVec <<< k)
def shrL (x : Int64) (k : Nat) : Int64 := Int64.ofBitVec (x.toBitVec >>> k)
def sarL (x : Int64) (k : Nat) : Int64 := Int64.ofBitVec (x.toBitVec.sshiftRight k)
theorem and31 (y : Int32) : (y &&& 31).toBitVec.toNat = sh5 y := by
  show (y.toBitVec &&& (31 : Int32).toBitVec).toNat = _
  rw [BitVec.toNat_and, show (31 : Int32).toBitVec.toNat = 2 ^ 5 - 1 from by decide, Nat.and_two_pow_sub_one_eq_mod]; rfl
theorem and63 (y : Int32) : (y.toInt64 &&& 63).toBitVec = BitVec.ofNat 64 (sh6 y) := by
  apply BitVec.eq_of_toNat_eq
  show (y.toBitVec.signExtend 64 &&& (63 : Int64).toBitVec).toNat = _
  rw [BitVec.toNat_and, show (63 : Int64).toBitVec.toNat = 2 ^ 6 - 1 from by decide, Nat.and_two_pow_sub_one_eq_mod, BitVec.toNat_ofNat, BitVec.toNat_signExtend]
  have h1 := y.toBitVec.isLt
  have h2 : (BitVec.setWidth 64 y.toBitVec).toNat = y.toBitVec.toNat := by rw [BitVec.toNat_setWidth]; omega
  rw [h2]
  unfold sh6
  split <;> omega
theorem ishl_eq (x y : Int32) : x <<< (y &&& 31) = shlI x (sh5 y) := by
  apply Int32.toBitVec_inj.mp
  show x.toBitVec <<< ((y &&& 31).toBitVec.smod 32) = x.toBitVec <<< (sh5 y)
  rw [BitVec.shiftLeft_eq', sm32 y _ rfl]; rfl
theorem ishr_eq (x y : Int32) : x >>> (y &&& 31) = sarI x (sh5 y) := by
  apply Int32.toBitVec_inj.mp
  show x.toBitVec.sshiftRight (((y &&& 31).toBitVec.smod 32).toNat) = x.toBitVec.sshiftRight (sh5 y)
  rw [sm32 y _ rfl]; rfl
theorem iushr_eq (x y : Int32) : XT.ushr x y = shrI x (sh5 y) := by
  apply Int32.toBitVec_inj.mp
  show x.toBitVec >>> ((y &&& 31).toBitVec % 32) = x.toBitVec >>> (sh5 y)
  rw [BitVec.ushiftRight_eq', BitVec.toNat_umod, and31]
  congr 1
  show sh5 y % 32 = sh5 y
  unfold sh5; omega
theorem lshl_eq (x : Int64) (y : Int32) : x <<< (y.toInt64 &&& 63) = shlL x (sh6 y) := by
  apply Int64.toBitVec_inj.mp
  show x.toBitVec <<< ((y.toInt64 &&& 63).toBitVec.smod 64) = x.toBitVec <<< (sh6 y)
  rw [BitVec.shiftLeft_eq', and63, smod64 _ (by unfold sh6; omega)]
theorem lshr_eq (x : Int64) (y : Int32) : x >>> (y.toInt64 &&& 63) = sarL x (sh6 y) := by
  apply Int64.toBitVec_inj.mp
  show x.toBitVec.sshiftRight (((y.toInt64 &&& 63).toBitVec.smod 64).toNat) = x.toBitVec.sshiftRight (sh6 y)
  rw [and63, smod64 _ (by unfold sh6; omega)]
theorem lushr_eq (x : Int64) (y : Int32) : XT.ushrL x y = shrL x (sh6 y) := by
  apply Int64.toBitVec_inj.mp
  show x.toBitVec >>> ((y.toInt64 &&& 63).toBitVec % 64) = x.toBitVec >>> (sh6 y)
  rw [BitVec.ushiftRight_eq', BitVec.toNat_umod, and63, BitVec.toNat_ofNat]
  congr 1
  show sh6 y % 2 ^ 64 % 64 = sh6 y
  unfold sh6; omega
section Steps
variable {l : Launch} {Z : State} {own : String} {code : ByteArray} {maxL : Nat} {ret : Option FieldType} {nm : String} {R : Room} {n0 : Nat} {G : Option Value → Heap → Prop} {W : WT} {h : Heap} {k n pc pc' : Nat} {Ls : Array Slot} {st rest : List Value}
theorem Ru.mono (C : Ru l Z own code maxL ret nm R n0 G W) {k2 n2 : Nat} (hk : k ≤ k2) (hn : n ≤ n2) (q : W h k2 n2 pc Ls st) : W h k n pc Ls st := by
  obtain ⟨p, e, s, m, args, below, meth, c, FE, C, hFE, rfl⟩ := C
  intro T locs k' n' q1 q2 X eT N
  exact q T locs k' n' (Nat.le_trans q1 hk) (Nat.le_trans q2 hn) X eT N
theorem Ru.atPc (C : Ru l Z own code maxL ret nm R n0 G W) {pc2 : Nat} (hp : pc2 = pc) (q : W h k n pc2 Ls st) : W h k n pc Ls st := hp ▸ q
theorem Ru.iadd (C : Ru l Z own code maxL ret nm R n0 G W) {x y : Int32} (hd : decode code pc = .ok (.iadd, 1)) (hp : pc + 1 = pc') (q : W h k n pc' Ls (.int (x + y) :: rest)) : W h k n pc Ls (.int y :: .int x :: rest) := by
  obtain ⟨p, e, s, m, args, below, meth, c, FE, ⟨hx, hby, hml, hown, hZ, hre, hlk, hnm⟩, hFE, rfl⟩ := C
  subst hp
  intro T locs k' n' q1 q2 X eT N
  obtain ⟨s2, o, st2, r⟩ := q T locs k' n' q1 q2 X eT N
  exact ⟨s2, o, XS.iadd (X.here) hx rfl (hb hby hd) rfl st2, r⟩
theorem Ru.isub (C : Ru l Z own code maxL ret nm R n0 G W) {x y : Int32} (hd : decode code pc = .ok (.isub, 1)) (hp : pc + 1 = pc') (q : W h k n pc' Ls (.int (x - y) :: rest)) : W h k n pc Ls (.int y :: .int x :: rest) := by
  obtain ⟨p, e, s, m, args, below, meth, c, FE, ⟨hx, hby, hml, hown, hZ, hre, hlk, hnm⟩, hFE, rfl⟩ := C
  subst hp
  intro T locs k' n' q1 q2 X eT N
  obtain ⟨s2, o, st2, r⟩ := q T locs k' n' q1 q2 X eT N
  exact ⟨s2, o, XS.isub (X.here) hx rfl (hb hby hd) rfl st2, r⟩
theorem Ru.iand (C : Ru l Z own code maxL ret nm R n0 G W) {x y : Int32} (hd : decode code pc = .ok (.iand, 1)) (hp : pc + 1 = pc') (q : W h k n pc' Ls (.int (x &&& y) :: rest)) : W h k n pc Ls (.int y :: .int x :: rest) := by
  obtain ⟨p, e, s, m, args, below, meth, c, FE, ⟨hx, hby, hml, hown, hZ, hre, hlk, hnm⟩, hFE, rfl⟩ := C
  subst hp
  intro T locs k' n' q1 q2 X eT N
  obtain ⟨s2, o, st2, r⟩ := q T locs k' n' q1 q2 X eT N
  exact ⟨s2, o, XS.iand (X.here) hx rfl (hb hby hd) rfl st2, r⟩
theorem Ru.imul (C : Ru l Z own code maxL ret nm R n0 G W) {x y : Int32} (hd : decode code pc = .ok (.imul, 1)) (hp : pc + 1 = pc') (q : W h k n pc' Ls (.int (x * y) :: rest)) : W h k n pc Ls (.int y :: .int x :: rest) := by
  obtain ⟨p, e, s, m, args, below, meth, c, FE, ⟨hx, hby, hml, hown, hZ, hre, hlk, hnm⟩, hFE, rfl⟩ := C
  subst hp
  intro T locs k' n' q1 q2 X eT N
  obtain ⟨s2, o, st2, r⟩ := q T locs k' n' q1 q2 X eT N
  exact ⟨s2, o, XS.imul (X.here) hx rfl (hb hby hd) rfl st2, r⟩
theorem Ru.ixor (C : Ru l Z own code maxL ret nm R n0 G W) {x y : Int32} (hd : decode code pc = .ok (.ixor, 1)) (hp : pc + 1 = pc') (q : W h k n pc' Ls (.int (x ^^^ y) :: rest)) : W h k n pc Ls (.int y :: .int x :: rest) := by
  obtain ⟨p, e, s, m, args, below, meth, c, FE, ⟨hx, hby, hml, hown, hZ, hre, hlk, hnm⟩, hFE, rfl⟩ := C
  subst hp
  intro T locs k' n' q1 q2 X eT N
  obtain ⟨s2, o, st2, r⟩ := q T locs k' n' q1 q2 X eT N
  exact ⟨s2, o, XT.ixor (X.here) hx rfl (hb hby hd) rfl st2, r⟩
theorem Ru.ior (C : Ru l Z own code maxL ret nm R n0 G W) {x y : Int32} (hd : decode code pc = .ok (.ior, 1)) (hp : pc + 1 = pc') (q : W h k n pc' Ls (.int (x ||| y) :: rest)) : W h k n pc Ls (.int y :: .int x :: rest) := by
  obtain ⟨p, e, s, m, args, below, meth, c, FE, ⟨hx, hby, hml, hown, hZ, hre, hlk, hnm⟩, hFE, rfl⟩ := C
  subst hp
  intro T locs k' n' q1 q2 X eT N
  obtain ⟨s2, o, st2, r⟩ := q T locs k' n' q1 q2 X eT N
  exact ⟨s2, o, XT.ior (X.here) hx rfl (hb hby hd) rfl st2, r⟩
theorem Ru.idiv (C : Ru l Z own code maxL ret nm R n0 G W) {x y : Int32} (hd : decode code pc = .ok (.idiv, 1)) (hp : pc + 1 = pc') (hy : y ≠ 0) (q : W h k n pc' Ls (.int (x / y) :: rest)) : W h k n pc Ls (.int y :: .int x :: rest) := by
  obtain ⟨p, e, s, m, args, below, meth, c, FE, ⟨hx, hby, hml, hown, hZ, hre, hlk, hnm⟩, hFE, rfl⟩ := C
  subst hp
  intro T locs k' n' q1 q2 X eT N
  obtain ⟨s2, o, st2, r⟩ := q T locs k' n' q1 q2 X eT N
  exact ⟨s2, o, XS.idiv (X.here) hx rfl (hb hby hd) rfl hy st2, r⟩
theorem Ru.irem (C : Ru l Z own code maxL ret nm R n0 G W) {x y : Int32} (hd : decode code pc = .ok (.irem, 1)) (hp : pc + 1 = pc') (hy : y ≠ 0) (q : W h k n pc' Ls (.int (x % y) :: rest)) : W h k n pc Ls (.int y :: .int x :: rest) := by
  obtain ⟨p, e, s, m, args, below, meth, c, FE, ⟨hx, hby, hml, hown, hZ, hre, hlk, hnm⟩, hFE, rfl⟩ := C
  subst hp
  intro T locs k' n' q1 q2 X eT N
  obtain ⟨s2, o, st2, r⟩ := q T locs k' n' q1 q2 X eT N
  exact ⟨s2, o, iremM (X) hx rfl (hb hby hd) rfl hy st2, r⟩
theorem Ru.ineg (C : Ru l Z own code maxL ret nm R n0 G W) {x : Int32} (hd : decode code pc = .ok (.ineg, 1)) (hp : pc + 1 = pc') (q : W h k n pc' Ls (.int (-x) :: rest)) : W h k n pc Ls (.int x :: rest) := by
  obtain ⟨p, e, s, m, args, below, meth, c, FE, ⟨hx, hby, hml, hown, hZ, hre, hlk, hnm⟩, hFE, rfl⟩ := C
  subst hp
  intro T locs k' n' q1 q2 X eT N
  obtain ⟨s2, o, st2, r⟩ := q T locs k' n' q1 q2 X eT N
  exact ⟨s2, o, XS.ineg (X.here) hx rfl (hb hby hd) rfl st2, r⟩
theorem Ru.ladd (C : Ru l Z own code maxL ret nm R n0 G W) {x y : Int64} (hd : decode code pc = .ok (.ladd, 1)) (hp : pc + 1 = pc') (q : W h k n pc' Ls (.long (x + y) :: rest)) : W h k n pc Ls (.long y :: .long x :: rest) := by
  obtain ⟨p, e, s, m, args, below, meth, c, FE, ⟨hx, hby, hml, hown, hZ, hre, hlk, hnm⟩, hFE, rfl⟩ := C
  subst hp
  intro T locs k' n' q1 q2 X eT N
  obtain ⟨s2, o, st2, r⟩ := q T locs k' n' q1 q2 X eT N
  exact ⟨s2, o, XT.ladd (X.here) hx rfl (hb hby hd) rfl st2, r⟩
theorem Ru.lsub (C : Ru l Z own code maxL ret nm R n0 G W) {x y : Int64} (hd : decode code pc = .ok (.lsub, 1)) (hp : pc + 1 = pc') (q : W h k n pc' Ls (.long (x - y) :: rest)) : W h k n pc Ls (.long y :: .long x :: rest) := by
  obtain ⟨p, e, s, m, args, below, meth, c, FE, ⟨hx, hby, hml, hown, hZ, hre, hlk, hnm⟩, hFE, rfl⟩ := C
  subst hp
  intro T locs k' n' q1 q2 X eT N
  obtain ⟨s2, o, st2, r⟩ := q T locs k' n' q1 q2 X eT N
  exact ⟨s2, o, XT.lsub (X.here) hx rfl (hb hby hd) rfl st2, r⟩
theorem Ru.lmul (C : Ru l Z own code maxL ret nm R n0 G W) {x y : Int64} (hd : decode code pc = .ok (.lmul, 1)) (hp : pc + 1 = pc') (q : W h k n pc' Ls (.long (x * y) :: rest)) : W h k n pc Ls (.long y :: .long x :: rest) := by
  obtain ⟨p, e, s, m, args, below, meth, c, FE, ⟨hx, hby, hml, hown, hZ, hre, hlk, hnm⟩, hFE, rfl⟩ := C
  subst hp
  intro T locs k' n' q1 q2 X eT N
  obtain ⟨s2, o, st2, r⟩ := q T locs k' n' q1 q2 X eT N
  exact ⟨s2, o, XT.lmul (X.here) hx rfl (hb hby hd) rfl st2, r⟩
theorem Ru.land (C : Ru l Z own code maxL ret nm R n0 G W) {x y : Int64} (hd : decode code pc = .ok (.land, 1)) (hp : pc + 1 = pc') (q : W h k n pc' Ls (.long (x &&& y) :: rest)) : W h k n pc Ls (.long y :: .long x :: rest) := by
  obtain ⟨p, e, s, m, args, below, meth, c, FE, ⟨hx, hby, hml, hown, hZ, hre, hlk, hnm⟩, hFE, rfl⟩ := C
  subst hp
  intro T locs k' n' q1 q2 X eT N
  obtain ⟨s2, o, st2, r⟩ := q T locs k' n' q1 q2 X eT N
  exact ⟨s2, o, XT.land (X.here) hx rfl (hb hby hd) rfl st2, r⟩
theorem Ru.lor (C : Ru l Z own code maxL ret nm R n0 G W) {x y : Int64} (hd : decode code pc = .ok (.lor, 1)) (hp : pc + 1 = pc') (q : W h k n pc' Ls (.long (x ||| y) :: rest)) : W h k n pc Ls (.long y :: .long x :: rest) := by
  obtain ⟨p, e, s, m, args, below, meth, c, FE, ⟨hx, hby, hml, hown, hZ, hre, hlk, hnm⟩, hFE, rfl⟩ := C
  subst hp
  intro T locs k' n' q1 q2 X eT N
  obtain ⟨s2, o, st2, r⟩ := q T locs k' n' q1 q2 X eT N
  exact ⟨s2, o, XT.lor (X.here) hx rfl (hb hby hd) rfl st2, r⟩
theorem Ru.lxor (C : Ru l Z own code maxL ret nm R n0 G W) {x y : Int64} (hd : decode code pc = .ok (.lxor, 1)) (hp : pc + 1 = pc') (q : W h k n pc' Ls (.long (x ^^^ y) :: rest)) : W h k n pc Ls (.long y :: .long x :: rest) := by
  obtain ⟨p, e, s, m, args, below, meth, c, FE, ⟨hx, hby, hml, hown, hZ, hre, hlk, hnm⟩, hFE, rfl⟩ := C
  subst hp
  intro T locs k' n' q1 q2 X eT N
  obtain ⟨s2, o, st2, r⟩ := q T locs k' n' q1 q2 X eT N
  exact ⟨s2, o, XT.lxor (X.here) hx rfl (hb hby hd) rfl st2, r⟩
theorem Ru.ldiv (C : Ru l Z own code maxL ret nm R n0 G W) {x y : Int64} (hd : decode code pc = .ok (.ldiv, 1)) (hp : pc + 1 = pc') (hy : y ≠ 0) (q : W h k n pc' Ls (.long (x / y) :: rest)) : W h k n pc Ls (.long y :: .long x :: rest) := by
  obtain ⟨p, e, s, m, args, below, meth, c, FE, ⟨hx, hby, hml, hown, hZ, hre, hlk, hnm⟩, hFE, rfl⟩ := C
  subst hp
  intro T locs k' n' q1 q2 X eT N
  obtain ⟨s2, o, st2, r⟩ := q T locs k' n' q1 q2 X eT N
  exact ⟨s2, o, XT.ldiv (X.here) hx rfl (hb hby hd) rfl hy st2, r⟩
theorem Ru.ishl (C : Ru l Z own code maxL ret nm R n0 G W) {x : Int32} {y : Int32} {s : Nat} (hd : decode code pc = .ok (.ishl, 1)) (hp : pc + 1 = pc') (hs : sh5 y = s) (q : W h k n pc' Ls (.int (shlI x s) :: rest)) : W h k n pc Ls (.int y :: .int x :: rest) := by
  obtain ⟨p, e, s', m, args, below, meth, c, FE, ⟨hx, hby, hml, hown, hZ, hre, hlk, hnm⟩, hFE, rfl⟩ := C
  subst hp hs
  intro T locs k' n' q1 q2 X eT N
  obtain ⟨s2, o, st2, r⟩ := q T locs k' n' q1 q2 X eT N
  exact ⟨s2, o, XT.ishl X.here hx rfl (hb hby hd) rfl (by rw [ishl_eq]; exact st2), r⟩
theorem Ru.ishr (C : Ru l Z own code maxL ret nm R n0 G W) {x : Int32} {y : Int32} {s : Nat} (hd : decode code pc = .ok (.ishr, 1)) (hp : pc + 1 = pc') (hs : sh5 y = s) (q : W h k n pc' Ls (.int (sarI x s) :: rest)) : W h k n pc Ls (.int y :: .int x :: rest) := by
  obtain ⟨p, e, s', m, args, below, meth, c, FE, ⟨hx, hby, hml, hown, hZ, hre, hlk, hnm⟩, hFE, rfl⟩ := C
  subst hp hs
  intro T locs k' n' q1 q2 X eT N
  obtain ⟨s2, o, st2, r⟩ := q T locs k' n' q1 q2 X eT N
  exact ⟨s2, o, XT.ishr X.here hx rfl (hb hby hd) rfl (by rw [ishr_eq]; exact st2), r⟩
theorem Ru.iushr (C : Ru l Z own code maxL ret nm R n0 G W) {x : Int32} {y : Int32} {s : Nat} (hd : decode code pc = .ok (.iushr, 1)) (hp : pc + 1 = pc') (hs : sh5 y = s) (q : W h k n pc' Ls (.int (shrI x s) :: rest)) : W h k n pc Ls (.int y :: .int x :: rest) := by
  obtain ⟨p, e, s', m, args, below, meth, c, FE, ⟨hx, hby, hml, hown, hZ, hre, hlk, hnm⟩, hFE, rfl⟩ := C
  subst hp hs
  intro T locs k' n' q1 q2 X eT N
  obtain ⟨s2, o, st2, r⟩ := q T locs k' n' q1 q2 X eT N
  exact ⟨s2, o, XT.iushr X.here hx rfl (hb hby hd) rfl (by rw [iushr_eq]; exact st2), r⟩
theorem Ru.lshl (C : Ru l Z own code maxL ret nm R n0 G W) {x : Int64} {y : Int32} {s : Nat} (hd : decode code pc = .ok (.lshl, 1)) (hp : pc + 1 = pc') (hs : sh6 y = s) (q : W h k n pc' Ls (.long (shlL x s) :: rest)) : W h k n pc Ls (.int y :: .long x :: rest) := by
  obtain ⟨p, e, s', m, args, below, meth, c, FE, ⟨hx, hby, hml, hown, hZ, hre, hlk, hnm⟩, hFE, rfl⟩ := C
  subst hp hs
  intro T locs k' n' q1 q2 X eT N
  obtain ⟨s2, o, st2, r⟩ := q T locs k' n' q1 q2 X eT N
  exact ⟨s2, o, XT.lshl X.here hx rfl (hb hby hd) rfl (by rw [lshl_eq]; exact st2), r⟩
theorem Ru.lshr (C : Ru l Z own code maxL ret nm R n0 G W) {x : Int64} {y : Int32} {s : Nat} (hd : decode code pc = .ok (.lshr, 1)) (hp : pc + 1 = pc') (hs : sh6 y = s) (q : W h k n pc' Ls (.long (sarL x s) :: rest)) : W h k n pc Ls (.int y :: .long x :: rest) := by
  obtain ⟨p, e, s', m, args, below, meth, c, FE, ⟨hx, hby, hml, hown, hZ, hre, hlk, hnm⟩, hFE, rfl⟩ := C
  subst hp hs
  intro T locs k' n' q1 q2 X eT N
  obtain ⟨s2, o, st2, r⟩ := q T locs k' n' q1 q2 X eT N
  exact ⟨s2, o, XT.lshr X.here hx rfl (hb hby hd) rfl (by rw [lshr_eq]; exact st2), r⟩
theorem Ru.lushr (C : Ru l Z own code maxL ret nm R n0 G W) {x : Int64} {y : Int32} {s : Nat} (hd : decode code pc = .ok (.lushr, 1)) (hp : pc + 1 = pc') (hs : sh6 y = s) (q : W h k n pc' Ls (.long (shrL x s) :: rest)) : W h k n pc Ls (.int y :: .long x :: rest) := by
  obtain ⟨p, e, s', m, args, below, meth, c, FE, ⟨hx, hby, hml, hown, hZ, hre, hlk, hnm⟩, hFE, rfl⟩ := C
  subst hp hs
  intro T locs k' n' q1 q2 X eT N
  obtain ⟨s2, o, st2, r⟩ := q T locs k' n' q1 q2 X eT N
  exact ⟨s2, o, XT.lushr X.here hx rfl (hb hby hd) rfl (by rw [lushr_eq]; exact st2), r⟩
theorem Ru.i2l (C : Ru l Z own code maxL ret nm R n0 G W) {x : Int32} (hd : decode code pc = .ok (.i2l, 1)) (hp : pc + 1 = pc') (q : W h k n pc' Ls (.long x.toInt64 :: rest)) : W h k n pc Ls (.int x :: rest) := by
  obtain ⟨p, e, s, m, args, below, meth, c, FE, ⟨hx, hby, hml, hown, hZ, hre, hlk, hnm⟩, hFE, rfl⟩ := C
  subst hp
  intro T locs k' n' q1 q2 X eT N
  obtain ⟨s2, o, st2, r⟩ := q T locs k' n' q1 q2 X eT N
  exact ⟨s2, o, XT.i2l (X.here) hx rfl (hb hby hd) rfl st2, r⟩
theorem Ru.l2i (C : Ru l Z own code maxL ret nm R n0 G W) {x : Int64} (hd : decode code pc = .ok (.l2i, 1)) (hp : pc + 1 = pc') (q : W h k n pc' Ls (.int x.toInt32 :: rest)) : W h k n pc Ls (.long x :: rest) := by
  obtain ⟨p, e, s, m, args, below, meth, c, FE, ⟨hx, hby, hml, hown, hZ, hre, hlk, hnm⟩, hFE, rfl⟩ := C
  subst hp
  intro T locs k' n' q1 q2 X eT N
  obtain ⟨s2, o, st2, r⟩ := q T locs k' n' q1 q2 X eT N
  exact ⟨s2, o, XT.l2i (X.here) hx rfl (hb hby hd) rfl st2, r⟩
theorem Ru.i2b (C : Ru l Z own code maxL ret nm R n0 G W) {x : Int32} (hd : decode code pc = .ok (.i2b, 1)) (hp : pc + 1 = pc') (q : W h k n pc' Ls (.int x.toInt8.toInt32 :: rest)) : W h k n pc Ls (.int x :: rest) := by
  obtain ⟨p, e, s, m, args, below, meth, c, FE, ⟨hx, hby, hml, hown, hZ, hre, hlk, hnm⟩, hFE, rfl⟩ := C
  subst hp
  intro T locs k' n' q1 q2 X eT N
  obtain ⟨s2, o, st2, r⟩ := q T locs k' n' q1 q2 X eT N
  exact ⟨s2, o, XT.i2b (X.here) hx rfl (hb hby hd) rfl st2, r⟩
theorem Ru.iconst (C : Ru l Z own code maxL ret nm R n0 G W) {i : Int} {v : Int32} (hd : decode code pc = .ok (.iconst i, 1)) (hp : pc + 1 = pc') (hv : Int32.ofInt i = v) (q : W h k n pc' Ls (.int v :: st)) : W h k n pc Ls (st) := by
  obtain ⟨p, e, s, m, args, below, meth, c, FE, ⟨hx, hby, hml, hown, hZ, hre, hlk, hnm⟩, hFE, rfl⟩ := C
  subst hp hv
  intro T locs k' n' q1 q2 X eT N
  obtain ⟨s2, o, st2, r⟩ := q T locs k' n' q1 q2 X eT N
  exact ⟨s2, o, XS.iconst (X.here) hx rfl (hb hby hd)  st2, r⟩
theorem Ru.bipush (C : Ru l Z own code maxL ret nm R n0 G W) {i : Int} {v : Int32} (hd : decode code pc = .ok (.bipush i, 2)) (hp : pc + 2 = pc') (hv : (Int8.ofInt i).toInt32 = v) (q : W h k n pc' Ls (.int v :: st)) : W h k n pc Ls (st) := by
  obtain ⟨p, e, s, m, args, below, meth, c, FE, ⟨hx, hby, hml, hown, hZ, hre, hlk, hnm⟩, hFE, rfl⟩ := C
  subst hp hv
  intro T locs k' n' q1 q2 X eT N
  obtain ⟨s2, o, st2, r⟩ := q T locs k' n' q1 q2 X eT N
  exact ⟨s2, o, XS.bipush (X.here) hx rfl (hb hby hd)  st2, r⟩
theorem Ru.sipush (C : Ru l Z own code maxL ret nm R n0 G W) {i : Int} {v : Int32} (hd : decode code pc = .ok (.sipush i, 3)) (hp : pc + 3 = pc') (hv : (Int16.ofInt i).toInt32 = v) (q : W h k n pc' Ls (.int v :: st)) : W h k n pc Ls (st) := by
  obtain ⟨p, e, s, m, args, below, meth, c, FE, ⟨hx, hby, hml, hown, hZ, hre, hlk, hnm⟩, hFE, rfl⟩ := C
  subst hp hv
  intro T locs k' n' q1 q2 X eT N
  obtain ⟨s2, o, st2, r⟩ := q T locs k' n' q1 q2 X eT N
  exact ⟨s2, o, XS.sipush (X.here) hx rfl (hb hby hd)  st2, r⟩
theorem Ru.lconst (C : Ru l Z own code maxL ret nm R n0 G W) {i : Fin 2} {v : Int64} (hd : decode code pc = .ok (.lconst i, 1)) (hp : pc + 1 = pc') (hv : Int64.ofNat i = v) (q : W h k n pc' Ls (.long v :: st)) : W h k n pc Ls (st) := by
  obtain ⟨p, e, s, m, args, below, meth, c, FE, ⟨hx, hby, hml, hown, hZ, hre, hlk, hnm⟩, hFE, rfl⟩ := C
  subst hp hv
  intro T locs k' n' q1 q2 X eT N
  obtain ⟨s2, o, st2, r⟩ := q T locs k' n' q1 q2 X eT N
  exact ⟨s2, o, XT.lconst (X.here) hx rfl (hb hby hd)  st2, r⟩
theorem Ru.aconstNull (C : Ru l Z own code maxL ret nm R n0 G W)  (hd : decode code pc = .ok (.aconst_null, 1)) (hp : pc + 1 = pc') (q : W h k n pc' Ls (.null :: st)) : W h k n pc Ls (st) := by
  obtain ⟨p, e, s, m, args, below, meth, c, FE, ⟨hx, hby, hml, hown, hZ, hre, hlk, hnm⟩, hFE, rfl⟩ := C
  subst hp
  intro T locs k' n' q1 q2 X eT N
  obtain ⟨s2, o, st2, r⟩ := q T locs k' n' q1 q2 X eT N
  exact ⟨s2, o, XS.aconstNull (X.here) hx rfl (hb hby hd)  st2, r⟩
theorem Ru.dup (C : Ru l Z own code maxL ret nm R n0 G W) {x : Value} (hd : decode code pc = .ok (.dup, 1)) (hp : pc + 1 = pc') (hc : x.category = 1) (q : W h k n pc' Ls (x :: x :: rest)) : W h k n pc Ls (x :: rest) := by
  obtain ⟨p, e, s, m, args, below, meth, c, FE, ⟨hx, hby, hml, hown, hZ, hre, hlk, hnm⟩, hFE, rfl⟩ := C
  subst hp
  intro T locs k' n' q1 q2 X eT N
  obtain ⟨s2, o, st2, r⟩ := q T locs k' n' q1 q2 X eT N
  exact ⟨s2, o, XS.dup (X.here) hx rfl (hb hby hd) rfl hc st2, r⟩
theorem Ru.pop (C : Ru l Z own code maxL ret nm R n0 G W) {x : Value} (hd : decode code pc = .ok (.pop, 1)) (hp : pc + 1 = pc') (hc : x.category = 1) (q : W h k n pc' Ls (rest)) : W h k n pc Ls (x :: rest) := by
  obtain ⟨p, e, s, m, args, below, meth, c, FE, ⟨hx, hby, hml, hown, hZ, hre, hlk, hnm⟩, hFE, rfl⟩ := C
  subst hp
  intro T locs k' n' q1 q2 X eT N
  obtain ⟨s2, o, st2, r⟩ := q T locs k' n' q1 q2 X eT N
  exact ⟨s2, o, XT.pop (X.here) hx rfl (hb hby hd) rfl hc st2, r⟩
theorem Ru.dup2 (C : Ru l Z own code maxL ret nm R n0 G W) {x y : Value} (hd : decode code pc = .ok (.dup2, 1)) (hp : pc + 1 = pc') (hc : x.category = 1) (hc' : y.category = 1) (q : W h k n pc' Ls (x :: y :: x :: y :: rest)) : W h k n pc Ls (x :: y :: rest) := by
  obtain ⟨p, e, s, m, args, below, meth, c, FE, ⟨hx, hby, hml, hown, hZ, hre, hlk, hnm⟩, hFE, rfl⟩ := C
  subst hp
  intro T locs k' n' q1 q2 X eT N
  obtain ⟨s2, o, st2, r⟩ := q T locs k' n' q1 q2 X eT N
  exact ⟨s2, o, XT.dup2 (X.here) hx rfl (hb hby hd) rfl hc hc' st2, r⟩
theorem Ru.dup2L (C : Ru l Z own code maxL ret nm R n0 G W) {x : Int64} (hd : decode code pc = .ok (.dup2, 1)) (hp : pc + 1 = pc') (q : W h k n pc' Ls (.long x :: .long x :: rest)) : W h k n pc Ls (.long x :: rest) := by
  obtain ⟨p, e, s, m, args, below, meth, c, FE, ⟨hx, hby, hml, hown, hZ, hre, hlk, hnm⟩, hFE, rfl⟩ := C
  subst hp
  intro T locs k' n' q1 q2 X eT N
  obtain ⟨s2, o, st2, r⟩ := q T locs k' n' q1 q2 X eT N
  exact ⟨s2, o, XT.dup2L (X.here) hx rfl (hb hby hd) rfl st2, r⟩
theorem Ru.dupX1 (C : Ru l Z own code maxL ret nm R n0 G W) {x y : Value} (hd : decode code pc = .ok (.dup_x1, 1)) (hp : pc + 1 = pc') (hc : x.category = 1) (hc' : y.category = 1) (q : W h k n pc' Ls (x :: y :: x :: rest)) : W h k n pc Ls (x :: y :: rest) := by
  obtain ⟨p, e, s, m, args, below, meth, c, FE, ⟨hx, hby, hml, hown, hZ, hre, hlk, hnm⟩, hFE, rfl⟩ := C
  subst hp
  intro T locs k' n' q1 q2 X eT N
  obtain ⟨s2, o, st2, r⟩ := q T locs k' n' q1 q2 X eT N
  exact ⟨s2, o, XT.dupX1 (X.here) hx rfl (hb hby hd) rfl hc hc' st2, r⟩
theorem Ru.iload (C : Ru l Z own code maxL ret nm R n0 G W) {j : Nat} {v : Int32} (hd : decode code pc = .ok (.iload j, 2)) (hp : pc + 2 = pc') (hl : Ls[j]? = some (.val (.int v))) (q : W h k n pc' Ls (.int v :: st)) : W h k n pc Ls (st) := by
  obtain ⟨p, e, s, m, args, below, meth, c, FE, ⟨hx, hby, hml, hown, hZ, hre, hlk, hnm⟩, hFE, rfl⟩ := C
  subst hp
  intro T locs k' n' q1 q2 X eT N
  obtain ⟨s2, o, st2, r⟩ := q T locs k' n' q1 q2 X eT N
  exact ⟨s2, o, XS.iload (X.here) hx rfl (hb hby hd) hl st2, r⟩
theorem Ru.iloadN (C : Ru l Z own code maxL ret nm R n0 G W) {j : Fin 4} {v : Int32} (hd : decode code pc = .ok (.iload_n j, 1)) (hp : pc + 1 = pc') (hl : Ls[j.val]? = some (.val (.int v))) (q : W h k n pc' Ls (.int v :: st)) : W h k n pc Ls (st) := by
  obtain ⟨p, e, s, m, args, below, meth, c, FE, ⟨hx, hby, hml, hown, hZ, hre, hlk, hnm⟩, hFE, rfl⟩ := C
  subst hp
  intro T locs k' n' q1 q2 X eT N
  obtain ⟨s2, o, st2, r⟩ := q T locs k' n' q1 q2 X eT N
  exact ⟨s2, o, XS.iloadN (X.here) hx rfl (hb hby hd) hl st2, r⟩
theorem Ru.lload (C : Ru l Z own code maxL ret nm R n0 G W) {j : Nat} {v : Int64} (hd : decode code pc = .ok (.lload j, 2)) (hp : pc + 2 = pc') (hl : Ls[j]? = some (.val (.long v))) (q : W h k n pc' Ls (.long v :: st)) : W h k n pc Ls (st) := by
  obtain ⟨p, e, s, m, args, below, meth, c, FE, ⟨hx, hby, hml, hown, hZ, hre, hlk, hnm⟩, hFE, rfl⟩ := C
  subst hp
  intro T locs k' n' q1 q2 X eT N
  obtain ⟨s2, o, st2, r⟩ := q T locs k' n' q1 q2 X eT N
  exact ⟨s2, o, XT.lload (X.here) hx rfl (hb hby hd) hl st2, r⟩
theorem Ru.lloadN (C : Ru l Z own code maxL ret nm R n0 G W) {j : Fin 4} {v : Int64} (hd : decode code pc = .ok (.lload_n j, 1)) (hp : pc + 1 = pc') (hl : Ls[j.val]? = some (.val (.long v))) (q : W h k n pc' Ls (.long v :: st)) : W h k n pc Ls (st) := by
  obtain ⟨p, e, s, m, args, below, meth, c, FE, ⟨hx, hby, hml, hown, hZ, hre, hlk, hnm⟩, hFE, rfl⟩ := C
  subst hp
  intro T locs k' n' q1 q2 X eT N
  obtain ⟨s2, o, st2, r⟩ := q T locs k' n' q1 q2 X eT N
  exact ⟨s2, o, XT.lloadN (X.here) hx rfl (hb hby hd) hl st2, r⟩
theorem Ru.aload (C : Ru l Z own code maxL ret nm R n0 G W) {j : Nat} {v : Value} (hd : decode code pc = .ok (.aload j, 2)) (hp : pc + 2 = pc') (hl : Ls[j]? = some (.val v)) (hv : v.isRef = true) (q : W h k n pc' Ls (v :: st)) : W h k n pc Ls (st) := by
  obtain ⟨p, e, s, m, args, below, meth, c, FE, ⟨hx, hby, hml, hown, hZ, hre, hlk, hnm⟩, hFE, rfl⟩ := C
  subst hp
  intro T locs k' n' q1 q2 X eT N
  obtain ⟨s2, o, st2, r⟩ := q T locs k' n' q1 q2 X eT N
  exact ⟨s2, o, XS.aload (X.here) hx rfl (hb hby hd) hl hv st2, r⟩
theorem Ru.aloadN (C : Ru l Z own code maxL ret nm R n0 G W) {j : Fin 4} {v : Value} (hd : decode code pc = .ok (.aload_n j, 1)) (hp : pc + 1 = pc') (hl : Ls[j.val]? = some (.val v)) (hv : v.isRef = true) (q : W h k n pc' Ls (v :: st)) : W h k n pc Ls (st) := by
  obtain ⟨p, e, s, m, args, below, meth, c, FE, ⟨hx, hby, hml, hown, hZ, hre, hlk, hnm⟩, hFE, rfl⟩ := C
  subst hp
  intro T locs k' n' q1 q2 X eT N
  obtain ⟨s2, o, st2, r⟩ := q T locs k' n' q1 q2 X eT N
  exact ⟨s2, o, XS.aloadN (X.here) hx rfl (hb hby hd) hl hv st2, r⟩
theorem Ru.istoreX (C : Ru l Z own code maxL ret nm R n0 G W) {j : Nat} {x : Int32} {l' : Array Slot} (hd : decode code pc = .ok (.istore j, 2)) (hp : pc + 2 = pc') (hl : storeLocals Ls j (.int x) = some l') (q : W h k n pc' l' rest) : W h k n pc Ls (.int x :: rest) := by
  obtain ⟨p, e, s, m, args, below, meth, c, FE, ⟨hx, hby, hml, hown, hZ, hre, hlk, hnm⟩, hFE, rfl⟩ := C
  subst hp
  intro T locs k' n' q1 q2 X eT N
  obtain ⟨s2, o, st2, r⟩ := q T locs k' n' q1 q2 X eT N
  exact ⟨s2, o, XS.istore X.here hx rfl (hb hby hd) rfl hl st2, r⟩
theorem Ru.istoreNX (C : Ru l Z own code maxL ret nm R n0 G W) {j : Fin 4} {x : Int32} {l' : Array Slot} (hd : decode code pc = .ok (.istore_n j, 1)) (hp : pc + 1 = pc') (hl : storeLocals Ls j.val (.int x) = some l') (q : W h k n pc' l' rest) : W h k n pc Ls (.int x :: rest) := by
  obtain ⟨p, e, s, m, args, below, meth, c, FE, ⟨hx, hby, hml, hown, hZ, hre, hlk, hnm⟩, hFE, rfl⟩ := C
  subst hp
  intro T locs k' n' q1 q2 X eT N
  obtain ⟨s2, o, st2, r⟩ := q T locs k' n' q1 q2 X eT N
  exact ⟨s2, o, XS.istoreN X.here hx rfl (hb hby hd) rfl hl st2, r⟩
theorem Ru.lstoreX (C : Ru l Z own code maxL ret nm R n0 G W) {j : Nat} {x : Int64} {l' : Array Slot} (hd : decode code pc = .ok (.lstore j, 2)) (hp : pc + 2 = pc') (hl : storeLocals Ls j (.long x) = some l') (q : W h k n pc' l' rest) : W h k n pc Ls (.long x :: rest) := by
  obtain ⟨p, e, s, m, args, below, meth, c, FE, ⟨hx, hby, hml, hown, hZ, hre, hlk, hnm⟩, hFE, rfl⟩ := C
  subst hp
  intro T locs k' n' q1 q2 X eT N
  obtain ⟨s2, o, st2, r⟩ := q T locs k' n' q1 q2 X eT N
  exact ⟨s2, o, XT.lstore X.here hx rfl (hb hby hd) rfl hl st2, r⟩
theorem Ru.lstoreNX (C : Ru l Z own code maxL ret nm R n0 G W) {j : Fin 4} {x : Int64} {l' : Array Slot} (hd : decode code pc = .ok (.lstore_n j, 1)) (hp : pc + 1 = pc') (hl : storeLocals Ls j.val (.long x) = some l') (q : W h k n pc' l' rest) : W h k n pc Ls (.long x :: rest) := by
  obtain ⟨p, e, s, m, args, below, meth, c, FE, ⟨hx, hby, hml, hown, hZ, hre, hlk, hnm⟩, hFE, rfl⟩ := C
  subst hp
  intro T locs k' n' q1 q2 X eT N
  obtain ⟨s2, o, st2, r⟩ := q T locs k' n' q1 q2 X eT N
  exact ⟨s2, o, XT.lstoreN X.here hx rfl (hb hby hd) rfl hl st2, r⟩
theorem Ru.istore (C : Ru l Z own code maxL ret nm R n0 G W) {j : Nat} {x : Int32} {f : Int32 → Array Slot} (hd : decode code pc = .ok (.istore j, 2)) (hp : pc + 2 = pc') (hl : ∀ v, storeLocals Ls j (.int v) = some (f v)) (q : ∀ v, v = x → W h k n pc' (f v) rest) : W h k n pc Ls (.int x :: rest) := by
  obtain ⟨p, e, s, m, args, below, meth, c, FE, ⟨hx, hby, hml, hown, hZ, hre, hlk, hnm⟩, hFE, rfl⟩ := C
  subst hp
  intro T locs k' n' q1 q2 X eT N
  obtain ⟨s2, o, st2, r⟩ := q x rfl T locs k' n' q1 q2 X eT N
  exact ⟨s2, o, XS.istore X.here hx rfl (hb hby hd) rfl (hl x) st2, r⟩
theorem Ru.istoreN (C : Ru l Z own code maxL ret nm R n0 G W) {j : Fin 4} {x : Int32} {f : Int32 → Array Slot} (hd : decode code pc = .ok (.istore_n j, 1)) (hp : pc + 1 = pc') (hl : ∀ v, storeLocals Ls j.val (.int v) = some (f v)) (q : ∀ v, v = x → W h k n pc' (f v) rest) : W h k n pc Ls (.int x :: rest) := by
  obtain ⟨p, e, s, m, args, below, meth, c, FE, ⟨hx, hby, hml, hown, hZ, hre, hlk, hnm⟩, hFE, rfl⟩ := C
  subst hp
  intro T locs k' n' q1 q2 X eT N
  obtain ⟨s2, o, st2, r⟩ := q x rfl T locs k' n' q1 q2 X eT N
  exact ⟨s2, o, XS.istoreN X.here hx rfl (hb hby hd) rfl (hl x) st2, r⟩
theorem Ru.lstore (C : Ru l Z own code maxL ret nm R n0 G W) {j : Nat} {x : Int64} {f : Int64 → Array Slot} (hd : decode code pc = .ok (.lstore j, 2)) (hp : pc + 2 = pc') (hl : ∀ v, storeLocals Ls j (.long v) = some (f v)) (q : ∀ v, v = x → W h k n pc' (f v) rest) : W h k n pc Ls (.long x :: rest) := by
  obtain ⟨p, e, s, m, args, below, meth, c, FE, ⟨hx, hby, hml, hown, hZ, hre, hlk, hnm⟩, hFE, rfl⟩ := C
  subst hp
  intro T locs k' n' q1 q2 X eT N
  obtain ⟨s2, o, st2, r⟩ := q x rfl T locs k' n' q1 q2 X eT N
  exact ⟨s2, o, XT.lstore X.here hx rfl (hb hby hd) rfl (hl x) st2, r⟩
theorem Ru.lstoreN (C : Ru l Z own code maxL ret nm R n0 G W) {j : Fin 4} {x : Int64} {f : Int64 → Array Slot} (hd : decode code pc = .ok (.lstore_n j, 1)) (hp : pc + 1 = pc') (hl : ∀ v, storeLocals Ls j.val (.long v) = some (f v)) (q : ∀ v, v = x → W h k n pc' (f v) rest) : W h k n pc Ls (.long x :: rest) := by
  obtain ⟨p, e, s, m, args, below, meth, c, FE, ⟨hx, hby, hml, hown, hZ, hre, hlk, hnm⟩, hFE, rfl⟩ := C
  subst hp
  intro T locs k' n' q1 q2 X eT N
  obtain ⟨s2, o, st2, r⟩ := q x rfl T locs k' n' q1 q2 X eT N
  exact ⟨s2, o, XT.lstoreN X.here hx rfl (hb hby hd) rfl (hl x) st2, r⟩
theorem Ru.astore (C : Ru l Z own code maxL ret nm R n0 G W) {j : Nat} {x : Value} {l' : Array Slot} (hd : decode code pc = .ok (.astore j, 2)) (hp : pc + 2 = pc') (hv : x.isRef = true) (hl : storeLocals Ls j x = some l') (q : W h k n pc' l' rest) : W h k n pc Ls (x :: rest) := by
  obtain ⟨p, e, s, m, args, below, meth, c, FE, ⟨hx, hby, hml, hown, hZ, hre, hlk, hnm⟩, hFE, rfl⟩ := C
  subst hp
  intro T locs k' n' q1 q2 X eT N
  obtain ⟨s2, o, st2, r⟩ := q T locs k' n' q1 q2 X eT N
  exact ⟨s2, o, XS.astore X.here hx rfl (hb hby hd) rfl hv hl st2, r⟩
theorem Ru.astoreN (C : Ru l Z own code maxL ret nm R n0 G W) {j : Fin 4} {x : Value} {l' : Array Slot} (hd : decode code pc = .ok (.astore_n j, 1)) (hp : pc + 1 = pc') (hv : x.isRef = true) (hl : storeLocals Ls j.val x = some l') (q : W h k n pc' l' rest) : W h k n pc Ls (x :: rest) := by
  obtain ⟨p, e, s, m, args, below, meth, c, FE, ⟨hx, hby, hml, hown, hZ, hre, hlk, hnm⟩, hFE, rfl⟩ := C
  subst hp
  intro T locs k' n' q1 q2 X eT N
  obtain ⟨s2, o, st2, r⟩ := q T locs k' n' q1 q2 X eT N
  exact ⟨s2, o, XS.astoreN X.here hx rfl (hb hby hd) rfl hv hl st2, r⟩
theorem Ru.iinc (C : Ru l Z own code maxL ret nm R n0 G W) {j : Nat} {cst : Int} {x d : Int32} {f : Int32 → Array Slot} (hd : decode code pc = .ok (.iinc j cst, 3)) (hp : pc + 3 = pc') (hl : Ls[j]? = some (.val (.int x))) (hc : Int32.ofInt cst = d) (hl' : ∀ v, storeLocals Ls j (.int v) = some (f v)) (q : ∀ v, v = x + d → W h k n pc' (f v) st) : W h k n pc Ls st := by
  obtain ⟨p, e, s, m, args, below, meth, c, FE, ⟨hx, hby, hml, hown, hZ, hre, hlk, hnm⟩, hFE, rfl⟩ := C
  subst hp hc
  intro T locs k' n' q1 q2 X eT N
  obtain ⟨s2, o, st2, r⟩ := q _ rfl T locs k' n' q1 q2 X eT N
  exact ⟨s2, o, XS.iinc X.here hx rfl (hb hby hd) hl (hl' _) st2, r⟩
theorem Ru.goto (C : Ru l Z own code maxL ret nm R n0 G W) {o : Int} (hd : decode code pc = .ok (.goto o, 3)) (hp : (pc : Int) + o = (pc' : Int)) (q : W h k n pc' Ls st) : W h k n pc Ls st := by
  obtain ⟨p, e, s, m, args, below, meth, c, FE, ⟨hx, hby, hml, hown, hZ, hre, hlk, hnm⟩, hFE, rfl⟩ := C
  intro T locs k' n' q1 q2 X eT N
  obtain ⟨s2, o2, st2, r⟩ := q T locs k' n' q1 q2 X eT N
  exact ⟨s2, o2, XS.goto X.here hx rfl (pc0 := pc) (pc' := pc') rfl (hb hby hd) (by omega) (by omega) st2, r⟩
theorem Ru.ifAny (C : Ru l Z own code maxL ret nm R n0 G W) {cd : ClassFile.Cond} {o : Int} {x : Int32} {pt : Nat} (hd : decode code pc = .ok (.ifCond cd o, 3)) (hp : pc + 3 = pc') (ht : (pc : Int) + o = (pt : Int)) (q1 : ifCond.holds cd x = true → W h k n pt Ls rest) (q2 : ifCond.holds cd x = false → W h k n pc' Ls rest) : W h k n pc Ls (.int x :: rest) := by
  obtain ⟨p, e, s, m, args, below, meth, c, FE, ⟨hx, hby, hml, hown, hZ, hre, hlk, hnm⟩, hFE, rfl⟩ := C
  subst hp
  intro T locs k' n' u1 u2 X eT N
  cases hc : ifCond.holds cd x
  · obtain ⟨s2, o2, st2, r⟩ := q2 hc T locs k' n' u1 u2 X eT N
    exact ⟨s2, o2, XS.ifNo X.here hx rfl (hb hby hd) rfl hc st2, r⟩
  · obtain ⟨s2, o2, st2, r⟩ := q1 hc T locs k' n' u1 u2 X eT N
    exact ⟨s2, o2, XS.ifYes X.here hx rfl (pc0 := pc) (pc' := pt) rfl (hb hby hd) rfl hc (by omega) (by omega) st2, r⟩
theorem Ru.icmpAny (C : Ru l Z own code maxL ret nm R n0 G W) {cd : ClassFile.Cond} {o : Int} {x y : Int32} {pt : Nat} (hd : decode code pc = .ok (.if_icmp cd o, 3)) (hp : pc + 3 = pc') (ht : (pc : Int) + o = (pt : Int)) (q1 : if_icmp.holds cd x y = true → W h k n pt Ls rest) (q2 : if_icmp.holds cd x y = false → W h k n pc' Ls rest) : W h k n pc Ls (.int y :: .int x :: rest) := by
  obtain ⟨p, e, s, m, args, below, meth, c, FE, ⟨hx, hby, hml, hown, hZ, hre, hlk, hnm⟩, hFE, rfl⟩ := C
  subst hp
  intro T locs k' n' u1 u2 X eT N
  cases hc : if_icmp.holds cd x y
  · obtain ⟨s2, o2, st2, r⟩ := q2 hc T locs k' n' u1 u2 X eT N
    exact ⟨s2, o2, XS.icmpNo X.here hx rfl (hb hby hd) rfl hc st2, r⟩
  · obtain ⟨s2, o2, st2, r⟩ := q1 hc T locs k' n' u1 u2 X eT N
    exact ⟨s2, o2, XS.icmpYes X.here hx rfl (pc0 := pc) (pc' := pt) rfl (hb hby hd) rfl hc (by omega) (by omega) st2, r⟩
theorem Ru.lcmp (C : Ru l Z own code maxL ret nm R n0 G W) {x y : Int64} (hd : decode code pc = .ok (.lcmp, 1)) (hp : pc + 1 = pc') (q : W h k n pc' Ls (.int (XT.cmpL x y) :: rest)) : W h k n pc Ls (.long y :: .long x :: rest) := by
  obtain ⟨p, e, s, m, args, below, meth, c, FE, ⟨hx, hby, hml, hown, hZ, hre, hlk, hnm⟩, hFE, rfl⟩ := C
  subst hp
  intro T locs k' n' q1 q2 X eT N
  obtain ⟨s2, o, st2, r⟩ := q T locs k' n' q1 q2 X eT N
  exact ⟨s2, o, XT.lcmp X.here hx rfl (hb hby hd) rfl st2, r⟩
theorem cmpL_lt (x y : Int64) : XT.cmpL x y < 0 ↔ x < y := by
  have e : XT.cmpL x y = lcmpV x y := by simp only [XT.cmpL, lcmpV]; split <;> simp_all
  rw [e]; exact lc_lt x y
theorem cmpL_gt (x y : Int64) : 0 < XT.cmpL x y ↔ y < x := by
  have e : XT.cmpL x y = lcmpV x y := by simp only [XT.cmpL, lcmpV]; split <;> simp_all
  rw [e]; exact lc_gt x y
theorem cmpL_eq (x y : Int64) : XT.cmpL x y = 0 ↔ x = y := by
  have e : XT.cmpL x y = lcmpV x y := by simp only [XT.cmpL, lcmpV]; split <;> simp_all
  rw [e]; exact lc_eq x y
theorem Ru.if_eq (C : Ru l Z own code maxL ret nm R n0 G W) {o : Int} {x : Int32} {pt : Nat} (hd : decode code pc = .ok (.ifCond .eq o, 3)) (hp : pc + 3 = pc') (ht : (pc : Int) + o = (pt : Int)) (q1 : x = 0 → W h k n pt Ls rest) (q2 : ¬ x = 0 → W h k n pc' Ls rest) : W h k n pc Ls (.int x :: rest) :=
  C.ifAny hd hp ht (fun q => q1 (by simpa [ifCond.holds] using q)) (fun q => q2 (by simpa [ifCond.holds] using q))
theorem Ru.icmp_eq (C : Ru l Z own code maxL ret nm R n0 G W) {o : Int} {x y : Int32} {pt : Nat} (hd : decode code pc = .ok (.if_icmp .eq o, 3)) (hp : pc + 3 = pc') (ht : (pc : Int) + o = (pt : Int)) (q1 : x = y → W h k n pt Ls rest) (q2 : ¬ x = y → W h k n pc' Ls rest) : W h k n pc Ls (.int y :: .int x :: rest) :=
  C.icmpAny hd hp ht (fun q => q1 (by simpa [if_icmp.holds] using q)) (fun q => q2 (by simpa [if_icmp.holds] using q))
theorem Ru.lif_eq (C : Ru l Z own code maxL ret nm R n0 G W) {o : Int} {x y : Int64} {pi pt : Nat} (hd : decode code pc = .ok (.lcmp, 1)) (hi : pc + 1 = pi) (hd2 : decode code pi = .ok (.ifCond .eq o, 3)) (hp : pi + 3 = pc') (ht : (pi : Int) + o = (pt : Int)) (q1 : x = y → W h k n pt Ls rest) (q2 : ¬ x = y → W h k n pc' Ls rest) : W h k n pc Ls (.long y :: .long x :: rest) :=
  C.lcmp hd hi (C.if_eq hd2 hp ht (fun q => q1 (by simpa only [cmpL_eq, cmpL_lt, cmpL_gt] using q)) (fun q => q2 (by simpa only [cmpL_eq, cmpL_lt, cmpL_gt] using q)))
theorem Ru.if_ne (C : Ru l Z own code maxL ret nm R n0 G W) {o : Int} {x : Int32} {pt : Nat} (hd : decode code pc = .ok (.ifCond .ne o, 3)) (hp : pc + 3 = pc') (ht : (pc : Int) + o = (pt : Int)) (q1 : ¬ x = 0 → W h k n pt Ls rest) (q2 : x = 0 → W h k n pc' Ls rest) : W h k n pc Ls (.int x :: rest) :=
  C.ifAny hd hp ht (fun q => q1 (by simpa [ifCond.holds] using q)) (fun q => q2 (by simpa [ifCond.holds] using q))
theorem Ru.icmp_ne (C : Ru l Z own code maxL ret nm R n0 G W) {o : Int} {x y : Int32} {pt : Nat} (hd : decode code pc = .ok (.if_icmp .ne o, 3)) (hp : pc + 3 = pc') (ht : (pc : Int) + o = (pt : Int)) (q1 : ¬ x = y → W h k n pt Ls rest) (q2 : x = y → W h k n pc' Ls rest) : W h k n pc Ls (.int y :: .int x :: rest) :=
  C.icmpAny hd hp ht (fun q => q1 (by simpa [if_icmp.holds] using q)) (fun q => q2 (by simpa [if_icmp.holds] using q))
theorem Ru.lif_ne (C : Ru l Z own code maxL ret nm R n0 G W) {o : Int} {x y : Int64} {pi pt : Nat} (hd : decode code pc = .ok (.lcmp, 1)) (hi : pc + 1 = pi) (hd2 : decode code pi = .ok (.ifCond .ne o, 3)) (hp : pi + 3 = pc') (ht : (pi : Int) + o = (pt : Int)) (q1 : ¬ x = y → W h k n pt Ls rest) (q2 : x = y → W h k n pc' Ls rest) : W h k n pc Ls (.long y :: .long x :: rest) :=
  C.lcmp hd hi (C.if_ne hd2 hp ht (fun q => q1 (by simpa only [cmpL_eq, cmpL_lt, cmpL_gt] using q)) (fun q => q2 (by simpa only [cmpL_eq, cmpL_lt, cmpL_gt] using q)))
theorem Ru.if_lt (C : Ru l Z own code maxL ret nm R n0 G W) {o : Int} {x : Int32} {pt : Nat} (hd : decode code pc = .ok (.ifCond .lt o, 3)) (hp : pc + 3 = pc') (ht : (pc : Int) + o = (pt : Int)) (q1 : x < 0 → W h k n pt Ls rest) (q2 : ¬ x < 0 → W h k n pc' Ls rest) : W h k n pc Ls (.int x :: rest) :=
  C.ifAny hd hp ht (fun q => q1 (by simpa [ifCond.holds] using q)) (fun q => q2 (by simpa [ifCond.holds] using q))
theorem Ru.icmp_lt (C : Ru l Z own code maxL ret nm R n0 G W) {o : Int} {x y : Int32} {pt : Nat} (hd : decode code pc = .ok (.if_icmp .lt o, 3)) (hp : pc + 3 = pc') (ht : (pc : Int) + o = (pt : Int)) (q1 : x < y → W h k n pt Ls rest) (q2 : ¬ x < y → W h k n pc' Ls rest) : W h k n pc Ls (.int y :: .int x :: rest) :=
  C.icmpAny hd hp ht (fun q => q1 (by simpa [if_icmp.holds] using q)) (fun q => q2 (by simpa [if_icmp.holds] using q))
theorem Ru.lif_lt (C : Ru l Z own code maxL ret nm R n0 G W) {o : Int} {x y : Int64} {pi pt : Nat} (hd : decode code pc = .ok (.lcmp, 1)) (hi : pc + 1 = pi) (hd2 : decode code pi = .ok (.ifCond .lt o, 3)) (hp : pi + 3 = pc') (ht : (pi : Int) + o = (pt : Int)) (q1 : x < y → W h k n pt Ls rest) (q2 : ¬ x < y → W h k n pc' Ls rest) : W h k n pc Ls (.long y :: .long x :: rest) :=
  C.lcmp hd hi (C.if_lt hd2 hp ht (fun q => q1 (by simpa only [cmpL_eq, cmpL_lt, cmpL_gt] using q)) (fun q => q2 (by simpa only [cmpL_eq, cmpL_lt, cmpL_gt] using q)))
theorem Ru.if_ge (C : Ru l Z own code maxL ret nm R n0 G W) {o : Int} {x : Int32} {pt : Nat} (hd : decode code pc = .ok (.ifCond .ge o, 3)) (hp : pc + 3 = pc') (ht : (pc : Int) + o = (pt : Int)) (q1 : ¬ x < 0 → W h k n pt Ls rest) (q2 : x < 0 → W h k n pc' Ls rest) : W h k n pc Ls (.int x :: rest) :=
  C.ifAny hd hp ht (fun q => q1 (by simpa [ifCond.holds] using q)) (fun q => q2 (by simpa [ifCond.holds] using q))
theorem Ru.icmp_ge (C : Ru l Z own code maxL ret nm R n0 G W) {o : Int} {x y : Int32} {pt : Nat} (hd : decode code pc = .ok (.if_icmp .ge o, 3)) (hp : pc + 3 = pc') (ht : (pc : Int) + o = (pt : Int)) (q1 : ¬ x < y → W h k n pt Ls rest) (q2 : x < y → W h k n pc' Ls rest) : W h k n pc Ls (.int y :: .int x :: rest) :=
  C.icmpAny hd hp ht (fun q => q1 (by simpa [if_icmp.holds] using q)) (fun q => q2 (by simpa [if_icmp.holds] using q))
theorem Ru.lif_ge (C : Ru l Z own code maxL ret nm R n0 G W) {o : Int} {x y : Int64} {pi pt : Nat} (hd : decode code pc = .ok (.lcmp, 1)) (hi : pc + 1 = pi) (hd2 : decode code pi = .ok (.ifCond .ge o, 3)) (hp : pi + 3 = pc') (ht : (pi : Int) + o = (pt : Int)) (q1 : ¬ x < y → W h k n pt Ls rest) (q2 : x < y → W h k n pc' Ls rest) : W h k n pc Ls (.long y :: .long x :: rest) :=
  C.lcmp hd hi (C.if_ge hd2 hp ht (fun q => q1 (by simpa only [cmpL_eq, cmpL_lt, cmpL_gt] using q)) (fun q => q2 (by simpa only [cmpL_eq, cmpL_lt, cmpL_gt] using q)))
theorem Ru.if_gt (C : Ru l Z own code maxL ret nm R n0 G W) {o : Int} {x : Int32} {pt : Nat} (hd : decode code pc = .ok (.ifCond .gt o, 3)) (hp : pc + 3 = pc') (ht : (pc : Int) + o = (pt : Int)) (q1 : 0 < x → W h k n pt Ls rest) (q2 : ¬ 0 < x → W h k n pc' Ls rest) : W h k n pc Ls (.int x :: rest) :=
  C.ifAny hd hp ht (fun q => q1 (by simpa [ifCond.holds] using q)) (fun q => q2 (by simpa [ifCond.holds] using q))
theorem Ru.icmp_gt (C : Ru l Z own code maxL ret nm R n0 G W) {o : Int} {x y : Int32} {pt : Nat} (hd : decode code pc = .ok (.if_icmp .gt o, 3)) (hp : pc + 3 = pc') (ht : (pc : Int) + o = (pt : Int)) (q1 : y < x → W h k n pt Ls rest) (q2 : ¬ y < x → W h k n pc' Ls rest) : W h k n pc Ls (.int y :: .int x :: rest) :=
  C.icmpAny hd hp ht (fun q => q1 (by simpa [if_icmp.holds] using q)) (fun q => q2 (by simpa [if_icmp.holds] using q))
theorem Ru.lif_gt (C : Ru l Z own code maxL ret nm R n0 G W) {o : Int} {x y : Int64} {pi pt : Nat} (hd : decode code pc = .ok (.lcmp, 1)) (hi : pc + 1 = pi) (hd2 : decode code pi = .ok (.ifCond .gt o, 3)) (hp : pi + 3 = pc') (ht : (pi : Int) + o = (pt : Int)) (q1 : y < x → W h k n pt Ls rest) (q2 : ¬ y < x → W h k n pc' Ls rest) : W h k n pc Ls (.long y :: .long x :: rest) :=
  C.lcmp hd hi (C.if_gt hd2 hp ht (fun q => q1 (by simpa only [cmpL_eq, cmpL_lt, cmpL_gt] using q)) (fun q => q2 (by simpa only [cmpL_eq, cmpL_lt, cmpL_gt] using q)))
theorem Ru.if_le (C : Ru l Z own code maxL ret nm R n0 G W) {o : Int} {x : Int32} {pt : Nat} (hd : decode code pc = .ok (.ifCond .le o, 3)) (hp : pc + 3 = pc') (ht : (pc : Int) + o = (pt : Int)) (q1 : ¬ 0 < x → W h k n pt Ls rest) (q2 : 0 < x → W h k n pc' Ls rest) : W h k n pc Ls (.int x :: rest) :=
  C.ifAny hd hp ht (fun q => q1 (by simpa [ifCond.holds] using q)) (fun q => q2 (by simpa [ifCond.holds] using q))
theorem Ru.icmp_le (C : Ru l Z own code maxL ret nm R n0 G W) {o : Int} {x y : Int32} {pt : Nat} (hd : decode code pc = .ok (.if_icmp .le o, 3)) (hp : pc + 3 = pc') (ht : (pc : Int) + o = (pt : Int)) (q1 : ¬ y < x → W h k n pt Ls rest) (q2 : y < x → W h k n pc' Ls rest) : W h k n pc Ls (.int y :: .int x :: rest) :=
  C.icmpAny hd hp ht (fun q => q1 (by simpa [if_icmp.holds] using q)) (fun q => q2 (by simpa [if_icmp.holds] using q))
theorem Ru.lif_le (C : Ru l Z own code maxL ret nm R n0 G W) {o : Int} {x y : Int64} {pi pt : Nat} (hd : decode code pc = .ok (.lcmp, 1)) (hi : pc + 1 = pi) (hd2 : decode code pi = .ok (.ifCond .le o, 3)) (hp : pi + 3 = pc') (ht : (pi : Int) + o = (pt : Int)) (q1 : ¬ y < x → W h k n pt Ls rest) (q2 : y < x → W h k n pc' Ls rest) : W h k n pc Ls (.long y :: .long x :: rest) :=
  C.lcmp hd hi (C.if_le hd2 hp ht (fun q => q1 (by simpa only [cmpL_eq, cmpL_lt, cmpL_gt] using q)) (fun q => q2 (by simpa only [cmpL_eq, cmpL_lt, cmpL_gt] using q)))
theorem Ru.ifnullYes (C : Ru l Z own code maxL ret nm R n0 G W) {o : Int}  (hd : decode code pc = .ok (.ifnull o, 3)) (hp : (pc : Int) + o = (pc' : Int)) (q : W h k n pc' Ls rest) : W h k n pc Ls (.null :: rest) := by
  obtain ⟨p, e, s, m, args, below, meth, c, FE, ⟨hx, hby, hml, hown, hZ, hre, hlk, hnm⟩, hFE, rfl⟩ := C
  intro T locs k' n' q1 q2 X eT N
  obtain ⟨s2, o2, st2, r⟩ := q T locs k' n' q1 q2 X eT N
  exact ⟨s2, o2, XS.ifnullYes X.here hx rfl (pc0 := pc) (pc' := pc') rfl (hb hby hd) rfl (by omega) (by omega) st2, r⟩
theorem Ru.ifnullNo (C : Ru l Z own code maxL ret nm R n0 G W) {o : Int} {b : Addr} (hd : decode code pc = .ok (.ifnull o, 3)) (hp : pc + 3 = pc') (q : W h k n pc' Ls rest) : W h k n pc Ls (.ref b :: rest) := by
  obtain ⟨p, e, s, m, args, below, meth, c, FE, ⟨hx, hby, hml, hown, hZ, hre, hlk, hnm⟩, hFE, rfl⟩ := C
  subst hp
  intro T locs k' n' q1 q2 X eT N
  obtain ⟨s2, o2, st2, r⟩ := q T locs k' n' q1 q2 X eT N
  exact ⟨s2, o2, XS.ifnullNo X.here hx rfl (hb hby hd) rfl st2, r⟩
theorem Ru.ifnonnullYes (C : Ru l Z own code maxL ret nm R n0 G W) {o : Int} {b : Addr} (hd : decode code pc = .ok (.ifnonnull o, 3)) (hp : (pc : Int) + o = (pc' : Int)) (q : W h k n pc' Ls rest) : W h k n pc Ls (.ref b :: rest) := by
  obtain ⟨p, e, s, m, args, below, meth, c, FE, ⟨hx, hby, hml, hown, hZ, hre, hlk, hnm⟩, hFE, rfl⟩ := C
  intro T locs k' n' q1 q2 X eT N
  obtain ⟨s2, o2, st2, r⟩ := q T locs k' n' q1 q2 X eT N
  exact ⟨s2, o2, XT.ifnonnullYes X.here hx rfl (pc0 := pc) (pc' := pc') rfl (hb hby hd) rfl (by omega) (by omega) st2, r⟩
theorem Ru.ifnonnullNo (C : Ru l Z own code maxL ret nm R n0 G W) {o : Int}  (hd : decode code pc = .ok (.ifnonnull o, 3)) (hp : pc + 3 = pc') (q : W h k n pc' Ls rest) : W h k n pc Ls (.null :: rest) := by
  obtain ⟨p, e, s, m, args, below, meth, c, FE, ⟨hx, hby, hml, hown, hZ, hre, hlk, hnm⟩, hFE, rfl⟩ := C
  subst hp
  intro T locs k' n' q1 q2 X eT N
  obtain ⟨s2, o2, st2, r⟩ := q T locs k' n' q1 q2 X eT N
  exact ⟨s2, o2, XT.ifnonnullNo X.here hx rfl (hb hby hd) rfl st2, r⟩
theorem lrem_eq (x y : Int64) : x - (x / y) * y = x % y := lrem_mod x y
theorem Ru.lrem (C : Ru l Z own code maxL ret nm R n0 G W) {x y : Int64} (hd : decode code pc = .ok (.lrem, 1)) (hp : pc + 1 = pc') (hy : y ≠ 0) (q : W h k n pc' Ls (.long (x % y) :: rest)) : W h k n pc Ls (.long y :: .long x :: rest) := by
  obtain ⟨p, e, s, m, args, below, meth, c, FE, ⟨hx, hby, hml, hown, hZ, hre, hlk, hnm⟩, hFE, rfl⟩ := C
  subst hp
  intro T locs k' n' q1 q2 X eT N
  obtain ⟨s2, o, st2, r⟩ := q T locs k' n' q1 q2 X eT N
  exact ⟨s2, o, XT.lrem X.here hx rfl (hb hby hd) rfl hy (by rw [lrem_mod]; exact st2), r⟩
theorem Ru.ldcI (C : Ru l Z own code maxL ret nm R n0 G W) {a0 : Array Value} {i : Nat} {v : Int32} (w : (Cond.constant own i v).before a0 Z = true) (hd : decode code pc = .ok (.ldc i, 2)) (hp : pc + 2 = pc') (q : W h k n pc' Ls (.int v :: st)) : W h k n pc Ls st := by
  obtain ⟨p, e, s, m, args, below, meth, c, FE, ⟨hx, hby, hml, hown, hZ, hre, hlk, hnm⟩, hFE, rfl⟩ := C
  subst hp
  intro T locs k' n' q1 q2 X eT N
  obtain ⟨s2, o, st2, r⟩ := q T locs k' n' q1 q2 X eT N
  exact ⟨s2, o, X.ldcInt hx hown (mvT hZ w) (g := mkF m pc Ls st) rfl (hb hby hd) _ st2, r⟩
theorem Ru.ldcJ (C : Ru l Z own code maxL ret nm R n0 G W) {a0 : Array Value} {i : Nat} {v : Int64} (w : (Cond.constantLong own i v).before a0 Z = true) (hd : decode code pc = .ok (.ldc2_w i, 3)) (hp : pc + 3 = pc') (q : W h k n pc' Ls (.long v :: st)) : W h k n pc Ls st := by
  obtain ⟨p, e, s, m, args, below, meth, c, FE, ⟨hx, hby, hml, hown, hZ, hre, hlk, hnm⟩, hFE, rfl⟩ := C
  subst hp
  intro T locs k' n' q1 q2 X eT N
  obtain ⟨s2, o, st2, r⟩ := q T locs k' n' q1 q2 X eT N
  exact ⟨s2, o, X.ldc2Long hx hown (mvT hZ w) (g := mkF m pc Ls st) rfl (hb hby hd) _ st2, r⟩
/-! the heap -/
theorem Ru.getf (C : Ru l Z own code maxL ret nm R n0 G W) {a0 : Array Value} {R0 O f d : String} {i : Nat} {a : Addr} {v : Value} (w : (Cond.fieldLink own i R0 f d).before a0 Z = true) (via : Via Z R0 O f d) (F : Fld Z h a O f d v) (hd : decode code pc = .ok (.getfield i, 3)) (hp : pc + 3 = pc') (q : W h k n pc' Ls (v :: rest)) : W h k n pc Ls (.ref a :: rest) := by
  obtain ⟨p, e, s, m, args, below, meth, c, FE, ⟨hx, hby, hml, hown, hZ, hre, hlk, hnm⟩, hFE, rfl⟩ := C
  subst hp
  intro T locs k' n' q1 q2 X eT N
  obtain ⟨T', X', e', st'⟩ := getF X hx hZ hown (host := "") (Or.inl w) via eT F (g := mkF m pc Ls (.ref a :: rest)) rfl rfl (hb hby hd)
  obtain ⟨s2, o, st2, r⟩ := q T' locs k' n' q1 q2 X' e' N
  exact ⟨s2, o, st' _ st2, r⟩
theorem Ru.gets (C : Ru l Z own code maxL ret nm R n0 G W) {a0 : Array Value} {R0 O f d : String} {i : Nat} {v : Value} (w : (Cond.fieldLink own i R0 f d).before a0 Z = true) (via : Via Z R0 O f d) (F : Sta Z h O f d v) (hd : decode code pc = .ok (.getstatic i, 3)) (hp : pc + 3 = pc') (q : W h k n pc' Ls (v :: st)) : W h k n pc Ls st := by
  obtain ⟨p, e, s, m, args, below, meth, c, FE, ⟨hx, hby, hml, hown, hZ, hre, hlk, hnm⟩, hFE, rfl⟩ := C
  subst hp
  intro T locs k' n' q1 q2 X eT N
  obtain ⟨T', X', e', st'⟩ := getS X hx hZ (host := "") hown w via eT F (g := mkF m pc Ls st) rfl (hb hby hd)
  obtain ⟨s2, o, st2, r⟩ := q T' locs k' n' q1 q2 X' e' N
  exact ⟨s2, o, st' _ st2, r⟩
theorem Ru.putf (C : Ru l Z own code maxL ret nm R n0 G W) {a0 : Array Value} {R0 O f d D : String} {i kk : Nat} {ty : FieldType} {a : Addr} {v old : Value} (w : (Cond.fieldLink own i R0 f d).before a0 Z = true) (via : Via Z R0 O f d) (F : Fld Z h a O f d old) (E : Exa Z h a D)
    (L : (Cond.lays D O f d).before a0 Z = true ∨ ((Cond.laysFinal D O f d).before a0 Z = true ∧ own = O ∧ nm = "<init>")) (wi : (Cond.instantiable D kk).before a0 Z = true) (hty : parseFieldDescriptor d = some ty) (hn : narrow ty v = v) (hf : fits ty v = true) (hg : n0 ≤ a)
    (hd : decode code pc = .ok (.putfield i, 3)) (hp : pc + 3 = pc') (q : ∀ h', Wr h h' a (Jvm.RoadKit.slotOf Z O f d) v → W h' k n pc' Ls rest) : W h k n pc Ls (v :: .ref a :: rest) := by
  obtain ⟨p, e, s, m, args, below, meth, c, FE, ⟨hx, hby, hml, hown, hZ, hre, hlk, hnm⟩, hFE, rfl⟩ := C
  subst hp
  intro T locs k' n' q1 q2 X eT N
  obtain ⟨T', h', X', e', W', st'⟩ := putF X hx hZ hown (host := "") (Or.inl w) via eT F E (L.imp id fun u => ⟨u.1, u.2.1, hnm.trans u.2.2⟩) wi hty hn hf (g := mkF m pc Ls (v :: .ref a :: rest)) rfl rfl (hb hby hd)
  obtain ⟨s2, o, st2, r⟩ := q h' W' T' _ k' n' q1 q2 X' e' (Fr.snoc X' N hg)
  exact ⟨s2, o, st' _ st2, r⟩
theorem Ru.putfN (C : Ru l Z own code maxL ret nm R n0 G W) {a0 : Array Value} {R0 O f d D : String} {i kk : Nat} {ty : FieldType} {a : Addr} {v v' old : Value} (w : (Cond.fieldLink own i R0 f d).before a0 Z = true) (via : Via Z R0 O f d) (F : Fld Z h a O f d old) (E : Exa Z h a D)
    (L : (Cond.lays D O f d).before a0 Z = true ∨ ((Cond.laysFinal D O f d).before a0 Z = true ∧ own = O ∧ nm = "<init>")) (wi : (Cond.instantiable D kk).before a0 Z = true) (hty : parseFieldDescriptor d = some ty) (hn : narrow ty v = v') (hf : fits ty v' = true) (hg : n0 ≤ a)
    (hd : decode code pc = .ok (.putfield i, 3)) (hp : pc + 3 = pc') (q : ∀ h', Wr h h' a (Jvm.RoadKit.slotOf Z O f d) v' → W h' k n pc' Ls rest) : W h k n pc Ls (v :: .ref a :: rest) := by
  obtain ⟨p, e, s, m, args, below, meth, c, FE, ⟨hx, hby, hml, hown, hZ, hre, hlk, hnm⟩, hFE, rfl⟩ := C
  subst hp
  intro T locs k' n' q1 q2 X eT N
  obtain ⟨T', h', X', e', W', st'⟩ := putFN X hx hZ hown w via eT F E (L.imp id fun u => ⟨u.1, u.2.1, hnm.trans u.2.2⟩) wi hty hn hf (g := mkF m pc Ls (v :: .ref a :: rest)) rfl rfl (hb hby hd)
  obtain ⟨s2, o, st2, r⟩ := q h' W' T' _ k' n' q1 q2 X' e' (Fr.snoc X' N hg)
  exact ⟨s2, o, st' _ st2, r⟩
theorem Ru.new (C : Ru l Z own code maxL ret nm R n0 G W) {a0 : Array Value} {D : String} {i sl : Nat} (w : (Cond.classLink own i D).before a0 Z = true) (wi : (Cond.instantiable D sl).before a0 Z = true) (wz : (Cond.initialized D).before a0 Z = true)
    (hd : decode code pc = .ok (.new i, 3)) (hp : pc + 3 = pc') (hk : k + 1 ≤ R.cells) (hn : n + sl ≤ R.slots)
    (q : ∀ h' b, b = h.size → Ext h h' → Exa Z h' b D → (∀ {O nm d : String} {ty : FieldType}, Laid Z a0 D O nm d → parseFieldDescriptor d = some ty → Fld Z h' b O nm d (defaultValue ty)) → W h' (k + 1) (n + sl) pc' Ls (.ref b :: st)) : W h k n pc Ls st := by
  obtain ⟨p, e, s, m, args, below, meth, c, FE, ⟨hx, hby, hml, hown, hZ, hre, hlk, hnm⟩, hFE, rfl⟩ := C
  subst hp
  intro T locs k' n' q1 q2 X eT N
  obtain ⟨T', h', X', e', E', A', D', -, st'⟩ := newO X hx hZ hown w wi wz eT (g := mkF m pc Ls st) rfl (hb hby hd) (by omega) (by omega)
  obtain ⟨s2, o, st2, r⟩ := q h' _ rfl E' A' D' T' locs (k' + 1) (n' + sl) (by omega) (by omega) X' e' N
  exact ⟨s2, o, st' _ st2, r⟩
/-- an int array with just these elements -/
def AI (Z : State) (h : Heap) (a : Addr) (vs : List Int32) : Prop := ∃ c : Cell, Arr Z h a c .int ∧ c.slots = (vs.map Value.int).toArray ∧ vs.length < 2 ^ 31
def AJ (Z : State) (h : Heap) (a : Addr) (vs : List Int64) : Prop := ∃ c : Cell, Arr Z h a c .long ∧ c.slots = (vs.map Value.long).toArray ∧ vs.length < 2 ^ 31
/-- a byte array of this length -/
def AB (Z : State) (h : Heap) (a : Addr) (z : Nat) : Prop := ∃ c : Cell, Arr Z h a c .byte ∧ c.slots.size = z ∧ z < 2 ^ 31
theorem AI.lt {Z : State} {h : Heap} {a : Addr} {vs : List Int32} (F : AI Z h a vs) : a < h.size := by obtain ⟨c, A, -⟩ := F; exact A.lt
theorem AI.ext {Z : State} {h h' : Heap} {a : Addr} {vs : List Int32} (F : AI Z h a vs) (E : Ext h h') : AI Z h' a vs := by obtain ⟨c, A, r⟩ := F; exact ⟨c, A.ext E, r⟩
theorem AI.other {Z : State} {h h' : Heap} {a b : Addr} {sl : Nat} {v : Value} {vs : List Int32} (F : AI Z h b vs) (W : Wr h h' a sl v) (q : b ≠ a) : AI Z h' b vs := by obtain ⟨c, A, r⟩ := F; exact ⟨c, A.other W q, r⟩
theorem AI.keep {Z : State} {h h' : Heap} {a : Addr} {ws : List Addr} {vs : List Int32} (F : AI Z h a vs) (K : Keep h h' ws) (q : a ∉ ws) : AI Z h' a vs := by obtain ⟨c, A, r⟩ := F; exact ⟨c, ⟨K.2.1 a c A.1 q, A.2⟩, r⟩
theorem AI.set {Z : State} {h h' : Heap} {a : Addr} {j : Nat} {v : Int32} {vs : List Int32} (F : AI Z h a vs) (W : Wr h h' a j (.int v)) : AI Z h' a (vs.set j v) := by
  obtain ⟨c, A, e, r⟩ := F
  refine ⟨_, A.same W, ?_, by rw [List.length_set]; exact r⟩
  have q : (c.setSlot j (.int v)).slots = c.slots.setIfInBounds j (.int v) := rfl
  rw [q, e]
  apply Array.ext'
  simp [List.map_set]
theorem Ru.newAI (C : Ru l Z own code maxL ret nm R n0 G W) {a0 : Array Value} {z : Int32} {N cap : Nat} (w : (Cond.arrayClass .int).before a0 Z = true) (hd : decode code pc = .ok (.newarray .int, 2)) (hp : pc + 2 = pc') (hz : z.toInt = (N : Int)) (hcap : N ≤ cap) (hb8 : cap * 8 ≤ 536870912) (hk : k + 1 ≤ R.cells) (hn : n + cap ≤ R.slots)
    (q : ∀ h' b, b = h.size → Ext h h' → AI Z h' b (List.replicate N 0) → W h' (k + 1) (n + cap) pc' Ls (.ref b :: rest)) : W h k n pc Ls (.int z :: rest) := by
  obtain ⟨p, e, s, m, args, below, meth, c, FE, ⟨hx, hby, hml, hown, hZ, hre, hlk, hnm⟩, hFE, rfl⟩ := C
  subst hp
  intro T locs k' n' q1 q2 X eT Nf
  have hnn : ¬ z < 0 := by rw [Int32.lt_iff_toInt_lt]; show ¬ z.toInt < 0; omega
  have hzn : z.toNatClampNeg = N := by show z.toInt.toNat = N; omega
  have hlt : N < 2 ^ 31 := by have := (rng32 z).2; omega
  obtain ⟨T', h', cA, X', e', E', A', st'⟩ := newP X hx hZ (aty := .int) w eT (g := mkF m pc Ls (.int z :: rest)) rfl (hb hby hd) rfl hnn (cap := cap) (by omega) hb8 (by omega) (by omega)
  have F : AI Z h' h.size (List.replicate N 0) := by
    refine ⟨_, A', ?_, by rw [List.length_replicate]; exact hlt⟩
    simp only [newA, hzn]
    apply Array.ext'
    simp [defaultValue, newarray.typeOf]
  obtain ⟨s2, o, st2, r⟩ := q h' _ rfl E' F T' locs (k' + 1) (n' + cap) (by omega) (by omega) X' e' Nf
  exact ⟨s2, o, st' _ st2, r⟩
theorem Ru.ldAI (C : Ru l Z own code maxL ret nm R n0 G W) {a : Addr} {j : Int32} {i : Nat} {v : Int32} {vs : List Int32} (F : AI Z h a vs) (hj : j.toInt = (i : Int)) (hv : vs[i]? = some v) (hd : decode code pc = .ok (.iaload, 1)) (hp : pc + 1 = pc') (q : W h k n pc' Ls (.int v :: rest)) : W h k n pc Ls (.int j :: .ref a :: rest) := by
  obtain ⟨p, e, s, m, args, below, meth, c, FE, ⟨hx, hby, hml, hown, hZ, hre, hlk, hnm⟩, hFE, rfl⟩ := C
  subst hp
  intro T locs k' n' q1 q2 X eT N
  obtain ⟨cl, A, es, hl⟩ := F
  have hjn : j.toNatClampNeg = i := by show j.toInt.toNat = i; omega
  have hlt : i < vs.length := (List.getElem?_eq_some_iff.mp hv).1
  have hin : ¬ (j < 0 ∨ cl.slots.size ≤ j.toNatClampNeg) := by
    rw [Int32.lt_iff_toInt_lt, es, hjn]
    simp only [List.size_toArray, List.length_map]
    show ¬ (j.toInt < 0 ∨ _); omega
  have hat : cl.slots[j.toNatClampNeg]? = some (.int v) := by rw [es, hjn]; simp [hv]
  obtain ⟨s2, o, st2, r⟩ := q T locs k' n' q1 q2 X eT N
  exact ⟨s2, o, X.iaload hx (by rw [eT]; exact A.1) (State.isArrayOf_alike hZ.alike A.2.1) A.2.2 hin hat (g := mkF m pc Ls (.int j :: .ref a :: rest)) rfl rfl (hb hby hd) _ st2, r⟩
theorem Ru.stAI (C : Ru l Z own code maxL ret nm R n0 G W) {a : Addr} {j : Int32} {i : Nat} {v : Int32} {vs : List Int32} (F : AI Z h a vs) (hj : j.toInt = (i : Int)) (hlt : i < vs.length) (hg : n0 ≤ a) (hd : decode code pc = .ok (.iastore, 1)) (hp : pc + 1 = pc') (q : ∀ h', Wr h h' a i (.int v) → AI Z h' a (vs.set i v) → W h' k n pc' Ls rest) : W h k n pc Ls (.int v :: .int j :: .ref a :: rest) := by
  obtain ⟨p, e, s, m, args, below, meth, c, FE, ⟨hx, hby, hml, hown, hZ, hre, hlk, hnm⟩, hFE, rfl⟩ := C
  subst hp
  intro T locs k' n' q1 q2 X eT N
  have F0 := F
  obtain ⟨cl, A, es, hl⟩ := F
  have hjn : j.toNatClampNeg = i := by show j.toInt.toNat = i; omega
  have hin : ¬ (j < 0 ∨ cl.slots.size ≤ j.toNatClampNeg) := by
    rw [Int32.lt_iff_toInt_lt, es, hjn]
    simp only [List.size_toArray, List.length_map]
    show ¬ (j.toInt < 0 ∨ _); omega
  obtain ⟨T', h', X', e', W', st'⟩ := stI X hx hZ eT A (j := j) hin (g := mkF m pc Ls (.int v :: .int j :: .ref a :: rest)) rfl rfl (hb hby hd)
  rw [hjn] at W'
  obtain ⟨s2, o, st2, r⟩ := q h' W' (F0.set W') T' _ k' n' q1 q2 X' e' (Fr.snoc X' N hg)
  exact ⟨s2, o, st' _ st2, r⟩
theorem Ru.lenAI (C : Ru l Z own code maxL ret nm R n0 G W) {a : Addr} {vs : List Int32} {z : Int32} (F : AI Z h a vs) (hz : z.toInt = (vs.length : Int)) (hd : decode code pc = .ok (.arraylength, 1)) (hp : pc + 1 = pc') (q : W h k n pc' Ls (.int z :: rest)) : W h k n pc Ls (.ref a :: rest) := by
  obtain ⟨p, e, s, m, args, below, meth, c, FE, ⟨hx, hby, hml, hown, hZ, hre, hlk, hnm⟩, hFE, rfl⟩ := C
  subst hp
  intro T locs k' n' q1 q2 X eT N
  obtain ⟨cl, A, es, hl⟩ := F
  have e1 : cl.slots.size.toInt32 = z := by
    apply Int32.toInt_inj.mp
    rw [es, hz]
    simp only [List.size_toArray, List.length_map]
    exact len_toInt hl
  obtain ⟨s2, o, st2, r⟩ := q T locs k' n' q1 q2 X eT N
  exact ⟨s2, o, X.arraylength hx (by rw [eT]; exact A.1) (State.isArrayOf_alike hZ.alike A.2.1) (g := mkF m pc Ls (.ref a :: rest)) rfl rfl (hb hby hd) _ (by rw [e1]; exact st2), r⟩
theorem AJ.lt {Z : State} {h : Heap} {a : Addr} {vs : List Int64} (F : AJ Z h a vs) : a < h.size := by obtain ⟨c, A, -⟩ := F; exact A.lt
theorem AJ.ext {Z : State} {h h' : Heap} {a : Addr} {vs : List Int64} (F : AJ Z h a vs) (E : Ext h h') : AJ Z h' a vs := by obtain ⟨c, A, r⟩ := F; exact ⟨c, A.ext E, r⟩
theorem AJ.other {Z : State} {h h' : Heap} {a b : Addr} {sl : Nat} {v : Value} {vs : List Int64} (F : AJ Z h b vs) (W : Wr h h' a sl v) (q : b ≠ a) : AJ Z h' b vs := by obtain ⟨c, A, r⟩ := F; exact ⟨c, A.other W q, r⟩
theorem AJ.keep {Z : State} {h h' : Heap} {a : Addr} {ws : List Addr} {vs : List Int64} (F : AJ Z h a vs) (K : Keep h h' ws) (q : a ∉ ws) : AJ Z h' a vs := by obtain ⟨c, A, r⟩ := F; exact ⟨c, ⟨K.2.1 a c A.1 q, A.2⟩, r⟩
theorem AJ.set {Z : State} {h h' : Heap} {a : Addr} {j : Nat} {v : Int64} {vs : List Int64} (F : AJ Z h a vs) (W : Wr h h' a j (.long v)) : AJ Z h' a (vs.set j v) := by
  obtain ⟨c, A, e, r⟩ := F
  refine ⟨_, A.same W, ?_, by rw [List.length_set]; exact r⟩
  have q : (c.setSlot j (.long v)).slots = c.slots.setIfInBounds j (.long v) := rfl
  rw [q, e]
  apply Array.ext'
  simp [List.map_set]
theorem Ru.newAJ (C : Ru l Z own code maxL ret nm R n0 G W) {a0 : Array Value} {z : Int32} {N cap : Nat} (w : (Cond.arrayClass .long).before a0 Z = true) (hd : decode code pc = .ok (.newarray .long, 2)) (hp : pc + 2 = pc') (hz : z.toInt = (N : Int)) (hcap : N ≤ cap) (hb8 : cap * 8 ≤ 536870912) (hk : k + 1 ≤ R.cells) (hn : n + cap ≤ R.slots)
    (q : ∀ h' b, b = h.size → Ext h h' → AJ Z h' b (List.replicate N 0) → W h' (k + 1) (n + cap) pc' Ls (.ref b :: rest)) : W h k n pc Ls (.int z :: rest) := by
  obtain ⟨p, e, s, m, args, below, meth, c, FE, ⟨hx, hby, hml, hown, hZ, hre, hlk, hnm⟩, hFE, rfl⟩ := C
  subst hp
  intro T locs k' n' q1 q2 X eT Nf
  have hnn : ¬ z < 0 := by rw [Int32.lt_iff_toInt_lt]; show ¬ z.toInt < 0; omega
  have hzn : z.toNatClampNeg = N := by show z.toInt.toNat = N; omega
  have hlt : N < 2 ^ 31 := by have := (rng32 z).2; omega
  obtain ⟨T', h', cA, X', e', E', A', st'⟩ := newP X hx hZ (aty := .long) w eT (g := mkF m pc Ls (.int z :: rest)) rfl (hb hby hd) rfl hnn (cap := cap) (by omega) hb8 (by omega) (by omega)
  have F : AJ Z h' h.size (List.replicate N 0) := by
    refine ⟨_, A', ?_, by rw [List.length_replicate]; exact hlt⟩
    simp only [newA, hzn]
    apply Array.ext'
    simp [defaultValue, newarray.typeOf]
  obtain ⟨s2, o, st2, r⟩ := q h' _ rfl E' F T' locs (k' + 1) (n' + cap) (by omega) (by omega) X' e' Nf
  exact ⟨s2, o, st' _ st2, r⟩
theorem Ru.ldAJ (C : Ru l Z own code maxL ret nm R n0 G W) {a : Addr} {j : Int32} {i : Nat} {v : Int64} {vs : List Int64} (F : AJ Z h a vs) (hj : j.toInt = (i : Int)) (hv : vs[i]? = some v) (hd : decode code pc = .ok (.laload, 1)) (hp : pc + 1 = pc') (q : W h k n pc' Ls (.long v :: rest)) : W h k n pc Ls (.int j :: .ref a :: rest) := by
  obtain ⟨p, e, s, m, args, below, meth, c, FE, ⟨hx, hby, hml, hown, hZ, hre, hlk, hnm⟩, hFE, rfl⟩ := C
  subst hp
  intro T locs k' n' q1 q2 X eT N
  obtain ⟨cl, A, es, hl⟩ := F
  have hjn : j.toNatClampNeg = i := by show j.toInt.toNat = i; omega
  have hlt : i < vs.length := (List.getElem?_eq_some_iff.mp hv).1
  have hin : ¬ (j < 0 ∨ cl.slots.size ≤ j.toNatClampNeg) := by
    rw [Int32.lt_iff_toInt_lt, es, hjn]
    simp only [List.size_toArray, List.length_map]
    show ¬ (j.toInt < 0 ∨ _); omega
  have hat : cl.slots[j.toNatClampNeg]? = some (.long v) := by rw [es, hjn]; simp [hv]
  obtain ⟨s2, o, st2, r⟩ := q T locs k' n' q1 q2 X eT N
  exact ⟨s2, o, X.laload hx (by rw [eT]; exact A.1) (State.isArrayOf_alike hZ.alike A.2.1) A.2.2 hin hat (g := mkF m pc Ls (.int j :: .ref a :: rest)) rfl rfl (hb hby hd) _ st2, r⟩
theorem Ru.stAJ (C : Ru l Z own code maxL ret nm R n0 G W) {a : Addr} {j : Int32} {i : Nat} {v : Int64} {vs : List Int64} (F : AJ Z h a vs) (hj : j.toInt = (i : Int)) (hlt : i < vs.length) (hg : n0 ≤ a) (hd : decode code pc = .ok (.lastore, 1)) (hp : pc + 1 = pc') (q : ∀ h', Wr h h' a i (.long v) → AJ Z h' a (vs.set i v) → W h' k n pc' Ls rest) : W h k n pc Ls (.long v :: .int j :: .ref a :: rest) := by
  obtain ⟨p, e, s, m, args, below, meth, c, FE, ⟨hx, hby, hml, hown, hZ, hre, hlk, hnm⟩, hFE, rfl⟩ := C
  subst hp
  intro T locs k' n' q1 q2 X eT N
  have F0 := F
  obtain ⟨cl, A, es, hl⟩ := F
  have hjn : j.toNatClampNeg = i := by show j.toInt.toNat = i; omega
  have hin : ¬ (j < 0 ∨ cl.slots.size ≤ j.toNatClampNeg) := by
    rw [Int32.lt_iff_toInt_lt, es, hjn]
    simp only [List.size_toArray, List.length_map]
    show ¬ (j.toInt < 0 ∨ _); omega
  obtain ⟨T', h', X', e', W', st'⟩ := stJ X hx hZ eT A (j := j) hin (g := mkF m pc Ls (.long v :: .int j :: .ref a :: rest)) rfl rfl (hb hby hd)
  rw [hjn] at W'
  obtain ⟨s2, o, st2, r⟩ := q h' W' (F0.set W') T' _ k' n' q1 q2 X' e' (Fr.snoc X' N hg)
  exact ⟨s2, o, st' _ st2, r⟩
theorem Ru.lenAJ (C : Ru l Z own code maxL ret nm R n0 G W) {a : Addr} {vs : List Int64} {z : Int32} (F : AJ Z h a vs) (hz : z.toInt = (vs.length : Int)) (hd : decode code pc = .ok (.arraylength, 1)) (hp : pc + 1 = pc') (q : W h k n pc' Ls (.int z :: rest)) : W h k n pc Ls (.ref a :: rest) := by
  obtain ⟨p, e, s, m, args, below, meth, c, FE, ⟨hx, hby, hml, hown, hZ, hre, hlk, hnm⟩, hFE, rfl⟩ := C
  subst hp
  intro T locs k' n' q1 q2 X eT N
  obtain ⟨cl, A, es, hl⟩ := F
  have e1 : cl.slots.size.toInt32 = z := by
    apply Int32.toInt_inj.mp
    rw [es, hz]
    simp only [List.size_toArray, List.length_map]
    exact len_toInt hl
  obtain ⟨s2, o, st2, r⟩ := q T locs k' n' q1 q2 X eT N
  exact ⟨s2, o, X.arraylength hx (by rw [eT]; exact A.1) (State.isArrayOf_alike hZ.alike A.2.1) (g := mkF m pc Ls (.ref a :: rest)) rfl rfl (hb hby hd) _ (by rw [e1]; exact st2), r⟩
theorem AB.lt {Z : State} {h : Heap} {a : Addr} {z : Nat} (F : AB Z h a z) : a < h.size := by obtain ⟨c, A, -⟩ := F; exact A.lt
theorem AB.ext {Z : State} {h h' : Heap} {a : Addr} {z : Nat} (F : AB Z h a z) (E : Ext h h') : AB Z h' a z := by obtain ⟨c, A, r⟩ := F; exact ⟨c, A.ext E, r⟩
theorem AB.other {Z : State} {h h' : Heap} {a b : Addr} {sl : Nat} {v : Value} {z : Nat} (F : AB Z h b z) (W : Wr h h' a sl v) (q : b ≠ a) : AB Z h' b z := by obtain ⟨c, A, r⟩ := F; exact ⟨c, A.other W q, r⟩
theorem AB.keep {Z : State} {h h' : Heap} {a : Addr} {ws : List Addr} {z : Nat} (F : AB Z h a z) (K : Keep h h' ws) (q : a ∉ ws) : AB Z h' a z := by obtain ⟨c, A, r⟩ := F; exact ⟨c, ⟨K.2.1 a c A.1 q, A.2⟩, r⟩
theorem Ru.newAB (C : Ru l Z own code maxL ret nm R n0 G W) {a0 : Array Value} {z : Int32} {N cap : Nat} (w : (Cond.arrayClass .byte).before a0 Z = true) (hd : decode code pc = .ok (.newarray .byte, 2)) (hp : pc + 2 = pc') (hz : z.toInt = (N : Int)) (hcap : N ≤ cap) (hb8 : cap * 8 ≤ 536870912) (hk : k + 1 ≤ R.cells) (hn : n + cap ≤ R.slots)
    (q : ∀ h' b, b = h.size → Ext h h' → AB Z h' b N → W h' (k + 1) (n + cap) pc' Ls (.ref b :: rest)) : W h k n pc Ls (.int z :: rest) := by
  obtain ⟨p, e, s, m, args, below, meth, c, FE, ⟨hx, hby, hml, hown, hZ, hre, hlk, hnm⟩, hFE, rfl⟩ := C
  subst hp
  intro T locs k' n' q1 q2 X eT Nf
  have hnn : ¬ z < 0 := by rw [Int32.lt_iff_toInt_lt]; show ¬ z.toInt < 0; omega
  have hzn : z.toNatClampNeg = N := by show z.toInt.toNat = N; omega
  have hlt : N < 2 ^ 31 := by have := (rng32 z).2; omega
  obtain ⟨T', h', cA, X', e', E', A', st'⟩ := newP X hx hZ (aty := .byte) w eT (g := mkF m pc Ls (.int z :: rest)) rfl (hb hby hd) rfl hnn (cap := cap) (by omega) hb8 (by omega) (by omega)
  have F : AB Z h' h.size N := ⟨_, A', by rw [sz_new]; exact hzn, hlt⟩
  obtain ⟨s2, o, st2, r⟩ := q h' _ rfl E' F T' locs (k' + 1) (n' + cap) (by omega) (by omega) X' e' Nf
  exact ⟨s2, o, st' _ st2, r⟩
theorem Ru.stAB (C : Ru l Z own code maxL ret nm R n0 G W) {a : Addr} {j : Int32} {i : Nat} {v : Int32} {z : Nat} (F : AB Z h a z) (hj : j.toInt = (i : Int)) (hlt : i < z) (hg : n0 ≤ a) (hd : decode code pc = .ok (.bastore, 1)) (hp : pc + 1 = pc') (q : ∀ h', Wr h h' a i (.int (nar .byte v)) → AB Z h' a z → W h' k n pc' Ls rest) : W h k n pc Ls (.int v :: .int j :: .ref a :: rest) := by
  obtain ⟨p, e, s, m, args, below, meth, c, FE, ⟨hx, hby, hml, hown, hZ, hre, hlk, hnm⟩, hFE, rfl⟩ := C
  subst hp
  intro T locs k' n' q1 q2 X eT N
  obtain ⟨cl, A, es, hl⟩ := F
  have hjn : j.toNatClampNeg = i := by show j.toInt.toNat = i; omega
  have hin : ¬ (j < 0 ∨ cl.slots.size ≤ j.toNatClampNeg) := by
    rw [Int32.lt_iff_toInt_lt, es, hjn]
    show ¬ (j.toInt < 0 ∨ _); omega
  obtain ⟨T', h', X', e', W', st'⟩ := stB X hx hZ eT A (j := j) hin (g := mkF m pc Ls (.int v :: .int j :: .ref a :: rest)) rfl rfl (hb hby hd)
  rw [hjn] at W'
  obtain ⟨s2, o, st2, r⟩ := q h' W' ⟨_, A.same W', by rw [sz_set]; exact es, hl⟩ T' _ k' n' q1 q2 X' e' (Fr.snoc X' N hg)
  exact ⟨s2, o, st' _ st2, r⟩
theorem Ru.lenAB (C : Ru l Z own code maxL ret nm R n0 G W) {a : Addr} {N : Nat} {z : Int32} (F : AB Z h a N) (hz : z.toInt = (N : Int)) (hd : decode code pc = .ok (.arraylength, 1)) (hp : pc + 1 = pc') (q : W h k n pc' Ls (.int z :: rest)) : W h k n pc Ls (.ref a :: rest) := by
  obtain ⟨p, e, s, m, args, below, meth, c, FE, ⟨hx, hby, hml, hown, hZ, hre, hlk, hnm⟩, hFE, rfl⟩ := C
  subst hp
  intro T locs k' n' q1 q2 X eT Nf
  obtain ⟨cl, A, es, hl⟩ := F
  have e1 : cl.slots.size.toInt32 = z := by
    apply Int32.toInt_inj.mp
    rw [es, hz]
    exact len_toInt hl
  obtain ⟨s2, o, st2, r⟩ := q T locs k' n' q1 q2 X eT Nf
  exact ⟨s2, o, X.arraylength hx (by rw [eT]; exact A.1) (State.isArrayOf_alike hZ.alike A.2.1) (g := mkF m pc Ls (.ref a :: rest)) rfl rfl (hb hby hd) _ (by rw [e1]; exact st2), r⟩
/-! calls -/
/-- what a stack weighs -/
def wt (st : List Value) : Nat := (st.map fun v => v.category).sum
/-- Object.<init> -/
theorem Ru.initObj (C : Ru l Z own code maxL ret nm R n0 G W) {a0 : Array Value} {i w : Nat} {a : Addr} (w1 : (Cond.methodLink own i Lib.objectInit).before a0 Z = true) (w2 : (Cond.instanceMethod Lib.objectInit).before a0 Z = true) (w3 : (Cond.code Lib.objectInit ⟨#[0xb1]⟩ 1 none).before a0 Z = true)
    (hd : decode code pc = .ok (.invokespecial i, 3)) (hp : pc + 3 = pc') (hs : Ls.size = maxL) (hf : 1 ≤ R.frames) (hw : wt rest ≤ w) (hl : w + 12 ≤ R.locals) (q : W h k n pc' Ls rest) : W h k n pc Ls (.ref a :: rest) := by
  obtain ⟨p, e, s, m, args, below, meth, c, FE, ⟨hx, hby, hml, hown, hZ, hre, hlk, hnm⟩, hFE, rfl⟩ := C
  subst hp
  intro T locs k' n' q1 q2 X eT N
  obtain ⟨T', X', e', st'⟩ := initO X hx hZ hown w1 w2 w3 eT (g := mkF m pc Ls (.ref a :: rest)) rfl (by rw [hml]; exact hs) rfl (hb hby hd) hf (W := w) (by show 2 * 0 + _ ≤ _; simpa [wt] using hw) hl
  obtain ⟨s2, o, st2, r⟩ := q T' locs k' n' q1 q2 X' e' N
  exact ⟨s2, o, st' _ st2, r⟩
theorem Ru.calls (C : Ru l Z own code maxL ret nm R n0 G W) {a0 : Array Value} {i w : Nat} {y : MethodName} {bytes : ByteArray} {mx : Nat} {rt : Option FieldType} {rm : Room} {GC : Option Value → Heap → Prop} {argsL : List Value} {ps : List FieldType} {rt' : Option FieldType}
    (M : MeetsW l Z n0 y bytes mx rt rm argsL.toArray h GC) (w1 : (Cond.methodLink own i y).before a0 Z = true) (w2 : (Cond.static y).before a0 Z = true) (w3 : (Cond.initialized y.cls).before a0 Z = true) (w4 : (Cond.code y bytes mx rt).before a0 Z = true)
    (hd : decode code pc = .ok (.invokestatic i, 3)) (hp : pc + 3 = pc') (hs : Ls.size = maxL) (hst : st = argsL.reverse ++ rest) (hy : y.cls ≠ "java/lang/invoke/MethodHandle" ∧ y.cls ≠ "java/lang/invoke/VarHandle")
    (hdesc : parseMethodDescriptor y.desc = some ⟨ps, rt'⟩) (hlen : argsL.length = ps.length) (hf : rm.frames + 1 ≤ R.frames) (hw : wt rest ≤ w) (hl : w + (mx + 11) + rm.locals ≤ R.locals) (hk : k + rm.cells ≤ R.cells) (hn : n + rm.slots ≤ R.slots)
    (q : ∀ v h', GC v h' → W h' (k + rm.cells) (n + rm.slots) pc' Ls (v.toList ++ rest)) : W h k n pc Ls st := by
  obtain ⟨p, e, s, m, args, below, meth, c, FE, ⟨hx, hby, hml, hown, hZ, hre, hlk, hnm⟩, hFE, rfl⟩ := C
  subst hp hst
  intro T locs k' n' q1 q2 X eT N
  obtain ⟨v, _, ⟨T', L', k2, n2⟩, -, X', ⟨Lc, ⟨N', hQ⟩, hl', hk', hn'⟩, st'⟩ := Jvm.LawKit.callS X hx (y := y) hown (mvT hZ w1) (mvT hZ w2) (mvT hZ w3) (mvT hZ w4) hy (backOf (W := w) (Q := fun v h L => Fr n0 L ∧ GC v h) (M []) hZ w4 w3 hf hl) (g := mkF m pc Ls (argsL.reverse ++ rest)) rfl (by rw [hml]; exact hs) (argsL := argsL) (rest := rest) (lenOf hdesc hlen) rfl (by show 2 * 0 + _ ≤ _; simpa [wt] using hw) (hb hby hd) (fun _ _ => ⟨rfl, eT, (by show k' + rm.cells ≤ _; omega), (by show n' + rm.slots ≤ _; omega)⟩)
  dsimp only [Pt.U, Pt.locs, Pt.cells, Pt.slots] at X' hl' hk' hn' st' hQ
  subst hl' hk' hn'
  obtain ⟨s2, o, st2, r⟩ := q v T'.heap hQ T' _ _ _ (by omega) (by omega) X' rfl (Fr.app N N')
  exact ⟨s2, o, st' _ st2, r⟩
theorem Ru.callc (C : Ru l Z own code maxL ret nm R n0 G W) {a0 : Array Value} {i w : Nat} {y : MethodName} {bytes : ByteArray} {mx : Nat} {rm : Room} {GC : Option Value → Heap → Prop} {a : Addr} {argsL : List Value} {ps : List FieldType} {rt' : Option FieldType}
    (M : MeetsW l Z n0 y bytes mx none rm (.ref a :: argsL).toArray h GC) (hy1 : y.name = "<init>") (w1 : (Cond.methodLink own i y).before a0 Z = true) (w2 : (Cond.instanceMethod y).before a0 Z = true) (w3 : (Cond.initialized y.cls).before a0 Z = true) (w4 : (Cond.code y bytes mx none).before a0 Z = true)
    (hd : decode code pc = .ok (.invokespecial i, 3)) (hp : pc + 3 = pc') (hs : Ls.size = maxL) (hst : st = argsL.reverse ++ .ref a :: rest) (hy : y.cls ≠ "java/lang/invoke/MethodHandle" ∧ y.cls ≠ "java/lang/invoke/VarHandle")
    (hdesc : parseMethodDescriptor y.desc = some ⟨ps, rt'⟩) (hlen : argsL.length = ps.length) (hf : rm.frames + 1 ≤ R.frames) (hw : wt rest ≤ w) (hl : w + (mx + 11) + rm.locals ≤ R.locals) (hk : k + rm.cells ≤ R.cells) (hn : n + rm.slots ≤ R.slots)
    (q : ∀ v h', GC v h' → W h' (k + rm.cells) (n + rm.slots) pc' Ls (v.toList ++ rest)) : W h k n pc Ls st := by
  obtain ⟨p, e, s, m, args, below, meth, c, FE, ⟨hx, hby, hml, hown, hZ, hre, hlk, hnm⟩, hFE, rfl⟩ := C
  subst hp hst
  intro T locs k' n' q1 q2 X eT N
  obtain ⟨v, _, ⟨T', L', k2, n2⟩, -, X', ⟨Lc, ⟨N', hQ⟩, hl', hk', hn'⟩, st'⟩ := X.specialBack hx (y := y) hy1 hown (mvT hZ w1) (mvT hZ w2) (mvT hZ w4) hy (backOf (W := w) (Q := fun v h L => Fr n0 L ∧ GC v h) (M []) hZ w4 w3 hf hl) (g := mkF m pc Ls (argsL.reverse ++ .ref a :: rest)) rfl (by rw [hml]; exact hs) (Steps.refl _) (a := a) (argsL := argsL) (rest := rest) (lenOf hdesc hlen) rfl (by show 2 * 0 + _ ≤ _; simpa [wt] using hw) (hb hby hd) (fun _ _ => ⟨rfl, eT, (by show k' + rm.cells ≤ _; omega), (by show n' + rm.slots ≤ _; omega)⟩)
  dsimp only [Pt.U, Pt.locs, Pt.cells, Pt.slots] at X' hl' hk' hn' st' hQ
  subst hl' hk' hn'
  obtain ⟨s2, o, st2, r⟩ := q v T'.heap hQ T' _ _ _ (by omega) (by omega) X' rfl (Fr.app N N')
  exact ⟨s2, o, st'.trans st2, r⟩
theorem Ru.callv (C : Ru l Z own code maxL ret nm R n0 G W) {a0 : Array Value} {i w : Nat} {y : MethodName} {bytes : ByteArray} {mx : Nat} {rt : Option FieldType} {rm : Room} {GC : Option Value → Heap → Prop} {a : Addr} {argsL : List Value} {ps : List FieldType} {rt' : Option FieldType} {D : String}
    (M : MeetsW l Z n0 y bytes mx rt rm (.ref a :: argsL).toArray h GC) (E : Exa Z h a D) (w1 : (Cond.methodLink own i y).before a0 Z = true) (w2 : (Cond.declares y).before a0 Z = true) (w5 : (Cond.selects D y y).before a0 Z = true) (w6 : (Cond.instanceMethod y).before a0 Z = true) (w3 : (Cond.initialized y.cls).before a0 Z = true) (w4 : (Cond.code y bytes mx rt).before a0 Z = true)
    (hd : decode code pc = .ok (.invokevirtual i, 3)) (hp : pc + 3 = pc') (hs : Ls.size = maxL) (hst : st = argsL.reverse ++ .ref a :: rest) (hy : y.cls ≠ "java/lang/invoke/MethodHandle" ∧ y.cls ≠ "java/lang/invoke/VarHandle")
    (hdesc : parseMethodDescriptor y.desc = some ⟨ps, rt'⟩) (hlen : argsL.length = ps.length) (hf : rm.frames + 1 ≤ R.frames) (hw : wt rest ≤ w) (hl : w + (mx + 11) + rm.locals ≤ R.locals) (hk : k + rm.cells ≤ R.cells) (hn : n + rm.slots ≤ R.slots)
    (q : ∀ v h', GC v h' → W h' (k + rm.cells) (n + rm.slots) pc' Ls (v.toList ++ rest)) : W h k n pc Ls st := by
  obtain ⟨p, e, s, m, args, below, meth, c, FE, ⟨hx, hby, hml, hown, hZ, hre, hlk, hnm⟩, hFE, rfl⟩ := C
  subst hp hst
  intro T locs k' n' q1 q2 X eT N
  obtain ⟨cq, kq, qa, qb, qc⟩ := isOf hZ eT E
  obtain ⟨v, _, ⟨T', L', k2, n2⟩, -, X', ⟨Lc, ⟨N', hQ⟩, hl', hk', hn'⟩, st'⟩ := X.virtualBack hx (y := y) (z := y) hown (mvT hZ w1) (mvT hZ w2) (notFace_of_selects (args := #[]) (mvT hZ w5)) (mvT hZ w5) (mvT hZ w6) hy (backOf (W := w) (Q := fun v h L => Fr n0 L ∧ GC v h) (M []) hZ w4 w3 hf hl) qa qc (g := mkF m pc Ls (argsL.reverse ++ .ref a :: rest)) rfl (by rw [hml]; exact hs) (Steps.refl _) (argsL := argsL) (rest := rest) (lenOf hdesc hlen) rfl (by show 2 * 0 + _ ≤ _; simpa [wt] using hw) (hb hby hd) (fun _ _ => ⟨rfl, eT, (by show k' + rm.cells ≤ _; omega), (by show n' + rm.slots ≤ _; omega)⟩)
  dsimp only [Pt.U, Pt.locs, Pt.cells, Pt.slots] at X' hl' hk' hn' st' hQ
  subst hl' hk' hn'
  obtain ⟨s2, o, st2, r⟩ := q v T'.heap hQ T' _ _ _ (by omega) (by omega) X' rfl (Fr.app N N')
  exact ⟨s2, o, st'.trans st2, r⟩
theorem Ru.callp (C : Ru l Z own code maxL ret nm R n0 G W) {a0 : Array Value} {i w : Nat} {y : MethodName} {bytes : ByteArray} {mx : Nat} {rt : Option FieldType} {rm : Room} {GC : Option Value → Heap → Prop} {a : Addr} {argsL : List Value} {ps : List FieldType} {rt' : Option FieldType} {D : String}
    (M : MeetsW l Z n0 y bytes mx rt rm (.ref a :: argsL).toArray h GC) (E : Exa Z h a D) (w1 : (Cond.methodLink own i y).before a0 Z = true) (w6 : (Cond.instanceMethod y).before a0 Z = true) {nn : Nat} (w5 : (Cond.instantiable y.cls nn).before a0 Z = true) (w7 : (Cond.privateMethod y).before a0 Z = true) (w3 : (Cond.initialized y.cls).before a0 Z = true) (w4 : (Cond.code y bytes mx rt).before a0 Z = true)
    (hd : decode code pc = .ok (.invokevirtual i, 3)) (hp : pc + 3 = pc') (hs : Ls.size = maxL) (hst : st = argsL.reverse ++ .ref a :: rest) (hy : y.cls ≠ "java/lang/invoke/MethodHandle" ∧ y.cls ≠ "java/lang/invoke/VarHandle")
    (hdesc : parseMethodDescriptor y.desc = some ⟨ps, rt'⟩) (hlen : argsL.length = ps.length) (hf : rm.frames + 1 ≤ R.frames) (hw : wt rest ≤ w) (hl : w + (mx + 11) + rm.locals ≤ R.locals) (hk : k + rm.cells ≤ R.cells) (hn : n + rm.slots ≤ R.slots)
    (q : ∀ v h', GC v h' → W h' (k + rm.cells) (n + rm.slots) pc' Ls (v.toList ++ rest)) : W h k n pc Ls st := by
  obtain ⟨p, e, s, m, args, below, meth, c, FE, ⟨hx, hby, hml, hown, hZ, hre, hlk, hnm⟩, hFE, rfl⟩ := C
  subst hp hst
  intro T locs k' n' q1 q2 X eT N
  obtain ⟨cq, qa, qb⟩ := E.cell
  have hpv : s.PrivateAt y := Cond.privateMethod_at (mvP hZ w7 (args := #[]))
  obtain ⟨cI, kI, hcI, hkI, -, hniab, -, -⟩ := Cond.instantiable_spec (mvT hZ w5 (args := args))
  have hsel : (Cond.selects y.cls y y).before args s = true := Jvm.Stand.selects_self_of_private hcI hkI (Bool.or_eq_false_iff.mp hniab).1 hpv (mvT hZ w6) hy
  obtain ⟨v, _, ⟨T', L', k2, n2⟩, -, X', ⟨Lc, ⟨N', hQ⟩, hl', hk', hn'⟩, st'⟩ := X.privateBack hx (y := y) hown (mvT hZ w1) (mvT hZ w6) hsel hpv (mvT hZ w4) hy (backOf (W := w) (Q := fun v h L => Fr n0 L ∧ GC v h) (M []) hZ w4 w3 hf hl) (g := mkF m pc Ls (argsL.reverse ++ .ref a :: rest)) rfl (by rw [hml]; exact hs) (Steps.refl _) (a := a) (by rw [eT]; exact qa) qb (argsL := argsL) (rest := rest) (lenOf hdesc hlen) rfl (by show 2 * 0 + _ ≤ _; simpa [wt] using hw) (hb hby hd) (fun _ _ => ⟨rfl, eT, (by show k' + rm.cells ≤ _; omega), (by show n' + rm.slots ≤ _; omega)⟩)
  dsimp only [Pt.U, Pt.locs, Pt.cells, Pt.slots] at X' hl' hk' hn' st' hQ
  subst hl' hk' hn'
  obtain ⟨s2, o, st2, r⟩ := q v T'.heap hQ T' _ _ _ (by omega) (by omega) X' rfl (Fr.app N N')
  exact ⟨s2, o, st'.trans st2, r⟩
theorem Ru.castY (C : Ru l Z own code maxL ret nm R n0 G W) {a0 : Array Value} {D : String} {i : Nat} {a : Addr} (w : (Cond.classLink own i D).before a0 Z = true) (F : Ins Z h a D true) (hd : decode code pc = .ok (.checkcast i, 3)) (hp : pc + 3 = pc') (q : W h k n pc' Ls (.ref a :: rest)) : W h k n pc Ls (.ref a :: rest) := by
  obtain ⟨p, e, s, m, args, below, meth, c, FE, ⟨hx, hby, hml, hown, hZ, hre, hlk, hnm⟩, hFE, rfl⟩ := C
  subst hp
  intro T locs k' n' q1 q2 X eT N
  obtain ⟨T', X', e', st'⟩ := castY X hx hZ hown w eT F (g := mkF m pc Ls (.ref a :: rest)) rfl rfl (hb hby hd)
  obtain ⟨s2, o, st2, r⟩ := q T' locs k' n' q1 q2 X' e' N
  exact ⟨s2, o, st' _ st2, r⟩
theorem Ru.newAIE (C : Ru l Z own code maxL ret nm R n0 G W) {a0 : Array Value} {z : Int32} {N cap : Nat} (w : (Cond.arrayClass .int).before a0 Z = true) (hd : decode code pc = .ok (.newarray .int, 2)) (hp : pc + 2 = pc') (hz : z.toInt = (N : Int)) (hcap : N ≤ cap) (hb8 : cap * 8 ≤ 536870912) (hk : k + 1 ≤ R.cells) (hn : n + cap ≤ R.slots)
    (q : ∀ h' b, b = h.size → Ext h h' → AI Z h' b (List.replicate N 0) → Exa Z h' b "[I" → W h' (k + 1) (n + cap) pc' Ls (.ref b :: rest)) : W h k n pc Ls (.int z :: rest) := by
  obtain ⟨p, e, s, m, args, below, meth, c, FE, ⟨hx, hby, hml, hown, hZ, hre, hlk, hnm⟩, hFE, rfl⟩ := C
  subst hp
  intro T locs k' n' q1 q2 X eT Nf
  have hnn : ¬ z < 0 := by rw [Int32.lt_iff_toInt_lt]; show ¬ z.toInt < 0; omega
  have hzn : z.toNatClampNeg = N := by show z.toInt.toNat = N; omega
  have hlt : N < 2 ^ 31 := by have := (rng32 z).2; omega
  obtain ⟨T', h', cA, X', e', E', A', B', st'⟩ := newPE X hx hZ (aty := .int) w eT (g := mkF m pc Ls (.int z :: rest)) rfl (hb hby hd) rfl hnn (cap := cap) (by omega) hb8 (by omega) (by omega) (ad := "[I") (by decide)
  have F : AI Z h' h.size (List.replicate N 0) := by
    refine ⟨_, A', ?_, by rw [List.length_replicate]; exact hlt⟩
    simp only [newA, hzn]
    apply Array.ext'
    simp [defaultValue, newarray.typeOf]
  obtain ⟨s2, o, st2, r⟩ := q h' _ rfl E' F B' T' locs (k' + 1) (n' + cap) (by omega) (by omega) X' e' Nf
  exact ⟨s2, o, st' _ st2, r⟩
theorem Ru.cloneAI (C : Ru l Z own code maxL ret nm R n0 G W) {a0 : Array Value} {i w cap : Nat} {a : Addr} {vs : List Int32}
    (w1 : (Cond.methodLink own i ⟨"[I", "clone", "()Ljava/lang/Object;"⟩).before a0 Z = true) (w2 : (Cond.sameMethod "[I" "java/lang/Object" "clone" "()Ljava/lang/Object;").before a0 Z = true) (w3 : (Cond.native ⟨"java/lang/Object", "clone", "()Ljava/lang/Object;"⟩).before a0 Z = true)
    (w4 : (Cond.instanceMethod ⟨"java/lang/Object", "clone", "()Ljava/lang/Object;"⟩).before a0 Z = true) (w5 : (Cond.selects "[I" ⟨"[I", "clone", "()Ljava/lang/Object;"⟩ ⟨"java/lang/Object", "clone", "()Ljava/lang/Object;"⟩).before a0 Z = true) (w6 : (Cond.castable "[I" "java/lang/Cloneable").before a0 Z = true)
    (F : AI Z h a vs) (E : Exa Z h a "[I") (hd : decode code pc = .ok (.invokevirtual i, 3)) (hp : pc + 3 = pc') (hs : Ls.size = maxL) (hf : 1 ≤ R.frames) (hw : wt rest ≤ w) (hl : w + 14 ≤ R.locals) (hcap : vs.length ≤ cap) (hk : k + 1 ≤ R.cells) (hn : n + cap ≤ R.slots)
    (q : ∀ h' b, b = h.size → Ext h h' → AI Z h' b vs → Exa Z h' b "[I" → W h' (k + 1) (n + cap) pc' Ls (.ref b :: rest)) : W h k n pc Ls (.ref a :: rest) := by
  obtain ⟨p, e, s, m, args, below, meth, c, FE, ⟨hx, hby, hml, hown, hZ, hre, hlk, hnm⟩, hFE, rfl⟩ := C
  subst hp
  intro T locs k' n' q1 q2 X eT Nf
  obtain ⟨cl, A, es, hlen⟩ := F
  have hsz : cl.slots.size = vs.length := by rw [es]; simp
  have FC : FitC Z cl := fitC_of A fun j hj v hv => by
    rw [es] at hv
    simp only [List.getElem?_toArray, List.getElem?_map, Option.map_eq_some_iff] at hv
    obtain ⟨y, -, rfl⟩ := hv
    rfl
  obtain ⟨T', h', X', e', E', A', B', st'⟩ := cloneA X hx hZ hown w1 w2 w3 w4 w5 w6 eT A E FC (g := mkF m pc Ls (.ref a :: rest)) rfl (by rw [hml]; exact hs) rfl (hb hby hd) hf (W := w) (cap := cap) (by show 2 * 0 + _ ≤ _; simpa [wt] using hw) hl (by omega) (by omega) (by omega)
  obtain ⟨s2, o, st2, r⟩ := q h' _ rfl E' ⟨_, A', es, hlen⟩ B' T' locs (k' + 1) (n' + cap) (by omega) (by omega) X' e' Nf
  exact ⟨s2, o, st' _ st2, r⟩
/-! returns -/
theorem Ru.retV (C : Ru l Z own code maxL ret nm R n0 G W) (hr : ret = none) (hd : decode code pc = .ok (.return_, 1)) (hk : k ≤ R.cells) (hn : n ≤ R.slots) (q : G none h) : W h k n pc Ls [] := by
  obtain ⟨p, e, s, m, args, below, meth, c, FE, ⟨hx, hby, hml, hown, hZ, hre, hlk, hnm⟩, hFE, rfl⟩ := C
  intro T locs k' n' q1 q2 X eT N
  obtain ⟨fs, hrr, hrun, hended, hW, hsame⟩ := X.leave (v := none) (fun _ => rfl)
  exact ⟨_, _, X.returnOut hx (hre.trans hr) (hb hby hd) hrr, hrun, hended, _, _, rfl, ⟨N, by show G none T.heap; rw [eT]; exact q⟩, hFE _ _ _ ⟨⟨_, rfl⟩, hW, hsame.mono (by omega) (by omega)⟩⟩
theorem Ru.retI (C : Ru l Z own code maxL ret nm R n0 G W) {z : Int32} (hr : ret = some .int) (hd : decode code pc = .ok (.ireturn, 1)) (hk : k ≤ R.cells) (hn : n ≤ R.slots) (q : G (some (.int z)) h) : W h k n pc Ls (.int z :: rest) := by
  obtain ⟨p, e, s, m, args, below, meth, c, FE, ⟨hx, hby, hml, hown, hZ, hre, hlk, hnm⟩, hFE, rfl⟩ := C
  intro T locs k' n' q1 q2 X eT N
  obtain ⟨fs, hrr, hrun, hended, hW, hsame⟩ := X.leave (v := some (.int z)) (fun h => by rw [hre, hr] at h; cases h)
  exact ⟨_, _, retOut X hx (hre.trans hr) rfl (Or.inl ⟨rfl, Or.inl rfl, z, rfl⟩) (hb hby hd) hrr, hrun, hended, _, _, rfl, ⟨N, by show G _ T.heap; rw [eT]; exact q⟩, hFE _ _ _ ⟨⟨_, rfl⟩, hW, hsame.mono (by omega) (by omega)⟩⟩
theorem Ru.retZ (C : Ru l Z own code maxL ret nm R n0 G W) {z : Int32} (hr : ret = some .boolean) (hz : z = 0 ∨ z = 1) (hd : decode code pc = .ok (.ireturn, 1)) (hk : k ≤ R.cells) (hn : n ≤ R.slots) (q : G (some (.int z)) h) : W h k n pc Ls (.int z :: rest) := by
  obtain ⟨p, e, s, m, args, below, meth, c, FE, ⟨hx, hby, hml, hown, hZ, hre, hlk, hnm⟩, hFE, rfl⟩ := C
  intro T locs k' n' q1 q2 X eT N
  obtain ⟨fs, hrr, hrun, hended, hW, hsame⟩ := X.leave (v := some (.int z)) (fun h => by rw [hre, hr] at h; cases h)
  have hnr : narrow .boolean (.int z) = .int z := by rcases hz with rfl | rfl <;> decide
  exact ⟨_, _, retOut X hx (hre.trans hr) hnr (Or.inl ⟨rfl, Or.inr (Or.inl rfl), z, rfl⟩) (hb hby hd) hrr, hrun, hended, _, _, rfl, ⟨N, by show G _ T.heap; rw [eT]; exact q⟩, hFE _ _ _ ⟨⟨_, rfl⟩, hW, hsame.mono (by omega) (by omega)⟩⟩
theorem Ru.retJ (C : Ru l Z own code maxL ret nm R n0 G W) {z : Int64} (hr : ret = some .long) (hd : decode code pc = .ok (.lreturn, 1)) (hk : k ≤ R.cells) (hn : n ≤ R.slots) (q : G (some (.long z)) h) : W h k n pc Ls (.long z :: rest) := by
  obtain ⟨p, e, s, m, args, below, meth, c, FE, ⟨hx, hby, hml, hown, hZ, hre, hlk, hnm⟩, hFE, rfl⟩ := C
  intro T locs k' n' q1 q2 X eT N
  obtain ⟨fs, hrr, hrun, hended, hW, hsame⟩ := X.leave (v := some (.long z)) (fun h => by rw [hre, hr] at h; cases h)
  exact ⟨_, _, retOut X hx (hre.trans hr) rfl (Or.inr (Or.inl ⟨rfl, rfl, z, rfl⟩)) (hb hby hd) hrr, hrun, hended, _, _, rfl, ⟨N, by show G _ T.heap; rw [eT]; exact q⟩, hFE _ _ _ ⟨⟨_, rfl⟩, hW, hsame.mono (by omega) (by omega)⟩⟩
theorem Ru.retA (C : Ru l Z own code maxL ret nm R n0 G W) {a : Addr} {t : FieldType} (hr : ret = some t) (ht : t.isReference = true) (hd : decode code pc = .ok (.areturn, 1)) (hk : k ≤ R.cells) (hn : n ≤ R.slots) (q : G (some (.ref a)) h) : W h k n pc Ls (.ref a :: rest) := by
  obtain ⟨p, e, s, m, args, below, meth, c, FE, ⟨hx, hby, hml, hown, hZ, hre, hlk, hnm⟩, hFE, rfl⟩ := C
  intro T locs k' n' q1 q2 X eT N
  obtain ⟨fs, hrr, hrun, hended, hW, hsame⟩ := X.leave (v := some (.ref a)) (fun h => by rw [hre, hr] at h; cases h)
  have hnr : narrow t (.ref a) = .ref a := by cases t <;> first | rfl | cases ht
  exact ⟨_, _, retOut X hx (hre.trans hr) hnr (Or.inr (Or.inr (Or.inr (Or.inr ⟨rfl, ht, rfl⟩)))) (hb hby hd) hrr, hrun, hended, _, _, rfl, ⟨N, by show G _ T.heap; rw [eT]; exact q⟩, hFE _ _ _ ⟨⟨_, rfl⟩, hW, hsame.mono (by omega) (by omega)⟩⟩
end Steps
/-! kinds of results -/
def RI (P : Int32 → Heap → Prop) : Option Value → Heap → Prop := fun v h => ∃ r, v = some (.int r) ∧ P r h
def RJ (P : Int64 → Heap → Prop) : Option Value → Heap → Prop := fun v h => ∃ r, v = some (.long r) ∧ P r h
def RA (P : Addr → Heap → Prop) : Option Value → Heap → Prop := fun v h => ∃ r, v = some (.ref r) ∧ P r h
def RV (P : Heap → Prop) : Option Value → Heap → Prop := fun v h => v = none ∧ P h
theorem kI {P : Int32 → Heap → Prop} {W : WT} {k n pc : Nat} {Ls : Array Slot} {rest : List Value} (q : ∀ r h, P r h → W h k n pc Ls (.int r :: rest)) : ∀ v h, RI P v h → W h k n pc Ls (v.toList ++ rest) := by
  rintro _ h ⟨r, rfl, p⟩; exact q r h p
theorem kJ {P : Int64 → Heap → Prop} {W : WT} {k n pc : Nat} {Ls : Array Slot} {rest : List Value} (q : ∀ r h, P r h → W h k n pc Ls (.long r :: rest)) : ∀ v h, RJ P v h → W h k n pc Ls (v.toList ++ rest) := by
  rintro _ h ⟨r, rfl, p⟩; exact q r h p
theorem kA {P : Addr → Heap → Prop} {W : WT} {k n pc : Nat} {Ls : Array Slot} {rest : List Value} (q : ∀ r h, P r h → W h k n pc Ls (.ref r :: rest)) : ∀ v h, RA P v h → W h k n pc Ls (v.toList ++ rest) := by
  rintro _ h ⟨r, rfl, p⟩; exact q r h p
theorem kV {P : Heap → Prop} {W : WT} {k n pc : Nat} {Ls : Array Slot} {rest : List Value} (q : ∀ h, P h → W h k n pc Ls rest) : ∀ v h, RV P v h → W h k n pc Ls (v.toList ++ rest) := by
  rintro _ h ⟨rfl, p⟩; exact q h p
/-- the same, for a callee that leaves the heap as it was and returns just this -/
theorem kI0 {P : Int32 → Prop} {h0 : Heap} {W : WT} {k n pc : Nat} {Ls : Array Slot} {rest : List Value} (q : ∀ r, P r → W h0 k n pc Ls (.int r :: rest)) : ∀ v h, RI (fun r h => P r ∧ h = h0) v h → W h k n pc Ls (v.toList ++ rest) := by
  rintro _ h ⟨r, rfl, p, rfl⟩; exact q r p
theorem kJ0 {P : Int64 → Prop} {h0 : Heap} {W : WT} {k n pc : Nat} {Ls : Array Slot} {rest : List Value} (q : ∀ r, P r → W h0 k n pc Ls (.long r :: rest)) : ∀ v h, RJ (fun r h => P r ∧ h = h0) v h → W h k n pc Ls (v.toList ++ rest) := by
  rintro _ h ⟨r, rfl, p, rfl⟩; exact q r p
theorem kIe {x : Int32} {h0 : Heap} {W : WT} {k n pc : Nat} {Ls : Array Slot} {rest : List Value} (q : W h0 k n pc Ls (.int x :: rest)) : ∀ v h, RI (fun r h => r = x ∧ h = h0) v h → W h k n pc Ls (v.toList ++ rest) := by
  rintro _ h ⟨r, rfl, rfl, rfl⟩; exact q
theorem kJe {x : Int64} {h0 : Heap} {W : WT} {k n pc : Nat} {Ls : Array Slot} {rest : List Value} (q : W h0 k n pc Ls (.long x :: rest)) : ∀ v h, RJ (fun r h => r = x ∧ h = h0) v h → W h k n pc Ls (v.toList ++ rest) := by
  rintro _ h ⟨r, rfl, rfl, rfl⟩; exact q
theorem exaLt {Z : State} {h : Heap} {a : Addr} {C : String} (F : Exa Z h a C) : a < h.size := by obtain ⟨c, _, h1, -⟩ := F; exact (Array.getElem?_eq_some_iff.mp h1).1
end Jvm.OwnW

namespace Jvm.Pilot.@@N@@
open Jvm Jvm.ClassFile Sem Op Lib Jvm.Free Jvm.Stand Jvm.LawKit Jvm.RoadKit Bundle Jvm.Pilot.@@N@@.Jvm.D Jvm.OwnW
end Jvm.Pilot.@@N@@
namespace Jvm.OwnP
open Jvm.OwnW
/-- a long as a number below 2^64 -/
def toN (x : Int64) : Nat := x.toBitVec.toNat
theorem toN_lt (x : Int64) : toN x < 18446744073709551616 := x.toBitVec.isLt
theorem toN_inj {x y : Int64} (h : toN x = toN y) : x = y := Int64.toBitVec_inj.mp (BitVec.eq_of_toNat_eq h)
theorem nAdd (x y : Int64) : toN (x + y) = (toN x + toN y) % 18446744073709551616 := BitVec.toNat_add x.toBitVec y.toBitVec
theorem nSub (x y : Int64) : toN (x - y) = (18446744073709551616 - toN y + toN x) % 18446744073709551616 := BitVec.toNat_sub x.toBitVec y.toBitVec
theorem nMul (x y : Int64) : toN (x * y) = (toN x * toN y) % 18446744073709551616 := BitVec.toNat_mul x.toBitVec y.toBitVec
theorem nAnd (x y : Int64) : toN (x &&& y) = toN x &&& toN y := BitVec.toNat_and x.toBitVec y.toBitVec
theorem nOr (x y : Int64) : toN (x ||| y) = toN x ||| toN y := BitVec.toNat_or x.toBitVec y.toBitVec
theorem nXor (x y : Int64) : toN (x ^^^ y) = toN x ^^^ toN y := BitVec.toNat_xor x.toBitVec y.toBitVec
theorem nShl (x : Int64) (k : Nat) : toN (shlL x k) = (toN x * 2 ^ k) % 18446744073709551616 := by
  show (x.toBitVec <<< k).toNat = _
  rw [BitVec.toNat_shiftLeft, Nat.shiftLeft_eq]; rfl
theorem nShr (x : Int64) (k : Nat) : toN (shrL x k) = toN x / 2 ^ k := by
  show (x.toBitVec >>> k).toNat = _
  rw [BitVec.toNat_ushiftRight, Nat.shiftRight_eq_div_pow]; rfl
/-- a long's sign and its number -/
theorem toInt_toN (x : Int64) : x.toInt = if 2 * toN x < 18446744073709551616 then (toN x : Int) else (toN x : Int) - 18446744073709551616 := BitVec.toInt_eq_toNat_cond x.toBitVec
theorem toN_of_nonneg {x : Int64} (h : 0 ≤ x.toInt) : (toN x : Int) = x.toInt := by
  have := toInt_toN x; have := toN_lt x; split at * <;> omega
theorem toN_i2l {x : Int32} (h : 0 ≤ x.toInt) : (toN x.toInt64 : Int) = x.toInt := by
  have e : x.toInt64.toInt = x.toInt := Int32.toInt_toInt64 x
  rw [← e] at h ⊢; exact toN_of_nonneg h
theorem and_split (x y : Nat) (k : Nat) : x &&& y = (x % 2 ^ k &&& y % 2 ^ k) + 2 ^ k * (x / 2 ^ k &&& y / 2 ^ k) := by
  rw [← Nat.and_mod_two_pow, ← Nat.and_div_two_pow]; exact (Nat.mod_add_div _ _).symm
theorem or_disj {a b k : Nat} (h : a < 2 ^ k) : a ||| (b * 2 ^ k) = a + b * 2 ^ k := by
  rw [Nat.mul_comm b, Nat.or_comm, ← Nat.two_pow_add_eq_or_of_lt h, Nat.add_comm]
end Jvm.OwnP
namespace Jvm.OwnP
open Jvm.RoadKit
theorem nn_toInt {j : Int32} (h : ¬ j < 0) : j.toInt = (j.toInt.toNat : Int) := by
  rw [Int32.lt_iff_toInt_lt] at h
  have : ¬ j.toInt < 0 := h
  omega
theorem getD_some {α : Type} {vs : List α} {i : Nat} {d : α} (h : i < vs.length) : vs[i]? = some (vs.getD i d) := by
  rw [List.getD_eq_getElem?_getD, List.getElem?_eq_getElem h]; rfl
theorem and3 (c : Int32) : c &&& 3 = 0 ∨ c &&& 3 = 1 ∨ c &&& 3 = 2 ∨ c &&& 3 = 3 := by
  have m := c_mask c 3 2 (by decide) (by decide)
  have h : (c &&& 3).toInt = 0 ∨ (c &&& 3).toInt = 1 ∨ (c &&& 3).toInt = 2 ∨ (c &&& 3).toInt = 3 := by omega
  rcases h with h | h | h | h
  · exact Or.inl (Int32.toInt_inj.mp h)
  · exact Or.inr (Or.inl (Int32.toInt_inj.mp h))
  · exact Or.inr (Or.inr (Or.inl (Int32.toInt_inj.mp h)))
  · exact Or.inr (Or.inr (Or.inr (Int32.toInt_inj.mp h)))
theorem fill_step {α : Type} {L M : List α} {i : Nat} (hl : L.length = M.length) (h : ∀ j, j < i → L[j]? = M[j]?) {v : α} (hv : M[i]? = some v) : (L.set i v).length = M.length ∧ ∀ j, j < i + 1 → (L.set i v)[j]? = M[j]? := by
  have hi : i < L.length := by rw [hl]; exact (List.getElem?_eq_some_iff.mp hv).1
  refine ⟨by rw [List.length_set]; exact hl, fun j hj => ?_⟩
  by_cases e : j = i
  · subst e; rw [List.getElem?_set_self hi, hv]
  · rw [List.getElem?_set_ne (Ne.symm e)]; exact h j (by omega)
theorem fill_done {α : Type} {L M : List α} {i : Nat} (hl : L.length = M.length) (h : ∀ j, j < i → L[j]? = M[j]?) (hi : M.length ≤ i) : L = M := by
  apply List.ext_getElem?
  intro j
  by_cases e : j < i
  · exact h j e
  · rw [List.getElem?_eq_none (by omega), List.getElem?_eq_none (by omega)]
theorem lt_iff {x y : Int32} {a b : Nat} (hx : x.toInt = (a : Int)) (hy : y.toInt = (b : Int)) : x < y ↔ a < b := by
  rw [Int32.lt_iff_toInt_lt, hx, hy]; omega
theorem inc_toInt {x v : Int32} {a : Nat} (hx : x.toInt = (a : Int)) (h : a < 2147483647) (e : v = x + 1) : v.toInt = ((a + 1 : Nat) : Int) := by
  have s := c_iadd x 1; have b := rng32 (x + 1); have o : (1 : Int32).toInt = 1 := by decide
  rw [e]; omega
theorem narZ {x : Int32} (h : x = 0 ∨ x = 1) : Jvm.narrow .boolean (.int x) = .int x ∧ Jvm.fits .boolean (.int x) = true := by
  rcases h with rfl | rfl <;> exact ⟨by decide, by decide⟩
theorem rem3 {c : Int32} (h : ¬ c < 0) : c % 3 = 0 ∨ c % 3 = 1 ∨ c % 3 = 2 := by
  rw [Int32.lt_iff_toInt_lt] at h
  have h0 : ¬ c.toInt < 0 := h
  have m := (c_irem c 3 3 (by decide)).1 (by omega)
  have h : (c % 3).toInt = 0 ∨ (c % 3).toInt = 1 ∨ (c % 3).toInt = 2 := by omega
  rcases h with h | h | h
  · exact Or.inl (Int32.toInt_inj.mp h)
  · exact Or.inr (Or.inl (Int32.toInt_inj.mp h))
  · exact Or.inr (Or.inr (Int32.toInt_inj.mp h))
end Jvm.OwnP
namespace Jvm.OwnP
open Jvm.OwnW
theorem nNot (x : Int64) : toN (x ^^^ (-1)) = 18446744073709551615 - toN x := by
  have e : (x ^^^ (-1)).toBitVec = ~~~ x.toBitVec := by
    show x.toBitVec ^^^ (-1 : Int64).toBitVec = _
    rw [show (-1 : Int64).toBitVec = BitVec.allOnes 64 from by decide, BitVec.xor_allOnes]
  show (x ^^^ (-1)).toBitVec.toNat = _
  rw [e, BitVec.toNat_not]; show 2 ^ 64 - 1 - toN x = _; omega
theorem nSar63 (x : Int64) : toN (sarL x 63) = if toN x < 9223372036854775808 then 0 else 18446744073709551615 := by
  show (x.toBitVec.sshiftRight 63).toNat = _
  have hl := toN_lt x
  rw [BitVec.sshiftRight_eq, BitVec.toNat_ofInt]
  have h := toInt_toN x
  have e : x.toBitVec.toInt = x.toInt := rfl
  rw [e, h, Int.shiftRight_eq_div_pow]
  have p : ((2 ^ 63 : Nat) : Int) = 9223372036854775808 := by decide
  have p4 : ((2 ^ 64 : Nat) : Int) = 18446744073709551616 := by decide
  rw [p, p4]
  split <;> split <;> omega
theorem nShr63 (x : Int64) : toN (shrL x 63) = if toN x < 9223372036854775808 then 0 else 1 := by
  have hl := toN_lt x
  rw [nShr]; split <;> omega
theorem nDiv {x y : Int64} (hx : toN x < 9223372036854775808) (hy : toN y < 9223372036854775808) : toN (x / y) = toN x / toN y := by
  have ex := toInt_toN x; have ey := toInt_toN y
  rw [if_pos (by omega)] at ex ey
  have e : (x / y).toInt = ((toN x / toN y : Nat) : Int) := by
    rw [Int64.toInt_div_of_ne_left, ex, ey, Int.tdiv_eq_ediv_of_nonneg (by omega)]
    · rfl
    · intro h; rw [h] at hx; exact absurd hx (by decide)
  have h := toN_of_nonneg (x := x / y) (by rw [e]; exact Int.natCast_nonneg _)
  rw [e] at h; exact Int.ofNat.inj h
theorem n_nonneg {x : Int64} (h : ¬ x < 0) : toN x < 9223372036854775808 := by
  rw [Int64.lt_iff_toInt_lt] at h
  have e := toInt_toN x; have l := toN_lt x
  have z : ¬ x.toInt < 0 := h
  split at e <;> omega
theorem n_neg {x : Int64} (h : x < 0) : 9223372036854775808 ≤ toN x := by
  rw [Int64.lt_iff_toInt_lt] at h
  have e := toInt_toN x; have l := toN_lt x
  have z : x.toInt < 0 := h
  split at e <;> omega
theorem hd_core {X Y : Nat} (hY : 0 < Y) : ∃ R, X = 2 * (X / 2 / Y) * Y + R ∧ R < 2 * Y ∧ X / Y = 2 * (X / 2 / Y) + (if R < Y then 0 else 1) ∧ X % Y = R - (if R < Y then 0 else Y) := by
  have h1 := Nat.div_add_mod (X / 2) Y; have h2 := Nat.mod_lt (X / 2) hY; have h3 := Nat.div_add_mod X 2; have h4 := Nat.mod_lt X (show 0 < 2 by decide)
  have e : 2 * (X / 2 / Y) * Y = 2 * (Y * (X / 2 / Y)) := by rw [Nat.mul_assoc, Nat.mul_comm Y]
  generalize hQ : X / 2 / Y = Q at *
  generalize hA : Y * Q = A at *
  refine ⟨X - 2 * A, by omega, by omega, ?_, ?_⟩
  · split
    · next h => 
      rw [Nat.add_zero]
      apply Nat.div_eq_of_lt_le
      · rw [e]; omega
      · rw [Nat.add_mul, e]; omega
    · next h =>
      apply Nat.div_eq_of_lt_le
      · rw [Nat.add_mul, e]; omega
      · rw [Nat.add_mul, Nat.add_mul, e]; omega
  · split
    · next h =>
      have z : X = (X - 2 * A) + Y * (2 * Q) := by rw [show Y * (2 * Q) = 2 * (Y * Q) from by rw [Nat.mul_left_comm], hA]; omega
      rw [z, Nat.add_mul_mod_self_left, Nat.mod_eq_of_lt h]; omega
    · next h =>
      have z : X = (X - 2 * A - Y) + Y * (2 * Q + 1) := by rw [Nat.mul_add, show Y * (2 * Q) = 2 * (Y * Q) from by rw [Nat.mul_left_comm], hA]; omega
      rw [z, Nat.add_mul_mod_self_left, Nat.mod_eq_of_lt (by omega)]; omega
/-- the shared head of both: the doubled half quotient and what is left -/
theorem hd_head {x y q r : Int64} (hy0 : y ≠ 0) (hy : ¬ y < 0) (eq : q = shlL (shrL x 1 / y) 1) (er : r = x - q * y) :
    0 < toN y ∧ toN y < 9223372036854775808 ∧ toN q = 2 * (toN x / 2 / toN y) ∧ toN x = 2 * (toN x / 2 / toN y) * toN y + toN r := by
  have hY := n_nonneg hy
  have hY0 : 0 < toN y := Nat.pos_of_ne_zero fun h => hy0 (toN_inj (by rw [h]; rfl))
  have hX := toN_lt x
  have s1 : toN (shrL x 1) = toN x / 2 := by rw [nShr]
  have d : toN (shrL x 1 / y) = toN x / 2 / toN y := by rw [nDiv (by rw [s1]; omega) hY, s1]
  have le : toN x / 2 / toN y ≤ toN x / 2 := Nat.div_le_self _ _
  have hq : toN q = 2 * (toN x / 2 / toN y) := by rw [eq, nShl, d]; omega
  obtain ⟨R, h1, h2, -, -⟩ := hd_core (X := toN x) hY0
  have hm : toN (q * y) = 2 * (toN x / 2 / toN y) * toN y := by rw [nMul, hq]; omega
  refine ⟨hY0, hY, hq, ?_⟩
  rw [er, nSub, hm]; omega
theorem div_pos {x y q r : Int64} (hy0 : y ≠ 0) (hy : ¬ y < 0) (eq : q = shlL (shrL x 1 / y) 1) (er : r = x - q * y) : toN (q + shrL (r ||| ((r - y) ^^^ (-1))) 63) = toN x / toN y := by
  obtain ⟨h0, hY, hq, hx⟩ := hd_head hy0 hy eq er
  obtain ⟨R, h1, h2, h3, -⟩ := hd_core (X := toN x) h0
  have hR : toN r = R := by omega
  have hX := toN_lt x; have hr := toN_lt r
  have le : toN x / 2 / toN y ≤ toN x / 2 := Nat.div_le_self _ _
  have hc : toN (shrL (r ||| ((r - y) ^^^ (-1))) 63) = if R < toN y then 0 else 1 := by
    rw [nShr63, nOr, nNot, nSub, hR]
    by_cases c : R < toN y
    · rw [if_pos c, if_pos]
      exact Nat.or_lt_two_pow (n := 63) (by omega) (by omega)
    · rw [if_neg c, if_neg]
      have := @Nat.right_le_or R (18446744073709551615 - (18446744073709551616 - toN y + R) % 18446744073709551616)
      omega
  rw [nAdd, hq, hc, h3]
  have le2 : toN x / toN y ≤ toN x := Nat.div_le_self _ _
  rw [h3] at le2
  omega
theorem and_top {a b : Nat} (ha : a < 18446744073709551616) (hb : b < 18446744073709551616) : (a &&& b < 9223372036854775808) ↔ (a < 9223372036854775808 ∨ b < 9223372036854775808) := by
  have s := and_split a b 63
  have hl : (a % 2 ^ 63 &&& b % 2 ^ 63) < 2 ^ 63 := Nat.and_lt_two_pow _ (Nat.mod_lt _ (by decide))
  have a1 : a / 2 ^ 63 = 0 ∨ a / 2 ^ 63 = 1 := by omega
  have b1 : b / 2 ^ 63 = 0 ∨ b / 2 ^ 63 = 1 := by omega
  have z1 : (0 &&& 0 : Nat) = 0 := rfl
  have z2 : (0 &&& 1 : Nat) = 0 := rfl
  have z3 : (1 &&& 0 : Nat) = 0 := rfl
  have z4 : (1 &&& 1 : Nat) = 1 := rfl
  rcases a1 with a1 | a1 <;> rcases b1 with b1 | b1 <;> rw [a1, b1] at s <;> omega
theorem cmp_neg {x y : Int64} (hy : y < 0) : toN (x &&& ((x - y) ^^^ (-1))) < 9223372036854775808 ↔ toN x < toN y := by
  have hY := n_neg hy; have lx := toN_lt x; have ly := toN_lt y
  rw [nAnd, nNot, nSub, and_top lx (by omega)]
  omega
theorem div_neg {x y : Int64} (hy : y < 0) : toN (shrL (x &&& ((x - y) ^^^ (-1))) 63) = toN x / toN y := by
  have hY := n_neg hy; have lx := toN_lt x
  rw [nShr63]
  by_cases c : toN x < toN y
  · rw [if_pos ((cmp_neg hy).mpr c), Nat.div_eq_of_lt c]
  · rw [if_neg (fun h => c ((cmp_neg hy).mp h))]
    exact (Nat.div_eq_of_lt_le (by omega) (by omega)).symm
theorem mask_all {y : Nat} (h : y < 18446744073709551616) : 18446744073709551615 &&& y = y := by
  rw [Nat.and_comm]; exact Nat.and_two_pow_sub_one_of_lt_two_pow (n := 64) h
theorem rem_pos {x y q r : Int64} (hy0 : y ≠ 0) (hy : ¬ y < 0) (eq : q = shlL (shrL x 1 / y) 1) (er : r = x - q * y) : toN (r - (sarL ((r - y) ^^^ (-1)) 63 &&& y)) = toN x % toN y := by
  obtain ⟨h0, hY, hq, hx⟩ := hd_head hy0 hy eq er
  obtain ⟨R, h1, h2, -, h3⟩ := hd_core (X := toN x) h0
  have hR : toN r = R := by omega
  have hr := toN_lt r
  have hc : toN (sarL ((r - y) ^^^ (-1)) 63 &&& y) = if R < toN y then 0 else toN y := by
    rw [nAnd, nSar63, nNot, nSub, hR]
    by_cases c : R < toN y
    · rw [if_pos c, if_pos (by omega), Nat.zero_and]
    · rw [if_neg c, if_neg (by omega), mask_all (toN_lt y)]
  rw [nSub, hc, hR, h3]
  split <;> omega
theorem rem_neg {x y : Int64} (hy : y < 0) : toN (x - (sarL (x &&& ((x - y) ^^^ (-1))) 63 &&& y)) = toN x % toN y := by
  have hY := n_neg hy; have lx := toN_lt x; have ly := toN_lt y
  rw [nSub, nAnd, nSar63]
  by_cases c : toN x < toN y
  · rw [if_pos ((cmp_neg hy).mpr c), Nat.zero_and, Nat.mod_eq_of_lt c]; omega
  · rw [if_neg (fun h => c ((cmp_neg hy).mp h)), mask_all ly]
    have : toN x % toN y = toN x - toN y := by rw [Nat.mod_eq_sub_mod (by omega), Nat.mod_eq_of_lt (by omega)]
    rw [this]; omega

def Geo (s M : Nat) (L : List Int64) : Prop := 1 ≤ L.length ∧ L.length ≤ 64 ∧ (∀ i, i < L.length → toN (L.getD i 0) = s ^ i) ∧ M < s ^ L.length
def Lev (s C T i : Nat) : Prop := i ≤ 63 ∧ C / s ^ (i + 1) = T / s ^ (i + 1) ∧ (i = 0 ∨ C / s ^ i ≠ T / s ^ i)
def LevR (sl : Int32) (c t : Int64) (r : Int32) : Prop := ∃ i : Nat, r.toInt = (i : Int) ∧ Lev (toN sl.toInt64) (toN c) (toN t) i
theorem sl_ge {sl : Int32} (h : ¬ sl < 2) : 2 ≤ toN sl.toInt64 ∧ toN sl.toInt64 < 2147483648 := by
  rw [Int32.lt_iff_toInt_lt] at h
  have h2 : ¬ sl.toInt < 2 := h
  have e := toN_i2l (x := sl) (by omega); have b := Jvm.RoadKit.rng32 sl
  omega
theorem nz_of {x : Int64} (h : toN x ≠ 0) : x ≠ 0 := by rintro rfl; exact h rfl
theorem n_ne0 {x : Int64} (h : x ≠ 0) : toN x ≠ 0 := fun q => h (toN_inj (by rw [q]; rfl))
theorem sl_nz {sl : Int32} (h : ¬ sl < 2) : sl.toInt64 ≠ 0 := nz_of (by have := sl_ge h; omega)
theorem pow_big {s i X : Nat} (hs : 2 ≤ s) (hX : X < 18446744073709551616) (h : X / s ^ i ≠ 0) : i ≤ 63 := by
  have h1 : s ^ i ≤ X := Nat.le_of_not_lt fun q => h (Nat.div_eq_of_lt q)
  have h2 : 2 ^ i ≤ s ^ i := Nat.pow_le_pow_left hs i
  have h3 : 2 ^ i < 2 ^ 64 := by omega
  have := (Nat.pow_lt_pow_iff_right (show 1 < 2 by decide)).mp h3
  omega
theorem div_step {s C i a : Nat} (h : a = C / s ^ i) : a / s = C / s ^ (i + 1) := by rw [h, Nat.div_div_eq_div_mul, Nat.pow_succ]
theorem div_pow_le {s C i k : Nat} (h : i ≤ k) : C / s ^ k = C / s ^ i / s ^ (k - i) := by rw [Nat.div_div_eq_div_mul, ← Nat.pow_add, Nat.add_sub_cancel' h]
theorem lev_back {s i : Nat} {c t a b : Int64} (hs : 2 ≤ s) (ha : toN a = toN c / s ^ (i + 1)) (hb : toN b = toN t / s ^ (i + 1)) (h : ¬ a = b) : i < 63 ∧ toN c / s ^ (i + 1) ≠ toN t / s ^ (i + 1) := by
  have n : toN c / s ^ (i + 1) ≠ toN t / s ^ (i + 1) := fun q => h (toN_inj (by rw [ha, hb, q]))
  refine ⟨?_, n⟩
  by_cases z : toN c / s ^ (i + 1) = 0
  · have := pow_big hs (toN_lt t) (i := i + 1) (by omega); omega
  · have := pow_big hs (toN_lt c) (i := i + 1) z; omega
theorem lev_done {sl r : Int32} {i : Nat} {c t a b : Int64} (hi : r.toInt = (i : Int)) (h63 : i ≤ 63) (ha : toN a = toN c / toN sl.toInt64 ^ (i + 1)) (hb : toN b = toN t / toN sl.toInt64 ^ (i + 1)) (h : a = b) (h0 : i = 0 ∨ toN c / toN sl.toInt64 ^ i ≠ toN t / toN sl.toInt64 ^ i) : LevR sl c t r :=
  ⟨i, hi, h63, by rw [← ha, ← hb, h], h0⟩
theorem lenI {L : List Int64} (h : L.length ≤ 64) : ∃ z : Int32, z.toInt = (L.length : Int) := by
  refine ⟨Int32.ofNat L.length, ?_⟩
  rw [Int32.toInt_ofNat', show Int32.size = 4294967296 from rfl, Int.bmod_eq_of_le (by omega) (by omega)]
theorem span_step {s j : Nat} {L : List Int64} {v : Int64} (hj : 1 ≤ j) (hl : j < L.length) (h : ∀ q, q < j → toN (L.getD q 0) = s ^ q) (hv : toN v = s ^ j) : ∀ q, q < j + 1 → toN ((L.set j v).getD q 0) = s ^ q := by
  intro q hq
  by_cases e : q = j
  · subst e; rw [List.getD_eq_getElem?_getD, List.getElem?_set_self hl]; exact hv
  · rw [List.getD_eq_getElem?_getD, List.getElem?_set_ne (Ne.symm e), ← List.getD_eq_getElem?_getD]; exact h q (by omega)
theorem span_val {s j : Nat} {L : List Int64} {sl : Int64} (hsl : toN sl = s) (hj : 1 ≤ j) (h : ∀ q, q < j → toN (L.getD q 0) = s ^ q) (hb : s ^ j < 18446744073709551616) : toN (L.getD (j - 1) 0 * sl) = s ^ j := by
  rw [nMul, h (j - 1) (by omega), hsl, ← Nat.pow_succ, Nat.succ_eq_add_one, Nat.sub_add_cancel hj]
  exact Nat.mod_eq_of_lt hb
/-- the powers below the last level's stay in a long -/
theorem pow_lt {s M i j : Nat} (hs : 2 ≤ s) (hM : M < 18446744073709551616) (h0 : i = 0 ∨ M / s ^ i ≠ 0) (hj : j ≤ i) : s ^ j < 18446744073709551616 := by
  rcases h0 with rfl | h0
  · have : j = 0 := by omega
    subst this; show 1 < _; decide
  · have h1 : s ^ i ≤ M := Nat.le_of_not_lt fun q => h0 (Nat.div_eq_of_lt q)
    have h2 : s ^ j ≤ s ^ i := Nat.pow_le_pow_right (by omega) hj
    omega
theorem geo_done {s M i : Nat} {L : List Int64} {re : Int64} (hs : 2 ≤ s) (h63 : i ≤ 63) (hl : L.length = i + 1) (h : ∀ q, q < i + 1 → toN (L.getD q 0) = s ^ q) (hre : toN re = M / s ^ (i + 1)) (h0 : re = 0) : Geo s M L := by
  refine ⟨by omega, by omega, fun q hq => h q (by omega), ?_⟩
  rw [hl]
  subst h0
  have z : M / s ^ (i + 1) = 0 := by rw [← hre]; rfl
  exact (Nat.div_eq_zero_iff.mp z).resolve_left (by have := Nat.pow_pos (n := i + 1) (show 0 < s by omega); omega)
theorem tick_le {t org tk r : Int64} (h : ¬ t < org) (q : toN r = toN (t - org) / toN tk) : toN r ≤ toN (9223372036854775807 - org) / toN tk := by
  rw [q]; apply Nat.div_le_div_right
  rw [Int64.lt_iff_toInt_lt] at h
  have e1 := toInt_toN t; have e2 := toInt_toN org; have l1 := toN_lt t; have l2 := toN_lt org
  rw [nSub, nSub, show toN 9223372036854775807 = 9223372036854775807 from by decide]
  split at e1 <;> split at e2 <;> omega
theorem lev_in {s M C T i : Nat} {L : List Int64} (hs : 2 ≤ s) (g : Geo s M L) (hC : C ≤ M) (hT : T ≤ M) (v : Lev s C T i) : i < L.length := by
  obtain ⟨g1, -, -, g4⟩ := g
  obtain ⟨-, -, h⟩ := v
  apply Nat.lt_of_not_le; intro q
  have p : s ^ L.length ≤ s ^ i := Nat.pow_le_pow_right (by omega) q
  rcases h with h | h
  · omega
  · exact h (by rw [Nat.div_eq_of_lt (by omega), Nat.div_eq_of_lt (by omega)])
theorem base_eq (C m : Nat) : C - C % m = m * (C / m) := by have := Nat.div_add_mod C m; omega
theorem digit_ne {s C T i : Nat} (v : Lev s C T i) (h : i ≠ 0) : C / s ^ i % s ≠ T / s ^ i % s := by
  obtain ⟨-, v1, v2⟩ := v
  intro q
  apply v2.resolve_left h
  have e1 := Nat.div_add_mod (C / s ^ i) s; have e2 := Nat.div_add_mod (T / s ^ i) s
  rw [Nat.div_div_eq_div_mul, ← Nat.pow_succ] at e1 e2
  rw [← e1, ← e2, q]; congr 2
/-- where a slot starts -/
theorem start_le {s C i d : Nat} (hd : d ≤ C / s ^ i % s) : s ^ (i + 1) * (C / s ^ (i + 1)) + d * s ^ i ≤ C := by
  have e1 := Nat.div_add_mod (C / s ^ i) s; have e2 := Nat.div_add_mod C (s ^ i)
  rw [Nat.div_div_eq_div_mul, ← Nat.pow_succ] at e1
  have e3 : s ^ (i + 1) * (C / s ^ (i + 1)) = s ^ i * (s * (C / s ^ (i + 1))) := by rw [Nat.pow_succ, Nat.mul_assoc]
  have e4 : d * s ^ i ≤ s ^ i * (C / s ^ i % s) := by rw [Nat.mul_comm]; exact Nat.mul_le_mul_left _ hd
  have e5 : s ^ i * (s * (C / s ^ (i + 1)) + C / s ^ i % s) ≤ C := by rw [e1]; exact Nat.mul_div_le C (s ^ i)
  rw [Nat.mul_add] at e5
  rw [e3]; omega
theorem start_digit {s A i d : Nat} (hs : 2 ≤ s) (hd : d < s) : (s ^ (i + 1) * A + d * s ^ i) / s ^ i = s * A + d ∧ (s ^ (i + 1) * A + d * s ^ i) / s ^ i % s = d ∧ (s ^ (i + 1) * A + d * s ^ i) / s ^ (i + 1) = A := by
  have p := Nat.pow_pos (n := i) (show 0 < s by omega)
  have h1 : (s ^ (i + 1) * A + d * s ^ i) / s ^ i = s * A + d := by
    rw [Nat.pow_succ, Nat.mul_assoc, Nat.mul_comm d, ← Nat.mul_add, Nat.mul_div_cancel_left _ p]
  refine ⟨h1, ?_, ?_⟩
  · rw [h1, Nat.mul_add_mod, Nat.mod_eq_of_lt hd]
  · rw [Nat.pow_succ (n := s) (m := i), ← Nat.div_div_eq_div_mul, ← Nat.pow_succ, h1, Nat.mul_add_div (by omega), Nat.div_eq_of_lt hd, Nat.add_zero]
theorem lev_high {s C R i k : Nat} (h : C / s ^ (i + 1) = R / s ^ (i + 1)) (v : Lev s C R k) : k ≤ i := by
  obtain ⟨-, -, v⟩ := v
  apply Nat.le_of_not_lt; intro q
  rcases v with v | v
  · omega
  · apply v; rw [div_pow_le (i := i + 1) q, div_pow_le (C := R) (i := i + 1) q, h]
theorem lev_low {s R i k : Nat} (hs : 2 ≤ s) (hR : R ≠ 0) (hd : s ^ i ∣ R) (v : Lev s (R - 1) R k) : i ≤ k := by
  obtain ⟨-, v, -⟩ := v
  apply Nat.le_of_not_lt; intro q
  obtain ⟨m, rfl⟩ := Nat.dvd_trans (Nat.pow_dvd_pow s (show k + 1 ≤ i from q)) hd
  have p := Nat.pow_pos (n := k + 1) (show 0 < s by omega)
  rw [Nat.mul_div_cancel_left _ p] at v
  have h1 := Nat.div_mul_le_self (s ^ (k + 1) * m - 1) (s ^ (k + 1))
  rw [v, Nat.mul_comm] at h1
  omega
end Jvm.OwnP
namespace Jvm.Pilot.@@N@@
open Jvm Jvm.ClassFile Sem Op Lib Jvm.Free Jvm.Stand Jvm.LawKit Jvm.RoadKit Bundle Jvm.Pilot.@@N@@.Jvm.D Jvm.OwnW

open Jvm.OwnP
theorem own_tk {tk : Int64} (h : ¬ (tk < 1)) : tk ≠ 0 := by rintro rfl; exact h (by decide)
theorem own_first (s i : Nat) : ∀ q, q < 1 → toN (((List.replicate (i + 1) (0 : Int64)).set 0 1).getD q 0) = s ^ q := by
  intro q hq
  have : q = 0 := by omega
  subst this
  rw [List.getD_eq_getElem?_getD, List.getElem?_set_self (by rw [List.length_replicate]; omega)]; rfl
theorem own_dec {jv : Int32} {j : Nat} (h : jv.toInt = (j : Int)) (h1 : 1 ≤ j) : (jv - 1).toInt = ((j - 1 : Nat) : Int) := by
  have s := c_isub jv 1; have b := rng32 (jv - 1); have b2 := rng32 jv; have o : (1 : Int32).toInt = 1 := by decide
  omega
theorem own_span {sl : Int32} {M i : Nat} {L : List Int64} (h2 : ¬ sl < 2) (g : Geo (toN sl.toInt64) M L) (h : i < L.length) : L.getD i 0 ≠ 0 := by
  apply nz_of; rw [g.2.2.1 i h]
  have := Nat.pow_pos (n := i) (show 0 < toN sl.toInt64 by have := sl_ge h2; omega)
  omega
theorem own_slot {sl : Int32} {M i : Nat} {L : List Int64} {c r1 r2 : Int64} (h2 : ¬ sl < 2) (g : Geo (toN sl.toInt64) M L) (h : i < L.length) (q1 : toN r1 = toN c / toN (L.getD i 0)) (q2 : toN r2 = toN r1 % toN sl.toInt64) : r2.toInt32.toInt = ((toN c / toN sl.toInt64 ^ i % toN sl.toInt64 : Nat) : Int) := by
  rw [g.2.2.1 i h] at q1; rw [q1] at q2
  have s := sl_ge h2
  have l := Nat.mod_lt (toN c / toN sl.toInt64 ^ i) (show 0 < toN sl.toInt64 by omega)
  have e := toInt_toN r2
  rw [if_pos (by omega), q2] at e
  rw [Int64.toInt_toInt32, e, Int.bmod_eq_of_le (by omega) (by omega)]
theorem own_i1 {lev : Int32} {i s M : Nat} {L : List Int64} (hi : lev.toInt = (i : Int)) (g : Geo s M L) (h : i < L.length) : (lev + 1).toInt = ((i + 1 : Nat) : Int) := Jvm.OwnP.inc_toInt hi (by have := g.2.1; omega) rfl
theorem own_lt {lev lv : Int32} {i s M : Nat} {L : List Int64} (hi : lev.toInt = (i : Int)) (hlv : lv.toInt = (L.length : Int)) (g : Geo s M L) (h : i < L.length) (c : lev + 1 < lv) : i + 1 < L.length := (Jvm.OwnP.lt_iff (own_i1 hi g h) hlv).mp c
theorem own_ge {lev lv : Int32} {i s M : Nat} {L : List Int64} (hi : lev.toInt = (i : Int)) (hlv : lv.toInt = (L.length : Int)) (g : Geo s M L) (h : i < L.length) (c : ¬ (lev + 1 < lv)) : ¬ (i + 1 < L.length) := fun q => c ((Jvm.OwnP.lt_iff (own_i1 hi g h) hlv).mpr q)
theorem own_start {s M i : Nat} {L : List Int64} {c b d : Int64} (g : Geo s M L) (h : i < L.length) (q : (i + 1 < L.length ∧ ∃ r, toN r = toN c % toN (L.getD (i + 1) 0) ∧ b = c - r) ∨ (¬ (i + 1 < L.length) ∧ b = 0)) :
    toN (b + d * L.getD i 0) = ((if i + 1 < L.length then s ^ (i + 1) * (toN c / s ^ (i + 1)) else 0) + toN d * s ^ i) % 18446744073709551616 := by
  rw [nAdd, nMul, g.2.2.1 i h]
  have e : toN b = if i + 1 < L.length then s ^ (i + 1) * (toN c / s ^ (i + 1)) else 0 := by
    rcases q with ⟨q, r, hr, rfl⟩ | ⟨q, rfl⟩
    · rw [if_pos q, nSub, hr, g.2.2.1 _ q, ← base_eq]
      have l := toN_lt c; have m := Nat.mod_le (toN c) (s ^ (i + 1))
      generalize toN c % s ^ (i + 1) = R at *
      omega
    · rw [if_neg q]; rfl
  rw [e, Nat.add_mod_mod]

theorem own_t1 {v x : Int64} (e : v = if 1 < x then x else 1) : ¬ (v < 1) := by
  have o : (1 : Int64).toInt = 1 := by decide
  rw [Int64.lt_iff_toInt_lt]
  split at e
  · next h => rw [Int64.lt_iff_toInt_lt] at h; rw [e]; omega
  · rw [e]; omega
theorem own_s2 {v x : Int32} (e : v = if 2 < x then x else 2) : ¬ (v < 2) := by
  have o : (2 : Int32).toInt = 2 := by decide
  rw [Int32.lt_iff_toInt_lt]
  split at e
  · next h => rw [Int32.lt_iff_toInt_lt] at h; rw [e]; omega
  · rw [e]; omega
theorem own_lo {v x y : Int64} (e : v = if x < y then y else x) : ¬ (v < y) := by
  rw [Int64.lt_iff_toInt_lt]
  split at e
  · rw [e]; omega
  · next h => rw [Int64.lt_iff_toInt_lt] at h; rw [e]; exact h
theorem own_hi {v w y u : Int64} (h : ¬ (w < y)) (x : (¬ (v < w) ∧ u = v) ∨ (v < w ∧ u = 9223372036854775807)) : ¬ (u < y) := by
  rw [Int64.lt_iff_toInt_lt] at *
  rcases x with ⟨a, rfl⟩ | ⟨-, rfl⟩
  · omega
  · have b := rng64 y; have o : (9223372036854775807 : Int64).toInt = 9223372036854775807 := by decide
    omega
theorem own_ss {s M i : Nat} {L : List Int64} {c t r1 r2 : Int64} (v : Lev s (toN c) (toN t) i) (q1 : toN r1 = ((if i + 1 < L.length then s ^ (i + 1) * (toN c / s ^ (i + 1)) else 0) + toN (0 : Int32).toInt64 * s ^ i) % 18446744073709551616) (q2 : toN r2 = ((if i + 1 < L.length then s ^ (i + 1) * (toN t / s ^ (i + 1)) else 0) + toN (0 : Int32).toInt64 * s ^ i) % 18446744073709551616) : r1 = r2 :=
  toN_inj (by rw [q1, q2, v.2.1])
theorem own_d {s i : Nat} {c t : Int64} {r1 r2 l : Int32} (v : Lev s (toN c) (toN t) i) (hi : l.toInt = (i : Int)) (h : ¬ l = 0) (q1 : r1.toInt = ((toN c / s ^ i % s : Nat) : Int)) (q2 : r2.toInt = ((toN t / s ^ i % s : Nat) : Int)) : ¬ (r1 = r2) := by
  intro e; subst e
  refine digit_ne v (fun z => h (Int32.toInt_inj.mp (by rw [hi, z]; rfl))) ?_
  rw [q1] at q2; exact Int.ofNat.inj q2
theorem own_n0 {l : Int32} {i : Nat} (hi : l.toInt = (i : Int)) : ¬ (l < 0) := by
  rw [Int32.lt_iff_toInt_lt, hi]; show ¬ _ < (0 : Int); omega

theorem od1_0 : decode jdk_29_method_66_code 0 = .ok (.lload_n 0, 1) := by decide +kernel
theorem od1_1 : decode jdk_29_method_66_code 1 = .ok (.lload_n 2, 1) := by decide +kernel
theorem od1_2 : decode jdk_29_method_66_code 2 = .ok (.lcmp, 1) := by decide +kernel
theorem od1_3 : decode jdk_29_method_66_code 3 = .ok (.ifCond .lt 7, 3) := by decide +kernel
theorem od1_10 : decode jdk_29_method_66_code 10 = .ok (.lload_n 2, 1) := by decide +kernel
theorem od1_11 : decode jdk_29_method_66_code 11 = .ok (.lreturn, 1) := by decide +kernel
theorem od1_6 : decode jdk_29_method_66_code 6 = .ok (.lload_n 0, 1) := by decide +kernel
theorem od1_7 : decode jdk_29_method_66_code 7 = .ok (.goto 4, 3) := by decide +kernel
theorem ef_own_rm1 (m : MethodId) (x0 : Int64) (x1 : Int64) : entryFrame m #[(.long x0), (.long x1)] 4 = mkF m 0 #[.val (.long x0), .second, .val (.long x1), .second] [] := by first | (simp [entryFrame, mkF, argsToLocals, Value.category]; done) | rfl
theorem pn_java_lang_Math_max__JJ_J : plainFor (⟨"java/lang/Math", "max", "(JJ)J"⟩ : MethodName) = true := by decide +kernel
set_option maxRecDepth 65536 in
set_option maxHeartbeats 40000000 in
theorem own_rm1 (l : Launch) (Z : State) (a0 : Array Value) (hw : ∀ d ∈ tables_1, d.before a0 Z = true) (n0 : Nat) (hO : Heap) (x : Int64) (y : Int64) :
    MeetsW l Z n0 (⟨"java/lang/Math", "max", "(JJ)J"⟩ : MethodName) jdk_29_method_66_code 4 (some .long) ({ frames := 0, cells := 0, slots := 0, locals := 0 } : Room) #[(.long x), (.long y)] hO (RJ fun r h => r = (if x < y then y else x) ∧ h = hO) := by
  refine MeetsW.intro pn_java_lang_Math_max__JJ_J (fun m => ef_own_rm1 m x y) ?_
  intro W C
  replace C : Ru l Z "java/lang/Math" jdk_29_method_66_code 4 (some .long) "max" ({ frames := 0, cells := 0, slots := 0, locals := 0 } : Room) n0 (RJ fun r h => r = (if x < y then y else x) ∧ h = hO) W := C
  refine C.lloadN (pc' := 1) od1_0 rfl rfl ?_
  refine C.lloadN (pc' := 2) od1_1 rfl rfl ?_
  refine C.lif_lt (pc' := 6) (pt := 10) od1_2 rfl od1_3 rfl rfl (fun c2 => ?_) (fun c2 => ?_)
  · skip
    refine C.lloadN (pc' := 11) od1_10 rfl rfl ?_
    refine C.retJ rfl od1_11 (by decide) (by decide) ⟨_, rfl, ?_⟩
    exact ⟨by simp [c2], rfl⟩
  · skip
    refine C.lloadN (pc' := 7) od1_6 rfl rfl ?_
    refine C.goto (pc' := 11) od1_7 rfl ?_
    refine C.retJ rfl od1_11 (by decide) (by decide) ⟨_, rfl, ?_⟩
    exact ⟨by simp [c2], rfl⟩
theorem od2_0 : decode jdk_29_method_65_code 0 = .ok (.iload_n 0, 1) := by decide +kernel
theorem od2_1 : decode jdk_29_method_65_code 1 = .ok (.iload_n 1, 1) := by decide +kernel
theorem od2_2 : decode jdk_29_method_65_code 2 = .ok (.if_icmp .lt 7, 3) := by decide +kernel
theorem od2_9 : decode jdk_29_method_65_code 9 = .ok (.iload_n 1, 1) := by decide +kernel
theorem od2_10 : decode jdk_29_method_65_code 10 = .ok (.ireturn, 1) := by decide +kernel
theorem od2_5 : decode jdk_29_method_65_code 5 = .ok (.iload_n 0, 1) := by decide +kernel
theorem od2_6 : decode jdk_29_method_65_code 6 = .ok (.goto 4, 3) := by decide +kernel
theorem ef_own_rm2 (m : MethodId) (x0 : Int32) (x1 : Int32) : entryFrame m #[(.int x0), (.int x1)] 2 = mkF m 0 #[.val (.int x0), .val (.int x1)] [] := by first | (simp [entryFrame, mkF, argsToLocals, Value.category]; done) | rfl
theorem pn_java_lang_Math_max__II_I : plainFor (⟨"java/lang/Math", "max", "(II)I"⟩ : MethodName) = true := by decide +kernel
set_option maxRecDepth 65536 in
set_option maxHeartbeats 40000000 in
theorem own_rm2 (l : Launch) (Z : State) (a0 : Array Value) (hw : ∀ d ∈ tables_1, d.before a0 Z = true) (n0 : Nat) (hO : Heap) (x : Int32) (y : Int32) :
    MeetsW l Z n0 (⟨"java/lang/Math", "max", "(II)I"⟩ : MethodName) jdk_29_method_65_code 2 (some .int) ({ frames := 0, cells := 0, slots := 0, locals := 0 } : Room) #[(.int x), (.int y)] hO (RI fun r h => r = (if x < y then y else x) ∧ h = hO) := by
  refine MeetsW.intro pn_java_lang_Math_max__II_I (fun m => ef_own_rm2 m x y) ?_
  intro W C
  replace C : Ru l Z "java/lang/Math" jdk_29_method_65_code 2 (some .int) "max" ({ frames := 0, cells := 0, slots := 0, locals := 0 } : Room) n0 (RI fun r h => r = (if x < y then y else x) ∧ h = hO) W := C
  refine C.iloadN (pc' := 1) od2_0 rfl rfl ?_
  refine C.iloadN (pc' := 2) od2_1 rfl rfl ?_
  refine C.icmp_lt (pc' := 5) (pt := 9) od2_2 rfl rfl (fun c2 => ?_) (fun c2 => ?_)
  · skip
    refine C.iloadN (pc' := 10) od2_9 rfl rfl ?_
    refine C.retI rfl od2_10 (by decide) (by decide) ⟨_, rfl, ?_⟩
    exact ⟨by simp [c2], rfl⟩
  · skip
    refine C.iloadN (pc' := 6) od2_5 rfl rfl ?_
    refine C.goto (pc' := 10) od2_6 rfl ?_
    refine C.retI rfl od2_10 (by decide) (by decide) ⟨_, rfl, ?_⟩
    exact ⟨by simp [c2], rfl⟩
theorem od5_0 : decode jdk_35_method_44_code 0 = .ok (.lload_n 2, 1) := by decide +kernel
theorem od5_1 : decode jdk_35_method_44_code 1 = .ok (.lconst 0, 1) := by decide +kernel
theorem od5_2 : decode jdk_35_method_44_code 2 = .ok (.lcmp, 1) := by decide +kernel
theorem od5_3 : decode jdk_35_method_44_code 3 = .ok (.ifCond .lt 38, 3) := by decide +kernel
theorem od5_41 : decode jdk_35_method_44_code 41 = .ok (.lload_n 0, 1) := by decide +kernel
theorem od5_42 : decode jdk_35_method_44_code 42 = .ok (.lload_n 0, 1) := by decide +kernel
theorem od5_43 : decode jdk_35_method_44_code 43 = .ok (.lload_n 2, 1) := by decide +kernel
theorem od5_44 : decode jdk_35_method_44_code 44 = .ok (.lsub, 1) := by decide +kernel
theorem ow29 {a0 : Array Value} {Z : State} (hw : ∀ d ∈ tables_1, d.before a0 Z = true) : (Jvm.Cond.constantLong "java/lang/Long" (306 : Nat) (-1 : Int64)).before a0 Z = true := hw _ (List.mem_of_getElem? (i := 29) rfl)
theorem od5_45 : decode jdk_35_method_44_code 45 = .ok (.ldc2_w 306, 3) := by decide +kernel
theorem od5_48 : decode jdk_35_method_44_code 48 = .ok (.lxor, 1) := by decide +kernel
theorem od5_49 : decode jdk_35_method_44_code 49 = .ok (.land, 1) := by decide +kernel
theorem od5_50 : decode jdk_35_method_44_code 50 = .ok (.bipush 63, 2) := by decide +kernel
theorem od5_52 : decode jdk_35_method_44_code 52 = .ok (.lushr, 1) := by decide +kernel
theorem od5_53 : decode jdk_35_method_44_code 53 = .ok (.lreturn, 1) := by decide +kernel
theorem od5_6 : decode jdk_35_method_44_code 6 = .ok (.lload_n 0, 1) := by decide +kernel
theorem od5_7 : decode jdk_35_method_44_code 7 = .ok (.iconst 1, 1) := by decide +kernel
theorem od5_8 : decode jdk_35_method_44_code 8 = .ok (.lushr, 1) := by decide +kernel
theorem od5_9 : decode jdk_35_method_44_code 9 = .ok (.lload_n 2, 1) := by decide +kernel
theorem od5_10 : decode jdk_35_method_44_code 10 = .ok (.ldiv, 1) := by decide +kernel
theorem od5_11 : decode jdk_35_method_44_code 11 = .ok (.iconst 1, 1) := by decide +kernel
theorem od5_12 : decode jdk_35_method_44_code 12 = .ok (.lshl, 1) := by decide +kernel
theorem od5_13 : decode jdk_35_method_44_code 13 = .ok (.lstore 4, 2) := by decide +kernel
theorem od5_15 : decode jdk_35_method_44_code 15 = .ok (.lload_n 0, 1) := by decide +kernel
theorem od5_16 : decode jdk_35_method_44_code 16 = .ok (.lload 4, 2) := by decide +kernel
theorem od5_18 : decode jdk_35_method_44_code 18 = .ok (.lload_n 2, 1) := by decide +kernel
theorem od5_19 : decode jdk_35_method_44_code 19 = .ok (.lmul, 1) := by decide +kernel
theorem od5_20 : decode jdk_35_method_44_code 20 = .ok (.lsub, 1) := by decide +kernel
theorem od5_21 : decode jdk_35_method_44_code 21 = .ok (.lstore 6, 2) := by decide +kernel
theorem od5_23 : decode jdk_35_method_44_code 23 = .ok (.lload 4, 2) := by decide +kernel
theorem od5_25 : decode jdk_35_method_44_code 25 = .ok (.lload 6, 2) := by decide +kernel
theorem od5_27 : decode jdk_35_method_44_code 27 = .ok (.lload 6, 2) := by decide +kernel
theorem od5_29 : decode jdk_35_method_44_code 29 = .ok (.lload_n 2, 1) := by decide +kernel
theorem od5_30 : decode jdk_35_method_44_code 30 = .ok (.lsub, 1) := by decide +kernel
theorem od5_31 : decode jdk_35_method_44_code 31 = .ok (.ldc2_w 306, 3) := by decide +kernel
theorem od5_34 : decode jdk_35_method_44_code 34 = .ok (.lxor, 1) := by decide +kernel
theorem od5_35 : decode jdk_35_method_44_code 35 = .ok (.lor, 1) := by decide +kernel
theorem od5_36 : decode jdk_35_method_44_code 36 = .ok (.bipush 63, 2) := by decide +kernel
theorem od5_38 : decode jdk_35_method_44_code 38 = .ok (.lushr, 1) := by decide +kernel
theorem od5_39 : decode jdk_35_method_44_code 39 = .ok (.ladd, 1) := by decide +kernel
theorem od5_40 : decode jdk_35_method_44_code 40 = .ok (.lreturn, 1) := by decide +kernel
theorem ef_own_rm5 (m : MethodId) (x0 : Int64) (x1 : Int64) : entryFrame m #[(.long x0), (.long x1)] 8 = mkF m 0 #[.val (.long x0), .second, .val (.long x1), .second, .unset, .unset, .unset, .unset] [] := by first | (simp [entryFrame, mkF, argsToLocals, Value.category]; done) | rfl
theorem pn_java_lang_Long_divideUnsigned__JJ_J : plainFor (⟨"java/lang/Long", "divideUnsigned", "(JJ)J"⟩ : MethodName) = true := plainFor_of_name (by first | (simp [plainName, overriddenIn]; done) | decide +kernel)
set_option maxRecDepth 65536 in
set_option maxHeartbeats 40000000 in
theorem own_rm5 (l : Launch) (Z : State) (a0 : Array Value) (hw : ∀ d ∈ tables_1, d.before a0 Z = true) (n0 : Nat) (hO : Heap) (x : Int64) (y : Int64) (hy : y ≠ 0) :
    MeetsW l Z n0 (⟨"java/lang/Long", "divideUnsigned", "(JJ)J"⟩ : MethodName) jdk_35_method_44_code 8 (some .long) ({ frames := 0, cells := 0, slots := 0, locals := 0 } : Room) #[(.long x), (.long y)] hO (RJ fun r h => toN r = toN x / toN y ∧ h = hO) := by
  refine MeetsW.intro pn_java_lang_Long_divideUnsigned__JJ_J (fun m => ef_own_rm5 m x y) ?_
  intro W C
  replace C : Ru l Z "java/lang/Long" jdk_35_method_44_code 8 (some .long) "divideUnsigned" ({ frames := 0, cells := 0, slots := 0, locals := 0 } : Room) n0 (RJ fun r h => toN r = toN x / toN y ∧ h = hO) W := C
  refine C.lloadN (pc' := 1) od5_0 rfl rfl ?_
  refine C.lconst (v := 0) (pc' := 2) od5_1 rfl rfl ?_
  refine C.lif_lt (pc' := 6) (pt := 41) od5_2 rfl od5_3 rfl rfl (fun c2 => ?_) (fun c2 => ?_)
  · skip
    refine C.lloadN (pc' := 42) od5_41 rfl rfl ?_
    refine C.lloadN (pc' := 43) od5_42 rfl rfl ?_
    refine C.lloadN (pc' := 44) od5_43 rfl rfl ?_
    refine C.lsub (pc' := 45) od5_44 rfl ?_
    refine C.ldcJ (ow29 hw) (pc' := 48) od5_45 rfl ?_
    refine C.lxor (pc' := 49) od5_48 rfl ?_
    refine C.land (pc' := 50) od5_49 rfl ?_
    refine C.bipush (v := 63) (pc' := 52) od5_50 rfl rfl ?_
    refine C.lushr (s := 63) (pc' := 53) od5_52 rfl (by decide) ?_
    refine C.retJ rfl od5_53 (by decide) (by decide) ⟨_, rfl, ?_⟩
    exact ⟨div_neg c2, rfl⟩
  · skip
    refine C.lloadN (pc' := 7) od5_6 rfl rfl ?_
    refine C.iconst (v := 1) (pc' := 8) od5_7 rfl rfl ?_
    refine C.lushr (s := 1) (pc' := 9) od5_8 rfl (by decide) ?_
    refine C.lloadN (pc' := 10) od5_9 rfl rfl ?_
    refine C.ldiv (pc' := 11) od5_10 rfl hy ?_
    refine C.iconst (v := 1) (pc' := 12) od5_11 rfl rfl ?_
    refine C.lshl (s := 1) (pc' := 13) od5_12 rfl (by decide) ?_
    refine C.lstore (f := fun v_ => #[.val (.long x), .second, .val (.long y), .second, .val (.long v_), .second, .unset, .unset]) (pc' := 15) od5_13 rfl (fun _ => rfl) (fun v13 e13 => ?_)
    refine C.lloadN (pc' := 16) od5_15 rfl rfl ?_
    refine C.lload (pc' := 18) od5_16 rfl rfl ?_
    refine C.lloadN (pc' := 19) od5_18 rfl rfl ?_
    refine C.lmul (pc' := 20) od5_19 rfl ?_
    refine C.lsub (pc' := 21) od5_20 rfl ?_
    refine C.lstore (f := fun v_ => #[.val (.long x), .second, .val (.long y), .second, .val (.long v13), .second, .val (.long v_), .second]) (pc' := 23) od5_21 rfl (fun _ => rfl) (fun v21 e21 => ?_)
    refine C.lload (pc' := 25) od5_23 rfl rfl ?_
    refine C.lload (pc' := 27) od5_25 rfl rfl ?_
    refine C.lload (pc' := 29) od5_27 rfl rfl ?_
    refine C.lloadN (pc' := 30) od5_29 rfl rfl ?_
    refine C.lsub (pc' := 31) od5_30 rfl ?_
    refine C.ldcJ (ow29 hw) (pc' := 34) od5_31 rfl ?_
    refine C.lxor (pc' := 35) od5_34 rfl ?_
    refine C.lor (pc' := 36) od5_35 rfl ?_
    refine C.bipush (v := 63) (pc' := 38) od5_36 rfl rfl ?_
    refine C.lushr (s := 63) (pc' := 39) od5_38 rfl (by decide) ?_
    refine C.ladd (pc' := 40) od5_39 rfl ?_
    refine C.retJ rfl od5_40 (by decide) (by decide) ⟨_, rfl, ?_⟩
    exact ⟨div_pos hy c2 e13 e21, rfl⟩
theorem od10_0 : decode jdk_35_method_45_code 0 = .ok (.lload_n 2, 1) := by decide +kernel
theorem od10_1 : decode jdk_35_method_45_code 1 = .ok (.lconst 0, 1) := by decide +kernel
theorem od10_2 : decode jdk_35_method_45_code 2 = .ok (.lcmp, 1) := by decide +kernel
theorem od10_3 : decode jdk_35_method_45_code 3 = .ok (.ifCond .lt 37, 3) := by decide +kernel
theorem od10_40 : decode jdk_35_method_45_code 40 = .ok (.lload_n 0, 1) := by decide +kernel
theorem od10_41 : decode jdk_35_method_45_code 41 = .ok (.lload_n 0, 1) := by decide +kernel
theorem od10_42 : decode jdk_35_method_45_code 42 = .ok (.lload_n 0, 1) := by decide +kernel
theorem od10_43 : decode jdk_35_method_45_code 43 = .ok (.lload_n 2, 1) := by decide +kernel
theorem od10_44 : decode jdk_35_method_45_code 44 = .ok (.lsub, 1) := by decide +kernel
theorem od10_45 : decode jdk_35_method_45_code 45 = .ok (.ldc2_w 306, 3) := by decide +kernel
theorem od10_48 : decode jdk_35_method_45_code 48 = .ok (.lxor, 1) := by decide +kernel
theorem od10_49 : decode jdk_35_method_45_code 49 = .ok (.land, 1) := by decide +kernel
theorem od10_50 : decode jdk_35_method_45_code 50 = .ok (.bipush 63, 2) := by decide +kernel
theorem od10_52 : decode jdk_35_method_45_code 52 = .ok (.lshr, 1) := by decide +kernel
theorem od10_53 : decode jdk_35_method_45_code 53 = .ok (.lload_n 2, 1) := by decide +kernel
theorem od10_54 : decode jdk_35_method_45_code 54 = .ok (.land, 1) := by decide +kernel
theorem od10_55 : decode jdk_35_method_45_code 55 = .ok (.lsub, 1) := by decide +kernel
theorem od10_56 : decode jdk_35_method_45_code 56 = .ok (.lreturn, 1) := by decide +kernel
theorem od10_6 : decode jdk_35_method_45_code 6 = .ok (.lload_n 0, 1) := by decide +kernel
theorem od10_7 : decode jdk_35_method_45_code 7 = .ok (.iconst 1, 1) := by decide +kernel
theorem od10_8 : decode jdk_35_method_45_code 8 = .ok (.lushr, 1) := by decide +kernel
theorem od10_9 : decode jdk_35_method_45_code 9 = .ok (.lload_n 2, 1) := by decide +kernel
theorem od10_10 : decode jdk_35_method_45_code 10 = .ok (.ldiv, 1) := by decide +kernel
theorem od10_11 : decode jdk_35_method_45_code 11 = .ok (.iconst 1, 1) := by decide +kernel
theorem od10_12 : decode jdk_35_method_45_code 12 = .ok (.lshl, 1) := by decide +kernel
theorem od10_13 : decode jdk_35_method_45_code 13 = .ok (.lstore 4, 2) := by decide +kernel
theorem od10_15 : decode jdk_35_method_45_code 15 = .ok (.lload_n 0, 1) := by decide +kernel
theorem od10_16 : decode jdk_35_method_45_code 16 = .ok (.lload 4, 2) := by decide +kernel
theorem od10_18 : decode jdk_35_method_45_code 18 = .ok (.lload_n 2, 1) := by decide +kernel
theorem od10_19 : decode jdk_35_method_45_code 19 = .ok (.lmul, 1) := by decide +kernel
theorem od10_20 : decode jdk_35_method_45_code 20 = .ok (.lsub, 1) := by decide +kernel
theorem od10_21 : decode jdk_35_method_45_code 21 = .ok (.lstore 6, 2) := by decide +kernel
theorem od10_23 : decode jdk_35_method_45_code 23 = .ok (.lload 6, 2) := by decide +kernel
theorem od10_25 : decode jdk_35_method_45_code 25 = .ok (.lload 6, 2) := by decide +kernel
theorem od10_27 : decode jdk_35_method_45_code 27 = .ok (.lload_n 2, 1) := by decide +kernel
theorem od10_28 : decode jdk_35_method_45_code 28 = .ok (.lsub, 1) := by decide +kernel
theorem od10_29 : decode jdk_35_method_45_code 29 = .ok (.ldc2_w 306, 3) := by decide +kernel
theorem od10_32 : decode jdk_35_method_45_code 32 = .ok (.lxor, 1) := by decide +kernel
theorem od10_33 : decode jdk_35_method_45_code 33 = .ok (.bipush 63, 2) := by decide +kernel
theorem od10_35 : decode jdk_35_method_45_code 35 = .ok (.lshr, 1) := by decide +kernel
theorem od10_36 : decode jdk_35_method_45_code 36 = .ok (.lload_n 2, 1) := by decide +kernel
theorem od10_37 : decode jdk_35_method_45_code 37 = .ok (.land, 1) := by decide +kernel
theorem od10_38 : decode jdk_35_method_45_code 38 = .ok (.lsub, 1) := by decide +kernel
theorem od10_39 : decode jdk_35_method_45_code 39 = .ok (.lreturn, 1) := by decide +kernel
theorem ef_own_rm10 (m : MethodId) (x0 : Int64) (x1 : Int64) : entryFrame m #[(.long x0), (.long x1)] 8 = mkF m 0 #[.val (.long x0), .second, .val (.long x1), .second, .unset, .unset, .unset, .unset] [] := by first | (simp [entryFrame, mkF, argsToLocals, Value.category]; done) | rfl
theorem pn_java_lang_Long_remainderUnsigned__JJ_J : plainFor (⟨"java/lang/Long", "remainderUnsigned", "(JJ)J"⟩ : MethodName) = true := plainFor_of_name (by first | (simp [plainName, overriddenIn]; done) | decide +kernel)
set_option maxRecDepth 65536 in
set_option maxHeartbeats 40000000 in
theorem own_rm10 (l : Launch) (Z : State) (a0 : Array Value) (hw : ∀ d ∈ tables_1, d.before a0 Z = true) (n0 : Nat) (hO : Heap) (x : Int64) (y : Int64) (hy : y ≠ 0) :
    MeetsW l Z n0 (⟨"java/lang/Long", "remainderUnsigned", "(JJ)J"⟩ : MethodName) jdk_35_method_45_code 8 (some .long) ({ frames := 0, cells := 0, slots := 0, locals := 0 } : Room) #[(.long x), (.long y)] hO (RJ fun r h => toN r = toN x % toN y ∧ h = hO) := by
  refine MeetsW.intro pn_java_lang_Long_remainderUnsigned__JJ_J (fun m => ef_own_rm10 m x y) ?_
  intro W C
  replace C : Ru l Z "java/lang/Long" jdk_35_method_45_code 8 (some .long) "remainderUnsigned" ({ frames := 0, cells := 0, slots := 0, locals := 0 } : Room) n0 (RJ fun r h => toN r = toN x % toN y ∧ h = hO) W := C
  refine C.lloadN (pc' := 1) od10_0 rfl rfl ?_
  refine C.lconst (v := 0) (pc' := 2) od10_1 rfl rfl ?_
  refine C.lif_lt (pc' := 6) (pt := 40) od10_2 rfl od10_3 rfl rfl (fun c2 => ?_) (fun c2 => ?_)
  · skip
    refine C.lloadN (pc' := 41) od10_40 rfl rfl ?_
    refine C.lloadN (pc' := 42) od10_41 rfl rfl ?_
    refine C.lloadN (pc' := 43) od10_42 rfl rfl ?_
    refine C.lloadN (pc' := 44) od10_43 rfl rfl ?_
    refine C.lsub (pc' := 45) od10_44 rfl ?_
    refine C.ldcJ (ow29 hw) (pc' := 48) od10_45 rfl ?_
    refine C.lxor (pc' := 49) od10_48 rfl ?_
    refine C.land (pc' := 50) od10_49 rfl ?_
    refine C.bipush (v := 63) (pc' := 52) od10_50 rfl rfl ?_
    refine C.lshr (s := 63) (pc' := 53) od10_52 rfl (by decide) ?_
    refine C.lloadN (pc' := 54) od10_53 rfl rfl ?_
    refine C.land (pc' := 55) od10_54 rfl ?_
    refine C.lsub (pc' := 56) od10_55 rfl ?_
    refine C.retJ rfl od10_56 (by decide) (by decide) ⟨_, rfl, ?_⟩
    exact ⟨rem_neg c2, rfl⟩
  · skip
    refine C.lloadN (pc' := 7) od10_6 rfl rfl ?_
    refine C.iconst (v := 1) (pc' := 8) od10_7 rfl rfl ?_
    refine C.lushr (s := 1) (pc' := 9) od10_8 rfl (by decide) ?_
    refine C.lloadN (pc' := 10) od10_9 rfl rfl ?_
    refine C.ldiv (pc' := 11) od10_10 rfl hy ?_
    refine C.iconst (v := 1) (pc' := 12) od10_11 rfl rfl ?_
    refine C.lshl (s := 1) (pc' := 13) od10_12 rfl (by decide) ?_
    refine C.lstore (f := fun v_ => #[.val (.long x), .second, .val (.long y), .second, .val (.long v_), .second, .unset, .unset]) (pc' := 15) od10_13 rfl (fun _ => rfl) (fun v13 e13 => ?_)
    refine C.lloadN (pc' := 16) od10_15 rfl rfl ?_
    refine C.lload (pc' := 18) od10_16 rfl rfl ?_
    refine C.lloadN (pc' := 19) od10_18 rfl rfl ?_
    refine C.lmul (pc' := 20) od10_19 rfl ?_
    refine C.lsub (pc' := 21) od10_20 rfl ?_
    refine C.lstore (f := fun v_ => #[.val (.long x), .second, .val (.long y), .second, .val (.long v13), .second, .val (.long v_), .second]) (pc' := 23) od10_21 rfl (fun _ => rfl) (fun v21 e21 => ?_)
    refine C.lload (pc' := 25) od10_23 rfl rfl ?_
    refine C.lload (pc' := 27) od10_25 rfl rfl ?_
    refine C.lloadN (pc' := 28) od10_27 rfl rfl ?_
    refine C.lsub (pc' := 29) od10_28 rfl ?_
    refine C.ldcJ (ow29 hw) (pc' := 32) od10_29 rfl ?_
    refine C.lxor (pc' := 33) od10_32 rfl ?_
    refine C.bipush (v := 63) (pc' := 35) od10_33 rfl rfl ?_
    refine C.lshr (s := 63) (pc' := 36) od10_35 rfl (by decide) ?_
    refine C.lloadN (pc' := 37) od10_36 rfl rfl ?_
    refine C.land (pc' := 38) od10_37 rfl ?_
    refine C.lsub (pc' := 39) od10_38 rfl ?_
    refine C.retJ rfl od10_39 (by decide) (by decide) ⟨_, rfl, ?_⟩
    exact ⟨rem_pos hy c2 e13 e21, rfl⟩
theorem od3_0 : decode prog_5_method_1_code 0 = .ok (.aload_n 0, 1) := by decide +kernel
theorem od3_1 : decode prog_5_method_1_code 1 = .ok (.invokespecial 1, 3) := by decide +kernel
theorem ow15 {a0 : Array Value} {Z : State} (hw : ∀ d ∈ tables_1, d.before a0 Z = true) : (Jvm.Cond.methodLink "com/example/elapse/elapse/WheelGeometry" (1 : Nat) ({ cls := "java/lang/Object", name := "<init>", desc := "()V" } : Jvm.MethodName)).before a0 Z = true := hw _ (List.mem_of_getElem? (i := 15) rfl)
theorem ow16 {a0 : Array Value} {Z : State} (hw : ∀ d ∈ tables_1, d.before a0 Z = true) : (Jvm.Cond.instanceMethod ({ cls := "java/lang/Object", name := "<init>", desc := "()V" } : Jvm.MethodName)).before a0 Z = true := hw _ (List.mem_of_getElem? (i := 16) rfl)
theorem ow17 {a0 : Array Value} {Z : State} (hw : ∀ d ∈ tables_1, d.before a0 Z = true) : (Jvm.Cond.code ({ cls := "java/lang/Object", name := "<init>", desc := "()V" } : Jvm.MethodName) object_method_1_code (1 : Nat) (Option.none : Option Jvm.ClassFile.FieldType)).before a0 Z = true := hw _ (List.mem_of_getElem? (i := 17) rfl)
theorem od3_4 : decode prog_5_method_1_code 4 = .ok (.lload_n 3, 1) := by decide +kernel
theorem od3_5 : decode prog_5_method_1_code 5 = .ok (.lconst 1, 1) := by decide +kernel
theorem od3_6 : decode prog_5_method_1_code 6 = .ok (.lcmp, 1) := by decide +kernel
theorem od3_7 : decode prog_5_method_1_code 7 = .ok (.ifCond .ge 17, 3) := by decide +kernel
theorem od3_24 : decode prog_5_method_1_code 24 = .ok (.iload 5, 2) := by decide +kernel
theorem od3_26 : decode prog_5_method_1_code 26 = .ok (.iconst 2, 1) := by decide +kernel
theorem od3_27 : decode prog_5_method_1_code 27 = .ok (.if_icmp .ge 18, 3) := by decide +kernel
theorem od3_45 : decode prog_5_method_1_code 45 = .ok (.aload_n 0, 1) := by decide +kernel
theorem od3_46 : decode prog_5_method_1_code 46 = .ok (.lload_n 1, 1) := by decide +kernel
theorem ow19 {a0 : Array Value} {Z : State} (hw : ∀ d ∈ tables_1, d.before a0 Z = true) : (Jvm.Cond.laysFinal "com/example/elapse/elapse/WheelGeometry" "com/example/elapse/elapse/WheelGeometry" "origin" "J").before a0 Z = true := hw _ (List.mem_of_getElem? (i := 19) rfl)
theorem ow18 {a0 : Array Value} {Z : State} (hw : ∀ d ∈ tables_1, d.before a0 Z = true) : (Jvm.Cond.fieldLink "com/example/elapse/elapse/WheelGeometry" (19 : Nat) "com/example/elapse/elapse/WheelGeometry" "origin" "J").before a0 Z = true := hw _ (List.mem_of_getElem? (i := 18) rfl)
theorem ow10 {a0 : Array Value} {Z : State} (hw : ∀ d ∈ tables_1, d.before a0 Z = true) : (Jvm.Cond.instantiable "com/example/elapse/elapse/WheelGeometry" (5 : Nat)).before a0 Z = true := hw _ (List.mem_of_getElem? (i := 10) rfl)
theorem pf_J : parseFieldDescriptor "J" = some .long := by decide
theorem od3_47 : decode prog_5_method_1_code 47 = .ok (.putfield 19, 3) := by decide +kernel
theorem ow21 {a0 : Array Value} {Z : State} (hw : ∀ d ∈ tables_1, d.before a0 Z = true) : (Jvm.Cond.laysFinal "com/example/elapse/elapse/WheelGeometry" "com/example/elapse/elapse/WheelGeometry" "tick" "J").before a0 Z = true := hw _ (List.mem_of_getElem? (i := 21) rfl)
theorem sne_21_19 {a0 : Array Value} {Z : State} (hw : ∀ d ∈ tables_1, d.before a0 Z = true) : Jvm.RoadKit.slotOf Z "com/example/elapse/elapse/WheelGeometry" "tick" "J" ≠ Jvm.RoadKit.slotOf Z "com/example/elapse/elapse/WheelGeometry" "origin" "J" := slot_ne (C := "com/example/elapse/elapse/WheelGeometry") (a0 := a0) (Or.inr (ow21 hw)) (Or.inr (ow19 hw)) (by decide) pf_J pf_J
theorem ow23 {a0 : Array Value} {Z : State} (hw : ∀ d ∈ tables_1, d.before a0 Z = true) : (Jvm.Cond.laysFinal "com/example/elapse/elapse/WheelGeometry" "com/example/elapse/elapse/WheelGeometry" "slots" "I").before a0 Z = true := hw _ (List.mem_of_getElem? (i := 23) rfl)
theorem pf_I : parseFieldDescriptor "I" = some .int := by decide
theorem sne_23_19 {a0 : Array Value} {Z : State} (hw : ∀ d ∈ tables_1, d.before a0 Z = true) : Jvm.RoadKit.slotOf Z "com/example/elapse/elapse/WheelGeometry" "slots" "I" ≠ Jvm.RoadKit.slotOf Z "com/example/elapse/elapse/WheelGeometry" "origin" "J" := slot_ne (C := "com/example/elapse/elapse/WheelGeometry") (a0 := a0) (Or.inr (ow23 hw)) (Or.inr (ow19 hw)) (by decide) pf_I pf_J
theorem ow31 {a0 : Array Value} {Z : State} (hw : ∀ d ∈ tables_1, d.before a0 Z = true) : (Jvm.Cond.laysFinal "com/example/elapse/elapse/WheelGeometry" "com/example/elapse/elapse/WheelGeometry" "maxTick" "J").before a0 Z = true := hw _ (List.mem_of_getElem? (i := 31) rfl)
theorem sne_31_19 {a0 : Array Value} {Z : State} (hw : ∀ d ∈ tables_1, d.before a0 Z = true) : Jvm.RoadKit.slotOf Z "com/example/elapse/elapse/WheelGeometry" "maxTick" "J" ≠ Jvm.RoadKit.slotOf Z "com/example/elapse/elapse/WheelGeometry" "origin" "J" := slot_ne (C := "com/example/elapse/elapse/WheelGeometry") (a0 := a0) (Or.inr (ow31 hw)) (Or.inr (ow19 hw)) (by decide) pf_J pf_J
theorem ow34 {a0 : Array Value} {Z : State} (hw : ∀ d ∈ tables_1, d.before a0 Z = true) : (Jvm.Cond.laysFinal "com/example/elapse/elapse/WheelGeometry" "com/example/elapse/elapse/WheelGeometry" "spans" "[J").before a0 Z = true := hw _ (List.mem_of_getElem? (i := 34) rfl)
theorem pf__J : parseFieldDescriptor "[J" = some (.array .long) := by decide
theorem sne_34_19 {a0 : Array Value} {Z : State} (hw : ∀ d ∈ tables_1, d.before a0 Z = true) : Jvm.RoadKit.slotOf Z "com/example/elapse/elapse/WheelGeometry" "spans" "[J" ≠ Jvm.RoadKit.slotOf Z "com/example/elapse/elapse/WheelGeometry" "origin" "J" := slot_ne (C := "com/example/elapse/elapse/WheelGeometry") (a0 := a0) (Or.inr (ow34 hw)) (Or.inr (ow19 hw)) (by decide) pf__J pf_J
theorem od3_50 : decode prog_5_method_1_code 50 = .ok (.aload_n 0, 1) := by decide +kernel
theorem od3_51 : decode prog_5_method_1_code 51 = .ok (.lload_n 3, 1) := by decide +kernel
theorem ow20 {a0 : Array Value} {Z : State} (hw : ∀ d ∈ tables_1, d.before a0 Z = true) : (Jvm.Cond.fieldLink "com/example/elapse/elapse/WheelGeometry" (25 : Nat) "com/example/elapse/elapse/WheelGeometry" "tick" "J").before a0 Z = true := hw _ (List.mem_of_getElem? (i := 20) rfl)
theorem od3_52 : decode prog_5_method_1_code 52 = .ok (.putfield 25, 3) := by decide +kernel
theorem sne_23_21 {a0 : Array Value} {Z : State} (hw : ∀ d ∈ tables_1, d.before a0 Z = true) : Jvm.RoadKit.slotOf Z "com/example/elapse/elapse/WheelGeometry" "slots" "I" ≠ Jvm.RoadKit.slotOf Z "com/example/elapse/elapse/WheelGeometry" "tick" "J" := slot_ne (C := "com/example/elapse/elapse/WheelGeometry") (a0 := a0) (Or.inr (ow23 hw)) (Or.inr (ow21 hw)) (by decide) pf_I pf_J
theorem sne_31_21 {a0 : Array Value} {Z : State} (hw : ∀ d ∈ tables_1, d.before a0 Z = true) : Jvm.RoadKit.slotOf Z "com/example/elapse/elapse/WheelGeometry" "maxTick" "J" ≠ Jvm.RoadKit.slotOf Z "com/example/elapse/elapse/WheelGeometry" "tick" "J" := slot_ne (C := "com/example/elapse/elapse/WheelGeometry") (a0 := a0) (Or.inr (ow31 hw)) (Or.inr (ow21 hw)) (by decide) pf_J pf_J
theorem sne_34_21 {a0 : Array Value} {Z : State} (hw : ∀ d ∈ tables_1, d.before a0 Z = true) : Jvm.RoadKit.slotOf Z "com/example/elapse/elapse/WheelGeometry" "spans" "[J" ≠ Jvm.RoadKit.slotOf Z "com/example/elapse/elapse/WheelGeometry" "tick" "J" := slot_ne (C := "com/example/elapse/elapse/WheelGeometry") (a0 := a0) (Or.inr (ow34 hw)) (Or.inr (ow21 hw)) (by decide) pf__J pf_J
theorem sne_19_21 {a0 : Array Value} {Z : State} (hw : ∀ d ∈ tables_1, d.before a0 Z = true) : Jvm.RoadKit.slotOf Z "com/example/elapse/elapse/WheelGeometry" "origin" "J" ≠ Jvm.RoadKit.slotOf Z "com/example/elapse/elapse/WheelGeometry" "tick" "J" := slot_ne (C := "com/example/elapse/elapse/WheelGeometry") (a0 := a0) (Or.inr (ow19 hw)) (Or.inr (ow21 hw)) (by decide) pf_J pf_J
theorem od3_55 : decode prog_5_method_1_code 55 = .ok (.aload_n 0, 1) := by decide +kernel
theorem od3_56 : decode prog_5_method_1_code 56 = .ok (.iload 5, 2) := by decide +kernel
theorem ow22 {a0 : Array Value} {Z : State} (hw : ∀ d ∈ tables_1, d.before a0 Z = true) : (Jvm.Cond.fieldLink "com/example/elapse/elapse/WheelGeometry" (28 : Nat) "com/example/elapse/elapse/WheelGeometry" "slots" "I").before a0 Z = true := hw _ (List.mem_of_getElem? (i := 22) rfl)
theorem od3_58 : decode prog_5_method_1_code 58 = .ok (.putfield 28, 3) := by decide +kernel
theorem sne_31_23 {a0 : Array Value} {Z : State} (hw : ∀ d ∈ tables_1, d.before a0 Z = true) : Jvm.RoadKit.slotOf Z "com/example/elapse/elapse/WheelGeometry" "maxTick" "J" ≠ Jvm.RoadKit.slotOf Z "com/example/elapse/elapse/WheelGeometry" "slots" "I" := slot_ne (C := "com/example/elapse/elapse/WheelGeometry") (a0 := a0) (Or.inr (ow31 hw)) (Or.inr (ow23 hw)) (by decide) pf_J pf_I
theorem sne_34_23 {a0 : Array Value} {Z : State} (hw : ∀ d ∈ tables_1, d.before a0 Z = true) : Jvm.RoadKit.slotOf Z "com/example/elapse/elapse/WheelGeometry" "spans" "[J" ≠ Jvm.RoadKit.slotOf Z "com/example/elapse/elapse/WheelGeometry" "slots" "I" := slot_ne (C := "com/example/elapse/elapse/WheelGeometry") (a0 := a0) (Or.inr (ow34 hw)) (Or.inr (ow23 hw)) (by decide) pf__J pf_I
theorem sne_19_23 {a0 : Array Value} {Z : State} (hw : ∀ d ∈ tables_1, d.before a0 Z = true) : Jvm.RoadKit.slotOf Z "com/example/elapse/elapse/WheelGeometry" "origin" "J" ≠ Jvm.RoadKit.slotOf Z "com/example/elapse/elapse/WheelGeometry" "slots" "I" := slot_ne (C := "com/example/elapse/elapse/WheelGeometry") (a0 := a0) (Or.inr (ow19 hw)) (Or.inr (ow23 hw)) (by decide) pf_J pf_I
theorem sne_21_23 {a0 : Array Value} {Z : State} (hw : ∀ d ∈ tables_1, d.before a0 Z = true) : Jvm.RoadKit.slotOf Z "com/example/elapse/elapse/WheelGeometry" "tick" "J" ≠ Jvm.RoadKit.slotOf Z "com/example/elapse/elapse/WheelGeometry" "slots" "I" := slot_ne (C := "com/example/elapse/elapse/WheelGeometry") (a0 := a0) (Or.inr (ow21 hw)) (Or.inr (ow23 hw)) (by decide) pf_J pf_I
theorem od3_61 : decode prog_5_method_1_code 61 = .ok (.aload_n 0, 1) := by decide +kernel
theorem ow24 {a0 : Array Value} {Z : State} (hw : ∀ d ∈ tables_1, d.before a0 Z = true) : (Jvm.Cond.constantLong "com/example/elapse/elapse/WheelGeometry" (34 : Nat) (9223372036854775807 : Int64)).before a0 Z = true := hw _ (List.mem_of_getElem? (i := 24) rfl)
theorem od3_62 : decode prog_5_method_1_code 62 = .ok (.ldc2_w 34, 3) := by decide +kernel
theorem od3_65 : decode prog_5_method_1_code 65 = .ok (.lload_n 1, 1) := by decide +kernel
theorem od3_66 : decode prog_5_method_1_code 66 = .ok (.lsub, 1) := by decide +kernel
theorem od3_67 : decode prog_5_method_1_code 67 = .ok (.lload_n 3, 1) := by decide +kernel
theorem od3_68 : decode prog_5_method_1_code 68 = .ok (.invokestatic 36, 3) := by decide +kernel
theorem pd__JJ_J : parseMethodDescriptor "(JJ)J" = some ⟨[.long, .long], some .long⟩ := by decide +kernel
theorem ow28 {a0 : Array Value} {Z : State} (hw : ∀ d ∈ tables_1, d.before a0 Z = true) : (Jvm.Cond.code ({ cls := "java/lang/Long", name := "divideUnsigned", desc := "(JJ)J" } : Jvm.MethodName) jdk_35_method_44_code (8 : Nat) (Option.some Jvm.ClassFile.FieldType.long)).before a0 Z = true := hw _ (List.mem_of_getElem? (i := 28) rfl)
theorem ow27 {a0 : Array Value} {Z : State} (hw : ∀ d ∈ tables_1, d.before a0 Z = true) : (Jvm.Cond.initialized "java/lang/Long").before a0 Z = true := hw _ (List.mem_of_getElem? (i := 27) rfl)
theorem ow25 {a0 : Array Value} {Z : State} (hw : ∀ d ∈ tables_1, d.before a0 Z = true) : (Jvm.Cond.methodLink "com/example/elapse/elapse/WheelGeometry" (36 : Nat) ({ cls := "java/lang/Long", name := "divideUnsigned", desc := "(JJ)J" } : Jvm.MethodName)).before a0 Z = true := hw _ (List.mem_of_getElem? (i := 25) rfl)
theorem ow26 {a0 : Array Value} {Z : State} (hw : ∀ d ∈ tables_1, d.before a0 Z = true) : (Jvm.Cond.static ({ cls := "java/lang/Long", name := "divideUnsigned", desc := "(JJ)J" } : Jvm.MethodName)).before a0 Z = true := hw _ (List.mem_of_getElem? (i := 26) rfl)
theorem ow30 {a0 : Array Value} {Z : State} (hw : ∀ d ∈ tables_1, d.before a0 Z = true) : (Jvm.Cond.fieldLink "com/example/elapse/elapse/WheelGeometry" (40 : Nat) "com/example/elapse/elapse/WheelGeometry" "maxTick" "J").before a0 Z = true := hw _ (List.mem_of_getElem? (i := 30) rfl)
theorem od3_71 : decode prog_5_method_1_code 71 = .ok (.putfield 40, 3) := by decide +kernel
theorem sne_34_31 {a0 : Array Value} {Z : State} (hw : ∀ d ∈ tables_1, d.before a0 Z = true) : Jvm.RoadKit.slotOf Z "com/example/elapse/elapse/WheelGeometry" "spans" "[J" ≠ Jvm.RoadKit.slotOf Z "com/example/elapse/elapse/WheelGeometry" "maxTick" "J" := slot_ne (C := "com/example/elapse/elapse/WheelGeometry") (a0 := a0) (Or.inr (ow34 hw)) (Or.inr (ow31 hw)) (by decide) pf__J pf_J
theorem sne_19_31 {a0 : Array Value} {Z : State} (hw : ∀ d ∈ tables_1, d.before a0 Z = true) : Jvm.RoadKit.slotOf Z "com/example/elapse/elapse/WheelGeometry" "origin" "J" ≠ Jvm.RoadKit.slotOf Z "com/example/elapse/elapse/WheelGeometry" "maxTick" "J" := slot_ne (C := "com/example/elapse/elapse/WheelGeometry") (a0 := a0) (Or.inr (ow19 hw)) (Or.inr (ow31 hw)) (by decide) pf_J pf_J
theorem sne_21_31 {a0 : Array Value} {Z : State} (hw : ∀ d ∈ tables_1, d.before a0 Z = true) : Jvm.RoadKit.slotOf Z "com/example/elapse/elapse/WheelGeometry" "tick" "J" ≠ Jvm.RoadKit.slotOf Z "com/example/elapse/elapse/WheelGeometry" "maxTick" "J" := slot_ne (C := "com/example/elapse/elapse/WheelGeometry") (a0 := a0) (Or.inr (ow21 hw)) (Or.inr (ow31 hw)) (by decide) pf_J pf_J
theorem sne_23_31 {a0 : Array Value} {Z : State} (hw : ∀ d ∈ tables_1, d.before a0 Z = true) : Jvm.RoadKit.slotOf Z "com/example/elapse/elapse/WheelGeometry" "slots" "I" ≠ Jvm.RoadKit.slotOf Z "com/example/elapse/elapse/WheelGeometry" "maxTick" "J" := slot_ne (C := "com/example/elapse/elapse/WheelGeometry") (a0 := a0) (Or.inr (ow23 hw)) (Or.inr (ow31 hw)) (by decide) pf_I pf_J
theorem od3_74 : decode prog_5_method_1_code 74 = .ok (.iconst 1, 1) := by decide +kernel
theorem od3_75 : decode prog_5_method_1_code 75 = .ok (.istore 6, 2) := by decide +kernel
theorem od3_77 : decode prog_5_method_1_code 77 = .ok (.aload_n 0, 1) := by decide +kernel
theorem od3_78 : decode prog_5_method_1_code 78 = .ok (.getfield 40, 3) := by decide +kernel
theorem od3_81 : decode prog_5_method_1_code 81 = .ok (.iload 5, 2) := by decide +kernel
theorem od3_83 : decode prog_5_method_1_code 83 = .ok (.i2l, 1) := by decide +kernel
theorem od3_84 : decode prog_5_method_1_code 84 = .ok (.invokestatic 36, 3) := by decide +kernel
theorem od3_87 : decode prog_5_method_1_code 87 = .ok (.lstore 7, 2) := by decide +kernel
theorem od3_89 : decode prog_5_method_1_code 89 = .ok (.lload 7, 2) := by decide +kernel
theorem od3_91 : decode prog_5_method_1_code 91 = .ok (.lconst 0, 1) := by decide +kernel
theorem od3_92 : decode prog_5_method_1_code 92 = .ok (.lcmp, 1) := by decide +kernel
theorem od3_93 : decode prog_5_method_1_code 93 = .ok (.ifCond .eq 19, 3) := by decide +kernel
theorem od3_112 : decode prog_5_method_1_code 112 = .ok (.aload_n 0, 1) := by decide +kernel
theorem od3_113 : decode prog_5_method_1_code 113 = .ok (.iload 6, 2) := by decide +kernel
theorem ow32 {a0 : Array Value} {Z : State} (hw : ∀ d ∈ tables_1, d.before a0 Z = true) : (Jvm.Cond.arrayClass Jvm.ClassFile.FieldType.long).before a0 Z = true := hw _ (List.mem_of_getElem? (i := 32) rfl)
theorem od3_115 : decode prog_5_method_1_code 115 = .ok (.newarray .long, 2) := by decide +kernel
theorem ow33 {a0 : Array Value} {Z : State} (hw : ∀ d ∈ tables_1, d.before a0 Z = true) : (Jvm.Cond.fieldLink "com/example/elapse/elapse/WheelGeometry" (43 : Nat) "com/example/elapse/elapse/WheelGeometry" "spans" "[J").before a0 Z = true := hw _ (List.mem_of_getElem? (i := 33) rfl)
theorem od3_117 : decode prog_5_method_1_code 117 = .ok (.putfield 43, 3) := by decide +kernel
theorem sne_19_34 {a0 : Array Value} {Z : State} (hw : ∀ d ∈ tables_1, d.before a0 Z = true) : Jvm.RoadKit.slotOf Z "com/example/elapse/elapse/WheelGeometry" "origin" "J" ≠ Jvm.RoadKit.slotOf Z "com/example/elapse/elapse/WheelGeometry" "spans" "[J" := slot_ne (C := "com/example/elapse/elapse/WheelGeometry") (a0 := a0) (Or.inr (ow19 hw)) (Or.inr (ow34 hw)) (by decide) pf_J pf__J
theorem sne_21_34 {a0 : Array Value} {Z : State} (hw : ∀ d ∈ tables_1, d.before a0 Z = true) : Jvm.RoadKit.slotOf Z "com/example/elapse/elapse/WheelGeometry" "tick" "J" ≠ Jvm.RoadKit.slotOf Z "com/example/elapse/elapse/WheelGeometry" "spans" "[J" := slot_ne (C := "com/example/elapse/elapse/WheelGeometry") (a0 := a0) (Or.inr (ow21 hw)) (Or.inr (ow34 hw)) (by decide) pf_J pf__J
theorem sne_23_34 {a0 : Array Value} {Z : State} (hw : ∀ d ∈ tables_1, d.before a0 Z = true) : Jvm.RoadKit.slotOf Z "com/example/elapse/elapse/WheelGeometry" "slots" "I" ≠ Jvm.RoadKit.slotOf Z "com/example/elapse/elapse/WheelGeometry" "spans" "[J" := slot_ne (C := "com/example/elapse/elapse/WheelGeometry") (a0 := a0) (Or.inr (ow23 hw)) (Or.inr (ow34 hw)) (by decide) pf_I pf__J
theorem sne_31_34 {a0 : Array Value} {Z : State} (hw : ∀ d ∈ tables_1, d.before a0 Z = true) : Jvm.RoadKit.slotOf Z "com/example/elapse/elapse/WheelGeometry" "maxTick" "J" ≠ Jvm.RoadKit.slotOf Z "com/example/elapse/elapse/WheelGeometry" "spans" "[J" := slot_ne (C := "com/example/elapse/elapse/WheelGeometry") (a0 := a0) (Or.inr (ow31 hw)) (Or.inr (ow34 hw)) (by decide) pf_J pf__J
theorem od3_120 : decode prog_5_method_1_code 120 = .ok (.aload_n 0, 1) := by decide +kernel
theorem od3_121 : decode prog_5_method_1_code 121 = .ok (.getfield 43, 3) := by decide +kernel
theorem od3_124 : decode prog_5_method_1_code 124 = .ok (.iconst 0, 1) := by decide +kernel
theorem od3_125 : decode prog_5_method_1_code 125 = .ok (.lconst 1, 1) := by decide +kernel
theorem od3_126 : decode prog_5_method_1_code 126 = .ok (.lastore, 1) := by decide +kernel
theorem od3_127 : decode prog_5_method_1_code 127 = .ok (.iconst 1, 1) := by decide +kernel
theorem od3_128 : decode prog_5_method_1_code 128 = .ok (.istore 7, 2) := by decide +kernel
theorem od3_130 : decode prog_5_method_1_code 130 = .ok (.iload 7, 2) := by decide +kernel
theorem od3_132 : decode prog_5_method_1_code 132 = .ok (.iload 6, 2) := by decide +kernel
theorem od3_134 : decode prog_5_method_1_code 134 = .ok (.if_icmp .ge 29, 3) := by decide +kernel
theorem od3_163 : decode prog_5_method_1_code 163 = .ok (.return_, 1) := by decide +kernel
theorem od3_137 : decode prog_5_method_1_code 137 = .ok (.aload_n 0, 1) := by decide +kernel
theorem od3_138 : decode prog_5_method_1_code 138 = .ok (.getfield 43, 3) := by decide +kernel
theorem od3_141 : decode prog_5_method_1_code 141 = .ok (.iload 7, 2) := by decide +kernel
theorem od3_143 : decode prog_5_method_1_code 143 = .ok (.aload_n 0, 1) := by decide +kernel
theorem od3_144 : decode prog_5_method_1_code 144 = .ok (.getfield 43, 3) := by decide +kernel
theorem od3_147 : decode prog_5_method_1_code 147 = .ok (.iload 7, 2) := by decide +kernel
theorem od3_149 : decode prog_5_method_1_code 149 = .ok (.iconst 1, 1) := by decide +kernel
theorem od3_150 : decode prog_5_method_1_code 150 = .ok (.isub, 1) := by decide +kernel
theorem od3_151 : decode prog_5_method_1_code 151 = .ok (.laload, 1) := by decide +kernel
theorem od3_152 : decode prog_5_method_1_code 152 = .ok (.iload 5, 2) := by decide +kernel
theorem od3_154 : decode prog_5_method_1_code 154 = .ok (.i2l, 1) := by decide +kernel
theorem od3_155 : decode prog_5_method_1_code 155 = .ok (.lmul, 1) := by decide +kernel
theorem od3_156 : decode prog_5_method_1_code 156 = .ok (.lastore, 1) := by decide +kernel
theorem od3_157 : decode prog_5_method_1_code 157 = .ok (.iinc 7 1, 3) := by decide +kernel
theorem od3_160 : decode prog_5_method_1_code 160 = .ok (.goto (-30), 3) := by decide +kernel
theorem od3_96 : decode prog_5_method_1_code 96 = .ok (.iinc 6 1, 3) := by decide +kernel
theorem od3_99 : decode prog_5_method_1_code 99 = .ok (.lload 7, 2) := by decide +kernel
theorem od3_101 : decode prog_5_method_1_code 101 = .ok (.iload 5, 2) := by decide +kernel
theorem od3_103 : decode prog_5_method_1_code 103 = .ok (.i2l, 1) := by decide +kernel
theorem od3_104 : decode prog_5_method_1_code 104 = .ok (.invokestatic 36, 3) := by decide +kernel
theorem od3_107 : decode prog_5_method_1_code 107 = .ok (.lstore 7, 2) := by decide +kernel
theorem od3_109 : decode prog_5_method_1_code 109 = .ok (.goto (-20), 3) := by decide +kernel
theorem ef_own_rm3 (m : MethodId) (x0 : Addr) (x1 : Int64) (x2 : Int64) (x3 : Int32) : entryFrame m #[(.ref x0), (.long x1), (.long x2), (.int x3)] 9 = mkF m 0 #[.val (.ref x0), .val (.long x1), .second, .val (.long x2), .second, .val (.int x3), .unset, .unset, .unset] [] := by first | (simp [entryFrame, mkF, argsToLocals, Value.category]; done) | rfl
theorem pn_com_example_elapse_elapse_WheelGeometry__init___JJI_V : plainFor (⟨"com/example/elapse/elapse/WheelGeometry", "<init>", "(JJI)V"⟩ : MethodName) = true := plainFor_of_name (by first | (simp [plainName, overriddenIn]; done) | decide +kernel)
set_option maxRecDepth 65536 in
set_option maxHeartbeats 40000000 in
theorem own_rm3 (l : Launch) (Z : State) (a0 : Array Value) (hw : ∀ d ∈ tables_1, d.before a0 Z = true) (n0 : Nat) (hO : Heap) (a : Addr) (org : Int64) (tk : Int64) (sl : Int32) (Z0 : n0 ≤ hO.size) (E_a : Exa Z hO a "com/example/elapse/elapse/WheelGeometry") (F_a_origin : Fld Z hO a "com/example/elapse/elapse/WheelGeometry" "origin" "J" (.long (0 : Int64))) (F_a_tick : Fld Z hO a "com/example/elapse/elapse/WheelGeometry" "tick" "J" (.long (0 : Int64))) (F_a_slots : Fld Z hO a "com/example/elapse/elapse/WheelGeometry" "slots" "I" (.int (0 : Int32))) (F_a_maxTick : Fld Z hO a "com/example/elapse/elapse/WheelGeometry" "maxTick" "J" (.long (0 : Int64))) (F_a_spans : Fld Z hO a "com/example/elapse/elapse/WheelGeometry" "spans" "[J" .null) (g_a : n0 ≤ a) (h1 : ¬ (tk < 1)) (h2 : ¬ (sl < 2)) :
    MeetsW l Z n0 (⟨"com/example/elapse/elapse/WheelGeometry", "<init>", "(JJI)V"⟩ : MethodName) prog_5_method_1_code 9 none ({ frames := 1, cells := 1, slots := 64, locals := 20 } : Room) #[(.ref a), (.long org), (.long tk), (.int sl)] hO (RV fun h => ∃ sp : Addr, ∃ Lp : List Int64, Geo (toN sl.toInt64) (toN ((9223372036854775807 : Int64) - org) / toN tk) Lp ∧ Keep hO h [a] ∧ hO.size ≤ sp ∧ Fld Z h a "com/example/elapse/elapse/WheelGeometry" "origin" "J" (.long org) ∧ Fld Z h a "com/example/elapse/elapse/WheelGeometry" "tick" "J" (.long tk) ∧ Fld Z h a "com/example/elapse/elapse/WheelGeometry" "slots" "I" (.int sl) ∧ Fld Z h a "com/example/elapse/elapse/WheelGeometry" "spans" "[J" (.ref sp) ∧ AJ Z h sp Lp) := by
  refine MeetsW.intro pn_com_example_elapse_elapse_WheelGeometry__init___JJI_V (fun m => ef_own_rm3 m a org tk sl) ?_
  intro W C
  replace C : Ru l Z "com/example/elapse/elapse/WheelGeometry" prog_5_method_1_code 9 none "<init>" ({ frames := 1, cells := 1, slots := 64, locals := 20 } : Room) n0 (RV fun h => ∃ sp : Addr, ∃ Lp : List Int64, Geo (toN sl.toInt64) (toN ((9223372036854775807 : Int64) - org) / toN tk) Lp ∧ Keep hO h [a] ∧ hO.size ≤ sp ∧ Fld Z h a "com/example/elapse/elapse/WheelGeometry" "origin" "J" (.long org) ∧ Fld Z h a "com/example/elapse/elapse/WheelGeometry" "tick" "J" (.long tk) ∧ Fld Z h a "com/example/elapse/elapse/WheelGeometry" "slots" "I" (.int sl) ∧ Fld Z h a "com/example/elapse/elapse/WheelGeometry" "spans" "[J" (.ref sp) ∧ AJ Z h sp Lp) W := C
  have K : Keep hO hO [a] := Keep.refl _ _
  refine C.aloadN (pc' := 1) od3_0 rfl rfl rfl ?_
  refine C.initObj (w := 0) (ow15 hw) (ow16 hw) (ow17 hw) (pc' := 4) od3_1 rfl rfl (by decide) (Nat.le_of_eq rfl) (by decide) ?_
  refine C.lloadN (pc' := 5) od3_4 rfl rfl ?_
  refine C.lconst (v := 1) (pc' := 6) od3_5 rfl rfl ?_
  refine C.lif_ge (pc' := 10) (pt := 24) od3_6 rfl od3_7 rfl rfl (fun c6 => ?_) (fun c6 => absurd c6 h1)
  refine C.iload (pc' := 26) od3_24 rfl rfl ?_
  refine C.iconst (v := 2) (pc' := 27) od3_26 rfl rfl ?_
  refine C.icmp_ge (pc' := 30) (pt := 45) od3_27 rfl rfl (fun c27 => ?_) (fun c27 => absurd c27 h2)
  refine C.aloadN (pc' := 46) od3_45 rfl rfl rfl ?_
  refine C.lloadN (pc' := 47) od3_46 rfl rfl ?_
  refine C.putf (ow18 hw) Via.refl F_a_origin E_a (Or.inr ⟨(ow19 hw), rfl, rfl⟩) (ow10 hw) pf_J rfl rfl g_a (pc' := 50) od3_47 rfl (fun h47 X47 => ?_)
  replace F_a_origin := F_a_origin.same X47
  replace E_a := E_a.wr X47
  replace F_a_tick := F_a_tick.other X47 (Or.inr (sne_21_19 hw))
  replace F_a_slots := F_a_slots.other X47 (Or.inr (sne_23_19 hw))
  replace F_a_maxTick := F_a_maxTick.other X47 (Or.inr (sne_31_19 hw))
  replace F_a_spans := F_a_spans.other X47 (Or.inr (sne_34_19 hw))
  replace K := K.wr X47 (Or.inl (List.mem_of_getElem? (i := 0) rfl))
  refine C.aloadN (pc' := 51) od3_50 rfl rfl rfl ?_
  refine C.lloadN (pc' := 52) od3_51 rfl rfl ?_
  refine C.putf (ow20 hw) Via.refl F_a_tick E_a (Or.inr ⟨(ow21 hw), rfl, rfl⟩) (ow10 hw) pf_J rfl rfl g_a (pc' := 55) od3_52 rfl (fun h52 X52 => ?_)
  replace F_a_tick := F_a_tick.same X52
  replace E_a := E_a.wr X52
  replace F_a_slots := F_a_slots.other X52 (Or.inr (sne_23_21 hw))
  replace F_a_maxTick := F_a_maxTick.other X52 (Or.inr (sne_31_21 hw))
  replace F_a_spans := F_a_spans.other X52 (Or.inr (sne_34_21 hw))
  replace F_a_origin := F_a_origin.other X52 (Or.inr (sne_19_21 hw))
  replace K := K.wr X52 (Or.inl (List.mem_of_getElem? (i := 0) rfl))
  refine C.aloadN (pc' := 56) od3_55 rfl rfl rfl ?_
  refine C.iload (pc' := 58) od3_56 rfl rfl ?_
  refine C.putf (ow22 hw) Via.refl F_a_slots E_a (Or.inr ⟨(ow23 hw), rfl, rfl⟩) (ow10 hw) pf_I rfl rfl g_a (pc' := 61) od3_58 rfl (fun h58 X58 => ?_)
  replace F_a_slots := F_a_slots.same X58
  replace E_a := E_a.wr X58
  replace F_a_maxTick := F_a_maxTick.other X58 (Or.inr (sne_31_23 hw))
  replace F_a_spans := F_a_spans.other X58 (Or.inr (sne_34_23 hw))
  replace F_a_origin := F_a_origin.other X58 (Or.inr (sne_19_23 hw))
  replace F_a_tick := F_a_tick.other X58 (Or.inr (sne_21_23 hw))
  replace K := K.wr X58 (Or.inl (List.mem_of_getElem? (i := 0) rfl))
  refine C.aloadN (pc' := 62) od3_61 rfl rfl rfl ?_
  refine C.ldcJ (ow24 hw) (pc' := 65) od3_62 rfl ?_
  refine C.lloadN (pc' := 66) od3_65 rfl rfl ?_
  refine C.lsub (pc' := 67) od3_66 rfl ?_
  refine C.lloadN (pc' := 68) od3_67 rfl rfl ?_
  refine C.calls (w := 1) (own_rm5 l Z a0 hw n0 h58 ((9223372036854775807 : Int64) - org) tk (own_tk h1)) (ow25 hw) (ow26 hw) (ow27 hw) (ow28 hw) (pc' := 71) od3_68 rfl rfl rfl (by decide) pd__JJ_J rfl (by decide) (Nat.le_of_eq rfl) (by decide) (by decide) (by decide) (kJ0 fun r68 q68 => ?_)
  refine C.putf (ow30 hw) Via.refl F_a_maxTick E_a (Or.inr ⟨(ow31 hw), rfl, rfl⟩) (ow10 hw) pf_J rfl rfl g_a (pc' := 74) od3_71 rfl (fun h71 X71 => ?_)
  replace F_a_maxTick := F_a_maxTick.same X71
  replace E_a := E_a.wr X71
  replace F_a_spans := F_a_spans.other X71 (Or.inr (sne_34_31 hw))
  replace F_a_origin := F_a_origin.other X71 (Or.inr (sne_19_31 hw))
  replace F_a_tick := F_a_tick.other X71 (Or.inr (sne_21_31 hw))
  replace F_a_slots := F_a_slots.other X71 (Or.inr (sne_23_31 hw))
  replace K := K.wr X71 (Or.inl (List.mem_of_getElem? (i := 0) rfl))
  refine C.iconst (v := 1) (pc' := 75) od3_74 rfl rfl ?_
  refine C.istoreX (l' := #[.val (.ref a), .val (.long org), .second, .val (.long tk), .second, .val (.int sl), .val (.int (1 : Int32)), .unset, .unset]) (pc' := 77) od3_75 rfl rfl ?_
  refine C.aloadN (pc' := 78) od3_77 rfl rfl rfl ?_
  refine C.getf (ow30 hw) Via.refl F_a_maxTick (pc' := 81) od3_78 rfl ?_
  refine C.iload (pc' := 83) od3_81 rfl rfl ?_
  refine C.i2l (pc' := 84) od3_83 rfl ?_
  refine C.calls (w := 0) (own_rm5 l Z a0 hw n0 h71 r68 sl.toInt64 (sl_nz h2)) (ow25 hw) (ow26 hw) (ow27 hw) (ow28 hw) (pc' := 87) od3_84 rfl rfl rfl (by decide) pd__JJ_J rfl (by decide) (Nat.le_of_eq rfl) (by decide) (by decide) (by decide) (kJ0 fun r84 q84 => ?_)
  refine C.lstoreX (l' := #[.val (.ref a), .val (.long org), .second, .val (.long tk), .second, .val (.int sl), .val (.int (1 : Int32)), .val (.long r84), .second]) (pc' := 89) od3_87 rfl rfl ?_
  have lp89 : ∀ (fu : Nat) (i : Nat) (iv : Int32) (re : Int64), (i + fu = 63) → (iv.toInt = ((i + 1 : Nat) : Int)) → (toN re = (toN ((9223372036854775807 : Int64) - org) / toN tk) / toN sl.toInt64 ^ (i + 1)) → (i = 0 ∨ (toN ((9223372036854775807 : Int64) - org) / toN tk) / toN sl.toInt64 ^ i ≠ 0) → W h71 0 0 89 #[.val (.ref a), .val (.long org), .second, .val (.long tk), .second, .val (.int sl), .val (.int iv), .val (.long re), .second] [] := by
    intro fu
    induction fu using Nat.strongRecOn with
    | _ fu ih =>
      intro i iv re hf hi hre h0
      have hs2 := sl_ge h2
      have hM : (toN ((9223372036854775807 : Int64) - org) / toN tk) < 18446744073709551616 := Nat.lt_of_le_of_lt (Nat.div_le_self _ _) (toN_lt _)
      refine C.lload (pc' := 91) od3_89 rfl rfl ?_
      refine C.lconst (v := 0) (pc' := 92) od3_91 rfl rfl ?_
      refine C.lif_eq (pc' := 96) (pt := 112) od3_92 rfl od3_93 rfl rfl (fun c92 => ?_) (fun c92 => ?_)
      · skip
        refine C.aloadN (pc' := 113) od3_112 rfl rfl rfl ?_
        refine C.iload (pc' := 115) od3_113 rfl rfl ?_
        refine C.newAJ (N := (i + 1)) (cap := 64) (ow32 hw) (pc' := 117) od3_115 rfl hi (by omega) (by decide) (by decide) (by decide) (fun h115 b115 hb115 X115 A_b115 => ?_)
        have ne_a_b115 : a ≠ b115 := by rw [hb115]; exact Nat.ne_of_lt (exaLt E_a)
        have sz_b115 : hO.size ≤ b115 := by rw [hb115]; exact K.1
        have g_b115 : n0 ≤ b115 := Nat.le_trans Z0 sz_b115
        replace E_a := E_a.ext X115
        replace F_a_spans := F_a_spans.ext X115
        replace F_a_origin := F_a_origin.ext X115
        replace F_a_tick := F_a_tick.ext X115
        replace F_a_slots := F_a_slots.ext X115
        replace F_a_maxTick := F_a_maxTick.ext X115
        replace K := K.ext X115
        refine C.putf (ow33 hw) Via.refl F_a_spans E_a (Or.inr ⟨(ow34 hw), rfl, rfl⟩) (ow10 hw) pf__J rfl rfl g_a (pc' := 120) od3_117 rfl (fun h117 X117 => ?_)
        replace F_a_spans := F_a_spans.same X117
        replace E_a := E_a.wr X117
        replace F_a_origin := F_a_origin.other X117 (Or.inr (sne_19_34 hw))
        replace F_a_tick := F_a_tick.other X117 (Or.inr (sne_21_34 hw))
        replace F_a_slots := F_a_slots.other X117 (Or.inr (sne_23_34 hw))
        replace F_a_maxTick := F_a_maxTick.other X117 (Or.inr (sne_31_34 hw))
        replace A_b115 := A_b115.other X117 (Ne.symm ne_a_b115)
        replace K := K.wr X117 (Or.inl (List.mem_of_getElem? (i := 0) rfl))
        refine C.aloadN (pc' := 121) od3_120 rfl rfl rfl ?_
        refine C.getf (ow33 hw) Via.refl F_a_spans (pc' := 124) od3_121 rfl ?_
        refine C.iconst (v := 0) (pc' := 125) od3_124 rfl rfl ?_
        refine C.lconst (v := 1) (pc' := 126) od3_125 rfl rfl ?_
        refine C.stAJ (i := 0) A_b115 (by decide) (by rw [List.length_replicate]; omega) g_b115 (pc' := 127) od3_126 rfl (fun h126 X126 B126 => ?_)
        replace E_a := E_a.wr X126
        replace F_a_origin := F_a_origin.other X126 (Or.inl ne_a_b115)
        replace F_a_tick := F_a_tick.other X126 (Or.inl ne_a_b115)
        replace F_a_slots := F_a_slots.other X126 (Or.inl ne_a_b115)
        replace F_a_maxTick := F_a_maxTick.other X126 (Or.inl ne_a_b115)
        replace F_a_spans := F_a_spans.other X126 (Or.inl ne_a_b115)
        have A_b115 : AJ Z h126 b115 ((List.replicate (i + 1) 0).set 0 (1 : Int64)) := B126
        replace K := K.wr X126 (Or.inr sz_b115)
        refine C.iconst (v := 1) (pc' := 128) od3_127 rfl rfl ?_
        refine C.istoreX (l' := #[.val (.ref a), .val (.long org), .second, .val (.long tk), .second, .val (.int sl), .val (.int iv), .val (.int (1 : Int32)), .unset]) (pc' := 130) od3_128 rfl rfl ?_
        have lp130 : ∀ (fu : Nat) (hL : Heap) (j : Nat) (jv : Int32) (sL : List Int64), (j + fu = i + 1) → (jv.toInt = (j : Int)) → (1 ≤ j) → (sL.length = i + 1) → (∀ q, q < j → toN (sL.getD q 0) = toN sl.toInt64 ^ q) → (Keep hO hL [a]) → (Exa Z hL a "com/example/elapse/elapse/WheelGeometry") → (Fld Z hL a "com/example/elapse/elapse/WheelGeometry" "origin" "J" (.long org)) → (Fld Z hL a "com/example/elapse/elapse/WheelGeometry" "tick" "J" (.long tk)) → (Fld Z hL a "com/example/elapse/elapse/WheelGeometry" "slots" "I" (.int sl)) → (Fld Z hL a "com/example/elapse/elapse/WheelGeometry" "maxTick" "J" (.long r68)) → (Fld Z hL a "com/example/elapse/elapse/WheelGeometry" "spans" "[J" (.ref b115)) → (AJ Z hL b115 sL) → W hL 1 64 130 #[.val (.ref a), .val (.long org), .second, .val (.long tk), .second, .val (.int sl), .val (.int iv), .val (.int jv), .unset] [] := by
          intro fu
          induction fu using Nat.strongRecOn with
          | _ fu ih =>
            intro hL j jv sL gf hj hj1 hsl hsp K E_a F_a_origin F_a_tick F_a_slots F_a_maxTick F_a_spans A_b115
            refine C.iload (pc' := 132) od3_130 rfl rfl ?_
            refine C.iload (pc' := 134) od3_132 rfl rfl ?_
            refine C.icmp_ge (pc' := 137) (pt := 163) od3_134 rfl rfl (fun c134 => ?_) (fun c134 => ?_)
            · skip
              refine C.retV rfl od3_163 (by decide) (by decide) ⟨rfl, ?_⟩
              exact ⟨b115, sL, geo_done hs2.1 (by omega) hsl (fun q hq => hsp q (by have := mt (Jvm.OwnP.lt_iff hj hi).mpr c134; omega)) hre c92, K, sz_b115, F_a_origin, F_a_tick, F_a_slots, F_a_spans, A_b115⟩
            · skip
              refine C.aloadN (pc' := 138) od3_137 rfl rfl rfl ?_
              refine C.getf (ow33 hw) Via.refl F_a_spans (pc' := 141) od3_138 rfl ?_
              refine C.iload (pc' := 143) od3_141 rfl rfl ?_
              refine C.aloadN (pc' := 144) od3_143 rfl rfl rfl ?_
              refine C.getf (ow33 hw) Via.refl F_a_spans (pc' := 147) od3_144 rfl ?_
              refine C.iload (pc' := 149) od3_147 rfl rfl ?_
              refine C.iconst (v := 1) (pc' := 150) od3_149 rfl rfl ?_
              refine C.isub (pc' := 151) od3_150 rfl ?_
              refine C.ldAJ (i := (j - 1)) (v := (sL.getD (j - 1) 0)) A_b115 (own_dec hj hj1) (Jvm.OwnP.getD_some (by have := (Jvm.OwnP.lt_iff hj hi).mp c134; omega)) (pc' := 152) od3_151 rfl ?_
              refine C.iload (pc' := 154) od3_152 rfl rfl ?_
              refine C.i2l (pc' := 155) od3_154 rfl ?_
              refine C.lmul (pc' := 156) od3_155 rfl ?_
              refine C.stAJ (i := j) A_b115 hj (by rw [hsl]; exact (Jvm.OwnP.lt_iff hj hi).mp c134) g_b115 (pc' := 157) od3_156 rfl (fun h156 X156 B156 => ?_)
              replace E_a := E_a.wr X156
              replace F_a_origin := F_a_origin.other X156 (Or.inl ne_a_b115)
              replace F_a_tick := F_a_tick.other X156 (Or.inl ne_a_b115)
              replace F_a_slots := F_a_slots.other X156 (Or.inl ne_a_b115)
              replace F_a_maxTick := F_a_maxTick.other X156 (Or.inl ne_a_b115)
              replace F_a_spans := F_a_spans.other X156 (Or.inl ne_a_b115)
              have A_b115 : AJ Z h156 b115 (sL.set j ((sL.getD (j - 1) 0) * sl.toInt64)) := B156
              replace K := K.wr X156 (Or.inr sz_b115)
              refine C.iinc (d := 1) (f := fun v_ => #[.val (.ref a), .val (.long org), .second, .val (.long tk), .second, .val (.int sl), .val (.int iv), .val (.int v_), .unset]) (pc' := 160) od3_157 rfl rfl rfl (fun _ => rfl) (fun v157 e157 => ?_)
              refine C.goto (pc' := 130) od3_160 rfl ?_
              exact ih (fu - 1) (by have := (Jvm.OwnP.lt_iff hj hi).mp c134; omega) _ (j + 1) _ _ (by have := (Jvm.OwnP.lt_iff hj hi).mp c134; omega) (Jvm.OwnP.inc_toInt hj (by omega) e157) (by omega) (by rw [List.length_set]; exact hsl) (span_step hj1 (by rw [hsl]; exact (Jvm.OwnP.lt_iff hj hi).mp c134) hsp (span_val rfl hj1 hsp (pow_lt hs2.1 hM h0 (by have := (Jvm.OwnP.lt_iff hj hi).mp c134; omega)))) K E_a F_a_origin F_a_tick F_a_slots F_a_maxTick F_a_spans A_b115
        exact lp130 i _ 1 _ _ (by omega) (by decide) (by decide) (by rw [List.length_set, List.length_replicate]) (own_first (toN sl.toInt64) i) K E_a F_a_origin F_a_tick F_a_slots F_a_maxTick F_a_spans A_b115
      · skip
        refine C.iinc (d := 1) (f := fun v_ => #[.val (.ref a), .val (.long org), .second, .val (.long tk), .second, .val (.int sl), .val (.int v_), .val (.long re), .second]) (pc' := 99) od3_96 rfl rfl rfl (fun _ => rfl) (fun v96 e96 => ?_)
        refine C.lload (pc' := 101) od3_99 rfl rfl ?_
        refine C.iload (pc' := 103) od3_101 rfl rfl ?_
        refine C.i2l (pc' := 104) od3_103 rfl ?_
        refine C.calls (w := 0) (own_rm5 l Z a0 hw n0 h71 re sl.toInt64 (sl_nz h2)) (ow25 hw) (ow26 hw) (ow27 hw) (ow28 hw) (pc' := 107) od3_104 rfl rfl rfl (by decide) pd__JJ_J rfl (by decide) (Nat.le_of_eq rfl) (by decide) (by decide) (by decide) (kJ0 fun r104 q104 => ?_)
        refine C.lstoreX (l' := #[.val (.ref a), .val (.long org), .second, .val (.long tk), .second, .val (.int sl), .val (.int v96), .val (.long r104), .second]) (pc' := 109) od3_107 rfl rfl ?_
        refine C.goto (pc' := 89) od3_109 rfl ?_
        exact ih (fu - 1) (by have := pow_big hs2.1 hM (i := i + 1) (by rw [← hre]; exact n_ne0 c92); omega) (i + 1) _ _ (by have := pow_big hs2.1 hM (i := i + 1) (by rw [← hre]; exact n_ne0 c92); omega) (Jvm.OwnP.inc_toInt hi (by omega) e96) (by rw [q104]; exact div_step hre) (Or.inr (by rw [← hre]; exact n_ne0 c92)) 
  exact lp89 63 0 _ _ rfl rfl (by rw [q84, q68]; rw [Nat.zero_add, Nat.pow_one]) (Or.inl rfl) 
theorem od8_0 : decode prog_5_method_2_code 0 = .ok (.aload_n 0, 1) := by decide +kernel
theorem od8_1 : decode prog_5_method_2_code 1 = .ok (.getfield 43, 3) := by decide +kernel
theorem od8_4 : decode prog_5_method_2_code 4 = .ok (.arraylength, 1) := by decide +kernel
theorem od8_5 : decode prog_5_method_2_code 5 = .ok (.ireturn, 1) := by decide +kernel
theorem ef_own_rm8 (m : MethodId) (x0 : Addr) : entryFrame m #[(.ref x0)] 1 = mkF m 0 #[.val (.ref x0)] [] := by first | (simp [entryFrame, mkF, argsToLocals, Value.category]; done) | rfl
theorem pn_com_example_elapse_elapse_WheelGeometry_levels___I : plainFor (⟨"com/example/elapse/elapse/WheelGeometry", "levels", "()I"⟩ : MethodName) = true := plainFor_of_name (by first | (simp [plainName, overriddenIn]; done) | decide +kernel)
set_option maxRecDepth 65536 in
set_option maxHeartbeats 40000000 in
theorem own_rm8 (l : Launch) (Z : State) (a0 : Array Value) (hw : ∀ d ∈ tables_1, d.before a0 Z = true) (n0 : Nat) (hO : Heap) (a : Addr) (sp : Addr) (Lp : List Int64) (lv : Int32) (F_a_spans : Fld Z hO a "com/example/elapse/elapse/WheelGeometry" "spans" "[J" (.ref sp)) (A_sp : AJ Z hO sp Lp) (hlv : lv.toInt = (Lp.length : Int)) :
    MeetsW l Z n0 (⟨"com/example/elapse/elapse/WheelGeometry", "levels", "()I"⟩ : MethodName) prog_5_method_2_code 1 (some .int) ({ frames := 0, cells := 0, slots := 0, locals := 0 } : Room) #[(.ref a)] hO (RI fun r h => r = lv ∧ h = hO) := by
  refine MeetsW.intro pn_com_example_elapse_elapse_WheelGeometry_levels___I (fun m => ef_own_rm8 m a) ?_
  intro W C
  replace C : Ru l Z "com/example/elapse/elapse/WheelGeometry" prog_5_method_2_code 1 (some .int) "levels" ({ frames := 0, cells := 0, slots := 0, locals := 0 } : Room) n0 (RI fun r h => r = lv ∧ h = hO) W := C
  refine C.aloadN (pc' := 1) od8_0 rfl rfl rfl ?_
  refine C.getf (ow33 hw) Via.refl F_a_spans (pc' := 4) od8_1 rfl ?_
  refine C.lenAJ (z := lv) A_sp hlv (pc' := 5) od8_4 rfl ?_
  refine C.retI rfl od8_5 (by decide) (by decide) ⟨_, rfl, ?_⟩
  exact ⟨(by subst_vars; rfl), rfl⟩
theorem od6_0 : decode prog_5_method_4_code 0 = .ok (.lload_n 1, 1) := by decide +kernel
theorem od6_1 : decode prog_5_method_4_code 1 = .ok (.aload_n 0, 1) := by decide +kernel
theorem od6_2 : decode prog_5_method_4_code 2 = .ok (.getfield 19, 3) := by decide +kernel
theorem od6_5 : decode prog_5_method_4_code 5 = .ok (.lcmp, 1) := by decide +kernel
theorem od6_6 : decode prog_5_method_4_code 6 = .ok (.ifCond .ge 21, 3) := by decide +kernel
theorem od6_27 : decode prog_5_method_4_code 27 = .ok (.lload_n 1, 1) := by decide +kernel
theorem od6_28 : decode prog_5_method_4_code 28 = .ok (.aload_n 0, 1) := by decide +kernel
theorem od6_29 : decode prog_5_method_4_code 29 = .ok (.getfield 19, 3) := by decide +kernel
theorem od6_32 : decode prog_5_method_4_code 32 = .ok (.lsub, 1) := by decide +kernel
theorem od6_33 : decode prog_5_method_4_code 33 = .ok (.aload_n 0, 1) := by decide +kernel
theorem od6_34 : decode prog_5_method_4_code 34 = .ok (.getfield 25, 3) := by decide +kernel
theorem od6_37 : decode prog_5_method_4_code 37 = .ok (.invokestatic 36, 3) := by decide +kernel
theorem od6_40 : decode prog_5_method_4_code 40 = .ok (.lreturn, 1) := by decide +kernel
theorem ef_own_rm6 (m : MethodId) (x0 : Addr) (x1 : Int64) : entryFrame m #[(.ref x0), (.long x1)] 3 = mkF m 0 #[.val (.ref x0), .val (.long x1), .second] [] := by first | (simp [entryFrame, mkF, argsToLocals, Value.category]; done) | rfl
theorem pn_com_example_elapse_elapse_WheelGeometry_tickOf__J_J : plainFor (⟨"com/example/elapse/elapse/WheelGeometry", "tickOf", "(J)J"⟩ : MethodName) = true := plainFor_of_name (by first | (simp [plainName, overriddenIn]; done) | decide +kernel)
set_option maxRecDepth 65536 in
set_option maxHeartbeats 40000000 in
theorem own_rm6 (l : Launch) (Z : State) (a0 : Array Value) (hw : ∀ d ∈ tables_1, d.before a0 Z = true) (n0 : Nat) (hO : Heap) (a : Addr) (t : Int64) (org : Int64) (tk : Int64) (F_a_origin : Fld Z hO a "com/example/elapse/elapse/WheelGeometry" "origin" "J" (.long org)) (F_a_tick : Fld Z hO a "com/example/elapse/elapse/WheelGeometry" "tick" "J" (.long tk)) (h1 : ¬ (tk < 1)) (ht : ¬ (t < org)) :
    MeetsW l Z n0 (⟨"com/example/elapse/elapse/WheelGeometry", "tickOf", "(J)J"⟩ : MethodName) prog_5_method_4_code 3 (some .long) ({ frames := 1, cells := 0, slots := 0, locals := 19 } : Room) #[(.ref a), (.long t)] hO (RJ fun r h => toN r = toN (t - org) / toN tk ∧ h = hO) := by
  refine MeetsW.intro pn_com_example_elapse_elapse_WheelGeometry_tickOf__J_J (fun m => ef_own_rm6 m a t) ?_
  intro W C
  replace C : Ru l Z "com/example/elapse/elapse/WheelGeometry" prog_5_method_4_code 3 (some .long) "tickOf" ({ frames := 1, cells := 0, slots := 0, locals := 19 } : Room) n0 (RJ fun r h => toN r = toN (t - org) / toN tk ∧ h = hO) W := C
  refine C.lloadN (pc' := 1) od6_0 rfl rfl ?_
  refine C.aloadN (pc' := 2) od6_1 rfl rfl rfl ?_
  refine C.getf (ow18 hw) Via.refl F_a_origin (pc' := 5) od6_2 rfl ?_
  refine C.lif_ge (pc' := 9) (pt := 27) od6_5 rfl od6_6 rfl rfl (fun c5 => ?_) (fun c5 => absurd c5 ht)
  refine C.lloadN (pc' := 28) od6_27 rfl rfl ?_
  refine C.aloadN (pc' := 29) od6_28 rfl rfl rfl ?_
  refine C.getf (ow18 hw) Via.refl F_a_origin (pc' := 32) od6_29 rfl ?_
  refine C.lsub (pc' := 33) od6_32 rfl ?_
  refine C.aloadN (pc' := 34) od6_33 rfl rfl rfl ?_
  refine C.getf (ow20 hw) Via.refl F_a_tick (pc' := 37) od6_34 rfl ?_
  refine C.calls (w := 0) (own_rm5 l Z a0 hw n0 hO (t - org) tk (own_tk h1)) (ow25 hw) (ow26 hw) (ow27 hw) (ow28 hw) (pc' := 40) od6_37 rfl rfl rfl (by decide) pd__JJ_J rfl (by decide) (Nat.le_of_eq rfl) (by decide) (by decide) (by decide) (kJ0 fun r37 q37 => ?_)
  refine C.retJ rfl od6_40 (by decide) (by decide) ⟨_, rfl, ?_⟩
  exact ⟨q37, rfl⟩
theorem od7_0 : decode prog_5_method_6_code 0 = .ok (.iconst 0, 1) := by decide +kernel
theorem od7_1 : decode prog_5_method_6_code 1 = .ok (.istore 5, 2) := by decide +kernel
theorem od7_3 : decode prog_5_method_6_code 3 = .ok (.lload_n 1, 1) := by decide +kernel
theorem od7_4 : decode prog_5_method_6_code 4 = .ok (.aload_n 0, 1) := by decide +kernel
theorem od7_5 : decode prog_5_method_6_code 5 = .ok (.getfield 28, 3) := by decide +kernel
theorem od7_8 : decode prog_5_method_6_code 8 = .ok (.i2l, 1) := by decide +kernel
theorem od7_9 : decode prog_5_method_6_code 9 = .ok (.invokestatic 36, 3) := by decide +kernel
theorem od7_12 : decode prog_5_method_6_code 12 = .ok (.lstore 6, 2) := by decide +kernel
theorem od7_14 : decode prog_5_method_6_code 14 = .ok (.lload_n 3, 1) := by decide +kernel
theorem od7_15 : decode prog_5_method_6_code 15 = .ok (.aload_n 0, 1) := by decide +kernel
theorem od7_16 : decode prog_5_method_6_code 16 = .ok (.getfield 28, 3) := by decide +kernel
theorem od7_19 : decode prog_5_method_6_code 19 = .ok (.i2l, 1) := by decide +kernel
theorem od7_20 : decode prog_5_method_6_code 20 = .ok (.invokestatic 36, 3) := by decide +kernel
theorem od7_23 : decode prog_5_method_6_code 23 = .ok (.lstore 8, 2) := by decide +kernel
theorem od7_25 : decode prog_5_method_6_code 25 = .ok (.lload 6, 2) := by decide +kernel
theorem od7_27 : decode prog_5_method_6_code 27 = .ok (.lload 8, 2) := by decide +kernel
theorem od7_29 : decode prog_5_method_6_code 29 = .ok (.lcmp, 1) := by decide +kernel
theorem od7_30 : decode prog_5_method_6_code 30 = .ok (.ifCond .eq 33, 3) := by decide +kernel
theorem od7_63 : decode prog_5_method_6_code 63 = .ok (.iload 5, 2) := by decide +kernel
theorem od7_65 : decode prog_5_method_6_code 65 = .ok (.ireturn, 1) := by decide +kernel
theorem od7_33 : decode prog_5_method_6_code 33 = .ok (.lload 6, 2) := by decide +kernel
theorem od7_35 : decode prog_5_method_6_code 35 = .ok (.aload_n 0, 1) := by decide +kernel
theorem od7_36 : decode prog_5_method_6_code 36 = .ok (.getfield 28, 3) := by decide +kernel
theorem od7_39 : decode prog_5_method_6_code 39 = .ok (.i2l, 1) := by decide +kernel
theorem od7_40 : decode prog_5_method_6_code 40 = .ok (.invokestatic 36, 3) := by decide +kernel
theorem od7_43 : decode prog_5_method_6_code 43 = .ok (.lstore 6, 2) := by decide +kernel
theorem od7_45 : decode prog_5_method_6_code 45 = .ok (.lload 8, 2) := by decide +kernel
theorem od7_47 : decode prog_5_method_6_code 47 = .ok (.aload_n 0, 1) := by decide +kernel
theorem od7_48 : decode prog_5_method_6_code 48 = .ok (.getfield 28, 3) := by decide +kernel
theorem od7_51 : decode prog_5_method_6_code 51 = .ok (.i2l, 1) := by decide +kernel
theorem od7_52 : decode prog_5_method_6_code 52 = .ok (.invokestatic 36, 3) := by decide +kernel
theorem od7_55 : decode prog_5_method_6_code 55 = .ok (.lstore 8, 2) := by decide +kernel
theorem od7_57 : decode prog_5_method_6_code 57 = .ok (.iinc 5 1, 3) := by decide +kernel
theorem od7_60 : decode prog_5_method_6_code 60 = .ok (.goto (-35), 3) := by decide +kernel
theorem ef_own_rm7 (m : MethodId) (x0 : Addr) (x1 : Int64) (x2 : Int64) : entryFrame m #[(.ref x0), (.long x1), (.long x2)] 10 = mkF m 0 #[.val (.ref x0), .val (.long x1), .second, .val (.long x2), .second, .unset, .unset, .unset, .unset, .unset] [] := by first | (simp [entryFrame, mkF, argsToLocals, Value.category]; done) | rfl
theorem pn_com_example_elapse_elapse_WheelGeometry_levelOf__JJ_I : plainFor (⟨"com/example/elapse/elapse/WheelGeometry", "levelOf", "(JJ)I"⟩ : MethodName) = true := plainFor_of_name (by first | (simp [plainName, overriddenIn]; done) | decide +kernel)
set_option maxRecDepth 65536 in
set_option maxHeartbeats 40000000 in
theorem own_rm7 (l : Launch) (Z : State) (a0 : Array Value) (hw : ∀ d ∈ tables_1, d.before a0 Z = true) (n0 : Nat) (hO : Heap) (a : Addr) (c : Int64) (t : Int64) (sl : Int32) (F_a_slots : Fld Z hO a "com/example/elapse/elapse/WheelGeometry" "slots" "I" (.int sl)) (h2 : ¬ (sl < 2)) :
    MeetsW l Z n0 (⟨"com/example/elapse/elapse/WheelGeometry", "levelOf", "(JJ)I"⟩ : MethodName) prog_5_method_6_code 10 (some .int) ({ frames := 1, cells := 0, slots := 0, locals := 19 } : Room) #[(.ref a), (.long c), (.long t)] hO (RI fun r h => LevR sl c t r ∧ h = hO) := by
  refine MeetsW.intro pn_com_example_elapse_elapse_WheelGeometry_levelOf__JJ_I (fun m => ef_own_rm7 m a c t) ?_
  intro W C
  replace C : Ru l Z "com/example/elapse/elapse/WheelGeometry" prog_5_method_6_code 10 (some .int) "levelOf" ({ frames := 1, cells := 0, slots := 0, locals := 19 } : Room) n0 (RI fun r h => LevR sl c t r ∧ h = hO) W := C
  refine C.iconst (v := 0) (pc' := 1) od7_0 rfl rfl ?_
  refine C.istoreX (l' := #[.val (.ref a), .val (.long c), .second, .val (.long t), .second, .val (.int (0 : Int32)), .unset, .unset, .unset, .unset]) (pc' := 3) od7_1 rfl rfl ?_
  refine C.lloadN (pc' := 4) od7_3 rfl rfl ?_
  refine C.aloadN (pc' := 5) od7_4 rfl rfl rfl ?_
  refine C.getf (ow22 hw) Via.refl F_a_slots (pc' := 8) od7_5 rfl ?_
  refine C.i2l (pc' := 9) od7_8 rfl ?_
  refine C.calls (w := 0) (own_rm5 l Z a0 hw n0 hO c sl.toInt64 (sl_nz h2)) (ow25 hw) (ow26 hw) (ow27 hw) (ow28 hw) (pc' := 12) od7_9 rfl rfl rfl (by decide) pd__JJ_J rfl (by decide) (Nat.le_of_eq rfl) (by decide) (by decide) (by decide) (kJ0 fun r9 q9 => ?_)
  refine C.lstoreX (l' := #[.val (.ref a), .val (.long c), .second, .val (.long t), .second, .val (.int (0 : Int32)), .val (.long r9), .second, .unset, .unset]) (pc' := 14) od7_12 rfl rfl ?_
  refine C.lloadN (pc' := 15) od7_14 rfl rfl ?_
  refine C.aloadN (pc' := 16) od7_15 rfl rfl rfl ?_
  refine C.getf (ow22 hw) Via.refl F_a_slots (pc' := 19) od7_16 rfl ?_
  refine C.i2l (pc' := 20) od7_19 rfl ?_
  refine C.calls (w := 0) (own_rm5 l Z a0 hw n0 hO t sl.toInt64 (sl_nz h2)) (ow25 hw) (ow26 hw) (ow27 hw) (ow28 hw) (pc' := 23) od7_20 rfl rfl rfl (by decide) pd__JJ_J rfl (by decide) (Nat.le_of_eq rfl) (by decide) (by decide) (by decide) (kJ0 fun r20 q20 => ?_)
  refine C.lstoreX (l' := #[.val (.ref a), .val (.long c), .second, .val (.long t), .second, .val (.int (0 : Int32)), .val (.long r9), .second, .val (.long r20), .second]) (pc' := 25) od7_23 rfl rfl ?_
  have lp25 : ∀ (fu : Nat) (i : Nat) (iv : Int32) (va : Int64) (vb : Int64), (i + fu = 63) → (iv.toInt = (i : Int)) → (toN va = toN c / toN sl.toInt64 ^ (i + 1)) → (toN vb = toN t / toN sl.toInt64 ^ (i + 1)) → (i = 0 ∨ toN c / toN sl.toInt64 ^ i ≠ toN t / toN sl.toInt64 ^ i) → W hO 0 0 25 #[.val (.ref a), .val (.long c), .second, .val (.long t), .second, .val (.int iv), .val (.long va), .second, .val (.long vb), .second] [] := by
    intro fu
    induction fu using Nat.strongRecOn with
    | _ fu ih =>
      intro i iv va vb hf hi ha hb h0
      refine C.lload (pc' := 27) od7_25 rfl rfl ?_
      refine C.lload (pc' := 29) od7_27 rfl rfl ?_
      refine C.lif_eq (pc' := 33) (pt := 63) od7_29 rfl od7_30 rfl rfl (fun c29 => ?_) (fun c29 => ?_)
      · skip
        refine C.iload (pc' := 65) od7_63 rfl rfl ?_
        refine C.retI rfl od7_65 (by decide) (by decide) ⟨_, rfl, ?_⟩
        exact ⟨lev_done hi (by omega) ha hb c29 h0, rfl⟩
      · skip
        refine C.lload (pc' := 35) od7_33 rfl rfl ?_
        refine C.aloadN (pc' := 36) od7_35 rfl rfl rfl ?_
        refine C.getf (ow22 hw) Via.refl F_a_slots (pc' := 39) od7_36 rfl ?_
        refine C.i2l (pc' := 40) od7_39 rfl ?_
        refine C.calls (w := 0) (own_rm5 l Z a0 hw n0 hO va sl.toInt64 (sl_nz h2)) (ow25 hw) (ow26 hw) (ow27 hw) (ow28 hw) (pc' := 43) od7_40 rfl rfl rfl (by decide) pd__JJ_J rfl (by decide) (Nat.le_of_eq rfl) (by decide) (by decide) (by decide) (kJ0 fun r40 q40 => ?_)
        refine C.lstoreX (l' := #[.val (.ref a), .val (.long c), .second, .val (.long t), .second, .val (.int iv), .val (.long r40), .second, .val (.long vb), .second]) (pc' := 45) od7_43 rfl rfl ?_
        refine C.lload (pc' := 47) od7_45 rfl rfl ?_
        refine C.aloadN (pc' := 48) od7_47 rfl rfl rfl ?_
        refine C.getf (ow22 hw) Via.refl F_a_slots (pc' := 51) od7_48 rfl ?_
        refine C.i2l (pc' := 52) od7_51 rfl ?_
        refine C.calls (w := 0) (own_rm5 l Z a0 hw n0 hO vb sl.toInt64 (sl_nz h2)) (ow25 hw) (ow26 hw) (ow27 hw) (ow28 hw) (pc' := 55) od7_52 rfl rfl rfl (by decide) pd__JJ_J rfl (by decide) (Nat.le_of_eq rfl) (by decide) (by decide) (by decide) (kJ0 fun r52 q52 => ?_)
        refine C.lstoreX (l' := #[.val (.ref a), .val (.long c), .second, .val (.long t), .second, .val (.int iv), .val (.long r40), .second, .val (.long r52), .second]) (pc' := 57) od7_55 rfl rfl ?_
        refine C.iinc (d := 1) (f := fun v_ => #[.val (.ref a), .val (.long c), .second, .val (.long t), .second, .val (.int v_), .val (.long r40), .second, .val (.long r52), .second]) (pc' := 60) od7_57 rfl rfl rfl (fun _ => rfl) (fun v57 e57 => ?_)
        refine C.goto (pc' := 25) od7_60 rfl ?_
        exact ih (fu - 1) (by have := (lev_back (sl_ge h2).1 ha hb c29).1; omega) (i + 1) _ _ _ (by have := (lev_back (sl_ge h2).1 ha hb c29).1; omega) (Jvm.OwnP.inc_toInt hi (by omega) e57) (by rw [q40]; exact div_step ha) (by rw [q52]; exact div_step hb) (Or.inr (lev_back (sl_ge h2).1 ha hb c29).2) 
  exact lp25 63 0 _ _ _ rfl rfl (by rw [q9]; rw [Nat.zero_add, Nat.pow_one]) (by rw [q20]; rw [Nat.zero_add, Nat.pow_one]) (Or.inl rfl) 
theorem od11_0 : decode prog_5_method_7_code 0 = .ok (.lload_n 1, 1) := by decide +kernel
theorem od11_1 : decode prog_5_method_7_code 1 = .ok (.aload_n 0, 1) := by decide +kernel
theorem od11_2 : decode prog_5_method_7_code 2 = .ok (.getfield 43, 3) := by decide +kernel
theorem od11_5 : decode prog_5_method_7_code 5 = .ok (.iload_n 3, 1) := by decide +kernel
theorem od11_6 : decode prog_5_method_7_code 6 = .ok (.laload, 1) := by decide +kernel
theorem od11_7 : decode prog_5_method_7_code 7 = .ok (.invokestatic 36, 3) := by decide +kernel
theorem od11_10 : decode prog_5_method_7_code 10 = .ok (.aload_n 0, 1) := by decide +kernel
theorem od11_11 : decode prog_5_method_7_code 11 = .ok (.getfield 28, 3) := by decide +kernel
theorem od11_14 : decode prog_5_method_7_code 14 = .ok (.i2l, 1) := by decide +kernel
theorem od11_15 : decode prog_5_method_7_code 15 = .ok (.invokestatic 54, 3) := by decide +kernel
theorem ow58 {a0 : Array Value} {Z : State} (hw : ∀ d ∈ tables_1, d.before a0 Z = true) : (Jvm.Cond.code ({ cls := "java/lang/Long", name := "remainderUnsigned", desc := "(JJ)J" } : Jvm.MethodName) jdk_35_method_45_code (8 : Nat) (Option.some Jvm.ClassFile.FieldType.long)).before a0 Z = true := hw _ (List.mem_of_getElem? (i := 58) rfl)
theorem ow56 {a0 : Array Value} {Z : State} (hw : ∀ d ∈ tables_1, d.before a0 Z = true) : (Jvm.Cond.methodLink "com/example/elapse/elapse/WheelGeometry" (54 : Nat) ({ cls := "java/lang/Long", name := "remainderUnsigned", desc := "(JJ)J" } : Jvm.MethodName)).before a0 Z = true := hw _ (List.mem_of_getElem? (i := 56) rfl)
theorem ow57 {a0 : Array Value} {Z : State} (hw : ∀ d ∈ tables_1, d.before a0 Z = true) : (Jvm.Cond.static ({ cls := "java/lang/Long", name := "remainderUnsigned", desc := "(JJ)J" } : Jvm.MethodName)).before a0 Z = true := hw _ (List.mem_of_getElem? (i := 57) rfl)
theorem od11_18 : decode prog_5_method_7_code 18 = .ok (.l2i, 1) := by decide +kernel
theorem od11_19 : decode prog_5_method_7_code 19 = .ok (.ireturn, 1) := by decide +kernel
theorem ef_own_rm11 (m : MethodId) (x0 : Addr) (x1 : Int64) (x2 : Int32) : entryFrame m #[(.ref x0), (.long x1), (.int x2)] 4 = mkF m 0 #[.val (.ref x0), .val (.long x1), .second, .val (.int x2)] [] := by first | (simp [entryFrame, mkF, argsToLocals, Value.category]; done) | rfl
theorem pn_com_example_elapse_elapse_WheelGeometry_slotOf__JI_I : plainFor (⟨"com/example/elapse/elapse/WheelGeometry", "slotOf", "(JI)I"⟩ : MethodName) = true := plainFor_of_name (by first | (simp [plainName, overriddenIn]; done) | decide +kernel)
set_option maxRecDepth 65536 in
set_option maxHeartbeats 40000000 in
theorem own_rm11 (l : Launch) (Z : State) (a0 : Array Value) (hw : ∀ d ∈ tables_1, d.before a0 Z = true) (n0 : Nat) (hO : Heap) (a : Addr) (c : Int64) (lev : Int32) (sl : Int32) (sp : Addr) (Lp : List Int64) (M : Nat) (i : Nat) (F_a_slots : Fld Z hO a "com/example/elapse/elapse/WheelGeometry" "slots" "I" (.int sl)) (F_a_spans : Fld Z hO a "com/example/elapse/elapse/WheelGeometry" "spans" "[J" (.ref sp)) (A_sp : AJ Z hO sp Lp) (h2 : ¬ (sl < 2)) (g : Geo (toN sl.toInt64) M Lp) (hi : lev.toInt = (i : Int)) (hil : i < Lp.length) :
    MeetsW l Z n0 (⟨"com/example/elapse/elapse/WheelGeometry", "slotOf", "(JI)I"⟩ : MethodName) prog_5_method_7_code 4 (some .int) ({ frames := 1, cells := 0, slots := 0, locals := 19 } : Room) #[(.ref a), (.long c), (.int lev)] hO (RI fun r h => r.toInt = ((toN c / toN sl.toInt64 ^ i % toN sl.toInt64 : Nat) : Int) ∧ h = hO) := by
  refine MeetsW.intro pn_com_example_elapse_elapse_WheelGeometry_slotOf__JI_I (fun m => ef_own_rm11 m a c lev) ?_
  intro W C
  replace C : Ru l Z "com/example/elapse/elapse/WheelGeometry" prog_5_method_7_code 4 (some .int) "slotOf" ({ frames := 1, cells := 0, slots := 0, locals := 19 } : Room) n0 (RI fun r h => r.toInt = ((toN c / toN sl.toInt64 ^ i % toN sl.toInt64 : Nat) : Int) ∧ h = hO) W := C
  refine C.lloadN (pc' := 1) od11_0 rfl rfl ?_
  refine C.aloadN (pc' := 2) od11_1 rfl rfl rfl ?_
  refine C.getf (ow33 hw) Via.refl F_a_spans (pc' := 5) od11_2 rfl ?_
  refine C.iloadN (pc' := 6) od11_5 rfl rfl ?_
  refine C.ldAJ (i := i) (v := (Lp.getD i 0)) A_sp hi (Jvm.OwnP.getD_some hil) (pc' := 7) od11_6 rfl ?_
  refine C.calls (w := 0) (own_rm5 l Z a0 hw n0 hO c (Lp.getD i 0) (own_span h2 g hil)) (ow25 hw) (ow26 hw) (ow27 hw) (ow28 hw) (pc' := 10) od11_7 rfl rfl rfl (by decide) pd__JJ_J rfl (by decide) (Nat.le_of_eq rfl) (by decide) (by decide) (by decide) (kJ0 fun r7 q7 => ?_)
  refine C.aloadN (pc' := 11) od11_10 rfl rfl rfl ?_
  refine C.getf (ow22 hw) Via.refl F_a_slots (pc' := 14) od11_11 rfl ?_
  refine C.i2l (pc' := 15) od11_14 rfl ?_
  refine C.calls (w := 0) (own_rm10 l Z a0 hw n0 hO r7 sl.toInt64 (sl_nz h2)) (ow56 hw) (ow57 hw) (ow27 hw) (ow58 hw) (pc' := 18) od11_15 rfl rfl rfl (by decide) pd__JJ_J rfl (by decide) (Nat.le_of_eq rfl) (by decide) (by decide) (by decide) (kJ0 fun r15 q15 => ?_)
  refine C.l2i (pc' := 19) od11_18 rfl ?_
  refine C.retI rfl od11_19 (by decide) (by decide) ⟨_, rfl, ?_⟩
  exact ⟨own_slot h2 g hil q7 q15, rfl⟩
theorem od9_0 : decode prog_5_method_8_code 0 = .ok (.lconst 0, 1) := by decide +kernel
theorem od9_1 : decode prog_5_method_8_code 1 = .ok (.lstore 5, 2) := by decide +kernel
theorem od9_3 : decode prog_5_method_8_code 3 = .ok (.iload_n 3, 1) := by decide +kernel
theorem od9_4 : decode prog_5_method_8_code 4 = .ok (.iconst 1, 1) := by decide +kernel
theorem od9_5 : decode prog_5_method_8_code 5 = .ok (.iadd, 1) := by decide +kernel
theorem od9_6 : decode prog_5_method_8_code 6 = .ok (.aload_n 0, 1) := by decide +kernel
theorem od9_7 : decode prog_5_method_8_code 7 = .ok (.getfield 43, 3) := by decide +kernel
theorem od9_10 : decode prog_5_method_8_code 10 = .ok (.arraylength, 1) := by decide +kernel
theorem od9_11 : decode prog_5_method_8_code 11 = .ok (.if_icmp .ge 19, 3) := by decide +kernel
theorem od9_30 : decode prog_5_method_8_code 30 = .ok (.lload 5, 2) := by decide +kernel
theorem od9_32 : decode prog_5_method_8_code 32 = .ok (.iload 4, 2) := by decide +kernel
theorem od9_34 : decode prog_5_method_8_code 34 = .ok (.i2l, 1) := by decide +kernel
theorem od9_35 : decode prog_5_method_8_code 35 = .ok (.aload_n 0, 1) := by decide +kernel
theorem od9_36 : decode prog_5_method_8_code 36 = .ok (.getfield 43, 3) := by decide +kernel
theorem od9_39 : decode prog_5_method_8_code 39 = .ok (.iload_n 3, 1) := by decide +kernel
theorem od9_40 : decode prog_5_method_8_code 40 = .ok (.laload, 1) := by decide +kernel
theorem od9_41 : decode prog_5_method_8_code 41 = .ok (.lmul, 1) := by decide +kernel
theorem od9_42 : decode prog_5_method_8_code 42 = .ok (.ladd, 1) := by decide +kernel
theorem od9_43 : decode prog_5_method_8_code 43 = .ok (.lreturn, 1) := by decide +kernel
theorem od9_14 : decode prog_5_method_8_code 14 = .ok (.lload_n 1, 1) := by decide +kernel
theorem od9_15 : decode prog_5_method_8_code 15 = .ok (.lload_n 1, 1) := by decide +kernel
theorem od9_16 : decode prog_5_method_8_code 16 = .ok (.aload_n 0, 1) := by decide +kernel
theorem od9_17 : decode prog_5_method_8_code 17 = .ok (.getfield 43, 3) := by decide +kernel
theorem od9_20 : decode prog_5_method_8_code 20 = .ok (.iload_n 3, 1) := by decide +kernel
theorem od9_21 : decode prog_5_method_8_code 21 = .ok (.iconst 1, 1) := by decide +kernel
theorem od9_22 : decode prog_5_method_8_code 22 = .ok (.iadd, 1) := by decide +kernel
theorem od9_23 : decode prog_5_method_8_code 23 = .ok (.laload, 1) := by decide +kernel
theorem od9_24 : decode prog_5_method_8_code 24 = .ok (.invokestatic 54, 3) := by decide +kernel
theorem od9_27 : decode prog_5_method_8_code 27 = .ok (.lsub, 1) := by decide +kernel
theorem od9_28 : decode prog_5_method_8_code 28 = .ok (.lstore 5, 2) := by decide +kernel
theorem ef_own_rm9 (m : MethodId) (x0 : Addr) (x1 : Int64) (x2 : Int32) (x3 : Int32) : entryFrame m #[(.ref x0), (.long x1), (.int x2), (.int x3)] 7 = mkF m 0 #[.val (.ref x0), .val (.long x1), .second, .val (.int x2), .val (.int x3), .unset, .unset] [] := by first | (simp [entryFrame, mkF, argsToLocals, Value.category]; done) | rfl
theorem pn_com_example_elapse_elapse_WheelGeometry_slotStart__JII_J : plainFor (⟨"com/example/elapse/elapse/WheelGeometry", "slotStart", "(JII)J"⟩ : MethodName) = true := plainFor_of_name (by first | (simp [plainName, overriddenIn]; done) | decide +kernel)
set_option maxRecDepth 65536 in
set_option maxHeartbeats 40000000 in
theorem own_rm9 (l : Launch) (Z : State) (a0 : Array Value) (hw : ∀ d ∈ tables_1, d.before a0 Z = true) (n0 : Nat) (hO : Heap) (a : Addr) (c : Int64) (lev : Int32) (slot : Int32) (sl : Int32) (sp : Addr) (Lp : List Int64) (M : Nat) (i : Nat) (lv : Int32) (F_a_slots : Fld Z hO a "com/example/elapse/elapse/WheelGeometry" "slots" "I" (.int sl)) (F_a_spans : Fld Z hO a "com/example/elapse/elapse/WheelGeometry" "spans" "[J" (.ref sp)) (A_sp : AJ Z hO sp Lp) (h2 : ¬ (sl < 2)) (g : Geo (toN sl.toInt64) M Lp) (hi : lev.toInt = (i : Int)) (hil : i < Lp.length) (hlv : lv.toInt = (Lp.length : Int)) :
    MeetsW l Z n0 (⟨"com/example/elapse/elapse/WheelGeometry", "slotStart", "(JII)J"⟩ : MethodName) prog_5_method_8_code 7 (some .long) ({ frames := 1, cells := 0, slots := 0, locals := 21 } : Room) #[(.ref a), (.long c), (.int lev), (.int slot)] hO (RJ fun r h => toN r = ((if i + 1 < Lp.length then toN sl.toInt64 ^ (i + 1) * (toN c / toN sl.toInt64 ^ (i + 1)) else 0) + toN slot.toInt64 * toN sl.toInt64 ^ i) % 18446744073709551616 ∧ h = hO) := by
  refine MeetsW.intro pn_com_example_elapse_elapse_WheelGeometry_slotStart__JII_J (fun m => ef_own_rm9 m a c lev slot) ?_
  intro W C
  replace C : Ru l Z "com/example/elapse/elapse/WheelGeometry" prog_5_method_8_code 7 (some .long) "slotStart" ({ frames := 1, cells := 0, slots := 0, locals := 21 } : Room) n0 (RJ fun r h => toN r = ((if i + 1 < Lp.length then toN sl.toInt64 ^ (i + 1) * (toN c / toN sl.toInt64 ^ (i + 1)) else 0) + toN slot.toInt64 * toN sl.toInt64 ^ i) % 18446744073709551616 ∧ h = hO) W := C
  refine C.lconst (v := 0) (pc' := 1) od9_0 rfl rfl ?_
  refine C.lstoreX (l' := #[.val (.ref a), .val (.long c), .second, .val (.int lev), .val (.int slot), .val (.long (0 : Int64)), .second]) (pc' := 3) od9_1 rfl rfl ?_
  refine C.iloadN (pc' := 4) od9_3 rfl rfl ?_
  refine C.iconst (v := 1) (pc' := 5) od9_4 rfl rfl ?_
  refine C.iadd (pc' := 6) od9_5 rfl ?_
  refine C.aloadN (pc' := 7) od9_6 rfl rfl rfl ?_
  refine C.getf (ow33 hw) Via.refl F_a_spans (pc' := 10) od9_7 rfl ?_
  refine C.lenAJ (z := lv) A_sp hlv (pc' := 11) od9_10 rfl ?_
  refine C.icmp_ge (pc' := 14) (pt := 30) od9_11 rfl rfl (fun c11 => ?_) (fun c11 => ?_)
  · skip
    refine C.lload (pc' := 32) od9_30 rfl rfl ?_
    refine C.iload (pc' := 34) od9_32 rfl rfl ?_
    refine C.i2l (pc' := 35) od9_34 rfl ?_
    refine C.aloadN (pc' := 36) od9_35 rfl rfl rfl ?_
    refine C.getf (ow33 hw) Via.refl F_a_spans (pc' := 39) od9_36 rfl ?_
    refine C.iloadN (pc' := 40) od9_39 rfl rfl ?_
    refine C.ldAJ (i := i) (v := (Lp.getD i 0)) A_sp hi (Jvm.OwnP.getD_some hil) (pc' := 41) od9_40 rfl ?_
    refine C.lmul (pc' := 42) od9_41 rfl ?_
    refine C.ladd (pc' := 43) od9_42 rfl ?_
    refine C.retJ rfl od9_43 (by decide) (by decide) ⟨_, rfl, ?_⟩
    exact ⟨own_start g hil (Or.inr ⟨own_ge hi hlv g hil c11, rfl⟩), rfl⟩
  · skip
    refine C.lloadN (pc' := 15) od9_14 rfl rfl ?_
    refine C.lloadN (pc' := 16) od9_15 rfl rfl ?_
    refine C.aloadN (pc' := 17) od9_16 rfl rfl rfl ?_
    refine C.getf (ow33 hw) Via.refl F_a_spans (pc' := 20) od9_17 rfl ?_
    refine C.iloadN (pc' := 21) od9_20 rfl rfl ?_
    refine C.iconst (v := 1) (pc' := 22) od9_21 rfl rfl ?_
    refine C.iadd (pc' := 23) od9_22 rfl ?_
    refine C.ldAJ (i := (i + 1)) (v := (Lp.getD (i + 1) 0)) A_sp (own_i1 hi g hil) (Jvm.OwnP.getD_some (own_lt hi hlv g hil c11)) (pc' := 24) od9_23 rfl ?_
    refine C.calls (w := 2) (own_rm10 l Z a0 hw n0 hO c (Lp.getD (i + 1) 0) (own_span h2 g (own_lt hi hlv g hil c11))) (ow56 hw) (ow57 hw) (ow27 hw) (ow58 hw) (pc' := 27) od9_24 rfl rfl rfl (by decide) pd__JJ_J rfl (by decide) (Nat.le_of_eq rfl) (by decide) (by decide) (by decide) (kJ0 fun r24 q24 => ?_)
    refine C.lsub (pc' := 28) od9_27 rfl ?_
    refine C.lstoreX (l' := #[.val (.ref a), .val (.long c), .second, .val (.int lev), .val (.int slot), .val (.long (c - r24)), .second]) (pc' := 30) od9_28 rfl rfl ?_
    refine C.lload (pc' := 32) od9_30 rfl rfl ?_
    refine C.iload (pc' := 34) od9_32 rfl rfl ?_
    refine C.i2l (pc' := 35) od9_34 rfl ?_
    refine C.aloadN (pc' := 36) od9_35 rfl rfl rfl ?_
    refine C.getf (ow33 hw) Via.refl F_a_spans (pc' := 39) od9_36 rfl ?_
    refine C.iloadN (pc' := 40) od9_39 rfl rfl ?_
    refine C.ldAJ (i := i) (v := (Lp.getD i 0)) A_sp hi (Jvm.OwnP.getD_some hil) (pc' := 41) od9_40 rfl ?_
    refine C.lmul (pc' := 42) od9_41 rfl ?_
    refine C.ladd (pc' := 43) od9_42 rfl ?_
    refine C.retJ rfl od9_43 (by decide) (by decide) ⟨_, rfl, ?_⟩
    exact ⟨own_start g hil (Or.inl ⟨own_lt hi hlv g hil c11, _, q24, rfl⟩), rfl⟩
theorem ow0 {a0 : Array Value} {Z : State} (hw : ∀ d ∈ tables_1, d.before a0 Z = true) : (Jvm.Cond.constantLong "com/example/elapse/elapse/WheelGeometryLevelOfPinLaw" (7 : Nat) (63 : Int64)).before a0 Z = true := hw _ (List.mem_of_getElem? (i := 0) rfl)
theorem ow4 {a0 : Array Value} {Z : State} (hw : ∀ d ∈ tables_1, d.before a0 Z = true) : (Jvm.Cond.code ({ cls := "java/lang/Math", name := "max", desc := "(JJ)J" } : Jvm.MethodName) jdk_29_method_66_code (4 : Nat) (Option.some Jvm.ClassFile.FieldType.long)).before a0 Z = true := hw _ (List.mem_of_getElem? (i := 4) rfl)
theorem ow3 {a0 : Array Value} {Z : State} (hw : ∀ d ∈ tables_1, d.before a0 Z = true) : (Jvm.Cond.initialized "java/lang/Math").before a0 Z = true := hw _ (List.mem_of_getElem? (i := 3) rfl)
theorem ow1 {a0 : Array Value} {Z : State} (hw : ∀ d ∈ tables_1, d.before a0 Z = true) : (Jvm.Cond.methodLink "com/example/elapse/elapse/WheelGeometryLevelOfPinLaw" (9 : Nat) ({ cls := "java/lang/Math", name := "max", desc := "(JJ)J" } : Jvm.MethodName)).before a0 Z = true := hw _ (List.mem_of_getElem? (i := 1) rfl)
theorem ow2 {a0 : Array Value} {Z : State} (hw : ∀ d ∈ tables_1, d.before a0 Z = true) : (Jvm.Cond.static ({ cls := "java/lang/Math", name := "max", desc := "(JJ)J" } : Jvm.MethodName)).before a0 Z = true := hw _ (List.mem_of_getElem? (i := 2) rfl)
theorem ow5 {a0 : Array Value} {Z : State} (hw : ∀ d ∈ tables_1, d.before a0 Z = true) : (Jvm.Cond.constant "com/example/elapse/elapse/WheelGeometryLevelOfPinLaw" (15 : Nat) (2147483647 : Int32)).before a0 Z = true := hw _ (List.mem_of_getElem? (i := 5) rfl)
theorem pd__II_I : parseMethodDescriptor "(II)I" = some ⟨[.int, .int], some .int⟩ := by decide +kernel
theorem ow8 {a0 : Array Value} {Z : State} (hw : ∀ d ∈ tables_1, d.before a0 Z = true) : (Jvm.Cond.code ({ cls := "java/lang/Math", name := "max", desc := "(II)I" } : Jvm.MethodName) jdk_29_method_65_code (2 : Nat) (Option.some Jvm.ClassFile.FieldType.int)).before a0 Z = true := hw _ (List.mem_of_getElem? (i := 8) rfl)
theorem ow6 {a0 : Array Value} {Z : State} (hw : ∀ d ∈ tables_1, d.before a0 Z = true) : (Jvm.Cond.methodLink "com/example/elapse/elapse/WheelGeometryLevelOfPinLaw" (16 : Nat) ({ cls := "java/lang/Math", name := "max", desc := "(II)I" } : Jvm.MethodName)).before a0 Z = true := hw _ (List.mem_of_getElem? (i := 6) rfl)
theorem ow7 {a0 : Array Value} {Z : State} (hw : ∀ d ∈ tables_1, d.before a0 Z = true) : (Jvm.Cond.static ({ cls := "java/lang/Math", name := "max", desc := "(II)I" } : Jvm.MethodName)).before a0 Z = true := hw _ (List.mem_of_getElem? (i := 7) rfl)
theorem ow9 {a0 : Array Value} {Z : State} (hw : ∀ d ∈ tables_1, d.before a0 Z = true) : (Jvm.Cond.classLink "com/example/elapse/elapse/WheelGeometryLevelOfPinLaw" (19 : Nat) "com/example/elapse/elapse/WheelGeometry").before a0 Z = true := hw _ (List.mem_of_getElem? (i := 9) rfl)
theorem ow11 {a0 : Array Value} {Z : State} (hw : ∀ d ∈ tables_1, d.before a0 Z = true) : (Jvm.Cond.initialized "com/example/elapse/elapse/WheelGeometry").before a0 Z = true := hw _ (List.mem_of_getElem? (i := 11) rfl)
theorem pd__JJI_V : parseMethodDescriptor "(JJI)V" = some ⟨[.long, .long, .int], none⟩ := by decide +kernel
theorem ow14 {a0 : Array Value} {Z : State} (hw : ∀ d ∈ tables_1, d.before a0 Z = true) : (Jvm.Cond.code ({ cls := "com/example/elapse/elapse/WheelGeometry", name := "<init>", desc := "(JJI)V" } : Jvm.MethodName) prog_5_method_1_code (9 : Nat) (Option.none : Option Jvm.ClassFile.FieldType)).before a0 Z = true := hw _ (List.mem_of_getElem? (i := 14) rfl)
theorem ow12 {a0 : Array Value} {Z : State} (hw : ∀ d ∈ tables_1, d.before a0 Z = true) : (Jvm.Cond.methodLink "com/example/elapse/elapse/WheelGeometryLevelOfPinLaw" (21 : Nat) ({ cls := "com/example/elapse/elapse/WheelGeometry", name := "<init>", desc := "(JJI)V" } : Jvm.MethodName)).before a0 Z = true := hw _ (List.mem_of_getElem? (i := 12) rfl)
theorem ow13 {a0 : Array Value} {Z : State} (hw : ∀ d ∈ tables_1, d.before a0 Z = true) : (Jvm.Cond.instanceMethod ({ cls := "com/example/elapse/elapse/WheelGeometry", name := "<init>", desc := "(JJI)V" } : Jvm.MethodName)).before a0 Z = true := hw _ (List.mem_of_getElem? (i := 13) rfl)
theorem ow35 {a0 : Array Value} {Z : State} (hw : ∀ d ∈ tables_1, d.before a0 Z = true) : (Jvm.Cond.constantLong "com/example/elapse/elapse/WheelGeometryLevelOfPinLaw" (26 : Nat) (9223372036854775807 : Int64)).before a0 Z = true := hw _ (List.mem_of_getElem? (i := 35) rfl)
theorem pd__J_J : parseMethodDescriptor "(J)J" = some ⟨[.long], some .long⟩ := by decide +kernel
theorem ow40 {a0 : Array Value} {Z : State} (hw : ∀ d ∈ tables_1, d.before a0 Z = true) : (Jvm.Cond.code ({ cls := "com/example/elapse/elapse/WheelGeometry", name := "tickOf", desc := "(J)J" } : Jvm.MethodName) prog_5_method_4_code (3 : Nat) (Option.some Jvm.ClassFile.FieldType.long)).before a0 Z = true := hw _ (List.mem_of_getElem? (i := 40) rfl)
theorem ow36 {a0 : Array Value} {Z : State} (hw : ∀ d ∈ tables_1, d.before a0 Z = true) : (Jvm.Cond.methodLink "com/example/elapse/elapse/WheelGeometryLevelOfPinLaw" (28 : Nat) ({ cls := "com/example/elapse/elapse/WheelGeometry", name := "tickOf", desc := "(J)J" } : Jvm.MethodName)).before a0 Z = true := hw _ (List.mem_of_getElem? (i := 36) rfl)
theorem ow37 {a0 : Array Value} {Z : State} (hw : ∀ d ∈ tables_1, d.before a0 Z = true) : (Jvm.Cond.declares ({ cls := "com/example/elapse/elapse/WheelGeometry", name := "tickOf", desc := "(J)J" } : Jvm.MethodName)).before a0 Z = true := hw _ (List.mem_of_getElem? (i := 37) rfl)
theorem ow39 {a0 : Array Value} {Z : State} (hw : ∀ d ∈ tables_1, d.before a0 Z = true) : (Jvm.Cond.selects "com/example/elapse/elapse/WheelGeometry" ({ cls := "com/example/elapse/elapse/WheelGeometry", name := "tickOf", desc := "(J)J" } : Jvm.MethodName) ({ cls := "com/example/elapse/elapse/WheelGeometry", name := "tickOf", desc := "(J)J" } : Jvm.MethodName)).before a0 Z = true := hw _ (List.mem_of_getElem? (i := 39) rfl)
theorem ow38 {a0 : Array Value} {Z : State} (hw : ∀ d ∈ tables_1, d.before a0 Z = true) : (Jvm.Cond.instanceMethod ({ cls := "com/example/elapse/elapse/WheelGeometry", name := "tickOf", desc := "(J)J" } : Jvm.MethodName)).before a0 Z = true := hw _ (List.mem_of_getElem? (i := 38) rfl)
theorem pd__JJ_I : parseMethodDescriptor "(JJ)I" = some ⟨[.long, .long], some .int⟩ := by decide +kernel
theorem ow45 {a0 : Array Value} {Z : State} (hw : ∀ d ∈ tables_1, d.before a0 Z = true) : (Jvm.Cond.code ({ cls := "com/example/elapse/elapse/WheelGeometry", name := "levelOf", desc := "(JJ)I" } : Jvm.MethodName) prog_5_method_6_code (10 : Nat) (Option.some Jvm.ClassFile.FieldType.int)).before a0 Z = true := hw _ (List.mem_of_getElem? (i := 45) rfl)
theorem ow41 {a0 : Array Value} {Z : State} (hw : ∀ d ∈ tables_1, d.before a0 Z = true) : (Jvm.Cond.methodLink "com/example/elapse/elapse/WheelGeometryLevelOfPinLaw" (32 : Nat) ({ cls := "com/example/elapse/elapse/WheelGeometry", name := "levelOf", desc := "(JJ)I" } : Jvm.MethodName)).before a0 Z = true := hw _ (List.mem_of_getElem? (i := 41) rfl)
theorem ow42 {a0 : Array Value} {Z : State} (hw : ∀ d ∈ tables_1, d.before a0 Z = true) : (Jvm.Cond.declares ({ cls := "com/example/elapse/elapse/WheelGeometry", name := "levelOf", desc := "(JJ)I" } : Jvm.MethodName)).before a0 Z = true := hw _ (List.mem_of_getElem? (i := 42) rfl)
theorem ow44 {a0 : Array Value} {Z : State} (hw : ∀ d ∈ tables_1, d.before a0 Z = true) : (Jvm.Cond.selects "com/example/elapse/elapse/WheelGeometry" ({ cls := "com/example/elapse/elapse/WheelGeometry", name := "levelOf", desc := "(JJ)I" } : Jvm.MethodName) ({ cls := "com/example/elapse/elapse/WheelGeometry", name := "levelOf", desc := "(JJ)I" } : Jvm.MethodName)).before a0 Z = true := hw _ (List.mem_of_getElem? (i := 44) rfl)
theorem ow43 {a0 : Array Value} {Z : State} (hw : ∀ d ∈ tables_1, d.before a0 Z = true) : (Jvm.Cond.instanceMethod ({ cls := "com/example/elapse/elapse/WheelGeometry", name := "levelOf", desc := "(JJ)I" } : Jvm.MethodName)).before a0 Z = true := hw _ (List.mem_of_getElem? (i := 43) rfl)
theorem pd___I : parseMethodDescriptor "()I" = some ⟨[], some .int⟩ := by decide +kernel
theorem ow50 {a0 : Array Value} {Z : State} (hw : ∀ d ∈ tables_1, d.before a0 Z = true) : (Jvm.Cond.code ({ cls := "com/example/elapse/elapse/WheelGeometry", name := "levels", desc := "()I" } : Jvm.MethodName) prog_5_method_2_code (1 : Nat) (Option.some Jvm.ClassFile.FieldType.int)).before a0 Z = true := hw _ (List.mem_of_getElem? (i := 50) rfl)
theorem ow46 {a0 : Array Value} {Z : State} (hw : ∀ d ∈ tables_1, d.before a0 Z = true) : (Jvm.Cond.methodLink "com/example/elapse/elapse/WheelGeometryLevelOfPinLaw" (36 : Nat) ({ cls := "com/example/elapse/elapse/WheelGeometry", name := "levels", desc := "()I" } : Jvm.MethodName)).before a0 Z = true := hw _ (List.mem_of_getElem? (i := 46) rfl)
theorem ow47 {a0 : Array Value} {Z : State} (hw : ∀ d ∈ tables_1, d.before a0 Z = true) : (Jvm.Cond.declares ({ cls := "com/example/elapse/elapse/WheelGeometry", name := "levels", desc := "()I" } : Jvm.MethodName)).before a0 Z = true := hw _ (List.mem_of_getElem? (i := 47) rfl)
theorem ow49 {a0 : Array Value} {Z : State} (hw : ∀ d ∈ tables_1, d.before a0 Z = true) : (Jvm.Cond.selects "com/example/elapse/elapse/WheelGeometry" ({ cls := "com/example/elapse/elapse/WheelGeometry", name := "levels", desc := "()I" } : Jvm.MethodName) ({ cls := "com/example/elapse/elapse/WheelGeometry", name := "levels", desc := "()I" } : Jvm.MethodName)).before a0 Z = true := hw _ (List.mem_of_getElem? (i := 49) rfl)
theorem ow48 {a0 : Array Value} {Z : State} (hw : ∀ d ∈ tables_1, d.before a0 Z = true) : (Jvm.Cond.instanceMethod ({ cls := "com/example/elapse/elapse/WheelGeometry", name := "levels", desc := "()I" } : Jvm.MethodName)).before a0 Z = true := hw _ (List.mem_of_getElem? (i := 48) rfl)
theorem pd__JI_I : parseMethodDescriptor "(JI)I" = some ⟨[.long, .int], some .int⟩ := by decide +kernel
theorem ow63 {a0 : Array Value} {Z : State} (hw : ∀ d ∈ tables_1, d.before a0 Z = true) : (Jvm.Cond.code ({ cls := "com/example/elapse/elapse/WheelGeometry", name := "slotOf", desc := "(JI)I" } : Jvm.MethodName) prog_5_method_7_code (4 : Nat) (Option.some Jvm.ClassFile.FieldType.int)).before a0 Z = true := hw _ (List.mem_of_getElem? (i := 63) rfl)
theorem ow59 {a0 : Array Value} {Z : State} (hw : ∀ d ∈ tables_1, d.before a0 Z = true) : (Jvm.Cond.methodLink "com/example/elapse/elapse/WheelGeometryLevelOfPinLaw" (44 : Nat) ({ cls := "com/example/elapse/elapse/WheelGeometry", name := "slotOf", desc := "(JI)I" } : Jvm.MethodName)).before a0 Z = true := hw _ (List.mem_of_getElem? (i := 59) rfl)
theorem ow60 {a0 : Array Value} {Z : State} (hw : ∀ d ∈ tables_1, d.before a0 Z = true) : (Jvm.Cond.declares ({ cls := "com/example/elapse/elapse/WheelGeometry", name := "slotOf", desc := "(JI)I" } : Jvm.MethodName)).before a0 Z = true := hw _ (List.mem_of_getElem? (i := 60) rfl)
theorem ow62 {a0 : Array Value} {Z : State} (hw : ∀ d ∈ tables_1, d.before a0 Z = true) : (Jvm.Cond.selects "com/example/elapse/elapse/WheelGeometry" ({ cls := "com/example/elapse/elapse/WheelGeometry", name := "slotOf", desc := "(JI)I" } : Jvm.MethodName) ({ cls := "com/example/elapse/elapse/WheelGeometry", name := "slotOf", desc := "(JI)I" } : Jvm.MethodName)).before a0 Z = true := hw _ (List.mem_of_getElem? (i := 62) rfl)
theorem ow61 {a0 : Array Value} {Z : State} (hw : ∀ d ∈ tables_1, d.before a0 Z = true) : (Jvm.Cond.instanceMethod ({ cls := "com/example/elapse/elapse/WheelGeometry", name := "slotOf", desc := "(JI)I" } : Jvm.MethodName)).before a0 Z = true := hw _ (List.mem_of_getElem? (i := 61) rfl)
theorem pd__JII_J : parseMethodDescriptor "(JII)J" = some ⟨[.long, .int, .int], some .long⟩ := by decide +kernel
theorem ow55 {a0 : Array Value} {Z : State} (hw : ∀ d ∈ tables_1, d.before a0 Z = true) : (Jvm.Cond.code ({ cls := "com/example/elapse/elapse/WheelGeometry", name := "slotStart", desc := "(JII)J" } : Jvm.MethodName) prog_5_method_8_code (7 : Nat) (Option.some Jvm.ClassFile.FieldType.long)).before a0 Z = true := hw _ (List.mem_of_getElem? (i := 55) rfl)
theorem ow51 {a0 : Array Value} {Z : State} (hw : ∀ d ∈ tables_1, d.before a0 Z = true) : (Jvm.Cond.methodLink "com/example/elapse/elapse/WheelGeometryLevelOfPinLaw" (40 : Nat) ({ cls := "com/example/elapse/elapse/WheelGeometry", name := "slotStart", desc := "(JII)J" } : Jvm.MethodName)).before a0 Z = true := hw _ (List.mem_of_getElem? (i := 51) rfl)
theorem ow52 {a0 : Array Value} {Z : State} (hw : ∀ d ∈ tables_1, d.before a0 Z = true) : (Jvm.Cond.declares ({ cls := "com/example/elapse/elapse/WheelGeometry", name := "slotStart", desc := "(JII)J" } : Jvm.MethodName)).before a0 Z = true := hw _ (List.mem_of_getElem? (i := 52) rfl)
theorem ow54 {a0 : Array Value} {Z : State} (hw : ∀ d ∈ tables_1, d.before a0 Z = true) : (Jvm.Cond.selects "com/example/elapse/elapse/WheelGeometry" ({ cls := "com/example/elapse/elapse/WheelGeometry", name := "slotStart", desc := "(JII)J" } : Jvm.MethodName) ({ cls := "com/example/elapse/elapse/WheelGeometry", name := "slotStart", desc := "(JII)J" } : Jvm.MethodName)).before a0 Z = true := hw _ (List.mem_of_getElem? (i := 54) rfl)
theorem ow53 {a0 : Array Value} {Z : State} (hw : ∀ d ∈ tables_1, d.before a0 Z = true) : (Jvm.Cond.instanceMethod ({ cls := "com/example/elapse/elapse/WheelGeometry", name := "slotStart", desc := "(JII)J" } : Jvm.MethodName)).before a0 Z = true := hw _ (List.mem_of_getElem? (i := 53) rfl)
theorem ef_own_rm0 (m : MethodId) (x0 : Int64) (x1 : Int64) (x2 : Int32) (x3 : Int64) (x4 : Int64) : entryFrame m #[(.long x0), (.long x1), (.int x2), (.long x3), (.long x4)] maxLocals = mkF m 0 #[.val (.long x0), .second, .val (.long x1), .second, .val (.int x2), .val (.long x3), .second, .val (.long x4), .second, .unset, .unset, .unset, .unset, .unset, .unset, .unset, .unset, .unset, .unset, .unset, .unset, .unset, .unset, .unset, .unset] [] := by first | (simp [entryFrame, mkF, argsToLocals, Value.category, maxLocals]; done) | rfl
theorem pn_com_example_elapse_elapse_WheelGeometryLevelOfPinLaw_law__JJIJJ_Z : plainFor (⟨"com/example/elapse/elapse/WheelGeometryLevelOfPinLaw", "law", "(JJIJJ)Z"⟩ : MethodName) = true := plainFor_of_name (by first | (simp [plainName, overriddenIn]; done) | decide +kernel)
set_option maxRecDepth 65536 in
set_option maxHeartbeats 40000000 in
theorem own_rm0 (l : Launch) (Z : State) (a0 : Array Value) (hw : ∀ d ∈ tables_1, d.before a0 Z = true) (n0 : Nat) (hO : Heap) (p1 : Int64) (p2 : Int64) (p3 : Int32) (p4 : Int64) (p5 : Int64) (Z0 : n0 ≤ hO.size) :
    MeetsW l Z n0 x code maxLocals ret room_1 #[(.long p1), (.long p2), (.int p3), (.long p4), (.long p5)] hO (RI fun r h => r = 1) := by
  refine MeetsW.intro (show plainFor x = true from pn_com_example_elapse_elapse_WheelGeometryLevelOfPinLaw_law__JJIJJ_Z) (fun m => ef_own_rm0 m p1 p2 p3 p4 p5) ?_
  intro W C
  replace C : Ru l Z "com/example/elapse/elapse/WheelGeometryLevelOfPinLaw" code maxLocals ret "law" room_1 n0 (RI fun r h => r = 1) W := C
  have K : Keep hO hO [] := Keep.refl _ _
  refine C.lconst (v := 1) (pc' := 1) at_0 rfl rfl ?_
  refine C.lloadN (pc' := 2) at_1 rfl rfl ?_
  refine C.bipush (v := 6) (pc' := 4) at_2 rfl rfl ?_
  refine C.lushr (s := 6) (pc' := 5) at_4 rfl (by decide) ?_
  refine C.lloadN (pc' := 6) at_5 rfl rfl ?_
  refine C.ldcJ (ow0 hw) (pc' := 9) at_6 rfl ?_
  refine C.land (pc' := 10) at_9 rfl ?_
  refine C.l2i (pc' := 11) at_10 rfl ?_
  refine C.lushr (pc' := 12) at_11 rfl rfl ?_
  refine C.calls (w := 0) (own_rm1 l Z a0 hw n0 hO (1 : Int64) (shrL (shrL p2 6) (sh6 ((p2 &&& (63 : Int64)).toInt32)))) (ow1 hw) (ow2 hw) (ow3 hw) (ow4 hw) (pc' := 15) at_12 rfl rfl rfl (by decide) pd__JJ_J rfl (by decide) (Nat.le_of_eq rfl) (by decide) (by decide) (by decide) (kJe ?_)
  refine C.lstore (f := fun v_ => #[.val (.long p1), .second, .val (.long p2), .second, .val (.int p3), .val (.long p4), .second, .val (.long p5), .second, .val (.long v_), .second, .unset, .unset, .unset, .unset, .unset, .unset, .unset, .unset, .unset, .unset, .unset, .unset, .unset, .unset]) (pc' := 17) at_15 rfl (fun _ => rfl) (fun v15 e15 => ?_)
  refine C.iconst (v := 2) (pc' := 18) at_17 rfl rfl ?_
  refine C.iload (pc' := 20) at_18 rfl rfl ?_
  refine C.ldcI (ow5 hw) (pc' := 22) at_20 rfl ?_
  refine C.iand (pc' := 23) at_22 rfl ?_
  refine C.iload (pc' := 25) at_23 rfl rfl ?_
  refine C.bipush (v := 31) (pc' := 27) at_25 rfl rfl ?_
  refine C.iand (pc' := 28) at_27 rfl ?_
  refine C.iushr (pc' := 29) at_28 rfl rfl ?_
  refine C.calls (w := 0) (own_rm2 l Z a0 hw n0 hO (2 : Int32) (shrI (p3 &&& (2147483647 : Int32)) (sh5 (p3 &&& (31 : Int32))))) (ow6 hw) (ow7 hw) (ow3 hw) (ow8 hw) (pc' := 32) at_29 rfl rfl rfl (by decide) pd__II_I rfl (by decide) (Nat.le_of_eq rfl) (by decide) (by decide) (by decide) (kIe ?_)
  refine C.istore (f := fun v_ => #[.val (.long p1), .second, .val (.long p2), .second, .val (.int p3), .val (.long p4), .second, .val (.long p5), .second, .val (.long v15), .second, .val (.int v_), .unset, .unset, .unset, .unset, .unset, .unset, .unset, .unset, .unset, .unset, .unset, .unset, .unset]) (pc' := 34) at_32 rfl (fun _ => rfl) (fun v32 e32 => ?_)
  refine C.new (ow9 hw) (ow10 hw) (ow11 hw) (pc' := 37) at_34 rfl (by decide) (by decide) (fun h34 b34 hb34 X34 E_b34 D34 => ?_)
  have sz_b34 : hO.size ≤ b34 := by rw [hb34]; exact K.1
  have g_b34 : n0 ≤ b34 := Nat.le_trans Z0 sz_b34
  replace K := K.ext X34
  have F_b34_origin : Fld Z h34 b34 "com/example/elapse/elapse/WheelGeometry" "origin" "J" (.long (0 : Int64)) := D34 (Or.inr (ow19 hw)) pf_J
  have F_b34_tick : Fld Z h34 b34 "com/example/elapse/elapse/WheelGeometry" "tick" "J" (.long (0 : Int64)) := D34 (Or.inr (ow21 hw)) pf_J
  have F_b34_slots : Fld Z h34 b34 "com/example/elapse/elapse/WheelGeometry" "slots" "I" (.int (0 : Int32)) := D34 (Or.inr (ow23 hw)) pf_I
  have F_b34_maxTick : Fld Z h34 b34 "com/example/elapse/elapse/WheelGeometry" "maxTick" "J" (.long (0 : Int64)) := D34 (Or.inr (ow31 hw)) pf_J
  have F_b34_spans : Fld Z h34 b34 "com/example/elapse/elapse/WheelGeometry" "spans" "[J" .null := D34 (Or.inr (ow34 hw)) pf__J
  refine C.dup (pc' := 38) at_37 rfl rfl ?_
  refine C.lloadN (pc' := 39) at_38 rfl rfl ?_
  refine C.lload (pc' := 41) at_39 rfl rfl ?_
  refine C.iload (pc' := 43) at_41 rfl rfl ?_
  refine C.callc (w := 1) (own_rm3 l Z a0 hw n0 h34 b34 p1 v15 v32 (Nat.le_trans Z0 K.1) E_b34 F_b34_origin F_b34_tick F_b34_slots F_b34_maxTick F_b34_spans g_b34 (own_t1 e15) (own_s2 e32)) rfl (ow12 hw) (ow13 hw) (ow11 hw) (ow14 hw) (pc' := 46) at_43 rfl rfl rfl (by decide) pd__JJI_V rfl (by decide) (Nat.le_of_eq rfl) (by decide) (by decide) (by decide) (kV fun h43 q43 => ?_)
  obtain ⟨sp43, Lp43, p43_0, K43, z43_sp43, N43_0, N43_1, N43_2, N43_3, N43_4⟩ := q43
  have ne_b34_sp43 : b34 ≠ sp43 := Nat.ne_of_lt (Nat.lt_of_lt_of_le (exaLt E_b34) z43_sp43)
  have sz_sp43 : hO.size ≤ sp43 := Nat.le_trans K.1 z43_sp43
  have g_sp43 : n0 ≤ sp43 := Nat.le_trans Z0 sz_sp43
  replace E_b34 := E_b34.keep K43
  have F_b34_origin : Fld Z h43 b34 "com/example/elapse/elapse/WheelGeometry" "origin" "J" (.long p1) := N43_0
  have F_b34_tick : Fld Z h43 b34 "com/example/elapse/elapse/WheelGeometry" "tick" "J" (.long v15) := N43_1
  have F_b34_slots : Fld Z h43 b34 "com/example/elapse/elapse/WheelGeometry" "slots" "I" (.int v32) := N43_2
  have F_b34_spans : Fld Z h43 b34 "com/example/elapse/elapse/WheelGeometry" "spans" "[J" (.ref sp43) := N43_3
  have A_sp43 : AJ Z h43 sp43 Lp43 := N43_4
  replace K := K.trans K43 (allS (Or.inr sz_b34) all0)
  obtain ⟨lv, hlv⟩ := lenI p43_0.2.1
  refine C.astore (l' := #[.val (.long p1), .second, .val (.long p2), .second, .val (.int p3), .val (.long p4), .second, .val (.long p5), .second, .val (.long v15), .second, .val (.int v32), .val (.ref b34), .unset, .unset, .unset, .unset, .unset, .unset, .unset, .unset, .unset, .unset, .unset, .unset]) (pc' := 48) at_46 rfl rfl rfl ?_
  refine C.lload (pc' := 50) at_48 rfl rfl ?_
  refine C.lloadN (pc' := 51) at_50 rfl rfl ?_
  refine C.calls (w := 0) (own_rm1 l Z a0 hw n0 h43 p4 p1) (ow1 hw) (ow2 hw) (ow3 hw) (ow4 hw) (pc' := 54) at_51 rfl rfl rfl (by decide) pd__JJ_J rfl (by decide) (Nat.le_of_eq rfl) (by decide) (by decide) (by decide) (kJe ?_)
  refine C.lstore (f := fun v_ => #[.val (.long p1), .second, .val (.long p2), .second, .val (.int p3), .val (.long p4), .second, .val (.long p5), .second, .val (.long v15), .second, .val (.int v32), .val (.ref b34), .val (.long v_), .second, .unset, .unset, .unset, .unset, .unset, .unset, .unset, .unset, .unset, .unset]) (pc' := 56) at_54 rfl (fun _ => rfl) (fun v54 e54 => ?_)
  refine C.lload (pc' := 58) at_56 rfl rfl ?_
  refine C.ldcJ (ow35 hw) (pc' := 61) at_58 rfl ?_
  refine C.land (pc' := 62) at_61 rfl ?_
  refine C.lload (pc' := 64) at_62 rfl rfl ?_
  refine C.ldcJ (ow0 hw) (pc' := 67) at_64 rfl ?_
  refine C.land (pc' := 68) at_67 rfl ?_
  refine C.l2i (pc' := 69) at_68 rfl ?_
  refine C.lushr (pc' := 70) at_69 rfl rfl ?_
  refine C.lstore (f := fun v_ => #[.val (.long p1), .second, .val (.long p2), .second, .val (.int p3), .val (.long p4), .second, .val (.long p5), .second, .val (.long v15), .second, .val (.int v32), .val (.ref b34), .val (.long v54), .second, .val (.long v_), .second, .unset, .unset, .unset, .unset, .unset, .unset, .unset, .unset]) (pc' := 72) at_70 rfl (fun _ => rfl) (fun v70 e70 => ?_)
  refine C.lload (pc' := 74) at_72 rfl rfl ?_
  refine C.lload (pc' := 76) at_74 rfl rfl ?_
  refine C.ladd (pc' := 77) at_76 rfl ?_
  refine C.lstore (f := fun v_ => #[.val (.long p1), .second, .val (.long p2), .second, .val (.int p3), .val (.long p4), .second, .val (.long p5), .second, .val (.long v15), .second, .val (.int v32), .val (.ref b34), .val (.long v54), .second, .val (.long v70), .second, .val (.long v_), .second, .unset, .unset, .unset, .unset, .unset, .unset]) (pc' := 79) at_77 rfl (fun _ => rfl) (fun v77 e77 => ?_)
  refine C.lload (pc' := 81) at_79 rfl rfl ?_
  refine C.lload (pc' := 83) at_81 rfl rfl ?_
  have j92 : ∀ (u92_17 : Int64), ((¬ (v77 < v54) ∧ u92_17 = v77) ∨ (v77 < v54 ∧ u92_17 = (9223372036854775807 : Int64))) → W h43 2 69 92 #[.val (.long p1), .second, .val (.long p2), .second, .val (.int p3), .val (.long p4), .second, .val (.long p5), .second, .val (.long v15), .second, .val (.int v32), .val (.ref b34), .val (.long v54), .second, .val (.long v70), .second, .val (.long u92_17), .second, .unset, .unset, .unset, .unset, .unset, .unset] [] := by
    intro u92_17 x92
    refine C.aload (pc' := 94) at_92 rfl rfl rfl ?_
    refine C.lload (pc' := 96) at_94 rfl rfl ?_
    refine C.callv (w := 0) (own_rm6 l Z a0 hw n0 h43 b34 v54 p1 v15 F_b34_origin F_b34_tick (own_t1 e15) (own_lo e54)) E_b34 (ow36 hw) (ow37 hw) (ow39 hw) (ow38 hw) (ow11 hw) (ow40 hw) (pc' := 99) at_96 rfl rfl rfl (by decide) pd__J_J rfl (by decide) (Nat.le_of_eq rfl) (by decide) (by decide) (by decide) (kJ0 fun r96 q96 => ?_)
    refine C.lstoreX (l' := #[.val (.long p1), .second, .val (.long p2), .second, .val (.int p3), .val (.long p4), .second, .val (.long p5), .second, .val (.long v15), .second, .val (.int v32), .val (.ref b34), .val (.long v54), .second, .val (.long v70), .second, .val (.long u92_17), .second, .val (.long r96), .second, .unset, .unset, .unset, .unset]) (pc' := 101) at_99 rfl rfl ?_
    refine C.aload (pc' := 103) at_101 rfl rfl rfl ?_
    refine C.lload (pc' := 105) at_103 rfl rfl ?_
    refine C.callv (w := 0) (own_rm6 l Z a0 hw n0 h43 b34 u92_17 p1 v15 F_b34_origin F_b34_tick (own_t1 e15) (own_hi (own_lo e54) x92)) E_b34 (ow36 hw) (ow37 hw) (ow39 hw) (ow38 hw) (ow11 hw) (ow40 hw) (pc' := 108) at_105 rfl rfl rfl (by decide) pd__J_J rfl (by decide) (Nat.le_of_eq rfl) (by decide) (by decide) (by decide) (kJ0 fun r105 q105 => ?_)
    refine C.lstoreX (l' := #[.val (.long p1), .second, .val (.long p2), .second, .val (.int p3), .val (.long p4), .second, .val (.long p5), .second, .val (.long v15), .second, .val (.int v32), .val (.ref b34), .val (.long v54), .second, .val (.long v70), .second, .val (.long u92_17), .second, .val (.long r96), .second, .val (.long r105), .second, .unset, .unset]) (pc' := 110) at_108 rfl rfl ?_
    refine C.aload (pc' := 112) at_110 rfl rfl rfl ?_
    refine C.lload (pc' := 114) at_112 rfl rfl ?_
    refine C.lload (pc' := 116) at_114 rfl rfl ?_
    refine C.callv (w := 0) (own_rm7 l Z a0 hw n0 h43 b34 r96 r105 v32 F_b34_slots (own_s2 e32)) E_b34 (ow41 hw) (ow42 hw) (ow44 hw) (ow43 hw) (ow11 hw) (ow45 hw) (pc' := 119) at_116 rfl rfl rfl (by decide) pd__JJ_I rfl (by decide) (Nat.le_of_eq rfl) (by decide) (by decide) (by decide) (kI0 fun r116 q116 => ?_)
    obtain ⟨i, hi, hv⟩ := q116
    have hil := lev_in (sl_ge (own_s2 e32)).1 p43_0 (tick_le (own_lo e54) q96) (tick_le (own_hi (own_lo e54) x92) q105) hv
    refine C.istoreX (l' := #[.val (.long p1), .second, .val (.long p2), .second, .val (.int p3), .val (.long p4), .second, .val (.long p5), .second, .val (.long v15), .second, .val (.int v32), .val (.ref b34), .val (.long v54), .second, .val (.long v70), .second, .val (.long u92_17), .second, .val (.long r96), .second, .val (.long r105), .second, .val (.int r116), .unset]) (pc' := 121) at_119 rfl rfl ?_
    refine C.aload (pc' := 123) at_121 rfl rfl rfl ?_
    refine C.callv (w := 0) (own_rm8 l Z a0 hw n0 h43 b34 sp43 Lp43 lv F_b34_spans A_sp43 hlv) E_b34 (ow46 hw) (ow47 hw) (ow49 hw) (ow48 hw) (ow11 hw) (ow50 hw) (pc' := 126) at_123 rfl rfl rfl (by decide) pd___I rfl (by decide) (Nat.le_of_eq rfl) (by decide) (by decide) (by decide) (kIe ?_)
    refine C.istoreX (l' := #[.val (.long p1), .second, .val (.long p2), .second, .val (.int p3), .val (.long p4), .second, .val (.long p5), .second, .val (.long v15), .second, .val (.int v32), .val (.ref b34), .val (.long v54), .second, .val (.long v70), .second, .val (.long u92_17), .second, .val (.long r96), .second, .val (.long r105), .second, .val (.int r116), .val (.int lv)]) (pc' := 128) at_126 rfl rfl ?_
    refine C.iload (pc' := 130) at_128 rfl rfl ?_
    refine C.if_lt (pc' := 133) (pt := 140) at_130 rfl rfl (fun c130 => absurd c130 (own_n0 hi)) (fun c130 => ?_)
    refine C.iload (pc' := 135) at_133 rfl rfl ?_
    refine C.iload (pc' := 137) at_135 rfl rfl ?_
    refine C.icmp_lt (pc' := 140) (pt := 142) at_137 rfl rfl (fun c137 => ?_) (fun c137 => absurd ((Jvm.OwnP.lt_iff hi hlv).mpr hil) c137)
    refine C.iload (pc' := 144) at_142 rfl rfl ?_
    refine C.iconst (v := 1) (pc' := 145) at_144 rfl rfl ?_
    refine C.iadd (pc' := 146) at_145 rfl ?_
    refine C.iload (pc' := 148) at_146 rfl rfl ?_
    refine C.icmp_ge (pc' := 151) (pt := 177) at_148 rfl rfl (fun c148 => ?_) (fun c148 => ?_)
    · skip
      refine C.iload (pc' := 179) at_177 rfl rfl ?_
      refine C.if_ne (pc' := 182) (pt := 184) at_179 rfl rfl (fun c179 => ?_) (fun c179 => ?_)
      · skip
        refine C.aload (pc' := 186) at_184 rfl rfl rfl ?_
        refine C.lload (pc' := 188) at_186 rfl rfl ?_
        refine C.iload (pc' := 190) at_188 rfl rfl ?_
        refine C.callv (w := 0) (own_rm11 l Z a0 hw n0 h43 b34 r96 r116 v32 sp43 Lp43 _ i F_b34_slots F_b34_spans A_sp43 (own_s2 e32) p43_0 hi hil) E_b34 (ow59 hw) (ow60 hw) (ow62 hw) (ow61 hw) (ow11 hw) (ow63 hw) (pc' := 193) at_190 rfl rfl rfl (by decide) pd__JI_I rfl (by decide) (Nat.le_of_eq rfl) (by decide) (by decide) (by decide) (kI0 fun r190 q190 => ?_)
        refine C.aload (pc' := 195) at_193 rfl rfl rfl ?_
        refine C.lload (pc' := 197) at_195 rfl rfl ?_
        refine C.iload (pc' := 199) at_197 rfl rfl ?_
        refine C.callv (w := 1) (own_rm11 l Z a0 hw n0 h43 b34 r105 r116 v32 sp43 Lp43 _ i F_b34_slots F_b34_spans A_sp43 (own_s2 e32) p43_0 hi hil) E_b34 (ow59 hw) (ow60 hw) (ow62 hw) (ow61 hw) (ow11 hw) (ow63 hw) (pc' := 202) at_199 rfl rfl rfl (by decide) pd__JI_I rfl (by decide) (Nat.le_of_eq rfl) (by decide) (by decide) (by decide) (kI0 fun r199 q199 => ?_)
        refine C.icmp_eq (pc' := 205) (pt := 209) at_202 rfl rfl (fun c202 => absurd c202 (own_d hv hi c179 q190 q199)) (fun c202 => ?_)
        refine C.iconst (v := 1) (pc' := 206) at_205 rfl rfl ?_
        refine C.goto (pc' := 210) at_206 rfl ?_
        refine C.retZ (show ret = some .boolean from rfl) (by decide) at_210 (by decide) (by decide) ⟨_, rfl, rfl⟩
      · skip
        refine C.iconst (v := 1) (pc' := 183) at_182 rfl rfl ?_
        refine C.retZ (show ret = some .boolean from rfl) (by decide) at_183 (by decide) (by decide) ⟨_, rfl, rfl⟩
    · skip
      refine C.aload (pc' := 153) at_151 rfl rfl rfl ?_
      refine C.lload (pc' := 155) at_153 rfl rfl ?_
      refine C.iload (pc' := 157) at_155 rfl rfl ?_
      refine C.iconst (v := 0) (pc' := 158) at_157 rfl rfl ?_
      refine C.callv (w := 0) (own_rm9 l Z a0 hw n0 h43 b34 r96 r116 (0 : Int32) v32 sp43 Lp43 _ i lv F_b34_slots F_b34_spans A_sp43 (own_s2 e32) p43_0 hi hil hlv) E_b34 (ow51 hw) (ow52 hw) (ow54 hw) (ow53 hw) (ow11 hw) (ow55 hw) (pc' := 161) at_158 rfl rfl rfl (by decide) pd__JII_J rfl (by decide) (Nat.le_of_eq rfl) (by decide) (by decide) (by decide) (kJ0 fun r158 q158 => ?_)
      refine C.aload (pc' := 163) at_161 rfl rfl rfl ?_
      refine C.lload (pc' := 165) at_163 rfl rfl ?_
      refine C.iload (pc' := 167) at_165 rfl rfl ?_
      refine C.iconst (v := 0) (pc' := 168) at_167 rfl rfl ?_
      refine C.callv (w := 2) (own_rm9 l Z a0 hw n0 h43 b34 r105 r116 (0 : Int32) v32 sp43 Lp43 _ i lv F_b34_slots F_b34_spans A_sp43 (own_s2 e32) p43_0 hi hil hlv) E_b34 (ow51 hw) (ow52 hw) (ow54 hw) (ow53 hw) (ow11 hw) (ow55 hw) (pc' := 171) at_168 rfl rfl rfl (by decide) pd__JII_J rfl (by decide) (Nat.le_of_eq rfl) (by decide) (by decide) (by decide) (kJ0 fun r168 q168 => ?_)
      refine C.lif_eq (pc' := 175) (pt := 177) at_171 rfl at_172 rfl rfl (fun c171 => ?_) (fun c171 => absurd (own_ss (M := 0) hv q158 q168) c171)
      refine C.iload (pc' := 179) at_177 rfl rfl ?_
      refine C.if_ne (pc' := 182) (pt := 184) at_179 rfl rfl (fun c179 => ?_) (fun c179 => ?_)
      · skip
        refine C.aload (pc' := 186) at_184 rfl rfl rfl ?_
        refine C.lload (pc' := 188) at_186 rfl rfl ?_
        refine C.iload (pc' := 190) at_188 rfl rfl ?_
        refine C.callv (w := 0) (own_rm11 l Z a0 hw n0 h43 b34 r96 r116 v32 sp43 Lp43 _ i F_b34_slots F_b34_spans A_sp43 (own_s2 e32) p43_0 hi hil) E_b34 (ow59 hw) (ow60 hw) (ow62 hw) (ow61 hw) (ow11 hw) (ow63 hw) (pc' := 193) at_190 rfl rfl rfl (by decide) pd__JI_I rfl (by decide) (Nat.le_of_eq rfl) (by decide) (by decide) (by decide) (kI0 fun r190 q190 => ?_)
        refine C.aload (pc' := 195) at_193 rfl rfl rfl ?_
        refine C.lload (pc' := 197) at_195 rfl rfl ?_
        refine C.iload (pc' := 199) at_197 rfl rfl ?_
        refine C.callv (w := 1) (own_rm11 l Z a0 hw n0 h43 b34 r105 r116 v32 sp43 Lp43 _ i F_b34_slots F_b34_spans A_sp43 (own_s2 e32) p43_0 hi hil) E_b34 (ow59 hw) (ow60 hw) (ow62 hw) (ow61 hw) (ow11 hw) (ow63 hw) (pc' := 202) at_199 rfl rfl rfl (by decide) pd__JI_I rfl (by decide) (Nat.le_of_eq rfl) (by decide) (by decide) (by decide) (kI0 fun r199 q199 => ?_)
        refine C.icmp_eq (pc' := 205) (pt := 209) at_202 rfl rfl (fun c202 => absurd c202 (own_d hv hi c179 q190 q199)) (fun c202 => ?_)
        refine C.iconst (v := 1) (pc' := 206) at_205 rfl rfl ?_
        refine C.goto (pc' := 210) at_206 rfl ?_
        refine C.retZ (show ret = some .boolean from rfl) (by decide) at_210 (by decide) (by decide) ⟨_, rfl, rfl⟩
      · skip
        refine C.iconst (v := 1) (pc' := 183) at_182 rfl rfl ?_
        refine C.retZ (show ret = some .boolean from rfl) (by decide) at_183 (by decide) (by decide) ⟨_, rfl, rfl⟩
  refine C.lif_ge (pc' := 87) (pt := 92) at_83 rfl at_84 rfl rfl (fun c83 => ?_) (fun c83 => ?_)
  · skip
    exact C.mono (by decide) (by decide) (j92 _ (Or.inl ⟨c83, rfl⟩))
  · skip
    refine C.ldcJ (ow35 hw) (pc' := 90) at_87 rfl ?_
    refine C.lstoreX (l' := #[.val (.long p1), .second, .val (.long p2), .second, .val (.int p3), .val (.long p4), .second, .val (.long p5), .second, .val (.long v15), .second, .val (.int v32), .val (.ref b34), .val (.long v54), .second, .val (.long v70), .second, .val (.long (9223372036854775807 : Int64)), .second, .unset, .unset, .unset, .unset, .unset, .unset]) (pc' := 92) at_90 rfl rfl ?_
    exact C.mono (by decide) (by decide) (j92 _ (Or.inr ⟨c83, rfl⟩))
set_option maxRecDepth 65536 in
set_option maxHeartbeats 40000000 in
theorem comes_1 {Post : Tables → Env → Array Value → State → Outcome → State → Prop} (hpost : ∀ tb e args s v u, (limb_1_1.after args s (.returned v) u = true ∧ limb_1_2.after args s (.returned v) u = true ∧ True) → FrameEnd s (.returned v) u (Jvm.fieldLocs frame_1_writes args s ++ Jvm.arrayLocs frame_1_arrays args s ++ Jvm.staticLocs frame_1_statics s) 16 256 → Post tb e args s (.returned v) u) :
    ArmFor flags0 classFile x code maxLocals ret World_1 tables_1 room_1 Calls_1 rest_1 Pre_1 Post := by
  intro l hfl _ _ p e ha hc hk s m args below hf hA hF happ hP
  obtain ⟨hcalls, hrest, hpre⟩ := hP
  obtain ⟨-, -, -, hnamed, -, -, -, hat⟩ := (Spec.applies_iff hf).mp happ
  obtain ⟨hg, hn⟩ := and_e (Cond.before_iff.mp (show (Jvm.Cond.and given_1 narrow_1).before args s = true from hpre))
  obtain ⟨g0, t0⟩ := and_e hg
  obtain ⟨k0, t1⟩ := and_e t0
  obtain ⟨k1, t2⟩ := and_e t1
  obtain ⟨k2, t3⟩ := and_e t2
  obtain ⟨k3, t4⟩ := and_e t3
  obtain ⟨w0_, w1_, w2_, w3_, w4_, rfl⟩ : ∃ w0_ w1_ w2_ w3_ w4_ : Value, args = #[w0_, w1_, w2_, w3_, w4_] := by
    have hs : args.size = 5 := by simpa [Cond.value, given_1] using g0
    obtain ⟨L⟩ := args
    match L, hs with
    | [w0_, w1_, w2_, w3_, w4_], _ => exact ⟨w0_, w1_, w2_, w3_, w4_, rfl⟩
  have hw := fun d (hd : d ∈ tables_1) => atoms_spec (ws := Jvm.Cond.code x code maxLocals ret :: tables_1) hat d (List.mem_cons_of_mem _ hd)
  obtain ⟨i0_, e0_⟩ := isL_v k0
  obtain rfl : w0_ = (.long i0_) := Option.some.inj e0_
  obtain ⟨i1_, e1_⟩ := isL_v k1
  obtain rfl : w1_ = (.long i1_) := Option.some.inj e1_
  obtain ⟨i2_, e2_⟩ := is_v k2
  obtain rfl : w2_ = (.int i2_) := Option.some.inj e2_
  obtain ⟨i3_, e3_⟩ := isL_v k3
  obtain rfl : w3_ = (.long i3_) := Option.some.inj e3_
  obtain ⟨i4_, e4_⟩ := isL_v t4
  obtain rfl : w4_ = (.long i4_) := Option.some.inj e4_
  obtain ⟨n, o, h1, h2, h3, _, L, rfl, ⟨N, _, rfl, rfl⟩, hq⟩ := own_rm0 l s _ hw s.heap.size s.heap i0_ i1_ i2_ i3_ i4_  (Nat.le_refl _)  tables_1 p e ha hc hk s m _ below hf ((Spec.applies_iff_loose hf).mp happ).1 ⟨rfl, State.Warmed39.refl s, rfl⟩ trivial
  refine ⟨n, _, h1, h2, h3, hpost _ _ _ _ _ _ ⟨Cond.after_iff.mpr rfl, Cond.after_iff.mpr (eq_i res_at (Term.int_eval (1)) rfl), trivial⟩ ⟨hq.1, hq.2.1, (hq.2.2.sift fun y hy => Or.inr (N y hy)).mono (by decide) (by decide)⟩⟩
theorem main_1_1 : Claimed_1_1 := comes_1 fun _ _ _ _ _ _ h hF => ⟨h.1, hF⟩
theorem main_1_2 : Claimed_1_2 := comes_1 fun _ _ _ _ _ _ h hF => ⟨h.2.1, hF⟩
end Jvm.Pilot.@@N@@
namespace Jvm.Pilot.@@N@@
open Jvm Jvm.ClassFile Sem Op Lib Jvm.Free Jvm.Stand Jvm.Pilot.@@N@@.Jvm.D
/-! MADE BY PROGRAM (witnessworld.py) out of the Statement's table words and the real class files: 17 classes; the members and pool entries that the words name. The judged class is class 1, her method 1. -/
namespace start1
open Jvm.ClassFile
def u (s : String) : CpInfo := .utf8 (stringToUtf16 s)
/-- a pool by its gaps: so many unusable entries, then the entry; so many at the end -/
def gap : Nat → List CpInfo → List CpInfo
  | 0, r => r
  | n + 1, r => .unusable :: gap n r
def poolList (es : List (Nat × CpInfo)) (last : Nat) : List CpInfo := es.foldr (fun e r => gap e.1 (e.2 :: r)) (gap last [])
def pool (es : List (Nat × CpInfo)) (last : Nat) : Array CpInfo := ⟨poolList es last⟩
def fileOf (pool : Array CpInfo) (this : Nat) (attrs : Array Attribute := #[]) (ms : Array MethodInfo := #[]) (fl : Nat := 33) (sup : Nat := 0) (ifs : Array Nat := #[]) (fds : Array FieldInfo := #[]) : ClassFile where
  minorVersion := 0
  majorVersion := 65
  constantPool := pool
  accessFlags := fl
  thisClass := this
  superClass := sup
  interfaces := ifs
  fields := fds
  methods := ms
  attributes := attrs
def plain (name : String) (sup : Option ClassId) : Class where
  name := name
  kind := .ordinary
  loader := none
  accessFlags := 33
  super := sup
  interfaces := #[]
  cf := none
  fields := #[]
  methods := #[]
  instanceTypes := #[]
  staticTypes := #[]
  resolved := #[]
  callSites := []
  init := .initialized
  statics := none
  mirror := none

def pool0 : Array CpInfo := pool [(5, u "<init>"), (0, u "()V"), (1, .class_ 10), (1, u "java/lang/Object")] 113

def k0c0 : Code := { maxStack := 0, maxLocals := 1, code := object_method_1_code, exceptionTable := #[], attributes := #[] }
def k0m0 : Method := { name := "<init>", desc := "()V", sig := { parameters := [], returnType := none }, accessFlags := 1, code := some k0c0 }
/-- java/lang/Object -/
def k0 : Class := { plain "java/lang/Object" none with
  accessFlags := 33
  interfaces := #[]
  cf := some (fileOf pool0 8 #[] #[{ accessFlags := 1, nameIndex := 5, descriptorIndex := 6, attributes := #[] }] 33 0 #[] #[])
  fields := #[]
  methods := #[k0m0]
  instanceTypes := #[]
  staticTypes := #[]
  resolved := Array.replicate 124 none
  statics := none }

def pool1 : Array CpInfo := pool [(2, .class_ 4), (1, u "java/lang/Object"), (0, u "<init>"), (0, u "()V"), (0, .long 63), (1, .methodref 10 11), (0, .class_ 12), (0, .nameAndType 13 14), (0, u "java/lang/Math"), (0, u "max"), (0, u "(JJ)J"), (0, .integer 2147483647), (0, .methodref 10 17), (0, .nameAndType 13 18), (0, u "(II)I"), (0, .class_ 20), (0, u "com/example/elapse/elapse/WheelGeometry"), (0, .methodref 19 22), (0, .nameAndType 5 23), (0, u "(JJI)V"), (2, .long 9223372036854775807), (1, .methodref 19 29), (0, .nameAndType 30 31), (0, u "tickOf"), (0, u "(J)J"), (0, .methodref 19 33), (0, .nameAndType 34 35), (0, u "levelOf"), (0, u "(JJ)I"), (0, .methodref 19 37), (0, .nameAndType 38 39), (0, u "levels"), (0, u "()I"), (0, .methodref 19 41), (0, .nameAndType 42 43), (0, u "slotStart"), (0, u "(JII)J"), (0, .methodref 19 45), (0, .nameAndType 46 47), (0, u "slotOf"), (0, u "(JI)I"), (0, .class_ 49), (0, u "com/example/elapse/elapse/WheelGeometryLevelOfPinLaw"), (2, u "law"), (0, u "(JJIJJ)Z")] 3

def k1m0 : Method := { name := "<init>", desc := "()V", sig := { parameters := [], returnType := none }, accessFlags := 1, code := none }
def k1c1 : Code := { maxStack := 8, maxLocals := 25, code := code, exceptionTable := #[], attributes := #[] }
def k1m1 : Method := { name := "law", desc := "(JJIJJ)Z", sig := { parameters := [.long, .long, .int, .long, .long], returnType := some .boolean }, accessFlags := 9, code := some k1c1 }
/-- com/example/elapse/elapse/WheelGeometryLevelOfPinLaw -/
def k1 : Class := { plain "com/example/elapse/elapse/WheelGeometryLevelOfPinLaw" (some 0) with
  accessFlags := 49
  interfaces := #[]
  cf := some (fileOf pool1 48 #[] #[{ accessFlags := 1, nameIndex := 5, descriptorIndex := 6, attributes := #[] }, { accessFlags := 9, nameIndex := 52, descriptorIndex := 53, attributes := #[] }] 49 2 #[] #[])
  fields := #[]
  methods := #[k1m0, k1m1]
  instanceTypes := #[]
  staticTypes := #[]
  resolved := Array.replicate 57 none
  statics := none }

def pool2 : Array CpInfo := pool [(1, .class_ 2), (0, u "java/lang/Math"), (1, .class_ 6), (1, u "java/lang/Object"), (0, u "<init>"), (0, u "()V"), (89, .class_ 100), (1, u "java/lang/Math$RandomNumberGeneratorHolder"), (20, u "(JJ)J"), (50, u "negativeZeroFloatBits"), (0, u "J"), (2, u "negativeZeroDoubleBits"), (21, u "max"), (46, u "$assertionsDisabled"), (0, u "Z"), (88, u "(II)I"), (2, u "twoToTheDoubleScaleDown"), (0, u "D"), (4, u "twoToTheDoubleScaleUp"), (9, u "E"), (3, u "PI"), (2, u "TAU"), (2, u "DEGREES_TO_RADIANS"), (0, u "RADIANS_TO_DEGREES")] 94

def k2m0 : Method := { name := "<init>", desc := "()V", sig := { parameters := [], returnType := none }, accessFlags := 2, code := none }
def k2c1 : Code := { maxStack := 2, maxLocals := 2, code := jdk_29_method_65_code, exceptionTable := #[], attributes := #[] }
def k2m1 : Method := { name := "max", desc := "(II)I", sig := { parameters := [.int, .int], returnType := some .int }, accessFlags := 9, code := some k2c1 }
def k2c2 : Code := { maxStack := 4, maxLocals := 4, code := jdk_29_method_66_code, exceptionTable := #[], attributes := #[] }
def k2m2 : Method := { name := "max", desc := "(JJ)J", sig := { parameters := [.long, .long], returnType := some .long }, accessFlags := 9, code := some k2c2 }
/-- java/lang/Math -/
def k2 : Class := { plain "java/lang/Math" (some 0) with
  accessFlags := 49
  interfaces := #[]
  cf := some (fileOf pool2 1 #[.nestMembers #[98]] #[{ accessFlags := 2, nameIndex := 7, descriptorIndex := 8, attributes := #[] }, { accessFlags := 9, nameIndex := 198, descriptorIndex := 335, attributes := #[] }, { accessFlags := 9, nameIndex := 198, descriptorIndex := 121, attributes := #[] }] 49 4 #[] #[{ accessFlags := 25, nameIndex := 354, descriptorIndex := 339, attributes := #[] }, { accessFlags := 25, nameIndex := 358, descriptorIndex := 339, attributes := #[] }, { accessFlags := 25, nameIndex := 361, descriptorIndex := 339, attributes := #[] }, { accessFlags := 26, nameIndex := 364, descriptorIndex := 339, attributes := #[] }, { accessFlags := 26, nameIndex := 365, descriptorIndex := 339, attributes := #[] }, { accessFlags := 26, nameIndex := 172, descriptorIndex := 173, attributes := #[] }, { accessFlags := 26, nameIndex := 176, descriptorIndex := 173, attributes := #[] }, { accessFlags := 8, nameIndex := 344, descriptorIndex := 339, attributes := #[] }, { accessFlags := 8, nameIndex := 338, descriptorIndex := 339, attributes := #[] }, { accessFlags := 4120, nameIndex := 245, descriptorIndex := 246, attributes := #[] }])
  fields := #[{ name := "E", type := .double, accessFlags := 25, slot := 0, constantValue := 0 }, { name := "PI", type := .double, accessFlags := 25, slot := 1, constantValue := 0 }, { name := "TAU", type := .double, accessFlags := 25, slot := 2, constantValue := 0 }, { name := "DEGREES_TO_RADIANS", type := .double, accessFlags := 26, slot := 3, constantValue := 0 }, { name := "RADIANS_TO_DEGREES", type := .double, accessFlags := 26, slot := 4, constantValue := 0 }, { name := "negativeZeroFloatBits", type := .long, accessFlags := 26, slot := 5, constantValue := 0 }, { name := "negativeZeroDoubleBits", type := .long, accessFlags := 26, slot := 6, constantValue := 0 }, { name := "twoToTheDoubleScaleUp", type := .double, accessFlags := 8, slot := 7, constantValue := 0 }, { name := "twoToTheDoubleScaleDown", type := .double, accessFlags := 8, slot := 8, constantValue := 0 }, { name := "$assertionsDisabled", type := .boolean, accessFlags := 4120, slot := 9, constantValue := 0 }]
  methods := #[k2m0, k2m1, k2m2]
  instanceTypes := #[]
  staticTypes := #[.double, .double, .double, .double, .double, .long, .long, .double, .double, .boolean]
  resolved := Array.replicate 460 none
  statics := none }

def pool3 : Array CpInfo := pool [(1, .methodref 2 3), (0, .class_ 4), (0, .nameAndType 5 6), (0, u "java/lang/Object"), (0, u "<init>"), (0, u "()V"), (12, .fieldref 20 21), (0, .class_ 22), (0, .nameAndType 23 24), (0, u "com/example/elapse/elapse/WheelGeometry"), (0, u "origin"), (0, u "J"), (0, .fieldref 20 26), (0, .nameAndType 27 24), (0, u "tick"), (0, .fieldref 20 29), (0, .nameAndType 30 31), (0, u "slots"), (0, u "I"), (0, .class_ 33), (0, u "java/lang/Long"), (0, .long 9223372036854775807), (1, .methodref 32 37), (0, .nameAndType 38 39), (0, u "divideUnsigned"), (0, u "(JJ)J"), (0, .fieldref 20 41), (0, .nameAndType 42 24), (0, u "maxTick"), (0, .fieldref 20 44), (0, .nameAndType 45 46), (0, u "spans"), (0, u "[J"), (6, u "(JJ)I"), (0, .methodref 32 55), (0, .nameAndType 56 39), (0, u "remainderUnsigned"), (0, u "(JJI)V"), (3, u "levels"), (0, u "()I"), (0, u "tickOf"), (0, u "(J)J"), (1, u "levelOf"), (0, u "slotOf"), (0, u "(JI)I"), (0, u "slotStart"), (0, u "(JII)J")] 21

def k3c0 : Code := { maxStack := 6, maxLocals := 9, code := prog_5_method_1_code, exceptionTable := #[], attributes := #[] }
def k3m0 : Method := { name := "<init>", desc := "(JJI)V", sig := { parameters := [.long, .long, .int], returnType := none }, accessFlags := 0, code := some k3c0 }
def k3c1 : Code := { maxStack := 1, maxLocals := 1, code := prog_5_method_2_code, exceptionTable := #[], attributes := #[] }
def k3m1 : Method := { name := "levels", desc := "()I", sig := { parameters := [], returnType := some .int }, accessFlags := 0, code := some k3c1 }
def k3c2 : Code := { maxStack := 6, maxLocals := 3, code := prog_5_method_4_code, exceptionTable := #[], attributes := #[] }
def k3m2 : Method := { name := "tickOf", desc := "(J)J", sig := { parameters := [.long], returnType := some .long }, accessFlags := 0, code := some k3c2 }
def k3c3 : Code := { maxStack := 4, maxLocals := 10, code := prog_5_method_6_code, exceptionTable := #[], attributes := #[] }
def k3m3 : Method := { name := "levelOf", desc := "(JJ)I", sig := { parameters := [.long, .long], returnType := some .int }, accessFlags := 0, code := some k3c3 }
def k3c4 : Code := { maxStack := 4, maxLocals := 4, code := prog_5_method_7_code, exceptionTable := #[], attributes := #[] }
def k3m4 : Method := { name := "slotOf", desc := "(JI)I", sig := { parameters := [.long, .int], returnType := some .int }, accessFlags := 0, code := some k3c4 }
def k3c5 : Code := { maxStack := 7, maxLocals := 7, code := prog_5_method_8_code, exceptionTable := #[], attributes := #[] }
def k3m5 : Method := { name := "slotStart", desc := "(JII)J", sig := { parameters := [.long, .int, .int], returnType := some .long }, accessFlags := 0, code := some k3c5 }
/-- com/example/elapse/elapse/WheelGeometry -/
def k3 : Class := { plain "com/example/elapse/elapse/WheelGeometry" (some 0) with
  accessFlags := 32
  interfaces := #[]
  cf := some (fileOf pool3 20 #[] #[{ accessFlags := 0, nameIndex := 5, descriptorIndex := 57, attributes := #[] }, { accessFlags := 0, nameIndex := 61, descriptorIndex := 62, attributes := #[] }, { accessFlags := 0, nameIndex := 63, descriptorIndex := 64, attributes := #[] }, { accessFlags := 0, nameIndex := 66, descriptorIndex := 53, attributes := #[] }, { accessFlags := 0, nameIndex := 67, descriptorIndex := 68, attributes := #[] }, { accessFlags := 0, nameIndex := 69, descriptorIndex := 70, attributes := #[] }] 32 2 #[] #[{ accessFlags := 18, nameIndex := 23, descriptorIndex := 24, attributes := #[] }, { accessFlags := 18, nameIndex := 27, descriptorIndex := 24, attributes := #[] }, { accessFlags := 18, nameIndex := 30, descriptorIndex := 31, attributes := #[] }, { accessFlags := 18, nameIndex := 42, descriptorIndex := 24, attributes := #[] }, { accessFlags := 18, nameIndex := 45, descriptorIndex := 46, attributes := #[] }])
  fields := #[{ name := "origin", type := .long, accessFlags := 18, slot := 0, constantValue := 0 }, { name := "tick", type := .long, accessFlags := 18, slot := 1, constantValue := 0 }, { name := "slots", type := .int, accessFlags := 18, slot := 2, constantValue := 0 }, { name := "maxTick", type := .long, accessFlags := 18, slot := 3, constantValue := 0 }, { name := "spans", type := (.array .long), accessFlags := 18, slot := 4, constantValue := 0 }]
  methods := #[k3m0, k3m1, k3m2, k3m3, k3m4, k3m5]
  instanceTypes := #[.long, .long, .int, .long, (.array .long)]
  staticTypes := #[]
  resolved := Array.replicate 92 none
  statics := none }

def pool4 : Array CpInfo := pool [(1, .class_ 2), (0, u "java/io/Serializable"), (0, .class_ 4), (0, u "java/lang/Object")] 2

/-- java/io/Serializable -/
def k4 : Class := { plain "java/io/Serializable" (some 0) with
  accessFlags := 1537
  interfaces := #[]
  cf := some (fileOf pool4 1 #[] #[] 1537 3 #[] #[])
  fields := #[]
  methods := #[]
  instanceTypes := #[]
  staticTypes := #[]
  resolved := Array.replicate 7 none
  statics := none }

def pool5 : Array CpInfo := pool [(2, .class_ 4), (1, u "java/lang/Object"), (0, u "<init>"), (0, u "()V"), (1, .class_ 10), (1, u "java/lang/Number"), (2, .class_ 14), (0, u "java/io/Serializable"), (0, u "serialVersionUID"), (0, u "J")] 20

def k5m0 : Method := { name := "<init>", desc := "()V", sig := { parameters := [], returnType := none }, accessFlags := 1, code := none }
/-- java/lang/Number -/
def k5 : Class := { plain "java/lang/Number" (some 0) with
  accessFlags := 1057
  interfaces := #[4]
  cf := some (fileOf pool5 8 #[] #[{ accessFlags := 1, nameIndex := 5, descriptorIndex := 6, attributes := #[] }] 1057 2 #[13] #[{ accessFlags := 26, nameIndex := 15, descriptorIndex := 16, attributes := #[] }])
  fields := #[{ name := "serialVersionUID", type := .long, accessFlags := 26, slot := 0, constantValue := 0 }]
  methods := #[k5m0]
  instanceTypes := #[]
  staticTypes := #[.long]
  resolved := Array.replicate 37 none
  statics := none }

def pool6 : Array CpInfo := pool [(1, .class_ 2), (0, u "java/lang/Comparable"), (0, .class_ 4), (0, u "java/lang/Object")] 7

/-- java/lang/Comparable -/
def k6 : Class := { plain "java/lang/Comparable" (some 0) with
  accessFlags := 1537
  interfaces := #[]
  cf := some (fileOf pool6 1 #[] #[] 1537 3 #[] #[])
  fields := #[]
  methods := #[]
  instanceTypes := #[]
  staticTypes := #[]
  resolved := Array.replicate 12 none
  statics := none }

def pool7 : Array CpInfo := pool [(1, .class_ 2), (0, u "java/lang/constant/Constable"), (0, .class_ 4), (0, u "java/lang/Object")] 6

/-- java/lang/constant/Constable -/
def k7 : Class := { plain "java/lang/constant/Constable" (some 0) with
  accessFlags := 1537
  interfaces := #[]
  cf := some (fileOf pool7 1 #[] #[] 1537 3 #[] #[])
  fields := #[]
  methods := #[]
  instanceTypes := #[]
  staticTypes := #[]
  resolved := Array.replicate 11 none
  statics := none }

def pool8 : Array CpInfo := pool [(1, .class_ 2), (0, u "java/lang/constant/ConstantDesc"), (0, .class_ 4), (0, u "java/lang/Object")] 32

/-- java/lang/constant/ConstantDesc -/
def k8 : Class := { plain "java/lang/constant/ConstantDesc" (some 0) with
  accessFlags := 1537
  interfaces := #[]
  cf := some (fileOf pool8 1 #[] #[] 1537 3 #[] #[])
  fields := #[]
  methods := #[]
  instanceTypes := #[]
  staticTypes := #[]
  resolved := Array.replicate 37 none
  statics := none }

def pool9 : Array CpInfo := pool [(1, .class_ 2), (0, u "java/lang/Long"), (232, .class_ 237), (1, u "java/lang/Long$LongCache"), (33, .class_ 272), (0, u "java/lang/Number"), (2, u "value"), (0, u "J"), (29, .long 18446744073709551615), (26, u "(JJ)J"), (27, u "TYPE"), (0, u "Ljava/lang/Class;"), (0, .class_ 364), (0, u "java/lang/Comparable"), (0, .class_ 366), (0, u "java/lang/constant/Constable"), (0, .class_ 368), (0, u "java/lang/constant/ConstantDesc"), (0, u "MIN_VALUE"), (1, u "MAX_VALUE"), (4, u "SIZE"), (0, u "I"), (1, u "BYTES"), (1, u "serialVersionUID"), (88, u "divideUnsigned"), (2, u "remainderUnsigned")] 50

def k9c0 : Code := { maxStack := 8, maxLocals := 8, code := jdk_35_method_44_code, exceptionTable := #[], attributes := #[] }
def k9m0 : Method := { name := "divideUnsigned", desc := "(JJ)J", sig := { parameters := [.long, .long], returnType := some .long }, accessFlags := 9, code := some k9c0 }
def k9c1 : Code := { maxStack := 8, maxLocals := 8, code := jdk_35_method_45_code, exceptionTable := #[], attributes := #[] }
def k9m1 : Method := { name := "remainderUnsigned", desc := "(JJ)J", sig := { parameters := [.long, .long], returnType := some .long }, accessFlags := 9, code := some k9c1 }
/-- java/lang/Long -/
def k9 : Class := { plain "java/lang/Long" (some 5) with
  accessFlags := 49
  interfaces := #[6, 7, 8]
  cf := some (fileOf pool9 1 #[.nestMembers #[235]] #[{ accessFlags := 9, nameIndex := 470, descriptorIndex := 333, attributes := #[] }, { accessFlags := 9, nameIndex := 473, descriptorIndex := 333, attributes := #[] }] 49 271 #[363, 365, 367] #[{ accessFlags := 25, nameIndex := 369, descriptorIndex := 276, attributes := #[] }, { accessFlags := 25, nameIndex := 371, descriptorIndex := 276, attributes := #[] }, { accessFlags := 25, nameIndex := 361, descriptorIndex := 362, attributes := #[] }, { accessFlags := 18, nameIndex := 275, descriptorIndex := 276, attributes := #[] }, { accessFlags := 25, nameIndex := 376, descriptorIndex := 377, attributes := #[] }, { accessFlags := 25, nameIndex := 379, descriptorIndex := 377, attributes := #[] }, { accessFlags := 26, nameIndex := 381, descriptorIndex := 276, attributes := #[] }])
  fields := #[{ name := "MIN_VALUE", type := .long, accessFlags := 25, slot := 0, constantValue := 0 }, { name := "MAX_VALUE", type := .long, accessFlags := 25, slot := 1, constantValue := 0 }, { name := "TYPE", type := (.object "java/lang/Class"), accessFlags := 25, slot := 2, constantValue := 0 }, { name := "value", type := .long, accessFlags := 18, slot := 0, constantValue := 0 }, { name := "SIZE", type := .int, accessFlags := 25, slot := 3, constantValue := 0 }, { name := "BYTES", type := .int, accessFlags := 25, slot := 4, constantValue := 0 }, { name := "serialVersionUID", type := .long, accessFlags := 26, slot := 5, constantValue := 0 }]
  methods := #[k9m0, k9m1]
  instanceTypes := #[.long]
  staticTypes := #[.long, .long, (.object "java/lang/Class"), .int, .int, .long]
  resolved := Array.replicate 524 none
  statics := none }

def pool10 : Array CpInfo := pool [(1, u "java/lang/Cloneable"), (0, .class_ 1), (0, u "java/lang/Object"), (0, .class_ 3)] 3

/-- java/lang/Cloneable -/
def k10 : Class := { plain "java/lang/Cloneable" (some 0) with
  accessFlags := 1537
  interfaces := #[]
  cf := some (fileOf pool10 2 #[] #[] 1537 4 #[] #[])
  fields := #[]
  methods := #[]
  instanceTypes := #[]
  staticTypes := #[]
  resolved := Array.replicate 8 none
  statics := none }

/-- the primitive byte -/
def k11 : Class := { plain "byte" none with kind := .primitive 'B', accessFlags := 0x411 }
/-- [B -/
def k12 : Class := { plain "[B" (some 0) with kind := .array 11 .byte, interfaces := #[10, 4], accessFlags := 1041 }

/-- the primitive int -/
def k13 : Class := { plain "int" none with kind := .primitive 'I', accessFlags := 0x411 }
/-- [I -/
def k14 : Class := { plain "[I" (some 0) with kind := .array 13 .int, interfaces := #[10, 4], accessFlags := 1041 }

/-- the primitive long -/
def k15 : Class := { plain "long" none with kind := .primitive 'J', accessFlags := 0x411 }
/-- [J -/
def k16 : Class := { plain "[J" (some 0) with kind := .array 15 .long, interfaces := #[10, 4], accessFlags := 1041 }

def heap : Heap := #[]
def classes : Array Class := #[k0, k1, k2, k3, k4, k5, k6, k7, k8, k9, k10, k11, k12, k13, k14, k15, k16]
def interned : List (Array UInt16 × Addr) := []
def slotsUsed : Nat := 0
def theMethod : MethodId := ⟨1, 1⟩
def args0 : Array Value := #[.long 5, .long 5, .int 3, .long 7, .long 9]
def aboutOver (below : List Frame) : State where
  vm := { classes := classes, interned := interned.toArray }
  heap := heap
  slotsUsed := slotsUsed
  threads := #[{ frames := .invoking theMethod args0 :: below }]
def below0 : List Frame := [.native { method := ⟨0, 0⟩, args := #[] }]
def about1 : State := aboutOver below0
def p0 : Program := .bare "" "" ""
def e0 : Env := launch0.env 0 0 0
theorem w_frames : about1.frames = Frame.invoking theMethod args0 :: below0 := rfl
set_option maxRecDepth 65536 in
theorem w_args : argsFit about1.vm theMethod args0 = true := by decide +kernel
set_option maxRecDepth 65536 in
theorem w_heap : heapFits about1 = true := by decide +kernel
set_option maxRecDepth 65536 in
theorem w_runnable : about1.curStatus? = some .runnable := by decide +kernel
set_option maxRecDepth 65536 in
theorem w_alone : about1.alone = true := by decide +kernel
set_option maxRecDepth 65536 in
theorem w_named : about1.methodNamed? x = some theMethod := by decide +kernel
set_option maxRecDepth 65536 in
theorem w_hears : about1.hears theMethod below0 = true := by decide +kernel
set_option maxRecDepth 65536 in
theorem w_ripe : about1.ripe theMethod args0 below0 = true := by decide +kernel
theorem w_running : about1.status = .running := rfl
set_option maxRecDepth 65536 in
theorem w_room : about1.hasRoom e0.platform room_1 = true :=
  launch0.hasRoom_least _ room_1 (by decide +kernel) (by decide +kernel) (by decide +kernel) (by decide +kernel) (by decide +kernel) (by decide +kernel)
theorem allAtoms_all (ts : List Jvm.Cond) (a : Array Jvm.Value) (st : Jvm.State) : (allAtoms ts).before a st = ts.all (fun c => c.before a st) := by
  induction ts with
  | nil => rfl
  | cons c t ih =>
    show (Jvm.Cond.and c (allAtoms t)).before a st = _
    rw [Jvm.Cond.before_and, ih, List.all_cons]
def words1 : List Jvm.Cond := Jvm.Cond.code x code maxLocals ret :: tables_1
/-- a 'code' word, met by the world's own term for the bytes: nothing is compared byte by byte -/
theorem code_word {y : MethodName} {bytes : ByteArray} {mx : Nat} {rt : Option FieldType} {a : Array Value} {s : State} {m : MethodId} {meth : Method} {c : Code} (h1 : s.methodNamed? y = some m) (h2 : s.vm.method? m = some meth) (h3 : meth.code = some c) (h4 : c.code = bytes)
    (h5 : (c.maxLocals == mx && c.exceptionTable.isEmpty && decide (c.maxStack ≤ mostOperands) && decide (meth.sig.returnType = rt) && !meth.locks && decide (parseMethodDescriptor y.desc = some meth.sig)) = true) : (Jvm.Cond.code y bytes mx rt).before a s = true := by
  simp only [Bool.and_eq_true, beq_iff_eq, Bool.not_eq_true', decide_eq_true_eq] at h5
  obtain ⟨⟨⟨⟨⟨g1, g2⟩, g3⟩, g4⟩, g5⟩, g6⟩ := h5
  simp [Cond.before, Cond.holds, Cond.value, h1, h2, h3, h4, g1, g2, g3, g4, g5, g6]
def isCode : Jvm.Cond → Bool
  | .code _ _ _ _ => true
  | _ => false
theorem all_split {L : List Jvm.Cond} {P : Jvm.Cond → Bool} (h1 : L.all (fun c => isCode c || P c) = true) (h2 : ∀ c ∈ L.filter isCode, P c = true) : L.all P = true := by
  refine List.all_eq_true.mpr fun c hc => ?_
  have h := List.all_eq_true.mp h1 c hc
  rcases Bool.eq_false_or_eq_true (isCode c) with hi | hi
  · exact h2 c (List.mem_filter.mpr ⟨hc, hi⟩)
  · simpa [hi] using h
set_option maxRecDepth 65536 in
theorem w_c0 : (Jvm.Cond.code x code maxLocals ret).before args0 about1 = true := code_word (m := ⟨1, 1⟩) (meth := k1m1) (c := k1c1) (by decide +kernel) rfl rfl rfl (by decide +kernel)
set_option maxRecDepth 65536 in
theorem w_c1 : (Jvm.Cond.code ({ cls := "java/lang/Math", name := "max", desc := "(JJ)J" } : Jvm.MethodName) jdk_29_method_66_code (4 : Nat) (Option.some Jvm.ClassFile.FieldType.long)).before args0 about1 = true := code_word (m := ⟨2, 2⟩) (meth := k2m2) (c := k2c2) (by decide +kernel) rfl rfl rfl (by decide +kernel)
set_option maxRecDepth 65536 in
theorem w_c2 : (Jvm.Cond.code ({ cls := "java/lang/Math", name := "max", desc := "(II)I" } : Jvm.MethodName) jdk_29_method_65_code (2 : Nat) (Option.some Jvm.ClassFile.FieldType.int)).before args0 about1 = true := code_word (m := ⟨2, 1⟩) (meth := k2m1) (c := k2c1) (by decide +kernel) rfl rfl rfl (by decide +kernel)
set_option maxRecDepth 65536 in
theorem w_c3 : (Jvm.Cond.code ({ cls := "com/example/elapse/elapse/WheelGeometry", name := "<init>", desc := "(JJI)V" } : Jvm.MethodName) prog_5_method_1_code (9 : Nat) (Option.none : Option Jvm.ClassFile.FieldType)).before args0 about1 = true := code_word (m := ⟨3, 0⟩) (meth := k3m0) (c := k3c0) (by decide +kernel) rfl rfl rfl (by decide +kernel)
set_option maxRecDepth 65536 in
theorem w_c4 : (Jvm.Cond.code ({ cls := "java/lang/Object", name := "<init>", desc := "()V" } : Jvm.MethodName) object_method_1_code (1 : Nat) (Option.none : Option Jvm.ClassFile.FieldType)).before args0 about1 = true := code_word (m := ⟨0, 0⟩) (meth := k0m0) (c := k0c0) (by decide +kernel) rfl rfl rfl (by decide +kernel)
set_option maxRecDepth 65536 in
theorem w_c5 : (Jvm.Cond.code ({ cls := "java/lang/Long", name := "divideUnsigned", desc := "(JJ)J" } : Jvm.MethodName) jdk_35_method_44_code (8 : Nat) (Option.some Jvm.ClassFile.FieldType.long)).before args0 about1 = true := code_word (m := ⟨9, 0⟩) (meth := k9m0) (c := k9c0) (by decide +kernel) rfl rfl rfl (by decide +kernel)
set_option maxRecDepth 65536 in
theorem w_c6 : (Jvm.Cond.code ({ cls := "com/example/elapse/elapse/WheelGeometry", name := "tickOf", desc := "(J)J" } : Jvm.MethodName) prog_5_method_4_code (3 : Nat) (Option.some Jvm.ClassFile.FieldType.long)).before args0 about1 = true := code_word (m := ⟨3, 2⟩) (meth := k3m2) (c := k3c2) (by decide +kernel) rfl rfl rfl (by decide +kernel)
set_option maxRecDepth 65536 in
theorem w_c7 : (Jvm.Cond.code ({ cls := "com/example/elapse/elapse/WheelGeometry", name := "levelOf", desc := "(JJ)I" } : Jvm.MethodName) prog_5_method_6_code (10 : Nat) (Option.some Jvm.ClassFile.FieldType.int)).before args0 about1 = true := code_word (m := ⟨3, 3⟩) (meth := k3m3) (c := k3c3) (by decide +kernel) rfl rfl rfl (by decide +kernel)
set_option maxRecDepth 65536 in
theorem w_c8 : (Jvm.Cond.code ({ cls := "com/example/elapse/elapse/WheelGeometry", name := "levels", desc := "()I" } : Jvm.MethodName) prog_5_method_2_code (1 : Nat) (Option.some Jvm.ClassFile.FieldType.int)).before args0 about1 = true := code_word (m := ⟨3, 1⟩) (meth := k3m1) (c := k3c1) (by decide +kernel) rfl rfl rfl (by decide +kernel)
set_option maxRecDepth 65536 in
theorem w_c9 : (Jvm.Cond.code ({ cls := "com/example/elapse/elapse/WheelGeometry", name := "slotStart", desc := "(JII)J" } : Jvm.MethodName) prog_5_method_8_code (7 : Nat) (Option.some Jvm.ClassFile.FieldType.long)).before args0 about1 = true := code_word (m := ⟨3, 5⟩) (meth := k3m5) (c := k3c5) (by decide +kernel) rfl rfl rfl (by decide +kernel)
set_option maxRecDepth 65536 in
theorem w_c10 : (Jvm.Cond.code ({ cls := "java/lang/Long", name := "remainderUnsigned", desc := "(JJ)J" } : Jvm.MethodName) jdk_35_method_45_code (8 : Nat) (Option.some Jvm.ClassFile.FieldType.long)).before args0 about1 = true := code_word (m := ⟨9, 1⟩) (meth := k9m1) (c := k9c1) (by decide +kernel) rfl rfl rfl (by decide +kernel)
set_option maxRecDepth 65536 in
theorem w_c11 : (Jvm.Cond.code ({ cls := "com/example/elapse/elapse/WheelGeometry", name := "slotOf", desc := "(JI)I" } : Jvm.MethodName) prog_5_method_7_code (4 : Nat) (Option.some Jvm.ClassFile.FieldType.int)).before args0 about1 = true := code_word (m := ⟨3, 4⟩) (meth := k3m4) (c := k3c4) (by decide +kernel) rfl rfl rfl (by decide +kernel)
def codes1 : List Jvm.Cond := [Jvm.Cond.code x code maxLocals ret, Jvm.Cond.code ({ cls := "java/lang/Math", name := "max", desc := "(JJ)J" } : Jvm.MethodName) jdk_29_method_66_code (4 : Nat) (Option.some Jvm.ClassFile.FieldType.long), Jvm.Cond.code ({ cls := "java/lang/Math", name := "max", desc := "(II)I" } : Jvm.MethodName) jdk_29_method_65_code (2 : Nat) (Option.some Jvm.ClassFile.FieldType.int), Jvm.Cond.code ({ cls := "com/example/elapse/elapse/WheelGeometry", name := "<init>", desc := "(JJI)V" } : Jvm.MethodName) prog_5_method_1_code (9 : Nat) (Option.none : Option Jvm.ClassFile.FieldType), Jvm.Cond.code ({ cls := "java/lang/Object", name := "<init>", desc := "()V" } : Jvm.MethodName) object_method_1_code (1 : Nat) (Option.none : Option Jvm.ClassFile.FieldType), Jvm.Cond.code ({ cls := "java/lang/Long", name := "divideUnsigned", desc := "(JJ)J" } : Jvm.MethodName) jdk_35_method_44_code (8 : Nat) (Option.some Jvm.ClassFile.FieldType.long), Jvm.Cond.code ({ cls := "com/example/elapse/elapse/WheelGeometry", name := "tickOf", desc := "(J)J" } : Jvm.MethodName) prog_5_method_4_code (3 : Nat) (Option.some Jvm.ClassFile.FieldType.long), Jvm.Cond.code ({ cls := "com/example/elapse/elapse/WheelGeometry", name := "levelOf", desc := "(JJ)I" } : Jvm.MethodName) prog_5_method_6_code (10 : Nat) (Option.some Jvm.ClassFile.FieldType.int), Jvm.Cond.code ({ cls := "com/example/elapse/elapse/WheelGeometry", name := "levels", desc := "()I" } : Jvm.MethodName) prog_5_method_2_code (1 : Nat) (Option.some Jvm.ClassFile.FieldType.int), Jvm.Cond.code ({ cls := "com/example/elapse/elapse/WheelGeometry", name := "slotStart", desc := "(JII)J" } : Jvm.MethodName) prog_5_method_8_code (7 : Nat) (Option.some Jvm.ClassFile.FieldType.long), Jvm.Cond.code ({ cls := "java/lang/Long", name := "remainderUnsigned", desc := "(JJ)J" } : Jvm.MethodName) jdk_35_method_45_code (8 : Nat) (Option.some Jvm.ClassFile.FieldType.long), Jvm.Cond.code ({ cls := "com/example/elapse/elapse/WheelGeometry", name := "slotOf", desc := "(JI)I" } : Jvm.MethodName) prog_5_method_7_code (4 : Nat) (Option.some Jvm.ClassFile.FieldType.int)]
set_option maxRecDepth 65536 in
theorem codes_eq : words1.filter isCode = codes1 := rfl
theorem w_codes : ∀ c ∈ words1.filter isCode, c.before args0 about1 = true := by
  rw [codes_eq]
  intro c hc
  simp only [codes1, List.mem_cons, List.not_mem_nil, or_false] at hc
  rcases hc with rfl | rfl | rfl | rfl | rfl | rfl | rfl | rfl | rfl | rfl | rfl | rfl
  · exact w_c0
  · exact w_c1
  · exact w_c2
  · exact w_c3
  · exact w_c4
  · exact w_c5
  · exact w_c6
  · exact w_c7
  · exact w_c8
  · exact w_c9
  · exact w_c10
  · exact w_c11
set_option maxRecDepth 65536 in
theorem w_t1 : (words1.take 24).all (fun c => isCode c || c.before args0 about1) = true := by decide +kernel
set_option maxRecDepth 65536 in
theorem w_t2 : ((words1.drop 24).take 24).all (fun c => isCode c || c.before args0 about1) = true := by decide +kernel
set_option maxRecDepth 65536 in
theorem w_t3 : ((words1.drop 24).drop 24).all (fun c => isCode c || c.before args0 about1) = true := by decide +kernel
theorem w_tables : (allAtoms (Jvm.Cond.code x code maxLocals ret :: tables_1)).before args0 about1 = true := by
  rw [allAtoms_all]
  show words1.all (fun c => c.before args0 about1) = true
  refine all_split ?_ w_codes
  rw [← List.take_append_drop 24 words1, List.all_append, w_t1, ← List.take_append_drop 24 (words1.drop 24), List.all_append, w_t2, w_t3]
  rfl
set_option maxRecDepth 65536 in
theorem w_case : (Jvm.Cond.and given_1 narrow_1).before args0 about1 = true := by decide +kernel
theorem w_applies : (headSpec (Jvm.Cond.code x code maxLocals ret :: tables_1) room_1).applies x e0.platform about1 = true :=
  (Spec.applies_iff w_frames).mpr ⟨w_running, w_runnable, w_alone, w_named, w_hears, w_ripe, w_room, w_tables⟩
theorem atStart : AtStart classFile x code maxLocals ret World_1 tables_1 room_1 Calls_1 rest_1 Pre_1 launch0 p0 e0 about1 theMethod args0 below0 :=
  ⟨lists_1, trivial, launch0.admits_env _ _ _, launch0.least_env, fairChoices_fair.cas, fairChoices_fair.clock, w_frames, w_args, w_heap, w_applies, trivial, trivial, w_case⟩
end start1
theorem witness_1 : WitnessClaimed_1 := ⟨start1.p0, start1.e0, start1.about1, start1.theMethod, start1.args0, start1.below0, start1.atStart⟩
end Jvm.Pilot.@@N@@
