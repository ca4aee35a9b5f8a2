import JvmDerived
import JvmDerived.Pilot.@@N@@Statement
import JvmDerived.Pilot.@@N@@Code
set_option linter.unusedVariables false
set_option linter.unusedSimpArgs false
namespace Jvm.Pilot.@@N@@
open Jvm Jvm.ClassFile Sem Op Lib Jvm.Free Jvm.Stand Jvm.LawKit Jvm.RoadKit Bundle Jvm.Pilot.@@N@@.Jvm.D
/-! ## THE W-KIT: W k n0 Q h cs sl pc L st: whoever stands (in the body that k tells of) over the heap h with locals L and stack st at pc comes to the body's end with Q -/
abbrev KT : Type := Program × Launch × Env × Room × State × MethodId × Array Value × List Frame × Method × Code
def Good (κ : KT) (R : Room) (Z : State) (own mnm : String) (bytes : ByteArray) (ml : Nat) (ret : Option FieldType) : Prop :=
  match κ with
  | (p, _, _, R', s, m, _, _, meth, c) => p.tables.exec = Jvm.exec ∧ Z.Warmed39 s.vm ∧ c.code = bytes ∧ c.maxLocals = ml ∧ s.vm.findClass own = some m.cls ∧ meth.sig.returnType = ret ∧ meth.locks = false ∧ meth.name = mnm ∧ R' = R
def W (κ : KT) (n0 : Nat) (Q : Option Value → Heap → Prop) (h : Heap) (cs sl pc : Nat) (L : List Slot) (st : List Value) : Prop :=
  match κ with
  | (p, l, e, R, s, m, args, below, meth, c) =>
    ∀ (T : State) (locs : List Loc), Stand p l e R s m args below meth c T locs cs sl → T.heap = h → Fr n0 locs → cs ≤ R.cells → sl ≤ R.slots →
      ∃ s₂ o, Steps p.tables e below (T.setTop (mkF m pc L.toArray st)) s₂ ∧ s₂.status = .running ∧ Ended s₂ below o ∧ ∃ v L', o = .returned v ∧ (Q v s₂.heap ∧ Fr n0 L') ∧ FrameEnd s o s₂ L' R.cells R.slots
/-- a callee's contract -/
def Con (Z : State) (y : MethodName) (bytes : ByteArray) (ml : Nat) (ret : Option FieldType) (rm : Room) (as' : List Value) (h0 : Heap) (n0 : Nat) (Q : Option Value → Heap → Prop) : Prop :=
  ∀ (l : Launch) (ws : List Jvm.Cond), MetFree l y (head1 (Jvm.Cond.code y bytes ml ret :: ws) rm) (fun a U => a = as'.toArray ∧ Z.Warmed39 U.vm ∧ U.heap = h0) (fun _ _ _ _ _ => True) (fun _ U o U' => ∃ v L, o = .returned v ∧ (Q v U'.heap ∧ Fr n0 L) ∧ FrameEnd U o U' L rm.cells rm.slots)
/-- an instruction: what stands at pc, its length, the pc behind -/
def Ins1 (b : ByteArray) (pc : Nat) (i : Instr) (len nx : Nat) : Prop := decode b pc = .ok (i, len) ∧ pc + len = nx
/-- a jump: what stands at pc, the pc behind, the pc to which it leads -/
def Jmp1 (b : ByteArray) (pc : Nat) (i : Instr) (o : Int) (nx tg : Nat) : Prop := decode b pc = .ok (i, 3) ∧ pc + 3 = nx ∧ 0 ≤ (pc : Int) + o ∧ ((pc : Int) + o).toNat = tg
def cmpP : ClassFile.Cond → Int32 → Int32 → Prop
  | .eq, x, y => x.toInt = y.toInt
  | .ne, x, y => ¬ x.toInt = y.toInt
  | .lt, x, y => x.toInt < y.toInt
  | .ge, x, y => y.toInt ≤ x.toInt
  | .gt, x, y => y.toInt < x.toInt
  | .le, x, y => x.toInt ≤ y.toInt
def cmp0 : ClassFile.Cond → Int32 → Prop
  | .eq, x => x.toInt = 0
  | .ne, x => ¬ x.toInt = 0
  | .lt, x => x.toInt < 0
  | .ge, x => 0 ≤ x.toInt
  | .gt, x => 0 < x.toInt
  | .le, x => x.toInt ≤ 0
def cmpL : ClassFile.Cond → Int64 → Int64 → Prop
  | .eq, x, y => x.toInt = y.toInt
  | .ne, x, y => ¬ x.toInt = y.toInt
  | .lt, x, y => x.toInt < y.toInt
  | .ge, x, y => y.toInt ≤ x.toInt
  | .gt, x, y => y.toInt < x.toInt
  | .le, x, y => x.toInt ≤ y.toInt
theorem cmpP_iff (cd : ClassFile.Cond) (x y : Int32) : if_icmp.holds cd x y = true ↔ cmpP cd x y := by
  cases cd <;> simp [if_icmp.holds, cmpP, Int32.lt_iff_toInt_lt, Int32.le_iff_toInt_le, Int32.toInt_inj]
theorem cmpP_no {cd : ClassFile.Cond} {x y : Int32} (h : ¬ cmpP cd x y) : if_icmp.holds cd x y = false := by
  cases q : if_icmp.holds cd x y with
  | false => rfl
  | true => exact absurd ((cmpP_iff _ _ _).mp q) h
theorem cmp0_iff (cd : ClassFile.Cond) (x : Int32) : cmpP cd x 0 ↔ cmp0 cd x := by
  cases cd <;> simp [cmpP, cmp0]
theorem cmpL_iff (cd : ClassFile.Cond) (x y : Int64) : cmp0 cd (if x > y then 1 else if x = y then 0 else -1) ↔ cmpL cd x y := by
  have hc := c_lcmp x y
  show cmp0 cd (lcmpW x y) ↔ _
  cases cd <;> simp only [cmp0, cmpL] <;> omega
section WKit
variable {κ : KT} {R : Room} {Z : State} {a0 : Array Value} {own mnm : String} {bytes : ByteArray} {ml : Nat} {ret : Option FieldType} {n0 : Nat} {Q : Option Value → Heap → Prop} {h : Heap} {cs sl pc nx tg : Nat} {L : List Slot} {st rest : List Value}
theorem W.pure {pc' : Nat} {L' : List Slot} {st' : List Value} (C : Good κ R Z own mnm bytes ml ret) (k : W κ n0 Q h cs sl pc' L' st')
    (hs : ∀ {p : Program} {e : Env} {below : List Frame} {T target : State} {m : MethodId} {c : Code}, At T m c below → p.tables.exec = Jvm.exec → c.code = bytes → Steps p.tables e below (T.setTop (mkF m pc' L'.toArray st')) target → Steps p.tables e below (T.setTop (mkF m pc L.toArray st)) target) : W κ n0 Q h cs sl pc L st := by
  obtain ⟨p, l, e, R', s, m, args, below, meth, c⟩ := κ
  obtain ⟨hx, -, hby, -⟩ := C
  intro T locs X eT N h1 h2
  obtain ⟨s₂, o, a, r⟩ := k T locs X eT N h1 h2
  exact ⟨s₂, o, hs X.here hx hby a, r⟩
/-- more room taken than made -/
theorem W.more {cs' sl' : Nat} (h1 : cs ≤ cs') (h2 : sl ≤ sl') (C : Good κ R Z own mnm bytes ml ret) (g1 : cs' ≤ R.cells) (g2 : sl' ≤ R.slots) (k : W κ n0 Q h cs' sl' pc L st) : W κ n0 Q h cs sl pc L st := by
  obtain ⟨p, l, e, R', s, m, args, below, meth, c⟩ := κ
  obtain ⟨-, -, -, -, -, -, -, -, rfl⟩ := C
  intro T locs X eT N _ _
  exact k T locs (X.more h1 h2) eT N g1 g2
theorem W.post {Q' : Option Value → Heap → Prop} (hq : ∀ v h, Q v h → Q' v h) (k : W κ n0 Q h cs sl pc L st) : W κ n0 Q' h cs sl pc L st := by
  obtain ⟨p, l, e, R', s, m, args, below, meth, c⟩ := κ
  intro T locs X eT N h1 h2
  obtain ⟨s₂, o, a, b, c, v, L', d, ⟨f, f'⟩, g⟩ := k T locs X eT N h1 h2
  exact ⟨s₂, o, a, b, c, v, L', d, ⟨hq _ _ f, f'⟩, g⟩

theorem W.iadd {x y z : Int32} (C : Good κ R Z own mnm bytes ml ret) (hd : Ins1 bytes pc .iadd 1 nx) (hz : x + y = z) (k : W κ n0 Q h cs sl nx L (.int z :: rest)) : W κ n0 Q h cs sl pc L (.int y :: .int x :: rest) := by
  obtain ⟨hd, rfl⟩ := hd
  subst hz
  exact W.pure C k fun hA hx hby hr => XS.iadd hA hx rfl (hb hby hd) rfl hr
theorem W.isub {x y z : Int32} (C : Good κ R Z own mnm bytes ml ret) (hd : Ins1 bytes pc .isub 1 nx) (hz : x - y = z) (k : W κ n0 Q h cs sl nx L (.int z :: rest)) : W κ n0 Q h cs sl pc L (.int y :: .int x :: rest) := by
  obtain ⟨hd, rfl⟩ := hd
  subst hz
  exact W.pure C k fun hA hx hby hr => XS.isub hA hx rfl (hb hby hd) rfl hr
theorem W.imul {x y z : Int32} (C : Good κ R Z own mnm bytes ml ret) (hd : Ins1 bytes pc .imul 1 nx) (hz : x * y = z) (k : W κ n0 Q h cs sl nx L (.int z :: rest)) : W κ n0 Q h cs sl pc L (.int y :: .int x :: rest) := by
  obtain ⟨hd, rfl⟩ := hd
  subst hz
  exact W.pure C k fun hA hx hby hr => XS.imul hA hx rfl (hb hby hd) rfl hr
theorem W.iand {x y z : Int32} (C : Good κ R Z own mnm bytes ml ret) (hd : Ins1 bytes pc .iand 1 nx) (hz : x &&& y = z) (k : W κ n0 Q h cs sl nx L (.int z :: rest)) : W κ n0 Q h cs sl pc L (.int y :: .int x :: rest) := by
  obtain ⟨hd, rfl⟩ := hd
  subst hz
  exact W.pure C k fun hA hx hby hr => XS.iand hA hx rfl (hb hby hd) rfl hr
theorem W.ior {x y z : Int32} (C : Good κ R Z own mnm bytes ml ret) (hd : Ins1 bytes pc .ior 1 nx) (hz : x ||| y = z) (k : W κ n0 Q h cs sl nx L (.int z :: rest)) : W κ n0 Q h cs sl pc L (.int y :: .int x :: rest) := by
  obtain ⟨hd, rfl⟩ := hd
  subst hz
  exact W.pure C k fun hA hx hby hr => XS.ior hA hx rfl (hb hby hd) rfl hr
theorem W.ixor {x y z : Int32} (C : Good κ R Z own mnm bytes ml ret) (hd : Ins1 bytes pc .ixor 1 nx) (hz : x ^^^ y = z) (k : W κ n0 Q h cs sl nx L (.int z :: rest)) : W κ n0 Q h cs sl pc L (.int y :: .int x :: rest) := by
  obtain ⟨hd, rfl⟩ := hd
  subst hz
  exact W.pure C k fun hA hx hby hr => XS.ixor hA hx rfl (hb hby hd) rfl hr
theorem W.ladd {x y z : Int64} (C : Good κ R Z own mnm bytes ml ret) (hd : Ins1 bytes pc .ladd 1 nx) (hz : x + y = z) (k : W κ n0 Q h cs sl nx L (.long z :: rest)) : W κ n0 Q h cs sl pc L (.long y :: .long x :: rest) := by
  obtain ⟨hd, rfl⟩ := hd
  subst hz
  exact W.pure C k fun hA hx hby hr => XS.ladd hA hx rfl (hb hby hd) rfl hr
theorem W.lsub {x y z : Int64} (C : Good κ R Z own mnm bytes ml ret) (hd : Ins1 bytes pc .lsub 1 nx) (hz : x - y = z) (k : W κ n0 Q h cs sl nx L (.long z :: rest)) : W κ n0 Q h cs sl pc L (.long y :: .long x :: rest) := by
  obtain ⟨hd, rfl⟩ := hd
  subst hz
  exact W.pure C k fun hA hx hby hr => XS.lsub hA hx rfl (hb hby hd) rfl hr
theorem W.lmul {x y z : Int64} (C : Good κ R Z own mnm bytes ml ret) (hd : Ins1 bytes pc .lmul 1 nx) (hz : x * y = z) (k : W κ n0 Q h cs sl nx L (.long z :: rest)) : W κ n0 Q h cs sl pc L (.long y :: .long x :: rest) := by
  obtain ⟨hd, rfl⟩ := hd
  subst hz
  exact W.pure C k fun hA hx hby hr => XS.lmul hA hx rfl (hb hby hd) rfl hr
theorem W.land {x y z : Int64} (C : Good κ R Z own mnm bytes ml ret) (hd : Ins1 bytes pc .land 1 nx) (hz : x &&& y = z) (k : W κ n0 Q h cs sl nx L (.long z :: rest)) : W κ n0 Q h cs sl pc L (.long y :: .long x :: rest) := by
  obtain ⟨hd, rfl⟩ := hd
  subst hz
  exact W.pure C k fun hA hx hby hr => XS.land hA hx rfl (hb hby hd) rfl hr
theorem W.lor {x y z : Int64} (C : Good κ R Z own mnm bytes ml ret) (hd : Ins1 bytes pc .lor 1 nx) (hz : x ||| y = z) (k : W κ n0 Q h cs sl nx L (.long z :: rest)) : W κ n0 Q h cs sl pc L (.long y :: .long x :: rest) := by
  obtain ⟨hd, rfl⟩ := hd
  subst hz
  exact W.pure C k fun hA hx hby hr => XS.lor hA hx rfl (hb hby hd) rfl hr
theorem W.lxor {x y z : Int64} (C : Good κ R Z own mnm bytes ml ret) (hd : Ins1 bytes pc .lxor 1 nx) (hz : x ^^^ y = z) (k : W κ n0 Q h cs sl nx L (.long z :: rest)) : W κ n0 Q h cs sl pc L (.long y :: .long x :: rest) := by
  obtain ⟨hd, rfl⟩ := hd
  subst hz
  exact W.pure C k fun hA hx hby hr => XS.lxor hA hx rfl (hb hby hd) rfl hr
theorem W.idiv {x y z : Int32} (C : Good κ R Z own mnm bytes ml ret) (hd : Ins1 bytes pc .idiv 1 nx) (hy : y ≠ 0) (hz : x / y = z) (k : W κ n0 Q h cs sl nx L (.int z :: rest)) : W κ n0 Q h cs sl pc L (.int y :: .int x :: rest) := by
  obtain ⟨hd, rfl⟩ := hd
  subst hz
  exact W.pure C k fun hA hx hby hr => XS.idiv hA hx rfl (hb hby hd) rfl hy hr
theorem W.irem {x y z : Int32} (C : Good κ R Z own mnm bytes ml ret) (hd : Ins1 bytes pc .irem 1 nx) (hy : y ≠ 0) (hz : x % y = z) (k : W κ n0 Q h cs sl nx L (.int z :: rest)) : W κ n0 Q h cs sl pc L (.int y :: .int x :: rest) := by
  obtain ⟨hd, rfl⟩ := hd
  subst hz
  exact W.pure C k fun hA hx hby hr => XS.irem hA hx rfl (hb hby hd) rfl hy (by rw [irem_eq_mod]; exact hr)
theorem W.ldiv {x y z : Int64} (C : Good κ R Z own mnm bytes ml ret) (hd : Ins1 bytes pc .ldiv 1 nx) (hy : y ≠ 0) (hz : x / y = z) (k : W κ n0 Q h cs sl nx L (.long z :: rest)) : W κ n0 Q h cs sl pc L (.long y :: .long x :: rest) := by
  obtain ⟨hd, rfl⟩ := hd
  subst hz
  exact W.pure C k fun hA hx hby hr => XS.ldiv hA hx rfl (hb hby hd) rfl hy hr
theorem W.lrem {x y z : Int64} (C : Good κ R Z own mnm bytes ml ret) (hd : Ins1 bytes pc .lrem 1 nx) (hy : y ≠ 0) (hz : x - (x / y) * y = z) (k : W κ n0 Q h cs sl nx L (.long z :: rest)) : W κ n0 Q h cs sl pc L (.long y :: .long x :: rest) := by
  obtain ⟨hd, rfl⟩ := hd
  subst hz
  exact W.pure C k fun hA hx hby hr => XS.lrem hA hx rfl (hb hby hd) rfl hy hr
theorem W.ishl {x y z : Int32} (C : Good κ R Z own mnm bytes ml ret) (hd : Ins1 bytes pc .ishl 1 nx) (hz : x <<< (y &&& 31) = z) (k : W κ n0 Q h cs sl nx L (.int z :: rest)) : W κ n0 Q h cs sl pc L (.int y :: .int x :: rest) := by
  obtain ⟨hd, rfl⟩ := hd
  subst hz
  exact W.pure C k fun hA hx hby hr => XS.ishl hA hx rfl (hb hby hd) rfl hr
theorem W.ishr {x y z : Int32} (C : Good κ R Z own mnm bytes ml ret) (hd : Ins1 bytes pc .ishr 1 nx) (hz : x >>> (y &&& 31) = z) (k : W κ n0 Q h cs sl nx L (.int z :: rest)) : W κ n0 Q h cs sl pc L (.int y :: .int x :: rest) := by
  obtain ⟨hd, rfl⟩ := hd
  subst hz
  exact W.pure C k fun hA hx hby hr => XS.ishr hA hx rfl (hb hby hd) rfl hr
theorem W.iushr {x y z : Int32} (C : Good κ R Z own mnm bytes ml ret) (hd : Ins1 bytes pc .iushr 1 nx) (hz : (x.toUInt32 >>> (y &&& 31).toUInt32).toInt32 = z) (k : W κ n0 Q h cs sl nx L (.int z :: rest)) : W κ n0 Q h cs sl pc L (.int y :: .int x :: rest) := by
  obtain ⟨hd, rfl⟩ := hd
  subst hz
  exact W.pure C k fun hA hx hby hr => XS.iushr hA hx rfl (hb hby hd) rfl hr
theorem W.lshl {x z : Int64} {y : Int32} (C : Good κ R Z own mnm bytes ml ret) (hd : Ins1 bytes pc .lshl 1 nx) (hz : x <<< (y &&& 0x3f).toInt64 = z) (k : W κ n0 Q h cs sl nx L (.long z :: rest)) : W κ n0 Q h cs sl pc L (.int y :: .long x :: rest) := by
  obtain ⟨hd, rfl⟩ := hd
  subst hz
  exact W.pure C k fun hA hx hby hr => XS.lshl hA hx rfl (hb hby hd) rfl hr
theorem W.lshr {x z : Int64} {y : Int32} (C : Good κ R Z own mnm bytes ml ret) (hd : Ins1 bytes pc .lshr 1 nx) (hz : x >>> (y &&& 0x3f).toInt64 = z) (k : W κ n0 Q h cs sl nx L (.long z :: rest)) : W κ n0 Q h cs sl pc L (.int y :: .long x :: rest) := by
  obtain ⟨hd, rfl⟩ := hd
  subst hz
  exact W.pure C k fun hA hx hby hr => XS.lshr hA hx rfl (hb hby hd) rfl hr
theorem W.lushr {x z : Int64} {y : Int32} (C : Good κ R Z own mnm bytes ml ret) (hd : Ins1 bytes pc .lushr 1 nx) (hz : (x.toUInt64 >>> (y &&& 0x3f).toInt64.toUInt64).toInt64 = z) (k : W κ n0 Q h cs sl nx L (.long z :: rest)) : W κ n0 Q h cs sl pc L (.int y :: .long x :: rest) := by
  obtain ⟨hd, rfl⟩ := hd
  subst hz
  exact W.pure C k fun hA hx hby hr => XS.lushr hA hx rfl (hb hby hd) rfl hr
theorem W.ineg {x : Int32} {z : Int32} (C : Good κ R Z own mnm bytes ml ret) (hd : Ins1 bytes pc .ineg 1 nx) (hz : -x = z) (k : W κ n0 Q h cs sl nx L (.int z :: rest)) : W κ n0 Q h cs sl pc L (.int x :: rest) := by
  obtain ⟨hd, rfl⟩ := hd
  subst hz
  exact W.pure C k fun hA hx hby hr => XS.ineg hA hx rfl (hb hby hd) rfl hr
theorem W.lneg {x : Int64} {z : Int64} (C : Good κ R Z own mnm bytes ml ret) (hd : Ins1 bytes pc .lneg 1 nx) (hz : -x = z) (k : W κ n0 Q h cs sl nx L (.long z :: rest)) : W κ n0 Q h cs sl pc L (.long x :: rest) := by
  obtain ⟨hd, rfl⟩ := hd
  subst hz
  exact W.pure C k fun hA hx hby hr => XS.lneg hA hx rfl (hb hby hd) rfl hr
theorem W.i2l {x : Int32} {z : Int64} (C : Good κ R Z own mnm bytes ml ret) (hd : Ins1 bytes pc .i2l 1 nx) (hz : x.toInt64 = z) (k : W κ n0 Q h cs sl nx L (.long z :: rest)) : W κ n0 Q h cs sl pc L (.int x :: rest) := by
  obtain ⟨hd, rfl⟩ := hd
  subst hz
  exact W.pure C k fun hA hx hby hr => XS.i2l hA hx rfl (hb hby hd) rfl hr
theorem W.l2i {x : Int64} {z : Int32} (C : Good κ R Z own mnm bytes ml ret) (hd : Ins1 bytes pc .l2i 1 nx) (hz : x.toInt32 = z) (k : W κ n0 Q h cs sl nx L (.int z :: rest)) : W κ n0 Q h cs sl pc L (.long x :: rest) := by
  obtain ⟨hd, rfl⟩ := hd
  subst hz
  exact W.pure C k fun hA hx hby hr => XS.l2i hA hx rfl (hb hby hd) rfl hr
theorem W.i2b {x : Int32} {z : Int32} (C : Good κ R Z own mnm bytes ml ret) (hd : Ins1 bytes pc .i2b 1 nx) (hz : x.toInt8.toInt32 = z) (k : W κ n0 Q h cs sl nx L (.int z :: rest)) : W κ n0 Q h cs sl pc L (.int x :: rest) := by
  obtain ⟨hd, rfl⟩ := hd
  subst hz
  exact W.pure C k fun hA hx hby hr => XS.i2b hA hx rfl (hb hby hd) rfl hr
theorem W.i2s {x : Int32} {z : Int32} (C : Good κ R Z own mnm bytes ml ret) (hd : Ins1 bytes pc .i2s 1 nx) (hz : x.toInt16.toInt32 = z) (k : W κ n0 Q h cs sl nx L (.int z :: rest)) : W κ n0 Q h cs sl pc L (.int x :: rest) := by
  obtain ⟨hd, rfl⟩ := hd
  subst hz
  exact W.pure C k fun hA hx hby hr => XS.i2s hA hx rfl (hb hby hd) rfl hr
theorem W.i2c {x : Int32} {z : Int32} (C : Good κ R Z own mnm bytes ml ret) (hd : Ins1 bytes pc .i2c 1 nx) (hz : x.toUInt32.toUInt16.toUInt32.toInt32 = z) (k : W κ n0 Q h cs sl nx L (.int z :: rest)) : W κ n0 Q h cs sl pc L (.int x :: rest) := by
  obtain ⟨hd, rfl⟩ := hd
  subst hz
  exact W.pure C k fun hA hx hby hr => XS.i2c hA hx rfl (hb hby hd) rfl hr
theorem W.iconst {i : Int} {z : Int32} (C : Good κ R Z own mnm bytes ml ret) (hd : Ins1 bytes pc (.iconst i) 1 nx) (hz : Int32.ofInt i = z) (k : W κ n0 Q h cs sl nx L (.int z :: st)) : W κ n0 Q h cs sl pc L st := by
  obtain ⟨hd, rfl⟩ := hd
  subst hz
  exact W.pure C k fun hA hx hby hr => XS.iconst hA hx rfl (hb hby hd) hr
theorem W.bipush {i : Int} {z : Int32} (C : Good κ R Z own mnm bytes ml ret) (hd : Ins1 bytes pc (.bipush i) 2 nx) (hz : (Int8.ofInt i).toInt32 = z) (k : W κ n0 Q h cs sl nx L (.int z :: st)) : W κ n0 Q h cs sl pc L st := by
  obtain ⟨hd, rfl⟩ := hd
  subst hz
  exact W.pure C k fun hA hx hby hr => XS.bipush hA hx rfl (hb hby hd) hr
theorem W.sipush {i : Int} {z : Int32} (C : Good κ R Z own mnm bytes ml ret) (hd : Ins1 bytes pc (.sipush i) 3 nx) (hz : (Int16.ofInt i).toInt32 = z) (k : W κ n0 Q h cs sl nx L (.int z :: st)) : W κ n0 Q h cs sl pc L st := by
  obtain ⟨hd, rfl⟩ := hd
  subst hz
  exact W.pure C k fun hA hx hby hr => XS.sipush hA hx rfl (hb hby hd) hr
theorem W.lconst {i : Fin 2} {z : Int64} (C : Good κ R Z own mnm bytes ml ret) (hd : Ins1 bytes pc (.lconst i) 1 nx) (hz : Int64.ofNat i = z) (k : W κ n0 Q h cs sl nx L (.long z :: st)) : W κ n0 Q h cs sl pc L st := by
  obtain ⟨hd, rfl⟩ := hd
  subst hz
  exact W.pure C k fun hA hx hby hr => XS.lconst hA hx rfl (hb hby hd) hr
theorem W.aconst_null (C : Good κ R Z own mnm bytes ml ret) (hd : Ins1 bytes pc .aconst_null 1 nx) (k : W κ n0 Q h cs sl nx L (.null :: st)) : W κ n0 Q h cs sl pc L st := by
  obtain ⟨hd, rfl⟩ := hd
  exact W.pure C k fun hA hx hby hr => XS.aconstNull hA hx rfl (hb hby hd) hr
theorem W.iload {i : Nat} {v : Int32} (C : Good κ R Z own mnm bytes ml ret) (hd : Ins1 bytes pc (.iload i) 2 nx) (hl : L[i]? = some (.val (.int v))) (k : W κ n0 Q h cs sl nx L ((.int v) :: st)) : W κ n0 Q h cs sl pc L st := by
  obtain ⟨hd, rfl⟩ := hd
  exact W.pure C k fun hA hx hby hr => XS.iload hA hx rfl (hb hby hd) (by simpa using hl) hr
theorem W.iloadN {i : Fin 4} {v : Int32} (C : Good κ R Z own mnm bytes ml ret) (hd : Ins1 bytes pc (.iload_n i) 1 nx) (hl : L[i.val]? = some (.val (.int v))) (k : W κ n0 Q h cs sl nx L ((.int v) :: st)) : W κ n0 Q h cs sl pc L st := by
  obtain ⟨hd, rfl⟩ := hd
  exact W.pure C k fun hA hx hby hr => XS.iloadN hA hx rfl (hb hby hd) (by simpa using hl) hr
theorem W.lload {i : Nat} {v : Int64} (C : Good κ R Z own mnm bytes ml ret) (hd : Ins1 bytes pc (.lload i) 2 nx) (hl : L[i]? = some (.val (.long v))) (k : W κ n0 Q h cs sl nx L ((.long v) :: st)) : W κ n0 Q h cs sl pc L st := by
  obtain ⟨hd, rfl⟩ := hd
  exact W.pure C k fun hA hx hby hr => XS.lload hA hx rfl (hb hby hd) (by simpa using hl) hr
theorem W.lloadN {i : Fin 4} {v : Int64} (C : Good κ R Z own mnm bytes ml ret) (hd : Ins1 bytes pc (.lload_n i) 1 nx) (hl : L[i.val]? = some (.val (.long v))) (k : W κ n0 Q h cs sl nx L ((.long v) :: st)) : W κ n0 Q h cs sl pc L st := by
  obtain ⟨hd, rfl⟩ := hd
  exact W.pure C k fun hA hx hby hr => XS.lloadN hA hx rfl (hb hby hd) (by simpa using hl) hr
theorem W.aload {i : Nat} {v : Value} (C : Good κ R Z own mnm bytes ml ret) (hd : Ins1 bytes pc (.aload i) 2 nx) (hl : L[i]? = some (.val (v))) (hv : v.isRef = true) (k : W κ n0 Q h cs sl nx L ((v) :: st)) : W κ n0 Q h cs sl pc L st := by
  obtain ⟨hd, rfl⟩ := hd
  exact W.pure C k fun hA hx hby hr => XS.aload hA hx rfl (hb hby hd) (by simpa using hl) hv hr
theorem W.aloadN {i : Fin 4} {v : Value} (C : Good κ R Z own mnm bytes ml ret) (hd : Ins1 bytes pc (.aload_n i) 1 nx) (hl : L[i.val]? = some (.val (v))) (hv : v.isRef = true) (k : W κ n0 Q h cs sl nx L ((v) :: st)) : W κ n0 Q h cs sl pc L st := by
  obtain ⟨hd, rfl⟩ := hd
  exact W.pure C k fun hA hx hby hr => XS.aloadN hA hx rfl (hb hby hd) (by simpa using hl) hv hr
theorem W.istore {i : Nat} {L' : List Slot} {v : Int32} (C : Good κ R Z own mnm bytes ml ret) (hd : Ins1 bytes pc (.istore i) 2 nx) (hl : storeLocals L.toArray i (.int v) = some L'.toArray) (k : W κ n0 Q h cs sl nx L' rest) : W κ n0 Q h cs sl pc L ((.int v) :: rest) := by
  obtain ⟨hd, rfl⟩ := hd
  exact W.pure C k fun hA hx hby hr => XS.istore hA hx rfl (hb hby hd) rfl hl hr
theorem W.istoreN {i : Fin 4} {L' : List Slot} {v : Int32} (C : Good κ R Z own mnm bytes ml ret) (hd : Ins1 bytes pc (.istore_n i) 1 nx) (hl : storeLocals L.toArray i.val (.int v) = some L'.toArray) (k : W κ n0 Q h cs sl nx L' rest) : W κ n0 Q h cs sl pc L ((.int v) :: rest) := by
  obtain ⟨hd, rfl⟩ := hd
  exact W.pure C k fun hA hx hby hr => XS.istoreN hA hx rfl (hb hby hd) rfl hl hr
theorem W.lstore {i : Nat} {L' : List Slot} {v : Int64} (C : Good κ R Z own mnm bytes ml ret) (hd : Ins1 bytes pc (.lstore i) 2 nx) (hl : storeLocals L.toArray i (.long v) = some L'.toArray) (k : W κ n0 Q h cs sl nx L' rest) : W κ n0 Q h cs sl pc L ((.long v) :: rest) := by
  obtain ⟨hd, rfl⟩ := hd
  exact W.pure C k fun hA hx hby hr => XS.lstore hA hx rfl (hb hby hd) rfl hl hr
theorem W.lstoreN {i : Fin 4} {L' : List Slot} {v : Int64} (C : Good κ R Z own mnm bytes ml ret) (hd : Ins1 bytes pc (.lstore_n i) 1 nx) (hl : storeLocals L.toArray i.val (.long v) = some L'.toArray) (k : W κ n0 Q h cs sl nx L' rest) : W κ n0 Q h cs sl pc L ((.long v) :: rest) := by
  obtain ⟨hd, rfl⟩ := hd
  exact W.pure C k fun hA hx hby hr => XS.lstoreN hA hx rfl (hb hby hd) rfl hl hr
theorem W.astore {i : Nat} {L' : List Slot} {v : Value} (C : Good κ R Z own mnm bytes ml ret) (hd : Ins1 bytes pc (.astore i) 2 nx) (hl : storeLocals L.toArray i (v) = some L'.toArray) (hv : v.isRef = true) (k : W κ n0 Q h cs sl nx L' rest) : W κ n0 Q h cs sl pc L ((v) :: rest) := by
  obtain ⟨hd, rfl⟩ := hd
  exact W.pure C k fun hA hx hby hr => XS.astore hA hx rfl (hb hby hd) rfl hv hl hr
theorem W.astoreN {i : Fin 4} {L' : List Slot} {v : Value} (C : Good κ R Z own mnm bytes ml ret) (hd : Ins1 bytes pc (.astore_n i) 1 nx) (hl : storeLocals L.toArray i.val (v) = some L'.toArray) (hv : v.isRef = true) (k : W κ n0 Q h cs sl nx L' rest) : W κ n0 Q h cs sl pc L ((v) :: rest) := by
  obtain ⟨hd, rfl⟩ := hd
  exact W.pure C k fun hA hx hby hr => XS.astoreN hA hx rfl (hb hby hd) rfl hv hl hr
theorem W.iinc {i : Nat} {d : Int} {v z : Int32} {L' : List Slot} (C : Good κ R Z own mnm bytes ml ret) (hd : Ins1 bytes pc (.iinc i d) 3 nx) (hl : L[i]? = some (.val (.int v))) (hz : v + Int32.ofInt d = z) (hl' : storeLocals L.toArray i (.int z) = some L'.toArray) (k : W κ n0 Q h cs sl nx L' st) : W κ n0 Q h cs sl pc L st := by
  obtain ⟨hd, rfl⟩ := hd
  subst hz
  exact W.pure C k fun hA hx hby hr => XS.iinc hA hx rfl (hb hby hd) (by simpa using hl) hl' hr
theorem W.dup {x : Value} (C : Good κ R Z own mnm bytes ml ret) (hd : Ins1 bytes pc .dup 1 nx) (hc : x.category = 1) (k : W κ n0 Q h cs sl nx L (x :: x :: rest)) : W κ n0 Q h cs sl pc L (x :: rest) := by
  obtain ⟨hd, rfl⟩ := hd
  exact W.pure C k fun hA hx hby hr => XS.dup hA hx rfl (hb hby hd) rfl hc hr
theorem W.pop {x : Value} (C : Good κ R Z own mnm bytes ml ret) (hd : Ins1 bytes pc .pop 1 nx) (hc : x.category = 1) (k : W κ n0 Q h cs sl nx L rest) : W κ n0 Q h cs sl pc L (x :: rest) := by
  obtain ⟨hd, rfl⟩ := hd
  exact W.pure C k fun hA hx hby hr => XS.pop hA hx rfl (hb hby hd) rfl hc hr
theorem W.dup_x1 {x y : Value} (C : Good κ R Z own mnm bytes ml ret) (hd : Ins1 bytes pc .dup_x1 1 nx) (hc : x.category = 1) (hc' : y.category = 1) (k : W κ n0 Q h cs sl nx L (x :: y :: x :: rest)) : W κ n0 Q h cs sl pc L (x :: y :: rest) := by
  obtain ⟨hd, rfl⟩ := hd
  exact W.pure C k fun hA hx hby hr => XS.dupX1 hA hx rfl (hb hby hd) rfl hc hc' hr
theorem W.dup2 {x y : Value} (C : Good κ R Z own mnm bytes ml ret) (hd : Ins1 bytes pc .dup2 1 nx) (hc : x.category = 1) (hc' : y.category = 1) (k : W κ n0 Q h cs sl nx L (x :: y :: x :: y :: rest)) : W κ n0 Q h cs sl pc L (x :: y :: rest) := by
  obtain ⟨hd, rfl⟩ := hd
  exact W.pure C k fun hA hx hby hr => XT.dup2 hA hx rfl (hb hby hd) rfl hc hc' hr
theorem W.dup2L {x : Int64} (C : Good κ R Z own mnm bytes ml ret) (hd : Ins1 bytes pc .dup2 1 nx) (k : W κ n0 Q h cs sl nx L (.long x :: .long x :: rest)) : W κ n0 Q h cs sl pc L (.long x :: rest) := by
  obtain ⟨hd, rfl⟩ := hd
  exact W.pure C k fun hA hx hby hr => XT.dup2L hA hx rfl (hb hby hd) rfl hr
theorem W.dup_x2 {x y z : Value} (C : Good κ R Z own mnm bytes ml ret) (hd : Ins1 bytes pc .dup_x2 1 nx) (hc : x.category = 1) (hc' : y.category = 1) (hc2 : z.category = 1) (k : W κ n0 Q h cs sl nx L (x :: y :: z :: x :: rest)) : W κ n0 Q h cs sl pc L (x :: y :: z :: rest) := by
  obtain ⟨hd, rfl⟩ := hd
  refine W.pure C k fun {p e below T target m c} hA hx hby hr => ?_
  have hd' := hb hby hd
  jvm_step hA [hA.top, hx, hd', hc, hc', hc2]
  exact hr
theorem W.goto {o : Int} (C : Good κ R Z own mnm bytes ml ret) (hd : Jmp1 bytes pc (.goto o) o nx tg) (k : W κ n0 Q h cs sl tg L st) : W κ n0 Q h cs sl pc L st := by
  obtain ⟨hd, rfl, h1, h2⟩ := hd
  exact W.pure C k fun hA hx hby hr => XS.goto hA hx rfl rfl (hb hby hd) h1 h2 hr
theorem W.icmpY {o : Int} {cd : ClassFile.Cond} {x y : Int32} (C : Good κ R Z own mnm bytes ml ret) (hd : Jmp1 bytes pc (.if_icmp cd o) o nx tg) (hc : cmpP cd x y) (k : W κ n0 Q h cs sl tg L rest) : W κ n0 Q h cs sl pc L (.int y :: .int x :: rest) := by
  obtain ⟨hd, rfl, h1, h2⟩ := hd
  exact W.pure C k fun hA hx hby hr => XS.icmpYes hA hx rfl rfl (hb hby hd) rfl ((cmpP_iff _ _ _).mpr hc) h1 h2 hr
theorem W.icmpN {o : Int} {cd : ClassFile.Cond} {x y : Int32} (C : Good κ R Z own mnm bytes ml ret) (hd : Jmp1 bytes pc (.if_icmp cd o) o nx tg) (hc : ¬ cmpP cd x y) (k : W κ n0 Q h cs sl nx L rest) : W κ n0 Q h cs sl pc L (.int y :: .int x :: rest) := by
  obtain ⟨hd, rfl, h1, h2⟩ := hd
  exact W.pure C k fun hA hx hby hr => XS.icmpNo hA hx rfl (hb hby hd) rfl (cmpP_no hc) hr
theorem W.icmp {o : Int} {cd : ClassFile.Cond} {x y : Int32} (C : Good κ R Z own mnm bytes ml ret) (hd : Jmp1 bytes pc (.if_icmp cd o) o nx tg) (ky : cmpP cd x y → W κ n0 Q h cs sl tg L rest) (kn : ¬ cmpP cd x y → W κ n0 Q h cs sl nx L rest) : W κ n0 Q h cs sl pc L (.int y :: .int x :: rest) := by
  by_cases hc : cmpP cd x y
  · exact W.icmpY C hd hc (ky hc)
  · exact W.icmpN C hd hc (kn hc)
theorem W.ifY {o : Int} {cd : ClassFile.Cond} {x : Int32} (C : Good κ R Z own mnm bytes ml ret) (hd : Jmp1 bytes pc (.ifCond cd o) o nx tg) (hc : cmp0 cd x) (k : W κ n0 Q h cs sl tg L rest) : W κ n0 Q h cs sl pc L (.int x :: rest) := by
  obtain ⟨hd, rfl, h1, h2⟩ := hd
  exact W.pure C k fun hA hx hby hr => XS.ifYes hA hx rfl rfl (hb hby hd) rfl ((if0 _ _).trans ((cmpP_iff _ _ _).mpr ((cmp0_iff _ _).mpr hc))) h1 h2 hr
theorem W.ifN {o : Int} {cd : ClassFile.Cond} {x : Int32} (C : Good κ R Z own mnm bytes ml ret) (hd : Jmp1 bytes pc (.ifCond cd o) o nx tg) (hc : ¬ cmp0 cd x) (k : W κ n0 Q h cs sl nx L rest) : W κ n0 Q h cs sl pc L (.int x :: rest) := by
  obtain ⟨hd, rfl, h1, h2⟩ := hd
  exact W.pure C k fun hA hx hby hr => XS.ifNo hA hx rfl (hb hby hd) rfl ((if0 _ _).trans (cmpP_no fun q => hc ((cmp0_iff _ _).mp q))) hr
theorem W.ifc {o : Int} {cd : ClassFile.Cond} {x : Int32} (C : Good κ R Z own mnm bytes ml ret) (hd : Jmp1 bytes pc (.ifCond cd o) o nx tg) (ky : cmp0 cd x → W κ n0 Q h cs sl tg L rest) (kn : ¬ cmp0 cd x → W κ n0 Q h cs sl nx L rest) : W κ n0 Q h cs sl pc L (.int x :: rest) := by
  by_cases hc : cmp0 cd x
  · exact W.ifY C hd hc (ky hc)
  · exact W.ifN C hd hc (kn hc)
theorem W.lcmp {x y : Int64} (C : Good κ R Z own mnm bytes ml ret) (hd : Ins1 bytes pc .lcmp 1 nx) (k : W κ n0 Q h cs sl nx L (.int (if x > y then 1 else if x = y then 0 else -1) :: rest)) : W κ n0 Q h cs sl pc L (.long y :: .long x :: rest) := by
  obtain ⟨hd, rfl⟩ := hd
  exact W.pure C k fun hA hx hby hr => XS.lcmp hA hx rfl (hb hby hd) rfl hr
theorem W.lcY {pc1 : Nat} {o : Int} {cd : ClassFile.Cond} {x y : Int64} (C : Good κ R Z own mnm bytes ml ret) (hd1 : Ins1 bytes pc .lcmp 1 pc1) (hd : Jmp1 bytes pc1 (.ifCond cd o) o nx tg) (hc : cmpL cd x y) (k : W κ n0 Q h cs sl tg L rest) : W κ n0 Q h cs sl pc L (.long y :: .long x :: rest) :=
  W.lcmp C hd1 (W.ifY C hd ((cmpL_iff _ _ _).mpr hc) k)
theorem W.lcN {pc1 : Nat} {o : Int} {cd : ClassFile.Cond} {x y : Int64} (C : Good κ R Z own mnm bytes ml ret) (hd1 : Ins1 bytes pc .lcmp 1 pc1) (hd : Jmp1 bytes pc1 (.ifCond cd o) o nx tg) (hc : ¬ cmpL cd x y) (k : W κ n0 Q h cs sl nx L rest) : W κ n0 Q h cs sl pc L (.long y :: .long x :: rest) :=
  W.lcmp C hd1 (W.ifN C hd (fun q => hc ((cmpL_iff _ _ _).mp q)) k)
theorem W.lc {pc1 : Nat} {o : Int} {cd : ClassFile.Cond} {x y : Int64} (C : Good κ R Z own mnm bytes ml ret) (hd1 : Ins1 bytes pc .lcmp 1 pc1) (hd : Jmp1 bytes pc1 (.ifCond cd o) o nx tg) (ky : cmpL cd x y → W κ n0 Q h cs sl tg L rest) (kn : ¬ cmpL cd x y → W κ n0 Q h cs sl nx L rest) : W κ n0 Q h cs sl pc L (.long y :: .long x :: rest) := by
  by_cases hc : cmpL cd x y
  · exact W.lcY C hd1 hd hc (ky hc)
  · exact W.lcN C hd1 hd hc (kn hc)
theorem W.ifnullY {o : Int} (C : Good κ R Z own mnm bytes ml ret) (hd : Jmp1 bytes pc (.ifnull o) o nx tg) (k : W κ n0 Q h cs sl tg L rest) : W κ n0 Q h cs sl pc L (.null :: rest) := by
  obtain ⟨hd, rfl, h1, h2⟩ := hd
  exact W.pure C k fun hA hx hby hr => XS.ifnullYes hA hx rfl rfl (hb hby hd) rfl h1 h2 hr
theorem W.ifnullN {o : Int} {b : Addr} (C : Good κ R Z own mnm bytes ml ret) (hd : Jmp1 bytes pc (.ifnull o) o nx tg) (k : W κ n0 Q h cs sl nx L rest) : W κ n0 Q h cs sl pc L (.ref b :: rest) := by
  obtain ⟨hd, rfl, h1, h2⟩ := hd
  exact W.pure C k fun hA hx hby hr => XS.ifnullNo hA hx rfl (hb hby hd) rfl hr
theorem W.ifnonnullY {o : Int} {b : Addr} (C : Good κ R Z own mnm bytes ml ret) (hd : Jmp1 bytes pc (.ifnonnull o) o nx tg) (k : W κ n0 Q h cs sl tg L rest) : W κ n0 Q h cs sl pc L (.ref b :: rest) := by
  obtain ⟨hd, rfl, h1, h2⟩ := hd
  exact W.pure C k fun hA hx hby hr => XS.ifnonnullYes hA hx rfl rfl (hb hby hd) rfl h1 h2 hr
theorem W.ifnonnullN {o : Int} (C : Good κ R Z own mnm bytes ml ret) (hd : Jmp1 bytes pc (.ifnonnull o) o nx tg) (k : W κ n0 Q h cs sl nx L rest) : W κ n0 Q h cs sl pc L (.null :: rest) := by
  obtain ⟨hd, rfl, h1, h2⟩ := hd
  exact W.pure C k fun hA hx hby hr => XS.ifnonnullNo hA hx rfl (hb hby hd) rfl hr
/-! ### steps that read the tables -/
theorem W.ldc {i : Nat} {v : Int32} (C : Good κ R Z own mnm bytes ml ret) (hd : Ins1 bytes pc (.ldc i) 2 nx) (w : (Jvm.Cond.constant own i v).before a0 Z = true) (k : W κ n0 Q h cs sl nx L (.int v :: st)) : W κ n0 Q h cs sl pc L st := by
  obtain ⟨hd, rfl⟩ := hd
  obtain ⟨p, l, e, R', s, m, args, below, meth, c⟩ := κ
  obtain ⟨hx, hZ, hby, hml, hown, hret, hlk, hnm, rfl⟩ := C
  intro T locs X eT N h1 h2
  obtain ⟨s₂, o, a, r⟩ := k T locs X eT N h1 h2
  exact ⟨s₂, o, X.ldcInt hx hown (mvT hZ w) (g := mkF m pc L.toArray st) rfl (hb hby hd) _ a, r⟩
theorem W.ldcw {i : Nat} {v : Int32} (C : Good κ R Z own mnm bytes ml ret) (hd : Ins1 bytes pc (.ldc_w i) 3 nx) (w : (Jvm.Cond.constant own i v).before a0 Z = true) (k : W κ n0 Q h cs sl nx L (.int v :: st)) : W κ n0 Q h cs sl pc L st := by
  obtain ⟨hd, rfl⟩ := hd
  obtain ⟨p, l, e, R', s, m, args, below, meth, c⟩ := κ
  obtain ⟨hx, hZ, hby, hml, hown, hret, hlk, hnm, rfl⟩ := C
  intro T locs X eT N h1 h2
  obtain ⟨s₂, o, a, r⟩ := k T locs X eT N h1 h2
  exact ⟨s₂, o, X.ldcwInt hx hown (mvT hZ w) (g := mkF m pc L.toArray st) rfl (hb hby hd) _ a, r⟩
theorem W.ldc2 {i : Nat} {v : Int64} (C : Good κ R Z own mnm bytes ml ret) (hd : Ins1 bytes pc (.ldc2_w i) 3 nx) (w : (Jvm.Cond.constantLong own i v).before a0 Z = true) (k : W κ n0 Q h cs sl nx L (.long v :: st)) : W κ n0 Q h cs sl pc L st := by
  obtain ⟨hd, rfl⟩ := hd
  obtain ⟨p, l, e, R', s, m, args, below, meth, c⟩ := κ
  obtain ⟨hx, hZ, hby, hml, hown, hret, hlk, hnm, rfl⟩ := C
  intro T locs X eT N h1 h2
  obtain ⟨s₂, o, a, r⟩ := k T locs X eT N h1 h2
  exact ⟨s₂, o, X.ldc2Long hx hown (mvT hZ w) (g := mkF m pc L.toArray st) rfl (hb hby hd) _ a, r⟩
/-! ### arrays -/
/-- at a lies an array of ty whose values are vs -/
def Av (Z : State) (h : Heap) (a : Addr) (ty : FieldType) (vs : List Value) : Prop := ∃ c : Cell, Arr Z h a c ty ∧ c.slots.toList = vs ∧ vs.length < 2147483648
theorem Av.lt {a : Addr} {ty : FieldType} {vs : List Value} (A : Av Z h a ty vs) : a < h.size := by obtain ⟨c, A, -⟩ := A; exact A.lt
theorem Av.ext {h' : Heap} {a : Addr} {ty : FieldType} {vs : List Value} (A : Av Z h a ty vs) (E : Ext h h') : Av Z h' a ty vs := by obtain ⟨c, A, r⟩ := A; exact ⟨c, A.ext E, r⟩
theorem Av.keep {h' : Heap} {ws : List Addr} {a : Addr} {ty : FieldType} {vs : List Value} (A : Av Z h a ty vs) (K : Keep h h' ws) (q : a ∉ ws) : Av Z h' a ty vs := by obtain ⟨c, A, r⟩ := A; exact ⟨c, ⟨K.2.1 a c A.1 q, A.2⟩, r⟩
theorem Av.other {h' : Heap} {a b : Addr} {sl : Nat} {v : Value} {ty : FieldType} {vs : List Value} (A : Av Z h b ty vs) (W : Wr h h' a sl v) (q : b ≠ a) : Av Z h' b ty vs := by obtain ⟨c, A, r⟩ := A; exact ⟨c, A.other W q, r⟩
theorem Av.set {h' : Heap} {a : Addr} {i : Nat} {v : Value} {ty : FieldType} {vs : List Value} (A : Av Z h a ty vs) (W : Wr h h' a i v) : Av Z h' a ty (vs.set i v) := by
  obtain ⟨c, A, rfl, r⟩ := A
  exact ⟨_, A.same W, by simp [Cell.setSlot], by simpa using r⟩
theorem Av.ne_exa {a b : Addr} {C' : String} {kk : Nat} {ty : FieldType} {vs : List Value} (A : Av Z h a ty vs) (E : Exa Z h b C') (wi : (Jvm.Cond.instantiable C' kk).before a0 Z = true) : a ≠ b := by obtain ⟨c, A, -⟩ := A; exact (ne_arr E wi A).symm
theorem clampNat {j : Int32} {i : Nat} (hj : j.toInt = i) : j.toNatClampNeg = i := by
  have e : j.toNatClampNeg = j.toInt.toNat := rfl
  omega
theorem inB {c : Cell} {vs : List Value} {j : Int32} {i : Nat} (e : c.slots.toList = vs) (hj : j.toInt = i) (hi : i < vs.length) : ¬ (j < 0 ∨ c.slots.size ≤ j.toNatClampNeg) := by
  have e1 := clampNat hj
  have e2 : c.slots.size = vs.length := by rw [← e]; simp
  rw [e1, e2, Int32.lt_iff_toInt_lt, hj, Int32.toInt_zero]
  omega
theorem inV {c : Cell} {vs : List Value} {j : Int32} {i : Nat} {v : Value} (e : c.slots.toList = vs) (hj : j.toInt = i) (hv : vs[i]? = some v) : c.slots[j.toNatClampNeg]? = some v := by
  rw [clampNat hj, ← hv, ← e]; simp
theorem ltOf {vs : List Value} {i : Nat} {v : Value} (hv : vs[i]? = some v) : i < vs.length := (List.getElem?_eq_some_iff.mp hv).1

theorem W.iaload {a : Addr} {vs : List Value} {j : Int32} {i : Nat} {v : Int32} (C : Good κ R Z own mnm bytes ml ret) (hd : Ins1 bytes pc .iaload 1 nx) (A : Av Z h a .int vs) (hj : j.toInt = i) (hv : vs[i]? = some (.int v)) (k : W κ n0 Q h cs sl nx L ((.int v) :: rest)) : W κ n0 Q h cs sl pc L (.int j :: .ref a :: rest) := by
  obtain ⟨hd, rfl⟩ := hd
  obtain ⟨p, l, e, R', s, m, args, below, meth, c⟩ := κ
  obtain ⟨hx, hZ, hby, hml, hown, hret, hlk, hnm, rfl⟩ := C
  intro T locs X eT N h1 h2
  obtain ⟨s₂, o, b, r⟩ := k T locs X eT N h1 h2
  obtain ⟨cl, Ar, q1, q2⟩ := A
  exact ⟨s₂, o, X.iaload hx (j := j) (by rw [eT]; exact Ar.1) (State.isArrayOf_alike hZ.alike Ar.2.1) Ar.2.2 (inB q1 hj (ltOf hv)) (inV q1 hj hv) (g := mkF m pc L.toArray (.int j :: .ref a :: rest)) rfl rfl (hb hby hd) _ b, r⟩
theorem W.baload {a : Addr} {vs : List Value} {j : Int32} {i : Nat} {v : Int32} (C : Good κ R Z own mnm bytes ml ret) (hd : Ins1 bytes pc .baload 1 nx) (A : Av Z h a .byte vs) (hj : j.toInt = i) (hv : vs[i]? = some (.int v)) (k : W κ n0 Q h cs sl nx L ((.int v) :: rest)) : W κ n0 Q h cs sl pc L (.int j :: .ref a :: rest) := by
  obtain ⟨hd, rfl⟩ := hd
  obtain ⟨p, l, e, R', s, m, args, below, meth, c⟩ := κ
  obtain ⟨hx, hZ, hby, hml, hown, hret, hlk, hnm, rfl⟩ := C
  intro T locs X eT N h1 h2
  obtain ⟨s₂, o, b, r⟩ := k T locs X eT N h1 h2
  obtain ⟨cl, Ar, q1, q2⟩ := A
  exact ⟨s₂, o, X.baloadBytes hx (j := j) (by rw [eT]; exact Ar.1) (State.isArrayOf_alike hZ.alike Ar.2.1) Ar.2.2 (inB q1 hj (ltOf hv)) (inV q1 hj hv) (g := mkF m pc L.toArray (.int j :: .ref a :: rest)) rfl rfl (hb hby hd) _ b, r⟩
theorem W.zaload {a : Addr} {vs : List Value} {j : Int32} {i : Nat} {v : Int32} (C : Good κ R Z own mnm bytes ml ret) (hd : Ins1 bytes pc .baload 1 nx) (A : Av Z h a .boolean vs) (hj : j.toInt = i) (hv : vs[i]? = some (.int v)) (k : W κ n0 Q h cs sl nx L ((.int v) :: rest)) : W κ n0 Q h cs sl pc L (.int j :: .ref a :: rest) := by
  obtain ⟨hd, rfl⟩ := hd
  obtain ⟨p, l, e, R', s, m, args, below, meth, c⟩ := κ
  obtain ⟨hx, hZ, hby, hml, hown, hret, hlk, hnm, rfl⟩ := C
  intro T locs X eT N h1 h2
  obtain ⟨s₂, o, b, r⟩ := k T locs X eT N h1 h2
  obtain ⟨cl, Ar, q1, q2⟩ := A
  exact ⟨s₂, o, X.baloadBooleans hx (j := j) (by rw [eT]; exact Ar.1) (State.isArrayOf_alike hZ.alike Ar.2.1) Ar.2.2 (inB q1 hj (ltOf hv)) (inV q1 hj hv) (g := mkF m pc L.toArray (.int j :: .ref a :: rest)) rfl rfl (hb hby hd) _ b, r⟩
theorem W.laload {a : Addr} {vs : List Value} {j : Int32} {i : Nat} {v : Int64} (C : Good κ R Z own mnm bytes ml ret) (hd : Ins1 bytes pc .laload 1 nx) (A : Av Z h a .long vs) (hj : j.toInt = i) (hv : vs[i]? = some (.long v)) (k : W κ n0 Q h cs sl nx L ((.long v) :: rest)) : W κ n0 Q h cs sl pc L (.int j :: .ref a :: rest) := by
  obtain ⟨hd, rfl⟩ := hd
  obtain ⟨p, l, e, R', s, m, args, below, meth, c⟩ := κ
  obtain ⟨hx, hZ, hby, hml, hown, hret, hlk, hnm, rfl⟩ := C
  intro T locs X eT N h1 h2
  obtain ⟨s₂, o, b, r⟩ := k T locs X eT N h1 h2
  obtain ⟨cl, Ar, q1, q2⟩ := A
  exact ⟨s₂, o, X.laload hx (j := j) (by rw [eT]; exact Ar.1) (State.isArrayOf_alike hZ.alike Ar.2.1) Ar.2.2 (inB q1 hj (ltOf hv)) (inV q1 hj hv) (g := mkF m pc L.toArray (.int j :: .ref a :: rest)) rfl rfl (hb hby hd) _ b, r⟩
theorem W.caload {a : Addr} {vs : List Value} {j : Int32} {i : Nat} {v : Int32} (C : Good κ R Z own mnm bytes ml ret) (hd : Ins1 bytes pc .caload 1 nx) (A : Av Z h a .char vs) (hj : j.toInt = i) (hv : vs[i]? = some (.int v)) (k : W κ n0 Q h cs sl nx L ((.int v) :: rest)) : W κ n0 Q h cs sl pc L (.int j :: .ref a :: rest) := by
  obtain ⟨hd, rfl⟩ := hd
  obtain ⟨p, l, e, R', s, m, args, below, meth, c⟩ := κ
  obtain ⟨hx, hZ, hby, hml, hown, hret, hlk, hnm, rfl⟩ := C
  intro T locs X eT N h1 h2
  obtain ⟨s₂, o, b, r⟩ := k T locs X eT N h1 h2
  obtain ⟨cl, Ar, q1, q2⟩ := A
  exact ⟨s₂, o, X.caload hx (j := j) (by rw [eT]; exact Ar.1) (State.isArrayOf_alike hZ.alike Ar.2.1) Ar.2.2 (inB q1 hj (ltOf hv)) (inV q1 hj hv) (g := mkF m pc L.toArray (.int j :: .ref a :: rest)) rfl rfl (hb hby hd) _ b, r⟩
theorem W.aaload {a : Addr} {ty : FieldType} {vs : List Value} {j : Int32} {i : Nat} {v : Value} (C : Good κ R Z own mnm bytes ml ret) (hd : Ins1 bytes pc .aaload 1 nx) (A : Av Z h a ty vs) (hty : ty.isReference = true) (hj : j.toInt = i) (hv : vs[i]? = some v) (k : W κ n0 Q h cs sl nx L (v :: rest)) : W κ n0 Q h cs sl pc L (.int j :: .ref a :: rest) := by
  obtain ⟨hd, rfl⟩ := hd
  obtain ⟨p, l, e, R', s, m, args, below, meth, c⟩ := κ
  obtain ⟨hx, hZ, hby, hml, hown, hret, hlk, hnm, rfl⟩ := C
  intro T locs X eT N h1 h2
  obtain ⟨s₂, o, b, r⟩ := k T locs X eT N h1 h2
  obtain ⟨cl, Ar, q1, q2⟩ := A
  exact ⟨s₂, o, X.aaload hx (j := j) (by rw [eT]; exact Ar.1) (State.isArrayOf_alike hZ.alike Ar.2.1) hty Ar.2.2 (inB q1 hj (ltOf hv)) (inV q1 hj hv) (g := mkF m pc L.toArray (.int j :: .ref a :: rest)) rfl rfl (hb hby hd) _ b, r⟩
theorem W.arraylength {a : Addr} {ty : FieldType} {vs : List Value} {z : Int32} (C : Good κ R Z own mnm bytes ml ret) (hd : Ins1 bytes pc .arraylength 1 nx) (A : Av Z h a ty vs) (hz : z.toInt = vs.length) (k : W κ n0 Q h cs sl nx L (.int z :: rest)) : W κ n0 Q h cs sl pc L (.ref a :: rest) := by
  obtain ⟨hd, rfl⟩ := hd
  obtain ⟨p, l, e, R', s, m, args, below, meth, c⟩ := κ
  obtain ⟨hx, hZ, hby, hml, hown, hret, hlk, hnm, rfl⟩ := C
  intro T locs X eT N h1 h2
  obtain ⟨s₂, o, b, r⟩ := k T locs X eT N h1 h2
  obtain ⟨cl, Ar, q1, q2⟩ := A
  have e2 : cl.slots.size = vs.length := by rw [← q1]; simp
  have e3 : cl.slots.size.toInt32 = z := Int32.toInt_inj.mp (by rw [hz, e2]; exact Int32.toInt_ofNat_of_lt q2)
  refine ⟨s₂, o, X.arraylength hx (by rw [eT]; exact Ar.1) (State.isArrayOf_alike hZ.alike Ar.2.1) (g := mkF m pc L.toArray (.ref a :: rest)) rfl rfl (hb hby hd) _ ?_, r⟩
  rw [e3]; exact b
theorem W.iastore {a : Addr} {vs : List Value} {j : Int32} {i : Nat} {x : Int32} (C : Good κ R Z own mnm bytes ml ret) (hd : Ins1 bytes pc .iastore 1 nx) (A : Av Z h a .int vs) (hj : j.toInt = i) (hi : i < vs.length) (hn : n0 ≤ a) (k : ∀ h', Wr h h' a i (.int x) → Av Z h' a .int (vs.set i (.int x)) → W κ n0 Q h' cs sl nx L rest) : W κ n0 Q h cs sl pc L ((.int x) :: .int j :: .ref a :: rest) := by
  obtain ⟨hd, rfl⟩ := hd
  obtain ⟨p, l, e, R', s, m, args, below, meth, c⟩ := κ
  obtain ⟨hx, hZ, hby, hml, hown, hret, hlk, hnm, rfl⟩ := C
  intro T locs X eT N h1 h2
  have A' := A
  obtain ⟨cl, Ar, q1, q2⟩ := A'
  obtain ⟨T', h', X', e', W', st'⟩ := stI X hx hZ eT Ar (j := j) (inB q1 hj hi) (g := mkF m pc L.toArray ((.int x) :: .int j :: .ref a :: rest)) rfl rfl (hb hby hd)
  have N' := Fr.snoc X' N hn
  rw [clampNat hj] at W'
  obtain ⟨s₂, o, b, r⟩ := k h' W' (A.set W') T' _ X' e' N' h1 h2
  exact ⟨s₂, o, st' _ b, r⟩
theorem W.bastore {a : Addr} {vs : List Value} {j : Int32} {i : Nat} {x : Int32} (C : Good κ R Z own mnm bytes ml ret) (hd : Ins1 bytes pc .bastore 1 nx) (A : Av Z h a .byte vs) (hj : j.toInt = i) (hi : i < vs.length) (hn : n0 ≤ a) (k : ∀ h', Wr h h' a i (.int x.toInt8.toInt32) → Av Z h' a .byte (vs.set i (.int x.toInt8.toInt32)) → W κ n0 Q h' cs sl nx L rest) : W κ n0 Q h cs sl pc L ((.int x) :: .int j :: .ref a :: rest) := by
  obtain ⟨hd, rfl⟩ := hd
  obtain ⟨p, l, e, R', s, m, args, below, meth, c⟩ := κ
  obtain ⟨hx, hZ, hby, hml, hown, hret, hlk, hnm, rfl⟩ := C
  intro T locs X eT N h1 h2
  have A' := A
  obtain ⟨cl, Ar, q1, q2⟩ := A'
  obtain ⟨T', h', X', e', W', st'⟩ := stB X hx hZ eT Ar (j := j) (inB q1 hj hi) (g := mkF m pc L.toArray ((.int x) :: .int j :: .ref a :: rest)) rfl rfl (hb hby hd)
  have N' := Fr.snoc X' N hn
  rw [clampNat hj] at W'
  obtain ⟨s₂, o, b, r⟩ := k h' W' (A.set W') T' _ X' e' N' h1 h2
  exact ⟨s₂, o, st' _ b, r⟩
theorem W.zastore {a : Addr} {vs : List Value} {j : Int32} {i : Nat} {x : Int32} (C : Good κ R Z own mnm bytes ml ret) (hd : Ins1 bytes pc .bastore 1 nx) (A : Av Z h a .boolean vs) (hj : j.toInt = i) (hi : i < vs.length) (hn : n0 ≤ a) (k : ∀ h', Wr h h' a i (.int (x &&& 1)) → Av Z h' a .boolean (vs.set i (.int (x &&& 1))) → W κ n0 Q h' cs sl nx L rest) : W κ n0 Q h cs sl pc L ((.int x) :: .int j :: .ref a :: rest) := by
  obtain ⟨hd, rfl⟩ := hd
  obtain ⟨p, l, e, R', s, m, args, below, meth, c⟩ := κ
  obtain ⟨hx, hZ, hby, hml, hown, hret, hlk, hnm, rfl⟩ := C
  intro T locs X eT N h1 h2
  have A' := A
  obtain ⟨cl, Ar, q1, q2⟩ := A'
  obtain ⟨T', h', X', e', W', st'⟩ := stZ X hx hZ eT Ar (j := j) (inB q1 hj hi) (g := mkF m pc L.toArray ((.int x) :: .int j :: .ref a :: rest)) rfl rfl (hb hby hd)
  have N' := Fr.snoc X' N hn
  rw [clampNat hj] at W'
  obtain ⟨s₂, o, b, r⟩ := k h' W' (A.set W') T' _ X' e' N' h1 h2
  exact ⟨s₂, o, st' _ b, r⟩
theorem W.lastore {a : Addr} {vs : List Value} {j : Int32} {i : Nat} {x : Int64} (C : Good κ R Z own mnm bytes ml ret) (hd : Ins1 bytes pc .lastore 1 nx) (A : Av Z h a .long vs) (hj : j.toInt = i) (hi : i < vs.length) (hn : n0 ≤ a) (k : ∀ h', Wr h h' a i (.long x) → Av Z h' a .long (vs.set i (.long x)) → W κ n0 Q h' cs sl nx L rest) : W κ n0 Q h cs sl pc L ((.long x) :: .int j :: .ref a :: rest) := by
  obtain ⟨hd, rfl⟩ := hd
  obtain ⟨p, l, e, R', s, m, args, below, meth, c⟩ := κ
  obtain ⟨hx, hZ, hby, hml, hown, hret, hlk, hnm, rfl⟩ := C
  intro T locs X eT N h1 h2
  have A' := A
  obtain ⟨cl, Ar, q1, q2⟩ := A'
  obtain ⟨T', h', X', e', W', st'⟩ := stJ X hx hZ eT Ar (j := j) (inB q1 hj hi) (g := mkF m pc L.toArray ((.long x) :: .int j :: .ref a :: rest)) rfl rfl (hb hby hd)
  have N' := Fr.snoc X' N hn
  rw [clampNat hj] at W'
  obtain ⟨s₂, o, b, r⟩ := k h' W' (A.set W') T' _ X' e' N' h1 h2
  exact ⟨s₂, o, st' _ b, r⟩
theorem W.castore {a : Addr} {vs : List Value} {j : Int32} {i : Nat} {x : Int32} (C : Good κ R Z own mnm bytes ml ret) (hd : Ins1 bytes pc .castore 1 nx) (A : Av Z h a .char vs) (hj : j.toInt = i) (hi : i < vs.length) (hn : n0 ≤ a) (k : ∀ h', Wr h h' a i (.int (nar .char x)) → Av Z h' a .char (vs.set i (.int (nar .char x))) → W κ n0 Q h' cs sl nx L rest) : W κ n0 Q h cs sl pc L ((.int x) :: .int j :: .ref a :: rest) := by
  obtain ⟨hd, rfl⟩ := hd
  obtain ⟨p, l, e, R', s, m, args, below, meth, c⟩ := κ
  obtain ⟨hx, hZ, hby, hml, hown, hret, hlk, hnm, rfl⟩ := C
  intro T locs X eT N h1 h2
  have A' := A
  obtain ⟨cl, Ar, q1, q2⟩ := A'
  obtain ⟨T', h', X', e', W', st'⟩ := stC X hx hZ eT Ar (j := j) (inB q1 hj hi) (g := mkF m pc L.toArray ((.int x) :: .int j :: .ref a :: rest)) rfl rfl (hb hby hd)
  have N' := Fr.snoc X' N hn
  rw [clampNat hj] at W'
  obtain ⟨s₂, o, b, r⟩ := k h' W' (A.set W') T' _ X' e' N' h1 h2
  exact ⟨s₂, o, st' _ b, r⟩
theorem Av.of_new {h' : Heap} {a : Addr} {cA : ClassId} {ty : FieldType} {n : Int32} (A : Arr Z h' a (newA cA ty n) ty) : Av Z h' a ty (List.replicate n.toNatClampNeg (defaultValue ty)) := by
  refine ⟨_, A, by simp [newA], ?_⟩
  have e : n.toNatClampNeg = n.toInt.toNat := rfl
  have := Int32.toInt_lt n
  rw [List.length_replicate]; omega
theorem W.newarray {aty : ArrayType} {ty : FieldType} {n : Int32} {vs : List Value} (cap : Nat) (C : Good κ R Z own mnm bytes ml ret) (hd : Ins1 bytes pc (.newarray aty) 2 nx) (hty : newarray.typeOf aty = ty) (w : (Jvm.Cond.arrayClass ty).before a0 Z = true) (hn : 0 ≤ n.toInt) (hcap : n.toInt ≤ cap) (hvs : List.replicate n.toNatClampNeg (defaultValue ty) = vs) (hb8 : cap * 8 ≤ 536870912) (hc : cs + 1 ≤ R.cells) (hl : sl + cap ≤ R.slots) (k : ∀ h' a, h.size = a → Ext h h' → Av Z h' a ty vs → W κ n0 Q h' (cs + 1) (sl + cap) nx L (.ref a :: rest)) : W κ n0 Q h cs sl pc L (.int n :: rest) := by
  subst hty
  obtain ⟨hd, rfl⟩ := hd
  obtain ⟨p, l, e, R', s, m, args, below, meth, c⟩ := κ
  obtain ⟨hx, hZ, hby, hml, hown, hret, hlk, hnm, rfl⟩ := C
  intro T locs X eT N h1 h2
  have hn' : ¬ n < 0 := by rw [Int32.lt_iff_toInt_lt, Int32.toInt_zero]; omega
  have hc' : n.toNatClampNeg ≤ cap := by have e : n.toNatClampNeg = n.toInt.toNat := rfl; omega
  obtain ⟨T', h', cA, X', e', E', A', st'⟩ := newP X hx hZ w eT (g := mkF m pc L.toArray (.int n :: rest)) rfl (hb hby hd) rfl hn' (cap := cap) hc' hb8 hc hl
  obtain ⟨s₂, o, b, r⟩ := k h' _ rfl E' (hvs ▸ Av.of_new A') T' _ X' e' N hc hl
  exact ⟨s₂, o, st' _ b, r⟩
/-! ### objects -/
theorem W.new {i : Nat} {C' : String} {nf : Nat} (C : Good κ R Z own mnm bytes ml ret) (hd : Ins1 bytes pc (.new i) 3 nx) (w1 : (Jvm.Cond.classLink own i C').before a0 Z = true) (w2 : (Jvm.Cond.instantiable C' nf).before a0 Z = true) (w3 : (Jvm.Cond.initialized C').before a0 Z = true) (hc : cs + 1 ≤ R.cells) (hl : sl + nf ≤ R.slots)
    (k : ∀ h' a, h.size = a → Ext h h' → Exa Z h' a C' → (∀ {O nm d : String} {ty : FieldType}, Laid Z a0 C' O nm d → parseFieldDescriptor d = some ty → Fld Z h' a O nm d (defaultValue ty)) → W κ n0 Q h' (cs + 1) (sl + nf) nx L (.ref a :: st)) : W κ n0 Q h cs sl pc L st := by
  obtain ⟨hd, rfl⟩ := hd
  obtain ⟨p, l, e, R', s, m, args, below, meth, c⟩ := κ
  obtain ⟨hx, hZ, hby, hml, hown, hret, hlk, hnm, rfl⟩ := C
  intro T locs X eT N h1 h2
  obtain ⟨T', h', X', e', E', A', D', -, st'⟩ := newO X hx hZ hown w1 w2 w3 eT (g := mkF m pc L.toArray st) rfl (hb hby hd) hc hl
  obtain ⟨s₂, o, b, r⟩ := k h' _ rfl E' A' D' T' _ X' e' N hc hl
  exact ⟨s₂, o, st' _ b, r⟩
theorem W.getfield {i : Nat} {R0 O nm d host : String} {a : Addr} {v : Value} (C : Good κ R Z own mnm bytes ml ret) (hd : Ins1 bytes pc (.getfield i) 3 nx) (w : (Jvm.Cond.fieldLink own i R0 nm d).before a0 Z = true ∨ (Jvm.Cond.fieldLinkNest own i R0 nm d host).before a0 Z = true) (via : Via Z R0 O nm d) (F : Fld Z h a O nm d v) (k : W κ n0 Q h cs sl nx L (v :: rest)) : W κ n0 Q h cs sl pc L (.ref a :: rest) := by
  obtain ⟨hd, rfl⟩ := hd
  obtain ⟨p, l, e, R', s, m, args, below, meth, c⟩ := κ
  obtain ⟨hx, hZ, hby, hml, hown, hret, hlk, hnm, rfl⟩ := C
  intro T locs X eT N h1 h2
  obtain ⟨T', X', e', st'⟩ := getF X hx hZ hown w via eT F (g := mkF m pc L.toArray (.ref a :: rest)) rfl rfl (hb hby hd)
  obtain ⟨s₂, o, b, r⟩ := k T' _ X' e' N h1 h2
  exact ⟨s₂, o, st' _ b, r⟩
theorem W.getstatic {i : Nat} {R0 O nm d host : String} {v : Value} (C : Good κ R Z own mnm bytes ml ret) (hd : Ins1 bytes pc (.getstatic i) 3 nx) (w : (Jvm.Cond.fieldLink own i R0 nm d).before a0 Z = true ∨ (Jvm.Cond.fieldLinkNest own i R0 nm d host).before a0 Z = true) (via : Via Z R0 O nm d) (F : Sta Z h O nm d v) (k : W κ n0 Q h cs sl nx L (v :: st)) : W κ n0 Q h cs sl pc L st := by
  obtain ⟨hd, rfl⟩ := hd
  obtain ⟨p, l, e, R', s, m, args, below, meth, c⟩ := κ
  obtain ⟨hx, hZ, hby, hml, hown, hret, hlk, hnm, rfl⟩ := C
  intro T locs X eT N h1 h2
  obtain ⟨T', X', e', st'⟩ := getS2 X hx hZ hown w via eT F (g := mkF m pc L.toArray st) rfl (hb hby hd)
  obtain ⟨s₂, o, b, r⟩ := k T' _ X' e' N h1 h2
  exact ⟨s₂, o, st' _ b, r⟩
theorem W.putfield {i kk : Nat} {R0 O nm d host C' : String} {ty : FieldType} {a : Addr} {v old : Value} (C : Good κ R Z own mnm bytes ml ret) (hd : Ins1 bytes pc (.putfield i) 3 nx) (w : (Jvm.Cond.fieldLink own i R0 nm d).before a0 Z = true ∨ (Jvm.Cond.fieldLinkNest own i R0 nm d host).before a0 Z = true) (via : Via Z R0 O nm d) (F : Fld Z h a O nm d old) (E : Exa Z h a C')
    (Ly : (Jvm.Cond.lays C' O nm d).before a0 Z = true ∨ ((Jvm.Cond.laysFinal C' O nm d).before a0 Z = true ∧ own = O ∧ mnm = "<init>")) (wi : (Jvm.Cond.instantiable C' kk).before a0 Z = true) (hty : parseFieldDescriptor d = some ty) (hnw : narrow ty v = v) (hf : fits ty v = true) (hn : n0 ≤ a)
    (k : ∀ h', Wr h h' a (Jvm.RoadKit.slotOf Z O nm d) v → Fld Z h' a O nm d v → W κ n0 Q h' cs sl nx L rest) : W κ n0 Q h cs sl pc L (v :: .ref a :: rest) := by
  obtain ⟨hd, rfl⟩ := hd
  obtain ⟨p, l, e, R', s, m, args, below, meth, c⟩ := κ
  obtain ⟨hx, hZ, hby, hml, hown, hret, hlk, hnm, rfl⟩ := C
  intro T locs X eT N h1 h2
  obtain ⟨T', h', X', e', W', st'⟩ := putF X hx hZ hown w via eT F E (Ly.imp id fun q => ⟨q.1, q.2.1, hnm.trans q.2.2⟩) wi hty hnw hf (g := mkF m pc L.toArray (v :: .ref a :: rest)) rfl rfl (hb hby hd)
  have N' := Fr.snoc X' N hn
  obtain ⟨s₂, o, b, r⟩ := k h' W' (F.same W') T' _ X' e' N' h1 h2
  exact ⟨s₂, o, st' _ b, r⟩
theorem W.putfieldN {i kk : Nat} {R0 O nm d C' : String} {ty : FieldType} {a : Addr} {v v' old : Value} (C : Good κ R Z own mnm bytes ml ret) (hd : Ins1 bytes pc (.putfield i) 3 nx) (w : (Jvm.Cond.fieldLink own i R0 nm d).before a0 Z = true) (via : Via Z R0 O nm d) (F : Fld Z h a O nm d old) (E : Exa Z h a C')
    (Ly : (Jvm.Cond.lays C' O nm d).before a0 Z = true ∨ ((Jvm.Cond.laysFinal C' O nm d).before a0 Z = true ∧ own = O ∧ mnm = "<init>")) (wi : (Jvm.Cond.instantiable C' kk).before a0 Z = true) (hty : parseFieldDescriptor d = some ty) (hnw : narrow ty v = v') (hf : fits ty v' = true) (hn : n0 ≤ a)
    (k : ∀ h', Wr h h' a (Jvm.RoadKit.slotOf Z O nm d) v' → Fld Z h' a O nm d v' → W κ n0 Q h' cs sl nx L rest) : W κ n0 Q h cs sl pc L (v :: .ref a :: rest) := by
  obtain ⟨hd, rfl⟩ := hd
  obtain ⟨p, l, e, R', s, m, args, below, meth, c⟩ := κ
  obtain ⟨hx, hZ, hby, hml, hown, hret, hlk, hnm, rfl⟩ := C
  intro T locs X eT N h1 h2
  obtain ⟨T', h', X', e', W', st'⟩ := putFN X hx hZ hown w via eT F E (Ly.imp id fun q => ⟨q.1, q.2.1, hnm.trans q.2.2⟩) wi hty hnw hf (g := mkF m pc L.toArray (v :: .ref a :: rest)) rfl rfl (hb hby hd)
  have N' := Fr.snoc X' N hn
  obtain ⟨s₂, o, b, r⟩ := k h' W' (F.same W') T' _ X' e' N' h1 h2
  exact ⟨s₂, o, st' _ b, r⟩
/-! ### returns -/
theorem W.ireturn {z : Int32} (C : Good κ R Z own mnm bytes ml (some .int)) (hd : Ins1 bytes pc .ireturn 1 nx) (hq : Q (some (.int z)) h) : W κ n0 Q h cs sl pc L (.int z :: rest) := by
  obtain ⟨p, l, e, R', s, m, args, below, meth, c⟩ := κ
  obtain ⟨hx, hZ, hby, hml, hown, hret, hlk, hnm, rfl⟩ := C
  intro T locs X eT N h1 h2
  obtain ⟨fs, hr, hrun, hended, hW, hsame⟩ := X.leave (v := some (.int z)) (fun h => by rw [hret] at h; cases h) hlk
  refine ⟨_, _, retOut X hx hret rfl (Or.inl ⟨rfl, Or.inl rfl, z, rfl⟩) (hb hby hd.1) hr, hrun, hended, _, _, rfl, ⟨?_, N⟩, ⟨_, rfl⟩, hW, hsame.mono h1 h2⟩
  show Q _ T.heap
  rw [eT]; exact hq
theorem W.nreturn {t : FieldType} {z : Int32} (C : Good κ R Z own mnm bytes ml (some t)) (ht : t = .boolean ∨ t = .byte ∨ t = .char ∨ t = .short) (hd : Ins1 bytes pc .ireturn 1 nx) (hq : Q (some (.int (nar t z))) h) : W κ n0 Q h cs sl pc L (.int z :: rest) := by
  obtain ⟨p, l, e, R', s, m, args, below, meth, c⟩ := κ
  obtain ⟨hx, hZ, hby, hml, hown, hret, hlk, hnm, rfl⟩ := C
  intro T locs X eT N h1 h2
  obtain ⟨fs, hr, hrun, hended, hW, hsame⟩ := X.leave (v := some (.int (nar t z))) (fun h => by rw [hret] at h; cases h) hlk
  refine ⟨_, _, retN X hx hret ht (hb hby hd.1) hr, hrun, hended, _, _, rfl, ⟨?_, N⟩, ⟨_, rfl⟩, hW, hsame.mono h1 h2⟩
  show Q _ T.heap
  rw [eT]; exact hq
theorem W.zreturn {z : Int32} (C : Good κ R Z own mnm bytes ml (some .boolean)) (hd : Ins1 bytes pc .ireturn 1 nx) (hq : Q (some (.int (z &&& 1))) h) : W κ n0 Q h cs sl pc L (.int z :: rest) := W.nreturn C (Or.inl rfl) hd hq
theorem W.lreturn {z : Int64} (C : Good κ R Z own mnm bytes ml (some .long)) (hd : Ins1 bytes pc .lreturn 1 nx) (hq : Q (some (.long z)) h) : W κ n0 Q h cs sl pc L (.long z :: rest) := by
  obtain ⟨p, l, e, R', s, m, args, below, meth, c⟩ := κ
  obtain ⟨hx, hZ, hby, hml, hown, hret, hlk, hnm, rfl⟩ := C
  intro T locs X eT N h1 h2
  obtain ⟨fs, hr, hrun, hended, hW, hsame⟩ := X.leave (v := some (.long z)) (fun h => by rw [hret] at h; cases h) hlk
  refine ⟨_, _, retOut X hx hret rfl (Or.inr (Or.inl ⟨rfl, rfl, z, rfl⟩)) (hb hby hd.1) hr, hrun, hended, _, _, rfl, ⟨?_, N⟩, ⟨_, rfl⟩, hW, hsame.mono h1 h2⟩
  show Q _ T.heap
  rw [eT]; exact hq
theorem W.areturn {t : FieldType} {v : Value} (C : Good κ R Z own mnm bytes ml (some t)) (ht : t.isReference = true) (hv : v.isRef = true) (hd : Ins1 bytes pc .areturn 1 nx) (hq : Q (some v) h) : W κ n0 Q h cs sl pc L (v :: rest) := by
  obtain ⟨p, l, e, R', s, m, args, below, meth, c⟩ := κ
  obtain ⟨hx, hZ, hby, hml, hown, hret, hlk, hnm, rfl⟩ := C
  intro T locs X eT N h1 h2
  obtain ⟨fs, hr, hrun, hended, hW, hsame⟩ := X.leave (v := some v) (fun h => by rw [hret] at h; cases h) hlk
  have hnw : narrow t v = v := by cases t <;> first | (cases ht; done) | (cases v <;> first | rfl | (cases hv; done))
  refine ⟨_, _, retOut X hx hret hnw (Or.inr (Or.inr (Or.inr (Or.inr ⟨rfl, ht, hv⟩)))) (hb hby hd.1) hr, hrun, hended, _, _, rfl, ⟨?_, N⟩, ⟨_, rfl⟩, hW, hsame.mono h1 h2⟩
  show Q _ T.heap
  rw [eT]; exact hq
theorem W.vreturn (C : Good κ R Z own mnm bytes ml none) (hd : Ins1 bytes pc .return_ 1 nx) (hq : Q none h) : W κ n0 Q h cs sl pc L [] := by
  obtain ⟨p, l, e, R', s, m, args, below, meth, c⟩ := κ
  obtain ⟨hx, hZ, hby, hml, hown, hret, hlk, hnm, rfl⟩ := C
  intro T locs X eT N h1 h2
  obtain ⟨fs, hr, hrun, hended, hW, hsame⟩ := X.leave (v := none) (fun _ => rfl) hlk
  refine ⟨_, _, X.returnOut hx hret (hb hby hd.1) hr, hrun, hended, _, _, rfl, ⟨?_, N⟩, ⟨_, rfl⟩, hW, hsame.mono h1 h2⟩
  show Q _ T.heap
  rw [eT]; exact hq
/-! ### calls -/
theorem Con.of {y : MethodName} {cb : ByteArray} {cml : Nat} {cret : Option FieldType} {rm : Room} {as' : List Value} {h0 : Heap} {L : List Slot} (hy : plainFor y = true) (hef : ∀ m, entryFrame m as'.toArray cml = mkF m 0 L.toArray []) (k : ∀ κ (Qx : Option Value → Heap → Prop), (∀ v h', Q v h' → Qx v h') → Good κ rm Z y.cls y.name cb cml cret → W κ n0 Qx h0 0 0 0 L []) : Con Z y cb cml cret rm as' h0 n0 Q := by
  intro l ws
  refine MetFree.of_bodySF hy hisR ?_
  intro p e s m args below meth c s₁ Bd hml0 hP hK
  obtain ⟨rfl, hZ, hh⟩ := hP
  have X0 : Stand p l e rm s m as'.toArray below meth c s₁ [] 0 0 := Stand.of_body Bd
  have e0 : s₁.heap = h0 := by rw [← hh, Bd.state]; rfl
  rw [hef m]
  exact k (p, l, e, rm, s, m, as'.toArray, below, meth, c) Q (fun _ _ q => q) ⟨Bd.exec, hZ, Bd.bytes, hml0, findClass_of_methodNamed Bd.named, Bd.returns, BodyLoose.notSynchronized Bd, (name_of_methodNamed Bd.named Bd.method).1, rfl⟩ s₁ [] X0 e0 (Fr.nil n0) (Nat.zero_le _) (Nat.zero_le _)
theorem Con.post {y : MethodName} {cb : ByteArray} {cml : Nat} {cret : Option FieldType} {rm : Room} {as' : List Value} {h0 : Heap} {Q' : Option Value → Heap → Prop} (hq : ∀ v h, Q v h → Q' v h) (k : Con Z y cb cml cret rm as' h0 n0 Q) : Con Z y cb cml cret rm as' h0 n0 Q' := by
  intro l ws p e h1 h2 h3 s m args below h4 h5 h6 h7
  obtain ⟨n, o, g1, g2, g3, v, L, e1, ⟨e2, e3⟩, e4⟩ := k l ws p e h1 h2 h3 s m args below h4 h5 h6 h7
  exact ⟨n, o, g1, g2, g3, v, L, e1, ⟨hq _ _ e2, e3⟩, e4⟩
theorem W.callS {i : Nat} {y : MethodName} {cb : ByteArray} {cml wt : Nat} {cret : Option FieldType} {rm : Room} {as' : List Value} {Qc : Option Value → Heap → Prop} {ps : List FieldType} {rt : Option FieldType} (C : Good κ R Z own mnm bytes ml ret) (hd : Ins1 bytes pc (.invokestatic i) 3 nx)
    (w1 : (Jvm.Cond.methodLink own i y).before a0 Z = true) (w2 : (Jvm.Cond.static y).before a0 Z = true) (w3 : (Jvm.Cond.initialized y.cls).before a0 Z = true) (w4 : (Jvm.Cond.code y cb cml cret).before a0 Z = true) (hy : y.cls ≠ "java/lang/invoke/MethodHandle" ∧ y.cls ≠ "java/lang/invoke/VarHandle")
    (hpd : parseMethodDescriptor y.desc = some ⟨ps, rt⟩) (hlen : as'.length = ps.length) (hM : Con Z y cb cml cret rm as' h n0 Qc) (hst : st = as'.reverse ++ rest) (hL : L.length = ml) (hwt : 2 * 0 + (rest.map fun v => v.category).sum ≤ wt)
    (hfr : rm.frames + 1 ≤ R.frames) (hlo : wt + (cml + 11) + rm.locals ≤ R.locals) (hcs : cs + rm.cells ≤ R.cells) (hsl : sl + rm.slots ≤ R.slots)
    (k : ∀ v h', Qc v h' → W κ n0 Q h' (cs + rm.cells) (sl + rm.slots) nx L (v.toList ++ rest)) : W κ n0 Q h cs sl pc L st := by
  obtain ⟨hd, rfl⟩ := hd
  obtain ⟨p, l, e, R', s, m, args, below, meth, c⟩ := κ
  obtain ⟨hx, hZ, hby, hml, hown, hret, hlk, hnm, rfl⟩ := C
  intro T locs X eT N h1 h2
  obtain ⟨v, _, ⟨T2, L2, k2, n2⟩, -, X2, ⟨Lc, hQ, l2, y2, z2⟩, st2⟩ := Jvm.LawKit.callS X hx (y := y) hown (mvT hZ w1) (mvT hZ w2) (mvT hZ w3) (mvT hZ w4) hy (backOf (W := wt) (Q := fun v h L => Qc v h ∧ Fr n0 L) (hM l []) hZ w4 w3 hfr hlo) (g := mkF m pc L.toArray st) rfl (by show L.toArray.size = _; rw [hml, ← hL]; simp) (argsL := as') (rest := rest) (lenOf hpd hlen) hst hwt (hb hby hd) (fun _ _ => ⟨rfl, eT, hcs, hsl⟩)
  dsimp only [Pt.U, Pt.locs, Pt.cells, Pt.slots] at X2 l2 y2 z2 st2 hQ
  subst l2 y2 z2
  obtain ⟨s₂, o, b, r⟩ := k v T2.heap hQ.1 T2 _ X2 rfl (Fr.app N hQ.2) hcs hsl
  exact ⟨s₂, o, st2 _ b, r⟩
theorem W.callC {i : Nat} {y : MethodName} {cb : ByteArray} {cml wt : Nat} {rm : Room} {a : Addr} {as' : List Value} {Qc : Option Value → Heap → Prop} {ps : List FieldType} {rt : Option FieldType} (C : Good κ R Z own mnm bytes ml ret) (hd : Ins1 bytes pc (.invokespecial i) 3 nx) (hy1 : y.name = "<init>")
    (w1 : (Jvm.Cond.methodLink own i y).before a0 Z = true) (w2 : (Jvm.Cond.instanceMethod y).before a0 Z = true) (w3 : (Jvm.Cond.initialized y.cls).before a0 Z = true) (w4 : (Jvm.Cond.code y cb cml none).before a0 Z = true) (hy : y.cls ≠ "java/lang/invoke/MethodHandle" ∧ y.cls ≠ "java/lang/invoke/VarHandle")
    (hpd : parseMethodDescriptor y.desc = some ⟨ps, rt⟩) (hlen : as'.length = ps.length) (hM : Con Z y cb cml none rm (.ref a :: as') h n0 Qc) (hst : st = as'.reverse ++ .ref a :: rest) (hL : L.length = ml) (hwt : 2 * 0 + (rest.map fun v => v.category).sum ≤ wt)
    (hfr : rm.frames + 1 ≤ R.frames) (hlo : wt + (cml + 11) + rm.locals ≤ R.locals) (hcs : cs + rm.cells ≤ R.cells) (hsl : sl + rm.slots ≤ R.slots)
    (k : ∀ v h', Qc v h' → W κ n0 Q h' (cs + rm.cells) (sl + rm.slots) nx L (v.toList ++ rest)) : W κ n0 Q h cs sl pc L st := by
  obtain ⟨hd, rfl⟩ := hd
  obtain ⟨p, l, e, R', s, m, args, below, meth, c⟩ := κ
  obtain ⟨hx, hZ, hby, hml, hown, hret, hlk, hnm, rfl⟩ := C
  intro T locs X eT N h1 h2
  obtain ⟨v, _, ⟨T2, L2, k2, n2⟩, -, X2, ⟨Lc, hQ, l2, y2, z2⟩, st2⟩ := X.specialBack hx (y := y) hy1 hown (mvT hZ w1) (mvT hZ w2) (mvT hZ w4) hy (backOf (W := wt) (Q := fun v h L => Qc v h ∧ Fr n0 L) (hM l []) hZ w4 w3 hfr hlo) (g := mkF m pc L.toArray st) rfl (by show L.toArray.size = _; rw [hml, ← hL]; simp) (Steps.refl _) (a := a) (argsL := as') (rest := rest) (lenOf hpd hlen) hst hwt (hb hby hd) (fun _ _ => ⟨rfl, eT, hcs, hsl⟩)
  dsimp only [Pt.U, Pt.locs, Pt.cells, Pt.slots] at X2 l2 y2 z2 st2 hQ
  subst l2 y2 z2
  obtain ⟨s₂, o, b, r⟩ := k v T2.heap hQ.1 T2 _ X2 rfl (Fr.app N hQ.2) hcs hsl
  exact ⟨s₂, o, st2.trans b, r⟩
theorem W.callV {i : Nat} {C' : String} {y : MethodName} {cb : ByteArray} {cml wt : Nat} {cret : Option FieldType} {rm : Room} {a : Addr} {as' : List Value} {Qc : Option Value → Heap → Prop} {ps : List FieldType} {rt : Option FieldType} (C : Good κ R Z own mnm bytes ml ret) (hd : Ins1 bytes pc (.invokevirtual i) 3 nx)
    (w1 : (Jvm.Cond.methodLink own i y).before a0 Z = true) (w2 : (Jvm.Cond.declares y).before a0 Z = true) (w5 : (Jvm.Cond.selects C' y y).before a0 Z = true) (w6 : (Jvm.Cond.instanceMethod y).before a0 Z = true) (w3 : (Jvm.Cond.initialized y.cls).before a0 Z = true) (w4 : (Jvm.Cond.code y cb cml cret).before a0 Z = true) (hy : y.cls ≠ "java/lang/invoke/MethodHandle" ∧ y.cls ≠ "java/lang/invoke/VarHandle")
    (E : Exa Z h a C') (hpd : parseMethodDescriptor y.desc = some ⟨ps, rt⟩) (hlen : as'.length = ps.length) (hM : Con Z y cb cml cret rm (.ref a :: as') h n0 Qc) (hst : st = as'.reverse ++ .ref a :: rest) (hL : L.length = ml) (hwt : 2 * 0 + (rest.map fun v => v.category).sum ≤ wt)
    (hfr : rm.frames + 1 ≤ R.frames) (hlo : wt + (cml + 11) + rm.locals ≤ R.locals) (hcs : cs + rm.cells ≤ R.cells) (hsl : sl + rm.slots ≤ R.slots)
    (k : ∀ v h', Qc v h' → W κ n0 Q h' (cs + rm.cells) (sl + rm.slots) nx L (v.toList ++ rest)) : W κ n0 Q h cs sl pc L st := by
  obtain ⟨hd, rfl⟩ := hd
  obtain ⟨p, l, e, R', s, m, args, below, meth, c⟩ := κ
  obtain ⟨hx, hZ, hby, hml, hown, hret, hlk, hnm, rfl⟩ := C
  intro T locs X eT N h1 h2
  obtain ⟨cq, kq, qa, qb, qc⟩ := isOf hZ eT E
  obtain ⟨v, _, ⟨T2, L2, k2, n2⟩, -, X2, ⟨Lc, hQ, l2, y2, z2⟩, st2⟩ := X.virtualBack hx (y := y) (z := y) hown (mvT hZ w1) (mvT hZ w2) (notFace_of_selects (args := #[]) (mvT hZ w5)) (mvT hZ w5) (mvT hZ w6) hy (backOf (W := wt) (Q := fun v h L => Qc v h ∧ Fr n0 L) (hM l []) hZ w4 w3 hfr hlo) qa qc (g := mkF m pc L.toArray st) rfl (by show L.toArray.size = _; rw [hml, ← hL]; simp) (Steps.refl _) (argsL := as') (rest := rest) (lenOf hpd hlen) hst hwt (hb hby hd) (fun _ _ => ⟨rfl, eT, hcs, hsl⟩)
  dsimp only [Pt.U, Pt.locs, Pt.cells, Pt.slots] at X2 l2 y2 z2 st2 hQ
  subst l2 y2 z2
  obtain ⟨s₂, o, b, r⟩ := k v T2.heap hQ.1 T2 _ X2 rfl (Fr.app N hQ.2) hcs hsl
  exact ⟨s₂, o, st2.trans b, r⟩
theorem W.callP {i kk : Nat} {y : MethodName} {cb : ByteArray} {cml wt : Nat} {cret : Option FieldType} {rm : Room} {a : Addr} {as' : List Value} {Qc : Option Value → Heap → Prop} {ps : List FieldType} {rt : Option FieldType} (C : Good κ R Z own mnm bytes ml ret) (hd : Ins1 bytes pc (.invokevirtual i) 3 nx)
    (w1 : (Jvm.Cond.methodLink own i y).before a0 Z = true) (w6 : (Jvm.Cond.instanceMethod y).before a0 Z = true) (wi : (Jvm.Cond.instantiable y.cls kk).before a0 Z = true) (w7 : (Jvm.Cond.privateMethod y).before a0 Z = true) (w3 : (Jvm.Cond.initialized y.cls).before a0 Z = true) (w4 : (Jvm.Cond.code y cb cml cret).before a0 Z = true) (hy : y.cls ≠ "java/lang/invoke/MethodHandle" ∧ y.cls ≠ "java/lang/invoke/VarHandle")
    (E : Exa Z h a y.cls) (hpd : parseMethodDescriptor y.desc = some ⟨ps, rt⟩) (hlen : as'.length = ps.length) (hM : Con Z y cb cml cret rm (.ref a :: as') h n0 Qc) (hst : st = as'.reverse ++ .ref a :: rest) (hL : L.length = ml) (hwt : 2 * 0 + (rest.map fun v => v.category).sum ≤ wt)
    (hfr : rm.frames + 1 ≤ R.frames) (hlo : wt + (cml + 11) + rm.locals ≤ R.locals) (hcs : cs + rm.cells ≤ R.cells) (hsl : sl + rm.slots ≤ R.slots)
    (k : ∀ v h', Qc v h' → W κ n0 Q h' (cs + rm.cells) (sl + rm.slots) nx L (v.toList ++ rest)) : W κ n0 Q h cs sl pc L st := by
  obtain ⟨hd, rfl⟩ := hd
  obtain ⟨p, l, e, R', s, m, args, below, meth, c⟩ := κ
  obtain ⟨hx, hZ, hby, hml, hown, hret, hlk, hnm, rfl⟩ := C
  intro T locs X eT N h1 h2
  obtain ⟨cq, q1, q2⟩ := E.cell
  have hpr := Cond.privateMethod_at (mvP hZ w7 (args := args))
  have hin : (Jvm.Cond.instanceMethod y).before args s = true := mvT hZ w6
  obtain ⟨cc, kc, c1, c2, -, c4, -⟩ := Cond.instantiable_spec (mvT (args := args) hZ wi)
  have hse := selects_self_of_private c1 c2 (Bool.or_eq_false_iff.mp c4).1 hpr hin hy
  obtain ⟨v, _, ⟨T2, L2, k2, n2⟩, -, X2, ⟨Lc, hQ, l2, y2, z2⟩, st2⟩ := X.privateBack hx (y := y) hown (mvT hZ w1) hin hse hpr (mvT hZ w4) hy (backOf (W := wt) (Q := fun v h L => Qc v h ∧ Fr n0 L) (hM l []) hZ w4 w3 hfr hlo) (g := mkF m pc L.toArray st) rfl (by show L.toArray.size = _; rw [hml, ← hL]; simp) (Steps.refl _) (a := a) (by rw [eT]; exact q1) q2 (argsL := as') (rest := rest) (lenOf hpd hlen) hst hwt (hb hby hd) (fun _ _ => ⟨rfl, eT, hcs, hsl⟩)
  dsimp only [Pt.U, Pt.locs, Pt.cells, Pt.slots] at X2 l2 y2 z2 st2 hQ
  subst l2 y2 z2
  obtain ⟨s₂, o, b, r⟩ := k v T2.heap hQ.1 T2 _ X2 rfl (Fr.app N hQ.2) hcs hsl
  exact ⟨s₂, o, st2.trans b, r⟩
theorem W.initO {i : Nat} {a : Addr} {wt : Nat} (C : Good κ R Z own mnm bytes ml ret) (hd : Ins1 bytes pc (.invokespecial i) 3 nx) (w1 : (Jvm.Cond.methodLink own i Lib.objectInit).before a0 Z = true) (w2 : (Jvm.Cond.instanceMethod Lib.objectInit).before a0 Z = true) (w3 : (Jvm.Cond.code Lib.objectInit ⟨#[0xb1]⟩ 1 none).before a0 Z = true)
    (hL : L.length = ml) (hfr : 1 ≤ R.frames) (hwt : 2 * 0 + (rest.map fun v => v.category).sum ≤ wt) (hlo : wt + 12 ≤ R.locals) (k : W κ n0 Q h cs sl nx L rest) : W κ n0 Q h cs sl pc L (.ref a :: rest) := by
  obtain ⟨hd, rfl⟩ := hd
  obtain ⟨p, l, e, R', s, m, args, below, meth, c⟩ := κ
  obtain ⟨hx, hZ, hby, hml, hown, hret, hlk, hnm, rfl⟩ := C
  intro T locs X eT N h1 h2
  obtain ⟨T', X', e', st'⟩ := initO X hx hZ hown w1 w2 w3 eT (g := mkF m pc L.toArray (.ref a :: rest)) rfl (by show L.toArray.size = _; rw [hml, ← hL]; simp) rfl (hb hby hd) hfr hwt hlo
  obtain ⟨s₂, o, b, r⟩ := k T' _ X' e' N h1 h2
  exact ⟨s₂, o, st' _ b, r⟩
end WKit
/-- a value of one word stored over one word -/
theorem st1 {L : List Slot} {k : Nat} {o : Slot} {v : Value} (hold : L[k]? = some o) (ho : One o) (hv : v.category = 1) : storeLocals L.toArray k v = some (L.set k (.val v)).toArray := by
  have := XS.store1 (l := L.toArray) (i := k) (v := v) (o := o) (by simpa using hold) ho hv
  rw [this]; simp
theorem ofNat_toInt {n : Nat} (h : n < 2147483648) : (Int32.ofNat n).toInt = n := Int32.toInt_ofNat_of_lt h
theorem natOf {x : Int32} (h : 0 ≤ x.toInt) : ∃ n : Nat, x = Int32.ofNat n ∧ n < 2147483648 ∧ x.toInt = n := by
  have h2 := Int32.toInt_lt x
  refine ⟨x.toInt.toNat, Int32.toInt_inj.mp ?_, by omega, by omega⟩
  rw [ofNat_toInt (by omega)]; omega
abbrev y5 : MethodName := ⟨"java/lang/Math", "min", "(II)I"⟩
theorem m5_0 : Ins1 jdk_29_method_69_code 0 (.iload_n 0) 1 1 := ⟨by decide +kernel, rfl⟩
theorem m5_1 : Ins1 jdk_29_method_69_code 1 (.iload_n 1) 1 2 := ⟨by decide +kernel, rfl⟩
theorem m5_2 : Jmp1 jdk_29_method_69_code 2 (.if_icmp .gt 7) 7 5 9 := ⟨by decide +kernel, rfl, by decide, by decide⟩
theorem m5_5 : Ins1 jdk_29_method_69_code 5 (.iload_n 0) 1 6 := ⟨by decide +kernel, rfl⟩
theorem m5_6 : Jmp1 jdk_29_method_69_code 6 (.goto 4) 4 9 10 := ⟨by decide +kernel, rfl, by decide, by decide⟩
theorem m5_9 : Ins1 jdk_29_method_69_code 9 (.iload_n 1) 1 10 := ⟨by decide +kernel, rfl⟩
theorem m5_10 : Ins1 jdk_29_method_69_code 10 (.ireturn) 1 11 := ⟨by decide +kernel, rfl⟩
theorem pl5 : plainFor y5 = true := Jvm.Free.JP.mathPlain rfl (by decide +kernel)
theorem pd5 : parseMethodDescriptor "(II)I" = some ⟨[.int, .int], some .int⟩ := by decide +kernel
set_option maxRecDepth 65536 in
set_option maxHeartbeats 4000000 in
theorem own_min (Z : State) (a0 : Array Value) (hw : ∀ d ∈ tables_1, d.before a0 Z = true) (x : Int32) (y : Int32)  (h : Heap) (n0 : Nat)  :
    Con Z y5 jdk_29_method_69_code 2 (some .int) ({ frames := 0, cells := 0, slots := 0, locals := 0 } : Room) [(.int x), (.int y)] h n0 (fun v h' => h = h' ∧ ∃ z : Int32, v = some (.int z) ∧ z.toInt = min x.toInt y.toInt) := by
  refine Con.of pl5 (L := [.val (.int x), .val (.int y)]) (fun m => by first | (simp [entryFrame, mkF, argsToLocals, Value.category]; done) | rfl) ?_
  intro κ Qx hQ C
  refine W.iloadN C m5_0 rfl ?_
  refine W.iloadN C m5_1 rfl ?_
  refine W.icmp C m5_2 ?_ ?_
  · intro (h2 : y.toInt < x.toInt)
    refine W.iloadN C m5_9 rfl ?_
    refine W.ireturn C m5_10 (hQ _ _ ?_)
    exact ⟨rfl, _, rfl, by omega⟩
  · intro (h2 : ¬ (y.toInt < x.toInt))
    replace h2 : x.toInt ≤ y.toInt := by omega
    refine W.iloadN C m5_5 rfl ?_
    refine W.goto C m5_6 ?_
    refine W.ireturn C m5_10 (hQ _ _ ?_)
    exact ⟨rfl, _, rfl, by omega⟩
abbrev y2 : MethodName := ⟨"com/example/vestwright/vestwright/plan/HoursRule", "<init>", "(III)V"⟩
theorem m2_0 : Ins1 prog_50_method_2_code 0 (.aload_n 0) 1 1 := ⟨by decide +kernel, rfl⟩
theorem m2_1 : Ins1 prog_50_method_2_code 1 (.invokespecial 17) 3 4 := ⟨by decide +kernel, rfl⟩
theorem m2_4 : Ins1 prog_50_method_2_code 4 (.aload_n 0) 1 5 := ⟨by decide +kernel, rfl⟩
theorem m2_5 : Ins1 prog_50_method_2_code 5 (.iload_n 1) 1 6 := ⟨by decide +kernel, rfl⟩
theorem m2_6 : Ins1 prog_50_method_2_code 6 (.putfield 22) 3 9 := ⟨by decide +kernel, rfl⟩
theorem m2_9 : Ins1 prog_50_method_2_code 9 (.aload_n 0) 1 10 := ⟨by decide +kernel, rfl⟩
theorem m2_10 : Ins1 prog_50_method_2_code 10 (.iload_n 2) 1 11 := ⟨by decide +kernel, rfl⟩
theorem m2_11 : Ins1 prog_50_method_2_code 11 (.putfield 26) 3 14 := ⟨by decide +kernel, rfl⟩
theorem m2_14 : Ins1 prog_50_method_2_code 14 (.aload_n 0) 1 15 := ⟨by decide +kernel, rfl⟩
theorem m2_15 : Ins1 prog_50_method_2_code 15 (.iload_n 3) 1 16 := ⟨by decide +kernel, rfl⟩
theorem m2_16 : Ins1 prog_50_method_2_code 16 (.putfield 29) 3 19 := ⟨by decide +kernel, rfl⟩
theorem m2_19 : Ins1 prog_50_method_2_code 19 (.return_) 1 20 := ⟨by decide +kernel, rfl⟩
theorem pl2 : plainFor y2 = true := plainFor_of_name (show plainName "com/example/vestwright/vestwright/plan/HoursRule" = true by first | (simp [plainName, overriddenIn]; done) | decide +kernel)
theorem pd2 : parseMethodDescriptor "(III)V" = some ⟨[.int, .int, .int], none⟩ := by decide +kernel
set_option maxRecDepth 65536 in
set_option maxHeartbeats 4000000 in
theorem own_in3 (Z : State) (a0 : Array Value) (hw : ∀ d ∈ tables_1, d.before a0 Z = true) (a : Addr) (p0 : Int32) (p1 : Int32) (p2 : Int32)  (h : Heap) (n0 : Nat) (g0 : n0 ≤ a) (E0 : Exa Z h a "com/example/vestwright/vestwright/plan/HoursRule") (F0 : Fld Z h a "com/example/vestwright/vestwright/plan/HoursRule" "minimumHours" "I" (.int (0 : Int32))) (F1 : Fld Z h a "com/example/vestwright/vestwright/plan/HoursRule" "breakHours" "I" (.int (0 : Int32))) (F2 : Fld Z h a "com/example/vestwright/vestwright/plan/HoursRule" "parityBreaks" "I" (.int (0 : Int32)))  :
    Con Z y2 prog_50_method_2_code 4 none ({ frames := 1, cells := 0, slots := 0, locals := 12 } : Room) [(.ref a), (.int p0), (.int p1), (.int p2)] h n0 (fun v h' => v = none ∧ Keep h h' [a] ∧ Exa Z h' a "com/example/vestwright/vestwright/plan/HoursRule" ∧ Fld Z h' a "com/example/vestwright/vestwright/plan/HoursRule" "minimumHours" "I" (.int p0) ∧ Fld Z h' a "com/example/vestwright/vestwright/plan/HoursRule" "breakHours" "I" (.int p1) ∧ Fld Z h' a "com/example/vestwright/vestwright/plan/HoursRule" "parityBreaks" "I" (.int p2)) := by
  refine Con.of pl2 (L := [.val (.ref a), .val (.int p0), .val (.int p1), .val (.int p2)]) (fun m => by first | (simp [entryFrame, mkF, argsToLocals, Value.category]; done) | rfl) ?_
  intro κ Qx hQ C
  have K0 := Keep.refl h [a]
  refine W.aloadN C m2_0 rfl rfl ?_
  refine W.initO (wt := 0) C m2_1 (hw _ (List.mem_of_getElem? (i := 10) rfl)) (hw _ (List.mem_of_getElem? (i := 11) rfl)) (hw _ (List.mem_of_getElem? (i := 12) rfl)) rfl (by decide) (Nat.le_of_eq rfl) (by decide) ?_
  refine W.aloadN C m2_4 rfl rfl ?_
  refine W.iloadN C m2_5 rfl ?_
  refine W.putfield C m2_6 (host := "") (Or.inl (hw _ (List.mem_of_getElem? (i := 13) rfl))) Via.refl F0 E0 (Or.inr ⟨(hw _ (List.mem_of_getElem? (i := 14) rfl)), rfl, rfl⟩) (hw _ (List.mem_of_getElem? (i := 2) rfl)) (ty := .int) (by decide) rfl rfl g0 ?_
  intro ih1 iW2 iF3
  have iE4 := E0.wr iW2
  have iF5 := F1.other iW2 (Or.inr (slot_ne (a0 := a0) (Or.inr (hw _ (List.mem_of_getElem? (i := 16) rfl))) (Or.inr (hw _ (List.mem_of_getElem? (i := 14) rfl))) (by decide) (t := .int) (t' := .int) (by decide) (by decide)))
  have iF6 := F2.other iW2 (Or.inr (slot_ne (a0 := a0) (Or.inr (hw _ (List.mem_of_getElem? (i := 18) rfl))) (Or.inr (hw _ (List.mem_of_getElem? (i := 14) rfl))) (by decide) (t := .int) (t' := .int) (by decide) (by decide)))
  have iK7 := K0.wr iW2 (Or.inl (List.mem_of_getElem? (i := 0) rfl))
  refine W.aloadN C m2_9 rfl rfl ?_
  refine W.iloadN C m2_10 rfl ?_
  refine W.putfield C m2_11 (host := "") (Or.inl (hw _ (List.mem_of_getElem? (i := 15) rfl))) Via.refl iF5 iE4 (Or.inr ⟨(hw _ (List.mem_of_getElem? (i := 16) rfl)), rfl, rfl⟩) (hw _ (List.mem_of_getElem? (i := 2) rfl)) (ty := .int) (by decide) rfl rfl g0 ?_
  intro ih8 iW9 iF10
  have iE11 := iE4.wr iW9
  have iF12 := iF3.other iW9 (Or.inr (slot_ne (a0 := a0) (Or.inr (hw _ (List.mem_of_getElem? (i := 14) rfl))) (Or.inr (hw _ (List.mem_of_getElem? (i := 16) rfl))) (by decide) (t := .int) (t' := .int) (by decide) (by decide)))
  have iF13 := iF6.other iW9 (Or.inr (slot_ne (a0 := a0) (Or.inr (hw _ (List.mem_of_getElem? (i := 18) rfl))) (Or.inr (hw _ (List.mem_of_getElem? (i := 16) rfl))) (by decide) (t := .int) (t' := .int) (by decide) (by decide)))
  have iK14 := iK7.wr iW9 (Or.inl (List.mem_of_getElem? (i := 0) rfl))
  refine W.aloadN C m2_14 rfl rfl ?_
  refine W.iloadN C m2_15 rfl ?_
  refine W.putfield C m2_16 (host := "") (Or.inl (hw _ (List.mem_of_getElem? (i := 17) rfl))) Via.refl iF13 iE11 (Or.inr ⟨(hw _ (List.mem_of_getElem? (i := 18) rfl)), rfl, rfl⟩) (hw _ (List.mem_of_getElem? (i := 2) rfl)) (ty := .int) (by decide) rfl rfl g0 ?_
  intro ih15 iW16 iF17
  have iE18 := iE11.wr iW16
  have iF19 := iF12.other iW16 (Or.inr (slot_ne (a0 := a0) (Or.inr (hw _ (List.mem_of_getElem? (i := 14) rfl))) (Or.inr (hw _ (List.mem_of_getElem? (i := 18) rfl))) (by decide) (t := .int) (t' := .int) (by decide) (by decide)))
  have iF20 := iF10.other iW16 (Or.inr (slot_ne (a0 := a0) (Or.inr (hw _ (List.mem_of_getElem? (i := 16) rfl))) (Or.inr (hw _ (List.mem_of_getElem? (i := 18) rfl))) (by decide) (t := .int) (t' := .int) (by decide) (by decide)))
  have iK21 := iK14.wr iW16 (Or.inl (List.mem_of_getElem? (i := 0) rfl))
  refine W.vreturn C m2_19 (hQ _ _ ?_)
  exact ⟨rfl, iK21, iE18, iF19, iF20, iF17⟩
abbrev y1 : MethodName := ⟨"com/example/vestwright/vestwright/plan/HoursRule", "<init>", "(I)V"⟩
theorem m1_0 : Ins1 prog_50_method_1_code 0 (.aload_n 0) 1 1 := ⟨by decide +kernel, rfl⟩
theorem m1_1 : Ins1 prog_50_method_1_code 1 (.iload_n 1) 1 2 := ⟨by decide +kernel, rfl⟩
theorem m1_2 : Ins1 prog_50_method_1_code 2 (.iconst (-1)) 1 3 := ⟨by decide +kernel, rfl⟩
theorem m1_3 : Ins1 prog_50_method_1_code 3 (.iconst (-1)) 1 4 := ⟨by decide +kernel, rfl⟩
theorem m1_4 : Ins1 prog_50_method_1_code 4 (.invokespecial 3) 3 7 := ⟨by decide +kernel, rfl⟩
theorem m1_7 : Ins1 prog_50_method_1_code 7 (.iload_n 1) 1 8 := ⟨by decide +kernel, rfl⟩
theorem m1_8 : Ins1 prog_50_method_1_code 8 (.iconst 1) 1 9 := ⟨by decide +kernel, rfl⟩
theorem m1_9 : Jmp1 prog_50_method_1_code 9 (.if_icmp .ge 12) 12 12 21 := ⟨by decide +kernel, rfl, by decide, by decide⟩
theorem m1_21 : Ins1 prog_50_method_1_code 21 (.iload_n 1) 1 22 := ⟨by decide +kernel, rfl⟩
theorem m1_22 : Ins1 prog_50_method_1_code 22 (.sipush 1000) 3 25 := ⟨by decide +kernel, rfl⟩
theorem m1_25 : Jmp1 prog_50_method_1_code 25 (.if_icmp .le 12) 12 28 37 := ⟨by decide +kernel, rfl, by decide, by decide⟩
theorem m1_37 : Ins1 prog_50_method_1_code 37 (.return_) 1 38 := ⟨by decide +kernel, rfl⟩
theorem pl1 : plainFor y1 = true := plainFor_of_name (show plainName "com/example/vestwright/vestwright/plan/HoursRule" = true by first | (simp [plainName, overriddenIn]; done) | decide +kernel)
theorem pd1 : parseMethodDescriptor "(I)V" = some ⟨[.int], none⟩ := by decide +kernel
set_option maxRecDepth 65536 in
set_option maxHeartbeats 4000000 in
theorem own_in1 (Z : State) (a0 : Array Value) (hw : ∀ d ∈ tables_1, d.before a0 Z = true) (a : Addr) (p0 : Int32)  (h : Heap) (n0 : Nat) (g0 : n0 ≤ a) (E0 : Exa Z h a "com/example/vestwright/vestwright/plan/HoursRule") (F0 : Fld Z h a "com/example/vestwright/vestwright/plan/HoursRule" "minimumHours" "I" (.int (0 : Int32))) (F1 : Fld Z h a "com/example/vestwright/vestwright/plan/HoursRule" "breakHours" "I" (.int (0 : Int32))) (F2 : Fld Z h a "com/example/vestwright/vestwright/plan/HoursRule" "parityBreaks" "I" (.int (0 : Int32))) (hp1 : 1 ≤ p0.toInt) (hp2 : p0.toInt ≤ 1000) :
    Con Z y1 prog_50_method_1_code 2 none ({ frames := 2, cells := 0, slots := 0, locals := 27 } : Room) [(.ref a), (.int p0)] h n0 (fun v h' => v = none ∧ Keep h h' [a] ∧ Exa Z h' a "com/example/vestwright/vestwright/plan/HoursRule" ∧ Fld Z h' a "com/example/vestwright/vestwright/plan/HoursRule" "minimumHours" "I" (.int p0) ∧ Fld Z h' a "com/example/vestwright/vestwright/plan/HoursRule" "breakHours" "I" (.int (-1 : Int32)) ∧ Fld Z h' a "com/example/vestwright/vestwright/plan/HoursRule" "parityBreaks" "I" (.int (-1 : Int32))) := by
  refine Con.of pl1 (L := [.val (.ref a), .val (.int p0)]) (fun m => by first | (simp [entryFrame, mkF, argsToLocals, Value.category]; done) | rfl) ?_
  intro κ Qx hQ C
  have K0 := Keep.refl h [a]
  refine W.aloadN C m1_0 rfl rfl ?_
  refine W.iloadN C m1_1 rfl ?_
  refine W.iconst C m1_2 (z := (-1 : Int32)) rfl ?_
  refine W.iconst C m1_3 (z := (-1 : Int32)) rfl ?_
  refine W.callC (y := y2) (wt := 0) C m1_4 rfl (hw _ (List.mem_of_getElem? (i := 7) rfl)) (hw _ (List.mem_of_getElem? (i := 8) rfl)) (hw _ (List.mem_of_getElem? (i := 3) rfl)) (hw _ (List.mem_of_getElem? (i := 9) rfl)) (by decide) pd2 rfl (own_in3 Z a0 hw a p0 (-1 : Int32) (-1 : Int32) h n0 g0 E0 F0 F1 F2 ) (a := a) (as' := [(.int p0), (.int (-1 : Int32)), (.int (-1 : Int32))]) (rest := []) rfl rfl (Nat.le_of_eq rfl) (by decide) (by decide) (by decide) (by decide) ?_
  intro kr8 kh6 kq7
  obtain ⟨rfl, kK1, kE2, kF3, kF4, kF5⟩ := kq7
  have kK9 := Keep.trans K0 kK1 (allS (Or.inl (List.mem_of_getElem? (i := 0) rfl)) all0)
  have kE10 := E0.keep kK1
  show W κ n0 Qx kh6 0 0 7 [.val (.ref a), .val (.int p0)] []
  refine W.iloadN C m1_7 rfl ?_
  refine W.iconst C m1_8 (z := (1 : Int32)) rfl ?_
  refine W.icmpY C m1_9 (show (1 : Int) ≤ p0.toInt from hp1) ?_
  refine W.iloadN C m1_21 rfl ?_
  refine W.sipush C m1_22 (z := (1000 : Int32)) rfl ?_
  refine W.icmpY C m1_25 (show p0.toInt ≤ (1000 : Int) from hp2) ?_
  refine W.vreturn C m1_37 (hQ _ _ ?_)
  exact ⟨rfl, kK9, kE2, kF3, kF4, kF5⟩
abbrev y6 : MethodName := ⟨"com/example/vestwright/vestwright/plan/HoursRule", "withParity", "(II)Lcom/example/vestwright/vestwright/plan/HoursRule;"⟩
theorem m6_0 : Ins1 prog_50_method_3_code 0 (.iload_n 1) 1 1 := ⟨by decide +kernel, rfl⟩
theorem m6_1 : Jmp1 prog_50_method_3_code 1 (.ifCond .ge 12) 12 4 13 := ⟨by decide +kernel, rfl, by decide, by decide⟩
theorem m6_13 : Ins1 prog_50_method_3_code 13 (.iload_n 1) 1 14 := ⟨by decide +kernel, rfl⟩
theorem m6_14 : Ins1 prog_50_method_3_code 14 (.sipush 500) 3 17 := ⟨by decide +kernel, rfl⟩
theorem m6_17 : Jmp1 prog_50_method_3_code 17 (.if_icmp .le 12) 12 20 29 := ⟨by decide +kernel, rfl, by decide, by decide⟩
theorem m6_29 : Ins1 prog_50_method_3_code 29 (.iload_n 1) 1 30 := ⟨by decide +kernel, rfl⟩
theorem m6_30 : Ins1 prog_50_method_3_code 30 (.aload_n 0) 1 31 := ⟨by decide +kernel, rfl⟩
theorem m6_31 : Ins1 prog_50_method_3_code 31 (.getfield 22) 3 34 := ⟨by decide +kernel, rfl⟩
theorem m6_34 : Jmp1 prog_50_method_3_code 34 (.if_icmp .lt 19) 19 37 53 := ⟨by decide +kernel, rfl, by decide, by decide⟩
theorem m6_53 : Ins1 prog_50_method_3_code 53 (.iload_n 2) 1 54 := ⟨by decide +kernel, rfl⟩
theorem m6_54 : Ins1 prog_50_method_3_code 54 (.iconst 5) 1 55 := ⟨by decide +kernel, rfl⟩
theorem m6_55 : Jmp1 prog_50_method_3_code 55 (.if_icmp .ge 17) 17 58 72 := ⟨by decide +kernel, rfl, by decide, by decide⟩
theorem m6_72 : Ins1 prog_50_method_3_code 72 (.new 1) 3 75 := ⟨by decide +kernel, rfl⟩
theorem m6_75 : Ins1 prog_50_method_3_code 75 (.dup) 1 76 := ⟨by decide +kernel, rfl⟩
theorem m6_76 : Ins1 prog_50_method_3_code 76 (.aload_n 0) 1 77 := ⟨by decide +kernel, rfl⟩
theorem m6_77 : Ins1 prog_50_method_3_code 77 (.getfield 22) 3 80 := ⟨by decide +kernel, rfl⟩
theorem m6_80 : Ins1 prog_50_method_3_code 80 (.iload_n 1) 1 81 := ⟨by decide +kernel, rfl⟩
theorem m6_81 : Ins1 prog_50_method_3_code 81 (.iload_n 2) 1 82 := ⟨by decide +kernel, rfl⟩
theorem m6_82 : Ins1 prog_50_method_3_code 82 (.invokespecial 3) 3 85 := ⟨by decide +kernel, rfl⟩
theorem m6_85 : Ins1 prog_50_method_3_code 85 (.areturn) 1 86 := ⟨by decide +kernel, rfl⟩
theorem pl6 : plainFor y6 = true := plainFor_of_name (show plainName "com/example/vestwright/vestwright/plan/HoursRule" = true by first | (simp [plainName, overriddenIn]; done) | decide +kernel)
theorem pd6 : parseMethodDescriptor "(II)Lcom/example/vestwright/vestwright/plan/HoursRule;" = some ⟨[.int, .int], some (.object "com/example/vestwright/vestwright/plan/HoursRule")⟩ := by decide +kernel
set_option maxRecDepth 65536 in
set_option maxHeartbeats 4000000 in
theorem own_wp (Z : State) (a0 : Array Value) (hw : ∀ d ∈ tables_1, d.before a0 Z = true) (a : Addr) (p1 : Int32) (p2 : Int32) (m : Int32) (h : Heap) (n0 : Nat) (z0 : n0 ≤ h.size) (E0 : Exa Z h a "com/example/vestwright/vestwright/plan/HoursRule") (F0 : Fld Z h a "com/example/vestwright/vestwright/plan/HoursRule" "minimumHours" "I" (.int m)) (hp1 : 0 ≤ p1.toInt) (hp2 : p1.toInt ≤ 500) (hp3 : p1.toInt < m.toInt) (hp4 : 5 ≤ p2.toInt) :
    Con Z y6 prog_50_method_3_code 3 (some (.object "com/example/vestwright/vestwright/plan/HoursRule")) ({ frames := 2, cells := 1, slots := 3, locals := 28 } : Room) [(.ref a), (.int p1), (.int p2)] h n0 (fun v h' => ∃ a2, v = some (.ref a2) ∧ Keep h h' [] ∧ n0 ≤ a2 ∧ Exa Z h' a2 "com/example/vestwright/vestwright/plan/HoursRule" ∧ Fld Z h' a2 "com/example/vestwright/vestwright/plan/HoursRule" "minimumHours" "I" (.int m) ∧ Fld Z h' a2 "com/example/vestwright/vestwright/plan/HoursRule" "breakHours" "I" (.int p1) ∧ Fld Z h' a2 "com/example/vestwright/vestwright/plan/HoursRule" "parityBreaks" "I" (.int p2)) := by
  refine Con.of pl6 (L := [.val (.ref a), .val (.int p1), .val (.int p2)]) (fun m => by first | (simp [entryFrame, mkF, argsToLocals, Value.category]; done) | rfl) ?_
  intro κ Qx hQ C
  have K0 := Keep.refl h []
  refine W.iloadN C m6_0 rfl ?_
  refine W.ifY C m6_1 (show (0 : Int) ≤ p1.toInt from hp1) ?_
  refine W.iloadN C m6_13 rfl ?_
  refine W.sipush C m6_14 (z := (500 : Int32)) rfl ?_
  refine W.icmpY C m6_17 (show p1.toInt ≤ (500 : Int) from hp2) ?_
  refine W.iloadN C m6_29 rfl ?_
  refine W.aloadN C m6_30 rfl rfl ?_
  refine W.getfield C m6_31 (host := "") (Or.inl (hw _ (List.mem_of_getElem? (i := 13) rfl))) Via.refl F0 ?_
  refine W.icmpY C m6_34 (show p1.toInt < m.toInt from hp3) ?_
  refine W.iloadN C m6_53 rfl ?_
  refine W.iconst C m6_54 (z := (5 : Int32)) rfl ?_
  refine W.icmpY C m6_55 (show (5 : Int) ≤ p2.toInt from hp4) ?_
  refine W.new (a0 := a0) C m6_72 (hw _ (List.mem_of_getElem? (i := 34) rfl)) (hw _ (List.mem_of_getElem? (i := 2) rfl)) (hw _ (List.mem_of_getElem? (i := 3) rfl)) (by decide) (by decide) ?_
  intro h1 a2 g3 E4 E5 D6
  have ne7 : a ≠ a2 := Nat.ne_of_lt (Nat.lt_of_lt_of_eq E0.lt g3)
  have g8 : n0 ≤ a2 := Nat.le_trans z0 (Nat.le_of_eq g3)
  have g9 := Nat.le_trans K0.1 (Nat.le_of_eq g3)
  have F10 := F0.ext E4
  have E11 := E0.ext E4
  have z12 : n0 ≤ h1.size := Nat.le_trans z0 E4.1
  have K13 := K0.ext E4
  have F14 : Fld Z h1 a2 "com/example/vestwright/vestwright/plan/HoursRule" "minimumHours" "I" (.int (0 : Int32)) := D6 (Or.inr (hw _ (List.mem_of_getElem? (i := 14) rfl))) (ty := .int) (by decide)
  have F15 : Fld Z h1 a2 "com/example/vestwright/vestwright/plan/HoursRule" "breakHours" "I" (.int (0 : Int32)) := D6 (Or.inr (hw _ (List.mem_of_getElem? (i := 16) rfl))) (ty := .int) (by decide)
  have F16 : Fld Z h1 a2 "com/example/vestwright/vestwright/plan/HoursRule" "parityBreaks" "I" (.int (0 : Int32)) := D6 (Or.inr (hw _ (List.mem_of_getElem? (i := 18) rfl))) (ty := .int) (by decide)
  show W κ n0 Qx h1 1 3 75 [.val (.ref a), .val (.int p1), .val (.int p2)] [(.ref a2)]
  refine W.dup C m6_75 rfl ?_
  refine W.aloadN C m6_76 rfl rfl ?_
  refine W.getfield C m6_77 (host := "") (Or.inl (hw _ (List.mem_of_getElem? (i := 13) rfl))) Via.refl F10 ?_
  refine W.iloadN C m6_80 rfl ?_
  refine W.iloadN C m6_81 rfl ?_
  refine W.callC (y := y2) (wt := 1) C m6_82 rfl (hw _ (List.mem_of_getElem? (i := 7) rfl)) (hw _ (List.mem_of_getElem? (i := 8) rfl)) (hw _ (List.mem_of_getElem? (i := 3) rfl)) (hw _ (List.mem_of_getElem? (i := 9) rfl)) (by decide) pd2 rfl (own_in3 Z a0 hw a2 m p1 p2 h1 n0 g8 E5 F14 F15 F16 ) (a := a2) (as' := [(.int m), (.int p1), (.int p2)]) (rest := [(.ref a2)]) rfl rfl (Nat.le_of_eq rfl) (by decide) (by decide) (by decide) (by decide) ?_
  intro r24 h22 q23
  obtain ⟨rfl, K17, E18, F19, F20, F21⟩ := q23
  have K25 := Keep.trans K13 K17 (allS (Or.inr g9) all0)
  have F26 := F10.keep K17 (ninS ne7 nin0)
  have E27 := E11.keep K17
  have z28 : n0 ≤ h22.size := Nat.le_trans z12 K17.1
  have E29 := E5.keep K17
  show W κ n0 Qx h22 1 3 85 [.val (.ref a), .val (.int p1), .val (.int p2)] [(.ref a2)]
  refine W.areturn C rfl rfl m6_85 (hQ _ _ ?_)
  exact ⟨a2, rfl, K25, g8, E18, F19, F20, F21⟩
abbrev y4 : MethodName := ⟨"com/example/vestwright/vestwright/plan/HoursRule", "isBreak", "(I)Z"⟩
theorem m4_0 : Ins1 prog_50_method_5_code 0 (.iload_n 1) 1 1 := ⟨by decide +kernel, rfl⟩
theorem m4_1 : Ins1 prog_50_method_5_code 1 (.aload_n 0) 1 2 := ⟨by decide +kernel, rfl⟩
theorem m4_2 : Ins1 prog_50_method_5_code 2 (.getfield 26) 3 5 := ⟨by decide +kernel, rfl⟩
theorem m4_5 : Jmp1 prog_50_method_5_code 5 (.if_icmp .gt 7) 7 8 12 := ⟨by decide +kernel, rfl, by decide, by decide⟩
theorem m4_8 : Ins1 prog_50_method_5_code 8 (.iconst 1) 1 9 := ⟨by decide +kernel, rfl⟩
theorem m4_9 : Jmp1 prog_50_method_5_code 9 (.goto 4) 4 12 13 := ⟨by decide +kernel, rfl, by decide, by decide⟩
theorem m4_12 : Ins1 prog_50_method_5_code 12 (.iconst 0) 1 13 := ⟨by decide +kernel, rfl⟩
theorem m4_13 : Ins1 prog_50_method_5_code 13 (.ireturn) 1 14 := ⟨by decide +kernel, rfl⟩
theorem pl4 : plainFor y4 = true := plainFor_of_name (show plainName "com/example/vestwright/vestwright/plan/HoursRule" = true by first | (simp [plainName, overriddenIn]; done) | decide +kernel)
theorem pd4 : parseMethodDescriptor "(I)Z" = some ⟨[.int], some .boolean⟩ := by decide +kernel
set_option maxRecDepth 65536 in
set_option maxHeartbeats 4000000 in
theorem own_brk (Z : State) (a0 : Array Value) (hw : ∀ d ∈ tables_1, d.before a0 Z = true) (a : Addr) (p1 : Int32) (f : Int32) (h : Heap) (n0 : Nat) (F0 : Fld Z h a "com/example/vestwright/vestwright/plan/HoursRule" "breakHours" "I" (.int f)) :
    Con Z y4 prog_50_method_5_code 2 (some .boolean) ({ frames := 0, cells := 0, slots := 0, locals := 0 } : Room) [(.ref a), (.int p1)] h n0 (fun v h' => h = h' ∧ ∃ z : Int32, v = some (.int z) ∧ ((z.toInt = 1 ∧ p1.toInt ≤ f.toInt) ∨ (z.toInt = 0 ∧ f.toInt < p1.toInt))) := by
  refine Con.of pl4 (L := [.val (.ref a), .val (.int p1)]) (fun m => by first | (simp [entryFrame, mkF, argsToLocals, Value.category]; done) | rfl) ?_
  intro κ Qx hQ C
  refine W.iloadN C m4_0 rfl ?_
  refine W.aloadN C m4_1 rfl rfl ?_
  refine W.getfield C m4_2 (host := "") (Or.inl (hw _ (List.mem_of_getElem? (i := 15) rfl))) Via.refl F0 ?_
  refine W.icmp C m4_5 ?_ ?_
  · intro (h5 : f.toInt < p1.toInt)
    refine W.iconst C m4_12 (z := (0 : Int32)) rfl ?_
    refine W.zreturn C m4_13 (hQ _ _ ?_)
    exact ⟨rfl, 0, rfl, Or.inr ⟨rfl, by omega⟩⟩
  · intro (h5 : ¬ (f.toInt < p1.toInt))
    replace h5 : p1.toInt ≤ f.toInt := by omega
    refine W.iconst C m4_8 (z := (1 : Int32)) rfl ?_
    refine W.goto C m4_9 ?_
    refine W.zreturn C m4_13 (hQ _ _ ?_)
    exact ⟨rfl, 1, rfl, Or.inl ⟨rfl, by omega⟩⟩
theorem own_a1 {x v : Int32} (h : ((2 : Int32) + ((x &&& (2147483647 : Int32)) % (999 : Int32))) = v) : 2 ≤ v.toInt ∧ v.toInt ≤ 1000 := by
  subst h
  have t1 : (2 : Int32).toInt = 2 := rfl
  have t2 := rng32 x
  have t3 : (2147483647 : Int32).toInt = 2147483647 := rfl
  have t4 := c_mask x (2147483647 : Int32) 31 (by decide) (by decide)
  have t5 : (999 : Int32).toInt = 999 := rfl
  have t6 := c_irem (x &&& (2147483647 : Int32)) (999 : Int32) 999 rfl
  have t7 := rng32 ((x &&& (2147483647 : Int32)) % (999 : Int32))
  have t8 := rng32 ((2 : Int32) + ((x &&& (2147483647 : Int32)) % (999 : Int32)))
  have t9 := c_iadd (2 : Int32) ((x &&& (2147483647 : Int32)) % (999 : Int32))
  omega
theorem own_a2 {x z v : Int32} (hz : 1 ≤ z.toInt ∧ z.toInt ≤ 500) (h : ((x &&& (2147483647 : Int32)) % (z + (1 : Int32))) = v) : 0 ≤ v.toInt ∧ v.toInt ≤ z.toInt := by
  subst h
  have t1 := rng32 x
  have t2 : (2147483647 : Int32).toInt = 2147483647 := rfl
  have t3 := c_mask x (2147483647 : Int32) 31 (by decide) (by decide)
  have t4 := rng32 z
  have t5 : (1 : Int32).toInt = 1 := rfl
  have t6 := rng32 (z + (1 : Int32))
  have t7 := c_iadd z (1 : Int32)
  have t8 := c_iremV (x &&& (2147483647 : Int32)) (z + (1 : Int32))
  have t9 := rng32 ((x &&& (2147483647 : Int32)) % (z + (1 : Int32)))
  omega
theorem own_a3 {x v : Int32} (h : ((5 : Int32) + (x &&& (1073741823 : Int32))) = v) : 5 ≤ v.toInt := by
  subst h
  have t1 : (5 : Int32).toInt = 5 := rfl
  have t2 := rng32 x
  have t3 : (1073741823 : Int32).toInt = 1073741823 := rfl
  have t4 := c_mask x (1073741823 : Int32) 30 (by decide) (by decide)
  have t5 := rng32 ((5 : Int32) + (x &&& (1073741823 : Int32)))
  have t6 := c_iadd (5 : Int32) (x &&& (1073741823 : Int32))
  omega
theorem own_a4 {x v : Int32} (h : ((1 : Int32) + ((x &&& (2147483647 : Int32)) % (1000 : Int32))) = v) : 1 ≤ v.toInt ∧ v.toInt ≤ 1000 := by
  subst h
  have t1 : (1 : Int32).toInt = 1 := rfl
  have t2 := rng32 x
  have t3 : (2147483647 : Int32).toInt = 2147483647 := rfl
  have t4 := c_mask x (2147483647 : Int32) 31 (by decide) (by decide)
  have t5 : (1000 : Int32).toInt = 1000 := rfl
  have t6 := c_irem (x &&& (2147483647 : Int32)) (1000 : Int32) 1000 rfl
  have t7 := rng32 ((x &&& (2147483647 : Int32)) % (1000 : Int32))
  have t8 := rng32 ((1 : Int32) + ((x &&& (2147483647 : Int32)) % (1000 : Int32)))
  have t9 := c_iadd (1 : Int32) ((x &&& (2147483647 : Int32)) % (1000 : Int32))
  omega
theorem own_a5 {x v : Int32} (h : (x &&& (2147483647 : Int32)) = v) : 0 ≤ v.toInt := by
  subst h
  have t1 := rng32 x
  have t2 : (2147483647 : Int32).toInt = 2147483647 := rfl
  have t3 := c_mask x (2147483647 : Int32) 31 (by decide) (by decide)
  omega
theorem own_dec {x : Int32} (h : 2 ≤ x.toInt) : (x - (1 : Int32)).toInt = x.toInt - 1 := by
  have t1 := rng32 x
  have t2 : (1 : Int32).toInt = 1 := rfl
  have t3 := rng32 (x - (1 : Int32))
  have t4 := c_isub x (1 : Int32)
  omega
theorem own_inc {x : Int32} (h : 0 ≤ x.toInt ∧ x.toInt ≤ 500) : (x + (1 : Int32)).toInt = x.toInt + 1 := by
  have t1 := rng32 x
  have t2 : (1 : Int32).toInt = 1 := rfl
  have t3 := rng32 (x + (1 : Int32))
  have t4 := c_iadd x (1 : Int32)
  omega
theorem own_ne0 {z : Int32} (hz : 1 ≤ z.toInt) : z ≠ 0 := fun e => by rw [e] at hz; exact absurd hz (by decide)
abbrev y0 : MethodName := x
theorem m0_0 : Ins1 code 0 (.iload 4) 2 2 := ⟨at_0, rfl⟩
theorem m0_2 : Ins1 code 2 (.iconst 1) 1 3 := ⟨at_2, rfl⟩
theorem m0_3 : Ins1 code 3 (.iand) 1 4 := ⟨at_3, rfl⟩
theorem m0_4 : Jmp1 code 4 (.ifCond .eq 7) 7 7 11 := ⟨at_4, rfl, by decide, by decide⟩
theorem m0_7 : Ins1 code 7 (.iconst 1) 1 8 := ⟨at_7, rfl⟩
theorem m0_8 : Jmp1 code 8 (.goto 4) 4 11 12 := ⟨at_8, rfl, by decide, by decide⟩
theorem m0_11 : Ins1 code 11 (.iconst 0) 1 12 := ⟨at_11, rfl⟩
theorem m0_12 : Ins1 code 12 (.istore 5) 2 14 := ⟨at_12, rfl⟩
theorem m0_14 : Ins1 code 14 (.iload 5) 2 16 := ⟨at_14, rfl⟩
theorem m0_16 : Jmp1 code 16 (.ifCond .eq 124) 124 19 140 := ⟨at_16, rfl, by decide, by decide⟩
theorem m0_19 : Ins1 code 19 (.iconst 2) 1 20 := ⟨at_19, rfl⟩
theorem m0_20 : Ins1 code 20 (.iload_n 0) 1 21 := ⟨at_20, rfl⟩
theorem m0_21 : Ins1 code 21 (.ldc 7) 2 23 := ⟨at_21, rfl⟩
theorem m0_23 : Ins1 code 23 (.iand) 1 24 := ⟨at_23, rfl⟩
theorem m0_24 : Ins1 code 24 (.sipush 999) 3 27 := ⟨at_24, rfl⟩
theorem m0_27 : Ins1 code 27 (.irem) 1 28 := ⟨at_27, rfl⟩
theorem m0_28 : Ins1 code 28 (.iadd) 1 29 := ⟨at_28, rfl⟩
theorem m0_29 : Ins1 code 29 (.istore 6) 2 31 := ⟨at_29, rfl⟩
theorem m0_31 : Ins1 code 31 (.sipush 500) 3 34 := ⟨at_31, rfl⟩
theorem m0_34 : Ins1 code 34 (.iload 6) 2 36 := ⟨at_34, rfl⟩
theorem m0_36 : Ins1 code 36 (.iconst 1) 1 37 := ⟨at_36, rfl⟩
theorem m0_37 : Ins1 code 37 (.isub) 1 38 := ⟨at_37, rfl⟩
theorem m0_38 : Ins1 code 38 (.invokestatic 8) 3 41 := ⟨at_38, rfl⟩
theorem m0_41 : Ins1 code 41 (.istore 7) 2 43 := ⟨at_41, rfl⟩
theorem m0_43 : Ins1 code 43 (.iload_n 1) 1 44 := ⟨at_43, rfl⟩
theorem m0_44 : Ins1 code 44 (.ldc 7) 2 46 := ⟨at_44, rfl⟩
theorem m0_46 : Ins1 code 46 (.iand) 1 47 := ⟨at_46, rfl⟩
theorem m0_47 : Ins1 code 47 (.iload 7) 2 49 := ⟨at_47, rfl⟩
theorem m0_49 : Ins1 code 49 (.iconst 1) 1 50 := ⟨at_49, rfl⟩
theorem m0_50 : Ins1 code 50 (.iadd) 1 51 := ⟨at_50, rfl⟩
theorem m0_51 : Ins1 code 51 (.irem) 1 52 := ⟨at_51, rfl⟩
theorem m0_52 : Ins1 code 52 (.istore 8) 2 54 := ⟨at_52, rfl⟩
theorem m0_54 : Ins1 code 54 (.iconst 5) 1 55 := ⟨at_54, rfl⟩
theorem m0_55 : Ins1 code 55 (.iload_n 2) 1 56 := ⟨at_55, rfl⟩
theorem m0_56 : Ins1 code 56 (.ldc 14) 2 58 := ⟨at_56, rfl⟩
theorem m0_58 : Ins1 code 58 (.iand) 1 59 := ⟨at_58, rfl⟩
theorem m0_59 : Ins1 code 59 (.iadd) 1 60 := ⟨at_59, rfl⟩
theorem m0_60 : Ins1 code 60 (.istore 9) 2 62 := ⟨at_60, rfl⟩
theorem m0_62 : Ins1 code 62 (.new 15) 3 65 := ⟨at_62, rfl⟩
theorem m0_65 : Ins1 code 65 (.dup) 1 66 := ⟨at_65, rfl⟩
theorem m0_66 : Ins1 code 66 (.iload 6) 2 68 := ⟨at_66, rfl⟩
theorem m0_68 : Ins1 code 68 (.invokespecial 17) 3 71 := ⟨at_68, rfl⟩
theorem m0_71 : Ins1 code 71 (.iload 8) 2 73 := ⟨at_71, rfl⟩
theorem m0_73 : Ins1 code 73 (.iload 9) 2 75 := ⟨at_73, rfl⟩
theorem m0_75 : Ins1 code 75 (.invokevirtual 20) 3 78 := ⟨at_75, rfl⟩
theorem m0_78 : Ins1 code 78 (.astore 10) 2 80 := ⟨at_78, rfl⟩
theorem m0_80 : Ins1 code 80 (.aload 10) 2 82 := ⟨at_80, rfl⟩
theorem m0_82 : Ins1 code 82 (.iload 8) 2 84 := ⟨at_82, rfl⟩
theorem m0_84 : Ins1 code 84 (.invokevirtual 24) 3 87 := ⟨at_84, rfl⟩
theorem m0_87 : Ins1 code 87 (.istore 11) 2 89 := ⟨at_87, rfl⟩
theorem m0_89 : Ins1 code 89 (.aload 10) 2 91 := ⟨at_89, rfl⟩
theorem m0_91 : Ins1 code 91 (.iload 8) 2 93 := ⟨at_91, rfl⟩
theorem m0_93 : Ins1 code 93 (.iconst 1) 1 94 := ⟨at_93, rfl⟩
theorem m0_94 : Ins1 code 94 (.iadd) 1 95 := ⟨at_94, rfl⟩
theorem m0_95 : Ins1 code 95 (.invokevirtual 24) 3 98 := ⟨at_95, rfl⟩
theorem m0_98 : Ins1 code 98 (.istore 12) 2 100 := ⟨at_98, rfl⟩
theorem m0_100 : Ins1 code 100 (.aload 10) 2 102 := ⟨at_100, rfl⟩
theorem m0_102 : Ins1 code 102 (.iload_n 3) 1 103 := ⟨at_102, rfl⟩
theorem m0_103 : Ins1 code 103 (.invokevirtual 24) 3 106 := ⟨at_103, rfl⟩
theorem m0_106 : Ins1 code 106 (.istore 13) 2 108 := ⟨at_106, rfl⟩
theorem m0_108 : Ins1 code 108 (.iload 11) 2 110 := ⟨at_108, rfl⟩
theorem m0_110 : Jmp1 code 110 (.ifCond .eq 28) 28 113 138 := ⟨at_110, rfl, by decide, by decide⟩
theorem m0_113 : Ins1 code 113 (.iload 12) 2 115 := ⟨at_113, rfl⟩
theorem m0_115 : Jmp1 code 115 (.ifCond .ne 23) 23 118 138 := ⟨at_115, rfl, by decide, by decide⟩
theorem m0_118 : Ins1 code 118 (.iload 13) 2 120 := ⟨at_118, rfl⟩
theorem m0_120 : Ins1 code 120 (.iload_n 3) 1 121 := ⟨at_120, rfl⟩
theorem m0_121 : Ins1 code 121 (.iload 8) 2 123 := ⟨at_121, rfl⟩
theorem m0_123 : Jmp1 code 123 (.if_icmp .gt 7) 7 126 130 := ⟨at_123, rfl, by decide, by decide⟩
theorem m0_126 : Ins1 code 126 (.iconst 1) 1 127 := ⟨at_126, rfl⟩
theorem m0_127 : Jmp1 code 127 (.goto 4) 4 130 131 := ⟨at_127, rfl, by decide, by decide⟩
theorem m0_130 : Ins1 code 130 (.iconst 0) 1 131 := ⟨at_130, rfl⟩
theorem m0_131 : Jmp1 code 131 (.if_icmp .ne 7) 7 134 138 := ⟨at_131, rfl, by decide, by decide⟩
theorem m0_134 : Ins1 code 134 (.iconst 1) 1 135 := ⟨at_134, rfl⟩
theorem m0_135 : Jmp1 code 135 (.goto 4) 4 138 139 := ⟨at_135, rfl, by decide, by decide⟩
theorem m0_138 : Ins1 code 138 (.iconst 0) 1 139 := ⟨at_138, rfl⟩
theorem m0_139 : Ins1 code 139 (.ireturn) 1 140 := ⟨at_139, rfl⟩
theorem m0_140 : Ins1 code 140 (.iconst 1) 1 141 := ⟨at_140, rfl⟩
theorem m0_141 : Ins1 code 141 (.iload_n 0) 1 142 := ⟨at_141, rfl⟩
theorem m0_142 : Ins1 code 142 (.ldc 7) 2 144 := ⟨at_142, rfl⟩
theorem m0_144 : Ins1 code 144 (.iand) 1 145 := ⟨at_144, rfl⟩
theorem m0_145 : Ins1 code 145 (.sipush 1000) 3 148 := ⟨at_145, rfl⟩
theorem m0_148 : Ins1 code 148 (.irem) 1 149 := ⟨at_148, rfl⟩
theorem m0_149 : Ins1 code 149 (.iadd) 1 150 := ⟨at_149, rfl⟩
theorem m0_150 : Ins1 code 150 (.istore 6) 2 152 := ⟨at_150, rfl⟩
theorem m0_152 : Ins1 code 152 (.new 15) 3 155 := ⟨at_152, rfl⟩
theorem m0_155 : Ins1 code 155 (.dup) 1 156 := ⟨at_155, rfl⟩
theorem m0_156 : Ins1 code 156 (.iload 6) 2 158 := ⟨at_156, rfl⟩
theorem m0_158 : Ins1 code 158 (.invokespecial 17) 3 161 := ⟨at_158, rfl⟩
theorem m0_161 : Ins1 code 161 (.astore 7) 2 163 := ⟨at_161, rfl⟩
theorem m0_163 : Ins1 code 163 (.iload_n 3) 1 164 := ⟨at_163, rfl⟩
theorem m0_164 : Ins1 code 164 (.ldc 7) 2 166 := ⟨at_164, rfl⟩
theorem m0_166 : Ins1 code 166 (.iand) 1 167 := ⟨at_166, rfl⟩
theorem m0_167 : Ins1 code 167 (.istore 8) 2 169 := ⟨at_167, rfl⟩
theorem m0_169 : Ins1 code 169 (.aload 7) 2 171 := ⟨at_169, rfl⟩
theorem m0_171 : Ins1 code 171 (.iload 8) 2 173 := ⟨at_171, rfl⟩
theorem m0_173 : Ins1 code 173 (.invokevirtual 24) 3 176 := ⟨at_173, rfl⟩
theorem m0_176 : Jmp1 code 176 (.ifCond .ne 16) 16 179 192 := ⟨at_176, rfl, by decide, by decide⟩
theorem m0_179 : Ins1 code 179 (.aload 7) 2 181 := ⟨at_179, rfl⟩
theorem m0_181 : Ins1 code 181 (.iconst 0) 1 182 := ⟨at_181, rfl⟩
theorem m0_182 : Ins1 code 182 (.invokevirtual 24) 3 185 := ⟨at_182, rfl⟩
theorem m0_185 : Jmp1 code 185 (.ifCond .ne 7) 7 188 192 := ⟨at_185, rfl, by decide, by decide⟩
theorem m0_188 : Ins1 code 188 (.iconst 1) 1 189 := ⟨at_188, rfl⟩
theorem m0_189 : Jmp1 code 189 (.goto 4) 4 192 193 := ⟨at_189, rfl, by decide, by decide⟩
theorem m0_192 : Ins1 code 192 (.iconst 0) 1 193 := ⟨at_192, rfl⟩
theorem m0_193 : Ins1 code 193 (.ireturn) 1 194 := ⟨at_193, rfl⟩
theorem pl0 : plainFor y0 = true := plainFor_of_name (show plainName "com/example/vestwright/vestwright/plan/HoursRuleIsBreakPinLaw" = true by first | (simp [plainName, overriddenIn]; done) | decide +kernel)
theorem pd0 : parseMethodDescriptor "(IIIII)Z" = some ⟨[.int, .int, .int, .int, .int], some .boolean⟩ := by decide +kernel
set_option maxRecDepth 65536 in
set_option maxHeartbeats 4000000 in
theorem own_law (Z : State) (a0 : Array Value) (hw : ∀ d ∈ tables_1, d.before a0 Z = true) (p0 : Int32) (p1 : Int32) (p2 : Int32) (p3 : Int32) (p4 : Int32)  (h : Heap) (n0 : Nat) (z0 : n0 ≤ h.size) :
    Con Z y0 code maxLocals ret room_1 [(.int p0), (.int p1), (.int p2), (.int p3), (.int p4)] h n0 (fun v h' => v = some (.int 1)) := by
  refine Con.of pl0 (L := [.val (.int p0), .val (.int p1), .val (.int p2), .val (.int p3), .val (.int p4), .unset, .unset, .unset, .unset, .unset, .unset, .unset, .unset, .unset]) (fun m => by first | (simp [entryFrame, mkF, argsToLocals, Value.category, maxLocals]; done) | rfl) ?_
  intro κ Qx hQ C
  replace C : Good κ room_1 Z "com/example/vestwright/vestwright/plan/HoursRuleIsBreakPinLaw" "law" code 14 (some .boolean) := C
  refine W.iload C m0_0 rfl ?_
  refine W.iconst C m0_2 (z := (1 : Int32)) rfl ?_
  refine W.iand C m0_3 rfl ?_
  suffices J4 : ∀ (w1 : Int32), (True) → W κ n0 Qx h 0 0 12 [.val (.int p0), .val (.int p1), .val (.int p2), .val (.int p3), .val (.int p4), .unset, .unset, .unset, .unset, .unset, .unset, .unset, .unset, .unset] [(.int w1)] by
    refine W.ifc C m0_4 ?_ ?_
    · intro (h4 : ((p4 &&& (1 : Int32))).toInt = (0 : Int))
      refine W.iconst C m0_11 (z := (0 : Int32)) rfl ?_
      exact J4 _ (by trivial)
    · intro (h4 : ¬ (((p4 &&& (1 : Int32))).toInt = (0 : Int)))
      refine W.iconst C m0_7 (z := (1 : Int32)) rfl ?_
      refine W.goto C m0_8 ?_
      exact J4 _ (by trivial)
  intro w1 hJ4
  refine W.istore C m0_12 (L' := [.val (.int p0), .val (.int p1), .val (.int p2), .val (.int p3), .val (.int p4), .val (.int w1), .unset, .unset, .unset, .unset, .unset, .unset, .unset, .unset]) rfl ?_
  refine W.iload C m0_14 rfl ?_
  refine W.ifc C m0_16 ?_ ?_
  · intro (h16 : w1.toInt = (0 : Int))
    refine W.iconst C m0_140 (z := (1 : Int32)) rfl ?_
    refine W.iloadN C m0_141 rfl ?_
    refine W.ldc C m0_142 (hw _ (List.mem_of_getElem? (i := 0) rfl)) ?_
    refine W.iand C m0_144 rfl ?_
    refine W.sipush C m0_145 (z := (1000 : Int32)) rfl ?_
    refine W.irem C m0_148 (by decide) rfl ?_
    refine W.iadd C m0_149 rfl ?_
    generalize hv2 : ((1 : Int32) + ((p0 &&& (2147483647 : Int32)) % (1000 : Int32))) = v2
    refine W.istore C m0_150 (L' := [.val (.int p0), .val (.int p1), .val (.int p2), .val (.int p3), .val (.int p4), .val (.int w1), .val (.int v2), .unset, .unset, .unset, .unset, .unset, .unset, .unset]) rfl ?_
    have hb1 := own_a4 hv2
    refine W.new (a0 := a0) C m0_152 (hw _ (List.mem_of_getElem? (i := 1) rfl)) (hw _ (List.mem_of_getElem? (i := 2) rfl)) (hw _ (List.mem_of_getElem? (i := 3) rfl)) (by decide) (by decide) ?_
    intro h3 a4 g5 E6 E7 D8
    have g9 : n0 ≤ a4 := Nat.le_trans z0 (Nat.le_of_eq g5)
    have z10 : n0 ≤ h3.size := Nat.le_trans z0 E6.1
    have F11 : Fld Z h3 a4 "com/example/vestwright/vestwright/plan/HoursRule" "minimumHours" "I" (.int (0 : Int32)) := D8 (Or.inr (hw _ (List.mem_of_getElem? (i := 14) rfl))) (ty := .int) (by decide)
    have F12 : Fld Z h3 a4 "com/example/vestwright/vestwright/plan/HoursRule" "breakHours" "I" (.int (0 : Int32)) := D8 (Or.inr (hw _ (List.mem_of_getElem? (i := 16) rfl))) (ty := .int) (by decide)
    have F13 : Fld Z h3 a4 "com/example/vestwright/vestwright/plan/HoursRule" "parityBreaks" "I" (.int (0 : Int32)) := D8 (Or.inr (hw _ (List.mem_of_getElem? (i := 18) rfl))) (ty := .int) (by decide)
    show W κ n0 Qx h3 1 3 155 [.val (.int p0), .val (.int p1), .val (.int p2), .val (.int p3), .val (.int p4), .val (.int w1), .val (.int v2), .unset, .unset, .unset, .unset, .unset, .unset, .unset] [(.ref a4)]
    refine W.dup C m0_155 rfl ?_
    refine W.iload C m0_156 rfl ?_
    refine W.callC (y := y1) (wt := 1) C m0_158 rfl (hw _ (List.mem_of_getElem? (i := 4) rfl)) (hw _ (List.mem_of_getElem? (i := 5) rfl)) (hw _ (List.mem_of_getElem? (i := 3) rfl)) (hw _ (List.mem_of_getElem? (i := 6) rfl)) (by decide) pd1 rfl (own_in1 Z a0 hw a4 v2 h3 n0 g9 E7 F11 F12 F13 (by omega) (by omega)) (a := a4) (as' := [(.int v2)]) (rest := [(.ref a4)]) rfl rfl (Nat.le_of_eq rfl) (by decide) (by decide) (by decide) (by decide) ?_
    intro r21 h19 q20
    obtain ⟨rfl, K14, E15, F16, F17, F18⟩ := q20
    have z22 : n0 ≤ h19.size := Nat.le_trans z10 K14.1
    have E23 := E7.keep K14
    show W κ n0 Qx h19 1 3 161 [.val (.int p0), .val (.int p1), .val (.int p2), .val (.int p3), .val (.int p4), .val (.int w1), .val (.int v2), .unset, .unset, .unset, .unset, .unset, .unset, .unset] [(.ref a4)]
    refine W.astore C m0_161 (L' := [.val (.int p0), .val (.int p1), .val (.int p2), .val (.int p3), .val (.int p4), .val (.int w1), .val (.int v2), .val (.ref a4), .unset, .unset, .unset, .unset, .unset, .unset]) rfl rfl ?_
    refine W.iloadN C m0_163 rfl ?_
    refine W.ldc C m0_164 (hw _ (List.mem_of_getElem? (i := 0) rfl)) ?_
    refine W.iand C m0_166 rfl ?_
    generalize hv24 : (p3 &&& (2147483647 : Int32)) = v24
    refine W.istore C m0_167 (L' := [.val (.int p0), .val (.int p1), .val (.int p2), .val (.int p3), .val (.int p4), .val (.int w1), .val (.int v2), .val (.ref a4), .val (.int v24), .unset, .unset, .unset, .unset, .unset]) rfl ?_
    have hb2 := own_a5 hv24
    have em1 : (-1 : Int32).toInt = -1 := rfl
    have e00 : (0 : Int32).toInt = 0 := rfl
    refine W.aload C m0_169 rfl rfl ?_
    refine W.iload C m0_171 rfl ?_
    refine W.callV (y := y4) (wt := 0) C m0_173 (hw _ (List.mem_of_getElem? (i := 19) rfl)) (hw _ (List.mem_of_getElem? (i := 20) rfl)) (hw _ (List.mem_of_getElem? (i := 22) rfl)) (hw _ (List.mem_of_getElem? (i := 21) rfl)) (hw _ (List.mem_of_getElem? (i := 3) rfl)) (hw _ (List.mem_of_getElem? (i := 23) rfl)) (by decide) E15 pd4 rfl (own_brk Z a0 hw a4 v24 (-1 : Int32) h19 n0 F17) (as' := [(.int v24)]) (rest := []) rfl rfl (Nat.le_of_eq rfl) (by decide) (by decide) (by decide) (by decide) ?_
    intro r28 h26 q27
    obtain ⟨rfl, z25, rfl, hz25⟩ := q27
    show W κ n0 Qx h19 1 3 176 [.val (.int p0), .val (.int p1), .val (.int p2), .val (.int p3), .val (.int p4), .val (.int w1), .val (.int v2), .val (.ref a4), .val (.int v24), .unset, .unset, .unset, .unset, .unset] [(.int z25)]
    refine W.ifc C m0_176 ?_ ?_
    · intro (h176 : ¬ z25.toInt = (0 : Int))
      refine W.iconst C m0_192 (z := (0 : Int32)) rfl ?_
      refine W.zreturn C m0_193 (hQ _ _ ?_)
      exfalso
      omega
    · intro (h176 : ¬ ¬ z25.toInt = (0 : Int))
      replace h176 := Decidable.not_not.mp h176
      refine W.aload C m0_179 rfl rfl ?_
      refine W.iconst C m0_181 (z := (0 : Int32)) rfl ?_
      refine W.callV (y := y4) (wt := 0) C m0_182 (hw _ (List.mem_of_getElem? (i := 19) rfl)) (hw _ (List.mem_of_getElem? (i := 20) rfl)) (hw _ (List.mem_of_getElem? (i := 22) rfl)) (hw _ (List.mem_of_getElem? (i := 21) rfl)) (hw _ (List.mem_of_getElem? (i := 3) rfl)) (hw _ (List.mem_of_getElem? (i := 23) rfl)) (by decide) E15 pd4 rfl (own_brk Z a0 hw a4 (0 : Int32) (-1 : Int32) h19 n0 F17) (as' := [(.int (0 : Int32))]) (rest := []) rfl rfl (Nat.le_of_eq rfl) (by decide) (by decide) (by decide) (by decide) ?_
      intro r32 h30 q31
      obtain ⟨rfl, z29, rfl, hz29⟩ := q31
      show W κ n0 Qx h19 1 3 185 [.val (.int p0), .val (.int p1), .val (.int p2), .val (.int p3), .val (.int p4), .val (.int w1), .val (.int v2), .val (.ref a4), .val (.int v24), .unset, .unset, .unset, .unset, .unset] [(.int z29)]
      refine W.ifc C m0_185 ?_ ?_
      · intro (h185 : ¬ z29.toInt = (0 : Int))
        refine W.iconst C m0_192 (z := (0 : Int32)) rfl ?_
        refine W.zreturn C m0_193 (hQ _ _ ?_)
        exfalso
        omega
      · intro (h185 : ¬ ¬ z29.toInt = (0 : Int))
        replace h185 := Decidable.not_not.mp h185
        refine W.iconst C m0_188 (z := (1 : Int32)) rfl ?_
        refine W.goto C m0_189 ?_
        refine W.zreturn C m0_193 (hQ _ _ ?_)
        exact rfl
  · intro (h16 : ¬ (w1.toInt = (0 : Int)))
    refine W.iconst C m0_19 (z := (2 : Int32)) rfl ?_
    refine W.iloadN C m0_20 rfl ?_
    refine W.ldc C m0_21 (hw _ (List.mem_of_getElem? (i := 0) rfl)) ?_
    refine W.iand C m0_23 rfl ?_
    refine W.sipush C m0_24 (z := (999 : Int32)) rfl ?_
    refine W.irem C m0_27 (by decide) rfl ?_
    refine W.iadd C m0_28 rfl ?_
    generalize hv2 : ((2 : Int32) + ((p0 &&& (2147483647 : Int32)) % (999 : Int32))) = v2
    refine W.istore C m0_29 (L' := [.val (.int p0), .val (.int p1), .val (.int p2), .val (.int p3), .val (.int p4), .val (.int w1), .val (.int v2), .unset, .unset, .unset, .unset, .unset, .unset, .unset]) rfl ?_
    have hb1 := own_a1 hv2
    have hb2 := own_dec hb1.1
    have e500 : (500 : Int32).toInt = 500 := rfl
    refine W.sipush C m0_31 (z := (500 : Int32)) rfl ?_
    refine W.iload C m0_34 rfl ?_
    refine W.iconst C m0_36 (z := (1 : Int32)) rfl ?_
    refine W.isub C m0_37 rfl ?_
    refine W.callS (y := y5) (wt := 0) C m0_38 (hw _ (List.mem_of_getElem? (i := 24) rfl)) (hw _ (List.mem_of_getElem? (i := 25) rfl)) (hw _ (List.mem_of_getElem? (i := 26) rfl)) (hw _ (List.mem_of_getElem? (i := 27) rfl)) (by decide) pd5 rfl (own_min Z a0 hw (500 : Int32) (v2 - (1 : Int32)) h n0) (as' := [(.int (500 : Int32)), (.int (v2 - (1 : Int32)))]) (rest := []) rfl rfl (Nat.le_of_eq rfl) (by decide) (by decide) (by decide) (by decide) ?_
    intro r6 h4 q5
    obtain ⟨rfl, z3, rfl, hz3⟩ := q5
    show W κ n0 Qx h 0 0 41 [.val (.int p0), .val (.int p1), .val (.int p2), .val (.int p3), .val (.int p4), .val (.int w1), .val (.int v2), .unset, .unset, .unset, .unset, .unset, .unset, .unset] [(.int z3)]
    have hb3 : 1 ≤ z3.toInt ∧ z3.toInt ≤ 500 := by omega
    have hb4 := own_inc (x := z3) (by omega)
    refine W.istore C m0_41 (L' := [.val (.int p0), .val (.int p1), .val (.int p2), .val (.int p3), .val (.int p4), .val (.int w1), .val (.int v2), .val (.int z3), .unset, .unset, .unset, .unset, .unset, .unset]) rfl ?_
    refine W.iloadN C m0_43 rfl ?_
    refine W.ldc C m0_44 (hw _ (List.mem_of_getElem? (i := 0) rfl)) ?_
    refine W.iand C m0_46 rfl ?_
    refine W.iload C m0_47 rfl ?_
    refine W.iconst C m0_49 (z := (1 : Int32)) rfl ?_
    refine W.iadd C m0_50 rfl ?_
    refine W.irem C m0_51 (own_ne0 (by omega)) rfl ?_
    generalize hv7 : ((p1 &&& (2147483647 : Int32)) % (z3 + (1 : Int32))) = v7
    refine W.istore C m0_52 (L' := [.val (.int p0), .val (.int p1), .val (.int p2), .val (.int p3), .val (.int p4), .val (.int w1), .val (.int v2), .val (.int z3), .val (.int v7), .unset, .unset, .unset, .unset, .unset]) rfl ?_
    have hb5 := own_a2 hb3 hv7
    have hb7 := own_inc (x := v7) (by omega)
    refine W.iconst C m0_54 (z := (5 : Int32)) rfl ?_
    refine W.iloadN C m0_55 rfl ?_
    refine W.ldc C m0_56 (hw _ (List.mem_of_getElem? (i := 28) rfl)) ?_
    refine W.iand C m0_58 rfl ?_
    refine W.iadd C m0_59 rfl ?_
    generalize hv8 : ((5 : Int32) + (p2 &&& (1073741823 : Int32))) = v8
    refine W.istore C m0_60 (L' := [.val (.int p0), .val (.int p1), .val (.int p2), .val (.int p3), .val (.int p4), .val (.int w1), .val (.int v2), .val (.int z3), .val (.int v7), .val (.int v8), .unset, .unset, .unset, .unset]) rfl ?_
    have hb6 := own_a3 hv8
    refine W.new (a0 := a0) C m0_62 (hw _ (List.mem_of_getElem? (i := 1) rfl)) (hw _ (List.mem_of_getElem? (i := 2) rfl)) (hw _ (List.mem_of_getElem? (i := 3) rfl)) (by decide) (by decide) ?_
    intro h9 a10 g11 E12 E13 D14
    have g15 : n0 ≤ a10 := Nat.le_trans z0 (Nat.le_of_eq g11)
    have z16 : n0 ≤ h9.size := Nat.le_trans z0 E12.1
    have F17 : Fld Z h9 a10 "com/example/vestwright/vestwright/plan/HoursRule" "minimumHours" "I" (.int (0 : Int32)) := D14 (Or.inr (hw _ (List.mem_of_getElem? (i := 14) rfl))) (ty := .int) (by decide)
    have F18 : Fld Z h9 a10 "com/example/vestwright/vestwright/plan/HoursRule" "breakHours" "I" (.int (0 : Int32)) := D14 (Or.inr (hw _ (List.mem_of_getElem? (i := 16) rfl))) (ty := .int) (by decide)
    have F19 : Fld Z h9 a10 "com/example/vestwright/vestwright/plan/HoursRule" "parityBreaks" "I" (.int (0 : Int32)) := D14 (Or.inr (hw _ (List.mem_of_getElem? (i := 18) rfl))) (ty := .int) (by decide)
    show W κ n0 Qx h9 1 3 65 [.val (.int p0), .val (.int p1), .val (.int p2), .val (.int p3), .val (.int p4), .val (.int w1), .val (.int v2), .val (.int z3), .val (.int v7), .val (.int v8), .unset, .unset, .unset, .unset] [(.ref a10)]
    refine W.dup C m0_65 rfl ?_
    refine W.iload C m0_66 rfl ?_
    refine W.callC (y := y1) (wt := 1) C m0_68 rfl (hw _ (List.mem_of_getElem? (i := 4) rfl)) (hw _ (List.mem_of_getElem? (i := 5) rfl)) (hw _ (List.mem_of_getElem? (i := 3) rfl)) (hw _ (List.mem_of_getElem? (i := 6) rfl)) (by decide) pd1 rfl (own_in1 Z a0 hw a10 v2 h9 n0 g15 E13 F17 F18 F19 (by omega) (by omega)) (a := a10) (as' := [(.int v2)]) (rest := [(.ref a10)]) rfl rfl (Nat.le_of_eq rfl) (by decide) (by decide) (by decide) (by decide) ?_
    intro r27 h25 q26
    obtain ⟨rfl, K20, E21, F22, F23, F24⟩ := q26
    have z28 : n0 ≤ h25.size := Nat.le_trans z16 K20.1
    have E29 := E13.keep K20
    show W κ n0 Qx h25 1 3 71 [.val (.int p0), .val (.int p1), .val (.int p2), .val (.int p3), .val (.int p4), .val (.int w1), .val (.int v2), .val (.int z3), .val (.int v7), .val (.int v8), .unset, .unset, .unset, .unset] [(.ref a10)]
    refine W.iload C m0_71 rfl ?_
    refine W.iload C m0_73 rfl ?_
    refine W.callV (y := y6) (wt := 0) C m0_75 (hw _ (List.mem_of_getElem? (i := 29) rfl)) (hw _ (List.mem_of_getElem? (i := 30) rfl)) (hw _ (List.mem_of_getElem? (i := 32) rfl)) (hw _ (List.mem_of_getElem? (i := 31) rfl)) (hw _ (List.mem_of_getElem? (i := 3) rfl)) (hw _ (List.mem_of_getElem? (i := 33) rfl)) (by decide) E21 pd6 rfl (own_wp Z a0 hw a10 v7 v8 v2 h25 n0 z28 E21 F22 (by omega) (by omega) (by omega) (by omega)) (as' := [(.int v7), (.int v8)]) (rest := []) rfl rfl (Nat.le_of_eq rfl) (by decide) (by decide) (by decide) (by decide) ?_
    intro r39 h37 q38
    obtain ⟨a33, rfl, K30, g32, E31, F34, F35, F36⟩ := q38
    have z40 : n0 ≤ h37.size := Nat.le_trans z28 K30.1
    have E41 := E21.keep K30
    have F42 := F22.keep K30 nin0
    have F43 := F23.keep K30 nin0
    have F44 := F24.keep K30 nin0
    show W κ n0 Qx h37 2 6 78 [.val (.int p0), .val (.int p1), .val (.int p2), .val (.int p3), .val (.int p4), .val (.int w1), .val (.int v2), .val (.int z3), .val (.int v7), .val (.int v8), .unset, .unset, .unset, .unset] [(.ref a33)]
    refine W.astore C m0_78 (L' := [.val (.int p0), .val (.int p1), .val (.int p2), .val (.int p3), .val (.int p4), .val (.int w1), .val (.int v2), .val (.int z3), .val (.int v7), .val (.int v8), .val (.ref a33), .unset, .unset, .unset]) rfl rfl ?_
    refine W.aload C m0_80 rfl rfl ?_
    refine W.iload C m0_82 rfl ?_
    refine W.callV (y := y4) (wt := 0) C m0_84 (hw _ (List.mem_of_getElem? (i := 19) rfl)) (hw _ (List.mem_of_getElem? (i := 20) rfl)) (hw _ (List.mem_of_getElem? (i := 22) rfl)) (hw _ (List.mem_of_getElem? (i := 21) rfl)) (hw _ (List.mem_of_getElem? (i := 3) rfl)) (hw _ (List.mem_of_getElem? (i := 23) rfl)) (by decide) E31 pd4 rfl (own_brk Z a0 hw a33 v7 v7 h37 n0 F35) (as' := [(.int v7)]) (rest := []) rfl rfl (Nat.le_of_eq rfl) (by decide) (by decide) (by decide) (by decide) ?_
    intro r48 h46 q47
    obtain ⟨rfl, z45, rfl, hz45⟩ := q47
    show W κ n0 Qx h37 2 6 87 [.val (.int p0), .val (.int p1), .val (.int p2), .val (.int p3), .val (.int p4), .val (.int w1), .val (.int v2), .val (.int z3), .val (.int v7), .val (.int v8), .val (.ref a33), .unset, .unset, .unset] [(.int z45)]
    refine W.istore C m0_87 (L' := [.val (.int p0), .val (.int p1), .val (.int p2), .val (.int p3), .val (.int p4), .val (.int w1), .val (.int v2), .val (.int z3), .val (.int v7), .val (.int v8), .val (.ref a33), .val (.int z45), .unset, .unset]) rfl ?_
    refine W.aload C m0_89 rfl rfl ?_
    refine W.iload C m0_91 rfl ?_
    refine W.iconst C m0_93 (z := (1 : Int32)) rfl ?_
    refine W.iadd C m0_94 rfl ?_
    refine W.callV (y := y4) (wt := 0) C m0_95 (hw _ (List.mem_of_getElem? (i := 19) rfl)) (hw _ (List.mem_of_getElem? (i := 20) rfl)) (hw _ (List.mem_of_getElem? (i := 22) rfl)) (hw _ (List.mem_of_getElem? (i := 21) rfl)) (hw _ (List.mem_of_getElem? (i := 3) rfl)) (hw _ (List.mem_of_getElem? (i := 23) rfl)) (by decide) E31 pd4 rfl (own_brk Z a0 hw a33 (v7 + (1 : Int32)) v7 h37 n0 F35) (as' := [(.int (v7 + (1 : Int32)))]) (rest := []) rfl rfl (Nat.le_of_eq rfl) (by decide) (by decide) (by decide) (by decide) ?_
    intro r52 h50 q51
    obtain ⟨rfl, z49, rfl, hz49⟩ := q51
    show W κ n0 Qx h37 2 6 98 [.val (.int p0), .val (.int p1), .val (.int p2), .val (.int p3), .val (.int p4), .val (.int w1), .val (.int v2), .val (.int z3), .val (.int v7), .val (.int v8), .val (.ref a33), .val (.int z45), .unset, .unset] [(.int z49)]
    refine W.istore C m0_98 (L' := [.val (.int p0), .val (.int p1), .val (.int p2), .val (.int p3), .val (.int p4), .val (.int w1), .val (.int v2), .val (.int z3), .val (.int v7), .val (.int v8), .val (.ref a33), .val (.int z45), .val (.int z49), .unset]) rfl ?_
    refine W.aload C m0_100 rfl rfl ?_
    refine W.iloadN C m0_102 rfl ?_
    refine W.callV (y := y4) (wt := 0) C m0_103 (hw _ (List.mem_of_getElem? (i := 19) rfl)) (hw _ (List.mem_of_getElem? (i := 20) rfl)) (hw _ (List.mem_of_getElem? (i := 22) rfl)) (hw _ (List.mem_of_getElem? (i := 21) rfl)) (hw _ (List.mem_of_getElem? (i := 3) rfl)) (hw _ (List.mem_of_getElem? (i := 23) rfl)) (by decide) E31 pd4 rfl (own_brk Z a0 hw a33 p3 v7 h37 n0 F35) (as' := [(.int p3)]) (rest := []) rfl rfl (Nat.le_of_eq rfl) (by decide) (by decide) (by decide) (by decide) ?_
    intro r56 h54 q55
    obtain ⟨rfl, z53, rfl, hz53⟩ := q55
    show W κ n0 Qx h37 2 6 106 [.val (.int p0), .val (.int p1), .val (.int p2), .val (.int p3), .val (.int p4), .val (.int w1), .val (.int v2), .val (.int z3), .val (.int v7), .val (.int v8), .val (.ref a33), .val (.int z45), .val (.int z49), .unset] [(.int z53)]
    refine W.istore C m0_106 (L' := [.val (.int p0), .val (.int p1), .val (.int p2), .val (.int p3), .val (.int p4), .val (.int w1), .val (.int v2), .val (.int z3), .val (.int v7), .val (.int v8), .val (.ref a33), .val (.int z45), .val (.int z49), .val (.int z53)]) rfl ?_
    refine W.iload C m0_108 rfl ?_
    refine W.ifc C m0_110 ?_ ?_
    · intro (h110 : z45.toInt = (0 : Int))
      refine W.iconst C m0_138 (z := (0 : Int32)) rfl ?_
      refine W.zreturn C m0_139 (hQ _ _ ?_)
      exfalso
      omega
    · intro (h110 : ¬ (z45.toInt = (0 : Int)))
      refine W.iload C m0_113 rfl ?_
      refine W.ifc C m0_115 ?_ ?_
      · intro (h115 : ¬ z49.toInt = (0 : Int))
        refine W.iconst C m0_138 (z := (0 : Int32)) rfl ?_
        refine W.zreturn C m0_139 (hQ _ _ ?_)
        exfalso
        omega
      · intro (h115 : ¬ ¬ z49.toInt = (0 : Int))
        replace h115 := Decidable.not_not.mp h115
        refine W.iload C m0_118 rfl ?_
        refine W.iloadN C m0_120 rfl ?_
        refine W.iload C m0_121 rfl ?_
        suffices J123 : ∀ (w57 : Int32), (((v7.toInt < p3.toInt) ∧ (w57.toInt = (0 : Int))) ∨ ((p3.toInt ≤ v7.toInt) ∧ (w57.toInt = (1 : Int)))) → W κ n0 Qx h37 2 6 131 [.val (.int p0), .val (.int p1), .val (.int p2), .val (.int p3), .val (.int p4), .val (.int w1), .val (.int v2), .val (.int z3), .val (.int v7), .val (.int v8), .val (.ref a33), .val (.int z45), .val (.int z49), .val (.int z53)] [(.int w57), (.int z53)] by
          refine W.icmp C m0_123 ?_ ?_
          · intro (h123 : v7.toInt < p3.toInt)
            refine W.iconst C m0_130 (z := (0 : Int32)) rfl ?_
            exact J123 _ (Or.inl ⟨h123, rfl⟩)
          · intro (h123 : ¬ (v7.toInt < p3.toInt))
            replace h123 : p3.toInt ≤ v7.toInt := by omega
            refine W.iconst C m0_126 (z := (1 : Int32)) rfl ?_
            refine W.goto C m0_127 ?_
            exact J123 _ (Or.inr (⟨h123, rfl⟩))
        intro w57 hJ123
        refine W.icmp C m0_131 ?_ ?_
        · intro (h131 : ¬ z53.toInt = w57.toInt)
          refine W.iconst C m0_138 (z := (0 : Int32)) rfl ?_
          refine W.zreturn C m0_139 (hQ _ _ ?_)
          exfalso
          omega
        · intro (h131 : ¬ ¬ z53.toInt = w57.toInt)
          replace h131 := Decidable.not_not.mp h131
          refine W.iconst C m0_134 (z := (1 : Int32)) rfl ?_
          refine W.goto C m0_135 ?_
          refine W.zreturn C m0_139 (hQ _ _ ?_)
          exact rfl
set_option maxRecDepth 65536 in
set_option maxHeartbeats 4000000 in
theorem comes_1 {Post : Tables → Env → Array Value → State → Outcome → State → Prop} (hpost : ∀ tb e args s v u, (limb_1_1.after args s (.returned v) u = true ∧ limb_1_2.after args s (.returned v) u = true ∧ True) → FrameEnd s (.returned v) u (Jvm.fieldLocs frame_1_writes args s ++ Jvm.arrayLocs frame_1_arrays args s ++ Jvm.staticLocs frame_1_statics s) 16 128 → Post tb e args s (.returned v) u) :
    ArmFor flags0 classFile x code maxLocals ret World_1 tables_1 room_1 Calls_1 rest_1 Pre_1 Post := by
  intro l hfl _ _ p e ha hc hk s m args below hf hA hF happ hP
  obtain ⟨hcalls, hrest, hpre⟩ := hP
  obtain ⟨-, -, -, hnamed, -, -, -, hat⟩ := (Spec.applies_iff hf).mp happ
  obtain ⟨hg, hn⟩ := and_e (Cond.before_iff.mp (show (Jvm.Cond.and given_1 narrow_1).before args s = true from hpre))
  obtain ⟨hcount, hg0⟩ := and_e hg
  obtain ⟨ha0, hg1⟩ := and_e hg0
  obtain ⟨ha1, hg2⟩ := and_e hg1
  obtain ⟨ha2, hg3⟩ := and_e hg2
  obtain ⟨ha3, hg4⟩ := and_e hg3
  have ha4 := hg4
  obtain ⟨w0, w1, w2, w3, w4, rfl⟩ : ∃ w0 w1 w2 w3 w4 : Value, args = #[w0, w1, w2, w3, w4] := by
    have hs : args.size = 5 := by simpa [Cond.value, given_1] using hcount
    obtain ⟨L⟩ := args
    match L, hs with
    | [w0, w1, w2, w3, w4], _ => exact ⟨w0, w1, w2, w3, w4, rfl⟩
  have hw := fun d (hd : d ∈ tables_1) => atoms_spec (ws := Jvm.Cond.code x code maxLocals ret :: tables_1) hat d (List.mem_cons_of_mem _ hd)
  obtain ⟨i0, ei0⟩ := is_v ha0
  obtain rfl : w0 = (.int i0) := Option.some.inj ei0
  obtain ⟨i1, ei1⟩ := is_v ha1
  obtain rfl : w1 = (.int i1) := Option.some.inj ei1
  obtain ⟨i2, ei2⟩ := is_v ha2
  obtain rfl : w2 = (.int i2) := Option.some.inj ei2
  obtain ⟨i3, ei3⟩ := is_v ha3
  obtain rfl : w3 = (.int i3) := Option.some.inj ei3
  obtain ⟨i4, ei4⟩ := is_v ha4
  obtain rfl : w4 = (.int i4) := Option.some.inj ei4
  obtain ⟨n, o, h1, h2, h3, _, L, rfl, ⟨rfl, N⟩, hq⟩ := own_law s _ hw i0 i1 i2 i3 i4 s.heap s.heap.size (Nat.le_refl _) l tables_1 p e ha hc hk s m _ below hf ((Spec.applies_iff_loose hf).mp happ).1 ⟨rfl, State.Warmed39.refl s, rfl⟩ trivial
  refine ⟨n, _, h1, h2, h3, hpost _ _ _ _ _ _ ⟨Cond.after_iff.mpr rfl, Cond.after_iff.mpr (eq_i res_at (Term.int_eval (1)) rfl), trivial⟩ ⟨hq.1, hq.2.1, (hq.2.2.sift fun y hy => Or.inr (N y hy)).mono (by decide) (by decide)⟩⟩
theorem main_1_1 : Claimed_1_1 := comes_1 fun _ _ _ _ _ _ h hF => ⟨h.1, hF⟩
theorem main_1_2 : Claimed_1_2 := comes_1 fun _ _ _ _ _ _ h hF => ⟨h.2.1, hF⟩
end Jvm.Pilot.@@N@@
namespace Jvm.Pilot.@@N@@
open Jvm Jvm.ClassFile Sem Op Lib Jvm.Free Jvm.Stand Jvm.Pilot.@@N@@.Jvm.D
/-! MADE BY PROGRAM (witnessworld.py) out of the Statement's table words and the real class files: 11 classes; the members and pool entries that the words name. The judged class is class 1, her method 1. -/
namespace start1
open Jvm.ClassFile
def u (s : String) : CpInfo := .utf8 (stringToUtf16 s)
/-- a pool by its gaps: so many unusable entries, then the entry; so many at the end -/
def gap : Nat → List CpInfo → List CpInfo
  | 0, r => r
  | n + 1, r => .unusable :: gap n r
def poolList (es : List (Nat × CpInfo)) (last : Nat) : List CpInfo := es.foldr (fun e r => gap e.1 (e.2 :: r)) (gap last [])
def pool (es : List (Nat × CpInfo)) (last : Nat) : Array CpInfo := ⟨poolList es last⟩
def fileOf (pool : Array CpInfo) (this : Nat) (attrs : Array Attribute := #[]) (ms : Array MethodInfo := #[]) (fl : Nat := 33) (sup : Nat := 0) (ifs : Array Nat := #[]) (fds : Array FieldInfo := #[]) : ClassFile where
  minorVersion := 0
  majorVersion := 65
  constantPool := pool
  accessFlags := fl
  thisClass := this
  superClass := sup
  interfaces := ifs
  fields := fds
  methods := ms
  attributes := attrs
def plain (name : String) (sup : Option ClassId) : Class where
  name := name
  kind := .ordinary
  loader := none
  accessFlags := 33
  super := sup
  interfaces := #[]
  cf := none
  fields := #[]
  methods := #[]
  instanceTypes := #[]
  staticTypes := #[]
  resolved := #[]
  callSites := []
  init := .initialized
  statics := none
  mirror := none

def pool0 : Array CpInfo := pool [(5, u "<init>"), (0, u "()V"), (1, .class_ 10), (1, u "java/lang/Object")] 113

def k0c0 : Code := { maxStack := 0, maxLocals := 1, code := object_method_1_code, exceptionTable := #[], attributes := #[] }
def k0m0 : Method := { name := "<init>", desc := "()V", sig := { parameters := [], returnType := none }, accessFlags := 1, code := some k0c0 }
/-- java/lang/Object -/
def k0 : Class := { plain "java/lang/Object" none with
  accessFlags := 33
  interfaces := #[]
  cf := some (fileOf pool0 8 #[] #[{ accessFlags := 1, nameIndex := 5, descriptorIndex := 6, attributes := #[] }] 33 0 #[] #[])
  fields := #[]
  methods := #[k0m0]
  instanceTypes := #[]
  staticTypes := #[]
  resolved := Array.replicate 124 none
  statics := none }

def pool1 : Array CpInfo := pool [(2, .class_ 4), (1, u "java/lang/Object"), (0, u "<init>"), (0, u "()V"), (0, .integer 2147483647), (0, .methodref 9 10), (0, .class_ 11), (0, .nameAndType 12 13), (0, u "java/lang/Math"), (0, u "min"), (0, u "(II)I"), (0, .integer 1073741823), (0, .class_ 16), (0, u "com/example/vestwright/vestwright/plan/HoursRule"), (0, .methodref 15 18), (0, .nameAndType 5 19), (0, u "(I)V"), (0, .methodref 15 21), (0, .nameAndType 22 23), (0, u "withParity"), (0, u "(II)Lcom/example/vestwright/vestwright/plan/HoursRule;"), (0, .methodref 15 25), (0, .nameAndType 26 27), (0, u "isBreak"), (0, u "(I)Z"), (0, .class_ 29), (0, u "com/example/vestwright/vestwright/plan/HoursRuleIsBreakPinLaw"), (2, u "law"), (0, u "(IIIII)Z")] 3

def k1m0 : Method := { name := "<init>", desc := "()V", sig := { parameters := [], returnType := none }, accessFlags := 1, code := none }
def k1c1 : Code := { maxStack := 3, maxLocals := 14, code := code, exceptionTable := #[], attributes := #[] }
def k1m1 : Method := { name := "law", desc := "(IIIII)Z", sig := { parameters := [.int, .int, .int, .int, .int], returnType := some .boolean }, accessFlags := 9, code := some k1c1 }
/-- com/example/vestwright/vestwright/plan/HoursRuleIsBreakPinLaw -/
def k1 : Class := { plain "com/example/vestwright/vestwright/plan/HoursRuleIsBreakPinLaw" (some 0) with
  accessFlags := 49
  interfaces := #[]
  cf := some (fileOf pool1 28 #[] #[{ accessFlags := 1, nameIndex := 5, descriptorIndex := 6, attributes := #[] }, { accessFlags := 9, nameIndex := 32, descriptorIndex := 33, attributes := #[] }] 49 2 #[] #[])
  fields := #[]
  methods := #[k1m0, k1m1]
  instanceTypes := #[]
  staticTypes := #[]
  resolved := Array.replicate 37 none
  statics := none }

def pool2 : Array CpInfo := pool [(1, .class_ 2), (0, u "com/example/vestwright/vestwright/plan/ServiceRule"), (0, .class_ 4), (0, u "java/lang/Object")] 9

/-- com/example/vestwright/vestwright/plan/ServiceRule -/
def k2 : Class := { plain "com/example/vestwright/vestwright/plan/ServiceRule" (some 0) with
  accessFlags := 1537
  interfaces := #[]
  cf := some (fileOf pool2 1 #[] #[] 1537 3 #[] #[])
  fields := #[]
  methods := #[]
  instanceTypes := #[]
  staticTypes := #[]
  resolved := Array.replicate 14 none
  statics := none }

def pool3 : Array CpInfo := pool [(1, .class_ 2), (0, u "com/example/vestwright/vestwright/plan/HoursRule"), (0, .methodref 1 4), (0, .nameAndType 5 6), (0, u "<init>"), (0, u "(III)V"), (10, .methodref 18 19), (0, .class_ 20), (0, .nameAndType 5 21), (0, u "java/lang/Object"), (0, u "()V"), (0, .fieldref 1 23), (0, .nameAndType 24 25), (0, u "minimumHours"), (0, u "I"), (0, .fieldref 1 27), (0, .nameAndType 28 25), (0, u "breakHours"), (0, .fieldref 1 30), (0, .nameAndType 31 25), (0, u "parityBreaks"), (21, .class_ 54), (0, u "com/example/vestwright/vestwright/plan/ServiceRule"), (0, u "YEAR_OF_SERVICE"), (0, u "Ljava/lang/String;"), (1, u "BREAK_IN_SERVICE"), (0, u "MOST_MINIMUM_HOURS"), (1, u "MOST_BREAK_HOURS"), (1, u "LEAST_PARITY_BREAKS"), (1, u "NO_PARITY"), (1, u "(I)V"), (3, u "withParity"), (0, u "(II)Lcom/example/vestwright/vestwright/plan/HoursRule;"), (1, u "isBreak"), (0, u "(I)Z")] 25

def k3c0 : Code := { maxStack := 4, maxLocals := 2, code := prog_50_method_1_code, exceptionTable := #[], attributes := #[] }
def k3m0 : Method := { name := "<init>", desc := "(I)V", sig := { parameters := [.int], returnType := none }, accessFlags := 1, code := some k3c0 }
def k3c1 : Code := { maxStack := 2, maxLocals := 4, code := prog_50_method_2_code, exceptionTable := #[], attributes := #[] }
def k3m1 : Method := { name := "<init>", desc := "(III)V", sig := { parameters := [.int, .int, .int], returnType := none }, accessFlags := 2, code := some k3c1 }
def k3c2 : Code := { maxStack := 5, maxLocals := 3, code := prog_50_method_3_code, exceptionTable := #[], attributes := #[] }
def k3m2 : Method := { name := "withParity", desc := "(II)Lcom/example/vestwright/vestwright/plan/HoursRule;", sig := { parameters := [.int, .int], returnType := some (.object "com/example/vestwright/vestwright/plan/HoursRule") }, accessFlags := 1, code := some k3c2 }
def k3c3 : Code := { maxStack := 2, maxLocals := 2, code := prog_50_method_5_code, exceptionTable := #[], attributes := #[] }
def k3m3 : Method := { name := "isBreak", desc := "(I)Z", sig := { parameters := [.int], returnType := some .boolean }, accessFlags := 1, code := some k3c3 }
/-- com/example/vestwright/vestwright/plan/HoursRule -/
def k3 : Class := { plain "com/example/vestwright/vestwright/plan/HoursRule" (some 0) with
  accessFlags := 49
  interfaces := #[2]
  cf := some (fileOf pool3 1 #[] #[{ accessFlags := 1, nameIndex := 5, descriptorIndex := 67, attributes := #[] }, { accessFlags := 2, nameIndex := 5, descriptorIndex := 6, attributes := #[] }, { accessFlags := 1, nameIndex := 71, descriptorIndex := 72, attributes := #[] }, { accessFlags := 1, nameIndex := 74, descriptorIndex := 75, attributes := #[] }] 49 18 #[53] #[{ accessFlags := 26, nameIndex := 55, descriptorIndex := 56, attributes := #[] }, { accessFlags := 26, nameIndex := 58, descriptorIndex := 56, attributes := #[] }, { accessFlags := 26, nameIndex := 59, descriptorIndex := 25, attributes := #[] }, { accessFlags := 26, nameIndex := 61, descriptorIndex := 25, attributes := #[] }, { accessFlags := 26, nameIndex := 63, descriptorIndex := 25, attributes := #[] }, { accessFlags := 26, nameIndex := 65, descriptorIndex := 25, attributes := #[] }, { accessFlags := 18, nameIndex := 24, descriptorIndex := 25, attributes := #[] }, { accessFlags := 18, nameIndex := 28, descriptorIndex := 25, attributes := #[] }, { accessFlags := 18, nameIndex := 31, descriptorIndex := 25, attributes := #[] }])
  fields := #[{ name := "YEAR_OF_SERVICE", type := (.object "java/lang/String"), accessFlags := 26, slot := 0, constantValue := 0 }, { name := "BREAK_IN_SERVICE", type := (.object "java/lang/String"), accessFlags := 26, slot := 1, constantValue := 0 }, { name := "MOST_MINIMUM_HOURS", type := .int, accessFlags := 26, slot := 2, constantValue := 0 }, { name := "MOST_BREAK_HOURS", type := .int, accessFlags := 26, slot := 3, constantValue := 0 }, { name := "LEAST_PARITY_BREAKS", type := .int, accessFlags := 26, slot := 4, constantValue := 0 }, { name := "NO_PARITY", type := .int, accessFlags := 26, slot := 5, constantValue := 0 }, { name := "minimumHours", type := .int, accessFlags := 18, slot := 0, constantValue := 0 }, { name := "breakHours", type := .int, accessFlags := 18, slot := 1, constantValue := 0 }, { name := "parityBreaks", type := .int, accessFlags := 18, slot := 2, constantValue := 0 }]
  methods := #[k3m0, k3m1, k3m2, k3m3]
  instanceTypes := #[.int, .int, .int]
  staticTypes := #[(.object "java/lang/String"), (.object "java/lang/String"), .int, .int, .int, .int]
  resolved := Array.replicate 101 none
  statics := none }

def pool4 : Array CpInfo := pool [(1, .class_ 2), (0, u "java/lang/Math"), (1, .class_ 6), (1, u "java/lang/Object"), (0, u "<init>"), (0, u "()V"), (89, .class_ 100), (1, u "java/lang/Math$RandomNumberGeneratorHolder"), (71, u "negativeZeroFloatBits"), (0, u "J"), (2, u "negativeZeroDoubleBits"), (24, u "min"), (43, u "$assertionsDisabled"), (0, u "Z"), (88, u "(II)I"), (2, u "twoToTheDoubleScaleDown"), (0, u "D"), (4, u "twoToTheDoubleScaleUp"), (9, u "E"), (3, u "PI"), (2, u "TAU"), (2, u "DEGREES_TO_RADIANS"), (0, u "RADIANS_TO_DEGREES")] 94

def k4m0 : Method := { name := "<init>", desc := "()V", sig := { parameters := [], returnType := none }, accessFlags := 2, code := none }
def k4c1 : Code := { maxStack := 2, maxLocals := 2, code := jdk_29_method_69_code, exceptionTable := #[], attributes := #[] }
def k4m1 : Method := { name := "min", desc := "(II)I", sig := { parameters := [.int, .int], returnType := some .int }, accessFlags := 9, code := some k4c1 }
/-- java/lang/Math -/
def k4 : Class := { plain "java/lang/Math" (some 0) with
  accessFlags := 49
  interfaces := #[]
  cf := some (fileOf pool4 1 #[.nestMembers #[98]] #[{ accessFlags := 2, nameIndex := 7, descriptorIndex := 8, attributes := #[] }, { accessFlags := 9, nameIndex := 201, descriptorIndex := 335, attributes := #[] }] 49 4 #[] #[{ accessFlags := 25, nameIndex := 354, descriptorIndex := 339, attributes := #[] }, { accessFlags := 25, nameIndex := 358, descriptorIndex := 339, attributes := #[] }, { accessFlags := 25, nameIndex := 361, descriptorIndex := 339, attributes := #[] }, { accessFlags := 26, nameIndex := 364, descriptorIndex := 339, attributes := #[] }, { accessFlags := 26, nameIndex := 365, descriptorIndex := 339, attributes := #[] }, { accessFlags := 26, nameIndex := 172, descriptorIndex := 173, attributes := #[] }, { accessFlags := 26, nameIndex := 176, descriptorIndex := 173, attributes := #[] }, { accessFlags := 8, nameIndex := 344, descriptorIndex := 339, attributes := #[] }, { accessFlags := 8, nameIndex := 338, descriptorIndex := 339, attributes := #[] }, { accessFlags := 4120, nameIndex := 245, descriptorIndex := 246, attributes := #[] }])
  fields := #[{ name := "E", type := .double, accessFlags := 25, slot := 0, constantValue := 0 }, { name := "PI", type := .double, accessFlags := 25, slot := 1, constantValue := 0 }, { name := "TAU", type := .double, accessFlags := 25, slot := 2, constantValue := 0 }, { name := "DEGREES_TO_RADIANS", type := .double, accessFlags := 26, slot := 3, constantValue := 0 }, { name := "RADIANS_TO_DEGREES", type := .double, accessFlags := 26, slot := 4, constantValue := 0 }, { name := "negativeZeroFloatBits", type := .long, accessFlags := 26, slot := 5, constantValue := 0 }, { name := "negativeZeroDoubleBits", type := .long, accessFlags := 26, slot := 6, constantValue := 0 }, { name := "twoToTheDoubleScaleUp", type := .double, accessFlags := 8, slot := 7, constantValue := 0 }, { name := "twoToTheDoubleScaleDown", type := .double, accessFlags := 8, slot := 8, constantValue := 0 }, { name := "$assertionsDisabled", type := .boolean, accessFlags := 4120, slot := 9, constantValue := 0 }]
  methods := #[k4m0, k4m1]
  instanceTypes := #[]
  staticTypes := #[.double, .double, .double, .double, .double, .long, .long, .double, .double, .boolean]
  resolved := Array.replicate 460 none
  statics := none }

def pool5 : Array CpInfo := pool [(1, u "java/lang/Cloneable"), (0, .class_ 1), (0, u "java/lang/Object"), (0, .class_ 3)] 3

/-- java/lang/Cloneable -/
def k5 : Class := { plain "java/lang/Cloneable" (some 0) with
  accessFlags := 1537
  interfaces := #[]
  cf := some (fileOf pool5 2 #[] #[] 1537 4 #[] #[])
  fields := #[]
  methods := #[]
  instanceTypes := #[]
  staticTypes := #[]
  resolved := Array.replicate 8 none
  statics := none }

def pool6 : Array CpInfo := pool [(1, u "java/io/Serializable"), (0, .class_ 1), (0, u "java/lang/Object"), (0, .class_ 3)] 3

/-- java/io/Serializable -/
def k6 : Class := { plain "java/io/Serializable" (some 0) with
  accessFlags := 1537
  interfaces := #[]
  cf := some (fileOf pool6 2 #[] #[] 1537 4 #[] #[])
  fields := #[]
  methods := #[]
  instanceTypes := #[]
  staticTypes := #[]
  resolved := Array.replicate 8 none
  statics := none }

/-- the primitive byte -/
def k7 : Class := { plain "byte" none with kind := .primitive 'B', accessFlags := 0x411 }
/-- [B -/
def k8 : Class := { plain "[B" (some 0) with kind := .array 7 .byte, interfaces := #[5, 6], accessFlags := 1041 }

/-- the primitive int -/
def k9 : Class := { plain "int" none with kind := .primitive 'I', accessFlags := 0x411 }
/-- [I -/
def k10 : Class := { plain "[I" (some 0) with kind := .array 9 .int, interfaces := #[5, 6], accessFlags := 1041 }

def heap : Heap := #[]
def classes : Array Class := #[k0, k1, k2, k3, k4, k5, k6, k7, k8, k9, k10]
def interned : List (Array UInt16 × Addr) := []
def slotsUsed : Nat := 0
def theMethod : MethodId := ⟨1, 1⟩
def args0 : Array Value := #[.int 5, .int 2, .int 3, .int 4, .int 5]
def aboutOver (below : List Frame) : State where
  vm := { classes := classes, interned := interned.toArray }
  heap := heap
  slotsUsed := slotsUsed
  threads := #[{ frames := .invoking theMethod args0 :: below }]
def below0 : List Frame := [.native { method := ⟨0, 0⟩, args := #[] }]
def about1 : State := aboutOver below0
def p0 : Program := .bare "" "" ""
def e0 : Env := launch0.env 0 0 0
theorem w_frames : about1.frames = Frame.invoking theMethod args0 :: below0 := rfl
set_option maxRecDepth 65536 in
theorem w_args : argsFit about1.vm theMethod args0 = true := by decide +kernel
set_option maxRecDepth 65536 in
theorem w_heap : heapFits about1 = true := by decide +kernel
set_option maxRecDepth 65536 in
theorem w_runnable : about1.curStatus? = some .runnable := by decide +kernel
set_option maxRecDepth 65536 in
theorem w_alone : about1.alone = true := by decide +kernel
set_option maxRecDepth 65536 in
theorem w_named : about1.methodNamed? x = some theMethod := by decide +kernel
set_option maxRecDepth 65536 in
theorem w_hears : about1.hears theMethod below0 = true := by decide +kernel
set_option maxRecDepth 65536 in
theorem w_ripe : about1.ripe theMethod args0 below0 = true := by decide +kernel
theorem w_running : about1.status = .running := rfl
set_option maxRecDepth 65536 in
theorem w_room : about1.hasRoom e0.platform room_1 = true :=
  launch0.hasRoom_least _ room_1 (by decide +kernel) (by decide +kernel) (by decide +kernel) (by decide +kernel) (by decide +kernel) (by decide +kernel)
theorem allAtoms_all (ts : List Jvm.Cond) (a : Array Jvm.Value) (st : Jvm.State) : (allAtoms ts).before a st = ts.all (fun c => c.before a st) := by
  induction ts with
  | nil => rfl
  | cons c t ih =>
    show (Jvm.Cond.and c (allAtoms t)).before a st = _
    rw [Jvm.Cond.before_and, ih, List.all_cons]
def words1 : List Jvm.Cond := Jvm.Cond.code x code maxLocals ret :: tables_1
/-- a 'code' word, met by the world's own term for the bytes: nothing is compared byte by byte -/
theorem code_word {y : MethodName} {bytes : ByteArray} {mx : Nat} {rt : Option FieldType} {a : Array Value} {s : State} {m : MethodId} {meth : Method} {c : Code} (h1 : s.methodNamed? y = some m) (h2 : s.vm.method? m = some meth) (h3 : meth.code = some c) (h4 : c.code = bytes)
    (h5 : (c.maxLocals == mx && c.exceptionTable.isEmpty && decide (c.maxStack ≤ mostOperands) && decide (meth.sig.returnType = rt) && !meth.locks && decide (parseMethodDescriptor y.desc = some meth.sig)) = true) : (Jvm.Cond.code y bytes mx rt).before a s = true := by
  simp only [Bool.and_eq_true, beq_iff_eq, Bool.not_eq_true', decide_eq_true_eq] at h5
  obtain ⟨⟨⟨⟨⟨g1, g2⟩, g3⟩, g4⟩, g5⟩, g6⟩ := h5
  simp [Cond.before, Cond.holds, Cond.value, h1, h2, h3, h4, g1, g2, g3, g4, g5, g6]
def isCode : Jvm.Cond → Bool
  | .code _ _ _ _ => true
  | _ => false
theorem all_split {L : List Jvm.Cond} {P : Jvm.Cond → Bool} (h1 : L.all (fun c => isCode c || P c) = true) (h2 : ∀ c ∈ L.filter isCode, P c = true) : L.all P = true := by
  refine List.all_eq_true.mpr fun c hc => ?_
  have h := List.all_eq_true.mp h1 c hc
  rcases Bool.eq_false_or_eq_true (isCode c) with hi | hi
  · exact h2 c (List.mem_filter.mpr ⟨hc, hi⟩)
  · simpa [hi] using h
set_option maxRecDepth 65536 in
theorem w_c0 : (Jvm.Cond.code x code maxLocals ret).before args0 about1 = true := code_word (m := ⟨1, 1⟩) (meth := k1m1) (c := k1c1) (by decide +kernel) rfl rfl rfl (by decide +kernel)
set_option maxRecDepth 65536 in
theorem w_c1 : (Jvm.Cond.code ({ cls := "com/example/vestwright/vestwright/plan/HoursRule", name := "<init>", desc := "(I)V" } : Jvm.MethodName) prog_50_method_1_code (2 : Nat) (Option.none : Option Jvm.ClassFile.FieldType)).before args0 about1 = true := code_word (m := ⟨3, 0⟩) (meth := k3m0) (c := k3c0) (by decide +kernel) rfl rfl rfl (by decide +kernel)
set_option maxRecDepth 65536 in
theorem w_c2 : (Jvm.Cond.code ({ cls := "com/example/vestwright/vestwright/plan/HoursRule", name := "<init>", desc := "(III)V" } : Jvm.MethodName) prog_50_method_2_code (4 : Nat) (Option.none : Option Jvm.ClassFile.FieldType)).before args0 about1 = true := code_word (m := ⟨3, 1⟩) (meth := k3m1) (c := k3c1) (by decide +kernel) rfl rfl rfl (by decide +kernel)
set_option maxRecDepth 65536 in
theorem w_c3 : (Jvm.Cond.code ({ cls := "java/lang/Object", name := "<init>", desc := "()V" } : Jvm.MethodName) object_method_1_code (1 : Nat) (Option.none : Option Jvm.ClassFile.FieldType)).before args0 about1 = true := code_word (m := ⟨0, 0⟩) (meth := k0m0) (c := k0c0) (by decide +kernel) rfl rfl rfl (by decide +kernel)
set_option maxRecDepth 65536 in
theorem w_c4 : (Jvm.Cond.code ({ cls := "com/example/vestwright/vestwright/plan/HoursRule", name := "isBreak", desc := "(I)Z" } : Jvm.MethodName) prog_50_method_5_code (2 : Nat) (Option.some Jvm.ClassFile.FieldType.boolean)).before args0 about1 = true := code_word (m := ⟨3, 3⟩) (meth := k3m3) (c := k3c3) (by decide +kernel) rfl rfl rfl (by decide +kernel)
set_option maxRecDepth 65536 in
theorem w_c5 : (Jvm.Cond.code ({ cls := "java/lang/Math", name := "min", desc := "(II)I" } : Jvm.MethodName) jdk_29_method_69_code (2 : Nat) (Option.some Jvm.ClassFile.FieldType.int)).before args0 about1 = true := code_word (m := ⟨4, 1⟩) (meth := k4m1) (c := k4c1) (by decide +kernel) rfl rfl rfl (by decide +kernel)
set_option maxRecDepth 65536 in
theorem w_c6 : (Jvm.Cond.code ({ cls := "com/example/vestwright/vestwright/plan/HoursRule", name := "withParity", desc := "(II)Lcom/example/vestwright/vestwright/plan/HoursRule;" } : Jvm.MethodName) prog_50_method_3_code (3 : Nat) (Option.some (Jvm.ClassFile.FieldType.object "com/example/vestwright/vestwright/plan/HoursRule"))).before args0 about1 = true := code_word (m := ⟨3, 2⟩) (meth := k3m2) (c := k3c2) (by decide +kernel) rfl rfl rfl (by decide +kernel)
def codes1 : List Jvm.Cond := [Jvm.Cond.code x code maxLocals ret, Jvm.Cond.code ({ cls := "com/example/vestwright/vestwright/plan/HoursRule", name := "<init>", desc := "(I)V" } : Jvm.MethodName) prog_50_method_1_code (2 : Nat) (Option.none : Option Jvm.ClassFile.FieldType), Jvm.Cond.code ({ cls := "com/example/vestwright/vestwright/plan/HoursRule", name := "<init>", desc := "(III)V" } : Jvm.MethodName) prog_50_method_2_code (4 : Nat) (Option.none : Option Jvm.ClassFile.FieldType), Jvm.Cond.code ({ cls := "java/lang/Object", name := "<init>", desc := "()V" } : Jvm.MethodName) object_method_1_code (1 : Nat) (Option.none : Option Jvm.ClassFile.FieldType), Jvm.Cond.code ({ cls := "com/example/vestwright/vestwright/plan/HoursRule", name := "isBreak", desc := "(I)Z" } : Jvm.MethodName) prog_50_method_5_code (2 : Nat) (Option.some Jvm.ClassFile.FieldType.boolean), Jvm.Cond.code ({ cls := "java/lang/Math", name := "min", desc := "(II)I" } : Jvm.MethodName) jdk_29_method_69_code (2 : Nat) (Option.some Jvm.ClassFile.FieldType.int), Jvm.Cond.code ({ cls := "com/example/vestwright/vestwright/plan/HoursRule", name := "withParity", desc := "(II)Lcom/example/vestwright/vestwright/plan/HoursRule;" } : Jvm.MethodName) prog_50_method_3_code (3 : Nat) (Option.some (Jvm.ClassFile.FieldType.object "com/example/vestwright/vestwright/plan/HoursRule"))]
set_option maxRecDepth 65536 in
theorem codes_eq : words1.filter isCode = codes1 := rfl
theorem w_codes : ∀ c ∈ words1.filter isCode, c.before args0 about1 = true := by
  rw [codes_eq]
  intro c hc
  simp only [codes1, List.mem_cons, List.not_mem_nil, or_false] at hc
  rcases hc with rfl | rfl | rfl | rfl | rfl | rfl | rfl
  · exact w_c0
  · exact w_c1
  · exact w_c2
  · exact w_c3
  · exact w_c4
  · exact w_c5
  · exact w_c6
set_option maxRecDepth 65536 in
theorem w_t1 : (words1.take 24).all (fun c => isCode c || c.before args0 about1) = true := by decide +kernel
set_option maxRecDepth 65536 in
theorem w_t2 : (words1.drop 24).all (fun c => isCode c || c.before args0 about1) = true := by decide +kernel
theorem w_tables : (allAtoms (Jvm.Cond.code x code maxLocals ret :: tables_1)).before args0 about1 = true := by
  rw [allAtoms_all]
  show words1.all (fun c => c.before args0 about1) = true
  refine all_split ?_ w_codes
  rw [← List.take_append_drop 24 words1, List.all_append, w_t1, w_t2]
  rfl
set_option maxRecDepth 65536 in
theorem w_case : (Jvm.Cond.and given_1 narrow_1).before args0 about1 = true := by decide +kernel
theorem w_applies : (headSpec (Jvm.Cond.code x code maxLocals ret :: tables_1) room_1).applies x e0.platform about1 = true :=
  (Spec.applies_iff w_frames).mpr ⟨w_running, w_runnable, w_alone, w_named, w_hears, w_ripe, w_room, w_tables⟩
theorem atStart : AtStart classFile x code maxLocals ret World_1 tables_1 room_1 Calls_1 rest_1 Pre_1 launch0 p0 e0 about1 theMethod args0 below0 :=
  ⟨lists_1, trivial, launch0.admits_env _ _ _, launch0.least_env, fairChoices_fair.cas, fairChoices_fair.clock, w_frames, w_args, w_heap, w_applies, trivial, trivial, w_case⟩
end start1
theorem witness_1 : WitnessClaimed_1 := ⟨start1.p0, start1.e0, start1.about1, start1.theMethod, start1.args0, start1.below0, start1.atStart⟩
end Jvm.Pilot.@@N@@
