import JvmDerived
import JvmDerived.Pilot.@@N@@Statement
import JvmDerived.Pilot.@@N@@Code
set_option linter.unusedVariables false
set_option linter.unusedSimpArgs false
namespace Jvm.Pilot.@@N@@
open Jvm Jvm.ClassFile Sem Op Lib Jvm.Free Jvm.Stand Jvm.LawKit Jvm.RoadKit Bundle Jvm.Pilot.@@N@@.Jvm.D
/-! ## THE W-KIT: W k n0 Q h cs sl pc L st: whoever stands (in the body that k tells of) over the heap h with locals L and stack st at pc comes to the body's end with Q -/
abbrev KT : Type := Program × Launch × Env × Room × State × MethodId × Array Value × List Frame × Method × Code
def Good (κ : KT) (R : Room) (Z : State) (own mnm : String) (bytes : ByteArray) (ml : Nat) (ret : Option FieldType) : Prop :=
  match κ with
  | (p, _, _, R', s, m, _, _, meth, c) => p.tables.exec = Jvm.exec ∧ Z.Warmed39 s.vm ∧ c.code = bytes ∧ c.maxLocals = ml ∧ s.vm.findClass own = some m.cls ∧ meth.sig.returnType = ret ∧ meth.locks = false ∧ meth.name = mnm ∧ R' = R
def W (κ : KT) (n0 : Nat) (Q : Option Value → Heap → Prop) (h : Heap) (cs sl pc : Nat) (L : List Slot) (st : List Value) : Prop :=
  match κ with
  | (p, l, e, R, s, m, args, below, meth, c) =>
    ∀ (T : State) (locs : List Loc), Stand p l e R s m args below meth c T locs cs sl → T.heap = h → Fr n0 locs → cs ≤ R.cells → sl ≤ R.slots →
      ∃ s₂ o, Steps p.tables e below (T.setTop (mkF m pc L.toArray st)) s₂ ∧ s₂.status = .running ∧ Ended s₂ below o ∧ ∃ v L', o = .returned v ∧ (Q v s₂.heap ∧ Fr n0 L') ∧ FrameEnd s o s₂ L' R.cells R.slots
/-- a callee's contract -/
def Con (Z : State) (y : MethodName) (bytes : ByteArray) (ml : Nat) (ret : Option FieldType) (rm : Room) (as' : List Value) (h0 : Heap) (n0 : Nat) (Q : Option Value → Heap → Prop) : Prop :=
  ∀ (l : Launch) (ws : List Jvm.Cond), MetFree l y (head1 (Jvm.Cond.code y bytes ml ret :: ws) rm) (fun a U => a = as'.toArray ∧ Z.Warmed39 U.vm ∧ U.heap = h0) (fun _ _ _ _ _ => True) (fun _ U o U' => ∃ v L, o = .returned v ∧ (Q v U'.heap ∧ Fr n0 L) ∧ FrameEnd U o U' L rm.cells rm.slots)
/-- an instruction: what stands at pc, its length, the pc behind -/
def Ins1 (b : ByteArray) (pc : Nat) (i : Instr) (len nx : Nat) : Prop := decode b pc = .ok (i, len) ∧ pc + len = nx
/-- a jump: what stands at pc, the pc behind, the pc to which it leads -/
def Jmp1 (b : ByteArray) (pc : Nat) (i : Instr) (o : Int) (nx tg : Nat) : Prop := decode b pc = .ok (i, 3) ∧ pc + 3 = nx ∧ 0 ≤ (pc : Int) + o ∧ ((pc : Int) + o).toNat = tg
def cmpP : ClassFile.Cond → Int32 → Int32 → Prop
  | .eq, x, y => x.toInt = y.toInt
  | .ne, x, y => ¬ x.toInt = y.toInt
  | .lt, x, y => x.toInt < y.toInt
  | .ge, x, y => y.toInt ≤ x.toInt
  | .gt, x, y => y.toInt < x.toInt
  | .le, x, y => x.toInt ≤ y.toInt
def cmp0 : ClassFile.Cond → Int32 → Prop
  | .eq, x => x.toInt = 0
  | .ne, x => ¬ x.toInt = 0
  | .lt, x => x.toInt < 0
  | .ge, x => 0 ≤ x.toInt
  | .gt, x => 0 < x.toInt
  | .le, x => x.toInt ≤ 0
def cmpL : ClassFile.Cond → Int64 → Int64 → Prop
  | .eq, x, y => x.toInt = y.toInt
  | .ne, x, y => ¬ x.toInt = y.toInt
  | .lt, x, y => x.toInt < y.toInt
  | .ge, x, y => y.toInt ≤ x.toInt
  | .gt, x, y => y.toInt < x.toInt
  | .le, x, y => x.toInt ≤ y.toInt
theorem cmpP_iff (cd : ClassFile.Cond) (x y : Int32) : if_icmp.holds cd x y = true ↔ cmpP cd x y := by
  cases cd <;> simp [if_icmp.holds, cmpP, Int32.lt_iff_toInt_lt, Int32.le_iff_toInt_le, Int32.toInt_inj]
theorem cmpP_no {cd : ClassFile.Cond} {x y : Int32} (h : ¬ cmpP cd x y) : if_icmp.holds cd x y = false := by
  cases q : if_icmp.holds cd x y with
  | false => rfl
  | true => exact absurd ((cmpP_iff _ _ _).mp q) h
theorem cmp0_iff (cd : ClassFile.Cond) (x : Int32) : cmpP cd x 0 ↔ cmp0 cd x := by
  cases cd <;> simp [cmpP, cmp0]
theorem cmpL_iff (cd : ClassFile.Cond) (x y : Int64) : cmp0 cd (if x > y then 1 else if x = y then 0 else -1) ↔ cmpL cd x y := by
  have hc := c_lcmp x y
  show cmp0 cd (lcmpW x y) ↔ _
  cases cd <;> simp only [cmp0, cmpL] <;> omega
section WKit
variable {κ : KT} {R : Room} {Z : State} {a0 : Array Value} {own mnm : String} {bytes : ByteArray} {ml : Nat} {ret : Option FieldType} {n0 : Nat} {Q : Option Value → Heap → Prop} {h : Heap} {cs sl pc nx tg : Nat} {L : List Slot} {st rest : List Value}
theorem W.pure {pc' : Nat} {L' : List Slot} {st' : List Value} (C : Good κ R Z own mnm bytes ml ret) (k : W κ n0 Q h cs sl pc' L' st')
    (hs : ∀ {p : Program} {e : Env} {below : List Frame} {T target : State} {m : MethodId} {c : Code}, At T m c below → p.tables.exec = Jvm.exec → c.code = bytes → Steps p.tables e below (T.setTop (mkF m pc' L'.toArray st')) target → Steps p.tables e below (T.setTop (mkF m pc L.toArray st)) target) : W κ n0 Q h cs sl pc L st := by
  obtain ⟨p, l, e, R', s, m, args, below, meth, c⟩ := κ
  obtain ⟨hx, -, hby, -⟩ := C
  intro T locs X eT N h1 h2
  obtain ⟨s₂, o, a, r⟩ := k T locs X eT N h1 h2
  exact ⟨s₂, o, hs X.here hx hby a, r⟩
/-- more room taken than made -/
theorem W.more {cs' sl' : Nat} (h1 : cs ≤ cs') (h2 : sl ≤ sl') (C : Good κ R Z own mnm bytes ml ret) (g1 : cs' ≤ R.cells) (g2 : sl' ≤ R.slots) (k : W κ n0 Q h cs' sl' pc L st) : W κ n0 Q h cs sl pc L st := by
  obtain ⟨p, l, e, R', s, m, args, below, meth, c⟩ := κ
  obtain ⟨-, -, -, -, -, -, -, -, rfl⟩ := C
  intro T locs X eT N _ _
  exact k T locs (X.more h1 h2) eT N g1 g2
theorem W.post {Q' : Option Value → Heap → Prop} (hq : ∀ v h, Q v h → Q' v h) (k : W κ n0 Q h cs sl pc L st) : W κ n0 Q' h cs sl pc L st := by
  obtain ⟨p, l, e, R', s, m, args, below, meth, c⟩ := κ
  intro T locs X eT N h1 h2
  obtain ⟨s₂, o, a, b, c, v, L', d, ⟨f, f'⟩, g⟩ := k T locs X eT N h1 h2
  exact ⟨s₂, o, a, b, c, v, L', d, ⟨hq _ _ f, f'⟩, g⟩

theorem W.iadd {x y z : Int32} (C : Good κ R Z own mnm bytes ml ret) (hd : Ins1 bytes pc .iadd 1 nx) (hz : x + y = z) (k : W κ n0 Q h cs sl nx L (.int z :: rest)) : W κ n0 Q h cs sl pc L (.int y :: .int x :: rest) := by
  obtain ⟨hd, rfl⟩ := hd
  subst hz
  exact W.pure C k fun hA hx hby hr => XS.iadd hA hx rfl (hb hby hd) rfl hr
theorem W.isub {x y z : Int32} (C : Good κ R Z own mnm bytes ml ret) (hd : Ins1 bytes pc .isub 1 nx) (hz : x - y = z) (k : W κ n0 Q h cs sl nx L (.int z :: rest)) : W κ n0 Q h cs sl pc L (.int y :: .int x :: rest) := by
  obtain ⟨hd, rfl⟩ := hd
  subst hz
  exact W.pure C k fun hA hx hby hr => XS.isub hA hx rfl (hb hby hd) rfl hr
theorem W.imul {x y z : Int32} (C : Good κ R Z own mnm bytes ml ret) (hd : Ins1 bytes pc .imul 1 nx) (hz : x * y = z) (k : W κ n0 Q h cs sl nx L (.int z :: rest)) : W κ n0 Q h cs sl pc L (.int y :: .int x :: rest) := by
  obtain ⟨hd, rfl⟩ := hd
  subst hz
  exact W.pure C k fun hA hx hby hr => XS.imul hA hx rfl (hb hby hd) rfl hr
theorem W.iand {x y z : Int32} (C : Good κ R Z own mnm bytes ml ret) (hd : Ins1 bytes pc .iand 1 nx) (hz : x &&& y = z) (k : W κ n0 Q h cs sl nx L (.int z :: rest)) : W κ n0 Q h cs sl pc L (.int y :: .int x :: rest) := by
  obtain ⟨hd, rfl⟩ := hd
  subst hz
  exact W.pure C k fun hA hx hby hr => XS.iand hA hx rfl (hb hby hd) rfl hr
theorem W.ior {x y z : Int32} (C : Good κ R Z own mnm bytes ml ret) (hd : Ins1 bytes pc .ior 1 nx) (hz : x ||| y = z) (k : W κ n0 Q h cs sl nx L (.int z :: rest)) : W κ n0 Q h cs sl pc L (.int y :: .int x :: rest) := by
  obtain ⟨hd, rfl⟩ := hd
  subst hz
  exact W.pure C k fun hA hx hby hr => XS.ior hA hx rfl (hb hby hd) rfl hr
theorem W.ixor {x y z : Int32} (C : Good κ R Z own mnm bytes ml ret) (hd : Ins1 bytes pc .ixor 1 nx) (hz : x ^^^ y = z) (k : W κ n0 Q h cs sl nx L (.int z :: rest)) : W κ n0 Q h cs sl pc L (.int y :: .int x :: rest) := by
  obtain ⟨hd, rfl⟩ := hd
  subst hz
  exact W.pure C k fun hA hx hby hr => XS.ixor hA hx rfl (hb hby hd) rfl hr
theorem W.ladd {x y z : Int64} (C : Good κ R Z own mnm bytes ml ret) (hd : Ins1 bytes pc .ladd 1 nx) (hz : x + y = z) (k : W κ n0 Q h cs sl nx L (.long z :: rest)) : W κ n0 Q h cs sl pc L (.long y :: .long x :: rest) := by
  obtain ⟨hd, rfl⟩ := hd
  subst hz
  exact W.pure C k fun hA hx hby hr => XS.ladd hA hx rfl (hb hby hd) rfl hr
theorem W.lsub {x y z : Int64} (C : Good κ R Z own mnm bytes ml ret) (hd : Ins1 bytes pc .lsub 1 nx) (hz : x - y = z) (k : W κ n0 Q h cs sl nx L (.long z :: rest)) : W κ n0 Q h cs sl pc L (.long y :: .long x :: rest) := by
  obtain ⟨hd, rfl⟩ := hd
  subst hz
  exact W.pure C k fun hA hx hby hr => XS.lsub hA hx rfl (hb hby hd) rfl hr
theorem W.lmul {x y z : Int64} (C : Good κ R Z own mnm bytes ml ret) (hd : Ins1 bytes pc .lmul 1 nx) (hz : x * y = z) (k : W κ n0 Q h cs sl nx L (.long z :: rest)) : W κ n0 Q h cs sl pc L (.long y :: .long x :: rest) := by
  obtain ⟨hd, rfl⟩ := hd
  subst hz
  exact W.pure C k fun hA hx hby hr => XS.lmul hA hx rfl (hb hby hd) rfl hr
theorem W.land {x y z : Int64} (C : Good κ R Z own mnm bytes ml ret) (hd : Ins1 bytes pc .land 1 nx) (hz : x &&& y = z) (k : W κ n0 Q h cs sl nx L (.long z :: rest)) : W κ n0 Q h cs sl pc L (.long y :: .long x :: rest) := by
  obtain ⟨hd, rfl⟩ := hd
  subst hz
  exact W.pure C k fun hA hx hby hr => XS.land hA hx rfl (hb hby hd) rfl hr
theorem W.lor {x y z : Int64} (C : Good κ R Z own mnm bytes ml ret) (hd : Ins1 bytes pc .lor 1 nx) (hz : x ||| y = z) (k : W κ n0 Q h cs sl nx L (.long z :: rest)) : W κ n0 Q h cs sl pc L (.long y :: .long x :: rest) := by
  obtain ⟨hd, rfl⟩ := hd
  subst hz
  exact W.pure C k fun hA hx hby hr => XS.lor hA hx rfl (hb hby hd) rfl hr
theorem W.lxor {x y z : Int64} (C : Good κ R Z own mnm bytes ml ret) (hd : Ins1 bytes pc .lxor 1 nx) (hz : x ^^^ y = z) (k : W κ n0 Q h cs sl nx L (.long z :: rest)) : W κ n0 Q h cs sl pc L (.long y :: .long x :: rest) := by
  obtain ⟨hd, rfl⟩ := hd
  subst hz
  exact W.pure C k fun hA hx hby hr => XS.lxor hA hx rfl (hb hby hd) rfl hr
theorem W.idiv {x y z : Int32} (C : Good κ R Z own mnm bytes ml ret) (hd : Ins1 bytes pc .idiv 1 nx) (hy : y ≠ 0) (hz : x / y = z) (k : W κ n0 Q h cs sl nx L (.int z :: rest)) : W κ n0 Q h cs sl pc L (.int y :: .int x :: rest) := by
  obtain ⟨hd, rfl⟩ := hd
  subst hz
  exact W.pure C k fun hA hx hby hr => XS.idiv hA hx rfl (hb hby hd) rfl hy hr
theorem W.irem {x y z : Int32} (C : Good κ R Z own mnm bytes ml ret) (hd : Ins1 bytes pc .irem 1 nx) (hy : y ≠ 0) (hz : x % y = z) (k : W κ n0 Q h cs sl nx L (.int z :: rest)) : W κ n0 Q h cs sl pc L (.int y :: .int x :: rest) := by
  obtain ⟨hd, rfl⟩ := hd
  subst hz
  exact W.pure C k fun hA hx hby hr => XS.irem hA hx rfl (hb hby hd) rfl hy (by rw [irem_eq_mod]; exact hr)
theorem W.ldiv {x y z : Int64} (C : Good κ R Z own mnm bytes ml ret) (hd : Ins1 bytes pc .ldiv 1 nx) (hy : y ≠ 0) (hz : x / y = z) (k : W κ n0 Q h cs sl nx L (.long z :: rest)) : W κ n0 Q h cs sl pc L (.long y :: .long x :: rest) := by
  obtain ⟨hd, rfl⟩ := hd
  subst hz
  exact W.pure C k fun hA hx hby hr => XS.ldiv hA hx rfl (hb hby hd) rfl hy hr
theorem W.lrem {x y z : Int64} (C : Good κ R Z own mnm bytes ml ret) (hd : Ins1 bytes pc .lrem 1 nx) (hy : y ≠ 0) (hz : x - (x / y) * y = z) (k : W κ n0 Q h cs sl nx L (.long z :: rest)) : W κ n0 Q h cs sl pc L (.long y :: .long x :: rest) := by
  obtain ⟨hd, rfl⟩ := hd
  subst hz
  exact W.pure C k fun hA hx hby hr => XS.lrem hA hx rfl (hb hby hd) rfl hy hr
theorem W.ishl {x y z : Int32} (C : Good κ R Z own mnm bytes ml ret) (hd : Ins1 bytes pc .ishl 1 nx) (hz : x <<< (y &&& 31) = z) (k : W κ n0 Q h cs sl nx L (.int z :: rest)) : W κ n0 Q h cs sl pc L (.int y :: .int x :: rest) := by
  obtain ⟨hd, rfl⟩ := hd
  subst hz
  exact W.pure C k fun hA hx hby hr => XS.ishl hA hx rfl (hb hby hd) rfl hr
theorem W.ishr {x y z : Int32} (C : Good κ R Z own mnm bytes ml ret) (hd : Ins1 bytes pc .ishr 1 nx) (hz : x >>> (y &&& 31) = z) (k : W κ n0 Q h cs sl nx L (.int z :: rest)) : W κ n0 Q h cs sl pc L (.int y :: .int x :: rest) := by
  obtain ⟨hd, rfl⟩ := hd
  subst hz
  exact W.pure C k fun hA hx hby hr => XS.ishr hA hx rfl (hb hby hd) rfl hr
theorem W.iushr {x y z : Int32} (C : Good κ R Z own mnm bytes ml ret) (hd : Ins1 bytes pc .iushr 1 nx) (hz : (x.toUInt32 >>> (y &&& 31).toUInt32).toInt32 = z) (k : W κ n0 Q h cs sl nx L (.int z :: rest)) : W κ n0 Q h cs sl pc L (.int y :: .int x :: rest) := by
  obtain ⟨hd, rfl⟩ := hd
  subst hz
  exact W.pure C k fun hA hx hby hr => XS.iushr hA hx rfl (hb hby hd) rfl hr
theorem W.lshl {x z : Int64} {y : Int32} (C : Good κ R Z own mnm bytes ml ret) (hd : Ins1 bytes pc .lshl 1 nx) (hz : x <<< (y &&& 0x3f).toInt64 = z) (k : W κ n0 Q h cs sl nx L (.long z :: rest)) : W κ n0 Q h cs sl pc L (.int y :: .long x :: rest) := by
  obtain ⟨hd, rfl⟩ := hd
  subst hz
  exact W.pure C k fun hA hx hby hr => XS.lshl hA hx rfl (hb hby hd) rfl hr
theorem W.lshr {x z : Int64} {y : Int32} (C : Good κ R Z own mnm bytes ml ret) (hd : Ins1 bytes pc .lshr 1 nx) (hz : x >>> (y &&& 0x3f).toInt64 = z) (k : W κ n0 Q h cs sl nx L (.long z :: rest)) : W κ n0 Q h cs sl pc L (.int y :: .long x :: rest) := by
  obtain ⟨hd, rfl⟩ := hd
  subst hz
  exact W.pure C k fun hA hx hby hr => XS.lshr hA hx rfl (hb hby hd) rfl hr
theorem W.lushr {x z : Int64} {y : Int32} (C : Good κ R Z own mnm bytes ml ret) (hd : Ins1 bytes pc .lushr 1 nx) (hz : (x.toUInt64 >>> (y &&& 0x3f).toInt64.toUInt64).toInt64 = z) (k : W κ n0 Q h cs sl nx L (.long z :: rest)) : W κ n0 Q h cs sl pc L (.int y :: .long x :: rest) := by
  obtain ⟨hd, rfl⟩ := hd
  subst hz
  exact W.pure C k fun hA hx hby hr => XS.lushr hA hx rfl (hb hby hd) rfl hr
theorem W.ineg {x : Int32} {z : Int32} (C : Good κ R Z own mnm bytes ml ret) (hd : Ins1 bytes pc .ineg 1 nx) (hz : -x = z) (k : W κ n0 Q h cs sl nx L (.int z :: rest)) : W κ n0 Q h cs sl pc L (.int x :: rest) := by
  obtain ⟨hd, rfl⟩ := hd
  subst hz
  exact W.pure C k fun hA hx hby hr => XS.ineg hA hx rfl (hb hby hd) rfl hr
theorem W.lneg {x : Int64} {z : Int64} (C : Good κ R Z own mnm bytes ml ret) (hd : Ins1 bytes pc .lneg 1 nx) (hz : -x = z) (k : W κ n0 Q h cs sl nx L (.long z :: rest)) : W κ n0 Q h cs sl pc L (.long x :: rest) := by
  obtain ⟨hd, rfl⟩ := hd
  subst hz
  exact W.pure C k fun hA hx hby hr => XS.lneg hA hx rfl (hb hby hd) rfl hr
theorem W.i2l {x : Int32} {z : Int64} (C : Good κ R Z own mnm bytes ml ret) (hd : Ins1 bytes pc .i2l 1 nx) (hz : x.toInt64 = z) (k : W κ n0 Q h cs sl nx L (.long z :: rest)) : W κ n0 Q h cs sl pc L (.int x :: rest) := by
  obtain ⟨hd, rfl⟩ := hd
  subst hz
  exact W.pure C k fun hA hx hby hr => XS.i2l hA hx rfl (hb hby hd) rfl hr
theorem W.l2i {x : Int64} {z : Int32} (C : Good κ R Z own mnm bytes ml ret) (hd : Ins1 bytes pc .l2i 1 nx) (hz : x.toInt32 = z) (k : W κ n0 Q h cs sl nx L (.int z :: rest)) : W κ n0 Q h cs sl pc L (.long x :: rest) := by
  obtain ⟨hd, rfl⟩ := hd
  subst hz
  exact W.pure C k fun hA hx hby hr => XS.l2i hA hx rfl (hb hby hd) rfl hr
theorem W.i2b {x : Int32} {z : Int32} (C : Good κ R Z own mnm bytes ml ret) (hd : Ins1 bytes pc .i2b 1 nx) (hz : x.toInt8.toInt32 = z) (k : W κ n0 Q h cs sl nx L (.int z :: rest)) : W κ n0 Q h cs sl pc L (.int x :: rest) := by
  obtain ⟨hd, rfl⟩ := hd
  subst hz
  exact W.pure C k fun hA hx hby hr => XS.i2b hA hx rfl (hb hby hd) rfl hr
theorem W.i2s {x : Int32} {z : Int32} (C : Good κ R Z own mnm bytes ml ret) (hd : Ins1 bytes pc .i2s 1 nx) (hz : x.toInt16.toInt32 = z) (k : W κ n0 Q h cs sl nx L (.int z :: rest)) : W κ n0 Q h cs sl pc L (.int x :: rest) := by
  obtain ⟨hd, rfl⟩ := hd
  subst hz
  exact W.pure C k fun hA hx hby hr => XS.i2s hA hx rfl (hb hby hd) rfl hr
theorem W.i2c {x : Int32} {z : Int32} (C : Good κ R Z own mnm bytes ml ret) (hd : Ins1 bytes pc .i2c 1 nx) (hz : x.toUInt32.toUInt16.toUInt32.toInt32 = z) (k : W κ n0 Q h cs sl nx L (.int z :: rest)) : W κ n0 Q h cs sl pc L (.int x :: rest) := by
  obtain ⟨hd, rfl⟩ := hd
  subst hz
  exact W.pure C k fun hA hx hby hr => XS.i2c hA hx rfl (hb hby hd) rfl hr
theorem W.iconst {i : Int} {z : Int32} (C : Good κ R Z own mnm bytes ml ret) (hd : Ins1 bytes pc (.iconst i) 1 nx) (hz : Int32.ofInt i = z) (k : W κ n0 Q h cs sl nx L (.int z :: st)) : W κ n0 Q h cs sl pc L st := by
  obtain ⟨hd, rfl⟩ := hd
  subst hz
  exact W.pure C k fun hA hx hby hr => XS.iconst hA hx rfl (hb hby hd) hr
theorem W.bipush {i : Int} {z : Int32} (C : Good κ R Z own mnm bytes ml ret) (hd : Ins1 bytes pc (.bipush i) 2 nx) (hz : (Int8.ofInt i).toInt32 = z) (k : W κ n0 Q h cs sl nx L (.int z :: st)) : W κ n0 Q h cs sl pc L st := by
  obtain ⟨hd, rfl⟩ := hd
  subst hz
  exact W.pure C k fun hA hx hby hr => XS.bipush hA hx rfl (hb hby hd) hr
theorem W.sipush {i : Int} {z : Int32} (C : Good κ R Z own mnm bytes ml ret) (hd : Ins1 bytes pc (.sipush i) 3 nx) (hz : (Int16.ofInt i).toInt32 = z) (k : W κ n0 Q h cs sl nx L (.int z :: st)) : W κ n0 Q h cs sl pc L st := by
  obtain ⟨hd, rfl⟩ := hd
  subst hz
  exact W.pure C k fun hA hx hby hr => XS.sipush hA hx rfl (hb hby hd) hr
theorem W.lconst {i : Fin 2} {z : Int64} (C : Good κ R Z own mnm bytes ml ret) (hd : Ins1 bytes pc (.lconst i) 1 nx) (hz : Int64.ofNat i = z) (k : W κ n0 Q h cs sl nx L (.long z :: st)) : W κ n0 Q h cs sl pc L st := by
  obtain ⟨hd, rfl⟩ := hd
  subst hz
  exact W.pure C k fun hA hx hby hr => XS.lconst hA hx rfl (hb hby hd) hr
theorem W.aconst_null (C : Good κ R Z own mnm bytes ml ret) (hd : Ins1 bytes pc .aconst_null 1 nx) (k : W κ n0 Q h cs sl nx L (.null :: st)) : W κ n0 Q h cs sl pc L st := by
  obtain ⟨hd, rfl⟩ := hd
  exact W.pure C k fun hA hx hby hr => XS.aconstNull hA hx rfl (hb hby hd) hr
theorem W.iload {i : Nat} {v : Int32} (C : Good κ R Z own mnm bytes ml ret) (hd : Ins1 bytes pc (.iload i) 2 nx) (hl : L[i]? = some (.val (.int v))) (k : W κ n0 Q h cs sl nx L ((.int v) :: st)) : W κ n0 Q h cs sl pc L st := by
  obtain ⟨hd, rfl⟩ := hd
  exact W.pure C k fun hA hx hby hr => XS.iload hA hx rfl (hb hby hd) (by simpa using hl) hr
theorem W.iloadN {i : Fin 4} {v : Int32} (C : Good κ R Z own mnm bytes ml ret) (hd : Ins1 bytes pc (.iload_n i) 1 nx) (hl : L[i.val]? = some (.val (.int v))) (k : W κ n0 Q h cs sl nx L ((.int v) :: st)) : W κ n0 Q h cs sl pc L st := by
  obtain ⟨hd, rfl⟩ := hd
  exact W.pure C k fun hA hx hby hr => XS.iloadN hA hx rfl (hb hby hd) (by simpa using hl) hr
theorem W.lload {i : Nat} {v : Int64} (C : Good κ R Z own mnm bytes ml ret) (hd : Ins1 bytes pc (.lload i) 2 nx) (hl : L[i]? = some (.val (.long v))) (k : W κ n0 Q h cs sl nx L ((.long v) :: st)) : W κ n0 Q h cs sl pc L st := by
  obtain ⟨hd, rfl⟩ := hd
  exact W.pure C k fun hA hx hby hr => XS.lload hA hx rfl (hb hby hd) (by simpa using hl) hr
theorem W.lloadN {i : Fin 4} {v : Int64} (C : Good κ R Z own mnm bytes ml ret) (hd : Ins1 bytes pc (.lload_n i) 1 nx) (hl : L[i.val]? = some (.val (.long v))) (k : W κ n0 Q h cs sl nx L ((.long v) :: st)) : W κ n0 Q h cs sl pc L st := by
  obtain ⟨hd, rfl⟩ := hd
  exact W.pure C k fun hA hx hby hr => XS.lloadN hA hx rfl (hb hby hd) (by simpa using hl) hr
theorem W.aload {i : Nat} {v : Value} (C : Good κ R Z own mnm bytes ml ret) (hd : Ins1 bytes pc (.aload i) 2 nx) (hl : L[i]? = some (.val (v))) (hv : v.isRef = true) (k : W κ n0 Q h cs sl nx L ((v) :: st)) : W κ n0 Q h cs sl pc L st := by
  obtain ⟨hd, rfl⟩ := hd
  exact W.pure C k fun hA hx hby hr => XS.aload hA hx rfl (hb hby hd) (by simpa using hl) hv hr
theorem W.aloadN {i : Fin 4} {v : Value} (C : Good κ R Z own mnm bytes ml ret) (hd : Ins1 bytes pc (.aload_n i) 1 nx) (hl : L[i.val]? = some (.val (v))) (hv : v.isRef = true) (k : W κ n0 Q h cs sl nx L ((v) :: st)) : W κ n0 Q h cs sl pc L st := by
  obtain ⟨hd, rfl⟩ := hd
  exact W.pure C k fun hA hx hby hr => XS.aloadN hA hx rfl (hb hby hd) (by simpa using hl) hv hr
theorem W.istore {i : Nat} {L' : List Slot} {v : Int32} (C : Good κ R Z own mnm bytes ml ret) (hd : Ins1 bytes pc (.istore i) 2 nx) (hl : storeLocals L.toArray i (.int v) = some L'.toArray) (k : W κ n0 Q h cs sl nx L' rest) : W κ n0 Q h cs sl pc L ((.int v) :: rest) := by
  obtain ⟨hd, rfl⟩ := hd
  exact W.pure C k fun hA hx hby hr => XS.istore hA hx rfl (hb hby hd) rfl hl hr
theorem W.istoreN {i : Fin 4} {L' : List Slot} {v : Int32} (C : Good κ R Z own mnm bytes ml ret) (hd : Ins1 bytes pc (.istore_n i) 1 nx) (hl : storeLocals L.toArray i.val (.int v) = some L'.toArray) (k : W κ n0 Q h cs sl nx L' rest) : W κ n0 Q h cs sl pc L ((.int v) :: rest) := by
  obtain ⟨hd, rfl⟩ := hd
  exact W.pure C k fun hA hx hby hr => XS.istoreN hA hx rfl (hb hby hd) rfl hl hr
theorem W.lstore {i : Nat} {L' : List Slot} {v : Int64} (C : Good κ R Z own mnm bytes ml ret) (hd : Ins1 bytes pc (.lstore i) 2 nx) (hl : storeLocals L.toArray i (.long v) = some L'.toArray) (k : W κ n0 Q h cs sl nx L' rest) : W κ n0 Q h cs sl pc L ((.long v) :: rest) := by
  obtain ⟨hd, rfl⟩ := hd
  exact W.pure C k fun hA hx hby hr => XS.lstore hA hx rfl (hb hby hd) rfl hl hr
theorem W.lstoreN {i : Fin 4} {L' : List Slot} {v : Int64} (C : Good κ R Z own mnm bytes ml ret) (hd : Ins1 bytes pc (.lstore_n i) 1 nx) (hl : storeLocals L.toArray i.val (.long v) = some L'.toArray) (k : W κ n0 Q h cs sl nx L' rest) : W κ n0 Q h cs sl pc L ((.long v) :: rest) := by
  obtain ⟨hd, rfl⟩ := hd
  exact W.pure C k fun hA hx hby hr => XS.lstoreN hA hx rfl (hb hby hd) rfl hl hr
theorem W.astore {i : Nat} {L' : List Slot} {v : Value} (C : Good κ R Z own mnm bytes ml ret) (hd : Ins1 bytes pc (.astore i) 2 nx) (hl : storeLocals L.toArray i (v) = some L'.toArray) (hv : v.isRef = true) (k : W κ n0 Q h cs sl nx L' rest) : W κ n0 Q h cs sl pc L ((v) :: rest) := by
  obtain ⟨hd, rfl⟩ := hd
  exact W.pure C k fun hA hx hby hr => XS.astore hA hx rfl (hb hby hd) rfl hv hl hr
theorem W.astoreN {i : Fin 4} {L' : List Slot} {v : Value} (C : Good κ R Z own mnm bytes ml ret) (hd : Ins1 bytes pc (.astore_n i) 1 nx) (hl : storeLocals L.toArray i.val (v) = some L'.toArray) (hv : v.isRef = true) (k : W κ n0 Q h cs sl nx L' rest) : W κ n0 Q h cs sl pc L ((v) :: rest) := by
  obtain ⟨hd, rfl⟩ := hd
  exact W.pure C k fun hA hx hby hr => XS.astoreN hA hx rfl (hb hby hd) rfl hv hl hr
theorem W.iinc {i : Nat} {d : Int} {v z : Int32} {L' : List Slot} (C : Good κ R Z own mnm bytes ml ret) (hd : Ins1 bytes pc (.iinc i d) 3 nx) (hl : L[i]? = some (.val (.int v))) (hz : v + Int32.ofInt d = z) (hl' : storeLocals L.toArray i (.int z) = some L'.toArray) (k : W κ n0 Q h cs sl nx L' st) : W κ n0 Q h cs sl pc L st := by
  obtain ⟨hd, rfl⟩ := hd
  subst hz
  exact W.pure C k fun hA hx hby hr => XS.iinc hA hx rfl (hb hby hd) (by simpa using hl) hl' hr
theorem W.dup {x : Value} (C : Good κ R Z own mnm bytes ml ret) (hd : Ins1 bytes pc .dup 1 nx) (hc : x.category = 1) (k : W κ n0 Q h cs sl nx L (x :: x :: rest)) : W κ n0 Q h cs sl pc L (x :: rest) := by
  obtain ⟨hd, rfl⟩ := hd
  exact W.pure C k fun hA hx hby hr => XS.dup hA hx rfl (hb hby hd) rfl hc hr
theorem W.pop {x : Value} (C : Good κ R Z own mnm bytes ml ret) (hd : Ins1 bytes pc .pop 1 nx) (hc : x.category = 1) (k : W κ n0 Q h cs sl nx L rest) : W κ n0 Q h cs sl pc L (x :: rest) := by
  obtain ⟨hd, rfl⟩ := hd
  exact W.pure C k fun hA hx hby hr => XS.pop hA hx rfl (hb hby hd) rfl hc hr
theorem W.dup_x1 {x y : Value} (C : Good κ R Z own mnm bytes ml ret) (hd : Ins1 bytes pc .dup_x1 1 nx) (hc : x.category = 1) (hc' : y.category = 1) (k : W κ n0 Q h cs sl nx L (x :: y :: x :: rest)) : W κ n0 Q h cs sl pc L (x :: y :: rest) := by
  obtain ⟨hd, rfl⟩ := hd
  exact W.pure C k fun hA hx hby hr => XS.dupX1 hA hx rfl (hb hby hd) rfl hc hc' hr
theorem W.dup2 {x y : Value} (C : Good κ R Z own mnm bytes ml ret) (hd : Ins1 bytes pc .dup2 1 nx) (hc : x.category = 1) (hc' : y.category = 1) (k : W κ n0 Q h cs sl nx L (x :: y :: x :: y :: rest)) : W κ n0 Q h cs sl pc L (x :: y :: rest) := by
  obtain ⟨hd, rfl⟩ := hd
  exact W.pure C k fun hA hx hby hr => XT.dup2 hA hx rfl (hb hby hd) rfl hc hc' hr
theorem W.dup2L {x : Int64} (C : Good κ R Z own mnm bytes ml ret) (hd : Ins1 bytes pc .dup2 1 nx) (k : W κ n0 Q h cs sl nx L (.long x :: .long x :: rest)) : W κ n0 Q h cs sl pc L (.long x :: rest) := by
  obtain ⟨hd, rfl⟩ := hd
  exact W.pure C k fun hA hx hby hr => XT.dup2L hA hx rfl (hb hby hd) rfl hr
theorem W.dup_x2 {x y z : Value} (C : Good κ R Z own mnm bytes ml ret) (hd : Ins1 bytes pc .dup_x2 1 nx) (hc : x.category = 1) (hc' : y.category = 1) (hc2 : z.category = 1) (k : W κ n0 Q h cs sl nx L (x :: y :: z :: x :: rest)) : W κ n0 Q h cs sl pc L (x :: y :: z :: rest) := by
  obtain ⟨hd, rfl⟩ := hd
  refine W.pure C k fun {p e below T target m c} hA hx hby hr => ?_
  have hd' := hb hby hd
  jvm_step hA [hA.top, hx, hd', hc, hc', hc2]
  exact hr
theorem W.goto {o : Int} (C : Good κ R Z own mnm bytes ml ret) (hd : Jmp1 bytes pc (.goto o) o nx tg) (k : W κ n0 Q h cs sl tg L st) : W κ n0 Q h cs sl pc L st := by
  obtain ⟨hd, rfl, h1, h2⟩ := hd
  exact W.pure C k fun hA hx hby hr => XS.goto hA hx rfl rfl (hb hby hd) h1 h2 hr
theorem W.icmpY {o : Int} {cd : ClassFile.Cond} {x y : Int32} (C : Good κ R Z own mnm bytes ml ret) (hd : Jmp1 bytes pc (.if_icmp cd o) o nx tg) (hc : cmpP cd x y) (k : W κ n0 Q h cs sl tg L rest) : W κ n0 Q h cs sl pc L (.int y :: .int x :: rest) := by
  obtain ⟨hd, rfl, h1, h2⟩ := hd
  exact W.pure C k fun hA hx hby hr => XS.icmpYes hA hx rfl rfl (hb hby hd) rfl ((cmpP_iff _ _ _).mpr hc) h1 h2 hr
theorem W.icmpN {o : Int} {cd : ClassFile.Cond} {x y : Int32} (C : Good κ R Z own mnm bytes ml ret) (hd : Jmp1 bytes pc (.if_icmp cd o) o nx tg) (hc : ¬ cmpP cd x y) (k : W κ n0 Q h cs sl nx L rest) : W κ n0 Q h cs sl pc L (.int y :: .int x :: rest) := by
  obtain ⟨hd, rfl, h1, h2⟩ := hd
  exact W.pure C k fun hA hx hby hr => XS.icmpNo hA hx rfl (hb hby hd) rfl (cmpP_no hc) hr
theorem W.icmp {o : Int} {cd : ClassFile.Cond} {x y : Int32} (C : Good κ R Z own mnm bytes ml ret) (hd : Jmp1 bytes pc (.if_icmp cd o) o nx tg) (ky : cmpP cd x y → W κ n0 Q h cs sl tg L rest) (kn : ¬ cmpP cd x y → W κ n0 Q h cs sl nx L rest) : W κ n0 Q h cs sl pc L (.int y :: .int x :: rest) := by
  by_cases hc : cmpP cd x y
  · exact W.icmpY C hd hc (ky hc)
  · exact W.icmpN C hd hc (kn hc)
theorem W.ifY {o : Int} {cd : ClassFile.Cond} {x : Int32} (C : Good κ R Z own mnm bytes ml ret) (hd : Jmp1 bytes pc (.ifCond cd o) o nx tg) (hc : cmp0 cd x) (k : W κ n0 Q h cs sl tg L rest) : W κ n0 Q h cs sl pc L (.int x :: rest) := by
  obtain ⟨hd, rfl, h1, h2⟩ := hd
  exact W.pure C k fun hA hx hby hr => XS.ifYes hA hx rfl rfl (hb hby hd) rfl ((if0 _ _).trans ((cmpP_iff _ _ _).mpr ((cmp0_iff _ _).mpr hc))) h1 h2 hr
theorem W.ifN {o : Int} {cd : ClassFile.Cond} {x : Int32} (C : Good κ R Z own mnm bytes ml ret) (hd : Jmp1 bytes pc (.ifCond cd o) o nx tg) (hc : ¬ cmp0 cd x) (k : W κ n0 Q h cs sl nx L rest) : W κ n0 Q h cs sl pc L (.int x :: rest) := by
  obtain ⟨hd, rfl, h1, h2⟩ := hd
  exact W.pure C k fun hA hx hby hr => XS.ifNo hA hx rfl (hb hby hd) rfl ((if0 _ _).trans (cmpP_no fun q => hc ((cmp0_iff _ _).mp q))) hr
theorem W.ifc {o : Int} {cd : ClassFile.Cond} {x : Int32} (C : Good κ R Z own mnm bytes ml ret) (hd : Jmp1 bytes pc (.ifCond cd o) o nx tg) (ky : cmp0 cd x → W κ n0 Q h cs sl tg L rest) (kn : ¬ cmp0 cd x → W κ n0 Q h cs sl nx L rest) : W κ n0 Q h cs sl pc L (.int x :: rest) := by
  by_cases hc : cmp0 cd x
  · exact W.ifY C hd hc (ky hc)
  · exact W.ifN C hd hc (kn hc)
theorem W.lcmp {x y : Int64} (C : Good κ R Z own mnm bytes ml ret) (hd : Ins1 bytes pc .lcmp 1 nx) (k : W κ n0 Q h cs sl nx L (.int (if x > y then 1 else if x = y then 0 else -1) :: rest)) : W κ n0 Q h cs sl pc L (.long y :: .long x :: rest) := by
  obtain ⟨hd, rfl⟩ := hd
  exact W.pure C k fun hA hx hby hr => XS.lcmp hA hx rfl (hb hby hd) rfl hr
theorem W.lcY {pc1 : Nat} {o : Int} {cd : ClassFile.Cond} {x y : Int64} (C : Good κ R Z own mnm bytes ml ret) (hd1 : Ins1 bytes pc .lcmp 1 pc1) (hd : Jmp1 bytes pc1 (.ifCond cd o) o nx tg) (hc : cmpL cd x y) (k : W κ n0 Q h cs sl tg L rest) : W κ n0 Q h cs sl pc L (.long y :: .long x :: rest) :=
  W.lcmp C hd1 (W.ifY C hd ((cmpL_iff _ _ _).mpr hc) k)
theorem W.lcN {pc1 : Nat} {o : Int} {cd : ClassFile.Cond} {x y : Int64} (C : Good κ R Z own mnm bytes ml ret) (hd1 : Ins1 bytes pc .lcmp 1 pc1) (hd : Jmp1 bytes pc1 (.ifCond cd o) o nx tg) (hc : ¬ cmpL cd x y) (k : W κ n0 Q h cs sl nx L rest) : W κ n0 Q h cs sl pc L (.long y :: .long x :: rest) :=
  W.lcmp C hd1 (W.ifN C hd (fun q => hc ((cmpL_iff _ _ _).mp q)) k)
theorem W.lc {pc1 : Nat} {o : Int} {cd : ClassFile.Cond} {x y : Int64} (C : Good κ R Z own mnm bytes ml ret) (hd1 : Ins1 bytes pc .lcmp 1 pc1) (hd : Jmp1 bytes pc1 (.ifCond cd o) o nx tg) (ky : cmpL cd x y → W κ n0 Q h cs sl tg L rest) (kn : ¬ cmpL cd x y → W κ n0 Q h cs sl nx L rest) : W κ n0 Q h cs sl pc L (.long y :: .long x :: rest) := by
  by_cases hc : cmpL cd x y
  · exact W.lcY C hd1 hd hc (ky hc)
  · exact W.lcN C hd1 hd hc (kn hc)
theorem W.ifnullY {o : Int} (C : Good κ R Z own mnm bytes ml ret) (hd : Jmp1 bytes pc (.ifnull o) o nx tg) (k : W κ n0 Q h cs sl tg L rest) : W κ n0 Q h cs sl pc L (.null :: rest) := by
  obtain ⟨hd, rfl, h1, h2⟩ := hd
  exact W.pure C k fun hA hx hby hr => XS.ifnullYes hA hx rfl rfl (hb hby hd) rfl h1 h2 hr
theorem W.ifnullN {o : Int} {b : Addr} (C : Good κ R Z own mnm bytes ml ret) (hd : Jmp1 bytes pc (.ifnull o) o nx tg) (k : W κ n0 Q h cs sl nx L rest) : W κ n0 Q h cs sl pc L (.ref b :: rest) := by
  obtain ⟨hd, rfl, h1, h2⟩ := hd
  exact W.pure C k fun hA hx hby hr => XS.ifnullNo hA hx rfl (hb hby hd) rfl hr
theorem W.ifnonnullY {o : Int} {b : Addr} (C : Good κ R Z own mnm bytes ml ret) (hd : Jmp1 bytes pc (.ifnonnull o) o nx tg) (k : W κ n0 Q h cs sl tg L rest) : W κ n0 Q h cs sl pc L (.ref b :: rest) := by
  obtain ⟨hd, rfl, h1, h2⟩ := hd
  exact W.pure C k fun hA hx hby hr => XS.ifnonnullYes hA hx rfl rfl (hb hby hd) rfl h1 h2 hr
theorem W.ifnonnullN {o : Int} (C : Good κ R Z own mnm bytes ml ret) (hd : Jmp1 bytes pc (.ifnonnull o) o nx tg) (k : W κ n0 Q h cs sl nx L rest) : W κ n0 Q h cs sl pc L (.null :: rest) := by
  obtain ⟨hd, rfl, h1, h2⟩ := hd
  exact W.pure C k fun hA hx hby hr => XS.ifnonnullNo hA hx rfl (hb hby hd) rfl hr
/-! ### steps that read the tables -/
theorem W.ldc {i : Nat} {v : Int32} (C : Good κ R Z own mnm bytes ml ret) (hd : Ins1 bytes pc (.ldc i) 2 nx) (w : (Jvm.Cond.constant own i v).before a0 Z = true) (k : W κ n0 Q h cs sl nx L (.int v :: st)) : W κ n0 Q h cs sl pc L st := by
  obtain ⟨hd, rfl⟩ := hd
  obtain ⟨p, l, e, R', s, m, args, below, meth, c⟩ := κ
  obtain ⟨hx, hZ, hby, hml, hown, hret, hlk, hnm, rfl⟩ := C
  intro T locs X eT N h1 h2
  obtain ⟨s₂, o, a, r⟩ := k T locs X eT N h1 h2
  exact ⟨s₂, o, X.ldcInt hx hown (mvT hZ w) (g := mkF m pc L.toArray st) rfl (hb hby hd) _ a, r⟩
theorem W.ldcw {i : Nat} {v : Int32} (C : Good κ R Z own mnm bytes ml ret) (hd : Ins1 bytes pc (.ldc_w i) 3 nx) (w : (Jvm.Cond.constant own i v).before a0 Z = true) (k : W κ n0 Q h cs sl nx L (.int v :: st)) : W κ n0 Q h cs sl pc L st := by
  obtain ⟨hd, rfl⟩ := hd
  obtain ⟨p, l, e, R', s, m, args, below, meth, c⟩ := κ
  obtain ⟨hx, hZ, hby, hml, hown, hret, hlk, hnm, rfl⟩ := C
  intro T locs X eT N h1 h2
  obtain ⟨s₂, o, a, r⟩ := k T locs X eT N h1 h2
  exact ⟨s₂, o, X.ldcwInt hx hown (mvT hZ w) (g := mkF m pc L.toArray st) rfl (hb hby hd) _ a, r⟩
theorem W.ldc2 {i : Nat} {v : Int64} (C : Good κ R Z own mnm bytes ml ret) (hd : Ins1 bytes pc (.ldc2_w i) 3 nx) (w : (Jvm.Cond.constantLong own i v).before a0 Z = true) (k : W κ n0 Q h cs sl nx L (.long v :: st)) : W κ n0 Q h cs sl pc L st := by
  obtain ⟨hd, rfl⟩ := hd
  obtain ⟨p, l, e, R', s, m, args, below, meth, c⟩ := κ
  obtain ⟨hx, hZ, hby, hml, hown, hret, hlk, hnm, rfl⟩ := C
  intro T locs X eT N h1 h2
  obtain ⟨s₂, o, a, r⟩ := k T locs X eT N h1 h2
  exact ⟨s₂, o, X.ldc2Long hx hown (mvT hZ w) (g := mkF m pc L.toArray st) rfl (hb hby hd) _ a, r⟩
/-! ### arrays -/
/-- at a lies an array of ty whose values are vs -/
def Av (Z : State) (h : Heap) (a : Addr) (ty : FieldType) (vs : List Value) : Prop := ∃ c : Cell, Arr Z h a c ty ∧ c.slots.toList = vs ∧ vs.length < 2147483648
theorem Av.lt {a : Addr} {ty : FieldType} {vs : List Value} (A : Av Z h a ty vs) : a < h.size := by obtain ⟨c, A, -⟩ := A; exact A.lt
theorem Av.ext {h' : Heap} {a : Addr} {ty : FieldType} {vs : List Value} (A : Av Z h a ty vs) (E : Ext h h') : Av Z h' a ty vs := by obtain ⟨c, A, r⟩ := A; exact ⟨c, A.ext E, r⟩
theorem Av.keep {h' : Heap} {ws : List Addr} {a : Addr} {ty : FieldType} {vs : List Value} (A : Av Z h a ty vs) (K : Keep h h' ws) (q : a ∉ ws) : Av Z h' a ty vs := by obtain ⟨c, A, r⟩ := A; exact ⟨c, ⟨K.2.1 a c A.1 q, A.2⟩, r⟩
theorem Av.other {h' : Heap} {a b : Addr} {sl : Nat} {v : Value} {ty : FieldType} {vs : List Value} (A : Av Z h b ty vs) (W : Wr h h' a sl v) (q : b ≠ a) : Av Z h' b ty vs := by obtain ⟨c, A, r⟩ := A; exact ⟨c, A.other W q, r⟩
theorem Av.set {h' : Heap} {a : Addr} {i : Nat} {v : Value} {ty : FieldType} {vs : List Value} (A : Av Z h a ty vs) (W : Wr h h' a i v) : Av Z h' a ty (vs.set i v) := by
  obtain ⟨c, A, rfl, r⟩ := A
  exact ⟨_, A.same W, by simp [Cell.setSlot], by simpa using r⟩
theorem Av.ne_exa {a b : Addr} {C' : String} {kk : Nat} {ty : FieldType} {vs : List Value} (A : Av Z h a ty vs) (E : Exa Z h b C') (wi : (Jvm.Cond.instantiable C' kk).before a0 Z = true) : a ≠ b := by obtain ⟨c, A, -⟩ := A; exact (ne_arr E wi A).symm
theorem clampNat {j : Int32} {i : Nat} (hj : j.toInt = i) : j.toNatClampNeg = i := by
  have e : j.toNatClampNeg = j.toInt.toNat := rfl
  omega
theorem inB {c : Cell} {vs : List Value} {j : Int32} {i : Nat} (e : c.slots.toList = vs) (hj : j.toInt = i) (hi : i < vs.length) : ¬ (j < 0 ∨ c.slots.size ≤ j.toNatClampNeg) := by
  have e1 := clampNat hj
  have e2 : c.slots.size = vs.length := by rw [← e]; simp
  rw [e1, e2, Int32.lt_iff_toInt_lt, hj, Int32.toInt_zero]
  omega
theorem inV {c : Cell} {vs : List Value} {j : Int32} {i : Nat} {v : Value} (e : c.slots.toList = vs) (hj : j.toInt = i) (hv : vs[i]? = some v) : c.slots[j.toNatClampNeg]? = some v := by
  rw [clampNat hj, ← hv, ← e]; simp
theorem ltOf {vs : List Value} {i : Nat} {v : Value} (hv : vs[i]? = some v) : i < vs.length := (List.getElem?_eq_some_iff.mp hv).1

theorem W.iaload {a : Addr} {vs : List Value} {j : Int32} {i : Nat} {v : Int32} (C : Good κ R Z own mnm bytes ml ret) (hd : Ins1 bytes pc .iaload 1 nx) (A : Av Z h a .int vs) (hj : j.toInt = i) (hv : vs[i]? = some (.int v)) (k : W κ n0 Q h cs sl nx L ((.int v) :: rest)) : W κ n0 Q h cs sl pc L (.int j :: .ref a :: rest) := by
  obtain ⟨hd, rfl⟩ := hd
  obtain ⟨p, l, e, R', s, m, args, below, meth, c⟩ := κ
  obtain ⟨hx, hZ, hby, hml, hown, hret, hlk, hnm, rfl⟩ := C
  intro T locs X eT N h1 h2
  obtain ⟨s₂, o, b, r⟩ := k T locs X eT N h1 h2
  obtain ⟨cl, Ar, q1, q2⟩ := A
  exact ⟨s₂, o, X.iaload hx (j := j) (by rw [eT]; exact Ar.1) (State.isArrayOf_alike hZ.alike Ar.2.1) Ar.2.2 (inB q1 hj (ltOf hv)) (inV q1 hj hv) (g := mkF m pc L.toArray (.int j :: .ref a :: rest)) rfl rfl (hb hby hd) _ b, r⟩
theorem W.baload {a : Addr} {vs : List Value} {j : Int32} {i : Nat} {v : Int32} (C : Good κ R Z own mnm bytes ml ret) (hd : Ins1 bytes pc .baload 1 nx) (A : Av Z h a .byte vs) (hj : j.toInt = i) (hv : vs[i]? = some (.int v)) (k : W κ n0 Q h cs sl nx L ((.int v) :: rest)) : W κ n0 Q h cs sl pc L (.int j :: .ref a :: rest) := by
  obtain ⟨hd, rfl⟩ := hd
  obtain ⟨p, l, e, R', s, m, args, below, meth, c⟩ := κ
  obtain ⟨hx, hZ, hby, hml, hown, hret, hlk, hnm, rfl⟩ := C
  intro T locs X eT N h1 h2
  obtain ⟨s₂, o, b, r⟩ := k T locs X eT N h1 h2
  obtain ⟨cl, Ar, q1, q2⟩ := A
  exact ⟨s₂, o, X.baloadBytes hx (j := j) (by rw [eT]; exact Ar.1) (State.isArrayOf_alike hZ.alike Ar.2.1) Ar.2.2 (inB q1 hj (ltOf hv)) (inV q1 hj hv) (g := mkF m pc L.toArray (.int j :: .ref a :: rest)) rfl rfl (hb hby hd) _ b, r⟩
theorem W.zaload {a : Addr} {vs : List Value} {j : Int32} {i : Nat} {v : Int32} (C : Good κ R Z own mnm bytes ml ret) (hd : Ins1 bytes pc .baload 1 nx) (A : Av Z h a .boolean vs) (hj : j.toInt = i) (hv : vs[i]? = some (.int v)) (k : W κ n0 Q h cs sl nx L ((.int v) :: rest)) : W κ n0 Q h cs sl pc L (.int j :: .ref a :: rest) := by
  obtain ⟨hd, rfl⟩ := hd
  obtain ⟨p, l, e, R', s, m, args, below, meth, c⟩ := κ
  obtain ⟨hx, hZ, hby, hml, hown, hret, hlk, hnm, rfl⟩ := C
  intro T locs X eT N h1 h2
  obtain ⟨s₂, o, b, r⟩ := k T locs X eT N h1 h2
  obtain ⟨cl, Ar, q1, q2⟩ := A
  exact ⟨s₂, o, X.baloadBooleans hx (j := j) (by rw [eT]; exact Ar.1) (State.isArrayOf_alike hZ.alike Ar.2.1) Ar.2.2 (inB q1 hj (ltOf hv)) (inV q1 hj hv) (g := mkF m pc L.toArray (.int j :: .ref a :: rest)) rfl rfl (hb hby hd) _ b, r⟩
theorem W.laload {a : Addr} {vs : List Value} {j : Int32} {i : Nat} {v : Int64} (C : Good κ R Z own mnm bytes ml ret) (hd : Ins1 bytes pc .laload 1 nx) (A : Av Z h a .long vs) (hj : j.toInt = i) (hv : vs[i]? = some (.long v)) (k : W κ n0 Q h cs sl nx L ((.long v) :: rest)) : W κ n0 Q h cs sl pc L (.int j :: .ref a :: rest) := by
  obtain ⟨hd, rfl⟩ := hd
  obtain ⟨p, l, e, R', s, m, args, below, meth, c⟩ := κ
  obtain ⟨hx, hZ, hby, hml, hown, hret, hlk, hnm, rfl⟩ := C
  intro T locs X eT N h1 h2
  obtain ⟨s₂, o, b, r⟩ := k T locs X eT N h1 h2
  obtain ⟨cl, Ar, q1, q2⟩ := A
  exact ⟨s₂, o, X.laload hx (j := j) (by rw [eT]; exact Ar.1) (State.isArrayOf_alike hZ.alike Ar.2.1) Ar.2.2 (inB q1 hj (ltOf hv)) (inV q1 hj hv) (g := mkF m pc L.toArray (.int j :: .ref a :: rest)) rfl rfl (hb hby hd) _ b, r⟩
theorem W.caload {a : Addr} {vs : List Value} {j : Int32} {i : Nat} {v : Int32} (C : Good κ R Z own mnm bytes ml ret) (hd : Ins1 bytes pc .caload 1 nx) (A : Av Z h a .char vs) (hj : j.toInt = i) (hv : vs[i]? = some (.int v)) (k : W κ n0 Q h cs sl nx L ((.int v) :: rest)) : W κ n0 Q h cs sl pc L (.int j :: .ref a :: rest) := by
  obtain ⟨hd, rfl⟩ := hd
  obtain ⟨p, l, e, R', s, m, args, below, meth, c⟩ := κ
  obtain ⟨hx, hZ, hby, hml, hown, hret, hlk, hnm, rfl⟩ := C
  intro T locs X eT N h1 h2
  obtain ⟨s₂, o, b, r⟩ := k T locs X eT N h1 h2
  obtain ⟨cl, Ar, q1, q2⟩ := A
  exact ⟨s₂, o, X.caload hx (j := j) (by rw [eT]; exact Ar.1) (State.isArrayOf_alike hZ.alike Ar.2.1) Ar.2.2 (inB q1 hj (ltOf hv)) (inV q1 hj hv) (g := mkF m pc L.toArray (.int j :: .ref a :: rest)) rfl rfl (hb hby hd) _ b, r⟩
theorem W.aaload {a : Addr} {ty : FieldType} {vs : List Value} {j : Int32} {i : Nat} {v : Value} (C : Good κ R Z own mnm bytes ml ret) (hd : Ins1 bytes pc .aaload 1 nx) (A : Av Z h a ty vs) (hty : ty.isReference = true) (hj : j.toInt = i) (hv : vs[i]? = some v) (k : W κ n0 Q h cs sl nx L (v :: rest)) : W κ n0 Q h cs sl pc L (.int j :: .ref a :: rest) := by
  obtain ⟨hd, rfl⟩ := hd
  obtain ⟨p, l, e, R', s, m, args, below, meth, c⟩ := κ
  obtain ⟨hx, hZ, hby, hml, hown, hret, hlk, hnm, rfl⟩ := C
  intro T locs X eT N h1 h2
  obtain ⟨s₂, o, b, r⟩ := k T locs X eT N h1 h2
  obtain ⟨cl, Ar, q1, q2⟩ := A
  exact ⟨s₂, o, X.aaload hx (j := j) (by rw [eT]; exact Ar.1) (State.isArrayOf_alike hZ.alike Ar.2.1) hty Ar.2.2 (inB q1 hj (ltOf hv)) (inV q1 hj hv) (g := mkF m pc L.toArray (.int j :: .ref a :: rest)) rfl rfl (hb hby hd) _ b, r⟩
theorem W.arraylength {a : Addr} {ty : FieldType} {vs : List Value} {z : Int32} (C : Good κ R Z own mnm bytes ml ret) (hd : Ins1 bytes pc .arraylength 1 nx) (A : Av Z h a ty vs) (hz : z.toInt = vs.length) (k : W κ n0 Q h cs sl nx L (.int z :: rest)) : W κ n0 Q h cs sl pc L (.ref a :: rest) := by
  obtain ⟨hd, rfl⟩ := hd
  obtain ⟨p, l, e, R', s, m, args, below, meth, c⟩ := κ
  obtain ⟨hx, hZ, hby, hml, hown, hret, hlk, hnm, rfl⟩ := C
  intro T locs X eT N h1 h2
  obtain ⟨s₂, o, b, r⟩ := k T locs X eT N h1 h2
  obtain ⟨cl, Ar, q1, q2⟩ := A
  have e2 : cl.slots.size = vs.length := by rw [← q1]; simp
  have e3 : cl.slots.size.toInt32 = z := Int32.toInt_inj.mp (by rw [hz, e2]; exact Int32.toInt_ofNat_of_lt q2)
  refine ⟨s₂, o, X.arraylength hx (by rw [eT]; exact Ar.1) (State.isArrayOf_alike hZ.alike Ar.2.1) (g := mkF m pc L.toArray (.ref a :: rest)) rfl rfl (hb hby hd) _ ?_, r⟩
  rw [e3]; exact b
theorem W.iastore {a : Addr} {vs : List Value} {j : Int32} {i : Nat} {x : Int32} (C : Good κ R Z own mnm bytes ml ret) (hd : Ins1 bytes pc .iastore 1 nx) (A : Av Z h a .int vs) (hj : j.toInt = i) (hi : i < vs.length) (hn : n0 ≤ a) (k : ∀ h', Wr h h' a i (.int x) → Av Z h' a .int (vs.set i (.int x)) → W κ n0 Q h' cs sl nx L rest) : W κ n0 Q h cs sl pc L ((.int x) :: .int j :: .ref a :: rest) := by
  obtain ⟨hd, rfl⟩ := hd
  obtain ⟨p, l, e, R', s, m, args, below, meth, c⟩ := κ
  obtain ⟨hx, hZ, hby, hml, hown, hret, hlk, hnm, rfl⟩ := C
  intro T locs X eT N h1 h2
  have A' := A
  obtain ⟨cl, Ar, q1, q2⟩ := A'
  obtain ⟨T', h', X', e', W', st'⟩ := stI X hx hZ eT Ar (j := j) (inB q1 hj hi) (g := mkF m pc L.toArray ((.int x) :: .int j :: .ref a :: rest)) rfl rfl (hb hby hd)
  have N' := Fr.snoc X' N hn
  rw [clampNat hj] at W'
  obtain ⟨s₂, o, b, r⟩ := k h' W' (A.set W') T' _ X' e' N' h1 h2
  exact ⟨s₂, o, st' _ b, r⟩
theorem W.bastore {a : Addr} {vs : List Value} {j : Int32} {i : Nat} {x : Int32} (C : Good κ R Z own mnm bytes ml ret) (hd : Ins1 bytes pc .bastore 1 nx) (A : Av Z h a .byte vs) (hj : j.toInt = i) (hi : i < vs.length) (hn : n0 ≤ a) (k : ∀ h', Wr h h' a i (.int x.toInt8.toInt32) → Av Z h' a .byte (vs.set i (.int x.toInt8.toInt32)) → W κ n0 Q h' cs sl nx L rest) : W κ n0 Q h cs sl pc L ((.int x) :: .int j :: .ref a :: rest) := by
  obtain ⟨hd, rfl⟩ := hd
  obtain ⟨p, l, e, R', s, m, args, below, meth, c⟩ := κ
  obtain ⟨hx, hZ, hby, hml, hown, hret, hlk, hnm, rfl⟩ := C
  intro T locs X eT N h1 h2
  have A' := A
  obtain ⟨cl, Ar, q1, q2⟩ := A'
  obtain ⟨T', h', X', e', W', st'⟩ := stB X hx hZ eT Ar (j := j) (inB q1 hj hi) (g := mkF m pc L.toArray ((.int x) :: .int j :: .ref a :: rest)) rfl rfl (hb hby hd)
  have N' := Fr.snoc X' N hn
  rw [clampNat hj] at W'
  obtain ⟨s₂, o, b, r⟩ := k h' W' (A.set W') T' _ X' e' N' h1 h2
  exact ⟨s₂, o, st' _ b, r⟩
theorem W.zastore {a : Addr} {vs : List Value} {j : Int32} {i : Nat} {x : Int32} (C : Good κ R Z own mnm bytes ml ret) (hd : Ins1 bytes pc .bastore 1 nx) (A : Av Z h a .boolean vs) (hj : j.toInt = i) (hi : i < vs.length) (hn : n0 ≤ a) (k : ∀ h', Wr h h' a i (.int (x &&& 1)) → Av Z h' a .boolean (vs.set i (.int (x &&& 1))) → W κ n0 Q h' cs sl nx L rest) : W κ n0 Q h cs sl pc L ((.int x) :: .int j :: .ref a :: rest) := by
  obtain ⟨hd, rfl⟩ := hd
  obtain ⟨p, l, e, R', s, m, args, below, meth, c⟩ := κ
  obtain ⟨hx, hZ, hby, hml, hown, hret, hlk, hnm, rfl⟩ := C
  intro T locs X eT N h1 h2
  have A' := A
  obtain ⟨cl, Ar, q1, q2⟩ := A'
  obtain ⟨T', h', X', e', W', st'⟩ := stZ X hx hZ eT Ar (j := j) (inB q1 hj hi) (g := mkF m pc L.toArray ((.int x) :: .int j :: .ref a :: rest)) rfl rfl (hb hby hd)
  have N' := Fr.snoc X' N hn
  rw [clampNat hj] at W'
  obtain ⟨s₂, o, b, r⟩ := k h' W' (A.set W') T' _ X' e' N' h1 h2
  exact ⟨s₂, o, st' _ b, r⟩
theorem W.lastore {a : Addr} {vs : List Value} {j : Int32} {i : Nat} {x : Int64} (C : Good κ R Z own mnm bytes ml ret) (hd : Ins1 bytes pc .lastore 1 nx) (A : Av Z h a .long vs) (hj : j.toInt = i) (hi : i < vs.length) (hn : n0 ≤ a) (k : ∀ h', Wr h h' a i (.long x) → Av Z h' a .long (vs.set i (.long x)) → W κ n0 Q h' cs sl nx L rest) : W κ n0 Q h cs sl pc L ((.long x) :: .int j :: .ref a :: rest) := by
  obtain ⟨hd, rfl⟩ := hd
  obtain ⟨p, l, e, R', s, m, args, below, meth, c⟩ := κ
  obtain ⟨hx, hZ, hby, hml, hown, hret, hlk, hnm, rfl⟩ := C
  intro T locs X eT N h1 h2
  have A' := A
  obtain ⟨cl, Ar, q1, q2⟩ := A'
  obtain ⟨T', h', X', e', W', st'⟩ := stJ X hx hZ eT Ar (j := j) (inB q1 hj hi) (g := mkF m pc L.toArray ((.long x) :: .int j :: .ref a :: rest)) rfl rfl (hb hby hd)
  have N' := Fr.snoc X' N hn
  rw [clampNat hj] at W'
  obtain ⟨s₂, o, b, r⟩ := k h' W' (A.set W') T' _ X' e' N' h1 h2
  exact ⟨s₂, o, st' _ b, r⟩
theorem W.castore {a : Addr} {vs : List Value} {j : Int32} {i : Nat} {x : Int32} (C : Good κ R Z own mnm bytes ml ret) (hd : Ins1 bytes pc .castore 1 nx) (A : Av Z h a .char vs) (hj : j.toInt = i) (hi : i < vs.length) (hn : n0 ≤ a) (k : ∀ h', Wr h h' a i (.int (nar .char x)) → Av Z h' a .char (vs.set i (.int (nar .char x))) → W κ n0 Q h' cs sl nx L rest) : W κ n0 Q h cs sl pc L ((.int x) :: .int j :: .ref a :: rest) := by
  obtain ⟨hd, rfl⟩ := hd
  obtain ⟨p, l, e, R', s, m, args, below, meth, c⟩ := κ
  obtain ⟨hx, hZ, hby, hml, hown, hret, hlk, hnm, rfl⟩ := C
  intro T locs X eT N h1 h2
  have A' := A
  obtain ⟨cl, Ar, q1, q2⟩ := A'
  obtain ⟨T', h', X', e', W', st'⟩ := stC X hx hZ eT Ar (j := j) (inB q1 hj hi) (g := mkF m pc L.toArray ((.int x) :: .int j :: .ref a :: rest)) rfl rfl (hb hby hd)
  have N' := Fr.snoc X' N hn
  rw [clampNat hj] at W'
  obtain ⟨s₂, o, b, r⟩ := k h' W' (A.set W') T' _ X' e' N' h1 h2
  exact ⟨s₂, o, st' _ b, r⟩
theorem Av.of_new {h' : Heap} {a : Addr} {cA : ClassId} {ty : FieldType} {n : Int32} (A : Arr Z h' a (newA cA ty n) ty) : Av Z h' a ty (List.replicate n.toNatClampNeg (defaultValue ty)) := by
  refine ⟨_, A, by simp [newA], ?_⟩
  have e : n.toNatClampNeg = n.toInt.toNat := rfl
  have := Int32.toInt_lt n
  rw [List.length_replicate]; omega
theorem W.newarray {aty : ArrayType} {ty : FieldType} {n : Int32} {vs : List Value} (cap : Nat) (C : Good κ R Z own mnm bytes ml ret) (hd : Ins1 bytes pc (.newarray aty) 2 nx) (hty : newarray.typeOf aty = ty) (w : (Jvm.Cond.arrayClass ty).before a0 Z = true) (hn : 0 ≤ n.toInt) (hcap : n.toInt ≤ cap) (hvs : List.replicate n.toNatClampNeg (defaultValue ty) = vs) (hb8 : cap * 8 ≤ 536870912) (hc : cs + 1 ≤ R.cells) (hl : sl + cap ≤ R.slots) (k : ∀ h' a, h.size = a → Ext h h' → Av Z h' a ty vs → W κ n0 Q h' (cs + 1) (sl + cap) nx L (.ref a :: rest)) : W κ n0 Q h cs sl pc L (.int n :: rest) := by
  subst hty
  obtain ⟨hd, rfl⟩ := hd
  obtain ⟨p, l, e, R', s, m, args, below, meth, c⟩ := κ
  obtain ⟨hx, hZ, hby, hml, hown, hret, hlk, hnm, rfl⟩ := C
  intro T locs X eT N h1 h2
  have hn' : ¬ n < 0 := by rw [Int32.lt_iff_toInt_lt, Int32.toInt_zero]; omega
  have hc' : n.toNatClampNeg ≤ cap := by have e : n.toNatClampNeg = n.toInt.toNat := rfl; omega
  obtain ⟨T', h', cA, X', e', E', A', st'⟩ := newP X hx hZ w eT (g := mkF m pc L.toArray (.int n :: rest)) rfl (hb hby hd) rfl hn' (cap := cap) hc' hb8 hc hl
  obtain ⟨s₂, o, b, r⟩ := k h' _ rfl E' (hvs ▸ Av.of_new A') T' _ X' e' N hc hl
  exact ⟨s₂, o, st' _ b, r⟩
/-! ### objects -/
theorem W.new {i : Nat} {C' : String} {nf : Nat} (C : Good κ R Z own mnm bytes ml ret) (hd : Ins1 bytes pc (.new i) 3 nx) (w1 : (Jvm.Cond.classLink own i C').before a0 Z = true) (w2 : (Jvm.Cond.instantiable C' nf).before a0 Z = true) (w3 : (Jvm.Cond.initialized C').before a0 Z = true) (hc : cs + 1 ≤ R.cells) (hl : sl + nf ≤ R.slots)
    (k : ∀ h' a, h.size = a → Ext h h' → Exa Z h' a C' → (∀ {O nm d : String} {ty : FieldType}, Laid Z a0 C' O nm d → parseFieldDescriptor d = some ty → Fld Z h' a O nm d (defaultValue ty)) → W κ n0 Q h' (cs + 1) (sl + nf) nx L (.ref a :: st)) : W κ n0 Q h cs sl pc L st := by
  obtain ⟨hd, rfl⟩ := hd
  obtain ⟨p, l, e, R', s, m, args, below, meth, c⟩ := κ
  obtain ⟨hx, hZ, hby, hml, hown, hret, hlk, hnm, rfl⟩ := C
  intro T locs X eT N h1 h2
  obtain ⟨T', h', X', e', E', A', D', -, st'⟩ := newO X hx hZ hown w1 w2 w3 eT (g := mkF m pc L.toArray st) rfl (hb hby hd) hc hl
  obtain ⟨s₂, o, b, r⟩ := k h' _ rfl E' A' D' T' _ X' e' N hc hl
  exact ⟨s₂, o, st' _ b, r⟩
theorem W.getfield {i : Nat} {R0 O nm d host : String} {a : Addr} {v : Value} (C : Good κ R Z own mnm bytes ml ret) (hd : Ins1 bytes pc (.getfield i) 3 nx) (w : (Jvm.Cond.fieldLink own i R0 nm d).before a0 Z = true ∨ (Jvm.Cond.fieldLinkNest own i R0 nm d host).before a0 Z = true) (via : Via Z R0 O nm d) (F : Fld Z h a O nm d v) (k : W κ n0 Q h cs sl nx L (v :: rest)) : W κ n0 Q h cs sl pc L (.ref a :: rest) := by
  obtain ⟨hd, rfl⟩ := hd
  obtain ⟨p, l, e, R', s, m, args, below, meth, c⟩ := κ
  obtain ⟨hx, hZ, hby, hml, hown, hret, hlk, hnm, rfl⟩ := C
  intro T locs X eT N h1 h2
  obtain ⟨T', X', e', st'⟩ := getF X hx hZ hown w via eT F (g := mkF m pc L.toArray (.ref a :: rest)) rfl rfl (hb hby hd)
  obtain ⟨s₂, o, b, r⟩ := k T' _ X' e' N h1 h2
  exact ⟨s₂, o, st' _ b, r⟩
theorem W.getstatic {i : Nat} {R0 O nm d host : String} {v : Value} (C : Good κ R Z own mnm bytes ml ret) (hd : Ins1 bytes pc (.getstatic i) 3 nx) (w : (Jvm.Cond.fieldLink own i R0 nm d).before a0 Z = true ∨ (Jvm.Cond.fieldLinkNest own i R0 nm d host).before a0 Z = true) (via : Via Z R0 O nm d) (F : Sta Z h O nm d v) (k : W κ n0 Q h cs sl nx L (v :: st)) : W κ n0 Q h cs sl pc L st := by
  obtain ⟨hd, rfl⟩ := hd
  obtain ⟨p, l, e, R', s, m, args, below, meth, c⟩ := κ
  obtain ⟨hx, hZ, hby, hml, hown, hret, hlk, hnm, rfl⟩ := C
  intro T locs X eT N h1 h2
  obtain ⟨T', X', e', st'⟩ := getS2 X hx hZ hown w via eT F (g := mkF m pc L.toArray st) rfl (hb hby hd)
  obtain ⟨s₂, o, b, r⟩ := k T' _ X' e' N h1 h2
  exact ⟨s₂, o, st' _ b, r⟩
theorem W.putfield {i kk : Nat} {R0 O nm d host C' : String} {ty : FieldType} {a : Addr} {v old : Value} (C : Good κ R Z own mnm bytes ml ret) (hd : Ins1 bytes pc (.putfield i) 3 nx) (w : (Jvm.Cond.fieldLink own i R0 nm d).before a0 Z = true ∨ (Jvm.Cond.fieldLinkNest own i R0 nm d host).before a0 Z = true) (via : Via Z R0 O nm d) (F : Fld Z h a O nm d old) (E : Exa Z h a C')
    (Ly : (Jvm.Cond.lays C' O nm d).before a0 Z = true ∨ ((Jvm.Cond.laysFinal C' O nm d).before a0 Z = true ∧ own = O ∧ mnm = "<init>")) (wi : (Jvm.Cond.instantiable C' kk).before a0 Z = true) (hty : parseFieldDescriptor d = some ty) (hnw : narrow ty v = v) (hf : fits ty v = true) (hn : n0 ≤ a)
    (k : ∀ h', Wr h h' a (Jvm.RoadKit.slotOf Z O nm d) v → Fld Z h' a O nm d v → W κ n0 Q h' cs sl nx L rest) : W κ n0 Q h cs sl pc L (v :: .ref a :: rest) := by
  obtain ⟨hd, rfl⟩ := hd
  obtain ⟨p, l, e, R', s, m, args, below, meth, c⟩ := κ
  obtain ⟨hx, hZ, hby, hml, hown, hret, hlk, hnm, rfl⟩ := C
  intro T locs X eT N h1 h2
  obtain ⟨T', h', X', e', W', st'⟩ := putF X hx hZ hown w via eT F E (Ly.imp id fun q => ⟨q.1, q.2.1, hnm.trans q.2.2⟩) wi hty hnw hf (g := mkF m pc L.toArray (v :: .ref a :: rest)) rfl rfl (hb hby hd)
  have N' := Fr.snoc X' N hn
  obtain ⟨s₂, o, b, r⟩ := k h' W' (F.same W') T' _ X' e' N' h1 h2
  exact ⟨s₂, o, st' _ b, r⟩
theorem W.putfieldN {i kk : Nat} {R0 O nm d C' : String} {ty : FieldType} {a : Addr} {v v' old : Value} (C : Good κ R Z own mnm bytes ml ret) (hd : Ins1 bytes pc (.putfield i) 3 nx) (w : (Jvm.Cond.fieldLink own i R0 nm d).before a0 Z = true) (via : Via Z R0 O nm d) (F : Fld Z h a O nm d old) (E : Exa Z h a C')
    (Ly : (Jvm.Cond.lays C' O nm d).before a0 Z = true ∨ ((Jvm.Cond.laysFinal C' O nm d).before a0 Z = true ∧ own = O ∧ mnm = "<init>")) (wi : (Jvm.Cond.instantiable C' kk).before a0 Z = true) (hty : parseFieldDescriptor d = some ty) (hnw : narrow ty v = v') (hf : fits ty v' = true) (hn : n0 ≤ a)
    (k : ∀ h', Wr h h' a (Jvm.RoadKit.slotOf Z O nm d) v' → Fld Z h' a O nm d v' → W κ n0 Q h' cs sl nx L rest) : W κ n0 Q h cs sl pc L (v :: .ref a :: rest) := by
  obtain ⟨hd, rfl⟩ := hd
  obtain ⟨p, l, e, R', s, m, args, below, meth, c⟩ := κ
  obtain ⟨hx, hZ, hby, hml, hown, hret, hlk, hnm, rfl⟩ := C
  intro T locs X eT N h1 h2
  obtain ⟨T', h', X', e', W', st'⟩ := putFN X hx hZ hown w via eT F E (Ly.imp id fun q => ⟨q.1, q.2.1, hnm.trans q.2.2⟩) wi hty hnw hf (g := mkF m pc L.toArray (v :: .ref a :: rest)) rfl rfl (hb hby hd)
  have N' := Fr.snoc X' N hn
  obtain ⟨s₂, o, b, r⟩ := k h' W' (F.same W') T' _ X' e' N' h1 h2
  exact ⟨s₂, o, st' _ b, r⟩
/-! ### returns -/
theorem W.ireturn {z : Int32} (C : Good κ R Z own mnm bytes ml (some .int)) (hd : Ins1 bytes pc .ireturn 1 nx) (hq : Q (some (.int z)) h) : W κ n0 Q h cs sl pc L (.int z :: rest) := by
  obtain ⟨p, l, e, R', s, m, args, below, meth, c⟩ := κ
  obtain ⟨hx, hZ, hby, hml, hown, hret, hlk, hnm, rfl⟩ := C
  intro T locs X eT N h1 h2
  obtain ⟨fs, hr, hrun, hended, hW, hsame⟩ := X.leave (v := some (.int z)) (fun h => by rw [hret] at h; cases h) hlk
  refine ⟨_, _, retOut X hx hret rfl (Or.inl ⟨rfl, Or.inl rfl, z, rfl⟩) (hb hby hd.1) hr, hrun, hended, _, _, rfl, ⟨?_, N⟩, ⟨_, rfl⟩, hW, hsame.mono h1 h2⟩
  show Q _ T.heap
  rw [eT]; exact hq
theorem W.nreturn {t : FieldType} {z : Int32} (C : Good κ R Z own mnm bytes ml (some t)) (ht : t = .boolean ∨ t = .byte ∨ t = .char ∨ t = .short) (hd : Ins1 bytes pc .ireturn 1 nx) (hq : Q (some (.int (nar t z))) h) : W κ n0 Q h cs sl pc L (.int z :: rest) := by
  obtain ⟨p, l, e, R', s, m, args, below, meth, c⟩ := κ
  obtain ⟨hx, hZ, hby, hml, hown, hret, hlk, hnm, rfl⟩ := C
  intro T locs X eT N h1 h2
  obtain ⟨fs, hr, hrun, hended, hW, hsame⟩ := X.leave (v := some (.int (nar t z))) (fun h => by rw [hret] at h; cases h) hlk
  refine ⟨_, _, retN X hx hret ht (hb hby hd.1) hr, hrun, hended, _, _, rfl, ⟨?_, N⟩, ⟨_, rfl⟩, hW, hsame.mono h1 h2⟩
  show Q _ T.heap
  rw [eT]; exact hq
theorem W.zreturn {z : Int32} (C : Good κ R Z own mnm bytes ml (some .boolean)) (hd : Ins1 bytes pc .ireturn 1 nx) (hq : Q (some (.int (z &&& 1))) h) : W κ n0 Q h cs sl pc L (.int z :: rest) := W.nreturn C (Or.inl rfl) hd hq
theorem W.lreturn {z : Int64} (C : Good κ R Z own mnm bytes ml (some .long)) (hd : Ins1 bytes pc .lreturn 1 nx) (hq : Q (some (.long z)) h) : W κ n0 Q h cs sl pc L (.long z :: rest) := by
  obtain ⟨p, l, e, R', s, m, args, below, meth, c⟩ := κ
  obtain ⟨hx, hZ, hby, hml, hown, hret, hlk, hnm, rfl⟩ := C
  intro T locs X eT N h1 h2
  obtain ⟨fs, hr, hrun, hended, hW, hsame⟩ := X.leave (v := some (.long z)) (fun h => by rw [hret] at h; cases h) hlk
  refine ⟨_, _, retOut X hx hret rfl (Or.inr (Or.inl ⟨rfl, rfl, z, rfl⟩)) (hb hby hd.1) hr, hrun, hended, _, _, rfl, ⟨?_, N⟩, ⟨_, rfl⟩, hW, hsame.mono h1 h2⟩
  show Q _ T.heap
  rw [eT]; exact hq
theorem W.areturn {t : FieldType} {v : Value} (C : Good κ R Z own mnm bytes ml (some t)) (ht : t.isReference = true) (hv : v.isRef = true) (hd : Ins1 bytes pc .areturn 1 nx) (hq : Q (some v) h) : W κ n0 Q h cs sl pc L (v :: rest) := by
  obtain ⟨p, l, e, R', s, m, args, below, meth, c⟩ := κ
  obtain ⟨hx, hZ, hby, hml, hown, hret, hlk, hnm, rfl⟩ := C
  intro T locs X eT N h1 h2
  obtain ⟨fs, hr, hrun, hended, hW, hsame⟩ := X.leave (v := some v) (fun h => by rw [hret] at h; cases h) hlk
  have hnw : narrow t v = v := by cases t <;> first | (cases ht; done) | (cases v <;> first | rfl | (cases hv; done))
  refine ⟨_, _, retOut X hx hret hnw (Or.inr (Or.inr (Or.inr (Or.inr ⟨rfl, ht, hv⟩)))) (hb hby hd.1) hr, hrun, hended, _, _, rfl, ⟨?_, N⟩, ⟨_, rfl⟩, hW, hsame.mono h1 h2⟩
  show Q _ T.heap
  rw [eT]; exact hq
theorem W.vreturn (C : Good κ R Z own mnm bytes ml none) (hd : Ins1 bytes pc .return_ 1 nx) (hq : Q none h) : W κ n0 Q h cs sl pc L [] := by
  obtain ⟨p, l, e, R', s, m, args, below, meth, c⟩ := κ
  obtain ⟨hx, hZ, hby, hml, hown, hret, hlk, hnm, rfl⟩ := C
  intro T locs X eT N h1 h2
  obtain ⟨fs, hr, hrun, hended, hW, hsame⟩ := X.leave (v := none) (fun _ => rfl) hlk
  refine ⟨_, _, X.returnOut hx hret (hb hby hd.1) hr, hrun, hended, _, _, rfl, ⟨?_, N⟩, ⟨_, rfl⟩, hW, hsame.mono h1 h2⟩
  show Q _ T.heap
  rw [eT]; exact hq
/-! ### calls -/
theorem Con.of {y : MethodName} {cb : ByteArray} {cml : Nat} {cret : Option FieldType} {rm : Room} {as' : List Value} {h0 : Heap} {L : List Slot} (hy : plainFor y = true) (hef : ∀ m, entryFrame m as'.toArray cml = mkF m 0 L.toArray []) (k : ∀ κ (Qx : Option Value → Heap → Prop), (∀ v h', Q v h' → Qx v h') → Good κ rm Z y.cls y.name cb cml cret → W κ n0 Qx h0 0 0 0 L []) : Con Z y cb cml cret rm as' h0 n0 Q := by
  intro l ws
  refine MetFree.of_bodySF hy hisR ?_
  intro p e s m args below meth c s₁ Bd hml0 hP hK
  obtain ⟨rfl, hZ, hh⟩ := hP
  have X0 : Stand p l e rm s m as'.toArray below meth c s₁ [] 0 0 := Stand.of_body Bd
  have e0 : s₁.heap = h0 := by rw [← hh, Bd.state]; rfl
  rw [hef m]
  exact k (p, l, e, rm, s, m, as'.toArray, below, meth, c) Q (fun _ _ q => q) ⟨Bd.exec, hZ, Bd.bytes, hml0, findClass_of_methodNamed Bd.named, Bd.returns, BodyLoose.notSynchronized Bd, (name_of_methodNamed Bd.named Bd.method).1, rfl⟩ s₁ [] X0 e0 (Fr.nil n0) (Nat.zero_le _) (Nat.zero_le _)
theorem Con.post {y : MethodName} {cb : ByteArray} {cml : Nat} {cret : Option FieldType} {rm : Room} {as' : List Value} {h0 : Heap} {Q' : Option Value → Heap → Prop} (hq : ∀ v h, Q v h → Q' v h) (k : Con Z y cb cml cret rm as' h0 n0 Q) : Con Z y cb cml cret rm as' h0 n0 Q' := by
  intro l ws p e h1 h2 h3 s m args below h4 h5 h6 h7
  obtain ⟨n, o, g1, g2, g3, v, L, e1, ⟨e2, e3⟩, e4⟩ := k l ws p e h1 h2 h3 s m args below h4 h5 h6 h7
  exact ⟨n, o, g1, g2, g3, v, L, e1, ⟨hq _ _ e2, e3⟩, e4⟩
theorem W.callS {i : Nat} {y : MethodName} {cb : ByteArray} {cml wt : Nat} {cret : Option FieldType} {rm : Room} {as' : List Value} {Qc : Option Value → Heap → Prop} {ps : List FieldType} {rt : Option FieldType} (C : Good κ R Z own mnm bytes ml ret) (hd : Ins1 bytes pc (.invokestatic i) 3 nx)
    (w1 : (Jvm.Cond.methodLink own i y).before a0 Z = true) (w2 : (Jvm.Cond.static y).before a0 Z = true) (w3 : (Jvm.Cond.initialized y.cls).before a0 Z = true) (w4 : (Jvm.Cond.code y cb cml cret).before a0 Z = true) (hy : y.cls ≠ "java/lang/invoke/MethodHandle" ∧ y.cls ≠ "java/lang/invoke/VarHandle")
    (hpd : parseMethodDescriptor y.desc = some ⟨ps, rt⟩) (hlen : as'.length = ps.length) (hM : Con Z y cb cml cret rm as' h n0 Qc) (hst : st = as'.reverse ++ rest) (hL : L.length = ml) (hwt : 2 * 0 + (rest.map fun v => v.category).sum ≤ wt)
    (hfr : rm.frames + 1 ≤ R.frames) (hlo : wt + (cml + 11) + rm.locals ≤ R.locals) (hcs : cs + rm.cells ≤ R.cells) (hsl : sl + rm.slots ≤ R.slots)
    (k : ∀ v h', Qc v h' → W κ n0 Q h' (cs + rm.cells) (sl + rm.slots) nx L (v.toList ++ rest)) : W κ n0 Q h cs sl pc L st := by
  obtain ⟨hd, rfl⟩ := hd
  obtain ⟨p, l, e, R', s, m, args, below, meth, c⟩ := κ
  obtain ⟨hx, hZ, hby, hml, hown, hret, hlk, hnm, rfl⟩ := C
  intro T locs X eT N h1 h2
  obtain ⟨v, _, ⟨T2, L2, k2, n2⟩, -, X2, ⟨Lc, hQ, l2, y2, z2⟩, st2⟩ := Jvm.LawKit.callS X hx (y := y) hown (mvT hZ w1) (mvT hZ w2) (mvT hZ w3) (mvT hZ w4) hy (backOf (W := wt) (Q := fun v h L => Qc v h ∧ Fr n0 L) (hM l []) hZ w4 w3 hfr hlo) (g := mkF m pc L.toArray st) rfl (by show L.toArray.size = _; rw [hml, ← hL]; simp) (argsL := as') (rest := rest) (lenOf hpd hlen) hst hwt (hb hby hd) (fun _ _ => ⟨rfl, eT, hcs, hsl⟩)
  dsimp only [Pt.U, Pt.locs, Pt.cells, Pt.slots] at X2 l2 y2 z2 st2 hQ
  subst l2 y2 z2
  obtain ⟨s₂, o, b, r⟩ := k v T2.heap hQ.1 T2 _ X2 rfl (Fr.app N hQ.2) hcs hsl
  exact ⟨s₂, o, st2 _ b, r⟩
theorem W.callC {i : Nat} {y : MethodName} {cb : ByteArray} {cml wt : Nat} {rm : Room} {a : Addr} {as' : List Value} {Qc : Option Value → Heap → Prop} {ps : List FieldType} {rt : Option FieldType} (C : Good κ R Z own mnm bytes ml ret) (hd : Ins1 bytes pc (.invokespecial i) 3 nx) (hy1 : y.name = "<init>")
    (w1 : (Jvm.Cond.methodLink own i y).before a0 Z = true) (w2 : (Jvm.Cond.instanceMethod y).before a0 Z = true) (w3 : (Jvm.Cond.initialized y.cls).before a0 Z = true) (w4 : (Jvm.Cond.code y cb cml none).before a0 Z = true) (hy : y.cls ≠ "java/lang/invoke/MethodHandle" ∧ y.cls ≠ "java/lang/invoke/VarHandle")
    (hpd : parseMethodDescriptor y.desc = some ⟨ps, rt⟩) (hlen : as'.length = ps.length) (hM : Con Z y cb cml none rm (.ref a :: as') h n0 Qc) (hst : st = as'.reverse ++ .ref a :: rest) (hL : L.length = ml) (hwt : 2 * 0 + (rest.map fun v => v.category).sum ≤ wt)
    (hfr : rm.frames + 1 ≤ R.frames) (hlo : wt + (cml + 11) + rm.locals ≤ R.locals) (hcs : cs + rm.cells ≤ R.cells) (hsl : sl + rm.slots ≤ R.slots)
    (k : ∀ v h', Qc v h' → W κ n0 Q h' (cs + rm.cells) (sl + rm.slots) nx L (v.toList ++ rest)) : W κ n0 Q h cs sl pc L st := by
  obtain ⟨hd, rfl⟩ := hd
  obtain ⟨p, l, e, R', s, m, args, below, meth, c⟩ := κ
  obtain ⟨hx, hZ, hby, hml, hown, hret, hlk, hnm, rfl⟩ := C
  intro T locs X eT N h1 h2
  obtain ⟨v, _, ⟨T2, L2, k2, n2⟩, -, X2, ⟨Lc, hQ, l2, y2, z2⟩, st2⟩ := X.specialBack hx (y := y) hy1 hown (mvT hZ w1) (mvT hZ w2) (mvT hZ w4) hy (backOf (W := wt) (Q := fun v h L => Qc v h ∧ Fr n0 L) (hM l []) hZ w4 w3 hfr hlo) (g := mkF m pc L.toArray st) rfl (by show L.toArray.size = _; rw [hml, ← hL]; simp) (Steps.refl _) (a := a) (argsL := as') (rest := rest) (lenOf hpd hlen) hst hwt (hb hby hd) (fun _ _ => ⟨rfl, eT, hcs, hsl⟩)
  dsimp only [Pt.U, Pt.locs, Pt.cells, Pt.slots] at X2 l2 y2 z2 st2 hQ
  subst l2 y2 z2
  obtain ⟨s₂, o, b, r⟩ := k v T2.heap hQ.1 T2 _ X2 rfl (Fr.app N hQ.2) hcs hsl
  exact ⟨s₂, o, st2.trans b, r⟩
theorem W.callV {i : Nat} {C' : String} {y : MethodName} {cb : ByteArray} {cml wt : Nat} {cret : Option FieldType} {rm : Room} {a : Addr} {as' : List Value} {Qc : Option Value → Heap → Prop} {ps : List FieldType} {rt : Option FieldType} (C : Good κ R Z own mnm bytes ml ret) (hd : Ins1 bytes pc (.invokevirtual i) 3 nx)
    (w1 : (Jvm.Cond.methodLink own i y).before a0 Z = true) (w2 : (Jvm.Cond.declares y).before a0 Z = true) (w5 : (Jvm.Cond.selects C' y y).before a0 Z = true) (w6 : (Jvm.Cond.instanceMethod y).before a0 Z = true) (w3 : (Jvm.Cond.initialized y.cls).before a0 Z = true) (w4 : (Jvm.Cond.code y cb cml cret).before a0 Z = true) (hy : y.cls ≠ "java/lang/invoke/MethodHandle" ∧ y.cls ≠ "java/lang/invoke/VarHandle")
    (E : Exa Z h a C') (hpd : parseMethodDescriptor y.desc = some ⟨ps, rt⟩) (hlen : as'.length = ps.length) (hM : Con Z y cb cml cret rm (.ref a :: as') h n0 Qc) (hst : st = as'.reverse ++ .ref a :: rest) (hL : L.length = ml) (hwt : 2 * 0 + (rest.map fun v => v.category).sum ≤ wt)
    (hfr : rm.frames + 1 ≤ R.frames) (hlo : wt + (cml + 11) + rm.locals ≤ R.locals) (hcs : cs + rm.cells ≤ R.cells) (hsl : sl + rm.slots ≤ R.slots)
    (k : ∀ v h', Qc v h' → W κ n0 Q h' (cs + rm.cells) (sl + rm.slots) nx L (v.toList ++ rest)) : W κ n0 Q h cs sl pc L st := by
  obtain ⟨hd, rfl⟩ := hd
  obtain ⟨p, l, e, R', s, m, args, below, meth, c⟩ := κ
  obtain ⟨hx, hZ, hby, hml, hown, hret, hlk, hnm, rfl⟩ := C
  intro T locs X eT N h1 h2
  obtain ⟨cq, kq, qa, qb, qc⟩ := isOf hZ eT E
  obtain ⟨v, _, ⟨T2, L2, k2, n2⟩, -, X2, ⟨Lc, hQ, l2, y2, z2⟩, st2⟩ := X.virtualBack hx (y := y) (z := y) hown (mvT hZ w1) (mvT hZ w2) (notFace_of_selects (args := #[]) (mvT hZ w5)) (mvT hZ w5) (mvT hZ w6) hy (backOf (W := wt) (Q := fun v h L => Qc v h ∧ Fr n0 L) (hM l []) hZ w4 w3 hfr hlo) qa qc (g := mkF m pc L.toArray st) rfl (by show L.toArray.size = _; rw [hml, ← hL]; simp) (Steps.refl _) (argsL := as') (rest := rest) (lenOf hpd hlen) hst hwt (hb hby hd) (fun _ _ => ⟨rfl, eT, hcs, hsl⟩)
  dsimp only [Pt.U, Pt.locs, Pt.cells, Pt.slots] at X2 l2 y2 z2 st2 hQ
  subst l2 y2 z2
  obtain ⟨s₂, o, b, r⟩ := k v T2.heap hQ.1 T2 _ X2 rfl (Fr.app N hQ.2) hcs hsl
  exact ⟨s₂, o, st2.trans b, r⟩
theorem W.callP {i kk : Nat} {y : MethodName} {cb : ByteArray} {cml wt : Nat} {cret : Option FieldType} {rm : Room} {a : Addr} {as' : List Value} {Qc : Option Value → Heap → Prop} {ps : List FieldType} {rt : Option FieldType} (C : Good κ R Z own mnm bytes ml ret) (hd : Ins1 bytes pc (.invokevirtual i) 3 nx)
    (w1 : (Jvm.Cond.methodLink own i y).before a0 Z = true) (w6 : (Jvm.Cond.instanceMethod y).before a0 Z = true) (wi : (Jvm.Cond.instantiable y.cls kk).before a0 Z = true) (w7 : (Jvm.Cond.privateMethod y).before a0 Z = true) (w3 : (Jvm.Cond.initialized y.cls).before a0 Z = true) (w4 : (Jvm.Cond.code y cb cml cret).before a0 Z = true) (hy : y.cls ≠ "java/lang/invoke/MethodHandle" ∧ y.cls ≠ "java/lang/invoke/VarHandle")
    (E : Exa Z h a y.cls) (hpd : parseMethodDescriptor y.desc = some ⟨ps, rt⟩) (hlen : as'.length = ps.length) (hM : Con Z y cb cml cret rm (.ref a :: as') h n0 Qc) (hst : st = as'.reverse ++ .ref a :: rest) (hL : L.length = ml) (hwt : 2 * 0 + (rest.map fun v => v.category).sum ≤ wt)
    (hfr : rm.frames + 1 ≤ R.frames) (hlo : wt + (cml + 11) + rm.locals ≤ R.locals) (hcs : cs + rm.cells ≤ R.cells) (hsl : sl + rm.slots ≤ R.slots)
    (k : ∀ v h', Qc v h' → W κ n0 Q h' (cs + rm.cells) (sl + rm.slots) nx L (v.toList ++ rest)) : W κ n0 Q h cs sl pc L st := by
  obtain ⟨hd, rfl⟩ := hd
  obtain ⟨p, l, e, R', s, m, args, below, meth, c⟩ := κ
  obtain ⟨hx, hZ, hby, hml, hown, hret, hlk, hnm, rfl⟩ := C
  intro T locs X eT N h1 h2
  obtain ⟨cq, q1, q2⟩ := E.cell
  have hpr := Cond.privateMethod_at (mvP hZ w7 (args := args))
  have hin : (Jvm.Cond.instanceMethod y).before args s = true := mvT hZ w6
  obtain ⟨cc, kc, c1, c2, -, c4, -⟩ := Cond.instantiable_spec (mvT (args := args) hZ wi)
  have hse := selects_self_of_private c1 c2 (Bool.or_eq_false_iff.mp c4).1 hpr hin hy
  obtain ⟨v, _, ⟨T2, L2, k2, n2⟩, -, X2, ⟨Lc, hQ, l2, y2, z2⟩, st2⟩ := X.privateBack hx (y := y) hown (mvT hZ w1) hin hse hpr (mvT hZ w4) hy (backOf (W := wt) (Q := fun v h L => Qc v h ∧ Fr n0 L) (hM l []) hZ w4 w3 hfr hlo) (g := mkF m pc L.toArray st) rfl (by show L.toArray.size = _; rw [hml, ← hL]; simp) (Steps.refl _) (a := a) (by rw [eT]; exact q1) q2 (argsL := as') (rest := rest) (lenOf hpd hlen) hst hwt (hb hby hd) (fun _ _ => ⟨rfl, eT, hcs, hsl⟩)
  dsimp only [Pt.U, Pt.locs, Pt.cells, Pt.slots] at X2 l2 y2 z2 st2 hQ
  subst l2 y2 z2
  obtain ⟨s₂, o, b, r⟩ := k v T2.heap hQ.1 T2 _ X2 rfl (Fr.app N hQ.2) hcs hsl
  exact ⟨s₂, o, st2.trans b, r⟩
theorem W.initO {i : Nat} {a : Addr} {wt : Nat} (C : Good κ R Z own mnm bytes ml ret) (hd : Ins1 bytes pc (.invokespecial i) 3 nx) (w1 : (Jvm.Cond.methodLink own i Lib.objectInit).before a0 Z = true) (w2 : (Jvm.Cond.instanceMethod Lib.objectInit).before a0 Z = true) (w3 : (Jvm.Cond.code Lib.objectInit ⟨#[0xb1]⟩ 1 none).before a0 Z = true)
    (hL : L.length = ml) (hfr : 1 ≤ R.frames) (hwt : 2 * 0 + (rest.map fun v => v.category).sum ≤ wt) (hlo : wt + 12 ≤ R.locals) (k : W κ n0 Q h cs sl nx L rest) : W κ n0 Q h cs sl pc L (.ref a :: rest) := by
  obtain ⟨hd, rfl⟩ := hd
  obtain ⟨p, l, e, R', s, m, args, below, meth, c⟩ := κ
  obtain ⟨hx, hZ, hby, hml, hown, hret, hlk, hnm, rfl⟩ := C
  intro T locs X eT N h1 h2
  obtain ⟨T', X', e', st'⟩ := initO X hx hZ hown w1 w2 w3 eT (g := mkF m pc L.toArray (.ref a :: rest)) rfl (by show L.toArray.size = _; rw [hml, ← hL]; simp) rfl (hb hby hd) hfr hwt hlo
  obtain ⟨s₂, o, b, r⟩ := k T' _ X' e' N h1 h2
  exact ⟨s₂, o, st' _ b, r⟩
end WKit
/-- a value of one word stored over one word -/
theorem st1 {L : List Slot} {k : Nat} {o : Slot} {v : Value} (hold : L[k]? = some o) (ho : One o) (hv : v.category = 1) : storeLocals L.toArray k v = some (L.set k (.val v)).toArray := by
  have := XS.store1 (l := L.toArray) (i := k) (v := v) (o := o) (by simpa using hold) ho hv
  rw [this]; simp
theorem ofNat_toInt {n : Nat} (h : n < 2147483648) : (Int32.ofNat n).toInt = n := Int32.toInt_ofNat_of_lt h
theorem natOf {x : Int32} (h : 0 ≤ x.toInt) : ∃ n : Nat, x = Int32.ofNat n ∧ n < 2147483648 ∧ x.toInt = n := by
  have h2 := Int32.toInt_lt x
  refine ⟨x.toInt.toNat, Int32.toInt_inj.mp ?_, by omega, by omega⟩
  rw [ofNat_toInt (by omega)]; omega
theorem own_get {bs : List Int32} {i : Nat} (hi : i < bs.length) : (bs.map Value.int)[i]? = some (.int (bs.getD i 0)) := by simp [List.getD, hi]
abbrev own_M (bs : List Int32) (i : Nat) : Prop := (bs.getD i 0).toInt = 13 ∧ (bs.getD (i + 1) 0).toInt = 10 ∧ (bs.getD (i + 2) 0).toInt = 13 ∧ (bs.getD (i + 3) 0).toInt = 10
theorem own_p1 {x : Int32} {i : Nat} (h : x.toInt = i) (hi : i ≤ 100) : (x + (1 : Int32)).toInt = ((i + 1 : Nat) : Int) := by
  have t1 := rng32 x
  have t2 : (1 : Int32).toInt = 1 := rfl
  have t3 := rng32 (x + (1 : Int32))
  have t4 := c_iadd x (1 : Int32)
  omega
theorem own_p2 {x : Int32} {i : Nat} (h : x.toInt = i) (hi : i ≤ 100) : (x + (2 : Int32)).toInt = ((i + 2 : Nat) : Int) := by
  have t1 := rng32 x
  have t2 : (2 : Int32).toInt = 2 := rfl
  have t3 := rng32 (x + (2 : Int32))
  have t4 := c_iadd x (2 : Int32)
  omega
theorem own_p3 {x : Int32} {i : Nat} (h : x.toInt = i) (hi : i ≤ 100) : (x + (3 : Int32)).toInt = ((i + 3 : Nat) : Int) := by
  have t1 := rng32 x
  have t2 : (3 : Int32).toInt = 3 := rfl
  have t3 := rng32 (x + (3 : Int32))
  have t4 := c_iadd x (3 : Int32)
  omega
theorem own_p4 {x : Int32} {i : Nat} (h : x.toInt = i) (hi : i ≤ 100) : (x + (4 : Int32)).toInt = ((i + 4 : Nat) : Int) := by
  have t1 := rng32 x
  have t2 : (4 : Int32).toInt = 4 := rfl
  have t3 := rng32 (x + (4 : Int32))
  have t4 := c_iadd x (4 : Int32)
  omega
abbrev y1 : MethodName := ⟨"com/example/hearts_content/heartscontent/websocket/UpgradeHeadEndPinLaw", "pick", "(II)B"⟩
theorem m1_0 : Ins1 method_2_code 0 (.iload_n 0) 1 1 := ⟨by decide +kernel, rfl⟩
theorem m1_1 : Ins1 method_2_code 1 (.iconst 3) 1 2 := ⟨by decide +kernel, rfl⟩
theorem m1_2 : Ins1 method_2_code 2 (.iand) 1 3 := ⟨by decide +kernel, rfl⟩
theorem m1_3 : Ins1 method_2_code 3 (.istore_n 2) 1 4 := ⟨by decide +kernel, rfl⟩
theorem m1_4 : Ins1 method_2_code 4 (.iload_n 2) 1 5 := ⟨by decide +kernel, rfl⟩
theorem m1_5 : Jmp1 method_2_code 5 (.ifCond .ne 6) 6 8 11 := ⟨by decide +kernel, rfl, by decide, by decide⟩
theorem m1_8 : Ins1 method_2_code 8 (.bipush 13) 2 10 := ⟨by decide +kernel, rfl⟩
theorem m1_10 : Ins1 method_2_code 10 (.ireturn) 1 11 := ⟨by decide +kernel, rfl⟩
theorem m1_11 : Ins1 method_2_code 11 (.iload_n 2) 1 12 := ⟨by decide +kernel, rfl⟩
theorem m1_12 : Ins1 method_2_code 12 (.iconst 1) 1 13 := ⟨by decide +kernel, rfl⟩
theorem m1_13 : Jmp1 method_2_code 13 (.if_icmp .ne 6) 6 16 19 := ⟨by decide +kernel, rfl, by decide, by decide⟩
theorem m1_16 : Ins1 method_2_code 16 (.bipush 10) 2 18 := ⟨by decide +kernel, rfl⟩
theorem m1_18 : Ins1 method_2_code 18 (.ireturn) 1 19 := ⟨by decide +kernel, rfl⟩
theorem m1_19 : Ins1 method_2_code 19 (.iload_n 2) 1 20 := ⟨by decide +kernel, rfl⟩
theorem m1_20 : Ins1 method_2_code 20 (.iconst 2) 1 21 := ⟨by decide +kernel, rfl⟩
theorem m1_21 : Jmp1 method_2_code 21 (.if_icmp .ne 6) 6 24 27 := ⟨by decide +kernel, rfl, by decide, by decide⟩
theorem m1_24 : Ins1 method_2_code 24 (.iload_n 1) 1 25 := ⟨by decide +kernel, rfl⟩
theorem m1_25 : Ins1 method_2_code 25 (.i2b) 1 26 := ⟨by decide +kernel, rfl⟩
theorem m1_26 : Ins1 method_2_code 26 (.ireturn) 1 27 := ⟨by decide +kernel, rfl⟩
theorem m1_27 : Ins1 method_2_code 27 (.iload_n 1) 1 28 := ⟨by decide +kernel, rfl⟩
theorem m1_28 : Ins1 method_2_code 28 (.bipush 8) 2 30 := ⟨by decide +kernel, rfl⟩
theorem m1_30 : Ins1 method_2_code 30 (.iushr) 1 31 := ⟨by decide +kernel, rfl⟩
theorem m1_31 : Ins1 method_2_code 31 (.i2b) 1 32 := ⟨by decide +kernel, rfl⟩
theorem m1_32 : Ins1 method_2_code 32 (.ireturn) 1 33 := ⟨by decide +kernel, rfl⟩
theorem pl1 : plainFor y1 = true := plainFor_of_name (show plainName "com/example/hearts_content/heartscontent/websocket/UpgradeHeadEndPinLaw" = true by first | (simp [plainName, overriddenIn]; done) | decide +kernel)
theorem pd1 : parseMethodDescriptor "(II)B" = some ⟨[.int, .int], some .byte⟩ := by decide +kernel
set_option maxRecDepth 65536 in
set_option maxHeartbeats 4000000 in
theorem own_pick (Z : State) (a0 : Array Value) (hw : ∀ d ∈ tables_1, d.before a0 Z = true) (s : Int32) (q : Int32)  (h : Heap) (n0 : Nat)  :
    Con Z y1 method_2_code 3 (some .byte) ({ frames := 0, cells := 0, slots := 0, locals := 0 } : Room) [(.int s), (.int q)] h n0 (fun v h' => h = h' ∧ ∃ z : Int32, v = some (.int z)) := by
  refine Con.of pl1 (L := [.val (.int s), .val (.int q), .unset]) (fun m => by first | (simp [entryFrame, mkF, argsToLocals, Value.category]; done) | rfl) ?_
  intro κ Qx hQ C
  refine W.iloadN C m1_0 rfl ?_
  refine W.iconst C m1_1 (z := (3 : Int32)) rfl ?_
  refine W.iand C m1_2 rfl ?_
  refine W.istoreN C m1_3 (L' := [.val (.int s), .val (.int q), .val (.int (s &&& (3 : Int32)))]) rfl ?_
  refine W.iloadN C m1_4 rfl ?_
  refine W.ifc C m1_5 ?_ ?_
  · intro (h5 : ¬ ((s &&& (3 : Int32))).toInt = (0 : Int))
    refine W.iloadN C m1_11 rfl ?_
    refine W.iconst C m1_12 (z := (1 : Int32)) rfl ?_
    refine W.icmp C m1_13 ?_ ?_
    · intro (h13 : ¬ ((s &&& (3 : Int32))).toInt = (1 : Int))
      refine W.iloadN C m1_19 rfl ?_
      refine W.iconst C m1_20 (z := (2 : Int32)) rfl ?_
      refine W.icmp C m1_21 ?_ ?_
      · intro (h21 : ¬ ((s &&& (3 : Int32))).toInt = (2 : Int))
        refine W.iloadN C m1_27 rfl ?_
        refine W.bipush C m1_28 (z := (8 : Int32)) rfl ?_
        refine W.iushr C m1_30 rfl ?_
        refine W.i2b C m1_31 rfl ?_
        refine W.nreturn C (by simp) m1_32 (hQ _ _ ?_)
        exact ⟨rfl, _, rfl⟩
      · intro (h21 : ¬ ¬ ((s &&& (3 : Int32))).toInt = (2 : Int))
        replace h21 := Decidable.not_not.mp h21
        refine W.iloadN C m1_24 rfl ?_
        refine W.i2b C m1_25 rfl ?_
        refine W.nreturn C (by simp) m1_26 (hQ _ _ ?_)
        exact ⟨rfl, _, rfl⟩
    · intro (h13 : ¬ ¬ ((s &&& (3 : Int32))).toInt = (1 : Int))
      replace h13 := Decidable.not_not.mp h13
      refine W.bipush C m1_16 (z := (10 : Int32)) rfl ?_
      refine W.nreturn C (by simp) m1_18 (hQ _ _ ?_)
      exact ⟨rfl, _, rfl⟩
  · intro (h5 : ¬ ¬ ((s &&& (3 : Int32))).toInt = (0 : Int))
    replace h5 := Decidable.not_not.mp h5
    refine W.bipush C m1_8 (z := (13 : Int32)) rfl ?_
    refine W.nreturn C (by simp) m1_10 (hQ _ _ ?_)
    exact ⟨rfl, _, rfl⟩
abbrev y2 : MethodName := ⟨"com/example/hearts_content/heartscontent/websocket/UpgradeHeadEndPinLaw", "endsAt", "([BIII)Z"⟩
theorem m2_0 : Ins1 method_3_code 0 (.iload_n 1) 1 1 := ⟨by decide +kernel, rfl⟩
theorem m2_1 : Ins1 method_3_code 1 (.iload_n 2) 1 2 := ⟨by decide +kernel, rfl⟩
theorem m2_2 : Jmp1 method_3_code 2 (.if_icmp .lt 52) 52 5 54 := ⟨by decide +kernel, rfl, by decide, by decide⟩
theorem m2_5 : Ins1 method_3_code 5 (.iload_n 1) 1 6 := ⟨by decide +kernel, rfl⟩
theorem m2_6 : Ins1 method_3_code 6 (.iconst 4) 1 7 := ⟨by decide +kernel, rfl⟩
theorem m2_7 : Ins1 method_3_code 7 (.iadd) 1 8 := ⟨by decide +kernel, rfl⟩
theorem m2_8 : Ins1 method_3_code 8 (.iload_n 3) 1 9 := ⟨by decide +kernel, rfl⟩
theorem m2_9 : Jmp1 method_3_code 9 (.if_icmp .gt 45) 45 12 54 := ⟨by decide +kernel, rfl, by decide, by decide⟩
theorem m2_12 : Ins1 method_3_code 12 (.aload_n 0) 1 13 := ⟨by decide +kernel, rfl⟩
theorem m2_13 : Ins1 method_3_code 13 (.iload_n 1) 1 14 := ⟨by decide +kernel, rfl⟩
theorem m2_14 : Ins1 method_3_code 14 (.baload) 1 15 := ⟨by decide +kernel, rfl⟩
theorem m2_15 : Ins1 method_3_code 15 (.bipush 13) 2 17 := ⟨by decide +kernel, rfl⟩
theorem m2_17 : Jmp1 method_3_code 17 (.if_icmp .ne 37) 37 20 54 := ⟨by decide +kernel, rfl, by decide, by decide⟩
theorem m2_20 : Ins1 method_3_code 20 (.aload_n 0) 1 21 := ⟨by decide +kernel, rfl⟩
theorem m2_21 : Ins1 method_3_code 21 (.iload_n 1) 1 22 := ⟨by decide +kernel, rfl⟩
theorem m2_22 : Ins1 method_3_code 22 (.iconst 1) 1 23 := ⟨by decide +kernel, rfl⟩
theorem m2_23 : Ins1 method_3_code 23 (.iadd) 1 24 := ⟨by decide +kernel, rfl⟩
theorem m2_24 : Ins1 method_3_code 24 (.baload) 1 25 := ⟨by decide +kernel, rfl⟩
theorem m2_25 : Ins1 method_3_code 25 (.bipush 10) 2 27 := ⟨by decide +kernel, rfl⟩
theorem m2_27 : Jmp1 method_3_code 27 (.if_icmp .ne 27) 27 30 54 := ⟨by decide +kernel, rfl, by decide, by decide⟩
theorem m2_30 : Ins1 method_3_code 30 (.aload_n 0) 1 31 := ⟨by decide +kernel, rfl⟩
theorem m2_31 : Ins1 method_3_code 31 (.iload_n 1) 1 32 := ⟨by decide +kernel, rfl⟩
theorem m2_32 : Ins1 method_3_code 32 (.iconst 2) 1 33 := ⟨by decide +kernel, rfl⟩
theorem m2_33 : Ins1 method_3_code 33 (.iadd) 1 34 := ⟨by decide +kernel, rfl⟩
theorem m2_34 : Ins1 method_3_code 34 (.baload) 1 35 := ⟨by decide +kernel, rfl⟩
theorem m2_35 : Ins1 method_3_code 35 (.bipush 13) 2 37 := ⟨by decide +kernel, rfl⟩
theorem m2_37 : Jmp1 method_3_code 37 (.if_icmp .ne 17) 17 40 54 := ⟨by decide +kernel, rfl, by decide, by decide⟩
theorem m2_40 : Ins1 method_3_code 40 (.aload_n 0) 1 41 := ⟨by decide +kernel, rfl⟩
theorem m2_41 : Ins1 method_3_code 41 (.iload_n 1) 1 42 := ⟨by decide +kernel, rfl⟩
theorem m2_42 : Ins1 method_3_code 42 (.iconst 3) 1 43 := ⟨by decide +kernel, rfl⟩
theorem m2_43 : Ins1 method_3_code 43 (.iadd) 1 44 := ⟨by decide +kernel, rfl⟩
theorem m2_44 : Ins1 method_3_code 44 (.baload) 1 45 := ⟨by decide +kernel, rfl⟩
theorem m2_45 : Ins1 method_3_code 45 (.bipush 10) 2 47 := ⟨by decide +kernel, rfl⟩
theorem m2_47 : Jmp1 method_3_code 47 (.if_icmp .ne 7) 7 50 54 := ⟨by decide +kernel, rfl, by decide, by decide⟩
theorem m2_50 : Ins1 method_3_code 50 (.iconst 1) 1 51 := ⟨by decide +kernel, rfl⟩
theorem m2_51 : Jmp1 method_3_code 51 (.goto 4) 4 54 55 := ⟨by decide +kernel, rfl, by decide, by decide⟩
theorem m2_54 : Ins1 method_3_code 54 (.iconst 0) 1 55 := ⟨by decide +kernel, rfl⟩
theorem m2_55 : Ins1 method_3_code 55 (.ireturn) 1 56 := ⟨by decide +kernel, rfl⟩
theorem pl2 : plainFor y2 = true := plainFor_of_name (show plainName "com/example/hearts_content/heartscontent/websocket/UpgradeHeadEndPinLaw" = true by first | (simp [plainName, overriddenIn]; done) | decide +kernel)
theorem pd2 : parseMethodDescriptor "([BIII)Z" = some ⟨[(.array .byte), .int, .int, .int], some .boolean⟩ := by decide +kernel
set_option maxRecDepth 65536 in
set_option maxHeartbeats 4000000 in
theorem own_ends (Z : State) (a0 : Array Value) (hw : ∀ d ∈ tables_1, d.before a0 Z = true) (a : Addr) (x : Int32) (f : Int32) (t : Int32) (bs : List Int32) (i : Nat) (h : Heap) (n0 : Nat) (A0 : Av Z h a .byte (bs.map Value.int)) (hl : bs.length = 8) (hx : x.toInt = i) (hi : i ≤ 4) :
    Con Z y2 method_3_code 4 (some .boolean) ({ frames := 0, cells := 0, slots := 0, locals := 0 } : Room) [(.ref a), (.int x), (.int f), (.int t)] h n0 (fun v h' => h = h' ∧ ∃ z : Int32, v = some (.int z) ∧ ((z.toInt = 1 ∧ f.toInt ≤ i ∧ (i : Int) + 4 ≤ t.toInt ∧ own_M bs i) ∨ (z.toInt = 0 ∧ ¬ (f.toInt ≤ i ∧ (i : Int) + 4 ≤ t.toInt ∧ own_M bs i)))) := by
  refine Con.of pl2 (L := [.val (.ref a), .val (.int x), .val (.int f), .val (.int t)]) (fun m => by first | (simp [entryFrame, mkF, argsToLocals, Value.category]; done) | rfl) ?_
  intro κ Qx hQ C
  refine W.iloadN C m2_0 rfl ?_
  refine W.iloadN C m2_1 rfl ?_
  refine W.icmp C m2_2 ?_ ?_
  · intro (h2 : x.toInt < f.toInt)
    refine W.iconst C m2_54 (z := (0 : Int32)) rfl ?_
    refine W.zreturn C m2_55 (hQ _ _ ?_)
    have p4 := own_p4 hx (by omega)
    exact ⟨rfl, 0, rfl, Or.inr ⟨rfl, fun ⟨q1, q2, q3, q4, q5, q6⟩ => by omega⟩⟩
  · intro (h2 : ¬ (x.toInt < f.toInt))
    replace h2 : f.toInt ≤ x.toInt := by omega
    refine W.iloadN C m2_5 rfl ?_
    refine W.iconst C m2_6 (z := (4 : Int32)) rfl ?_
    refine W.iadd C m2_7 rfl ?_
    refine W.iloadN C m2_8 rfl ?_
    refine W.icmp C m2_9 ?_ ?_
    · intro (h9 : t.toInt < ((x + (4 : Int32))).toInt)
      refine W.iconst C m2_54 (z := (0 : Int32)) rfl ?_
      refine W.zreturn C m2_55 (hQ _ _ ?_)
      have p4 := own_p4 hx (by omega)
      exact ⟨rfl, 0, rfl, Or.inr ⟨rfl, fun ⟨q1, q2, q3, q4, q5, q6⟩ => by omega⟩⟩
    · intro (h9 : ¬ (t.toInt < ((x + (4 : Int32))).toInt))
      replace h9 : ((x + (4 : Int32))).toInt ≤ t.toInt := by omega
      refine W.aloadN C m2_12 rfl rfl ?_
      refine W.iloadN C m2_13 rfl ?_
      refine W.baload C m2_14 A0 hx (own_get (by omega)) ?_
      refine W.bipush C m2_15 (z := (13 : Int32)) rfl ?_
      refine W.icmp C m2_17 ?_ ?_
      · intro (h17 : ¬ ((bs.getD i 0)).toInt = (13 : Int))
        refine W.iconst C m2_54 (z := (0 : Int32)) rfl ?_
        refine W.zreturn C m2_55 (hQ _ _ ?_)
        have p4 := own_p4 hx (by omega)
        exact ⟨rfl, 0, rfl, Or.inr ⟨rfl, fun ⟨q1, q2, q3, q4, q5, q6⟩ => by omega⟩⟩
      · intro (h17 : ¬ ¬ ((bs.getD i 0)).toInt = (13 : Int))
        replace h17 := Decidable.not_not.mp h17
        refine W.aloadN C m2_20 rfl rfl ?_
        refine W.iloadN C m2_21 rfl ?_
        refine W.iconst C m2_22 (z := (1 : Int32)) rfl ?_
        refine W.iadd C m2_23 rfl ?_
        refine W.baload C m2_24 A0 (own_p1 hx (by omega)) (own_get (by omega)) ?_
        refine W.bipush C m2_25 (z := (10 : Int32)) rfl ?_
        refine W.icmp C m2_27 ?_ ?_
        · intro (h27 : ¬ ((bs.getD (i + 1) 0)).toInt = (10 : Int))
          refine W.iconst C m2_54 (z := (0 : Int32)) rfl ?_
          refine W.zreturn C m2_55 (hQ _ _ ?_)
          have p4 := own_p4 hx (by omega)
          exact ⟨rfl, 0, rfl, Or.inr ⟨rfl, fun ⟨q1, q2, q3, q4, q5, q6⟩ => by omega⟩⟩
        · intro (h27 : ¬ ¬ ((bs.getD (i + 1) 0)).toInt = (10 : Int))
          replace h27 := Decidable.not_not.mp h27
          refine W.aloadN C m2_30 rfl rfl ?_
          refine W.iloadN C m2_31 rfl ?_
          refine W.iconst C m2_32 (z := (2 : Int32)) rfl ?_
          refine W.iadd C m2_33 rfl ?_
          refine W.baload C m2_34 A0 (own_p2 hx (by omega)) (own_get (by omega)) ?_
          refine W.bipush C m2_35 (z := (13 : Int32)) rfl ?_
          refine W.icmp C m2_37 ?_ ?_
          · intro (h37 : ¬ ((bs.getD (i + 2) 0)).toInt = (13 : Int))
            refine W.iconst C m2_54 (z := (0 : Int32)) rfl ?_
            refine W.zreturn C m2_55 (hQ _ _ ?_)
            have p4 := own_p4 hx (by omega)
            exact ⟨rfl, 0, rfl, Or.inr ⟨rfl, fun ⟨q1, q2, q3, q4, q5, q6⟩ => by omega⟩⟩
          · intro (h37 : ¬ ¬ ((bs.getD (i + 2) 0)).toInt = (13 : Int))
            replace h37 := Decidable.not_not.mp h37
            refine W.aloadN C m2_40 rfl rfl ?_
            refine W.iloadN C m2_41 rfl ?_
            refine W.iconst C m2_42 (z := (3 : Int32)) rfl ?_
            refine W.iadd C m2_43 rfl ?_
            refine W.baload C m2_44 A0 (own_p3 hx (by omega)) (own_get (by omega)) ?_
            refine W.bipush C m2_45 (z := (10 : Int32)) rfl ?_
            refine W.icmp C m2_47 ?_ ?_
            · intro (h47 : ¬ ((bs.getD (i + 3) 0)).toInt = (10 : Int))
              refine W.iconst C m2_54 (z := (0 : Int32)) rfl ?_
              refine W.zreturn C m2_55 (hQ _ _ ?_)
              have p4 := own_p4 hx (by omega)
              exact ⟨rfl, 0, rfl, Or.inr ⟨rfl, fun ⟨q1, q2, q3, q4, q5, q6⟩ => by omega⟩⟩
            · intro (h47 : ¬ ¬ ((bs.getD (i + 3) 0)).toInt = (10 : Int))
              replace h47 := Decidable.not_not.mp h47
              refine W.iconst C m2_50 (z := (1 : Int32)) rfl ?_
              refine W.goto C m2_51 ?_
              refine W.zreturn C m2_55 (hQ _ _ ?_)
              have p4 := own_p4 hx (by omega)
              exact ⟨rfl, 1, rfl, Or.inl ⟨rfl, by omega, by omega, by omega, by omega, by omega, by omega⟩⟩
abbrev y3 : MethodName := ⟨"com/example/hearts_content/heartscontent/websocket/Upgrade", "headEnd", "([BII)I"⟩
theorem m3_5 : Ins1 prog_28_method_4_code 5 (.iload_n 3) 1 6 := ⟨by decide +kernel, rfl⟩
theorem m3_6 : Jmp1 prog_28_method_4_code 6 (.ifCond .ge 62) 62 9 68 := ⟨by decide +kernel, rfl, by decide, by decide⟩
theorem m3_9 : Ins1 prog_28_method_4_code 9 (.iload 4) 2 11 := ⟨by decide +kernel, rfl⟩
theorem m3_11 : Ins1 prog_28_method_4_code 11 (.iconst 4) 1 12 := ⟨by decide +kernel, rfl⟩
theorem m3_12 : Ins1 prog_28_method_4_code 12 (.iadd) 1 13 := ⟨by decide +kernel, rfl⟩
theorem m3_13 : Ins1 prog_28_method_4_code 13 (.iload_n 2) 1 14 := ⟨by decide +kernel, rfl⟩
theorem m3_14 : Jmp1 prog_28_method_4_code 14 (.if_icmp .gt 54) 54 17 68 := ⟨by decide +kernel, rfl, by decide, by decide⟩
theorem m3_17 : Ins1 prog_28_method_4_code 17 (.aload_n 0) 1 18 := ⟨by decide +kernel, rfl⟩
theorem m3_18 : Ins1 prog_28_method_4_code 18 (.iload 4) 2 20 := ⟨by decide +kernel, rfl⟩
theorem m3_20 : Ins1 prog_28_method_4_code 20 (.baload) 1 21 := ⟨by decide +kernel, rfl⟩
theorem m3_21 : Ins1 prog_28_method_4_code 21 (.bipush 13) 2 23 := ⟨by decide +kernel, rfl⟩
theorem m3_23 : Jmp1 prog_28_method_4_code 23 (.if_icmp .ne 39) 39 26 62 := ⟨by decide +kernel, rfl, by decide, by decide⟩
theorem m3_26 : Ins1 prog_28_method_4_code 26 (.aload_n 0) 1 27 := ⟨by decide +kernel, rfl⟩
theorem m3_27 : Ins1 prog_28_method_4_code 27 (.iload 4) 2 29 := ⟨by decide +kernel, rfl⟩
theorem m3_29 : Ins1 prog_28_method_4_code 29 (.iconst 1) 1 30 := ⟨by decide +kernel, rfl⟩
theorem m3_30 : Ins1 prog_28_method_4_code 30 (.iadd) 1 31 := ⟨by decide +kernel, rfl⟩
theorem m3_31 : Ins1 prog_28_method_4_code 31 (.baload) 1 32 := ⟨by decide +kernel, rfl⟩
theorem m3_32 : Ins1 prog_28_method_4_code 32 (.bipush 10) 2 34 := ⟨by decide +kernel, rfl⟩
theorem m3_34 : Jmp1 prog_28_method_4_code 34 (.if_icmp .ne 28) 28 37 62 := ⟨by decide +kernel, rfl, by decide, by decide⟩
theorem m3_37 : Ins1 prog_28_method_4_code 37 (.aload_n 0) 1 38 := ⟨by decide +kernel, rfl⟩
theorem m3_38 : Ins1 prog_28_method_4_code 38 (.iload 4) 2 40 := ⟨by decide +kernel, rfl⟩
theorem m3_40 : Ins1 prog_28_method_4_code 40 (.iconst 2) 1 41 := ⟨by decide +kernel, rfl⟩
theorem m3_41 : Ins1 prog_28_method_4_code 41 (.iadd) 1 42 := ⟨by decide +kernel, rfl⟩
theorem m3_42 : Ins1 prog_28_method_4_code 42 (.baload) 1 43 := ⟨by decide +kernel, rfl⟩
theorem m3_43 : Ins1 prog_28_method_4_code 43 (.bipush 13) 2 45 := ⟨by decide +kernel, rfl⟩
theorem m3_45 : Jmp1 prog_28_method_4_code 45 (.if_icmp .ne 17) 17 48 62 := ⟨by decide +kernel, rfl, by decide, by decide⟩
theorem m3_48 : Ins1 prog_28_method_4_code 48 (.aload_n 0) 1 49 := ⟨by decide +kernel, rfl⟩
theorem m3_49 : Ins1 prog_28_method_4_code 49 (.iload 4) 2 51 := ⟨by decide +kernel, rfl⟩
theorem m3_51 : Ins1 prog_28_method_4_code 51 (.iconst 3) 1 52 := ⟨by decide +kernel, rfl⟩
theorem m3_52 : Ins1 prog_28_method_4_code 52 (.iadd) 1 53 := ⟨by decide +kernel, rfl⟩
theorem m3_53 : Ins1 prog_28_method_4_code 53 (.baload) 1 54 := ⟨by decide +kernel, rfl⟩
theorem m3_54 : Ins1 prog_28_method_4_code 54 (.bipush 10) 2 56 := ⟨by decide +kernel, rfl⟩
theorem m3_56 : Jmp1 prog_28_method_4_code 56 (.if_icmp .ne 6) 6 59 62 := ⟨by decide +kernel, rfl, by decide, by decide⟩
theorem m3_59 : Ins1 prog_28_method_4_code 59 (.iload 4) 2 61 := ⟨by decide +kernel, rfl⟩
theorem m3_61 : Ins1 prog_28_method_4_code 61 (.istore_n 3) 1 62 := ⟨by decide +kernel, rfl⟩
theorem m3_62 : Ins1 prog_28_method_4_code 62 (.iinc 4 1) 3 65 := ⟨by decide +kernel, rfl⟩
theorem m3_65 : Jmp1 prog_28_method_4_code 65 (.goto (-60)) (-60) 68 5 := ⟨by decide +kernel, rfl, by decide, by decide⟩
theorem m3_68 : Ins1 prog_28_method_4_code 68 (.iload_n 3) 1 69 := ⟨by decide +kernel, rfl⟩
theorem m3_69 : Ins1 prog_28_method_4_code 69 (.ireturn) 1 70 := ⟨by decide +kernel, rfl⟩
theorem pl3 : plainFor y3 = true := plainFor_of_name (show plainName "com/example/hearts_content/heartscontent/websocket/Upgrade" = true by first | (simp [plainName, overriddenIn]; done) | decide +kernel)
theorem pd3 : parseMethodDescriptor "([BII)I" = some ⟨[(.array .byte), .int, .int], some .int⟩ := by decide +kernel
set_option maxRecDepth 65536 in
theorem own_loop {κ : KT} {R : Room} {Z : State} {n0 : Nat} {Qx : Option Value → Heap → Prop} {h : Heap} {cs sl : Nat} (C : Good κ R Z "com/example/hearts_content/heartscontent/websocket/Upgrade" "headEnd" prog_28_method_4_code 5 (some .int)) {a : Addr} {f t : Int32} {bs : List Int32} (A0 : Av Z h a .byte (bs.map Value.int)) (hl : bs.length = 8) (ht : t.toInt ≤ 8) (hq : ∀ v, (∃ r : Int32, v = some (.int r) ∧ ((r.toInt = -1 ∧ ∀ k : Nat, f.toInt ≤ k → (k : Int) + 4 ≤ t.toInt → ¬ own_M bs k) ∨ ∃ k : Nat, r.toInt = k ∧ f.toInt ≤ k ∧ (k : Int) + 4 ≤ t.toInt ∧ own_M bs k ∧ ∀ k' : Nat, f.toInt ≤ k' → k' < k → ¬ own_M bs k')) → Qx v h) :
    ∀ (d i : Nat) (x : Int32), x.toInt = i → f.toInt ≤ i → i + d = 10 → (∀ k : Nat, f.toInt ≤ k → k < i → ¬ own_M bs k) → W κ n0 Qx h cs sl 5 [.val (.ref a), .val (.int f), .val (.int t), .val (.int (-1 : Int32)), .val (.int x)] [] := by
  intro d
  induction d with
  | zero =>
    intro i x hx hf hd hno
    have p4 := own_p4 hx (by omega)
    refine W.iloadN C m3_5 rfl ?_
    refine W.ifN C m3_6 (show ¬ ((0 : Int) ≤ (-1 : Int)) from (by decide)) ?_
    refine W.iload C m3_9 rfl ?_
    refine W.iconst C m3_11 (z := (4 : Int32)) rfl ?_
    refine W.iadd C m3_12 rfl ?_
    refine W.iloadN C m3_13 rfl ?_
    refine W.icmpY C m3_14 (show t.toInt < ((x + (4 : Int32))).toInt from (by omega)) ?_
    refine W.iloadN C m3_68 rfl ?_
    refine W.ireturn C m3_69 (hq _ ?_)
    refine ⟨_, rfl, Or.inl ⟨rfl, fun k hk1 hk2 hm => ?_⟩⟩
    exact hno k hk1 (by omega) hm
  | succ d ih =>
    intro i x hx hf hd hno
    have p4 := own_p4 hx (by omega)
    refine W.iloadN C m3_5 rfl ?_
    refine W.ifN C m3_6 (show ¬ ((0 : Int) ≤ (-1 : Int)) from (by decide)) ?_
    refine W.iload C m3_9 rfl ?_
    refine W.iconst C m3_11 (z := (4 : Int32)) rfl ?_
    refine W.iadd C m3_12 rfl ?_
    refine W.iloadN C m3_13 rfl ?_
    refine W.icmp C m3_14 ?_ ?_
    · intro (h14 : t.toInt < ((x + (4 : Int32))).toInt)
      refine W.iloadN C m3_68 rfl ?_
      refine W.ireturn C m3_69 (hq _ ?_)
      refine ⟨_, rfl, Or.inl ⟨rfl, fun k hk1 hk2 hm => ?_⟩⟩
      exact hno k hk1 (by omega) hm
    · intro (h14 : ¬ (t.toInt < ((x + (4 : Int32))).toInt))
      replace h14 : ((x + (4 : Int32))).toInt ≤ t.toInt := by omega
      refine W.aloadN C m3_17 rfl rfl ?_
      refine W.iload C m3_18 rfl ?_
      refine W.baload C m3_20 A0 hx (own_get (by omega)) ?_
      refine W.bipush C m3_21 (z := (13 : Int32)) rfl ?_
      refine W.icmp C m3_23 ?_ ?_
      · intro (h23 : ¬ ((bs.getD i 0)).toInt = (13 : Int))
        refine W.iinc C m3_62 rfl (z := (x + (1 : Int32))) rfl (L' := [.val (.ref a), .val (.int f), .val (.int t), .val (.int (-1 : Int32)), .val (.int (x + (1 : Int32)))]) rfl ?_
        refine W.goto C m3_65 ?_
        refine ih (i + 1) (x + (1 : Int32)) (own_p1 hx (by omega)) (by omega) (by omega) (fun k hk1 hk2 hm => ?_)
        by_cases hk : k = i
        · subst hk; obtain ⟨q1, q2, q3, q4⟩ := hm; omega
        · exact hno k hk1 (by omega) hm
      · intro (h23 : ¬ ¬ ((bs.getD i 0)).toInt = (13 : Int))
        replace h23 := Decidable.not_not.mp h23
        refine W.aloadN C m3_26 rfl rfl ?_
        refine W.iload C m3_27 rfl ?_
        refine W.iconst C m3_29 (z := (1 : Int32)) rfl ?_
        refine W.iadd C m3_30 rfl ?_
        refine W.baload C m3_31 A0 (own_p1 hx (by omega)) (own_get (by omega)) ?_
        refine W.bipush C m3_32 (z := (10 : Int32)) rfl ?_
        refine W.icmp C m3_34 ?_ ?_
        · intro (h34 : ¬ ((bs.getD (i + 1) 0)).toInt = (10 : Int))
          refine W.iinc C m3_62 rfl (z := (x + (1 : Int32))) rfl (L' := [.val (.ref a), .val (.int f), .val (.int t), .val (.int (-1 : Int32)), .val (.int (x + (1 : Int32)))]) rfl ?_
          refine W.goto C m3_65 ?_
          refine ih (i + 1) (x + (1 : Int32)) (own_p1 hx (by omega)) (by omega) (by omega) (fun k hk1 hk2 hm => ?_)
          by_cases hk : k = i
          · subst hk; obtain ⟨q1, q2, q3, q4⟩ := hm; omega
          · exact hno k hk1 (by omega) hm
        · intro (h34 : ¬ ¬ ((bs.getD (i + 1) 0)).toInt = (10 : Int))
          replace h34 := Decidable.not_not.mp h34
          refine W.aloadN C m3_37 rfl rfl ?_
          refine W.iload C m3_38 rfl ?_
          refine W.iconst C m3_40 (z := (2 : Int32)) rfl ?_
          refine W.iadd C m3_41 rfl ?_
          refine W.baload C m3_42 A0 (own_p2 hx (by omega)) (own_get (by omega)) ?_
          refine W.bipush C m3_43 (z := (13 : Int32)) rfl ?_
          refine W.icmp C m3_45 ?_ ?_
          · intro (h45 : ¬ ((bs.getD (i + 2) 0)).toInt = (13 : Int))
            refine W.iinc C m3_62 rfl (z := (x + (1 : Int32))) rfl (L' := [.val (.ref a), .val (.int f), .val (.int t), .val (.int (-1 : Int32)), .val (.int (x + (1 : Int32)))]) rfl ?_
            refine W.goto C m3_65 ?_
            refine ih (i + 1) (x + (1 : Int32)) (own_p1 hx (by omega)) (by omega) (by omega) (fun k hk1 hk2 hm => ?_)
            by_cases hk : k = i
            · subst hk; obtain ⟨q1, q2, q3, q4⟩ := hm; omega
            · exact hno k hk1 (by omega) hm
          · intro (h45 : ¬ ¬ ((bs.getD (i + 2) 0)).toInt = (13 : Int))
            replace h45 := Decidable.not_not.mp h45
            refine W.aloadN C m3_48 rfl rfl ?_
            refine W.iload C m3_49 rfl ?_
            refine W.iconst C m3_51 (z := (3 : Int32)) rfl ?_
            refine W.iadd C m3_52 rfl ?_
            refine W.baload C m3_53 A0 (own_p3 hx (by omega)) (own_get (by omega)) ?_
            refine W.bipush C m3_54 (z := (10 : Int32)) rfl ?_
            refine W.icmp C m3_56 ?_ ?_
            · intro (h56 : ¬ ((bs.getD (i + 3) 0)).toInt = (10 : Int))
              refine W.iinc C m3_62 rfl (z := (x + (1 : Int32))) rfl (L' := [.val (.ref a), .val (.int f), .val (.int t), .val (.int (-1 : Int32)), .val (.int (x + (1 : Int32)))]) rfl ?_
              refine W.goto C m3_65 ?_
              refine ih (i + 1) (x + (1 : Int32)) (own_p1 hx (by omega)) (by omega) (by omega) (fun k hk1 hk2 hm => ?_)
              by_cases hk : k = i
              · subst hk; obtain ⟨q1, q2, q3, q4⟩ := hm; omega
              · exact hno k hk1 (by omega) hm
            · intro (h56 : ¬ ¬ ((bs.getD (i + 3) 0)).toInt = (10 : Int))
              replace h56 := Decidable.not_not.mp h56
              refine W.iload C m3_59 rfl ?_
              refine W.istoreN C m3_61 (L' := [.val (.ref a), .val (.int f), .val (.int t), .val (.int x), .val (.int x)]) rfl ?_
              refine W.iinc C m3_62 rfl (z := (x + (1 : Int32))) rfl (L' := [.val (.ref a), .val (.int f), .val (.int t), .val (.int x), .val (.int (x + (1 : Int32)))]) rfl ?_
              refine W.goto C m3_65 ?_
              -- found
              refine W.iloadN C m3_5 rfl ?_
              refine W.ifY C m3_6 (show (0 : Int) ≤ x.toInt from (show 0 ≤ x.toInt by omega)) ?_
              refine W.iloadN C m3_68 rfl ?_
              refine W.ireturn C m3_69 (hq _ ?_)
              exact ⟨_, rfl, Or.inr ⟨i, hx, hf, by omega, ⟨by omega, by omega, by omega, by omega⟩, hno⟩⟩
theorem m3_0 : Ins1 prog_28_method_4_code 0 (.iconst (-1)) 1 1 := ⟨by decide +kernel, rfl⟩
theorem m3_1 : Ins1 prog_28_method_4_code 1 (.istore_n 3) 1 2 := ⟨by decide +kernel, rfl⟩
theorem m3_2 : Ins1 prog_28_method_4_code 2 (.iload_n 1) 1 3 := ⟨by decide +kernel, rfl⟩
theorem m3_3 : Ins1 prog_28_method_4_code 3 (.istore 4) 2 5 := ⟨by decide +kernel, rfl⟩
set_option maxRecDepth 65536 in
set_option maxHeartbeats 4000000 in
theorem own_he (Z : State) (a0 : Array Value) (hw : ∀ d ∈ tables_1, d.before a0 Z = true) (a : Addr) (f : Int32) (t : Int32) (bs : List Int32) (i : Nat) (h : Heap) (n0 : Nat) (A0 : Av Z h a .byte (bs.map Value.int)) (hl : bs.length = 8) (hf : f.toInt = i) (hi : i ≤ 8) (ht : t.toInt ≤ 8) :
    Con Z y3 prog_28_method_4_code 5 (some .int) ({ frames := 0, cells := 0, slots := 0, locals := 0 } : Room) [(.ref a), (.int f), (.int t)] h n0 (fun v h' => h = h' ∧ ∃ r : Int32, v = some (.int r) ∧ ((r.toInt = -1 ∧ ∀ k : Nat, f.toInt ≤ k → (k : Int) + 4 ≤ t.toInt → ¬ own_M bs k) ∨ ∃ k : Nat, r.toInt = k ∧ f.toInt ≤ k ∧ (k : Int) + 4 ≤ t.toInt ∧ own_M bs k ∧ ∀ k' : Nat, f.toInt ≤ k' → k' < k → ¬ own_M bs k')) := by
  refine Con.of pl3 (L := [.val (.ref a), .val (.int f), .val (.int t), .unset, .unset]) (fun m => by first | (simp [entryFrame, mkF, argsToLocals, Value.category]; done) | rfl) ?_
  intro κ Qx hQ C
  refine W.iconst C m3_0 (z := (-1 : Int32)) rfl ?_
  refine W.istoreN C m3_1 (L' := [.val (.ref a), .val (.int f), .val (.int t), .val (.int (-1 : Int32)), .unset]) rfl ?_
  refine W.iloadN C m3_2 rfl ?_
  refine W.istore C m3_3 (L' := [.val (.ref a), .val (.int f), .val (.int t), .val (.int (-1 : Int32)), .val (.int f)]) rfl ?_
  exact own_loop C A0 hl ht (fun v hv => hQ _ _ ⟨rfl, hv⟩) (10 - i) i f hf (by omega) (by omega) (fun k q1 q2 => by omega)
theorem own_nine {x v : Int32} (h : (x &&& (2147483647 : Int32)) % (9 : Int32) = v) : 0 ≤ v.toInt ∧ v.toInt ≤ 8 := by
  subst h
  have t1 := rng32 x
  have t2 : (2147483647 : Int32).toInt = 2147483647 := rfl
  have t3 := c_mask x (2147483647 : Int32) 31 (by decide) (by decide)
  have t4 : (9 : Int32).toInt = 9 := rfl
  have t5 := c_irem (x &&& (2147483647 : Int32)) (9 : Int32) 9 rfl
  have t6 := rng32 ((x &&& (2147483647 : Int32)) % (9 : Int32))
  omega
abbrev y0 : MethodName := x
theorem m0_0 : Ins1 code 0 (.bipush 8) 2 2 := ⟨at_0, rfl⟩
theorem m0_2 : Ins1 code 2 (.newarray .byte) 2 4 := ⟨at_2, rfl⟩
theorem m0_4 : Ins1 code 4 (.astore 4) 2 6 := ⟨at_4, rfl⟩
theorem m0_6 : Ins1 code 6 (.aload 4) 2 8 := ⟨at_6, rfl⟩
theorem m0_8 : Ins1 code 8 (.iconst 0) 1 9 := ⟨at_8, rfl⟩
theorem m0_9 : Ins1 code 9 (.iload_n 0) 1 10 := ⟨at_9, rfl⟩
theorem m0_10 : Ins1 code 10 (.iload_n 1) 1 11 := ⟨at_10, rfl⟩
theorem m0_11 : Ins1 code 11 (.invokestatic 7) 3 14 := ⟨at_11, rfl⟩
theorem m0_14 : Ins1 code 14 (.bastore) 1 15 := ⟨at_14, rfl⟩
theorem m0_15 : Ins1 code 15 (.aload 4) 2 17 := ⟨at_15, rfl⟩
theorem m0_17 : Ins1 code 17 (.iconst 1) 1 18 := ⟨at_17, rfl⟩
theorem m0_18 : Ins1 code 18 (.iload_n 0) 1 19 := ⟨at_18, rfl⟩
theorem m0_19 : Ins1 code 19 (.iconst 2) 1 20 := ⟨at_19, rfl⟩
theorem m0_20 : Ins1 code 20 (.iushr) 1 21 := ⟨at_20, rfl⟩
theorem m0_21 : Ins1 code 21 (.iload_n 1) 1 22 := ⟨at_21, rfl⟩
theorem m0_22 : Ins1 code 22 (.invokestatic 7) 3 25 := ⟨at_22, rfl⟩
theorem m0_25 : Ins1 code 25 (.bastore) 1 26 := ⟨at_25, rfl⟩
theorem m0_26 : Ins1 code 26 (.aload 4) 2 28 := ⟨at_26, rfl⟩
theorem m0_28 : Ins1 code 28 (.iconst 2) 1 29 := ⟨at_28, rfl⟩
theorem m0_29 : Ins1 code 29 (.iload_n 0) 1 30 := ⟨at_29, rfl⟩
theorem m0_30 : Ins1 code 30 (.iconst 4) 1 31 := ⟨at_30, rfl⟩
theorem m0_31 : Ins1 code 31 (.iushr) 1 32 := ⟨at_31, rfl⟩
theorem m0_32 : Ins1 code 32 (.iload_n 1) 1 33 := ⟨at_32, rfl⟩
theorem m0_33 : Ins1 code 33 (.invokestatic 7) 3 36 := ⟨at_33, rfl⟩
theorem m0_36 : Ins1 code 36 (.bastore) 1 37 := ⟨at_36, rfl⟩
theorem m0_37 : Ins1 code 37 (.aload 4) 2 39 := ⟨at_37, rfl⟩
theorem m0_39 : Ins1 code 39 (.iconst 3) 1 40 := ⟨at_39, rfl⟩
theorem m0_40 : Ins1 code 40 (.iload_n 0) 1 41 := ⟨at_40, rfl⟩
theorem m0_41 : Ins1 code 41 (.bipush 6) 2 43 := ⟨at_41, rfl⟩
theorem m0_43 : Ins1 code 43 (.iushr) 1 44 := ⟨at_43, rfl⟩
theorem m0_44 : Ins1 code 44 (.iload_n 1) 1 45 := ⟨at_44, rfl⟩
theorem m0_45 : Ins1 code 45 (.invokestatic 7) 3 48 := ⟨at_45, rfl⟩
theorem m0_48 : Ins1 code 48 (.bastore) 1 49 := ⟨at_48, rfl⟩
theorem m0_49 : Ins1 code 49 (.aload 4) 2 51 := ⟨at_49, rfl⟩
theorem m0_51 : Ins1 code 51 (.iconst 4) 1 52 := ⟨at_51, rfl⟩
theorem m0_52 : Ins1 code 52 (.iload_n 0) 1 53 := ⟨at_52, rfl⟩
theorem m0_53 : Ins1 code 53 (.bipush 8) 2 55 := ⟨at_53, rfl⟩
theorem m0_55 : Ins1 code 55 (.iushr) 1 56 := ⟨at_55, rfl⟩
theorem m0_56 : Ins1 code 56 (.iload_n 1) 1 57 := ⟨at_56, rfl⟩
theorem m0_57 : Ins1 code 57 (.invokestatic 7) 3 60 := ⟨at_57, rfl⟩
theorem m0_60 : Ins1 code 60 (.bastore) 1 61 := ⟨at_60, rfl⟩
theorem m0_61 : Ins1 code 61 (.aload 4) 2 63 := ⟨at_61, rfl⟩
theorem m0_63 : Ins1 code 63 (.iconst 5) 1 64 := ⟨at_63, rfl⟩
theorem m0_64 : Ins1 code 64 (.iload_n 0) 1 65 := ⟨at_64, rfl⟩
theorem m0_65 : Ins1 code 65 (.bipush 10) 2 67 := ⟨at_65, rfl⟩
theorem m0_67 : Ins1 code 67 (.iushr) 1 68 := ⟨at_67, rfl⟩
theorem m0_68 : Ins1 code 68 (.iload_n 1) 1 69 := ⟨at_68, rfl⟩
theorem m0_69 : Ins1 code 69 (.invokestatic 7) 3 72 := ⟨at_69, rfl⟩
theorem m0_72 : Ins1 code 72 (.bastore) 1 73 := ⟨at_72, rfl⟩
theorem m0_73 : Ins1 code 73 (.aload 4) 2 75 := ⟨at_73, rfl⟩
theorem m0_75 : Ins1 code 75 (.bipush 6) 2 77 := ⟨at_75, rfl⟩
theorem m0_77 : Ins1 code 77 (.iload_n 0) 1 78 := ⟨at_77, rfl⟩
theorem m0_78 : Ins1 code 78 (.bipush 12) 2 80 := ⟨at_78, rfl⟩
theorem m0_80 : Ins1 code 80 (.iushr) 1 81 := ⟨at_80, rfl⟩
theorem m0_81 : Ins1 code 81 (.iload_n 1) 1 82 := ⟨at_81, rfl⟩
theorem m0_82 : Ins1 code 82 (.invokestatic 7) 3 85 := ⟨at_82, rfl⟩
theorem m0_85 : Ins1 code 85 (.bastore) 1 86 := ⟨at_85, rfl⟩
theorem m0_86 : Ins1 code 86 (.aload 4) 2 88 := ⟨at_86, rfl⟩
theorem m0_88 : Ins1 code 88 (.bipush 7) 2 90 := ⟨at_88, rfl⟩
theorem m0_90 : Ins1 code 90 (.iload_n 0) 1 91 := ⟨at_90, rfl⟩
theorem m0_91 : Ins1 code 91 (.bipush 14) 2 93 := ⟨at_91, rfl⟩
theorem m0_93 : Ins1 code 93 (.iushr) 1 94 := ⟨at_93, rfl⟩
theorem m0_94 : Ins1 code 94 (.iload_n 1) 1 95 := ⟨at_94, rfl⟩
theorem m0_95 : Ins1 code 95 (.invokestatic 7) 3 98 := ⟨at_95, rfl⟩
theorem m0_98 : Ins1 code 98 (.bastore) 1 99 := ⟨at_98, rfl⟩
theorem m0_99 : Ins1 code 99 (.iload_n 2) 1 100 := ⟨at_99, rfl⟩
theorem m0_100 : Ins1 code 100 (.ldc 13) 2 102 := ⟨at_100, rfl⟩
theorem m0_102 : Ins1 code 102 (.iand) 1 103 := ⟨at_102, rfl⟩
theorem m0_103 : Ins1 code 103 (.bipush 9) 2 105 := ⟨at_103, rfl⟩
theorem m0_105 : Ins1 code 105 (.irem) 1 106 := ⟨at_105, rfl⟩
theorem m0_106 : Ins1 code 106 (.istore 5) 2 108 := ⟨at_106, rfl⟩
theorem m0_108 : Ins1 code 108 (.iload_n 3) 1 109 := ⟨at_108, rfl⟩
theorem m0_109 : Ins1 code 109 (.ldc 13) 2 111 := ⟨at_109, rfl⟩
theorem m0_111 : Ins1 code 111 (.iand) 1 112 := ⟨at_111, rfl⟩
theorem m0_112 : Ins1 code 112 (.bipush 9) 2 114 := ⟨at_112, rfl⟩
theorem m0_114 : Ins1 code 114 (.irem) 1 115 := ⟨at_114, rfl⟩
theorem m0_115 : Ins1 code 115 (.istore 6) 2 117 := ⟨at_115, rfl⟩
theorem m0_117 : Ins1 code 117 (.aload 4) 2 119 := ⟨at_117, rfl⟩
theorem m0_119 : Ins1 code 119 (.iconst 0) 1 120 := ⟨at_119, rfl⟩
theorem m0_120 : Ins1 code 120 (.iload 5) 2 122 := ⟨at_120, rfl⟩
theorem m0_122 : Ins1 code 122 (.iload 6) 2 124 := ⟨at_122, rfl⟩
theorem m0_124 : Ins1 code 124 (.invokestatic 14) 3 127 := ⟨at_124, rfl⟩
theorem m0_127 : Jmp1 code 127 (.ifCond .eq 9) 9 130 136 := ⟨at_127, rfl, by decide, by decide⟩
theorem m0_130 : Ins1 code 130 (.iconst 0) 1 131 := ⟨at_130, rfl⟩
theorem m0_131 : Ins1 code 131 (.istore 7) 2 133 := ⟨at_131, rfl⟩
theorem m0_133 : Jmp1 code 133 (.goto 82) 82 136 215 := ⟨at_133, rfl, by decide, by decide⟩
theorem m0_136 : Ins1 code 136 (.aload 4) 2 138 := ⟨at_136, rfl⟩
theorem m0_138 : Ins1 code 138 (.iconst 1) 1 139 := ⟨at_138, rfl⟩
theorem m0_139 : Ins1 code 139 (.iload 5) 2 141 := ⟨at_139, rfl⟩
theorem m0_141 : Ins1 code 141 (.iload 6) 2 143 := ⟨at_141, rfl⟩
theorem m0_143 : Ins1 code 143 (.invokestatic 14) 3 146 := ⟨at_143, rfl⟩
theorem m0_146 : Jmp1 code 146 (.ifCond .eq 9) 9 149 155 := ⟨at_146, rfl, by decide, by decide⟩
theorem m0_149 : Ins1 code 149 (.iconst 1) 1 150 := ⟨at_149, rfl⟩
theorem m0_150 : Ins1 code 150 (.istore 7) 2 152 := ⟨at_150, rfl⟩
theorem m0_152 : Jmp1 code 152 (.goto 63) 63 155 215 := ⟨at_152, rfl, by decide, by decide⟩
theorem m0_155 : Ins1 code 155 (.aload 4) 2 157 := ⟨at_155, rfl⟩
theorem m0_157 : Ins1 code 157 (.iconst 2) 1 158 := ⟨at_157, rfl⟩
theorem m0_158 : Ins1 code 158 (.iload 5) 2 160 := ⟨at_158, rfl⟩
theorem m0_160 : Ins1 code 160 (.iload 6) 2 162 := ⟨at_160, rfl⟩
theorem m0_162 : Ins1 code 162 (.invokestatic 14) 3 165 := ⟨at_162, rfl⟩
theorem m0_165 : Jmp1 code 165 (.ifCond .eq 9) 9 168 174 := ⟨at_165, rfl, by decide, by decide⟩
theorem m0_168 : Ins1 code 168 (.iconst 2) 1 169 := ⟨at_168, rfl⟩
theorem m0_169 : Ins1 code 169 (.istore 7) 2 171 := ⟨at_169, rfl⟩
theorem m0_171 : Jmp1 code 171 (.goto 44) 44 174 215 := ⟨at_171, rfl, by decide, by decide⟩
theorem m0_174 : Ins1 code 174 (.aload 4) 2 176 := ⟨at_174, rfl⟩
theorem m0_176 : Ins1 code 176 (.iconst 3) 1 177 := ⟨at_176, rfl⟩
theorem m0_177 : Ins1 code 177 (.iload 5) 2 179 := ⟨at_177, rfl⟩
theorem m0_179 : Ins1 code 179 (.iload 6) 2 181 := ⟨at_179, rfl⟩
theorem m0_181 : Ins1 code 181 (.invokestatic 14) 3 184 := ⟨at_181, rfl⟩
theorem m0_184 : Jmp1 code 184 (.ifCond .eq 9) 9 187 193 := ⟨at_184, rfl, by decide, by decide⟩
theorem m0_187 : Ins1 code 187 (.iconst 3) 1 188 := ⟨at_187, rfl⟩
theorem m0_188 : Ins1 code 188 (.istore 7) 2 190 := ⟨at_188, rfl⟩
theorem m0_190 : Jmp1 code 190 (.goto 25) 25 193 215 := ⟨at_190, rfl, by decide, by decide⟩
theorem m0_193 : Ins1 code 193 (.aload 4) 2 195 := ⟨at_193, rfl⟩
theorem m0_195 : Ins1 code 195 (.iconst 4) 1 196 := ⟨at_195, rfl⟩
theorem m0_196 : Ins1 code 196 (.iload 5) 2 198 := ⟨at_196, rfl⟩
theorem m0_198 : Ins1 code 198 (.iload 6) 2 200 := ⟨at_198, rfl⟩
theorem m0_200 : Ins1 code 200 (.invokestatic 14) 3 203 := ⟨at_200, rfl⟩
theorem m0_203 : Jmp1 code 203 (.ifCond .eq 9) 9 206 212 := ⟨at_203, rfl, by decide, by decide⟩
theorem m0_206 : Ins1 code 206 (.iconst 4) 1 207 := ⟨at_206, rfl⟩
theorem m0_207 : Ins1 code 207 (.istore 7) 2 209 := ⟨at_207, rfl⟩
theorem m0_209 : Jmp1 code 209 (.goto 6) 6 212 215 := ⟨at_209, rfl, by decide, by decide⟩
theorem m0_212 : Ins1 code 212 (.iconst (-1)) 1 213 := ⟨at_212, rfl⟩
theorem m0_213 : Ins1 code 213 (.istore 7) 2 215 := ⟨at_213, rfl⟩
theorem m0_215 : Ins1 code 215 (.aload 4) 2 217 := ⟨at_215, rfl⟩
theorem m0_217 : Ins1 code 217 (.iload 5) 2 219 := ⟨at_217, rfl⟩
theorem m0_219 : Ins1 code 219 (.iload 6) 2 221 := ⟨at_219, rfl⟩
theorem m0_221 : Ins1 code 221 (.invokestatic 18) 3 224 := ⟨at_221, rfl⟩
theorem m0_224 : Ins1 code 224 (.istore 8) 2 226 := ⟨at_224, rfl⟩
theorem m0_226 : Ins1 code 226 (.iload 8) 2 228 := ⟨at_226, rfl⟩
theorem m0_228 : Ins1 code 228 (.iload 7) 2 230 := ⟨at_228, rfl⟩
theorem m0_230 : Jmp1 code 230 (.if_icmp .ne 7) 7 233 237 := ⟨at_230, rfl, by decide, by decide⟩
theorem m0_233 : Ins1 code 233 (.iconst 1) 1 234 := ⟨at_233, rfl⟩
theorem m0_234 : Jmp1 code 234 (.goto 4) 4 237 238 := ⟨at_234, rfl, by decide, by decide⟩
theorem m0_237 : Ins1 code 237 (.iconst 0) 1 238 := ⟨at_237, rfl⟩
theorem m0_238 : Ins1 code 238 (.ireturn) 1 239 := ⟨at_238, rfl⟩
theorem pl0 : plainFor y0 = true := plainFor_of_name (show plainName "com/example/hearts_content/heartscontent/websocket/UpgradeHeadEndPinLaw" = true by first | (simp [plainName, overriddenIn]; done) | decide +kernel)
theorem pd0 : parseMethodDescriptor "(IIII)Z" = some ⟨[.int, .int, .int, .int], some .boolean⟩ := by decide +kernel
set_option maxRecDepth 65536 in
set_option maxHeartbeats 4000000 in
theorem own_law (Z : State) (a0 : Array Value) (hw : ∀ d ∈ tables_1, d.before a0 Z = true) (p0 : Int32) (p1 : Int32) (p2 : Int32) (p3 : Int32)  (h : Heap) (n0 : Nat) (z0 : n0 ≤ h.size) :
    Con Z y0 code maxLocals ret room_1 [(.int p0), (.int p1), (.int p2), (.int p3)] h n0 (fun v h' => v = some (.int 1)) := by
  refine Con.of pl0 (L := [.val (.int p0), .val (.int p1), .val (.int p2), .val (.int p3), .unset, .unset, .unset, .unset, .unset]) (fun m => by first | (simp [entryFrame, mkF, argsToLocals, Value.category, maxLocals]; done) | rfl) ?_
  intro κ Qx hQ C
  replace C : Good κ room_1 Z "com/example/hearts_content/heartscontent/websocket/UpgradeHeadEndPinLaw" "law" code 9 (some .boolean) := C
  refine W.bipush C m0_0 (z := (8 : Int32)) rfl ?_
  refine W.newarray (a0 := a0) (vs := [(.int (0 : Int32)), (.int (0 : Int32)), (.int (0 : Int32)), (.int (0 : Int32)), (.int (0 : Int32)), (.int (0 : Int32)), (.int (0 : Int32)), (.int (0 : Int32))]) 8 C m0_2 rfl (hw _ (List.mem_of_getElem? (i := 0) rfl)) (by decide) (by decide) rfl (by decide) (by decide) (by decide) ?_
  intro h1 a2 g3 E4 A5
  have g6 : n0 ≤ a2 := Nat.le_trans z0 (Nat.le_of_eq g3)
  have z7 : n0 ≤ h1.size := Nat.le_trans z0 E4.1
  show W κ n0 Qx h1 1 8 4 [.val (.int p0), .val (.int p1), .val (.int p2), .val (.int p3), .unset, .unset, .unset, .unset, .unset] [(.ref a2)]
  refine W.astore C m0_4 (L' := [.val (.int p0), .val (.int p1), .val (.int p2), .val (.int p3), .val (.ref a2), .unset, .unset, .unset, .unset]) rfl rfl ?_
  refine W.aload C m0_6 rfl rfl ?_
  refine W.iconst C m0_8 (z := (0 : Int32)) rfl ?_
  refine W.iloadN C m0_9 rfl ?_
  refine W.iloadN C m0_10 rfl ?_
  refine W.callS (y := y1) (wt := 2) C m0_11 (hw _ (List.mem_of_getElem? (i := 1) rfl)) (hw _ (List.mem_of_getElem? (i := 2) rfl)) (hw _ (List.mem_of_getElem? (i := 3) rfl)) (hw _ (List.mem_of_getElem? (i := 4) rfl)) (by decide) pd1 rfl (own_pick Z a0 hw p0 p1 h1 n0) (as' := [(.int p0), (.int p1)]) (rest := [(.int (0 : Int32)), (.ref a2)]) rfl rfl (Nat.le_of_eq rfl) (by decide) (by decide) (by decide) (by decide) ?_
  intro r11 h9 q10
  obtain ⟨rfl, z8, rfl⟩ := q10
  show W κ n0 Qx h1 1 8 14 [.val (.int p0), .val (.int p1), .val (.int p2), .val (.int p3), .val (.ref a2), .unset, .unset, .unset, .unset] [(.int z8), (.int (0 : Int32)), (.ref a2)]
  refine W.bastore C m0_14 A5 (i := 0) rfl (Nat.le_of_ble_eq_true rfl) g6 ?_
  intro h12 W13 A14
  have z15 : n0 ≤ h12.size := Nat.le_trans z7 (Nat.le_of_eq (Wr.size W13).symm)
  have A16 : Av Z h12 a2 .byte [(.int z8.toInt8.toInt32), (.int (0 : Int32)), (.int (0 : Int32)), (.int (0 : Int32)), (.int (0 : Int32)), (.int (0 : Int32)), (.int (0 : Int32)), (.int (0 : Int32))] := A14
  refine W.aload C m0_15 rfl rfl ?_
  refine W.iconst C m0_17 (z := (1 : Int32)) rfl ?_
  refine W.iloadN C m0_18 rfl ?_
  refine W.iconst C m0_19 (z := (2 : Int32)) rfl ?_
  refine W.iushr C m0_20 rfl ?_
  refine W.iloadN C m0_21 rfl ?_
  refine W.callS (y := y1) (wt := 2) C m0_22 (hw _ (List.mem_of_getElem? (i := 1) rfl)) (hw _ (List.mem_of_getElem? (i := 2) rfl)) (hw _ (List.mem_of_getElem? (i := 3) rfl)) (hw _ (List.mem_of_getElem? (i := 4) rfl)) (by decide) pd1 rfl (own_pick Z a0 hw (p0.toUInt32 >>> ((2 : Int32) &&& 31).toUInt32).toInt32 p1 h12 n0) (as' := [(.int (p0.toUInt32 >>> ((2 : Int32) &&& 31).toUInt32).toInt32), (.int p1)]) (rest := [(.int (1 : Int32)), (.ref a2)]) rfl rfl (Nat.le_of_eq rfl) (by decide) (by decide) (by decide) (by decide) ?_
  intro r20 h18 q19
  obtain ⟨rfl, z17, rfl⟩ := q19
  show W κ n0 Qx h12 1 8 25 [.val (.int p0), .val (.int p1), .val (.int p2), .val (.int p3), .val (.ref a2), .unset, .unset, .unset, .unset] [(.int z17), (.int (1 : Int32)), (.ref a2)]
  refine W.bastore C m0_25 A16 (i := 1) rfl (Nat.le_of_ble_eq_true rfl) g6 ?_
  intro h21 W22 A23
  have z24 : n0 ≤ h21.size := Nat.le_trans z15 (Nat.le_of_eq (Wr.size W22).symm)
  have A25 : Av Z h21 a2 .byte [(.int z8.toInt8.toInt32), (.int z17.toInt8.toInt32), (.int (0 : Int32)), (.int (0 : Int32)), (.int (0 : Int32)), (.int (0 : Int32)), (.int (0 : Int32)), (.int (0 : Int32))] := A23
  refine W.aload C m0_26 rfl rfl ?_
  refine W.iconst C m0_28 (z := (2 : Int32)) rfl ?_
  refine W.iloadN C m0_29 rfl ?_
  refine W.iconst C m0_30 (z := (4 : Int32)) rfl ?_
  refine W.iushr C m0_31 rfl ?_
  refine W.iloadN C m0_32 rfl ?_
  refine W.callS (y := y1) (wt := 2) C m0_33 (hw _ (List.mem_of_getElem? (i := 1) rfl)) (hw _ (List.mem_of_getElem? (i := 2) rfl)) (hw _ (List.mem_of_getElem? (i := 3) rfl)) (hw _ (List.mem_of_getElem? (i := 4) rfl)) (by decide) pd1 rfl (own_pick Z a0 hw (p0.toUInt32 >>> ((4 : Int32) &&& 31).toUInt32).toInt32 p1 h21 n0) (as' := [(.int (p0.toUInt32 >>> ((4 : Int32) &&& 31).toUInt32).toInt32), (.int p1)]) (rest := [(.int (2 : Int32)), (.ref a2)]) rfl rfl (Nat.le_of_eq rfl) (by decide) (by decide) (by decide) (by decide) ?_
  intro r29 h27 q28
  obtain ⟨rfl, z26, rfl⟩ := q28
  show W κ n0 Qx h21 1 8 36 [.val (.int p0), .val (.int p1), .val (.int p2), .val (.int p3), .val (.ref a2), .unset, .unset, .unset, .unset] [(.int z26), (.int (2 : Int32)), (.ref a2)]
  refine W.bastore C m0_36 A25 (i := 2) rfl (Nat.le_of_ble_eq_true rfl) g6 ?_
  intro h30 W31 A32
  have z33 : n0 ≤ h30.size := Nat.le_trans z24 (Nat.le_of_eq (Wr.size W31).symm)
  have A34 : Av Z h30 a2 .byte [(.int z8.toInt8.toInt32), (.int z17.toInt8.toInt32), (.int z26.toInt8.toInt32), (.int (0 : Int32)), (.int (0 : Int32)), (.int (0 : Int32)), (.int (0 : Int32)), (.int (0 : Int32))] := A32
  refine W.aload C m0_37 rfl rfl ?_
  refine W.iconst C m0_39 (z := (3 : Int32)) rfl ?_
  refine W.iloadN C m0_40 rfl ?_
  refine W.bipush C m0_41 (z := (6 : Int32)) rfl ?_
  refine W.iushr C m0_43 rfl ?_
  refine W.iloadN C m0_44 rfl ?_
  refine W.callS (y := y1) (wt := 2) C m0_45 (hw _ (List.mem_of_getElem? (i := 1) rfl)) (hw _ (List.mem_of_getElem? (i := 2) rfl)) (hw _ (List.mem_of_getElem? (i := 3) rfl)) (hw _ (List.mem_of_getElem? (i := 4) rfl)) (by decide) pd1 rfl (own_pick Z a0 hw (p0.toUInt32 >>> ((6 : Int32) &&& 31).toUInt32).toInt32 p1 h30 n0) (as' := [(.int (p0.toUInt32 >>> ((6 : Int32) &&& 31).toUInt32).toInt32), (.int p1)]) (rest := [(.int (3 : Int32)), (.ref a2)]) rfl rfl (Nat.le_of_eq rfl) (by decide) (by decide) (by decide) (by decide) ?_
  intro r38 h36 q37
  obtain ⟨rfl, z35, rfl⟩ := q37
  show W κ n0 Qx h30 1 8 48 [.val (.int p0), .val (.int p1), .val (.int p2), .val (.int p3), .val (.ref a2), .unset, .unset, .unset, .unset] [(.int z35), (.int (3 : Int32)), (.ref a2)]
  refine W.bastore C m0_48 A34 (i := 3) rfl (Nat.le_of_ble_eq_true rfl) g6 ?_
  intro h39 W40 A41
  have z42 : n0 ≤ h39.size := Nat.le_trans z33 (Nat.le_of_eq (Wr.size W40).symm)
  have A43 : Av Z h39 a2 .byte [(.int z8.toInt8.toInt32), (.int z17.toInt8.toInt32), (.int z26.toInt8.toInt32), (.int z35.toInt8.toInt32), (.int (0 : Int32)), (.int (0 : Int32)), (.int (0 : Int32)), (.int (0 : Int32))] := A41
  refine W.aload C m0_49 rfl rfl ?_
  refine W.iconst C m0_51 (z := (4 : Int32)) rfl ?_
  refine W.iloadN C m0_52 rfl ?_
  refine W.bipush C m0_53 (z := (8 : Int32)) rfl ?_
  refine W.iushr C m0_55 rfl ?_
  refine W.iloadN C m0_56 rfl ?_
  refine W.callS (y := y1) (wt := 2) C m0_57 (hw _ (List.mem_of_getElem? (i := 1) rfl)) (hw _ (List.mem_of_getElem? (i := 2) rfl)) (hw _ (List.mem_of_getElem? (i := 3) rfl)) (hw _ (List.mem_of_getElem? (i := 4) rfl)) (by decide) pd1 rfl (own_pick Z a0 hw (p0.toUInt32 >>> ((8 : Int32) &&& 31).toUInt32).toInt32 p1 h39 n0) (as' := [(.int (p0.toUInt32 >>> ((8 : Int32) &&& 31).toUInt32).toInt32), (.int p1)]) (rest := [(.int (4 : Int32)), (.ref a2)]) rfl rfl (Nat.le_of_eq rfl) (by decide) (by decide) (by decide) (by decide) ?_
  intro r47 h45 q46
  obtain ⟨rfl, z44, rfl⟩ := q46
  show W κ n0 Qx h39 1 8 60 [.val (.int p0), .val (.int p1), .val (.int p2), .val (.int p3), .val (.ref a2), .unset, .unset, .unset, .unset] [(.int z44), (.int (4 : Int32)), (.ref a2)]
  refine W.bastore C m0_60 A43 (i := 4) rfl (Nat.le_of_ble_eq_true rfl) g6 ?_
  intro h48 W49 A50
  have z51 : n0 ≤ h48.size := Nat.le_trans z42 (Nat.le_of_eq (Wr.size W49).symm)
  have A52 : Av Z h48 a2 .byte [(.int z8.toInt8.toInt32), (.int z17.toInt8.toInt32), (.int z26.toInt8.toInt32), (.int z35.toInt8.toInt32), (.int z44.toInt8.toInt32), (.int (0 : Int32)), (.int (0 : Int32)), (.int (0 : Int32))] := A50
  refine W.aload C m0_61 rfl rfl ?_
  refine W.iconst C m0_63 (z := (5 : Int32)) rfl ?_
  refine W.iloadN C m0_64 rfl ?_
  refine W.bipush C m0_65 (z := (10 : Int32)) rfl ?_
  refine W.iushr C m0_67 rfl ?_
  refine W.iloadN C m0_68 rfl ?_
  refine W.callS (y := y1) (wt := 2) C m0_69 (hw _ (List.mem_of_getElem? (i := 1) rfl)) (hw _ (List.mem_of_getElem? (i := 2) rfl)) (hw _ (List.mem_of_getElem? (i := 3) rfl)) (hw _ (List.mem_of_getElem? (i := 4) rfl)) (by decide) pd1 rfl (own_pick Z a0 hw (p0.toUInt32 >>> ((10 : Int32) &&& 31).toUInt32).toInt32 p1 h48 n0) (as' := [(.int (p0.toUInt32 >>> ((10 : Int32) &&& 31).toUInt32).toInt32), (.int p1)]) (rest := [(.int (5 : Int32)), (.ref a2)]) rfl rfl (Nat.le_of_eq rfl) (by decide) (by decide) (by decide) (by decide) ?_
  intro r56 h54 q55
  obtain ⟨rfl, z53, rfl⟩ := q55
  show W κ n0 Qx h48 1 8 72 [.val (.int p0), .val (.int p1), .val (.int p2), .val (.int p3), .val (.ref a2), .unset, .unset, .unset, .unset] [(.int z53), (.int (5 : Int32)), (.ref a2)]
  refine W.bastore C m0_72 A52 (i := 5) rfl (Nat.le_of_ble_eq_true rfl) g6 ?_
  intro h57 W58 A59
  have z60 : n0 ≤ h57.size := Nat.le_trans z51 (Nat.le_of_eq (Wr.size W58).symm)
  have A61 : Av Z h57 a2 .byte [(.int z8.toInt8.toInt32), (.int z17.toInt8.toInt32), (.int z26.toInt8.toInt32), (.int z35.toInt8.toInt32), (.int z44.toInt8.toInt32), (.int z53.toInt8.toInt32), (.int (0 : Int32)), (.int (0 : Int32))] := A59
  refine W.aload C m0_73 rfl rfl ?_
  refine W.bipush C m0_75 (z := (6 : Int32)) rfl ?_
  refine W.iloadN C m0_77 rfl ?_
  refine W.bipush C m0_78 (z := (12 : Int32)) rfl ?_
  refine W.iushr C m0_80 rfl ?_
  refine W.iloadN C m0_81 rfl ?_
  refine W.callS (y := y1) (wt := 2) C m0_82 (hw _ (List.mem_of_getElem? (i := 1) rfl)) (hw _ (List.mem_of_getElem? (i := 2) rfl)) (hw _ (List.mem_of_getElem? (i := 3) rfl)) (hw _ (List.mem_of_getElem? (i := 4) rfl)) (by decide) pd1 rfl (own_pick Z a0 hw (p0.toUInt32 >>> ((12 : Int32) &&& 31).toUInt32).toInt32 p1 h57 n0) (as' := [(.int (p0.toUInt32 >>> ((12 : Int32) &&& 31).toUInt32).toInt32), (.int p1)]) (rest := [(.int (6 : Int32)), (.ref a2)]) rfl rfl (Nat.le_of_eq rfl) (by decide) (by decide) (by decide) (by decide) ?_
  intro r65 h63 q64
  obtain ⟨rfl, z62, rfl⟩ := q64
  show W κ n0 Qx h57 1 8 85 [.val (.int p0), .val (.int p1), .val (.int p2), .val (.int p3), .val (.ref a2), .unset, .unset, .unset, .unset] [(.int z62), (.int (6 : Int32)), (.ref a2)]
  refine W.bastore C m0_85 A61 (i := 6) rfl (Nat.le_of_ble_eq_true rfl) g6 ?_
  intro h66 W67 A68
  have z69 : n0 ≤ h66.size := Nat.le_trans z60 (Nat.le_of_eq (Wr.size W67).symm)
  have A70 : Av Z h66 a2 .byte [(.int z8.toInt8.toInt32), (.int z17.toInt8.toInt32), (.int z26.toInt8.toInt32), (.int z35.toInt8.toInt32), (.int z44.toInt8.toInt32), (.int z53.toInt8.toInt32), (.int z62.toInt8.toInt32), (.int (0 : Int32))] := A68
  refine W.aload C m0_86 rfl rfl ?_
  refine W.bipush C m0_88 (z := (7 : Int32)) rfl ?_
  refine W.iloadN C m0_90 rfl ?_
  refine W.bipush C m0_91 (z := (14 : Int32)) rfl ?_
  refine W.iushr C m0_93 rfl ?_
  refine W.iloadN C m0_94 rfl ?_
  refine W.callS (y := y1) (wt := 2) C m0_95 (hw _ (List.mem_of_getElem? (i := 1) rfl)) (hw _ (List.mem_of_getElem? (i := 2) rfl)) (hw _ (List.mem_of_getElem? (i := 3) rfl)) (hw _ (List.mem_of_getElem? (i := 4) rfl)) (by decide) pd1 rfl (own_pick Z a0 hw (p0.toUInt32 >>> ((14 : Int32) &&& 31).toUInt32).toInt32 p1 h66 n0) (as' := [(.int (p0.toUInt32 >>> ((14 : Int32) &&& 31).toUInt32).toInt32), (.int p1)]) (rest := [(.int (7 : Int32)), (.ref a2)]) rfl rfl (Nat.le_of_eq rfl) (by decide) (by decide) (by decide) (by decide) ?_
  intro r74 h72 q73
  obtain ⟨rfl, z71, rfl⟩ := q73
  show W κ n0 Qx h66 1 8 98 [.val (.int p0), .val (.int p1), .val (.int p2), .val (.int p3), .val (.ref a2), .unset, .unset, .unset, .unset] [(.int z71), (.int (7 : Int32)), (.ref a2)]
  refine W.bastore C m0_98 A70 (i := 7) rfl (Nat.le_of_ble_eq_true rfl) g6 ?_
  intro h75 W76 A77
  have z78 : n0 ≤ h75.size := Nat.le_trans z69 (Nat.le_of_eq (Wr.size W76).symm)
  have A79 : Av Z h75 a2 .byte [(.int z8.toInt8.toInt32), (.int z17.toInt8.toInt32), (.int z26.toInt8.toInt32), (.int z35.toInt8.toInt32), (.int z44.toInt8.toInt32), (.int z53.toInt8.toInt32), (.int z62.toInt8.toInt32), (.int z71.toInt8.toInt32)] := A77
  refine W.iloadN C m0_99 rfl ?_
  refine W.ldc C m0_100 (hw _ (List.mem_of_getElem? (i := 5) rfl)) ?_
  refine W.iand C m0_102 rfl ?_
  refine W.bipush C m0_103 (z := (9 : Int32)) rfl ?_
  refine W.irem C m0_105 (by decide) rfl ?_
  generalize hv80 : ((p2 &&& (2147483647 : Int32)) % (9 : Int32)) = v80
  refine W.istore C m0_106 (L' := [.val (.int p0), .val (.int p1), .val (.int p2), .val (.int p3), .val (.ref a2), .val (.int v80), .unset, .unset, .unset]) rfl ?_
  have hfr := own_nine hv80
  obtain ⟨fi, hfi⟩ : ∃ i : Nat, v80.toInt = i ∧ i ≤ 8 := ⟨v80.toInt.toNat, by omega, by omega⟩
  refine W.iloadN C m0_108 rfl ?_
  refine W.ldc C m0_109 (hw _ (List.mem_of_getElem? (i := 5) rfl)) ?_
  refine W.iand C m0_111 rfl ?_
  refine W.bipush C m0_112 (z := (9 : Int32)) rfl ?_
  refine W.irem C m0_114 (by decide) rfl ?_
  generalize hv81 : ((p3 &&& (2147483647 : Int32)) % (9 : Int32)) = v81
  refine W.istore C m0_115 (L' := [.val (.int p0), .val (.int p1), .val (.int p2), .val (.int p3), .val (.ref a2), .val (.int v80), .val (.int v81), .unset, .unset]) rfl ?_
  have hti := own_nine hv81
  obtain ⟨BS, hBS⟩ : ∃ bs : List Int32, bs = [z8.toInt8.toInt32, z17.toInt8.toInt32, z26.toInt8.toInt32, z35.toInt8.toInt32, z44.toInt8.toInt32, z53.toInt8.toInt32, z62.toInt8.toInt32, z71.toInt8.toInt32] := ⟨_, rfl⟩
  have AB : Av Z h75 a2 .byte (BS.map Value.int) := by rw [hBS]; exact A79
  have hBL : BS.length = 8 := by rw [hBS]; rfl
  refine W.aload C m0_117 rfl rfl ?_
  refine W.iconst C m0_119 (z := (0 : Int32)) rfl ?_
  refine W.iload C m0_120 rfl ?_
  refine W.iload C m0_122 rfl ?_
  refine W.callS (y := y2) (wt := 0) C m0_124 (hw _ (List.mem_of_getElem? (i := 6) rfl)) (hw _ (List.mem_of_getElem? (i := 7) rfl)) (hw _ (List.mem_of_getElem? (i := 3) rfl)) (hw _ (List.mem_of_getElem? (i := 8) rfl)) (by decide) pd2 rfl (own_ends Z a0 hw a2 (0 : Int32) v80 v81 BS 0 h75 n0 AB hBL rfl (by decide)) (as' := [(.ref a2), (.int (0 : Int32)), (.int v80), (.int v81)]) (rest := []) rfl rfl (Nat.le_of_eq rfl) (by decide) (by decide) (by decide) (by decide) ?_
  intro r85 h83 q84
  obtain ⟨rfl, z82, rfl, hz82⟩ := q84
  show W κ n0 Qx h75 1 8 127 [.val (.int p0), .val (.int p1), .val (.int p2), .val (.int p3), .val (.ref a2), .val (.int v80), .val (.int v81), .unset, .unset] [(.int z82)]
  refine W.ifc C m0_127 ?_ ?_
  · intro (h127 : z82.toInt = (0 : Int))
    refine W.aload C m0_136 rfl rfl ?_
    refine W.iconst C m0_138 (z := (1 : Int32)) rfl ?_
    refine W.iload C m0_139 rfl ?_
    refine W.iload C m0_141 rfl ?_
    refine W.callS (y := y2) (wt := 0) C m0_143 (hw _ (List.mem_of_getElem? (i := 6) rfl)) (hw _ (List.mem_of_getElem? (i := 7) rfl)) (hw _ (List.mem_of_getElem? (i := 3) rfl)) (hw _ (List.mem_of_getElem? (i := 8) rfl)) (by decide) pd2 rfl (own_ends Z a0 hw a2 (1 : Int32) v80 v81 BS 1 h75 n0 AB hBL rfl (by decide)) (as' := [(.ref a2), (.int (1 : Int32)), (.int v80), (.int v81)]) (rest := []) rfl rfl (Nat.le_of_eq rfl) (by decide) (by decide) (by decide) (by decide) ?_
    intro r89 h87 q88
    obtain ⟨rfl, z86, rfl, hz86⟩ := q88
    show W κ n0 Qx h75 1 8 146 [.val (.int p0), .val (.int p1), .val (.int p2), .val (.int p3), .val (.ref a2), .val (.int v80), .val (.int v81), .unset, .unset] [(.int z86)]
    refine W.ifc C m0_146 ?_ ?_
    · intro (h146 : z86.toInt = (0 : Int))
      refine W.aload C m0_155 rfl rfl ?_
      refine W.iconst C m0_157 (z := (2 : Int32)) rfl ?_
      refine W.iload C m0_158 rfl ?_
      refine W.iload C m0_160 rfl ?_
      refine W.callS (y := y2) (wt := 0) C m0_162 (hw _ (List.mem_of_getElem? (i := 6) rfl)) (hw _ (List.mem_of_getElem? (i := 7) rfl)) (hw _ (List.mem_of_getElem? (i := 3) rfl)) (hw _ (List.mem_of_getElem? (i := 8) rfl)) (by decide) pd2 rfl (own_ends Z a0 hw a2 (2 : Int32) v80 v81 BS 2 h75 n0 AB hBL rfl (by decide)) (as' := [(.ref a2), (.int (2 : Int32)), (.int v80), (.int v81)]) (rest := []) rfl rfl (Nat.le_of_eq rfl) (by decide) (by decide) (by decide) (by decide) ?_
      intro r93 h91 q92
      obtain ⟨rfl, z90, rfl, hz90⟩ := q92
      show W κ n0 Qx h75 1 8 165 [.val (.int p0), .val (.int p1), .val (.int p2), .val (.int p3), .val (.ref a2), .val (.int v80), .val (.int v81), .unset, .unset] [(.int z90)]
      refine W.ifc C m0_165 ?_ ?_
      · intro (h165 : z90.toInt = (0 : Int))
        refine W.aload C m0_174 rfl rfl ?_
        refine W.iconst C m0_176 (z := (3 : Int32)) rfl ?_
        refine W.iload C m0_177 rfl ?_
        refine W.iload C m0_179 rfl ?_
        refine W.callS (y := y2) (wt := 0) C m0_181 (hw _ (List.mem_of_getElem? (i := 6) rfl)) (hw _ (List.mem_of_getElem? (i := 7) rfl)) (hw _ (List.mem_of_getElem? (i := 3) rfl)) (hw _ (List.mem_of_getElem? (i := 8) rfl)) (by decide) pd2 rfl (own_ends Z a0 hw a2 (3 : Int32) v80 v81 BS 3 h75 n0 AB hBL rfl (by decide)) (as' := [(.ref a2), (.int (3 : Int32)), (.int v80), (.int v81)]) (rest := []) rfl rfl (Nat.le_of_eq rfl) (by decide) (by decide) (by decide) (by decide) ?_
        intro r97 h95 q96
        obtain ⟨rfl, z94, rfl, hz94⟩ := q96
        show W κ n0 Qx h75 1 8 184 [.val (.int p0), .val (.int p1), .val (.int p2), .val (.int p3), .val (.ref a2), .val (.int v80), .val (.int v81), .unset, .unset] [(.int z94)]
        refine W.ifc C m0_184 ?_ ?_
        · intro (h184 : z94.toInt = (0 : Int))
          refine W.aload C m0_193 rfl rfl ?_
          refine W.iconst C m0_195 (z := (4 : Int32)) rfl ?_
          refine W.iload C m0_196 rfl ?_
          refine W.iload C m0_198 rfl ?_
          refine W.callS (y := y2) (wt := 0) C m0_200 (hw _ (List.mem_of_getElem? (i := 6) rfl)) (hw _ (List.mem_of_getElem? (i := 7) rfl)) (hw _ (List.mem_of_getElem? (i := 3) rfl)) (hw _ (List.mem_of_getElem? (i := 8) rfl)) (by decide) pd2 rfl (own_ends Z a0 hw a2 (4 : Int32) v80 v81 BS 4 h75 n0 AB hBL rfl (by decide)) (as' := [(.ref a2), (.int (4 : Int32)), (.int v80), (.int v81)]) (rest := []) rfl rfl (Nat.le_of_eq rfl) (by decide) (by decide) (by decide) (by decide) ?_
          intro r101 h99 q100
          obtain ⟨rfl, z98, rfl, hz98⟩ := q100
          show W κ n0 Qx h75 1 8 203 [.val (.int p0), .val (.int p1), .val (.int p2), .val (.int p3), .val (.ref a2), .val (.int v80), .val (.int v81), .unset, .unset] [(.int z98)]
          refine W.ifc C m0_203 ?_ ?_
          · intro (h203 : z98.toInt = (0 : Int))
            refine W.iconst C m0_212 (z := (-1 : Int32)) rfl ?_
            refine W.istore C m0_213 (L' := [.val (.int p0), .val (.int p1), .val (.int p2), .val (.int p3), .val (.ref a2), .val (.int v80), .val (.int v81), .val (.int (-1 : Int32)), .unset]) rfl ?_
            refine W.aload C m0_215 rfl rfl ?_
            refine W.iload C m0_217 rfl ?_
            refine W.iload C m0_219 rfl ?_
            refine W.callS (y := y3) (wt := 0) C m0_221 (hw _ (List.mem_of_getElem? (i := 9) rfl)) (hw _ (List.mem_of_getElem? (i := 10) rfl)) (hw _ (List.mem_of_getElem? (i := 11) rfl)) (hw _ (List.mem_of_getElem? (i := 12) rfl)) (by decide) pd3 rfl (own_he Z a0 hw a2 v80 v81 BS fi h75 n0 AB hBL hfi.1 hfi.2 hti.2) (as' := [(.ref a2), (.int v80), (.int v81)]) (rest := []) rfl rfl (Nat.le_of_eq rfl) (by decide) (by decide) (by decide) (by decide) ?_
            intro r105 h103 q104
            obtain ⟨rfl, r102, rfl, hr102⟩ := q104
            show W κ n0 Qx h75 1 8 224 [.val (.int p0), .val (.int p1), .val (.int p2), .val (.int p3), .val (.ref a2), .val (.int v80), .val (.int v81), .val (.int (-1 : Int32)), .unset] [(.int r102)]
            refine W.istore C m0_224 (L' := [.val (.int p0), .val (.int p1), .val (.int p2), .val (.int p3), .val (.ref a2), .val (.int v80), .val (.int v81), .val (.int (-1 : Int32)), .val (.int r102)]) rfl ?_
            refine W.iload C m0_226 rfl ?_
            refine W.iload C m0_228 rfl ?_
            refine W.icmp C m0_230 ?_ ?_
            · intro (h230 : ¬ r102.toInt = (-1 : Int))
              refine W.iconst C m0_237 (z := (0 : Int32)) rfl ?_
              refine W.zreturn C m0_238 (hQ _ _ ?_)
              exfalso
              rcases hr102 with ⟨r1, r2⟩ | ⟨k, r1, r2, r3, r4, r5⟩
              · omega
              · obtain rfl | rfl | rfl | rfl | rfl : k = 0 ∨ k = 1 ∨ k = 2 ∨ k = 3 ∨ k = 4 := by omega
                · rcases hz82 with ⟨q1, q2⟩ | ⟨q1, q2⟩
                  · omega
                  · exact q2 ⟨r2, r3, r4⟩
                · rcases hz86 with ⟨q1, q2⟩ | ⟨q1, q2⟩
                  · omega
                  · exact q2 ⟨r2, r3, r4⟩
                · rcases hz90 with ⟨q1, q2⟩ | ⟨q1, q2⟩
                  · omega
                  · exact q2 ⟨r2, r3, r4⟩
                · rcases hz94 with ⟨q1, q2⟩ | ⟨q1, q2⟩
                  · omega
                  · exact q2 ⟨r2, r3, r4⟩
                · rcases hz98 with ⟨q1, q2⟩ | ⟨q1, q2⟩
                  · omega
                  · exact q2 ⟨r2, r3, r4⟩
            · intro (h230 : ¬ ¬ r102.toInt = (-1 : Int))
              replace h230 := Decidable.not_not.mp h230
              refine W.iconst C m0_233 (z := (1 : Int32)) rfl ?_
              refine W.goto C m0_234 ?_
              refine W.zreturn C m0_238 (hQ _ _ ?_)
              exact rfl
          · intro (h203 : ¬ (z98.toInt = (0 : Int)))
            refine W.iconst C m0_206 (z := (4 : Int32)) rfl ?_
            refine W.istore C m0_207 (L' := [.val (.int p0), .val (.int p1), .val (.int p2), .val (.int p3), .val (.ref a2), .val (.int v80), .val (.int v81), .val (.int (4 : Int32)), .unset]) rfl ?_
            refine W.goto C m0_209 ?_
            refine W.aload C m0_215 rfl rfl ?_
            refine W.iload C m0_217 rfl ?_
            refine W.iload C m0_219 rfl ?_
            refine W.callS (y := y3) (wt := 0) C m0_221 (hw _ (List.mem_of_getElem? (i := 9) rfl)) (hw _ (List.mem_of_getElem? (i := 10) rfl)) (hw _ (List.mem_of_getElem? (i := 11) rfl)) (hw _ (List.mem_of_getElem? (i := 12) rfl)) (by decide) pd3 rfl (own_he Z a0 hw a2 v80 v81 BS fi h75 n0 AB hBL hfi.1 hfi.2 hti.2) (as' := [(.ref a2), (.int v80), (.int v81)]) (rest := []) rfl rfl (Nat.le_of_eq rfl) (by decide) (by decide) (by decide) (by decide) ?_
            intro r105 h103 q104
            obtain ⟨rfl, r102, rfl, hr102⟩ := q104
            show W κ n0 Qx h75 1 8 224 [.val (.int p0), .val (.int p1), .val (.int p2), .val (.int p3), .val (.ref a2), .val (.int v80), .val (.int v81), .val (.int (4 : Int32)), .unset] [(.int r102)]
            refine W.istore C m0_224 (L' := [.val (.int p0), .val (.int p1), .val (.int p2), .val (.int p3), .val (.ref a2), .val (.int v80), .val (.int v81), .val (.int (4 : Int32)), .val (.int r102)]) rfl ?_
            refine W.iload C m0_226 rfl ?_
            refine W.iload C m0_228 rfl ?_
            refine W.icmp C m0_230 ?_ ?_
            · intro (h230 : ¬ r102.toInt = (4 : Int))
              refine W.iconst C m0_237 (z := (0 : Int32)) rfl ?_
              refine W.zreturn C m0_238 (hQ _ _ ?_)
              exfalso
              rcases hr102 with ⟨r1, r2⟩ | ⟨k, r1, r2, r3, r4, r5⟩
              · rcases hz98 with ⟨q1, q2, q3, q4⟩ | ⟨q1, q2⟩
                · exact r2 4 q2 q3 q4
                · omega
              · obtain rfl | rfl | rfl | rfl | rfl : k = 0 ∨ k = 1 ∨ k = 2 ∨ k = 3 ∨ k = 4 := by omega
                · rcases hz82 with ⟨q1, q2⟩ | ⟨q1, q2⟩
                  · omega
                  · exact q2 ⟨r2, r3, r4⟩
                · rcases hz86 with ⟨q1, q2⟩ | ⟨q1, q2⟩
                  · omega
                  · exact q2 ⟨r2, r3, r4⟩
                · rcases hz90 with ⟨q1, q2⟩ | ⟨q1, q2⟩
                  · omega
                  · exact q2 ⟨r2, r3, r4⟩
                · rcases hz94 with ⟨q1, q2⟩ | ⟨q1, q2⟩
                  · omega
                  · exact q2 ⟨r2, r3, r4⟩
                · omega
            · intro (h230 : ¬ ¬ r102.toInt = (4 : Int))
              replace h230 := Decidable.not_not.mp h230
              refine W.iconst C m0_233 (z := (1 : Int32)) rfl ?_
              refine W.goto C m0_234 ?_
              refine W.zreturn C m0_238 (hQ _ _ ?_)
              exact rfl
        · intro (h184 : ¬ (z94.toInt = (0 : Int)))
          refine W.iconst C m0_187 (z := (3 : Int32)) rfl ?_
          refine W.istore C m0_188 (L' := [.val (.int p0), .val (.int p1), .val (.int p2), .val (.int p3), .val (.ref a2), .val (.int v80), .val (.int v81), .val (.int (3 : Int32)), .unset]) rfl ?_
          refine W.goto C m0_190 ?_
          refine W.aload C m0_215 rfl rfl ?_
          refine W.iload C m0_217 rfl ?_
          refine W.iload C m0_219 rfl ?_
          refine W.callS (y := y3) (wt := 0) C m0_221 (hw _ (List.mem_of_getElem? (i := 9) rfl)) (hw _ (List.mem_of_getElem? (i := 10) rfl)) (hw _ (List.mem_of_getElem? (i := 11) rfl)) (hw _ (List.mem_of_getElem? (i := 12) rfl)) (by decide) pd3 rfl (own_he Z a0 hw a2 v80 v81 BS fi h75 n0 AB hBL hfi.1 hfi.2 hti.2) (as' := [(.ref a2), (.int v80), (.int v81)]) (rest := []) rfl rfl (Nat.le_of_eq rfl) (by decide) (by decide) (by decide) (by decide) ?_
          intro r101 h99 q100
          obtain ⟨rfl, r98, rfl, hr98⟩ := q100
          show W κ n0 Qx h75 1 8 224 [.val (.int p0), .val (.int p1), .val (.int p2), .val (.int p3), .val (.ref a2), .val (.int v80), .val (.int v81), .val (.int (3 : Int32)), .unset] [(.int r98)]
          refine W.istore C m0_224 (L' := [.val (.int p0), .val (.int p1), .val (.int p2), .val (.int p3), .val (.ref a2), .val (.int v80), .val (.int v81), .val (.int (3 : Int32)), .val (.int r98)]) rfl ?_
          refine W.iload C m0_226 rfl ?_
          refine W.iload C m0_228 rfl ?_
          refine W.icmp C m0_230 ?_ ?_
          · intro (h230 : ¬ r98.toInt = (3 : Int))
            refine W.iconst C m0_237 (z := (0 : Int32)) rfl ?_
            refine W.zreturn C m0_238 (hQ _ _ ?_)
            exfalso
            rcases hr98 with ⟨r1, r2⟩ | ⟨k, r1, r2, r3, r4, r5⟩
            · rcases hz94 with ⟨q1, q2, q3, q4⟩ | ⟨q1, q2⟩
              · exact r2 3 q2 q3 q4
              · omega
            · obtain rfl | rfl | rfl | rfl | rfl : k = 0 ∨ k = 1 ∨ k = 2 ∨ k = 3 ∨ k = 4 := by omega
              · rcases hz82 with ⟨q1, q2⟩ | ⟨q1, q2⟩
                · omega
                · exact q2 ⟨r2, r3, r4⟩
              · rcases hz86 with ⟨q1, q2⟩ | ⟨q1, q2⟩
                · omega
                · exact q2 ⟨r2, r3, r4⟩
              · rcases hz90 with ⟨q1, q2⟩ | ⟨q1, q2⟩
                · omega
                · exact q2 ⟨r2, r3, r4⟩
              · omega
              · rcases hz94 with ⟨q1, q2, q3, q4⟩ | ⟨q1, q2⟩
                · exact r5 3 q2 (by decide) q4
                · omega
          · intro (h230 : ¬ ¬ r98.toInt = (3 : Int))
            replace h230 := Decidable.not_not.mp h230
            refine W.iconst C m0_233 (z := (1 : Int32)) rfl ?_
            refine W.goto C m0_234 ?_
            refine W.zreturn C m0_238 (hQ _ _ ?_)
            exact rfl
      · intro (h165 : ¬ (z90.toInt = (0 : Int)))
        refine W.iconst C m0_168 (z := (2 : Int32)) rfl ?_
        refine W.istore C m0_169 (L' := [.val (.int p0), .val (.int p1), .val (.int p2), .val (.int p3), .val (.ref a2), .val (.int v80), .val (.int v81), .val (.int (2 : Int32)), .unset]) rfl ?_
        refine W.goto C m0_171 ?_
        refine W.aload C m0_215 rfl rfl ?_
        refine W.iload C m0_217 rfl ?_
        refine W.iload C m0_219 rfl ?_
        refine W.callS (y := y3) (wt := 0) C m0_221 (hw _ (List.mem_of_getElem? (i := 9) rfl)) (hw _ (List.mem_of_getElem? (i := 10) rfl)) (hw _ (List.mem_of_getElem? (i := 11) rfl)) (hw _ (List.mem_of_getElem? (i := 12) rfl)) (by decide) pd3 rfl (own_he Z a0 hw a2 v80 v81 BS fi h75 n0 AB hBL hfi.1 hfi.2 hti.2) (as' := [(.ref a2), (.int v80), (.int v81)]) (rest := []) rfl rfl (Nat.le_of_eq rfl) (by decide) (by decide) (by decide) (by decide) ?_
        intro r97 h95 q96
        obtain ⟨rfl, r94, rfl, hr94⟩ := q96
        show W κ n0 Qx h75 1 8 224 [.val (.int p0), .val (.int p1), .val (.int p2), .val (.int p3), .val (.ref a2), .val (.int v80), .val (.int v81), .val (.int (2 : Int32)), .unset] [(.int r94)]
        refine W.istore C m0_224 (L' := [.val (.int p0), .val (.int p1), .val (.int p2), .val (.int p3), .val (.ref a2), .val (.int v80), .val (.int v81), .val (.int (2 : Int32)), .val (.int r94)]) rfl ?_
        refine W.iload C m0_226 rfl ?_
        refine W.iload C m0_228 rfl ?_
        refine W.icmp C m0_230 ?_ ?_
        · intro (h230 : ¬ r94.toInt = (2 : Int))
          refine W.iconst C m0_237 (z := (0 : Int32)) rfl ?_
          refine W.zreturn C m0_238 (hQ _ _ ?_)
          exfalso
          rcases hr94 with ⟨r1, r2⟩ | ⟨k, r1, r2, r3, r4, r5⟩
          · rcases hz90 with ⟨q1, q2, q3, q4⟩ | ⟨q1, q2⟩
            · exact r2 2 q2 q3 q4
            · omega
          · obtain rfl | rfl | rfl | rfl | rfl : k = 0 ∨ k = 1 ∨ k = 2 ∨ k = 3 ∨ k = 4 := by omega
            · rcases hz82 with ⟨q1, q2⟩ | ⟨q1, q2⟩
              · omega
              · exact q2 ⟨r2, r3, r4⟩
            · rcases hz86 with ⟨q1, q2⟩ | ⟨q1, q2⟩
              · omega
              · exact q2 ⟨r2, r3, r4⟩
            · omega
            · rcases hz90 with ⟨q1, q2, q3, q4⟩ | ⟨q1, q2⟩
              · exact r5 2 q2 (by decide) q4
              · omega
            · rcases hz90 with ⟨q1, q2, q3, q4⟩ | ⟨q1, q2⟩
              · exact r5 2 q2 (by decide) q4
              · omega
        · intro (h230 : ¬ ¬ r94.toInt = (2 : Int))
          replace h230 := Decidable.not_not.mp h230
          refine W.iconst C m0_233 (z := (1 : Int32)) rfl ?_
          refine W.goto C m0_234 ?_
          refine W.zreturn C m0_238 (hQ _ _ ?_)
          exact rfl
    · intro (h146 : ¬ (z86.toInt = (0 : Int)))
      refine W.iconst C m0_149 (z := (1 : Int32)) rfl ?_
      refine W.istore C m0_150 (L' := [.val (.int p0), .val (.int p1), .val (.int p2), .val (.int p3), .val (.ref a2), .val (.int v80), .val (.int v81), .val (.int (1 : Int32)), .unset]) rfl ?_
      refine W.goto C m0_152 ?_
      refine W.aload C m0_215 rfl rfl ?_
      refine W.iload C m0_217 rfl ?_
      refine W.iload C m0_219 rfl ?_
      refine W.callS (y := y3) (wt := 0) C m0_221 (hw _ (List.mem_of_getElem? (i := 9) rfl)) (hw _ (List.mem_of_getElem? (i := 10) rfl)) (hw _ (List.mem_of_getElem? (i := 11) rfl)) (hw _ (List.mem_of_getElem? (i := 12) rfl)) (by decide) pd3 rfl (own_he Z a0 hw a2 v80 v81 BS fi h75 n0 AB hBL hfi.1 hfi.2 hti.2) (as' := [(.ref a2), (.int v80), (.int v81)]) (rest := []) rfl rfl (Nat.le_of_eq rfl) (by decide) (by decide) (by decide) (by decide) ?_
      intro r93 h91 q92
      obtain ⟨rfl, r90, rfl, hr90⟩ := q92
      show W κ n0 Qx h75 1 8 224 [.val (.int p0), .val (.int p1), .val (.int p2), .val (.int p3), .val (.ref a2), .val (.int v80), .val (.int v81), .val (.int (1 : Int32)), .unset] [(.int r90)]
      refine W.istore C m0_224 (L' := [.val (.int p0), .val (.int p1), .val (.int p2), .val (.int p3), .val (.ref a2), .val (.int v80), .val (.int v81), .val (.int (1 : Int32)), .val (.int r90)]) rfl ?_
      refine W.iload C m0_226 rfl ?_
      refine W.iload C m0_228 rfl ?_
      refine W.icmp C m0_230 ?_ ?_
      · intro (h230 : ¬ r90.toInt = (1 : Int))
        refine W.iconst C m0_237 (z := (0 : Int32)) rfl ?_
        refine W.zreturn C m0_238 (hQ _ _ ?_)
        exfalso
        rcases hr90 with ⟨r1, r2⟩ | ⟨k, r1, r2, r3, r4, r5⟩
        · rcases hz86 with ⟨q1, q2, q3, q4⟩ | ⟨q1, q2⟩
          · exact r2 1 q2 q3 q4
          · omega
        · obtain rfl | rfl | rfl | rfl | rfl : k = 0 ∨ k = 1 ∨ k = 2 ∨ k = 3 ∨ k = 4 := by omega
          · rcases hz82 with ⟨q1, q2⟩ | ⟨q1, q2⟩
            · omega
            · exact q2 ⟨r2, r3, r4⟩
          · omega
          · rcases hz86 with ⟨q1, q2, q3, q4⟩ | ⟨q1, q2⟩
            · exact r5 1 q2 (by decide) q4
            · omega
          · rcases hz86 with ⟨q1, q2, q3, q4⟩ | ⟨q1, q2⟩
            · exact r5 1 q2 (by decide) q4
            · omega
          · rcases hz86 with ⟨q1, q2, q3, q4⟩ | ⟨q1, q2⟩
            · exact r5 1 q2 (by decide) q4
            · omega
      · intro (h230 : ¬ ¬ r90.toInt = (1 : Int))
        replace h230 := Decidable.not_not.mp h230
        refine W.iconst C m0_233 (z := (1 : Int32)) rfl ?_
        refine W.goto C m0_234 ?_
        refine W.zreturn C m0_238 (hQ _ _ ?_)
        exact rfl
  · intro (h127 : ¬ (z82.toInt = (0 : Int)))
    refine W.iconst C m0_130 (z := (0 : Int32)) rfl ?_
    refine W.istore C m0_131 (L' := [.val (.int p0), .val (.int p1), .val (.int p2), .val (.int p3), .val (.ref a2), .val (.int v80), .val (.int v81), .val (.int (0 : Int32)), .unset]) rfl ?_
    refine W.goto C m0_133 ?_
    refine W.aload C m0_215 rfl rfl ?_
    refine W.iload C m0_217 rfl ?_
    refine W.iload C m0_219 rfl ?_
    refine W.callS (y := y3) (wt := 0) C m0_221 (hw _ (List.mem_of_getElem? (i := 9) rfl)) (hw _ (List.mem_of_getElem? (i := 10) rfl)) (hw _ (List.mem_of_getElem? (i := 11) rfl)) (hw _ (List.mem_of_getElem? (i := 12) rfl)) (by decide) pd3 rfl (own_he Z a0 hw a2 v80 v81 BS fi h75 n0 AB hBL hfi.1 hfi.2 hti.2) (as' := [(.ref a2), (.int v80), (.int v81)]) (rest := []) rfl rfl (Nat.le_of_eq rfl) (by decide) (by decide) (by decide) (by decide) ?_
    intro r89 h87 q88
    obtain ⟨rfl, r86, rfl, hr86⟩ := q88
    show W κ n0 Qx h75 1 8 224 [.val (.int p0), .val (.int p1), .val (.int p2), .val (.int p3), .val (.ref a2), .val (.int v80), .val (.int v81), .val (.int (0 : Int32)), .unset] [(.int r86)]
    refine W.istore C m0_224 (L' := [.val (.int p0), .val (.int p1), .val (.int p2), .val (.int p3), .val (.ref a2), .val (.int v80), .val (.int v81), .val (.int (0 : Int32)), .val (.int r86)]) rfl ?_
    refine W.iload C m0_226 rfl ?_
    refine W.iload C m0_228 rfl ?_
    refine W.icmp C m0_230 ?_ ?_
    · intro (h230 : ¬ r86.toInt = (0 : Int))
      refine W.iconst C m0_237 (z := (0 : Int32)) rfl ?_
      refine W.zreturn C m0_238 (hQ _ _ ?_)
      exfalso
      rcases hr86 with ⟨r1, r2⟩ | ⟨k, r1, r2, r3, r4, r5⟩
      · rcases hz82 with ⟨q1, q2, q3, q4⟩ | ⟨q1, q2⟩
        · exact r2 0 q2 q3 q4
        · omega
      · obtain rfl | rfl | rfl | rfl | rfl : k = 0 ∨ k = 1 ∨ k = 2 ∨ k = 3 ∨ k = 4 := by omega
        · omega
        · rcases hz82 with ⟨q1, q2, q3, q4⟩ | ⟨q1, q2⟩
          · exact r5 0 q2 (by decide) q4
          · omega
        · rcases hz82 with ⟨q1, q2, q3, q4⟩ | ⟨q1, q2⟩
          · exact r5 0 q2 (by decide) q4
          · omega
        · rcases hz82 with ⟨q1, q2, q3, q4⟩ | ⟨q1, q2⟩
          · exact r5 0 q2 (by decide) q4
          · omega
        · rcases hz82 with ⟨q1, q2, q3, q4⟩ | ⟨q1, q2⟩
          · exact r5 0 q2 (by decide) q4
          · omega
    · intro (h230 : ¬ ¬ r86.toInt = (0 : Int))
      replace h230 := Decidable.not_not.mp h230
      refine W.iconst C m0_233 (z := (1 : Int32)) rfl ?_
      refine W.goto C m0_234 ?_
      refine W.zreturn C m0_238 (hQ _ _ ?_)
      exact rfl
set_option maxRecDepth 65536 in
set_option maxHeartbeats 4000000 in
theorem comes_1 {Post : Tables → Env → Array Value → State → Outcome → State → Prop} (hpost : ∀ tb e args s v u, (limb_1_1.after args s (.returned v) u = true ∧ limb_1_2.after args s (.returned v) u = true ∧ True) → FrameEnd s (.returned v) u (Jvm.fieldLocs frame_1_writes args s ++ Jvm.arrayLocs frame_1_arrays args s ++ Jvm.staticLocs frame_1_statics s) 16 128 → Post tb e args s (.returned v) u) :
    ArmFor flags0 classFile x code maxLocals ret World_1 tables_1 room_1 Calls_1 rest_1 Pre_1 Post := by
  intro l hfl _ _ p e ha hc hk s m args below hf hA hF happ hP
  obtain ⟨hcalls, hrest, hpre⟩ := hP
  obtain ⟨-, -, -, hnamed, -, -, -, hat⟩ := (Spec.applies_iff hf).mp happ
  obtain ⟨hg, hn⟩ := and_e (Cond.before_iff.mp (show (Jvm.Cond.and given_1 narrow_1).before args s = true from hpre))
  obtain ⟨hcount, hg0⟩ := and_e hg
  obtain ⟨ha0, hg1⟩ := and_e hg0
  obtain ⟨ha1, hg2⟩ := and_e hg1
  obtain ⟨ha2, hg3⟩ := and_e hg2
  have ha3 := hg3
  obtain ⟨w0, w1, w2, w3, rfl⟩ : ∃ w0 w1 w2 w3 : Value, args = #[w0, w1, w2, w3] := by
    have hs : args.size = 4 := by simpa [Cond.value, given_1] using hcount
    obtain ⟨L⟩ := args
    match L, hs with
    | [w0, w1, w2, w3], _ => exact ⟨w0, w1, w2, w3, rfl⟩
  have hw := fun d (hd : d ∈ tables_1) => atoms_spec (ws := Jvm.Cond.code x code maxLocals ret :: tables_1) hat d (List.mem_cons_of_mem _ hd)
  obtain ⟨i0, ei0⟩ := is_v ha0
  obtain rfl : w0 = (.int i0) := Option.some.inj ei0
  obtain ⟨i1, ei1⟩ := is_v ha1
  obtain rfl : w1 = (.int i1) := Option.some.inj ei1
  obtain ⟨i2, ei2⟩ := is_v ha2
  obtain rfl : w2 = (.int i2) := Option.some.inj ei2
  obtain ⟨i3, ei3⟩ := is_v ha3
  obtain rfl : w3 = (.int i3) := Option.some.inj ei3
  obtain ⟨n, o, h1, h2, h3, _, L, rfl, ⟨rfl, N⟩, hq⟩ := own_law s _ hw i0 i1 i2 i3 s.heap s.heap.size (Nat.le_refl _) l tables_1 p e ha hc hk s m _ below hf ((Spec.applies_iff_loose hf).mp happ).1 ⟨rfl, State.Warmed39.refl s, rfl⟩ trivial
  refine ⟨n, _, h1, h2, h3, hpost _ _ _ _ _ _ ⟨Cond.after_iff.mpr rfl, Cond.after_iff.mpr (eq_i res_at (Term.int_eval (1)) rfl), trivial⟩ ⟨hq.1, hq.2.1, (hq.2.2.sift fun y hy => Or.inr (N y hy)).mono (by decide) (by decide)⟩⟩
theorem main_1_1 : Claimed_1_1 := comes_1 fun _ _ _ _ _ _ h hF => ⟨h.1, hF⟩
theorem main_1_2 : Claimed_1_2 := comes_1 fun _ _ _ _ _ _ h hF => ⟨h.2.1, hF⟩
end Jvm.Pilot.@@N@@
namespace Jvm.Pilot.@@N@@
open Jvm Jvm.ClassFile Sem Op Lib Jvm.Free Jvm.Stand Jvm.Pilot.@@N@@.Jvm.D
/-! MADE BY PROGRAM (witnessworld.py) out of the Statement's table words and the real class files: 9 classes; the members and pool entries that the words name. The judged class is class 1, her method 3. -/
namespace start1
open Jvm.ClassFile
def u (s : String) : CpInfo := .utf8 (stringToUtf16 s)
/-- a pool by its gaps: so many unusable entries, then the entry; so many at the end -/
def gap : Nat → List CpInfo → List CpInfo
  | 0, r => r
  | n + 1, r => .unusable :: gap n r
def poolList (es : List (Nat × CpInfo)) (last : Nat) : List CpInfo := es.foldr (fun e r => gap e.1 (e.2 :: r)) (gap last [])
def pool (es : List (Nat × CpInfo)) (last : Nat) : Array CpInfo := ⟨poolList es last⟩
def fileOf (pool : Array CpInfo) (this : Nat) (attrs : Array Attribute := #[]) (ms : Array MethodInfo := #[]) (fl : Nat := 33) (sup : Nat := 0) (ifs : Array Nat := #[]) (fds : Array FieldInfo := #[]) : ClassFile where
  minorVersion := 0
  majorVersion := 65
  constantPool := pool
  accessFlags := fl
  thisClass := this
  superClass := sup
  interfaces := ifs
  fields := fds
  methods := ms
  attributes := attrs
def plain (name : String) (sup : Option ClassId) : Class where
  name := name
  kind := .ordinary
  loader := none
  accessFlags := 33
  super := sup
  interfaces := #[]
  cf := none
  fields := #[]
  methods := #[]
  instanceTypes := #[]
  staticTypes := #[]
  resolved := #[]
  callSites := []
  init := .initialized
  statics := none
  mirror := none

def pool0 : Array CpInfo := pool [(5, u "<init>"), (0, u "()V"), (1, .class_ 10), (1, u "java/lang/Object")] 113

def k0m0 : Method := { name := "<init>", desc := "()V", sig := { parameters := [], returnType := none }, accessFlags := 1, code := none }
/-- java/lang/Object -/
def k0 : Class := { plain "java/lang/Object" none with
  accessFlags := 33
  interfaces := #[]
  cf := some (fileOf pool0 8 #[] #[{ accessFlags := 1, nameIndex := 5, descriptorIndex := 6, attributes := #[] }] 33 0 #[] #[])
  fields := #[]
  methods := #[k0m0]
  instanceTypes := #[]
  staticTypes := #[]
  resolved := Array.replicate 124 none
  statics := none }

def pool1 : Array CpInfo := pool [(2, .class_ 4), (1, u "java/lang/Object"), (0, u "<init>"), (0, u "()V"), (0, .methodref 8 9), (0, .class_ 10), (0, .nameAndType 11 12), (0, u "com/example/hearts_content/heartscontent/websocket/UpgradeHeadEndPinLaw"), (0, u "pick"), (0, u "(II)B"), (0, .integer 2147483647), (0, .methodref 8 15), (0, .nameAndType 16 17), (0, u "endsAt"), (0, u "([BIII)Z"), (0, .methodref 19 20), (0, .class_ 21), (0, .nameAndType 22 23), (0, u "com/example/hearts_content/heartscontent/websocket/Upgrade"), (0, u "headEnd"), (0, u "([BII)I"), (3, u "law"), (0, u "(IIII)Z")] 4

def k1m0 : Method := { name := "<init>", desc := "()V", sig := { parameters := [], returnType := none }, accessFlags := 2, code := none }
def k1c1 : Code := { maxStack := 2, maxLocals := 3, code := method_2_code, exceptionTable := #[], attributes := #[] }
def k1m1 : Method := { name := "pick", desc := "(II)B", sig := { parameters := [.int, .int], returnType := some .byte }, accessFlags := 10, code := some k1c1 }
def k1c2 : Code := { maxStack := 3, maxLocals := 4, code := method_3_code, exceptionTable := #[], attributes := #[] }
def k1m2 : Method := { name := "endsAt", desc := "([BIII)Z", sig := { parameters := [(.array .byte), .int, .int, .int], returnType := some .boolean }, accessFlags := 10, code := some k1c2 }
def k1c3 : Code := { maxStack := 4, maxLocals := 9, code := code, exceptionTable := #[], attributes := #[] }
def k1m3 : Method := { name := "law", desc := "(IIII)Z", sig := { parameters := [.int, .int, .int, .int], returnType := some .boolean }, accessFlags := 9, code := some k1c3 }
/-- com/example/hearts_content/heartscontent/websocket/UpgradeHeadEndPinLaw -/
def k1 : Class := { plain "com/example/hearts_content/heartscontent/websocket/UpgradeHeadEndPinLaw" (some 0) with
  accessFlags := 49
  interfaces := #[]
  cf := some (fileOf pool1 8 #[] #[{ accessFlags := 2, nameIndex := 5, descriptorIndex := 6, attributes := #[] }, { accessFlags := 10, nameIndex := 11, descriptorIndex := 12, attributes := #[] }, { accessFlags := 10, nameIndex := 16, descriptorIndex := 17, attributes := #[] }, { accessFlags := 9, nameIndex := 27, descriptorIndex := 28, attributes := #[] }] 49 2 #[] #[])
  fields := #[]
  methods := #[k1m0, k1m1, k1m2, k1m3]
  instanceTypes := #[]
  staticTypes := #[]
  resolved := Array.replicate 33 none
  statics := none }

def pool2 : Array CpInfo := pool [(2, .class_ 4), (1, u "java/lang/Object"), (0, u "<init>"), (0, u "()V"), (1, .class_ 10), (1, u "com/example/hearts_content/heartscontent/websocket/Upgrade"), (0, u "SHA_1"), (0, u "Ljava/lang/ThreadLocal;"), (74, u "VERSION"), (0, u "Ljava/lang/String;"), (3, u "HEAD_END_BYTES"), (0, u "I"), (1, u "ACCEPT_GUID"), (2, u "KEY_BYTES"), (9, u "headEnd"), (0, u "([BII)I"), (6, .class_ 117), (0, u "com/example/hearts_content/heartscontent/websocket/Upgrade$Head")] 30

def k2m0 : Method := { name := "<init>", desc := "()V", sig := { parameters := [], returnType := none }, accessFlags := 2, code := none }
def k2c1 : Code := { maxStack := 3, maxLocals := 5, code := prog_28_method_4_code, exceptionTable := #[], attributes := #[] }
def k2m1 : Method := { name := "headEnd", desc := "([BII)I", sig := { parameters := [(.array .byte), .int, .int], returnType := some .int }, accessFlags := 9, code := some k2c1 }
/-- com/example/hearts_content/heartscontent/websocket/Upgrade -/
def k2 : Class := { plain "com/example/hearts_content/heartscontent/websocket/Upgrade" (some 0) with
  accessFlags := 49
  interfaces := #[]
  cf := some (fileOf pool2 8 #[.nestMembers #[116]] #[{ accessFlags := 2, nameIndex := 5, descriptorIndex := 6, attributes := #[] }, { accessFlags := 9, nameIndex := 108, descriptorIndex := 109, attributes := #[] }] 49 2 #[] #[{ accessFlags := 25, nameIndex := 87, descriptorIndex := 88, attributes := #[] }, { accessFlags := 25, nameIndex := 92, descriptorIndex := 93, attributes := #[] }, { accessFlags := 26, nameIndex := 95, descriptorIndex := 88, attributes := #[] }, { accessFlags := 26, nameIndex := 98, descriptorIndex := 93, attributes := #[] }, { accessFlags := 26, nameIndex := 11, descriptorIndex := 12, attributes := #[] }])
  fields := #[{ name := "VERSION", type := (.object "java/lang/String"), accessFlags := 25, slot := 0, constantValue := 0 }, { name := "HEAD_END_BYTES", type := .int, accessFlags := 25, slot := 1, constantValue := 0 }, { name := "ACCEPT_GUID", type := (.object "java/lang/String"), accessFlags := 26, slot := 2, constantValue := 0 }, { name := "KEY_BYTES", type := .int, accessFlags := 26, slot := 3, constantValue := 0 }, { name := "SHA_1", type := (.object "java/lang/ThreadLocal"), accessFlags := 26, slot := 4, constantValue := 0 }]
  methods := #[k2m0, k2m1]
  instanceTypes := #[]
  staticTypes := #[(.object "java/lang/String"), .int, (.object "java/lang/String"), .int, (.object "java/lang/ThreadLocal")]
  resolved := Array.replicate 148 none
  statics := none }

def pool3 : Array CpInfo := pool [(1, u "java/lang/Cloneable"), (0, .class_ 1), (0, u "java/lang/Object"), (0, .class_ 3)] 3

/-- java/lang/Cloneable -/
def k3 : Class := { plain "java/lang/Cloneable" (some 0) with
  accessFlags := 1537
  interfaces := #[]
  cf := some (fileOf pool3 2 #[] #[] 1537 4 #[] #[])
  fields := #[]
  methods := #[]
  instanceTypes := #[]
  staticTypes := #[]
  resolved := Array.replicate 8 none
  statics := none }

def pool4 : Array CpInfo := pool [(1, u "java/io/Serializable"), (0, .class_ 1), (0, u "java/lang/Object"), (0, .class_ 3)] 3

/-- java/io/Serializable -/
def k4 : Class := { plain "java/io/Serializable" (some 0) with
  accessFlags := 1537
  interfaces := #[]
  cf := some (fileOf pool4 2 #[] #[] 1537 4 #[] #[])
  fields := #[]
  methods := #[]
  instanceTypes := #[]
  staticTypes := #[]
  resolved := Array.replicate 8 none
  statics := none }

/-- the primitive byte -/
def k5 : Class := { plain "byte" none with kind := .primitive 'B', accessFlags := 0x411 }
/-- [B -/
def k6 : Class := { plain "[B" (some 0) with kind := .array 5 .byte, interfaces := #[3, 4], accessFlags := 1041 }

/-- the primitive int -/
def k7 : Class := { plain "int" none with kind := .primitive 'I', accessFlags := 0x411 }
/-- [I -/
def k8 : Class := { plain "[I" (some 0) with kind := .array 7 .int, interfaces := #[3, 4], accessFlags := 1041 }

def heap : Heap := #[]
def classes : Array Class := #[k0, k1, k2, k3, k4, k5, k6, k7, k8]
def interned : List (Array UInt16 × Addr) := []
def slotsUsed : Nat := 0
def theMethod : MethodId := ⟨1, 3⟩
def args0 : Array Value := #[.int 5, .int 2, .int 3, .int 4]
def aboutOver (below : List Frame) : State where
  vm := { classes := classes, interned := interned.toArray }
  heap := heap
  slotsUsed := slotsUsed
  threads := #[{ frames := .invoking theMethod args0 :: below }]
def below0 : List Frame := [.native { method := ⟨0, 0⟩, args := #[] }]
def about1 : State := aboutOver below0
def p0 : Program := .bare "" "" ""
def e0 : Env := launch0.env 0 0 0
theorem w_frames : about1.frames = Frame.invoking theMethod args0 :: below0 := rfl
set_option maxRecDepth 65536 in
theorem w_args : argsFit about1.vm theMethod args0 = true := by decide +kernel
set_option maxRecDepth 65536 in
theorem w_heap : heapFits about1 = true := by decide +kernel
set_option maxRecDepth 65536 in
theorem w_runnable : about1.curStatus? = some .runnable := by decide +kernel
set_option maxRecDepth 65536 in
theorem w_alone : about1.alone = true := by decide +kernel
set_option maxRecDepth 65536 in
theorem w_named : about1.methodNamed? x = some theMethod := by decide +kernel
set_option maxRecDepth 65536 in
theorem w_hears : about1.hears theMethod below0 = true := by decide +kernel
set_option maxRecDepth 65536 in
theorem w_ripe : about1.ripe theMethod args0 below0 = true := by decide +kernel
theorem w_running : about1.status = .running := rfl
set_option maxRecDepth 65536 in
theorem w_room : about1.hasRoom e0.platform room_1 = true :=
  launch0.hasRoom_least _ room_1 (by decide +kernel) (by decide +kernel) (by decide +kernel) (by decide +kernel) (by decide +kernel) (by decide +kernel)
theorem allAtoms_all (ts : List Jvm.Cond) (a : Array Jvm.Value) (st : Jvm.State) : (allAtoms ts).before a st = ts.all (fun c => c.before a st) := by
  induction ts with
  | nil => rfl
  | cons c t ih =>
    show (Jvm.Cond.and c (allAtoms t)).before a st = _
    rw [Jvm.Cond.before_and, ih, List.all_cons]
def words1 : List Jvm.Cond := Jvm.Cond.code x code maxLocals ret :: tables_1
/-- a 'code' word, met by the world's own term for the bytes: nothing is compared byte by byte -/
theorem code_word {y : MethodName} {bytes : ByteArray} {mx : Nat} {rt : Option FieldType} {a : Array Value} {s : State} {m : MethodId} {meth : Method} {c : Code} (h1 : s.methodNamed? y = some m) (h2 : s.vm.method? m = some meth) (h3 : meth.code = some c) (h4 : c.code = bytes)
    (h5 : (c.maxLocals == mx && c.exceptionTable.isEmpty && decide (c.maxStack ≤ mostOperands) && decide (meth.sig.returnType = rt) && !meth.locks && decide (parseMethodDescriptor y.desc = some meth.sig)) = true) : (Jvm.Cond.code y bytes mx rt).before a s = true := by
  simp only [Bool.and_eq_true, beq_iff_eq, Bool.not_eq_true', decide_eq_true_eq] at h5
  obtain ⟨⟨⟨⟨⟨g1, g2⟩, g3⟩, g4⟩, g5⟩, g6⟩ := h5
  simp [Cond.before, Cond.holds, Cond.value, h1, h2, h3, h4, g1, g2, g3, g4, g5, g6]
def isCode : Jvm.Cond → Bool
  | .code _ _ _ _ => true
  | _ => false
theorem all_split {L : List Jvm.Cond} {P : Jvm.Cond → Bool} (h1 : L.all (fun c => isCode c || P c) = true) (h2 : ∀ c ∈ L.filter isCode, P c = true) : L.all P = true := by
  refine List.all_eq_true.mpr fun c hc => ?_
  have h := List.all_eq_true.mp h1 c hc
  rcases Bool.eq_false_or_eq_true (isCode c) with hi | hi
  · exact h2 c (List.mem_filter.mpr ⟨hc, hi⟩)
  · simpa [hi] using h
set_option maxRecDepth 65536 in
theorem w_c0 : (Jvm.Cond.code x code maxLocals ret).before args0 about1 = true := code_word (m := ⟨1, 3⟩) (meth := k1m3) (c := k1c3) (by decide +kernel) rfl rfl rfl (by decide +kernel)
set_option maxRecDepth 65536 in
theorem w_c1 : (Jvm.Cond.code ({ cls := "com/example/hearts_content/heartscontent/websocket/UpgradeHeadEndPinLaw", name := "pick", desc := "(II)B" } : Jvm.MethodName) method_2_code (3 : Nat) (Option.some Jvm.ClassFile.FieldType.byte)).before args0 about1 = true := code_word (m := ⟨1, 1⟩) (meth := k1m1) (c := k1c1) (by decide +kernel) rfl rfl rfl (by decide +kernel)
set_option maxRecDepth 65536 in
theorem w_c2 : (Jvm.Cond.code ({ cls := "com/example/hearts_content/heartscontent/websocket/UpgradeHeadEndPinLaw", name := "endsAt", desc := "([BIII)Z" } : Jvm.MethodName) method_3_code (4 : Nat) (Option.some Jvm.ClassFile.FieldType.boolean)).before args0 about1 = true := code_word (m := ⟨1, 2⟩) (meth := k1m2) (c := k1c2) (by decide +kernel) rfl rfl rfl (by decide +kernel)
set_option maxRecDepth 65536 in
theorem w_c3 : (Jvm.Cond.code ({ cls := "com/example/hearts_content/heartscontent/websocket/Upgrade", name := "headEnd", desc := "([BII)I" } : Jvm.MethodName) prog_28_method_4_code (5 : Nat) (Option.some Jvm.ClassFile.FieldType.int)).before args0 about1 = true := code_word (m := ⟨2, 1⟩) (meth := k2m1) (c := k2c1) (by decide +kernel) rfl rfl rfl (by decide +kernel)
def codes1 : List Jvm.Cond := [Jvm.Cond.code x code maxLocals ret, Jvm.Cond.code ({ cls := "com/example/hearts_content/heartscontent/websocket/UpgradeHeadEndPinLaw", name := "pick", desc := "(II)B" } : Jvm.MethodName) method_2_code (3 : Nat) (Option.some Jvm.ClassFile.FieldType.byte), Jvm.Cond.code ({ cls := "com/example/hearts_content/heartscontent/websocket/UpgradeHeadEndPinLaw", name := "endsAt", desc := "([BIII)Z" } : Jvm.MethodName) method_3_code (4 : Nat) (Option.some Jvm.ClassFile.FieldType.boolean), Jvm.Cond.code ({ cls := "com/example/hearts_content/heartscontent/websocket/Upgrade", name := "headEnd", desc := "([BII)I" } : Jvm.MethodName) prog_28_method_4_code (5 : Nat) (Option.some Jvm.ClassFile.FieldType.int)]
set_option maxRecDepth 65536 in
theorem codes_eq : words1.filter isCode = codes1 := rfl
theorem w_codes : ∀ c ∈ words1.filter isCode, c.before args0 about1 = true := by
  rw [codes_eq]
  intro c hc
  simp only [codes1, List.mem_cons, List.not_mem_nil, or_false] at hc
  rcases hc with rfl | rfl | rfl | rfl
  · exact w_c0
  · exact w_c1
  · exact w_c2
  · exact w_c3
set_option maxRecDepth 65536 in
theorem w_t1 : words1.all (fun c => isCode c || c.before args0 about1) = true := by decide +kernel
theorem w_tables : (allAtoms (Jvm.Cond.code x code maxLocals ret :: tables_1)).before args0 about1 = true := by
  rw [allAtoms_all]
  show words1.all (fun c => c.before args0 about1) = true
  refine all_split ?_ w_codes
  rw [w_t1]
set_option maxRecDepth 65536 in
theorem w_case : (Jvm.Cond.and given_1 narrow_1).before args0 about1 = true := by decide +kernel
theorem w_applies : (headSpec (Jvm.Cond.code x code maxLocals ret :: tables_1) room_1).applies x e0.platform about1 = true :=
  (Spec.applies_iff w_frames).mpr ⟨w_running, w_runnable, w_alone, w_named, w_hears, w_ripe, w_room, w_tables⟩
theorem atStart : AtStart classFile x code maxLocals ret World_1 tables_1 room_1 Calls_1 rest_1 Pre_1 launch0 p0 e0 about1 theMethod args0 below0 :=
  ⟨lists_1, trivial, launch0.admits_env _ _ _, launch0.least_env, fairChoices_fair.cas, fairChoices_fair.clock, w_frames, w_args, w_heap, w_applies, trivial, trivial, w_case⟩
end start1
theorem witness_1 : WitnessClaimed_1 := ⟨start1.p0, start1.e0, start1.about1, start1.theMethod, start1.args0, start1.below0, start1.atStart⟩
end Jvm.Pilot.@@N@@
