import JvmDerived
import JvmDerived.Pilot.@@N@@Statement
import JvmDerived.Pilot.@@N@@Code
set_option linter.unusedVariables false
set_option linter.unusedSimpArgs false
namespace Jvm.Pilot.@@N@@
open Jvm Jvm.ClassFile Sem Op Lib Jvm.Free Jvm.Stand Jvm.LawKit Jvm.RoadKit Bundle Jvm.Pilot.@@N@@.Jvm.D
/-! ## THE W-KIT: W k n0 Q h cs sl pc L st: whoever stands (in the body that k tells of) over the heap h with locals L and stack st at pc comes to the body's end with Q -/
abbrev KT : Type := Program × Launch × Env × Room × State × MethodId × Array Value × List Frame × Method × Code
def Good (κ : KT) (R : Room) (Z : State) (own mnm : String) (bytes : ByteArray) (ml : Nat) (ret : Option FieldType) : Prop :=
  match κ with
  | (p, _, _, R', s, m, _, _, meth, c) => p.tables.exec = Jvm.exec ∧ Z.Warmed39 s.vm ∧ c.code = bytes ∧ c.maxLocals = ml ∧ s.vm.findClass own = some m.cls ∧ meth.sig.returnType = ret ∧ meth.locks = false ∧ meth.name = mnm ∧ R' = R
def W (κ : KT) (n0 : Nat) (Q : Option Value → Heap → Prop) (h : Heap) (cs sl pc : Nat) (L : List Slot) (st : List Value) : Prop :=
  match κ with
  | (p, l, e, R, s, m, args, below, meth, c) =>
    ∀ (T : State) (locs : List Loc), Stand p l e R s m args below meth c T locs cs sl → T.heap = h → Fr n0 locs → cs ≤ R.cells → sl ≤ R.slots →
      ∃ s₂ o, Steps p.tables e below (T.setTop (mkF m pc L.toArray st)) s₂ ∧ s₂.status = .running ∧ Ended s₂ below o ∧ ∃ v L', o = .returned v ∧ (Q v s₂.heap ∧ Fr n0 L') ∧ FrameEnd s o s₂ L' R.cells R.slots
/-- a callee's contract -/
def Con (Z : State) (y : MethodName) (bytes : ByteArray) (ml : Nat) (ret : Option FieldType) (rm : Room) (as' : List Value) (h0 : Heap) (n0 : Nat) (Q : Option Value → Heap → Prop) : Prop :=
  ∀ (l : Launch) (ws : List Jvm.Cond), MetFree l y (head1 (Jvm.Cond.code y bytes ml ret :: ws) rm) (fun a U => a = as'.toArray ∧ Z.Warmed39 U.vm ∧ U.heap = h0) (fun _ _ _ _ _ => True) (fun _ U o U' => ∃ v L, o = .returned v ∧ (Q v U'.heap ∧ Fr n0 L) ∧ FrameEnd U o U' L rm.cells rm.slots)
/-- an instruction: what stands at pc, its length, the pc behind -/
def Ins1 (b : ByteArray) (pc : Nat) (i : Instr) (len nx : Nat) : Prop := decode b pc = .ok (i, len) ∧ pc + len = nx
/-- a jump: what stands at pc, the pc behind, the pc to which it leads -/
def Jmp1 (b : ByteArray) (pc : Nat) (i : Instr) (o : Int) (nx tg : Nat) : Prop := decode b pc = .ok (i, 3) ∧ pc + 3 = nx ∧ 0 ≤ (pc : Int) + o ∧ ((pc : Int) + o).toNat = tg
def cmpP : ClassFile.Cond → Int32 → Int32 → Prop
  | .eq, x, y => x.toInt = y.toInt
  | .ne, x, y => ¬ x.toInt = y.toInt
  | .lt, x, y => x.toInt < y.toInt
  | .ge, x, y => y.toInt ≤ x.toInt
  | .gt, x, y => y.toInt < x.toInt
  | .le, x, y => x.toInt ≤ y.toInt
def cmp0 : ClassFile.Cond → Int32 → Prop
  | .eq, x => x.toInt = 0
  | .ne, x => ¬ x.toInt = 0
  | .lt, x => x.toInt < 0
  | .ge, x => 0 ≤ x.toInt
  | .gt, x => 0 < x.toInt
  | .le, x => x.toInt ≤ 0
def cmpL : ClassFile.Cond → Int64 → Int64 → Prop
  | .eq, x, y => x.toInt = y.toInt
  | .ne, x, y => ¬ x.toInt = y.toInt
  | .lt, x, y => x.toInt < y.toInt
  | .ge, x, y => y.toInt ≤ x.toInt
  | .gt, x, y => y.toInt < x.toInt
  | .le, x, y => x.toInt ≤ y.toInt
theorem cmpP_iff (cd : ClassFile.Cond) (x y : Int32) : if_icmp.holds cd x y = true ↔ cmpP cd x y := by
  cases cd <;> simp [if_icmp.holds, cmpP, Int32.lt_iff_toInt_lt, Int32.le_iff_toInt_le, Int32.toInt_inj]
theorem cmpP_no {cd : ClassFile.Cond} {x y : Int32} (h : ¬ cmpP cd x y) : if_icmp.holds cd x y = false := by
  cases q : if_icmp.holds cd x y with
  | false => rfl
  | true => exact absurd ((cmpP_iff _ _ _).mp q) h
theorem cmp0_iff (cd : ClassFile.Cond) (x : Int32) : cmpP cd x 0 ↔ cmp0 cd x := by
  cases cd <;> simp [cmpP, cmp0]
theorem cmpL_iff (cd : ClassFile.Cond) (x y : Int64) : cmp0 cd (if x > y then 1 else if x = y then 0 else -1) ↔ cmpL cd x y := by
  have hc := c_lcmp x y
  show cmp0 cd (lcmpW x y) ↔ _
  cases cd <;> simp only [cmp0, cmpL] <;> omega
section WKit
variable {κ : KT} {R : Room} {Z : State} {a0 : Array Value} {own mnm : String} {bytes : ByteArray} {ml : Nat} {ret : Option FieldType} {n0 : Nat} {Q : Option Value → Heap → Prop} {h : Heap} {cs sl pc nx tg : Nat} {L : List Slot} {st rest : List Value}
theorem W.pure {pc' : Nat} {L' : List Slot} {st' : List Value} (C : Good κ R Z own mnm bytes ml ret) (k : W κ n0 Q h cs sl pc' L' st')
    (hs : ∀ {p : Program} {e : Env} {below : List Frame} {T target : State} {m : MethodId} {c : Code}, At T m c below → p.tables.exec = Jvm.exec → c.code = bytes → Steps p.tables e below (T.setTop (mkF m pc' L'.toArray st')) target → Steps p.tables e below (T.setTop (mkF m pc L.toArray st)) target) : W κ n0 Q h cs sl pc L st := by
  obtain ⟨p, l, e, R', s, m, args, below, meth, c⟩ := κ
  obtain ⟨hx, -, hby, -⟩ := C
  intro T locs X eT N h1 h2
  obtain ⟨s₂, o, a, r⟩ := k T locs X eT N h1 h2
  exact ⟨s₂, o, hs X.here hx hby a, r⟩
/-- more room taken than made -/
theorem W.more {cs' sl' : Nat} (h1 : cs ≤ cs') (h2 : sl ≤ sl') (C : Good κ R Z own mnm bytes ml ret) (g1 : cs' ≤ R.cells) (g2 : sl' ≤ R.slots) (k : W κ n0 Q h cs' sl' pc L st) : W κ n0 Q h cs sl pc L st := by
  obtain ⟨p, l, e, R', s, m, args, below, meth, c⟩ := κ
  obtain ⟨-, -, -, -, -, -, -, -, rfl⟩ := C
  intro T locs X eT N _ _
  exact k T locs (X.more h1 h2) eT N g1 g2
theorem W.post {Q' : Option Value → Heap → Prop} (hq : ∀ v h, Q v h → Q' v h) (k : W κ n0 Q h cs sl pc L st) : W κ n0 Q' h cs sl pc L st := by
  obtain ⟨p, l, e, R', s, m, args, below, meth, c⟩ := κ
  intro T locs X eT N h1 h2
  obtain ⟨s₂, o, a, b, c, v, L', d, ⟨f, f'⟩, g⟩ := k T locs X eT N h1 h2
  exact ⟨s₂, o, a, b, c, v, L', d, ⟨hq _ _ f, f'⟩, g⟩

theorem W.iadd {x y z : Int32} (C : Good κ R Z own mnm bytes ml ret) (hd : Ins1 bytes pc .iadd 1 nx) (hz : x + y = z) (k : W κ n0 Q h cs sl nx L (.int z :: rest)) : W κ n0 Q h cs sl pc L (.int y :: .int x :: rest) := by
  obtain ⟨hd, rfl⟩ := hd
  subst hz
  exact W.pure C k fun hA hx hby hr => XS.iadd hA hx rfl (hb hby hd) rfl hr
theorem W.isub {x y z : Int32} (C : Good κ R Z own mnm bytes ml ret) (hd : Ins1 bytes pc .isub 1 nx) (hz : x - y = z) (k : W κ n0 Q h cs sl nx L (.int z :: rest)) : W κ n0 Q h cs sl pc L (.int y :: .int x :: rest) := by
  obtain ⟨hd, rfl⟩ := hd
  subst hz
  exact W.pure C k fun hA hx hby hr => XS.isub hA hx rfl (hb hby hd) rfl hr
theorem W.imul {x y z : Int32} (C : Good κ R Z own mnm bytes ml ret) (hd : Ins1 bytes pc .imul 1 nx) (hz : x * y = z) (k : W κ n0 Q h cs sl nx L (.int z :: rest)) : W κ n0 Q h cs sl pc L (.int y :: .int x :: rest) := by
  obtain ⟨hd, rfl⟩ := hd
  subst hz
  exact W.pure C k fun hA hx hby hr => XS.imul hA hx rfl (hb hby hd) rfl hr
theorem W.iand {x y z : Int32} (C : Good κ R Z own mnm bytes ml ret) (hd : Ins1 bytes pc .iand 1 nx) (hz : x &&& y = z) (k : W κ n0 Q h cs sl nx L (.int z :: rest)) : W κ n0 Q h cs sl pc L (.int y :: .int x :: rest) := by
  obtain ⟨hd, rfl⟩ := hd
  subst hz
  exact W.pure C k fun hA hx hby hr => XS.iand hA hx rfl (hb hby hd) rfl hr
theorem W.ior {x y z : Int32} (C : Good κ R Z own mnm bytes ml ret) (hd : Ins1 bytes pc .ior 1 nx) (hz : x ||| y = z) (k : W κ n0 Q h cs sl nx L (.int z :: rest)) : W κ n0 Q h cs sl pc L (.int y :: .int x :: rest) := by
  obtain ⟨hd, rfl⟩ := hd
  subst hz
  exact W.pure C k fun hA hx hby hr => XS.ior hA hx rfl (hb hby hd) rfl hr
theorem W.ixor {x y z : Int32} (C : Good κ R Z own mnm bytes ml ret) (hd : Ins1 bytes pc .ixor 1 nx) (hz : x ^^^ y = z) (k : W κ n0 Q h cs sl nx L (.int z :: rest)) : W κ n0 Q h cs sl pc L (.int y :: .int x :: rest) := by
  obtain ⟨hd, rfl⟩ := hd
  subst hz
  exact W.pure C k fun hA hx hby hr => XS.ixor hA hx rfl (hb hby hd) rfl hr
theorem W.ladd {x y z : Int64} (C : Good κ R Z own mnm bytes ml ret) (hd : Ins1 bytes pc .ladd 1 nx) (hz : x + y = z) (k : W κ n0 Q h cs sl nx L (.long z :: rest)) : W κ n0 Q h cs sl pc L (.long y :: .long x :: rest) := by
  obtain ⟨hd, rfl⟩ := hd
  subst hz
  exact W.pure C k fun hA hx hby hr => XS.ladd hA hx rfl (hb hby hd) rfl hr
theorem W.lsub {x y z : Int64} (C : Good κ R Z own mnm bytes ml ret) (hd : Ins1 bytes pc .lsub 1 nx) (hz : x - y = z) (k : W κ n0 Q h cs sl nx L (.long z :: rest)) : W κ n0 Q h cs sl pc L (.long y :: .long x :: rest) := by
  obtain ⟨hd, rfl⟩ := hd
  subst hz
  exact W.pure C k fun hA hx hby hr => XS.lsub hA hx rfl (hb hby hd) rfl hr
theorem W.lmul {x y z : Int64} (C : Good κ R Z own mnm bytes ml ret) (hd : Ins1 bytes pc .lmul 1 nx) (hz : x * y = z) (k : W κ n0 Q h cs sl nx L (.long z :: rest)) : W κ n0 Q h cs sl pc L (.long y :: .long x :: rest) := by
  obtain ⟨hd, rfl⟩ := hd
  subst hz
  exact W.pure C k fun hA hx hby hr => XS.lmul hA hx rfl (hb hby hd) rfl hr
theorem W.land {x y z : Int64} (C : Good κ R Z own mnm bytes ml ret) (hd : Ins1 bytes pc .land 1 nx) (hz : x &&& y = z) (k : W κ n0 Q h cs sl nx L (.long z :: rest)) : W κ n0 Q h cs sl pc L (.long y :: .long x :: rest) := by
  obtain ⟨hd, rfl⟩ := hd
  subst hz
  exact W.pure C k fun hA hx hby hr => XS.land hA hx rfl (hb hby hd) rfl hr
theorem W.lor {x y z : Int64} (C : Good κ R Z own mnm bytes ml ret) (hd : Ins1 bytes pc .lor 1 nx) (hz : x ||| y = z) (k : W κ n0 Q h cs sl nx L (.long z :: rest)) : W κ n0 Q h cs sl pc L (.long y :: .long x :: rest) := by
  obtain ⟨hd, rfl⟩ := hd
  subst hz
  exact W.pure C k fun hA hx hby hr => XS.lor hA hx rfl (hb hby hd) rfl hr
theorem W.lxor {x y z : Int64} (C : Good κ R Z own mnm bytes ml ret) (hd : Ins1 bytes pc .lxor 1 nx) (hz : x ^^^ y = z) (k : W κ n0 Q h cs sl nx L (.long z :: rest)) : W κ n0 Q h cs sl pc L (.long y :: .long x :: rest) := by
  obtain ⟨hd, rfl⟩ := hd
  subst hz
  exact W.pure C k fun hA hx hby hr => XS.lxor hA hx rfl (hb hby hd) rfl hr
theorem W.idiv {x y z : Int32} (C : Good κ R Z own mnm bytes ml ret) (hd : Ins1 bytes pc .idiv 1 nx) (hy : y ≠ 0) (hz : x / y = z) (k : W κ n0 Q h cs sl nx L (.int z :: rest)) : W κ n0 Q h cs sl pc L (.int y :: .int x :: rest) := by
  obtain ⟨hd, rfl⟩ := hd
  subst hz
  exact W.pure C k fun hA hx hby hr => XS.idiv hA hx rfl (hb hby hd) rfl hy hr
theorem W.irem {x y z : Int32} (C : Good κ R Z own mnm bytes ml ret) (hd : Ins1 bytes pc .irem 1 nx) (hy : y ≠ 0) (hz : x % y = z) (k : W κ n0 Q h cs sl nx L (.int z :: rest)) : W κ n0 Q h cs sl pc L (.int y :: .int x :: rest) := by
  obtain ⟨hd, rfl⟩ := hd
  subst hz
  exact W.pure C k fun hA hx hby hr => XS.irem hA hx rfl (hb hby hd) rfl hy (by rw [irem_eq_mod]; exact hr)
theorem W.ldiv {x y z : Int64} (C : Good κ R Z own mnm bytes ml ret) (hd : Ins1 bytes pc .ldiv 1 nx) (hy : y ≠ 0) (hz : x / y = z) (k : W κ n0 Q h cs sl nx L (.long z :: rest)) : W κ n0 Q h cs sl pc L (.long y :: .long x :: rest) := by
  obtain ⟨hd, rfl⟩ := hd
  subst hz
  exact W.pure C k fun hA hx hby hr => XS.ldiv hA hx rfl (hb hby hd) rfl hy hr
theorem W.lrem {x y z : Int64} (C : Good κ R Z own mnm bytes ml ret) (hd : Ins1 bytes pc .lrem 1 nx) (hy : y ≠ 0) (hz : x - (x / y) * y = z) (k : W κ n0 Q h cs sl nx L (.long z :: rest)) : W κ n0 Q h cs sl pc L (.long y :: .long x :: rest) := by
  obtain ⟨hd, rfl⟩ := hd
  subst hz
  exact W.pure C k fun hA hx hby hr => XS.lrem hA hx rfl (hb hby hd) rfl hy hr
theorem W.ishl {x y z : Int32} (C : Good κ R Z own mnm bytes ml ret) (hd : Ins1 bytes pc .ishl 1 nx) (hz : x <<< (y &&& 31) = z) (k : W κ n0 Q h cs sl nx L (.int z :: rest)) : W κ n0 Q h cs sl pc L (.int y :: .int x :: rest) := by
  obtain ⟨hd, rfl⟩ := hd
  subst hz
  exact W.pure C k fun hA hx hby hr => XS.ishl hA hx rfl (hb hby hd) rfl hr
theorem W.ishr {x y z : Int32} (C : Good κ R Z own mnm bytes ml ret) (hd : Ins1 bytes pc .ishr 1 nx) (hz : x >>> (y &&& 31) = z) (k : W κ n0 Q h cs sl nx L (.int z :: rest)) : W κ n0 Q h cs sl pc L (.int y :: .int x :: rest) := by
  obtain ⟨hd, rfl⟩ := hd
  subst hz
  exact W.pure C k fun hA hx hby hr => XS.ishr hA hx rfl (hb hby hd) rfl hr
theorem W.iushr {x y z : Int32} (C : Good κ R Z own mnm bytes ml ret) (hd : Ins1 bytes pc .iushr 1 nx) (hz : (x.toUInt32 >>> (y &&& 31).toUInt32).toInt32 = z) (k : W κ n0 Q h cs sl nx L (.int z :: rest)) : W κ n0 Q h cs sl pc L (.int y :: .int x :: rest) := by
  obtain ⟨hd, rfl⟩ := hd
  subst hz
  exact W.pure C k fun hA hx hby hr => XS.iushr hA hx rfl (hb hby hd) rfl hr
theorem W.lshl {x z : Int64} {y : Int32} (C : Good κ R Z own mnm bytes ml ret) (hd : Ins1 bytes pc .lshl 1 nx) (hz : x <<< (y &&& 0x3f).toInt64 = z) (k : W κ n0 Q h cs sl nx L (.long z :: rest)) : W κ n0 Q h cs sl pc L (.int y :: .long x :: rest) := by
  obtain ⟨hd, rfl⟩ := hd
  subst hz
  exact W.pure C k fun hA hx hby hr => XS.lshl hA hx rfl (hb hby hd) rfl hr
theorem W.lshr {x z : Int64} {y : Int32} (C : Good κ R Z own mnm bytes ml ret) (hd : Ins1 bytes pc .lshr 1 nx) (hz : x >>> (y &&& 0x3f).toInt64 = z) (k : W κ n0 Q h cs sl nx L (.long z :: rest)) : W κ n0 Q h cs sl pc L (.int y :: .long x :: rest) := by
  obtain ⟨hd, rfl⟩ := hd
  subst hz
  exact W.pure C k fun hA hx hby hr => XS.lshr hA hx rfl (hb hby hd) rfl hr
theorem W.lushr {x z : Int64} {y : Int32} (C : Good κ R Z own mnm bytes ml ret) (hd : Ins1 bytes pc .lushr 1 nx) (hz : (x.toUInt64 >>> (y &&& 0x3f).toInt64.toUInt64).toInt64 = z) (k : W κ n0 Q h cs sl nx L (.long z :: rest)) : W κ n0 Q h cs sl pc L (.int y :: .long x :: rest) := by
  obtain ⟨hd, rfl⟩ := hd
  subst hz
  exact W.pure C k fun hA hx hby hr => XS.lushr hA hx rfl (hb hby hd) rfl hr
theorem W.ineg {x : Int32} {z : Int32} (C : Good κ R Z own mnm bytes ml ret) (hd : Ins1 bytes pc .ineg 1 nx) (hz : -x = z) (k : W κ n0 Q h cs sl nx L (.int z :: rest)) : W κ n0 Q h cs sl pc L (.int x :: rest) := by
  obtain ⟨hd, rfl⟩ := hd
  subst hz
  exact W.pure C k fun hA hx hby hr => XS.ineg hA hx rfl (hb hby hd) rfl hr
theorem W.lneg {x : Int64} {z : Int64} (C : Good κ R Z own mnm bytes ml ret) (hd : Ins1 bytes pc .lneg 1 nx) (hz : -x = z) (k : W κ n0 Q h cs sl nx L (.long z :: rest)) : W κ n0 Q h cs sl pc L (.long x :: rest) := by
  obtain ⟨hd, rfl⟩ := hd
  subst hz
  exact W.pure C k fun hA hx hby hr => XS.lneg hA hx rfl (hb hby hd) rfl hr
theorem W.i2l {x : Int32} {z : Int64} (C : Good κ R Z own mnm bytes ml ret) (hd : Ins1 bytes pc .i2l 1 nx) (hz : x.toInt64 = z) (k : W κ n0 Q h cs sl nx L (.long z :: rest)) : W κ n0 Q h cs sl pc L (.int x :: rest) := by
  obtain ⟨hd, rfl⟩ := hd
  subst hz
  exact W.pure C k fun hA hx hby hr => XS.i2l hA hx rfl (hb hby hd) rfl hr
theorem W.l2i {x : Int64} {z : Int32} (C : Good κ R Z own mnm bytes ml ret) (hd : Ins1 bytes pc .l2i 1 nx) (hz : x.toInt32 = z) (k : W κ n0 Q h cs sl nx L (.int z :: rest)) : W κ n0 Q h cs sl pc L (.long x :: rest) := by
  obtain ⟨hd, rfl⟩ := hd
  subst hz
  exact W.pure C k fun hA hx hby hr => XS.l2i hA hx rfl (hb hby hd) rfl hr
theorem W.i2b {x : Int32} {z : Int32} (C : Good κ R Z own mnm bytes ml ret) (hd : Ins1 bytes pc .i2b 1 nx) (hz : x.toInt8.toInt32 = z) (k : W κ n0 Q h cs sl nx L (.int z :: rest)) : W κ n0 Q h cs sl pc L (.int x :: rest) := by
  obtain ⟨hd, rfl⟩ := hd
  subst hz
  exact W.pure C k fun hA hx hby hr => XS.i2b hA hx rfl (hb hby hd) rfl hr
theorem W.i2s {x : Int32} {z : Int32} (C : Good κ R Z own mnm bytes ml ret) (hd : Ins1 bytes pc .i2s 1 nx) (hz : x.toInt16.toInt32 = z) (k : W κ n0 Q h cs sl nx L (.int z :: rest)) : W κ n0 Q h cs sl pc L (.int x :: rest) := by
  obtain ⟨hd, rfl⟩ := hd
  subst hz
  exact W.pure C k fun hA hx hby hr => XS.i2s hA hx rfl (hb hby hd) rfl hr
theorem W.i2c {x : Int32} {z : Int32} (C : Good κ R Z own mnm bytes ml ret) (hd : Ins1 bytes pc .i2c 1 nx) (hz : x.toUInt32.toUInt16.toUInt32.toInt32 = z) (k : W κ n0 Q h cs sl nx L (.int z :: rest)) : W κ n0 Q h cs sl pc L (.int x :: rest) := by
  obtain ⟨hd, rfl⟩ := hd
  subst hz
  exact W.pure C k fun hA hx hby hr => XS.i2c hA hx rfl (hb hby hd) rfl hr
theorem W.iconst {i : Int} {z : Int32} (C : Good κ R Z own mnm bytes ml ret) (hd : Ins1 bytes pc (.iconst i) 1 nx) (hz : Int32.ofInt i = z) (k : W κ n0 Q h cs sl nx L (.int z :: st)) : W κ n0 Q h cs sl pc L st := by
  obtain ⟨hd, rfl⟩ := hd
  subst hz
  exact W.pure C k fun hA hx hby hr => XS.iconst hA hx rfl (hb hby hd) hr
theorem W.bipush {i : Int} {z : Int32} (C : Good κ R Z own mnm bytes ml ret) (hd : Ins1 bytes pc (.bipush i) 2 nx) (hz : (Int8.ofInt i).toInt32 = z) (k : W κ n0 Q h cs sl nx L (.int z :: st)) : W κ n0 Q h cs sl pc L st := by
  obtain ⟨hd, rfl⟩ := hd
  subst hz
  exact W.pure C k fun hA hx hby hr => XS.bipush hA hx rfl (hb hby hd) hr
theorem W.sipush {i : Int} {z : Int32} (C : Good κ R Z own mnm bytes ml ret) (hd : Ins1 bytes pc (.sipush i) 3 nx) (hz : (Int16.ofInt i).toInt32 = z) (k : W κ n0 Q h cs sl nx L (.int z :: st)) : W κ n0 Q h cs sl pc L st := by
  obtain ⟨hd, rfl⟩ := hd
  subst hz
  exact W.pure C k fun hA hx hby hr => XS.sipush hA hx rfl (hb hby hd) hr
theorem W.lconst {i : Fin 2} {z : Int64} (C : Good κ R Z own mnm bytes ml ret) (hd : Ins1 bytes pc (.lconst i) 1 nx) (hz : Int64.ofNat i = z) (k : W κ n0 Q h cs sl nx L (.long z :: st)) : W κ n0 Q h cs sl pc L st := by
  obtain ⟨hd, rfl⟩ := hd
  subst hz
  exact W.pure C k fun hA hx hby hr => XS.lconst hA hx rfl (hb hby hd) hr
theorem W.aconst_null (C : Good κ R Z own mnm bytes ml ret) (hd : Ins1 bytes pc .aconst_null 1 nx) (k : W κ n0 Q h cs sl nx L (.null :: st)) : W κ n0 Q h cs sl pc L st := by
  obtain ⟨hd, rfl⟩ := hd
  exact W.pure C k fun hA hx hby hr => XS.aconstNull hA hx rfl (hb hby hd) hr
theorem W.iload {i : Nat} {v : Int32} (C : Good κ R Z own mnm bytes ml ret) (hd : Ins1 bytes pc (.iload i) 2 nx) (hl : L[i]? = some (.val (.int v))) (k : W κ n0 Q h cs sl nx L ((.int v) :: st)) : W κ n0 Q h cs sl pc L st := by
  obtain ⟨hd, rfl⟩ := hd
  exact W.pure C k fun hA hx hby hr => XS.iload hA hx rfl (hb hby hd) (by simpa using hl) hr
theorem W.iloadN {i : Fin 4} {v : Int32} (C : Good κ R Z own mnm bytes ml ret) (hd : Ins1 bytes pc (.iload_n i) 1 nx) (hl : L[i.val]? = some (.val (.int v))) (k : W κ n0 Q h cs sl nx L ((.int v) :: st)) : W κ n0 Q h cs sl pc L st := by
  obtain ⟨hd, rfl⟩ := hd
  exact W.pure C k fun hA hx hby hr => XS.iloadN hA hx rfl (hb hby hd) (by simpa using hl) hr
theorem W.lload {i : Nat} {v : Int64} (C : Good κ R Z own mnm bytes ml ret) (hd : Ins1 bytes pc (.lload i) 2 nx) (hl : L[i]? = some (.val (.long v))) (k : W κ n0 Q h cs sl nx L ((.long v) :: st)) : W κ n0 Q h cs sl pc L st := by
  obtain ⟨hd, rfl⟩ := hd
  exact W.pure C k fun hA hx hby hr => XS.lload hA hx rfl (hb hby hd) (by simpa using hl) hr
theorem W.lloadN {i : Fin 4} {v : Int64} (C : Good κ R Z own mnm bytes ml ret) (hd : Ins1 bytes pc (.lload_n i) 1 nx) (hl : L[i.val]? = some (.val (.long v))) (k : W κ n0 Q h cs sl nx L ((.long v) :: st)) : W κ n0 Q h cs sl pc L st := by
  obtain ⟨hd, rfl⟩ := hd
  exact W.pure C k fun hA hx hby hr => XS.lloadN hA hx rfl (hb hby hd) (by simpa using hl) hr
theorem W.aload {i : Nat} {v : Value} (C : Good κ R Z own mnm bytes ml ret) (hd : Ins1 bytes pc (.aload i) 2 nx) (hl : L[i]? = some (.val (v))) (hv : v.isRef = true) (k : W κ n0 Q h cs sl nx L ((v) :: st)) : W κ n0 Q h cs sl pc L st := by
  obtain ⟨hd, rfl⟩ := hd
  exact W.pure C k fun hA hx hby hr => XS.aload hA hx rfl (hb hby hd) (by simpa using hl) hv hr
theorem W.aloadN {i : Fin 4} {v : Value} (C : Good κ R Z own mnm bytes ml ret) (hd : Ins1 bytes pc (.aload_n i) 1 nx) (hl : L[i.val]? = some (.val (v))) (hv : v.isRef = true) (k : W κ n0 Q h cs sl nx L ((v) :: st)) : W κ n0 Q h cs sl pc L st := by
  obtain ⟨hd, rfl⟩ := hd
  exact W.pure C k fun hA hx hby hr => XS.aloadN hA hx rfl (hb hby hd) (by simpa using hl) hv hr
theorem W.istore {i : Nat} {L' : List Slot} {v : Int32} (C : Good κ R Z own mnm bytes ml ret) (hd : Ins1 bytes pc (.istore i) 2 nx) (hl : storeLocals L.toArray i (.int v) = some L'.toArray) (k : W κ n0 Q h cs sl nx L' rest) : W κ n0 Q h cs sl pc L ((.int v) :: rest) := by
  obtain ⟨hd, rfl⟩ := hd
  exact W.pure C k fun hA hx hby hr => XS.istore hA hx rfl (hb hby hd) rfl hl hr
theorem W.istoreN {i : Fin 4} {L' : List Slot} {v : Int32} (C : Good κ R Z own mnm bytes ml ret) (hd : Ins1 bytes pc (.istore_n i) 1 nx) (hl : storeLocals L.toArray i.val (.int v) = some L'.toArray) (k : W κ n0 Q h cs sl nx L' rest) : W κ n0 Q h cs sl pc L ((.int v) :: rest) := by
  obtain ⟨hd, rfl⟩ := hd
  exact W.pure C k fun hA hx hby hr => XS.istoreN hA hx rfl (hb hby hd) rfl hl hr
theorem W.lstore {i : Nat} {L' : List Slot} {v : Int64} (C : Good κ R Z own mnm bytes ml ret) (hd : Ins1 bytes pc (.lstore i) 2 nx) (hl : storeLocals L.toArray i (.long v) = some L'.toArray) (k : W κ n0 Q h cs sl nx L' rest) : W κ n0 Q h cs sl pc L ((.long v) :: rest) := by
  obtain ⟨hd, rfl⟩ := hd
  exact W.pure C k fun hA hx hby hr => XS.lstore hA hx rfl (hb hby hd) rfl hl hr
theorem W.lstoreN {i : Fin 4} {L' : List Slot} {v : Int64} (C : Good κ R Z own mnm bytes ml ret) (hd : Ins1 bytes pc (.lstore_n i) 1 nx) (hl : storeLocals L.toArray i.val (.long v) = some L'.toArray) (k : W κ n0 Q h cs sl nx L' rest) : W κ n0 Q h cs sl pc L ((.long v) :: rest) := by
  obtain ⟨hd, rfl⟩ := hd
  exact W.pure C k fun hA hx hby hr => XS.lstoreN hA hx rfl (hb hby hd) rfl hl hr
theorem W.astore {i : Nat} {L' : List Slot} {v : Value} (C : Good κ R Z own mnm bytes ml ret) (hd : Ins1 bytes pc (.astore i) 2 nx) (hl : storeLocals L.toArray i (v) = some L'.toArray) (hv : v.isRef = true) (k : W κ n0 Q h cs sl nx L' rest) : W κ n0 Q h cs sl pc L ((v) :: rest) := by
  obtain ⟨hd, rfl⟩ := hd
  exact W.pure C k fun hA hx hby hr => XS.astore hA hx rfl (hb hby hd) rfl hv hl hr
theorem W.astoreN {i : Fin 4} {L' : List Slot} {v : Value} (C : Good κ R Z own mnm bytes ml ret) (hd : Ins1 bytes pc (.astore_n i) 1 nx) (hl : storeLocals L.toArray i.val (v) = some L'.toArray) (hv : v.isRef = true) (k : W κ n0 Q h cs sl nx L' rest) : W κ n0 Q h cs sl pc L ((v) :: rest) := by
  obtain ⟨hd, rfl⟩ := hd
  exact W.pure C k fun hA hx hby hr => XS.astoreN hA hx rfl (hb hby hd) rfl hv hl hr
theorem W.iinc {i : Nat} {d : Int} {v z : Int32} {L' : List Slot} (C : Good κ R Z own mnm bytes ml ret) (hd : Ins1 bytes pc (.iinc i d) 3 nx) (hl : L[i]? = some (.val (.int v))) (hz : v + Int32.ofInt d = z) (hl' : storeLocals L.toArray i (.int z) = some L'.toArray) (k : W κ n0 Q h cs sl nx L' st) : W κ n0 Q h cs sl pc L st := by
  obtain ⟨hd, rfl⟩ := hd
  subst hz
  exact W.pure C k fun hA hx hby hr => XS.iinc hA hx rfl (hb hby hd) (by simpa using hl) hl' hr
theorem W.dup {x : Value} (C : Good κ R Z own mnm bytes ml ret) (hd : Ins1 bytes pc .dup 1 nx) (hc : x.category = 1) (k : W κ n0 Q h cs sl nx L (x :: x :: rest)) : W κ n0 Q h cs sl pc L (x :: rest) := by
  obtain ⟨hd, rfl⟩ := hd
  exact W.pure C k fun hA hx hby hr => XS.dup hA hx rfl (hb hby hd) rfl hc hr
theorem W.pop {x : Value} (C : Good κ R Z own mnm bytes ml ret) (hd : Ins1 bytes pc .pop 1 nx) (hc : x.category = 1) (k : W κ n0 Q h cs sl nx L rest) : W κ n0 Q h cs sl pc L (x :: rest) := by
  obtain ⟨hd, rfl⟩ := hd
  exact W.pure C k fun hA hx hby hr => XS.pop hA hx rfl (hb hby hd) rfl hc hr
theorem W.dup_x1 {x y : Value} (C : Good κ R Z own mnm bytes ml ret) (hd : Ins1 bytes pc .dup_x1 1 nx) (hc : x.category = 1) (hc' : y.category = 1) (k : W κ n0 Q h cs sl nx L (x :: y :: x :: rest)) : W κ n0 Q h cs sl pc L (x :: y :: rest) := by
  obtain ⟨hd, rfl⟩ := hd
  exact W.pure C k fun hA hx hby hr => XS.dupX1 hA hx rfl (hb hby hd) rfl hc hc' hr
theorem W.dup2 {x y : Value} (C : Good κ R Z own mnm bytes ml ret) (hd : Ins1 bytes pc .dup2 1 nx) (hc : x.category = 1) (hc' : y.category = 1) (k : W κ n0 Q h cs sl nx L (x :: y :: x :: y :: rest)) : W κ n0 Q h cs sl pc L (x :: y :: rest) := by
  obtain ⟨hd, rfl⟩ := hd
  exact W.pure C k fun hA hx hby hr => XT.dup2 hA hx rfl (hb hby hd) rfl hc hc' hr
theorem W.dup2L {x : Int64} (C : Good κ R Z own mnm bytes ml ret) (hd : Ins1 bytes pc .dup2 1 nx) (k : W κ n0 Q h cs sl nx L (.long x :: .long x :: rest)) : W κ n0 Q h cs sl pc L (.long x :: rest) := by
  obtain ⟨hd, rfl⟩ := hd
  exact W.pure C k fun hA hx hby hr => XT.dup2L hA hx rfl (hb hby hd) rfl hr
theorem W.dup_x2 {x y z : Value} (C : Good κ R Z own mnm bytes ml ret) (hd : Ins1 bytes pc .dup_x2 1 nx) (hc : x.category = 1) (hc' : y.category = 1) (hc2 : z.category = 1) (k : W κ n0 Q h cs sl nx L (x :: y :: z :: x :: rest)) : W κ n0 Q h cs sl pc L (x :: y :: z :: rest) := by
  obtain ⟨hd, rfl⟩ := hd
  refine W.pure C k fun {p e below T target m c} hA hx hby hr => ?_
  have hd' := hb hby hd
  jvm_step hA [hA.top, hx, hd', hc, hc', hc2]
  exact hr
theorem W.goto {o : Int} (C : Good κ R Z own mnm bytes ml ret) (hd : Jmp1 bytes pc (.goto o) o nx tg) (k : W κ n0 Q h cs sl tg L st) : W κ n0 Q h cs sl pc L st := by
  obtain ⟨hd, rfl, h1, h2⟩ := hd
  exact W.pure C k fun hA hx hby hr => XS.goto hA hx rfl rfl (hb hby hd) h1 h2 hr
theorem W.icmpY {o : Int} {cd : ClassFile.Cond} {x y : Int32} (C : Good κ R Z own mnm bytes ml ret) (hd : Jmp1 bytes pc (.if_icmp cd o) o nx tg) (hc : cmpP cd x y) (k : W κ n0 Q h cs sl tg L rest) : W κ n0 Q h cs sl pc L (.int y :: .int x :: rest) := by
  obtain ⟨hd, rfl, h1, h2⟩ := hd
  exact W.pure C k fun hA hx hby hr => XS.icmpYes hA hx rfl rfl (hb hby hd) rfl ((cmpP_iff _ _ _).mpr hc) h1 h2 hr
theorem W.icmpN {o : Int} {cd : ClassFile.Cond} {x y : Int32} (C : Good κ R Z own mnm bytes ml ret) (hd : Jmp1 bytes pc (.if_icmp cd o) o nx tg) (hc : ¬ cmpP cd x y) (k : W κ n0 Q h cs sl nx L rest) : W κ n0 Q h cs sl pc L (.int y :: .int x :: rest) := by
  obtain ⟨hd, rfl, h1, h2⟩ := hd
  exact W.pure C k fun hA hx hby hr => XS.icmpNo hA hx rfl (hb hby hd) rfl (cmpP_no hc) hr
theorem W.icmp {o : Int} {cd : ClassFile.Cond} {x y : Int32} (C : Good κ R Z own mnm bytes ml ret) (hd : Jmp1 bytes pc (.if_icmp cd o) o nx tg) (ky : cmpP cd x y → W κ n0 Q h cs sl tg L rest) (kn : ¬ cmpP cd x y → W κ n0 Q h cs sl nx L rest) : W κ n0 Q h cs sl pc L (.int y :: .int x :: rest) := by
  by_cases hc : cmpP cd x y
  · exact W.icmpY C hd hc (ky hc)
  · exact W.icmpN C hd hc (kn hc)
theorem W.ifY {o : Int} {cd : ClassFile.Cond} {x : Int32} (C : Good κ R Z own mnm bytes ml ret) (hd : Jmp1 bytes pc (.ifCond cd o) o nx tg) (hc : cmp0 cd x) (k : W κ n0 Q h cs sl tg L rest) : W κ n0 Q h cs sl pc L (.int x :: rest) := by
  obtain ⟨hd, rfl, h1, h2⟩ := hd
  exact W.pure C k fun hA hx hby hr => XS.ifYes hA hx rfl rfl (hb hby hd) rfl ((if0 _ _).trans ((cmpP_iff _ _ _).mpr ((cmp0_iff _ _).mpr hc))) h1 h2 hr
theorem W.ifN {o : Int} {cd : ClassFile.Cond} {x : Int32} (C : Good κ R Z own mnm bytes ml ret) (hd : Jmp1 bytes pc (.ifCond cd o) o nx tg) (hc : ¬ cmp0 cd x) (k : W κ n0 Q h cs sl nx L rest) : W κ n0 Q h cs sl pc L (.int x :: rest) := by
  obtain ⟨hd, rfl, h1, h2⟩ := hd
  exact W.pure C k fun hA hx hby hr => XS.ifNo hA hx rfl (hb hby hd) rfl ((if0 _ _).trans (cmpP_no fun q => hc ((cmp0_iff _ _).mp q))) hr
theorem W.ifc {o : Int} {cd : ClassFile.Cond} {x : Int32} (C : Good κ R Z own mnm bytes ml ret) (hd : Jmp1 bytes pc (.ifCond cd o) o nx tg) (ky : cmp0 cd x → W κ n0 Q h cs sl tg L rest) (kn : ¬ cmp0 cd x → W κ n0 Q h cs sl nx L rest) : W κ n0 Q h cs sl pc L (.int x :: rest) := by
  by_cases hc : cmp0 cd x
  · exact W.ifY C hd hc (ky hc)
  · exact W.ifN C hd hc (kn hc)
theorem W.lcmp {x y : Int64} (C : Good κ R Z own mnm bytes ml ret) (hd : Ins1 bytes pc .lcmp 1 nx) (k : W κ n0 Q h cs sl nx L (.int (if x > y then 1 else if x = y then 0 else -1) :: rest)) : W κ n0 Q h cs sl pc L (.long y :: .long x :: rest) := by
  obtain ⟨hd, rfl⟩ := hd
  exact W.pure C k fun hA hx hby hr => XS.lcmp hA hx rfl (hb hby hd) rfl hr
theorem W.lcY {pc1 : Nat} {o : Int} {cd : ClassFile.Cond} {x y : Int64} (C : Good κ R Z own mnm bytes ml ret) (hd1 : Ins1 bytes pc .lcmp 1 pc1) (hd : Jmp1 bytes pc1 (.ifCond cd o) o nx tg) (hc : cmpL cd x y) (k : W κ n0 Q h cs sl tg L rest) : W κ n0 Q h cs sl pc L (.long y :: .long x :: rest) :=
  W.lcmp C hd1 (W.ifY C hd ((cmpL_iff _ _ _).mpr hc) k)
theorem W.lcN {pc1 : Nat} {o : Int} {cd : ClassFile.Cond} {x y : Int64} (C : Good κ R Z own mnm bytes ml ret) (hd1 : Ins1 bytes pc .lcmp 1 pc1) (hd : Jmp1 bytes pc1 (.ifCond cd o) o nx tg) (hc : ¬ cmpL cd x y) (k : W κ n0 Q h cs sl nx L rest) : W κ n0 Q h cs sl pc L (.long y :: .long x :: rest) :=
  W.lcmp C hd1 (W.ifN C hd (fun q => hc ((cmpL_iff _ _ _).mp q)) k)
theorem W.lc {pc1 : Nat} {o : Int} {cd : ClassFile.Cond} {x y : Int64} (C : Good κ R Z own mnm bytes ml ret) (hd1 : Ins1 bytes pc .lcmp 1 pc1) (hd : Jmp1 bytes pc1 (.ifCond cd o) o nx tg) (ky : cmpL cd x y → W κ n0 Q h cs sl tg L rest) (kn : ¬ cmpL cd x y → W κ n0 Q h cs sl nx L rest) : W κ n0 Q h cs sl pc L (.long y :: .long x :: rest) := by
  by_cases hc : cmpL cd x y
  · exact W.lcY C hd1 hd hc (ky hc)
  · exact W.lcN C hd1 hd hc (kn hc)
theorem W.ifnullY {o : Int} (C : Good κ R Z own mnm bytes ml ret) (hd : Jmp1 bytes pc (.ifnull o) o nx tg) (k : W κ n0 Q h cs sl tg L rest) : W κ n0 Q h cs sl pc L (.null :: rest) := by
  obtain ⟨hd, rfl, h1, h2⟩ := hd
  exact W.pure C k fun hA hx hby hr => XS.ifnullYes hA hx rfl rfl (hb hby hd) rfl h1 h2 hr
theorem W.ifnullN {o : Int} {b : Addr} (C : Good κ R Z own mnm bytes ml ret) (hd : Jmp1 bytes pc (.ifnull o) o nx tg) (k : W κ n0 Q h cs sl nx L rest) : W κ n0 Q h cs sl pc L (.ref b :: rest) := by
  obtain ⟨hd, rfl, h1, h2⟩ := hd
  exact W.pure C k fun hA hx hby hr => XS.ifnullNo hA hx rfl (hb hby hd) rfl hr
theorem W.ifnonnullY {o : Int} {b : Addr} (C : Good κ R Z own mnm bytes ml ret) (hd : Jmp1 bytes pc (.ifnonnull o) o nx tg) (k : W κ n0 Q h cs sl tg L rest) : W κ n0 Q h cs sl pc L (.ref b :: rest) := by
  obtain ⟨hd, rfl, h1, h2⟩ := hd
  exact W.pure C k fun hA hx hby hr => XS.ifnonnullYes hA hx rfl rfl (hb hby hd) rfl h1 h2 hr
theorem W.ifnonnullN {o : Int} (C : Good κ R Z own mnm bytes ml ret) (hd : Jmp1 bytes pc (.ifnonnull o) o nx tg) (k : W κ n0 Q h cs sl nx L rest) : W κ n0 Q h cs sl pc L (.null :: rest) := by
  obtain ⟨hd, rfl, h1, h2⟩ := hd
  exact W.pure C k fun hA hx hby hr => XS.ifnonnullNo hA hx rfl (hb hby hd) rfl hr
/-! ### steps that read the tables -/
theorem W.ldc {i : Nat} {v : Int32} (C : Good κ R Z own mnm bytes ml ret) (hd : Ins1 bytes pc (.ldc i) 2 nx) (w : (Jvm.Cond.constant own i v).before a0 Z = true) (k : W κ n0 Q h cs sl nx L (.int v :: st)) : W κ n0 Q h cs sl pc L st := by
  obtain ⟨hd, rfl⟩ := hd
  obtain ⟨p, l, e, R', s, m, args, below, meth, c⟩ := κ
  obtain ⟨hx, hZ, hby, hml, hown, hret, hlk, hnm, rfl⟩ := C
  intro T locs X eT N h1 h2
  obtain ⟨s₂, o, a, r⟩ := k T locs X eT N h1 h2
  exact ⟨s₂, o, X.ldcInt hx hown (mvT hZ w) (g := mkF m pc L.toArray st) rfl (hb hby hd) _ a, r⟩
theorem W.ldcw {i : Nat} {v : Int32} (C : Good κ R Z own mnm bytes ml ret) (hd : Ins1 bytes pc (.ldc_w i) 3 nx) (w : (Jvm.Cond.constant own i v).before a0 Z = true) (k : W κ n0 Q h cs sl nx L (.int v :: st)) : W κ n0 Q h cs sl pc L st := by
  obtain ⟨hd, rfl⟩ := hd
  obtain ⟨p, l, e, R', s, m, args, below, meth, c⟩ := κ
  obtain ⟨hx, hZ, hby, hml, hown, hret, hlk, hnm, rfl⟩ := C
  intro T locs X eT N h1 h2
  obtain ⟨s₂, o, a, r⟩ := k T locs X eT N h1 h2
  exact ⟨s₂, o, X.ldcwInt hx hown (mvT hZ w) (g := mkF m pc L.toArray st) rfl (hb hby hd) _ a, r⟩
theorem W.ldc2 {i : Nat} {v : Int64} (C : Good κ R Z own mnm bytes ml ret) (hd : Ins1 bytes pc (.ldc2_w i) 3 nx) (w : (Jvm.Cond.constantLong own i v).before a0 Z = true) (k : W κ n0 Q h cs sl nx L (.long v :: st)) : W κ n0 Q h cs sl pc L st := by
  obtain ⟨hd, rfl⟩ := hd
  obtain ⟨p, l, e, R', s, m, args, below, meth, c⟩ := κ
  obtain ⟨hx, hZ, hby, hml, hown, hret, hlk, hnm, rfl⟩ := C
  intro T locs X eT N h1 h2
  obtain ⟨s₂, o, a, r⟩ := k T locs X eT N h1 h2
  exact ⟨s₂, o, X.ldc2Long hx hown (mvT hZ w) (g := mkF m pc L.toArray st) rfl (hb hby hd) _ a, r⟩
/-! ### arrays -/
/-- at a lies an array of ty whose values are vs -/
def Av (Z : State) (h : Heap) (a : Addr) (ty : FieldType) (vs : List Value) : Prop := ∃ c : Cell, Arr Z h a c ty ∧ c.slots.toList = vs ∧ vs.length < 2147483648
theorem Av.lt {a : Addr} {ty : FieldType} {vs : List Value} (A : Av Z h a ty vs) : a < h.size := by obtain ⟨c, A, -⟩ := A; exact A.lt
theorem Av.ext {h' : Heap} {a : Addr} {ty : FieldType} {vs : List Value} (A : Av Z h a ty vs) (E : Ext h h') : Av Z h' a ty vs := by obtain ⟨c, A, r⟩ := A; exact ⟨c, A.ext E, r⟩
theorem Av.keep {h' : Heap} {ws : List Addr} {a : Addr} {ty : FieldType} {vs : List Value} (A : Av Z h a ty vs) (K : Keep h h' ws) (q : a ∉ ws) : Av Z h' a ty vs := by obtain ⟨c, A, r⟩ := A; exact ⟨c, ⟨K.2.1 a c A.1 q, A.2⟩, r⟩
theorem Av.other {h' : Heap} {a b : Addr} {sl : Nat} {v : Value} {ty : FieldType} {vs : List Value} (A : Av Z h b ty vs) (W : Wr h h' a sl v) (q : b ≠ a) : Av Z h' b ty vs := by obtain ⟨c, A, r⟩ := A; exact ⟨c, A.other W q, r⟩
theorem Av.set {h' : Heap} {a : Addr} {i : Nat} {v : Value} {ty : FieldType} {vs : List Value} (A : Av Z h a ty vs) (W : Wr h h' a i v) : Av Z h' a ty (vs.set i v) := by
  obtain ⟨c, A, rfl, r⟩ := A
  exact ⟨_, A.same W, by simp [Cell.setSlot], by simpa using r⟩
theorem Av.ne_exa {a b : Addr} {C' : String} {kk : Nat} {ty : FieldType} {vs : List Value} (A : Av Z h a ty vs) (E : Exa Z h b C') (wi : (Jvm.Cond.instantiable C' kk).before a0 Z = true) : a ≠ b := by obtain ⟨c, A, -⟩ := A; exact (ne_arr E wi A).symm
theorem clampNat {j : Int32} {i : Nat} (hj : j.toInt = i) : j.toNatClampNeg = i := by
  have e : j.toNatClampNeg = j.toInt.toNat := rfl
  omega
theorem inB {c : Cell} {vs : List Value} {j : Int32} {i : Nat} (e : c.slots.toList = vs) (hj : j.toInt = i) (hi : i < vs.length) : ¬ (j < 0 ∨ c.slots.size ≤ j.toNatClampNeg) := by
  have e1 := clampNat hj
  have e2 : c.slots.size = vs.length := by rw [← e]; simp
  rw [e1, e2, Int32.lt_iff_toInt_lt, hj, Int32.toInt_zero]
  omega
theorem inV {c : Cell} {vs : List Value} {j : Int32} {i : Nat} {v : Value} (e : c.slots.toList = vs) (hj : j.toInt = i) (hv : vs[i]? = some v) : c.slots[j.toNatClampNeg]? = some v := by
  rw [clampNat hj, ← hv, ← e]; simp
theorem ltOf {vs : List Value} {i : Nat} {v : Value} (hv : vs[i]? = some v) : i < vs.length := (List.getElem?_eq_some_iff.mp hv).1

theorem W.iaload {a : Addr} {vs : List Value} {j : Int32} {i : Nat} {v : Int32} (C : Good κ R Z own mnm bytes ml ret) (hd : Ins1 bytes pc .iaload 1 nx) (A : Av Z h a .int vs) (hj : j.toInt = i) (hv : vs[i]? = some (.int v)) (k : W κ n0 Q h cs sl nx L ((.int v) :: rest)) : W κ n0 Q h cs sl pc L (.int j :: .ref a :: rest) := by
  obtain ⟨hd, rfl⟩ := hd
  obtain ⟨p, l, e, R', s, m, args, below, meth, c⟩ := κ
  obtain ⟨hx, hZ, hby, hml, hown, hret, hlk, hnm, rfl⟩ := C
  intro T locs X eT N h1 h2
  obtain ⟨s₂, o, b, r⟩ := k T locs X eT N h1 h2
  obtain ⟨cl, Ar, q1, q2⟩ := A
  exact ⟨s₂, o, X.iaload hx (j := j) (by rw [eT]; exact Ar.1) (State.isArrayOf_alike hZ.alike Ar.2.1) Ar.2.2 (inB q1 hj (ltOf hv)) (inV q1 hj hv) (g := mkF m pc L.toArray (.int j :: .ref a :: rest)) rfl rfl (hb hby hd) _ b, r⟩
theorem W.baload {a : Addr} {vs : List Value} {j : Int32} {i : Nat} {v : Int32} (C : Good κ R Z own mnm bytes ml ret) (hd : Ins1 bytes pc .baload 1 nx) (A : Av Z h a .byte vs) (hj : j.toInt = i) (hv : vs[i]? = some (.int v)) (k : W κ n0 Q h cs sl nx L ((.int v) :: rest)) : W κ n0 Q h cs sl pc L (.int j :: .ref a :: rest) := by
  obtain ⟨hd, rfl⟩ := hd
  obtain ⟨p, l, e, R', s, m, args, below, meth, c⟩ := κ
  obtain ⟨hx, hZ, hby, hml, hown, hret, hlk, hnm, rfl⟩ := C
  intro T locs X eT N h1 h2
  obtain ⟨s₂, o, b, r⟩ := k T locs X eT N h1 h2
  obtain ⟨cl, Ar, q1, q2⟩ := A
  exact ⟨s₂, o, X.baloadBytes hx (j := j) (by rw [eT]; exact Ar.1) (State.isArrayOf_alike hZ.alike Ar.2.1) Ar.2.2 (inB q1 hj (ltOf hv)) (inV q1 hj hv) (g := mkF m pc L.toArray (.int j :: .ref a :: rest)) rfl rfl (hb hby hd) _ b, r⟩
theorem W.zaload {a : Addr} {vs : List Value} {j : Int32} {i : Nat} {v : Int32} (C : Good κ R Z own mnm bytes ml ret) (hd : Ins1 bytes pc .baload 1 nx) (A : Av Z h a .boolean vs) (hj : j.toInt = i) (hv : vs[i]? = some (.int v)) (k : W κ n0 Q h cs sl nx L ((.int v) :: rest)) : W κ n0 Q h cs sl pc L (.int j :: .ref a :: rest) := by
  obtain ⟨hd, rfl⟩ := hd
  obtain ⟨p, l, e, R', s, m, args, below, meth, c⟩ := κ
  obtain ⟨hx, hZ, hby, hml, hown, hret, hlk, hnm, rfl⟩ := C
  intro T locs X eT N h1 h2
  obtain ⟨s₂, o, b, r⟩ := k T locs X eT N h1 h2
  obtain ⟨cl, Ar, q1, q2⟩ := A
  exact ⟨s₂, o, X.baloadBooleans hx (j := j) (by rw [eT]; exact Ar.1) (State.isArrayOf_alike hZ.alike Ar.2.1) Ar.2.2 (inB q1 hj (ltOf hv)) (inV q1 hj hv) (g := mkF m pc L.toArray (.int j :: .ref a :: rest)) rfl rfl (hb hby hd) _ b, r⟩
theorem W.laload {a : Addr} {vs : List Value} {j : Int32} {i : Nat} {v : Int64} (C : Good κ R Z own mnm bytes ml ret) (hd : Ins1 bytes pc .laload 1 nx) (A : Av Z h a .long vs) (hj : j.toInt = i) (hv : vs[i]? = some (.long v)) (k : W κ n0 Q h cs sl nx L ((.long v) :: rest)) : W κ n0 Q h cs sl pc L (.int j :: .ref a :: rest) := by
  obtain ⟨hd, rfl⟩ := hd
  obtain ⟨p, l, e, R', s, m, args, below, meth, c⟩ := κ
  obtain ⟨hx, hZ, hby, hml, hown, hret, hlk, hnm, rfl⟩ := C
  intro T locs X eT N h1 h2
  obtain ⟨s₂, o, b, r⟩ := k T locs X eT N h1 h2
  obtain ⟨cl, Ar, q1, q2⟩ := A
  exact ⟨s₂, o, X.laload hx (j := j) (by rw [eT]; exact Ar.1) (State.isArrayOf_alike hZ.alike Ar.2.1) Ar.2.2 (inB q1 hj (ltOf hv)) (inV q1 hj hv) (g := mkF m pc L.toArray (.int j :: .ref a :: rest)) rfl rfl (hb hby hd) _ b, r⟩
theorem W.caload {a : Addr} {vs : List Value} {j : Int32} {i : Nat} {v : Int32} (C : Good κ R Z own mnm bytes ml ret) (hd : Ins1 bytes pc .caload 1 nx) (A : Av Z h a .char vs) (hj : j.toInt = i) (hv : vs[i]? = some (.int v)) (k : W κ n0 Q h cs sl nx L ((.int v) :: rest)) : W κ n0 Q h cs sl pc L (.int j :: .ref a :: rest) := by
  obtain ⟨hd, rfl⟩ := hd
  obtain ⟨p, l, e, R', s, m, args, below, meth, c⟩ := κ
  obtain ⟨hx, hZ, hby, hml, hown, hret, hlk, hnm, rfl⟩ := C
  intro T locs X eT N h1 h2
  obtain ⟨s₂, o, b, r⟩ := k T locs X eT N h1 h2
  obtain ⟨cl, Ar, q1, q2⟩ := A
  exact ⟨s₂, o, X.caload hx (j := j) (by rw [eT]; exact Ar.1) (State.isArrayOf_alike hZ.alike Ar.2.1) Ar.2.2 (inB q1 hj (ltOf hv)) (inV q1 hj hv) (g := mkF m pc L.toArray (.int j :: .ref a :: rest)) rfl rfl (hb hby hd) _ b, r⟩
theorem W.aaload {a : Addr} {ty : FieldType} {vs : List Value} {j : Int32} {i : Nat} {v : Value} (C : Good κ R Z own mnm bytes ml ret) (hd : Ins1 bytes pc .aaload 1 nx) (A : Av Z h a ty vs) (hty : ty.isReference = true) (hj : j.toInt = i) (hv : vs[i]? = some v) (k : W κ n0 Q h cs sl nx L (v :: rest)) : W κ n0 Q h cs sl pc L (.int j :: .ref a :: rest) := by
  obtain ⟨hd, rfl⟩ := hd
  obtain ⟨p, l, e, R', s, m, args, below, meth, c⟩ := κ
  obtain ⟨hx, hZ, hby, hml, hown, hret, hlk, hnm, rfl⟩ := C
  intro T locs X eT N h1 h2
  obtain ⟨s₂, o, b, r⟩ := k T locs X eT N h1 h2
  obtain ⟨cl, Ar, q1, q2⟩ := A
  exact ⟨s₂, o, X.aaload hx (j := j) (by rw [eT]; exact Ar.1) (State.isArrayOf_alike hZ.alike Ar.2.1) hty Ar.2.2 (inB q1 hj (ltOf hv)) (inV q1 hj hv) (g := mkF m pc L.toArray (.int j :: .ref a :: rest)) rfl rfl (hb hby hd) _ b, r⟩
theorem W.arraylength {a : Addr} {ty : FieldType} {vs : List Value} {z : Int32} (C : Good κ R Z own mnm bytes ml ret) (hd : Ins1 bytes pc .arraylength 1 nx) (A : Av Z h a ty vs) (hz : z.toInt = vs.length) (k : W κ n0 Q h cs sl nx L (.int z :: rest)) : W κ n0 Q h cs sl pc L (.ref a :: rest) := by
  obtain ⟨hd, rfl⟩ := hd
  obtain ⟨p, l, e, R', s, m, args, below, meth, c⟩ := κ
  obtain ⟨hx, hZ, hby, hml, hown, hret, hlk, hnm, rfl⟩ := C
  intro T locs X eT N h1 h2
  obtain ⟨s₂, o, b, r⟩ := k T locs X eT N h1 h2
  obtain ⟨cl, Ar, q1, q2⟩ := A
  have e2 : cl.slots.size = vs.length := by rw [← q1]; simp
  have e3 : cl.slots.size.toInt32 = z := Int32.toInt_inj.mp (by rw [hz, e2]; exact Int32.toInt_ofNat_of_lt q2)
  refine ⟨s₂, o, X.arraylength hx (by rw [eT]; exact Ar.1) (State.isArrayOf_alike hZ.alike Ar.2.1) (g := mkF m pc L.toArray (.ref a :: rest)) rfl rfl (hb hby hd) _ ?_, r⟩
  rw [e3]; exact b
theorem W.iastore {a : Addr} {vs : List Value} {j : Int32} {i : Nat} {x : Int32} (C : Good κ R Z own mnm bytes ml ret) (hd : Ins1 bytes pc .iastore 1 nx) (A : Av Z h a .int vs) (hj : j.toInt = i) (hi : i < vs.length) (hn : n0 ≤ a) (k : ∀ h', Wr h h' a i (.int x) → Av Z h' a .int (vs.set i (.int x)) → W κ n0 Q h' cs sl nx L rest) : W κ n0 Q h cs sl pc L ((.int x) :: .int j :: .ref a :: rest) := by
  obtain ⟨hd, rfl⟩ := hd
  obtain ⟨p, l, e, R', s, m, args, below, meth, c⟩ := κ
  obtain ⟨hx, hZ, hby, hml, hown, hret, hlk, hnm, rfl⟩ := C
  intro T locs X eT N h1 h2
  have A' := A
  obtain ⟨cl, Ar, q1, q2⟩ := A'
  obtain ⟨T', h', X', e', W', st'⟩ := stI X hx hZ eT Ar (j := j) (inB q1 hj hi) (g := mkF m pc L.toArray ((.int x) :: .int j :: .ref a :: rest)) rfl rfl (hb hby hd)
  have N' := Fr.snoc X' N hn
  rw [clampNat hj] at W'
  obtain ⟨s₂, o, b, r⟩ := k h' W' (A.set W') T' _ X' e' N' h1 h2
  exact ⟨s₂, o, st' _ b, r⟩
theorem W.bastore {a : Addr} {vs : List Value} {j : Int32} {i : Nat} {x : Int32} (C : Good κ R Z own mnm bytes ml ret) (hd : Ins1 bytes pc .bastore 1 nx) (A : Av Z h a .byte vs) (hj : j.toInt = i) (hi : i < vs.length) (hn : n0 ≤ a) (k : ∀ h', Wr h h' a i (.int x.toInt8.toInt32) → Av Z h' a .byte (vs.set i (.int x.toInt8.toInt32)) → W κ n0 Q h' cs sl nx L rest) : W κ n0 Q h cs sl pc L ((.int x) :: .int j :: .ref a :: rest) := by
  obtain ⟨hd, rfl⟩ := hd
  obtain ⟨p, l, e, R', s, m, args, below, meth, c⟩ := κ
  obtain ⟨hx, hZ, hby, hml, hown, hret, hlk, hnm, rfl⟩ := C
  intro T locs X eT N h1 h2
  have A' := A
  obtain ⟨cl, Ar, q1, q2⟩ := A'
  obtain ⟨T', h', X', e', W', st'⟩ := stB X hx hZ eT Ar (j := j) (inB q1 hj hi) (g := mkF m pc L.toArray ((.int x) :: .int j :: .ref a :: rest)) rfl rfl (hb hby hd)
  have N' := Fr.snoc X' N hn
  rw [clampNat hj] at W'
  obtain ⟨s₂, o, b, r⟩ := k h' W' (A.set W') T' _ X' e' N' h1 h2
  exact ⟨s₂, o, st' _ b, r⟩
theorem W.zastore {a : Addr} {vs : List Value} {j : Int32} {i : Nat} {x : Int32} (C : Good κ R Z own mnm bytes ml ret) (hd : Ins1 bytes pc .bastore 1 nx) (A : Av Z h a .boolean vs) (hj : j.toInt = i) (hi : i < vs.length) (hn : n0 ≤ a) (k : ∀ h', Wr h h' a i (.int (x &&& 1)) → Av Z h' a .boolean (vs.set i (.int (x &&& 1))) → W κ n0 Q h' cs sl nx L rest) : W κ n0 Q h cs sl pc L ((.int x) :: .int j :: .ref a :: rest) := by
  obtain ⟨hd, rfl⟩ := hd
  obtain ⟨p, l, e, R', s, m, args, below, meth, c⟩ := κ
  obtain ⟨hx, hZ, hby, hml, hown, hret, hlk, hnm, rfl⟩ := C
  intro T locs X eT N h1 h2
  have A' := A
  obtain ⟨cl, Ar, q1, q2⟩ := A'
  obtain ⟨T', h', X', e', W', st'⟩ := stZ X hx hZ eT Ar (j := j) (inB q1 hj hi) (g := mkF m pc L.toArray ((.int x) :: .int j :: .ref a :: rest)) rfl rfl (hb hby hd)
  have N' := Fr.snoc X' N hn
  rw [clampNat hj] at W'
  obtain ⟨s₂, o, b, r⟩ := k h' W' (A.set W') T' _ X' e' N' h1 h2
  exact ⟨s₂, o, st' _ b, r⟩
theorem W.lastore {a : Addr} {vs : List Value} {j : Int32} {i : Nat} {x : Int64} (C : Good κ R Z own mnm bytes ml ret) (hd : Ins1 bytes pc .lastore 1 nx) (A : Av Z h a .long vs) (hj : j.toInt = i) (hi : i < vs.length) (hn : n0 ≤ a) (k : ∀ h', Wr h h' a i (.long x) → Av Z h' a .long (vs.set i (.long x)) → W κ n0 Q h' cs sl nx L rest) : W κ n0 Q h cs sl pc L ((.long x) :: .int j :: .ref a :: rest) := by
  obtain ⟨hd, rfl⟩ := hd
  obtain ⟨p, l, e, R', s, m, args, below, meth, c⟩ := κ
  obtain ⟨hx, hZ, hby, hml, hown, hret, hlk, hnm, rfl⟩ := C
  intro T locs X eT N h1 h2
  have A' := A
  obtain ⟨cl, Ar, q1, q2⟩ := A'
  obtain ⟨T', h', X', e', W', st'⟩ := stJ X hx hZ eT Ar (j := j) (inB q1 hj hi) (g := mkF m pc L.toArray ((.long x) :: .int j :: .ref a :: rest)) rfl rfl (hb hby hd)
  have N' := Fr.snoc X' N hn
  rw [clampNat hj] at W'
  obtain ⟨s₂, o, b, r⟩ := k h' W' (A.set W') T' _ X' e' N' h1 h2
  exact ⟨s₂, o, st' _ b, r⟩
theorem W.castore {a : Addr} {vs : List Value} {j : Int32} {i : Nat} {x : Int32} (C : Good κ R Z own mnm bytes ml ret) (hd : Ins1 bytes pc .castore 1 nx) (A : Av Z h a .char vs) (hj : j.toInt = i) (hi : i < vs.length) (hn : n0 ≤ a) (k : ∀ h', Wr h h' a i (.int (nar .char x)) → Av Z h' a .char (vs.set i (.int (nar .char x))) → W κ n0 Q h' cs sl nx L rest) : W κ n0 Q h cs sl pc L ((.int x) :: .int j :: .ref a :: rest) := by
  obtain ⟨hd, rfl⟩ := hd
  obtain ⟨p, l, e, R', s, m, args, below, meth, c⟩ := κ
  obtain ⟨hx, hZ, hby, hml, hown, hret, hlk, hnm, rfl⟩ := C
  intro T locs X eT N h1 h2
  have A' := A
  obtain ⟨cl, Ar, q1, q2⟩ := A'
  obtain ⟨T', h', X', e', W', st'⟩ := stC X hx hZ eT Ar (j := j) (inB q1 hj hi) (g := mkF m pc L.toArray ((.int x) :: .int j :: .ref a :: rest)) rfl rfl (hb hby hd)
  have N' := Fr.snoc X' N hn
  rw [clampNat hj] at W'
  obtain ⟨s₂, o, b, r⟩ := k h' W' (A.set W') T' _ X' e' N' h1 h2
  exact ⟨s₂, o, st' _ b, r⟩
theorem Av.of_new {h' : Heap} {a : Addr} {cA : ClassId} {ty : FieldType} {n : Int32} (A : Arr Z h' a (newA cA ty n) ty) : Av Z h' a ty (List.replicate n.toNatClampNeg (defaultValue ty)) := by
  refine ⟨_, A, by simp [newA], ?_⟩
  have e : n.toNatClampNeg = n.toInt.toNat := rfl
  have := Int32.toInt_lt n
  rw [List.length_replicate]; omega
theorem W.newarray {aty : ArrayType} {ty : FieldType} {n : Int32} {vs : List Value} (cap : Nat) (C : Good κ R Z own mnm bytes ml ret) (hd : Ins1 bytes pc (.newarray aty) 2 nx) (hty : newarray.typeOf aty = ty) (w : (Jvm.Cond.arrayClass ty).before a0 Z = true) (hn : 0 ≤ n.toInt) (hcap : n.toInt ≤ cap) (hvs : List.replicate n.toNatClampNeg (defaultValue ty) = vs) (hb8 : cap * 8 ≤ 536870912) (hc : cs + 1 ≤ R.cells) (hl : sl + cap ≤ R.slots) (k : ∀ h' a, h.size = a → Ext h h' → Av Z h' a ty vs → W κ n0 Q h' (cs + 1) (sl + cap) nx L (.ref a :: rest)) : W κ n0 Q h cs sl pc L (.int n :: rest) := by
  subst hty
  obtain ⟨hd, rfl⟩ := hd
  obtain ⟨p, l, e, R', s, m, args, below, meth, c⟩ := κ
  obtain ⟨hx, hZ, hby, hml, hown, hret, hlk, hnm, rfl⟩ := C
  intro T locs X eT N h1 h2
  have hn' : ¬ n < 0 := by rw [Int32.lt_iff_toInt_lt, Int32.toInt_zero]; omega
  have hc' : n.toNatClampNeg ≤ cap := by have e : n.toNatClampNeg = n.toInt.toNat := rfl; omega
  obtain ⟨T', h', cA, X', e', E', A', st'⟩ := newP X hx hZ w eT (g := mkF m pc L.toArray (.int n :: rest)) rfl (hb hby hd) rfl hn' (cap := cap) hc' hb8 hc hl
  obtain ⟨s₂, o, b, r⟩ := k h' _ rfl E' (hvs ▸ Av.of_new A') T' _ X' e' N hc hl
  exact ⟨s₂, o, st' _ b, r⟩
/-! ### objects -/
theorem W.new {i : Nat} {C' : String} {nf : Nat} (C : Good κ R Z own mnm bytes ml ret) (hd : Ins1 bytes pc (.new i) 3 nx) (w1 : (Jvm.Cond.classLink own i C').before a0 Z = true) (w2 : (Jvm.Cond.instantiable C' nf).before a0 Z = true) (w3 : (Jvm.Cond.initialized C').before a0 Z = true) (hc : cs + 1 ≤ R.cells) (hl : sl + nf ≤ R.slots)
    (k : ∀ h' a, h.size = a → Ext h h' → Exa Z h' a C' → (∀ {O nm d : String} {ty : FieldType}, Laid Z a0 C' O nm d → parseFieldDescriptor d = some ty → Fld Z h' a O nm d (defaultValue ty)) → W κ n0 Q h' (cs + 1) (sl + nf) nx L (.ref a :: st)) : W κ n0 Q h cs sl pc L st := by
  obtain ⟨hd, rfl⟩ := hd
  obtain ⟨p, l, e, R', s, m, args, below, meth, c⟩ := κ
  obtain ⟨hx, hZ, hby, hml, hown, hret, hlk, hnm, rfl⟩ := C
  intro T locs X eT N h1 h2
  obtain ⟨T', h', X', e', E', A', D', -, st'⟩ := newO X hx hZ hown w1 w2 w3 eT (g := mkF m pc L.toArray st) rfl (hb hby hd) hc hl
  obtain ⟨s₂, o, b, r⟩ := k h' _ rfl E' A' D' T' _ X' e' N hc hl
  exact ⟨s₂, o, st' _ b, r⟩
theorem W.getfield {i : Nat} {R0 O nm d host : String} {a : Addr} {v : Value} (C : Good κ R Z own mnm bytes ml ret) (hd : Ins1 bytes pc (.getfield i) 3 nx) (w : (Jvm.Cond.fieldLink own i R0 nm d).before a0 Z = true ∨ (Jvm.Cond.fieldLinkNest own i R0 nm d host).before a0 Z = true) (via : Via Z R0 O nm d) (F : Fld Z h a O nm d v) (k : W κ n0 Q h cs sl nx L (v :: rest)) : W κ n0 Q h cs sl pc L (.ref a :: rest) := by
  obtain ⟨hd, rfl⟩ := hd
  obtain ⟨p, l, e, R', s, m, args, below, meth, c⟩ := κ
  obtain ⟨hx, hZ, hby, hml, hown, hret, hlk, hnm, rfl⟩ := C
  intro T locs X eT N h1 h2
  obtain ⟨T', X', e', st'⟩ := getF X hx hZ hown w via eT F (g := mkF m pc L.toArray (.ref a :: rest)) rfl rfl (hb hby hd)
  obtain ⟨s₂, o, b, r⟩ := k T' _ X' e' N h1 h2
  exact ⟨s₂, o, st' _ b, r⟩
theorem W.getstatic {i : Nat} {R0 O nm d host : String} {v : Value} (C : Good κ R Z own mnm bytes ml ret) (hd : Ins1 bytes pc (.getstatic i) 3 nx) (w : (Jvm.Cond.fieldLink own i R0 nm d).before a0 Z = true ∨ (Jvm.Cond.fieldLinkNest own i R0 nm d host).before a0 Z = true) (via : Via Z R0 O nm d) (F : Sta Z h O nm d v) (k : W κ n0 Q h cs sl nx L (v :: st)) : W κ n0 Q h cs sl pc L st := by
  obtain ⟨hd, rfl⟩ := hd
  obtain ⟨p, l, e, R', s, m, args, below, meth, c⟩ := κ
  obtain ⟨hx, hZ, hby, hml, hown, hret, hlk, hnm, rfl⟩ := C
  intro T locs X eT N h1 h2
  obtain ⟨T', X', e', st'⟩ := getS2 X hx hZ hown w via eT F (g := mkF m pc L.toArray st) rfl (hb hby hd)
  obtain ⟨s₂, o, b, r⟩ := k T' _ X' e' N h1 h2
  exact ⟨s₂, o, st' _ b, r⟩
theorem W.putfield {i kk : Nat} {R0 O nm d host C' : String} {ty : FieldType} {a : Addr} {v old : Value} (C : Good κ R Z own mnm bytes ml ret) (hd : Ins1 bytes pc (.putfield i) 3 nx) (w : (Jvm.Cond.fieldLink own i R0 nm d).before a0 Z = true ∨ (Jvm.Cond.fieldLinkNest own i R0 nm d host).before a0 Z = true) (via : Via Z R0 O nm d) (F : Fld Z h a O nm d old) (E : Exa Z h a C')
    (Ly : (Jvm.Cond.lays C' O nm d).before a0 Z = true ∨ ((Jvm.Cond.laysFinal C' O nm d).before a0 Z = true ∧ own = O ∧ mnm = "<init>")) (wi : (Jvm.Cond.instantiable C' kk).before a0 Z = true) (hty : parseFieldDescriptor d = some ty) (hnw : narrow ty v = v) (hf : fits ty v = true) (hn : n0 ≤ a)
    (k : ∀ h', Wr h h' a (Jvm.RoadKit.slotOf Z O nm d) v → Fld Z h' a O nm d v → W κ n0 Q h' cs sl nx L rest) : W κ n0 Q h cs sl pc L (v :: .ref a :: rest) := by
  obtain ⟨hd, rfl⟩ := hd
  obtain ⟨p, l, e, R', s, m, args, below, meth, c⟩ := κ
  obtain ⟨hx, hZ, hby, hml, hown, hret, hlk, hnm, rfl⟩ := C
  intro T locs X eT N h1 h2
  obtain ⟨T', h', X', e', W', st'⟩ := putF X hx hZ hown w via eT F E (Ly.imp id fun q => ⟨q.1, q.2.1, hnm.trans q.2.2⟩) wi hty hnw hf (g := mkF m pc L.toArray (v :: .ref a :: rest)) rfl rfl (hb hby hd)
  have N' := Fr.snoc X' N hn
  obtain ⟨s₂, o, b, r⟩ := k h' W' (F.same W') T' _ X' e' N' h1 h2
  exact ⟨s₂, o, st' _ b, r⟩
theorem W.putfieldN {i kk : Nat} {R0 O nm d C' : String} {ty : FieldType} {a : Addr} {v v' old : Value} (C : Good κ R Z own mnm bytes ml ret) (hd : Ins1 bytes pc (.putfield i) 3 nx) (w : (Jvm.Cond.fieldLink own i R0 nm d).before a0 Z = true) (via : Via Z R0 O nm d) (F : Fld Z h a O nm d old) (E : Exa Z h a C')
    (Ly : (Jvm.Cond.lays C' O nm d).before a0 Z = true ∨ ((Jvm.Cond.laysFinal C' O nm d).before a0 Z = true ∧ own = O ∧ mnm = "<init>")) (wi : (Jvm.Cond.instantiable C' kk).before a0 Z = true) (hty : parseFieldDescriptor d = some ty) (hnw : narrow ty v = v') (hf : fits ty v' = true) (hn : n0 ≤ a)
    (k : ∀ h', Wr h h' a (Jvm.RoadKit.slotOf Z O nm d) v' → Fld Z h' a O nm d v' → W κ n0 Q h' cs sl nx L rest) : W κ n0 Q h cs sl pc L (v :: .ref a :: rest) := by
  obtain ⟨hd, rfl⟩ := hd
  obtain ⟨p, l, e, R', s, m, args, below, meth, c⟩ := κ
  obtain ⟨hx, hZ, hby, hml, hown, hret, hlk, hnm, rfl⟩ := C
  intro T locs X eT N h1 h2
  obtain ⟨T', h', X', e', W', st'⟩ := putFN X hx hZ hown w via eT F E (Ly.imp id fun q => ⟨q.1, q.2.1, hnm.trans q.2.2⟩) wi hty hnw hf (g := mkF m pc L.toArray (v :: .ref a :: rest)) rfl rfl (hb hby hd)
  have N' := Fr.snoc X' N hn
  obtain ⟨s₂, o, b, r⟩ := k h' W' (F.same W') T' _ X' e' N' h1 h2
  exact ⟨s₂, o, st' _ b, r⟩
/-! ### returns -/
theorem W.ireturn {z : Int32} (C : Good κ R Z own mnm bytes ml (some .int)) (hd : Ins1 bytes pc .ireturn 1 nx) (hq : Q (some (.int z)) h) : W κ n0 Q h cs sl pc L (.int z :: rest) := by
  obtain ⟨p, l, e, R', s, m, args, below, meth, c⟩ := κ
  obtain ⟨hx, hZ, hby, hml, hown, hret, hlk, hnm, rfl⟩ := C
  intro T locs X eT N h1 h2
  obtain ⟨fs, hr, hrun, hended, hW, hsame⟩ := X.leave (v := some (.int z)) (fun h => by rw [hret] at h; cases h) hlk
  refine ⟨_, _, retOut X hx hret rfl (Or.inl ⟨rfl, Or.inl rfl, z, rfl⟩) (hb hby hd.1) hr, hrun, hended, _, _, rfl, ⟨?_, N⟩, ⟨_, rfl⟩, hW, hsame.mono h1 h2⟩
  show Q _ T.heap
  rw [eT]; exact hq
theorem W.nreturn {t : FieldType} {z : Int32} (C : Good κ R Z own mnm bytes ml (some t)) (ht : t = .boolean ∨ t = .byte ∨ t = .char ∨ t = .short) (hd : Ins1 bytes pc .ireturn 1 nx) (hq : Q (some (.int (nar t z))) h) : W κ n0 Q h cs sl pc L (.int z :: rest) := by
  obtain ⟨p, l, e, R', s, m, args, below, meth, c⟩ := κ
  obtain ⟨hx, hZ, hby, hml, hown, hret, hlk, hnm, rfl⟩ := C
  intro T locs X eT N h1 h2
  obtain ⟨fs, hr, hrun, hended, hW, hsame⟩ := X.leave (v := some (.int (nar t z))) (fun h => by rw [hret] at h; cases h) hlk
  refine ⟨_, _, retN X hx hret ht (hb hby hd.1) hr, hrun, hended, _, _, rfl, ⟨?_, N⟩, ⟨_, rfl⟩, hW, hsame.mono h1 h2⟩
  show Q _ T.heap
  rw [eT]; exact hq
theorem W.zreturn {z : Int32} (C : Good κ R Z own mnm bytes ml (some .boolean)) (hd : Ins1 bytes pc .ireturn 1 nx) (hq : Q (some (.int (z &&& 1))) h) : W κ n0 Q h cs sl pc L (.int z :: rest) := W.nreturn C (Or.inl rfl) hd hq
theorem W.lreturn {z : Int64} (C : Good κ R Z own mnm bytes ml (some .long)) (hd : Ins1 bytes pc .lreturn 1 nx) (hq : Q (some (.long z)) h) : W κ n0 Q h cs sl pc L (.long z :: rest) := by
  obtain ⟨p, l, e, R', s, m, args, below, meth, c⟩ := κ
  obtain ⟨hx, hZ, hby, hml, hown, hret, hlk, hnm, rfl⟩ := C
  intro T locs X eT N h1 h2
  obtain ⟨fs, hr, hrun, hended, hW, hsame⟩ := X.leave (v := some (.long z)) (fun h => by rw [hret] at h; cases h) hlk
  refine ⟨_, _, retOut X hx hret rfl (Or.inr (Or.inl ⟨rfl, rfl, z, rfl⟩)) (hb hby hd.1) hr, hrun, hended, _, _, rfl, ⟨?_, N⟩, ⟨_, rfl⟩, hW, hsame.mono h1 h2⟩
  show Q _ T.heap
  rw [eT]; exact hq
theorem W.areturn {t : FieldType} {v : Value} (C : Good κ R Z own mnm bytes ml (some t)) (ht : t.isReference = true) (hv : v.isRef = true) (hd : Ins1 bytes pc .areturn 1 nx) (hq : Q (some v) h) : W κ n0 Q h cs sl pc L (v :: rest) := by
  obtain ⟨p, l, e, R', s, m, args, below, meth, c⟩ := κ
  obtain ⟨hx, hZ, hby, hml, hown, hret, hlk, hnm, rfl⟩ := C
  intro T locs X eT N h1 h2
  obtain ⟨fs, hr, hrun, hended, hW, hsame⟩ := X.leave (v := some v) (fun h => by rw [hret] at h; cases h) hlk
  have hnw : narrow t v = v := by cases t <;> first | (cases ht; done) | (cases v <;> first | rfl | (cases hv; done))
  refine ⟨_, _, retOut X hx hret hnw (Or.inr (Or.inr (Or.inr (Or.inr ⟨rfl, ht, hv⟩)))) (hb hby hd.1) hr, hrun, hended, _, _, rfl, ⟨?_, N⟩, ⟨_, rfl⟩, hW, hsame.mono h1 h2⟩
  show Q _ T.heap
  rw [eT]; exact hq
theorem W.vreturn (C : Good κ R Z own mnm bytes ml none) (hd : Ins1 bytes pc .return_ 1 nx) (hq : Q none h) : W κ n0 Q h cs sl pc L [] := by
  obtain ⟨p, l, e, R', s, m, args, below, meth, c⟩ := κ
  obtain ⟨hx, hZ, hby, hml, hown, hret, hlk, hnm, rfl⟩ := C
  intro T locs X eT N h1 h2
  obtain ⟨fs, hr, hrun, hended, hW, hsame⟩ := X.leave (v := none) (fun _ => rfl) hlk
  refine ⟨_, _, X.returnOut hx hret (hb hby hd.1) hr, hrun, hended, _, _, rfl, ⟨?_, N⟩, ⟨_, rfl⟩, hW, hsame.mono h1 h2⟩
  show Q _ T.heap
  rw [eT]; exact hq
/-! ### calls -/
theorem Con.of {y : MethodName} {cb : ByteArray} {cml : Nat} {cret : Option FieldType} {rm : Room} {as' : List Value} {h0 : Heap} {L : List Slot} (hy : plainFor y = true) (hef : ∀ m, entryFrame m as'.toArray cml = mkF m 0 L.toArray []) (k : ∀ κ (Qx : Option Value → Heap → Prop), (∀ v h', Q v h' → Qx v h') → Good κ rm Z y.cls y.name cb cml cret → W κ n0 Qx h0 0 0 0 L []) : Con Z y cb cml cret rm as' h0 n0 Q := by
  intro l ws
  refine MetFree.of_bodySF hy hisR ?_
  intro p e s m args below meth c s₁ Bd hml0 hP hK
  obtain ⟨rfl, hZ, hh⟩ := hP
  have X0 : Stand p l e rm s m as'.toArray below meth c s₁ [] 0 0 := Stand.of_body Bd
  have e0 : s₁.heap = h0 := by rw [← hh, Bd.state]; rfl
  rw [hef m]
  exact k (p, l, e, rm, s, m, as'.toArray, below, meth, c) Q (fun _ _ q => q) ⟨Bd.exec, hZ, Bd.bytes, hml0, findClass_of_methodNamed Bd.named, Bd.returns, BodyLoose.notSynchronized Bd, (name_of_methodNamed Bd.named Bd.method).1, rfl⟩ s₁ [] X0 e0 (Fr.nil n0) (Nat.zero_le _) (Nat.zero_le _)
theorem Con.post {y : MethodName} {cb : ByteArray} {cml : Nat} {cret : Option FieldType} {rm : Room} {as' : List Value} {h0 : Heap} {Q' : Option Value → Heap → Prop} (hq : ∀ v h, Q v h → Q' v h) (k : Con Z y cb cml cret rm as' h0 n0 Q) : Con Z y cb cml cret rm as' h0 n0 Q' := by
  intro l ws p e h1 h2 h3 s m args below h4 h5 h6 h7
  obtain ⟨n, o, g1, g2, g3, v, L, e1, ⟨e2, e3⟩, e4⟩ := k l ws p e h1 h2 h3 s m args below h4 h5 h6 h7
  exact ⟨n, o, g1, g2, g3, v, L, e1, ⟨hq _ _ e2, e3⟩, e4⟩
theorem W.callS {i : Nat} {y : MethodName} {cb : ByteArray} {cml wt : Nat} {cret : Option FieldType} {rm : Room} {as' : List Value} {Qc : Option Value → Heap → Prop} {ps : List FieldType} {rt : Option FieldType} (C : Good κ R Z own mnm bytes ml ret) (hd : Ins1 bytes pc (.invokestatic i) 3 nx)
    (w1 : (Jvm.Cond.methodLink own i y).before a0 Z = true) (w2 : (Jvm.Cond.static y).before a0 Z = true) (w3 : (Jvm.Cond.initialized y.cls).before a0 Z = true) (w4 : (Jvm.Cond.code y cb cml cret).before a0 Z = true) (hy : y.cls ≠ "java/lang/invoke/MethodHandle" ∧ y.cls ≠ "java/lang/invoke/VarHandle")
    (hpd : parseMethodDescriptor y.desc = some ⟨ps, rt⟩) (hlen : as'.length = ps.length) (hM : Con Z y cb cml cret rm as' h n0 Qc) (hst : st = as'.reverse ++ rest) (hL : L.length = ml) (hwt : 2 * 0 + (rest.map fun v => v.category).sum ≤ wt)
    (hfr : rm.frames + 1 ≤ R.frames) (hlo : wt + (cml + 11) + rm.locals ≤ R.locals) (hcs : cs + rm.cells ≤ R.cells) (hsl : sl + rm.slots ≤ R.slots)
    (k : ∀ v h', Qc v h' → W κ n0 Q h' (cs + rm.cells) (sl + rm.slots) nx L (v.toList ++ rest)) : W κ n0 Q h cs sl pc L st := by
  obtain ⟨hd, rfl⟩ := hd
  obtain ⟨p, l, e, R', s, m, args, below, meth, c⟩ := κ
  obtain ⟨hx, hZ, hby, hml, hown, hret, hlk, hnm, rfl⟩ := C
  intro T locs X eT N h1 h2
  obtain ⟨v, _, ⟨T2, L2, k2, n2⟩, -, X2, ⟨Lc, hQ, l2, y2, z2⟩, st2⟩ := Jvm.LawKit.callS X hx (y := y) hown (mvT hZ w1) (mvT hZ w2) (mvT hZ w3) (mvT hZ w4) hy (backOf (W := wt) (Q := fun v h L => Qc v h ∧ Fr n0 L) (hM l []) hZ w4 w3 hfr hlo) (g := mkF m pc L.toArray st) rfl (by show L.toArray.size = _; rw [hml, ← hL]; simp) (argsL := as') (rest := rest) (lenOf hpd hlen) hst hwt (hb hby hd) (fun _ _ => ⟨rfl, eT, hcs, hsl⟩)
  dsimp only [Pt.U, Pt.locs, Pt.cells, Pt.slots] at X2 l2 y2 z2 st2 hQ
  subst l2 y2 z2
  obtain ⟨s₂, o, b, r⟩ := k v T2.heap hQ.1 T2 _ X2 rfl (Fr.app N hQ.2) hcs hsl
  exact ⟨s₂, o, st2 _ b, r⟩
theorem W.callC {i : Nat} {y : MethodName} {cb : ByteArray} {cml wt : Nat} {rm : Room} {a : Addr} {as' : List Value} {Qc : Option Value → Heap → Prop} {ps : List FieldType} {rt : Option FieldType} (C : Good κ R Z own mnm bytes ml ret) (hd : Ins1 bytes pc (.invokespecial i) 3 nx) (hy1 : y.name = "<init>")
    (w1 : (Jvm.Cond.methodLink own i y).before a0 Z = true) (w2 : (Jvm.Cond.instanceMethod y).before a0 Z = true) (w3 : (Jvm.Cond.initialized y.cls).before a0 Z = true) (w4 : (Jvm.Cond.code y cb cml none).before a0 Z = true) (hy : y.cls ≠ "java/lang/invoke/MethodHandle" ∧ y.cls ≠ "java/lang/invoke/VarHandle")
    (hpd : parseMethodDescriptor y.desc = some ⟨ps, rt⟩) (hlen : as'.length = ps.length) (hM : Con Z y cb cml none rm (.ref a :: as') h n0 Qc) (hst : st = as'.reverse ++ .ref a :: rest) (hL : L.length = ml) (hwt : 2 * 0 + (rest.map fun v => v.category).sum ≤ wt)
    (hfr : rm.frames + 1 ≤ R.frames) (hlo : wt + (cml + 11) + rm.locals ≤ R.locals) (hcs : cs + rm.cells ≤ R.cells) (hsl : sl + rm.slots ≤ R.slots)
    (k : ∀ v h', Qc v h' → W κ n0 Q h' (cs + rm.cells) (sl + rm.slots) nx L (v.toList ++ rest)) : W κ n0 Q h cs sl pc L st := by
  obtain ⟨hd, rfl⟩ := hd
  obtain ⟨p, l, e, R', s, m, args, below, meth, c⟩ := κ
  obtain ⟨hx, hZ, hby, hml, hown, hret, hlk, hnm, rfl⟩ := C
  intro T locs X eT N h1 h2
  obtain ⟨v, _, ⟨T2, L2, k2, n2⟩, -, X2, ⟨Lc, hQ, l2, y2, z2⟩, st2⟩ := X.specialBack hx (y := y) hy1 hown (mvT hZ w1) (mvT hZ w2) (mvT hZ w4) hy (backOf (W := wt) (Q := fun v h L => Qc v h ∧ Fr n0 L) (hM l []) hZ w4 w3 hfr hlo) (g := mkF m pc L.toArray st) rfl (by show L.toArray.size = _; rw [hml, ← hL]; simp) (Steps.refl _) (a := a) (argsL := as') (rest := rest) (lenOf hpd hlen) hst hwt (hb hby hd) (fun _ _ => ⟨rfl, eT, hcs, hsl⟩)
  dsimp only [Pt.U, Pt.locs, Pt.cells, Pt.slots] at X2 l2 y2 z2 st2 hQ
  subst l2 y2 z2
  obtain ⟨s₂, o, b, r⟩ := k v T2.heap hQ.1 T2 _ X2 rfl (Fr.app N hQ.2) hcs hsl
  exact ⟨s₂, o, st2.trans b, r⟩
theorem W.callV {i : Nat} {C' : String} {y : MethodName} {cb : ByteArray} {cml wt : Nat} {cret : Option FieldType} {rm : Room} {a : Addr} {as' : List Value} {Qc : Option Value → Heap → Prop} {ps : List FieldType} {rt : Option FieldType} (C : Good κ R Z own mnm bytes ml ret) (hd : Ins1 bytes pc (.invokevirtual i) 3 nx)
    (w1 : (Jvm.Cond.methodLink own i y).before a0 Z = true) (w2 : (Jvm.Cond.declares y).before a0 Z = true) (w5 : (Jvm.Cond.selects C' y y).before a0 Z = true) (w6 : (Jvm.Cond.instanceMethod y).before a0 Z = true) (w3 : (Jvm.Cond.initialized y.cls).before a0 Z = true) (w4 : (Jvm.Cond.code y cb cml cret).before a0 Z = true) (hy : y.cls ≠ "java/lang/invoke/MethodHandle" ∧ y.cls ≠ "java/lang/invoke/VarHandle")
    (E : Exa Z h a C') (hpd : parseMethodDescriptor y.desc = some ⟨ps, rt⟩) (hlen : as'.length = ps.length) (hM : Con Z y cb cml cret rm (.ref a :: as') h n0 Qc) (hst : st = as'.reverse ++ .ref a :: rest) (hL : L.length = ml) (hwt : 2 * 0 + (rest.map fun v => v.category).sum ≤ wt)
    (hfr : rm.frames + 1 ≤ R.frames) (hlo : wt + (cml + 11) + rm.locals ≤ R.locals) (hcs : cs + rm.cells ≤ R.cells) (hsl : sl + rm.slots ≤ R.slots)
    (k : ∀ v h', Qc v h' → W κ n0 Q h' (cs + rm.cells) (sl + rm.slots) nx L (v.toList ++ rest)) : W κ n0 Q h cs sl pc L st := by
  obtain ⟨hd, rfl⟩ := hd
  obtain ⟨p, l, e, R', s, m, args, below, meth, c⟩ := κ
  obtain ⟨hx, hZ, hby, hml, hown, hret, hlk, hnm, rfl⟩ := C
  intro T locs X eT N h1 h2
  obtain ⟨cq, kq, qa, qb, qc⟩ := isOf hZ eT E
  obtain ⟨v, _, ⟨T2, L2, k2, n2⟩, -, X2, ⟨Lc, hQ, l2, y2, z2⟩, st2⟩ := X.virtualBack hx (y := y) (z := y) hown (mvT hZ w1) (mvT hZ w2) (notFace_of_selects (args := #[]) (mvT hZ w5)) (mvT hZ w5) (mvT hZ w6) hy (backOf (W := wt) (Q := fun v h L => Qc v h ∧ Fr n0 L) (hM l []) hZ w4 w3 hfr hlo) qa qc (g := mkF m pc L.toArray st) rfl (by show L.toArray.size = _; rw [hml, ← hL]; simp) (Steps.refl _) (argsL := as') (rest := rest) (lenOf hpd hlen) hst hwt (hb hby hd) (fun _ _ => ⟨rfl, eT, hcs, hsl⟩)
  dsimp only [Pt.U, Pt.locs, Pt.cells, Pt.slots] at X2 l2 y2 z2 st2 hQ
  subst l2 y2 z2
  obtain ⟨s₂, o, b, r⟩ := k v T2.heap hQ.1 T2 _ X2 rfl (Fr.app N hQ.2) hcs hsl
  exact ⟨s₂, o, st2.trans b, r⟩
theorem W.callP {i kk : Nat} {y : MethodName} {cb : ByteArray} {cml wt : Nat} {cret : Option FieldType} {rm : Room} {a : Addr} {as' : List Value} {Qc : Option Value → Heap → Prop} {ps : List FieldType} {rt : Option FieldType} (C : Good κ R Z own mnm bytes ml ret) (hd : Ins1 bytes pc (.invokevirtual i) 3 nx)
    (w1 : (Jvm.Cond.methodLink own i y).before a0 Z = true) (w6 : (Jvm.Cond.instanceMethod y).before a0 Z = true) (wi : (Jvm.Cond.instantiable y.cls kk).before a0 Z = true) (w7 : (Jvm.Cond.privateMethod y).before a0 Z = true) (w3 : (Jvm.Cond.initialized y.cls).before a0 Z = true) (w4 : (Jvm.Cond.code y cb cml cret).before a0 Z = true) (hy : y.cls ≠ "java/lang/invoke/MethodHandle" ∧ y.cls ≠ "java/lang/invoke/VarHandle")
    (E : Exa Z h a y.cls) (hpd : parseMethodDescriptor y.desc = some ⟨ps, rt⟩) (hlen : as'.length = ps.length) (hM : Con Z y cb cml cret rm (.ref a :: as') h n0 Qc) (hst : st = as'.reverse ++ .ref a :: rest) (hL : L.length = ml) (hwt : 2 * 0 + (rest.map fun v => v.category).sum ≤ wt)
    (hfr : rm.frames + 1 ≤ R.frames) (hlo : wt + (cml + 11) + rm.locals ≤ R.locals) (hcs : cs + rm.cells ≤ R.cells) (hsl : sl + rm.slots ≤ R.slots)
    (k : ∀ v h', Qc v h' → W κ n0 Q h' (cs + rm.cells) (sl + rm.slots) nx L (v.toList ++ rest)) : W κ n0 Q h cs sl pc L st := by
  obtain ⟨hd, rfl⟩ := hd
  obtain ⟨p, l, e, R', s, m, args, below, meth, c⟩ := κ
  obtain ⟨hx, hZ, hby, hml, hown, hret, hlk, hnm, rfl⟩ := C
  intro T locs X eT N h1 h2
  obtain ⟨cq, q1, q2⟩ := E.cell
  have hpr := Cond.privateMethod_at (mvP hZ w7 (args := args))
  have hin : (Jvm.Cond.instanceMethod y).before args s = true := mvT hZ w6
  obtain ⟨cc, kc, c1, c2, -, c4, -⟩ := Cond.instantiable_spec (mvT (args := args) hZ wi)
  have hse := selects_self_of_private c1 c2 (Bool.or_eq_false_iff.mp c4).1 hpr hin hy
  obtain ⟨v, _, ⟨T2, L2, k2, n2⟩, -, X2, ⟨Lc, hQ, l2, y2, z2⟩, st2⟩ := X.privateBack hx (y := y) hown (mvT hZ w1) hin hse hpr (mvT hZ w4) hy (backOf (W := wt) (Q := fun v h L => Qc v h ∧ Fr n0 L) (hM l []) hZ w4 w3 hfr hlo) (g := mkF m pc L.toArray st) rfl (by show L.toArray.size = _; rw [hml, ← hL]; simp) (Steps.refl _) (a := a) (by rw [eT]; exact q1) q2 (argsL := as') (rest := rest) (lenOf hpd hlen) hst hwt (hb hby hd) (fun _ _ => ⟨rfl, eT, hcs, hsl⟩)
  dsimp only [Pt.U, Pt.locs, Pt.cells, Pt.slots] at X2 l2 y2 z2 st2 hQ
  subst l2 y2 z2
  obtain ⟨s₂, o, b, r⟩ := k v T2.heap hQ.1 T2 _ X2 rfl (Fr.app N hQ.2) hcs hsl
  exact ⟨s₂, o, st2.trans b, r⟩
theorem W.initO {i : Nat} {a : Addr} {wt : Nat} (C : Good κ R Z own mnm bytes ml ret) (hd : Ins1 bytes pc (.invokespecial i) 3 nx) (w1 : (Jvm.Cond.methodLink own i Lib.objectInit).before a0 Z = true) (w2 : (Jvm.Cond.instanceMethod Lib.objectInit).before a0 Z = true) (w3 : (Jvm.Cond.code Lib.objectInit ⟨#[0xb1]⟩ 1 none).before a0 Z = true)
    (hL : L.length = ml) (hfr : 1 ≤ R.frames) (hwt : 2 * 0 + (rest.map fun v => v.category).sum ≤ wt) (hlo : wt + 12 ≤ R.locals) (k : W κ n0 Q h cs sl nx L rest) : W κ n0 Q h cs sl pc L (.ref a :: rest) := by
  obtain ⟨hd, rfl⟩ := hd
  obtain ⟨p, l, e, R', s, m, args, below, meth, c⟩ := κ
  obtain ⟨hx, hZ, hby, hml, hown, hret, hlk, hnm, rfl⟩ := C
  intro T locs X eT N h1 h2
  obtain ⟨T', X', e', st'⟩ := initO X hx hZ hown w1 w2 w3 eT (g := mkF m pc L.toArray (.ref a :: rest)) rfl (by show L.toArray.size = _; rw [hml, ← hL]; simp) rfl (hb hby hd) hfr hwt hlo
  obtain ⟨s₂, o, b, r⟩ := k T' _ X' e' N h1 h2
  exact ⟨s₂, o, st' _ b, r⟩
end WKit
/-- a value of one word stored over one word -/
theorem st1 {L : List Slot} {k : Nat} {o : Slot} {v : Value} (hold : L[k]? = some o) (ho : One o) (hv : v.category = 1) : storeLocals L.toArray k v = some (L.set k (.val v)).toArray := by
  have := XS.store1 (l := L.toArray) (i := k) (v := v) (o := o) (by simpa using hold) ho hv
  rw [this]; simp
theorem ofNat_toInt {n : Nat} (h : n < 2147483648) : (Int32.ofNat n).toInt = n := Int32.toInt_ofNat_of_lt h
theorem natOf {x : Int32} (h : 0 ≤ x.toInt) : ∃ n : Nat, x = Int32.ofNat n ∧ n < 2147483648 ∧ x.toInt = n := by
  have h2 := Int32.toInt_lt x
  refine ⟨x.toInt.toNat, Int32.toInt_inj.mp ?_, by omega, by omega⟩
  rw [ofNat_toInt (by omega)]; omega
/-! open addressing, in plain Lean: xs the array, M slots of two ints: a key, its value -/
def own_K (xs : List Int32) (s : Nat) : Int32 := xs.getD (2 * s) 0
def own_V (xs : List Int32) (s : Nat) : Int32 := xs.getD (2 * s + 1) 0
/-- the probe for k from the slot h stops after d steps -/
def own_F (xs : List Int32) (M h : Nat) (k : Int32) (d : Nat) : Prop :=
  (∀ d', d' < d → own_K xs ((h + d') % M) ≠ -1 ∧ own_K xs ((h + d') % M) ≠ k) ∧ (own_K xs ((h + d) % M) = -1 ∨ own_K xs ((h + d) % M) = k)
/-- how many of the first M slots are taken -/
def own_occ (xs : List Int32) : Nat → Nat
  | 0 => 0
  | M + 1 => own_occ xs M + (if own_K xs M = -1 then 0 else 1)
theorem own_occ_le (xs : List Int32) : ∀ M, own_occ xs M ≤ M
  | 0 => Nat.le_refl _
  | M + 1 => by
    have := own_occ_le xs M
    show own_occ xs M + _ ≤ _
    split <;> omega
theorem own_free (xs : List Int32) : ∀ M, own_occ xs M < M → ∃ s, s < M ∧ own_K xs s = -1
  | 0, h => by omega
  | M + 1, h => by
    have h' : own_occ xs M + (if own_K xs M = -1 then 0 else 1) < M + 1 := h
    by_cases hk : own_K xs M = -1
    · exact ⟨M, by omega, hk⟩
    · rw [if_neg hk] at h'
      obtain ⟨s, h1, h2⟩ := own_free xs M (by omega)
      exact ⟨s, by omega, h2⟩
theorem own_occ_same {xs ys : List Int32} : ∀ M, (∀ s, s < M → own_K ys s = own_K xs s) → own_occ ys M = own_occ xs M
  | 0, _ => rfl
  | M + 1, h => by
    show own_occ ys M + _ = own_occ xs M + _
    rw [own_occ_same M (fun s hs => h s (by omega)), h M (by omega)]
theorem own_occ_one {xs ys : List Int32} (p : Nat) : ∀ M, (∀ s, s < M → s ≠ p → own_K ys s = own_K xs s) → own_occ ys M ≤ own_occ xs M + 1
  | 0, _ => Nat.zero_le _
  | M + 1, h => by
    show own_occ ys M + _ ≤ own_occ xs M + _ + 1
    by_cases hp : M = p
    · rw [own_occ_same M (fun s hs => h s (by omega) (by omega))]
      split <;> split <;> omega
    · have := own_occ_one p M (fun s hs hne => h s (by omega) hne)
      rw [h M (by omega) hp]
      split <;> omega
theorem own_least (P : Nat → Prop) [DecidablePred P] : ∀ n, P n → ∃ d, d ≤ n ∧ P d ∧ ∀ d', d' < d → ¬ P d' := by
  intro n
  induction n using Nat.strongRecOn with
  | ind n ih =>
    intro hn
    by_cases hx : ∃ d', d' < n ∧ P d'
    · obtain ⟨d', h1, h2⟩ := hx
      obtain ⟨d, g1, g2, g3⟩ := ih d' h1 h2
      exact ⟨d, by omega, g2, g3⟩
    · exact ⟨n, Nat.le_refl _, hn, fun d' hd hp => hx ⟨d', hd, hp⟩⟩
theorem own_F_ex {xs : List Int32} {M : Nat} (h : Nat) (k : Int32) {s : Nat} (hM : M = 8 ∨ M = 16) (hs : s < M) (hf : own_K xs s = -1) : ∃ d, d < M ∧ own_F xs M h k d := by
  obtain ⟨d0, h1, h2⟩ : ∃ d0, d0 < M ∧ (h + d0) % M = s := ⟨(s + M - h % M) % M, by rcases hM with rfl | rfl <;> omega, by rcases hM with rfl | rfl <;> omega⟩
  obtain ⟨d, g1, g2, g3⟩ := own_least (fun d => own_K xs ((h + d) % M) = -1 ∨ own_K xs ((h + d) % M) = k) d0 (Or.inl (by rw [h2]; exact hf))
  exact ⟨d, by omega, fun d' hd => ⟨fun e => g3 d' hd (Or.inl e), fun e => g3 d' hd (Or.inr e)⟩, g2⟩
theorem own_F_uniq {xs : List Int32} {M h : Nat} {k : Int32} {d d2 : Nat} (F : own_F xs M h k d) (G : own_F xs M h k d2) : d = d2 := by
  rcases Nat.lt_trichotomy d d2 with q | q | q
  · have := G.1 d q
    rcases F.2 with e | e
    · exact absurd e this.1
    · exact absurd e this.2
  · exact q
  · have := F.1 d2 q
    rcases G.2 with e | e
    · exact absurd e this.1
    · exact absurd e this.2
/-- what holds of the array: free slots hold -1 twice; a key lies where its probe stops; at most n slots are taken -/
def own_I (xs : List Int32) (M : Nat) (hf : Int32 → Nat) (n : Nat) : Prop :=
  xs.length = 2 * M ∧ (∀ s, s < M → own_K xs s = -1 → own_V xs s = -1) ∧ (∀ s, s < M → own_K xs s ≠ -1 → ∃ d, d < M ∧ (hf (own_K xs s) + d) % M = s ∧ own_F xs M (hf (own_K xs s)) (own_K xs s) d) ∧ own_occ xs M ≤ n
def own_Has (xs : List Int32) (M : Nat) (k v : Int32) : Prop := ∃ s, s < M ∧ own_K xs s = k ∧ own_V xs s = v
theorem own_find {xs : List Int32} {M n : Nat} {hf : Int32 → Nat} (Iv : own_I xs M hf n) (hM : M = 8 ∨ M = 16) (hn : n < M) (k : Int32) : ∃ d, d < M ∧ own_F xs M (hf k) k d := by
  obtain ⟨s, h1, h2⟩ := own_free xs M (Nat.lt_of_le_of_lt Iv.2.2.2 hn)
  exact own_F_ex _ _ hM h1 h2
/-- where the key k (not -1) lies is where its probe stops -/
theorem own_at_probe {xs : List Int32} {M n : Nat} {hf : Int32 → Nat} (Iv : own_I xs M hf n) {k : Int32} (hk : k ≠ -1) {d s : Nat} (F : own_F xs M (hf k) k d) (hs : s < M) (e : own_K xs s = k) : s = (hf k + d) % M := by
  obtain ⟨d2, -, g2, g3⟩ := Iv.2.2.1 s hs (by rw [e]; exact hk)
  rw [e] at g2 g3
  rw [own_F_uniq F g3, g2]
theorem own_got {xs : List Int32} {M n : Nat} {hf : Int32 → Nat} (Iv : own_I xs M hf n) (hM0 : 0 < M) {k : Int32} {d : Nat} (F : own_F xs M (hf k) k d) :
    (own_K xs ((hf k + d) % M) = k → k ≠ -1 → own_Has xs M k (own_V xs ((hf k + d) % M)) ∧ ∀ v, own_Has xs M k v → v = own_V xs ((hf k + d) % M)) ∧
    (own_K xs ((hf k + d) % M) ≠ k → ∀ v, k ≠ -1 → ¬ own_Has xs M k v) ∧ (k = -1 → own_V xs ((hf k + d) % M) = -1) := by
  have hp : (hf k + d) % M < M := Nat.mod_lt _ hM0
  refine ⟨fun e hk => ⟨⟨_, hp, e, rfl⟩, fun v ⟨s, h1, h2, h3⟩ => ?_⟩, fun e v hk ⟨s, h1, h2, h3⟩ => ?_, fun e => ?_⟩
  · rw [own_at_probe Iv hk F h1 h2] at h3; exact h3.symm
  · rw [own_at_probe Iv hk F h1 h2] at h2; exact e h2
  · refine Iv.2.1 _ hp ?_
    rcases F.2 with q | q
    · exact q
    · rw [q, e]
theorem own_K_put {xs : List Int32} {M p : Nat} {k v : Int32} (hl : xs.length = 2 * M) (hp : p < M) {s : Nat} (hs : s < M) : own_K ((xs.set (2 * p) k).set (2 * p + 1) v) s = (if s = p then k else own_K xs s) ∧ own_V ((xs.set (2 * p) k).set (2 * p + 1) v) s = (if s = p then v else own_V xs s) := by
  unfold own_K own_V
  simp only [List.getD_eq_getElem?_getD, List.getElem?_set, List.length_set, hl]
  constructor
  · by_cases e : s = p
    · subst e; simp [show ¬ (2 * s + 1 = 2 * s) by omega, show 2 * s < 2 * M by omega]
    · simp [e, show ¬ (2 * p + 1 = 2 * s) by omega, show ¬ (2 * p = 2 * s) by omega]
  · by_cases e : s = p
    · subst e; simp [show 2 * s + 1 < 2 * M by omega]
    · simp [e, show ¬ (2 * p + 1 = 2 * s + 1) by omega, show ¬ (2 * p = 2 * s + 1) by omega, show ¬ (2 * p = 2 * s) by omega]
theorem own_put {xs : List Int32} {M n : Nat} {hf : Int32 → Nat} (Iv : own_I xs M hf n) (hM : M = 8 ∨ M = 16) {k : Int32} (v : Int32) (hk : k ≠ -1) {d : Nat} (hd : d < M) (F : own_F xs M (hf k) k d) {p : Nat} (hp : p = (hf k + d) % M) {ys : List Int32} (hy : ys = (xs.set (2 * p) k).set (2 * p + 1) v) :
    own_I ys M hf (n + 1) ∧ (own_K xs p = k → own_I ys M hf n) ∧ ∀ k2, k2 ≠ -1 → ∀ v2, own_Has ys M k2 v2 ↔ (k2 = k ∧ v2 = v) ∨ (k2 ≠ k ∧ own_Has xs M k2 v2) := by
  have hM0 : 0 < M := by omega
  have hpM : p < M := by rw [hp]; exact Nat.mod_lt _ hM0
  obtain ⟨hl, i2, i3, i4⟩ := Iv
  have KV : ∀ s, s < M → own_K ys s = (if s = p then k else own_K xs s) ∧ own_V ys s = (if s = p then v else own_V xs s) := fun s hs => by rw [hy]; exact own_K_put hl hpM hs
  have hstop : own_K xs p = -1 ∨ own_K xs p = k := by rw [hp]; exact F.2
  have hly : ys.length = 2 * M := by rw [hy, List.length_set, List.length_set]; exact hl
  have core : ∀ N, own_occ ys M ≤ N → own_I ys M hf N := fun N hN => by
    refine ⟨hly, fun s hs e => ?_, fun s hs e => ?_, hN⟩
    · rw [(KV s hs).1] at e
      by_cases q : s = p
      · rw [if_pos q] at e; exact absurd e hk
      · rw [if_neg q] at e; rw [(KV s hs).2, if_neg q]; exact i2 s hs e
    · by_cases q : s = p
      · have ek : own_K ys s = k := by rw [(KV s hs).1, if_pos q]
        rw [ek]
        refine ⟨d, hd, by rw [q, hp], fun d' hd' => ?_, Or.inr ?_⟩
        · have hne : (hf k + d') % M ≠ p := by rw [hp]; rcases hM with rfl | rfl <;> omega
          rw [(KV _ (Nat.mod_lt _ hM0)).1, if_neg hne]; exact F.1 d' hd'
        · rw [← hp, (KV p hpM).1, if_pos rfl]
      · have ek : own_K ys s = own_K xs s := by rw [(KV s hs).1, if_neg q]
        rw [ek] at e ⊢
        obtain ⟨d2, g1, g2, g3⟩ := i3 s hs e
        refine ⟨d2, g1, g2, fun d' hd' => ?_, Or.inr ?_⟩
        · have g := g3.1 d' hd'
          by_cases r : (hf (own_K xs s) + d') % M = p
          · rw [r] at g ⊢
            have : own_K xs p = k := hstop.resolve_left g.1
            rw [(KV p hpM).1, if_pos rfl, ← this]; exact g
          · rw [(KV _ (Nat.mod_lt _ hM0)).1, if_neg r]; exact g
        · rw [g2]; exact ek
  refine ⟨core _ (Nat.le_trans (own_occ_one (xs := xs) (ys := ys) p M fun s hs hne => by rw [(KV s hs).1, if_neg hne]) (by omega)), fun e => core _ ?_, fun k2 hk2 v2 => ⟨fun ⟨s, h1, h2, h3⟩ => ?_, fun h => ?_⟩⟩
  · rw [own_occ_same M (ys := ys) (xs := xs) fun s hs => by
      rw [(KV s hs).1]
      by_cases q : s = p
      · rw [if_pos q, q, e]
      · rw [if_neg q]]
    exact i4
  · rw [(KV s h1).1] at h2; rw [(KV s h1).2] at h3
    by_cases q : s = p
    · rw [if_pos q] at h2 h3; exact Or.inl ⟨h2.symm, h3.symm⟩
    · rw [if_neg q] at h2 h3
      refine Or.inr ⟨fun e => q ?_, s, h1, h2, h3⟩
      rw [e] at h2; rw [own_at_probe ⟨hl, i2, i3, i4⟩ hk F h1 h2, hp]
  · rcases h with ⟨rfl, rfl⟩ | ⟨h0, s, h1, h2, h3⟩
    · exact ⟨p, hpM, by rw [(KV p hpM).1, if_pos rfl], by rw [(KV p hpM).2, if_pos rfl]⟩
    · have q : s ≠ p := fun q => by
        rw [q] at h2
        rcases hstop with r | r
        · exact hk2 (h2.symm.trans r)
        · exact h0 (h2.symm.trans r)
      exact ⟨s, h1, by rw [(KV s h1).1, if_neg q]; exact h2, by rw [(KV s h1).2, if_neg q]; exact h3⟩
theorem own_new {M : Nat} (hf : Int32 → Nat) : own_I (List.replicate (2 * M) (-1 : Int32)) M hf 0 ∧ ∀ k v, k ≠ -1 → ¬ own_Has (List.replicate (2 * M) (-1 : Int32)) M k v := by
  have KV : ∀ s, s < M → own_K (List.replicate (2 * M) (-1 : Int32)) s = -1 ∧ own_V (List.replicate (2 * M) (-1 : Int32)) s = -1 := fun s hs => by
    unfold own_K own_V
    simp [List.getD_eq_getElem?_getD, List.getElem?_replicate, show 2 * s < 2 * M by omega, show 2 * s + 1 < 2 * M by omega]
  have oc : ∀ N, N ≤ M → own_occ (List.replicate (2 * M) (-1 : Int32)) N = 0 := fun N => by
    induction N with
    | zero => intro _; rfl
    | succ N ih =>
      intro h
      show own_occ _ N + _ = 0
      rw [ih (by omega), (KV N (by omega)).1, if_pos rfl]
  exact ⟨⟨by simp, fun s hs _ => (KV s hs).2, fun s hs e => absurd (KV s hs).1 e, Nat.le_of_eq (oc M (Nat.le_refl _))⟩, fun k v hk ⟨s, h1, h2, _⟩ => hk (h2.symm.trans (KV s h1).1)⟩
theorem own_set {Z : State} {h : Heap} {a : Addr} {ty : FieldType} {bs : List Int32} {i : Nat} {v : Int32} (A : Av Z h a ty ((bs.map Value.int).set i (.int v))) : Av Z h a ty ((bs.set i v).map Value.int) := by rw [List.map_set]; exact A
theorem own_get {bs : List Int32} {i : Nat} (hi : i < bs.length) : (bs.map Value.int)[i]? = some (.int (bs.getD i 0)) := by simp [List.getD, hi]
/-- the hash of k under the shift sh -/
def own_h (sh k : Int32) : Nat := (((k * (-1640531527 : Int32)).toUInt32 >>> (sh &&& 31).toUInt32).toInt32).toInt.toNat
theorem own_h8 (k : Int32) : own_h 29 k < 8 ∧ ((k * (-1640531527 : Int32)).toUInt32 >>> ((29 : Int32) &&& 31).toUInt32).toInt32 = Int32.ofNat (own_h 29 k) := by
  have e := c_iushr (k * (-1640531527 : Int32)) (29 : Int32) 29 (by decide) (by decide)
  have hb : own_h 29 k < 8 := by unfold own_h; omega
  refine ⟨hb, Int32.toInt_inj.mp ?_⟩
  rw [ofNat_toInt (by omega)]; unfold own_h; omega
theorem own_h16 (k : Int32) : own_h 28 k < 16 ∧ ((k * (-1640531527 : Int32)).toUInt32 >>> ((28 : Int32) &&& 31).toUInt32).toInt32 = Int32.ofNat (own_h 28 k) := by
  have e := c_iushr (k * (-1640531527 : Int32)) (28 : Int32) 28 (by decide) (by decide)
  have hb : own_h 28 k < 16 := by unfold own_h; omega
  refine ⟨hb, Int32.toInt_inj.mp ?_⟩
  rw [ofNat_toInt (by omega)]; unfold own_h; omega
theorem own_sl : ∀ h, h < 16 → (Int32.ofNat h <<< ((1 : Int32) &&& 31)) = Int32.ofNat (2 * h) := by decide +kernel
theorem own_nx8 : ∀ s, s < 8 → ((Int32.ofNat (2 * s) + (2 : Int32)) &&& (14 : Int32)) = Int32.ofNat (2 * ((s + 1) % 8)) := by decide +kernel
theorem own_nx16 : ∀ s, s < 16 → ((Int32.ofNat (2 * s) + (2 : Int32)) &&& (30 : Int32)) = Int32.ofNat (2 * ((s + 1) % 16)) := by decide +kernel
theorem own_in1 : ∀ s, s < 32 → (Int32.ofNat s + (1 : Int32)) = Int32.ofNat (s + 1) := by decide +kernel
theorem own_in2 : ∀ s, s < 32 → (Int32.ofNat s + (2 : Int32)) = Int32.ofNat (s + 2) := by decide +kernel
theorem own_m1 {k : Int32} (h : 0 ≤ k.toInt) : k ≠ -1 := fun e => by rw [e] at h; exact absurd h (by decide)
theorem own_tr {κ : KT} {n0 : Nat} {Q : Option Value → Heap → Prop} {h : Heap} {cs sl pc : Nat} {L L' : List Slot} {st : List Value} (e : L = L') (k : W κ n0 Q h cs sl pc L' st) : W κ n0 Q h cs sl pc L st := e ▸ k
abbrev mY1 : MethodName := ⟨"java/lang/Math", "min", "(II)I"⟩
theorem m1_0 : Ins1 jdk_29_method_69_code 0 (.iload_n 0) 1 1 := ⟨by decide +kernel, rfl⟩
theorem m1_1 : Ins1 jdk_29_method_69_code 1 (.iload_n 1) 1 2 := ⟨by decide +kernel, rfl⟩
theorem m1_2 : Jmp1 jdk_29_method_69_code 2 (.if_icmp .gt 7) 7 5 9 := ⟨by decide +kernel, rfl, by decide, by decide⟩
theorem m1_5 : Ins1 jdk_29_method_69_code 5 (.iload_n 0) 1 6 := ⟨by decide +kernel, rfl⟩
theorem m1_6 : Jmp1 jdk_29_method_69_code 6 (.goto 4) 4 9 10 := ⟨by decide +kernel, rfl, by decide, by decide⟩
theorem m1_9 : Ins1 jdk_29_method_69_code 9 (.iload_n 1) 1 10 := ⟨by decide +kernel, rfl⟩
theorem m1_10 : Ins1 jdk_29_method_69_code 10 (.ireturn) 1 11 := ⟨by decide +kernel, rfl⟩
theorem pl1 : plainFor mY1 = true := Jvm.Free.JP.mathPlain rfl (by decide +kernel)
theorem pd1 : parseMethodDescriptor "(II)I" = some ⟨[.int, .int], some .int⟩ := by decide +kernel
set_option maxRecDepth 65536 in
set_option maxHeartbeats 4000000 in
theorem own_min (Z : State) (a0 : Array Value) (hw : ∀ d ∈ tables_1, d.before a0 Z = true) (x : Int32) (y : Int32)  (h : Heap) (n0 : Nat)  :
    Con Z mY1 jdk_29_method_69_code 2 (some .int) ({ frames := 0, cells := 0, slots := 0, locals := 0 } : Room) [(.int x), (.int y)] h n0 (fun v h' => h = h' ∧ ∃ z : Int32, v = some (.int z) ∧ z.toInt = min x.toInt y.toInt) := by
  refine Con.of pl1 (L := [.val (.int x), .val (.int y)]) (fun m => by first | (simp [entryFrame, mkF, argsToLocals, Value.category]; done) | rfl) ?_
  intro κ Qx hQ C
  refine W.iloadN C m1_0 rfl ?_
  refine W.iloadN C m1_1 rfl ?_
  refine W.icmp C m1_2 ?_ ?_
  · intro (h2 : y.toInt < x.toInt)
    refine W.iloadN C m1_9 rfl ?_
    refine W.ireturn C m1_10 (hQ _ _ ?_)
    exact ⟨rfl, _, rfl, by omega⟩
  · intro (h2 : ¬ (y.toInt < x.toInt))
    replace h2 : x.toInt ≤ y.toInt := by omega
    refine W.iloadN C m1_5 rfl ?_
    refine W.goto C m1_6 ?_
    refine W.ireturn C m1_10 (hQ _ _ ?_)
    exact ⟨rfl, _, rfl, by omega⟩
abbrev mY5 : MethodName := ⟨"java/util/Arrays", "fill", "([II)V"⟩
theorem m5_5 : Ins1 jdk_65_method_103_code 5 (.iload_n 2) 1 6 := ⟨by decide +kernel, rfl⟩
theorem m5_6 : Ins1 jdk_65_method_103_code 6 (.iload_n 3) 1 7 := ⟨by decide +kernel, rfl⟩
theorem m5_7 : Jmp1 jdk_65_method_103_code 7 (.if_icmp .ge 13) 13 10 20 := ⟨by decide +kernel, rfl, by decide, by decide⟩
theorem m5_10 : Ins1 jdk_65_method_103_code 10 (.aload_n 0) 1 11 := ⟨by decide +kernel, rfl⟩
theorem m5_11 : Ins1 jdk_65_method_103_code 11 (.iload_n 2) 1 12 := ⟨by decide +kernel, rfl⟩
theorem m5_12 : Ins1 jdk_65_method_103_code 12 (.iload_n 1) 1 13 := ⟨by decide +kernel, rfl⟩
theorem m5_13 : Ins1 jdk_65_method_103_code 13 (.iastore) 1 14 := ⟨by decide +kernel, rfl⟩
theorem m5_14 : Ins1 jdk_65_method_103_code 14 (.iinc 2 1) 3 17 := ⟨by decide +kernel, rfl⟩
theorem m5_17 : Jmp1 jdk_65_method_103_code 17 (.goto (-12)) (-12) 20 5 := ⟨by decide +kernel, rfl, by decide, by decide⟩
theorem m5_20 : Ins1 jdk_65_method_103_code 20 (.return_) 1 21 := ⟨by decide +kernel, rfl⟩
theorem pl5 : plainFor mY5 = true := plainFor_of_name (show plainName "java/util/Arrays" = true by first | (simp [plainName, overriddenIn]; done) | decide +kernel)
theorem pd5 : parseMethodDescriptor "([II)V" = some ⟨[(.array .int), .int], none⟩ := by decide +kernel
set_option maxRecDepth 65536 in
theorem own_fl {κ : KT} {R : Room} {Z : State} {a0 : Array Value} {n0 : Nat} {Qx : Option Value → Heap → Prop} (hw : ∀ d ∈ tables_1, d.before a0 Z = true) (C : Good κ R Z "java/util/Arrays" "fill" jdk_65_method_103_code 4 none) {cs sl : Nat} {h : Heap} {a : Addr} {v0 : Int32} {n : Nat} {xs : List Int32} (hx : xs.length = n) (hn : n ≤ 32) (g0 : n0 ≤ a) (hq : ∀ h', Keep h h' [a] → Av Z h' a .int ((List.replicate n v0).map Value.int) → Qx none h') :
    ∀ (d i : Nat) (h1 : Heap) (ys : List Int32), i + d = n → ys = List.replicate i v0 ++ xs.drop i → ys.length = n → Keep h h1 [a] → Av Z h1 a .int (ys.map Value.int) → W κ n0 Qx h1 cs sl 5 [.val (.ref a), .val (.int v0), .val (.int (Int32.ofNat i)), .val (.int (Int32.ofNat n))] [] := by
  intro d
  induction d with
  | zero =>
    intro i h1 ys hd hy hly K0 A0
    refine W.iloadN C m5_5 rfl ?_
    refine W.iloadN C m5_6 rfl ?_
    refine W.icmpY C m5_7 (show ((Int32.ofNat n)).toInt ≤ ((Int32.ofNat i)).toInt from (by rw [ofNat_toInt (by omega), ofNat_toInt (by omega)]; omega)) ?_
    refine W.vreturn C m5_20 ?_
    obtain rfl : i = n := by omega
    rw [List.drop_of_length_le (by omega), List.append_nil] at hy
    rw [hy] at A0
    exact hq _ K0 A0
  | succ d ih =>
    intro i h1 ys hd hy hly K0 A0
    refine W.iloadN C m5_5 rfl ?_
    refine W.iloadN C m5_6 rfl ?_
    refine W.icmpN C m5_7 (show ¬ (((Int32.ofNat n)).toInt ≤ ((Int32.ofNat i)).toInt) from (by rw [ofNat_toInt (by omega), ofNat_toInt (by omega)]; omega)) ?_
    refine W.aloadN C m5_10 rfl rfl ?_
    refine W.iloadN C m5_11 rfl ?_
    refine W.iloadN C m5_12 rfl ?_
    refine W.iastore C m5_13 A0 (i := i) (ofNat_toInt (by omega)) (by rw [List.length_map, hly]; omega) g0 ?_
    intro h1 W2 A3
    have K4 := K0.wr W2 (Or.inl (List.mem_of_getElem? (i := 0) rfl))
    refine W.iinc C m5_14 rfl (z := ((Int32.ofNat i) + (1 : Int32))) rfl (L' := [.val (.ref a), .val (.int v0), .val (.int ((Int32.ofNat i) + (1 : Int32))), .val (.int (Int32.ofNat n))]) rfl ?_
    refine W.goto C m5_17 ?_
    have A2 := own_set A3
    refine own_tr (L' := [.val (.ref a), .val (.int v0), .val (.int (Int32.ofNat (i + 1))), .val (.int (Int32.ofNat n))]) (by rw [own_in1 i (by omega)]) ?_
    refine ih (i + 1) h1 (ys.set i v0) (by omega) ?_ (by rw [List.length_set]; exact hly) K4 A2
    rw [hy, List.set_append, if_neg (by simp), List.length_replicate, Nat.sub_self, List.drop_eq_getElem_cons (by omega), List.set_cons_zero, List.replicate_succ', List.append_assoc]
    rfl
theorem m5_0 : Ins1 jdk_65_method_103_code 0 (.iconst 0) 1 1 := ⟨by decide +kernel, rfl⟩
theorem m5_1 : Ins1 jdk_65_method_103_code 1 (.istore_n 2) 1 2 := ⟨by decide +kernel, rfl⟩
theorem m5_2 : Ins1 jdk_65_method_103_code 2 (.aload_n 0) 1 3 := ⟨by decide +kernel, rfl⟩
theorem m5_3 : Ins1 jdk_65_method_103_code 3 (.arraylength) 1 4 := ⟨by decide +kernel, rfl⟩
theorem m5_4 : Ins1 jdk_65_method_103_code 4 (.istore_n 3) 1 5 := ⟨by decide +kernel, rfl⟩
set_option maxRecDepth 65536 in
set_option maxHeartbeats 4000000 in
theorem own_fill (Z : State) (a0 : Array Value) (hw : ∀ d ∈ tables_1, d.before a0 Z = true) (a : Addr) (v0 : Int32) (n : Nat) (xs : List Int32) (h : Heap) (n0 : Nat) (hx : xs.length = n) (hn : n ≤ 32) (g0 : n0 ≤ a) (A0 : Av Z h a .int (xs.map Value.int)) :
    Con Z mY5 jdk_65_method_103_code 4 none ({ frames := 0, cells := 0, slots := 0, locals := 0 } : Room) [(.ref a), (.int v0)] h n0 (fun v h' => v = none ∧ Keep h h' [a] ∧ Av Z h' a .int ((List.replicate n v0).map Value.int)) := by
  refine Con.of pl5 (L := [.val (.ref a), .val (.int v0), .unset, .unset]) (fun m => by first | (simp [entryFrame, mkF, argsToLocals, Value.category]; done) | rfl) ?_
  intro κ Qx hQ C
  refine W.iconst C m5_0 (z := (0 : Int32)) rfl ?_
  refine W.istoreN C m5_1 (L' := [.val (.ref a), .val (.int v0), .val (.int (0 : Int32)), .unset]) rfl ?_
  refine W.aloadN C m5_2 rfl rfl ?_
  refine W.arraylength C m5_3 A0 (z := (Int32.ofNat n)) (by rw [List.length_map, hx]; exact ofNat_toInt (by omega)) ?_
  refine W.istoreN C m5_4 (L' := [.val (.ref a), .val (.int v0), .val (.int (0 : Int32)), .val (.int (Int32.ofNat n))]) rfl ?_
  exact own_fl hw C hx hn g0 (fun h' q1 q2 => hQ _ _ ⟨rfl, q1, q2⟩) n 0 h xs (by omega) rfl hx (Keep.refl h [a]) A0
abbrev mY4 : MethodName := ⟨"com/example/principal/principal/engine/IdMap", "newSlots", "(I)[I"⟩
theorem m4_0 : Ins1 prog_15_method_6_code 0 (.iconst 2) 1 1 := ⟨by decide +kernel, rfl⟩
theorem m4_1 : Ins1 prog_15_method_6_code 1 (.iload_n 0) 1 2 := ⟨by decide +kernel, rfl⟩
theorem m4_2 : Ins1 prog_15_method_6_code 2 (.imul) 1 3 := ⟨by decide +kernel, rfl⟩
theorem m4_3 : Ins1 prog_15_method_6_code 3 (.newarray .int) 2 5 := ⟨by decide +kernel, rfl⟩
theorem m4_5 : Ins1 prog_15_method_6_code 5 (.astore_n 1) 1 6 := ⟨by decide +kernel, rfl⟩
theorem m4_6 : Ins1 prog_15_method_6_code 6 (.aload_n 1) 1 7 := ⟨by decide +kernel, rfl⟩
theorem m4_7 : Ins1 prog_15_method_6_code 7 (.iconst (-1)) 1 8 := ⟨by decide +kernel, rfl⟩
theorem m4_8 : Ins1 prog_15_method_6_code 8 (.invokestatic 32) 3 11 := ⟨by decide +kernel, rfl⟩
theorem m4_11 : Ins1 prog_15_method_6_code 11 (.aload_n 1) 1 12 := ⟨by decide +kernel, rfl⟩
theorem m4_12 : Ins1 prog_15_method_6_code 12 (.areturn) 1 13 := ⟨by decide +kernel, rfl⟩
theorem pl4 : plainFor mY4 = true := plainFor_of_name (show plainName "com/example/principal/principal/engine/IdMap" = true by first | (simp [plainName, overriddenIn]; done) | decide +kernel)
theorem pd4 : parseMethodDescriptor "(I)[I" = some ⟨[.int], some (.array .int)⟩ := by decide +kernel
set_option maxRecDepth 65536 in
set_option maxHeartbeats 4000000 in
theorem own_ns (Z : State) (a0 : Array Value) (hw : ∀ d ∈ tables_1, d.before a0 Z = true) (n : Int32) (c : Nat) (h : Heap) (n0 : Nat) (z0 : n0 ≤ h.size) (hn : n.toInt = c) (hc : c ≤ 16) :
    Con Z mY4 prog_15_method_6_code 2 (some (.array .int)) ({ frames := 1, cells := 1, slots := 32, locals := 15 } : Room) [(.int n)] h n0 (fun v h' => ∃ e : Addr, v = some (.ref e) ∧ h.size ≤ e ∧ Keep h h' [] ∧ Av Z h' e .int ((List.replicate (2 * c) (-1 : Int32)).map Value.int)) := by
  refine Con.of pl4 (L := [.val (.int n), .unset]) (fun m => by first | (simp [entryFrame, mkF, argsToLocals, Value.category]; done) | rfl) ?_
  intro κ Qx hQ C
  have K0 := Keep.refl h []
  refine W.iconst C m4_0 (z := (2 : Int32)) rfl ?_
  refine W.iloadN C m4_1 rfl ?_
  refine W.imul C m4_2 rfl ?_
  have hd : (((2 : Int32) * n)).toInt = ((2 * c : Nat) : Int) := by
    have e1 := c_imul (2 : Int32) n
    have e2 := rng32 ((2 : Int32) * n)
    have e3 : (2 : Int32).toInt = 2 := rfl
    rw [e3, hn] at e1
    omega
  refine W.newarray (a0 := a0) (vs := ((List.replicate (2 * c) (0 : Int32)).map Value.int)) 32 C m4_3 rfl (hw _ (List.mem_of_getElem? (i := 17) rfl)) (by omega) (by omega) (by rw [clampNat hd, List.map_replicate]; rfl) (by decide) (by decide) (by decide) ?_
  intro h1 a2 g3 E4 A5
  have g6 : n0 ≤ a2 := Nat.le_trans z0 (Nat.le_of_eq g3)
  have g7 := Nat.le_trans K0.1 (Nat.le_of_eq g3)
  have z8 : n0 ≤ h1.size := Nat.le_trans z0 E4.1
  have K9 := K0.ext E4
  show W κ n0 Qx h1 1 32 5 [.val (.int n), .unset] [(.ref a2)]
  refine W.astoreN C m4_5 (L' := [.val (.int n), .val (.ref a2)]) rfl rfl ?_
  refine W.aloadN C m4_6 rfl rfl ?_
  refine W.iconst C m4_7 (z := (-1 : Int32)) rfl ?_
  refine W.callS (y := mY5) (wt := 0) C m4_8 (hw _ (List.mem_of_getElem? (i := 18) rfl)) (hw _ (List.mem_of_getElem? (i := 19) rfl)) (hw _ (List.mem_of_getElem? (i := 20) rfl)) (hw _ (List.mem_of_getElem? (i := 21) rfl)) (by decide) pd5 rfl (own_fill Z a0 hw a2 (-1 : Int32) (2 * c) (List.replicate (2 * c) (0 : Int32)) h1 n0 (by simp) (by omega) g6 A5) (as' := [(.ref a2), (.int (-1 : Int32))]) (rest := []) rfl rfl (Nat.le_of_eq rfl) (by decide) (by decide) (by decide) (by decide) ?_
  intro r14 h12 q13
  obtain ⟨rfl, K10, A11⟩ := q13
  have K15 := Keep.trans K9 K10 (allS (Or.inr g7) all0)
  have z16 : n0 ≤ h12.size := Nat.le_trans z8 K10.1
  show W κ n0 Qx h12 1 32 11 [.val (.int n), .val (.ref a2)] []
  refine W.aloadN C m4_11 rfl rfl ?_
  refine W.areturn C rfl rfl m4_12 (hQ _ _ ?_)
  exact ⟨a2, rfl, g7, K15, A11⟩
/-- at a lies a map of M slots under the shift sh, of at most n taken; f says what it holds -/
def own_Mp (Z : State) (h : Heap) (a : Addr) (n0 : Nat) (M : Nat) (sh : Int32) (n : Nat) (f : Int32 → Int32 → Prop) : Prop :=
  ∃ (e : Addr) (xs : List Int32) (kk : Int32) (k : Nat), (Exa Z h a "com/example/principal/principal/engine/IdMap" ∧ Fld Z h a "com/example/principal/principal/engine/IdMap" "slots" "[I" (.ref e) ∧ Fld Z h a "com/example/principal/principal/engine/IdMap" "shift" "I" (.int sh) ∧ Fld Z h a "com/example/principal/principal/engine/IdMap" "size" "I" (.int kk)) ∧ Av Z h e .int (xs.map Value.int) ∧ a ≠ e ∧ n0 ≤ e ∧ n0 ≤ a ∧ n0 ≤ h.size ∧ kk.toInt = k ∧ k ≤ n ∧ own_I xs M (own_h sh) k ∧ ∀ q, q ≠ -1 → ∀ v, own_Has xs M q v ↔ f q v
def own_up (f : Int32 → Int32 → Prop) (k v : Int32) : Int32 → Int32 → Prop := fun q w => (q = k ∧ w = v) ∨ (q ≠ k ∧ f q w)
abbrev mY2 : MethodName := ⟨"com/example/principal/principal/engine/IdMap", "<init>", "()V"⟩
theorem m2_0 : Ins1 prog_15_method_1_code 0 (.aload_n 0) 1 1 := ⟨by decide +kernel, rfl⟩
theorem m2_1 : Ins1 prog_15_method_1_code 1 (.invokespecial 1) 3 4 := ⟨by decide +kernel, rfl⟩
theorem m2_4 : Ins1 prog_15_method_1_code 4 (.aload_n 0) 1 5 := ⟨by decide +kernel, rfl⟩
theorem m2_5 : Ins1 prog_15_method_1_code 5 (.bipush 8) 2 7 := ⟨by decide +kernel, rfl⟩
theorem m2_7 : Ins1 prog_15_method_1_code 7 (.invokestatic 7) 3 10 := ⟨by decide +kernel, rfl⟩
theorem m2_10 : Ins1 prog_15_method_1_code 10 (.putfield 13) 3 13 := ⟨by decide +kernel, rfl⟩
theorem m2_13 : Ins1 prog_15_method_1_code 13 (.aload_n 0) 1 14 := ⟨by decide +kernel, rfl⟩
theorem m2_14 : Ins1 prog_15_method_1_code 14 (.bipush 29) 2 16 := ⟨by decide +kernel, rfl⟩
theorem m2_16 : Ins1 prog_15_method_1_code 16 (.putfield 17) 3 19 := ⟨by decide +kernel, rfl⟩
theorem m2_19 : Ins1 prog_15_method_1_code 19 (.return_) 1 20 := ⟨by decide +kernel, rfl⟩
theorem pl2 : plainFor mY2 = true := plainFor_of_name (show plainName "com/example/principal/principal/engine/IdMap" = true by first | (simp [plainName, overriddenIn]; done) | decide +kernel)
theorem pd2 : parseMethodDescriptor "()V" = some ⟨[], none⟩ := by decide +kernel
set_option maxRecDepth 65536 in
set_option maxHeartbeats 4000000 in
theorem own_init (Z : State) (a0 : Array Value) (hw : ∀ d ∈ tables_1, d.before a0 Z = true) (a : Addr)  (h : Heap) (n0 : Nat) (g0 : n0 ≤ a) (z0 : n0 ≤ h.size) (E0 : Exa Z h a "com/example/principal/principal/engine/IdMap") (F0 : Fld Z h a "com/example/principal/principal/engine/IdMap" "slots" "[I" .null) (F1 : Fld Z h a "com/example/principal/principal/engine/IdMap" "shift" "I" (.int (0 : Int32))) (F2 : Fld Z h a "com/example/principal/principal/engine/IdMap" "size" "I" (.int (0 : Int32))) :
    Con Z mY2 prog_15_method_1_code 1 none ({ frames := 2, cells := 1, slots := 32, locals := 29 } : Room) [(.ref a)] h n0 (fun v h' => v = none ∧ own_Mp Z h' a n0 8 29 0 (fun _ _ => False)) := by
  refine Con.of pl2 (L := [.val (.ref a)]) (fun m => by first | (simp [entryFrame, mkF, argsToLocals, Value.category]; done) | rfl) ?_
  intro κ Qx hQ C
  refine W.aloadN C m2_0 rfl rfl ?_
  refine W.initO (wt := 0) C m2_1 (hw _ (List.mem_of_getElem? (i := 11) rfl)) (hw _ (List.mem_of_getElem? (i := 12) rfl)) (hw _ (List.mem_of_getElem? (i := 13) rfl)) rfl (by decide) (Nat.le_of_eq rfl) (by decide) ?_
  refine W.aloadN C m2_4 rfl rfl ?_
  refine W.bipush C m2_5 (z := (8 : Int32)) rfl ?_
  refine W.callS (y := mY4) (wt := 1) C m2_7 (hw _ (List.mem_of_getElem? (i := 14) rfl)) (hw _ (List.mem_of_getElem? (i := 15) rfl)) (hw _ (List.mem_of_getElem? (i := 7) rfl)) (hw _ (List.mem_of_getElem? (i := 16) rfl)) (by decide) pd4 rfl (own_ns Z a0 hw (8 : Int32) 8 h n0 z0 rfl (by decide)) (as' := [(.int (8 : Int32))]) (rest := [(.ref a)]) rfl rfl (Nat.le_of_eq rfl) (by decide) (by decide) (by decide) (by decide) ?_
  intro r7 h5 q6
  obtain ⟨e1, rfl, g2, K3, A4⟩ := q6
  have E8 := E0.keep K3
  have F9 := F0.keep K3 nin0
  have F10 := F1.keep K3 nin0
  have F11 := F2.keep K3 nin0
  have z12 : n0 ≤ h5.size := Nat.le_trans z0 K3.1
  have ne13 : a ≠ e1 := Nat.ne_of_lt (Nat.lt_of_lt_of_le E0.lt g2)
  have g14 : n0 ≤ e1 := Nat.le_trans z0 g2
  show W κ n0 Qx h5 1 32 10 [.val (.ref a)] [(.ref e1), (.ref a)]
  refine W.putfield C m2_10 (host := "") (Or.inl (hw _ (List.mem_of_getElem? (i := 22) rfl))) Via.refl F9 E8 (Or.inl (hw _ (List.mem_of_getElem? (i := 23) rfl))) (hw _ (List.mem_of_getElem? (i := 6) rfl)) (ty := (.array .int)) (by decide) rfl rfl g0 ?_
  intro h15 W16 F17
  have E18 := E8.wr W16
  have F19 := F10.other W16 (Or.inr (slot_ne (a0 := a0) (Or.inl (hw _ (List.mem_of_getElem? (i := 25) rfl))) (Or.inl (hw _ (List.mem_of_getElem? (i := 23) rfl))) (by decide) (t := .int) (t' := (.array .int)) (by decide) (by decide)))
  have F20 := F11.other W16 (Or.inr (slot_ne (a0 := a0) (Or.inl (hw _ (List.mem_of_getElem? (i := 32) rfl))) (Or.inl (hw _ (List.mem_of_getElem? (i := 23) rfl))) (by decide) (t := .int) (t' := (.array .int)) (by decide) (by decide)))
  have z21 : n0 ≤ h15.size := Nat.le_trans z12 (Nat.le_of_eq (Wr.size W16).symm)
  have A22 := A4.other W16 (Ne.symm ne13)
  refine W.aloadN C m2_13 rfl rfl ?_
  refine W.bipush C m2_14 (z := (29 : Int32)) rfl ?_
  refine W.putfield C m2_16 (host := "") (Or.inl (hw _ (List.mem_of_getElem? (i := 24) rfl))) Via.refl F19 E18 (Or.inl (hw _ (List.mem_of_getElem? (i := 25) rfl))) (hw _ (List.mem_of_getElem? (i := 6) rfl)) (ty := .int) (by decide) rfl rfl g0 ?_
  intro h23 W24 F25
  have E26 := E18.wr W24
  have F27 := F17.other W24 (Or.inr (slot_ne (a0 := a0) (Or.inl (hw _ (List.mem_of_getElem? (i := 23) rfl))) (Or.inl (hw _ (List.mem_of_getElem? (i := 25) rfl))) (by decide) (t := (.array .int)) (t' := .int) (by decide) (by decide)))
  have F28 := F20.other W24 (Or.inr (slot_ne (a0 := a0) (Or.inl (hw _ (List.mem_of_getElem? (i := 32) rfl))) (Or.inl (hw _ (List.mem_of_getElem? (i := 25) rfl))) (by decide) (t := .int) (t' := .int) (by decide) (by decide)))
  have z29 : n0 ≤ h23.size := Nat.le_trans z21 (Nat.le_of_eq (Wr.size W24).symm)
  have A30 := A22.other W24 (Ne.symm ne13)
  refine W.vreturn C m2_19 (hQ _ _ ?_)
  refine ⟨rfl, e1, _, 0, 0, ⟨E26, F27, F25, F28⟩, A30, ne13, g14, g0, z29, rfl, Nat.le_refl _, (own_new (M := 8) _).1, fun q hq v => ⟨fun H => (own_new (M := 8) (own_h 29)).2 q v hq H, fun H => H.elim⟩⟩
abbrev mY7 : MethodName := ⟨"com/example/principal/principal/engine/IdMap", "find", "([III)I"⟩
theorem m7_15 : Ins1 prog_15_method_4_code 15 (.aload_n 0) 1 16 := ⟨by decide +kernel, rfl⟩
theorem m7_16 : Ins1 prog_15_method_4_code 16 (.iload 4) 2 18 := ⟨by decide +kernel, rfl⟩
theorem m7_18 : Ins1 prog_15_method_4_code 18 (.iaload) 1 19 := ⟨by decide +kernel, rfl⟩
theorem m7_19 : Ins1 prog_15_method_4_code 19 (.iconst (-1)) 1 20 := ⟨by decide +kernel, rfl⟩
theorem m7_20 : Jmp1 prog_15_method_4_code 20 (.if_icmp .eq 22) 22 23 42 := ⟨by decide +kernel, rfl, by decide, by decide⟩
theorem m7_23 : Ins1 prog_15_method_4_code 23 (.aload_n 0) 1 24 := ⟨by decide +kernel, rfl⟩
theorem m7_24 : Ins1 prog_15_method_4_code 24 (.iload 4) 2 26 := ⟨by decide +kernel, rfl⟩
theorem m7_26 : Ins1 prog_15_method_4_code 26 (.iaload) 1 27 := ⟨by decide +kernel, rfl⟩
theorem m7_27 : Ins1 prog_15_method_4_code 27 (.iload_n 2) 1 28 := ⟨by decide +kernel, rfl⟩
theorem m7_28 : Jmp1 prog_15_method_4_code 28 (.if_icmp .eq 14) 14 31 42 := ⟨by decide +kernel, rfl, by decide, by decide⟩
theorem m7_31 : Ins1 prog_15_method_4_code 31 (.iload 4) 2 33 := ⟨by decide +kernel, rfl⟩
theorem m7_33 : Ins1 prog_15_method_4_code 33 (.iconst 2) 1 34 := ⟨by decide +kernel, rfl⟩
theorem m7_34 : Ins1 prog_15_method_4_code 34 (.iadd) 1 35 := ⟨by decide +kernel, rfl⟩
theorem m7_35 : Ins1 prog_15_method_4_code 35 (.iload_n 3) 1 36 := ⟨by decide +kernel, rfl⟩
theorem m7_36 : Ins1 prog_15_method_4_code 36 (.iand) 1 37 := ⟨by decide +kernel, rfl⟩
theorem m7_37 : Ins1 prog_15_method_4_code 37 (.istore 4) 2 39 := ⟨by decide +kernel, rfl⟩
theorem m7_39 : Jmp1 prog_15_method_4_code 39 (.goto (-24)) (-24) 42 15 := ⟨by decide +kernel, rfl, by decide, by decide⟩
theorem m7_42 : Ins1 prog_15_method_4_code 42 (.iload 4) 2 44 := ⟨by decide +kernel, rfl⟩
theorem m7_44 : Ins1 prog_15_method_4_code 44 (.ireturn) 1 45 := ⟨by decide +kernel, rfl⟩
theorem pl7 : plainFor mY7 = true := plainFor_of_name (show plainName "com/example/principal/principal/engine/IdMap" = true by first | (simp [plainName, overriddenIn]; done) | decide +kernel)
theorem pd7 : parseMethodDescriptor "([III)I" = some ⟨[(.array .int), .int, .int], some .int⟩ := by decide +kernel
set_option maxRecDepth 65536 in
theorem own_fl8 {κ : KT} {R : Room} {Z : State} {a0 : Array Value} {n0 : Nat} {Qx : Option Value → Heap → Prop} (hw : ∀ d ∈ tables_1, d.before a0 Z = true) (C : Good κ R Z "com/example/principal/principal/engine/IdMap" "find" prog_15_method_4_code 5 (some .int)) {cs sl : Nat} {h : Heap} {a : Addr} {k : Int32} {xs : List Int32} (A0 : Av Z h a .int (xs.map Value.int)) (hl : xs.length = 16) {d : Nat} (F : own_F xs 8 (own_h 29 k) k d) (hq : ∀ v, (∃ r : Int32, v = some (.int r) ∧ r = Int32.ofNat (2 * ((own_h 29 k + d) % 8))) → Qx v h) :
    ∀ (t i : Nat), i + t = d → W κ n0 Qx h cs sl 15 [.val (.ref a), .val (.int (29 : Int32)), .val (.int k), .val (.int (14 : Int32)), .val (.int (Int32.ofNat (2 * ((own_h 29 k + i) % 8))))] [] := by
  intro t
  induction t with
  | zero =>
    intro i hi
    obtain rfl : i = d := by omega
    refine W.aloadN C m7_15 rfl rfl ?_
    refine W.iload C m7_16 rfl ?_
    refine W.iaload C m7_18 A0 (i := 2 * ((own_h 29 k + i) % 8)) (ofNat_toInt (by omega)) (own_get (by omega)) ?_
    refine W.iconst C m7_19 (z := (-1 : Int32)) rfl ?_
    rcases F.2 with q | q
    · refine W.icmpY C m7_20 (show (own_K xs ((own_h 29 k + i) % 8)).toInt = (-1 : Int) from by rw [q]; rfl) ?_
      refine W.iload C m7_42 rfl ?_
      refine W.ireturn C m7_44 ?_
      exact hq _ ⟨_, rfl, rfl⟩
    · by_cases q1 : own_K xs ((own_h 29 k + i) % 8) = -1
      · refine W.icmpY C m7_20 (show (own_K xs ((own_h 29 k + i) % 8)).toInt = (-1 : Int) from by rw [q1]; rfl) ?_
        refine W.iload C m7_42 rfl ?_
        refine W.ireturn C m7_44 ?_
        exact hq _ ⟨_, rfl, rfl⟩
      · refine W.icmpN C m7_20 (show ¬ (own_K xs ((own_h 29 k + i) % 8)).toInt = (-1 : Int) from fun q2 => q1 (Int32.toInt_inj.mp q2)) ?_
        refine W.aloadN C m7_23 rfl rfl ?_
        refine W.iload C m7_24 rfl ?_
        refine W.iaload C m7_26 A0 (i := 2 * ((own_h 29 k + i) % 8)) (ofNat_toInt (by omega)) (own_get (by omega)) ?_
        refine W.iloadN C m7_27 rfl ?_
        refine W.icmpY C m7_28 (show ((own_K xs ((own_h 29 k + i) % 8))).toInt = k.toInt from (by rw [q])) ?_
        refine W.iload C m7_42 rfl ?_
        refine W.ireturn C m7_44 ?_
        exact hq _ ⟨_, rfl, rfl⟩
  | succ t ih =>
    intro i hi
    refine W.aloadN C m7_15 rfl rfl ?_
    refine W.iload C m7_16 rfl ?_
    refine W.iaload C m7_18 A0 (i := 2 * ((own_h 29 k + i) % 8)) (ofNat_toInt (by omega)) (own_get (by omega)) ?_
    refine W.iconst C m7_19 (z := (-1 : Int32)) rfl ?_
    refine W.icmpN C m7_20 (show ¬ (((own_K xs ((own_h 29 k + i) % 8))).toInt = (-1 : Int)) from (fun q2 => (F.1 i (by omega)).1 (Int32.toInt_inj.mp q2))) ?_
    refine W.aloadN C m7_23 rfl rfl ?_
    refine W.iload C m7_24 rfl ?_
    refine W.iaload C m7_26 A0 (i := 2 * ((own_h 29 k + i) % 8)) (ofNat_toInt (by omega)) (own_get (by omega)) ?_
    refine W.iloadN C m7_27 rfl ?_
    refine W.icmpN C m7_28 (show ¬ (((own_K xs ((own_h 29 k + i) % 8))).toInt = k.toInt) from (fun q2 => (F.1 i (by omega)).2 (Int32.toInt_inj.mp q2))) ?_
    refine W.iload C m7_31 rfl ?_
    refine W.iconst C m7_33 (z := (2 : Int32)) rfl ?_
    refine W.iadd C m7_34 rfl ?_
    refine W.iloadN C m7_35 rfl ?_
    refine W.iand C m7_36 rfl ?_
    refine W.istore C m7_37 (L' := [.val (.ref a), .val (.int (29 : Int32)), .val (.int k), .val (.int (14 : Int32)), .val (.int (((Int32.ofNat (2 * ((own_h 29 k + i) % 8))) + (2 : Int32)) &&& (14 : Int32)))]) rfl ?_
    refine W.goto C m7_39 ?_
    refine own_tr (L' := [.val (.ref a), .val (.int (29 : Int32)), .val (.int k), .val (.int (14 : Int32)), .val (.int (Int32.ofNat (2 * ((own_h 29 k + (i + 1)) % 8))))]) (by rw [own_nx8 _ (by omega), show ((own_h 29 k + i) % 8 + 1) % 8 = (own_h 29 k + (i + 1)) % 8 by omega]) ?_
    exact ih (i + 1) (by omega)
theorem m7_0 : Ins1 prog_15_method_4_code 0 (.aload_n 0) 1 1 := ⟨by decide +kernel, rfl⟩
theorem m7_1 : Ins1 prog_15_method_4_code 1 (.arraylength) 1 2 := ⟨by decide +kernel, rfl⟩
theorem m7_2 : Ins1 prog_15_method_4_code 2 (.iconst 2) 1 3 := ⟨by decide +kernel, rfl⟩
theorem m7_3 : Ins1 prog_15_method_4_code 3 (.isub) 1 4 := ⟨by decide +kernel, rfl⟩
theorem m7_4 : Ins1 prog_15_method_4_code 4 (.istore_n 3) 1 5 := ⟨by decide +kernel, rfl⟩
theorem m7_5 : Ins1 prog_15_method_4_code 5 (.iload_n 2) 1 6 := ⟨by decide +kernel, rfl⟩
theorem m7_6 : Ins1 prog_15_method_4_code 6 (.ldc 31) 2 8 := ⟨by decide +kernel, rfl⟩
theorem m7_8 : Ins1 prog_15_method_4_code 8 (.imul) 1 9 := ⟨by decide +kernel, rfl⟩
theorem m7_9 : Ins1 prog_15_method_4_code 9 (.iload_n 1) 1 10 := ⟨by decide +kernel, rfl⟩
theorem m7_10 : Ins1 prog_15_method_4_code 10 (.iushr) 1 11 := ⟨by decide +kernel, rfl⟩
theorem m7_11 : Ins1 prog_15_method_4_code 11 (.iconst 1) 1 12 := ⟨by decide +kernel, rfl⟩
theorem m7_12 : Ins1 prog_15_method_4_code 12 (.ishl) 1 13 := ⟨by decide +kernel, rfl⟩
theorem m7_13 : Ins1 prog_15_method_4_code 13 (.istore 4) 2 15 := ⟨by decide +kernel, rfl⟩
set_option maxRecDepth 65536 in
set_option maxHeartbeats 4000000 in
theorem own_find8 (Z : State) (a0 : Array Value) (hw : ∀ d ∈ tables_1, d.before a0 Z = true) (a : Addr) (k : Int32) (xs : List Int32) (d : Nat) (h : Heap) (n0 : Nat) (A0 : Av Z h a .int (xs.map Value.int)) (hl : xs.length = 16) (F : own_F xs 8 (own_h 29 k) k d) :
    Con Z mY7 prog_15_method_4_code 5 (some .int) ({ frames := 0, cells := 0, slots := 0, locals := 0 } : Room) [.ref a, .int (29 : Int32), .int k] h n0 (fun v h' => h = h' ∧ ∃ r : Int32, v = some (.int r) ∧ r = Int32.ofNat (2 * ((own_h 29 k + d) % 8))) := by
  refine Con.of pl7 (L := [.val (.ref a), .val (.int (29 : Int32)), .val (.int k), .unset, .unset]) (fun m => by first | (simp [entryFrame, mkF, argsToLocals, Value.category]; done) | rfl) ?_
  intro κ Qx hQ C
  refine W.aloadN C m7_0 rfl rfl ?_
  refine W.arraylength C m7_1 A0 (z := (16 : Int32)) (by rw [List.length_map, hl]; rfl) ?_
  refine W.iconst C m7_2 (z := (2 : Int32)) rfl ?_
  refine W.isub C m7_3 (z := (14 : Int32)) rfl ?_
  refine W.istoreN C m7_4 (L' := [.val (.ref a), .val (.int (29 : Int32)), .val (.int k), .val (.int (14 : Int32)), .unset]) rfl ?_
  refine W.iloadN C m7_5 rfl ?_
  refine W.ldc C m7_6 (hw _ (List.mem_of_getElem? (i := 36) rfl)) ?_
  refine W.imul C m7_8 rfl ?_
  refine W.iloadN C m7_9 rfl ?_
  refine W.iushr C m7_10 rfl ?_
  rw [(own_h8 k).2]
  refine W.iconst C m7_11 (z := (1 : Int32)) rfl ?_
  refine W.ishl C m7_12 rfl ?_
  rw [own_sl _ (by have := (own_h8 k).1; omega)]
  refine W.istore C m7_13 (L' := [.val (.ref a), .val (.int (29 : Int32)), .val (.int k), .val (.int (14 : Int32)), .val (.int (Int32.ofNat (2 * own_h 29 k)))]) rfl ?_
  refine own_tr (L' := [.val (.ref a), .val (.int (29 : Int32)), .val (.int k), .val (.int (14 : Int32)), .val (.int (Int32.ofNat (2 * ((own_h 29 k + 0) % 8))))]) (by rw [Nat.add_zero, Nat.mod_eq_of_lt (own_h8 k).1]) ?_
  exact own_fl8 hw C A0 hl F (fun v hv => hQ _ _ ⟨rfl, hv⟩) d 0 (by omega)

set_option maxRecDepth 65536 in
theorem own_fl16 {κ : KT} {R : Room} {Z : State} {a0 : Array Value} {n0 : Nat} {Qx : Option Value → Heap → Prop} (hw : ∀ d ∈ tables_1, d.before a0 Z = true) (C : Good κ R Z "com/example/principal/principal/engine/IdMap" "find" prog_15_method_4_code 5 (some .int)) {cs sl : Nat} {h : Heap} {a : Addr} {k : Int32} {xs : List Int32} (A0 : Av Z h a .int (xs.map Value.int)) (hl : xs.length = 32) {d : Nat} (F : own_F xs 16 (own_h 28 k) k d) (hq : ∀ v, (∃ r : Int32, v = some (.int r) ∧ r = Int32.ofNat (2 * ((own_h 28 k + d) % 16))) → Qx v h) :
    ∀ (t i : Nat), i + t = d → W κ n0 Qx h cs sl 15 [.val (.ref a), .val (.int (28 : Int32)), .val (.int k), .val (.int (30 : Int32)), .val (.int (Int32.ofNat (2 * ((own_h 28 k + i) % 16))))] [] := by
  intro t
  induction t with
  | zero =>
    intro i hi
    obtain rfl : i = d := by omega
    refine W.aloadN C m7_15 rfl rfl ?_
    refine W.iload C m7_16 rfl ?_
    refine W.iaload C m7_18 A0 (i := 2 * ((own_h 28 k + i) % 16)) (ofNat_toInt (by omega)) (own_get (by omega)) ?_
    refine W.iconst C m7_19 (z := (-1 : Int32)) rfl ?_
    rcases F.2 with q | q
    · refine W.icmpY C m7_20 (show (own_K xs ((own_h 28 k + i) % 16)).toInt = (-1 : Int) from by rw [q]; rfl) ?_
      refine W.iload C m7_42 rfl ?_
      refine W.ireturn C m7_44 ?_
      exact hq _ ⟨_, rfl, rfl⟩
    · by_cases q1 : own_K xs ((own_h 28 k + i) % 16) = -1
      · refine W.icmpY C m7_20 (show (own_K xs ((own_h 28 k + i) % 16)).toInt = (-1 : Int) from by rw [q1]; rfl) ?_
        refine W.iload C m7_42 rfl ?_
        refine W.ireturn C m7_44 ?_
        exact hq _ ⟨_, rfl, rfl⟩
      · refine W.icmpN C m7_20 (show ¬ (own_K xs ((own_h 28 k + i) % 16)).toInt = (-1 : Int) from fun q2 => q1 (Int32.toInt_inj.mp q2)) ?_
        refine W.aloadN C m7_23 rfl rfl ?_
        refine W.iload C m7_24 rfl ?_
        refine W.iaload C m7_26 A0 (i := 2 * ((own_h 28 k + i) % 16)) (ofNat_toInt (by omega)) (own_get (by omega)) ?_
        refine W.iloadN C m7_27 rfl ?_
        refine W.icmpY C m7_28 (show ((own_K xs ((own_h 28 k + i) % 16))).toInt = k.toInt from (by rw [q])) ?_
        refine W.iload C m7_42 rfl ?_
        refine W.ireturn C m7_44 ?_
        exact hq _ ⟨_, rfl, rfl⟩
  | succ t ih =>
    intro i hi
    refine W.aloadN C m7_15 rfl rfl ?_
    refine W.iload C m7_16 rfl ?_
    refine W.iaload C m7_18 A0 (i := 2 * ((own_h 28 k + i) % 16)) (ofNat_toInt (by omega)) (own_get (by omega)) ?_
    refine W.iconst C m7_19 (z := (-1 : Int32)) rfl ?_
    refine W.icmpN C m7_20 (show ¬ (((own_K xs ((own_h 28 k + i) % 16))).toInt = (-1 : Int)) from (fun q2 => (F.1 i (by omega)).1 (Int32.toInt_inj.mp q2))) ?_
    refine W.aloadN C m7_23 rfl rfl ?_
    refine W.iload C m7_24 rfl ?_
    refine W.iaload C m7_26 A0 (i := 2 * ((own_h 28 k + i) % 16)) (ofNat_toInt (by omega)) (own_get (by omega)) ?_
    refine W.iloadN C m7_27 rfl ?_
    refine W.icmpN C m7_28 (show ¬ (((own_K xs ((own_h 28 k + i) % 16))).toInt = k.toInt) from (fun q2 => (F.1 i (by omega)).2 (Int32.toInt_inj.mp q2))) ?_
    refine W.iload C m7_31 rfl ?_
    refine W.iconst C m7_33 (z := (2 : Int32)) rfl ?_
    refine W.iadd C m7_34 rfl ?_
    refine W.iloadN C m7_35 rfl ?_
    refine W.iand C m7_36 rfl ?_
    refine W.istore C m7_37 (L' := [.val (.ref a), .val (.int (28 : Int32)), .val (.int k), .val (.int (30 : Int32)), .val (.int (((Int32.ofNat (2 * ((own_h 28 k + i) % 16))) + (2 : Int32)) &&& (30 : Int32)))]) rfl ?_
    refine W.goto C m7_39 ?_
    refine own_tr (L' := [.val (.ref a), .val (.int (28 : Int32)), .val (.int k), .val (.int (30 : Int32)), .val (.int (Int32.ofNat (2 * ((own_h 28 k + (i + 1)) % 16))))]) (by rw [own_nx16 _ (by omega), show ((own_h 28 k + i) % 16 + 1) % 16 = (own_h 28 k + (i + 1)) % 16 by omega]) ?_
    exact ih (i + 1) (by omega)

set_option maxRecDepth 65536 in
set_option maxHeartbeats 4000000 in
theorem own_find16 (Z : State) (a0 : Array Value) (hw : ∀ d ∈ tables_1, d.before a0 Z = true) (a : Addr) (k : Int32) (xs : List Int32) (d : Nat) (h : Heap) (n0 : Nat) (A0 : Av Z h a .int (xs.map Value.int)) (hl : xs.length = 32) (F : own_F xs 16 (own_h 28 k) k d) :
    Con Z mY7 prog_15_method_4_code 5 (some .int) ({ frames := 0, cells := 0, slots := 0, locals := 0 } : Room) [.ref a, .int (28 : Int32), .int k] h n0 (fun v h' => h = h' ∧ ∃ r : Int32, v = some (.int r) ∧ r = Int32.ofNat (2 * ((own_h 28 k + d) % 16))) := by
  refine Con.of pl7 (L := [.val (.ref a), .val (.int (28 : Int32)), .val (.int k), .unset, .unset]) (fun m => by first | (simp [entryFrame, mkF, argsToLocals, Value.category]; done) | rfl) ?_
  intro κ Qx hQ C
  refine W.aloadN C m7_0 rfl rfl ?_
  refine W.arraylength C m7_1 A0 (z := (32 : Int32)) (by rw [List.length_map, hl]; rfl) ?_
  refine W.iconst C m7_2 (z := (2 : Int32)) rfl ?_
  refine W.isub C m7_3 (z := (30 : Int32)) rfl ?_
  refine W.istoreN C m7_4 (L' := [.val (.ref a), .val (.int (28 : Int32)), .val (.int k), .val (.int (30 : Int32)), .unset]) rfl ?_
  refine W.iloadN C m7_5 rfl ?_
  refine W.ldc C m7_6 (hw _ (List.mem_of_getElem? (i := 36) rfl)) ?_
  refine W.imul C m7_8 rfl ?_
  refine W.iloadN C m7_9 rfl ?_
  refine W.iushr C m7_10 rfl ?_
  rw [(own_h16 k).2]
  refine W.iconst C m7_11 (z := (1 : Int32)) rfl ?_
  refine W.ishl C m7_12 rfl ?_
  rw [own_sl _ (by have := (own_h16 k).1; omega)]
  refine W.istore C m7_13 (L' := [.val (.ref a), .val (.int (28 : Int32)), .val (.int k), .val (.int (30 : Int32)), .val (.int (Int32.ofNat (2 * own_h 28 k)))]) rfl ?_
  refine own_tr (L' := [.val (.ref a), .val (.int (28 : Int32)), .val (.int k), .val (.int (30 : Int32)), .val (.int (Int32.ofNat (2 * ((own_h 28 k + 0) % 16))))]) (by rw [Nat.add_zero, Nat.mod_eq_of_lt (own_h16 k).1]) ?_
  exact own_fl16 hw C A0 hl F (fun v hv => hQ _ _ ⟨rfl, hv⟩) d 0 (by omega)
abbrev mY8 : MethodName := ⟨"com/example/principal/principal/engine/IdMap", "get", "(I)I"⟩
theorem m8_0 : Ins1 prog_15_method_2_code 0 (.aload_n 0) 1 1 := ⟨by decide +kernel, rfl⟩
theorem m8_1 : Ins1 prog_15_method_2_code 1 (.getfield 13) 3 4 := ⟨by decide +kernel, rfl⟩
theorem m8_4 : Ins1 prog_15_method_2_code 4 (.aload_n 0) 1 5 := ⟨by decide +kernel, rfl⟩
theorem m8_5 : Ins1 prog_15_method_2_code 5 (.getfield 17) 3 8 := ⟨by decide +kernel, rfl⟩
theorem m8_8 : Ins1 prog_15_method_2_code 8 (.iload_n 1) 1 9 := ⟨by decide +kernel, rfl⟩
theorem m8_9 : Ins1 prog_15_method_2_code 9 (.invokestatic 21) 3 12 := ⟨by decide +kernel, rfl⟩
theorem m8_12 : Ins1 prog_15_method_2_code 12 (.istore_n 2) 1 13 := ⟨by decide +kernel, rfl⟩
theorem m8_13 : Ins1 prog_15_method_2_code 13 (.aload_n 0) 1 14 := ⟨by decide +kernel, rfl⟩
theorem m8_14 : Ins1 prog_15_method_2_code 14 (.getfield 13) 3 17 := ⟨by decide +kernel, rfl⟩
theorem m8_17 : Ins1 prog_15_method_2_code 17 (.iload_n 2) 1 18 := ⟨by decide +kernel, rfl⟩
theorem m8_18 : Ins1 prog_15_method_2_code 18 (.iaload) 1 19 := ⟨by decide +kernel, rfl⟩
theorem m8_19 : Ins1 prog_15_method_2_code 19 (.iload_n 1) 1 20 := ⟨by decide +kernel, rfl⟩
theorem m8_20 : Jmp1 prog_15_method_2_code 20 (.if_icmp .ne 14) 14 23 34 := ⟨by decide +kernel, rfl, by decide, by decide⟩
theorem m8_23 : Ins1 prog_15_method_2_code 23 (.aload_n 0) 1 24 := ⟨by decide +kernel, rfl⟩
theorem m8_24 : Ins1 prog_15_method_2_code 24 (.getfield 13) 3 27 := ⟨by decide +kernel, rfl⟩
theorem m8_27 : Ins1 prog_15_method_2_code 27 (.iload_n 2) 1 28 := ⟨by decide +kernel, rfl⟩
theorem m8_28 : Ins1 prog_15_method_2_code 28 (.iconst 1) 1 29 := ⟨by decide +kernel, rfl⟩
theorem m8_29 : Ins1 prog_15_method_2_code 29 (.iadd) 1 30 := ⟨by decide +kernel, rfl⟩
theorem m8_30 : Ins1 prog_15_method_2_code 30 (.iaload) 1 31 := ⟨by decide +kernel, rfl⟩
theorem m8_31 : Jmp1 prog_15_method_2_code 31 (.goto 4) 4 34 35 := ⟨by decide +kernel, rfl, by decide, by decide⟩
theorem m8_34 : Ins1 prog_15_method_2_code 34 (.iconst (-1)) 1 35 := ⟨by decide +kernel, rfl⟩
theorem m8_35 : Ins1 prog_15_method_2_code 35 (.ireturn) 1 36 := ⟨by decide +kernel, rfl⟩
theorem pl8 : plainFor mY8 = true := plainFor_of_name (show plainName "com/example/principal/principal/engine/IdMap" = true by first | (simp [plainName, overriddenIn]; done) | decide +kernel)
theorem pd8 : parseMethodDescriptor "(I)I" = some ⟨[.int], some .int⟩ := by decide +kernel
set_option maxRecDepth 65536 in
set_option maxHeartbeats 4000000 in
theorem own_get8 (Z : State) (a0 : Array Value) (hw : ∀ d ∈ tables_1, d.before a0 Z = true) (a : Addr) (q : Int32) (n : Nat) (f : Int32 → Int32 → Prop) (h : Heap) (n0 : Nat) (hn : n ≤ 6) (P : own_Mp Z h a n0 8 29 n f) :
    Con Z mY8 prog_15_method_2_code 3 (some .int) ({ frames := 1, cells := 0, slots := 0, locals := 16 } : Room) [(.ref a), (.int q)] h n0 (fun v h' => h = h' ∧ ∃ r : Int32, v = some (.int r) ∧ (∀ v, q ≠ -1 → f q v → r = v) ∧ ((∀ v, ¬ f q v) → r = -1)) := by
  refine Con.of pl8 (L := [.val (.ref a), .val (.int q), .unset]) (fun m => by first | (simp [entryFrame, mkF, argsToLocals, Value.category]; done) | rfl) ?_
  intro κ Qx hQ C
  obtain ⟨e, xs, kk, k, ⟨E0, F0, F1, F2⟩, A0, hae, g1, g0, z0, hk, hkn, Iv, hR⟩ := P
  obtain ⟨d, hd, F⟩ := own_find Iv (by decide) (by omega) q
  have G := own_got Iv (by decide) F
  refine W.aloadN C m8_0 rfl rfl ?_
  refine W.getfield C m8_1 (host := "") (Or.inl (hw _ (List.mem_of_getElem? (i := 22) rfl))) Via.refl F0 ?_
  refine W.aloadN C m8_4 rfl rfl ?_
  refine W.getfield C m8_5 (host := "") (Or.inl (hw _ (List.mem_of_getElem? (i := 24) rfl))) Via.refl F1 ?_
  refine W.iloadN C m8_8 rfl ?_
  refine W.callS (y := mY7) (wt := 0) C m8_9 (hw _ (List.mem_of_getElem? (i := 33) rfl)) (hw _ (List.mem_of_getElem? (i := 34) rfl)) (hw _ (List.mem_of_getElem? (i := 7) rfl)) (hw _ (List.mem_of_getElem? (i := 35) rfl)) (by decide) pd7 rfl (own_find8 Z a0 hw e q xs d h n0 A0 Iv.1 F) (as' := [(.ref e), (.int (29 : Int32)), (.int q)]) (rest := []) rfl rfl (Nat.le_of_eq rfl) (by decide) (by decide) (by decide) (by decide) ?_
  intro r3 h1 q2
  obtain ⟨rfl, _, rfl, rfl⟩ := q2
  show W κ n0 Qx h 0 0 12 [.val (.ref a), .val (.int q), .unset] [(.int (Int32.ofNat (2 * ((own_h 29 q + d) % 8))))]
  refine W.istoreN C m8_12 (L' := [.val (.ref a), .val (.int q), .val (.int (Int32.ofNat (2 * ((own_h 29 q + d) % 8))))]) rfl ?_
  refine W.aloadN C m8_13 rfl rfl ?_
  refine W.getfield C m8_14 (host := "") (Or.inl (hw _ (List.mem_of_getElem? (i := 22) rfl))) Via.refl F0 ?_
  refine W.iloadN C m8_17 rfl ?_
  refine W.iaload C m8_18 A0 (i := 2 * ((own_h 29 q + d) % 8)) (ofNat_toInt (by omega)) (own_get (by have := Iv.1; omega)) ?_
  refine W.iloadN C m8_19 rfl ?_
  refine W.icmp C m8_20 ?_ ?_
  · intro (h20 : ¬ ((own_K xs ((own_h 29 q + d) % 8))).toInt = q.toInt)
    refine W.iconst C m8_34 (z := (-1 : Int32)) rfl ?_
    refine W.ireturn C m8_35 (hQ _ _ ?_)
    exact ⟨rfl, _, rfl, fun v hq hv => absurd ((hR q hq v).mpr hv) (G.2.1 (fun e => h20 (by rw [e])) v hq), fun _ => rfl⟩
  · intro (h20 : ¬ ¬ ((own_K xs ((own_h 29 q + d) % 8))).toInt = q.toInt)
    replace h20 := Decidable.not_not.mp h20
    refine W.aloadN C m8_23 rfl rfl ?_
    refine W.getfield C m8_24 (host := "") (Or.inl (hw _ (List.mem_of_getElem? (i := 22) rfl))) Via.refl F0 ?_
    refine W.iloadN C m8_27 rfl ?_
    refine W.iconst C m8_28 (z := (1 : Int32)) rfl ?_
    refine W.iadd C m8_29 rfl ?_
    refine W.iaload C m8_30 A0 (i := 2 * ((own_h 29 q + d) % 8) + 1) (by rw [own_in1 _ (by omega)]; exact ofNat_toInt (by omega)) (own_get (by have := Iv.1; omega)) ?_
    refine W.goto C m8_31 ?_
    refine W.ireturn C m8_35 (hQ _ _ ?_)
    have hE : own_K xs ((own_h 29 q + d) % 8) = q := Int32.toInt_inj.mp h20
    refine ⟨rfl, _, rfl, fun v hq hv => ?_, fun hno => ?_⟩
    · exact ((G.1 hE hq).2 v ((hR q hq v).mpr hv)).symm
    · by_cases hq : q = -1
      · exact G.2.2 hq
      · exact absurd ((hR q hq _).mp (G.1 hE hq).1) (hno _)
set_option maxRecDepth 65536 in
set_option maxHeartbeats 4000000 in
theorem own_get16 (Z : State) (a0 : Array Value) (hw : ∀ d ∈ tables_1, d.before a0 Z = true) (a : Addr) (q : Int32) (n : Nat) (f : Int32 → Int32 → Prop) (h : Heap) (n0 : Nat) (hn : n ≤ 6) (P : own_Mp Z h a n0 16 28 n f) :
    Con Z mY8 prog_15_method_2_code 3 (some .int) ({ frames := 1, cells := 0, slots := 0, locals := 16 } : Room) [(.ref a), (.int q)] h n0 (fun v h' => h = h' ∧ ∃ r : Int32, v = some (.int r) ∧ (∀ v, q ≠ -1 → f q v → r = v) ∧ ((∀ v, ¬ f q v) → r = -1)) := by
  refine Con.of pl8 (L := [.val (.ref a), .val (.int q), .unset]) (fun m => by first | (simp [entryFrame, mkF, argsToLocals, Value.category]; done) | rfl) ?_
  intro κ Qx hQ C
  obtain ⟨e, xs, kk, k, ⟨E0, F0, F1, F2⟩, A0, hae, g1, g0, z0, hk, hkn, Iv, hR⟩ := P
  obtain ⟨d, hd, F⟩ := own_find Iv (by decide) (by omega) q
  have G := own_got Iv (by decide) F
  refine W.aloadN C m8_0 rfl rfl ?_
  refine W.getfield C m8_1 (host := "") (Or.inl (hw _ (List.mem_of_getElem? (i := 22) rfl))) Via.refl F0 ?_
  refine W.aloadN C m8_4 rfl rfl ?_
  refine W.getfield C m8_5 (host := "") (Or.inl (hw _ (List.mem_of_getElem? (i := 24) rfl))) Via.refl F1 ?_
  refine W.iloadN C m8_8 rfl ?_
  refine W.callS (y := mY7) (wt := 0) C m8_9 (hw _ (List.mem_of_getElem? (i := 33) rfl)) (hw _ (List.mem_of_getElem? (i := 34) rfl)) (hw _ (List.mem_of_getElem? (i := 7) rfl)) (hw _ (List.mem_of_getElem? (i := 35) rfl)) (by decide) pd7 rfl (own_find16 Z a0 hw e q xs d h n0 A0 Iv.1 F) (as' := [(.ref e), (.int (28 : Int32)), (.int q)]) (rest := []) rfl rfl (Nat.le_of_eq rfl) (by decide) (by decide) (by decide) (by decide) ?_
  intro r3 h1 q2
  obtain ⟨rfl, _, rfl, rfl⟩ := q2
  show W κ n0 Qx h 0 0 12 [.val (.ref a), .val (.int q), .unset] [(.int (Int32.ofNat (2 * ((own_h 28 q + d) % 16))))]
  refine W.istoreN C m8_12 (L' := [.val (.ref a), .val (.int q), .val (.int (Int32.ofNat (2 * ((own_h 28 q + d) % 16))))]) rfl ?_
  refine W.aloadN C m8_13 rfl rfl ?_
  refine W.getfield C m8_14 (host := "") (Or.inl (hw _ (List.mem_of_getElem? (i := 22) rfl))) Via.refl F0 ?_
  refine W.iloadN C m8_17 rfl ?_
  refine W.iaload C m8_18 A0 (i := 2 * ((own_h 28 q + d) % 16)) (ofNat_toInt (by omega)) (own_get (by have := Iv.1; omega)) ?_
  refine W.iloadN C m8_19 rfl ?_
  refine W.icmp C m8_20 ?_ ?_
  · intro (h20 : ¬ ((own_K xs ((own_h 28 q + d) % 16))).toInt = q.toInt)
    refine W.iconst C m8_34 (z := (-1 : Int32)) rfl ?_
    refine W.ireturn C m8_35 (hQ _ _ ?_)
    exact ⟨rfl, _, rfl, fun v hq hv => absurd ((hR q hq v).mpr hv) (G.2.1 (fun e => h20 (by rw [e])) v hq), fun _ => rfl⟩
  · intro (h20 : ¬ ¬ ((own_K xs ((own_h 28 q + d) % 16))).toInt = q.toInt)
    replace h20 := Decidable.not_not.mp h20
    refine W.aloadN C m8_23 rfl rfl ?_
    refine W.getfield C m8_24 (host := "") (Or.inl (hw _ (List.mem_of_getElem? (i := 22) rfl))) Via.refl F0 ?_
    refine W.iloadN C m8_27 rfl ?_
    refine W.iconst C m8_28 (z := (1 : Int32)) rfl ?_
    refine W.iadd C m8_29 rfl ?_
    refine W.iaload C m8_30 A0 (i := 2 * ((own_h 28 q + d) % 16) + 1) (by rw [own_in1 _ (by omega)]; exact ofNat_toInt (by omega)) (own_get (by have := Iv.1; omega)) ?_
    refine W.goto C m8_31 ?_
    refine W.ireturn C m8_35 (hQ _ _ ?_)
    have hE : own_K xs ((own_h 28 q + d) % 16) = q := Int32.toInt_inj.mp h20
    refine ⟨rfl, _, rfl, fun v hq hv => ?_, fun hno => ?_⟩
    · exact ((G.1 hE hq).2 v ((hR q hq v).mpr hv)).symm
    · by_cases hq : q = -1
      · exact G.2.2 hq
      · exact absurd ((hR q hq _).mp (G.1 hE hq).1) (hno _)
theorem own_upi {xs : List Int32} {M : Nat} {f : Int32 → Int32 → Prop} {k v1 q v : Int32} (hR : ∀ q, q ≠ -1 → ∀ v, own_Has xs M q v ↔ f q v) (hq : q ≠ -1) : (q = k ∧ v = v1) ∨ (q ≠ k ∧ own_Has xs M q v) ↔ own_up f k v1 q v := by
  unfold own_up; rw [hR q hq v]
abbrev mY6 : MethodName := ⟨"com/example/principal/principal/engine/IdMap", "put", "(II)V"⟩
theorem m6_20 : Ins1 prog_15_method_3_code 20 (.aload_n 0) 1 21 := ⟨by decide +kernel, rfl⟩
theorem m6_21 : Ins1 prog_15_method_3_code 21 (.getfield 13) 3 24 := ⟨by decide +kernel, rfl⟩
theorem m6_24 : Ins1 prog_15_method_3_code 24 (.aload_n 0) 1 25 := ⟨by decide +kernel, rfl⟩
theorem m6_25 : Ins1 prog_15_method_3_code 25 (.getfield 17) 3 28 := ⟨by decide +kernel, rfl⟩
theorem m6_28 : Ins1 prog_15_method_3_code 28 (.iload_n 1) 1 29 := ⟨by decide +kernel, rfl⟩
theorem m6_29 : Ins1 prog_15_method_3_code 29 (.invokestatic 21) 3 32 := ⟨by decide +kernel, rfl⟩
theorem m6_32 : Ins1 prog_15_method_3_code 32 (.istore_n 3) 1 33 := ⟨by decide +kernel, rfl⟩
theorem m6_33 : Ins1 prog_15_method_3_code 33 (.aload_n 0) 1 34 := ⟨by decide +kernel, rfl⟩
theorem m6_34 : Ins1 prog_15_method_3_code 34 (.getfield 13) 3 37 := ⟨by decide +kernel, rfl⟩
theorem m6_37 : Ins1 prog_15_method_3_code 37 (.iload_n 3) 1 38 := ⟨by decide +kernel, rfl⟩
theorem m6_38 : Ins1 prog_15_method_3_code 38 (.iaload) 1 39 := ⟨by decide +kernel, rfl⟩
theorem m6_39 : Ins1 prog_15_method_3_code 39 (.iload_n 1) 1 40 := ⟨by decide +kernel, rfl⟩
theorem m6_40 : Jmp1 prog_15_method_3_code 40 (.if_icmp .eq 20) 20 43 60 := ⟨by decide +kernel, rfl, by decide, by decide⟩
theorem m6_43 : Ins1 prog_15_method_3_code 43 (.aload_n 0) 1 44 := ⟨by decide +kernel, rfl⟩
theorem m6_44 : Ins1 prog_15_method_3_code 44 (.getfield 13) 3 47 := ⟨by decide +kernel, rfl⟩
theorem m6_47 : Ins1 prog_15_method_3_code 47 (.iload_n 3) 1 48 := ⟨by decide +kernel, rfl⟩
theorem m6_48 : Ins1 prog_15_method_3_code 48 (.iload_n 1) 1 49 := ⟨by decide +kernel, rfl⟩
theorem m6_49 : Ins1 prog_15_method_3_code 49 (.iastore) 1 50 := ⟨by decide +kernel, rfl⟩
theorem m6_50 : Ins1 prog_15_method_3_code 50 (.aload_n 0) 1 51 := ⟨by decide +kernel, rfl⟩
theorem m6_51 : Ins1 prog_15_method_3_code 51 (.dup) 1 52 := ⟨by decide +kernel, rfl⟩
theorem m6_52 : Ins1 prog_15_method_3_code 52 (.getfield 25) 3 55 := ⟨by decide +kernel, rfl⟩
theorem m6_55 : Ins1 prog_15_method_3_code 55 (.iconst 1) 1 56 := ⟨by decide +kernel, rfl⟩
theorem m6_56 : Ins1 prog_15_method_3_code 56 (.iadd) 1 57 := ⟨by decide +kernel, rfl⟩
theorem m6_57 : Ins1 prog_15_method_3_code 57 (.putfield 25) 3 60 := ⟨by decide +kernel, rfl⟩
theorem m6_60 : Ins1 prog_15_method_3_code 60 (.aload_n 0) 1 61 := ⟨by decide +kernel, rfl⟩
theorem m6_61 : Ins1 prog_15_method_3_code 61 (.getfield 13) 3 64 := ⟨by decide +kernel, rfl⟩
theorem m6_64 : Ins1 prog_15_method_3_code 64 (.iload_n 3) 1 65 := ⟨by decide +kernel, rfl⟩
theorem m6_65 : Ins1 prog_15_method_3_code 65 (.iconst 1) 1 66 := ⟨by decide +kernel, rfl⟩
theorem m6_66 : Ins1 prog_15_method_3_code 66 (.iadd) 1 67 := ⟨by decide +kernel, rfl⟩
theorem m6_67 : Ins1 prog_15_method_3_code 67 (.iload_n 2) 1 68 := ⟨by decide +kernel, rfl⟩
theorem m6_68 : Ins1 prog_15_method_3_code 68 (.iastore) 1 69 := ⟨by decide +kernel, rfl⟩
theorem m6_69 : Ins1 prog_15_method_3_code 69 (.return_) 1 70 := ⟨by decide +kernel, rfl⟩
theorem pl6 : plainFor mY6 = true := plainFor_of_name (show plainName "com/example/principal/principal/engine/IdMap" = true by first | (simp [plainName, overriddenIn]; done) | decide +kernel)
theorem pd6 : parseMethodDescriptor "(II)V" = some ⟨[.int, .int], none⟩ := by decide +kernel
set_option maxRecDepth 65536 in
set_option maxHeartbeats 4000000 in
theorem own_pr8 {κ : KT} {R : Room} {Z : State} {a0 : Array Value} {n0 : Nat} {Qx : Option Value → Heap → Prop} (hw : ∀ d ∈ tables_1, d.before a0 Z = true) (C : Good κ R Z "com/example/principal/principal/engine/IdMap" "put" prog_15_method_3_code 4 none) {cs sl : Nat} {h : Heap} {a : Addr} {k v1 : Int32} {n : Nat} {f : Int32 → Int32 → Prop} (hfr : 1 ≤ R.frames) (hlo : 40 ≤ R.locals) (hcs : cs ≤ R.cells) (hsl : sl ≤ R.slots) (hk0 : 0 ≤ k.toInt) (hn : n ≤ 5) (P : own_Mp Z h a n0 8 29 n f) (hq : ∀ h', own_Mp Z h' a n0 8 29 (n + 1) (own_up f k v1) → Qx none h') :
    W κ n0 Qx h cs sl 20 [.val (.ref a), .val (.int k), .val (.int v1), .unset] [] := by
  obtain ⟨e, xs, kk, k0, ⟨E0, F0, F1, F2⟩, A0, hae, g1, g0, z0, hk, hkn, Iv, hR⟩ := P
  have hk1 := own_m1 hk0
  obtain ⟨d, hd, F⟩ := own_find Iv (by decide) (by omega) k
  refine W.aloadN C m6_20 rfl rfl ?_
  refine W.getfield C m6_21 (host := "") (Or.inl (hw _ (List.mem_of_getElem? (i := 22) rfl))) Via.refl F0 ?_
  refine W.aloadN C m6_24 rfl rfl ?_
  refine W.getfield C m6_25 (host := "") (Or.inl (hw _ (List.mem_of_getElem? (i := 24) rfl))) Via.refl F1 ?_
  refine W.iloadN C m6_28 rfl ?_
  refine W.callS (y := mY7) (wt := 0) C m6_29 (hw _ (List.mem_of_getElem? (i := 33) rfl)) (hw _ (List.mem_of_getElem? (i := 34) rfl)) (hw _ (List.mem_of_getElem? (i := 7) rfl)) (hw _ (List.mem_of_getElem? (i := 35) rfl)) (by decide) pd7 rfl (own_find8 Z a0 hw e k xs d h n0 A0 Iv.1 F) (as' := [(.ref e), (.int (29 : Int32)), (.int k)]) (rest := []) rfl rfl (Nat.le_of_eq rfl) hfr (Nat.le_trans (by decide) hlo) hcs hsl ?_
  intro r3 h1 q2
  obtain ⟨rfl, _, rfl, rfl⟩ := q2
  show W κ n0 Qx h cs sl 32 [.val (.ref a), .val (.int k), .val (.int v1), .unset] [(.int (Int32.ofNat (2 * ((own_h 29 k + d) % 8))))]
  refine W.istoreN C m6_32 (L' := [.val (.ref a), .val (.int k), .val (.int v1), .val (.int (Int32.ofNat (2 * ((own_h 29 k + d) % 8))))]) rfl ?_
  refine W.aloadN C m6_33 rfl rfl ?_
  refine W.getfield C m6_34 (host := "") (Or.inl (hw _ (List.mem_of_getElem? (i := 22) rfl))) Via.refl F0 ?_
  refine W.iloadN C m6_37 rfl ?_
  refine W.iaload C m6_38 A0 (i := 2 * ((own_h 29 k + d) % 8)) (ofNat_toInt (by omega)) (own_get (by have := Iv.1; omega)) ?_
  refine W.iloadN C m6_39 rfl ?_
  refine W.icmp C m6_40 ?_ ?_
  · intro (h40 : ((own_K xs ((own_h 29 k + d) % 8))).toInt = k.toInt)
    refine W.aloadN C m6_60 rfl rfl ?_
    refine W.getfield C m6_61 (host := "") (Or.inl (hw _ (List.mem_of_getElem? (i := 22) rfl))) Via.refl F0 ?_
    refine W.iloadN C m6_64 rfl ?_
    refine W.iconst C m6_65 (z := (1 : Int32)) rfl ?_
    refine W.iadd C m6_66 rfl ?_
    refine W.iloadN C m6_67 rfl ?_
    refine W.iastore C m6_68 A0 (i := 2 * ((own_h 29 k + d) % 8) + 1) (by rw [own_in1 _ (by omega)]; exact ofNat_toInt (by omega)) (by simp only [List.length_map, List.length_set, Iv.1]; omega) g1 ?_
    intro h4 W5 A6
    have E7 := E0.wr W5
    have F8 := F0.other W5 (Or.inl hae)
    have F9 := F1.other W5 (Or.inl hae)
    have F10 := F2.other W5 (Or.inl hae)
    have z11 : n0 ≤ h4.size := Nat.le_trans z0 (Nat.le_of_eq (Wr.size W5).symm)
    have A12 := own_set A6
    refine W.vreturn C m6_69 ?_
    have hE : own_K xs ((own_h 29 k + d) % 8) = k := Int32.toInt_inj.mp h40
    have hsame : xs.set (2 * ((own_h 29 k + d) % 8)) k = xs := by
      apply List.ext_getElem?
      intro j
      rw [List.getElem?_set]
      split
      · rename_i q; subst q
        have hlt : 2 * ((own_h 29 k + d) % 8) < xs.length := by have := Iv.1; omega
        have q := hE
        unfold own_K at q
        rw [List.getD_eq_getElem?_getD, List.getElem?_eq_getElem hlt] at q
        rw [if_pos hlt, List.getElem?_eq_getElem hlt]; exact congrArg some q.symm
      · rfl
    have B := own_put Iv (by decide) v1 hk1 hd F rfl rfl
    rw [hsame] at B
    exact hq _ ⟨e, _, kk, k0, ⟨E7, F8, F9, F10⟩, A12, hae, g1, g0, z11, hk, by omega, B.2.1 hE, fun q hq v => (B.2.2 q hq v).trans (own_upi hR hq)⟩
  · intro (h40 : ¬ (((own_K xs ((own_h 29 k + d) % 8))).toInt = k.toInt))
    refine W.aloadN C m6_43 rfl rfl ?_
    refine W.getfield C m6_44 (host := "") (Or.inl (hw _ (List.mem_of_getElem? (i := 22) rfl))) Via.refl F0 ?_
    refine W.iloadN C m6_47 rfl ?_
    refine W.iloadN C m6_48 rfl ?_
    refine W.iastore C m6_49 A0 (i := 2 * ((own_h 29 k + d) % 8)) (ofNat_toInt (by omega)) (by rw [List.length_map, Iv.1]; omega) g1 ?_
    intro h4 W5 A6
    have E7 := E0.wr W5
    have F8 := F0.other W5 (Or.inl hae)
    have F9 := F1.other W5 (Or.inl hae)
    have F10 := F2.other W5 (Or.inl hae)
    have z11 : n0 ≤ h4.size := Nat.le_trans z0 (Nat.le_of_eq (Wr.size W5).symm)
    have A12 := own_set A6
    refine W.aloadN C m6_50 rfl rfl ?_
    refine W.dup C m6_51 rfl ?_
    refine W.getfield C m6_52 (host := "") (Or.inl (hw _ (List.mem_of_getElem? (i := 31) rfl))) Via.refl F10 ?_
    refine W.iconst C m6_55 (z := (1 : Int32)) rfl ?_
    refine W.iadd C m6_56 rfl ?_
    refine W.putfield C m6_57 (host := "") (Or.inl (hw _ (List.mem_of_getElem? (i := 31) rfl))) Via.refl F10 E7 (Or.inl (hw _ (List.mem_of_getElem? (i := 32) rfl))) (hw _ (List.mem_of_getElem? (i := 6) rfl)) (ty := .int) (by decide) rfl rfl g0 ?_
    intro h13 W14 F15
    have E16 := E7.wr W14
    have F17 := F8.other W14 (Or.inr (slot_ne (a0 := a0) (Or.inl (hw _ (List.mem_of_getElem? (i := 23) rfl))) (Or.inl (hw _ (List.mem_of_getElem? (i := 32) rfl))) (by decide) (t := (.array .int)) (t' := .int) (by decide) (by decide)))
    have F18 := F9.other W14 (Or.inr (slot_ne (a0 := a0) (Or.inl (hw _ (List.mem_of_getElem? (i := 25) rfl))) (Or.inl (hw _ (List.mem_of_getElem? (i := 32) rfl))) (by decide) (t := .int) (t' := .int) (by decide) (by decide)))
    have A19 := A12.other W14 (Ne.symm hae)
    have z20 : n0 ≤ h13.size := Nat.le_trans z11 (Nat.le_of_eq (Wr.size W14).symm)
    refine W.aloadN C m6_60 rfl rfl ?_
    refine W.getfield C m6_61 (host := "") (Or.inl (hw _ (List.mem_of_getElem? (i := 22) rfl))) Via.refl F17 ?_
    refine W.iloadN C m6_64 rfl ?_
    refine W.iconst C m6_65 (z := (1 : Int32)) rfl ?_
    refine W.iadd C m6_66 rfl ?_
    refine W.iloadN C m6_67 rfl ?_
    refine W.iastore C m6_68 A19 (i := 2 * ((own_h 29 k + d) % 8) + 1) (by rw [own_in1 _ (by omega)]; exact ofNat_toInt (by omega)) (by simp only [List.length_map, List.length_set, Iv.1]; omega) g1 ?_
    intro h21 W22 A23
    have E24 := E16.wr W22
    have F25 := F17.other W22 (Or.inl hae)
    have F26 := F18.other W22 (Or.inl hae)
    have F27 := F15.other W22 (Or.inl hae)
    have z28 : n0 ≤ h21.size := Nat.le_trans z20 (Nat.le_of_eq (Wr.size W22).symm)
    have A29 := own_set A23
    refine W.vreturn C m6_69 ?_
    have B := own_put Iv (by decide) v1 hk1 hd F rfl rfl
    have hk2 : (kk + (1 : Int32)).toInt = ((k0 + 1 : Nat) : Int) := by
      have e1 := c_iadd kk (1 : Int32)
      have e2 := rng32 (kk + (1 : Int32))
      have e3 : (1 : Int32).toInt = 1 := rfl
      omega
    exact hq _ ⟨e, _, _, k0 + 1, ⟨E24, F25, F26, F27⟩, A29, hae, g1, g0, z28, hk2, by omega, B.1, fun q hq v => (B.2.2 q hq v).trans (own_upi hR hq)⟩

set_option maxRecDepth 65536 in
set_option maxHeartbeats 4000000 in
theorem own_pr16 {κ : KT} {R : Room} {Z : State} {a0 : Array Value} {n0 : Nat} {Qx : Option Value → Heap → Prop} (hw : ∀ d ∈ tables_1, d.before a0 Z = true) (C : Good κ R Z "com/example/principal/principal/engine/IdMap" "put" prog_15_method_3_code 4 none) {cs sl : Nat} {h : Heap} {a : Addr} {k v1 : Int32} {n : Nat} {f : Int32 → Int32 → Prop} (hfr : 1 ≤ R.frames) (hlo : 40 ≤ R.locals) (hcs : cs ≤ R.cells) (hsl : sl ≤ R.slots) (hk0 : 0 ≤ k.toInt) (hn : n ≤ 5) (P : own_Mp Z h a n0 16 28 n f) (hq : ∀ h', own_Mp Z h' a n0 16 28 (n + 1) (own_up f k v1) → Qx none h') :
    W κ n0 Qx h cs sl 20 [.val (.ref a), .val (.int k), .val (.int v1), .unset] [] := by
  obtain ⟨e, xs, kk, k0, ⟨E0, F0, F1, F2⟩, A0, hae, g1, g0, z0, hk, hkn, Iv, hR⟩ := P
  have hk1 := own_m1 hk0
  obtain ⟨d, hd, F⟩ := own_find Iv (by decide) (by omega) k
  refine W.aloadN C m6_20 rfl rfl ?_
  refine W.getfield C m6_21 (host := "") (Or.inl (hw _ (List.mem_of_getElem? (i := 22) rfl))) Via.refl F0 ?_
  refine W.aloadN C m6_24 rfl rfl ?_
  refine W.getfield C m6_25 (host := "") (Or.inl (hw _ (List.mem_of_getElem? (i := 24) rfl))) Via.refl F1 ?_
  refine W.iloadN C m6_28 rfl ?_
  refine W.callS (y := mY7) (wt := 0) C m6_29 (hw _ (List.mem_of_getElem? (i := 33) rfl)) (hw _ (List.mem_of_getElem? (i := 34) rfl)) (hw _ (List.mem_of_getElem? (i := 7) rfl)) (hw _ (List.mem_of_getElem? (i := 35) rfl)) (by decide) pd7 rfl (own_find16 Z a0 hw e k xs d h n0 A0 Iv.1 F) (as' := [(.ref e), (.int (28 : Int32)), (.int k)]) (rest := []) rfl rfl (Nat.le_of_eq rfl) hfr (Nat.le_trans (by decide) hlo) hcs hsl ?_
  intro r3 h1 q2
  obtain ⟨rfl, _, rfl, rfl⟩ := q2
  show W κ n0 Qx h cs sl 32 [.val (.ref a), .val (.int k), .val (.int v1), .unset] [(.int (Int32.ofNat (2 * ((own_h 28 k + d) % 16))))]
  refine W.istoreN C m6_32 (L' := [.val (.ref a), .val (.int k), .val (.int v1), .val (.int (Int32.ofNat (2 * ((own_h 28 k + d) % 16))))]) rfl ?_
  refine W.aloadN C m6_33 rfl rfl ?_
  refine W.getfield C m6_34 (host := "") (Or.inl (hw _ (List.mem_of_getElem? (i := 22) rfl))) Via.refl F0 ?_
  refine W.iloadN C m6_37 rfl ?_
  refine W.iaload C m6_38 A0 (i := 2 * ((own_h 28 k + d) % 16)) (ofNat_toInt (by omega)) (own_get (by have := Iv.1; omega)) ?_
  refine W.iloadN C m6_39 rfl ?_
  refine W.icmp C m6_40 ?_ ?_
  · intro (h40 : ((own_K xs ((own_h 28 k + d) % 16))).toInt = k.toInt)
    refine W.aloadN C m6_60 rfl rfl ?_
    refine W.getfield C m6_61 (host := "") (Or.inl (hw _ (List.mem_of_getElem? (i := 22) rfl))) Via.refl F0 ?_
    refine W.iloadN C m6_64 rfl ?_
    refine W.iconst C m6_65 (z := (1 : Int32)) rfl ?_
    refine W.iadd C m6_66 rfl ?_
    refine W.iloadN C m6_67 rfl ?_
    refine W.iastore C m6_68 A0 (i := 2 * ((own_h 28 k + d) % 16) + 1) (by rw [own_in1 _ (by omega)]; exact ofNat_toInt (by omega)) (by simp only [List.length_map, List.length_set, Iv.1]; omega) g1 ?_
    intro h4 W5 A6
    have E7 := E0.wr W5
    have F8 := F0.other W5 (Or.inl hae)
    have F9 := F1.other W5 (Or.inl hae)
    have F10 := F2.other W5 (Or.inl hae)
    have z11 : n0 ≤ h4.size := Nat.le_trans z0 (Nat.le_of_eq (Wr.size W5).symm)
    have A12 := own_set A6
    refine W.vreturn C m6_69 ?_
    have hE : own_K xs ((own_h 28 k + d) % 16) = k := Int32.toInt_inj.mp h40
    have hsame : xs.set (2 * ((own_h 28 k + d) % 16)) k = xs := by
      apply List.ext_getElem?
      intro j
      rw [List.getElem?_set]
      split
      · rename_i q; subst q
        have hlt : 2 * ((own_h 28 k + d) % 16) < xs.length := by have := Iv.1; omega
        have q := hE
        unfold own_K at q
        rw [List.getD_eq_getElem?_getD, List.getElem?_eq_getElem hlt] at q
        rw [if_pos hlt, List.getElem?_eq_getElem hlt]; exact congrArg some q.symm
      · rfl
    have B := own_put Iv (by decide) v1 hk1 hd F rfl rfl
    rw [hsame] at B
    exact hq _ ⟨e, _, kk, k0, ⟨E7, F8, F9, F10⟩, A12, hae, g1, g0, z11, hk, by omega, B.2.1 hE, fun q hq v => (B.2.2 q hq v).trans (own_upi hR hq)⟩
  · intro (h40 : ¬ (((own_K xs ((own_h 28 k + d) % 16))).toInt = k.toInt))
    refine W.aloadN C m6_43 rfl rfl ?_
    refine W.getfield C m6_44 (host := "") (Or.inl (hw _ (List.mem_of_getElem? (i := 22) rfl))) Via.refl F0 ?_
    refine W.iloadN C m6_47 rfl ?_
    refine W.iloadN C m6_48 rfl ?_
    refine W.iastore C m6_49 A0 (i := 2 * ((own_h 28 k + d) % 16)) (ofNat_toInt (by omega)) (by rw [List.length_map, Iv.1]; omega) g1 ?_
    intro h4 W5 A6
    have E7 := E0.wr W5
    have F8 := F0.other W5 (Or.inl hae)
    have F9 := F1.other W5 (Or.inl hae)
    have F10 := F2.other W5 (Or.inl hae)
    have z11 : n0 ≤ h4.size := Nat.le_trans z0 (Nat.le_of_eq (Wr.size W5).symm)
    have A12 := own_set A6
    refine W.aloadN C m6_50 rfl rfl ?_
    refine W.dup C m6_51 rfl ?_
    refine W.getfield C m6_52 (host := "") (Or.inl (hw _ (List.mem_of_getElem? (i := 31) rfl))) Via.refl F10 ?_
    refine W.iconst C m6_55 (z := (1 : Int32)) rfl ?_
    refine W.iadd C m6_56 rfl ?_
    refine W.putfield C m6_57 (host := "") (Or.inl (hw _ (List.mem_of_getElem? (i := 31) rfl))) Via.refl F10 E7 (Or.inl (hw _ (List.mem_of_getElem? (i := 32) rfl))) (hw _ (List.mem_of_getElem? (i := 6) rfl)) (ty := .int) (by decide) rfl rfl g0 ?_
    intro h13 W14 F15
    have E16 := E7.wr W14
    have F17 := F8.other W14 (Or.inr (slot_ne (a0 := a0) (Or.inl (hw _ (List.mem_of_getElem? (i := 23) rfl))) (Or.inl (hw _ (List.mem_of_getElem? (i := 32) rfl))) (by decide) (t := (.array .int)) (t' := .int) (by decide) (by decide)))
    have F18 := F9.other W14 (Or.inr (slot_ne (a0 := a0) (Or.inl (hw _ (List.mem_of_getElem? (i := 25) rfl))) (Or.inl (hw _ (List.mem_of_getElem? (i := 32) rfl))) (by decide) (t := .int) (t' := .int) (by decide) (by decide)))
    have A19 := A12.other W14 (Ne.symm hae)
    have z20 : n0 ≤ h13.size := Nat.le_trans z11 (Nat.le_of_eq (Wr.size W14).symm)
    refine W.aloadN C m6_60 rfl rfl ?_
    refine W.getfield C m6_61 (host := "") (Or.inl (hw _ (List.mem_of_getElem? (i := 22) rfl))) Via.refl F17 ?_
    refine W.iloadN C m6_64 rfl ?_
    refine W.iconst C m6_65 (z := (1 : Int32)) rfl ?_
    refine W.iadd C m6_66 rfl ?_
    refine W.iloadN C m6_67 rfl ?_
    refine W.iastore C m6_68 A19 (i := 2 * ((own_h 28 k + d) % 16) + 1) (by rw [own_in1 _ (by omega)]; exact ofNat_toInt (by omega)) (by simp only [List.length_map, List.length_set, Iv.1]; omega) g1 ?_
    intro h21 W22 A23
    have E24 := E16.wr W22
    have F25 := F17.other W22 (Or.inl hae)
    have F26 := F18.other W22 (Or.inl hae)
    have F27 := F15.other W22 (Or.inl hae)
    have z28 : n0 ≤ h21.size := Nat.le_trans z20 (Nat.le_of_eq (Wr.size W22).symm)
    have A29 := own_set A23
    refine W.vreturn C m6_69 ?_
    have B := own_put Iv (by decide) v1 hk1 hd F rfl rfl
    have hk2 : (kk + (1 : Int32)).toInt = ((k0 + 1 : Nat) : Int) := by
      have e1 := c_iadd kk (1 : Int32)
      have e2 := rng32 (kk + (1 : Int32))
      have e3 : (1 : Int32).toInt = 1 := rfl
      omega
    exact hq _ ⟨e, _, _, k0 + 1, ⟨E24, F25, F26, F27⟩, A29, hae, g1, g0, z28, hk2, by omega, B.1, fun q hq v => (B.2.2 q hq v).trans (own_upi hR hq)⟩
theorem own_uni {xs : List Int32} {M n : Nat} {hf : Int32 → Nat} (Iv : own_I xs M hf n) {s t : Nat} (hs : s < M) (ht : t < M) (e : own_K xs s = own_K xs t) (hk : own_K xs t ≠ -1) : s = t := by
  obtain ⟨d, -, g2, g3⟩ := Iv.2.2.1 t ht hk
  rw [own_at_probe Iv hk g3 hs e, g2]
theorem own_sk {xs : List Int32} {i : Nat} {q v : Int32} (hf : own_K xs i = -1) (hq : q ≠ -1) : (∃ t, t < i ∧ own_K xs t = q ∧ own_V xs t = v) ↔ (∃ t, t < i + 1 ∧ own_K xs t = q ∧ own_V xs t = v) := by
  constructor
  · rintro ⟨t, h1, h2⟩; exact ⟨t, by omega, h2⟩
  · rintro ⟨t, h1, h2, h3⟩
    have : t ≠ i := fun e => hq (by rw [← h2, e]; exact hf)
    exact ⟨t, by omega, h2, h3⟩
theorem own_ad {xs ys : List Int32} {i n : Nat} {hh : Int32 → Nat} (Iv : own_I xs 8 hh n) {q v : Int32} (hf : own_K xs i ≠ -1) (hY : ∀ q, q ≠ -1 → ∀ v, own_Has ys 16 q v ↔ ∃ t, t < i ∧ own_K xs t = q ∧ own_V xs t = v) (hq : q ≠ -1) (hi : i < 8) : (q = own_K xs i ∧ v = own_V xs i) ∨ (q ≠ own_K xs i ∧ own_Has ys 16 q v) ↔ (∃ t, t < i + 1 ∧ own_K xs t = q ∧ own_V xs t = v) := by
  rw [hY q hq v]
  constructor
  · rintro (⟨h1, h2⟩ | ⟨h0, t, h1, h2, h3⟩)
    · exact ⟨i, by omega, h1.symm, h2.symm⟩
    · exact ⟨t, by omega, h2, h3⟩
  · rintro ⟨t, h1, h2, h3⟩
    by_cases e : t = i
    · subst e; exact Or.inl ⟨h2.symm, h3.symm⟩
    · exact Or.inr ⟨fun e2 => e (own_uni Iv (by omega) hi (h2.trans e2) hf), t, by omega, h2, h3⟩
abbrev mY9 : MethodName := ⟨"com/example/principal/principal/engine/IdMap", "grow", "()V"⟩
theorem m9_18 : Ins1 prog_15_method_5_code 18 (.iload_n 3) 1 19 := ⟨by decide +kernel, rfl⟩
theorem m9_19 : Ins1 prog_15_method_5_code 19 (.aload_n 0) 1 20 := ⟨by decide +kernel, rfl⟩
theorem m9_20 : Ins1 prog_15_method_5_code 20 (.getfield 13) 3 23 := ⟨by decide +kernel, rfl⟩
theorem m9_23 : Ins1 prog_15_method_5_code 23 (.arraylength) 1 24 := ⟨by decide +kernel, rfl⟩
theorem m9_24 : Jmp1 prog_15_method_5_code 24 (.if_icmp .ge 56) 56 27 80 := ⟨by decide +kernel, rfl, by decide, by decide⟩
theorem m9_27 : Ins1 prog_15_method_5_code 27 (.aload_n 0) 1 28 := ⟨by decide +kernel, rfl⟩
theorem m9_28 : Ins1 prog_15_method_5_code 28 (.getfield 13) 3 31 := ⟨by decide +kernel, rfl⟩
theorem m9_31 : Ins1 prog_15_method_5_code 31 (.iload_n 3) 1 32 := ⟨by decide +kernel, rfl⟩
theorem m9_32 : Ins1 prog_15_method_5_code 32 (.iaload) 1 33 := ⟨by decide +kernel, rfl⟩
theorem m9_33 : Ins1 prog_15_method_5_code 33 (.iconst (-1)) 1 34 := ⟨by decide +kernel, rfl⟩
theorem m9_34 : Jmp1 prog_15_method_5_code 34 (.if_icmp .eq 40) 40 37 74 := ⟨by decide +kernel, rfl, by decide, by decide⟩
theorem m9_37 : Ins1 prog_15_method_5_code 37 (.aload_n 1) 1 38 := ⟨by decide +kernel, rfl⟩
theorem m9_38 : Ins1 prog_15_method_5_code 38 (.iload_n 2) 1 39 := ⟨by decide +kernel, rfl⟩
theorem m9_39 : Ins1 prog_15_method_5_code 39 (.aload_n 0) 1 40 := ⟨by decide +kernel, rfl⟩
theorem m9_40 : Ins1 prog_15_method_5_code 40 (.getfield 13) 3 43 := ⟨by decide +kernel, rfl⟩
theorem m9_43 : Ins1 prog_15_method_5_code 43 (.iload_n 3) 1 44 := ⟨by decide +kernel, rfl⟩
theorem m9_44 : Ins1 prog_15_method_5_code 44 (.iaload) 1 45 := ⟨by decide +kernel, rfl⟩
theorem m9_45 : Ins1 prog_15_method_5_code 45 (.invokestatic 21) 3 48 := ⟨by decide +kernel, rfl⟩
theorem m9_48 : Ins1 prog_15_method_5_code 48 (.istore 4) 2 50 := ⟨by decide +kernel, rfl⟩
theorem m9_50 : Ins1 prog_15_method_5_code 50 (.aload_n 1) 1 51 := ⟨by decide +kernel, rfl⟩
theorem m9_51 : Ins1 prog_15_method_5_code 51 (.iload 4) 2 53 := ⟨by decide +kernel, rfl⟩
theorem m9_53 : Ins1 prog_15_method_5_code 53 (.aload_n 0) 1 54 := ⟨by decide +kernel, rfl⟩
theorem m9_54 : Ins1 prog_15_method_5_code 54 (.getfield 13) 3 57 := ⟨by decide +kernel, rfl⟩
theorem m9_57 : Ins1 prog_15_method_5_code 57 (.iload_n 3) 1 58 := ⟨by decide +kernel, rfl⟩
theorem m9_58 : Ins1 prog_15_method_5_code 58 (.iaload) 1 59 := ⟨by decide +kernel, rfl⟩
theorem m9_59 : Ins1 prog_15_method_5_code 59 (.iastore) 1 60 := ⟨by decide +kernel, rfl⟩
theorem m9_60 : Ins1 prog_15_method_5_code 60 (.aload_n 1) 1 61 := ⟨by decide +kernel, rfl⟩
theorem m9_61 : Ins1 prog_15_method_5_code 61 (.iload 4) 2 63 := ⟨by decide +kernel, rfl⟩
theorem m9_63 : Ins1 prog_15_method_5_code 63 (.iconst 1) 1 64 := ⟨by decide +kernel, rfl⟩
theorem m9_64 : Ins1 prog_15_method_5_code 64 (.iadd) 1 65 := ⟨by decide +kernel, rfl⟩
theorem m9_65 : Ins1 prog_15_method_5_code 65 (.aload_n 0) 1 66 := ⟨by decide +kernel, rfl⟩
theorem m9_66 : Ins1 prog_15_method_5_code 66 (.getfield 13) 3 69 := ⟨by decide +kernel, rfl⟩
theorem m9_69 : Ins1 prog_15_method_5_code 69 (.iload_n 3) 1 70 := ⟨by decide +kernel, rfl⟩
theorem m9_70 : Ins1 prog_15_method_5_code 70 (.iconst 1) 1 71 := ⟨by decide +kernel, rfl⟩
theorem m9_71 : Ins1 prog_15_method_5_code 71 (.iadd) 1 72 := ⟨by decide +kernel, rfl⟩
theorem m9_72 : Ins1 prog_15_method_5_code 72 (.iaload) 1 73 := ⟨by decide +kernel, rfl⟩
theorem m9_73 : Ins1 prog_15_method_5_code 73 (.iastore) 1 74 := ⟨by decide +kernel, rfl⟩
theorem m9_74 : Ins1 prog_15_method_5_code 74 (.iinc 3 2) 3 77 := ⟨by decide +kernel, rfl⟩
theorem m9_77 : Jmp1 prog_15_method_5_code 77 (.goto (-59)) (-59) 80 18 := ⟨by decide +kernel, rfl, by decide, by decide⟩
theorem m9_80 : Ins1 prog_15_method_5_code 80 (.aload_n 0) 1 81 := ⟨by decide +kernel, rfl⟩
theorem m9_81 : Ins1 prog_15_method_5_code 81 (.aload_n 1) 1 82 := ⟨by decide +kernel, rfl⟩
theorem m9_82 : Ins1 prog_15_method_5_code 82 (.putfield 13) 3 85 := ⟨by decide +kernel, rfl⟩
theorem m9_85 : Ins1 prog_15_method_5_code 85 (.aload_n 0) 1 86 := ⟨by decide +kernel, rfl⟩
theorem m9_86 : Ins1 prog_15_method_5_code 86 (.iload_n 2) 1 87 := ⟨by decide +kernel, rfl⟩
theorem m9_87 : Ins1 prog_15_method_5_code 87 (.putfield 17) 3 90 := ⟨by decide +kernel, rfl⟩
theorem m9_90 : Ins1 prog_15_method_5_code 90 (.return_) 1 91 := ⟨by decide +kernel, rfl⟩
theorem pl9 : plainFor mY9 = true := plainFor_of_name (show plainName "com/example/principal/principal/engine/IdMap" = true by first | (simp [plainName, overriddenIn]; done) | decide +kernel)
theorem pd9 : parseMethodDescriptor "()V" = some ⟨[], none⟩ := by decide +kernel
set_option maxRecDepth 65536 in
set_option maxHeartbeats 4000000 in
theorem own_gl {κ : KT} {R : Room} {Z : State} {a0 : Array Value} {n0 : Nat} {Qx : Option Value → Heap → Prop} (hw : ∀ d ∈ tables_1, d.before a0 Z = true) (C : Good κ R Z "com/example/principal/principal/engine/IdMap" "grow" prog_15_method_5_code 5 none) {cs sl : Nat} {a e g : Addr} {xs : List Int32} {kk : Int32} {k0 n : Nat} {f : Int32 → Int32 → Prop} (hfr : 1 ≤ R.frames) (hlo : 40 ≤ R.locals) (hcs : cs ≤ R.cells) (hsl : sl ≤ R.slots) (hae : a ≠ e) (hag : a ≠ g) (heg : e ≠ g) (g0 : n0 ≤ a) (g1 : n0 ≤ e) (g2 : n0 ≤ g) (hk : kk.toInt = k0) (hkn : k0 ≤ n) (Iv : own_I xs 8 (own_h 29) k0) (hR : ∀ q, q ≠ -1 → ∀ v, own_Has xs 8 q v ↔ f q v) (hq : ∀ h', own_Mp Z h' a n0 16 28 n f → Qx none h') :
    ∀ (d i : Nat) (h1 : Heap) (ys : List Int32) (s4 : Slot), i + d = 8 → One s4 → Exa Z h1 a "com/example/principal/principal/engine/IdMap" → Fld Z h1 a "com/example/principal/principal/engine/IdMap" "slots" "[I" (.ref e) → Fld Z h1 a "com/example/principal/principal/engine/IdMap" "shift" "I" (.int (29 : Int32)) → Fld Z h1 a "com/example/principal/principal/engine/IdMap" "size" "I" (.int kk) → Av Z h1 e .int (xs.map Value.int) → Av Z h1 g .int (ys.map Value.int) → n0 ≤ h1.size → own_I ys 16 (own_h 28) (own_occ xs i) → (∀ q, q ≠ -1 → ∀ v, own_Has ys 16 q v ↔ ∃ t, t < i ∧ own_K xs t = q ∧ own_V xs t = v) → W κ n0 Qx h1 cs sl 18 [.val (.ref a), .val (.ref g), .val (.int (28 : Int32)), .val (.int (Int32.ofNat (2 * i))), s4] [] := by
  intro d
  induction d with
  | zero =>
    intro i h1 ys s4 hd os4 E0 F0 F1 F2 A0 A1 z0 Iy hY
    refine W.iloadN C m9_18 rfl ?_
    refine W.aloadN C m9_19 rfl rfl ?_
    refine W.getfield C m9_20 (host := "") (Or.inl (hw _ (List.mem_of_getElem? (i := 22) rfl))) Via.refl F0 ?_
    refine W.arraylength C m9_23 A0 (z := (16 : Int32)) (by rw [List.length_map, Iv.1]; rfl) ?_
    refine W.icmpY C m9_24 (show (16 : Int) ≤ ((Int32.ofNat (2 * i))).toInt from (by rw [ofNat_toInt (by omega)]; omega)) ?_
    refine W.aloadN C m9_80 rfl rfl ?_
    refine W.aloadN C m9_81 rfl rfl ?_
    refine W.putfield C m9_82 (host := "") (Or.inl (hw _ (List.mem_of_getElem? (i := 22) rfl))) Via.refl F0 E0 (Or.inl (hw _ (List.mem_of_getElem? (i := 23) rfl))) (hw _ (List.mem_of_getElem? (i := 6) rfl)) (ty := (.array .int)) (by decide) rfl rfl g0 ?_
    intro h1 W2 F3
    have E4 := E0.wr W2
    have F5 := F1.other W2 (Or.inr (slot_ne (a0 := a0) (Or.inl (hw _ (List.mem_of_getElem? (i := 25) rfl))) (Or.inl (hw _ (List.mem_of_getElem? (i := 23) rfl))) (by decide) (t := .int) (t' := (.array .int)) (by decide) (by decide)))
    have F6 := F2.other W2 (Or.inr (slot_ne (a0 := a0) (Or.inl (hw _ (List.mem_of_getElem? (i := 32) rfl))) (Or.inl (hw _ (List.mem_of_getElem? (i := 23) rfl))) (by decide) (t := .int) (t' := (.array .int)) (by decide) (by decide)))
    have A7 := A0.other W2 (Ne.symm hae)
    have A8 := A1.other W2 (Ne.symm hag)
    have z9 : n0 ≤ h1.size := Nat.le_trans z0 (Nat.le_of_eq (Wr.size W2).symm)
    refine W.aloadN C m9_85 rfl rfl ?_
    refine W.iloadN C m9_86 rfl ?_
    refine W.putfield C m9_87 (host := "") (Or.inl (hw _ (List.mem_of_getElem? (i := 24) rfl))) Via.refl F5 E4 (Or.inl (hw _ (List.mem_of_getElem? (i := 25) rfl))) (hw _ (List.mem_of_getElem? (i := 6) rfl)) (ty := .int) (by decide) rfl rfl g0 ?_
    intro h10 W11 F12
    have E13 := E4.wr W11
    have F14 := F3.other W11 (Or.inr (slot_ne (a0 := a0) (Or.inl (hw _ (List.mem_of_getElem? (i := 23) rfl))) (Or.inl (hw _ (List.mem_of_getElem? (i := 25) rfl))) (by decide) (t := (.array .int)) (t' := .int) (by decide) (by decide)))
    have F15 := F6.other W11 (Or.inr (slot_ne (a0 := a0) (Or.inl (hw _ (List.mem_of_getElem? (i := 32) rfl))) (Or.inl (hw _ (List.mem_of_getElem? (i := 25) rfl))) (by decide) (t := .int) (t' := .int) (by decide) (by decide)))
    have A16 := A7.other W11 (Ne.symm hae)
    have A17 := A8.other W11 (Ne.symm hag)
    have z18 : n0 ≤ h10.size := Nat.le_trans z9 (Nat.le_of_eq (Wr.size W11).symm)
    refine W.vreturn C m9_90 ?_
    obtain rfl : i = 8 := by omega
    exact hq _ ⟨g, ys, kk, k0, ⟨E13, F14, F12, F15⟩, A17, hag, g2, g0, z18, hk, hkn, ⟨Iy.1, Iy.2.1, Iy.2.2.1, Nat.le_trans Iy.2.2.2 Iv.2.2.2⟩, fun q hq v => (hY q hq v).trans (hR q hq v)⟩
  | succ d ih =>
    intro i h1 ys s4 hd os4 E0 F0 F1 F2 A0 A1 z0 Iy hY
    refine W.iloadN C m9_18 rfl ?_
    refine W.aloadN C m9_19 rfl rfl ?_
    refine W.getfield C m9_20 (host := "") (Or.inl (hw _ (List.mem_of_getElem? (i := 22) rfl))) Via.refl F0 ?_
    refine W.arraylength C m9_23 A0 (z := (16 : Int32)) (by rw [List.length_map, Iv.1]; rfl) ?_
    refine W.icmpN C m9_24 (show ¬ ((16 : Int) ≤ ((Int32.ofNat (2 * i))).toInt) from (by rw [ofNat_toInt (by omega)]; omega)) ?_
    refine W.aloadN C m9_27 rfl rfl ?_
    refine W.getfield C m9_28 (host := "") (Or.inl (hw _ (List.mem_of_getElem? (i := 22) rfl))) Via.refl F0 ?_
    refine W.iloadN C m9_31 rfl ?_
    refine W.iaload C m9_32 A0 (i := 2 * i) (ofNat_toInt (by omega)) (own_get (by have := Iv.1; omega)) ?_
    refine W.iconst C m9_33 (z := (-1 : Int32)) rfl ?_
    by_cases hf : own_K xs i = -1
    · refine W.icmpY C m9_34 (show (own_K xs i).toInt = (-1 : Int) from by rw [hf]; rfl) ?_
      refine W.iinc C m9_74 rfl (z := ((Int32.ofNat (2 * i)) + (2 : Int32))) rfl (L' := [.val (.ref a), .val (.ref g), .val (.int (28 : Int32)), .val (.int ((Int32.ofNat (2 * i)) + (2 : Int32))), s4]) rfl ?_
      refine W.goto C m9_77 ?_
      refine own_tr (L' := [.val (.ref a), .val (.ref g), .val (.int (28 : Int32)), .val (.int (Int32.ofNat (2 * (i + 1)))), s4]) (by rw [own_in2 (2 * i) (by omega)]; rfl) ?_
      exact ih (i + 1) h1 ys s4 (by omega) os4 E0 F0 F1 F2 A0 A1 z0 (by show own_I ys 16 (own_h 28) (own_occ xs i + (if own_K xs i = -1 then 0 else 1)); rw [if_pos hf]; exact Iy) (fun q hq v => (hY q hq v).trans (own_sk hf hq))
    · refine W.icmpN C m9_34 (show ¬ (own_K xs i).toInt = (-1 : Int) from fun q => hf (Int32.toInt_inj.mp q)) ?_
      obtain ⟨d, hd, F⟩ := own_find Iy (by decide) (by have := own_occ_le xs i; omega) (own_K xs i)
      refine W.aloadN C m9_37 rfl rfl ?_
      refine W.iloadN C m9_38 rfl ?_
      refine W.aloadN C m9_39 rfl rfl ?_
      refine W.getfield C m9_40 (host := "") (Or.inl (hw _ (List.mem_of_getElem? (i := 22) rfl))) Via.refl F0 ?_
      refine W.iloadN C m9_43 rfl ?_
      refine W.iaload C m9_44 A0 (i := 2 * i) (ofNat_toInt (by omega)) (own_get (by have := Iv.1; omega)) ?_
      refine W.callS (y := mY7) (wt := 0) C m9_45 (hw _ (List.mem_of_getElem? (i := 33) rfl)) (hw _ (List.mem_of_getElem? (i := 34) rfl)) (hw _ (List.mem_of_getElem? (i := 7) rfl)) (hw _ (List.mem_of_getElem? (i := 35) rfl)) (by decide) pd7 rfl (own_find16 Z a0 hw g (own_K xs i) ys d h1 n0 A1 Iy.1 F) (as' := [(.ref g), (.int (28 : Int32)), (.int (own_K xs i))]) (rest := []) rfl rfl (Nat.le_of_eq rfl) hfr (Nat.le_trans (by decide) hlo) hcs hsl ?_
      intro r3 h1 q2
      obtain ⟨rfl, _, rfl, rfl⟩ := q2
      show W κ n0 Qx h1 cs sl 48 [.val (.ref a), .val (.ref g), .val (.int (28 : Int32)), .val (.int (Int32.ofNat (2 * i))), s4] [(.int (Int32.ofNat (2 * ((own_h 28 (own_K xs i) + d) % 16))))]
      refine W.istore C m9_48 (L' := [.val (.ref a), .val (.ref g), .val (.int (28 : Int32)), .val (.int (Int32.ofNat (2 * i))), .val (.int (Int32.ofNat (2 * ((own_h 28 (own_K xs i) + d) % 16))))]) (st1 rfl os4 rfl) ?_
      refine W.aloadN C m9_50 rfl rfl ?_
      refine W.iload C m9_51 rfl ?_
      refine W.aloadN C m9_53 rfl rfl ?_
      refine W.getfield C m9_54 (host := "") (Or.inl (hw _ (List.mem_of_getElem? (i := 22) rfl))) Via.refl F0 ?_
      refine W.iloadN C m9_57 rfl ?_
      refine W.iaload C m9_58 A0 (i := 2 * i) (ofNat_toInt (by omega)) (own_get (by have := Iv.1; omega)) ?_
      refine W.iastore C m9_59 A1 (i := 2 * ((own_h 28 (own_K xs i) + d) % 16)) (ofNat_toInt (by omega)) (by rw [List.length_map, Iy.1]; omega) g2 ?_
      intro h4 W5 A6
      have E7 := E0.wr W5
      have F8 := F0.other W5 (Or.inl hag)
      have F9 := F1.other W5 (Or.inl hag)
      have F10 := F2.other W5 (Or.inl hag)
      have A11 := A0.other W5 heg
      have z12 : n0 ≤ h4.size := Nat.le_trans z0 (Nat.le_of_eq (Wr.size W5).symm)
      have A13 := own_set A6
      refine W.aloadN C m9_60 rfl rfl ?_
      refine W.iload C m9_61 rfl ?_
      refine W.iconst C m9_63 (z := (1 : Int32)) rfl ?_
      refine W.iadd C m9_64 rfl ?_
      refine W.aloadN C m9_65 rfl rfl ?_
      refine W.getfield C m9_66 (host := "") (Or.inl (hw _ (List.mem_of_getElem? (i := 22) rfl))) Via.refl F8 ?_
      refine W.iloadN C m9_69 rfl ?_
      refine W.iconst C m9_70 (z := (1 : Int32)) rfl ?_
      refine W.iadd C m9_71 rfl ?_
      refine W.iaload C m9_72 A11 (i := 2 * i + 1) (by rw [own_in1 _ (by omega)]; exact ofNat_toInt (by omega)) (own_get (by have := Iv.1; omega)) ?_
      refine W.iastore C m9_73 A13 (i := 2 * ((own_h 28 (own_K xs i) + d) % 16) + 1) (by rw [own_in1 _ (by omega)]; exact ofNat_toInt (by omega)) (by simp only [List.length_map, List.length_set, Iy.1]; omega) g2 ?_
      intro h14 W15 A16
      have E17 := E7.wr W15
      have F18 := F8.other W15 (Or.inl hag)
      have F19 := F9.other W15 (Or.inl hag)
      have F20 := F10.other W15 (Or.inl hag)
      have A21 := A11.other W15 heg
      have z22 : n0 ≤ h14.size := Nat.le_trans z12 (Nat.le_of_eq (Wr.size W15).symm)
      have A23 := own_set A16
      refine W.iinc C m9_74 rfl (z := ((Int32.ofNat (2 * i)) + (2 : Int32))) rfl (L' := [.val (.ref a), .val (.ref g), .val (.int (28 : Int32)), .val (.int ((Int32.ofNat (2 * i)) + (2 : Int32))), .val (.int (Int32.ofNat (2 * ((own_h 28 (own_K xs i) + d) % 16))))]) rfl ?_
      refine W.goto C m9_77 ?_
      refine own_tr (L' := [.val (.ref a), .val (.ref g), .val (.int (28 : Int32)), .val (.int (Int32.ofNat (2 * (i + 1)))), .val (.int (Int32.ofNat (2 * ((own_h 28 (own_K xs i) + d) % 16))))]) (by rw [own_in2 (2 * i) (by omega)]; rfl) ?_
      have B := own_put Iy (by decide) (own_V xs i) hf hd F rfl rfl
      exact ih (i + 1) h14 _ _ (by omega) (One.val rfl) E17 F18 F19 F20 A21 A23 z22 (by show own_I _ 16 (own_h 28) (own_occ xs i + (if own_K xs i = -1 then 0 else 1)); rw [if_neg hf]; exact B.1) (fun q hq v => (B.2.2 q hq v).trans (own_ad Iv hf hY hq (by omega)))
theorem m9_0 : Ins1 prog_15_method_5_code 0 (.aload_n 0) 1 1 := ⟨by decide +kernel, rfl⟩
theorem m9_1 : Ins1 prog_15_method_5_code 1 (.getfield 13) 3 4 := ⟨by decide +kernel, rfl⟩
theorem m9_4 : Ins1 prog_15_method_5_code 4 (.arraylength) 1 5 := ⟨by decide +kernel, rfl⟩
theorem m9_5 : Ins1 prog_15_method_5_code 5 (.invokestatic 7) 3 8 := ⟨by decide +kernel, rfl⟩
theorem m9_8 : Ins1 prog_15_method_5_code 8 (.astore_n 1) 1 9 := ⟨by decide +kernel, rfl⟩
theorem m9_9 : Ins1 prog_15_method_5_code 9 (.aload_n 0) 1 10 := ⟨by decide +kernel, rfl⟩
theorem m9_10 : Ins1 prog_15_method_5_code 10 (.getfield 17) 3 13 := ⟨by decide +kernel, rfl⟩
theorem m9_13 : Ins1 prog_15_method_5_code 13 (.iconst 1) 1 14 := ⟨by decide +kernel, rfl⟩
theorem m9_14 : Ins1 prog_15_method_5_code 14 (.isub) 1 15 := ⟨by decide +kernel, rfl⟩
theorem m9_15 : Ins1 prog_15_method_5_code 15 (.istore_n 2) 1 16 := ⟨by decide +kernel, rfl⟩
theorem m9_16 : Ins1 prog_15_method_5_code 16 (.iconst 0) 1 17 := ⟨by decide +kernel, rfl⟩
theorem m9_17 : Ins1 prog_15_method_5_code 17 (.istore_n 3) 1 18 := ⟨by decide +kernel, rfl⟩
set_option maxRecDepth 65536 in
set_option maxHeartbeats 4000000 in
theorem own_grow (Z : State) (a0 : Array Value) (hw : ∀ d ∈ tables_1, d.before a0 Z = true) (a : Addr) (n : Nat) (f : Int32 → Int32 → Prop) (h : Heap) (n0 : Nat) (P : own_Mp Z h a n0 8 29 n f) :
    Con Z mY9 prog_15_method_5_code 5 none ({ frames := 2, cells := 1, slots := 32, locals := 40 } : Room) [(.ref a)] h n0 (fun v h' => v = none ∧ own_Mp Z h' a n0 16 28 n f) := by
  refine Con.of pl9 (L := [.val (.ref a), .unset, .unset, .unset, .unset]) (fun m => by first | (simp [entryFrame, mkF, argsToLocals, Value.category]; done) | rfl) ?_
  intro κ Qx hQ C
  obtain ⟨e, xs, kk, k0, ⟨E0, F0, F1, F2⟩, A0, hae, g1, g0, z0, hk, hkn, Iv, hR⟩ := P
  refine W.aloadN C m9_0 rfl rfl ?_
  refine W.getfield C m9_1 (host := "") (Or.inl (hw _ (List.mem_of_getElem? (i := 22) rfl))) Via.refl F0 ?_
  refine W.arraylength C m9_4 A0 (z := (16 : Int32)) (by rw [List.length_map, Iv.1]; rfl) ?_
  refine W.callS (y := mY4) (wt := 0) C m9_5 (hw _ (List.mem_of_getElem? (i := 14) rfl)) (hw _ (List.mem_of_getElem? (i := 15) rfl)) (hw _ (List.mem_of_getElem? (i := 7) rfl)) (hw _ (List.mem_of_getElem? (i := 16) rfl)) (by decide) pd4 rfl (own_ns Z a0 hw (16 : Int32) 16 h n0 z0 rfl (by decide)) (as' := [(.int (16 : Int32))]) (rest := []) rfl rfl (Nat.le_of_eq rfl) (by decide) (by decide) (by decide) (by decide) ?_
  intro r7 h5 q6
  obtain ⟨e1, rfl, g2, K3, A4⟩ := q6
  have E8 := E0.keep K3
  have F9 := F0.keep K3 nin0
  have F10 := F1.keep K3 nin0
  have F11 := F2.keep K3 nin0
  have A12 := A0.keep K3 nin0
  have z13 : n0 ≤ h5.size := Nat.le_trans z0 K3.1
  have ne14 : a ≠ e1 := Nat.ne_of_lt (Nat.lt_of_lt_of_le E0.lt g2)
  have ne15 : e ≠ e1 := Nat.ne_of_lt (Nat.lt_of_lt_of_le A0.lt g2)
  have g16 : n0 ≤ e1 := Nat.le_trans z0 g2
  show W κ n0 Qx h5 1 32 8 [.val (.ref a), .unset, .unset, .unset, .unset] [(.ref e1)]
  refine W.astoreN C m9_8 (L' := [.val (.ref a), .val (.ref e1), .unset, .unset, .unset]) rfl rfl ?_
  refine W.aloadN C m9_9 rfl rfl ?_
  refine W.getfield C m9_10 (host := "") (Or.inl (hw _ (List.mem_of_getElem? (i := 24) rfl))) Via.refl F10 ?_
  refine W.iconst C m9_13 (z := (1 : Int32)) rfl ?_
  refine W.isub C m9_14 (z := (28 : Int32)) rfl ?_
  refine W.istoreN C m9_15 (L' := [.val (.ref a), .val (.ref e1), .val (.int (28 : Int32)), .unset, .unset]) rfl ?_
  refine W.iconst C m9_16 (z := (0 : Int32)) rfl ?_
  refine W.istoreN C m9_17 (L' := [.val (.ref a), .val (.ref e1), .val (.int (28 : Int32)), .val (.int (0 : Int32)), .unset]) rfl ?_
  exact own_gl hw C (by decide) (by decide) (by decide) (by decide) hae ne14 ne15 g0 g1 g16 hk hkn Iv hR (fun h' q => hQ _ _ ⟨rfl, q⟩) 8 0 h5 _ .unset rfl One.u E8 F9 F10 F11 A12 A4 z13 ((own_new (M := 16) _).1) (fun q hq v => ⟨fun H => absurd H ((own_new (M := 16) (own_h 28)).2 q v hq), fun ⟨t, ht, _⟩ => by omega⟩)
theorem own_mpE {Z : State} {h : Heap} {a : Addr} {n0 M n : Nat} {sh : Int32} {f : Int32 → Int32 → Prop} (p : own_Mp Z h a n0 M sh n f) : Exa Z h a "com/example/principal/principal/engine/IdMap" := by obtain ⟨_, _, _, _, ⟨E, _⟩, _⟩ := p; exact E
theorem own_mp0 {Z : State} {h : Heap} {a : Addr} {n0 M n : Nat} {sh : Int32} {f : Int32 → Int32 → Prop} {P : Prop} (_ : P) (p : own_Mp Z h a n0 M sh n f) : own_Mp Z h a n0 M sh n f := p
theorem m6_0 : Ins1 prog_15_method_3_code 0 (.iconst 4) 1 1 := ⟨by decide +kernel, rfl⟩
theorem m6_1 : Ins1 prog_15_method_3_code 1 (.aload_n 0) 1 2 := ⟨by decide +kernel, rfl⟩
theorem m6_2 : Ins1 prog_15_method_3_code 2 (.getfield 25) 3 5 := ⟨by decide +kernel, rfl⟩
theorem m6_5 : Ins1 prog_15_method_3_code 5 (.iconst 1) 1 6 := ⟨by decide +kernel, rfl⟩
theorem m6_6 : Ins1 prog_15_method_3_code 6 (.iadd) 1 7 := ⟨by decide +kernel, rfl⟩
theorem m6_7 : Ins1 prog_15_method_3_code 7 (.imul) 1 8 := ⟨by decide +kernel, rfl⟩
theorem m6_8 : Ins1 prog_15_method_3_code 8 (.aload_n 0) 1 9 := ⟨by decide +kernel, rfl⟩
theorem m6_9 : Ins1 prog_15_method_3_code 9 (.getfield 13) 3 12 := ⟨by decide +kernel, rfl⟩
theorem m6_12 : Ins1 prog_15_method_3_code 12 (.arraylength) 1 13 := ⟨by decide +kernel, rfl⟩
theorem m6_13 : Jmp1 prog_15_method_3_code 13 (.if_icmp .le 7) 7 16 20 := ⟨by decide +kernel, rfl, by decide, by decide⟩
set_option maxRecDepth 65536 in
set_option maxHeartbeats 4000000 in
theorem own_put8 (Z : State) (a0 : Array Value) (hw : ∀ d ∈ tables_1, d.before a0 Z = true) (a : Addr) (k : Int32) (v1 : Int32) (n : Nat) (f : Int32 → Int32 → Prop) (h : Heap) (n0 : Nat) (hk0 : 0 ≤ k.toInt) (hn : n ≤ 3) (P : own_Mp Z h a n0 8 29 n f) :
    Con Z mY6 prog_15_method_3_code 4 none ({ frames := 1, cells := 0, slots := 0, locals := 40 } : Room) [(.ref a), (.int k), (.int v1)] h n0 (fun v h' => v = none ∧ own_Mp Z h' a n0 8 29 (n + 1) (own_up f k v1)) := by
  refine Con.of pl6 (L := [.val (.ref a), .val (.int k), .val (.int v1), .unset]) (fun m => by first | (simp [entryFrame, mkF, argsToLocals, Value.category]; done) | rfl) ?_
  intro κ Qx hQ C
  have P0 := P
  obtain ⟨e, xs, kk, k0, ⟨E0, F0, F1, F2⟩, A0, hae, g1, g0, z0, hk, hkn, Iv, hR⟩ := P
  have e4 : ((4 : Int32) * (kk + (1 : Int32))).toInt = ((4 * (k0 + 1) : Nat) : Int) := by
    have e1 := c_iadd kk (1 : Int32)
    have e2 := rng32 (kk + (1 : Int32))
    have e3 : (1 : Int32).toInt = 1 := rfl
    have e5 := c_imul (4 : Int32) (kk + (1 : Int32))
    have e6 := rng32 ((4 : Int32) * (kk + (1 : Int32)))
    have e7 : (4 : Int32).toInt = 4 := rfl
    have e8 : (kk + (1 : Int32)).toInt = k0 + 1 := by omega
    rw [e7, e8] at e5
    omega
  refine W.iconst C m6_0 (z := (4 : Int32)) rfl ?_
  refine W.aloadN C m6_1 rfl rfl ?_
  refine W.getfield C m6_2 (host := "") (Or.inl (hw _ (List.mem_of_getElem? (i := 31) rfl))) Via.refl F2 ?_
  refine W.iconst C m6_5 (z := (1 : Int32)) rfl ?_
  refine W.iadd C m6_6 rfl ?_
  refine W.imul C m6_7 rfl ?_
  refine W.aloadN C m6_8 rfl rfl ?_
  refine W.getfield C m6_9 (host := "") (Or.inl (hw _ (List.mem_of_getElem? (i := 22) rfl))) Via.refl F0 ?_
  refine W.arraylength C m6_12 A0 (z := (16 : Int32)) (by rw [List.length_map, Iv.1]; rfl) ?_
  refine W.icmpY C m6_13 (show (((4 : Int32) * (kk + (1 : Int32)))).toInt ≤ (16 : Int) from (by rw [e4]; omega)) ?_
  exact own_pr8 hw C (by decide) (by decide) (by decide) (by decide) hk0 (by omega) P0 (fun h' q => hQ _ _ ⟨rfl, q⟩)
theorem m6_16 : Ins1 prog_15_method_3_code 16 (.aload_n 0) 1 17 := ⟨by decide +kernel, rfl⟩
theorem m6_17 : Ins1 prog_15_method_3_code 17 (.invokevirtual 28) 3 20 := ⟨by decide +kernel, rfl⟩
set_option maxRecDepth 65536 in
set_option maxHeartbeats 4000000 in
theorem own_put8g (Z : State) (a0 : Array Value) (hw : ∀ d ∈ tables_1, d.before a0 Z = true) (a : Addr) (k : Int32) (v1 : Int32) (n : Nat) (f : Int32 → Int32 → Prop) (h : Heap) (n0 : Nat) (hk0 : 0 ≤ k.toInt) (hn : n ≤ 4) (P : own_Mp Z h a n0 8 29 n f) :
    Con Z mY6 prog_15_method_3_code 4 none ({ frames := 3, cells := 1, slots := 32, locals := 56 } : Room) [(.ref a), (.int k), (.int v1)] h n0 (fun v h' => v = none ∧ (own_Mp Z h' a n0 8 29 (n + 1) (own_up f k v1) ∨ own_Mp Z h' a n0 16 28 (n + 1) (own_up f k v1))) := by
  refine Con.of pl6 (L := [.val (.ref a), .val (.int k), .val (.int v1), .unset]) (fun m => by first | (simp [entryFrame, mkF, argsToLocals, Value.category]; done) | rfl) ?_
  intro κ Qx hQ C
  have P0 := P
  obtain ⟨e, xs, kk, k0, ⟨E0, F0, F1, F2⟩, A0, hae, g1, g0, z0, hk, hkn, Iv, hR⟩ := P
  have e4 : ((4 : Int32) * (kk + (1 : Int32))).toInt = ((4 * (k0 + 1) : Nat) : Int) := by
    have e1 := c_iadd kk (1 : Int32)
    have e2 := rng32 (kk + (1 : Int32))
    have e3 : (1 : Int32).toInt = 1 := rfl
    have e5 := c_imul (4 : Int32) (kk + (1 : Int32))
    have e6 := rng32 ((4 : Int32) * (kk + (1 : Int32)))
    have e7 : (4 : Int32).toInt = 4 := rfl
    have e8 : (kk + (1 : Int32)).toInt = k0 + 1 := by omega
    rw [e7, e8] at e5
    omega
  refine W.iconst C m6_0 (z := (4 : Int32)) rfl ?_
  refine W.aloadN C m6_1 rfl rfl ?_
  refine W.getfield C m6_2 (host := "") (Or.inl (hw _ (List.mem_of_getElem? (i := 31) rfl))) Via.refl F2 ?_
  refine W.iconst C m6_5 (z := (1 : Int32)) rfl ?_
  refine W.iadd C m6_6 rfl ?_
  refine W.imul C m6_7 rfl ?_
  refine W.aloadN C m6_8 rfl rfl ?_
  refine W.getfield C m6_9 (host := "") (Or.inl (hw _ (List.mem_of_getElem? (i := 22) rfl))) Via.refl F0 ?_
  refine W.arraylength C m6_12 A0 (z := (16 : Int32)) (by rw [List.length_map, Iv.1]; rfl) ?_
  refine W.icmp C m6_13 ?_ ?_
  · intro (h13 : (((4 : Int32) * (kk + (1 : Int32)))).toInt ≤ (16 : Int))
    exact own_pr8 hw C (by decide) (by decide) (by decide) (by decide) hk0 (by omega) P0 (fun h' q => hQ _ _ ⟨rfl, Or.inl q⟩)
  · intro (h13 : ¬ ((((4 : Int32) * (kk + (1 : Int32)))).toInt ≤ (16 : Int)))
    replace h13 : (16 : Int) < (((4 : Int32) * (kk + (1 : Int32)))).toInt := by omega
    refine W.aloadN C m6_16 rfl rfl ?_
    refine W.callP (y := mY9) (wt := 0) C m6_17 (hw _ (List.mem_of_getElem? (i := 42) rfl)) (hw _ (List.mem_of_getElem? (i := 43) rfl)) (hw _ (List.mem_of_getElem? (i := 6) rfl)) (hw _ (List.mem_of_getElem? (i := 44) rfl)) (hw _ (List.mem_of_getElem? (i := 7) rfl)) (hw _ (List.mem_of_getElem? (i := 45) rfl)) (by decide) E0 pd9 rfl (own_grow Z a0 hw a n f h n0 (own_mp0 hk P0)) (as' := []) (rest := []) rfl rfl (Nat.le_of_eq rfl) (by decide) (by decide) (by decide) (by decide) ?_
    intro r4 h2 q3
    obtain ⟨rfl, P1⟩ := q3
    show W κ n0 Qx h2 1 32 20 [.val (.ref a), .val (.int k), .val (.int v1), .unset] []
    exact own_pr16 hw C (by decide) (by decide) (by decide) (by decide) hk0 (by omega) P1 (fun h' q => hQ _ _ ⟨rfl, Or.inr q⟩)
theorem own_msk (x : Int32) : 0 ≤ (x &&& (2147483647 : Int32)).toInt := by
  have e := c_mask x (2147483647 : Int32) 31 (by decide) (by decide)
  omega
def own_E (f : Int32 → Int32 → Prop) (q w : Int32) : Prop := (∀ v, f q v → w = v) ∧ ((∀ v, ¬ f q v) → w = -1)
theorem own_E0 (q : Int32) : own_E (fun _ _ => False) q (-1) := ⟨fun _ h => h.elim, fun _ => rfl⟩
theorem own_Ene {f : Int32 → Int32 → Prop} {q w k v : Int32} (h : own_E f q w) (hq : ¬ q.toInt = k.toInt) : own_E (own_up f k v) q w := by
  have hk : q ≠ k := fun e => hq (by rw [e])
  exact ⟨fun u hu => hu.elim (fun z => absurd z.1 hk) (fun z => h.1 u z.2), fun hn => h.2 fun u hu => hn u (Or.inr ⟨hk, hu⟩)⟩
theorem own_Eeq {f : Int32 → Int32 → Prop} {q k v : Int32} (hq : ¬ ¬ q.toInt = k.toInt) : own_E (own_up f k v) q v := by
  have hk : q = k := Int32.toInt_inj.mp (Decidable.not_not.mp hq)
  exact ⟨fun u hu => hu.elim (fun z => z.2.symm) (fun z => absurd hk z.1), fun hn => absurd (Or.inl ⟨hk, rfl⟩) (hn v)⟩
def own_Pos (f : Int32 → Int32 → Prop) : Prop := ∀ q v, f q v → q ≠ -1
theorem own_Pos0 : own_Pos (fun _ _ => False) := fun _ _ h => h.elim
theorem own_Posu {f : Int32 → Int32 → Prop} {k v : Int32} (h : own_Pos f) (hk : 0 ≤ k.toInt) : own_Pos (own_up f k v) := fun q u hu => hu.elim (fun z => z.1 ▸ own_m1 hk) (fun z => h q u z.2)
theorem own_fin {f : Int32 → Int32 → Prop} {q w r : Int32} (hE : own_E f q w) (hp : own_Pos f) (hr : (∀ v, q ≠ -1 → f q v → r = v) ∧ ((∀ v, ¬ f q v) → r = -1)) : r = w := by
  by_cases h : ∃ v, f q v
  · obtain ⟨v, hv⟩ := h
    rw [hr.1 v (hp q v hv) hv, hE.1 v hv]
  · have hn : ∀ v, ¬ f q v := fun v hv => h ⟨v, hv⟩
    rw [hr.2 hn, hE.2 hn]
abbrev mY0 : MethodName := x
theorem m0_0 : Ins1 code 0 (.ldc 7) 2 2 := ⟨at_0, rfl⟩
theorem m0_2 : Ins1 code 2 (.istore 6) 2 4 := ⟨at_2, rfl⟩
theorem m0_4 : Ins1 code 4 (.iload_n 0) 1 5 := ⟨at_4, rfl⟩
theorem m0_5 : Ins1 code 5 (.iload 6) 2 7 := ⟨at_5, rfl⟩
theorem m0_7 : Ins1 code 7 (.iand) 1 8 := ⟨at_7, rfl⟩
theorem m0_8 : Ins1 code 8 (.istore 7) 2 10 := ⟨at_8, rfl⟩
theorem m0_10 : Ins1 code 10 (.iload_n 1) 1 11 := ⟨at_10, rfl⟩
theorem m0_11 : Ins1 code 11 (.iload 6) 2 13 := ⟨at_11, rfl⟩
theorem m0_13 : Ins1 code 13 (.iand) 1 14 := ⟨at_13, rfl⟩
theorem m0_14 : Ins1 code 14 (.istore 8) 2 16 := ⟨at_14, rfl⟩
theorem m0_16 : Ins1 code 16 (.iload_n 2) 1 17 := ⟨at_16, rfl⟩
theorem m0_17 : Ins1 code 17 (.iload 6) 2 19 := ⟨at_17, rfl⟩
theorem m0_19 : Ins1 code 19 (.iand) 1 20 := ⟨at_19, rfl⟩
theorem m0_20 : Ins1 code 20 (.istore 9) 2 22 := ⟨at_20, rfl⟩
theorem m0_22 : Ins1 code 22 (.iload 5) 2 24 := ⟨at_22, rfl⟩
theorem m0_24 : Ins1 code 24 (.iconst 3) 1 25 := ⟨at_24, rfl⟩
theorem m0_25 : Ins1 code 25 (.iushr) 1 26 := ⟨at_25, rfl⟩
theorem m0_26 : Ins1 code 26 (.iconst 1) 1 27 := ⟨at_26, rfl⟩
theorem m0_27 : Ins1 code 27 (.iand) 1 28 := ⟨at_27, rfl⟩
theorem m0_28 : Jmp1 code 28 (.ifCond .eq 8) 8 31 36 := ⟨at_28, rfl, by decide, by decide⟩
theorem m0_31 : Ins1 code 31 (.iload 8) 2 33 := ⟨at_31, rfl⟩
theorem m0_33 : Jmp1 code 33 (.goto 9) 9 36 42 := ⟨at_33, rfl, by decide, by decide⟩
theorem m0_36 : Ins1 code 36 (.iload_n 0) 1 37 := ⟨at_36, rfl⟩
theorem m0_37 : Ins1 code 37 (.iload_n 2) 1 38 := ⟨at_37, rfl⟩
theorem m0_38 : Ins1 code 38 (.iadd) 1 39 := ⟨at_38, rfl⟩
theorem m0_39 : Ins1 code 39 (.iload 6) 2 41 := ⟨at_39, rfl⟩
theorem m0_41 : Ins1 code 41 (.iand) 1 42 := ⟨at_41, rfl⟩
theorem m0_42 : Ins1 code 42 (.istore 10) 2 44 := ⟨at_42, rfl⟩
theorem m0_44 : Ins1 code 44 (.iload 5) 2 46 := ⟨at_44, rfl⟩
theorem m0_46 : Ins1 code 46 (.iconst 4) 1 47 := ⟨at_46, rfl⟩
theorem m0_47 : Ins1 code 47 (.iushr) 1 48 := ⟨at_47, rfl⟩
theorem m0_48 : Ins1 code 48 (.iconst 1) 1 49 := ⟨at_48, rfl⟩
theorem m0_49 : Ins1 code 49 (.iand) 1 50 := ⟨at_49, rfl⟩
theorem m0_50 : Jmp1 code 50 (.ifCond .eq 8) 8 53 58 := ⟨at_50, rfl, by decide, by decide⟩
theorem m0_53 : Ins1 code 53 (.iload 7) 2 55 := ⟨at_53, rfl⟩
theorem m0_55 : Jmp1 code 55 (.goto 9) 9 58 64 := ⟨at_55, rfl, by decide, by decide⟩
theorem m0_58 : Ins1 code 58 (.iload_n 1) 1 59 := ⟨at_58, rfl⟩
theorem m0_59 : Ins1 code 59 (.iload_n 2) 1 60 := ⟨at_59, rfl⟩
theorem m0_60 : Ins1 code 60 (.iadd) 1 61 := ⟨at_60, rfl⟩
theorem m0_61 : Ins1 code 61 (.iload 6) 2 63 := ⟨at_61, rfl⟩
theorem m0_63 : Ins1 code 63 (.iand) 1 64 := ⟨at_63, rfl⟩
theorem m0_64 : Ins1 code 64 (.istore 11) 2 66 := ⟨at_64, rfl⟩
theorem m0_66 : Ins1 code 66 (.iload 5) 2 68 := ⟨at_66, rfl⟩
theorem m0_68 : Ins1 code 68 (.bipush 7) 2 70 := ⟨at_68, rfl⟩
theorem m0_70 : Ins1 code 70 (.iand) 1 71 := ⟨at_70, rfl⟩
theorem m0_71 : Ins1 code 71 (.iconst 5) 1 72 := ⟨at_71, rfl⟩
theorem m0_72 : Ins1 code 72 (.invokestatic 8) 3 75 := ⟨at_72, rfl⟩
theorem m0_75 : Ins1 code 75 (.istore 12) 2 77 := ⟨at_75, rfl⟩
theorem m0_77 : Ins1 code 77 (.iload 5) 2 79 := ⟨at_77, rfl⟩
theorem m0_79 : Ins1 code 79 (.iconst 5) 1 80 := ⟨at_79, rfl⟩
theorem m0_80 : Ins1 code 80 (.iushr) 1 81 := ⟨at_80, rfl⟩
theorem m0_81 : Ins1 code 81 (.bipush 7) 2 83 := ⟨at_81, rfl⟩
theorem m0_83 : Ins1 code 83 (.iand) 1 84 := ⟨at_83, rfl⟩
theorem m0_84 : Ins1 code 84 (.istore 13) 2 86 := ⟨at_84, rfl⟩
theorem m0_86 : Ins1 code 86 (.iload 13) 2 88 := ⟨at_86, rfl⟩
theorem m0_88 : Jmp1 code 88 (.ifCond .ne 10) 10 91 98 := ⟨at_88, rfl, by decide, by decide⟩
theorem m0_91 : Ins1 code 91 (.iload 7) 2 93 := ⟨at_91, rfl⟩
theorem m0_93 : Ins1 code 93 (.istore 14) 2 95 := ⟨at_93, rfl⟩
theorem m0_95 : Jmp1 code 95 (.goto 59) 59 98 154 := ⟨at_95, rfl, by decide, by decide⟩
theorem m0_98 : Ins1 code 98 (.iload 13) 2 100 := ⟨at_98, rfl⟩
theorem m0_100 : Ins1 code 100 (.iconst 1) 1 101 := ⟨at_100, rfl⟩
theorem m0_101 : Jmp1 code 101 (.if_icmp .ne 10) 10 104 111 := ⟨at_101, rfl, by decide, by decide⟩
theorem m0_104 : Ins1 code 104 (.iload 8) 2 106 := ⟨at_104, rfl⟩
theorem m0_106 : Ins1 code 106 (.istore 14) 2 108 := ⟨at_106, rfl⟩
theorem m0_108 : Jmp1 code 108 (.goto 46) 46 111 154 := ⟨at_108, rfl, by decide, by decide⟩
theorem m0_111 : Ins1 code 111 (.iload 13) 2 113 := ⟨at_111, rfl⟩
theorem m0_113 : Ins1 code 113 (.iconst 2) 1 114 := ⟨at_113, rfl⟩
theorem m0_114 : Jmp1 code 114 (.if_icmp .ne 10) 10 117 124 := ⟨at_114, rfl, by decide, by decide⟩
theorem m0_117 : Ins1 code 117 (.iload 9) 2 119 := ⟨at_117, rfl⟩
theorem m0_119 : Ins1 code 119 (.istore 14) 2 121 := ⟨at_119, rfl⟩
theorem m0_121 : Jmp1 code 121 (.goto 33) 33 124 154 := ⟨at_121, rfl, by decide, by decide⟩
theorem m0_124 : Ins1 code 124 (.iload 13) 2 126 := ⟨at_124, rfl⟩
theorem m0_126 : Ins1 code 126 (.iconst 3) 1 127 := ⟨at_126, rfl⟩
theorem m0_127 : Jmp1 code 127 (.if_icmp .ne 10) 10 130 137 := ⟨at_127, rfl, by decide, by decide⟩
theorem m0_130 : Ins1 code 130 (.iload 10) 2 132 := ⟨at_130, rfl⟩
theorem m0_132 : Ins1 code 132 (.istore 14) 2 134 := ⟨at_132, rfl⟩
theorem m0_134 : Jmp1 code 134 (.goto 20) 20 137 154 := ⟨at_134, rfl, by decide, by decide⟩
theorem m0_137 : Ins1 code 137 (.iload 13) 2 139 := ⟨at_137, rfl⟩
theorem m0_139 : Ins1 code 139 (.iconst 4) 1 140 := ⟨at_139, rfl⟩
theorem m0_140 : Jmp1 code 140 (.if_icmp .ne 10) 10 143 150 := ⟨at_140, rfl, by decide, by decide⟩
theorem m0_143 : Ins1 code 143 (.iload 11) 2 145 := ⟨at_143, rfl⟩
theorem m0_145 : Ins1 code 145 (.istore 14) 2 147 := ⟨at_145, rfl⟩
theorem m0_147 : Jmp1 code 147 (.goto 7) 7 150 154 := ⟨at_147, rfl, by decide, by decide⟩
theorem m0_150 : Ins1 code 150 (.iload 4) 2 152 := ⟨at_150, rfl⟩
theorem m0_152 : Ins1 code 152 (.istore 14) 2 154 := ⟨at_152, rfl⟩
theorem m0_154 : Ins1 code 154 (.new 14) 3 157 := ⟨at_154, rfl⟩
theorem m0_157 : Ins1 code 157 (.dup) 1 158 := ⟨at_157, rfl⟩
theorem m0_158 : Ins1 code 158 (.invokespecial 16) 3 161 := ⟨at_158, rfl⟩
theorem m0_161 : Ins1 code 161 (.astore 15) 2 163 := ⟨at_161, rfl⟩
theorem m0_163 : Ins1 code 163 (.iload 12) 2 165 := ⟨at_163, rfl⟩
theorem m0_165 : Jmp1 code 165 (.ifCond .le 11) 11 168 176 := ⟨at_165, rfl, by decide, by decide⟩
theorem m0_168 : Ins1 code 168 (.aload 15) 2 170 := ⟨at_168, rfl⟩
theorem m0_170 : Ins1 code 170 (.iload 7) 2 172 := ⟨at_170, rfl⟩
theorem m0_172 : Ins1 code 172 (.iload_n 3) 1 173 := ⟨at_172, rfl⟩
theorem m0_173 : Ins1 code 173 (.invokevirtual 17) 3 176 := ⟨at_173, rfl⟩
theorem m0_176 : Ins1 code 176 (.iload 12) 2 178 := ⟨at_176, rfl⟩
theorem m0_178 : Ins1 code 178 (.iconst 1) 1 179 := ⟨at_178, rfl⟩
theorem m0_179 : Jmp1 code 179 (.if_icmp .le 13) 13 182 192 := ⟨at_179, rfl, by decide, by decide⟩
theorem m0_182 : Ins1 code 182 (.aload 15) 2 184 := ⟨at_182, rfl⟩
theorem m0_184 : Ins1 code 184 (.iload 8) 2 186 := ⟨at_184, rfl⟩
theorem m0_186 : Ins1 code 186 (.iload_n 3) 1 187 := ⟨at_186, rfl⟩
theorem m0_187 : Ins1 code 187 (.iconst 1) 1 188 := ⟨at_187, rfl⟩
theorem m0_188 : Ins1 code 188 (.iadd) 1 189 := ⟨at_188, rfl⟩
theorem m0_189 : Ins1 code 189 (.invokevirtual 17) 3 192 := ⟨at_189, rfl⟩
theorem m0_192 : Ins1 code 192 (.iload 12) 2 194 := ⟨at_192, rfl⟩
theorem m0_194 : Ins1 code 194 (.iconst 2) 1 195 := ⟨at_194, rfl⟩
theorem m0_195 : Jmp1 code 195 (.if_icmp .le 13) 13 198 208 := ⟨at_195, rfl, by decide, by decide⟩
theorem m0_198 : Ins1 code 198 (.aload 15) 2 200 := ⟨at_198, rfl⟩
theorem m0_200 : Ins1 code 200 (.iload 9) 2 202 := ⟨at_200, rfl⟩
theorem m0_202 : Ins1 code 202 (.iload_n 3) 1 203 := ⟨at_202, rfl⟩
theorem m0_203 : Ins1 code 203 (.iconst 2) 1 204 := ⟨at_203, rfl⟩
theorem m0_204 : Ins1 code 204 (.iadd) 1 205 := ⟨at_204, rfl⟩
theorem m0_205 : Ins1 code 205 (.invokevirtual 17) 3 208 := ⟨at_205, rfl⟩
theorem m0_208 : Ins1 code 208 (.iload 12) 2 210 := ⟨at_208, rfl⟩
theorem m0_210 : Ins1 code 210 (.iconst 3) 1 211 := ⟨at_210, rfl⟩
theorem m0_211 : Jmp1 code 211 (.if_icmp .le 13) 13 214 224 := ⟨at_211, rfl, by decide, by decide⟩
theorem m0_214 : Ins1 code 214 (.aload 15) 2 216 := ⟨at_214, rfl⟩
theorem m0_216 : Ins1 code 216 (.iload 10) 2 218 := ⟨at_216, rfl⟩
theorem m0_218 : Ins1 code 218 (.iload_n 3) 1 219 := ⟨at_218, rfl⟩
theorem m0_219 : Ins1 code 219 (.iconst 3) 1 220 := ⟨at_219, rfl⟩
theorem m0_220 : Ins1 code 220 (.iadd) 1 221 := ⟨at_220, rfl⟩
theorem m0_221 : Ins1 code 221 (.invokevirtual 17) 3 224 := ⟨at_221, rfl⟩
theorem m0_224 : Ins1 code 224 (.iload 12) 2 226 := ⟨at_224, rfl⟩
theorem m0_226 : Ins1 code 226 (.iconst 4) 1 227 := ⟨at_226, rfl⟩
theorem m0_227 : Jmp1 code 227 (.if_icmp .le 13) 13 230 240 := ⟨at_227, rfl, by decide, by decide⟩
theorem m0_230 : Ins1 code 230 (.aload 15) 2 232 := ⟨at_230, rfl⟩
theorem m0_232 : Ins1 code 232 (.iload 11) 2 234 := ⟨at_232, rfl⟩
theorem m0_234 : Ins1 code 234 (.iload_n 3) 1 235 := ⟨at_234, rfl⟩
theorem m0_235 : Ins1 code 235 (.iconst 4) 1 236 := ⟨at_235, rfl⟩
theorem m0_236 : Ins1 code 236 (.iadd) 1 237 := ⟨at_236, rfl⟩
theorem m0_237 : Ins1 code 237 (.invokevirtual 17) 3 240 := ⟨at_237, rfl⟩
theorem m0_240 : Ins1 code 240 (.iconst (-1)) 1 241 := ⟨at_240, rfl⟩
theorem m0_241 : Ins1 code 241 (.istore 16) 2 243 := ⟨at_241, rfl⟩
theorem m0_243 : Ins1 code 243 (.iload 12) 2 245 := ⟨at_243, rfl⟩
theorem m0_245 : Jmp1 code 245 (.ifCond .le 13) 13 248 258 := ⟨at_245, rfl, by decide, by decide⟩
theorem m0_248 : Ins1 code 248 (.iload 14) 2 250 := ⟨at_248, rfl⟩
theorem m0_250 : Ins1 code 250 (.iload 7) 2 252 := ⟨at_250, rfl⟩
theorem m0_252 : Jmp1 code 252 (.if_icmp .ne 6) 6 255 258 := ⟨at_252, rfl, by decide, by decide⟩
theorem m0_255 : Ins1 code 255 (.iload_n 3) 1 256 := ⟨at_255, rfl⟩
theorem m0_256 : Ins1 code 256 (.istore 16) 2 258 := ⟨at_256, rfl⟩
theorem m0_258 : Ins1 code 258 (.iload 12) 2 260 := ⟨at_258, rfl⟩
theorem m0_260 : Ins1 code 260 (.iconst 1) 1 261 := ⟨at_260, rfl⟩
theorem m0_261 : Jmp1 code 261 (.if_icmp .le 15) 15 264 276 := ⟨at_261, rfl, by decide, by decide⟩
theorem m0_264 : Ins1 code 264 (.iload 14) 2 266 := ⟨at_264, rfl⟩
theorem m0_266 : Ins1 code 266 (.iload 8) 2 268 := ⟨at_266, rfl⟩
theorem m0_268 : Jmp1 code 268 (.if_icmp .ne 8) 8 271 276 := ⟨at_268, rfl, by decide, by decide⟩
theorem m0_271 : Ins1 code 271 (.iload_n 3) 1 272 := ⟨at_271, rfl⟩
theorem m0_272 : Ins1 code 272 (.iconst 1) 1 273 := ⟨at_272, rfl⟩
theorem m0_273 : Ins1 code 273 (.iadd) 1 274 := ⟨at_273, rfl⟩
theorem m0_274 : Ins1 code 274 (.istore 16) 2 276 := ⟨at_274, rfl⟩
theorem m0_276 : Ins1 code 276 (.iload 12) 2 278 := ⟨at_276, rfl⟩
theorem m0_278 : Ins1 code 278 (.iconst 2) 1 279 := ⟨at_278, rfl⟩
theorem m0_279 : Jmp1 code 279 (.if_icmp .le 15) 15 282 294 := ⟨at_279, rfl, by decide, by decide⟩
theorem m0_282 : Ins1 code 282 (.iload 14) 2 284 := ⟨at_282, rfl⟩
theorem m0_284 : Ins1 code 284 (.iload 9) 2 286 := ⟨at_284, rfl⟩
theorem m0_286 : Jmp1 code 286 (.if_icmp .ne 8) 8 289 294 := ⟨at_286, rfl, by decide, by decide⟩
theorem m0_289 : Ins1 code 289 (.iload_n 3) 1 290 := ⟨at_289, rfl⟩
theorem m0_290 : Ins1 code 290 (.iconst 2) 1 291 := ⟨at_290, rfl⟩
theorem m0_291 : Ins1 code 291 (.iadd) 1 292 := ⟨at_291, rfl⟩
theorem m0_292 : Ins1 code 292 (.istore 16) 2 294 := ⟨at_292, rfl⟩
theorem m0_294 : Ins1 code 294 (.iload 12) 2 296 := ⟨at_294, rfl⟩
theorem m0_296 : Ins1 code 296 (.iconst 3) 1 297 := ⟨at_296, rfl⟩
theorem m0_297 : Jmp1 code 297 (.if_icmp .le 15) 15 300 312 := ⟨at_297, rfl, by decide, by decide⟩
theorem m0_300 : Ins1 code 300 (.iload 14) 2 302 := ⟨at_300, rfl⟩
theorem m0_302 : Ins1 code 302 (.iload 10) 2 304 := ⟨at_302, rfl⟩
theorem m0_304 : Jmp1 code 304 (.if_icmp .ne 8) 8 307 312 := ⟨at_304, rfl, by decide, by decide⟩
theorem m0_307 : Ins1 code 307 (.iload_n 3) 1 308 := ⟨at_307, rfl⟩
theorem m0_308 : Ins1 code 308 (.iconst 3) 1 309 := ⟨at_308, rfl⟩
theorem m0_309 : Ins1 code 309 (.iadd) 1 310 := ⟨at_309, rfl⟩
theorem m0_310 : Ins1 code 310 (.istore 16) 2 312 := ⟨at_310, rfl⟩
theorem m0_312 : Ins1 code 312 (.iload 12) 2 314 := ⟨at_312, rfl⟩
theorem m0_314 : Ins1 code 314 (.iconst 4) 1 315 := ⟨at_314, rfl⟩
theorem m0_315 : Jmp1 code 315 (.if_icmp .le 15) 15 318 330 := ⟨at_315, rfl, by decide, by decide⟩
theorem m0_318 : Ins1 code 318 (.iload 14) 2 320 := ⟨at_318, rfl⟩
theorem m0_320 : Ins1 code 320 (.iload 11) 2 322 := ⟨at_320, rfl⟩
theorem m0_322 : Jmp1 code 322 (.if_icmp .ne 8) 8 325 330 := ⟨at_322, rfl, by decide, by decide⟩
theorem m0_325 : Ins1 code 325 (.iload_n 3) 1 326 := ⟨at_325, rfl⟩
theorem m0_326 : Ins1 code 326 (.iconst 4) 1 327 := ⟨at_326, rfl⟩
theorem m0_327 : Ins1 code 327 (.iadd) 1 328 := ⟨at_327, rfl⟩
theorem m0_328 : Ins1 code 328 (.istore 16) 2 330 := ⟨at_328, rfl⟩
theorem m0_330 : Ins1 code 330 (.aload 15) 2 332 := ⟨at_330, rfl⟩
theorem m0_332 : Ins1 code 332 (.iload 14) 2 334 := ⟨at_332, rfl⟩
theorem m0_334 : Ins1 code 334 (.invokevirtual 21) 3 337 := ⟨at_334, rfl⟩
theorem m0_337 : Ins1 code 337 (.iload 16) 2 339 := ⟨at_337, rfl⟩
theorem m0_339 : Jmp1 code 339 (.if_icmp .ne 7) 7 342 346 := ⟨at_339, rfl, by decide, by decide⟩
theorem m0_342 : Ins1 code 342 (.iconst 1) 1 343 := ⟨at_342, rfl⟩
theorem m0_343 : Jmp1 code 343 (.goto 4) 4 346 347 := ⟨at_343, rfl, by decide, by decide⟩
theorem m0_346 : Ins1 code 346 (.iconst 0) 1 347 := ⟨at_346, rfl⟩
theorem m0_347 : Ins1 code 347 (.ireturn) 1 348 := ⟨at_347, rfl⟩
theorem pl0 : plainFor mY0 = true := plainFor_of_name (show plainName "com/example/principal/principal/engine/IdMapGetPinLaw" = true by first | (simp [plainName, overriddenIn]; done) | decide +kernel)
theorem pd0 : parseMethodDescriptor "(IIIIII)Z" = some ⟨[.int, .int, .int, .int, .int, .int], some .boolean⟩ := by decide +kernel
set_option maxRecDepth 65536 in
set_option maxHeartbeats 4000000 in
theorem own_law (Z : State) (a0 : Array Value) (hw : ∀ d ∈ tables_1, d.before a0 Z = true) (p0 : Int32) (p1 : Int32) (p2 : Int32) (p3 : Int32) (p4 : Int32) (p5 : Int32)  (h : Heap) (n0 : Nat) (z0 : n0 ≤ h.size) :
    Con Z mY0 code maxLocals ret room_1 [(.int p0), (.int p1), (.int p2), (.int p3), (.int p4), (.int p5)] h n0 (fun v h' => v = some (.int 1)) := by
  refine Con.of pl0 (L := [.val (.int p0), .val (.int p1), .val (.int p2), .val (.int p3), .val (.int p4), .val (.int p5), .unset, .unset, .unset, .unset, .unset, .unset, .unset, .unset, .unset, .unset, .unset]) (fun m => by first | (simp [entryFrame, mkF, argsToLocals, Value.category, maxLocals]; done) | rfl) ?_
  intro κ Qx hQ C
  replace C : Good κ room_1 Z "com/example/principal/principal/engine/IdMapGetPinLaw" "law" code 17 (some .boolean) := C
  refine W.ldc C m0_0 (hw _ (List.mem_of_getElem? (i := 0) rfl)) ?_
  refine W.istore C m0_2 (L' := [.val (.int p0), .val (.int p1), .val (.int p2), .val (.int p3), .val (.int p4), .val (.int p5), .val (.int (2147483647 : Int32)), .unset, .unset, .unset, .unset, .unset, .unset, .unset, .unset, .unset, .unset]) rfl ?_
  refine W.iloadN C m0_4 rfl ?_
  refine W.iload C m0_5 rfl ?_
  refine W.iand C m0_7 rfl ?_
  generalize hv1 : (p0 &&& (2147483647 : Int32)) = v1
  refine W.istore C m0_8 (L' := [.val (.int p0), .val (.int p1), .val (.int p2), .val (.int p3), .val (.int p4), .val (.int p5), .val (.int (2147483647 : Int32)), .val (.int v1), .unset, .unset, .unset, .unset, .unset, .unset, .unset, .unset, .unset]) rfl ?_
  have hpv1 : 0 ≤ v1.toInt := by rw [← hv1]; exact own_msk _
  refine W.iloadN C m0_10 rfl ?_
  refine W.iload C m0_11 rfl ?_
  refine W.iand C m0_13 rfl ?_
  generalize hv2 : (p1 &&& (2147483647 : Int32)) = v2
  refine W.istore C m0_14 (L' := [.val (.int p0), .val (.int p1), .val (.int p2), .val (.int p3), .val (.int p4), .val (.int p5), .val (.int (2147483647 : Int32)), .val (.int v1), .val (.int v2), .unset, .unset, .unset, .unset, .unset, .unset, .unset, .unset]) rfl ?_
  have hpv2 : 0 ≤ v2.toInt := by rw [← hv2]; exact own_msk _
  refine W.iloadN C m0_16 rfl ?_
  refine W.iload C m0_17 rfl ?_
  refine W.iand C m0_19 rfl ?_
  generalize hv3 : (p2 &&& (2147483647 : Int32)) = v3
  refine W.istore C m0_20 (L' := [.val (.int p0), .val (.int p1), .val (.int p2), .val (.int p3), .val (.int p4), .val (.int p5), .val (.int (2147483647 : Int32)), .val (.int v1), .val (.int v2), .val (.int v3), .unset, .unset, .unset, .unset, .unset, .unset, .unset]) rfl ?_
  have hpv3 : 0 ≤ v3.toInt := by rw [← hv3]; exact own_msk _
  refine W.iload C m0_22 rfl ?_
  refine W.iconst C m0_24 (z := (3 : Int32)) rfl ?_
  refine W.iushr C m0_25 rfl ?_
  refine W.iconst C m0_26 (z := (1 : Int32)) rfl ?_
  refine W.iand C m0_27 rfl ?_
  suffices J28 : ∀ (w10 : Int32), (0 ≤ w10.toInt) → W κ n0 Qx h 0 0 42 [.val (.int p0), .val (.int p1), .val (.int p2), .val (.int p3), .val (.int p4), .val (.int p5), .val (.int (2147483647 : Int32)), .val (.int v1), .val (.int v2), .val (.int v3), .unset, .unset, .unset, .unset, .unset, .unset, .unset] [(.int w10)] by
    refine W.ifc C m0_28 ?_ ?_
    · intro (h28 : (((p5.toUInt32 >>> ((3 : Int32) &&& 31).toUInt32).toInt32 &&& (1 : Int32))).toInt = (0 : Int))
      refine W.iloadN C m0_36 rfl ?_
      refine W.iloadN C m0_37 rfl ?_
      refine W.iadd C m0_38 rfl ?_
      refine W.iload C m0_39 rfl ?_
      refine W.iand C m0_41 rfl ?_
      exact J28 _ (by first | exact own_msk _ | assumption)
    · intro (h28 : ¬ ((((p5.toUInt32 >>> ((3 : Int32) &&& 31).toUInt32).toInt32 &&& (1 : Int32))).toInt = (0 : Int)))
      refine W.iload C m0_31 rfl ?_
      refine W.goto C m0_33 ?_
      exact J28 _ (by first | exact own_msk _ | assumption)
  intro w10 hJ28
  refine W.istore C m0_42 (L' := [.val (.int p0), .val (.int p1), .val (.int p2), .val (.int p3), .val (.int p4), .val (.int p5), .val (.int (2147483647 : Int32)), .val (.int v1), .val (.int v2), .val (.int v3), .val (.int w10), .unset, .unset, .unset, .unset, .unset, .unset]) rfl ?_
  have hpw10 := hJ28
  refine W.iload C m0_44 rfl ?_
  refine W.iconst C m0_46 (z := (4 : Int32)) rfl ?_
  refine W.iushr C m0_47 rfl ?_
  refine W.iconst C m0_48 (z := (1 : Int32)) rfl ?_
  refine W.iand C m0_49 rfl ?_
  suffices J50 : ∀ (w11 : Int32), (0 ≤ w11.toInt) → W κ n0 Qx h 0 0 64 [.val (.int p0), .val (.int p1), .val (.int p2), .val (.int p3), .val (.int p4), .val (.int p5), .val (.int (2147483647 : Int32)), .val (.int v1), .val (.int v2), .val (.int v3), .val (.int w10), .unset, .unset, .unset, .unset, .unset, .unset] [(.int w11)] by
    refine W.ifc C m0_50 ?_ ?_
    · intro (h50 : (((p5.toUInt32 >>> ((4 : Int32) &&& 31).toUInt32).toInt32 &&& (1 : Int32))).toInt = (0 : Int))
      refine W.iloadN C m0_58 rfl ?_
      refine W.iloadN C m0_59 rfl ?_
      refine W.iadd C m0_60 rfl ?_
      refine W.iload C m0_61 rfl ?_
      refine W.iand C m0_63 rfl ?_
      exact J50 _ (by first | exact own_msk _ | assumption)
    · intro (h50 : ¬ ((((p5.toUInt32 >>> ((4 : Int32) &&& 31).toUInt32).toInt32 &&& (1 : Int32))).toInt = (0 : Int)))
      refine W.iload C m0_53 rfl ?_
      refine W.goto C m0_55 ?_
      exact J50 _ (by first | exact own_msk _ | assumption)
  intro w11 hJ50
  refine W.istore C m0_64 (L' := [.val (.int p0), .val (.int p1), .val (.int p2), .val (.int p3), .val (.int p4), .val (.int p5), .val (.int (2147483647 : Int32)), .val (.int v1), .val (.int v2), .val (.int v3), .val (.int w10), .val (.int w11), .unset, .unset, .unset, .unset, .unset]) rfl ?_
  have hpw11 := hJ50
  refine W.iload C m0_66 rfl ?_
  refine W.bipush C m0_68 (z := (7 : Int32)) rfl ?_
  refine W.iand C m0_70 rfl ?_
  refine W.iconst C m0_71 (z := (5 : Int32)) rfl ?_
  refine W.callS (y := mY1) (wt := 0) C m0_72 (hw _ (List.mem_of_getElem? (i := 1) rfl)) (hw _ (List.mem_of_getElem? (i := 2) rfl)) (hw _ (List.mem_of_getElem? (i := 3) rfl)) (hw _ (List.mem_of_getElem? (i := 4) rfl)) (by decide) pd1 rfl (own_min Z a0 hw (p5 &&& (7 : Int32)) (5 : Int32) h n0) (as' := [(.int (p5 &&& (7 : Int32))), (.int (5 : Int32))]) (rest := []) rfl rfl (Nat.le_of_eq rfl) (by decide) (by decide) (by decide) (by decide) ?_
  intro r7 h5 q6
  obtain ⟨rfl, z4, rfl, hz4⟩ := q6
  show W κ n0 Qx h 0 0 75 [.val (.int p0), .val (.int p1), .val (.int p2), .val (.int p3), .val (.int p4), .val (.int p5), .val (.int (2147483647 : Int32)), .val (.int v1), .val (.int v2), .val (.int v3), .val (.int w10), .val (.int w11), .unset, .unset, .unset, .unset, .unset] [(.int z4)]
  refine W.istore C m0_75 (L' := [.val (.int p0), .val (.int p1), .val (.int p2), .val (.int p3), .val (.int p4), .val (.int p5), .val (.int (2147483647 : Int32)), .val (.int v1), .val (.int v2), .val (.int v3), .val (.int w10), .val (.int w11), .val (.int z4), .unset, .unset, .unset, .unset]) rfl ?_
  refine W.iload C m0_77 rfl ?_
  refine W.iconst C m0_79 (z := (5 : Int32)) rfl ?_
  refine W.iushr C m0_80 rfl ?_
  refine W.bipush C m0_81 (z := (7 : Int32)) rfl ?_
  refine W.iand C m0_83 rfl ?_
  generalize hv8 : ((p5.toUInt32 >>> ((5 : Int32) &&& 31).toUInt32).toInt32 &&& (7 : Int32)) = v8
  refine W.istore C m0_84 (L' := [.val (.int p0), .val (.int p1), .val (.int p2), .val (.int p3), .val (.int p4), .val (.int p5), .val (.int (2147483647 : Int32)), .val (.int v1), .val (.int v2), .val (.int v3), .val (.int w10), .val (.int w11), .val (.int z4), .val (.int v8), .unset, .unset, .unset]) rfl ?_
  refine W.iload C m0_86 rfl ?_
  suffices J88 : ∀ (w9 : Int32), (True) → W κ n0 Qx h 0 0 154 [.val (.int p0), .val (.int p1), .val (.int p2), .val (.int p3), .val (.int p4), .val (.int p5), .val (.int (2147483647 : Int32)), .val (.int v1), .val (.int v2), .val (.int v3), .val (.int w10), .val (.int w11), .val (.int z4), .val (.int v8), .val (.int w9), .unset, .unset] [] by
    refine W.ifc C m0_88 ?_ ?_
    · intro (h88 : ¬ v8.toInt = (0 : Int))
      refine W.iload C m0_98 rfl ?_
      refine W.iconst C m0_100 (z := (1 : Int32)) rfl ?_
      refine W.icmp C m0_101 ?_ ?_
      · intro (h101 : ¬ v8.toInt = (1 : Int))
        refine W.iload C m0_111 rfl ?_
        refine W.iconst C m0_113 (z := (2 : Int32)) rfl ?_
        refine W.icmp C m0_114 ?_ ?_
        · intro (h114 : ¬ v8.toInt = (2 : Int))
          refine W.iload C m0_124 rfl ?_
          refine W.iconst C m0_126 (z := (3 : Int32)) rfl ?_
          refine W.icmp C m0_127 ?_ ?_
          · intro (h127 : ¬ v8.toInt = (3 : Int))
            refine W.iload C m0_137 rfl ?_
            refine W.iconst C m0_139 (z := (4 : Int32)) rfl ?_
            refine W.icmp C m0_140 ?_ ?_
            · intro (h140 : ¬ v8.toInt = (4 : Int))
              refine W.iload C m0_150 rfl ?_
              refine W.istore C m0_152 (L' := [.val (.int p0), .val (.int p1), .val (.int p2), .val (.int p3), .val (.int p4), .val (.int p5), .val (.int (2147483647 : Int32)), .val (.int v1), .val (.int v2), .val (.int v3), .val (.int w10), .val (.int w11), .val (.int z4), .val (.int v8), .val (.int p4), .unset, .unset]) rfl ?_
              exact J88 _ (by trivial)
            · intro (h140 : ¬ ¬ v8.toInt = (4 : Int))
              replace h140 := Decidable.not_not.mp h140
              refine W.iload C m0_143 rfl ?_
              refine W.istore C m0_145 (L' := [.val (.int p0), .val (.int p1), .val (.int p2), .val (.int p3), .val (.int p4), .val (.int p5), .val (.int (2147483647 : Int32)), .val (.int v1), .val (.int v2), .val (.int v3), .val (.int w10), .val (.int w11), .val (.int z4), .val (.int v8), .val (.int w11), .unset, .unset]) rfl ?_
              refine W.goto C m0_147 ?_
              exact J88 _ (by trivial)
          · intro (h127 : ¬ ¬ v8.toInt = (3 : Int))
            replace h127 := Decidable.not_not.mp h127
            refine W.iload C m0_130 rfl ?_
            refine W.istore C m0_132 (L' := [.val (.int p0), .val (.int p1), .val (.int p2), .val (.int p3), .val (.int p4), .val (.int p5), .val (.int (2147483647 : Int32)), .val (.int v1), .val (.int v2), .val (.int v3), .val (.int w10), .val (.int w11), .val (.int z4), .val (.int v8), .val (.int w10), .unset, .unset]) rfl ?_
            refine W.goto C m0_134 ?_
            exact J88 _ (by trivial)
        · intro (h114 : ¬ ¬ v8.toInt = (2 : Int))
          replace h114 := Decidable.not_not.mp h114
          refine W.iload C m0_117 rfl ?_
          refine W.istore C m0_119 (L' := [.val (.int p0), .val (.int p1), .val (.int p2), .val (.int p3), .val (.int p4), .val (.int p5), .val (.int (2147483647 : Int32)), .val (.int v1), .val (.int v2), .val (.int v3), .val (.int w10), .val (.int w11), .val (.int z4), .val (.int v8), .val (.int v3), .unset, .unset]) rfl ?_
          refine W.goto C m0_121 ?_
          exact J88 _ (by trivial)
      · intro (h101 : ¬ ¬ v8.toInt = (1 : Int))
        replace h101 := Decidable.not_not.mp h101
        refine W.iload C m0_104 rfl ?_
        refine W.istore C m0_106 (L' := [.val (.int p0), .val (.int p1), .val (.int p2), .val (.int p3), .val (.int p4), .val (.int p5), .val (.int (2147483647 : Int32)), .val (.int v1), .val (.int v2), .val (.int v3), .val (.int w10), .val (.int w11), .val (.int z4), .val (.int v8), .val (.int v2), .unset, .unset]) rfl ?_
        refine W.goto C m0_108 ?_
        exact J88 _ (by trivial)
    · intro (h88 : ¬ ¬ v8.toInt = (0 : Int))
      replace h88 := Decidable.not_not.mp h88
      refine W.iload C m0_91 rfl ?_
      refine W.istore C m0_93 (L' := [.val (.int p0), .val (.int p1), .val (.int p2), .val (.int p3), .val (.int p4), .val (.int p5), .val (.int (2147483647 : Int32)), .val (.int v1), .val (.int v2), .val (.int v3), .val (.int w10), .val (.int w11), .val (.int z4), .val (.int v8), .val (.int v1), .unset, .unset]) rfl ?_
      refine W.goto C m0_95 ?_
      exact J88 _ (by trivial)
  intro w9 hJ88
  refine W.new (a0 := a0) C m0_154 (hw _ (List.mem_of_getElem? (i := 5) rfl)) (hw _ (List.mem_of_getElem? (i := 6) rfl)) (hw _ (List.mem_of_getElem? (i := 7) rfl)) (by decide) (by decide) ?_
  intro h10 a11 g12 E13 E14 D15
  have g16 : n0 ≤ a11 := Nat.le_trans z0 (Nat.le_of_eq g12)
  have z17 : n0 ≤ h10.size := Nat.le_trans z0 E13.1
  have F18 : Fld Z h10 a11 "com/example/principal/principal/engine/IdMap" "slots" "[I" .null := D15 (Or.inl (hw _ (List.mem_of_getElem? (i := 23) rfl))) (ty := (.array .int)) (by decide)
  have F19 : Fld Z h10 a11 "com/example/principal/principal/engine/IdMap" "shift" "I" (.int (0 : Int32)) := D15 (Or.inl (hw _ (List.mem_of_getElem? (i := 25) rfl))) (ty := .int) (by decide)
  have F20 : Fld Z h10 a11 "com/example/principal/principal/engine/IdMap" "size" "I" (.int (0 : Int32)) := D15 (Or.inl (hw _ (List.mem_of_getElem? (i := 32) rfl))) (ty := .int) (by decide)
  show W κ n0 Qx h10 1 3 157 [.val (.int p0), .val (.int p1), .val (.int p2), .val (.int p3), .val (.int p4), .val (.int p5), .val (.int (2147483647 : Int32)), .val (.int v1), .val (.int v2), .val (.int v3), .val (.int w10), .val (.int w11), .val (.int z4), .val (.int v8), .val (.int w9), .unset, .unset] [(.ref a11)]
  refine W.dup C m0_157 rfl ?_
  refine W.callC (y := mY2) (wt := 1) C m0_158 rfl (hw _ (List.mem_of_getElem? (i := 8) rfl)) (hw _ (List.mem_of_getElem? (i := 9) rfl)) (hw _ (List.mem_of_getElem? (i := 7) rfl)) (hw _ (List.mem_of_getElem? (i := 10) rfl)) (by decide) pd2 rfl (own_init Z a0 hw a11 h10 n0 g16 z17 E14 F18 F19 F20) (a := a11) (as' := []) (rest := [(.ref a11)]) rfl rfl (Nat.le_of_eq rfl) (by decide) (by decide) (by decide) (by decide) ?_
  intro r24 h22 q23
  obtain ⟨rfl, P21⟩ := q23
  show W κ n0 Qx h22 2 35 161 [.val (.int p0), .val (.int p1), .val (.int p2), .val (.int p3), .val (.int p4), .val (.int p5), .val (.int (2147483647 : Int32)), .val (.int v1), .val (.int v2), .val (.int v3), .val (.int w10), .val (.int w11), .val (.int z4), .val (.int v8), .val (.int w9), .unset, .unset] [(.ref a11)]
  refine W.astore C m0_161 (L' := [.val (.int p0), .val (.int p1), .val (.int p2), .val (.int p3), .val (.int p4), .val (.int p5), .val (.int (2147483647 : Int32)), .val (.int v1), .val (.int v2), .val (.int v3), .val (.int w10), .val (.int w11), .val (.int z4), .val (.int v8), .val (.int w9), .val (.ref a11), .unset]) rfl rfl ?_
  have e7 := c_mask p5 (7 : Int32) 3 (by decide) (by decide)
  have e5 : (5 : Int32).toInt = 5 := rfl
  obtain hnn | hnn | hnn | hnn | hnn | hnn : z4.toInt = 0 ∨ z4.toInt = 1 ∨ z4.toInt = 2 ∨ z4.toInt = 3 ∨ z4.toInt = 4 ∨ z4.toInt = 5 := by omega
  · skip
    refine W.iload C m0_163 rfl ?_
    refine W.ifY C m0_165 (show z4.toInt ≤ (0 : Int) from (by omega)) ?_
    refine W.iload C m0_176 rfl ?_
    refine W.iconst C m0_178 (z := (1 : Int32)) rfl ?_
    refine W.icmpY C m0_179 (show z4.toInt ≤ (1 : Int) from (by omega)) ?_
    refine W.iload C m0_192 rfl ?_
    refine W.iconst C m0_194 (z := (2 : Int32)) rfl ?_
    refine W.icmpY C m0_195 (show z4.toInt ≤ (2 : Int) from (by omega)) ?_
    refine W.iload C m0_208 rfl ?_
    refine W.iconst C m0_210 (z := (3 : Int32)) rfl ?_
    refine W.icmpY C m0_211 (show z4.toInt ≤ (3 : Int) from (by omega)) ?_
    refine W.iload C m0_224 rfl ?_
    refine W.iconst C m0_226 (z := (4 : Int32)) rfl ?_
    refine W.icmpY C m0_227 (show z4.toInt ≤ (4 : Int) from (by omega)) ?_
    refine W.iconst C m0_240 (z := (-1 : Int32)) rfl ?_
    refine W.istore C m0_241 (L' := [.val (.int p0), .val (.int p1), .val (.int p2), .val (.int p3), .val (.int p4), .val (.int p5), .val (.int (2147483647 : Int32)), .val (.int v1), .val (.int v2), .val (.int v3), .val (.int w10), .val (.int w11), .val (.int z4), .val (.int v8), .val (.int w9), .val (.ref a11), .val (.int (-1 : Int32))]) rfl ?_
    refine W.iload C m0_243 rfl ?_
    refine W.ifY C m0_245 (show z4.toInt ≤ (0 : Int) from (by omega)) ?_
    refine W.iload C m0_258 rfl ?_
    refine W.iconst C m0_260 (z := (1 : Int32)) rfl ?_
    refine W.icmpY C m0_261 (show z4.toInt ≤ (1 : Int) from (by omega)) ?_
    refine W.iload C m0_276 rfl ?_
    refine W.iconst C m0_278 (z := (2 : Int32)) rfl ?_
    refine W.icmpY C m0_279 (show z4.toInt ≤ (2 : Int) from (by omega)) ?_
    refine W.iload C m0_294 rfl ?_
    refine W.iconst C m0_296 (z := (3 : Int32)) rfl ?_
    refine W.icmpY C m0_297 (show z4.toInt ≤ (3 : Int) from (by omega)) ?_
    refine W.iload C m0_312 rfl ?_
    refine W.iconst C m0_314 (z := (4 : Int32)) rfl ?_
    refine W.icmpY C m0_315 (show z4.toInt ≤ (4 : Int) from (by omega)) ?_
    refine W.aload C m0_330 rfl rfl ?_
    refine W.iload C m0_332 rfl ?_
    refine W.callV (y := mY8) (wt := 0) C m0_334 (hw _ (List.mem_of_getElem? (i := 37) rfl)) (hw _ (List.mem_of_getElem? (i := 38) rfl)) (hw _ (List.mem_of_getElem? (i := 40) rfl)) (hw _ (List.mem_of_getElem? (i := 39) rfl)) (hw _ (List.mem_of_getElem? (i := 7) rfl)) (hw _ (List.mem_of_getElem? (i := 41) rfl)) (by decide) (own_mpE P21) pd8 rfl (own_get8 Z a0 hw a11 w9 0 (fun _ _ => False) h22 n0 (by decide) P21) (as' := [(.int w9)]) (rest := []) rfl rfl (Nat.le_of_eq rfl) (by decide) (by decide) (by decide) (by decide) ?_
    intro r28 h26 q27
    obtain ⟨rfl, r25, rfl, hr25⟩ := q27
    show W κ n0 Qx h22 2 35 337 [.val (.int p0), .val (.int p1), .val (.int p2), .val (.int p3), .val (.int p4), .val (.int p5), .val (.int (2147483647 : Int32)), .val (.int v1), .val (.int v2), .val (.int v3), .val (.int w10), .val (.int w11), .val (.int z4), .val (.int v8), .val (.int w9), .val (.ref a11), .val (.int (-1 : Int32))] [(.int r25)]
    refine W.iload C m0_337 rfl ?_
    refine W.icmp C m0_339 ?_ ?_
    · intro (h339 : ¬ r25.toInt = (-1 : Int))
      refine W.iconst C m0_346 (z := (0 : Int32)) rfl ?_
      refine W.zreturn C m0_347 (hQ _ _ ?_)
      exfalso
      exact h339 (by have hh := own_fin (own_E0 _) own_Pos0 hr25; rw [hh]; try rfl)
    · intro (h339 : ¬ ¬ r25.toInt = (-1 : Int))
      replace h339 := Decidable.not_not.mp h339
      refine W.iconst C m0_342 (z := (1 : Int32)) rfl ?_
      refine W.goto C m0_343 ?_
      refine W.zreturn C m0_347 (hQ _ _ ?_)
      exact rfl
  · skip
    refine W.iload C m0_163 rfl ?_
    refine W.ifN C m0_165 (show ¬ (z4.toInt ≤ (0 : Int)) from (by omega)) ?_
    refine W.aload C m0_168 rfl rfl ?_
    refine W.iload C m0_170 rfl ?_
    refine W.iloadN C m0_172 rfl ?_
    refine W.callV (y := mY6) (wt := 0) C m0_173 (hw _ (List.mem_of_getElem? (i := 26) rfl)) (hw _ (List.mem_of_getElem? (i := 27) rfl)) (hw _ (List.mem_of_getElem? (i := 29) rfl)) (hw _ (List.mem_of_getElem? (i := 28) rfl)) (hw _ (List.mem_of_getElem? (i := 7) rfl)) (hw _ (List.mem_of_getElem? (i := 30) rfl)) (by decide) (own_mpE P21) pd6 rfl (own_put8 Z a0 hw a11 v1 p3 0 (fun _ _ => False) h22 n0 hpv1 (by decide) P21) (as' := [(.int v1), (.int p3)]) (rest := []) rfl rfl (Nat.le_of_eq rfl) (by decide) (by decide) (by decide) (by decide) ?_
    intro r32 h30 q31
    obtain ⟨rfl, P29⟩ := q31
    show W κ n0 Qx h30 2 35 176 [.val (.int p0), .val (.int p1), .val (.int p2), .val (.int p3), .val (.int p4), .val (.int p5), .val (.int (2147483647 : Int32)), .val (.int v1), .val (.int v2), .val (.int v3), .val (.int w10), .val (.int w11), .val (.int z4), .val (.int v8), .val (.int w9), .val (.ref a11), .unset] []
    refine W.iload C m0_176 rfl ?_
    refine W.iconst C m0_178 (z := (1 : Int32)) rfl ?_
    refine W.icmpY C m0_179 (show z4.toInt ≤ (1 : Int) from (by omega)) ?_
    refine W.iload C m0_192 rfl ?_
    refine W.iconst C m0_194 (z := (2 : Int32)) rfl ?_
    refine W.icmpY C m0_195 (show z4.toInt ≤ (2 : Int) from (by omega)) ?_
    refine W.iload C m0_208 rfl ?_
    refine W.iconst C m0_210 (z := (3 : Int32)) rfl ?_
    refine W.icmpY C m0_211 (show z4.toInt ≤ (3 : Int) from (by omega)) ?_
    refine W.iload C m0_224 rfl ?_
    refine W.iconst C m0_226 (z := (4 : Int32)) rfl ?_
    refine W.icmpY C m0_227 (show z4.toInt ≤ (4 : Int) from (by omega)) ?_
    refine W.iconst C m0_240 (z := (-1 : Int32)) rfl ?_
    refine W.istore C m0_241 (L' := [.val (.int p0), .val (.int p1), .val (.int p2), .val (.int p3), .val (.int p4), .val (.int p5), .val (.int (2147483647 : Int32)), .val (.int v1), .val (.int v2), .val (.int v3), .val (.int w10), .val (.int w11), .val (.int z4), .val (.int v8), .val (.int w9), .val (.ref a11), .val (.int (-1 : Int32))]) rfl ?_
    refine W.iload C m0_243 rfl ?_
    refine W.ifN C m0_245 (show ¬ (z4.toInt ≤ (0 : Int)) from (by omega)) ?_
    refine W.iload C m0_248 rfl ?_
    refine W.iload C m0_250 rfl ?_
    suffices Jc33 : ∀ c33 : Int32, own_E (own_up (fun _ _ => False) v1 p3) w9 c33 → W κ n0 Qx h30 2 35 258 [.val (.int p0), .val (.int p1), .val (.int p2), .val (.int p3), .val (.int p4), .val (.int p5), .val (.int (2147483647 : Int32)), .val (.int v1), .val (.int v2), .val (.int v3), .val (.int w10), .val (.int w11), .val (.int z4), .val (.int v8), .val (.int w9), .val (.ref a11), .val (.int c33)] [] by
      refine W.icmp C m0_252 ?_ ?_
      · intro (hc : ¬ w9.toInt = v1.toInt)
        exact Jc33 _ (own_Ene (own_E0 _) hc)
      · intro (hc : ¬ ¬ w9.toInt = v1.toInt)
        refine W.iloadN C m0_255 rfl ?_
        refine W.istore C m0_256 (L' := [.val (.int p0), .val (.int p1), .val (.int p2), .val (.int p3), .val (.int p4), .val (.int p5), .val (.int (2147483647 : Int32)), .val (.int v1), .val (.int v2), .val (.int v3), .val (.int w10), .val (.int w11), .val (.int z4), .val (.int v8), .val (.int w9), .val (.ref a11), .val (.int p3)]) rfl ?_
        exact Jc33 _ (own_Eeq hc)
    intro c33 hc33
    refine W.iload C m0_258 rfl ?_
    refine W.iconst C m0_260 (z := (1 : Int32)) rfl ?_
    refine W.icmpY C m0_261 (show z4.toInt ≤ (1 : Int) from (by omega)) ?_
    refine W.iload C m0_276 rfl ?_
    refine W.iconst C m0_278 (z := (2 : Int32)) rfl ?_
    refine W.icmpY C m0_279 (show z4.toInt ≤ (2 : Int) from (by omega)) ?_
    refine W.iload C m0_294 rfl ?_
    refine W.iconst C m0_296 (z := (3 : Int32)) rfl ?_
    refine W.icmpY C m0_297 (show z4.toInt ≤ (3 : Int) from (by omega)) ?_
    refine W.iload C m0_312 rfl ?_
    refine W.iconst C m0_314 (z := (4 : Int32)) rfl ?_
    refine W.icmpY C m0_315 (show z4.toInt ≤ (4 : Int) from (by omega)) ?_
    refine W.aload C m0_330 rfl rfl ?_
    refine W.iload C m0_332 rfl ?_
    refine W.callV (y := mY8) (wt := 0) C m0_334 (hw _ (List.mem_of_getElem? (i := 37) rfl)) (hw _ (List.mem_of_getElem? (i := 38) rfl)) (hw _ (List.mem_of_getElem? (i := 40) rfl)) (hw _ (List.mem_of_getElem? (i := 39) rfl)) (hw _ (List.mem_of_getElem? (i := 7) rfl)) (hw _ (List.mem_of_getElem? (i := 41) rfl)) (by decide) (own_mpE P29) pd8 rfl (own_get8 Z a0 hw a11 w9 1 (own_up (fun _ _ => False) v1 p3) h30 n0 (by decide) P29) (as' := [(.int w9)]) (rest := []) rfl rfl (Nat.le_of_eq rfl) (by decide) (by decide) (by decide) (by decide) ?_
    intro r37 h35 q36
    obtain ⟨rfl, r34, rfl, hr34⟩ := q36
    show W κ n0 Qx h30 2 35 337 [.val (.int p0), .val (.int p1), .val (.int p2), .val (.int p3), .val (.int p4), .val (.int p5), .val (.int (2147483647 : Int32)), .val (.int v1), .val (.int v2), .val (.int v3), .val (.int w10), .val (.int w11), .val (.int z4), .val (.int v8), .val (.int w9), .val (.ref a11), .val (.int c33)] [(.int r34)]
    refine W.iload C m0_337 rfl ?_
    refine W.icmp C m0_339 ?_ ?_
    · intro (h339 : ¬ r34.toInt = c33.toInt)
      refine W.iconst C m0_346 (z := (0 : Int32)) rfl ?_
      refine W.zreturn C m0_347 (hQ _ _ ?_)
      exfalso
      exact h339 (by have hh := own_fin hc33 (own_Posu own_Pos0 hpv1) hr34; rw [hh]; try rfl)
    · intro (h339 : ¬ ¬ r34.toInt = c33.toInt)
      replace h339 := Decidable.not_not.mp h339
      refine W.iconst C m0_342 (z := (1 : Int32)) rfl ?_
      refine W.goto C m0_343 ?_
      refine W.zreturn C m0_347 (hQ _ _ ?_)
      exact rfl
  · skip
    refine W.iload C m0_163 rfl ?_
    refine W.ifN C m0_165 (show ¬ (z4.toInt ≤ (0 : Int)) from (by omega)) ?_
    refine W.aload C m0_168 rfl rfl ?_
    refine W.iload C m0_170 rfl ?_
    refine W.iloadN C m0_172 rfl ?_
    refine W.callV (y := mY6) (wt := 0) C m0_173 (hw _ (List.mem_of_getElem? (i := 26) rfl)) (hw _ (List.mem_of_getElem? (i := 27) rfl)) (hw _ (List.mem_of_getElem? (i := 29) rfl)) (hw _ (List.mem_of_getElem? (i := 28) rfl)) (hw _ (List.mem_of_getElem? (i := 7) rfl)) (hw _ (List.mem_of_getElem? (i := 30) rfl)) (by decide) (own_mpE P21) pd6 rfl (own_put8 Z a0 hw a11 v1 p3 0 (fun _ _ => False) h22 n0 hpv1 (by decide) P21) (as' := [(.int v1), (.int p3)]) (rest := []) rfl rfl (Nat.le_of_eq rfl) (by decide) (by decide) (by decide) (by decide) ?_
    intro r41 h39 q40
    obtain ⟨rfl, P38⟩ := q40
    show W κ n0 Qx h39 2 35 176 [.val (.int p0), .val (.int p1), .val (.int p2), .val (.int p3), .val (.int p4), .val (.int p5), .val (.int (2147483647 : Int32)), .val (.int v1), .val (.int v2), .val (.int v3), .val (.int w10), .val (.int w11), .val (.int z4), .val (.int v8), .val (.int w9), .val (.ref a11), .unset] []
    refine W.iload C m0_176 rfl ?_
    refine W.iconst C m0_178 (z := (1 : Int32)) rfl ?_
    refine W.icmpN C m0_179 (show ¬ (z4.toInt ≤ (1 : Int)) from (by omega)) ?_
    refine W.aload C m0_182 rfl rfl ?_
    refine W.iload C m0_184 rfl ?_
    refine W.iloadN C m0_186 rfl ?_
    refine W.iconst C m0_187 (z := (1 : Int32)) rfl ?_
    refine W.iadd C m0_188 rfl ?_
    refine W.callV (y := mY6) (wt := 0) C m0_189 (hw _ (List.mem_of_getElem? (i := 26) rfl)) (hw _ (List.mem_of_getElem? (i := 27) rfl)) (hw _ (List.mem_of_getElem? (i := 29) rfl)) (hw _ (List.mem_of_getElem? (i := 28) rfl)) (hw _ (List.mem_of_getElem? (i := 7) rfl)) (hw _ (List.mem_of_getElem? (i := 30) rfl)) (by decide) (own_mpE P38) pd6 rfl (own_put8 Z a0 hw a11 v2 (p3 + (1 : Int32)) 1 (own_up (fun _ _ => False) v1 p3) h39 n0 hpv2 (by decide) P38) (as' := [(.int v2), (.int (p3 + (1 : Int32)))]) (rest := []) rfl rfl (Nat.le_of_eq rfl) (by decide) (by decide) (by decide) (by decide) ?_
    intro r45 h43 q44
    obtain ⟨rfl, P42⟩ := q44
    show W κ n0 Qx h43 2 35 192 [.val (.int p0), .val (.int p1), .val (.int p2), .val (.int p3), .val (.int p4), .val (.int p5), .val (.int (2147483647 : Int32)), .val (.int v1), .val (.int v2), .val (.int v3), .val (.int w10), .val (.int w11), .val (.int z4), .val (.int v8), .val (.int w9), .val (.ref a11), .unset] []
    refine W.iload C m0_192 rfl ?_
    refine W.iconst C m0_194 (z := (2 : Int32)) rfl ?_
    refine W.icmpY C m0_195 (show z4.toInt ≤ (2 : Int) from (by omega)) ?_
    refine W.iload C m0_208 rfl ?_
    refine W.iconst C m0_210 (z := (3 : Int32)) rfl ?_
    refine W.icmpY C m0_211 (show z4.toInt ≤ (3 : Int) from (by omega)) ?_
    refine W.iload C m0_224 rfl ?_
    refine W.iconst C m0_226 (z := (4 : Int32)) rfl ?_
    refine W.icmpY C m0_227 (show z4.toInt ≤ (4 : Int) from (by omega)) ?_
    refine W.iconst C m0_240 (z := (-1 : Int32)) rfl ?_
    refine W.istore C m0_241 (L' := [.val (.int p0), .val (.int p1), .val (.int p2), .val (.int p3), .val (.int p4), .val (.int p5), .val (.int (2147483647 : Int32)), .val (.int v1), .val (.int v2), .val (.int v3), .val (.int w10), .val (.int w11), .val (.int z4), .val (.int v8), .val (.int w9), .val (.ref a11), .val (.int (-1 : Int32))]) rfl ?_
    refine W.iload C m0_243 rfl ?_
    refine W.ifN C m0_245 (show ¬ (z4.toInt ≤ (0 : Int)) from (by omega)) ?_
    refine W.iload C m0_248 rfl ?_
    refine W.iload C m0_250 rfl ?_
    suffices Jc46 : ∀ c46 : Int32, own_E (own_up (fun _ _ => False) v1 p3) w9 c46 → W κ n0 Qx h43 2 35 258 [.val (.int p0), .val (.int p1), .val (.int p2), .val (.int p3), .val (.int p4), .val (.int p5), .val (.int (2147483647 : Int32)), .val (.int v1), .val (.int v2), .val (.int v3), .val (.int w10), .val (.int w11), .val (.int z4), .val (.int v8), .val (.int w9), .val (.ref a11), .val (.int c46)] [] by
      refine W.icmp C m0_252 ?_ ?_
      · intro (hc : ¬ w9.toInt = v1.toInt)
        exact Jc46 _ (own_Ene (own_E0 _) hc)
      · intro (hc : ¬ ¬ w9.toInt = v1.toInt)
        refine W.iloadN C m0_255 rfl ?_
        refine W.istore C m0_256 (L' := [.val (.int p0), .val (.int p1), .val (.int p2), .val (.int p3), .val (.int p4), .val (.int p5), .val (.int (2147483647 : Int32)), .val (.int v1), .val (.int v2), .val (.int v3), .val (.int w10), .val (.int w11), .val (.int z4), .val (.int v8), .val (.int w9), .val (.ref a11), .val (.int p3)]) rfl ?_
        exact Jc46 _ (own_Eeq hc)
    intro c46 hc46
    refine W.iload C m0_258 rfl ?_
    refine W.iconst C m0_260 (z := (1 : Int32)) rfl ?_
    refine W.icmpN C m0_261 (show ¬ (z4.toInt ≤ (1 : Int)) from (by omega)) ?_
    refine W.iload C m0_264 rfl ?_
    refine W.iload C m0_266 rfl ?_
    suffices Jc47 : ∀ c47 : Int32, own_E (own_up (own_up (fun _ _ => False) v1 p3) v2 (p3 + (1 : Int32))) w9 c47 → W κ n0 Qx h43 2 35 276 [.val (.int p0), .val (.int p1), .val (.int p2), .val (.int p3), .val (.int p4), .val (.int p5), .val (.int (2147483647 : Int32)), .val (.int v1), .val (.int v2), .val (.int v3), .val (.int w10), .val (.int w11), .val (.int z4), .val (.int v8), .val (.int w9), .val (.ref a11), .val (.int c47)] [] by
      refine W.icmp C m0_268 ?_ ?_
      · intro (hc : ¬ w9.toInt = v2.toInt)
        exact Jc47 _ (own_Ene hc46 hc)
      · intro (hc : ¬ ¬ w9.toInt = v2.toInt)
        refine W.iloadN C m0_271 rfl ?_
        refine W.iconst C m0_272 (z := (1 : Int32)) rfl ?_
        refine W.iadd C m0_273 rfl ?_
        refine W.istore C m0_274 (L' := [.val (.int p0), .val (.int p1), .val (.int p2), .val (.int p3), .val (.int p4), .val (.int p5), .val (.int (2147483647 : Int32)), .val (.int v1), .val (.int v2), .val (.int v3), .val (.int w10), .val (.int w11), .val (.int z4), .val (.int v8), .val (.int w9), .val (.ref a11), .val (.int (p3 + (1 : Int32)))]) rfl ?_
        exact Jc47 _ (own_Eeq hc)
    intro c47 hc47
    refine W.iload C m0_276 rfl ?_
    refine W.iconst C m0_278 (z := (2 : Int32)) rfl ?_
    refine W.icmpY C m0_279 (show z4.toInt ≤ (2 : Int) from (by omega)) ?_
    refine W.iload C m0_294 rfl ?_
    refine W.iconst C m0_296 (z := (3 : Int32)) rfl ?_
    refine W.icmpY C m0_297 (show z4.toInt ≤ (3 : Int) from (by omega)) ?_
    refine W.iload C m0_312 rfl ?_
    refine W.iconst C m0_314 (z := (4 : Int32)) rfl ?_
    refine W.icmpY C m0_315 (show z4.toInt ≤ (4 : Int) from (by omega)) ?_
    refine W.aload C m0_330 rfl rfl ?_
    refine W.iload C m0_332 rfl ?_
    refine W.callV (y := mY8) (wt := 0) C m0_334 (hw _ (List.mem_of_getElem? (i := 37) rfl)) (hw _ (List.mem_of_getElem? (i := 38) rfl)) (hw _ (List.mem_of_getElem? (i := 40) rfl)) (hw _ (List.mem_of_getElem? (i := 39) rfl)) (hw _ (List.mem_of_getElem? (i := 7) rfl)) (hw _ (List.mem_of_getElem? (i := 41) rfl)) (by decide) (own_mpE P42) pd8 rfl (own_get8 Z a0 hw a11 w9 2 (own_up (own_up (fun _ _ => False) v1 p3) v2 (p3 + (1 : Int32))) h43 n0 (by decide) P42) (as' := [(.int w9)]) (rest := []) rfl rfl (Nat.le_of_eq rfl) (by decide) (by decide) (by decide) (by decide) ?_
    intro r51 h49 q50
    obtain ⟨rfl, r48, rfl, hr48⟩ := q50
    show W κ n0 Qx h43 2 35 337 [.val (.int p0), .val (.int p1), .val (.int p2), .val (.int p3), .val (.int p4), .val (.int p5), .val (.int (2147483647 : Int32)), .val (.int v1), .val (.int v2), .val (.int v3), .val (.int w10), .val (.int w11), .val (.int z4), .val (.int v8), .val (.int w9), .val (.ref a11), .val (.int c47)] [(.int r48)]
    refine W.iload C m0_337 rfl ?_
    refine W.icmp C m0_339 ?_ ?_
    · intro (h339 : ¬ r48.toInt = c47.toInt)
      refine W.iconst C m0_346 (z := (0 : Int32)) rfl ?_
      refine W.zreturn C m0_347 (hQ _ _ ?_)
      exfalso
      exact h339 (by have hh := own_fin hc47 (own_Posu (own_Posu own_Pos0 hpv1) hpv2) hr48; rw [hh]; try rfl)
    · intro (h339 : ¬ ¬ r48.toInt = c47.toInt)
      replace h339 := Decidable.not_not.mp h339
      refine W.iconst C m0_342 (z := (1 : Int32)) rfl ?_
      refine W.goto C m0_343 ?_
      refine W.zreturn C m0_347 (hQ _ _ ?_)
      exact rfl
  · skip
    refine W.iload C m0_163 rfl ?_
    refine W.ifN C m0_165 (show ¬ (z4.toInt ≤ (0 : Int)) from (by omega)) ?_
    refine W.aload C m0_168 rfl rfl ?_
    refine W.iload C m0_170 rfl ?_
    refine W.iloadN C m0_172 rfl ?_
    refine W.callV (y := mY6) (wt := 0) C m0_173 (hw _ (List.mem_of_getElem? (i := 26) rfl)) (hw _ (List.mem_of_getElem? (i := 27) rfl)) (hw _ (List.mem_of_getElem? (i := 29) rfl)) (hw _ (List.mem_of_getElem? (i := 28) rfl)) (hw _ (List.mem_of_getElem? (i := 7) rfl)) (hw _ (List.mem_of_getElem? (i := 30) rfl)) (by decide) (own_mpE P21) pd6 rfl (own_put8 Z a0 hw a11 v1 p3 0 (fun _ _ => False) h22 n0 hpv1 (by decide) P21) (as' := [(.int v1), (.int p3)]) (rest := []) rfl rfl (Nat.le_of_eq rfl) (by decide) (by decide) (by decide) (by decide) ?_
    intro r55 h53 q54
    obtain ⟨rfl, P52⟩ := q54
    show W κ n0 Qx h53 2 35 176 [.val (.int p0), .val (.int p1), .val (.int p2), .val (.int p3), .val (.int p4), .val (.int p5), .val (.int (2147483647 : Int32)), .val (.int v1), .val (.int v2), .val (.int v3), .val (.int w10), .val (.int w11), .val (.int z4), .val (.int v8), .val (.int w9), .val (.ref a11), .unset] []
    refine W.iload C m0_176 rfl ?_
    refine W.iconst C m0_178 (z := (1 : Int32)) rfl ?_
    refine W.icmpN C m0_179 (show ¬ (z4.toInt ≤ (1 : Int)) from (by omega)) ?_
    refine W.aload C m0_182 rfl rfl ?_
    refine W.iload C m0_184 rfl ?_
    refine W.iloadN C m0_186 rfl ?_
    refine W.iconst C m0_187 (z := (1 : Int32)) rfl ?_
    refine W.iadd C m0_188 rfl ?_
    refine W.callV (y := mY6) (wt := 0) C m0_189 (hw _ (List.mem_of_getElem? (i := 26) rfl)) (hw _ (List.mem_of_getElem? (i := 27) rfl)) (hw _ (List.mem_of_getElem? (i := 29) rfl)) (hw _ (List.mem_of_getElem? (i := 28) rfl)) (hw _ (List.mem_of_getElem? (i := 7) rfl)) (hw _ (List.mem_of_getElem? (i := 30) rfl)) (by decide) (own_mpE P52) pd6 rfl (own_put8 Z a0 hw a11 v2 (p3 + (1 : Int32)) 1 (own_up (fun _ _ => False) v1 p3) h53 n0 hpv2 (by decide) P52) (as' := [(.int v2), (.int (p3 + (1 : Int32)))]) (rest := []) rfl rfl (Nat.le_of_eq rfl) (by decide) (by decide) (by decide) (by decide) ?_
    intro r59 h57 q58
    obtain ⟨rfl, P56⟩ := q58
    show W κ n0 Qx h57 2 35 192 [.val (.int p0), .val (.int p1), .val (.int p2), .val (.int p3), .val (.int p4), .val (.int p5), .val (.int (2147483647 : Int32)), .val (.int v1), .val (.int v2), .val (.int v3), .val (.int w10), .val (.int w11), .val (.int z4), .val (.int v8), .val (.int w9), .val (.ref a11), .unset] []
    refine W.iload C m0_192 rfl ?_
    refine W.iconst C m0_194 (z := (2 : Int32)) rfl ?_
    refine W.icmpN C m0_195 (show ¬ (z4.toInt ≤ (2 : Int)) from (by omega)) ?_
    refine W.aload C m0_198 rfl rfl ?_
    refine W.iload C m0_200 rfl ?_
    refine W.iloadN C m0_202 rfl ?_
    refine W.iconst C m0_203 (z := (2 : Int32)) rfl ?_
    refine W.iadd C m0_204 rfl ?_
    refine W.callV (y := mY6) (wt := 0) C m0_205 (hw _ (List.mem_of_getElem? (i := 26) rfl)) (hw _ (List.mem_of_getElem? (i := 27) rfl)) (hw _ (List.mem_of_getElem? (i := 29) rfl)) (hw _ (List.mem_of_getElem? (i := 28) rfl)) (hw _ (List.mem_of_getElem? (i := 7) rfl)) (hw _ (List.mem_of_getElem? (i := 30) rfl)) (by decide) (own_mpE P56) pd6 rfl (own_put8 Z a0 hw a11 v3 (p3 + (2 : Int32)) 2 (own_up (own_up (fun _ _ => False) v1 p3) v2 (p3 + (1 : Int32))) h57 n0 hpv3 (by decide) P56) (as' := [(.int v3), (.int (p3 + (2 : Int32)))]) (rest := []) rfl rfl (Nat.le_of_eq rfl) (by decide) (by decide) (by decide) (by decide) ?_
    intro r63 h61 q62
    obtain ⟨rfl, P60⟩ := q62
    show W κ n0 Qx h61 2 35 208 [.val (.int p0), .val (.int p1), .val (.int p2), .val (.int p3), .val (.int p4), .val (.int p5), .val (.int (2147483647 : Int32)), .val (.int v1), .val (.int v2), .val (.int v3), .val (.int w10), .val (.int w11), .val (.int z4), .val (.int v8), .val (.int w9), .val (.ref a11), .unset] []
    refine W.iload C m0_208 rfl ?_
    refine W.iconst C m0_210 (z := (3 : Int32)) rfl ?_
    refine W.icmpY C m0_211 (show z4.toInt ≤ (3 : Int) from (by omega)) ?_
    refine W.iload C m0_224 rfl ?_
    refine W.iconst C m0_226 (z := (4 : Int32)) rfl ?_
    refine W.icmpY C m0_227 (show z4.toInt ≤ (4 : Int) from (by omega)) ?_
    refine W.iconst C m0_240 (z := (-1 : Int32)) rfl ?_
    refine W.istore C m0_241 (L' := [.val (.int p0), .val (.int p1), .val (.int p2), .val (.int p3), .val (.int p4), .val (.int p5), .val (.int (2147483647 : Int32)), .val (.int v1), .val (.int v2), .val (.int v3), .val (.int w10), .val (.int w11), .val (.int z4), .val (.int v8), .val (.int w9), .val (.ref a11), .val (.int (-1 : Int32))]) rfl ?_
    refine W.iload C m0_243 rfl ?_
    refine W.ifN C m0_245 (show ¬ (z4.toInt ≤ (0 : Int)) from (by omega)) ?_
    refine W.iload C m0_248 rfl ?_
    refine W.iload C m0_250 rfl ?_
    suffices Jc64 : ∀ c64 : Int32, own_E (own_up (fun _ _ => False) v1 p3) w9 c64 → W κ n0 Qx h61 2 35 258 [.val (.int p0), .val (.int p1), .val (.int p2), .val (.int p3), .val (.int p4), .val (.int p5), .val (.int (2147483647 : Int32)), .val (.int v1), .val (.int v2), .val (.int v3), .val (.int w10), .val (.int w11), .val (.int z4), .val (.int v8), .val (.int w9), .val (.ref a11), .val (.int c64)] [] by
      refine W.icmp C m0_252 ?_ ?_
      · intro (hc : ¬ w9.toInt = v1.toInt)
        exact Jc64 _ (own_Ene (own_E0 _) hc)
      · intro (hc : ¬ ¬ w9.toInt = v1.toInt)
        refine W.iloadN C m0_255 rfl ?_
        refine W.istore C m0_256 (L' := [.val (.int p0), .val (.int p1), .val (.int p2), .val (.int p3), .val (.int p4), .val (.int p5), .val (.int (2147483647 : Int32)), .val (.int v1), .val (.int v2), .val (.int v3), .val (.int w10), .val (.int w11), .val (.int z4), .val (.int v8), .val (.int w9), .val (.ref a11), .val (.int p3)]) rfl ?_
        exact Jc64 _ (own_Eeq hc)
    intro c64 hc64
    refine W.iload C m0_258 rfl ?_
    refine W.iconst C m0_260 (z := (1 : Int32)) rfl ?_
    refine W.icmpN C m0_261 (show ¬ (z4.toInt ≤ (1 : Int)) from (by omega)) ?_
    refine W.iload C m0_264 rfl ?_
    refine W.iload C m0_266 rfl ?_
    suffices Jc65 : ∀ c65 : Int32, own_E (own_up (own_up (fun _ _ => False) v1 p3) v2 (p3 + (1 : Int32))) w9 c65 → W κ n0 Qx h61 2 35 276 [.val (.int p0), .val (.int p1), .val (.int p2), .val (.int p3), .val (.int p4), .val (.int p5), .val (.int (2147483647 : Int32)), .val (.int v1), .val (.int v2), .val (.int v3), .val (.int w10), .val (.int w11), .val (.int z4), .val (.int v8), .val (.int w9), .val (.ref a11), .val (.int c65)] [] by
      refine W.icmp C m0_268 ?_ ?_
      · intro (hc : ¬ w9.toInt = v2.toInt)
        exact Jc65 _ (own_Ene hc64 hc)
      · intro (hc : ¬ ¬ w9.toInt = v2.toInt)
        refine W.iloadN C m0_271 rfl ?_
        refine W.iconst C m0_272 (z := (1 : Int32)) rfl ?_
        refine W.iadd C m0_273 rfl ?_
        refine W.istore C m0_274 (L' := [.val (.int p0), .val (.int p1), .val (.int p2), .val (.int p3), .val (.int p4), .val (.int p5), .val (.int (2147483647 : Int32)), .val (.int v1), .val (.int v2), .val (.int v3), .val (.int w10), .val (.int w11), .val (.int z4), .val (.int v8), .val (.int w9), .val (.ref a11), .val (.int (p3 + (1 : Int32)))]) rfl ?_
        exact Jc65 _ (own_Eeq hc)
    intro c65 hc65
    refine W.iload C m0_276 rfl ?_
    refine W.iconst C m0_278 (z := (2 : Int32)) rfl ?_
    refine W.icmpN C m0_279 (show ¬ (z4.toInt ≤ (2 : Int)) from (by omega)) ?_
    refine W.iload C m0_282 rfl ?_
    refine W.iload C m0_284 rfl ?_
    suffices Jc66 : ∀ c66 : Int32, own_E (own_up (own_up (own_up (fun _ _ => False) v1 p3) v2 (p3 + (1 : Int32))) v3 (p3 + (2 : Int32))) w9 c66 → W κ n0 Qx h61 2 35 294 [.val (.int p0), .val (.int p1), .val (.int p2), .val (.int p3), .val (.int p4), .val (.int p5), .val (.int (2147483647 : Int32)), .val (.int v1), .val (.int v2), .val (.int v3), .val (.int w10), .val (.int w11), .val (.int z4), .val (.int v8), .val (.int w9), .val (.ref a11), .val (.int c66)] [] by
      refine W.icmp C m0_286 ?_ ?_
      · intro (hc : ¬ w9.toInt = v3.toInt)
        exact Jc66 _ (own_Ene hc65 hc)
      · intro (hc : ¬ ¬ w9.toInt = v3.toInt)
        refine W.iloadN C m0_289 rfl ?_
        refine W.iconst C m0_290 (z := (2 : Int32)) rfl ?_
        refine W.iadd C m0_291 rfl ?_
        refine W.istore C m0_292 (L' := [.val (.int p0), .val (.int p1), .val (.int p2), .val (.int p3), .val (.int p4), .val (.int p5), .val (.int (2147483647 : Int32)), .val (.int v1), .val (.int v2), .val (.int v3), .val (.int w10), .val (.int w11), .val (.int z4), .val (.int v8), .val (.int w9), .val (.ref a11), .val (.int (p3 + (2 : Int32)))]) rfl ?_
        exact Jc66 _ (own_Eeq hc)
    intro c66 hc66
    refine W.iload C m0_294 rfl ?_
    refine W.iconst C m0_296 (z := (3 : Int32)) rfl ?_
    refine W.icmpY C m0_297 (show z4.toInt ≤ (3 : Int) from (by omega)) ?_
    refine W.iload C m0_312 rfl ?_
    refine W.iconst C m0_314 (z := (4 : Int32)) rfl ?_
    refine W.icmpY C m0_315 (show z4.toInt ≤ (4 : Int) from (by omega)) ?_
    refine W.aload C m0_330 rfl rfl ?_
    refine W.iload C m0_332 rfl ?_
    refine W.callV (y := mY8) (wt := 0) C m0_334 (hw _ (List.mem_of_getElem? (i := 37) rfl)) (hw _ (List.mem_of_getElem? (i := 38) rfl)) (hw _ (List.mem_of_getElem? (i := 40) rfl)) (hw _ (List.mem_of_getElem? (i := 39) rfl)) (hw _ (List.mem_of_getElem? (i := 7) rfl)) (hw _ (List.mem_of_getElem? (i := 41) rfl)) (by decide) (own_mpE P60) pd8 rfl (own_get8 Z a0 hw a11 w9 3 (own_up (own_up (own_up (fun _ _ => False) v1 p3) v2 (p3 + (1 : Int32))) v3 (p3 + (2 : Int32))) h61 n0 (by decide) P60) (as' := [(.int w9)]) (rest := []) rfl rfl (Nat.le_of_eq rfl) (by decide) (by decide) (by decide) (by decide) ?_
    intro r70 h68 q69
    obtain ⟨rfl, r67, rfl, hr67⟩ := q69
    show W κ n0 Qx h61 2 35 337 [.val (.int p0), .val (.int p1), .val (.int p2), .val (.int p3), .val (.int p4), .val (.int p5), .val (.int (2147483647 : Int32)), .val (.int v1), .val (.int v2), .val (.int v3), .val (.int w10), .val (.int w11), .val (.int z4), .val (.int v8), .val (.int w9), .val (.ref a11), .val (.int c66)] [(.int r67)]
    refine W.iload C m0_337 rfl ?_
    refine W.icmp C m0_339 ?_ ?_
    · intro (h339 : ¬ r67.toInt = c66.toInt)
      refine W.iconst C m0_346 (z := (0 : Int32)) rfl ?_
      refine W.zreturn C m0_347 (hQ _ _ ?_)
      exfalso
      exact h339 (by have hh := own_fin hc66 (own_Posu (own_Posu (own_Posu own_Pos0 hpv1) hpv2) hpv3) hr67; rw [hh]; try rfl)
    · intro (h339 : ¬ ¬ r67.toInt = c66.toInt)
      replace h339 := Decidable.not_not.mp h339
      refine W.iconst C m0_342 (z := (1 : Int32)) rfl ?_
      refine W.goto C m0_343 ?_
      refine W.zreturn C m0_347 (hQ _ _ ?_)
      exact rfl
  · skip
    refine W.iload C m0_163 rfl ?_
    refine W.ifN C m0_165 (show ¬ (z4.toInt ≤ (0 : Int)) from (by omega)) ?_
    refine W.aload C m0_168 rfl rfl ?_
    refine W.iload C m0_170 rfl ?_
    refine W.iloadN C m0_172 rfl ?_
    refine W.callV (y := mY6) (wt := 0) C m0_173 (hw _ (List.mem_of_getElem? (i := 26) rfl)) (hw _ (List.mem_of_getElem? (i := 27) rfl)) (hw _ (List.mem_of_getElem? (i := 29) rfl)) (hw _ (List.mem_of_getElem? (i := 28) rfl)) (hw _ (List.mem_of_getElem? (i := 7) rfl)) (hw _ (List.mem_of_getElem? (i := 30) rfl)) (by decide) (own_mpE P21) pd6 rfl (own_put8 Z a0 hw a11 v1 p3 0 (fun _ _ => False) h22 n0 hpv1 (by decide) P21) (as' := [(.int v1), (.int p3)]) (rest := []) rfl rfl (Nat.le_of_eq rfl) (by decide) (by decide) (by decide) (by decide) ?_
    intro r74 h72 q73
    obtain ⟨rfl, P71⟩ := q73
    show W κ n0 Qx h72 2 35 176 [.val (.int p0), .val (.int p1), .val (.int p2), .val (.int p3), .val (.int p4), .val (.int p5), .val (.int (2147483647 : Int32)), .val (.int v1), .val (.int v2), .val (.int v3), .val (.int w10), .val (.int w11), .val (.int z4), .val (.int v8), .val (.int w9), .val (.ref a11), .unset] []
    refine W.iload C m0_176 rfl ?_
    refine W.iconst C m0_178 (z := (1 : Int32)) rfl ?_
    refine W.icmpN C m0_179 (show ¬ (z4.toInt ≤ (1 : Int)) from (by omega)) ?_
    refine W.aload C m0_182 rfl rfl ?_
    refine W.iload C m0_184 rfl ?_
    refine W.iloadN C m0_186 rfl ?_
    refine W.iconst C m0_187 (z := (1 : Int32)) rfl ?_
    refine W.iadd C m0_188 rfl ?_
    refine W.callV (y := mY6) (wt := 0) C m0_189 (hw _ (List.mem_of_getElem? (i := 26) rfl)) (hw _ (List.mem_of_getElem? (i := 27) rfl)) (hw _ (List.mem_of_getElem? (i := 29) rfl)) (hw _ (List.mem_of_getElem? (i := 28) rfl)) (hw _ (List.mem_of_getElem? (i := 7) rfl)) (hw _ (List.mem_of_getElem? (i := 30) rfl)) (by decide) (own_mpE P71) pd6 rfl (own_put8 Z a0 hw a11 v2 (p3 + (1 : Int32)) 1 (own_up (fun _ _ => False) v1 p3) h72 n0 hpv2 (by decide) P71) (as' := [(.int v2), (.int (p3 + (1 : Int32)))]) (rest := []) rfl rfl (Nat.le_of_eq rfl) (by decide) (by decide) (by decide) (by decide) ?_
    intro r78 h76 q77
    obtain ⟨rfl, P75⟩ := q77
    show W κ n0 Qx h76 2 35 192 [.val (.int p0), .val (.int p1), .val (.int p2), .val (.int p3), .val (.int p4), .val (.int p5), .val (.int (2147483647 : Int32)), .val (.int v1), .val (.int v2), .val (.int v3), .val (.int w10), .val (.int w11), .val (.int z4), .val (.int v8), .val (.int w9), .val (.ref a11), .unset] []
    refine W.iload C m0_192 rfl ?_
    refine W.iconst C m0_194 (z := (2 : Int32)) rfl ?_
    refine W.icmpN C m0_195 (show ¬ (z4.toInt ≤ (2 : Int)) from (by omega)) ?_
    refine W.aload C m0_198 rfl rfl ?_
    refine W.iload C m0_200 rfl ?_
    refine W.iloadN C m0_202 rfl ?_
    refine W.iconst C m0_203 (z := (2 : Int32)) rfl ?_
    refine W.iadd C m0_204 rfl ?_
    refine W.callV (y := mY6) (wt := 0) C m0_205 (hw _ (List.mem_of_getElem? (i := 26) rfl)) (hw _ (List.mem_of_getElem? (i := 27) rfl)) (hw _ (List.mem_of_getElem? (i := 29) rfl)) (hw _ (List.mem_of_getElem? (i := 28) rfl)) (hw _ (List.mem_of_getElem? (i := 7) rfl)) (hw _ (List.mem_of_getElem? (i := 30) rfl)) (by decide) (own_mpE P75) pd6 rfl (own_put8 Z a0 hw a11 v3 (p3 + (2 : Int32)) 2 (own_up (own_up (fun _ _ => False) v1 p3) v2 (p3 + (1 : Int32))) h76 n0 hpv3 (by decide) P75) (as' := [(.int v3), (.int (p3 + (2 : Int32)))]) (rest := []) rfl rfl (Nat.le_of_eq rfl) (by decide) (by decide) (by decide) (by decide) ?_
    intro r82 h80 q81
    obtain ⟨rfl, P79⟩ := q81
    show W κ n0 Qx h80 2 35 208 [.val (.int p0), .val (.int p1), .val (.int p2), .val (.int p3), .val (.int p4), .val (.int p5), .val (.int (2147483647 : Int32)), .val (.int v1), .val (.int v2), .val (.int v3), .val (.int w10), .val (.int w11), .val (.int z4), .val (.int v8), .val (.int w9), .val (.ref a11), .unset] []
    refine W.iload C m0_208 rfl ?_
    refine W.iconst C m0_210 (z := (3 : Int32)) rfl ?_
    refine W.icmpN C m0_211 (show ¬ (z4.toInt ≤ (3 : Int)) from (by omega)) ?_
    refine W.aload C m0_214 rfl rfl ?_
    refine W.iload C m0_216 rfl ?_
    refine W.iloadN C m0_218 rfl ?_
    refine W.iconst C m0_219 (z := (3 : Int32)) rfl ?_
    refine W.iadd C m0_220 rfl ?_
    refine W.callV (y := mY6) (wt := 0) C m0_221 (hw _ (List.mem_of_getElem? (i := 26) rfl)) (hw _ (List.mem_of_getElem? (i := 27) rfl)) (hw _ (List.mem_of_getElem? (i := 29) rfl)) (hw _ (List.mem_of_getElem? (i := 28) rfl)) (hw _ (List.mem_of_getElem? (i := 7) rfl)) (hw _ (List.mem_of_getElem? (i := 30) rfl)) (by decide) (own_mpE P79) pd6 rfl (own_put8 Z a0 hw a11 w10 (p3 + (3 : Int32)) 3 (own_up (own_up (own_up (fun _ _ => False) v1 p3) v2 (p3 + (1 : Int32))) v3 (p3 + (2 : Int32))) h80 n0 hpw10 (by decide) P79) (as' := [(.int w10), (.int (p3 + (3 : Int32)))]) (rest := []) rfl rfl (Nat.le_of_eq rfl) (by decide) (by decide) (by decide) (by decide) ?_
    intro r86 h84 q85
    obtain ⟨rfl, P83⟩ := q85
    show W κ n0 Qx h84 2 35 224 [.val (.int p0), .val (.int p1), .val (.int p2), .val (.int p3), .val (.int p4), .val (.int p5), .val (.int (2147483647 : Int32)), .val (.int v1), .val (.int v2), .val (.int v3), .val (.int w10), .val (.int w11), .val (.int z4), .val (.int v8), .val (.int w9), .val (.ref a11), .unset] []
    refine W.iload C m0_224 rfl ?_
    refine W.iconst C m0_226 (z := (4 : Int32)) rfl ?_
    refine W.icmpY C m0_227 (show z4.toInt ≤ (4 : Int) from (by omega)) ?_
    refine W.iconst C m0_240 (z := (-1 : Int32)) rfl ?_
    refine W.istore C m0_241 (L' := [.val (.int p0), .val (.int p1), .val (.int p2), .val (.int p3), .val (.int p4), .val (.int p5), .val (.int (2147483647 : Int32)), .val (.int v1), .val (.int v2), .val (.int v3), .val (.int w10), .val (.int w11), .val (.int z4), .val (.int v8), .val (.int w9), .val (.ref a11), .val (.int (-1 : Int32))]) rfl ?_
    refine W.iload C m0_243 rfl ?_
    refine W.ifN C m0_245 (show ¬ (z4.toInt ≤ (0 : Int)) from (by omega)) ?_
    refine W.iload C m0_248 rfl ?_
    refine W.iload C m0_250 rfl ?_
    suffices Jc87 : ∀ c87 : Int32, own_E (own_up (fun _ _ => False) v1 p3) w9 c87 → W κ n0 Qx h84 2 35 258 [.val (.int p0), .val (.int p1), .val (.int p2), .val (.int p3), .val (.int p4), .val (.int p5), .val (.int (2147483647 : Int32)), .val (.int v1), .val (.int v2), .val (.int v3), .val (.int w10), .val (.int w11), .val (.int z4), .val (.int v8), .val (.int w9), .val (.ref a11), .val (.int c87)] [] by
      refine W.icmp C m0_252 ?_ ?_
      · intro (hc : ¬ w9.toInt = v1.toInt)
        exact Jc87 _ (own_Ene (own_E0 _) hc)
      · intro (hc : ¬ ¬ w9.toInt = v1.toInt)
        refine W.iloadN C m0_255 rfl ?_
        refine W.istore C m0_256 (L' := [.val (.int p0), .val (.int p1), .val (.int p2), .val (.int p3), .val (.int p4), .val (.int p5), .val (.int (2147483647 : Int32)), .val (.int v1), .val (.int v2), .val (.int v3), .val (.int w10), .val (.int w11), .val (.int z4), .val (.int v8), .val (.int w9), .val (.ref a11), .val (.int p3)]) rfl ?_
        exact Jc87 _ (own_Eeq hc)
    intro c87 hc87
    refine W.iload C m0_258 rfl ?_
    refine W.iconst C m0_260 (z := (1 : Int32)) rfl ?_
    refine W.icmpN C m0_261 (show ¬ (z4.toInt ≤ (1 : Int)) from (by omega)) ?_
    refine W.iload C m0_264 rfl ?_
    refine W.iload C m0_266 rfl ?_
    suffices Jc88 : ∀ c88 : Int32, own_E (own_up (own_up (fun _ _ => False) v1 p3) v2 (p3 + (1 : Int32))) w9 c88 → W κ n0 Qx h84 2 35 276 [.val (.int p0), .val (.int p1), .val (.int p2), .val (.int p3), .val (.int p4), .val (.int p5), .val (.int (2147483647 : Int32)), .val (.int v1), .val (.int v2), .val (.int v3), .val (.int w10), .val (.int w11), .val (.int z4), .val (.int v8), .val (.int w9), .val (.ref a11), .val (.int c88)] [] by
      refine W.icmp C m0_268 ?_ ?_
      · intro (hc : ¬ w9.toInt = v2.toInt)
        exact Jc88 _ (own_Ene hc87 hc)
      · intro (hc : ¬ ¬ w9.toInt = v2.toInt)
        refine W.iloadN C m0_271 rfl ?_
        refine W.iconst C m0_272 (z := (1 : Int32)) rfl ?_
        refine W.iadd C m0_273 rfl ?_
        refine W.istore C m0_274 (L' := [.val (.int p0), .val (.int p1), .val (.int p2), .val (.int p3), .val (.int p4), .val (.int p5), .val (.int (2147483647 : Int32)), .val (.int v1), .val (.int v2), .val (.int v3), .val (.int w10), .val (.int w11), .val (.int z4), .val (.int v8), .val (.int w9), .val (.ref a11), .val (.int (p3 + (1 : Int32)))]) rfl ?_
        exact Jc88 _ (own_Eeq hc)
    intro c88 hc88
    refine W.iload C m0_276 rfl ?_
    refine W.iconst C m0_278 (z := (2 : Int32)) rfl ?_
    refine W.icmpN C m0_279 (show ¬ (z4.toInt ≤ (2 : Int)) from (by omega)) ?_
    refine W.iload C m0_282 rfl ?_
    refine W.iload C m0_284 rfl ?_
    suffices Jc89 : ∀ c89 : Int32, own_E (own_up (own_up (own_up (fun _ _ => False) v1 p3) v2 (p3 + (1 : Int32))) v3 (p3 + (2 : Int32))) w9 c89 → W κ n0 Qx h84 2 35 294 [.val (.int p0), .val (.int p1), .val (.int p2), .val (.int p3), .val (.int p4), .val (.int p5), .val (.int (2147483647 : Int32)), .val (.int v1), .val (.int v2), .val (.int v3), .val (.int w10), .val (.int w11), .val (.int z4), .val (.int v8), .val (.int w9), .val (.ref a11), .val (.int c89)] [] by
      refine W.icmp C m0_286 ?_ ?_
      · intro (hc : ¬ w9.toInt = v3.toInt)
        exact Jc89 _ (own_Ene hc88 hc)
      · intro (hc : ¬ ¬ w9.toInt = v3.toInt)
        refine W.iloadN C m0_289 rfl ?_
        refine W.iconst C m0_290 (z := (2 : Int32)) rfl ?_
        refine W.iadd C m0_291 rfl ?_
        refine W.istore C m0_292 (L' := [.val (.int p0), .val (.int p1), .val (.int p2), .val (.int p3), .val (.int p4), .val (.int p5), .val (.int (2147483647 : Int32)), .val (.int v1), .val (.int v2), .val (.int v3), .val (.int w10), .val (.int w11), .val (.int z4), .val (.int v8), .val (.int w9), .val (.ref a11), .val (.int (p3 + (2 : Int32)))]) rfl ?_
        exact Jc89 _ (own_Eeq hc)
    intro c89 hc89
    refine W.iload C m0_294 rfl ?_
    refine W.iconst C m0_296 (z := (3 : Int32)) rfl ?_
    refine W.icmpN C m0_297 (show ¬ (z4.toInt ≤ (3 : Int)) from (by omega)) ?_
    refine W.iload C m0_300 rfl ?_
    refine W.iload C m0_302 rfl ?_
    suffices Jc90 : ∀ c90 : Int32, own_E (own_up (own_up (own_up (own_up (fun _ _ => False) v1 p3) v2 (p3 + (1 : Int32))) v3 (p3 + (2 : Int32))) w10 (p3 + (3 : Int32))) w9 c90 → W κ n0 Qx h84 2 35 312 [.val (.int p0), .val (.int p1), .val (.int p2), .val (.int p3), .val (.int p4), .val (.int p5), .val (.int (2147483647 : Int32)), .val (.int v1), .val (.int v2), .val (.int v3), .val (.int w10), .val (.int w11), .val (.int z4), .val (.int v8), .val (.int w9), .val (.ref a11), .val (.int c90)] [] by
      refine W.icmp C m0_304 ?_ ?_
      · intro (hc : ¬ w9.toInt = w10.toInt)
        exact Jc90 _ (own_Ene hc89 hc)
      · intro (hc : ¬ ¬ w9.toInt = w10.toInt)
        refine W.iloadN C m0_307 rfl ?_
        refine W.iconst C m0_308 (z := (3 : Int32)) rfl ?_
        refine W.iadd C m0_309 rfl ?_
        refine W.istore C m0_310 (L' := [.val (.int p0), .val (.int p1), .val (.int p2), .val (.int p3), .val (.int p4), .val (.int p5), .val (.int (2147483647 : Int32)), .val (.int v1), .val (.int v2), .val (.int v3), .val (.int w10), .val (.int w11), .val (.int z4), .val (.int v8), .val (.int w9), .val (.ref a11), .val (.int (p3 + (3 : Int32)))]) rfl ?_
        exact Jc90 _ (own_Eeq hc)
    intro c90 hc90
    refine W.iload C m0_312 rfl ?_
    refine W.iconst C m0_314 (z := (4 : Int32)) rfl ?_
    refine W.icmpY C m0_315 (show z4.toInt ≤ (4 : Int) from (by omega)) ?_
    refine W.aload C m0_330 rfl rfl ?_
    refine W.iload C m0_332 rfl ?_
    refine W.callV (y := mY8) (wt := 0) C m0_334 (hw _ (List.mem_of_getElem? (i := 37) rfl)) (hw _ (List.mem_of_getElem? (i := 38) rfl)) (hw _ (List.mem_of_getElem? (i := 40) rfl)) (hw _ (List.mem_of_getElem? (i := 39) rfl)) (hw _ (List.mem_of_getElem? (i := 7) rfl)) (hw _ (List.mem_of_getElem? (i := 41) rfl)) (by decide) (own_mpE P83) pd8 rfl (own_get8 Z a0 hw a11 w9 4 (own_up (own_up (own_up (own_up (fun _ _ => False) v1 p3) v2 (p3 + (1 : Int32))) v3 (p3 + (2 : Int32))) w10 (p3 + (3 : Int32))) h84 n0 (by decide) P83) (as' := [(.int w9)]) (rest := []) rfl rfl (Nat.le_of_eq rfl) (by decide) (by decide) (by decide) (by decide) ?_
    intro r94 h92 q93
    obtain ⟨rfl, r91, rfl, hr91⟩ := q93
    show W κ n0 Qx h84 2 35 337 [.val (.int p0), .val (.int p1), .val (.int p2), .val (.int p3), .val (.int p4), .val (.int p5), .val (.int (2147483647 : Int32)), .val (.int v1), .val (.int v2), .val (.int v3), .val (.int w10), .val (.int w11), .val (.int z4), .val (.int v8), .val (.int w9), .val (.ref a11), .val (.int c90)] [(.int r91)]
    refine W.iload C m0_337 rfl ?_
    refine W.icmp C m0_339 ?_ ?_
    · intro (h339 : ¬ r91.toInt = c90.toInt)
      refine W.iconst C m0_346 (z := (0 : Int32)) rfl ?_
      refine W.zreturn C m0_347 (hQ _ _ ?_)
      exfalso
      exact h339 (by have hh := own_fin hc90 (own_Posu (own_Posu (own_Posu (own_Posu own_Pos0 hpv1) hpv2) hpv3) hpw10) hr91; rw [hh]; try rfl)
    · intro (h339 : ¬ ¬ r91.toInt = c90.toInt)
      replace h339 := Decidable.not_not.mp h339
      refine W.iconst C m0_342 (z := (1 : Int32)) rfl ?_
      refine W.goto C m0_343 ?_
      refine W.zreturn C m0_347 (hQ _ _ ?_)
      exact rfl
  · skip
    refine W.iload C m0_163 rfl ?_
    refine W.ifN C m0_165 (show ¬ (z4.toInt ≤ (0 : Int)) from (by omega)) ?_
    refine W.aload C m0_168 rfl rfl ?_
    refine W.iload C m0_170 rfl ?_
    refine W.iloadN C m0_172 rfl ?_
    refine W.callV (y := mY6) (wt := 0) C m0_173 (hw _ (List.mem_of_getElem? (i := 26) rfl)) (hw _ (List.mem_of_getElem? (i := 27) rfl)) (hw _ (List.mem_of_getElem? (i := 29) rfl)) (hw _ (List.mem_of_getElem? (i := 28) rfl)) (hw _ (List.mem_of_getElem? (i := 7) rfl)) (hw _ (List.mem_of_getElem? (i := 30) rfl)) (by decide) (own_mpE P21) pd6 rfl (own_put8 Z a0 hw a11 v1 p3 0 (fun _ _ => False) h22 n0 hpv1 (by decide) P21) (as' := [(.int v1), (.int p3)]) (rest := []) rfl rfl (Nat.le_of_eq rfl) (by decide) (by decide) (by decide) (by decide) ?_
    intro r98 h96 q97
    obtain ⟨rfl, P95⟩ := q97
    show W κ n0 Qx h96 2 35 176 [.val (.int p0), .val (.int p1), .val (.int p2), .val (.int p3), .val (.int p4), .val (.int p5), .val (.int (2147483647 : Int32)), .val (.int v1), .val (.int v2), .val (.int v3), .val (.int w10), .val (.int w11), .val (.int z4), .val (.int v8), .val (.int w9), .val (.ref a11), .unset] []
    refine W.iload C m0_176 rfl ?_
    refine W.iconst C m0_178 (z := (1 : Int32)) rfl ?_
    refine W.icmpN C m0_179 (show ¬ (z4.toInt ≤ (1 : Int)) from (by omega)) ?_
    refine W.aload C m0_182 rfl rfl ?_
    refine W.iload C m0_184 rfl ?_
    refine W.iloadN C m0_186 rfl ?_
    refine W.iconst C m0_187 (z := (1 : Int32)) rfl ?_
    refine W.iadd C m0_188 rfl ?_
    refine W.callV (y := mY6) (wt := 0) C m0_189 (hw _ (List.mem_of_getElem? (i := 26) rfl)) (hw _ (List.mem_of_getElem? (i := 27) rfl)) (hw _ (List.mem_of_getElem? (i := 29) rfl)) (hw _ (List.mem_of_getElem? (i := 28) rfl)) (hw _ (List.mem_of_getElem? (i := 7) rfl)) (hw _ (List.mem_of_getElem? (i := 30) rfl)) (by decide) (own_mpE P95) pd6 rfl (own_put8 Z a0 hw a11 v2 (p3 + (1 : Int32)) 1 (own_up (fun _ _ => False) v1 p3) h96 n0 hpv2 (by decide) P95) (as' := [(.int v2), (.int (p3 + (1 : Int32)))]) (rest := []) rfl rfl (Nat.le_of_eq rfl) (by decide) (by decide) (by decide) (by decide) ?_
    intro r102 h100 q101
    obtain ⟨rfl, P99⟩ := q101
    show W κ n0 Qx h100 2 35 192 [.val (.int p0), .val (.int p1), .val (.int p2), .val (.int p3), .val (.int p4), .val (.int p5), .val (.int (2147483647 : Int32)), .val (.int v1), .val (.int v2), .val (.int v3), .val (.int w10), .val (.int w11), .val (.int z4), .val (.int v8), .val (.int w9), .val (.ref a11), .unset] []
    refine W.iload C m0_192 rfl ?_
    refine W.iconst C m0_194 (z := (2 : Int32)) rfl ?_
    refine W.icmpN C m0_195 (show ¬ (z4.toInt ≤ (2 : Int)) from (by omega)) ?_
    refine W.aload C m0_198 rfl rfl ?_
    refine W.iload C m0_200 rfl ?_
    refine W.iloadN C m0_202 rfl ?_
    refine W.iconst C m0_203 (z := (2 : Int32)) rfl ?_
    refine W.iadd C m0_204 rfl ?_
    refine W.callV (y := mY6) (wt := 0) C m0_205 (hw _ (List.mem_of_getElem? (i := 26) rfl)) (hw _ (List.mem_of_getElem? (i := 27) rfl)) (hw _ (List.mem_of_getElem? (i := 29) rfl)) (hw _ (List.mem_of_getElem? (i := 28) rfl)) (hw _ (List.mem_of_getElem? (i := 7) rfl)) (hw _ (List.mem_of_getElem? (i := 30) rfl)) (by decide) (own_mpE P99) pd6 rfl (own_put8 Z a0 hw a11 v3 (p3 + (2 : Int32)) 2 (own_up (own_up (fun _ _ => False) v1 p3) v2 (p3 + (1 : Int32))) h100 n0 hpv3 (by decide) P99) (as' := [(.int v3), (.int (p3 + (2 : Int32)))]) (rest := []) rfl rfl (Nat.le_of_eq rfl) (by decide) (by decide) (by decide) (by decide) ?_
    intro r106 h104 q105
    obtain ⟨rfl, P103⟩ := q105
    show W κ n0 Qx h104 2 35 208 [.val (.int p0), .val (.int p1), .val (.int p2), .val (.int p3), .val (.int p4), .val (.int p5), .val (.int (2147483647 : Int32)), .val (.int v1), .val (.int v2), .val (.int v3), .val (.int w10), .val (.int w11), .val (.int z4), .val (.int v8), .val (.int w9), .val (.ref a11), .unset] []
    refine W.iload C m0_208 rfl ?_
    refine W.iconst C m0_210 (z := (3 : Int32)) rfl ?_
    refine W.icmpN C m0_211 (show ¬ (z4.toInt ≤ (3 : Int)) from (by omega)) ?_
    refine W.aload C m0_214 rfl rfl ?_
    refine W.iload C m0_216 rfl ?_
    refine W.iloadN C m0_218 rfl ?_
    refine W.iconst C m0_219 (z := (3 : Int32)) rfl ?_
    refine W.iadd C m0_220 rfl ?_
    refine W.callV (y := mY6) (wt := 0) C m0_221 (hw _ (List.mem_of_getElem? (i := 26) rfl)) (hw _ (List.mem_of_getElem? (i := 27) rfl)) (hw _ (List.mem_of_getElem? (i := 29) rfl)) (hw _ (List.mem_of_getElem? (i := 28) rfl)) (hw _ (List.mem_of_getElem? (i := 7) rfl)) (hw _ (List.mem_of_getElem? (i := 30) rfl)) (by decide) (own_mpE P103) pd6 rfl (own_put8 Z a0 hw a11 w10 (p3 + (3 : Int32)) 3 (own_up (own_up (own_up (fun _ _ => False) v1 p3) v2 (p3 + (1 : Int32))) v3 (p3 + (2 : Int32))) h104 n0 hpw10 (by decide) P103) (as' := [(.int w10), (.int (p3 + (3 : Int32)))]) (rest := []) rfl rfl (Nat.le_of_eq rfl) (by decide) (by decide) (by decide) (by decide) ?_
    intro r110 h108 q109
    obtain ⟨rfl, P107⟩ := q109
    show W κ n0 Qx h108 2 35 224 [.val (.int p0), .val (.int p1), .val (.int p2), .val (.int p3), .val (.int p4), .val (.int p5), .val (.int (2147483647 : Int32)), .val (.int v1), .val (.int v2), .val (.int v3), .val (.int w10), .val (.int w11), .val (.int z4), .val (.int v8), .val (.int w9), .val (.ref a11), .unset] []
    refine W.iload C m0_224 rfl ?_
    refine W.iconst C m0_226 (z := (4 : Int32)) rfl ?_
    refine W.icmpN C m0_227 (show ¬ (z4.toInt ≤ (4 : Int)) from (by omega)) ?_
    refine W.aload C m0_230 rfl rfl ?_
    refine W.iload C m0_232 rfl ?_
    refine W.iloadN C m0_234 rfl ?_
    refine W.iconst C m0_235 (z := (4 : Int32)) rfl ?_
    refine W.iadd C m0_236 rfl ?_
    refine W.callV (y := mY6) (wt := 0) C m0_237 (hw _ (List.mem_of_getElem? (i := 26) rfl)) (hw _ (List.mem_of_getElem? (i := 27) rfl)) (hw _ (List.mem_of_getElem? (i := 29) rfl)) (hw _ (List.mem_of_getElem? (i := 28) rfl)) (hw _ (List.mem_of_getElem? (i := 7) rfl)) (hw _ (List.mem_of_getElem? (i := 30) rfl)) (by decide) (own_mpE P107) pd6 rfl (own_put8g Z a0 hw a11 w11 (p3 + (4 : Int32)) 4 (own_up (own_up (own_up (own_up (fun _ _ => False) v1 p3) v2 (p3 + (1 : Int32))) v3 (p3 + (2 : Int32))) w10 (p3 + (3 : Int32))) h108 n0 hpw11 (by decide) P107) (as' := [(.int w11), (.int (p3 + (4 : Int32)))]) (rest := []) rfl rfl (Nat.le_of_eq rfl) (by decide) (by decide) (by decide) (by decide) ?_
    intro r114 h112 q113
    obtain ⟨rfl, P111⟩ := q113
    show W κ n0 Qx h112 3 67 240 [.val (.int p0), .val (.int p1), .val (.int p2), .val (.int p3), .val (.int p4), .val (.int p5), .val (.int (2147483647 : Int32)), .val (.int v1), .val (.int v2), .val (.int v3), .val (.int w10), .val (.int w11), .val (.int z4), .val (.int v8), .val (.int w9), .val (.ref a11), .unset] []
    rcases P111 with P111 | P111
    · skip
      refine W.iconst C m0_240 (z := (-1 : Int32)) rfl ?_
      refine W.istore C m0_241 (L' := [.val (.int p0), .val (.int p1), .val (.int p2), .val (.int p3), .val (.int p4), .val (.int p5), .val (.int (2147483647 : Int32)), .val (.int v1), .val (.int v2), .val (.int v3), .val (.int w10), .val (.int w11), .val (.int z4), .val (.int v8), .val (.int w9), .val (.ref a11), .val (.int (-1 : Int32))]) rfl ?_
      refine W.iload C m0_243 rfl ?_
      refine W.ifN C m0_245 (show ¬ (z4.toInt ≤ (0 : Int)) from (by omega)) ?_
      refine W.iload C m0_248 rfl ?_
      refine W.iload C m0_250 rfl ?_
      suffices Jc115 : ∀ c115 : Int32, own_E (own_up (fun _ _ => False) v1 p3) w9 c115 → W κ n0 Qx h112 3 67 258 [.val (.int p0), .val (.int p1), .val (.int p2), .val (.int p3), .val (.int p4), .val (.int p5), .val (.int (2147483647 : Int32)), .val (.int v1), .val (.int v2), .val (.int v3), .val (.int w10), .val (.int w11), .val (.int z4), .val (.int v8), .val (.int w9), .val (.ref a11), .val (.int c115)] [] by
        refine W.icmp C m0_252 ?_ ?_
        · intro (hc : ¬ w9.toInt = v1.toInt)
          exact Jc115 _ (own_Ene (own_E0 _) hc)
        · intro (hc : ¬ ¬ w9.toInt = v1.toInt)
          refine W.iloadN C m0_255 rfl ?_
          refine W.istore C m0_256 (L' := [.val (.int p0), .val (.int p1), .val (.int p2), .val (.int p3), .val (.int p4), .val (.int p5), .val (.int (2147483647 : Int32)), .val (.int v1), .val (.int v2), .val (.int v3), .val (.int w10), .val (.int w11), .val (.int z4), .val (.int v8), .val (.int w9), .val (.ref a11), .val (.int p3)]) rfl ?_
          exact Jc115 _ (own_Eeq hc)
      intro c115 hc115
      refine W.iload C m0_258 rfl ?_
      refine W.iconst C m0_260 (z := (1 : Int32)) rfl ?_
      refine W.icmpN C m0_261 (show ¬ (z4.toInt ≤ (1 : Int)) from (by omega)) ?_
      refine W.iload C m0_264 rfl ?_
      refine W.iload C m0_266 rfl ?_
      suffices Jc116 : ∀ c116 : Int32, own_E (own_up (own_up (fun _ _ => False) v1 p3) v2 (p3 + (1 : Int32))) w9 c116 → W κ n0 Qx h112 3 67 276 [.val (.int p0), .val (.int p1), .val (.int p2), .val (.int p3), .val (.int p4), .val (.int p5), .val (.int (2147483647 : Int32)), .val (.int v1), .val (.int v2), .val (.int v3), .val (.int w10), .val (.int w11), .val (.int z4), .val (.int v8), .val (.int w9), .val (.ref a11), .val (.int c116)] [] by
        refine W.icmp C m0_268 ?_ ?_
        · intro (hc : ¬ w9.toInt = v2.toInt)
          exact Jc116 _ (own_Ene hc115 hc)
        · intro (hc : ¬ ¬ w9.toInt = v2.toInt)
          refine W.iloadN C m0_271 rfl ?_
          refine W.iconst C m0_272 (z := (1 : Int32)) rfl ?_
          refine W.iadd C m0_273 rfl ?_
          refine W.istore C m0_274 (L' := [.val (.int p0), .val (.int p1), .val (.int p2), .val (.int p3), .val (.int p4), .val (.int p5), .val (.int (2147483647 : Int32)), .val (.int v1), .val (.int v2), .val (.int v3), .val (.int w10), .val (.int w11), .val (.int z4), .val (.int v8), .val (.int w9), .val (.ref a11), .val (.int (p3 + (1 : Int32)))]) rfl ?_
          exact Jc116 _ (own_Eeq hc)
      intro c116 hc116
      refine W.iload C m0_276 rfl ?_
      refine W.iconst C m0_278 (z := (2 : Int32)) rfl ?_
      refine W.icmpN C m0_279 (show ¬ (z4.toInt ≤ (2 : Int)) from (by omega)) ?_
      refine W.iload C m0_282 rfl ?_
      refine W.iload C m0_284 rfl ?_
      suffices Jc117 : ∀ c117 : Int32, own_E (own_up (own_up (own_up (fun _ _ => False) v1 p3) v2 (p3 + (1 : Int32))) v3 (p3 + (2 : Int32))) w9 c117 → W κ n0 Qx h112 3 67 294 [.val (.int p0), .val (.int p1), .val (.int p2), .val (.int p3), .val (.int p4), .val (.int p5), .val (.int (2147483647 : Int32)), .val (.int v1), .val (.int v2), .val (.int v3), .val (.int w10), .val (.int w11), .val (.int z4), .val (.int v8), .val (.int w9), .val (.ref a11), .val (.int c117)] [] by
        refine W.icmp C m0_286 ?_ ?_
        · intro (hc : ¬ w9.toInt = v3.toInt)
          exact Jc117 _ (own_Ene hc116 hc)
        · intro (hc : ¬ ¬ w9.toInt = v3.toInt)
          refine W.iloadN C m0_289 rfl ?_
          refine W.iconst C m0_290 (z := (2 : Int32)) rfl ?_
          refine W.iadd C m0_291 rfl ?_
          refine W.istore C m0_292 (L' := [.val (.int p0), .val (.int p1), .val (.int p2), .val (.int p3), .val (.int p4), .val (.int p5), .val (.int (2147483647 : Int32)), .val (.int v1), .val (.int v2), .val (.int v3), .val (.int w10), .val (.int w11), .val (.int z4), .val (.int v8), .val (.int w9), .val (.ref a11), .val (.int (p3 + (2 : Int32)))]) rfl ?_
          exact Jc117 _ (own_Eeq hc)
      intro c117 hc117
      refine W.iload C m0_294 rfl ?_
      refine W.iconst C m0_296 (z := (3 : Int32)) rfl ?_
      refine W.icmpN C m0_297 (show ¬ (z4.toInt ≤ (3 : Int)) from (by omega)) ?_
      refine W.iload C m0_300 rfl ?_
      refine W.iload C m0_302 rfl ?_
      suffices Jc118 : ∀ c118 : Int32, own_E (own_up (own_up (own_up (own_up (fun _ _ => False) v1 p3) v2 (p3 + (1 : Int32))) v3 (p3 + (2 : Int32))) w10 (p3 + (3 : Int32))) w9 c118 → W κ n0 Qx h112 3 67 312 [.val (.int p0), .val (.int p1), .val (.int p2), .val (.int p3), .val (.int p4), .val (.int p5), .val (.int (2147483647 : Int32)), .val (.int v1), .val (.int v2), .val (.int v3), .val (.int w10), .val (.int w11), .val (.int z4), .val (.int v8), .val (.int w9), .val (.ref a11), .val (.int c118)] [] by
        refine W.icmp C m0_304 ?_ ?_
        · intro (hc : ¬ w9.toInt = w10.toInt)
          exact Jc118 _ (own_Ene hc117 hc)
        · intro (hc : ¬ ¬ w9.toInt = w10.toInt)
          refine W.iloadN C m0_307 rfl ?_
          refine W.iconst C m0_308 (z := (3 : Int32)) rfl ?_
          refine W.iadd C m0_309 rfl ?_
          refine W.istore C m0_310 (L' := [.val (.int p0), .val (.int p1), .val (.int p2), .val (.int p3), .val (.int p4), .val (.int p5), .val (.int (2147483647 : Int32)), .val (.int v1), .val (.int v2), .val (.int v3), .val (.int w10), .val (.int w11), .val (.int z4), .val (.int v8), .val (.int w9), .val (.ref a11), .val (.int (p3 + (3 : Int32)))]) rfl ?_
          exact Jc118 _ (own_Eeq hc)
      intro c118 hc118
      refine W.iload C m0_312 rfl ?_
      refine W.iconst C m0_314 (z := (4 : Int32)) rfl ?_
      refine W.icmpN C m0_315 (show ¬ (z4.toInt ≤ (4 : Int)) from (by omega)) ?_
      refine W.iload C m0_318 rfl ?_
      refine W.iload C m0_320 rfl ?_
      suffices Jc119 : ∀ c119 : Int32, own_E (own_up (own_up (own_up (own_up (own_up (fun _ _ => False) v1 p3) v2 (p3 + (1 : Int32))) v3 (p3 + (2 : Int32))) w10 (p3 + (3 : Int32))) w11 (p3 + (4 : Int32))) w9 c119 → W κ n0 Qx h112 3 67 330 [.val (.int p0), .val (.int p1), .val (.int p2), .val (.int p3), .val (.int p4), .val (.int p5), .val (.int (2147483647 : Int32)), .val (.int v1), .val (.int v2), .val (.int v3), .val (.int w10), .val (.int w11), .val (.int z4), .val (.int v8), .val (.int w9), .val (.ref a11), .val (.int c119)] [] by
        refine W.icmp C m0_322 ?_ ?_
        · intro (hc : ¬ w9.toInt = w11.toInt)
          exact Jc119 _ (own_Ene hc118 hc)
        · intro (hc : ¬ ¬ w9.toInt = w11.toInt)
          refine W.iloadN C m0_325 rfl ?_
          refine W.iconst C m0_326 (z := (4 : Int32)) rfl ?_
          refine W.iadd C m0_327 rfl ?_
          refine W.istore C m0_328 (L' := [.val (.int p0), .val (.int p1), .val (.int p2), .val (.int p3), .val (.int p4), .val (.int p5), .val (.int (2147483647 : Int32)), .val (.int v1), .val (.int v2), .val (.int v3), .val (.int w10), .val (.int w11), .val (.int z4), .val (.int v8), .val (.int w9), .val (.ref a11), .val (.int (p3 + (4 : Int32)))]) rfl ?_
          exact Jc119 _ (own_Eeq hc)
      intro c119 hc119
      refine W.aload C m0_330 rfl rfl ?_
      refine W.iload C m0_332 rfl ?_
      refine W.callV (y := mY8) (wt := 0) C m0_334 (hw _ (List.mem_of_getElem? (i := 37) rfl)) (hw _ (List.mem_of_getElem? (i := 38) rfl)) (hw _ (List.mem_of_getElem? (i := 40) rfl)) (hw _ (List.mem_of_getElem? (i := 39) rfl)) (hw _ (List.mem_of_getElem? (i := 7) rfl)) (hw _ (List.mem_of_getElem? (i := 41) rfl)) (by decide) (own_mpE P111) pd8 rfl (own_get8 Z a0 hw a11 w9 5 (own_up (own_up (own_up (own_up (own_up (fun _ _ => False) v1 p3) v2 (p3 + (1 : Int32))) v3 (p3 + (2 : Int32))) w10 (p3 + (3 : Int32))) w11 (p3 + (4 : Int32))) h112 n0 (by decide) P111) (as' := [(.int w9)]) (rest := []) rfl rfl (Nat.le_of_eq rfl) (by decide) (by decide) (by decide) (by decide) ?_
      intro r123 h121 q122
      obtain ⟨rfl, r120, rfl, hr120⟩ := q122
      show W κ n0 Qx h112 3 67 337 [.val (.int p0), .val (.int p1), .val (.int p2), .val (.int p3), .val (.int p4), .val (.int p5), .val (.int (2147483647 : Int32)), .val (.int v1), .val (.int v2), .val (.int v3), .val (.int w10), .val (.int w11), .val (.int z4), .val (.int v8), .val (.int w9), .val (.ref a11), .val (.int c119)] [(.int r120)]
      refine W.iload C m0_337 rfl ?_
      refine W.icmp C m0_339 ?_ ?_
      · intro (h339 : ¬ r120.toInt = c119.toInt)
        refine W.iconst C m0_346 (z := (0 : Int32)) rfl ?_
        refine W.zreturn C m0_347 (hQ _ _ ?_)
        exfalso
        exact h339 (by have hh := own_fin hc119 (own_Posu (own_Posu (own_Posu (own_Posu (own_Posu own_Pos0 hpv1) hpv2) hpv3) hpw10) hpw11) hr120; rw [hh]; try rfl)
      · intro (h339 : ¬ ¬ r120.toInt = c119.toInt)
        replace h339 := Decidable.not_not.mp h339
        refine W.iconst C m0_342 (z := (1 : Int32)) rfl ?_
        refine W.goto C m0_343 ?_
        refine W.zreturn C m0_347 (hQ _ _ ?_)
        exact rfl
    · skip
      refine W.iconst C m0_240 (z := (-1 : Int32)) rfl ?_
      refine W.istore C m0_241 (L' := [.val (.int p0), .val (.int p1), .val (.int p2), .val (.int p3), .val (.int p4), .val (.int p5), .val (.int (2147483647 : Int32)), .val (.int v1), .val (.int v2), .val (.int v3), .val (.int w10), .val (.int w11), .val (.int z4), .val (.int v8), .val (.int w9), .val (.ref a11), .val (.int (-1 : Int32))]) rfl ?_
      refine W.iload C m0_243 rfl ?_
      refine W.ifN C m0_245 (show ¬ (z4.toInt ≤ (0 : Int)) from (by omega)) ?_
      refine W.iload C m0_248 rfl ?_
      refine W.iload C m0_250 rfl ?_
      suffices Jc124 : ∀ c124 : Int32, own_E (own_up (fun _ _ => False) v1 p3) w9 c124 → W κ n0 Qx h112 3 67 258 [.val (.int p0), .val (.int p1), .val (.int p2), .val (.int p3), .val (.int p4), .val (.int p5), .val (.int (2147483647 : Int32)), .val (.int v1), .val (.int v2), .val (.int v3), .val (.int w10), .val (.int w11), .val (.int z4), .val (.int v8), .val (.int w9), .val (.ref a11), .val (.int c124)] [] by
        refine W.icmp C m0_252 ?_ ?_
        · intro (hc : ¬ w9.toInt = v1.toInt)
          exact Jc124 _ (own_Ene (own_E0 _) hc)
        · intro (hc : ¬ ¬ w9.toInt = v1.toInt)
          refine W.iloadN C m0_255 rfl ?_
          refine W.istore C m0_256 (L' := [.val (.int p0), .val (.int p1), .val (.int p2), .val (.int p3), .val (.int p4), .val (.int p5), .val (.int (2147483647 : Int32)), .val (.int v1), .val (.int v2), .val (.int v3), .val (.int w10), .val (.int w11), .val (.int z4), .val (.int v8), .val (.int w9), .val (.ref a11), .val (.int p3)]) rfl ?_
          exact Jc124 _ (own_Eeq hc)
      intro c124 hc124
      refine W.iload C m0_258 rfl ?_
      refine W.iconst C m0_260 (z := (1 : Int32)) rfl ?_
      refine W.icmpN C m0_261 (show ¬ (z4.toInt ≤ (1 : Int)) from (by omega)) ?_
      refine W.iload C m0_264 rfl ?_
      refine W.iload C m0_266 rfl ?_
      suffices Jc125 : ∀ c125 : Int32, own_E (own_up (own_up (fun _ _ => False) v1 p3) v2 (p3 + (1 : Int32))) w9 c125 → W κ n0 Qx h112 3 67 276 [.val (.int p0), .val (.int p1), .val (.int p2), .val (.int p3), .val (.int p4), .val (.int p5), .val (.int (2147483647 : Int32)), .val (.int v1), .val (.int v2), .val (.int v3), .val (.int w10), .val (.int w11), .val (.int z4), .val (.int v8), .val (.int w9), .val (.ref a11), .val (.int c125)] [] by
        refine W.icmp C m0_268 ?_ ?_
        · intro (hc : ¬ w9.toInt = v2.toInt)
          exact Jc125 _ (own_Ene hc124 hc)
        · intro (hc : ¬ ¬ w9.toInt = v2.toInt)
          refine W.iloadN C m0_271 rfl ?_
          refine W.iconst C m0_272 (z := (1 : Int32)) rfl ?_
          refine W.iadd C m0_273 rfl ?_
          refine W.istore C m0_274 (L' := [.val (.int p0), .val (.int p1), .val (.int p2), .val (.int p3), .val (.int p4), .val (.int p5), .val (.int (2147483647 : Int32)), .val (.int v1), .val (.int v2), .val (.int v3), .val (.int w10), .val (.int w11), .val (.int z4), .val (.int v8), .val (.int w9), .val (.ref a11), .val (.int (p3 + (1 : Int32)))]) rfl ?_
          exact Jc125 _ (own_Eeq hc)
      intro c125 hc125
      refine W.iload C m0_276 rfl ?_
      refine W.iconst C m0_278 (z := (2 : Int32)) rfl ?_
      refine W.icmpN C m0_279 (show ¬ (z4.toInt ≤ (2 : Int)) from (by omega)) ?_
      refine W.iload C m0_282 rfl ?_
      refine W.iload C m0_284 rfl ?_
      suffices Jc126 : ∀ c126 : Int32, own_E (own_up (own_up (own_up (fun _ _ => False) v1 p3) v2 (p3 + (1 : Int32))) v3 (p3 + (2 : Int32))) w9 c126 → W κ n0 Qx h112 3 67 294 [.val (.int p0), .val (.int p1), .val (.int p2), .val (.int p3), .val (.int p4), .val (.int p5), .val (.int (2147483647 : Int32)), .val (.int v1), .val (.int v2), .val (.int v3), .val (.int w10), .val (.int w11), .val (.int z4), .val (.int v8), .val (.int w9), .val (.ref a11), .val (.int c126)] [] by
        refine W.icmp C m0_286 ?_ ?_
        · intro (hc : ¬ w9.toInt = v3.toInt)
          exact Jc126 _ (own_Ene hc125 hc)
        · intro (hc : ¬ ¬ w9.toInt = v3.toInt)
          refine W.iloadN C m0_289 rfl ?_
          refine W.iconst C m0_290 (z := (2 : Int32)) rfl ?_
          refine W.iadd C m0_291 rfl ?_
          refine W.istore C m0_292 (L' := [.val (.int p0), .val (.int p1), .val (.int p2), .val (.int p3), .val (.int p4), .val (.int p5), .val (.int (2147483647 : Int32)), .val (.int v1), .val (.int v2), .val (.int v3), .val (.int w10), .val (.int w11), .val (.int z4), .val (.int v8), .val (.int w9), .val (.ref a11), .val (.int (p3 + (2 : Int32)))]) rfl ?_
          exact Jc126 _ (own_Eeq hc)
      intro c126 hc126
      refine W.iload C m0_294 rfl ?_
      refine W.iconst C m0_296 (z := (3 : Int32)) rfl ?_
      refine W.icmpN C m0_297 (show ¬ (z4.toInt ≤ (3 : Int)) from (by omega)) ?_
      refine W.iload C m0_300 rfl ?_
      refine W.iload C m0_302 rfl ?_
      suffices Jc127 : ∀ c127 : Int32, own_E (own_up (own_up (own_up (own_up (fun _ _ => False) v1 p3) v2 (p3 + (1 : Int32))) v3 (p3 + (2 : Int32))) w10 (p3 + (3 : Int32))) w9 c127 → W κ n0 Qx h112 3 67 312 [.val (.int p0), .val (.int p1), .val (.int p2), .val (.int p3), .val (.int p4), .val (.int p5), .val (.int (2147483647 : Int32)), .val (.int v1), .val (.int v2), .val (.int v3), .val (.int w10), .val (.int w11), .val (.int z4), .val (.int v8), .val (.int w9), .val (.ref a11), .val (.int c127)] [] by
        refine W.icmp C m0_304 ?_ ?_
        · intro (hc : ¬ w9.toInt = w10.toInt)
          exact Jc127 _ (own_Ene hc126 hc)
        · intro (hc : ¬ ¬ w9.toInt = w10.toInt)
          refine W.iloadN C m0_307 rfl ?_
          refine W.iconst C m0_308 (z := (3 : Int32)) rfl ?_
          refine W.iadd C m0_309 rfl ?_
          refine W.istore C m0_310 (L' := [.val (.int p0), .val (.int p1), .val (.int p2), .val (.int p3), .val (.int p4), .val (.int p5), .val (.int (2147483647 : Int32)), .val (.int v1), .val (.int v2), .val (.int v3), .val (.int w10), .val (.int w11), .val (.int z4), .val (.int v8), .val (.int w9), .val (.ref a11), .val (.int (p3 + (3 : Int32)))]) rfl ?_
          exact Jc127 _ (own_Eeq hc)
      intro c127 hc127
      refine W.iload C m0_312 rfl ?_
      refine W.iconst C m0_314 (z := (4 : Int32)) rfl ?_
      refine W.icmpN C m0_315 (show ¬ (z4.toInt ≤ (4 : Int)) from (by omega)) ?_
      refine W.iload C m0_318 rfl ?_
      refine W.iload C m0_320 rfl ?_
      suffices Jc128 : ∀ c128 : Int32, own_E (own_up (own_up (own_up (own_up (own_up (fun _ _ => False) v1 p3) v2 (p3 + (1 : Int32))) v3 (p3 + (2 : Int32))) w10 (p3 + (3 : Int32))) w11 (p3 + (4 : Int32))) w9 c128 → W κ n0 Qx h112 3 67 330 [.val (.int p0), .val (.int p1), .val (.int p2), .val (.int p3), .val (.int p4), .val (.int p5), .val (.int (2147483647 : Int32)), .val (.int v1), .val (.int v2), .val (.int v3), .val (.int w10), .val (.int w11), .val (.int z4), .val (.int v8), .val (.int w9), .val (.ref a11), .val (.int c128)] [] by
        refine W.icmp C m0_322 ?_ ?_
        · intro (hc : ¬ w9.toInt = w11.toInt)
          exact Jc128 _ (own_Ene hc127 hc)
        · intro (hc : ¬ ¬ w9.toInt = w11.toInt)
          refine W.iloadN C m0_325 rfl ?_
          refine W.iconst C m0_326 (z := (4 : Int32)) rfl ?_
          refine W.iadd C m0_327 rfl ?_
          refine W.istore C m0_328 (L' := [.val (.int p0), .val (.int p1), .val (.int p2), .val (.int p3), .val (.int p4), .val (.int p5), .val (.int (2147483647 : Int32)), .val (.int v1), .val (.int v2), .val (.int v3), .val (.int w10), .val (.int w11), .val (.int z4), .val (.int v8), .val (.int w9), .val (.ref a11), .val (.int (p3 + (4 : Int32)))]) rfl ?_
          exact Jc128 _ (own_Eeq hc)
      intro c128 hc128
      refine W.aload C m0_330 rfl rfl ?_
      refine W.iload C m0_332 rfl ?_
      refine W.callV (y := mY8) (wt := 0) C m0_334 (hw _ (List.mem_of_getElem? (i := 37) rfl)) (hw _ (List.mem_of_getElem? (i := 38) rfl)) (hw _ (List.mem_of_getElem? (i := 40) rfl)) (hw _ (List.mem_of_getElem? (i := 39) rfl)) (hw _ (List.mem_of_getElem? (i := 7) rfl)) (hw _ (List.mem_of_getElem? (i := 41) rfl)) (by decide) (own_mpE P111) pd8 rfl (own_get16 Z a0 hw a11 w9 5 (own_up (own_up (own_up (own_up (own_up (fun _ _ => False) v1 p3) v2 (p3 + (1 : Int32))) v3 (p3 + (2 : Int32))) w10 (p3 + (3 : Int32))) w11 (p3 + (4 : Int32))) h112 n0 (by decide) P111) (as' := [(.int w9)]) (rest := []) rfl rfl (Nat.le_of_eq rfl) (by decide) (by decide) (by decide) (by decide) ?_
      intro r132 h130 q131
      obtain ⟨rfl, r129, rfl, hr129⟩ := q131
      show W κ n0 Qx h112 3 67 337 [.val (.int p0), .val (.int p1), .val (.int p2), .val (.int p3), .val (.int p4), .val (.int p5), .val (.int (2147483647 : Int32)), .val (.int v1), .val (.int v2), .val (.int v3), .val (.int w10), .val (.int w11), .val (.int z4), .val (.int v8), .val (.int w9), .val (.ref a11), .val (.int c128)] [(.int r129)]
      refine W.iload C m0_337 rfl ?_
      refine W.icmp C m0_339 ?_ ?_
      · intro (h339 : ¬ r129.toInt = c128.toInt)
        refine W.iconst C m0_346 (z := (0 : Int32)) rfl ?_
        refine W.zreturn C m0_347 (hQ _ _ ?_)
        exfalso
        exact h339 (by have hh := own_fin hc128 (own_Posu (own_Posu (own_Posu (own_Posu (own_Posu own_Pos0 hpv1) hpv2) hpv3) hpw10) hpw11) hr129; rw [hh]; try rfl)
      · intro (h339 : ¬ ¬ r129.toInt = c128.toInt)
        replace h339 := Decidable.not_not.mp h339
        refine W.iconst C m0_342 (z := (1 : Int32)) rfl ?_
        refine W.goto C m0_343 ?_
        refine W.zreturn C m0_347 (hQ _ _ ?_)
        exact rfl
set_option maxRecDepth 65536 in
set_option maxHeartbeats 4000000 in
theorem comes_1 {Post : Tables → Env → Array Value → State → Outcome → State → Prop} (hpost : ∀ tb e args s v u, (limb_1_1.after args s (.returned v) u = true ∧ limb_1_2.after args s (.returned v) u = true ∧ True) → FrameEnd s (.returned v) u (Jvm.fieldLocs frame_1_writes args s ++ Jvm.arrayLocs frame_1_arrays args s ++ Jvm.staticLocs frame_1_statics s) 16 192 → Post tb e args s (.returned v) u) :
    ArmFor flags0 classFile x code maxLocals ret World_1 tables_1 room_1 Calls_1 rest_1 Pre_1 Post := by
  intro l hfl _ _ p e ha hc hk s m args below hf hA hF happ hP
  obtain ⟨hcalls, hrest, hpre⟩ := hP
  obtain ⟨-, -, -, hnamed, -, -, -, hat⟩ := (Spec.applies_iff hf).mp happ
  obtain ⟨hg, hn⟩ := and_e (Cond.before_iff.mp (show (Jvm.Cond.and given_1 narrow_1).before args s = true from hpre))
  obtain ⟨hcount, hg0⟩ := and_e hg
  obtain ⟨ha0, hg1⟩ := and_e hg0
  obtain ⟨ha1, hg2⟩ := and_e hg1
  obtain ⟨ha2, hg3⟩ := and_e hg2
  obtain ⟨ha3, hg4⟩ := and_e hg3
  obtain ⟨ha4, hg5⟩ := and_e hg4
  have ha5 := hg5
  obtain ⟨w0, w1, w2, w3, w4, w5, rfl⟩ : ∃ w0 w1 w2 w3 w4 w5 : Value, args = #[w0, w1, w2, w3, w4, w5] := by
    have hs : args.size = 6 := by simpa [Cond.value, given_1] using hcount
    obtain ⟨L⟩ := args
    match L, hs with
    | [w0, w1, w2, w3, w4, w5], _ => exact ⟨w0, w1, w2, w3, w4, w5, rfl⟩
  have hw := fun d (hd : d ∈ tables_1) => atoms_spec (ws := Jvm.Cond.code x code maxLocals ret :: tables_1) hat d (List.mem_cons_of_mem _ hd)
  obtain ⟨i0, ei0⟩ := is_v ha0
  obtain rfl : w0 = (.int i0) := Option.some.inj ei0
  obtain ⟨i1, ei1⟩ := is_v ha1
  obtain rfl : w1 = (.int i1) := Option.some.inj ei1
  obtain ⟨i2, ei2⟩ := is_v ha2
  obtain rfl : w2 = (.int i2) := Option.some.inj ei2
  obtain ⟨i3, ei3⟩ := is_v ha3
  obtain rfl : w3 = (.int i3) := Option.some.inj ei3
  obtain ⟨i4, ei4⟩ := is_v ha4
  obtain rfl : w4 = (.int i4) := Option.some.inj ei4
  obtain ⟨i5, ei5⟩ := is_v ha5
  obtain rfl : w5 = (.int i5) := Option.some.inj ei5
  obtain ⟨n, o, h1, h2, h3, _, L, rfl, ⟨rfl, N⟩, hq⟩ := own_law s _ hw i0 i1 i2 i3 i4 i5 s.heap s.heap.size (Nat.le_refl _) l tables_1 p e ha hc hk s m _ below hf ((Spec.applies_iff_loose hf).mp happ).1 ⟨rfl, State.Warmed39.refl s, rfl⟩ trivial
  refine ⟨n, _, h1, h2, h3, hpost _ _ _ _ _ _ ⟨Cond.after_iff.mpr rfl, Cond.after_iff.mpr (eq_i res_at (Term.int_eval (1)) rfl), trivial⟩ ⟨hq.1, hq.2.1, (hq.2.2.sift fun y hy => Or.inr (N y hy)).mono (by decide) (by decide)⟩⟩
theorem main_1_1 : Claimed_1_1 := comes_1 fun _ _ _ _ _ _ h hF => ⟨h.1, hF⟩
theorem main_1_2 : Claimed_1_2 := comes_1 fun _ _ _ _ _ _ h hF => ⟨h.2.1, hF⟩
end Jvm.Pilot.@@N@@
namespace Jvm.Pilot.@@N@@
open Jvm Jvm.ClassFile Sem Op Lib Jvm.Free Jvm.Stand Jvm.Pilot.@@N@@.Jvm.D
/-! MADE BY PROGRAM (witnessworld.py) out of the Statement's table words and the real class files: 11 classes; the members and pool entries that the words name. The judged class is class 1, her method 1. -/
namespace start1
open Jvm.ClassFile
def u (s : String) : CpInfo := .utf8 (stringToUtf16 s)
/-- a pool by its gaps: so many unusable entries, then the entry; so many at the end -/
def gap : Nat → List CpInfo → List CpInfo
  | 0, r => r
  | n + 1, r => .unusable :: gap n r
def poolList (es : List (Nat × CpInfo)) (last : Nat) : List CpInfo := es.foldr (fun e r => gap e.1 (e.2 :: r)) (gap last [])
def pool (es : List (Nat × CpInfo)) (last : Nat) : Array CpInfo := ⟨poolList es last⟩
def fileOf (pool : Array CpInfo) (this : Nat) (attrs : Array Attribute := #[]) (ms : Array MethodInfo := #[]) (fl : Nat := 33) (sup : Nat := 0) (ifs : Array Nat := #[]) (fds : Array FieldInfo := #[]) : ClassFile where
  minorVersion := 0
  majorVersion := 65
  constantPool := pool
  accessFlags := fl
  thisClass := this
  superClass := sup
  interfaces := ifs
  fields := fds
  methods := ms
  attributes := attrs
def plain (name : String) (sup : Option ClassId) : Class where
  name := name
  kind := .ordinary
  loader := none
  accessFlags := 33
  super := sup
  interfaces := #[]
  cf := none
  fields := #[]
  methods := #[]
  instanceTypes := #[]
  staticTypes := #[]
  resolved := #[]
  callSites := []
  init := .initialized
  statics := none
  mirror := none

def pool0 : Array CpInfo := pool [(5, u "<init>"), (0, u "()V"), (1, .class_ 10), (1, u "java/lang/Object")] 113

def k0c0 : Code := { maxStack := 0, maxLocals := 1, code := object_method_1_code, exceptionTable := #[], attributes := #[] }
def k0m0 : Method := { name := "<init>", desc := "()V", sig := { parameters := [], returnType := none }, accessFlags := 1, code := some k0c0 }
/-- java/lang/Object -/
def k0 : Class := { plain "java/lang/Object" none with
  accessFlags := 33
  interfaces := #[]
  cf := some (fileOf pool0 8 #[] #[{ accessFlags := 1, nameIndex := 5, descriptorIndex := 6, attributes := #[] }] 33 0 #[] #[])
  fields := #[]
  methods := #[k0m0]
  instanceTypes := #[]
  staticTypes := #[]
  resolved := Array.replicate 124 none
  statics := none }

def pool1 : Array CpInfo := pool [(2, .class_ 4), (0, .nameAndType 5 6), (0, u "java/lang/Object"), (0, u "<init>"), (0, u "()V"), (0, .integer 2147483647), (0, .methodref 9 10), (0, .class_ 11), (0, .nameAndType 12 13), (0, u "java/lang/Math"), (0, u "min"), (0, u "(II)I"), (0, .class_ 15), (0, u "com/example/principal/principal/engine/IdMap"), (0, .methodref 14 3), (0, .methodref 14 18), (0, .nameAndType 19 20), (0, u "put"), (0, u "(II)V"), (0, .methodref 14 22), (0, .nameAndType 23 24), (0, u "get"), (0, u "(I)I"), (0, .class_ 26), (0, u "com/example/principal/principal/engine/IdMapGetPinLaw"), (2, u "law"), (0, u "(IIIIII)Z")] 3

def k1m0 : Method := { name := "<init>", desc := "()V", sig := { parameters := [], returnType := none }, accessFlags := 1, code := none }
def k1c1 : Code := { maxStack := 4, maxLocals := 17, code := code, exceptionTable := #[], attributes := #[] }
def k1m1 : Method := { name := "law", desc := "(IIIIII)Z", sig := { parameters := [.int, .int, .int, .int, .int, .int], returnType := some .boolean }, accessFlags := 9, code := some k1c1 }
/-- com/example/principal/principal/engine/IdMapGetPinLaw -/
def k1 : Class := { plain "com/example/principal/principal/engine/IdMapGetPinLaw" (some 0) with
  accessFlags := 49
  interfaces := #[]
  cf := some (fileOf pool1 25 #[] #[{ accessFlags := 1, nameIndex := 5, descriptorIndex := 6, attributes := #[] }, { accessFlags := 9, nameIndex := 29, descriptorIndex := 30, attributes := #[] }] 49 2 #[] #[])
  fields := #[]
  methods := #[k1m0, k1m1]
  instanceTypes := #[]
  staticTypes := #[]
  resolved := Array.replicate 34 none
  statics := none }

def pool2 : Array CpInfo := pool [(1, .class_ 2), (0, u "java/lang/Math"), (1, .class_ 6), (1, u "java/lang/Object"), (0, u "<init>"), (0, u "()V"), (89, .class_ 100), (1, u "java/lang/Math$RandomNumberGeneratorHolder"), (71, u "negativeZeroFloatBits"), (0, u "J"), (2, u "negativeZeroDoubleBits"), (24, u "min"), (43, u "$assertionsDisabled"), (0, u "Z"), (88, u "(II)I"), (2, u "twoToTheDoubleScaleDown"), (0, u "D"), (4, u "twoToTheDoubleScaleUp"), (9, u "E"), (3, u "PI"), (2, u "TAU"), (2, u "DEGREES_TO_RADIANS"), (0, u "RADIANS_TO_DEGREES")] 94

def k2m0 : Method := { name := "<init>", desc := "()V", sig := { parameters := [], returnType := none }, accessFlags := 2, code := none }
def k2c1 : Code := { maxStack := 2, maxLocals := 2, code := jdk_29_method_69_code, exceptionTable := #[], attributes := #[] }
def k2m1 : Method := { name := "min", desc := "(II)I", sig := { parameters := [.int, .int], returnType := some .int }, accessFlags := 9, code := some k2c1 }
/-- java/lang/Math -/
def k2 : Class := { plain "java/lang/Math" (some 0) with
  accessFlags := 49
  interfaces := #[]
  cf := some (fileOf pool2 1 #[.nestMembers #[98]] #[{ accessFlags := 2, nameIndex := 7, descriptorIndex := 8, attributes := #[] }, { accessFlags := 9, nameIndex := 201, descriptorIndex := 335, attributes := #[] }] 49 4 #[] #[{ accessFlags := 25, nameIndex := 354, descriptorIndex := 339, attributes := #[] }, { accessFlags := 25, nameIndex := 358, descriptorIndex := 339, attributes := #[] }, { accessFlags := 25, nameIndex := 361, descriptorIndex := 339, attributes := #[] }, { accessFlags := 26, nameIndex := 364, descriptorIndex := 339, attributes := #[] }, { accessFlags := 26, nameIndex := 365, descriptorIndex := 339, attributes := #[] }, { accessFlags := 26, nameIndex := 172, descriptorIndex := 173, attributes := #[] }, { accessFlags := 26, nameIndex := 176, descriptorIndex := 173, attributes := #[] }, { accessFlags := 8, nameIndex := 344, descriptorIndex := 339, attributes := #[] }, { accessFlags := 8, nameIndex := 338, descriptorIndex := 339, attributes := #[] }, { accessFlags := 4120, nameIndex := 245, descriptorIndex := 246, attributes := #[] }])
  fields := #[{ name := "E", type := .double, accessFlags := 25, slot := 0, constantValue := 0 }, { name := "PI", type := .double, accessFlags := 25, slot := 1, constantValue := 0 }, { name := "TAU", type := .double, accessFlags := 25, slot := 2, constantValue := 0 }, { name := "DEGREES_TO_RADIANS", type := .double, accessFlags := 26, slot := 3, constantValue := 0 }, { name := "RADIANS_TO_DEGREES", type := .double, accessFlags := 26, slot := 4, constantValue := 0 }, { name := "negativeZeroFloatBits", type := .long, accessFlags := 26, slot := 5, constantValue := 0 }, { name := "negativeZeroDoubleBits", type := .long, accessFlags := 26, slot := 6, constantValue := 0 }, { name := "twoToTheDoubleScaleUp", type := .double, accessFlags := 8, slot := 7, constantValue := 0 }, { name := "twoToTheDoubleScaleDown", type := .double, accessFlags := 8, slot := 8, constantValue := 0 }, { name := "$assertionsDisabled", type := .boolean, accessFlags := 4120, slot := 9, constantValue := 0 }]
  methods := #[k2m0, k2m1]
  instanceTypes := #[]
  staticTypes := #[.double, .double, .double, .double, .double, .long, .long, .double, .double, .boolean]
  resolved := Array.replicate 460 none
  statics := none }

def pool3 : Array CpInfo := pool [(1, .methodref 2 3), (0, .class_ 4), (0, .nameAndType 5 6), (0, u "java/lang/Object"), (0, u "<init>"), (0, u "()V"), (0, .methodref 8 9), (0, .class_ 10), (0, .nameAndType 11 12), (0, u "com/example/principal/principal/engine/IdMap"), (0, u "newSlots"), (0, u "(I)[I"), (0, .fieldref 8 14), (0, .nameAndType 15 16), (0, u "slots"), (0, u "[I"), (0, .fieldref 8 18), (0, .nameAndType 19 20), (0, u "shift"), (0, u "I"), (0, .methodref 8 22), (0, .nameAndType 23 24), (0, u "find"), (0, u "([III)I"), (0, .fieldref 8 26), (0, .nameAndType 27 20), (0, u "size"), (0, .methodref 8 29), (0, .nameAndType 30 6), (0, u "grow"), (0, .integer 2654435769), (0, .methodref 33 34), (0, .class_ 35), (0, .nameAndType 36 37), (0, u "java/util/Arrays"), (0, u "fill"), (0, u "([II)V"), (0, u "NONE"), (2, u "FREE"), (0, u "SPREAD"), (2, u "get"), (0, u "(I)I"), (1, u "put"), (0, u "(II)V")] 3

def k3c0 : Code := { maxStack := 2, maxLocals := 1, code := prog_15_method_1_code, exceptionTable := #[], attributes := #[] }
def k3m0 : Method := { name := "<init>", desc := "()V", sig := { parameters := [], returnType := none }, accessFlags := 0, code := some k3c0 }
def k3c1 : Code := { maxStack := 3, maxLocals := 3, code := prog_15_method_2_code, exceptionTable := #[], attributes := #[] }
def k3m1 : Method := { name := "get", desc := "(I)I", sig := { parameters := [.int], returnType := some .int }, accessFlags := 0, code := some k3c1 }
def k3c2 : Code := { maxStack := 3, maxLocals := 4, code := prog_15_method_3_code, exceptionTable := #[], attributes := #[] }
def k3m2 : Method := { name := "put", desc := "(II)V", sig := { parameters := [.int, .int], returnType := none }, accessFlags := 0, code := some k3c2 }
def k3c3 : Code := { maxStack := 2, maxLocals := 5, code := prog_15_method_4_code, exceptionTable := #[], attributes := #[] }
def k3m3 : Method := { name := "find", desc := "([III)I", sig := { parameters := [(.array .int), .int, .int], returnType := some .int }, accessFlags := 10, code := some k3c3 }
def k3c4 : Code := { maxStack := 5, maxLocals := 5, code := prog_15_method_5_code, exceptionTable := #[], attributes := #[] }
def k3m4 : Method := { name := "grow", desc := "()V", sig := { parameters := [], returnType := none }, accessFlags := 2, code := some k3c4 }
def k3c5 : Code := { maxStack := 2, maxLocals := 2, code := prog_15_method_6_code, exceptionTable := #[], attributes := #[] }
def k3m5 : Method := { name := "newSlots", desc := "(I)[I", sig := { parameters := [.int], returnType := some (.array .int) }, accessFlags := 10, code := some k3c5 }
/-- com/example/principal/principal/engine/IdMap -/
def k3 : Class := { plain "com/example/principal/principal/engine/IdMap" (some 0) with
  accessFlags := 48
  interfaces := #[]
  cf := some (fileOf pool3 8 #[] #[{ accessFlags := 0, nameIndex := 5, descriptorIndex := 6, attributes := #[] }, { accessFlags := 0, nameIndex := 45, descriptorIndex := 46, attributes := #[] }, { accessFlags := 0, nameIndex := 48, descriptorIndex := 49, attributes := #[] }, { accessFlags := 10, nameIndex := 23, descriptorIndex := 24, attributes := #[] }, { accessFlags := 2, nameIndex := 30, descriptorIndex := 6, attributes := #[] }, { accessFlags := 10, nameIndex := 11, descriptorIndex := 12, attributes := #[] }] 48 2 #[] #[{ accessFlags := 24, nameIndex := 38, descriptorIndex := 20, attributes := #[] }, { accessFlags := 26, nameIndex := 41, descriptorIndex := 20, attributes := #[] }, { accessFlags := 26, nameIndex := 42, descriptorIndex := 20, attributes := #[] }, { accessFlags := 2, nameIndex := 15, descriptorIndex := 16, attributes := #[] }, { accessFlags := 2, nameIndex := 19, descriptorIndex := 20, attributes := #[] }, { accessFlags := 2, nameIndex := 27, descriptorIndex := 20, attributes := #[] }])
  fields := #[{ name := "NONE", type := .int, accessFlags := 24, slot := 0, constantValue := 0 }, { name := "FREE", type := .int, accessFlags := 26, slot := 1, constantValue := 0 }, { name := "SPREAD", type := .int, accessFlags := 26, slot := 2, constantValue := 0 }, { name := "slots", type := (.array .int), accessFlags := 2, slot := 0, constantValue := 0 }, { name := "shift", type := .int, accessFlags := 2, slot := 1, constantValue := 0 }, { name := "size", type := .int, accessFlags := 2, slot := 2, constantValue := 0 }]
  methods := #[k3m0, k3m1, k3m2, k3m3, k3m4, k3m5]
  instanceTypes := #[(.array .int), .int, .int]
  staticTypes := #[.int, .int, .int]
  resolved := Array.replicate 53 none
  statics := none }

def pool4 : Array CpInfo := pool [(2, .class_ 4), (1, u "java/lang/Object"), (0, u "<init>"), (0, u "()V"), (7, .class_ 16), (1, u "java/util/Arrays"), (57, .class_ 76), (1, u "java/util/Arrays$NaturalOrder"), (36, .class_ 115), (1, u "java/util/Arrays$LegacyMergeSort"), (1, u "Z"), (257, .class_ 376), (0, u "java/util/Arrays$ArrayList"), (68, u "$assertionsDisabled"), (269, u "MIN_ARRAY_SORT_GRAN"), (0, u "I"), (2, u "INSERTIONSORT_THRESHOLD"), (120, u "fill"), (4, u "([II)V"), (129, .class_ 976), (0, u "java/util/Arrays$ArrayItr")] 52

def k4m0 : Method := { name := "<init>", desc := "()V", sig := { parameters := [], returnType := none }, accessFlags := 2, code := none }
def k4c1 : Code := { maxStack := 3, maxLocals := 4, code := jdk_65_method_103_code, exceptionTable := #[], attributes := #[] }
def k4m1 : Method := { name := "fill", desc := "([II)V", sig := { parameters := [(.array .int), .int], returnType := none }, accessFlags := 9, code := some k4c1 }
/-- java/util/Arrays -/
def k4 : Class := { plain "java/util/Arrays" (some 0) with
  accessFlags := 49
  interfaces := #[]
  cf := some (fileOf pool4 14 #[.nestMembers #[975, 375, 113, 74]] #[{ accessFlags := 2, nameIndex := 5, descriptorIndex := 6, attributes := #[] }, { accessFlags := 9, nameIndex := 840, descriptorIndex := 845, attributes := #[] }] 49 2 #[] #[{ accessFlags := 26, nameIndex := 715, descriptorIndex := 716, attributes := #[] }, { accessFlags := 26, nameIndex := 719, descriptorIndex := 716, attributes := #[] }, { accessFlags := 4120, nameIndex := 445, descriptorIndex := 117, attributes := #[] }])
  fields := #[{ name := "MIN_ARRAY_SORT_GRAN", type := .int, accessFlags := 26, slot := 0, constantValue := 0 }, { name := "INSERTIONSORT_THRESHOLD", type := .int, accessFlags := 26, slot := 1, constantValue := 0 }, { name := "$assertionsDisabled", type := .boolean, accessFlags := 4120, slot := 2, constantValue := 0 }]
  methods := #[k4m0, k4m1]
  instanceTypes := #[]
  staticTypes := #[.int, .int, .boolean]
  resolved := Array.replicate 1029 none
  statics := none }

def pool5 : Array CpInfo := pool [(1, u "java/lang/Cloneable"), (0, .class_ 1), (0, u "java/lang/Object"), (0, .class_ 3)] 3

/-- java/lang/Cloneable -/
def k5 : Class := { plain "java/lang/Cloneable" (some 0) with
  accessFlags := 1537
  interfaces := #[]
  cf := some (fileOf pool5 2 #[] #[] 1537 4 #[] #[])
  fields := #[]
  methods := #[]
  instanceTypes := #[]
  staticTypes := #[]
  resolved := Array.replicate 8 none
  statics := none }

def pool6 : Array CpInfo := pool [(1, u "java/io/Serializable"), (0, .class_ 1), (0, u "java/lang/Object"), (0, .class_ 3)] 3

/-- java/io/Serializable -/
def k6 : Class := { plain "java/io/Serializable" (some 0) with
  accessFlags := 1537
  interfaces := #[]
  cf := some (fileOf pool6 2 #[] #[] 1537 4 #[] #[])
  fields := #[]
  methods := #[]
  instanceTypes := #[]
  staticTypes := #[]
  resolved := Array.replicate 8 none
  statics := none }

/-- the primitive byte -/
def k7 : Class := { plain "byte" none with kind := .primitive 'B', accessFlags := 0x411 }
/-- [B -/
def k8 : Class := { plain "[B" (some 0) with kind := .array 7 .byte, interfaces := #[5, 6], accessFlags := 1041 }

/-- the primitive int -/
def k9 : Class := { plain "int" none with kind := .primitive 'I', accessFlags := 0x411 }
/-- [I -/
def k10 : Class := { plain "[I" (some 0) with kind := .array 9 .int, interfaces := #[5, 6], accessFlags := 1041 }

def heap : Heap := #[]
def classes : Array Class := #[k0, k1, k2, k3, k4, k5, k6, k7, k8, k9, k10]
def interned : List (Array UInt16 × Addr) := []
def slotsUsed : Nat := 0
def theMethod : MethodId := ⟨1, 1⟩
def args0 : Array Value := #[.int 5, .int 2, .int 77, .int 3, .int 4, .int 9]
def aboutOver (below : List Frame) : State where
  vm := { classes := classes, interned := interned.toArray }
  heap := heap
  slotsUsed := slotsUsed
  threads := #[{ frames := .invoking theMethod args0 :: below }]
def below0 : List Frame := [.native { method := ⟨0, 0⟩, args := #[] }]
def about1 : State := aboutOver below0
def p0 : Program := .bare "" "" ""
def e0 : Env := launch0.env 0 0 0
theorem w_frames : about1.frames = Frame.invoking theMethod args0 :: below0 := rfl
set_option maxRecDepth 65536 in
theorem w_args : argsFit about1.vm theMethod args0 = true := by decide +kernel
set_option maxRecDepth 65536 in
theorem w_heap : heapFits about1 = true := by decide +kernel
set_option maxRecDepth 65536 in
theorem w_runnable : about1.curStatus? = some .runnable := by decide +kernel
set_option maxRecDepth 65536 in
theorem w_alone : about1.alone = true := by decide +kernel
set_option maxRecDepth 65536 in
theorem w_named : about1.methodNamed? x = some theMethod := by decide +kernel
set_option maxRecDepth 65536 in
theorem w_hears : about1.hears theMethod below0 = true := by decide +kernel
set_option maxRecDepth 65536 in
theorem w_ripe : about1.ripe theMethod args0 below0 = true := by decide +kernel
theorem w_running : about1.status = .running := rfl
set_option maxRecDepth 65536 in
theorem w_room : about1.hasRoom e0.platform room_1 = true :=
  launch0.hasRoom_least _ room_1 (by decide +kernel) (by decide +kernel) (by decide +kernel) (by decide +kernel) (by decide +kernel) (by decide +kernel)
theorem allAtoms_all (ts : List Jvm.Cond) (a : Array Jvm.Value) (st : Jvm.State) : (allAtoms ts).before a st = ts.all (fun c => c.before a st) := by
  induction ts with
  | nil => rfl
  | cons c t ih =>
    show (Jvm.Cond.and c (allAtoms t)).before a st = _
    rw [Jvm.Cond.before_and, ih, List.all_cons]
def words1 : List Jvm.Cond := Jvm.Cond.code x code maxLocals ret :: tables_1
/-- a 'code' word, met by the world's own term for the bytes: nothing is compared byte by byte -/
theorem code_word {y : MethodName} {bytes : ByteArray} {mx : Nat} {rt : Option FieldType} {a : Array Value} {s : State} {m : MethodId} {meth : Method} {c : Code} (h1 : s.methodNamed? y = some m) (h2 : s.vm.method? m = some meth) (h3 : meth.code = some c) (h4 : c.code = bytes)
    (h5 : (c.maxLocals == mx && c.exceptionTable.isEmpty && decide (c.maxStack ≤ mostOperands) && decide (meth.sig.returnType = rt) && !meth.locks && decide (parseMethodDescriptor y.desc = some meth.sig)) = true) : (Jvm.Cond.code y bytes mx rt).before a s = true := by
  simp only [Bool.and_eq_true, beq_iff_eq, Bool.not_eq_true', decide_eq_true_eq] at h5
  obtain ⟨⟨⟨⟨⟨g1, g2⟩, g3⟩, g4⟩, g5⟩, g6⟩ := h5
  simp [Cond.before, Cond.holds, Cond.value, h1, h2, h3, h4, g1, g2, g3, g4, g5, g6]
def isCode : Jvm.Cond → Bool
  | .code _ _ _ _ => true
  | _ => false
theorem all_split {L : List Jvm.Cond} {P : Jvm.Cond → Bool} (h1 : L.all (fun c => isCode c || P c) = true) (h2 : ∀ c ∈ L.filter isCode, P c = true) : L.all P = true := by
  refine List.all_eq_true.mpr fun c hc => ?_
  have h := List.all_eq_true.mp h1 c hc
  rcases Bool.eq_false_or_eq_true (isCode c) with hi | hi
  · exact h2 c (List.mem_filter.mpr ⟨hc, hi⟩)
  · simpa [hi] using h
set_option maxRecDepth 65536 in
theorem w_c0 : (Jvm.Cond.code x code maxLocals ret).before args0 about1 = true := code_word (m := ⟨1, 1⟩) (meth := k1m1) (c := k1c1) (by decide +kernel) rfl rfl rfl (by decide +kernel)
set_option maxRecDepth 65536 in
theorem w_c1 : (Jvm.Cond.code ({ cls := "java/lang/Math", name := "min", desc := "(II)I" } : Jvm.MethodName) jdk_29_method_69_code (2 : Nat) (Option.some Jvm.ClassFile.FieldType.int)).before args0 about1 = true := code_word (m := ⟨2, 1⟩) (meth := k2m1) (c := k2c1) (by decide +kernel) rfl rfl rfl (by decide +kernel)
set_option maxRecDepth 65536 in
theorem w_c2 : (Jvm.Cond.code ({ cls := "com/example/principal/principal/engine/IdMap", name := "<init>", desc := "()V" } : Jvm.MethodName) prog_15_method_1_code (1 : Nat) (Option.none : Option Jvm.ClassFile.FieldType)).before args0 about1 = true := code_word (m := ⟨3, 0⟩) (meth := k3m0) (c := k3c0) (by decide +kernel) rfl rfl rfl (by decide +kernel)
set_option maxRecDepth 65536 in
theorem w_c3 : (Jvm.Cond.code ({ cls := "java/lang/Object", name := "<init>", desc := "()V" } : Jvm.MethodName) object_method_1_code (1 : Nat) (Option.none : Option Jvm.ClassFile.FieldType)).before args0 about1 = true := code_word (m := ⟨0, 0⟩) (meth := k0m0) (c := k0c0) (by decide +kernel) rfl rfl rfl (by decide +kernel)
set_option maxRecDepth 65536 in
theorem w_c4 : (Jvm.Cond.code ({ cls := "com/example/principal/principal/engine/IdMap", name := "newSlots", desc := "(I)[I" } : Jvm.MethodName) prog_15_method_6_code (2 : Nat) (Option.some (Jvm.ClassFile.FieldType.array Jvm.ClassFile.FieldType.int))).before args0 about1 = true := code_word (m := ⟨3, 5⟩) (meth := k3m5) (c := k3c5) (by decide +kernel) rfl rfl rfl (by decide +kernel)
set_option maxRecDepth 65536 in
theorem w_c5 : (Jvm.Cond.code ({ cls := "java/util/Arrays", name := "fill", desc := "([II)V" } : Jvm.MethodName) jdk_65_method_103_code (4 : Nat) (Option.none : Option Jvm.ClassFile.FieldType)).before args0 about1 = true := code_word (m := ⟨4, 1⟩) (meth := k4m1) (c := k4c1) (by decide +kernel) rfl rfl rfl (by decide +kernel)
set_option maxRecDepth 65536 in
theorem w_c6 : (Jvm.Cond.code ({ cls := "com/example/principal/principal/engine/IdMap", name := "put", desc := "(II)V" } : Jvm.MethodName) prog_15_method_3_code (4 : Nat) (Option.none : Option Jvm.ClassFile.FieldType)).before args0 about1 = true := code_word (m := ⟨3, 2⟩) (meth := k3m2) (c := k3c2) (by decide +kernel) rfl rfl rfl (by decide +kernel)
set_option maxRecDepth 65536 in
theorem w_c7 : (Jvm.Cond.code ({ cls := "com/example/principal/principal/engine/IdMap", name := "find", desc := "([III)I" } : Jvm.MethodName) prog_15_method_4_code (5 : Nat) (Option.some Jvm.ClassFile.FieldType.int)).before args0 about1 = true := code_word (m := ⟨3, 3⟩) (meth := k3m3) (c := k3c3) (by decide +kernel) rfl rfl rfl (by decide +kernel)
set_option maxRecDepth 65536 in
theorem w_c8 : (Jvm.Cond.code ({ cls := "com/example/principal/principal/engine/IdMap", name := "get", desc := "(I)I" } : Jvm.MethodName) prog_15_method_2_code (3 : Nat) (Option.some Jvm.ClassFile.FieldType.int)).before args0 about1 = true := code_word (m := ⟨3, 1⟩) (meth := k3m1) (c := k3c1) (by decide +kernel) rfl rfl rfl (by decide +kernel)
set_option maxRecDepth 65536 in
theorem w_c9 : (Jvm.Cond.code ({ cls := "com/example/principal/principal/engine/IdMap", name := "grow", desc := "()V" } : Jvm.MethodName) prog_15_method_5_code (5 : Nat) (Option.none : Option Jvm.ClassFile.FieldType)).before args0 about1 = true := code_word (m := ⟨3, 4⟩) (meth := k3m4) (c := k3c4) (by decide +kernel) rfl rfl rfl (by decide +kernel)
def codes1 : List Jvm.Cond := [Jvm.Cond.code x code maxLocals ret, Jvm.Cond.code ({ cls := "java/lang/Math", name := "min", desc := "(II)I" } : Jvm.MethodName) jdk_29_method_69_code (2 : Nat) (Option.some Jvm.ClassFile.FieldType.int), Jvm.Cond.code ({ cls := "com/example/principal/principal/engine/IdMap", name := "<init>", desc := "()V" } : Jvm.MethodName) prog_15_method_1_code (1 : Nat) (Option.none : Option Jvm.ClassFile.FieldType), Jvm.Cond.code ({ cls := "java/lang/Object", name := "<init>", desc := "()V" } : Jvm.MethodName) object_method_1_code (1 : Nat) (Option.none : Option Jvm.ClassFile.FieldType), Jvm.Cond.code ({ cls := "com/example/principal/principal/engine/IdMap", name := "newSlots", desc := "(I)[I" } : Jvm.MethodName) prog_15_method_6_code (2 : Nat) (Option.some (Jvm.ClassFile.FieldType.array Jvm.ClassFile.FieldType.int)), Jvm.Cond.code ({ cls := "java/util/Arrays", name := "fill", desc := "([II)V" } : Jvm.MethodName) jdk_65_method_103_code (4 : Nat) (Option.none : Option Jvm.ClassFile.FieldType), Jvm.Cond.code ({ cls := "com/example/principal/principal/engine/IdMap", name := "put", desc := "(II)V" } : Jvm.MethodName) prog_15_method_3_code (4 : Nat) (Option.none : Option Jvm.ClassFile.FieldType), Jvm.Cond.code ({ cls := "com/example/principal/principal/engine/IdMap", name := "find", desc := "([III)I" } : Jvm.MethodName) prog_15_method_4_code (5 : Nat) (Option.some Jvm.ClassFile.FieldType.int), Jvm.Cond.code ({ cls := "com/example/principal/principal/engine/IdMap", name := "get", desc := "(I)I" } : Jvm.MethodName) prog_15_method_2_code (3 : Nat) (Option.some Jvm.ClassFile.FieldType.int), Jvm.Cond.code ({ cls := "com/example/principal/principal/engine/IdMap", name := "grow", desc := "()V" } : Jvm.MethodName) prog_15_method_5_code (5 : Nat) (Option.none : Option Jvm.ClassFile.FieldType)]
set_option maxRecDepth 65536 in
theorem codes_eq : words1.filter isCode = codes1 := rfl
theorem w_codes : ∀ c ∈ words1.filter isCode, c.before args0 about1 = true := by
  rw [codes_eq]
  intro c hc
  simp only [codes1, List.mem_cons, List.not_mem_nil, or_false] at hc
  rcases hc with rfl | rfl | rfl | rfl | rfl | rfl | rfl | rfl | rfl | rfl
  · exact w_c0
  · exact w_c1
  · exact w_c2
  · exact w_c3
  · exact w_c4
  · exact w_c5
  · exact w_c6
  · exact w_c7
  · exact w_c8
  · exact w_c9
set_option maxRecDepth 65536 in
theorem w_t1 : (words1.take 24).all (fun c => isCode c || c.before args0 about1) = true := by decide +kernel
set_option maxRecDepth 65536 in
theorem w_t2 : (words1.drop 24).all (fun c => isCode c || c.before args0 about1) = true := by decide +kernel
theorem w_tables : (allAtoms (Jvm.Cond.code x code maxLocals ret :: tables_1)).before args0 about1 = true := by
  rw [allAtoms_all]
  show words1.all (fun c => c.before args0 about1) = true
  refine all_split ?_ w_codes
  rw [← List.take_append_drop 24 words1, List.all_append, w_t1, w_t2]
  rfl
set_option maxRecDepth 65536 in
theorem w_case : (Jvm.Cond.and given_1 narrow_1).before args0 about1 = true := by decide +kernel
theorem w_applies : (headSpec (Jvm.Cond.code x code maxLocals ret :: tables_1) room_1).applies x e0.platform about1 = true :=
  (Spec.applies_iff w_frames).mpr ⟨w_running, w_runnable, w_alone, w_named, w_hears, w_ripe, w_room, w_tables⟩
theorem atStart : AtStart classFile x code maxLocals ret World_1 tables_1 room_1 Calls_1 rest_1 Pre_1 launch0 p0 e0 about1 theMethod args0 below0 :=
  ⟨lists_1, trivial, launch0.admits_env _ _ _, launch0.least_env, fairChoices_fair.cas, fairChoices_fair.clock, w_frames, w_args, w_heap, w_applies, trivial, trivial, w_case⟩
end start1
theorem witness_1 : WitnessClaimed_1 := ⟨start1.p0, start1.e0, start1.about1, start1.theMethod, start1.args0, start1.below0, start1.atStart⟩
end Jvm.Pilot.@@N@@
