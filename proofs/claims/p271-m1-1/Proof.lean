import JvmDerived
import JvmDerived.Pilot.@@N@@Statement
import JvmDerived.Pilot.@@N@@Code
set_option linter.unusedVariables false
set_option linter.unusedSimpArgs false
namespace Jvm.Own
open Sem ClassFile Op Lib Jvm.Stand Jvm.Free Jvm.LawKit Jvm.RoadKit
/-! ## 1. A machine over abstract states: refs are numbers of objects -/
abbrev Ob := Sum (Nat × List Value) (FieldType × List Value)
abbrev AH := List Ob
abbrev Act := List Value → AH → Nat → Nat → Option (List Value × AH × Nat × Nat)
abbrev St := Nat × List Slot × List Value × AH × Nat × Nat
abbrev ORes := Option Value × AH
def il : Instr → Nat
  | .aload _ | .astore _ | .iload _ | .istore _ | .lload _ | .lstore _ | .bipush _ | .ldc _ | .newarray _ => 2
  | .sipush _ | .iinc _ _ | .goto _ | .if_icmp _ _ | .ifCond _ _ | .if_acmp _ _ | .ifnull _ | .ifnonnull _ | .ldc_w _ | .ldc2_w _ | .getfield _ | .putfield _ | .getstatic _ | .putstatic _ | .new _ | .anewarray _ | .checkcast _ | .instanceof _ | .invokestatic _ | .invokespecial _ | .invokevirtual _ => 3
  | .invokeinterface _ _ => 5
  | _ => 1
def dec (code : ByteArray) (pc : Nat) : Option Instr :=
  match decode code pc with
  | .ok (i, len) => if len = il i then some i else none
  | .error _ => none
theorem dec_spec {code : ByteArray} {pc : Nat} {i : Instr} (h : dec code pc = some i) : decode code pc = .ok (i, il i) := by
  unfold dec at h
  split at h
  · rename_i j len hd
    split at h
    · rename_i hl; cases h; rw [hd, hl]
    · cases h
  · cases h
def gI (L : List Slot) (k : Nat) : Option Int32 := match L[k]? with | some (.val (.int v)) => some v | _ => none
def gL (L : List Slot) (k : Nat) : Option Int64 := match L[k]? with | some (.val (.long v)) => some v | _ => none
def gA (L : List Slot) (k : Nat) : Option Value := match L[k]? with | some (.val (.ref a)) => some (.ref a) | some (.val .null) => some .null | _ => none
def st1 (L : List Slot) (k : Nat) (v : Value) : Option (List Slot) := match L[k]? with
  | some .unset => some (L.set k (.val v))
  | some (.val (.int _)) => some (L.set k (.val v))
  | some (.val (.ref _)) => some (L.set k (.val v))
  | some (.val .null) => some (L.set k (.val v))
  | _ => none
def st2 (L : List Slot) (k : Nat) (x : Int64) : Option (List Slot) := match L[k]?, L[k + 1]? with
  | some .unset, some .unset => some ((L.set k (.val (.long x))).set (k + 1) .second)
  | some (.val (.long _)), some .second => some ((L.set k (.val (.long x))).set (k + 1) .second)
  | _, _ => none
def pI : List Value → (Int32 → List Value → Option ORes) → Option ORes | .int x :: r, f => f x r | _, _ => none
def pL : List Value → (Int64 → List Value → Option ORes) → Option ORes | .long x :: r, f => f x r | _, _ => none
def pA : List Value → (Value → List Value → Option ORes) → Option ORes | .ref a :: r, f => f (.ref a) r | .null :: r, f => f .null r | _, _ => none
def pR : List Value → (Nat → List Value → Option ORes) → Option ORes | .ref a :: r, f => f a r | _, _ => none
def p1 : List Value → (Value → List Value → Option ORes) → Option ORes | .int a :: r, f => f (.int a) r | .ref a :: r, f => f (.ref a) r | .null :: r, f => f .null r | _, _ => none
def br (b : Bool) (pc : Nat) (o : Int) (f : Nat → Option ORes) : Option ORes := if 0 ≤ (pc : Int) + o then (bif b then f ((pc : Int) + o).toNat else f (pc + 3)) else none
def arr (H : AH) (k : Nat) : Option (FieldType × List Value) := match H[k]? with | some (.inr q) => some q | _ => none
def ald (ok : FieldType → Bool) (S : List Value) (H : AH) (f : Value → List Value → Option ORes) : Option ORes :=
  pI S fun j S => pR S fun a r => (arr H a).bind fun q => if ok q.1 = true ∧ ¬ j < 0 then (q.2[j.toNatClampNeg]?).bind fun v => f v r else none
def ast (ok : FieldType → Bool) (x0 : Nat) (S : List Value) (H : AH) (f : List Value → AH → Option ORes) : Option ORes :=
  pI S fun x S => pI S fun j S => pR S fun a r => (arr H a).bind fun q => if ok q.1 = true ∧ ¬ j < 0 ∧ j.toNatClampNeg < q.2.length ∧ x0 ≤ a then f r (H.set a (.inr (q.1, q.2.set j.toNatClampNeg (.int (nar q.1 x))))) else none
def astL (x0 : Nat) (S : List Value) (H : AH) (f : List Value → AH → Option ORes) : Option ORes :=
  pL S fun x S => pI S fun j S => pR S fun a r => (arr H a).bind fun q => if q.1 = .long ∧ ¬ j < 0 ∧ j.toNatClampNeg < q.2.length ∧ x0 ≤ a then f r (H.set a (.inr (q.1, q.2.set j.toNatClampNeg (.long x)))) else none
def isT (t u : FieldType) : Bool := decide (u = t)
def isBZ : FieldType → Bool | .byte => true | .boolean => true | _ => false
def rI (rt : Option FieldType) (S : List Value) (H : AH) : Option ORes := pI S fun z _ => match rt with
  | some .int => some (some (.int z), H)
  | some .boolean => some (some (.int (z &&& 1)), H)
  | some .byte => some (some (.int z.toInt8.toInt32), H)
  | some .char => some (some (.int z.toUInt32.toUInt16.toUInt32.toInt32), H)
  | some .short => some (some (.int z.toInt16.toInt32), H)
  | _ => none
def rL (rt : Option FieldType) (S : List Value) (H : AH) : Option ORes := pL S fun z _ => match rt with | some .long => some (some (.long z), H) | _ => none
def rA (rt : Option FieldType) (S : List Value) (H : AH) : Option ORes := pA S fun z _ => match rt with | some (.object _) => some (some z, H) | some (.array _) => some (some z, H) | _ => none
def rV (rt : Option FieldType) (S : List Value) (H : AH) : Option ORes := match rt, S with | none, [] => some (none, H) | _, _ => none
def look (q i : Nat) : List (Nat × Nat × Act) → Option Act
  | [] => none
  | x :: r => if x.1 = q ∧ x.2.1 = i then some x.2.2 else look q i r
def spc (E : List (Nat × Nat × Act)) (q i : Nat) (S : List Value) (H : AH) (cs ss : Nat) (f : List Value → AH → Nat → Nat → Option ORes) : Option ORes :=
  (look q i E).bind fun act => (act S H cs ss).bind fun r => f r.1 r.2.1 r.2.2.1 r.2.2.2
def atn : ArrayType → Nat | .boolean => 0 | .char => 1 | .float => 2 | .double => 3 | .byte => 4 | .short => 5 | .int => 6 | .long => 7
def aty : Nat → ArrayType | 0 => .boolean | 1 => .char | 2 => .float | 3 => .double | 4 => .byte | 5 => .short | 6 => .int | _ => .long
def insOf (q i : Nat) : Instr := match q with
  | 0 => .ldc i | 1 => .ldc_w i | 2 => .ldc2_w i | 3 => .getfield i | 4 => .putfield i | 5 => .getstatic i | 6 => .new i | 7 => .invokestatic i | 8 => .invokespecial i | 9 => .invokevirtual i
  | 10 => .checkcast i | 11 => .instanceof i | 12 => .anewarray i | 13 => .newarray (aty i) | _ => .putstatic i
def refEq : Value → Value → Bool | .ref a, .ref b => decide (a = b) | .null, .null => true | _, _ => false
def ex (rt : Option FieldType) (E : List (Nat × Nat × Act)) (x0 : Nat) (k : St → Option ORes) (i : Instr) (pc : Nat) (L : List Slot) (S : List Value) (H : AH) (cs ss : Nat) : Option ORes := match i with
  | .iload n => (gI L n).bind fun v => k (pc + 2, L, .int v :: S, H, cs, ss)
  | .iload_n n => (gI L n.val).bind fun v => k (pc + 1, L, .int v :: S, H, cs, ss)
  | .lload n => (gL L n).bind fun v => k (pc + 2, L, .long v :: S, H, cs, ss)
  | .lload_n n => (gL L n.val).bind fun v => k (pc + 1, L, .long v :: S, H, cs, ss)
  | .aload n => (gA L n).bind fun v => k (pc + 2, L, v :: S, H, cs, ss)
  | .aload_n n => (gA L n.val).bind fun v => k (pc + 1, L, v :: S, H, cs, ss)
  | .istore n => pI S fun x r => (st1 L n (.int x)).bind fun L' => k (pc + 2, L', r, H, cs, ss)
  | .istore_n n => pI S fun x r => (st1 L n.val (.int x)).bind fun L' => k (pc + 1, L', r, H, cs, ss)
  | .lstore n => pL S fun x r => (st2 L n x).bind fun L' => k (pc + 2, L', r, H, cs, ss)
  | .lstore_n n => pL S fun x r => (st2 L n.val x).bind fun L' => k (pc + 1, L', r, H, cs, ss)
  | .astore n => pA S fun x r => (st1 L n x).bind fun L' => k (pc + 2, L', r, H, cs, ss)
  | .astore_n n => pA S fun x r => (st1 L n.val x).bind fun L' => k (pc + 1, L', r, H, cs, ss)
  | .iinc n c => (gI L n).bind fun v => (st1 L n (.int (v + Int32.ofInt c))).bind fun L' => k (pc + 3, L', S, H, cs, ss)
  | .iconst c => k (pc + 1, L, .int (Int32.ofInt c) :: S, H, cs, ss)
  | .bipush c => k (pc + 2, L, .int (Int8.ofInt c).toInt32 :: S, H, cs, ss)
  | .sipush c => k (pc + 3, L, .int (Int16.ofInt c).toInt32 :: S, H, cs, ss)
  | .lconst c => k (pc + 1, L, .long (Int64.ofNat c) :: S, H, cs, ss)
  | .aconst_null => k (pc + 1, L, .null :: S, H, cs, ss)
  | .iadd => pI S fun y S => pI S fun x r => k (pc + 1, L, .int (x + y) :: r, H, cs, ss)
  | .isub => pI S fun y S => pI S fun x r => k (pc + 1, L, .int (x - y) :: r, H, cs, ss)
  | .imul => pI S fun y S => pI S fun x r => k (pc + 1, L, .int (x * y) :: r, H, cs, ss)
  | .iand => pI S fun y S => pI S fun x r => k (pc + 1, L, .int (x &&& y) :: r, H, cs, ss)
  | .ior => pI S fun y S => pI S fun x r => k (pc + 1, L, .int (x ||| y) :: r, H, cs, ss)
  | .ixor => pI S fun y S => pI S fun x r => k (pc + 1, L, .int (x ^^^ y) :: r, H, cs, ss)
  | .ishl => pI S fun y S => pI S fun x r => k (pc + 1, L, .int (x <<< (y &&& 31)) :: r, H, cs, ss)
  | .ishr => pI S fun y S => pI S fun x r => k (pc + 1, L, .int (x >>> (y &&& 31)) :: r, H, cs, ss)
  | .iushr => pI S fun y S => pI S fun x r => k (pc + 1, L, .int ((x.toUInt32 >>> (y &&& 31).toUInt32).toInt32) :: r, H, cs, ss)
  | .idiv => pI S fun y S => pI S fun x r => if y = 0 then none else k (pc + 1, L, .int (x / y) :: r, H, cs, ss)
  | .irem => pI S fun y S => pI S fun x r => if y = 0 then none else k (pc + 1, L, .int (x % y) :: r, H, cs, ss)
  | .ineg => pI S fun x r => k (pc + 1, L, .int (-x) :: r, H, cs, ss)
  | .i2b => pI S fun x r => k (pc + 1, L, .int x.toInt8.toInt32 :: r, H, cs, ss)
  | .i2c => pI S fun x r => k (pc + 1, L, .int x.toUInt32.toUInt16.toUInt32.toInt32 :: r, H, cs, ss)
  | .i2s => pI S fun x r => k (pc + 1, L, .int x.toInt16.toInt32 :: r, H, cs, ss)
  | .i2l => pI S fun x r => k (pc + 1, L, .long x.toInt64 :: r, H, cs, ss)
  | .l2i => pL S fun x r => k (pc + 1, L, .int x.toInt32 :: r, H, cs, ss)
  | .lneg => pL S fun x r => k (pc + 1, L, .long (-x) :: r, H, cs, ss)
  | .ladd => pL S fun y S => pL S fun x r => k (pc + 1, L, .long (x + y) :: r, H, cs, ss)
  | .lsub => pL S fun y S => pL S fun x r => k (pc + 1, L, .long (x - y) :: r, H, cs, ss)
  | .lmul => pL S fun y S => pL S fun x r => k (pc + 1, L, .long (x * y) :: r, H, cs, ss)
  | .land => pL S fun y S => pL S fun x r => k (pc + 1, L, .long (x &&& y) :: r, H, cs, ss)
  | .lor => pL S fun y S => pL S fun x r => k (pc + 1, L, .long (x ||| y) :: r, H, cs, ss)
  | .lxor => pL S fun y S => pL S fun x r => k (pc + 1, L, .long (x ^^^ y) :: r, H, cs, ss)
  | .lshl => pI S fun y S => pL S fun x r => k (pc + 1, L, .long (x <<< (y &&& 0x3f).toInt64) :: r, H, cs, ss)
  | .lshr => pI S fun y S => pL S fun x r => k (pc + 1, L, .long (x >>> (y &&& 0x3f).toInt64) :: r, H, cs, ss)
  | .lushr => pI S fun y S => pL S fun x r => k (pc + 1, L, .long ((x.toUInt64 >>> (y &&& 0x3f).toInt64.toUInt64).toInt64) :: r, H, cs, ss)
  | .ldiv => pL S fun y S => pL S fun x r => if y = 0 then none else k (pc + 1, L, .long (x / y) :: r, H, cs, ss)
  | .lrem => pL S fun y S => pL S fun x r => if y = 0 then none else k (pc + 1, L, .long (x % y) :: r, H, cs, ss)
  | .lcmp => pL S fun y S => pL S fun x r => k (pc + 1, L, .int (lcmpW x y) :: r, H, cs, ss)
  | .dup => p1 S fun v r => k (pc + 1, L, v :: v :: r, H, cs, ss)
  | .pop => p1 S fun _ r => k (pc + 1, L, r, H, cs, ss)
  | .dup_x1 => p1 S fun x S => p1 S fun y r => k (pc + 1, L, x :: y :: x :: r, H, cs, ss)
  | .dup2 => p1 S fun x S => p1 S fun y r => k (pc + 1, L, x :: y :: x :: y :: r, H, cs, ss)
  | .goto o => if 0 ≤ (pc : Int) + o then k (((pc : Int) + o).toNat, L, S, H, cs, ss) else none
  | .ifCond cd o => pI S fun x r => br (ifCond.holds cd x) pc o fun q => k (q, L, r, H, cs, ss)
  | .if_icmp cd o => pI S fun y S => pI S fun x r => br (if_icmp.holds cd x y) pc o fun q => k (q, L, r, H, cs, ss)
  | .ifnull o => pA S fun v r => br (refEq v .null) pc o fun q => k (q, L, r, H, cs, ss)
  | .ifnonnull o => pA S fun v r => br (!refEq v .null) pc o fun q => k (q, L, r, H, cs, ss)
  | .if_acmp cd o => pA S fun y S => pA S fun x r => br (acV cd (refEq x y)) pc o fun q => k (q, L, r, H, cs, ss)
  | .arraylength => pR S fun a r => (arr H a).bind fun q => k (pc + 1, L, .int q.2.length.toInt32 :: r, H, cs, ss)
  | .iaload => ald (isT .int) S H fun v r => k (pc + 1, L, v :: r, H, cs, ss)
  | .baload => ald isBZ S H fun v r => k (pc + 1, L, v :: r, H, cs, ss)
  | .caload => ald (isT .char) S H fun v r => k (pc + 1, L, v :: r, H, cs, ss)
  | .laload => ald (isT .long) S H fun v r => k (pc + 1, L, v :: r, H, cs, ss)
  | .aaload => ald FieldType.isReference S H fun v r => k (pc + 1, L, v :: r, H, cs, ss)
  | .iastore => ast (isT .int) x0 S H fun r H' => k (pc + 1, L, r, H', cs, ss)
  | .bastore => ast (isT .byte) x0 S H fun r H' => k (pc + 1, L, r, H', cs, ss)
  | .castore => ast (isT .char) x0 S H fun r H' => k (pc + 1, L, r, H', cs, ss)
  | .lastore => astL x0 S H fun r H' => k (pc + 1, L, r, H', cs, ss)
  | .ldc i => spc E 0 i S H cs ss fun S' H' cs' ss' => k (pc + 2, L, S', H', cs', ss')
  | .ldc_w i => spc E 1 i S H cs ss fun S' H' cs' ss' => k (pc + 3, L, S', H', cs', ss')
  | .ldc2_w i => spc E 2 i S H cs ss fun S' H' cs' ss' => k (pc + 3, L, S', H', cs', ss')
  | .getfield i => spc E 3 i S H cs ss fun S' H' cs' ss' => k (pc + 3, L, S', H', cs', ss')
  | .putfield i => spc E 4 i S H cs ss fun S' H' cs' ss' => k (pc + 3, L, S', H', cs', ss')
  | .getstatic i => spc E 5 i S H cs ss fun S' H' cs' ss' => k (pc + 3, L, S', H', cs', ss')
  | .new i => spc E 6 i S H cs ss fun S' H' cs' ss' => k (pc + 3, L, S', H', cs', ss')
  | .invokestatic i => spc E 7 i S H cs ss fun S' H' cs' ss' => k (pc + 3, L, S', H', cs', ss')
  | .invokespecial i => spc E 8 i S H cs ss fun S' H' cs' ss' => k (pc + 3, L, S', H', cs', ss')
  | .invokevirtual i => spc E 9 i S H cs ss fun S' H' cs' ss' => k (pc + 3, L, S', H', cs', ss')
  | .checkcast i => spc E 10 i S H cs ss fun S' H' cs' ss' => k (pc + 3, L, S', H', cs', ss')
  | .instanceof i => spc E 11 i S H cs ss fun S' H' cs' ss' => k (pc + 3, L, S', H', cs', ss')
  | .anewarray i => spc E 12 i S H cs ss fun S' H' cs' ss' => k (pc + 3, L, S', H', cs', ss')
  | .newarray t => spc E 13 (atn t) S H cs ss fun S' H' cs' ss' => k (pc + 2, L, S', H', cs', ss')
  | .ireturn => rI rt S H
  | .lreturn => rL rt S H
  | .areturn => rA rt S H
  | .return_ => rV rt S H
  | _ => none
def orun (code : ByteArray) (rt : Option FieldType) (E : List (Nat × Nat × Act)) (x0 : Nat) : Nat → St → Option ORes
  | 0, _ => none
  | n + 1, s => (dec code s.1).bind fun i => ex rt E x0 (orun code rt E x0 n) i s.1 s.2.1 s.2.2.1 s.2.2.2.1 s.2.2.2.2.1 s.2.2.2.2.2
theorem orun_succ {code : ByteArray} {rt : Option FieldType} {E : List (Nat × Nat × Act)} {x0 n pc : Nat} {L : List Slot} {S : List Value} {H : AH} {cs ss : Nat} :
    orun code rt E x0 (n + 1) (pc, L, S, H, cs, ss) = (dec code pc).bind fun i => ex rt E x0 (orun code rt E x0 n) i pc L S H cs ss := rfl
/-! ## 2. What an abstract state stands for -/
def cv (σ : Nat → Nat) : Value → Value | .ref k => .ref (σ k) | v => v
def csl (σ : Nat → Nat) : Slot → Slot | .val v => .val (cv σ v) | x => x
def cL (σ : Nat → Nat) (L : List Slot) : Array Slot := (L.map (csl σ)).toArray
abbrev CD := String × List (String × String × String)
def RepO (Z : State) (σ : Nat → Nat) (K : List CD) (h : Heap) (a : Addr) : Ob → Prop
  | .inl (c, vs) => ∃ C fs, K[c]? = some (C, fs) ∧ Exa Z h a C ∧ ∀ (j : Nat) (v : Value), vs[j]? = some v → ∃ O n d, fs[j]? = some (O, n, d) ∧ Fld Z h a O n d (cv σ v)
  | .inr (ty, vs) => ∃ cell : Cell, Arr Z h a cell ty ∧ cell.slots = (vs.map (cv σ)).toArray ∧ vs.length < 2 ^ 31 ∧ (∀ v ∈ vs, fits ty v = true) ∧ (Z.heap.size ≤ a → Exa Z h a ("[" ++ ty.toString))
def Rep (Z : State) (σ : Nat → Nat) (x0 n0 : Nat) (K : List CD) (h : Heap) (H : AH) : Prop :=
  h.size + x0 = n0 + H.length ∧ x0 ≤ H.length ∧ Old Z n0 h ∧ ∀ (k : Nat) (o : Ob), H[k]? = some o → RepO Z σ K h (σ k) o
def Sg (σ : Nat → Nat) (x0 n0 : Nat) : Prop := (∀ k, x0 ≤ k → σ k + x0 = n0 + k) ∧ (∀ i, i < x0 → σ i < n0) ∧ ∀ i j, i < x0 → j < x0 → σ i = σ j → i = j
theorem Sg.inj {σ : Nat → Nat} {x0 n0 i j : Nat} (h : Sg σ x0 n0) (e : σ i = σ j) : i = j := by
  obtain ⟨h1, h2, h3⟩ := h
  rcases Nat.lt_or_ge i x0 with a | a <;> rcases Nat.lt_or_ge j x0 with b | b
  · exact h3 i j a b e
  · have := h2 i a; have := h1 j b; omega
  · have := h2 j b; have := h1 i a; omega
  · have := h1 i a; have := h1 j b; omega
theorem Sg.new {σ : Nat → Nat} {x0 n0 k : Nat} (h : Sg σ x0 n0) (q : x0 ≤ k) : n0 ≤ σ k := by have := h.1 k q; omega
def KOk (Z : State) (a0 : Array Value) (K : List CD) : Prop := ∀ (c : Nat) (C : String) (fs : List (String × String × String)), K[c]? = some (C, fs) →
  (∃ kk, (Jvm.Cond.instantiable C kk).before a0 Z = true) ∧ (∀ (i : Nat) (f : String × String × String), fs[i]? = some f → Laid Z a0 C f.1 f.2.1 f.2.2 ∧ ∃ ty, parseFieldDescriptor f.2.2 = some ty) ∧
  ∀ (i j : Nat) (f g : String × String × String), fs[i]? = some f → fs[j]? = some g → f.2.1 = g.2.1 → i = j
section Reps
variable {Z : State} {σ : Nat → Nat} {x0 n0 : Nat} {K : List CD} {h h' : Heap} {H : AH} {a0 : Array Value}
theorem RepO.ext {a : Addr} {o : Ob} (E : Ext h h') (R : RepO Z σ K h a o) : RepO Z σ K h' a o := by
  rcases o with ⟨c, vs⟩ | ⟨ty, vs⟩
  · obtain ⟨C, fs, h1, h2, h3⟩ := R
    exact ⟨C, fs, h1, h2.ext E, fun j v q => by obtain ⟨O, n, d, q1, q2⟩ := h3 j v q; exact ⟨O, n, d, q1, q2.ext E⟩⟩
  · obtain ⟨cell, h1, h2, h3, h4, h5⟩ := R
    exact ⟨cell, h1.ext E, h2, h3, h4, fun q => (h5 q).ext E⟩
theorem RepO.other {a b : Addr} {o : Ob} {sl : Nat} {v : Value} (W : Wr h h' a sl v) (R : RepO Z σ K h b o) (ne : b ≠ a) : RepO Z σ K h' b o := by
  rcases o with ⟨c, vs⟩ | ⟨ty, vs⟩
  · obtain ⟨C, fs, h1, h2, h3⟩ := R
    exact ⟨C, fs, h1, h2.wr W, fun j v q => by obtain ⟨O, n, d, q1, q2⟩ := h3 j v q; exact ⟨O, n, d, q1, q2.other W (Or.inl ne)⟩⟩
  · obtain ⟨cell, h1, h2, h3, h4, h5⟩ := R
    exact ⟨cell, h1.other W ne, h2, h3, h4, fun q => (h5 q).wr W⟩
theorem Rep.push (R : Rep Z σ x0 n0 K h H) (E : Ext h h') (hs : h'.size = h.size + 1) {o : Ob} (ho : RepO Z σ K h' (σ H.length) o) : Rep Z σ x0 n0 K h' (H ++ [o]) := by
  obtain ⟨r1, r2, r3, r4⟩ := R
  refine ⟨by rw [hs]; simp; omega, by simp; omega, r3.ext E, fun k o' q => ?_⟩
  rcases Nat.lt_trichotomy k H.length with a | a | a
  · rw [List.getElem?_append_left a] at q; exact (r4 k o' q).ext E
  · subst a; simp at q; subst q; exact ho
  · rw [List.getElem?_append_right (Nat.le_of_lt a), List.getElem?_eq_none (by simp; omega)] at q; cases q
theorem Rep.addr (S : Sg σ x0 n0) (R : Rep Z σ x0 n0 K h H) : σ H.length = h.size := by have := S.1 H.length R.2.1; have := R.1; omega
theorem Rep.write (S : Sg σ x0 n0) (R : Rep Z σ x0 n0 K h H) {k sl : Nat} {v : Value} {o : Ob} (hk : x0 ≤ k) (W : Wr h h' (σ k) sl v) (ho : RepO Z σ K h' (σ k) o) : Rep Z σ x0 n0 K h' (H.set k o) := by
  obtain ⟨r1, r2, r3, r4⟩ := R
  refine ⟨by rw [W.size]; simpa using r1, by simpa using r2, r3.wr W (S.new hk), fun j o' q => ?_⟩
  by_cases e : k = j
  · subst e
    by_cases hl : k < H.length
    · rw [List.getElem?_set_self hl] at q; cases q; exact ho
    · rw [List.getElem?_eq_none (by simp; omega)] at q; cases q
  · rw [List.getElem?_set_ne e] at q
    exact (r4 j o' q).other W fun u => e (S.inj u).symm
theorem cv_fits (ty : FieldType) (v : Value) : fits ty (cv σ v) = fits ty v := by cases v <;> first | rfl | (cases ty <;> rfl)
theorem RepO.fld (KO : KOk Z a0 K) {a : Addr} {c j : Nat} {vs : List Value} {v : Value} {C O n d : String} {fs : List (String × String × String)} (hC : K[c]? = some (C, fs)) (hj : fs[j]? = some (O, n, d)) (R : RepO Z σ K h a (.inl (c, vs))) (W : Wr h h' a (Jvm.RoadKit.slotOf Z O n d) (cv σ v)) : RepO Z σ K h' a (.inl (c, vs.set j v)) := by
  obtain ⟨C', fs', h1, h2, h3⟩ := R
  cases hC.symm.trans h1
  obtain ⟨-, k2, k3⟩ := KO c C fs hC
  refine ⟨C, fs, hC, h2.wr W, fun i w q => ?_⟩
  by_cases e : j = i
  · subst e
    by_cases hl : j < vs.length
    · rw [List.getElem?_set_self hl] at q; cases q
      obtain ⟨O', n', d', q1, q2⟩ := h3 j _ (List.getElem?_eq_getElem hl)
      cases hj.symm.trans q1
      exact ⟨O, n, d, hj, q2.same W⟩
    · rw [List.getElem?_eq_none (by simp; omega)] at q; cases q
  · rw [List.getElem?_set_ne e] at q
    obtain ⟨O', n', d', q1, q2⟩ := h3 i w q
    obtain ⟨l1, t1, p1⟩ := k2 j _ hj
    obtain ⟨l2, t2, p2⟩ := k2 i _ q1
    exact ⟨O', n', d', q1, q2.other W (Or.inr (slot_ne l2 l1 (fun u => e (k3 j i _ _ hj q1 u.symm)) p2 p1))⟩
theorem RepO.arr {a : Addr} {i : Nat} {ty : FieldType} {vs : List Value} {v : Value} (R : RepO Z σ K h a (.inr (ty, vs))) (hf : fits ty v = true) (W : Wr h h' a i (cv σ v)) : RepO Z σ K h' a (.inr (ty, vs.set i v)) := by
  obtain ⟨cell, h1, h2, h3, h4, h5⟩ := R
  refine ⟨_, h1.same W, ?_, by simpa using h3, fun w hw => ?_, fun q => (h5 q).wr W⟩
  · simp [Cell.setSlot, h2]
  · rcases List.mem_or_eq_of_mem_set hw with q | rfl
    · exact h4 w q
    · exact hf
theorem arr_some {H : AH} {k : Nat} {q : FieldType × List Value} (e : arr H k = some q) : H[k]? = some (.inr q) := by
  unfold arr at e; split at e
  · rename_i q' hq; cases e; exact hq
  · cases e
end Reps
/-! ## 3. One step of the machine is a orun of the JVM -/
section Sound
def Good (p : Program) (l : Launch) (e : Env) (R : Room) (s : State) (m : MethodId) (args : Array Value) (below : List Frame) (meth : Method) (c : Code) (Z : State) (σ : Nat → Nat) (x0 n0 : Nat) (K : List CD) (i : Instr) (act : Act) : Prop :=
  ∀ (T : State) (locs : List Loc) (cs ss pc : Nat) (L : List Slot) (S : List Value) (H : AH) (S' : List Value) (H' : AH) (cs' ss' : Nat), Stand p l e R s m args below meth c T locs cs ss → decode c.code pc = .ok (i, il i) → L.length = c.maxLocals → Rep Z σ x0 n0 K T.heap H → Fr n0 locs → cs ≤ R.cells ∧ ss ≤ R.slots → act S H cs ss = some (S', H', cs', ss') →
    ∃ T' locs', Stand p l e R s m args below meth c T' locs' cs' ss' ∧ Rep Z σ x0 n0 K T'.heap H' ∧ Fr n0 locs' ∧ (cs' ≤ R.cells ∧ ss' ≤ R.slots) ∧ ∀ target, Steps p.tables e below (T'.setTop (mkF m (pc + il i) (cL σ L) (S'.map (cv σ)))) target → Steps p.tables e below (T.setTop (mkF m pc (cL σ L) (S.map (cv σ)))) target
def AllGood (p : Program) (l : Launch) (e : Env) (R : Room) (s : State) (m : MethodId) (args : Array Value) (below : List Frame) (meth : Method) (c : Code) (Z : State) (σ : Nat → Nat) (x0 n0 : Nat) (K : List CD) : List (Nat × Nat × Act) → Prop
  | [] => True
  | x :: r => Good p l e R s m args below meth c Z σ x0 n0 K (insOf x.1 x.2.1) x.2.2 ∧ AllGood p l e R s m args below meth c Z σ x0 n0 K r
/-- the end: it has returned v, over the heap H' -/
def Done (p : Program) (e : Env) (R : Room) (s : State) (below : List Frame) (Z : State) (σ : Nat → Nat) (x0 n0 : Nat) (K : List CD) (r : ORes) (T : State) (g : JFrame) : Prop :=
  ∃ t, Steps p.tables e below (T.setTop g) t ∧ t.status = .running ∧ Ended t below (.returned (r.1.map (cv σ))) ∧ Rep Z σ x0 n0 K t.heap r.2 ∧ ∃ L, Fr n0 L ∧ s.WarmedH t.vm ∧ s.sameButNew ({ t with vm := s.vm } : State) L R.cells R.slots
variable {p : Program} {l : Launch} {e : Env} {R : Room} {s : State} {m : MethodId} {args : Array Value} {below : List Frame} {meth : Method} {c : Code} {Z : State} {σ : Nat → Nat} {x0 n0 : Nat} {K : List CD}
theorem look_good {E : List (Nat × Nat × Act)} {q i : Nat} {act : Act} (h : AllGood p l e R s m args below meth c Z σ x0 n0 K E) (hl : look q i E = some act) : Good p l e R s m args below meth c Z σ x0 n0 K (insOf q i) act := by
  induction E with
  | nil => cases hl
  | cons x r ih =>
    unfold look at hl
    split at hl
    · rename_i hq; cases hl; obtain ⟨rfl, rfl⟩ := hq; exact h.1
    · exact ih h.2 hl
theorem Done.step {r : ORes} {T T' : State} {g g' : JFrame} (D : Done p e R s below Z σ x0 n0 K r T' g') (st : ∀ target, Steps p.tables e below (T'.setTop g') target → Steps p.tables e below (T.setTop g) target) : Done p e R s below Z σ x0 n0 K r T g := by
  obtain ⟨t, h1, h2⟩ := D; exact ⟨t, st _ h1, h2⟩
theorem gI_ok {L : List Slot} {k : Nat} {v : Int32} (h : gI L k = some v) : (cL σ L)[k]? = some (.val (.int v)) := by
  unfold gI at h; split at h
  · rename_i w hw; cases h; simp [cL, hw, csl, cv]
  · cases h
theorem gL_ok {L : List Slot} {k : Nat} {v : Int64} (h : gL L k = some v) : (cL σ L)[k]? = some (.val (.long v)) := by
  unfold gL at h; split at h
  · rename_i w hw; cases h; simp [cL, hw, csl, cv]
  · cases h
theorem gA_ok {L : List Slot} {k : Nat} {v : Value} (h : gA L k = some v) : (cL σ L)[k]? = some (.val (cv σ v)) ∧ (cv σ v).isRef = true := by
  unfold gA at h; split at h
  · rename_i w hw; cases h; simp [cL, hw, csl, cv, Value.isRef]
  · rename_i hw; cases h; simp [cL, hw, csl, cv, Value.isRef]
  · cases h
theorem st1_ok {L L' : List Slot} {k : Nat} {v : Value} (h : st1 L k v = some L') (hv : v.category = 1) : storeLocals (cL σ L) k (cv σ v) = some (cL σ L') ∧ L'.length = L.length := by
  have hv' : (cv σ v).category = 1 := by cases v <;> first | rfl | exact hv
  have key : ∀ o : Slot, L[k]? = some o → One (csl σ o) → L' = L.set k (.val v) → storeLocals (cL σ L) k (cv σ v) = some (cL σ L') ∧ L'.length = L.length := by
    intro o ho h1 e
    subst e
    refine ⟨?_, by simp⟩
    rw [XS.store1 (o := csl σ o) (by simp [cL, ho]) h1 hv']
    simp [cL, csl, List.map_set]
  unfold st1 at h; split at h <;> first | cases h | skip
  all_goals (rename_i ho; exact key _ ho (by first | exact One.u | exact One.val rfl) rfl)
theorem st2_ok {L L' : List Slot} {k : Nat} {x : Int64} (h : st2 L k x = some L') : storeLocals (cL σ L) k (.long x) = some (cL σ L') ∧ L'.length = L.length := by
  unfold st2 at h; split at h
  · rename_i h1 h2
    cases h
    refine ⟨?_, by simp⟩
    obtain ⟨b1, g1⟩ := List.getElem?_eq_some_iff.mp h1
    obtain ⟨b2, g2⟩ := List.getElem?_eq_some_iff.mp h2
    simp [storeLocals, storeSelf, setAt, cL, csl, cv, h1, h2, b1, b2, g1, g2, Value.category, List.map_set, List.getElem?_set]
  · rename_i y h1 h2
    cases h
    refine ⟨?_, by simp⟩
    obtain ⟨b1, g1⟩ := List.getElem?_eq_some_iff.mp h1
    obtain ⟨b2, g2⟩ := List.getElem?_eq_some_iff.mp h2
    simp [storeLocals, storeSelf, setAt, cL, csl, cv, h1, h2, b1, b2, g1, g2, Value.category, List.map_set, List.getElem?_set]
    rw [List.set_comm _ _ (show k + 1 ≠ k by omega), List.set_set]
  · cases h
theorem pI_ok {S : List Value} {f : Int32 → List Value → Option ORes} {r : ORes} (h : pI S f = some r) : ∃ x S', S = .int x :: S' ∧ f x S' = some r := by
  unfold pI at h; split at h
  · exact ⟨_, _, rfl, h⟩
  · cases h
theorem pL_ok {S : List Value} {f : Int64 → List Value → Option ORes} {r : ORes} (h : pL S f = some r) : ∃ x S', S = .long x :: S' ∧ f x S' = some r := by
  unfold pL at h; split at h
  · exact ⟨_, _, rfl, h⟩
  · cases h
theorem pR_ok {S : List Value} {f : Nat → List Value → Option ORes} {r : ORes} (h : pR S f = some r) : ∃ x S', S = .ref x :: S' ∧ f x S' = some r := by
  unfold pR at h; split at h
  · exact ⟨_, _, rfl, h⟩
  · cases h
theorem pA_ok {S : List Value} {f : Value → List Value → Option ORes} {r : ORes} (h : pA S f = some r) : ∃ x S', S = x :: S' ∧ f x S' = some r ∧ (x = .null ∨ ∃ a, x = .ref a) := by
  unfold pA at h; split at h
  · exact ⟨_, _, rfl, h, Or.inr ⟨_, rfl⟩⟩
  · exact ⟨_, _, rfl, h, Or.inl rfl⟩
  · cases h
theorem p1_ok {S : List Value} {f : Value → List Value → Option ORes} {r : ORes} (h : p1 S f = some r) : ∃ x S', S = x :: S' ∧ f x S' = some r ∧ (cv σ x).category = 1 := by
  unfold p1 at h; split at h
  · exact ⟨_, _, rfl, h, rfl⟩
  · exact ⟨_, _, rfl, h, rfl⟩
  · exact ⟨_, _, rfl, h, rfl⟩
  · cases h
theorem bind_ok {α : Type} {o : Option α} {f : α → Option ORes} {r : ORes} (h : o.bind f = some r) : ∃ x, o = some x ∧ f x = some r := Option.bind_eq_some_iff.mp h
theorem br_ok {b : Bool} {pc : Nat} {o : Int} {f : Nat → Option ORes} {r : ORes} (h : br b pc o f = some r) : 0 ≤ (pc : Int) + o ∧ ((b = true ∧ f ((pc : Int) + o).toNat = some r) ∨ (b = false ∧ f (pc + 3) = some r)) := by
  unfold br at h; split at h
  · rename_i q; cases b
    · exact ⟨q, Or.inr ⟨rfl, h⟩⟩
    · exact ⟨q, Or.inl ⟨rfl, h⟩⟩
  · cases h
theorem ref_of {x : Value} (h : x = .null ∨ ∃ a, x = .ref a) : (cv σ x).isRef = true ∧ x.category = 1 := by rcases h with rfl | ⟨a, rfl⟩ <;> exact ⟨rfl, rfl⟩
theorem refEq_ok (hsg : Sg σ x0 n0) {x y : Value} (hx : x = .null ∨ ∃ a, x = .ref a) (hy : y = .null ∨ ∃ a, y = .ref a) : decide (cv σ x = cv σ y) = refEq x y := by
  rcases hx with rfl | ⟨a, rfl⟩ <;> rcases hy with rfl | ⟨b, rfl⟩ <;> simp [cv, refEq]
  exact ⟨fun h => hsg.inj h, fun h => by rw [h]⟩
theorem size_cL {L : List Slot} : (cL σ L).size = L.length := by simp [cL]
theorem inB {cell : Cell} {j : Int32} {v : Value} (h : ¬ j < 0) (hv : cell.slots[j.toNatClampNeg]? = some v) : ¬ (j < 0 ∨ cell.slots.size ≤ j.toNatClampNeg) := fun q => q.elim h fun q => by rw [Array.getElem?_eq_none q] at hv; cases hv
set_option maxHeartbeats 4000000 in
theorem ex_sound {rt : Option FieldType} {E : List (Nat × Nat × Act)} {k : St → Option ORes} {res : ORes} (hx : p.tables.exec = Jvm.exec) (hZ : Z.Warmed39 s.vm) (hsg : Sg σ x0 n0) (hrt : meth.sig.returnType = rt) (hlk : meth.locks = false) (hE : AllGood p l e R s m args below meth c Z σ x0 n0 K E)
    (hk : ∀ (T : State) (locs : List Loc) (cs ss pc : Nat) (L : List Slot) (S : List Value) (H : AH), Stand p l e R s m args below meth c T locs cs ss → L.length = c.maxLocals → Rep Z σ x0 n0 K T.heap H → Fr n0 locs → cs ≤ R.cells ∧ ss ≤ R.slots → k (pc, L, S, H, cs, ss) = some res → Done p e R s below Z σ x0 n0 K res T (mkF m pc (cL σ L) (S.map (cv σ))))
    {T : State} {locs : List Loc} {cs ss pc : Nat} {i : Instr} {L : List Slot} {S : List Value} {H : AH} (X : Stand p l e R s m args below meth c T locs cs ss) (hd : decode c.code pc = .ok (i, il i)) (hL : L.length = c.maxLocals) (hR : Rep Z σ x0 n0 K T.heap H) (hF : Fr n0 locs) (hB : cs ≤ R.cells ∧ ss ≤ R.slots)
    (h : ex rt E x0 k i pc L S H cs ss = some res) : Done p e R s below Z σ x0 n0 K res T (mkF m pc (cL σ L) (S.map (cv σ))) := by
  cases i with
  | iload n =>
    dsimp only [ex] at h
    replace h := bind_ok h
    obtain ⟨v, h1, h⟩ := h
    exact (hk _ _ _ _ _ _ _ _ X hL hR hF hB h).step fun t q => XS.iload X.here hx rfl hd (gI_ok h1) q
  | iload_n n =>
    dsimp only [ex] at h
    replace h := bind_ok h
    obtain ⟨v, h1, h⟩ := h
    exact (hk _ _ _ _ _ _ _ _ X hL hR hF hB h).step fun t q => XS.iloadN X.here hx rfl hd (gI_ok h1) q
  | lload n =>
    dsimp only [ex] at h
    replace h := bind_ok h
    obtain ⟨v, h1, h⟩ := h
    exact (hk _ _ _ _ _ _ _ _ X hL hR hF hB h).step fun t q => XS.lload X.here hx rfl hd (gL_ok h1) q
  | lload_n n =>
    dsimp only [ex] at h
    replace h := bind_ok h
    obtain ⟨v, h1, h⟩ := h
    exact (hk _ _ _ _ _ _ _ _ X hL hR hF hB h).step fun t q => XS.lloadN X.here hx rfl hd (gL_ok h1) q
  | aload n =>
    dsimp only [ex] at h
    replace h := bind_ok h
    obtain ⟨v, h1, h⟩ := h
    exact (hk _ _ _ _ _ _ _ _ X hL hR hF hB h).step fun t q => XS.aload X.here hx rfl hd (gA_ok h1).1 (gA_ok (σ := σ) h1).2 q
  | aload_n n =>
    dsimp only [ex] at h
    replace h := bind_ok h
    obtain ⟨v, h1, h⟩ := h
    exact (hk _ _ _ _ _ _ _ _ X hL hR hF hB h).step fun t q => XS.aloadN X.here hx rfl hd (gA_ok h1).1 (gA_ok (σ := σ) h1).2 q
  | istore n =>
    dsimp only [ex] at h
    replace h := pI_ok h
    obtain ⟨x, S1, rfl, h⟩ := h
    replace h := bind_ok h
    obtain ⟨L1, h1, h⟩ := h
    have h2 := st1_ok (σ := σ) h1 rfl
    exact (hk _ _ _ _ _ _ _ _ X (h2.2.trans hL) hR hF hB h).step fun t q => XS.istore X.here hx rfl hd rfl h2.1 q
  | istore_n n =>
    dsimp only [ex] at h
    replace h := pI_ok h
    obtain ⟨x, S1, rfl, h⟩ := h
    replace h := bind_ok h
    obtain ⟨L1, h1, h⟩ := h
    have h2 := st1_ok (σ := σ) h1 rfl
    exact (hk _ _ _ _ _ _ _ _ X (h2.2.trans hL) hR hF hB h).step fun t q => XS.istoreN X.here hx rfl hd rfl h2.1 q
  | lstore n =>
    dsimp only [ex] at h
    replace h := pL_ok h
    obtain ⟨x, S1, rfl, h⟩ := h
    replace h := bind_ok h
    obtain ⟨L1, h1, h⟩ := h
    have h2 := st2_ok (σ := σ) h1
    exact (hk _ _ _ _ _ _ _ _ X (h2.2.trans hL) hR hF hB h).step fun t q => XS.lstore X.here hx rfl hd rfl h2.1 q
  | lstore_n n =>
    dsimp only [ex] at h
    replace h := pL_ok h
    obtain ⟨x, S1, rfl, h⟩ := h
    replace h := bind_ok h
    obtain ⟨L1, h1, h⟩ := h
    have h2 := st2_ok (σ := σ) h1
    exact (hk _ _ _ _ _ _ _ _ X (h2.2.trans hL) hR hF hB h).step fun t q => XS.lstoreN X.here hx rfl hd rfl h2.1 q
  | astore n =>
    dsimp only [ex] at h
    replace h := pA_ok h
    obtain ⟨x, S1, rfl, h, hr⟩ := h
    replace h := bind_ok h
    obtain ⟨L1, h1, h⟩ := h
    have h2 := st1_ok (σ := σ) h1 (ref_of (σ := σ) hr).2
    exact (hk _ _ _ _ _ _ _ _ X (h2.2.trans hL) hR hF hB h).step fun t q => XS.astore X.here hx rfl hd rfl (ref_of hr).1 h2.1 q
  | astore_n n =>
    dsimp only [ex] at h
    replace h := pA_ok h
    obtain ⟨x, S1, rfl, h, hr⟩ := h
    replace h := bind_ok h
    obtain ⟨L1, h1, h⟩ := h
    have h2 := st1_ok (σ := σ) h1 (ref_of (σ := σ) hr).2
    exact (hk _ _ _ _ _ _ _ _ X (h2.2.trans hL) hR hF hB h).step fun t q => XS.astoreN X.here hx rfl hd rfl (ref_of hr).1 h2.1 q
  | iinc n cst =>
    dsimp only [ex] at h
    replace h := bind_ok h
    obtain ⟨v, h1, h⟩ := h
    replace h := bind_ok h
    obtain ⟨L1, h2, h⟩ := h
    have h2 := st1_ok (σ := σ) h2 rfl
    exact (hk _ _ _ _ _ _ _ _ X (h2.2.trans hL) hR hF hB h).step fun t q => XS.iinc X.here hx rfl hd (gI_ok h1) h2.1 q
  | iconst cst =>
    dsimp only [ex] at h
    exact (hk _ _ _ _ _ _ _ _ X hL hR hF hB h).step fun t q => XS.iconst X.here hx rfl hd q
  | bipush cst =>
    dsimp only [ex] at h
    exact (hk _ _ _ _ _ _ _ _ X hL hR hF hB h).step fun t q => XS.bipush X.here hx rfl hd q
  | sipush cst =>
    dsimp only [ex] at h
    exact (hk _ _ _ _ _ _ _ _ X hL hR hF hB h).step fun t q => XS.sipush X.here hx rfl hd q
  | lconst cst =>
    dsimp only [ex] at h
    exact (hk _ _ _ _ _ _ _ _ X hL hR hF hB h).step fun t q => XS.lconst X.here hx rfl hd q
  | aconst_null =>
    dsimp only [ex] at h
    exact (hk _ _ _ _ _ _ _ _ X hL hR hF hB h).step fun t q => XS.aconstNull X.here hx rfl hd q
  | iadd =>
    dsimp only [ex] at h
    replace h := pI_ok h
    obtain ⟨y, S1, rfl, h⟩ := h
    replace h := pI_ok h
    obtain ⟨x, S2, rfl, h⟩ := h
    exact (hk _ _ _ _ _ _ _ _ X hL hR hF hB h).step fun t q => XS.iadd X.here hx rfl hd rfl q
  | isub =>
    dsimp only [ex] at h
    replace h := pI_ok h
    obtain ⟨y, S1, rfl, h⟩ := h
    replace h := pI_ok h
    obtain ⟨x, S2, rfl, h⟩ := h
    exact (hk _ _ _ _ _ _ _ _ X hL hR hF hB h).step fun t q => XS.isub X.here hx rfl hd rfl q
  | imul =>
    dsimp only [ex] at h
    replace h := pI_ok h
    obtain ⟨y, S1, rfl, h⟩ := h
    replace h := pI_ok h
    obtain ⟨x, S2, rfl, h⟩ := h
    exact (hk _ _ _ _ _ _ _ _ X hL hR hF hB h).step fun t q => XS.imul X.here hx rfl hd rfl q
  | iand =>
    dsimp only [ex] at h
    replace h := pI_ok h
    obtain ⟨y, S1, rfl, h⟩ := h
    replace h := pI_ok h
    obtain ⟨x, S2, rfl, h⟩ := h
    exact (hk _ _ _ _ _ _ _ _ X hL hR hF hB h).step fun t q => XS.iand X.here hx rfl hd rfl q
  | ior =>
    dsimp only [ex] at h
    replace h := pI_ok h
    obtain ⟨y, S1, rfl, h⟩ := h
    replace h := pI_ok h
    obtain ⟨x, S2, rfl, h⟩ := h
    exact (hk _ _ _ _ _ _ _ _ X hL hR hF hB h).step fun t q => XS.ior X.here hx rfl hd rfl q
  | ixor =>
    dsimp only [ex] at h
    replace h := pI_ok h
    obtain ⟨y, S1, rfl, h⟩ := h
    replace h := pI_ok h
    obtain ⟨x, S2, rfl, h⟩ := h
    exact (hk _ _ _ _ _ _ _ _ X hL hR hF hB h).step fun t q => XS.ixor X.here hx rfl hd rfl q
  | ishl =>
    dsimp only [ex] at h
    replace h := pI_ok h
    obtain ⟨y, S1, rfl, h⟩ := h
    replace h := pI_ok h
    obtain ⟨x, S2, rfl, h⟩ := h
    exact (hk _ _ _ _ _ _ _ _ X hL hR hF hB h).step fun t q => XS.ishl X.here hx rfl hd rfl q
  | ishr =>
    dsimp only [ex] at h
    replace h := pI_ok h
    obtain ⟨y, S1, rfl, h⟩ := h
    replace h := pI_ok h
    obtain ⟨x, S2, rfl, h⟩ := h
    exact (hk _ _ _ _ _ _ _ _ X hL hR hF hB h).step fun t q => XS.ishr X.here hx rfl hd rfl q
  | iushr =>
    dsimp only [ex] at h
    replace h := pI_ok h
    obtain ⟨y, S1, rfl, h⟩ := h
    replace h := pI_ok h
    obtain ⟨x, S2, rfl, h⟩ := h
    exact (hk _ _ _ _ _ _ _ _ X hL hR hF hB h).step fun t q => XS.iushr X.here hx rfl hd rfl q
  | ladd =>
    dsimp only [ex] at h
    replace h := pL_ok h
    obtain ⟨y, S1, rfl, h⟩ := h
    replace h := pL_ok h
    obtain ⟨x, S2, rfl, h⟩ := h
    exact (hk _ _ _ _ _ _ _ _ X hL hR hF hB h).step fun t q => XS.ladd X.here hx rfl hd rfl q
  | lsub =>
    dsimp only [ex] at h
    replace h := pL_ok h
    obtain ⟨y, S1, rfl, h⟩ := h
    replace h := pL_ok h
    obtain ⟨x, S2, rfl, h⟩ := h
    exact (hk _ _ _ _ _ _ _ _ X hL hR hF hB h).step fun t q => XS.lsub X.here hx rfl hd rfl q
  | lmul =>
    dsimp only [ex] at h
    replace h := pL_ok h
    obtain ⟨y, S1, rfl, h⟩ := h
    replace h := pL_ok h
    obtain ⟨x, S2, rfl, h⟩ := h
    exact (hk _ _ _ _ _ _ _ _ X hL hR hF hB h).step fun t q => XS.lmul X.here hx rfl hd rfl q
  | land =>
    dsimp only [ex] at h
    replace h := pL_ok h
    obtain ⟨y, S1, rfl, h⟩ := h
    replace h := pL_ok h
    obtain ⟨x, S2, rfl, h⟩ := h
    exact (hk _ _ _ _ _ _ _ _ X hL hR hF hB h).step fun t q => XS.land X.here hx rfl hd rfl q
  | lor =>
    dsimp only [ex] at h
    replace h := pL_ok h
    obtain ⟨y, S1, rfl, h⟩ := h
    replace h := pL_ok h
    obtain ⟨x, S2, rfl, h⟩ := h
    exact (hk _ _ _ _ _ _ _ _ X hL hR hF hB h).step fun t q => XS.lor X.here hx rfl hd rfl q
  | lxor =>
    dsimp only [ex] at h
    replace h := pL_ok h
    obtain ⟨y, S1, rfl, h⟩ := h
    replace h := pL_ok h
    obtain ⟨x, S2, rfl, h⟩ := h
    exact (hk _ _ _ _ _ _ _ _ X hL hR hF hB h).step fun t q => XS.lxor X.here hx rfl hd rfl q
  | lcmp =>
    dsimp only [ex] at h
    replace h := pL_ok h
    obtain ⟨y, S1, rfl, h⟩ := h
    replace h := pL_ok h
    obtain ⟨x, S2, rfl, h⟩ := h
    exact (hk _ _ _ _ _ _ _ _ X hL hR hF hB h).step fun t q => XS.lcmp X.here hx rfl hd rfl q
  | lshl =>
    dsimp only [ex] at h
    replace h := pI_ok h
    obtain ⟨y, S1, rfl, h⟩ := h
    replace h := pL_ok h
    obtain ⟨x, S2, rfl, h⟩ := h
    exact (hk _ _ _ _ _ _ _ _ X hL hR hF hB h).step fun t q => XS.lshl X.here hx rfl hd rfl q
  | lshr =>
    dsimp only [ex] at h
    replace h := pI_ok h
    obtain ⟨y, S1, rfl, h⟩ := h
    replace h := pL_ok h
    obtain ⟨x, S2, rfl, h⟩ := h
    exact (hk _ _ _ _ _ _ _ _ X hL hR hF hB h).step fun t q => XS.lshr X.here hx rfl hd rfl q
  | lushr =>
    dsimp only [ex] at h
    replace h := pI_ok h
    obtain ⟨y, S1, rfl, h⟩ := h
    replace h := pL_ok h
    obtain ⟨x, S2, rfl, h⟩ := h
    exact (hk _ _ _ _ _ _ _ _ X hL hR hF hB h).step fun t q => XS.lushr X.here hx rfl hd rfl q
  | idiv =>
    dsimp only [ex] at h
    replace h := pI_ok h
    obtain ⟨y, S1, rfl, h⟩ := h
    replace h := pI_ok h
    obtain ⟨x, S2, rfl, h⟩ := h
    split at h
    · cases h
    · rename_i hy
      exact (hk _ _ _ _ _ _ _ _ X hL hR hF hB h).step fun t q => XS.idiv X.here hx rfl hd rfl hy q
  | irem =>
    dsimp only [ex] at h
    replace h := pI_ok h
    obtain ⟨y, S1, rfl, h⟩ := h
    replace h := pI_ok h
    obtain ⟨x, S2, rfl, h⟩ := h
    split at h
    · cases h
    · rename_i hy
      exact (hk _ _ _ _ _ _ _ _ X hL hR hF hB h).step fun t q => iremM X hx rfl hd rfl hy q
  | ldiv =>
    dsimp only [ex] at h
    replace h := pL_ok h
    obtain ⟨y, S1, rfl, h⟩ := h
    replace h := pL_ok h
    obtain ⟨x, S2, rfl, h⟩ := h
    split at h
    · cases h
    · rename_i hy
      exact (hk _ _ _ _ _ _ _ _ X hL hR hF hB h).step fun t q => XS.ldiv X.here hx rfl hd rfl hy q
  | lrem =>
    dsimp only [ex] at h
    replace h := pL_ok h
    obtain ⟨y, S1, rfl, h⟩ := h
    replace h := pL_ok h
    obtain ⟨x, S2, rfl, h⟩ := h
    split at h
    · cases h
    · rename_i hy
      exact (hk _ _ _ _ _ _ _ _ X hL hR hF hB h).step fun t q => XS.lrem X.here hx rfl hd rfl hy (by rw [lrem_mod]; exact q)
  | ineg =>
    dsimp only [ex] at h
    replace h := pI_ok h
    obtain ⟨x, S1, rfl, h⟩ := h
    exact (hk _ _ _ _ _ _ _ _ X hL hR hF hB h).step fun t q => XS.ineg X.here hx rfl hd rfl q
  | i2b =>
    dsimp only [ex] at h
    replace h := pI_ok h
    obtain ⟨x, S1, rfl, h⟩ := h
    exact (hk _ _ _ _ _ _ _ _ X hL hR hF hB h).step fun t q => XS.i2b X.here hx rfl hd rfl q
  | i2c =>
    dsimp only [ex] at h
    replace h := pI_ok h
    obtain ⟨x, S1, rfl, h⟩ := h
    exact (hk _ _ _ _ _ _ _ _ X hL hR hF hB h).step fun t q => XS.i2c X.here hx rfl hd rfl q
  | i2s =>
    dsimp only [ex] at h
    replace h := pI_ok h
    obtain ⟨x, S1, rfl, h⟩ := h
    exact (hk _ _ _ _ _ _ _ _ X hL hR hF hB h).step fun t q => XS.i2s X.here hx rfl hd rfl q
  | i2l =>
    dsimp only [ex] at h
    replace h := pI_ok h
    obtain ⟨x, S1, rfl, h⟩ := h
    exact (hk _ _ _ _ _ _ _ _ X hL hR hF hB h).step fun t q => XS.i2l X.here hx rfl hd rfl q
  | l2i =>
    dsimp only [ex] at h
    replace h := pL_ok h
    obtain ⟨x, S1, rfl, h⟩ := h
    exact (hk _ _ _ _ _ _ _ _ X hL hR hF hB h).step fun t q => XS.l2i X.here hx rfl hd rfl q
  | lneg =>
    dsimp only [ex] at h
    replace h := pL_ok h
    obtain ⟨x, S1, rfl, h⟩ := h
    exact (hk _ _ _ _ _ _ _ _ X hL hR hF hB h).step fun t q => XS.lneg X.here hx rfl hd rfl q
  | dup =>
    dsimp only [ex] at h
    replace h := p1_ok (σ := σ) h
    obtain ⟨x, S1, rfl, h, h1⟩ := h
    exact (hk _ _ _ _ _ _ _ _ X hL hR hF hB h).step fun t q => XS.dup X.here hx rfl hd rfl h1 q
  | pop =>
    dsimp only [ex] at h
    replace h := p1_ok (σ := σ) h
    obtain ⟨x, S1, rfl, h, h1⟩ := h
    exact (hk _ _ _ _ _ _ _ _ X hL hR hF hB h).step fun t q => XS.pop X.here hx rfl hd rfl h1 q
  | dup_x1 =>
    dsimp only [ex] at h
    replace h := p1_ok (σ := σ) h
    obtain ⟨x, S1, rfl, h, h1⟩ := h
    replace h := p1_ok (σ := σ) h
    obtain ⟨y, S2, rfl, h, h2⟩ := h
    exact (hk _ _ _ _ _ _ _ _ X hL hR hF hB h).step fun t q => XS.dupX1 X.here hx rfl hd rfl h1 h2 q
  | dup2 =>
    dsimp only [ex] at h
    replace h := p1_ok (σ := σ) h
    obtain ⟨x, S1, rfl, h, h1⟩ := h
    replace h := p1_ok (σ := σ) h
    obtain ⟨y, S2, rfl, h, h2⟩ := h
    exact (hk _ _ _ _ _ _ _ _ X hL hR hF hB h).step fun t q => XT.dup2 X.here hx rfl hd rfl h1 h2 q
  | goto o =>
    dsimp only [ex] at h
    split at h
    · rename_i ho
      exact (hk _ _ _ _ _ _ _ _ X hL hR hF hB h).step fun t q => XS.goto X.here hx rfl rfl hd ho rfl q
    · cases h
  | ifCond cd o =>
    dsimp only [ex] at h
    replace h := pI_ok h
    obtain ⟨x, S1, rfl, h⟩ := h
    replace h := br_ok h
    obtain ⟨ho, ⟨hc, h⟩ | ⟨hc, h⟩⟩ := h
    · exact (hk _ _ _ _ _ _ _ _ X hL hR hF hB h).step fun t q => XS.ifYes X.here hx rfl rfl hd rfl hc ho rfl q
    · exact (hk _ _ _ _ _ _ _ _ X hL hR hF hB h).step fun t q => XS.ifNo X.here hx rfl hd rfl hc q
  | if_icmp cd o =>
    dsimp only [ex] at h
    replace h := pI_ok h
    obtain ⟨y, S1, rfl, h⟩ := h
    replace h := pI_ok h
    obtain ⟨x, S2, rfl, h⟩ := h
    replace h := br_ok h
    obtain ⟨ho, ⟨hc, h⟩ | ⟨hc, h⟩⟩ := h
    · exact (hk _ _ _ _ _ _ _ _ X hL hR hF hB h).step fun t q => XS.icmpYes X.here hx rfl rfl hd rfl hc ho rfl q
    · exact (hk _ _ _ _ _ _ _ _ X hL hR hF hB h).step fun t q => XS.icmpNo X.here hx rfl hd rfl hc q
  | ifnull o =>
    dsimp only [ex] at h
    replace h := pA_ok h
    obtain ⟨x, S1, rfl, h, hr⟩ := h
    replace h := br_ok h
    obtain ⟨ho, ⟨hc, h⟩ | ⟨hc, h⟩⟩ := h
    · rcases hr with rfl | ⟨a, rfl⟩
      · exact (hk _ _ _ _ _ _ _ _ X hL hR hF hB h).step fun t q => XS.ifnullYes X.here hx rfl rfl hd rfl ho rfl q
      · cases hc
    · rcases hr with rfl | ⟨a, rfl⟩
      · cases hc
      · exact (hk _ _ _ _ _ _ _ _ X hL hR hF hB h).step fun t q => XS.ifnullNo X.here hx rfl hd rfl q
  | ifnonnull o =>
    dsimp only [ex] at h
    replace h := pA_ok h
    obtain ⟨x, S1, rfl, h, hr⟩ := h
    replace h := br_ok h
    obtain ⟨ho, ⟨hc, h⟩ | ⟨hc, h⟩⟩ := h
    · rcases hr with rfl | ⟨a, rfl⟩
      · cases hc
      · exact (hk _ _ _ _ _ _ _ _ X hL hR hF hB h).step fun t q => XS.ifnonnullYes X.here hx rfl rfl hd rfl ho rfl q
    · rcases hr with rfl | ⟨a, rfl⟩
      · exact (hk _ _ _ _ _ _ _ _ X hL hR hF hB h).step fun t q => XS.ifnonnullNo X.here hx rfl hd rfl q
      · cases hc
  | if_acmp cd o =>
    dsimp only [ex] at h
    replace h := pA_ok h
    obtain ⟨y, S1, rfl, h, hr⟩ := h
    replace h := pA_ok h
    obtain ⟨x, S2, rfl, h, hr'⟩ := h
    replace h := br_ok h
    obtain ⟨ho, ⟨hc, h⟩ | ⟨hc, h⟩⟩ := h
    · exact (hk _ _ _ _ _ _ _ _ X hL hR hF hB h).step fun t q => acmp X hx rfl (ref_of hr').1 (ref_of hr).1 (same := refEq x y) rfl hd rfl (refEq_ok hsg hr' hr) ho (by rw [if_pos hc]) q
    · exact (hk _ _ _ _ _ _ _ _ X hL hR hF hB h).step fun t q => acmp X hx rfl (ref_of hr').1 (ref_of hr).1 (same := refEq x y) rfl hd rfl (refEq_ok hsg hr' hr) ho (by rw [if_neg (by simp [hc])]) q
  | arraylength =>
    dsimp only [ex] at h
    replace h := pR_ok h
    obtain ⟨a, S1, rfl, h⟩ := h
    replace h := bind_ok h
    obtain ⟨⟨ty, vs⟩, h1, h⟩ := h
    obtain ⟨cell, A, hs, hl, hfi, -⟩ := hR.2.2.2 _ _ (arr_some h1)
    have hz : cell.slots.size.toInt32 = vs.length.toInt32 := by rw [hs]; simp
    have D := hk _ _ _ _ _ _ _ _ X hL hR hF hB h
    refine D.step fun t q => ?_
    refine X.arraylength hx (cell := cell) A.1 (State.isArrayOf_alike hZ.alike A.2.1) (g := mkF m pc (cL σ L) (.ref (σ a) :: S1.map (cv σ))) rfl rfl hd t ?_
    rw [hz]
    exact q
  | iaload =>
    dsimp only [ex, ald] at h
    replace h := pI_ok h
    obtain ⟨j, S1, rfl, h⟩ := h
    replace h := pR_ok h
    obtain ⟨a, S2, rfl, h⟩ := h
    replace h := bind_ok h
    obtain ⟨⟨ty, vs⟩, h1, h⟩ := h
    split at h
    · rename_i hq
      replace h := bind_ok h
      obtain ⟨v, h2, h⟩ := h
      obtain ⟨cell, A, hs, hl, hfi, -⟩ := hR.2.2.2 _ _ (arr_some h1)
      obtain rfl : ty = .int := of_decide_eq_true hq.1
      have hv : cell.slots[j.toNatClampNeg]? = some (cv σ v) := by rw [hs, List.getElem?_toArray, List.getElem?_map, h2]; rfl
      exact (hk _ _ _ _ _ _ _ _ X hL hR hF hB h).step fun t q => X.iaload hx (cell := cell) (j := j) (v := cv σ v) A.1 (State.isArrayOf_alike hZ.alike A.2.1) A.2.2 (inB hq.2 hv) hv (g := mkF m pc (cL σ L) (.int j :: .ref (σ a) :: S2.map (cv σ))) rfl rfl hd t q
    · cases h
  | baload =>
    dsimp only [ex, ald] at h
    replace h := pI_ok h
    obtain ⟨j, S1, rfl, h⟩ := h
    replace h := pR_ok h
    obtain ⟨a, S2, rfl, h⟩ := h
    replace h := bind_ok h
    obtain ⟨⟨ty, vs⟩, h1, h⟩ := h
    split at h
    · rename_i hq
      replace h := bind_ok h
      obtain ⟨v, h2, h⟩ := h
      obtain ⟨cell, A, hs, hl, hfi, -⟩ := hR.2.2.2 _ _ (arr_some h1)
      have hv : cell.slots[j.toNatClampNeg]? = some (cv σ v) := by rw [hs, List.getElem?_toArray, List.getElem?_map, h2]; rfl
      cases ty with
      | byte => exact (hk _ _ _ _ _ _ _ _ X hL hR hF hB h).step fun t q => X.baloadBytes hx (cell := cell) (j := j) (v := cv σ v) A.1 (State.isArrayOf_alike hZ.alike A.2.1) A.2.2 (inB hq.2 hv) hv (g := mkF m pc (cL σ L) (.int j :: .ref (σ a) :: S2.map (cv σ))) rfl rfl hd t q
      | boolean => exact (hk _ _ _ _ _ _ _ _ X hL hR hF hB h).step fun t q => X.baloadBooleans hx (cell := cell) (j := j) (v := cv σ v) A.1 (State.isArrayOf_alike hZ.alike A.2.1) A.2.2 (inB hq.2 hv) hv (g := mkF m pc (cL σ L) (.int j :: .ref (σ a) :: S2.map (cv σ))) rfl rfl hd t q
      | _ => exact nomatch (show false = true from hq.1)
    · cases h
  | caload =>
    dsimp only [ex, ald] at h
    replace h := pI_ok h
    obtain ⟨j, S1, rfl, h⟩ := h
    replace h := pR_ok h
    obtain ⟨a, S2, rfl, h⟩ := h
    replace h := bind_ok h
    obtain ⟨⟨ty, vs⟩, h1, h⟩ := h
    split at h
    · rename_i hq
      replace h := bind_ok h
      obtain ⟨v, h2, h⟩ := h
      obtain ⟨cell, A, hs, hl, hfi, -⟩ := hR.2.2.2 _ _ (arr_some h1)
      obtain rfl : ty = .char := of_decide_eq_true hq.1
      have hv : cell.slots[j.toNatClampNeg]? = some (cv σ v) := by rw [hs, List.getElem?_toArray, List.getElem?_map, h2]; rfl
      exact (hk _ _ _ _ _ _ _ _ X hL hR hF hB h).step fun t q => X.caload hx (cell := cell) (j := j) (v := cv σ v) A.1 (State.isArrayOf_alike hZ.alike A.2.1) A.2.2 (inB hq.2 hv) hv (g := mkF m pc (cL σ L) (.int j :: .ref (σ a) :: S2.map (cv σ))) rfl rfl hd t q
    · cases h
  | laload =>
    dsimp only [ex, ald] at h
    replace h := pI_ok h
    obtain ⟨j, S1, rfl, h⟩ := h
    replace h := pR_ok h
    obtain ⟨a, S2, rfl, h⟩ := h
    replace h := bind_ok h
    obtain ⟨⟨ty, vs⟩, h1, h⟩ := h
    split at h
    · rename_i hq
      replace h := bind_ok h
      obtain ⟨v, h2, h⟩ := h
      obtain ⟨cell, A, hs, hl, hfi, -⟩ := hR.2.2.2 _ _ (arr_some h1)
      obtain rfl : ty = .long := of_decide_eq_true hq.1
      have hv : cell.slots[j.toNatClampNeg]? = some (cv σ v) := by rw [hs, List.getElem?_toArray, List.getElem?_map, h2]; rfl
      exact (hk _ _ _ _ _ _ _ _ X hL hR hF hB h).step fun t q => X.laload hx (cell := cell) (j := j) (v := cv σ v) A.1 (State.isArrayOf_alike hZ.alike A.2.1) A.2.2 (inB hq.2 hv) hv (g := mkF m pc (cL σ L) (.int j :: .ref (σ a) :: S2.map (cv σ))) rfl rfl hd t q
    · cases h
  | aaload =>
    dsimp only [ex, ald] at h
    replace h := pI_ok h
    obtain ⟨j, S1, rfl, h⟩ := h
    replace h := pR_ok h
    obtain ⟨a, S2, rfl, h⟩ := h
    replace h := bind_ok h
    obtain ⟨⟨ty, vs⟩, h1, h⟩ := h
    split at h
    · rename_i hq
      replace h := bind_ok h
      obtain ⟨v, h2, h⟩ := h
      obtain ⟨cell, A, hs, hl, hfi, -⟩ := hR.2.2.2 _ _ (arr_some h1)
      have hv : cell.slots[j.toNatClampNeg]? = some (cv σ v) := by rw [hs, List.getElem?_toArray, List.getElem?_map, h2]; rfl
      exact (hk _ _ _ _ _ _ _ _ X hL hR hF hB h).step fun t q => X.aaload hx (cell := cell) (j := j) (v := cv σ v) A.1 (State.isArrayOf_alike hZ.alike A.2.1) hq.1 A.2.2 (inB hq.2 hv) hv (g := mkF m pc (cL σ L) (.int j :: .ref (σ a) :: S2.map (cv σ))) rfl rfl hd t q
    · cases h
  | iastore =>
    dsimp only [ex, ast] at h
    replace h := pI_ok h
    obtain ⟨x, S0, rfl, h⟩ := h
    replace h := pI_ok h
    obtain ⟨j, S1, rfl, h⟩ := h
    replace h := pR_ok h
    obtain ⟨a, S2, rfl, h⟩ := h
    replace h := bind_ok h
    obtain ⟨⟨ty, vs⟩, h1, h⟩ := h
    split at h
    · rename_i hq
      obtain rfl : ty = .int := of_decide_eq_true hq.1
      obtain ⟨cell, A, hs, hl, hfi, -⟩ := hR.2.2.2 _ _ (arr_some h1)
      obtain ⟨T', h', X', e', W, st⟩ := stI X hx hZ rfl A (j := j) (x := x) (by rw [hs]; simpa using And.intro hq.2.1 hq.2.2.1) (g := mkF m pc (cL σ L) _) rfl rfl hd
      refine (hk _ _ _ _ _ _ _ _ X' hL (e' ▸ hR.write hsg hq.2.2.2 W (RepO.arr (hR.2.2.2 _ _ (arr_some h1)) (v := .int _) (rfl) W)) (Fr.snoc X' hF (hsg.new hq.2.2.2)) hB h).step st
    · cases h
  | bastore =>
    dsimp only [ex, ast] at h
    replace h := pI_ok h
    obtain ⟨x, S0, rfl, h⟩ := h
    replace h := pI_ok h
    obtain ⟨j, S1, rfl, h⟩ := h
    replace h := pR_ok h
    obtain ⟨a, S2, rfl, h⟩ := h
    replace h := bind_ok h
    obtain ⟨⟨ty, vs⟩, h1, h⟩ := h
    split at h
    · rename_i hq
      obtain rfl : ty = .byte := of_decide_eq_true hq.1
      obtain ⟨cell, A, hs, hl, hfi, -⟩ := hR.2.2.2 _ _ (arr_some h1)
      obtain ⟨T', h', X', e', W, st⟩ := stB X hx hZ rfl A (j := j) (x := x) (by rw [hs]; simpa using And.intro hq.2.1 hq.2.2.1) (g := mkF m pc (cL σ L) _) rfl rfl hd
      refine (hk _ _ _ _ _ _ _ _ X' hL (e' ▸ hR.write hsg hq.2.2.2 W (RepO.arr (hR.2.2.2 _ _ (arr_some h1)) (v := .int _) (fits_nar_byte _) W)) (Fr.snoc X' hF (hsg.new hq.2.2.2)) hB h).step st
    · cases h
  | castore =>
    dsimp only [ex, ast] at h
    replace h := pI_ok h
    obtain ⟨x, S0, rfl, h⟩ := h
    replace h := pI_ok h
    obtain ⟨j, S1, rfl, h⟩ := h
    replace h := pR_ok h
    obtain ⟨a, S2, rfl, h⟩ := h
    replace h := bind_ok h
    obtain ⟨⟨ty, vs⟩, h1, h⟩ := h
    split at h
    · rename_i hq
      obtain rfl : ty = .char := of_decide_eq_true hq.1
      obtain ⟨cell, A, hs, hl, hfi, -⟩ := hR.2.2.2 _ _ (arr_some h1)
      obtain ⟨T', h', X', e', W, st⟩ := stC X hx hZ rfl A (j := j) (x := x) (by rw [hs]; simpa using And.intro hq.2.1 hq.2.2.1) (g := mkF m pc (cL σ L) _) rfl rfl hd
      refine (hk _ _ _ _ _ _ _ _ X' hL (e' ▸ hR.write hsg hq.2.2.2 W (RepO.arr (hR.2.2.2 _ _ (arr_some h1)) (v := .int _) (fits_nar_char _) W)) (Fr.snoc X' hF (hsg.new hq.2.2.2)) hB h).step st
    · cases h
  | lastore =>
    dsimp only [ex, astL] at h
    replace h := pL_ok h
    obtain ⟨x, S0, rfl, h⟩ := h
    replace h := pI_ok h
    obtain ⟨j, S1, rfl, h⟩ := h
    replace h := pR_ok h
    obtain ⟨a, S2, rfl, h⟩ := h
    replace h := bind_ok h
    obtain ⟨⟨ty, vs⟩, h1, h⟩ := h
    split at h
    · rename_i hq
      obtain rfl : ty = .long := hq.1
      obtain ⟨cell, A, hs, hl, hfi, -⟩ := hR.2.2.2 _ _ (arr_some h1)
      obtain ⟨T', h', X', e', W, st⟩ := stJ X hx hZ rfl A (j := j) (x := x) (by rw [hs]; simpa using And.intro hq.2.1 hq.2.2.1) (g := mkF m pc (cL σ L) _) rfl rfl hd
      refine (hk _ _ _ _ _ _ _ _ X' hL (e' ▸ hR.write hsg hq.2.2.2 W (RepO.arr (hR.2.2.2 _ _ (arr_some h1)) (v := .long _) rfl W)) (Fr.snoc X' hF (hsg.new hq.2.2.2)) hB h).step st
    · cases h
  | ldc i =>
    dsimp only [ex, spc] at h
    replace h := bind_ok h
    obtain ⟨act, h1, h⟩ := h
    replace h := bind_ok h
    obtain ⟨⟨S', H', cs', ss'⟩, h2, h⟩ := h
    obtain ⟨T', locs', X', hR', hF', hB', st⟩ := look_good (q := 0) hE h1 T locs cs ss pc L S H S' H' cs' ss' X hd hL hR hF hB h2
    exact (hk _ _ _ _ _ _ _ _ X' hL hR' hF' hB' h).step st
  | ldc_w i =>
    dsimp only [ex, spc] at h
    replace h := bind_ok h
    obtain ⟨act, h1, h⟩ := h
    replace h := bind_ok h
    obtain ⟨⟨S', H', cs', ss'⟩, h2, h⟩ := h
    obtain ⟨T', locs', X', hR', hF', hB', st⟩ := look_good (q := 1) hE h1 T locs cs ss pc L S H S' H' cs' ss' X hd hL hR hF hB h2
    exact (hk _ _ _ _ _ _ _ _ X' hL hR' hF' hB' h).step st
  | ldc2_w i =>
    dsimp only [ex, spc] at h
    replace h := bind_ok h
    obtain ⟨act, h1, h⟩ := h
    replace h := bind_ok h
    obtain ⟨⟨S', H', cs', ss'⟩, h2, h⟩ := h
    obtain ⟨T', locs', X', hR', hF', hB', st⟩ := look_good (q := 2) hE h1 T locs cs ss pc L S H S' H' cs' ss' X hd hL hR hF hB h2
    exact (hk _ _ _ _ _ _ _ _ X' hL hR' hF' hB' h).step st
  | getfield i =>
    dsimp only [ex, spc] at h
    replace h := bind_ok h
    obtain ⟨act, h1, h⟩ := h
    replace h := bind_ok h
    obtain ⟨⟨S', H', cs', ss'⟩, h2, h⟩ := h
    obtain ⟨T', locs', X', hR', hF', hB', st⟩ := look_good (q := 3) hE h1 T locs cs ss pc L S H S' H' cs' ss' X hd hL hR hF hB h2
    exact (hk _ _ _ _ _ _ _ _ X' hL hR' hF' hB' h).step st
  | putfield i =>
    dsimp only [ex, spc] at h
    replace h := bind_ok h
    obtain ⟨act, h1, h⟩ := h
    replace h := bind_ok h
    obtain ⟨⟨S', H', cs', ss'⟩, h2, h⟩ := h
    obtain ⟨T', locs', X', hR', hF', hB', st⟩ := look_good (q := 4) hE h1 T locs cs ss pc L S H S' H' cs' ss' X hd hL hR hF hB h2
    exact (hk _ _ _ _ _ _ _ _ X' hL hR' hF' hB' h).step st
  | getstatic i =>
    dsimp only [ex, spc] at h
    replace h := bind_ok h
    obtain ⟨act, h1, h⟩ := h
    replace h := bind_ok h
    obtain ⟨⟨S', H', cs', ss'⟩, h2, h⟩ := h
    obtain ⟨T', locs', X', hR', hF', hB', st⟩ := look_good (q := 5) hE h1 T locs cs ss pc L S H S' H' cs' ss' X hd hL hR hF hB h2
    exact (hk _ _ _ _ _ _ _ _ X' hL hR' hF' hB' h).step st
  | new i =>
    dsimp only [ex, spc] at h
    replace h := bind_ok h
    obtain ⟨act, h1, h⟩ := h
    replace h := bind_ok h
    obtain ⟨⟨S', H', cs', ss'⟩, h2, h⟩ := h
    obtain ⟨T', locs', X', hR', hF', hB', st⟩ := look_good (q := 6) hE h1 T locs cs ss pc L S H S' H' cs' ss' X hd hL hR hF hB h2
    exact (hk _ _ _ _ _ _ _ _ X' hL hR' hF' hB' h).step st
  | invokestatic i =>
    dsimp only [ex, spc] at h
    replace h := bind_ok h
    obtain ⟨act, h1, h⟩ := h
    replace h := bind_ok h
    obtain ⟨⟨S', H', cs', ss'⟩, h2, h⟩ := h
    obtain ⟨T', locs', X', hR', hF', hB', st⟩ := look_good (q := 7) hE h1 T locs cs ss pc L S H S' H' cs' ss' X hd hL hR hF hB h2
    exact (hk _ _ _ _ _ _ _ _ X' hL hR' hF' hB' h).step st
  | invokespecial i =>
    dsimp only [ex, spc] at h
    replace h := bind_ok h
    obtain ⟨act, h1, h⟩ := h
    replace h := bind_ok h
    obtain ⟨⟨S', H', cs', ss'⟩, h2, h⟩ := h
    obtain ⟨T', locs', X', hR', hF', hB', st⟩ := look_good (q := 8) hE h1 T locs cs ss pc L S H S' H' cs' ss' X hd hL hR hF hB h2
    exact (hk _ _ _ _ _ _ _ _ X' hL hR' hF' hB' h).step st
  | invokevirtual i =>
    dsimp only [ex, spc] at h
    replace h := bind_ok h
    obtain ⟨act, h1, h⟩ := h
    replace h := bind_ok h
    obtain ⟨⟨S', H', cs', ss'⟩, h2, h⟩ := h
    obtain ⟨T', locs', X', hR', hF', hB', st⟩ := look_good (q := 9) hE h1 T locs cs ss pc L S H S' H' cs' ss' X hd hL hR hF hB h2
    exact (hk _ _ _ _ _ _ _ _ X' hL hR' hF' hB' h).step st
  | checkcast i =>
    dsimp only [ex, spc] at h
    replace h := bind_ok h
    obtain ⟨act, h1, h⟩ := h
    replace h := bind_ok h
    obtain ⟨⟨S', H', cs', ss'⟩, h2, h⟩ := h
    obtain ⟨T', locs', X', hR', hF', hB', st⟩ := look_good (q := 10) hE h1 T locs cs ss pc L S H S' H' cs' ss' X hd hL hR hF hB h2
    exact (hk _ _ _ _ _ _ _ _ X' hL hR' hF' hB' h).step st
  | instanceof i =>
    dsimp only [ex, spc] at h
    replace h := bind_ok h
    obtain ⟨act, h1, h⟩ := h
    replace h := bind_ok h
    obtain ⟨⟨S', H', cs', ss'⟩, h2, h⟩ := h
    obtain ⟨T', locs', X', hR', hF', hB', st⟩ := look_good (q := 11) hE h1 T locs cs ss pc L S H S' H' cs' ss' X hd hL hR hF hB h2
    exact (hk _ _ _ _ _ _ _ _ X' hL hR' hF' hB' h).step st
  | anewarray i =>
    dsimp only [ex, spc] at h
    replace h := bind_ok h
    obtain ⟨act, h1, h⟩ := h
    replace h := bind_ok h
    obtain ⟨⟨S', H', cs', ss'⟩, h2, h⟩ := h
    obtain ⟨T', locs', X', hR', hF', hB', st⟩ := look_good (q := 12) hE h1 T locs cs ss pc L S H S' H' cs' ss' X hd hL hR hF hB h2
    exact (hk _ _ _ _ _ _ _ _ X' hL hR' hF' hB' h).step st
  | newarray ty =>
    dsimp only [ex, spc] at h
    replace h := bind_ok h
    obtain ⟨act, h1, h⟩ := h
    replace h := bind_ok h
    obtain ⟨⟨S', H', cs', ss'⟩, h2, h⟩ := h
    have g1 := look_good (q := 13) hE h1
    rw [show insOf 13 (atn ty) = .newarray ty from by cases ty <;> rfl] at g1
    obtain ⟨T', locs', X', hR', hF', hB', st⟩ := g1 T locs cs ss pc L S H S' H' cs' ss' X hd hL hR hF hB h2
    exact (hk _ _ _ _ _ _ _ _ X' hL hR' hF' hB' h).step st
  | ireturn =>
    dsimp only [ex, rI] at h
    replace h := pI_ok h
    obtain ⟨z, S1, rfl, h⟩ := h
    split at h
    · cases h
      obtain ⟨fs, hr, hrun, hended, hW, hsame⟩ := X.leave (v := some (.int z)) (fun q => by rw [hrt] at q; cases q) hlk
      exact ⟨_, retOut X hx hrt rfl (Or.inl ⟨rfl, Or.inl rfl, z, rfl⟩) hd hr, hrun, hended, hR, locs, hF, hW, hsame.mono hB.1 hB.2⟩
    · cases h
      obtain ⟨fs, hr, hrun, hended, hW, hsame⟩ := X.leave (v := some (.int (z &&& 1))) (fun q => by rw [hrt] at q; cases q) hlk
      exact ⟨_, retN X hx (t := .boolean) (z := z) hrt (by simp) hd hr, hrun, hended, hR, locs, hF, hW, hsame.mono hB.1 hB.2⟩
    · cases h
      obtain ⟨fs, hr, hrun, hended, hW, hsame⟩ := X.leave (v := some (.int z.toInt8.toInt32)) (fun q => by rw [hrt] at q; cases q) hlk
      exact ⟨_, retN X hx (t := .byte) (z := z) hrt (by simp) hd hr, hrun, hended, hR, locs, hF, hW, hsame.mono hB.1 hB.2⟩
    · cases h
      obtain ⟨fs, hr, hrun, hended, hW, hsame⟩ := X.leave (v := some (.int z.toUInt32.toUInt16.toUInt32.toInt32)) (fun q => by rw [hrt] at q; cases q) hlk
      exact ⟨_, retN X hx (t := .char) (z := z) hrt (by simp) hd hr, hrun, hended, hR, locs, hF, hW, hsame.mono hB.1 hB.2⟩
    · cases h
      obtain ⟨fs, hr, hrun, hended, hW, hsame⟩ := X.leave (v := some (.int z.toInt16.toInt32)) (fun q => by rw [hrt] at q; cases q) hlk
      exact ⟨_, retN X hx (t := .short) (z := z) hrt (by simp) hd hr, hrun, hended, hR, locs, hF, hW, hsame.mono hB.1 hB.2⟩
    · cases h
  | lreturn =>
    dsimp only [ex, rL] at h
    replace h := pL_ok h
    obtain ⟨z, S1, rfl, h⟩ := h
    split at h
    · cases h
      obtain ⟨fs, hr, hrun, hended, hW, hsame⟩ := X.leave (v := some (.long z)) (fun q => by rw [hrt] at q; cases q) hlk
      exact ⟨_, retOut X hx hrt rfl (Or.inr (Or.inl ⟨rfl, rfl, z, rfl⟩)) hd hr, hrun, hended, hR, locs, hF, hW, hsame.mono hB.1 hB.2⟩
    · cases h
  | areturn =>
    dsimp only [ex, rA] at h
    replace h := pA_ok h
    obtain ⟨z, S1, rfl, h, hq⟩ := h
    split at h
    · cases h
      obtain ⟨fs, hr, hrun, hended, hW, hsame⟩ := X.leave (v := some (cv σ z)) (fun q => by rw [hrt] at q; cases q) hlk
      exact ⟨_, retOut X hx hrt (by cases z <;> rfl) (Or.inr (Or.inr (Or.inr (Or.inr ⟨rfl, rfl, (ref_of hq).1⟩)))) hd hr, hrun, hended, hR, locs, hF, hW, hsame.mono hB.1 hB.2⟩
    · cases h
      obtain ⟨fs, hr, hrun, hended, hW, hsame⟩ := X.leave (v := some (cv σ z)) (fun q => by rw [hrt] at q; cases q) hlk
      exact ⟨_, retOut X hx hrt (by cases z <;> rfl) (Or.inr (Or.inr (Or.inr (Or.inr ⟨rfl, rfl, (ref_of hq).1⟩)))) hd hr, hrun, hended, hR, locs, hF, hW, hsame.mono hB.1 hB.2⟩
    · cases h
  | return_ =>
    dsimp only [ex, rV] at h
    split at h
    · cases h
      obtain ⟨fs, hr, hrun, hended, hW, hsame⟩ := X.leave (v := none) (fun _ => rfl) hlk
      exact ⟨_, X.returnOut hx hrt hd hr, hrun, hended, hR, locs, hF, hW, hsame.mono hB.1 hB.2⟩
    · cases h
  | _ => exact nomatch (show (none : Option ORes) = some res from h)
theorem run_sound {rt : Option FieldType} {E : List (Nat × Nat × Act)} {res : ORes} (hx : p.tables.exec = Jvm.exec) (hZ : Z.Warmed39 s.vm) (hsg : Sg σ x0 n0) (hrt : meth.sig.returnType = rt) (hlk : meth.locks = false) (hE : AllGood p l e R s m args below meth c Z σ x0 n0 K E) :
    ∀ (n : Nat) (T : State) (locs : List Loc) (cs ss pc : Nat) (L : List Slot) (S : List Value) (H : AH), Stand p l e R s m args below meth c T locs cs ss → L.length = c.maxLocals → Rep Z σ x0 n0 K T.heap H → Fr n0 locs → cs ≤ R.cells ∧ ss ≤ R.slots → orun c.code rt E x0 n (pc, L, S, H, cs, ss) = some res → Done p e R s below Z σ x0 n0 K res T (mkF m pc (cL σ L) (S.map (cv σ)))
  | 0, _, _, _, _, _, _, _, _, _, _, _, _, _, h => nomatch (show (none : Option ORes) = some res from h)
  | n + 1, T, locs, cs, ss, pc, L, S, H, X, hL, hR, hF, hB, h => by
    rw [orun_succ] at h
    replace h := bind_ok h
    obtain ⟨i, hi, h⟩ := h
    exact ex_sound hx hZ hsg hrt hlk hE (run_sound hx hZ hsg hrt hlk hE n) X (dec_spec hi) hL hR hF hB h
/-! ## 4. A method's contract off its orun -/
def oflat : List Value → List Slot
  | [] => []
  | v :: r => if v.category = 2 then .val v :: .second :: oflat r else .val v :: oflat r
def ent (as : List Value) (n : Nat) : List Slot := oflat as ++ List.replicate (n - (oflat as).length) .unset
theorem cat_cv (v : Value) : (cv σ v).category = v.category := by cases v <;> rfl
theorem oflat_ok (as : List Value) : ∀ acc : Array Slot, (as.map (cv σ)).foldl (fun acc v => if v.category = 2 then (acc.push (.val v)).push .second else acc.push (.val v)) acc = acc ++ ((oflat as).map (csl σ)).toArray := by
  induction as with
  | nil => intro acc; simp [oflat]
  | cons v r ih =>
    intro acc
    simp only [List.map_cons, List.foldl_cons, cat_cv, oflat]
    rw [ih]
    split <;> simp [csl]
theorem ent_ok (as : List Value) (n : Nat) : argsToLocals (as.map (cv σ)).toArray n = cL σ (ent as n) := by
  have h := oflat_ok (σ := σ) as #[]
  simp only [argsToLocals, List.foldl_toArray]
  rw [h]
  simp [cL, ent, csl]
/-- what a callee's function says of it -/
def Says (l : Launch) (Z : State) (σ : Nat → Nat) (x0 n0 : Nat) (K : List CD) (y : MethodName) (bytes : ByteArray) (maxL : Nat) (ret : Option FieldType) (ws : List Jvm.Cond) (rm : Room) (F : List Value → AH → Option ORes) : Prop :=
  ∀ (as : List Value) (H : AH) (r : ORes) (h : Heap), F as H = some r → Rep Z σ x0 n0 K h H →
    MetFree l y (head1 (Jvm.Cond.code y bytes maxL ret :: ws) rm) (fun a U => a = (as.map (cv σ)).toArray ∧ Z.Warmed39 U.vm ∧ U.heap = h) (fun _ _ _ _ _ => True) (fun _ U o U' => ∃ v L, o = .returned v ∧ (v = r.1.map (cv σ) ∧ Rep Z σ x0 n0 K U'.heap r.2 ∧ Fr n0 L) ∧ FrameEnd U o U' L rm.cells rm.slots)
def fn (bytes : ByteArray) (maxL : Nat) (ret : Option FieldType) (E : List (Nat × Nat × Act)) (x0 fuel : Nat) (as : List Value) (H : AH) : Option ORes :=
  if (ent as maxL).length = maxL then orun bytes ret E x0 fuel (0, ent as maxL, [], H, 0, 0) else none
theorem says_fn {l : Launch} {Z : State} {σ : Nat → Nat} {x0 n0 : Nat} {K : List CD} {y : MethodName} {bytes : ByteArray} {maxL : Nat} {ret : Option FieldType} {ws : List Jvm.Cond} {rm : Room} {E : List (Nat × Nat × Act)} {fuel : Nat} (hsg : Sg σ x0 n0) (hpl : plainFor y = true)
    (hE : ∀ (p : Program) (e : Env) (s : State) (m : MethodId) (args : Array Value) (below : List Frame) (meth : Method) (c : Code), p.tables.exec = Jvm.exec → c.code = bytes → c.maxLocals = maxL → Z.Warmed39 s.vm → s.vm.findClass y.cls = some m.cls → meth.name = y.name → AllGood p l e rm s m args below meth c Z σ x0 n0 K E) :
    Says l Z σ x0 n0 K y bytes maxL ret ws rm (fn bytes maxL ret E x0 fuel) := by
  intro as H r h hf hR
  unfold fn at hf
  split at hf
  · rename_i hlen
    refine MetFree.of_bodySF hpl hisR ?_
    intro p e s m args below meth c s₁ Bd hml0 hP hK
    obtain ⟨rfl, hZ, hh⟩ := hP
    have hx := Bd.exec
    have hby := Bd.bytes
    have hown : s.vm.findClass y.cls = some m.cls := findClass_of_methodNamed Bd.named
    have hnm := (name_of_methodNamed Bd.named Bd.method).1
    have X0 : Stand p l e rm s m (as.map (cv σ)).toArray below meth c s₁ [] 0 0 := Stand.of_body Bd
    have e0 : s₁.heap = h := by rw [← hh, Bd.state]; rfl
    have D := run_sound hx hZ hsg Bd.returns (BodyLoose.notSynchronized Bd) (hE p e s m _ below meth c hx hby hml0 hZ hown hnm) fuel s₁ [] 0 0 0 (ent as maxL) [] H X0 (hlen.trans hml0.symm) (e0 ▸ hR) (Fr.nil n0) ⟨Nat.zero_le _, Nat.zero_le _⟩ (by rw [hby]; exact hf)
    obtain ⟨t, h1, h2, h3, h4, L, h5, h6, h7⟩ := D
    refine ⟨t, _, castTop (g' := mkF m 0 (cL σ (ent as maxL)) []) ?_ h1, h2, h3, _, L, rfl, ⟨rfl, h4, h5⟩, ⟨_, rfl⟩, h6, h7⟩
    simp only [entryFrame, ent_ok]
  · cases hf
end Sound
/-! ## 5. The steps that ask the sheet's words -/
def obj (H : AH) (k : Nat) : Option (Nat × List Value) := match H[k]? with | some (.inl q) => some q | _ => none
theorem obj_some {H : AH} {k : Nat} {q : Nat × List Value} (e : obj H k = some q) : H[k]? = some (.inl q) := by
  unfold obj at e; split at e
  · rename_i q' hq; cases e; exact hq
  · cases e
def aI (v : Int32) : Act := fun S H cs ss => some (.int v :: S, H, cs, ss)
def aJ (v : Int64) : Act := fun S H cs ss => some (.long v :: S, H, cs, ss)
def aGet (c j : Nat) : Act := fun S H cs ss => match S with
  | .ref a :: r => (obj H a).bind fun q => if q.1 = c then (q.2[j]?).bind fun v => some (v :: r, H, cs, ss) else none
  | _ => none
def aPut (x0 c j : Nat) (ty : FieldType) : Act := fun S H cs ss => match S with
  | v :: .ref a :: r => (obj H a).bind fun q => if q.1 = c ∧ narrow ty v = v ∧ fits ty v = true ∧ x0 ≤ a ∧ j < q.2.length then some (r, H.set a (.inl (c, q.2.set j v)), cs, ss) else none
  | _ => none
def aNew (c n Rc Rs : Nat) (ds : List Value) : Act := fun S H cs ss => if cs + 1 ≤ Rc ∧ ss + n ≤ Rs then some (.ref H.length :: S, H ++ [.inl (c, ds)], cs + 1, ss + n) else none
def aArr (ty : FieldType) (Rc Rs : Nat) : Act := fun S H cs ss => match S with
  | .int n :: r => if ¬ n < 0 ∧ cs + 1 ≤ Rc ∧ ss + n.toNatClampNeg ≤ Rs ∧ n.toNatClampNeg ≤ 67108864 then some (.ref H.length :: r, H ++ [.inr (ty, List.replicate n.toNatClampNeg (defaultValue ty))], cs + 1, ss + n.toNatClampNeg) else none
  | _ => none
def aObj (W : Nat) : Act := fun S H cs ss => match S with
  | .ref _ :: r => if (r.map Value.category).sum ≤ W then some (r, H, cs, ss) else none
  | _ => none
def aCall (na W Rc Rs mc ms : Nat) (F : List Value → AH → Option ORes) : Act := fun S H cs ss =>
  if na ≤ S.length ∧ ((S.drop na).map Value.category).sum ≤ W ∧ cs + mc ≤ Rc ∧ ss + ms ≤ Rs then (F (S.take na).reverse H).bind fun r => some (r.1.toList ++ S.drop na, r.2, cs + mc, ss + ms) else none
def aRecv (na cl W Rc Rs mc ms : Nat) (F : List Value → AH → Option ORes) : Act := fun S H cs ss => match S.drop na with
  | .ref a :: r => (obj H a).bind fun q => if q.1 = cl ∧ na ≤ S.length ∧ (r.map Value.category).sum ≤ W ∧ cs + mc ≤ Rc ∧ ss + ms ≤ Rs then (F (.ref a :: (S.take na).reverse) H).bind fun v => some (v.1.toList ++ r, v.2, cs + mc, ss + ms) else none
  | _ => none
section Acts
variable {p : Program} {l : Launch} {e : Env} {R : Room} {s : State} {m : MethodId} {args : Array Value} {below : List Frame} {meth : Method} {c : Code} {Z : State} {σ : Nat → Nat} {x0 n0 : Nat} {K : List CD} {a0 : Array Value}
theorem okI (hx : p.tables.exec = Jvm.exec) (hZ : Z.Warmed39 s.vm) {own : String} {idx : Nat} {v : Int32} (hown : s.vm.findClass own = some m.cls) (w : (Jvm.Cond.constant own idx v).before a0 Z = true) : Good p l e R s m args below meth c Z σ x0 n0 K (.ldc idx) (aI v) := by
  intro T locs cs ss pc L S H S' H' cs' ss' X hd hL hR hF hB h
  cases h
  exact ⟨T, locs, X, hR, hF, hB, fun t q => X.ldcInt hx hown (mvT hZ w) (g := mkF m pc (cL σ L) _) rfl hd t q⟩
theorem okIW (hx : p.tables.exec = Jvm.exec) (hZ : Z.Warmed39 s.vm) {own : String} {idx : Nat} {v : Int32} (hown : s.vm.findClass own = some m.cls) (w : (Jvm.Cond.constant own idx v).before a0 Z = true) : Good p l e R s m args below meth c Z σ x0 n0 K (.ldc_w idx) (aI v) := by
  intro T locs cs ss pc L S H S' H' cs' ss' X hd hL hR hF hB h
  cases h
  exact ⟨T, locs, X, hR, hF, hB, fun t q => X.ldcwInt hx hown (mvT hZ w) (g := mkF m pc (cL σ L) _) rfl hd t q⟩
theorem okJ (hx : p.tables.exec = Jvm.exec) (hZ : Z.Warmed39 s.vm) {own : String} {idx : Nat} {v : Int64} (hown : s.vm.findClass own = some m.cls) (w : (Jvm.Cond.constantLong own idx v).before a0 Z = true) : Good p l e R s m args below meth c Z σ x0 n0 K (.ldc2_w idx) (aJ v) := by
  intro T locs cs ss pc L S H S' H' cs' ss' X hd hL hR hF hB h
  cases h
  exact ⟨T, locs, X, hR, hF, hB, fun t q => X.ldc2Long hx hown (mvT hZ w) (g := mkF m pc (cL σ L) _) rfl hd t q⟩
theorem okGet (hx : p.tables.exec = Jvm.exec) (hZ : Z.Warmed39 s.vm) {own R0 O n d host C : String} {idx cn j : Nat} {fs : List (String × String × String)} (hown : s.vm.findClass own = some m.cls) (w : (Jvm.Cond.fieldLink own idx R0 n d).before a0 Z = true ∨ (Jvm.Cond.fieldLinkNest own idx R0 n d host).before a0 Z = true) (via : Via Z R0 O n d)
    (hC : K[cn]? = some (C, fs)) (hj : fs[j]? = some (O, n, d)) : Good p l e R s m args below meth c Z σ x0 n0 K (.getfield idx) (aGet cn j) := by
  intro T locs cs ss pc L S H S' H' cs' ss' X hd hL hR hF hB h
  unfold aGet at h
  split at h
  · rename_i a r
    replace h := Option.bind_eq_some_iff.mp h
    obtain ⟨⟨cn', vs⟩, h1, h⟩ := h
    dsimp only at h
    split at h
    · rename_i hcn; subst hcn
      replace h := Option.bind_eq_some_iff.mp h
      obtain ⟨v, h2, h⟩ := h
      cases h
      obtain ⟨C', fs', q1, q2, q3⟩ := hR.2.2.2 _ _ (obj_some h1)
      cases hC.symm.trans q1
      obtain ⟨O', n', d', q4, q5⟩ := q3 j v h2
      cases hj.symm.trans q4
      obtain ⟨T', X', e', st⟩ := getF X hx hZ hown w via rfl q5 (g := mkF m pc (cL σ L) (List.map (cv σ) (.ref a :: r))) rfl rfl hd
      exact ⟨T', locs, X', e' ▸ hR, hF, hB, st⟩
    · cases h
  · cases h
theorem cv_narrow {ty : FieldType} {v : Value} (h : narrow ty v = v) : narrow ty (cv σ v) = cv σ v := by cases v <;> first | exact h | (cases ty <;> rfl)
theorem okPut (hx : p.tables.exec = Jvm.exec) (hZ : Z.Warmed39 s.vm) (hsg : Sg σ x0 n0) (KO : KOk Z a0 K) {own R0 O n d host C : String} {idx cn j : Nat} {ty : FieldType} {fs : List (String × String × String)} (hown : s.vm.findClass own = some m.cls) (w : (Jvm.Cond.fieldLink own idx R0 n d).before a0 Z = true ∨ (Jvm.Cond.fieldLinkNest own idx R0 n d host).before a0 Z = true) (via : Via Z R0 O n d)
    (hC : K[cn]? = some (C, fs)) (hj : fs[j]? = some (O, n, d)) (hty : parseFieldDescriptor d = some ty) (hLay : (Jvm.Cond.lays C O n d).before a0 Z = true ∨ ((Jvm.Cond.laysFinal C O n d).before a0 Z = true ∧ own = O ∧ meth.name = "<init>")) : Good p l e R s m args below meth c Z σ x0 n0 K (.putfield idx) (aPut x0 cn j ty) := by
  intro T locs cs ss pc L S H S' H' cs' ss' X hd hL hR hF hB h
  unfold aPut at h
  split at h
  · rename_i v a r
    replace h := Option.bind_eq_some_iff.mp h
    obtain ⟨⟨cn', vs⟩, h1, h⟩ := h
    dsimp only at h
    split at h
    · rename_i hq
      obtain ⟨rfl, hn, hf, hx0, hjl⟩ := hq
      cases h
      have hRO := hR.2.2.2 _ _ (obj_some h1)
      obtain ⟨C', fs', q1, q2, q3⟩ := hRO
      cases hC.symm.trans q1
      obtain ⟨O', n', d', q4, q5⟩ := q3 j _ (List.getElem?_eq_getElem hjl)
      cases hj.symm.trans q4
      obtain ⟨⟨kk, wi⟩, -⟩ := KO cn' C fs hC
      obtain ⟨T', h', X', e', W, st⟩ := putF X hx hZ hown w via rfl q5 q2 hLay wi hty (cv_narrow hn) ((cv_fits ty v).trans hf) (g := mkF m pc (cL σ L) (List.map (cv σ) (v :: .ref a :: S'))) rfl rfl hd
      exact ⟨T', _, X', e' ▸ hR.write hsg hx0 W (RepO.fld KO hC hj (hR.2.2.2 _ _ (obj_some h1)) W), Fr.snoc X' hF (hsg.new hx0), hB, st⟩
    · cases h
  · cases h
theorem ext_push (h : Heap) (c : Cell) : Ext h (h.push c) := ext_of fun a q => (Array.getElem?_push_lt q).trans (Array.getElem?_eq_getElem q).symm
theorem okNew (hx : p.tables.exec = Jvm.exec) (hZ : Z.Warmed39 s.vm) (hsg : Sg σ x0 n0) (KO : KOk Z a0 K) {own C : String} {idx n cn Rc Rs : Nat} {ds : List Value} {fs : List (String × String × String)} (hown : s.vm.findClass own = some m.cls) (w : (Jvm.Cond.classLink own idx C).before a0 Z = true) (wi : (Jvm.Cond.instantiable C n).before a0 Z = true) (wz : (Jvm.Cond.initialized C).before a0 Z = true)
    (hC : K[cn]? = some (C, fs)) (hds : ds = fs.map fun f => ((parseFieldDescriptor f.2.2).map defaultValue).getD .null) (hRc : Rc ≤ R.cells) (hRs : Rs ≤ R.slots) : Good p l e R s m args below meth c Z σ x0 n0 K (.new idx) (aNew cn n Rc Rs ds) := by
  intro T locs cs ss pc L S H S' H' cs' ss' X hd hL hR hF hB h
  unfold aNew at h
  split at h
  · rename_i hq
    cases h
    obtain ⟨vm', cC, kC, h1, h2, h3, h4, X', st⟩ := X.newCold hx hown (mv hZ w) (mv hZ wi) (mv hZ wz) (g := mkF m pc (cL σ L) (S.map (cv σ))) rfl hd (Nat.le_trans hq.1 hRc) (Nat.le_trans hq.2 hRs)
    have ea : σ H.length = T.heap.size := hR.addr hsg
    have h1' : Z.vm.findClass C = some cC := by rw [← hZ.alike.findClass]; exact h1
    obtain ⟨kZ, z1, -⟩ := Vm.findClass_spec h1'
    obtain ⟨k', z2, z3⟩ := hZ.alike.2.2 _ _ z1
    cases h2.symm.trans z2
    have ei : kC.instanceTypes = kZ.instanceTypes := by rw [z3]
    have hN : (T.heap.push { cls := cC, slots := kC.instanceTypes.map defaultValue, vm := .none })[T.heap.size]? = some { cls := cC, slots := kC.instanceTypes.map defaultValue, vm := .none } := by simp
    refine ⟨_, locs, X', hR.push (ext_push _ _) (by show (T.heap.push _).size = _; simp) ?_, hF, ⟨Nat.le_trans hq.1 hRc, Nat.le_trans hq.2 hRs⟩, ?_⟩
    · rw [ea]
      refine ⟨C, fs, hC, ⟨_, kZ, hN, h1', z1, rfl, fun _ => by simp [ei]⟩, fun j v hj => ?_⟩
      subst hds
      rw [List.getElem?_map, Option.map_eq_some_iff] at hj
      obtain ⟨⟨O, nm, d⟩, q1, q2⟩ := hj
      obtain ⟨-, k2, -⟩ := KO cn C fs hC
      obtain ⟨Ld, ty, ht⟩ := k2 j _ q1
      obtain ⟨c1, k1, cf, kf, i, f, a1, a2, a3, a4, a5, a6, -⟩ := Ld.spec
      cases h1'.symm.trans a1
      cases z1.symm.trans a2
      refine ⟨O, nm, d, q1, _, cf, kf, i, f, hN, a3, a4, by simp, rfl, a5, ?_⟩
      have ht' : parseFieldDescriptor d = some ty := ht
      simp only [ht', Option.map_some, Option.getD_some] at q2
      subst q2
      have hcv : cv σ (defaultValue ty) = defaultValue ty := by cases ty <;> rfl
      simp [ei, a6, (State.fieldFound?_type a3 ht).2, hcv]
    · intro t q
      refine st t ?_
      have q' := q
      simp only [List.map_cons, cv, ea] at q'
      exact q'
  · cases h
theorem okArr (hx : p.tables.exec = Jvm.exec) (hZ : Z.Warmed39 s.vm) (hsg : Sg σ x0 n0) {t : ArrayType} {Rc Rs : Nat} (w : (Jvm.Cond.arrayClass (newarray.typeOf t)).before a0 Z = true) (hRc : Rc ≤ R.cells) (hRs : Rs ≤ R.slots) : Good p l e R s m args below meth c Z σ x0 n0 K (.newarray t) (aArr (newarray.typeOf t) Rc Rs) := by
  intro T locs cs ss pc L S H S' H' cs' ss' X hd hL hR hF hB h
  unfold aArr at h
  split at h
  · rename_i n r
    split at h
    · rename_i hq
      cases h
      have hcb : componentBytes (newarray.typeOf t) ≤ 8 := by cases t <;> decide
      obtain ⟨cA, kA, comp, h1, h2, h3, X', st⟩ := X.newarrayPrim hx (mvA hZ w) (g := mkF m pc (cL σ L) (List.map (cv σ) (.int n :: r))) rfl hd rfl hq.1 (Nat.le_trans (Nat.mul_le_mul hq.2.2.2 hcb) (by decide)) (Nat.le_trans hq.2.1 hRc) (Nat.le_trans hq.2.2.1 hRs)
      have ea : σ H.length = T.heap.size := hR.addr hsg
      have h1' : Z.vm.findClass ("[" ++ (newarray.typeOf t).toString) = some cA := by rw [← hZ.alike.findClass]; exact h1
      obtain ⟨kZ, z1, -⟩ := Vm.findClass_spec h1'
      obtain ⟨k', z2, z3⟩ := hZ.alike.2.2 _ _ z1
      cases h2.symm.trans z2
      have kk : kZ.kind = .array comp (newarray.typeOf t) := by rw [← h3, z3]
      have hcv : cv σ (defaultValue (newarray.typeOf t)) = defaultValue (newarray.typeOf t) := by cases t <;> rfl
      refine ⟨_, locs, X', hR.push (ext_push _ _) (by show (T.heap.push _).size = _; simp) ?_, hF, ⟨Nat.le_trans hq.2.1 hRc, Nat.le_trans hq.2.2.1 hRs⟩, ?_⟩
      · rw [ea]
        refine ⟨newA cA (newarray.typeOf t) n, ⟨by show (T.heap.push _)[T.heap.size]? = _; simp [newA], ⟨by simp [newA], kZ, z1, comp, kk⟩, by simp [newA]⟩, by simp [newA, hcv], ?_, fun v hv => ?_, fun _ => ⟨newA cA (newarray.typeOf t) n, kZ, by show (T.heap.push _)[T.heap.size]? = _; simp [newA], h1', z1, rfl, fun q => by rw [kk] at q; cases q⟩⟩
        · rw [List.length_replicate]; have := hq.2.2.2; omega
        · rw [(List.mem_replicate.mp hv).2]; cases t <;> rfl
      · intro t q
        refine st t ?_
        have q' := q
        simp only [List.map_cons, cv, ea] at q'
        exact q'
    · cases h
  · cases h
theorem cat_sum (r : List Value) : ((r.map (cv σ)).map fun v => v.category).sum = (r.map Value.category).sum := by
  rw [List.map_map]; congr 1; exact List.map_congr_left fun v _ => cat_cv v
theorem okObj (hx : p.tables.exec = Jvm.exec) (hZ : Z.Warmed39 s.vm) {own : String} {idx W : Nat} (hown : s.vm.findClass own = some m.cls) (w1 : (Jvm.Cond.methodLink own idx Lib.objectInit).before a0 Z = true) (w2 : (Jvm.Cond.instanceMethod Lib.objectInit).before a0 Z = true)
    (w3 : (Jvm.Cond.code Lib.objectInit ⟨#[0xb1]⟩ 1 none).before a0 Z = true) (hf : 1 ≤ R.frames) (hl : W + 12 ≤ R.locals) : Good p l e R s m args below meth c Z σ x0 n0 K (.invokespecial idx) (aObj W) := by
  intro T locs cs ss pc L S H S' H' cs' ss' X hd hL hR hF hB h
  unfold aObj at h
  split at h
  · rename_i a r
    split at h
    · rename_i hq
      cases h
      obtain ⟨T', X', e', st⟩ := initO X hx hZ hown w1 w2 w3 rfl (g := mkF m pc (cL σ L) (List.map (cv σ) (.ref a :: S'))) rfl (size_cL.trans hL) rfl hd hf (W := W) (by show 2 * 0 + _ ≤ _; rw [cat_sum]; omega) hl
      exact ⟨T', locs, X', e' ▸ hR, hF, hB, st⟩
    · cases h
  · cases h
theorem args_rev (S : List Value) (na : Nat) : S.map (cv σ) = (((S.take na).reverse).map (cv σ)).reverse ++ (S.drop na).map (cv σ) := by
  rw [List.map_reverse, List.reverse_reverse, ← List.map_append, List.take_append_drop]
theorem toList_map (v : Option Value) (r : List Value) : (v.map (cv σ)).toList ++ r.map (cv σ) = (v.toList ++ r).map (cv σ) := by cases v <;> simp
theorem okStat (hx : p.tables.exec = Jvm.exec) (hZ : Z.Warmed39 s.vm) {own : String} {idx na W Rc Rs maxL : Nat} {y : MethodName} {bytes : ByteArray} {ret rr : Option FieldType} {ps : List FieldType} {rm : Room} {F : List Value → AH → Option ORes} (hF0 : Says l Z σ x0 n0 K y bytes maxL ret [] rm F)
    (hown : s.vm.findClass own = some m.cls) (w1 : (Jvm.Cond.methodLink own idx y).before a0 Z = true) (w2 : (Jvm.Cond.static y).before a0 Z = true) (w3 : (Jvm.Cond.initialized y.cls).before a0 Z = true) (w4 : (Jvm.Cond.code y bytes maxL ret).before a0 Z = true)
    (hy : y.cls ≠ "java/lang/invoke/MethodHandle" ∧ y.cls ≠ "java/lang/invoke/VarHandle") (hd0 : parseMethodDescriptor y.desc = some ⟨ps, rr⟩) (hna : ps.length = na) (hRc : Rc ≤ R.cells) (hRs : Rs ≤ R.slots) (hfr : rm.frames + 1 ≤ R.frames) (hlo : W + (maxL + 11) + rm.locals ≤ R.locals) :
    Good p l e R s m args below meth c Z σ x0 n0 K (.invokestatic idx) (aCall na W Rc Rs rm.cells rm.slots F) := by
  intro T locs cs ss pc L S H S' H' cs' ss' X hd hL hR hF hB h
  unfold aCall at h
  split at h
  · rename_i hq
    replace h := Option.bind_eq_some_iff.mp h
    obtain ⟨⟨v, H1⟩, h1, h⟩ := h
    cases h
    obtain ⟨v', vm1, ⟨T', L', k', n'⟩, -, X', ⟨Lc, ⟨hv, hR', hN⟩, l1, y1, z1⟩, st⟩ := Jvm.LawKit.callS X hx (y := y) hown (mvT hZ w1) (mvT hZ w2) (mvT hZ w3) (mvT hZ w4) hy (backOf (h := T.heap) (W := W) (Q := fun w h' L => w = v.map (cv σ) ∧ Rep Z σ x0 n0 K h' H1 ∧ Fr n0 L) (hF0 _ H _ T.heap h1 hR) hZ w4 w3 hfr hlo) (g := mkF m pc (cL σ L) (S.map (cv σ))) rfl (size_cL.trans hL) (argsL := ((S.take na).reverse).map (cv σ)) (rest := (S.drop na).map (cv σ)) (lenOf hd0 (by rw [hna]; simp; omega)) (args_rev S na) (by show 2 * 0 + _ ≤ _; rw [cat_sum]; omega) hd (fun _ _ => ⟨rfl, rfl, Nat.le_trans hq.2.2.1 hRc, Nat.le_trans hq.2.2.2 hRs⟩)
    dsimp only [Pt.U, Pt.locs, Pt.cells, Pt.slots] at X' l1 y1 z1 st hR'
    subst l1 y1 z1 hv
    refine ⟨T', _, X', hR', hF.app hN, ⟨Nat.le_trans hq.2.2.1 hRc, Nat.le_trans hq.2.2.2 hRs⟩, fun t q => st t ?_⟩
    show Steps p.tables e below (T'.setTop (mkF m (pc + 3) (cL σ L) ((v.map (cv σ)).toList ++ (S.drop na).map (cv σ)))) t
    rw [toList_map]; exact q
  · cases h
theorem okCtor (hx : p.tables.exec = Jvm.exec) (hZ : Z.Warmed39 s.vm) {own : String} {idx na cl W Rc Rs maxL : Nat} {y : MethodName} {bytes : ByteArray} {rr : Option FieldType} {ps : List FieldType} {rm : Room} {F : List Value → AH → Option ORes} (hF0 : Says l Z σ x0 n0 K y bytes maxL none [] rm F) (hy1 : y.name = "<init>")
    (hown : s.vm.findClass own = some m.cls) (w1 : (Jvm.Cond.methodLink own idx y).before a0 Z = true) (w2 : (Jvm.Cond.instanceMethod y).before a0 Z = true) (w3 : (Jvm.Cond.initialized y.cls).before a0 Z = true) (w4 : (Jvm.Cond.code y bytes maxL none).before a0 Z = true)
    (hy : y.cls ≠ "java/lang/invoke/MethodHandle" ∧ y.cls ≠ "java/lang/invoke/VarHandle") (hd0 : parseMethodDescriptor y.desc = some ⟨ps, rr⟩) (hna : ps.length = na) (hRc : Rc ≤ R.cells) (hRs : Rs ≤ R.slots) (hfr : rm.frames + 1 ≤ R.frames) (hlo : W + (maxL + 11) + rm.locals ≤ R.locals) :
    Good p l e R s m args below meth c Z σ x0 n0 K (.invokespecial idx) (aRecv na cl W Rc Rs rm.cells rm.slots F) := by
  intro T locs cs ss pc L S H S' H' cs' ss' X hd hL hR hF hB h
  unfold aRecv at h
  split at h
  · rename_i a r hdr
    replace h := Option.bind_eq_some_iff.mp h
    obtain ⟨q0, h0, h⟩ := h
    split at h
    · rename_i hq
      replace h := Option.bind_eq_some_iff.mp h
      obtain ⟨⟨v, H1⟩, h1, h⟩ := h
      cases h
      have hst : S.map (cv σ) = (((S.take na).reverse).map (cv σ)).reverse ++ .ref (σ a) :: r.map (cv σ) := by rw [args_rev S na, hdr]; rfl
      obtain ⟨v', vm1, ⟨T', L', k', n'⟩, -, X', ⟨Lc, ⟨hv, hR', hN⟩, l1, y1, z1⟩, st⟩ := X.specialBack hx (y := y) hy1 hown (mvT hZ w1) (mvT hZ w2) (mvT hZ w4) hy (backOf (h := T.heap) (W := W) (Q := fun w h' L => w = v.map (cv σ) ∧ Rep Z σ x0 n0 K h' H1 ∧ Fr n0 L) (hF0 _ H _ T.heap h1 hR) hZ w4 w3 hfr hlo) (g := mkF m pc (cL σ L) (S.map (cv σ))) rfl (size_cL.trans hL) (Steps.refl _) (a := σ a) (argsL := ((S.take na).reverse).map (cv σ)) (rest := r.map (cv σ)) (lenOf hd0 (by rw [hna]; simp; omega)) hst (by show 2 * 0 + _ ≤ _; rw [cat_sum]; omega) hd (fun _ _ => ⟨rfl, rfl, Nat.le_trans hq.2.2.2.1 hRc, Nat.le_trans hq.2.2.2.2 hRs⟩)
      dsimp only [Pt.U, Pt.locs, Pt.cells, Pt.slots] at X' l1 y1 z1 st hR'
      subst l1 y1 z1 hv
      refine ⟨T', _, X', hR', hF.app hN, ⟨Nat.le_trans hq.2.2.2.1 hRc, Nat.le_trans hq.2.2.2.2 hRs⟩, fun t q => st.trans ?_⟩
      show Steps p.tables e below (T'.setTop (mkF m (pc + 3) (cL σ L) ((v.map (cv σ)).toList ++ r.map (cv σ)))) t
      rw [toList_map]; exact q
    · cases h
  · cases h
theorem okVirt (hx : p.tables.exec = Jvm.exec) (hZ : Z.Warmed39 s.vm) {own C : String} {idx na cl W Rc Rs maxL : Nat} {y z : MethodName} {bytes : ByteArray} {ret rr : Option FieldType} {ps : List FieldType} {rm : Room} {fs : List (String × String × String)} {F : List Value → AH → Option ORes} (hF0 : Says l Z σ x0 n0 K z bytes maxL ret [] rm F) (hC : K[cl]? = some (C, fs))
    (hown : s.vm.findClass own = some m.cls) (w1 : (Jvm.Cond.methodLink own idx y).before a0 Z = true) (w2 : (Jvm.Cond.declares y).before a0 Z = true) (w5 : (Jvm.Cond.selects C y z).before a0 Z = true) (w6 : (Jvm.Cond.instanceMethod z).before a0 Z = true) (w3 : (Jvm.Cond.initialized z.cls).before a0 Z = true) (w4 : (Jvm.Cond.code z bytes maxL ret).before a0 Z = true)
    (nf : ∀ (s' : State) (ar : Array Value), (Jvm.Cond.selects C y z).before ar s' = true → NotFace s' y) (hy : y.cls ≠ "java/lang/invoke/MethodHandle" ∧ y.cls ≠ "java/lang/invoke/VarHandle") (hd0 : parseMethodDescriptor y.desc = some ⟨ps, rr⟩) (hna : ps.length = na) (hRc : Rc ≤ R.cells) (hRs : Rs ≤ R.slots) (hfr : rm.frames + 1 ≤ R.frames) (hlo : W + (maxL + 11) + rm.locals ≤ R.locals) :
    Good p l e R s m args below meth c Z σ x0 n0 K (.invokevirtual idx) (aRecv na cl W Rc Rs rm.cells rm.slots F) := by
  intro T locs cs ss pc L S H S' H' cs' ss' X hd hL hR hF hB h
  unfold aRecv at h
  split at h
  · rename_i a r hdr
    replace h := Option.bind_eq_some_iff.mp h
    obtain ⟨⟨cn, vs⟩, h0, h⟩ := h
    dsimp only at h
    split at h
    · rename_i hq
      replace h := Option.bind_eq_some_iff.mp h
      obtain ⟨⟨v, H1⟩, h1, h⟩ := h
      cases h
      obtain ⟨rfl, hq⟩ := hq
      obtain ⟨C', fs', q1, q2, -⟩ := hR.2.2.2 _ _ (obj_some h0)
      cases hC.symm.trans q1
      obtain ⟨cB, kB, i1, i2, i3⟩ := isOf (T := T) hZ rfl q2
      have hst : S.map (cv σ) = (((S.take na).reverse).map (cv σ)).reverse ++ .ref (σ a) :: r.map (cv σ) := by rw [args_rev S na, hdr]; rfl
      obtain ⟨v', vm1, ⟨T', L', k', n'⟩, -, X', ⟨Lc, ⟨hv, hR', hN⟩, l1, y1, z1⟩, st⟩ := X.virtualBack hx (y := y) (z := z) hown (mvT hZ w1) (mvT hZ w2) (nf s #[] (mvT hZ w5)) (mvT hZ w5) (mvT hZ w6) hy (backOf (h := T.heap) (W := W) (Q := fun w h' L => w = v.map (cv σ) ∧ Rep Z σ x0 n0 K h' H1 ∧ Fr n0 L) (hF0 _ H _ T.heap h1 hR) hZ w4 w3 hfr hlo) i1 i3 (g := mkF m pc (cL σ L) (S.map (cv σ))) rfl (size_cL.trans hL) (Steps.refl _) (argsL := ((S.take na).reverse).map (cv σ)) (rest := r.map (cv σ)) (lenOf hd0 (by rw [hna]; simp; omega)) hst (by show 2 * 0 + _ ≤ _; rw [cat_sum]; omega) hd (fun _ _ => ⟨rfl, rfl, Nat.le_trans hq.2.2.1 hRc, Nat.le_trans hq.2.2.2 hRs⟩)
      dsimp only [Pt.U, Pt.locs, Pt.cells, Pt.slots] at X' l1 y1 z1 st hR'
      subst l1 y1 z1 hv
      refine ⟨T', _, X', hR', hF.app hN, ⟨Nat.le_trans hq.2.2.1 hRc, Nat.le_trans hq.2.2.2 hRs⟩, fun t q => st.trans ?_⟩
      show Steps p.tables e below (T'.setTop (mkF m (pc + 3) (cL σ L) ((v.map (cv σ)).toList ++ r.map (cv σ)))) t
      rw [toList_map]; exact q
    · cases h
  · cases h
theorem ag_nil : AllGood p l e R s m args below meth c Z σ x0 n0 K [] := trivial
theorem ag_cons {q i : Nat} {act : Act} {E : List (Nat × Nat × Act)} (h : Good p l e R s m args below meth c Z σ x0 n0 K (insOf q i) act) (t : AllGood p l e R s m args below meth c Z σ x0 n0 K E) : AllGood p l e R s m args below meth c Z σ x0 n0 K ((q, i, act) :: E) := ⟨h, t⟩
end Acts
theorem names_inj {fs : List (String × String × String)} (h : (fs.map fun f => f.2.1).Nodup) : ∀ (i j : Nat) (f g : String × String × String), fs[i]? = some f → fs[j]? = some g → f.2.1 = g.2.1 → i = j := by
  intro i j f g hf hg e
  refine (List.getElem?_inj (l := fs.map fun f => f.2.1) (by simpa using (List.getElem?_eq_some_iff.mp hf).1) h).mp ?_
  simp [hf, hg, e]
theorem sg_start {n : Nat} : Sg (fun k => n + k) 0 n := ⟨fun k _ => rfl, fun i h => absurd h (Nat.not_lt_zero _), fun i j h => absurd h (Nat.not_lt_zero _)⟩
theorem rep_start {s : State} {σ : Nat → Nat} {K : List CD} : Rep s σ 0 s.heap.size K s.heap [] := ⟨rfl, Nat.le_refl _, Old.start s, fun k o h => by cases h⟩
end Jvm.Own
namespace Jvm.Own
open Sem ClassFile Op Lib Jvm.RoadKit
/-! ## 6. Rows for evaluating a orun -/
section Ev
variable {x y : Int32} {pc : Nat} {o : Int} {f : Nat → Option ORes} {P : Prop} [Decidable P]
theorem h_eq : if_icmp.holds .eq x y = decide (x = y) := by by_cases h : x = y <;> simp [if_icmp.holds, h]
theorem h_ne : if_icmp.holds .ne x y = !decide (x = y) := by by_cases h : x = y <;> simp [if_icmp.holds, h]
theorem h_lt : if_icmp.holds .lt x y = decide (x < y) := rfl
theorem h_ge : if_icmp.holds .ge x y = !decide (x < y) := by
  by_cases h : x < y
  · simp [if_icmp.holds, h, Int32.not_le.mpr h]
  · simp [if_icmp.holds, h, Int32.not_lt.mp h]
theorem h_gt : if_icmp.holds .gt x y = decide (y < x) := rfl
theorem h_le : if_icmp.holds .le x y = !decide (y < x) := by
  by_cases h : y < x
  · simp [if_icmp.holds, h, Int32.not_le.mpr h]
  · simp [if_icmp.holds, h, Int32.not_lt.mp h]
theorem z_eq : ifCond.holds .eq x = decide (x = 0) := h_eq (y := 0)
theorem z_ne : ifCond.holds .ne x = !decide (x = 0) := h_ne (y := 0)
theorem z_lt : ifCond.holds .lt x = decide (x < 0) := rfl
theorem z_ge : ifCond.holds .ge x = !decide (x < 0) := h_ge (y := 0)
theorem z_gt : ifCond.holds .gt x = decide (0 < x) := rfl
theorem z_le : ifCond.holds .le x = !decide (0 < x) := h_le (y := 0)
theorem br_d : br (decide P) pc o f = if 0 ≤ (pc : Int) + o then (if P then f ((pc : Int) + o).toNat else f (pc + 3)) else none := by unfold br; by_cases h : P <;> simp [h]
theorem br_n : br (!decide P) pc o f = if 0 ≤ (pc : Int) + o then (if P then f (pc + 3) else f ((pc : Int) + o).toNat) else none := by unfold br; by_cases h : P <;> simp [h]
theorem br_t : br true pc o f = if 0 ≤ (pc : Int) + o then f ((pc : Int) + o).toNat else none := rfl
theorem br_f : br false pc o f = if 0 ≤ (pc : Int) + o then f (pc + 3) else none := rfl
theorem b_1 : ((if P then (1 : Int32) else 0) = 1) = P := by by_cases h : P <;> simp [h]
theorem b_0 : ((if P then (1 : Int32) else 0) = 0) = ¬ P := by by_cases h : P <;> simp [h]
theorem b_1r : ((1 : Int32) = (if P then (1 : Int32) else 0)) = P := by by_cases h : P <;> simp [h]
theorem b_0r : ((0 : Int32) = (if P then (1 : Int32) else 0)) = ¬ P := by by_cases h : P <;> simp [h]
theorem b_bb {Q : Prop} [Decidable Q] : ((if P then (1 : Int32) else 0) = (if Q then (1 : Int32) else 0)) = (P ↔ Q) := by by_cases h : P <;> by_cases h' : Q <;> simp [h, h']
theorem b_and : (if P then (1 : Int32) else 0) &&& 1 = if P then 1 else 0 := by by_cases h : P <;> simp [h]
theorem i_10 : ((1 : Int32) = 0) = False := by simp
theorem i_01 : ((0 : Int32) = 1) = False := by simp
theorem nr_i {x : Int32} : narrow .int (.int x) = .int x := rfl
theorem nr_j {x : Int64} : narrow .long (.long x) = .long x := rfl
theorem nr_a {t : FieldType} {v : Value} : narrow (.array t) v = v := by cases v <;> rfl
theorem nr_o {t : String} {v : Value} : narrow (.object t) v = v := by cases v <;> rfl
theorem nr_b : narrow .boolean (.int (if P then (1 : Int32) else 0)) = .int (if P then (1 : Int32) else 0) := by by_cases h : P <;> simp [h] <;> rfl
theorem nr_b1 : narrow .boolean (.int 1) = .int 1 := rfl
theorem nr_b0 : narrow .boolean (.int 0) = .int 0 := rfl
theorem ft_i {x : Int32} : fits .int (.int x) = true := rfl
theorem ft_j {x : Int64} : fits .long (.long x) = true := rfl
theorem ft_a {t : FieldType} {a : Nat} : fits (.array t) (.ref a) = true := rfl
theorem ft_o {t : String} {a : Nat} : fits (.object t) (.ref a) = true := rfl
theorem ft_b : fits .boolean (.int (if P then (1 : Int32) else 0)) = true := by by_cases h : P <;> simp [h] <;> rfl
theorem ft_b1 : fits .boolean (.int 1) = true := rfl
theorem ft_b0 : fits .boolean (.int 0) = true := rfl
theorem rV_nil {H : AH} : rV none [] H = some (none, H) := rfl
theorem cat_int {x : Int32} : Value.category (.int x) = 1 := rfl
theorem cat_long {x : Int64} : Value.category (.long x) = 2 := rfl
theorem cat_ref {a : Nat} : Value.category (.ref a) = 1 := rfl
theorem cat_null : Value.category .null = 1 := rfl
theorem and11 : (1 : Int32) &&& 1 = 1 := rfl
theorem and01 : (0 : Int32) &&& 1 = 0 := rfl
theorem pI_int {x : Int32} {r : List Value} {f : Int32 → List Value → Option ORes} : pI (.int x :: r) f = f x r := rfl
theorem pL_long {x : Int64} {r : List Value} {f : Int64 → List Value → Option ORes} : pL (.long x :: r) f = f x r := rfl
theorem pA_ref {a : Nat} {r : List Value} {f : Value → List Value → Option ORes} : pA (.ref a :: r) f = f (.ref a) r := rfl
theorem pA_null {r : List Value} {f : Value → List Value → Option ORes} : pA (.null :: r) f = f .null r := rfl
theorem pR_ref {a : Nat} {r : List Value} {f : Nat → List Value → Option ORes} : pR (.ref a :: r) f = f a r := rfl
theorem p1_int {x : Int32} {r : List Value} {f : Value → List Value → Option ORes} : p1 (.int x :: r) f = f (.int x) r := rfl
theorem p1_ref {a : Nat} {r : List Value} {f : Value → List Value → Option ORes} : p1 (.ref a :: r) f = f (.ref a) r := rfl
theorem p1_null {r : List Value} {f : Value → List Value → Option ORes} : p1 (.null :: r) f = f .null r := rfl
variable {code : ByteArray} {rt : Option FieldType} {E : List (Nat × Nat × Act)} {x0 n q cs ss : Nat} {L : List Slot} {S : List Value} {H : AH}
theorem s_icmp {cd : ClassFile.Cond} {Q : Int32 → Int32 → Prop} [∀ x y, Decidable (Q x y)] (hP : ∀ x y, if_icmp.holds cd x y = decide (Q x y)) (h : dec code pc = some (.if_icmp cd o)) (ho : 0 ≤ (pc : Int) + o) (hq : ((pc : Int) + o).toNat = q) :
    orun code rt E x0 (n + 1) (pc, L, S, H, cs, ss) = pI S fun y S => pI S fun x r => if Q x y then orun code rt E x0 n (q, L, r, H, cs, ss) else orun code rt E x0 n (pc + 3, L, r, H, cs, ss) := by
  subst hq; rw [orun_succ, h]
  refine congrArg (pI S) (funext fun y => funext fun S' => congrArg (pI S') (funext fun x => funext fun r => ?_))
  rw [hP, br_d, if_pos ho]
theorem s_icmpN {cd : ClassFile.Cond} {Q : Int32 → Int32 → Prop} [∀ x y, Decidable (Q x y)] (hP : ∀ x y, if_icmp.holds cd x y = !decide (Q x y)) (h : dec code pc = some (.if_icmp cd o)) (ho : 0 ≤ (pc : Int) + o) (hq : ((pc : Int) + o).toNat = q) :
    orun code rt E x0 (n + 1) (pc, L, S, H, cs, ss) = pI S fun y S => pI S fun x r => if Q x y then orun code rt E x0 n (pc + 3, L, r, H, cs, ss) else orun code rt E x0 n (q, L, r, H, cs, ss) := by
  subst hq; rw [orun_succ, h]
  refine congrArg (pI S) (funext fun y => funext fun S' => congrArg (pI S') (funext fun x => funext fun r => ?_))
  rw [hP, br_n, if_pos ho]
theorem s_if {cd : ClassFile.Cond} {Q : Int32 → Prop} [∀ x, Decidable (Q x)] (hP : ∀ x, ifCond.holds cd x = decide (Q x)) (h : dec code pc = some (.ifCond cd o)) (ho : 0 ≤ (pc : Int) + o) (hq : ((pc : Int) + o).toNat = q) :
    orun code rt E x0 (n + 1) (pc, L, S, H, cs, ss) = pI S fun x r => if Q x then orun code rt E x0 n (q, L, r, H, cs, ss) else orun code rt E x0 n (pc + 3, L, r, H, cs, ss) := by
  subst hq; rw [orun_succ, h]
  refine congrArg (pI S) (funext fun x => funext fun r => ?_)
  rw [hP, br_d, if_pos ho]
theorem s_ifN {cd : ClassFile.Cond} {Q : Int32 → Prop} [∀ x, Decidable (Q x)] (hP : ∀ x, ifCond.holds cd x = !decide (Q x)) (h : dec code pc = some (.ifCond cd o)) (ho : 0 ≤ (pc : Int) + o) (hq : ((pc : Int) + o).toNat = q) :
    orun code rt E x0 (n + 1) (pc, L, S, H, cs, ss) = pI S fun x r => if Q x then orun code rt E x0 n (pc + 3, L, r, H, cs, ss) else orun code rt E x0 n (q, L, r, H, cs, ss) := by
  subst hq; rw [orun_succ, h]
  refine congrArg (pI S) (funext fun x => funext fun r => ?_)
  rw [hP, br_n, if_pos ho]
theorem s_goto (h : dec code pc = some (.goto o)) (ho : 0 ≤ (pc : Int) + o) (hq : ((pc : Int) + o).toNat = q) : orun code rt E x0 (n + 1) (pc, L, S, H, cs, ss) = orun code rt E x0 n (q, L, S, H, cs, ss) := by
  subst hq; rw [orun_succ, h]; exact if_pos ho
theorem s_any {i : Instr} (h : dec code pc = some i) : orun code rt E x0 (n + 1) (pc, L, S, H, cs, ss) = ex rt E x0 (orun code rt E x0 n) i pc L S H cs ss := by rw [orun_succ, h]; rfl
end Ev
theorem ex_ishl {rt : Option FieldType} {E : List (Nat × Nat × Act)} {x0 pc cs ss : Nat} {k : St → Option ORes} {L : List Slot} {S : List Value} {H : AH}  : ex rt E x0 k (.ishl) pc L S H cs ss = pI S fun y S => pI S fun x r => k (pc + 1, L, .int (x <<< (y &&& 31)) :: r, H, cs, ss) := rfl
theorem ex_ishr {rt : Option FieldType} {E : List (Nat × Nat × Act)} {x0 pc cs ss : Nat} {k : St → Option ORes} {L : List Slot} {S : List Value} {H : AH}  : ex rt E x0 k (.ishr) pc L S H cs ss = pI S fun y S => pI S fun x r => k (pc + 1, L, .int (x >>> (y &&& 31)) :: r, H, cs, ss) := rfl
theorem ex_iushr {rt : Option FieldType} {E : List (Nat × Nat × Act)} {x0 pc cs ss : Nat} {k : St → Option ORes} {L : List Slot} {S : List Value} {H : AH}  : ex rt E x0 k (.iushr) pc L S H cs ss = pI S fun y S => pI S fun x r => k (pc + 1, L, .int ((x.toUInt32 >>> (y &&& 31).toUInt32).toInt32) :: r, H, cs, ss) := rfl
theorem ex_idiv {rt : Option FieldType} {E : List (Nat × Nat × Act)} {x0 pc cs ss : Nat} {k : St → Option ORes} {L : List Slot} {S : List Value} {H : AH}  : ex rt E x0 k (.idiv) pc L S H cs ss = pI S fun y S => pI S fun x r => if y = 0 then none else k (pc + 1, L, .int (x / y) :: r, H, cs, ss) := rfl
theorem ex_irem {rt : Option FieldType} {E : List (Nat × Nat × Act)} {x0 pc cs ss : Nat} {k : St → Option ORes} {L : List Slot} {S : List Value} {H : AH}  : ex rt E x0 k (.irem) pc L S H cs ss = pI S fun y S => pI S fun x r => if y = 0 then none else k (pc + 1, L, .int (x % y) :: r, H, cs, ss) := rfl
theorem ex_ineg {rt : Option FieldType} {E : List (Nat × Nat × Act)} {x0 pc cs ss : Nat} {k : St → Option ORes} {L : List Slot} {S : List Value} {H : AH}  : ex rt E x0 k (.ineg) pc L S H cs ss = pI S fun x r => k (pc + 1, L, .int (-x) :: r, H, cs, ss) := rfl
theorem ex_i2b {rt : Option FieldType} {E : List (Nat × Nat × Act)} {x0 pc cs ss : Nat} {k : St → Option ORes} {L : List Slot} {S : List Value} {H : AH}  : ex rt E x0 k (.i2b) pc L S H cs ss = pI S fun x r => k (pc + 1, L, .int x.toInt8.toInt32 :: r, H, cs, ss) := rfl
theorem ex_i2c {rt : Option FieldType} {E : List (Nat × Nat × Act)} {x0 pc cs ss : Nat} {k : St → Option ORes} {L : List Slot} {S : List Value} {H : AH}  : ex rt E x0 k (.i2c) pc L S H cs ss = pI S fun x r => k (pc + 1, L, .int x.toUInt32.toUInt16.toUInt32.toInt32 :: r, H, cs, ss) := rfl
theorem ex_i2s {rt : Option FieldType} {E : List (Nat × Nat × Act)} {x0 pc cs ss : Nat} {k : St → Option ORes} {L : List Slot} {S : List Value} {H : AH}  : ex rt E x0 k (.i2s) pc L S H cs ss = pI S fun x r => k (pc + 1, L, .int x.toInt16.toInt32 :: r, H, cs, ss) := rfl
theorem ex_i2l {rt : Option FieldType} {E : List (Nat × Nat × Act)} {x0 pc cs ss : Nat} {k : St → Option ORes} {L : List Slot} {S : List Value} {H : AH}  : ex rt E x0 k (.i2l) pc L S H cs ss = pI S fun x r => k (pc + 1, L, .long x.toInt64 :: r, H, cs, ss) := rfl
theorem ex_l2i {rt : Option FieldType} {E : List (Nat × Nat × Act)} {x0 pc cs ss : Nat} {k : St → Option ORes} {L : List Slot} {S : List Value} {H : AH}  : ex rt E x0 k (.l2i) pc L S H cs ss = pL S fun x r => k (pc + 1, L, .int x.toInt32 :: r, H, cs, ss) := rfl
theorem ex_lneg {rt : Option FieldType} {E : List (Nat × Nat × Act)} {x0 pc cs ss : Nat} {k : St → Option ORes} {L : List Slot} {S : List Value} {H : AH}  : ex rt E x0 k (.lneg) pc L S H cs ss = pL S fun x r => k (pc + 1, L, .long (-x) :: r, H, cs, ss) := rfl
theorem ex_lshl {rt : Option FieldType} {E : List (Nat × Nat × Act)} {x0 pc cs ss : Nat} {k : St → Option ORes} {L : List Slot} {S : List Value} {H : AH}  : ex rt E x0 k (.lshl) pc L S H cs ss = pI S fun y S => pL S fun x r => k (pc + 1, L, .long (x <<< (y &&& 0x3f).toInt64) :: r, H, cs, ss) := rfl
theorem ex_lshr {rt : Option FieldType} {E : List (Nat × Nat × Act)} {x0 pc cs ss : Nat} {k : St → Option ORes} {L : List Slot} {S : List Value} {H : AH}  : ex rt E x0 k (.lshr) pc L S H cs ss = pI S fun y S => pL S fun x r => k (pc + 1, L, .long (x >>> (y &&& 0x3f).toInt64) :: r, H, cs, ss) := rfl
theorem ex_lushr {rt : Option FieldType} {E : List (Nat × Nat × Act)} {x0 pc cs ss : Nat} {k : St → Option ORes} {L : List Slot} {S : List Value} {H : AH}  : ex rt E x0 k (.lushr) pc L S H cs ss = pI S fun y S => pL S fun x r => k (pc + 1, L, .long ((x.toUInt64 >>> (y &&& 0x3f).toInt64.toUInt64).toInt64) :: r, H, cs, ss) := rfl
theorem ex_ldiv {rt : Option FieldType} {E : List (Nat × Nat × Act)} {x0 pc cs ss : Nat} {k : St → Option ORes} {L : List Slot} {S : List Value} {H : AH}  : ex rt E x0 k (.ldiv) pc L S H cs ss = pL S fun y S => pL S fun x r => if y = 0 then none else k (pc + 1, L, .long (x / y) :: r, H, cs, ss) := rfl
theorem ex_lrem {rt : Option FieldType} {E : List (Nat × Nat × Act)} {x0 pc cs ss : Nat} {k : St → Option ORes} {L : List Slot} {S : List Value} {H : AH}  : ex rt E x0 k (.lrem) pc L S H cs ss = pL S fun y S => pL S fun x r => if y = 0 then none else k (pc + 1, L, .long (x % y) :: r, H, cs, ss) := rfl
theorem ex_lcmp {rt : Option FieldType} {E : List (Nat × Nat × Act)} {x0 pc cs ss : Nat} {k : St → Option ORes} {L : List Slot} {S : List Value} {H : AH}  : ex rt E x0 k (.lcmp) pc L S H cs ss = pL S fun y S => pL S fun x r => k (pc + 1, L, .int (lcmpW x y) :: r, H, cs, ss) := rfl
theorem ex_dup {rt : Option FieldType} {E : List (Nat × Nat × Act)} {x0 pc cs ss : Nat} {k : St → Option ORes} {L : List Slot} {S : List Value} {H : AH}  : ex rt E x0 k (.dup) pc L S H cs ss = p1 S fun v r => k (pc + 1, L, v :: v :: r, H, cs, ss) := rfl
theorem ex_pop {rt : Option FieldType} {E : List (Nat × Nat × Act)} {x0 pc cs ss : Nat} {k : St → Option ORes} {L : List Slot} {S : List Value} {H : AH}  : ex rt E x0 k (.pop) pc L S H cs ss = p1 S fun _ r => k (pc + 1, L, r, H, cs, ss) := rfl
theorem ex_dup_x1 {rt : Option FieldType} {E : List (Nat × Nat × Act)} {x0 pc cs ss : Nat} {k : St → Option ORes} {L : List Slot} {S : List Value} {H : AH}  : ex rt E x0 k (.dup_x1) pc L S H cs ss = p1 S fun x S => p1 S fun y r => k (pc + 1, L, x :: y :: x :: r, H, cs, ss) := rfl
theorem ex_dup2 {rt : Option FieldType} {E : List (Nat × Nat × Act)} {x0 pc cs ss : Nat} {k : St → Option ORes} {L : List Slot} {S : List Value} {H : AH}  : ex rt E x0 k (.dup2) pc L S H cs ss = p1 S fun x S => p1 S fun y r => k (pc + 1, L, x :: y :: x :: y :: r, H, cs, ss) := rfl
theorem ex_ifnull {rt : Option FieldType} {E : List (Nat × Nat × Act)} {x0 pc cs ss : Nat} {k : St → Option ORes} {L : List Slot} {S : List Value} {H : AH} {o : Int} : ex rt E x0 k (.ifnull o) pc L S H cs ss = pA S fun v r => br (refEq v .null) pc o fun q => k (q, L, r, H, cs, ss) := rfl
theorem ex_ifnonnull {rt : Option FieldType} {E : List (Nat × Nat × Act)} {x0 pc cs ss : Nat} {k : St → Option ORes} {L : List Slot} {S : List Value} {H : AH} {o : Int} : ex rt E x0 k (.ifnonnull o) pc L S H cs ss = pA S fun v r => br (!refEq v .null) pc o fun q => k (q, L, r, H, cs, ss) := rfl
theorem ex_if_acmp {rt : Option FieldType} {E : List (Nat × Nat × Act)} {x0 pc cs ss : Nat} {k : St → Option ORes} {L : List Slot} {S : List Value} {H : AH} {cd : ACond} {o : Int} : ex rt E x0 k (.if_acmp cd o) pc L S H cs ss = pA S fun y S => pA S fun x r => br (acV cd (refEq x y)) pc o fun q => k (q, L, r, H, cs, ss) := rfl
theorem ex_arraylength {rt : Option FieldType} {E : List (Nat × Nat × Act)} {x0 pc cs ss : Nat} {k : St → Option ORes} {L : List Slot} {S : List Value} {H : AH}  : ex rt E x0 k (.arraylength) pc L S H cs ss = pR S fun a r => (arr H a).bind fun q => k (pc + 1, L, .int q.2.length.toInt32 :: r, H, cs, ss) := rfl
theorem ex_iaload {rt : Option FieldType} {E : List (Nat × Nat × Act)} {x0 pc cs ss : Nat} {k : St → Option ORes} {L : List Slot} {S : List Value} {H : AH}  : ex rt E x0 k (.iaload) pc L S H cs ss = ald (isT .int) S H fun v r => k (pc + 1, L, v :: r, H, cs, ss) := rfl
theorem ex_baload {rt : Option FieldType} {E : List (Nat × Nat × Act)} {x0 pc cs ss : Nat} {k : St → Option ORes} {L : List Slot} {S : List Value} {H : AH}  : ex rt E x0 k (.baload) pc L S H cs ss = ald isBZ S H fun v r => k (pc + 1, L, v :: r, H, cs, ss) := rfl
theorem ex_caload {rt : Option FieldType} {E : List (Nat × Nat × Act)} {x0 pc cs ss : Nat} {k : St → Option ORes} {L : List Slot} {S : List Value} {H : AH}  : ex rt E x0 k (.caload) pc L S H cs ss = ald (isT .char) S H fun v r => k (pc + 1, L, v :: r, H, cs, ss) := rfl
theorem ex_laload {rt : Option FieldType} {E : List (Nat × Nat × Act)} {x0 pc cs ss : Nat} {k : St → Option ORes} {L : List Slot} {S : List Value} {H : AH}  : ex rt E x0 k (.laload) pc L S H cs ss = ald (isT .long) S H fun v r => k (pc + 1, L, v :: r, H, cs, ss) := rfl
theorem ex_aaload {rt : Option FieldType} {E : List (Nat × Nat × Act)} {x0 pc cs ss : Nat} {k : St → Option ORes} {L : List Slot} {S : List Value} {H : AH}  : ex rt E x0 k (.aaload) pc L S H cs ss = ald FieldType.isReference S H fun v r => k (pc + 1, L, v :: r, H, cs, ss) := rfl
theorem ex_iastore {rt : Option FieldType} {E : List (Nat × Nat × Act)} {x0 pc cs ss : Nat} {k : St → Option ORes} {L : List Slot} {S : List Value} {H : AH}  : ex rt E x0 k (.iastore) pc L S H cs ss = ast (isT .int) x0 S H fun r H' => k (pc + 1, L, r, H', cs, ss) := rfl
theorem ex_bastore {rt : Option FieldType} {E : List (Nat × Nat × Act)} {x0 pc cs ss : Nat} {k : St → Option ORes} {L : List Slot} {S : List Value} {H : AH}  : ex rt E x0 k (.bastore) pc L S H cs ss = ast (isT .byte) x0 S H fun r H' => k (pc + 1, L, r, H', cs, ss) := rfl
theorem ex_castore {rt : Option FieldType} {E : List (Nat × Nat × Act)} {x0 pc cs ss : Nat} {k : St → Option ORes} {L : List Slot} {S : List Value} {H : AH}  : ex rt E x0 k (.castore) pc L S H cs ss = ast (isT .char) x0 S H fun r H' => k (pc + 1, L, r, H', cs, ss) := rfl
theorem ex_lastore {rt : Option FieldType} {E : List (Nat × Nat × Act)} {x0 pc cs ss : Nat} {k : St → Option ORes} {L : List Slot} {S : List Value} {H : AH}  : ex rt E x0 k (.lastore) pc L S H cs ss = astL x0 S H fun r H' => k (pc + 1, L, r, H', cs, ss) := rfl
theorem ex_ldc {rt : Option FieldType} {E : List (Nat × Nat × Act)} {x0 pc cs ss : Nat} {k : St → Option ORes} {L : List Slot} {S : List Value} {H : AH} {i : Nat} : ex rt E x0 k (.ldc i) pc L S H cs ss = spc E 0 i S H cs ss fun S' H' cs' ss' => k (pc + 2, L, S', H', cs', ss') := rfl
theorem ex_ldc_w {rt : Option FieldType} {E : List (Nat × Nat × Act)} {x0 pc cs ss : Nat} {k : St → Option ORes} {L : List Slot} {S : List Value} {H : AH} {i : Nat} : ex rt E x0 k (.ldc_w i) pc L S H cs ss = spc E 1 i S H cs ss fun S' H' cs' ss' => k (pc + 3, L, S', H', cs', ss') := rfl
theorem ex_ldc2_w {rt : Option FieldType} {E : List (Nat × Nat × Act)} {x0 pc cs ss : Nat} {k : St → Option ORes} {L : List Slot} {S : List Value} {H : AH} {i : Nat} : ex rt E x0 k (.ldc2_w i) pc L S H cs ss = spc E 2 i S H cs ss fun S' H' cs' ss' => k (pc + 3, L, S', H', cs', ss') := rfl
theorem ex_getfield {rt : Option FieldType} {E : List (Nat × Nat × Act)} {x0 pc cs ss : Nat} {k : St → Option ORes} {L : List Slot} {S : List Value} {H : AH} {i : Nat} : ex rt E x0 k (.getfield i) pc L S H cs ss = spc E 3 i S H cs ss fun S' H' cs' ss' => k (pc + 3, L, S', H', cs', ss') := rfl
theorem ex_putfield {rt : Option FieldType} {E : List (Nat × Nat × Act)} {x0 pc cs ss : Nat} {k : St → Option ORes} {L : List Slot} {S : List Value} {H : AH} {i : Nat} : ex rt E x0 k (.putfield i) pc L S H cs ss = spc E 4 i S H cs ss fun S' H' cs' ss' => k (pc + 3, L, S', H', cs', ss') := rfl
theorem ex_getstatic {rt : Option FieldType} {E : List (Nat × Nat × Act)} {x0 pc cs ss : Nat} {k : St → Option ORes} {L : List Slot} {S : List Value} {H : AH} {i : Nat} : ex rt E x0 k (.getstatic i) pc L S H cs ss = spc E 5 i S H cs ss fun S' H' cs' ss' => k (pc + 3, L, S', H', cs', ss') := rfl
theorem ex_new {rt : Option FieldType} {E : List (Nat × Nat × Act)} {x0 pc cs ss : Nat} {k : St → Option ORes} {L : List Slot} {S : List Value} {H : AH} {i : Nat} : ex rt E x0 k (.new i) pc L S H cs ss = spc E 6 i S H cs ss fun S' H' cs' ss' => k (pc + 3, L, S', H', cs', ss') := rfl
theorem ex_invokestatic {rt : Option FieldType} {E : List (Nat × Nat × Act)} {x0 pc cs ss : Nat} {k : St → Option ORes} {L : List Slot} {S : List Value} {H : AH} {i : Nat} : ex rt E x0 k (.invokestatic i) pc L S H cs ss = spc E 7 i S H cs ss fun S' H' cs' ss' => k (pc + 3, L, S', H', cs', ss') := rfl
theorem ex_invokespecial {rt : Option FieldType} {E : List (Nat × Nat × Act)} {x0 pc cs ss : Nat} {k : St → Option ORes} {L : List Slot} {S : List Value} {H : AH} {i : Nat} : ex rt E x0 k (.invokespecial i) pc L S H cs ss = spc E 8 i S H cs ss fun S' H' cs' ss' => k (pc + 3, L, S', H', cs', ss') := rfl
theorem ex_invokevirtual {rt : Option FieldType} {E : List (Nat × Nat × Act)} {x0 pc cs ss : Nat} {k : St → Option ORes} {L : List Slot} {S : List Value} {H : AH} {i : Nat} : ex rt E x0 k (.invokevirtual i) pc L S H cs ss = spc E 9 i S H cs ss fun S' H' cs' ss' => k (pc + 3, L, S', H', cs', ss') := rfl
theorem ex_checkcast {rt : Option FieldType} {E : List (Nat × Nat × Act)} {x0 pc cs ss : Nat} {k : St → Option ORes} {L : List Slot} {S : List Value} {H : AH} {i : Nat} : ex rt E x0 k (.checkcast i) pc L S H cs ss = spc E 10 i S H cs ss fun S' H' cs' ss' => k (pc + 3, L, S', H', cs', ss') := rfl
theorem ex_instanceof {rt : Option FieldType} {E : List (Nat × Nat × Act)} {x0 pc cs ss : Nat} {k : St → Option ORes} {L : List Slot} {S : List Value} {H : AH} {i : Nat} : ex rt E x0 k (.instanceof i) pc L S H cs ss = spc E 11 i S H cs ss fun S' H' cs' ss' => k (pc + 3, L, S', H', cs', ss') := rfl
theorem ex_anewarray {rt : Option FieldType} {E : List (Nat × Nat × Act)} {x0 pc cs ss : Nat} {k : St → Option ORes} {L : List Slot} {S : List Value} {H : AH} {i : Nat} : ex rt E x0 k (.anewarray i) pc L S H cs ss = spc E 12 i S H cs ss fun S' H' cs' ss' => k (pc + 3, L, S', H', cs', ss') := rfl
theorem ex_newarray {rt : Option FieldType} {E : List (Nat × Nat × Act)} {x0 pc cs ss : Nat} {k : St → Option ORes} {L : List Slot} {S : List Value} {H : AH} {t : ArrayType} : ex rt E x0 k (.newarray t) pc L S H cs ss = spc E 13 (atn t) S H cs ss fun S' H' cs' ss' => k (pc + 2, L, S', H', cs', ss') := rfl
theorem ex_ireturn {rt : Option FieldType} {E : List (Nat × Nat × Act)} {x0 pc cs ss : Nat} {k : St → Option ORes} {L : List Slot} {S : List Value} {H : AH}  : ex rt E x0 k (.ireturn) pc L S H cs ss = rI rt S H := rfl
theorem ex_lreturn {rt : Option FieldType} {E : List (Nat × Nat × Act)} {x0 pc cs ss : Nat} {k : St → Option ORes} {L : List Slot} {S : List Value} {H : AH}  : ex rt E x0 k (.lreturn) pc L S H cs ss = rL rt S H := rfl
theorem ex_areturn {rt : Option FieldType} {E : List (Nat × Nat × Act)} {x0 pc cs ss : Nat} {k : St → Option ORes} {L : List Slot} {S : List Value} {H : AH}  : ex rt E x0 k (.areturn) pc L S H cs ss = rA rt S H := rfl
theorem ex_return {rt : Option FieldType} {E : List (Nat × Nat × Act)} {x0 pc cs ss : Nat} {k : St → Option ORes} {L : List Slot} {S : List Value} {H : AH}  : ex rt E x0 k (.return_) pc L S H cs ss = rV rt S H := rfl
end Jvm.Own
namespace Jvm.Own
open Sem ClassFile Op Lib Jvm.RoadKit
/-! ## 7. Walking: one row a step, the answer's property kept apart -/
def Rsq (r : Option ORes) (q : Option ORes → Prop) : Prop := q r
theorem res_of {a b : Option ORes} {q : Option ORes → Prop} (e : a = b) (h : Rsq b q) : Rsq a q := by subst e; exact h
theorem res_t {P : Prop} [Decidable P] {A B : Option ORes} {q : Option ORes → Prop} (hc : P) (h : Rsq A q) : Rsq (if P then A else B) q := by rw [if_pos hc]; exact h
theorem res_f {P : Prop} [Decidable P] {A B : Option ORes} {q : Option ORes → Prop} (hc : ¬ P) (h : Rsq B q) : Rsq (if P then A else B) q := by rw [if_neg hc]; exact h
def OneI (r : Option ORes) : Prop := ∃ H', r = some (some (.int 1), H')
def Is (v : Option ORes) (r : Option ORes) : Prop := r = v
section Ofs
variable {code : ByteArray} {rt : Option FieldType} {E : List (Nat × Nat × Act)} {x0 N : Nat} {st : St} {a v : Option ORes} {q : Option ORes → Prop}
theorem rsq_of (e : a = orun code rt E x0 N st) (h : ∀ go, go = orun code rt E x0 → Rsq (go N st) q) : q a := by subst e; exact h _ rfl
theorem one_of (e : a = orun code rt E x0 N st) (h : ∀ go, go = orun code rt E x0 → Rsq (go N st) OneI) : ∃ H', a = some (some (.int 1), H') := by subst e; exact h _ rfl
theorem is_of (e : a = orun code rt E x0 N st) (h : ∀ go, go = orun code rt E x0 → Rsq (go N st) (Is v)) : a = v := by subst e; exact h _ rfl
end Ofs
theorem one_1 {H : AH} : OneI (some (some (.int 1), H)) := ⟨H, rfl⟩
theorem one_b {H : AH} : OneI (some (some (.int (1 &&& 1)), H)) := ⟨H, by rw [and11]⟩
theorem is_i {z w : Int32} {H H' : AH} (e : z = w) (e' : H = H') : Is (some (some (.int w), H')) (some (some (.int z), H)) := by subst e; subst e'; rfl
theorem is_r {v : Option ORes} : Is v v := rfl
theorem is_1 {H : AH} : Is (some (some (.int 1), H)) (some (some (.int (1 &&& 1)), H)) := by unfold Is; rw [and11]
theorem is_0 {H : AH} : Is (some (some (.int 0), H)) (some (some (.int (0 &&& 1)), H)) := by unfold Is; rw [and01]
def so : Slot → Bool | .unset => true | .val (.int _) => true | .val (.ref _) => true | .val .null => true | _ => false
def so2 : Slot → Slot → Bool | .unset, .unset => true | .val (.long _), .second => true | _, _ => false
def isA : Value → Bool | .ref _ => true | .null => true | _ => false
def isS : Value → Bool | .int _ => true | .ref _ => true | .null => true | _ => false
theorem st1_so {L : List Slot} {k : Nat} {v : Value} {l : Slot} (hL : L[k]? = some l) (hk : so l = true) : st1 L k v = some (L.set k (.val v)) := by
  unfold st1; rw [hL]
  cases l with
  | unset => rfl
  | second => simp [so] at hk
  | val w => cases w <;> first | rfl | (simp [so] at hk)
theorem st2_so {L : List Slot} {k : Nat} {x : Int64} {l l' : Slot} (h1 : L[k]? = some l) (h2 : L[k + 1]? = some l') (hk : so2 l l' = true) : st2 L k x = some ((L.set k (.val (.long x))).set (k + 1) .second) := by
  unfold st2; rw [h1, h2]
  cases l with
  | unset => cases l' with
    | unset => rfl
    | second => simp [so2] at hk
    | val w => simp [so2] at hk
  | second => cases l' <;> simp [so2] at hk
  | val w => cases w <;> cases l' <;> first | rfl | (simp [so2] at hk)
theorem gA_isA {L : List Slot} {k : Nat} {v : Value} (hL : L[k]? = some (.val v)) (hv : isA v = true) : gA L k = some v := by
  unfold gA; rw [hL]; cases v <;> first | rfl | (simp [isA] at hv)
theorem pA_isA {v : Value} {r : List Value} {f : Value → List Value → Option ORes} (hv : isA v = true) : pA (v :: r) f = f v r := by
  cases v <;> first | rfl | (simp [isA] at hv)
theorem p1_isS {v : Value} {r : List Value} {f : Value → List Value → Option ORes} (hv : isS v = true) : p1 (v :: r) f = f v r := by
  cases v <;> first | rfl | (simp [isS] at hv)
def ln (l : List Value) : Int32 := l.length.toInt32
theorem ln_of {l : List Value} {n : Nat} {z : Int32} (h : l.length = n) (h' : n.toInt32 = z) : ln l = z := by unfold ln; rw [h, h']
theorem ln0 : ln [] = 0 := rfl
theorem ln1 {a0 : Value} : ln [a0] = 1 := rfl
theorem ln2 {a0 a1 : Value} : ln [a0, a1] = 2 := rfl
theorem ln3 {a0 a1 a2 : Value} : ln [a0, a1, a2] = 3 := rfl
theorem ln4 {a0 a1 a2 a3 : Value} : ln [a0, a1, a2, a3] = 4 := rfl
theorem ln5 {a0 a1 a2 a3 a4 : Value} : ln [a0, a1, a2, a3, a4] = 5 := rfl
theorem ln6 {a0 a1 a2 a3 a4 a5 : Value} : ln [a0, a1, a2, a3, a4, a5] = 6 := rfl
theorem ln7 {a0 a1 a2 a3 a4 a5 a6 : Value} : ln [a0, a1, a2, a3, a4, a5, a6] = 7 := rfl
theorem ln8 {a0 a1 a2 a3 a4 a5 a6 a7 : Value} : ln [a0, a1, a2, a3, a4, a5, a6, a7] = 8 := rfl
theorem ln9 {a0 a1 a2 a3 a4 a5 a6 a7 a8 : Value} : ln [a0, a1, a2, a3, a4, a5, a6, a7, a8] = 9 := rfl
theorem ln10 {a0 a1 a2 a3 a4 a5 a6 a7 a8 a9 : Value} : ln [a0, a1, a2, a3, a4, a5, a6, a7, a8, a9] = 10 := rfl
theorem ln11 {a0 a1 a2 a3 a4 a5 a6 a7 a8 a9 a10 : Value} : ln [a0, a1, a2, a3, a4, a5, a6, a7, a8, a9, a10] = 11 := rfl
theorem ln12 {a0 a1 a2 a3 a4 a5 a6 a7 a8 a9 a10 a11 : Value} : ln [a0, a1, a2, a3, a4, a5, a6, a7, a8, a9, a10, a11] = 12 := rfl
theorem ln13 {a0 a1 a2 a3 a4 a5 a6 a7 a8 a9 a10 a11 a12 : Value} : ln [a0, a1, a2, a3, a4, a5, a6, a7, a8, a9, a10, a11, a12] = 13 := rfl
theorem ln14 {a0 a1 a2 a3 a4 a5 a6 a7 a8 a9 a10 a11 a12 a13 : Value} : ln [a0, a1, a2, a3, a4, a5, a6, a7, a8, a9, a10, a11, a12, a13] = 14 := rfl
theorem ln15 {a0 a1 a2 a3 a4 a5 a6 a7 a8 a9 a10 a11 a12 a13 a14 : Value} : ln [a0, a1, a2, a3, a4, a5, a6, a7, a8, a9, a10, a11, a12, a13, a14] = 15 := rfl
theorem ln16 {a0 a1 a2 a3 a4 a5 a6 a7 a8 a9 a10 a11 a12 a13 a14 a15 : Value} : ln [a0, a1, a2, a3, a4, a5, a6, a7, a8, a9, a10, a11, a12, a13, a14, a15] = 16 := rfl
theorem ln17 {a0 a1 a2 a3 a4 a5 a6 a7 a8 a9 a10 a11 a12 a13 a14 a15 a16 : Value} : ln [a0, a1, a2, a3, a4, a5, a6, a7, a8, a9, a10, a11, a12, a13, a14, a15, a16] = 17 := rfl
theorem ln18 {a0 a1 a2 a3 a4 a5 a6 a7 a8 a9 a10 a11 a12 a13 a14 a15 a16 a17 : Value} : ln [a0, a1, a2, a3, a4, a5, a6, a7, a8, a9, a10, a11, a12, a13, a14, a15, a16, a17] = 18 := rfl
theorem ln19 {a0 a1 a2 a3 a4 a5 a6 a7 a8 a9 a10 a11 a12 a13 a14 a15 a16 a17 a18 : Value} : ln [a0, a1, a2, a3, a4, a5, a6, a7, a8, a9, a10, a11, a12, a13, a14, a15, a16, a17, a18] = 19 := rfl
theorem ln20 {a0 a1 a2 a3 a4 a5 a6 a7 a8 a9 a10 a11 a12 a13 a14 a15 a16 a17 a18 a19 : Value} : ln [a0, a1, a2, a3, a4, a5, a6, a7, a8, a9, a10, a11, a12, a13, a14, a15, a16, a17, a18, a19] = 20 := rfl
theorem ln21 {a0 a1 a2 a3 a4 a5 a6 a7 a8 a9 a10 a11 a12 a13 a14 a15 a16 a17 a18 a19 a20 : Value} : ln [a0, a1, a2, a3, a4, a5, a6, a7, a8, a9, a10, a11, a12, a13, a14, a15, a16, a17, a18, a19, a20] = 21 := rfl
theorem ln22 {a0 a1 a2 a3 a4 a5 a6 a7 a8 a9 a10 a11 a12 a13 a14 a15 a16 a17 a18 a19 a20 a21 : Value} : ln [a0, a1, a2, a3, a4, a5, a6, a7, a8, a9, a10, a11, a12, a13, a14, a15, a16, a17, a18, a19, a20, a21] = 22 := rfl
theorem ln23 {a0 a1 a2 a3 a4 a5 a6 a7 a8 a9 a10 a11 a12 a13 a14 a15 a16 a17 a18 a19 a20 a21 a22 : Value} : ln [a0, a1, a2, a3, a4, a5, a6, a7, a8, a9, a10, a11, a12, a13, a14, a15, a16, a17, a18, a19, a20, a21, a22] = 23 := rfl
theorem ln24 {a0 a1 a2 a3 a4 a5 a6 a7 a8 a9 a10 a11 a12 a13 a14 a15 a16 a17 a18 a19 a20 a21 a22 a23 : Value} : ln [a0, a1, a2, a3, a4, a5, a6, a7, a8, a9, a10, a11, a12, a13, a14, a15, a16, a17, a18, a19, a20, a21, a22, a23] = 24 := rfl
theorem ln25 {a0 a1 a2 a3 a4 a5 a6 a7 a8 a9 a10 a11 a12 a13 a14 a15 a16 a17 a18 a19 a20 a21 a22 a23 a24 : Value} : ln [a0, a1, a2, a3, a4, a5, a6, a7, a8, a9, a10, a11, a12, a13, a14, a15, a16, a17, a18, a19, a20, a21, a22, a23, a24] = 25 := rfl
theorem ln26 {a0 a1 a2 a3 a4 a5 a6 a7 a8 a9 a10 a11 a12 a13 a14 a15 a16 a17 a18 a19 a20 a21 a22 a23 a24 a25 : Value} : ln [a0, a1, a2, a3, a4, a5, a6, a7, a8, a9, a10, a11, a12, a13, a14, a15, a16, a17, a18, a19, a20, a21, a22, a23, a24, a25] = 26 := rfl
theorem ln27 {a0 a1 a2 a3 a4 a5 a6 a7 a8 a9 a10 a11 a12 a13 a14 a15 a16 a17 a18 a19 a20 a21 a22 a23 a24 a25 a26 : Value} : ln [a0, a1, a2, a3, a4, a5, a6, a7, a8, a9, a10, a11, a12, a13, a14, a15, a16, a17, a18, a19, a20, a21, a22, a23, a24, a25, a26] = 27 := rfl
theorem ln28 {a0 a1 a2 a3 a4 a5 a6 a7 a8 a9 a10 a11 a12 a13 a14 a15 a16 a17 a18 a19 a20 a21 a22 a23 a24 a25 a26 a27 : Value} : ln [a0, a1, a2, a3, a4, a5, a6, a7, a8, a9, a10, a11, a12, a13, a14, a15, a16, a17, a18, a19, a20, a21, a22, a23, a24, a25, a26, a27] = 28 := rfl
theorem ln29 {a0 a1 a2 a3 a4 a5 a6 a7 a8 a9 a10 a11 a12 a13 a14 a15 a16 a17 a18 a19 a20 a21 a22 a23 a24 a25 a26 a27 a28 : Value} : ln [a0, a1, a2, a3, a4, a5, a6, a7, a8, a9, a10, a11, a12, a13, a14, a15, a16, a17, a18, a19, a20, a21, a22, a23, a24, a25, a26, a27, a28] = 29 := rfl
theorem ln30 {a0 a1 a2 a3 a4 a5 a6 a7 a8 a9 a10 a11 a12 a13 a14 a15 a16 a17 a18 a19 a20 a21 a22 a23 a24 a25 a26 a27 a28 a29 : Value} : ln [a0, a1, a2, a3, a4, a5, a6, a7, a8, a9, a10, a11, a12, a13, a14, a15, a16, a17, a18, a19, a20, a21, a22, a23, a24, a25, a26, a27, a28, a29] = 30 := rfl
theorem ln31 {a0 a1 a2 a3 a4 a5 a6 a7 a8 a9 a10 a11 a12 a13 a14 a15 a16 a17 a18 a19 a20 a21 a22 a23 a24 a25 a26 a27 a28 a29 a30 : Value} : ln [a0, a1, a2, a3, a4, a5, a6, a7, a8, a9, a10, a11, a12, a13, a14, a15, a16, a17, a18, a19, a20, a21, a22, a23, a24, a25, a26, a27, a28, a29, a30] = 31 := rfl
theorem ln32 {a0 a1 a2 a3 a4 a5 a6 a7 a8 a9 a10 a11 a12 a13 a14 a15 a16 a17 a18 a19 a20 a21 a22 a23 a24 a25 a26 a27 a28 a29 a30 a31 : Value} : ln [a0, a1, a2, a3, a4, a5, a6, a7, a8, a9, a10, a11, a12, a13, a14, a15, a16, a17, a18, a19, a20, a21, a22, a23, a24, a25, a26, a27, a28, a29, a30, a31] = 32 := rfl
theorem ln33 {a0 a1 a2 a3 a4 a5 a6 a7 a8 a9 a10 a11 a12 a13 a14 a15 a16 a17 a18 a19 a20 a21 a22 a23 a24 a25 a26 a27 a28 a29 a30 a31 a32 : Value} : ln [a0, a1, a2, a3, a4, a5, a6, a7, a8, a9, a10, a11, a12, a13, a14, a15, a16, a17, a18, a19, a20, a21, a22, a23, a24, a25, a26, a27, a28, a29, a30, a31, a32] = 33 := rfl
theorem ln34 {a0 a1 a2 a3 a4 a5 a6 a7 a8 a9 a10 a11 a12 a13 a14 a15 a16 a17 a18 a19 a20 a21 a22 a23 a24 a25 a26 a27 a28 a29 a30 a31 a32 a33 : Value} : ln [a0, a1, a2, a3, a4, a5, a6, a7, a8, a9, a10, a11, a12, a13, a14, a15, a16, a17, a18, a19, a20, a21, a22, a23, a24, a25, a26, a27, a28, a29, a30, a31, a32, a33] = 34 := rfl
theorem ln35 {a0 a1 a2 a3 a4 a5 a6 a7 a8 a9 a10 a11 a12 a13 a14 a15 a16 a17 a18 a19 a20 a21 a22 a23 a24 a25 a26 a27 a28 a29 a30 a31 a32 a33 a34 : Value} : ln [a0, a1, a2, a3, a4, a5, a6, a7, a8, a9, a10, a11, a12, a13, a14, a15, a16, a17, a18, a19, a20, a21, a22, a23, a24, a25, a26, a27, a28, a29, a30, a31, a32, a33, a34] = 35 := rfl
theorem ln36 {a0 a1 a2 a3 a4 a5 a6 a7 a8 a9 a10 a11 a12 a13 a14 a15 a16 a17 a18 a19 a20 a21 a22 a23 a24 a25 a26 a27 a28 a29 a30 a31 a32 a33 a34 a35 : Value} : ln [a0, a1, a2, a3, a4, a5, a6, a7, a8, a9, a10, a11, a12, a13, a14, a15, a16, a17, a18, a19, a20, a21, a22, a23, a24, a25, a26, a27, a28, a29, a30, a31, a32, a33, a34, a35] = 36 := rfl
end Jvm.Own
namespace Jvm.Own
open Sem ClassFile Op Lib Jvm.Stand Jvm.Free Jvm.LawKit Jvm.RoadKit
/-! ## 7. Statics, casts, copies of arrays -/
def aSta (v : Value) : Act := fun S H cs ss => some (v :: S, H, cs, ss)
def aCast (x0 : Nat) (ty : FieldType) : Act := fun S H cs ss => match S with
  | .ref a :: r => (arr H a).bind fun q => if q.1 = ty ∧ x0 ≤ a then some (.ref a :: r, H, cs, ss) else none
  | _ => none
def aClone (x0 : Nat) (ty : FieldType) (W Rc Rs : Nat) : Act := fun S H cs ss => match S with
  | .ref a :: r => (arr H a).bind fun q => if q.1 = ty ∧ x0 ≤ a ∧ (r.map Value.category).sum ≤ W ∧ cs + 1 ≤ Rc ∧ ss + q.2.length ≤ Rs then some (.ref H.length :: r, H ++ [.inr q], cs + 1, ss + q.2.length) else none
  | _ => none
def aCopy (x0 : Nat) (ty : FieldType) (W : Nat) : Act := fun S H cs ss => match S with
  | .int nn :: .int dp :: .ref b :: .int sp :: .ref a :: r => (arr H a).bind fun qa => (arr H b).bind fun qb =>
      if qa.1 = ty ∧ qb.1 = ty ∧ x0 ≤ b ∧ (r.map Value.category).sum ≤ W ∧ ¬ sp < 0 ∧ ¬ dp < 0 ∧ ¬ nn < 0 ∧ sp.toNatClampNeg + nn.toNatClampNeg ≤ qa.2.length ∧ dp.toNatClampNeg + nn.toNatClampNeg ≤ qb.2.length then
        some (r, H.set b (.inr (ty, qb.2.take dp.toNatClampNeg ++ (qa.2.drop sp.toNatClampNeg).take nn.toNatClampNeg ++ qb.2.drop (dp.toNatClampNeg + nn.toNatClampNeg))), cs, ss) else none
  | _ => none
section Acts2
variable {p : Program} {l : Launch} {e : Env} {R : Room} {s : State} {m : MethodId} {args : Array Value} {below : List Frame} {meth : Method} {c : Code} {Z : State} {σ : Nat → Nat} {x0 n0 : Nat} {K : List CD} {a0 : Array Value} {h h' : Heap}
theorem okSta (hx : p.tables.exec = Jvm.exec) (hZ : Z.Warmed39 s.vm) {own R0 O n d : String} {idx : Nat} {v : Value} (hown : s.vm.findClass own = some m.cls) (w : (Jvm.Cond.fieldLink own idx R0 n d).before a0 Z = true) (via : Via Z R0 O n d) (F : Sta Z Z.heap O n d (cv σ v)) : Good p l e R s m args below meth c Z σ x0 n0 K (.getstatic idx) (aSta v) := by
  intro T locs cs ss pc L S H S' H' cs' ss' X hd hL hR hF hB h
  cases h
  obtain ⟨T', X', e', st⟩ := getS (host := "") X hx hZ hown w via rfl (F.ext hR.2.2.1.2) (g := mkF m pc (cL σ L) (S.map (cv σ))) rfl hd
  exact ⟨T', locs, X', e' ▸ hR, hF, hB, st⟩
theorem okCast (hx : p.tables.exec = Jvm.exec) (hZ : Z.Warmed39 s.vm) (hsg : Sg σ x0 n0) {own C ad : String} {idx : Nat} {ty : FieldType} (hown : s.vm.findClass own = some m.cls) (had : "[" ++ ty.toString = ad) (w : (Jvm.Cond.classLink own idx C).before a0 Z = true) (wc : (Jvm.Cond.castable ad C).before a0 Z = true) : Good p l e R s m args below meth c Z σ x0 n0 K (.checkcast idx) (aCast x0 ty) := by
  intro T locs cs ss pc L S H S' H' cs' ss' X hd hL hR hF hB h
  subst had
  unfold aCast at h
  split at h
  · rename_i a r
    replace h := Option.bind_eq_some_iff.mp h
    obtain ⟨⟨t, vs⟩, h1, h⟩ := h
    dsimp only at h
    split at h
    · rename_i hq
      obtain ⟨rfl, hx0⟩ := hq
      cases h
      obtain ⟨cell, A, hs, hl, hfi, hex⟩ := hR.2.2.2 _ _ (arr_some h1)
      obtain ⟨T', X', e', st⟩ := castY X hx hZ hown w rfl (Ins.of_exa (hex (hR.2.2.1.1.symm ▸ hsg.new hx0)) wc) (g := mkF m pc (cL σ L) (List.map (cv σ) (.ref a :: r))) rfl rfl hd
      exact ⟨T', locs, X', e' ▸ hR, hF, hB, st⟩
    · cases h
  · cases h
theorem okClone (hx : p.tables.exec = Jvm.exec) (hZ : Z.Warmed39 s.vm) (hsg : Sg σ x0 n0) {own ad : String} {idx W Rc Rs : Nat} {ty : FieldType} (hown : s.vm.findClass own = some m.cls) (had : "[" ++ ty.toString = ad)
    (w1 : (Jvm.Cond.methodLink own idx ⟨ad, "clone", "()Ljava/lang/Object;"⟩).before a0 Z = true) (w2 : (Jvm.Cond.sameMethod ad "java/lang/Object" "clone" "()Ljava/lang/Object;").before a0 Z = true) (w3 : (Jvm.Cond.native ⟨"java/lang/Object", "clone", "()Ljava/lang/Object;"⟩).before a0 Z = true)
    (w4 : (Jvm.Cond.instanceMethod ⟨"java/lang/Object", "clone", "()Ljava/lang/Object;"⟩).before a0 Z = true) (w5 : (Jvm.Cond.selects ad ⟨ad, "clone", "()Ljava/lang/Object;"⟩ ⟨"java/lang/Object", "clone", "()Ljava/lang/Object;"⟩).before a0 Z = true) (w6 : (Jvm.Cond.castable ad "java/lang/Cloneable").before a0 Z = true)
    (hf : 1 ≤ R.frames) (hlo : W + 14 ≤ R.locals) (hRc : Rc ≤ R.cells) (hRs : Rs ≤ R.slots) : Good p l e R s m args below meth c Z σ x0 n0 K (.invokevirtual idx) (aClone x0 ty W Rc Rs) := by
  intro T locs cs ss pc L S H S' H' cs' ss' X hd hL hR hF hB h
  subst had
  unfold aClone at h
  split at h
  · rename_i a r
    replace h := Option.bind_eq_some_iff.mp h
    obtain ⟨⟨t, vs⟩, h1, h⟩ := h
    dsimp only at h
    split at h
    · rename_i hq
      obtain ⟨rfl, hx0, hW, hc1, hs1⟩ := hq
      cases h
      obtain ⟨cell, A, hs, hl, hfi, hex⟩ := hR.2.2.2 _ _ (arr_some h1)
      obtain ⟨c2, k, e1, e2, e3, -, e5⟩ := hex (hR.2.2.1.1.symm ▸ hsg.new hx0)
      cases A.1.symm.trans e1
      obtain ⟨c1, cC, g1, g2, g3⟩ := Cond.castable_spec w6
      cases e2.symm.trans g1
      have hal : Z.vm.Alike T.vm := hZ.alike.trans X.warmed.alike
      have FC : FitC Z cell := fitC_of A fun i hi v hv => by
        rw [hs] at hv
        simp only [List.getElem?_toArray, List.getElem?_map, Option.map_eq_some_iff] at hv
        obtain ⟨w, hw, rfl⟩ := hv
        rw [cv_fits]; exact hfi w (List.mem_of_getElem? hw)
      have ea : σ H.length = T.heap.size := hR.addr hsg
      have hsz : cell.slots.size = vs.length := by rw [hs]; simp
      obtain ⟨vm', X', st⟩ := X.cloneArray hx hown (mv hZ w1) (mv hZ w2) (mv hZ w3) (mv hZ w4) (mv hZ w5) (a := σ a) A.1 A.2.1.1 A.2.2 (by rw [hZ.alike.findClass]; exact e2) (by rw [hZ.alike.findClass]; exact g2) (by rw [hZ.alike.assignable]; exact g3)
        (fun i v hv => by have q := FC i v hv; rw [← State.fitsSlot_setVm hal] at q; exact q) (g := mkF m pc (cL σ L) (List.map (cv σ) (.ref a :: r))) rfl (size_cL.trans hL) rfl hd hf (by show 2 * 0 + _ + _ ≤ _; rw [cat_sum]; omega) (Nat.le_trans hc1 hRc) (by rw [hsz]; exact Nat.le_trans hs1 hRs)
        (by obtain ⟨-, k2, hk2, comp, hkind⟩ := A.2.1; rw [hZ.alike.clonesLoader]; exact Vm.clonesLoader_of_array hk2 hkind)
      rw [hsz] at X'
      refine ⟨_, locs, X', hR.push (ext_push _ _) (by show (T.heap.push _).size = _; simp) ?_, hF, ⟨Nat.le_trans hc1 hRc, Nat.le_trans hs1 hRs⟩, ?_⟩
      · rw [ea]
        have hN : (T.heap.push { cls := cell.cls, slots := cell.slots })[T.heap.size]? = some { cls := cell.cls, slots := cell.slots } := by simp
        exact ⟨_, ⟨hN, ⟨fun _ z => (by cases z), A.2.1.2⟩, fun z => (by cases z)⟩, hs, hl, hfi, fun _ => ⟨_, k, hN, e2, e3, rfl, e5⟩⟩
      · intro t q
        refine st t ?_
        have q' := q
        simp only [List.map_cons, cv, ea] at q'
        exact q'
    · cases h
  · cases h
theorem RepO.keep {a b : Addr} {o : Ob} (W : Keep h h' [b]) (R : RepO Z σ K h a o) (ne : a ≠ b) : RepO Z σ K h' a o := by
  have nm : a ∉ [b] := ninS ne nin0
  rcases o with ⟨c, vs⟩ | ⟨ty, vs⟩
  · obtain ⟨C, fs, h1, h2, h3⟩ := R
    exact ⟨C, fs, h1, h2.keep W, fun j v q => by obtain ⟨O, n, d, q1, q2⟩ := h3 j v q; exact ⟨O, n, d, q1, q2.keep W nm⟩⟩
  · obtain ⟨cell, h1, h2, h3, h4, h5⟩ := R
    exact ⟨cell, ⟨W.2.1 a cell h1.1 nm, h1.2⟩, h2, h3, h4, fun q => (h5 q).keep W⟩
theorem Rep.writeK {H : AH} (S : Sg σ x0 n0) (R : Rep Z σ x0 n0 K h H) {k : Nat} {o : Ob} (hk : x0 ≤ k) (W : Keep h h' [σ k]) (hsz : h'.size = h.size) (ho : RepO Z σ K h' (σ k) o) : Rep Z σ x0 n0 K h' (H.set k o) := by
  obtain ⟨r1, r2, r3, r4⟩ := R
  refine ⟨by rw [hsz]; simpa using r1, by simpa using r2, r3.keep W (allS (S.new hk) all0), fun j o' q => ?_⟩
  by_cases e : k = j
  · subst e
    by_cases hl : k < H.length
    · rw [List.getElem?_set_self hl] at q; cases q; exact ho
    · rw [List.getElem?_eq_none (by simp; omega)] at q; cases q
  · rw [List.getElem?_set_ne e] at q
    exact (r4 j o' q).keep W fun u => e (S.inj u).symm
theorem stretch_eq {cell : Cell} {vs : List Value} (hs : cell.slots = (vs.map (cv σ)).toArray) {i n : Nat} (hl : i + n ≤ vs.length) : cell.stretch i n = ((vs.drop i).take n).map (cv σ) := by
  apply List.ext_getElem?
  intro j
  simp only [Cell.stretch, List.getElem?_map, List.getElem?_range', List.getElem?_take, List.getElem?_drop]
  by_cases q : j < n
  · have : i + j < vs.length := by omega
    simp [q, hs, this, Array.getD_eq_getD_getElem?]
  · simp [q]
theorem okCopy (hx : p.tables.exec = Jvm.exec) (hZ : Z.Warmed39 s.vm) (hsg : Sg σ x0 n0) {own : String} {idx W : Nat} {ty : FieldType} (hown : s.vm.findClass own = some m.cls) (hty : refKind ty = false)
    (w1 : (Jvm.Cond.methodLink own idx Jvm.Stand.acN).before a0 Z = true) (w2 : (Jvm.Cond.native Jvm.Stand.acN).before a0 Z = true) (w3 : (Jvm.Cond.static Jvm.Stand.acN).before a0 Z = true) (w4 : (Jvm.Cond.initialized "java/lang/System").before a0 Z = true)
    (hf : 1 ≤ R.frames) (hlo : W + (nativeFrameWords "java/lang/System" "arraycopy" 5 + 11) ≤ R.locals) : Good p l e R s m args below meth c Z σ x0 n0 K (.invokestatic idx) (aCopy x0 ty W) := by
  intro T locs cs ss pc L S H S' H' cs' ss' X hd hL hR hF hB h
  unfold aCopy at h
  split at h
  · rename_i nn dp b sp a r
    replace h := Option.bind_eq_some_iff.mp h
    obtain ⟨⟨ta, vs⟩, ha, h⟩ := h
    replace h := Option.bind_eq_some_iff.mp h
    obtain ⟨⟨tb, vd⟩, hb, h⟩ := h
    dsimp only at h
    split at h
    · rename_i hq
      obtain ⟨rfl, rfl, hx0, hW, h1, h2, h3, h4, h5⟩ := hq
      cases h
      obtain ⟨ca, A, hsa, hla, hfa, hea⟩ := hR.2.2.2 _ _ (arr_some ha)
      obtain ⟨cb, B, hsb, hlb, hfb, heb⟩ := hR.2.2.2 _ _ (arr_some hb)
      obtain ⟨oa, ka, hka, sa, hska⟩ := State.isArrayOf_alike hZ.alike A.2.1
      obtain ⟨ob, kb, hkb, sb, hskb⟩ := State.isArrayOf_alike hZ.alike B.2.1
      have nat : ∀ {x : Int32}, ¬ x < 0 → x.toInt = x.toNatClampNeg := fun {x} q => nat_of q
      have za : ca.slots.size = vs.length := by rw [hsa]; simp
      have zb : cb.slots.size = vd.length := by rw [hsb]; simp
      have gv : ∀ i, i < nn.toNatClampNeg → ∃ v ∈ vs, ca.slots.getD (sp.toNatClampNeg + i) .null = cv σ v := fun i hi => by
        have q : sp.toNatClampNeg + i < vs.length := by omega
        exact ⟨vs[sp.toNatClampNeg + i], List.getElem_mem q, by rw [hsa]; simp [Array.getD_eq_getD_getElem?, q]⟩
      obtain ⟨vm₁, hW₁, X', st⟩ := X.arraycopyK hx hown (mvT hZ w1) (mvT hZ w2) (mvT hZ w3) (mvT hZ w4) (src := σ a) (dst := σ b) A.1 B.1 oa ob A.2.2 B.2.2 hka hkb hska hskb (by simp [hty]) h1 h2 h3 (by rw [nat h1, nat h3, za]; omega) (by rw [nat h2, nat h3, zb]; omega)
        (fun vm₁ hw i hi => by
          obtain ⟨v, hv, hg⟩ := gv i hi
          rw [hg, cv_fits]
          refine ⟨hfa v hv, ?_⟩
          have q := hfa v hv
          cases v <;> first | trivial | exact (prim_no_ref hty q).elim) (g := mkF m pc (cL σ L) (List.map (cv σ) (.int nn :: .int dp :: .ref b :: .int sp :: .ref a :: S'))) rfl (size_cL.trans hL) rfl hd hf (by show 2 * 0 + _ + _ ≤ _; rw [cat_sum]; omega)
      have cf := cb.storeRun_facts dp.toNatClampNeg (ca.stretch sp.toNatClampNeg nn.toNatClampNeg)
      have hlt : σ b < T.heap.size := B.lt
      have hKp : Keep T.heap (T.heap.setIfInBounds (σ b) (copied ca cb sp dp nn)) [σ b] := by
        refine ⟨by simp, fun x c q r => ?_, fun x c q => ?_⟩
        · rw [Array.getElem?_setIfInBounds_ne (fun z => r (by simp [z]))]; exact q
        · by_cases z : σ b = x
          · subst z; cases B.1.symm.trans q
            exact ⟨_, by rw [Array.getElem?_setIfInBounds_self_of_lt hlt], cf.1, cf.2.1, cf.2.2.1⟩
          · exact ⟨c, by rw [Array.getElem?_setIfInBounds_ne z]; exact q, rfl, rfl, rfl⟩
      refine ⟨_, _, X', hR.writeK hsg hx0 hKp (by show (T.heap.setIfInBounds _ _).size = _; simp) ?_, hF.app fun y hy => ?_, hB, st⟩
      · have hN : (T.heap.setIfInBounds (σ b) (copied ca cb sp dp nn))[σ b]? = some (copied ca cb sp dp nn) := by rw [Array.getElem?_setIfInBounds_self_of_lt hlt]
        refine ⟨copied ca cb sp dp nn, ⟨hN, ⟨fun k z => B.2.1.1 k (cf.2.1 ▸ z), ?_⟩, fun z => B.2.2 (cf.2.1 ▸ z)⟩, ?_, ?_, ?_, fun q => (heb q).keep hKp⟩
        · obtain ⟨kk, z1, z2⟩ := B.2.1.2
          exact ⟨kk, by rw [show (copied ca cb sp dp nn).cls = cb.cls from cf.1]; exact z1, z2⟩
        · apply Array.ext_getElem?
          intro j
          show (cb.storeRun _ (ca.stretch _ _)).slots[j]? = _
          have hst := stretch_eq (σ := σ) hsa h4
          have hln : (ca.stretch sp.toNatClampNeg nn.toNatClampNeg).length = nn.toNatClampNeg := by simp [Cell.stretch]
          rw [Cell.storeRun_get _ _ _ _ (by rw [hln, zb]; exact h5), hln, hst, hsb]
          have l1 : (vd.take dp.toNatClampNeg).length = dp.toNatClampNeg := by rw [List.length_take]; omega
          have l2 : ((vs.drop sp.toNatClampNeg).take nn.toNatClampNeg).length = nn.toNatClampNeg := by rw [List.length_take, List.length_drop]; omega
          simp only [List.getElem?_toArray, List.map_append, List.append_assoc]
          by_cases c1 : j < dp.toNatClampNeg
          · rw [if_neg (by omega), List.getElem?_append_left (by rw [List.length_map]; omega)]
            simp [List.getElem?_take, c1]
          · rw [List.getElem?_append_right (by rw [List.length_map]; omega), List.length_map, l1]
            by_cases c2 : j < dp.toNatClampNeg + nn.toNatClampNeg
            · rw [if_pos ⟨by omega, c2⟩, List.getElem?_append_left (by rw [List.length_map, l2]; omega)]
            · rw [if_neg (by omega), List.getElem?_append_right (by rw [List.length_map, l2]; omega), List.length_map, l2]
              simp only [List.getElem?_map, List.getElem?_drop]
              congr 2; omega
        · simp only [List.length_append, List.length_take, List.length_drop]; omega
        · intro v hv
          simp only [List.mem_append] at hv
          rcases hv with (q | q) | q
          · exact hfb v (List.mem_of_mem_take q)
          · exact hfa v (List.mem_of_mem_drop (List.mem_of_mem_take q))
          · exact hfb v (List.mem_of_mem_drop q)
      · simp only [copyLocs, List.mem_map] at hy
        obtain ⟨i, -, rfl⟩ := hy
        exact hsg.new hx0
    · cases h
  · cases h
end Acts2
end Jvm.Own
namespace Jvm.Own
open Sem ClassFile Op Lib Jvm.RoadKit
/-! ## 8. Objects that stand before the call (statics) -/
def sgx (xs : List Nat) (n0 : Nat) (k : Nat) : Nat := match xs[k]? with | some a => a | none => n0 + k - xs.length
theorem sgx_in {xs : List Nat} {n0 k a : Nat} (h : xs[k]? = some a) : sgx xs n0 k = a := by
  unfold sgx; rw [h]
theorem sgx_ok {xs : List Nat} {n0 : Nat} (h : ∀ a ∈ xs, a < n0) (hd : xs.Nodup) : Sg (sgx xs n0) xs.length n0 := by
  refine ⟨fun k hk => ?_, fun i hi => ?_, fun i j hi hj e => ?_⟩
  · unfold sgx
    rw [List.getElem?_eq_none hk]
    show n0 + k - xs.length + xs.length = n0 + k
    omega
  · rw [sgx_in (List.getElem?_eq_getElem hi)]
    exact h _ (List.getElem_mem hi)
  · rw [sgx_in (List.getElem?_eq_getElem hi), sgx_in (List.getElem?_eq_getElem hj)] at e
    rcases Nat.lt_trichotomy i j with q | q | q
    · exact absurd e (List.pairwise_iff_getElem.mp hd i j hi hj q)
    · exact q
    · exact absurd e.symm (List.pairwise_iff_getElem.mp hd j i hj hi q)
theorem rep_x {s : State} {xs : List Nat} {K : List CD} {H0 : AH} (hl : H0.length = xs.length) (hr : ∀ k o, H0[k]? = some o → RepO s (sgx xs s.heap.size) K s.heap (sgx xs s.heap.size k) o) : Rep s (sgx xs s.heap.size) xs.length s.heap.size K s.heap H0 :=
  ⟨by rw [hl], by omega, Old.start s, hr⟩
theorem fld_congr {args : Array Value} {first : State} {o : Option Outcome} {idx : List Nat} {s : State} {t t' : Term} {C n d : String} (h : t.eval args first o idx s = t'.eval args first o idx s) : (Term.field t C n d).eval args first o idx s = (Term.field t' C n d).eval args first o idx s := by
  simp only [Term.eval, h]
theorem exa_lt {Z : State} {a : Addr} {C : String} (h : Exa Z Z.heap a C) : a < Z.heap.size := by
  obtain ⟨cell, k, h1, h2⟩ := h
  exact (Array.getElem?_eq_some_iff.mp h1).1
section Conds
variable {args : Array Value} {first s : State} {o : Option Outcome} {idx : List Nat} {t a b : Term} {c d : Cond}
theorem len_el {x : Addr} {cl : Cell} {z : Int32} (h : (Term.length t).eval args first o idx s = some (.int z)) (ht : t.eval args first o idx s = some (.ref x)) (hc : s.arrayAt? x = some cl) : cl.slots.size < 2 ^ 31 ∧ cl.slots.size.toInt32 = z := by
  by_cases q : cl.slots.size < 2 ^ 31
  · have e := len_f ht hc q
    cases e.symm.trans h
    exact ⟨q, rfl⟩
  · simp [Term.eval, ht, hc, q] at h
theorem or_f (hc : c.value args first o s idx = some false) (h : (Cond.or c d).value args first o s idx = some true) : d.value args first o s idx = some true := by
  simpa [Cond.value, hc] using h
theorem lt_no {x y : Int32} (ha : a.eval args first o idx s = some (.int x)) (hb : b.eval args first o idx s = some (.int y)) (h : ¬ x < y) : (Cond.lt a b).value args first o s idx = some false := by
  simp [Cond.value, ha, hb, h]
theorem le_no {x y : Int32} (ha : a.eval args first o idx s = some (.int x)) (hb : b.eval args first o idx s = some (.int y)) (h : y < x) : (Cond.le a b).value args first o s idx = some false := by
  have h' : ¬ x ≤ y := Int32.not_le.mpr h
  simp [Cond.value, ha, hb, h']
theorem seg_in {Z : State} {x : Addr} {cl : Cell} {lo hi v j : Int32} (et : ∀ idx, t.eval args Z none idx Z = some (.ref x)) (hc : Z.arrayAt? x = some cl) (h : (Cond.all t (.or (.lt (.index 0) (.int lo)) (.or (.le (.int hi) (.index 0)) (.eq (.elem t (.index 0)) (.int v))))).value args Z none Z [] = some true)
    (hj : ¬ j < 0) (hs : j.toNatClampNeg < cl.slots.size) (h1 : ¬ j < lo) (h2 : j < hi) : cl.slots[j.toNatClampNeg]? = some (.int v) := by
  have u := Cond.all_elim (et []) hc h j.toNatClampNeg hs
  have u1 := or_f (lt_no (idx_at hj) (Term.int_eval lo) h1) u
  have u2 := or_f (le_no (Term.int_eval hi) (idx_at hj) h2) u1
  exact (elem_f (et _) (idx_at hj) hc hj).symm.trans (eqv_i (Term.int_eval v) u2)
theorem seg_lo {Z : State} {x : Addr} {cl : Cell} {hi v j : Int32} (et : ∀ idx, t.eval args Z none idx Z = some (.ref x)) (hc : Z.arrayAt? x = some cl) (h : (Cond.all t (.or (.le (.int hi) (.index 0)) (.eq (.elem t (.index 0)) (.int v)))).value args Z none Z [] = some true)
    (hj : ¬ j < 0) (hs : j.toNatClampNeg < cl.slots.size) (h2 : j < hi) : cl.slots[j.toNatClampNeg]? = some (.int v) := by
  have u := Cond.all_elim (et []) hc h j.toNatClampNeg hs
  have u2 := or_f (le_no (Term.int_eval hi) (idx_at hj) h2) u
  exact (elem_f (et _) (idx_at hj) hc hj).symm.trans (eqv_i (Term.int_eval v) u2)
theorem seg_hi {Z : State} {x : Addr} {cl : Cell} {lo v j : Int32} (et : ∀ idx, t.eval args Z none idx Z = some (.ref x)) (hc : Z.arrayAt? x = some cl) (h : (Cond.all t (.or (.lt (.index 0) (.int lo)) (.eq (.elem t (.index 0)) (.int v)))).value args Z none Z [] = some true)
    (hj : ¬ j < 0) (hs : j.toNatClampNeg < cl.slots.size) (h1 : ¬ j < lo) : cl.slots[j.toNatClampNeg]? = some (.int v) := by
  have u := Cond.all_elim (et []) hc h j.toNatClampNeg hs
  have u2 := or_f (lt_no (idx_at hj) (Term.int_eval lo) h1) u
  exact (elem_f (et _) (idx_at hj) hc hj).symm.trans (eqv_i (Term.int_eval v) u2)
theorem elem_1 {Z : State} {x : Addr} {cl : Cell} {v j : Int32} (et : ∀ idx, t.eval args Z none idx Z = some (.ref x)) (hc : Z.arrayAt? x = some cl) (h : (Cond.eq (.elem t (.int j)) (.int v)).value args Z none Z [] = some true) (hj : ¬ j < 0) : cl.slots[j.toNatClampNeg]? = some (.int v) :=
  (elem_f (et _) (Term.int_eval j) hc hj).symm.trans (eqv_i (Term.int_eval v) h)
theorem arr_lt {Z : State} {x : Addr} {cl : Cell} {ty : FieldType} (h : Arr Z Z.heap x cl ty) : x < Z.heap.size := (Array.getElem?_eq_some_iff.mp h.1).1
theorem repo_arr {Z : State} {σ : Nat → Nat} {K : List CD} {x : Addr} {cl : Cell} {ty : FieldType} (A : Arr Z Z.heap x cl ty) (q : cl.slots.size < 2 ^ 31) (hv : ∀ k, k < cl.slots.size → ∃ v : Int32, cl.slots[k]? = some (.int v) ∧ fits ty (.int v) = true) : RepO Z σ K Z.heap x (.inr (ty, cl.slots.toList)) := by
  have hm : ∀ v ∈ cl.slots.toList, ∃ y : Int32, v = .int y ∧ fits ty (.int y) = true := by
    intro v hm
    obtain ⟨k, hk⟩ := List.getElem?_of_mem hm
    rw [Array.getElem?_toList] at hk
    obtain ⟨y, h1, h2⟩ := hv k (Array.getElem?_eq_some_iff.mp hk).1
    cases hk.symm.trans h1
    exact ⟨y, rfl, h2⟩
  refine ⟨cl, A, ?_, by simpa using q, fun v h => ?_, fun h => absurd (arr_lt A) (Nat.not_lt.mpr h)⟩
  · have e : cl.slots.toList.map (cv σ) = cl.slots.toList := by
      rw [List.map_congr_left (g := id) (fun v h => by obtain ⟨y, rfl, -⟩ := hm v h; rfl), List.map_id]
    rw [e]
  · obtain ⟨y, rfl, h2⟩ := hm v h
    exact h2
end Conds
end Jvm.Own
namespace Jvm.Pilot.@@N@@
open Jvm Jvm.ClassFile Sem Op Lib Jvm.Free Jvm.Stand Jvm.LawKit Jvm.RoadKit Bundle Jvm.Own Jvm.Pilot.@@N@@.Jvm.D
theorem k0_0 : dec code 0 = some (.iconst 3) := by decide +kernel
theorem k0_1 : dec code 1 = some (.newarray .int) := by decide +kernel
theorem k0_3 : dec code 3 = some (.dup) := by decide +kernel
theorem k0_4 : dec code 4 = some (.iconst 0) := by decide +kernel
theorem k0_5 : dec code 5 = some (.iload_n 0) := by decide +kernel
theorem k0_6 : dec code 6 = some (.iastore) := by decide +kernel
theorem k0_7 : dec code 7 = some (.dup) := by decide +kernel
theorem k0_8 : dec code 8 = some (.iconst 1) := by decide +kernel
theorem k0_9 : dec code 9 = some (.iload_n 1) := by decide +kernel
theorem k0_10 : dec code 10 = some (.iastore) := by decide +kernel
theorem k0_11 : dec code 11 = some (.dup) := by decide +kernel
theorem k0_12 : dec code 12 = some (.iconst 2) := by decide +kernel
theorem k0_13 : dec code 13 = some (.iload_n 2) := by decide +kernel
theorem k0_14 : dec code 14 = some (.iastore) := by decide +kernel
theorem k0_15 : dec code 15 = some (.astore 4) := by decide +kernel
theorem k0_17 : dec code 17 = some (.iload_n 3) := by decide +kernel
theorem k0_18 : dec code 18 = some (.iconst 1) := by decide +kernel
theorem k0_19 : dec code 19 = some (.iand) := by decide +kernel
theorem k0_20 : dec code 20 = some (.istore 5) := by decide +kernel
theorem k0_22 : dec code 22 = some (.iload_n 3) := by decide +kernel
theorem k0_23 : dec code 23 = some (.iconst 1) := by decide +kernel
theorem k0_24 : dec code 24 = some (.iushr) := by decide +kernel
theorem k0_25 : dec code 25 = some (.iconst 3) := by decide +kernel
theorem k0_26 : dec code 26 = some (.irem) := by decide +kernel
theorem k0_27 : dec code 27 = some (.istore 6) := by decide +kernel
theorem k0_29 : dec code 29 = some (.iload 5) := by decide +kernel
theorem k0_31 : dec code 31 = some (.iload 6) := by decide +kernel
theorem k0_33 : dec code 33 = some (.iadd) := by decide +kernel
theorem k0_34 : dec code 34 = some (.istore 7) := by decide +kernel
theorem k0_36 : dec code 36 = some (.iload_n 3) := by decide +kernel
theorem k0_37 : dec code 37 = some (.iconst 3) := by decide +kernel
theorem k0_38 : dec code 38 = some (.iushr) := by decide +kernel
theorem k0_39 : dec code 39 = some (.iconst 3) := by decide +kernel
theorem k0_40 : dec code 40 = some (.iand) := by decide +kernel
theorem k0_41 : dec code 41 = some (.istore 8) := by decide +kernel
theorem k0_43 : dec code 43 = some (.bipush 32) := by decide +kernel
theorem k0_45 : dec code 45 = some (.newarray .byte) := by decide +kernel
theorem k0_47 : dec code 47 = some (.astore 9) := by decide +kernel
theorem k0_49 : dec code 49 = some (.aload 4) := by decide +kernel
theorem k0_51 : dec code 51 = some (.iload 5) := by decide +kernel
theorem k0_53 : dec code 53 = some (.iload 7) := by decide +kernel
theorem k0_55 : dec code 55 = some (.aload 9) := by decide +kernel
theorem k0_57 : dec code 57 = some (.iload 8) := by decide +kernel
theorem k0_59 : dec code 59 = some (.invokestatic 7) := by decide +kernel
theorem k0_62 : dec code 62 = some (.istore 10) := by decide +kernel
theorem k0_64 : dec code 64 = some (.iconst 1) := by decide +kernel
theorem k0_65 : dec code 65 = some (.istore 11) := by decide +kernel
theorem k0_67 : dec code 67 = some (.iload 8) := by decide +kernel
theorem k0_69 : dec code 69 = some (.istore 12) := by decide +kernel
theorem k0_71 : dec code 71 = some (.iload 6) := by decide +kernel
theorem k0_73 : dec code 73 = some (.iconst 1) := by decide +kernel
theorem k0_74 : dec code 74 = some (.if_icmp .lt 44) := by decide +kernel
theorem k0_77 : dec code 77 = some (.aload 4) := by decide +kernel
theorem k0_79 : dec code 79 = some (.iload 5) := by decide +kernel
theorem k0_81 : dec code 81 = some (.iaload) := by decide +kernel
theorem k0_82 : dec code 82 = some (.istore 13) := by decide +kernel
theorem k0_84 : dec code 84 = some (.iload 11) := by decide +kernel
theorem k0_86 : dec code 86 = some (.ifCond .eq 19) := by decide +kernel
theorem k0_89 : dec code 89 = some (.aload 9) := by decide +kernel
theorem k0_91 : dec code 91 = some (.iload 12) := by decide +kernel
theorem k0_93 : dec code 93 = some (.iload 13) := by decide +kernel
theorem k0_95 : dec code 95 = some (.invokestatic 13) := by decide +kernel
theorem k0_98 : dec code 98 = some (.ifCond .eq 7) := by decide +kernel
theorem k0_101 : dec code 101 = some (.iconst 1) := by decide +kernel
theorem k0_102 : dec code 102 = some (.goto 4) := by decide +kernel
theorem k0_105 : dec code 105 = some (.iconst 0) := by decide +kernel
theorem k0_106 : dec code 106 = some (.istore 11) := by decide +kernel
theorem k0_108 : dec code 108 = some (.iload 12) := by decide +kernel
theorem k0_110 : dec code 110 = some (.iload 13) := by decide +kernel
theorem k0_112 : dec code 112 = some (.invokestatic 19) := by decide +kernel
theorem k0_115 : dec code 115 = some (.iadd) := by decide +kernel
theorem k0_116 : dec code 116 = some (.istore 12) := by decide +kernel
theorem k0_118 : dec code 118 = some (.iload 6) := by decide +kernel
theorem k0_120 : dec code 120 = some (.iconst 2) := by decide +kernel
theorem k0_121 : dec code 121 = some (.if_icmp .lt 71) := by decide +kernel
theorem k0_124 : dec code 124 = some (.iload 11) := by decide +kernel
theorem k0_126 : dec code 126 = some (.ifCond .eq 17) := by decide +kernel
theorem k0_129 : dec code 129 = some (.aload 9) := by decide +kernel
theorem k0_131 : dec code 131 = some (.iload 12) := by decide +kernel
theorem k0_133 : dec code 133 = some (.baload) := by decide +kernel
theorem k0_134 : dec code 134 = some (.bipush 46) := by decide +kernel
theorem k0_136 : dec code 136 = some (.if_icmp .ne 7) := by decide +kernel
theorem k0_139 : dec code 139 = some (.iconst 1) := by decide +kernel
theorem k0_140 : dec code 140 = some (.goto 4) := by decide +kernel
theorem k0_143 : dec code 143 = some (.iconst 0) := by decide +kernel
theorem k0_144 : dec code 144 = some (.istore 11) := by decide +kernel
theorem k0_146 : dec code 146 = some (.iinc 12 1) := by decide +kernel
theorem k0_149 : dec code 149 = some (.aload 4) := by decide +kernel
theorem k0_151 : dec code 151 = some (.iload 5) := by decide +kernel
theorem k0_153 : dec code 153 = some (.iconst 1) := by decide +kernel
theorem k0_154 : dec code 154 = some (.iadd) := by decide +kernel
theorem k0_155 : dec code 155 = some (.iaload) := by decide +kernel
theorem k0_156 : dec code 156 = some (.istore 13) := by decide +kernel
theorem k0_158 : dec code 158 = some (.iload 11) := by decide +kernel
theorem k0_160 : dec code 160 = some (.ifCond .eq 19) := by decide +kernel
theorem k0_163 : dec code 163 = some (.aload 9) := by decide +kernel
theorem k0_165 : dec code 165 = some (.iload 12) := by decide +kernel
theorem k0_167 : dec code 167 = some (.iload 13) := by decide +kernel
theorem k0_169 : dec code 169 = some (.invokestatic 13) := by decide +kernel
theorem k0_172 : dec code 172 = some (.ifCond .eq 7) := by decide +kernel
theorem k0_175 : dec code 175 = some (.iconst 1) := by decide +kernel
theorem k0_176 : dec code 176 = some (.goto 4) := by decide +kernel
theorem k0_179 : dec code 179 = some (.iconst 0) := by decide +kernel
theorem k0_180 : dec code 180 = some (.istore 11) := by decide +kernel
theorem k0_182 : dec code 182 = some (.iload 12) := by decide +kernel
theorem k0_184 : dec code 184 = some (.iload 13) := by decide +kernel
theorem k0_186 : dec code 186 = some (.invokestatic 19) := by decide +kernel
theorem k0_189 : dec code 189 = some (.iadd) := by decide +kernel
theorem k0_190 : dec code 190 = some (.istore 12) := by decide +kernel
theorem k0_192 : dec code 192 = some (.iload 11) := by decide +kernel
theorem k0_194 : dec code 194 = some (.ifCond .eq 14) := by decide +kernel
theorem k0_197 : dec code 197 = some (.iload 10) := by decide +kernel
theorem k0_199 : dec code 199 = some (.iload 12) := by decide +kernel
theorem k0_201 : dec code 201 = some (.if_icmp .ne 7) := by decide +kernel
theorem k0_204 : dec code 204 = some (.iconst 1) := by decide +kernel
theorem k0_205 : dec code 205 = some (.goto 4) := by decide +kernel
theorem k0_208 : dec code 208 = some (.iconst 0) := by decide +kernel
theorem k0_209 : dec code 209 = some (.istore 11) := by decide +kernel
theorem k0_211 : dec code 211 = some (.iload 8) := by decide +kernel
theorem k0_213 : dec code 213 = some (.ifCond .le 25) := by decide +kernel
theorem k0_216 : dec code 216 = some (.iload 11) := by decide +kernel
theorem k0_218 : dec code 218 = some (.ifCond .eq 17) := by decide +kernel
theorem k0_221 : dec code 221 = some (.aload 9) := by decide +kernel
theorem k0_223 : dec code 223 = some (.iload 8) := by decide +kernel
theorem k0_225 : dec code 225 = some (.iconst 1) := by decide +kernel
theorem k0_226 : dec code 226 = some (.isub) := by decide +kernel
theorem k0_227 : dec code 227 = some (.baload) := by decide +kernel
theorem k0_228 : dec code 228 = some (.ifCond .ne 7) := by decide +kernel
theorem k0_231 : dec code 231 = some (.iconst 1) := by decide +kernel
theorem k0_232 : dec code 232 = some (.goto 4) := by decide +kernel
theorem k0_235 : dec code 235 = some (.iconst 0) := by decide +kernel
theorem k0_236 : dec code 236 = some (.istore 11) := by decide +kernel
theorem k0_238 : dec code 238 = some (.iload 11) := by decide +kernel
theorem k0_240 : dec code 240 = some (.ifCond .eq 15) := by decide +kernel
theorem k0_243 : dec code 243 = some (.aload 9) := by decide +kernel
theorem k0_245 : dec code 245 = some (.iload 12) := by decide +kernel
theorem k0_247 : dec code 247 = some (.baload) := by decide +kernel
theorem k0_248 : dec code 248 = some (.ifCond .ne 7) := by decide +kernel
theorem k0_251 : dec code 251 = some (.iconst 1) := by decide +kernel
theorem k0_252 : dec code 252 = some (.goto 4) := by decide +kernel
theorem k0_255 : dec code 255 = some (.iconst 0) := by decide +kernel
theorem k0_256 : dec code 256 = some (.istore 11) := by decide +kernel
theorem k0_258 : dec code 258 = some (.iload 11) := by decide +kernel
theorem k0_260 : dec code 260 = some (.ireturn) := by decide +kernel
theorem k1_0 : dec prog_96_method_10_code 0 = some (.iload 4) := by decide +kernel
theorem k1_2 : dec prog_96_method_10_code 2 = some (.istore 5) := by decide +kernel
theorem k1_4 : dec prog_96_method_10_code 4 = some (.iload_n 1) := by decide +kernel
theorem k1_5 : dec prog_96_method_10_code 5 = some (.istore 6) := by decide +kernel
theorem k1_7 : dec prog_96_method_10_code 7 = some (.iload 6) := by decide +kernel
theorem k1_9 : dec prog_96_method_10_code 9 = some (.iload_n 2) := by decide +kernel
theorem k1_10 : dec prog_96_method_10_code 10 = some (.if_icmp .ge 140) := by decide +kernel
theorem k1_13 : dec prog_96_method_10_code 13 = some (.iload 6) := by decide +kernel
theorem k1_15 : dec prog_96_method_10_code 15 = some (.iload_n 1) := by decide +kernel
theorem k1_16 : dec prog_96_method_10_code 16 = some (.if_icmp .le 12) := by decide +kernel
theorem k1_19 : dec prog_96_method_10_code 19 = some (.aload_n 3) := by decide +kernel
theorem k1_20 : dec prog_96_method_10_code 20 = some (.iload 5) := by decide +kernel
theorem k1_22 : dec prog_96_method_10_code 22 = some (.iinc 5 1) := by decide +kernel
theorem k1_25 : dec prog_96_method_10_code 25 = some (.bipush 46) := by decide +kernel
theorem k1_27 : dec prog_96_method_10_code 27 = some (.bastore) := by decide +kernel
theorem k1_28 : dec prog_96_method_10_code 28 = some (.aload_n 0) := by decide +kernel
theorem k1_29 : dec prog_96_method_10_code 29 = some (.iload 6) := by decide +kernel
theorem k1_31 : dec prog_96_method_10_code 31 = some (.iaload) := by decide +kernel
theorem k1_32 : dec prog_96_method_10_code 32 = some (.istore 7) := by decide +kernel
theorem k1_34 : dec prog_96_method_10_code 34 = some (.iload 7) := by decide +kernel
theorem k1_36 : dec prog_96_method_10_code 36 = some (.ifCond .ge 12) := by decide +kernel
theorem k1_39 : dec prog_96_method_10_code 39 = some (.aload_n 3) := by decide +kernel
theorem k1_40 : dec prog_96_method_10_code 40 = some (.iload 5) := by decide +kernel
theorem k1_42 : dec prog_96_method_10_code 42 = some (.iinc 5 1) := by decide +kernel
theorem k1_45 : dec prog_96_method_10_code 45 = some (.bipush 45) := by decide +kernel
theorem k1_47 : dec prog_96_method_10_code 47 = some (.bastore) := by decide +kernel
theorem k1_48 : dec prog_96_method_10_code 48 = some (.iload 7) := by decide +kernel
theorem k1_50 : dec prog_96_method_10_code 50 = some (.ifCond .ge 8) := by decide +kernel
theorem k1_53 : dec prog_96_method_10_code 53 = some (.iload 7) := by decide +kernel
theorem k1_55 : dec prog_96_method_10_code 55 = some (.goto 6) := by decide +kernel
theorem k1_58 : dec prog_96_method_10_code 58 = some (.iload 7) := by decide +kernel
theorem k1_60 : dec prog_96_method_10_code 60 = some (.ineg) := by decide +kernel
theorem k1_61 : dec prog_96_method_10_code 61 = some (.istore 8) := by decide +kernel
theorem k1_63 : dec prog_96_method_10_code 63 = some (.iconst 1) := by decide +kernel
theorem k1_64 : dec prog_96_method_10_code 64 = some (.istore 9) := by decide +kernel
theorem k1_66 : dec prog_96_method_10_code 66 = some (.iload 9) := by decide +kernel
theorem k1_68 : dec prog_96_method_10_code 68 = some (.bipush 10) := by decide +kernel
theorem k1_70 : dec prog_96_method_10_code 70 = some (.if_icmp .ge 21) := by decide +kernel
theorem k1_73 : dec prog_96_method_10_code 73 = some (.iload 8) := by decide +kernel
theorem k1_75 : dec prog_96_method_10_code 75 = some (.getstatic 113) := by decide +kernel
theorem k1_78 : dec prog_96_method_10_code 78 = some (.iload 9) := by decide +kernel
theorem k1_80 : dec prog_96_method_10_code 80 = some (.iaload) := by decide +kernel
theorem k1_81 : dec prog_96_method_10_code 81 = some (.ineg) := by decide +kernel
theorem k1_82 : dec prog_96_method_10_code 82 = some (.if_icmp .gt 9) := by decide +kernel
theorem k1_85 : dec prog_96_method_10_code 85 = some (.iinc 9 1) := by decide +kernel
theorem k1_88 : dec prog_96_method_10_code 88 = some (.goto (-22)) := by decide +kernel
theorem k1_91 : dec prog_96_method_10_code 91 = some (.iload 5) := by decide +kernel
theorem k1_93 : dec prog_96_method_10_code 93 = some (.iload 9) := by decide +kernel
theorem k1_95 : dec prog_96_method_10_code 95 = some (.iadd) := by decide +kernel
theorem k1_96 : dec prog_96_method_10_code 96 = some (.istore 5) := by decide +kernel
theorem k1_98 : dec prog_96_method_10_code 98 = some (.iload 8) := by decide +kernel
theorem k1_100 : dec prog_96_method_10_code 100 = some (.istore 10) := by decide +kernel
theorem k1_102 : dec prog_96_method_10_code 102 = some (.iload 5) := by decide +kernel
theorem k1_104 : dec prog_96_method_10_code 104 = some (.iconst 1) := by decide +kernel
theorem k1_105 : dec prog_96_method_10_code 105 = some (.isub) := by decide +kernel
theorem k1_106 : dec prog_96_method_10_code 106 = some (.istore 11) := by decide +kernel
theorem k1_108 : dec prog_96_method_10_code 108 = some (.iload 11) := by decide +kernel
theorem k1_110 : dec prog_96_method_10_code 110 = some (.iload 5) := by decide +kernel
theorem k1_112 : dec prog_96_method_10_code 112 = some (.iload 9) := by decide +kernel
theorem k1_114 : dec prog_96_method_10_code 114 = some (.isub) := by decide +kernel
theorem k1_115 : dec prog_96_method_10_code 115 = some (.if_icmp .lt 29) := by decide +kernel
theorem k1_118 : dec prog_96_method_10_code 118 = some (.aload_n 3) := by decide +kernel
theorem k1_119 : dec prog_96_method_10_code 119 = some (.iload 11) := by decide +kernel
theorem k1_121 : dec prog_96_method_10_code 121 = some (.bipush 48) := by decide +kernel
theorem k1_123 : dec prog_96_method_10_code 123 = some (.iload 10) := by decide +kernel
theorem k1_125 : dec prog_96_method_10_code 125 = some (.bipush 10) := by decide +kernel
theorem k1_127 : dec prog_96_method_10_code 127 = some (.irem) := by decide +kernel
theorem k1_128 : dec prog_96_method_10_code 128 = some (.isub) := by decide +kernel
theorem k1_129 : dec prog_96_method_10_code 129 = some (.i2b) := by decide +kernel
theorem k1_130 : dec prog_96_method_10_code 130 = some (.bastore) := by decide +kernel
theorem k1_131 : dec prog_96_method_10_code 131 = some (.iload 10) := by decide +kernel
theorem k1_133 : dec prog_96_method_10_code 133 = some (.bipush 10) := by decide +kernel
theorem k1_135 : dec prog_96_method_10_code 135 = some (.idiv) := by decide +kernel
theorem k1_136 : dec prog_96_method_10_code 136 = some (.istore 10) := by decide +kernel
theorem k1_138 : dec prog_96_method_10_code 138 = some (.iinc 11 (-1)) := by decide +kernel
theorem k1_141 : dec prog_96_method_10_code 141 = some (.goto (-33)) := by decide +kernel
theorem k1_144 : dec prog_96_method_10_code 144 = some (.iinc 6 1) := by decide +kernel
theorem k1_147 : dec prog_96_method_10_code 147 = some (.goto (-140)) := by decide +kernel
theorem k1_150 : dec prog_96_method_10_code 150 = some (.iload 5) := by decide +kernel
theorem k1_152 : dec prog_96_method_10_code 152 = some (.ireturn) := by decide +kernel
theorem k2_0 : dec method_8_code 0 = some (.iconst 1) := by decide +kernel
theorem k2_1 : dec method_8_code 1 = some (.istore_n 3) := by decide +kernel
theorem k2_2 : dec method_8_code 2 = some (.iload_n 3) := by decide +kernel
theorem k2_3 : dec method_8_code 3 = some (.ifCond .eq 17) := by decide +kernel
theorem k2_6 : dec method_8_code 6 = some (.aload_n 0) := by decide +kernel
theorem k2_7 : dec method_8_code 7 = some (.iload_n 1) := by decide +kernel
theorem k2_8 : dec method_8_code 8 = some (.iload_n 2) := by decide +kernel
theorem k2_9 : dec method_8_code 9 = some (.iconst 0) := by decide +kernel
theorem k2_10 : dec method_8_code 10 = some (.invokestatic 52) := by decide +kernel
theorem k2_13 : dec method_8_code 13 = some (.ifCond .eq 7) := by decide +kernel
theorem k2_16 : dec method_8_code 16 = some (.iconst 1) := by decide +kernel
theorem k2_17 : dec method_8_code 17 = some (.goto 4) := by decide +kernel
theorem k2_20 : dec method_8_code 20 = some (.iconst 0) := by decide +kernel
theorem k2_21 : dec method_8_code 21 = some (.istore_n 3) := by decide +kernel
theorem k2_22 : dec method_8_code 22 = some (.iload_n 3) := by decide +kernel
theorem k2_23 : dec method_8_code 23 = some (.ifCond .eq 17) := by decide +kernel
theorem k2_26 : dec method_8_code 26 = some (.aload_n 0) := by decide +kernel
theorem k2_27 : dec method_8_code 27 = some (.iload_n 1) := by decide +kernel
theorem k2_28 : dec method_8_code 28 = some (.iload_n 2) := by decide +kernel
theorem k2_29 : dec method_8_code 29 = some (.iconst 1) := by decide +kernel
theorem k2_30 : dec method_8_code 30 = some (.invokestatic 52) := by decide +kernel
theorem k2_33 : dec method_8_code 33 = some (.ifCond .eq 7) := by decide +kernel
theorem k2_36 : dec method_8_code 36 = some (.iconst 1) := by decide +kernel
theorem k2_37 : dec method_8_code 37 = some (.goto 4) := by decide +kernel
theorem k2_40 : dec method_8_code 40 = some (.iconst 0) := by decide +kernel
theorem k2_41 : dec method_8_code 41 = some (.istore_n 3) := by decide +kernel
theorem k2_42 : dec method_8_code 42 = some (.iload_n 3) := by decide +kernel
theorem k2_43 : dec method_8_code 43 = some (.ifCond .eq 17) := by decide +kernel
theorem k2_46 : dec method_8_code 46 = some (.aload_n 0) := by decide +kernel
theorem k2_47 : dec method_8_code 47 = some (.iload_n 1) := by decide +kernel
theorem k2_48 : dec method_8_code 48 = some (.iload_n 2) := by decide +kernel
theorem k2_49 : dec method_8_code 49 = some (.iconst 2) := by decide +kernel
theorem k2_50 : dec method_8_code 50 = some (.invokestatic 52) := by decide +kernel
theorem k2_53 : dec method_8_code 53 = some (.ifCond .eq 7) := by decide +kernel
theorem k2_56 : dec method_8_code 56 = some (.iconst 1) := by decide +kernel
theorem k2_57 : dec method_8_code 57 = some (.goto 4) := by decide +kernel
theorem k2_60 : dec method_8_code 60 = some (.iconst 0) := by decide +kernel
theorem k2_61 : dec method_8_code 61 = some (.istore_n 3) := by decide +kernel
theorem k2_62 : dec method_8_code 62 = some (.iload_n 3) := by decide +kernel
theorem k2_63 : dec method_8_code 63 = some (.ifCond .eq 17) := by decide +kernel
theorem k2_66 : dec method_8_code 66 = some (.aload_n 0) := by decide +kernel
theorem k2_67 : dec method_8_code 67 = some (.iload_n 1) := by decide +kernel
theorem k2_68 : dec method_8_code 68 = some (.iload_n 2) := by decide +kernel
theorem k2_69 : dec method_8_code 69 = some (.iconst 3) := by decide +kernel
theorem k2_70 : dec method_8_code 70 = some (.invokestatic 52) := by decide +kernel
theorem k2_73 : dec method_8_code 73 = some (.ifCond .eq 7) := by decide +kernel
theorem k2_76 : dec method_8_code 76 = some (.iconst 1) := by decide +kernel
theorem k2_77 : dec method_8_code 77 = some (.goto 4) := by decide +kernel
theorem k2_80 : dec method_8_code 80 = some (.iconst 0) := by decide +kernel
theorem k2_81 : dec method_8_code 81 = some (.istore_n 3) := by decide +kernel
theorem k2_82 : dec method_8_code 82 = some (.iload_n 3) := by decide +kernel
theorem k2_83 : dec method_8_code 83 = some (.ifCond .eq 17) := by decide +kernel
theorem k2_86 : dec method_8_code 86 = some (.aload_n 0) := by decide +kernel
theorem k2_87 : dec method_8_code 87 = some (.iload_n 1) := by decide +kernel
theorem k2_88 : dec method_8_code 88 = some (.iload_n 2) := by decide +kernel
theorem k2_89 : dec method_8_code 89 = some (.iconst 4) := by decide +kernel
theorem k2_90 : dec method_8_code 90 = some (.invokestatic 52) := by decide +kernel
theorem k2_93 : dec method_8_code 93 = some (.ifCond .eq 7) := by decide +kernel
theorem k2_96 : dec method_8_code 96 = some (.iconst 1) := by decide +kernel
theorem k2_97 : dec method_8_code 97 = some (.goto 4) := by decide +kernel
theorem k2_100 : dec method_8_code 100 = some (.iconst 0) := by decide +kernel
theorem k2_101 : dec method_8_code 101 = some (.istore_n 3) := by decide +kernel
theorem k2_102 : dec method_8_code 102 = some (.iload_n 3) := by decide +kernel
theorem k2_103 : dec method_8_code 103 = some (.ifCond .eq 17) := by decide +kernel
theorem k2_106 : dec method_8_code 106 = some (.aload_n 0) := by decide +kernel
theorem k2_107 : dec method_8_code 107 = some (.iload_n 1) := by decide +kernel
theorem k2_108 : dec method_8_code 108 = some (.iload_n 2) := by decide +kernel
theorem k2_109 : dec method_8_code 109 = some (.iconst 5) := by decide +kernel
theorem k2_110 : dec method_8_code 110 = some (.invokestatic 52) := by decide +kernel
theorem k2_113 : dec method_8_code 113 = some (.ifCond .eq 7) := by decide +kernel
theorem k2_116 : dec method_8_code 116 = some (.iconst 1) := by decide +kernel
theorem k2_117 : dec method_8_code 117 = some (.goto 4) := by decide +kernel
theorem k2_120 : dec method_8_code 120 = some (.iconst 0) := by decide +kernel
theorem k2_121 : dec method_8_code 121 = some (.istore_n 3) := by decide +kernel
theorem k2_122 : dec method_8_code 122 = some (.iload_n 3) := by decide +kernel
theorem k2_123 : dec method_8_code 123 = some (.ifCond .eq 18) := by decide +kernel
theorem k2_126 : dec method_8_code 126 = some (.aload_n 0) := by decide +kernel
theorem k2_127 : dec method_8_code 127 = some (.iload_n 1) := by decide +kernel
theorem k2_128 : dec method_8_code 128 = some (.iload_n 2) := by decide +kernel
theorem k2_129 : dec method_8_code 129 = some (.bipush 6) := by decide +kernel
theorem k2_131 : dec method_8_code 131 = some (.invokestatic 52) := by decide +kernel
theorem k2_134 : dec method_8_code 134 = some (.ifCond .eq 7) := by decide +kernel
theorem k2_137 : dec method_8_code 137 = some (.iconst 1) := by decide +kernel
theorem k2_138 : dec method_8_code 138 = some (.goto 4) := by decide +kernel
theorem k2_141 : dec method_8_code 141 = some (.iconst 0) := by decide +kernel
theorem k2_142 : dec method_8_code 142 = some (.istore_n 3) := by decide +kernel
theorem k2_143 : dec method_8_code 143 = some (.iload_n 3) := by decide +kernel
theorem k2_144 : dec method_8_code 144 = some (.ifCond .eq 18) := by decide +kernel
theorem k2_147 : dec method_8_code 147 = some (.aload_n 0) := by decide +kernel
theorem k2_148 : dec method_8_code 148 = some (.iload_n 1) := by decide +kernel
theorem k2_149 : dec method_8_code 149 = some (.iload_n 2) := by decide +kernel
theorem k2_150 : dec method_8_code 150 = some (.bipush 7) := by decide +kernel
theorem k2_152 : dec method_8_code 152 = some (.invokestatic 52) := by decide +kernel
theorem k2_155 : dec method_8_code 155 = some (.ifCond .eq 7) := by decide +kernel
theorem k2_158 : dec method_8_code 158 = some (.iconst 1) := by decide +kernel
theorem k2_159 : dec method_8_code 159 = some (.goto 4) := by decide +kernel
theorem k2_162 : dec method_8_code 162 = some (.iconst 0) := by decide +kernel
theorem k2_163 : dec method_8_code 163 = some (.istore_n 3) := by decide +kernel
theorem k2_164 : dec method_8_code 164 = some (.iload_n 3) := by decide +kernel
theorem k2_165 : dec method_8_code 165 = some (.ifCond .eq 18) := by decide +kernel
theorem k2_168 : dec method_8_code 168 = some (.aload_n 0) := by decide +kernel
theorem k2_169 : dec method_8_code 169 = some (.iload_n 1) := by decide +kernel
theorem k2_170 : dec method_8_code 170 = some (.iload_n 2) := by decide +kernel
theorem k2_171 : dec method_8_code 171 = some (.bipush 8) := by decide +kernel
theorem k2_173 : dec method_8_code 173 = some (.invokestatic 52) := by decide +kernel
theorem k2_176 : dec method_8_code 176 = some (.ifCond .eq 7) := by decide +kernel
theorem k2_179 : dec method_8_code 179 = some (.iconst 1) := by decide +kernel
theorem k2_180 : dec method_8_code 180 = some (.goto 4) := by decide +kernel
theorem k2_183 : dec method_8_code 183 = some (.iconst 0) := by decide +kernel
theorem k2_184 : dec method_8_code 184 = some (.istore_n 3) := by decide +kernel
theorem k2_185 : dec method_8_code 185 = some (.iload_n 3) := by decide +kernel
theorem k2_186 : dec method_8_code 186 = some (.ifCond .eq 18) := by decide +kernel
theorem k2_189 : dec method_8_code 189 = some (.aload_n 0) := by decide +kernel
theorem k2_190 : dec method_8_code 190 = some (.iload_n 1) := by decide +kernel
theorem k2_191 : dec method_8_code 191 = some (.iload_n 2) := by decide +kernel
theorem k2_192 : dec method_8_code 192 = some (.bipush 9) := by decide +kernel
theorem k2_194 : dec method_8_code 194 = some (.invokestatic 52) := by decide +kernel
theorem k2_197 : dec method_8_code 197 = some (.ifCond .eq 7) := by decide +kernel
theorem k2_200 : dec method_8_code 200 = some (.iconst 1) := by decide +kernel
theorem k2_201 : dec method_8_code 201 = some (.goto 4) := by decide +kernel
theorem k2_204 : dec method_8_code 204 = some (.iconst 0) := by decide +kernel
theorem k2_205 : dec method_8_code 205 = some (.istore_n 3) := by decide +kernel
theorem k2_206 : dec method_8_code 206 = some (.iload_n 3) := by decide +kernel
theorem k2_207 : dec method_8_code 207 = some (.ifCond .eq 18) := by decide +kernel
theorem k2_210 : dec method_8_code 210 = some (.aload_n 0) := by decide +kernel
theorem k2_211 : dec method_8_code 211 = some (.iload_n 1) := by decide +kernel
theorem k2_212 : dec method_8_code 212 = some (.iload_n 2) := by decide +kernel
theorem k2_213 : dec method_8_code 213 = some (.bipush 10) := by decide +kernel
theorem k2_215 : dec method_8_code 215 = some (.invokestatic 52) := by decide +kernel
theorem k2_218 : dec method_8_code 218 = some (.ifCond .eq 7) := by decide +kernel
theorem k2_221 : dec method_8_code 221 = some (.iconst 1) := by decide +kernel
theorem k2_222 : dec method_8_code 222 = some (.goto 4) := by decide +kernel
theorem k2_225 : dec method_8_code 225 = some (.iconst 0) := by decide +kernel
theorem k2_226 : dec method_8_code 226 = some (.istore_n 3) := by decide +kernel
theorem k2_227 : dec method_8_code 227 = some (.iload_n 3) := by decide +kernel
theorem k2_228 : dec method_8_code 228 = some (.ireturn) := by decide +kernel
theorem k3_0 : dec method_7_code 0 = some (.iload_n 2) := by decide +kernel
theorem k3_1 : dec method_7_code 1 = some (.invokestatic 19) := by decide +kernel
theorem k3_4 : dec method_7_code 4 = some (.istore 4) := by decide +kernel
theorem k3_6 : dec method_7_code 6 = some (.iload_n 3) := by decide +kernel
theorem k3_7 : dec method_7_code 7 = some (.iload 4) := by decide +kernel
theorem k3_9 : dec method_7_code 9 = some (.if_icmp .lt 5) := by decide +kernel
theorem k3_12 : dec method_7_code 12 = some (.iconst 1) := by decide +kernel
theorem k3_13 : dec method_7_code 13 = some (.ireturn) := by decide +kernel
theorem k3_14 : dec method_7_code 14 = some (.iload_n 2) := by decide +kernel
theorem k3_15 : dec method_7_code 15 = some (.ifCond .ge 21) := by decide +kernel
theorem k3_18 : dec method_7_code 18 = some (.iload_n 3) := by decide +kernel
theorem k3_19 : dec method_7_code 19 = some (.ifCond .ne 17) := by decide +kernel
theorem k3_22 : dec method_7_code 22 = some (.aload_n 0) := by decide +kernel
theorem k3_23 : dec method_7_code 23 = some (.iload_n 1) := by decide +kernel
theorem k3_24 : dec method_7_code 24 = some (.baload) := by decide +kernel
theorem k3_25 : dec method_7_code 25 = some (.bipush 45) := by decide +kernel
theorem k3_27 : dec method_7_code 27 = some (.if_icmp .ne 7) := by decide +kernel
theorem k3_30 : dec method_7_code 30 = some (.iconst 1) := by decide +kernel
theorem k3_31 : dec method_7_code 31 = some (.goto 4) := by decide +kernel
theorem k3_34 : dec method_7_code 34 = some (.iconst 0) := by decide +kernel
theorem k3_35 : dec method_7_code 35 = some (.ireturn) := by decide +kernel
theorem k3_36 : dec method_7_code 36 = some (.iload 4) := by decide +kernel
theorem k3_38 : dec method_7_code 38 = some (.iconst 1) := by decide +kernel
theorem k3_39 : dec method_7_code 39 = some (.isub) := by decide +kernel
theorem k3_40 : dec method_7_code 40 = some (.iload_n 3) := by decide +kernel
theorem k3_41 : dec method_7_code 41 = some (.isub) := by decide +kernel
theorem k3_42 : dec method_7_code 42 = some (.istore 5) := by decide +kernel
theorem k3_44 : dec method_7_code 44 = some (.iload_n 2) := by decide +kernel
theorem k3_45 : dec method_7_code 45 = some (.invokestatic 41) := by decide +kernel
theorem k3_48 : dec method_7_code 48 = some (.iload 5) := by decide +kernel
theorem k3_50 : dec method_7_code 50 = some (.invokestatic 49) := by decide +kernel
theorem k3_53 : dec method_7_code 53 = some (.ldiv) := by decide +kernel
theorem k3_54 : dec method_7_code 54 = some (.ldc2_w 23) := by decide +kernel
theorem k3_57 : dec method_7_code 57 = some (.lrem) := by decide +kernel
theorem k3_58 : dec method_7_code 58 = some (.lstore 6) := by decide +kernel
theorem k3_60 : dec method_7_code 60 = some (.aload_n 0) := by decide +kernel
theorem k3_61 : dec method_7_code 61 = some (.iload_n 1) := by decide +kernel
theorem k3_62 : dec method_7_code 62 = some (.iload_n 3) := by decide +kernel
theorem k3_63 : dec method_7_code 63 = some (.iadd) := by decide +kernel
theorem k3_64 : dec method_7_code 64 = some (.baload) := by decide +kernel
theorem k3_65 : dec method_7_code 65 = some (.bipush 48) := by decide +kernel
theorem k3_67 : dec method_7_code 67 = some (.lload 6) := by decide +kernel
theorem k3_69 : dec method_7_code 69 = some (.l2i) := by decide +kernel
theorem k3_70 : dec method_7_code 70 = some (.iadd) := by decide +kernel
theorem k3_71 : dec method_7_code 71 = some (.i2b) := by decide +kernel
theorem k3_72 : dec method_7_code 72 = some (.if_icmp .ne 7) := by decide +kernel
theorem k3_75 : dec method_7_code 75 = some (.iconst 1) := by decide +kernel
theorem k3_76 : dec method_7_code 76 = some (.goto 4) := by decide +kernel
theorem k3_79 : dec method_7_code 79 = some (.iconst 0) := by decide +kernel
theorem k3_80 : dec method_7_code 80 = some (.ireturn) := by decide +kernel
theorem k4_0 : dec method_5_code 0 = some (.iload_n 0) := by decide +kernel
theorem k4_1 : dec method_5_code 1 = some (.ifCond .ge 7) := by decide +kernel
theorem k4_4 : dec method_5_code 4 = some (.iconst 1) := by decide +kernel
theorem k4_5 : dec method_5_code 5 = some (.goto 4) := by decide +kernel
theorem k4_8 : dec method_5_code 8 = some (.iconst 0) := by decide +kernel
theorem k4_9 : dec method_5_code 9 = some (.iload_n 0) := by decide +kernel
theorem k4_10 : dec method_5_code 10 = some (.invokestatic 41) := by decide +kernel
theorem k4_13 : dec method_5_code 13 = some (.invokestatic 45) := by decide +kernel
theorem k4_16 : dec method_5_code 16 = some (.iadd) := by decide +kernel
theorem k4_17 : dec method_5_code 17 = some (.ireturn) := by decide +kernel
theorem k5_0 : dec method_3_code 0 = some (.iload_n 0) := by decide +kernel
theorem k5_1 : dec method_3_code 1 = some (.ifCond .ge 9) := by decide +kernel
theorem k5_4 : dec method_3_code 4 = some (.iload_n 0) := by decide +kernel
theorem k5_5 : dec method_3_code 5 = some (.i2l) := by decide +kernel
theorem k5_6 : dec method_3_code 6 = some (.lneg) := by decide +kernel
theorem k5_7 : dec method_3_code 7 = some (.goto 5) := by decide +kernel
theorem k5_10 : dec method_3_code 10 = some (.iload_n 0) := by decide +kernel
theorem k5_11 : dec method_3_code 11 = some (.i2l) := by decide +kernel
theorem k5_12 : dec method_3_code 12 = some (.lreturn) := by decide +kernel
theorem k6_0 : dec method_4_code 0 = some (.lload_n 0) := by decide +kernel
theorem k6_1 : dec method_4_code 1 = some (.ldc2_w 23) := by decide +kernel
theorem k6_4 : dec method_4_code 4 = some (.lcmp) := by decide +kernel
theorem k6_5 : dec method_4_code 5 = some (.ifCond .ge 5) := by decide +kernel
theorem k6_8 : dec method_4_code 8 = some (.iconst 1) := by decide +kernel
theorem k6_9 : dec method_4_code 9 = some (.ireturn) := by decide +kernel
theorem k6_10 : dec method_4_code 10 = some (.lload_n 0) := by decide +kernel
theorem k6_11 : dec method_4_code 11 = some (.ldc2_w 25) := by decide +kernel
theorem k6_14 : dec method_4_code 14 = some (.lcmp) := by decide +kernel
theorem k6_15 : dec method_4_code 15 = some (.ifCond .ge 5) := by decide +kernel
theorem k6_18 : dec method_4_code 18 = some (.iconst 2) := by decide +kernel
theorem k6_19 : dec method_4_code 19 = some (.ireturn) := by decide +kernel
theorem k6_20 : dec method_4_code 20 = some (.lload_n 0) := by decide +kernel
theorem k6_21 : dec method_4_code 21 = some (.ldc2_w 27) := by decide +kernel
theorem k6_24 : dec method_4_code 24 = some (.lcmp) := by decide +kernel
theorem k6_25 : dec method_4_code 25 = some (.ifCond .ge 5) := by decide +kernel
theorem k6_28 : dec method_4_code 28 = some (.iconst 3) := by decide +kernel
theorem k6_29 : dec method_4_code 29 = some (.ireturn) := by decide +kernel
theorem k6_30 : dec method_4_code 30 = some (.lload_n 0) := by decide +kernel
theorem k6_31 : dec method_4_code 31 = some (.ldc2_w 29) := by decide +kernel
theorem k6_34 : dec method_4_code 34 = some (.lcmp) := by decide +kernel
theorem k6_35 : dec method_4_code 35 = some (.ifCond .ge 5) := by decide +kernel
theorem k6_38 : dec method_4_code 38 = some (.iconst 4) := by decide +kernel
theorem k6_39 : dec method_4_code 39 = some (.ireturn) := by decide +kernel
theorem k6_40 : dec method_4_code 40 = some (.lload_n 0) := by decide +kernel
theorem k6_41 : dec method_4_code 41 = some (.ldc2_w 31) := by decide +kernel
theorem k6_44 : dec method_4_code 44 = some (.lcmp) := by decide +kernel
theorem k6_45 : dec method_4_code 45 = some (.ifCond .ge 5) := by decide +kernel
theorem k6_48 : dec method_4_code 48 = some (.iconst 5) := by decide +kernel
theorem k6_49 : dec method_4_code 49 = some (.ireturn) := by decide +kernel
theorem k6_50 : dec method_4_code 50 = some (.lload_n 0) := by decide +kernel
theorem k6_51 : dec method_4_code 51 = some (.ldc2_w 33) := by decide +kernel
theorem k6_54 : dec method_4_code 54 = some (.lcmp) := by decide +kernel
theorem k6_55 : dec method_4_code 55 = some (.ifCond .ge 6) := by decide +kernel
theorem k6_58 : dec method_4_code 58 = some (.bipush 6) := by decide +kernel
theorem k6_60 : dec method_4_code 60 = some (.ireturn) := by decide +kernel
theorem k6_61 : dec method_4_code 61 = some (.lload_n 0) := by decide +kernel
theorem k6_62 : dec method_4_code 62 = some (.ldc2_w 35) := by decide +kernel
theorem k6_65 : dec method_4_code 65 = some (.lcmp) := by decide +kernel
theorem k6_66 : dec method_4_code 66 = some (.ifCond .ge 6) := by decide +kernel
theorem k6_69 : dec method_4_code 69 = some (.bipush 7) := by decide +kernel
theorem k6_71 : dec method_4_code 71 = some (.ireturn) := by decide +kernel
theorem k6_72 : dec method_4_code 72 = some (.lload_n 0) := by decide +kernel
theorem k6_73 : dec method_4_code 73 = some (.ldc2_w 37) := by decide +kernel
theorem k6_76 : dec method_4_code 76 = some (.lcmp) := by decide +kernel
theorem k6_77 : dec method_4_code 77 = some (.ifCond .ge 6) := by decide +kernel
theorem k6_80 : dec method_4_code 80 = some (.bipush 8) := by decide +kernel
theorem k6_82 : dec method_4_code 82 = some (.ireturn) := by decide +kernel
theorem k6_83 : dec method_4_code 83 = some (.lload_n 0) := by decide +kernel
theorem k6_84 : dec method_4_code 84 = some (.ldc2_w 39) := by decide +kernel
theorem k6_87 : dec method_4_code 87 = some (.lcmp) := by decide +kernel
theorem k6_88 : dec method_4_code 88 = some (.ifCond .ge 6) := by decide +kernel
theorem k6_91 : dec method_4_code 91 = some (.bipush 9) := by decide +kernel
theorem k6_93 : dec method_4_code 93 = some (.ireturn) := by decide +kernel
theorem k6_94 : dec method_4_code 94 = some (.bipush 10) := by decide +kernel
theorem k6_96 : dec method_4_code 96 = some (.ireturn) := by decide +kernel
theorem k7_0 : dec method_6_code 0 = some (.bipush 10) := by decide +kernel
theorem k7_2 : dec method_6_code 2 = some (.newarray .long) := by decide +kernel
theorem k7_4 : dec method_6_code 4 = some (.dup) := by decide +kernel
theorem k7_5 : dec method_6_code 5 = some (.iconst 0) := by decide +kernel
theorem k7_6 : dec method_6_code 6 = some (.lconst 1) := by decide +kernel
theorem k7_7 : dec method_6_code 7 = some (.lastore) := by decide +kernel
theorem k7_8 : dec method_6_code 8 = some (.dup) := by decide +kernel
theorem k7_9 : dec method_6_code 9 = some (.iconst 1) := by decide +kernel
theorem k7_10 : dec method_6_code 10 = some (.ldc2_w 23) := by decide +kernel
theorem k7_13 : dec method_6_code 13 = some (.lastore) := by decide +kernel
theorem k7_14 : dec method_6_code 14 = some (.dup) := by decide +kernel
theorem k7_15 : dec method_6_code 15 = some (.iconst 2) := by decide +kernel
theorem k7_16 : dec method_6_code 16 = some (.ldc2_w 25) := by decide +kernel
theorem k7_19 : dec method_6_code 19 = some (.lastore) := by decide +kernel
theorem k7_20 : dec method_6_code 20 = some (.dup) := by decide +kernel
theorem k7_21 : dec method_6_code 21 = some (.iconst 3) := by decide +kernel
theorem k7_22 : dec method_6_code 22 = some (.ldc2_w 27) := by decide +kernel
theorem k7_25 : dec method_6_code 25 = some (.lastore) := by decide +kernel
theorem k7_26 : dec method_6_code 26 = some (.dup) := by decide +kernel
theorem k7_27 : dec method_6_code 27 = some (.iconst 4) := by decide +kernel
theorem k7_28 : dec method_6_code 28 = some (.ldc2_w 29) := by decide +kernel
theorem k7_31 : dec method_6_code 31 = some (.lastore) := by decide +kernel
theorem k7_32 : dec method_6_code 32 = some (.dup) := by decide +kernel
theorem k7_33 : dec method_6_code 33 = some (.iconst 5) := by decide +kernel
theorem k7_34 : dec method_6_code 34 = some (.ldc2_w 31) := by decide +kernel
theorem k7_37 : dec method_6_code 37 = some (.lastore) := by decide +kernel
theorem k7_38 : dec method_6_code 38 = some (.dup) := by decide +kernel
theorem k7_39 : dec method_6_code 39 = some (.bipush 6) := by decide +kernel
theorem k7_41 : dec method_6_code 41 = some (.ldc2_w 33) := by decide +kernel
theorem k7_44 : dec method_6_code 44 = some (.lastore) := by decide +kernel
theorem k7_45 : dec method_6_code 45 = some (.dup) := by decide +kernel
theorem k7_46 : dec method_6_code 46 = some (.bipush 7) := by decide +kernel
theorem k7_48 : dec method_6_code 48 = some (.ldc2_w 35) := by decide +kernel
theorem k7_51 : dec method_6_code 51 = some (.lastore) := by decide +kernel
theorem k7_52 : dec method_6_code 52 = some (.dup) := by decide +kernel
theorem k7_53 : dec method_6_code 53 = some (.bipush 8) := by decide +kernel
theorem k7_55 : dec method_6_code 55 = some (.ldc2_w 37) := by decide +kernel
theorem k7_58 : dec method_6_code 58 = some (.lastore) := by decide +kernel
theorem k7_59 : dec method_6_code 59 = some (.dup) := by decide +kernel
theorem k7_60 : dec method_6_code 60 = some (.bipush 9) := by decide +kernel
theorem k7_62 : dec method_6_code 62 = some (.ldc2_w 39) := by decide +kernel
theorem k7_65 : dec method_6_code 65 = some (.lastore) := by decide +kernel
theorem k7_66 : dec method_6_code 66 = some (.astore_n 1) := by decide +kernel
theorem k7_67 : dec method_6_code 67 = some (.aload_n 1) := by decide +kernel
theorem k7_68 : dec method_6_code 68 = some (.iload_n 0) := by decide +kernel
theorem k7_69 : dec method_6_code 69 = some (.laload) := by decide +kernel
theorem k7_70 : dec method_6_code 70 = some (.lreturn) := by decide +kernel
def K : List CD := []
theorem kok {Z : State} {a0 : Array Value} (hw : ∀ d ∈ tables_1, d.before a0 Z = true) : KOk Z a0 K := by
  intro c C fs h
  cases h
def OwnSta (Z : State) (σ : Nat → Nat) : Prop := Sta Z Z.heap "com/example/fronda/fronda/model/Label" "TENS" "[I" (.ref (σ 0))
/-! body 1: Label.writeText([III[BI)I -/
def E1 : List (Nat × Nat × Act) := [(5, 113, aSta (.ref 0))]
def F1 : List Value → AH → Option ORes := fn prog_96_method_10_code 12 (Option.some Jvm.ClassFile.FieldType.int) E1 1 2000
def r1 : Room := { frames := 0, cells := 0, slots := 0, locals := 0 }
theorem says1 (l : Launch) {Z : State} {a0 : Array Value} {σ : Nat → Nat} {n0 : Nat} (hsg : Sg σ 1 n0) (hw : ∀ d ∈ tables_1, d.before a0 Z = true) (hst : OwnSta Z σ) : Says l Z σ 1 n0 K (⟨"com/example/fronda/fronda/model/Label", "writeText", "([III[BI)I"⟩ : MethodName) prog_96_method_10_code 12 (Option.some Jvm.ClassFile.FieldType.int) [] r1 F1 :=
  says_fn hsg (plainFor_of_name (by first | (simp [plainName, overriddenIn]; done) | decide +kernel)) fun p e s m args below meth c hx hby hml hZ hown hnm => ag_cons (okSta hx hZ hown (hw _ (List.mem_of_getElem? (i := 6) rfl)) Via.refl hst) <| ag_nil
/-! body 5: LabelWriteTextPinLaw.magnitude(I)J -/
def E5 : List (Nat × Nat × Act) := []
def F5 : List Value → AH → Option ORes := fn method_3_code 1 (Option.some Jvm.ClassFile.FieldType.long) E5 1 58
def r5 : Room := { frames := 0, cells := 0, slots := 0, locals := 0 }
theorem says5 (l : Launch) {Z : State} {a0 : Array Value} {σ : Nat → Nat} {n0 : Nat} (hsg : Sg σ 1 n0) (hw : ∀ d ∈ tables_1, d.before a0 Z = true) (hst : OwnSta Z σ) : Says l Z σ 1 n0 K (⟨"com/example/fronda/fronda/model/LabelWriteTextPinLaw", "magnitude", "(I)J"⟩ : MethodName) method_3_code 1 (Option.some Jvm.ClassFile.FieldType.long) [] r5 F5 :=
  says_fn hsg (plainFor_of_name (by first | (simp [plainName, overriddenIn]; done) | decide +kernel)) fun p e s m args below meth c hx hby hml hZ hown hnm => ag_nil
/-! body 6: LabelWriteTextPinLaw.digitCount(J)I -/
def E6 : List (Nat × Nat × Act) := [(2, 23, aJ (10)), (2, 25, aJ (100)), (2, 27, aJ (1000)), (2, 29, aJ (10000)), (2, 31, aJ (100000)), (2, 33, aJ (1000000)), (2, 35, aJ (10000000)), (2, 37, aJ (100000000)), (2, 39, aJ (1000000000))]
def F6 : List Value → AH → Option ORes := fn method_4_code 2 (Option.some Jvm.ClassFile.FieldType.int) E6 1 152
def r6 : Room := { frames := 0, cells := 0, slots := 0, locals := 0 }
theorem says6 (l : Launch) {Z : State} {a0 : Array Value} {σ : Nat → Nat} {n0 : Nat} (hsg : Sg σ 1 n0) (hw : ∀ d ∈ tables_1, d.before a0 Z = true) (hst : OwnSta Z σ) : Says l Z σ 1 n0 K (⟨"com/example/fronda/fronda/model/LabelWriteTextPinLaw", "digitCount", "(J)I"⟩ : MethodName) method_4_code 2 (Option.some Jvm.ClassFile.FieldType.int) [] r6 F6 :=
  says_fn hsg (plainFor_of_name (by first | (simp [plainName, overriddenIn]; done) | decide +kernel)) fun p e s m args below meth c hx hby hml hZ hown hnm => ag_cons (okJ hx hZ hown (hw _ (List.mem_of_getElem? (i := 24) rfl))) <| ag_cons (okJ hx hZ hown (hw _ (List.mem_of_getElem? (i := 25) rfl))) <| ag_cons (okJ hx hZ hown (hw _ (List.mem_of_getElem? (i := 30) rfl))) <| ag_cons (okJ hx hZ hown (hw _ (List.mem_of_getElem? (i := 31) rfl))) <| ag_cons (okJ hx hZ hown (hw _ (List.mem_of_getElem? (i := 32) rfl))) <| ag_cons (okJ hx hZ hown (hw _ (List.mem_of_getElem? (i := 33) rfl))) <| ag_cons (okJ hx hZ hown (hw _ (List.mem_of_getElem? (i := 34) rfl))) <| ag_cons (okJ hx hZ hown (hw _ (List.mem_of_getElem? (i := 35) rfl))) <| ag_cons (okJ hx hZ hown (hw _ (List.mem_of_getElem? (i := 36) rfl))) <| ag_nil
/-! body 4: LabelWriteTextPinLaw.textLength(I)I -/
def E4 : List (Nat × Nat × Act) := [(7, 41, aCall 1 6 0 0 0 0 F5), (7, 45, aCall 1 6 0 0 0 0 F6)]
def F4 : List Value → AH → Option ORes := fn method_5_code 1 (Option.some Jvm.ClassFile.FieldType.int) E4 1 60
def r4 : Room := { frames := 1, cells := 0, slots := 0, locals := 19 }
theorem says4 (l : Launch) {Z : State} {a0 : Array Value} {σ : Nat → Nat} {n0 : Nat} (hsg : Sg σ 1 n0) (hw : ∀ d ∈ tables_1, d.before a0 Z = true) (hst : OwnSta Z σ) : Says l Z σ 1 n0 K (⟨"com/example/fronda/fronda/model/LabelWriteTextPinLaw", "textLength", "(I)I"⟩ : MethodName) method_5_code 1 (Option.some Jvm.ClassFile.FieldType.int) [] r4 F4 :=
  says_fn hsg (plainFor_of_name (by first | (simp [plainName, overriddenIn]; done) | decide +kernel)) fun p e s m args below meth c hx hby hml hZ hown hnm => ag_cons (okStat (W := 6) hx hZ (says5 l hsg hw hst) hown (hw _ (List.mem_of_getElem? (i := 18) rfl)) (hw _ (List.mem_of_getElem? (i := 19) rfl)) (hw _ (List.mem_of_getElem? (i := 10) rfl)) (hw _ (List.mem_of_getElem? (i := 20) rfl)) (by decide) (by decide +kernel : parseMethodDescriptor "(I)J" = some ⟨[.int], some .long⟩) rfl (by decide) (by decide) (by decide) (by decide)) <| ag_cons (okStat (W := 6) hx hZ (says6 l hsg hw hst) hown (hw _ (List.mem_of_getElem? (i := 21) rfl)) (hw _ (List.mem_of_getElem? (i := 22) rfl)) (hw _ (List.mem_of_getElem? (i := 10) rfl)) (hw _ (List.mem_of_getElem? (i := 23) rfl)) (by decide) (by decide +kernel : parseMethodDescriptor "(J)I" = some ⟨[.long], some .int⟩) rfl (by decide) (by decide) (by decide) (by decide)) <| ag_nil
/-! body 7: LabelWriteTextPinLaw.pow10(I)J -/
def E7 : List (Nat × Nat × Act) := [(13, 7, aArr .long 1 10), (2, 23, aJ (10)), (2, 25, aJ (100)), (2, 27, aJ (1000)), (2, 29, aJ (10000)), (2, 31, aJ (100000)), (2, 33, aJ (1000000)), (2, 35, aJ (10000000)), (2, 37, aJ (100000000)), (2, 39, aJ (1000000000))]
def F7 : List Value → AH → Option ORes := fn method_6_code 2 (Option.some Jvm.ClassFile.FieldType.long) E7 1 134
def r7 : Room := { frames := 0, cells := 1, slots := 10, locals := 0 }
theorem says7 (l : Launch) {Z : State} {a0 : Array Value} {σ : Nat → Nat} {n0 : Nat} (hsg : Sg σ 1 n0) (hw : ∀ d ∈ tables_1, d.before a0 Z = true) (hst : OwnSta Z σ) : Says l Z σ 1 n0 K (⟨"com/example/fronda/fronda/model/LabelWriteTextPinLaw", "pow10", "(I)J"⟩ : MethodName) method_6_code 2 (Option.some Jvm.ClassFile.FieldType.long) [] r7 F7 :=
  says_fn hsg (plainFor_of_name (by first | (simp [plainName, overriddenIn]; done) | decide +kernel)) fun p e s m args below meth c hx hby hml hZ hown hnm => ag_cons (okArr (t := .long) hx hZ hsg (hw _ (List.mem_of_getElem? (i := 29) rfl)) (by decide) (by decide)) <| ag_cons (okJ hx hZ hown (hw _ (List.mem_of_getElem? (i := 24) rfl))) <| ag_cons (okJ hx hZ hown (hw _ (List.mem_of_getElem? (i := 25) rfl))) <| ag_cons (okJ hx hZ hown (hw _ (List.mem_of_getElem? (i := 30) rfl))) <| ag_cons (okJ hx hZ hown (hw _ (List.mem_of_getElem? (i := 31) rfl))) <| ag_cons (okJ hx hZ hown (hw _ (List.mem_of_getElem? (i := 32) rfl))) <| ag_cons (okJ hx hZ hown (hw _ (List.mem_of_getElem? (i := 33) rfl))) <| ag_cons (okJ hx hZ hown (hw _ (List.mem_of_getElem? (i := 34) rfl))) <| ag_cons (okJ hx hZ hown (hw _ (List.mem_of_getElem? (i := 35) rfl))) <| ag_cons (okJ hx hZ hown (hw _ (List.mem_of_getElem? (i := 36) rfl))) <| ag_nil
/-! body 3: LabelWriteTextPinLaw.byteOk([BIII)Z -/
def E3 : List (Nat × Nat × Act) := [(7, 19, aCall 1 6 1 10 0 0 F4), (7, 41, aCall 1 6 1 10 0 0 F5), (7, 49, aCall 1 6 1 10 1 10 F7), (2, 23, aJ (10))]
def F3 : List Value → AH → Option ORes := fn method_7_code 8 (Option.some Jvm.ClassFile.FieldType.boolean) E3 1 140
def r3 : Room := { frames := 2, cells := 1, slots := 10, locals := 37 }
theorem says3 (l : Launch) {Z : State} {a0 : Array Value} {σ : Nat → Nat} {n0 : Nat} (hsg : Sg σ 1 n0) (hw : ∀ d ∈ tables_1, d.before a0 Z = true) (hst : OwnSta Z σ) : Says l Z σ 1 n0 K (⟨"com/example/fronda/fronda/model/LabelWriteTextPinLaw", "byteOk", "([BIII)Z"⟩ : MethodName) method_7_code 8 (Option.some Jvm.ClassFile.FieldType.boolean) [] r3 F3 :=
  says_fn hsg (plainFor_of_name (by first | (simp [plainName, overriddenIn]; done) | decide +kernel)) fun p e s m args below meth c hx hby hml hZ hown hnm => ag_cons (okStat (W := 6) hx hZ (says4 l hsg hw hst) hown (hw _ (List.mem_of_getElem? (i := 15) rfl)) (hw _ (List.mem_of_getElem? (i := 16) rfl)) (hw _ (List.mem_of_getElem? (i := 10) rfl)) (hw _ (List.mem_of_getElem? (i := 17) rfl)) (by decide) (by decide +kernel : parseMethodDescriptor "(I)I" = some ⟨[.int], some .int⟩) rfl (by decide) (by decide) (by decide) (by decide)) <| ag_cons (okStat (W := 6) hx hZ (says5 l hsg hw hst) hown (hw _ (List.mem_of_getElem? (i := 18) rfl)) (hw _ (List.mem_of_getElem? (i := 19) rfl)) (hw _ (List.mem_of_getElem? (i := 10) rfl)) (hw _ (List.mem_of_getElem? (i := 20) rfl)) (by decide) (by decide +kernel : parseMethodDescriptor "(I)J" = some ⟨[.int], some .long⟩) rfl (by decide) (by decide) (by decide) (by decide)) <| ag_cons (okStat (W := 6) hx hZ (says7 l hsg hw hst) hown (hw _ (List.mem_of_getElem? (i := 26) rfl)) (hw _ (List.mem_of_getElem? (i := 27) rfl)) (hw _ (List.mem_of_getElem? (i := 10) rfl)) (hw _ (List.mem_of_getElem? (i := 28) rfl)) (by decide) (by decide +kernel : parseMethodDescriptor "(I)J" = some ⟨[.int], some .long⟩) rfl (by decide) (by decide) (by decide) (by decide)) <| ag_cons (okJ hx hZ hown (hw _ (List.mem_of_getElem? (i := 24) rfl))) <| ag_nil
/-! body 2: LabelWriteTextPinLaw.checkComponent([BII)Z -/
def E2 : List (Nat × Nat × Act) := [(7, 52, aCall 4 6 11 110 1 10 F3)]
def F2 : List Value → AH → Option ORes := fn method_8_code 4 (Option.some Jvm.ClassFile.FieldType.boolean) E2 1 312
def r2 : Room := { frames := 3, cells := 11, slots := 110, locals := 62 }
theorem says2 (l : Launch) {Z : State} {a0 : Array Value} {σ : Nat → Nat} {n0 : Nat} (hsg : Sg σ 1 n0) (hw : ∀ d ∈ tables_1, d.before a0 Z = true) (hst : OwnSta Z σ) : Says l Z σ 1 n0 K (⟨"com/example/fronda/fronda/model/LabelWriteTextPinLaw", "checkComponent", "([BII)Z"⟩ : MethodName) method_8_code 4 (Option.some Jvm.ClassFile.FieldType.boolean) [] r2 F2 :=
  says_fn hsg (plainFor_of_name (by first | (simp [plainName, overriddenIn]; done) | decide +kernel)) fun p e s m args below meth c hx hby hml hZ hown hnm => ag_cons (okStat (W := 6) hx hZ (says3 l hsg hw hst) hown (hw _ (List.mem_of_getElem? (i := 12) rfl)) (hw _ (List.mem_of_getElem? (i := 13) rfl)) (hw _ (List.mem_of_getElem? (i := 10) rfl)) (hw _ (List.mem_of_getElem? (i := 14) rfl)) (by decide) (by decide +kernel : parseMethodDescriptor "([BIII)Z" = some ⟨[(.array .byte), .int, .int, .int], some .boolean⟩) rfl (by decide) (by decide) (by decide) (by decide)) <| ag_nil
/-! body 0: LabelWriteTextPinLaw.law(IIII)Z -/
def E0 : List (Nat × Nat × Act) := [(13, 6, aArr .int 56 576), (13, 4, aArr .byte 56 576), (7, 7, aCall 5 6 56 576 0 0 F1), (7, 13, aCall 3 6 56 576 11 110 F2), (7, 19, aCall 1 6 56 576 0 0 F4)]
def F0 : List Value → AH → Option ORes := fn code maxLocals ret E0 1 700
theorem says0 (l : Launch) {Z : State} {a0 : Array Value} {σ : Nat → Nat} {n0 : Nat} (hsg : Sg σ 1 n0) (hw : ∀ d ∈ tables_1, d.before a0 Z = true) (hst : OwnSta Z σ) : Says l Z σ 1 n0 K x code maxLocals ret tables_1 room_1 F0 :=
  says_fn hsg (plainFor_of_name (by first | (simp [x, plainName, overriddenIn]; done) | decide +kernel)) fun p e s m args below meth c hx hby hml hZ hown hnm => ag_cons (okArr (t := .int) hx hZ hsg (hw _ (List.mem_of_getElem? (i := 0) rfl)) (by decide) (by decide)) <| ag_cons (okArr (t := .byte) hx hZ hsg (hw _ (List.mem_of_getElem? (i := 1) rfl)) (by decide) (by decide)) <| ag_cons (okStat (W := 6) hx hZ (says1 l hsg hw hst) hown (hw _ (List.mem_of_getElem? (i := 2) rfl)) (hw _ (List.mem_of_getElem? (i := 3) rfl)) (hw _ (List.mem_of_getElem? (i := 4) rfl)) (hw _ (List.mem_of_getElem? (i := 5) rfl)) (by decide) (by decide +kernel : parseMethodDescriptor "([III[BI)I" = some ⟨[(.array .int), .int, .int, (.array .byte), .int], some .int⟩) rfl (by decide) (by decide) (by decide) (by decide)) <| ag_cons (okStat (W := 6) hx hZ (says2 l hsg hw hst) hown (hw _ (List.mem_of_getElem? (i := 8) rfl)) (hw _ (List.mem_of_getElem? (i := 9) rfl)) (hw _ (List.mem_of_getElem? (i := 10) rfl)) (hw _ (List.mem_of_getElem? (i := 11) rfl)) (by decide) (by decide +kernel : parseMethodDescriptor "([BII)Z" = some ⟨[(.array .byte), .int, .int], some .boolean⟩) rfl (by decide) (by decide) (by decide) (by decide)) <| ag_cons (okStat (W := 6) hx hZ (says4 l hsg hw hst) hown (hw _ (List.mem_of_getElem? (i := 15) rfl)) (hw _ (List.mem_of_getElem? (i := 16) rfl)) (hw _ (List.mem_of_getElem? (i := 10) rfl)) (hw _ (List.mem_of_getElem? (i := 17) rfl)) (by decide) (by decide +kernel : parseMethodDescriptor "(I)I" = some ⟨[.int], some .int⟩) rfl (by decide) (by decide) (by decide) (by decide)) <| ag_nil
theorem f1_in {x0 : Nat} {x1 : Int32} {x2 : Int32} {x3 : Nat} {x4 : Int32} {H : AH} : F1 [.ref x0, .int x1, .int x2, .ref x3, .int x4] H = orun prog_96_method_10_code (Option.some Jvm.ClassFile.FieldType.int) E1 1 2000 (0, [.val (.ref x0), .val (.int x1), .val (.int x2), .val (.ref x3), .val (.int x4), .unset, .unset, .unset, .unset, .unset, .unset, .unset], [], H, 0, 0) := rfl
theorem s1_0 {n cs ss : Nat} {L : List Slot} {S : List Value} {H : AH} : orun prog_96_method_10_code (Option.some Jvm.ClassFile.FieldType.int) E1 1 (n + 1) (0, L, S, H, cs, ss) = (gI L 4).bind fun v => orun prog_96_method_10_code (Option.some Jvm.ClassFile.FieldType.int) E1 1 n (2, L, .int v :: S, H, cs, ss) := s_any k1_0
theorem s1_2 {n cs ss : Nat} {L : List Slot} {S : List Value} {H : AH} : orun prog_96_method_10_code (Option.some Jvm.ClassFile.FieldType.int) E1 1 (n + 1) (2, L, S, H, cs, ss) = pI S fun x r => (st1 L 5 (.int x)).bind fun L' => orun prog_96_method_10_code (Option.some Jvm.ClassFile.FieldType.int) E1 1 n (4, L', r, H, cs, ss) := s_any k1_2
theorem s1_4 {n cs ss : Nat} {L : List Slot} {S : List Value} {H : AH} : orun prog_96_method_10_code (Option.some Jvm.ClassFile.FieldType.int) E1 1 (n + 1) (4, L, S, H, cs, ss) = (gI L 1).bind fun v => orun prog_96_method_10_code (Option.some Jvm.ClassFile.FieldType.int) E1 1 n (5, L, .int v :: S, H, cs, ss) := s_any k1_4
theorem s1_5 {n cs ss : Nat} {L : List Slot} {S : List Value} {H : AH} : orun prog_96_method_10_code (Option.some Jvm.ClassFile.FieldType.int) E1 1 (n + 1) (5, L, S, H, cs, ss) = pI S fun x r => (st1 L 6 (.int x)).bind fun L' => orun prog_96_method_10_code (Option.some Jvm.ClassFile.FieldType.int) E1 1 n (7, L', r, H, cs, ss) := s_any k1_5
theorem s1_7 {n cs ss : Nat} {L : List Slot} {S : List Value} {H : AH} : orun prog_96_method_10_code (Option.some Jvm.ClassFile.FieldType.int) E1 1 (n + 1) (7, L, S, H, cs, ss) = (gI L 6).bind fun v => orun prog_96_method_10_code (Option.some Jvm.ClassFile.FieldType.int) E1 1 n (9, L, .int v :: S, H, cs, ss) := s_any k1_7
theorem s1_9 {n cs ss : Nat} {L : List Slot} {S : List Value} {H : AH} : orun prog_96_method_10_code (Option.some Jvm.ClassFile.FieldType.int) E1 1 (n + 1) (9, L, S, H, cs, ss) = (gI L 2).bind fun v => orun prog_96_method_10_code (Option.some Jvm.ClassFile.FieldType.int) E1 1 n (10, L, .int v :: S, H, cs, ss) := s_any k1_9
theorem s1_10 {n cs ss : Nat} {L : List Slot} {S : List Value} {H : AH} : orun prog_96_method_10_code (Option.some Jvm.ClassFile.FieldType.int) E1 1 (n + 1) (10, L, S, H, cs, ss) = pI S fun y S => pI S fun x r => if x < y then orun prog_96_method_10_code (Option.some Jvm.ClassFile.FieldType.int) E1 1 n (13, L, r, H, cs, ss) else orun prog_96_method_10_code (Option.some Jvm.ClassFile.FieldType.int) E1 1 n (150, L, r, H, cs, ss) := s_icmpN (Q := fun x y => x < y) (fun _ _ => h_ge) k1_10 (by decide) (by decide)
theorem s1_13 {n cs ss : Nat} {L : List Slot} {S : List Value} {H : AH} : orun prog_96_method_10_code (Option.some Jvm.ClassFile.FieldType.int) E1 1 (n + 1) (13, L, S, H, cs, ss) = (gI L 6).bind fun v => orun prog_96_method_10_code (Option.some Jvm.ClassFile.FieldType.int) E1 1 n (15, L, .int v :: S, H, cs, ss) := s_any k1_13
theorem s1_15 {n cs ss : Nat} {L : List Slot} {S : List Value} {H : AH} : orun prog_96_method_10_code (Option.some Jvm.ClassFile.FieldType.int) E1 1 (n + 1) (15, L, S, H, cs, ss) = (gI L 1).bind fun v => orun prog_96_method_10_code (Option.some Jvm.ClassFile.FieldType.int) E1 1 n (16, L, .int v :: S, H, cs, ss) := s_any k1_15
theorem s1_16 {n cs ss : Nat} {L : List Slot} {S : List Value} {H : AH} : orun prog_96_method_10_code (Option.some Jvm.ClassFile.FieldType.int) E1 1 (n + 1) (16, L, S, H, cs, ss) = pI S fun y S => pI S fun x r => if y < x then orun prog_96_method_10_code (Option.some Jvm.ClassFile.FieldType.int) E1 1 n (19, L, r, H, cs, ss) else orun prog_96_method_10_code (Option.some Jvm.ClassFile.FieldType.int) E1 1 n (28, L, r, H, cs, ss) := s_icmpN (Q := fun x y => y < x) (fun _ _ => h_le) k1_16 (by decide) (by decide)
theorem s1_19 {n cs ss : Nat} {L : List Slot} {S : List Value} {H : AH} : orun prog_96_method_10_code (Option.some Jvm.ClassFile.FieldType.int) E1 1 (n + 1) (19, L, S, H, cs, ss) = (gA L 3).bind fun v => orun prog_96_method_10_code (Option.some Jvm.ClassFile.FieldType.int) E1 1 n (20, L, v :: S, H, cs, ss) := s_any k1_19
theorem s1_20 {n cs ss : Nat} {L : List Slot} {S : List Value} {H : AH} : orun prog_96_method_10_code (Option.some Jvm.ClassFile.FieldType.int) E1 1 (n + 1) (20, L, S, H, cs, ss) = (gI L 5).bind fun v => orun prog_96_method_10_code (Option.some Jvm.ClassFile.FieldType.int) E1 1 n (22, L, .int v :: S, H, cs, ss) := s_any k1_20
theorem s1_22 {n cs ss : Nat} {L : List Slot} {S : List Value} {H : AH} : orun prog_96_method_10_code (Option.some Jvm.ClassFile.FieldType.int) E1 1 (n + 1) (22, L, S, H, cs, ss) = (gI L 5).bind fun v => (st1 L 5 (.int (v + 1))).bind fun L' => orun prog_96_method_10_code (Option.some Jvm.ClassFile.FieldType.int) E1 1 n (25, L', S, H, cs, ss) := s_any k1_22
theorem s1_25 {n cs ss : Nat} {L : List Slot} {S : List Value} {H : AH} : orun prog_96_method_10_code (Option.some Jvm.ClassFile.FieldType.int) E1 1 (n + 1) (25, L, S, H, cs, ss) = orun prog_96_method_10_code (Option.some Jvm.ClassFile.FieldType.int) E1 1 n (27, L, (.int 46 :: S), H, cs, ss) := s_any k1_25
theorem s1_27 {n cs ss : Nat} {L : List Slot} {S : List Value} {H : AH} : orun prog_96_method_10_code (Option.some Jvm.ClassFile.FieldType.int) E1 1 (n + 1) (27, L, S, H, cs, ss) = ex (Option.some Jvm.ClassFile.FieldType.int) E1 1 (orun prog_96_method_10_code (Option.some Jvm.ClassFile.FieldType.int) E1 1 n) (.bastore) 27 L S H cs ss := s_any k1_27
theorem s1_28 {n cs ss : Nat} {L : List Slot} {S : List Value} {H : AH} : orun prog_96_method_10_code (Option.some Jvm.ClassFile.FieldType.int) E1 1 (n + 1) (28, L, S, H, cs, ss) = (gA L 0).bind fun v => orun prog_96_method_10_code (Option.some Jvm.ClassFile.FieldType.int) E1 1 n (29, L, v :: S, H, cs, ss) := s_any k1_28
theorem s1_29 {n cs ss : Nat} {L : List Slot} {S : List Value} {H : AH} : orun prog_96_method_10_code (Option.some Jvm.ClassFile.FieldType.int) E1 1 (n + 1) (29, L, S, H, cs, ss) = (gI L 6).bind fun v => orun prog_96_method_10_code (Option.some Jvm.ClassFile.FieldType.int) E1 1 n (31, L, .int v :: S, H, cs, ss) := s_any k1_29
theorem s1_31 {n cs ss : Nat} {L : List Slot} {S : List Value} {H : AH} : orun prog_96_method_10_code (Option.some Jvm.ClassFile.FieldType.int) E1 1 (n + 1) (31, L, S, H, cs, ss) = ex (Option.some Jvm.ClassFile.FieldType.int) E1 1 (orun prog_96_method_10_code (Option.some Jvm.ClassFile.FieldType.int) E1 1 n) (.iaload) 31 L S H cs ss := s_any k1_31
theorem s1_32 {n cs ss : Nat} {L : List Slot} {S : List Value} {H : AH} : orun prog_96_method_10_code (Option.some Jvm.ClassFile.FieldType.int) E1 1 (n + 1) (32, L, S, H, cs, ss) = pI S fun x r => (st1 L 7 (.int x)).bind fun L' => orun prog_96_method_10_code (Option.some Jvm.ClassFile.FieldType.int) E1 1 n (34, L', r, H, cs, ss) := s_any k1_32
theorem s1_34 {n cs ss : Nat} {L : List Slot} {S : List Value} {H : AH} : orun prog_96_method_10_code (Option.some Jvm.ClassFile.FieldType.int) E1 1 (n + 1) (34, L, S, H, cs, ss) = (gI L 7).bind fun v => orun prog_96_method_10_code (Option.some Jvm.ClassFile.FieldType.int) E1 1 n (36, L, .int v :: S, H, cs, ss) := s_any k1_34
theorem s1_36 {n cs ss : Nat} {L : List Slot} {S : List Value} {H : AH} : orun prog_96_method_10_code (Option.some Jvm.ClassFile.FieldType.int) E1 1 (n + 1) (36, L, S, H, cs, ss) = pI S fun x r => if x < 0 then orun prog_96_method_10_code (Option.some Jvm.ClassFile.FieldType.int) E1 1 n (39, L, r, H, cs, ss) else orun prog_96_method_10_code (Option.some Jvm.ClassFile.FieldType.int) E1 1 n (48, L, r, H, cs, ss) := s_ifN (Q := fun x => x < 0) (fun _ => z_ge) k1_36 (by decide) (by decide)
theorem s1_39 {n cs ss : Nat} {L : List Slot} {S : List Value} {H : AH} : orun prog_96_method_10_code (Option.some Jvm.ClassFile.FieldType.int) E1 1 (n + 1) (39, L, S, H, cs, ss) = (gA L 3).bind fun v => orun prog_96_method_10_code (Option.some Jvm.ClassFile.FieldType.int) E1 1 n (40, L, v :: S, H, cs, ss) := s_any k1_39
theorem s1_40 {n cs ss : Nat} {L : List Slot} {S : List Value} {H : AH} : orun prog_96_method_10_code (Option.some Jvm.ClassFile.FieldType.int) E1 1 (n + 1) (40, L, S, H, cs, ss) = (gI L 5).bind fun v => orun prog_96_method_10_code (Option.some Jvm.ClassFile.FieldType.int) E1 1 n (42, L, .int v :: S, H, cs, ss) := s_any k1_40
theorem s1_42 {n cs ss : Nat} {L : List Slot} {S : List Value} {H : AH} : orun prog_96_method_10_code (Option.some Jvm.ClassFile.FieldType.int) E1 1 (n + 1) (42, L, S, H, cs, ss) = (gI L 5).bind fun v => (st1 L 5 (.int (v + 1))).bind fun L' => orun prog_96_method_10_code (Option.some Jvm.ClassFile.FieldType.int) E1 1 n (45, L', S, H, cs, ss) := s_any k1_42
theorem s1_45 {n cs ss : Nat} {L : List Slot} {S : List Value} {H : AH} : orun prog_96_method_10_code (Option.some Jvm.ClassFile.FieldType.int) E1 1 (n + 1) (45, L, S, H, cs, ss) = orun prog_96_method_10_code (Option.some Jvm.ClassFile.FieldType.int) E1 1 n (47, L, (.int 45 :: S), H, cs, ss) := s_any k1_45
theorem s1_47 {n cs ss : Nat} {L : List Slot} {S : List Value} {H : AH} : orun prog_96_method_10_code (Option.some Jvm.ClassFile.FieldType.int) E1 1 (n + 1) (47, L, S, H, cs, ss) = ex (Option.some Jvm.ClassFile.FieldType.int) E1 1 (orun prog_96_method_10_code (Option.some Jvm.ClassFile.FieldType.int) E1 1 n) (.bastore) 47 L S H cs ss := s_any k1_47
theorem s1_48 {n cs ss : Nat} {L : List Slot} {S : List Value} {H : AH} : orun prog_96_method_10_code (Option.some Jvm.ClassFile.FieldType.int) E1 1 (n + 1) (48, L, S, H, cs, ss) = (gI L 7).bind fun v => orun prog_96_method_10_code (Option.some Jvm.ClassFile.FieldType.int) E1 1 n (50, L, .int v :: S, H, cs, ss) := s_any k1_48
theorem s1_50 {n cs ss : Nat} {L : List Slot} {S : List Value} {H : AH} : orun prog_96_method_10_code (Option.some Jvm.ClassFile.FieldType.int) E1 1 (n + 1) (50, L, S, H, cs, ss) = pI S fun x r => if x < 0 then orun prog_96_method_10_code (Option.some Jvm.ClassFile.FieldType.int) E1 1 n (53, L, r, H, cs, ss) else orun prog_96_method_10_code (Option.some Jvm.ClassFile.FieldType.int) E1 1 n (58, L, r, H, cs, ss) := s_ifN (Q := fun x => x < 0) (fun _ => z_ge) k1_50 (by decide) (by decide)
theorem s1_53 {n cs ss : Nat} {L : List Slot} {S : List Value} {H : AH} : orun prog_96_method_10_code (Option.some Jvm.ClassFile.FieldType.int) E1 1 (n + 1) (53, L, S, H, cs, ss) = (gI L 7).bind fun v => orun prog_96_method_10_code (Option.some Jvm.ClassFile.FieldType.int) E1 1 n (55, L, .int v :: S, H, cs, ss) := s_any k1_53
theorem s1_55 {n cs ss : Nat} {L : List Slot} {S : List Value} {H : AH} : orun prog_96_method_10_code (Option.some Jvm.ClassFile.FieldType.int) E1 1 (n + 1) (55, L, S, H, cs, ss) = orun prog_96_method_10_code (Option.some Jvm.ClassFile.FieldType.int) E1 1 n (61, L, S, H, cs, ss) := s_goto k1_55 (by decide) (by decide)
theorem s1_58 {n cs ss : Nat} {L : List Slot} {S : List Value} {H : AH} : orun prog_96_method_10_code (Option.some Jvm.ClassFile.FieldType.int) E1 1 (n + 1) (58, L, S, H, cs, ss) = (gI L 7).bind fun v => orun prog_96_method_10_code (Option.some Jvm.ClassFile.FieldType.int) E1 1 n (60, L, .int v :: S, H, cs, ss) := s_any k1_58
theorem s1_60 {n cs ss : Nat} {L : List Slot} {S : List Value} {H : AH} : orun prog_96_method_10_code (Option.some Jvm.ClassFile.FieldType.int) E1 1 (n + 1) (60, L, S, H, cs, ss) = ex (Option.some Jvm.ClassFile.FieldType.int) E1 1 (orun prog_96_method_10_code (Option.some Jvm.ClassFile.FieldType.int) E1 1 n) (.ineg) 60 L S H cs ss := s_any k1_60
theorem s1_61 {n cs ss : Nat} {L : List Slot} {S : List Value} {H : AH} : orun prog_96_method_10_code (Option.some Jvm.ClassFile.FieldType.int) E1 1 (n + 1) (61, L, S, H, cs, ss) = pI S fun x r => (st1 L 8 (.int x)).bind fun L' => orun prog_96_method_10_code (Option.some Jvm.ClassFile.FieldType.int) E1 1 n (63, L', r, H, cs, ss) := s_any k1_61
theorem s1_63 {n cs ss : Nat} {L : List Slot} {S : List Value} {H : AH} : orun prog_96_method_10_code (Option.some Jvm.ClassFile.FieldType.int) E1 1 (n + 1) (63, L, S, H, cs, ss) = orun prog_96_method_10_code (Option.some Jvm.ClassFile.FieldType.int) E1 1 n (64, L, (.int 1 :: S), H, cs, ss) := s_any k1_63
theorem s1_64 {n cs ss : Nat} {L : List Slot} {S : List Value} {H : AH} : orun prog_96_method_10_code (Option.some Jvm.ClassFile.FieldType.int) E1 1 (n + 1) (64, L, S, H, cs, ss) = pI S fun x r => (st1 L 9 (.int x)).bind fun L' => orun prog_96_method_10_code (Option.some Jvm.ClassFile.FieldType.int) E1 1 n (66, L', r, H, cs, ss) := s_any k1_64
theorem s1_66 {n cs ss : Nat} {L : List Slot} {S : List Value} {H : AH} : orun prog_96_method_10_code (Option.some Jvm.ClassFile.FieldType.int) E1 1 (n + 1) (66, L, S, H, cs, ss) = (gI L 9).bind fun v => orun prog_96_method_10_code (Option.some Jvm.ClassFile.FieldType.int) E1 1 n (68, L, .int v :: S, H, cs, ss) := s_any k1_66
theorem s1_68 {n cs ss : Nat} {L : List Slot} {S : List Value} {H : AH} : orun prog_96_method_10_code (Option.some Jvm.ClassFile.FieldType.int) E1 1 (n + 1) (68, L, S, H, cs, ss) = orun prog_96_method_10_code (Option.some Jvm.ClassFile.FieldType.int) E1 1 n (70, L, (.int 10 :: S), H, cs, ss) := s_any k1_68
theorem s1_70 {n cs ss : Nat} {L : List Slot} {S : List Value} {H : AH} : orun prog_96_method_10_code (Option.some Jvm.ClassFile.FieldType.int) E1 1 (n + 1) (70, L, S, H, cs, ss) = pI S fun y S => pI S fun x r => if x < y then orun prog_96_method_10_code (Option.some Jvm.ClassFile.FieldType.int) E1 1 n (73, L, r, H, cs, ss) else orun prog_96_method_10_code (Option.some Jvm.ClassFile.FieldType.int) E1 1 n (91, L, r, H, cs, ss) := s_icmpN (Q := fun x y => x < y) (fun _ _ => h_ge) k1_70 (by decide) (by decide)
theorem s1_73 {n cs ss : Nat} {L : List Slot} {S : List Value} {H : AH} : orun prog_96_method_10_code (Option.some Jvm.ClassFile.FieldType.int) E1 1 (n + 1) (73, L, S, H, cs, ss) = (gI L 8).bind fun v => orun prog_96_method_10_code (Option.some Jvm.ClassFile.FieldType.int) E1 1 n (75, L, .int v :: S, H, cs, ss) := s_any k1_73
theorem s1_75 {n cs ss : Nat} {L : List Slot} {S : List Value} {H : AH} : orun prog_96_method_10_code (Option.some Jvm.ClassFile.FieldType.int) E1 1 (n + 1) (75, L, S, H, cs, ss) = (aSta (.ref 0) S H cs ss).bind fun r => orun prog_96_method_10_code (Option.some Jvm.ClassFile.FieldType.int) E1 1 n (78, L, r.1, r.2.1, r.2.2.1, r.2.2.2) := s_any k1_75
theorem s1_78 {n cs ss : Nat} {L : List Slot} {S : List Value} {H : AH} : orun prog_96_method_10_code (Option.some Jvm.ClassFile.FieldType.int) E1 1 (n + 1) (78, L, S, H, cs, ss) = (gI L 9).bind fun v => orun prog_96_method_10_code (Option.some Jvm.ClassFile.FieldType.int) E1 1 n (80, L, .int v :: S, H, cs, ss) := s_any k1_78
theorem s1_80 {n cs ss : Nat} {L : List Slot} {S : List Value} {H : AH} : orun prog_96_method_10_code (Option.some Jvm.ClassFile.FieldType.int) E1 1 (n + 1) (80, L, S, H, cs, ss) = ex (Option.some Jvm.ClassFile.FieldType.int) E1 1 (orun prog_96_method_10_code (Option.some Jvm.ClassFile.FieldType.int) E1 1 n) (.iaload) 80 L S H cs ss := s_any k1_80
theorem s1_81 {n cs ss : Nat} {L : List Slot} {S : List Value} {H : AH} : orun prog_96_method_10_code (Option.some Jvm.ClassFile.FieldType.int) E1 1 (n + 1) (81, L, S, H, cs, ss) = ex (Option.some Jvm.ClassFile.FieldType.int) E1 1 (orun prog_96_method_10_code (Option.some Jvm.ClassFile.FieldType.int) E1 1 n) (.ineg) 81 L S H cs ss := s_any k1_81
theorem s1_82 {n cs ss : Nat} {L : List Slot} {S : List Value} {H : AH} : orun prog_96_method_10_code (Option.some Jvm.ClassFile.FieldType.int) E1 1 (n + 1) (82, L, S, H, cs, ss) = pI S fun y S => pI S fun x r => if y < x then orun prog_96_method_10_code (Option.some Jvm.ClassFile.FieldType.int) E1 1 n (91, L, r, H, cs, ss) else orun prog_96_method_10_code (Option.some Jvm.ClassFile.FieldType.int) E1 1 n (85, L, r, H, cs, ss) := s_icmp (Q := fun x y => y < x) (fun _ _ => h_gt) k1_82 (by decide) (by decide)
theorem s1_85 {n cs ss : Nat} {L : List Slot} {S : List Value} {H : AH} : orun prog_96_method_10_code (Option.some Jvm.ClassFile.FieldType.int) E1 1 (n + 1) (85, L, S, H, cs, ss) = (gI L 9).bind fun v => (st1 L 9 (.int (v + 1))).bind fun L' => orun prog_96_method_10_code (Option.some Jvm.ClassFile.FieldType.int) E1 1 n (88, L', S, H, cs, ss) := s_any k1_85
theorem s1_88 {n cs ss : Nat} {L : List Slot} {S : List Value} {H : AH} : orun prog_96_method_10_code (Option.some Jvm.ClassFile.FieldType.int) E1 1 (n + 1) (88, L, S, H, cs, ss) = orun prog_96_method_10_code (Option.some Jvm.ClassFile.FieldType.int) E1 1 n (66, L, S, H, cs, ss) := s_goto k1_88 (by decide) (by decide)
theorem s1_91 {n cs ss : Nat} {L : List Slot} {S : List Value} {H : AH} : orun prog_96_method_10_code (Option.some Jvm.ClassFile.FieldType.int) E1 1 (n + 1) (91, L, S, H, cs, ss) = (gI L 5).bind fun v => orun prog_96_method_10_code (Option.some Jvm.ClassFile.FieldType.int) E1 1 n (93, L, .int v :: S, H, cs, ss) := s_any k1_91
theorem s1_93 {n cs ss : Nat} {L : List Slot} {S : List Value} {H : AH} : orun prog_96_method_10_code (Option.some Jvm.ClassFile.FieldType.int) E1 1 (n + 1) (93, L, S, H, cs, ss) = (gI L 9).bind fun v => orun prog_96_method_10_code (Option.some Jvm.ClassFile.FieldType.int) E1 1 n (95, L, .int v :: S, H, cs, ss) := s_any k1_93
theorem s1_95 {n cs ss : Nat} {L : List Slot} {S : List Value} {H : AH} : orun prog_96_method_10_code (Option.some Jvm.ClassFile.FieldType.int) E1 1 (n + 1) (95, L, S, H, cs, ss) = pI S fun y S => pI S fun x r => orun prog_96_method_10_code (Option.some Jvm.ClassFile.FieldType.int) E1 1 n (96, L, .int (x + y) :: r, H, cs, ss) := s_any k1_95
theorem s1_96 {n cs ss : Nat} {L : List Slot} {S : List Value} {H : AH} : orun prog_96_method_10_code (Option.some Jvm.ClassFile.FieldType.int) E1 1 (n + 1) (96, L, S, H, cs, ss) = pI S fun x r => (st1 L 5 (.int x)).bind fun L' => orun prog_96_method_10_code (Option.some Jvm.ClassFile.FieldType.int) E1 1 n (98, L', r, H, cs, ss) := s_any k1_96
theorem s1_98 {n cs ss : Nat} {L : List Slot} {S : List Value} {H : AH} : orun prog_96_method_10_code (Option.some Jvm.ClassFile.FieldType.int) E1 1 (n + 1) (98, L, S, H, cs, ss) = (gI L 8).bind fun v => orun prog_96_method_10_code (Option.some Jvm.ClassFile.FieldType.int) E1 1 n (100, L, .int v :: S, H, cs, ss) := s_any k1_98
theorem s1_100 {n cs ss : Nat} {L : List Slot} {S : List Value} {H : AH} : orun prog_96_method_10_code (Option.some Jvm.ClassFile.FieldType.int) E1 1 (n + 1) (100, L, S, H, cs, ss) = pI S fun x r => (st1 L 10 (.int x)).bind fun L' => orun prog_96_method_10_code (Option.some Jvm.ClassFile.FieldType.int) E1 1 n (102, L', r, H, cs, ss) := s_any k1_100
theorem s1_102 {n cs ss : Nat} {L : List Slot} {S : List Value} {H : AH} : orun prog_96_method_10_code (Option.some Jvm.ClassFile.FieldType.int) E1 1 (n + 1) (102, L, S, H, cs, ss) = (gI L 5).bind fun v => orun prog_96_method_10_code (Option.some Jvm.ClassFile.FieldType.int) E1 1 n (104, L, .int v :: S, H, cs, ss) := s_any k1_102
theorem s1_104 {n cs ss : Nat} {L : List Slot} {S : List Value} {H : AH} : orun prog_96_method_10_code (Option.some Jvm.ClassFile.FieldType.int) E1 1 (n + 1) (104, L, S, H, cs, ss) = orun prog_96_method_10_code (Option.some Jvm.ClassFile.FieldType.int) E1 1 n (105, L, (.int 1 :: S), H, cs, ss) := s_any k1_104
theorem s1_105 {n cs ss : Nat} {L : List Slot} {S : List Value} {H : AH} : orun prog_96_method_10_code (Option.some Jvm.ClassFile.FieldType.int) E1 1 (n + 1) (105, L, S, H, cs, ss) = pI S fun y S => pI S fun x r => orun prog_96_method_10_code (Option.some Jvm.ClassFile.FieldType.int) E1 1 n (106, L, .int (x - y) :: r, H, cs, ss) := s_any k1_105
theorem s1_106 {n cs ss : Nat} {L : List Slot} {S : List Value} {H : AH} : orun prog_96_method_10_code (Option.some Jvm.ClassFile.FieldType.int) E1 1 (n + 1) (106, L, S, H, cs, ss) = pI S fun x r => (st1 L 11 (.int x)).bind fun L' => orun prog_96_method_10_code (Option.some Jvm.ClassFile.FieldType.int) E1 1 n (108, L', r, H, cs, ss) := s_any k1_106
theorem s1_108 {n cs ss : Nat} {L : List Slot} {S : List Value} {H : AH} : orun prog_96_method_10_code (Option.some Jvm.ClassFile.FieldType.int) E1 1 (n + 1) (108, L, S, H, cs, ss) = (gI L 11).bind fun v => orun prog_96_method_10_code (Option.some Jvm.ClassFile.FieldType.int) E1 1 n (110, L, .int v :: S, H, cs, ss) := s_any k1_108
theorem s1_110 {n cs ss : Nat} {L : List Slot} {S : List Value} {H : AH} : orun prog_96_method_10_code (Option.some Jvm.ClassFile.FieldType.int) E1 1 (n + 1) (110, L, S, H, cs, ss) = (gI L 5).bind fun v => orun prog_96_method_10_code (Option.some Jvm.ClassFile.FieldType.int) E1 1 n (112, L, .int v :: S, H, cs, ss) := s_any k1_110
theorem s1_112 {n cs ss : Nat} {L : List Slot} {S : List Value} {H : AH} : orun prog_96_method_10_code (Option.some Jvm.ClassFile.FieldType.int) E1 1 (n + 1) (112, L, S, H, cs, ss) = (gI L 9).bind fun v => orun prog_96_method_10_code (Option.some Jvm.ClassFile.FieldType.int) E1 1 n (114, L, .int v :: S, H, cs, ss) := s_any k1_112
theorem s1_114 {n cs ss : Nat} {L : List Slot} {S : List Value} {H : AH} : orun prog_96_method_10_code (Option.some Jvm.ClassFile.FieldType.int) E1 1 (n + 1) (114, L, S, H, cs, ss) = pI S fun y S => pI S fun x r => orun prog_96_method_10_code (Option.some Jvm.ClassFile.FieldType.int) E1 1 n (115, L, .int (x - y) :: r, H, cs, ss) := s_any k1_114
theorem s1_115 {n cs ss : Nat} {L : List Slot} {S : List Value} {H : AH} : orun prog_96_method_10_code (Option.some Jvm.ClassFile.FieldType.int) E1 1 (n + 1) (115, L, S, H, cs, ss) = pI S fun y S => pI S fun x r => if x < y then orun prog_96_method_10_code (Option.some Jvm.ClassFile.FieldType.int) E1 1 n (144, L, r, H, cs, ss) else orun prog_96_method_10_code (Option.some Jvm.ClassFile.FieldType.int) E1 1 n (118, L, r, H, cs, ss) := s_icmp (Q := fun x y => x < y) (fun _ _ => h_lt) k1_115 (by decide) (by decide)
theorem s1_118 {n cs ss : Nat} {L : List Slot} {S : List Value} {H : AH} : orun prog_96_method_10_code (Option.some Jvm.ClassFile.FieldType.int) E1 1 (n + 1) (118, L, S, H, cs, ss) = (gA L 3).bind fun v => orun prog_96_method_10_code (Option.some Jvm.ClassFile.FieldType.int) E1 1 n (119, L, v :: S, H, cs, ss) := s_any k1_118
theorem s1_119 {n cs ss : Nat} {L : List Slot} {S : List Value} {H : AH} : orun prog_96_method_10_code (Option.some Jvm.ClassFile.FieldType.int) E1 1 (n + 1) (119, L, S, H, cs, ss) = (gI L 11).bind fun v => orun prog_96_method_10_code (Option.some Jvm.ClassFile.FieldType.int) E1 1 n (121, L, .int v :: S, H, cs, ss) := s_any k1_119
theorem s1_121 {n cs ss : Nat} {L : List Slot} {S : List Value} {H : AH} : orun prog_96_method_10_code (Option.some Jvm.ClassFile.FieldType.int) E1 1 (n + 1) (121, L, S, H, cs, ss) = orun prog_96_method_10_code (Option.some Jvm.ClassFile.FieldType.int) E1 1 n (123, L, (.int 48 :: S), H, cs, ss) := s_any k1_121
theorem s1_123 {n cs ss : Nat} {L : List Slot} {S : List Value} {H : AH} : orun prog_96_method_10_code (Option.some Jvm.ClassFile.FieldType.int) E1 1 (n + 1) (123, L, S, H, cs, ss) = (gI L 10).bind fun v => orun prog_96_method_10_code (Option.some Jvm.ClassFile.FieldType.int) E1 1 n (125, L, .int v :: S, H, cs, ss) := s_any k1_123
theorem s1_125 {n cs ss : Nat} {L : List Slot} {S : List Value} {H : AH} : orun prog_96_method_10_code (Option.some Jvm.ClassFile.FieldType.int) E1 1 (n + 1) (125, L, S, H, cs, ss) = orun prog_96_method_10_code (Option.some Jvm.ClassFile.FieldType.int) E1 1 n (127, L, (.int 10 :: S), H, cs, ss) := s_any k1_125
theorem s1_127 {n cs ss : Nat} {L : List Slot} {S : List Value} {H : AH} : orun prog_96_method_10_code (Option.some Jvm.ClassFile.FieldType.int) E1 1 (n + 1) (127, L, S, H, cs, ss) = ex (Option.some Jvm.ClassFile.FieldType.int) E1 1 (orun prog_96_method_10_code (Option.some Jvm.ClassFile.FieldType.int) E1 1 n) (.irem) 127 L S H cs ss := s_any k1_127
theorem s1_128 {n cs ss : Nat} {L : List Slot} {S : List Value} {H : AH} : orun prog_96_method_10_code (Option.some Jvm.ClassFile.FieldType.int) E1 1 (n + 1) (128, L, S, H, cs, ss) = pI S fun y S => pI S fun x r => orun prog_96_method_10_code (Option.some Jvm.ClassFile.FieldType.int) E1 1 n (129, L, .int (x - y) :: r, H, cs, ss) := s_any k1_128
theorem s1_129 {n cs ss : Nat} {L : List Slot} {S : List Value} {H : AH} : orun prog_96_method_10_code (Option.some Jvm.ClassFile.FieldType.int) E1 1 (n + 1) (129, L, S, H, cs, ss) = ex (Option.some Jvm.ClassFile.FieldType.int) E1 1 (orun prog_96_method_10_code (Option.some Jvm.ClassFile.FieldType.int) E1 1 n) (.i2b) 129 L S H cs ss := s_any k1_129
theorem s1_130 {n cs ss : Nat} {L : List Slot} {S : List Value} {H : AH} : orun prog_96_method_10_code (Option.some Jvm.ClassFile.FieldType.int) E1 1 (n + 1) (130, L, S, H, cs, ss) = ex (Option.some Jvm.ClassFile.FieldType.int) E1 1 (orun prog_96_method_10_code (Option.some Jvm.ClassFile.FieldType.int) E1 1 n) (.bastore) 130 L S H cs ss := s_any k1_130
theorem s1_131 {n cs ss : Nat} {L : List Slot} {S : List Value} {H : AH} : orun prog_96_method_10_code (Option.some Jvm.ClassFile.FieldType.int) E1 1 (n + 1) (131, L, S, H, cs, ss) = (gI L 10).bind fun v => orun prog_96_method_10_code (Option.some Jvm.ClassFile.FieldType.int) E1 1 n (133, L, .int v :: S, H, cs, ss) := s_any k1_131
theorem s1_133 {n cs ss : Nat} {L : List Slot} {S : List Value} {H : AH} : orun prog_96_method_10_code (Option.some Jvm.ClassFile.FieldType.int) E1 1 (n + 1) (133, L, S, H, cs, ss) = orun prog_96_method_10_code (Option.some Jvm.ClassFile.FieldType.int) E1 1 n (135, L, (.int 10 :: S), H, cs, ss) := s_any k1_133
theorem s1_135 {n cs ss : Nat} {L : List Slot} {S : List Value} {H : AH} : orun prog_96_method_10_code (Option.some Jvm.ClassFile.FieldType.int) E1 1 (n + 1) (135, L, S, H, cs, ss) = ex (Option.some Jvm.ClassFile.FieldType.int) E1 1 (orun prog_96_method_10_code (Option.some Jvm.ClassFile.FieldType.int) E1 1 n) (.idiv) 135 L S H cs ss := s_any k1_135
theorem s1_136 {n cs ss : Nat} {L : List Slot} {S : List Value} {H : AH} : orun prog_96_method_10_code (Option.some Jvm.ClassFile.FieldType.int) E1 1 (n + 1) (136, L, S, H, cs, ss) = pI S fun x r => (st1 L 10 (.int x)).bind fun L' => orun prog_96_method_10_code (Option.some Jvm.ClassFile.FieldType.int) E1 1 n (138, L', r, H, cs, ss) := s_any k1_136
theorem s1_138 {n cs ss : Nat} {L : List Slot} {S : List Value} {H : AH} : orun prog_96_method_10_code (Option.some Jvm.ClassFile.FieldType.int) E1 1 (n + 1) (138, L, S, H, cs, ss) = (gI L 11).bind fun v => (st1 L 11 (.int (v + (-1)))).bind fun L' => orun prog_96_method_10_code (Option.some Jvm.ClassFile.FieldType.int) E1 1 n (141, L', S, H, cs, ss) := s_any k1_138
theorem s1_141 {n cs ss : Nat} {L : List Slot} {S : List Value} {H : AH} : orun prog_96_method_10_code (Option.some Jvm.ClassFile.FieldType.int) E1 1 (n + 1) (141, L, S, H, cs, ss) = orun prog_96_method_10_code (Option.some Jvm.ClassFile.FieldType.int) E1 1 n (108, L, S, H, cs, ss) := s_goto k1_141 (by decide) (by decide)
theorem s1_144 {n cs ss : Nat} {L : List Slot} {S : List Value} {H : AH} : orun prog_96_method_10_code (Option.some Jvm.ClassFile.FieldType.int) E1 1 (n + 1) (144, L, S, H, cs, ss) = (gI L 6).bind fun v => (st1 L 6 (.int (v + 1))).bind fun L' => orun prog_96_method_10_code (Option.some Jvm.ClassFile.FieldType.int) E1 1 n (147, L', S, H, cs, ss) := s_any k1_144
theorem s1_147 {n cs ss : Nat} {L : List Slot} {S : List Value} {H : AH} : orun prog_96_method_10_code (Option.some Jvm.ClassFile.FieldType.int) E1 1 (n + 1) (147, L, S, H, cs, ss) = orun prog_96_method_10_code (Option.some Jvm.ClassFile.FieldType.int) E1 1 n (7, L, S, H, cs, ss) := s_goto k1_147 (by decide) (by decide)
theorem s1_150 {n cs ss : Nat} {L : List Slot} {S : List Value} {H : AH} : orun prog_96_method_10_code (Option.some Jvm.ClassFile.FieldType.int) E1 1 (n + 1) (150, L, S, H, cs, ss) = (gI L 5).bind fun v => orun prog_96_method_10_code (Option.some Jvm.ClassFile.FieldType.int) E1 1 n (152, L, .int v :: S, H, cs, ss) := s_any k1_150
theorem s1_152 {n cs ss : Nat} {L : List Slot} {S : List Value} {H : AH} : orun prog_96_method_10_code (Option.some Jvm.ClassFile.FieldType.int) E1 1 (n + 1) (152, L, S, H, cs, ss) = pI S fun z _ => some (some (.int z), H) := s_any k1_152
theorem t1_0 {go : Nat → St → Option ORes} (hgo : go = orun prog_96_method_10_code (Option.some Jvm.ClassFile.FieldType.int) E1 1) {n cs ss : Nat} {l0 l1 l2 l3 l5 l6 l7 l8 l9 l10 l11 : Slot} {S : List Value} {H : AH} {q : Option ORes → Prop} {v : Int32} (h : Rsq (go n (2, [l0, l1, l2, l3, .val (.int v), l5, l6, l7, l8, l9, l10, l11], (.int v :: S), H, cs, ss)) q) : Rsq (go (n + 1) (0, [l0, l1, l2, l3, .val (.int v), l5, l6, l7, l8, l9, l10, l11], S, H, cs, ss)) q := by
  subst hgo
  exact res_of s1_0 h
theorem t1_2 {go : Nat → St → Option ORes} (hgo : go = orun prog_96_method_10_code (Option.some Jvm.ClassFile.FieldType.int) E1 1) {n cs ss : Nat} {l0 l1 l2 l3 l4 l5 l6 l7 l8 l9 l10 l11 : Slot} {S : List Value} {H : AH} {q : Option ORes → Prop} {x : Int32} (hk : so l5 = true) (h : Rsq (go n (4, [l0, l1, l2, l3, l4, .val (.int x), l6, l7, l8, l9, l10, l11], S, H, cs, ss)) q) : Rsq (go (n + 1) (2, [l0, l1, l2, l3, l4, l5, l6, l7, l8, l9, l10, l11], (.int x :: S), H, cs, ss)) q := by
  subst hgo
  refine res_of s1_2 ?_
  rw [pI_int, st1_so (L := [l0, l1, l2, l3, l4, l5, l6, l7, l8, l9, l10, l11]) (k := 5) (l := l5) rfl hk]
  exact h
theorem t1_4 {go : Nat → St → Option ORes} (hgo : go = orun prog_96_method_10_code (Option.some Jvm.ClassFile.FieldType.int) E1 1) {n cs ss : Nat} {l0 l2 l3 l4 l5 l6 l7 l8 l9 l10 l11 : Slot} {S : List Value} {H : AH} {q : Option ORes → Prop} {v : Int32} (h : Rsq (go n (5, [l0, .val (.int v), l2, l3, l4, l5, l6, l7, l8, l9, l10, l11], (.int v :: S), H, cs, ss)) q) : Rsq (go (n + 1) (4, [l0, .val (.int v), l2, l3, l4, l5, l6, l7, l8, l9, l10, l11], S, H, cs, ss)) q := by
  subst hgo
  exact res_of s1_4 h
theorem t1_5 {go : Nat → St → Option ORes} (hgo : go = orun prog_96_method_10_code (Option.some Jvm.ClassFile.FieldType.int) E1 1) {n cs ss : Nat} {l0 l1 l2 l3 l4 l5 l6 l7 l8 l9 l10 l11 : Slot} {S : List Value} {H : AH} {q : Option ORes → Prop} {x : Int32} (hk : so l6 = true) (h : Rsq (go n (7, [l0, l1, l2, l3, l4, l5, .val (.int x), l7, l8, l9, l10, l11], S, H, cs, ss)) q) : Rsq (go (n + 1) (5, [l0, l1, l2, l3, l4, l5, l6, l7, l8, l9, l10, l11], (.int x :: S), H, cs, ss)) q := by
  subst hgo
  refine res_of s1_5 ?_
  rw [pI_int, st1_so (L := [l0, l1, l2, l3, l4, l5, l6, l7, l8, l9, l10, l11]) (k := 6) (l := l6) rfl hk]
  exact h
theorem t1_7 {go : Nat → St → Option ORes} (hgo : go = orun prog_96_method_10_code (Option.some Jvm.ClassFile.FieldType.int) E1 1) {n cs ss : Nat} {l0 l1 l2 l3 l4 l5 l7 l8 l9 l10 l11 : Slot} {S : List Value} {H : AH} {q : Option ORes → Prop} {v : Int32} (h : Rsq (go n (9, [l0, l1, l2, l3, l4, l5, .val (.int v), l7, l8, l9, l10, l11], (.int v :: S), H, cs, ss)) q) : Rsq (go (n + 1) (7, [l0, l1, l2, l3, l4, l5, .val (.int v), l7, l8, l9, l10, l11], S, H, cs, ss)) q := by
  subst hgo
  exact res_of s1_7 h
theorem t1_9 {go : Nat → St → Option ORes} (hgo : go = orun prog_96_method_10_code (Option.some Jvm.ClassFile.FieldType.int) E1 1) {n cs ss : Nat} {l0 l1 l3 l4 l5 l6 l7 l8 l9 l10 l11 : Slot} {S : List Value} {H : AH} {q : Option ORes → Prop} {v : Int32} (h : Rsq (go n (10, [l0, l1, .val (.int v), l3, l4, l5, l6, l7, l8, l9, l10, l11], (.int v :: S), H, cs, ss)) q) : Rsq (go (n + 1) (9, [l0, l1, .val (.int v), l3, l4, l5, l6, l7, l8, l9, l10, l11], S, H, cs, ss)) q := by
  subst hgo
  exact res_of s1_9 h
theorem t1_10t {go : Nat → St → Option ORes} (hgo : go = orun prog_96_method_10_code (Option.some Jvm.ClassFile.FieldType.int) E1 1) {n cs ss : Nat} {L : List Slot} {S : List Value} {H : AH} {q : Option ORes → Prop} {x y : Int32} (hc : x < y) (h : Rsq (go n (13, L, S, H, cs, ss)) q) : Rsq (go (n + 1) (10, L, (.int y :: .int x :: S), H, cs, ss)) q := by
  subst hgo
  exact res_of s1_10 (res_t hc h)
theorem t1_10f {go : Nat → St → Option ORes} (hgo : go = orun prog_96_method_10_code (Option.some Jvm.ClassFile.FieldType.int) E1 1) {n cs ss : Nat} {L : List Slot} {S : List Value} {H : AH} {q : Option ORes → Prop} {x y : Int32} (hc : ¬ x < y) (h : Rsq (go n (150, L, S, H, cs, ss)) q) : Rsq (go (n + 1) (10, L, (.int y :: .int x :: S), H, cs, ss)) q := by
  subst hgo
  exact res_of s1_10 (res_f hc h)
theorem t1_13 {go : Nat → St → Option ORes} (hgo : go = orun prog_96_method_10_code (Option.some Jvm.ClassFile.FieldType.int) E1 1) {n cs ss : Nat} {l0 l1 l2 l3 l4 l5 l7 l8 l9 l10 l11 : Slot} {S : List Value} {H : AH} {q : Option ORes → Prop} {v : Int32} (h : Rsq (go n (15, [l0, l1, l2, l3, l4, l5, .val (.int v), l7, l8, l9, l10, l11], (.int v :: S), H, cs, ss)) q) : Rsq (go (n + 1) (13, [l0, l1, l2, l3, l4, l5, .val (.int v), l7, l8, l9, l10, l11], S, H, cs, ss)) q := by
  subst hgo
  exact res_of s1_13 h
theorem t1_15 {go : Nat → St → Option ORes} (hgo : go = orun prog_96_method_10_code (Option.some Jvm.ClassFile.FieldType.int) E1 1) {n cs ss : Nat} {l0 l2 l3 l4 l5 l6 l7 l8 l9 l10 l11 : Slot} {S : List Value} {H : AH} {q : Option ORes → Prop} {v : Int32} (h : Rsq (go n (16, [l0, .val (.int v), l2, l3, l4, l5, l6, l7, l8, l9, l10, l11], (.int v :: S), H, cs, ss)) q) : Rsq (go (n + 1) (15, [l0, .val (.int v), l2, l3, l4, l5, l6, l7, l8, l9, l10, l11], S, H, cs, ss)) q := by
  subst hgo
  exact res_of s1_15 h
theorem t1_16t {go : Nat → St → Option ORes} (hgo : go = orun prog_96_method_10_code (Option.some Jvm.ClassFile.FieldType.int) E1 1) {n cs ss : Nat} {L : List Slot} {S : List Value} {H : AH} {q : Option ORes → Prop} {x y : Int32} (hc : y < x) (h : Rsq (go n (19, L, S, H, cs, ss)) q) : Rsq (go (n + 1) (16, L, (.int y :: .int x :: S), H, cs, ss)) q := by
  subst hgo
  exact res_of s1_16 (res_t hc h)
theorem t1_16f {go : Nat → St → Option ORes} (hgo : go = orun prog_96_method_10_code (Option.some Jvm.ClassFile.FieldType.int) E1 1) {n cs ss : Nat} {L : List Slot} {S : List Value} {H : AH} {q : Option ORes → Prop} {x y : Int32} (hc : ¬ y < x) (h : Rsq (go n (28, L, S, H, cs, ss)) q) : Rsq (go (n + 1) (16, L, (.int y :: .int x :: S), H, cs, ss)) q := by
  subst hgo
  exact res_of s1_16 (res_f hc h)
theorem t1_19 {go : Nat → St → Option ORes} (hgo : go = orun prog_96_method_10_code (Option.some Jvm.ClassFile.FieldType.int) E1 1) {n cs ss : Nat} {l0 l1 l2 l4 l5 l6 l7 l8 l9 l10 l11 : Slot} {S : List Value} {H : AH} {q : Option ORes → Prop} {v : Value} (hv : isA v = true) (h : Rsq (go n (20, [l0, l1, l2, .val v, l4, l5, l6, l7, l8, l9, l10, l11], (v :: S), H, cs, ss)) q) : Rsq (go (n + 1) (19, [l0, l1, l2, .val v, l4, l5, l6, l7, l8, l9, l10, l11], S, H, cs, ss)) q := by
  subst hgo
  refine res_of s1_19 ?_
  rw [gA_isA (L := [l0, l1, l2, .val v, l4, l5, l6, l7, l8, l9, l10, l11]) (k := 3) (v := v) rfl hv]
  exact h
theorem t1_20 {go : Nat → St → Option ORes} (hgo : go = orun prog_96_method_10_code (Option.some Jvm.ClassFile.FieldType.int) E1 1) {n cs ss : Nat} {l0 l1 l2 l3 l4 l6 l7 l8 l9 l10 l11 : Slot} {S : List Value} {H : AH} {q : Option ORes → Prop} {v : Int32} (h : Rsq (go n (22, [l0, l1, l2, l3, l4, .val (.int v), l6, l7, l8, l9, l10, l11], (.int v :: S), H, cs, ss)) q) : Rsq (go (n + 1) (20, [l0, l1, l2, l3, l4, .val (.int v), l6, l7, l8, l9, l10, l11], S, H, cs, ss)) q := by
  subst hgo
  exact res_of s1_20 h
theorem t1_22 {go : Nat → St → Option ORes} (hgo : go = orun prog_96_method_10_code (Option.some Jvm.ClassFile.FieldType.int) E1 1) {n cs ss : Nat} {l0 l1 l2 l3 l4 l6 l7 l8 l9 l10 l11 : Slot} {S : List Value} {H : AH} {q : Option ORes → Prop} {v : Int32} (h : Rsq (go n (25, [l0, l1, l2, l3, l4, .val (.int (v + 1)), l6, l7, l8, l9, l10, l11], S, H, cs, ss)) q) : Rsq (go (n + 1) (22, [l0, l1, l2, l3, l4, .val (.int v), l6, l7, l8, l9, l10, l11], S, H, cs, ss)) q := by
  subst hgo
  exact res_of s1_22 h
theorem t1_25 {go : Nat → St → Option ORes} (hgo : go = orun prog_96_method_10_code (Option.some Jvm.ClassFile.FieldType.int) E1 1) {n cs ss : Nat} {L : List Slot} {S : List Value} {H : AH} {q : Option ORes → Prop} (h : Rsq (go n (27, L, (.int 46 :: S), H, cs, ss)) q) : Rsq (go (n + 1) (25, L, S, H, cs, ss)) q := by
  subst hgo
  exact res_of s1_25 h
theorem u1_27 {go : Nat → St → Option ORes} (hgo : go = orun prog_96_method_10_code (Option.some Jvm.ClassFile.FieldType.int) E1 1) {n cs ss : Nat} {L : List Slot} {S : List Value} {H : AH} : go (n + 1) (27, L, S, H, cs, ss) = ex (Option.some Jvm.ClassFile.FieldType.int) E1 1 (go n) (.bastore) 27 L S H cs ss := by
  subst hgo
  exact s1_27
theorem t1_28 {go : Nat → St → Option ORes} (hgo : go = orun prog_96_method_10_code (Option.some Jvm.ClassFile.FieldType.int) E1 1) {n cs ss : Nat} {l1 l2 l3 l4 l5 l6 l7 l8 l9 l10 l11 : Slot} {S : List Value} {H : AH} {q : Option ORes → Prop} {v : Value} (hv : isA v = true) (h : Rsq (go n (29, [.val v, l1, l2, l3, l4, l5, l6, l7, l8, l9, l10, l11], (v :: S), H, cs, ss)) q) : Rsq (go (n + 1) (28, [.val v, l1, l2, l3, l4, l5, l6, l7, l8, l9, l10, l11], S, H, cs, ss)) q := by
  subst hgo
  refine res_of s1_28 ?_
  rw [gA_isA (L := [.val v, l1, l2, l3, l4, l5, l6, l7, l8, l9, l10, l11]) (k := 0) (v := v) rfl hv]
  exact h
theorem t1_29 {go : Nat → St → Option ORes} (hgo : go = orun prog_96_method_10_code (Option.some Jvm.ClassFile.FieldType.int) E1 1) {n cs ss : Nat} {l0 l1 l2 l3 l4 l5 l7 l8 l9 l10 l11 : Slot} {S : List Value} {H : AH} {q : Option ORes → Prop} {v : Int32} (h : Rsq (go n (31, [l0, l1, l2, l3, l4, l5, .val (.int v), l7, l8, l9, l10, l11], (.int v :: S), H, cs, ss)) q) : Rsq (go (n + 1) (29, [l0, l1, l2, l3, l4, l5, .val (.int v), l7, l8, l9, l10, l11], S, H, cs, ss)) q := by
  subst hgo
  exact res_of s1_29 h
theorem u1_31 {go : Nat → St → Option ORes} (hgo : go = orun prog_96_method_10_code (Option.some Jvm.ClassFile.FieldType.int) E1 1) {n cs ss : Nat} {L : List Slot} {S : List Value} {H : AH} : go (n + 1) (31, L, S, H, cs, ss) = ex (Option.some Jvm.ClassFile.FieldType.int) E1 1 (go n) (.iaload) 31 L S H cs ss := by
  subst hgo
  exact s1_31
theorem t1_32 {go : Nat → St → Option ORes} (hgo : go = orun prog_96_method_10_code (Option.some Jvm.ClassFile.FieldType.int) E1 1) {n cs ss : Nat} {l0 l1 l2 l3 l4 l5 l6 l7 l8 l9 l10 l11 : Slot} {S : List Value} {H : AH} {q : Option ORes → Prop} {x : Int32} (hk : so l7 = true) (h : Rsq (go n (34, [l0, l1, l2, l3, l4, l5, l6, .val (.int x), l8, l9, l10, l11], S, H, cs, ss)) q) : Rsq (go (n + 1) (32, [l0, l1, l2, l3, l4, l5, l6, l7, l8, l9, l10, l11], (.int x :: S), H, cs, ss)) q := by
  subst hgo
  refine res_of s1_32 ?_
  rw [pI_int, st1_so (L := [l0, l1, l2, l3, l4, l5, l6, l7, l8, l9, l10, l11]) (k := 7) (l := l7) rfl hk]
  exact h
theorem t1_34 {go : Nat → St → Option ORes} (hgo : go = orun prog_96_method_10_code (Option.some Jvm.ClassFile.FieldType.int) E1 1) {n cs ss : Nat} {l0 l1 l2 l3 l4 l5 l6 l8 l9 l10 l11 : Slot} {S : List Value} {H : AH} {q : Option ORes → Prop} {v : Int32} (h : Rsq (go n (36, [l0, l1, l2, l3, l4, l5, l6, .val (.int v), l8, l9, l10, l11], (.int v :: S), H, cs, ss)) q) : Rsq (go (n + 1) (34, [l0, l1, l2, l3, l4, l5, l6, .val (.int v), l8, l9, l10, l11], S, H, cs, ss)) q := by
  subst hgo
  exact res_of s1_34 h
theorem t1_36t {go : Nat → St → Option ORes} (hgo : go = orun prog_96_method_10_code (Option.some Jvm.ClassFile.FieldType.int) E1 1) {n cs ss : Nat} {L : List Slot} {S : List Value} {H : AH} {q : Option ORes → Prop} {x : Int32} (hc : x < 0) (h : Rsq (go n (39, L, S, H, cs, ss)) q) : Rsq (go (n + 1) (36, L, (.int x :: S), H, cs, ss)) q := by
  subst hgo
  exact res_of s1_36 (res_t hc h)
theorem t1_36f {go : Nat → St → Option ORes} (hgo : go = orun prog_96_method_10_code (Option.some Jvm.ClassFile.FieldType.int) E1 1) {n cs ss : Nat} {L : List Slot} {S : List Value} {H : AH} {q : Option ORes → Prop} {x : Int32} (hc : ¬ x < 0) (h : Rsq (go n (48, L, S, H, cs, ss)) q) : Rsq (go (n + 1) (36, L, (.int x :: S), H, cs, ss)) q := by
  subst hgo
  exact res_of s1_36 (res_f hc h)
theorem t1_39 {go : Nat → St → Option ORes} (hgo : go = orun prog_96_method_10_code (Option.some Jvm.ClassFile.FieldType.int) E1 1) {n cs ss : Nat} {l0 l1 l2 l4 l5 l6 l7 l8 l9 l10 l11 : Slot} {S : List Value} {H : AH} {q : Option ORes → Prop} {v : Value} (hv : isA v = true) (h : Rsq (go n (40, [l0, l1, l2, .val v, l4, l5, l6, l7, l8, l9, l10, l11], (v :: S), H, cs, ss)) q) : Rsq (go (n + 1) (39, [l0, l1, l2, .val v, l4, l5, l6, l7, l8, l9, l10, l11], S, H, cs, ss)) q := by
  subst hgo
  refine res_of s1_39 ?_
  rw [gA_isA (L := [l0, l1, l2, .val v, l4, l5, l6, l7, l8, l9, l10, l11]) (k := 3) (v := v) rfl hv]
  exact h
theorem t1_40 {go : Nat → St → Option ORes} (hgo : go = orun prog_96_method_10_code (Option.some Jvm.ClassFile.FieldType.int) E1 1) {n cs ss : Nat} {l0 l1 l2 l3 l4 l6 l7 l8 l9 l10 l11 : Slot} {S : List Value} {H : AH} {q : Option ORes → Prop} {v : Int32} (h : Rsq (go n (42, [l0, l1, l2, l3, l4, .val (.int v), l6, l7, l8, l9, l10, l11], (.int v :: S), H, cs, ss)) q) : Rsq (go (n + 1) (40, [l0, l1, l2, l3, l4, .val (.int v), l6, l7, l8, l9, l10, l11], S, H, cs, ss)) q := by
  subst hgo
  exact res_of s1_40 h
theorem t1_42 {go : Nat → St → Option ORes} (hgo : go = orun prog_96_method_10_code (Option.some Jvm.ClassFile.FieldType.int) E1 1) {n cs ss : Nat} {l0 l1 l2 l3 l4 l6 l7 l8 l9 l10 l11 : Slot} {S : List Value} {H : AH} {q : Option ORes → Prop} {v : Int32} (h : Rsq (go n (45, [l0, l1, l2, l3, l4, .val (.int (v + 1)), l6, l7, l8, l9, l10, l11], S, H, cs, ss)) q) : Rsq (go (n + 1) (42, [l0, l1, l2, l3, l4, .val (.int v), l6, l7, l8, l9, l10, l11], S, H, cs, ss)) q := by
  subst hgo
  exact res_of s1_42 h
theorem t1_45 {go : Nat → St → Option ORes} (hgo : go = orun prog_96_method_10_code (Option.some Jvm.ClassFile.FieldType.int) E1 1) {n cs ss : Nat} {L : List Slot} {S : List Value} {H : AH} {q : Option ORes → Prop} (h : Rsq (go n (47, L, (.int 45 :: S), H, cs, ss)) q) : Rsq (go (n + 1) (45, L, S, H, cs, ss)) q := by
  subst hgo
  exact res_of s1_45 h
theorem u1_47 {go : Nat → St → Option ORes} (hgo : go = orun prog_96_method_10_code (Option.some Jvm.ClassFile.FieldType.int) E1 1) {n cs ss : Nat} {L : List Slot} {S : List Value} {H : AH} : go (n + 1) (47, L, S, H, cs, ss) = ex (Option.some Jvm.ClassFile.FieldType.int) E1 1 (go n) (.bastore) 47 L S H cs ss := by
  subst hgo
  exact s1_47
theorem t1_48 {go : Nat → St → Option ORes} (hgo : go = orun prog_96_method_10_code (Option.some Jvm.ClassFile.FieldType.int) E1 1) {n cs ss : Nat} {l0 l1 l2 l3 l4 l5 l6 l8 l9 l10 l11 : Slot} {S : List Value} {H : AH} {q : Option ORes → Prop} {v : Int32} (h : Rsq (go n (50, [l0, l1, l2, l3, l4, l5, l6, .val (.int v), l8, l9, l10, l11], (.int v :: S), H, cs, ss)) q) : Rsq (go (n + 1) (48, [l0, l1, l2, l3, l4, l5, l6, .val (.int v), l8, l9, l10, l11], S, H, cs, ss)) q := by
  subst hgo
  exact res_of s1_48 h
theorem t1_50t {go : Nat → St → Option ORes} (hgo : go = orun prog_96_method_10_code (Option.some Jvm.ClassFile.FieldType.int) E1 1) {n cs ss : Nat} {L : List Slot} {S : List Value} {H : AH} {q : Option ORes → Prop} {x : Int32} (hc : x < 0) (h : Rsq (go n (53, L, S, H, cs, ss)) q) : Rsq (go (n + 1) (50, L, (.int x :: S), H, cs, ss)) q := by
  subst hgo
  exact res_of s1_50 (res_t hc h)
theorem t1_50f {go : Nat → St → Option ORes} (hgo : go = orun prog_96_method_10_code (Option.some Jvm.ClassFile.FieldType.int) E1 1) {n cs ss : Nat} {L : List Slot} {S : List Value} {H : AH} {q : Option ORes → Prop} {x : Int32} (hc : ¬ x < 0) (h : Rsq (go n (58, L, S, H, cs, ss)) q) : Rsq (go (n + 1) (50, L, (.int x :: S), H, cs, ss)) q := by
  subst hgo
  exact res_of s1_50 (res_f hc h)
theorem t1_53 {go : Nat → St → Option ORes} (hgo : go = orun prog_96_method_10_code (Option.some Jvm.ClassFile.FieldType.int) E1 1) {n cs ss : Nat} {l0 l1 l2 l3 l4 l5 l6 l8 l9 l10 l11 : Slot} {S : List Value} {H : AH} {q : Option ORes → Prop} {v : Int32} (h : Rsq (go n (55, [l0, l1, l2, l3, l4, l5, l6, .val (.int v), l8, l9, l10, l11], (.int v :: S), H, cs, ss)) q) : Rsq (go (n + 1) (53, [l0, l1, l2, l3, l4, l5, l6, .val (.int v), l8, l9, l10, l11], S, H, cs, ss)) q := by
  subst hgo
  exact res_of s1_53 h
theorem t1_55 {go : Nat → St → Option ORes} (hgo : go = orun prog_96_method_10_code (Option.some Jvm.ClassFile.FieldType.int) E1 1) {n cs ss : Nat} {L : List Slot} {S : List Value} {H : AH} {q : Option ORes → Prop} (h : Rsq (go n (61, L, S, H, cs, ss)) q) : Rsq (go (n + 1) (55, L, S, H, cs, ss)) q := by
  subst hgo
  exact res_of s1_55 h
theorem t1_58 {go : Nat → St → Option ORes} (hgo : go = orun prog_96_method_10_code (Option.some Jvm.ClassFile.FieldType.int) E1 1) {n cs ss : Nat} {l0 l1 l2 l3 l4 l5 l6 l8 l9 l10 l11 : Slot} {S : List Value} {H : AH} {q : Option ORes → Prop} {v : Int32} (h : Rsq (go n (60, [l0, l1, l2, l3, l4, l5, l6, .val (.int v), l8, l9, l10, l11], (.int v :: S), H, cs, ss)) q) : Rsq (go (n + 1) (58, [l0, l1, l2, l3, l4, l5, l6, .val (.int v), l8, l9, l10, l11], S, H, cs, ss)) q := by
  subst hgo
  exact res_of s1_58 h
theorem t1_60 {go : Nat → St → Option ORes} (hgo : go = orun prog_96_method_10_code (Option.some Jvm.ClassFile.FieldType.int) E1 1) {n cs ss : Nat} {L : List Slot} {S : List Value} {H : AH} {q : Option ORes → Prop} {x : Int32} (h : Rsq (go n (61, L, (.int (-x) :: S), H, cs, ss)) q) : Rsq (go (n + 1) (60, L, (.int x :: S), H, cs, ss)) q := by
  subst hgo
  exact res_of s1_60 h
theorem t1_61 {go : Nat → St → Option ORes} (hgo : go = orun prog_96_method_10_code (Option.some Jvm.ClassFile.FieldType.int) E1 1) {n cs ss : Nat} {l0 l1 l2 l3 l4 l5 l6 l7 l8 l9 l10 l11 : Slot} {S : List Value} {H : AH} {q : Option ORes → Prop} {x : Int32} (hk : so l8 = true) (h : Rsq (go n (63, [l0, l1, l2, l3, l4, l5, l6, l7, .val (.int x), l9, l10, l11], S, H, cs, ss)) q) : Rsq (go (n + 1) (61, [l0, l1, l2, l3, l4, l5, l6, l7, l8, l9, l10, l11], (.int x :: S), H, cs, ss)) q := by
  subst hgo
  refine res_of s1_61 ?_
  rw [pI_int, st1_so (L := [l0, l1, l2, l3, l4, l5, l6, l7, l8, l9, l10, l11]) (k := 8) (l := l8) rfl hk]
  exact h
theorem t1_63 {go : Nat → St → Option ORes} (hgo : go = orun prog_96_method_10_code (Option.some Jvm.ClassFile.FieldType.int) E1 1) {n cs ss : Nat} {L : List Slot} {S : List Value} {H : AH} {q : Option ORes → Prop} (h : Rsq (go n (64, L, (.int 1 :: S), H, cs, ss)) q) : Rsq (go (n + 1) (63, L, S, H, cs, ss)) q := by
  subst hgo
  exact res_of s1_63 h
theorem t1_64 {go : Nat → St → Option ORes} (hgo : go = orun prog_96_method_10_code (Option.some Jvm.ClassFile.FieldType.int) E1 1) {n cs ss : Nat} {l0 l1 l2 l3 l4 l5 l6 l7 l8 l9 l10 l11 : Slot} {S : List Value} {H : AH} {q : Option ORes → Prop} {x : Int32} (hk : so l9 = true) (h : Rsq (go n (66, [l0, l1, l2, l3, l4, l5, l6, l7, l8, .val (.int x), l10, l11], S, H, cs, ss)) q) : Rsq (go (n + 1) (64, [l0, l1, l2, l3, l4, l5, l6, l7, l8, l9, l10, l11], (.int x :: S), H, cs, ss)) q := by
  subst hgo
  refine res_of s1_64 ?_
  rw [pI_int, st1_so (L := [l0, l1, l2, l3, l4, l5, l6, l7, l8, l9, l10, l11]) (k := 9) (l := l9) rfl hk]
  exact h
theorem t1_66 {go : Nat → St → Option ORes} (hgo : go = orun prog_96_method_10_code (Option.some Jvm.ClassFile.FieldType.int) E1 1) {n cs ss : Nat} {l0 l1 l2 l3 l4 l5 l6 l7 l8 l10 l11 : Slot} {S : List Value} {H : AH} {q : Option ORes → Prop} {v : Int32} (h : Rsq (go n (68, [l0, l1, l2, l3, l4, l5, l6, l7, l8, .val (.int v), l10, l11], (.int v :: S), H, cs, ss)) q) : Rsq (go (n + 1) (66, [l0, l1, l2, l3, l4, l5, l6, l7, l8, .val (.int v), l10, l11], S, H, cs, ss)) q := by
  subst hgo
  exact res_of s1_66 h
theorem t1_68 {go : Nat → St → Option ORes} (hgo : go = orun prog_96_method_10_code (Option.some Jvm.ClassFile.FieldType.int) E1 1) {n cs ss : Nat} {L : List Slot} {S : List Value} {H : AH} {q : Option ORes → Prop} (h : Rsq (go n (70, L, (.int 10 :: S), H, cs, ss)) q) : Rsq (go (n + 1) (68, L, S, H, cs, ss)) q := by
  subst hgo
  exact res_of s1_68 h
theorem t1_70t {go : Nat → St → Option ORes} (hgo : go = orun prog_96_method_10_code (Option.some Jvm.ClassFile.FieldType.int) E1 1) {n cs ss : Nat} {L : List Slot} {S : List Value} {H : AH} {q : Option ORes → Prop} {x y : Int32} (hc : x < y) (h : Rsq (go n (73, L, S, H, cs, ss)) q) : Rsq (go (n + 1) (70, L, (.int y :: .int x :: S), H, cs, ss)) q := by
  subst hgo
  exact res_of s1_70 (res_t hc h)
theorem t1_70f {go : Nat → St → Option ORes} (hgo : go = orun prog_96_method_10_code (Option.some Jvm.ClassFile.FieldType.int) E1 1) {n cs ss : Nat} {L : List Slot} {S : List Value} {H : AH} {q : Option ORes → Prop} {x y : Int32} (hc : ¬ x < y) (h : Rsq (go n (91, L, S, H, cs, ss)) q) : Rsq (go (n + 1) (70, L, (.int y :: .int x :: S), H, cs, ss)) q := by
  subst hgo
  exact res_of s1_70 (res_f hc h)
theorem t1_73 {go : Nat → St → Option ORes} (hgo : go = orun prog_96_method_10_code (Option.some Jvm.ClassFile.FieldType.int) E1 1) {n cs ss : Nat} {l0 l1 l2 l3 l4 l5 l6 l7 l9 l10 l11 : Slot} {S : List Value} {H : AH} {q : Option ORes → Prop} {v : Int32} (h : Rsq (go n (75, [l0, l1, l2, l3, l4, l5, l6, l7, .val (.int v), l9, l10, l11], (.int v :: S), H, cs, ss)) q) : Rsq (go (n + 1) (73, [l0, l1, l2, l3, l4, l5, l6, l7, .val (.int v), l9, l10, l11], S, H, cs, ss)) q := by
  subst hgo
  exact res_of s1_73 h
theorem u1_75 {go : Nat → St → Option ORes} (hgo : go = orun prog_96_method_10_code (Option.some Jvm.ClassFile.FieldType.int) E1 1) {n cs ss : Nat} {L : List Slot} {S : List Value} {H : AH} : go (n + 1) (75, L, S, H, cs, ss) = (aSta (.ref 0) S H cs ss).bind fun r => go n (78, L, r.1, r.2.1, r.2.2.1, r.2.2.2) := by
  subst hgo
  exact s1_75
theorem t1_78 {go : Nat → St → Option ORes} (hgo : go = orun prog_96_method_10_code (Option.some Jvm.ClassFile.FieldType.int) E1 1) {n cs ss : Nat} {l0 l1 l2 l3 l4 l5 l6 l7 l8 l10 l11 : Slot} {S : List Value} {H : AH} {q : Option ORes → Prop} {v : Int32} (h : Rsq (go n (80, [l0, l1, l2, l3, l4, l5, l6, l7, l8, .val (.int v), l10, l11], (.int v :: S), H, cs, ss)) q) : Rsq (go (n + 1) (78, [l0, l1, l2, l3, l4, l5, l6, l7, l8, .val (.int v), l10, l11], S, H, cs, ss)) q := by
  subst hgo
  exact res_of s1_78 h
theorem u1_80 {go : Nat → St → Option ORes} (hgo : go = orun prog_96_method_10_code (Option.some Jvm.ClassFile.FieldType.int) E1 1) {n cs ss : Nat} {L : List Slot} {S : List Value} {H : AH} : go (n + 1) (80, L, S, H, cs, ss) = ex (Option.some Jvm.ClassFile.FieldType.int) E1 1 (go n) (.iaload) 80 L S H cs ss := by
  subst hgo
  exact s1_80
theorem t1_81 {go : Nat → St → Option ORes} (hgo : go = orun prog_96_method_10_code (Option.some Jvm.ClassFile.FieldType.int) E1 1) {n cs ss : Nat} {L : List Slot} {S : List Value} {H : AH} {q : Option ORes → Prop} {x : Int32} (h : Rsq (go n (82, L, (.int (-x) :: S), H, cs, ss)) q) : Rsq (go (n + 1) (81, L, (.int x :: S), H, cs, ss)) q := by
  subst hgo
  exact res_of s1_81 h
theorem t1_82t {go : Nat → St → Option ORes} (hgo : go = orun prog_96_method_10_code (Option.some Jvm.ClassFile.FieldType.int) E1 1) {n cs ss : Nat} {L : List Slot} {S : List Value} {H : AH} {q : Option ORes → Prop} {x y : Int32} (hc : y < x) (h : Rsq (go n (91, L, S, H, cs, ss)) q) : Rsq (go (n + 1) (82, L, (.int y :: .int x :: S), H, cs, ss)) q := by
  subst hgo
  exact res_of s1_82 (res_t hc h)
theorem t1_82f {go : Nat → St → Option ORes} (hgo : go = orun prog_96_method_10_code (Option.some Jvm.ClassFile.FieldType.int) E1 1) {n cs ss : Nat} {L : List Slot} {S : List Value} {H : AH} {q : Option ORes → Prop} {x y : Int32} (hc : ¬ y < x) (h : Rsq (go n (85, L, S, H, cs, ss)) q) : Rsq (go (n + 1) (82, L, (.int y :: .int x :: S), H, cs, ss)) q := by
  subst hgo
  exact res_of s1_82 (res_f hc h)
theorem t1_85 {go : Nat → St → Option ORes} (hgo : go = orun prog_96_method_10_code (Option.some Jvm.ClassFile.FieldType.int) E1 1) {n cs ss : Nat} {l0 l1 l2 l3 l4 l5 l6 l7 l8 l10 l11 : Slot} {S : List Value} {H : AH} {q : Option ORes → Prop} {v : Int32} (h : Rsq (go n (88, [l0, l1, l2, l3, l4, l5, l6, l7, l8, .val (.int (v + 1)), l10, l11], S, H, cs, ss)) q) : Rsq (go (n + 1) (85, [l0, l1, l2, l3, l4, l5, l6, l7, l8, .val (.int v), l10, l11], S, H, cs, ss)) q := by
  subst hgo
  exact res_of s1_85 h
theorem t1_88 {go : Nat → St → Option ORes} (hgo : go = orun prog_96_method_10_code (Option.some Jvm.ClassFile.FieldType.int) E1 1) {n cs ss : Nat} {L : List Slot} {S : List Value} {H : AH} {q : Option ORes → Prop} (h : Rsq (go n (66, L, S, H, cs, ss)) q) : Rsq (go (n + 1) (88, L, S, H, cs, ss)) q := by
  subst hgo
  exact res_of s1_88 h
theorem t1_91 {go : Nat → St → Option ORes} (hgo : go = orun prog_96_method_10_code (Option.some Jvm.ClassFile.FieldType.int) E1 1) {n cs ss : Nat} {l0 l1 l2 l3 l4 l6 l7 l8 l9 l10 l11 : Slot} {S : List Value} {H : AH} {q : Option ORes → Prop} {v : Int32} (h : Rsq (go n (93, [l0, l1, l2, l3, l4, .val (.int v), l6, l7, l8, l9, l10, l11], (.int v :: S), H, cs, ss)) q) : Rsq (go (n + 1) (91, [l0, l1, l2, l3, l4, .val (.int v), l6, l7, l8, l9, l10, l11], S, H, cs, ss)) q := by
  subst hgo
  exact res_of s1_91 h
theorem t1_93 {go : Nat → St → Option ORes} (hgo : go = orun prog_96_method_10_code (Option.some Jvm.ClassFile.FieldType.int) E1 1) {n cs ss : Nat} {l0 l1 l2 l3 l4 l5 l6 l7 l8 l10 l11 : Slot} {S : List Value} {H : AH} {q : Option ORes → Prop} {v : Int32} (h : Rsq (go n (95, [l0, l1, l2, l3, l4, l5, l6, l7, l8, .val (.int v), l10, l11], (.int v :: S), H, cs, ss)) q) : Rsq (go (n + 1) (93, [l0, l1, l2, l3, l4, l5, l6, l7, l8, .val (.int v), l10, l11], S, H, cs, ss)) q := by
  subst hgo
  exact res_of s1_93 h
theorem t1_95 {go : Nat → St → Option ORes} (hgo : go = orun prog_96_method_10_code (Option.some Jvm.ClassFile.FieldType.int) E1 1) {n cs ss : Nat} {L : List Slot} {S : List Value} {H : AH} {q : Option ORes → Prop} {x y : Int32} (h : Rsq (go n (96, L, (.int (x + y) :: S), H, cs, ss)) q) : Rsq (go (n + 1) (95, L, (.int y :: .int x :: S), H, cs, ss)) q := by
  subst hgo
  exact res_of s1_95 h
theorem t1_96 {go : Nat → St → Option ORes} (hgo : go = orun prog_96_method_10_code (Option.some Jvm.ClassFile.FieldType.int) E1 1) {n cs ss : Nat} {l0 l1 l2 l3 l4 l5 l6 l7 l8 l9 l10 l11 : Slot} {S : List Value} {H : AH} {q : Option ORes → Prop} {x : Int32} (hk : so l5 = true) (h : Rsq (go n (98, [l0, l1, l2, l3, l4, .val (.int x), l6, l7, l8, l9, l10, l11], S, H, cs, ss)) q) : Rsq (go (n + 1) (96, [l0, l1, l2, l3, l4, l5, l6, l7, l8, l9, l10, l11], (.int x :: S), H, cs, ss)) q := by
  subst hgo
  refine res_of s1_96 ?_
  rw [pI_int, st1_so (L := [l0, l1, l2, l3, l4, l5, l6, l7, l8, l9, l10, l11]) (k := 5) (l := l5) rfl hk]
  exact h
theorem t1_98 {go : Nat → St → Option ORes} (hgo : go = orun prog_96_method_10_code (Option.some Jvm.ClassFile.FieldType.int) E1 1) {n cs ss : Nat} {l0 l1 l2 l3 l4 l5 l6 l7 l9 l10 l11 : Slot} {S : List Value} {H : AH} {q : Option ORes → Prop} {v : Int32} (h : Rsq (go n (100, [l0, l1, l2, l3, l4, l5, l6, l7, .val (.int v), l9, l10, l11], (.int v :: S), H, cs, ss)) q) : Rsq (go (n + 1) (98, [l0, l1, l2, l3, l4, l5, l6, l7, .val (.int v), l9, l10, l11], S, H, cs, ss)) q := by
  subst hgo
  exact res_of s1_98 h
theorem t1_100 {go : Nat → St → Option ORes} (hgo : go = orun prog_96_method_10_code (Option.some Jvm.ClassFile.FieldType.int) E1 1) {n cs ss : Nat} {l0 l1 l2 l3 l4 l5 l6 l7 l8 l9 l10 l11 : Slot} {S : List Value} {H : AH} {q : Option ORes → Prop} {x : Int32} (hk : so l10 = true) (h : Rsq (go n (102, [l0, l1, l2, l3, l4, l5, l6, l7, l8, l9, .val (.int x), l11], S, H, cs, ss)) q) : Rsq (go (n + 1) (100, [l0, l1, l2, l3, l4, l5, l6, l7, l8, l9, l10, l11], (.int x :: S), H, cs, ss)) q := by
  subst hgo
  refine res_of s1_100 ?_
  rw [pI_int, st1_so (L := [l0, l1, l2, l3, l4, l5, l6, l7, l8, l9, l10, l11]) (k := 10) (l := l10) rfl hk]
  exact h
theorem t1_102 {go : Nat → St → Option ORes} (hgo : go = orun prog_96_method_10_code (Option.some Jvm.ClassFile.FieldType.int) E1 1) {n cs ss : Nat} {l0 l1 l2 l3 l4 l6 l7 l8 l9 l10 l11 : Slot} {S : List Value} {H : AH} {q : Option ORes → Prop} {v : Int32} (h : Rsq (go n (104, [l0, l1, l2, l3, l4, .val (.int v), l6, l7, l8, l9, l10, l11], (.int v :: S), H, cs, ss)) q) : Rsq (go (n + 1) (102, [l0, l1, l2, l3, l4, .val (.int v), l6, l7, l8, l9, l10, l11], S, H, cs, ss)) q := by
  subst hgo
  exact res_of s1_102 h
theorem t1_104 {go : Nat → St → Option ORes} (hgo : go = orun prog_96_method_10_code (Option.some Jvm.ClassFile.FieldType.int) E1 1) {n cs ss : Nat} {L : List Slot} {S : List Value} {H : AH} {q : Option ORes → Prop} (h : Rsq (go n (105, L, (.int 1 :: S), H, cs, ss)) q) : Rsq (go (n + 1) (104, L, S, H, cs, ss)) q := by
  subst hgo
  exact res_of s1_104 h
theorem t1_105 {go : Nat → St → Option ORes} (hgo : go = orun prog_96_method_10_code (Option.some Jvm.ClassFile.FieldType.int) E1 1) {n cs ss : Nat} {L : List Slot} {S : List Value} {H : AH} {q : Option ORes → Prop} {x y : Int32} (h : Rsq (go n (106, L, (.int (x - y) :: S), H, cs, ss)) q) : Rsq (go (n + 1) (105, L, (.int y :: .int x :: S), H, cs, ss)) q := by
  subst hgo
  exact res_of s1_105 h
theorem t1_106 {go : Nat → St → Option ORes} (hgo : go = orun prog_96_method_10_code (Option.some Jvm.ClassFile.FieldType.int) E1 1) {n cs ss : Nat} {l0 l1 l2 l3 l4 l5 l6 l7 l8 l9 l10 l11 : Slot} {S : List Value} {H : AH} {q : Option ORes → Prop} {x : Int32} (hk : so l11 = true) (h : Rsq (go n (108, [l0, l1, l2, l3, l4, l5, l6, l7, l8, l9, l10, .val (.int x)], S, H, cs, ss)) q) : Rsq (go (n + 1) (106, [l0, l1, l2, l3, l4, l5, l6, l7, l8, l9, l10, l11], (.int x :: S), H, cs, ss)) q := by
  subst hgo
  refine res_of s1_106 ?_
  rw [pI_int, st1_so (L := [l0, l1, l2, l3, l4, l5, l6, l7, l8, l9, l10, l11]) (k := 11) (l := l11) rfl hk]
  exact h
theorem t1_108 {go : Nat → St → Option ORes} (hgo : go = orun prog_96_method_10_code (Option.some Jvm.ClassFile.FieldType.int) E1 1) {n cs ss : Nat} {l0 l1 l2 l3 l4 l5 l6 l7 l8 l9 l10 : Slot} {S : List Value} {H : AH} {q : Option ORes → Prop} {v : Int32} (h : Rsq (go n (110, [l0, l1, l2, l3, l4, l5, l6, l7, l8, l9, l10, .val (.int v)], (.int v :: S), H, cs, ss)) q) : Rsq (go (n + 1) (108, [l0, l1, l2, l3, l4, l5, l6, l7, l8, l9, l10, .val (.int v)], S, H, cs, ss)) q := by
  subst hgo
  exact res_of s1_108 h
theorem t1_110 {go : Nat → St → Option ORes} (hgo : go = orun prog_96_method_10_code (Option.some Jvm.ClassFile.FieldType.int) E1 1) {n cs ss : Nat} {l0 l1 l2 l3 l4 l6 l7 l8 l9 l10 l11 : Slot} {S : List Value} {H : AH} {q : Option ORes → Prop} {v : Int32} (h : Rsq (go n (112, [l0, l1, l2, l3, l4, .val (.int v), l6, l7, l8, l9, l10, l11], (.int v :: S), H, cs, ss)) q) : Rsq (go (n + 1) (110, [l0, l1, l2, l3, l4, .val (.int v), l6, l7, l8, l9, l10, l11], S, H, cs, ss)) q := by
  subst hgo
  exact res_of s1_110 h
theorem t1_112 {go : Nat → St → Option ORes} (hgo : go = orun prog_96_method_10_code (Option.some Jvm.ClassFile.FieldType.int) E1 1) {n cs ss : Nat} {l0 l1 l2 l3 l4 l5 l6 l7 l8 l10 l11 : Slot} {S : List Value} {H : AH} {q : Option ORes → Prop} {v : Int32} (h : Rsq (go n (114, [l0, l1, l2, l3, l4, l5, l6, l7, l8, .val (.int v), l10, l11], (.int v :: S), H, cs, ss)) q) : Rsq (go (n + 1) (112, [l0, l1, l2, l3, l4, l5, l6, l7, l8, .val (.int v), l10, l11], S, H, cs, ss)) q := by
  subst hgo
  exact res_of s1_112 h
theorem t1_114 {go : Nat → St → Option ORes} (hgo : go = orun prog_96_method_10_code (Option.some Jvm.ClassFile.FieldType.int) E1 1) {n cs ss : Nat} {L : List Slot} {S : List Value} {H : AH} {q : Option ORes → Prop} {x y : Int32} (h : Rsq (go n (115, L, (.int (x - y) :: S), H, cs, ss)) q) : Rsq (go (n + 1) (114, L, (.int y :: .int x :: S), H, cs, ss)) q := by
  subst hgo
  exact res_of s1_114 h
theorem t1_115t {go : Nat → St → Option ORes} (hgo : go = orun prog_96_method_10_code (Option.some Jvm.ClassFile.FieldType.int) E1 1) {n cs ss : Nat} {L : List Slot} {S : List Value} {H : AH} {q : Option ORes → Prop} {x y : Int32} (hc : x < y) (h : Rsq (go n (144, L, S, H, cs, ss)) q) : Rsq (go (n + 1) (115, L, (.int y :: .int x :: S), H, cs, ss)) q := by
  subst hgo
  exact res_of s1_115 (res_t hc h)
theorem t1_115f {go : Nat → St → Option ORes} (hgo : go = orun prog_96_method_10_code (Option.some Jvm.ClassFile.FieldType.int) E1 1) {n cs ss : Nat} {L : List Slot} {S : List Value} {H : AH} {q : Option ORes → Prop} {x y : Int32} (hc : ¬ x < y) (h : Rsq (go n (118, L, S, H, cs, ss)) q) : Rsq (go (n + 1) (115, L, (.int y :: .int x :: S), H, cs, ss)) q := by
  subst hgo
  exact res_of s1_115 (res_f hc h)
theorem t1_118 {go : Nat → St → Option ORes} (hgo : go = orun prog_96_method_10_code (Option.some Jvm.ClassFile.FieldType.int) E1 1) {n cs ss : Nat} {l0 l1 l2 l4 l5 l6 l7 l8 l9 l10 l11 : Slot} {S : List Value} {H : AH} {q : Option ORes → Prop} {v : Value} (hv : isA v = true) (h : Rsq (go n (119, [l0, l1, l2, .val v, l4, l5, l6, l7, l8, l9, l10, l11], (v :: S), H, cs, ss)) q) : Rsq (go (n + 1) (118, [l0, l1, l2, .val v, l4, l5, l6, l7, l8, l9, l10, l11], S, H, cs, ss)) q := by
  subst hgo
  refine res_of s1_118 ?_
  rw [gA_isA (L := [l0, l1, l2, .val v, l4, l5, l6, l7, l8, l9, l10, l11]) (k := 3) (v := v) rfl hv]
  exact h
theorem t1_119 {go : Nat → St → Option ORes} (hgo : go = orun prog_96_method_10_code (Option.some Jvm.ClassFile.FieldType.int) E1 1) {n cs ss : Nat} {l0 l1 l2 l3 l4 l5 l6 l7 l8 l9 l10 : Slot} {S : List Value} {H : AH} {q : Option ORes → Prop} {v : Int32} (h : Rsq (go n (121, [l0, l1, l2, l3, l4, l5, l6, l7, l8, l9, l10, .val (.int v)], (.int v :: S), H, cs, ss)) q) : Rsq (go (n + 1) (119, [l0, l1, l2, l3, l4, l5, l6, l7, l8, l9, l10, .val (.int v)], S, H, cs, ss)) q := by
  subst hgo
  exact res_of s1_119 h
theorem t1_121 {go : Nat → St → Option ORes} (hgo : go = orun prog_96_method_10_code (Option.some Jvm.ClassFile.FieldType.int) E1 1) {n cs ss : Nat} {L : List Slot} {S : List Value} {H : AH} {q : Option ORes → Prop} (h : Rsq (go n (123, L, (.int 48 :: S), H, cs, ss)) q) : Rsq (go (n + 1) (121, L, S, H, cs, ss)) q := by
  subst hgo
  exact res_of s1_121 h
theorem t1_123 {go : Nat → St → Option ORes} (hgo : go = orun prog_96_method_10_code (Option.some Jvm.ClassFile.FieldType.int) E1 1) {n cs ss : Nat} {l0 l1 l2 l3 l4 l5 l6 l7 l8 l9 l11 : Slot} {S : List Value} {H : AH} {q : Option ORes → Prop} {v : Int32} (h : Rsq (go n (125, [l0, l1, l2, l3, l4, l5, l6, l7, l8, l9, .val (.int v), l11], (.int v :: S), H, cs, ss)) q) : Rsq (go (n + 1) (123, [l0, l1, l2, l3, l4, l5, l6, l7, l8, l9, .val (.int v), l11], S, H, cs, ss)) q := by
  subst hgo
  exact res_of s1_123 h
theorem t1_125 {go : Nat → St → Option ORes} (hgo : go = orun prog_96_method_10_code (Option.some Jvm.ClassFile.FieldType.int) E1 1) {n cs ss : Nat} {L : List Slot} {S : List Value} {H : AH} {q : Option ORes → Prop} (h : Rsq (go n (127, L, (.int 10 :: S), H, cs, ss)) q) : Rsq (go (n + 1) (125, L, S, H, cs, ss)) q := by
  subst hgo
  exact res_of s1_125 h
theorem t1_127 {go : Nat → St → Option ORes} (hgo : go = orun prog_96_method_10_code (Option.some Jvm.ClassFile.FieldType.int) E1 1) {n cs ss : Nat} {L : List Slot} {S : List Value} {H : AH} {q : Option ORes → Prop} {x y : Int32} (hz : ¬ y = 0) (h : Rsq (go n (128, L, (.int (x % y) :: S), H, cs, ss)) q) : Rsq (go (n + 1) (127, L, (.int y :: .int x :: S), H, cs, ss)) q := by
  subst hgo
  exact res_of s1_127 (res_f hz h)
theorem t1_128 {go : Nat → St → Option ORes} (hgo : go = orun prog_96_method_10_code (Option.some Jvm.ClassFile.FieldType.int) E1 1) {n cs ss : Nat} {L : List Slot} {S : List Value} {H : AH} {q : Option ORes → Prop} {x y : Int32} (h : Rsq (go n (129, L, (.int (x - y) :: S), H, cs, ss)) q) : Rsq (go (n + 1) (128, L, (.int y :: .int x :: S), H, cs, ss)) q := by
  subst hgo
  exact res_of s1_128 h
theorem t1_129 {go : Nat → St → Option ORes} (hgo : go = orun prog_96_method_10_code (Option.some Jvm.ClassFile.FieldType.int) E1 1) {n cs ss : Nat} {L : List Slot} {S : List Value} {H : AH} {q : Option ORes → Prop} {x : Int32} (h : Rsq (go n (130, L, (.int (x.toInt8.toInt32) :: S), H, cs, ss)) q) : Rsq (go (n + 1) (129, L, (.int x :: S), H, cs, ss)) q := by
  subst hgo
  exact res_of s1_129 h
theorem u1_130 {go : Nat → St → Option ORes} (hgo : go = orun prog_96_method_10_code (Option.some Jvm.ClassFile.FieldType.int) E1 1) {n cs ss : Nat} {L : List Slot} {S : List Value} {H : AH} : go (n + 1) (130, L, S, H, cs, ss) = ex (Option.some Jvm.ClassFile.FieldType.int) E1 1 (go n) (.bastore) 130 L S H cs ss := by
  subst hgo
  exact s1_130
theorem t1_131 {go : Nat → St → Option ORes} (hgo : go = orun prog_96_method_10_code (Option.some Jvm.ClassFile.FieldType.int) E1 1) {n cs ss : Nat} {l0 l1 l2 l3 l4 l5 l6 l7 l8 l9 l11 : Slot} {S : List Value} {H : AH} {q : Option ORes → Prop} {v : Int32} (h : Rsq (go n (133, [l0, l1, l2, l3, l4, l5, l6, l7, l8, l9, .val (.int v), l11], (.int v :: S), H, cs, ss)) q) : Rsq (go (n + 1) (131, [l0, l1, l2, l3, l4, l5, l6, l7, l8, l9, .val (.int v), l11], S, H, cs, ss)) q := by
  subst hgo
  exact res_of s1_131 h
theorem t1_133 {go : Nat → St → Option ORes} (hgo : go = orun prog_96_method_10_code (Option.some Jvm.ClassFile.FieldType.int) E1 1) {n cs ss : Nat} {L : List Slot} {S : List Value} {H : AH} {q : Option ORes → Prop} (h : Rsq (go n (135, L, (.int 10 :: S), H, cs, ss)) q) : Rsq (go (n + 1) (133, L, S, H, cs, ss)) q := by
  subst hgo
  exact res_of s1_133 h
theorem t1_135 {go : Nat → St → Option ORes} (hgo : go = orun prog_96_method_10_code (Option.some Jvm.ClassFile.FieldType.int) E1 1) {n cs ss : Nat} {L : List Slot} {S : List Value} {H : AH} {q : Option ORes → Prop} {x y : Int32} (hz : ¬ y = 0) (h : Rsq (go n (136, L, (.int (x / y) :: S), H, cs, ss)) q) : Rsq (go (n + 1) (135, L, (.int y :: .int x :: S), H, cs, ss)) q := by
  subst hgo
  exact res_of s1_135 (res_f hz h)
theorem t1_136 {go : Nat → St → Option ORes} (hgo : go = orun prog_96_method_10_code (Option.some Jvm.ClassFile.FieldType.int) E1 1) {n cs ss : Nat} {l0 l1 l2 l3 l4 l5 l6 l7 l8 l9 l10 l11 : Slot} {S : List Value} {H : AH} {q : Option ORes → Prop} {x : Int32} (hk : so l10 = true) (h : Rsq (go n (138, [l0, l1, l2, l3, l4, l5, l6, l7, l8, l9, .val (.int x), l11], S, H, cs, ss)) q) : Rsq (go (n + 1) (136, [l0, l1, l2, l3, l4, l5, l6, l7, l8, l9, l10, l11], (.int x :: S), H, cs, ss)) q := by
  subst hgo
  refine res_of s1_136 ?_
  rw [pI_int, st1_so (L := [l0, l1, l2, l3, l4, l5, l6, l7, l8, l9, l10, l11]) (k := 10) (l := l10) rfl hk]
  exact h
theorem t1_138 {go : Nat → St → Option ORes} (hgo : go = orun prog_96_method_10_code (Option.some Jvm.ClassFile.FieldType.int) E1 1) {n cs ss : Nat} {l0 l1 l2 l3 l4 l5 l6 l7 l8 l9 l10 : Slot} {S : List Value} {H : AH} {q : Option ORes → Prop} {v : Int32} (h : Rsq (go n (141, [l0, l1, l2, l3, l4, l5, l6, l7, l8, l9, l10, .val (.int (v + (-1)))], S, H, cs, ss)) q) : Rsq (go (n + 1) (138, [l0, l1, l2, l3, l4, l5, l6, l7, l8, l9, l10, .val (.int v)], S, H, cs, ss)) q := by
  subst hgo
  exact res_of s1_138 h
theorem t1_141 {go : Nat → St → Option ORes} (hgo : go = orun prog_96_method_10_code (Option.some Jvm.ClassFile.FieldType.int) E1 1) {n cs ss : Nat} {L : List Slot} {S : List Value} {H : AH} {q : Option ORes → Prop} (h : Rsq (go n (108, L, S, H, cs, ss)) q) : Rsq (go (n + 1) (141, L, S, H, cs, ss)) q := by
  subst hgo
  exact res_of s1_141 h
theorem t1_144 {go : Nat → St → Option ORes} (hgo : go = orun prog_96_method_10_code (Option.some Jvm.ClassFile.FieldType.int) E1 1) {n cs ss : Nat} {l0 l1 l2 l3 l4 l5 l7 l8 l9 l10 l11 : Slot} {S : List Value} {H : AH} {q : Option ORes → Prop} {v : Int32} (h : Rsq (go n (147, [l0, l1, l2, l3, l4, l5, .val (.int (v + 1)), l7, l8, l9, l10, l11], S, H, cs, ss)) q) : Rsq (go (n + 1) (144, [l0, l1, l2, l3, l4, l5, .val (.int v), l7, l8, l9, l10, l11], S, H, cs, ss)) q := by
  subst hgo
  exact res_of s1_144 h
theorem t1_147 {go : Nat → St → Option ORes} (hgo : go = orun prog_96_method_10_code (Option.some Jvm.ClassFile.FieldType.int) E1 1) {n cs ss : Nat} {L : List Slot} {S : List Value} {H : AH} {q : Option ORes → Prop} (h : Rsq (go n (7, L, S, H, cs, ss)) q) : Rsq (go (n + 1) (147, L, S, H, cs, ss)) q := by
  subst hgo
  exact res_of s1_147 h
theorem t1_150 {go : Nat → St → Option ORes} (hgo : go = orun prog_96_method_10_code (Option.some Jvm.ClassFile.FieldType.int) E1 1) {n cs ss : Nat} {l0 l1 l2 l3 l4 l6 l7 l8 l9 l10 l11 : Slot} {S : List Value} {H : AH} {q : Option ORes → Prop} {v : Int32} (h : Rsq (go n (152, [l0, l1, l2, l3, l4, .val (.int v), l6, l7, l8, l9, l10, l11], (.int v :: S), H, cs, ss)) q) : Rsq (go (n + 1) (150, [l0, l1, l2, l3, l4, .val (.int v), l6, l7, l8, l9, l10, l11], S, H, cs, ss)) q := by
  subst hgo
  exact res_of s1_150 h
theorem t1_152 {go : Nat → St → Option ORes} (hgo : go = orun prog_96_method_10_code (Option.some Jvm.ClassFile.FieldType.int) E1 1) {n cs ss : Nat} {L : List Slot} {S : List Value} {H : AH} {q : Option ORes → Prop} {z : Int32} (h : q (some (some (.int z), H))) : Rsq (go (n + 1) (152, L, (.int z :: S), H, cs, ss)) q := by
  subst hgo
  exact res_of s1_152 h
theorem f5_in {x0 : Int32} {H : AH} : F5 [.int x0] H = orun method_3_code (Option.some Jvm.ClassFile.FieldType.long) E5 1 58 (0, [.val (.int x0)], [], H, 0, 0) := rfl
theorem s5_0 {n cs ss : Nat} {L : List Slot} {S : List Value} {H : AH} : orun method_3_code (Option.some Jvm.ClassFile.FieldType.long) E5 1 (n + 1) (0, L, S, H, cs, ss) = (gI L 0).bind fun v => orun method_3_code (Option.some Jvm.ClassFile.FieldType.long) E5 1 n (1, L, .int v :: S, H, cs, ss) := s_any k5_0
theorem s5_1 {n cs ss : Nat} {L : List Slot} {S : List Value} {H : AH} : orun method_3_code (Option.some Jvm.ClassFile.FieldType.long) E5 1 (n + 1) (1, L, S, H, cs, ss) = pI S fun x r => if x < 0 then orun method_3_code (Option.some Jvm.ClassFile.FieldType.long) E5 1 n (4, L, r, H, cs, ss) else orun method_3_code (Option.some Jvm.ClassFile.FieldType.long) E5 1 n (10, L, r, H, cs, ss) := s_ifN (Q := fun x => x < 0) (fun _ => z_ge) k5_1 (by decide) (by decide)
theorem s5_4 {n cs ss : Nat} {L : List Slot} {S : List Value} {H : AH} : orun method_3_code (Option.some Jvm.ClassFile.FieldType.long) E5 1 (n + 1) (4, L, S, H, cs, ss) = (gI L 0).bind fun v => orun method_3_code (Option.some Jvm.ClassFile.FieldType.long) E5 1 n (5, L, .int v :: S, H, cs, ss) := s_any k5_4
theorem s5_5 {n cs ss : Nat} {L : List Slot} {S : List Value} {H : AH} : orun method_3_code (Option.some Jvm.ClassFile.FieldType.long) E5 1 (n + 1) (5, L, S, H, cs, ss) = ex (Option.some Jvm.ClassFile.FieldType.long) E5 1 (orun method_3_code (Option.some Jvm.ClassFile.FieldType.long) E5 1 n) (.i2l) 5 L S H cs ss := s_any k5_5
theorem s5_6 {n cs ss : Nat} {L : List Slot} {S : List Value} {H : AH} : orun method_3_code (Option.some Jvm.ClassFile.FieldType.long) E5 1 (n + 1) (6, L, S, H, cs, ss) = ex (Option.some Jvm.ClassFile.FieldType.long) E5 1 (orun method_3_code (Option.some Jvm.ClassFile.FieldType.long) E5 1 n) (.lneg) 6 L S H cs ss := s_any k5_6
theorem s5_7 {n cs ss : Nat} {L : List Slot} {S : List Value} {H : AH} : orun method_3_code (Option.some Jvm.ClassFile.FieldType.long) E5 1 (n + 1) (7, L, S, H, cs, ss) = orun method_3_code (Option.some Jvm.ClassFile.FieldType.long) E5 1 n (12, L, S, H, cs, ss) := s_goto k5_7 (by decide) (by decide)
theorem s5_10 {n cs ss : Nat} {L : List Slot} {S : List Value} {H : AH} : orun method_3_code (Option.some Jvm.ClassFile.FieldType.long) E5 1 (n + 1) (10, L, S, H, cs, ss) = (gI L 0).bind fun v => orun method_3_code (Option.some Jvm.ClassFile.FieldType.long) E5 1 n (11, L, .int v :: S, H, cs, ss) := s_any k5_10
theorem s5_11 {n cs ss : Nat} {L : List Slot} {S : List Value} {H : AH} : orun method_3_code (Option.some Jvm.ClassFile.FieldType.long) E5 1 (n + 1) (11, L, S, H, cs, ss) = ex (Option.some Jvm.ClassFile.FieldType.long) E5 1 (orun method_3_code (Option.some Jvm.ClassFile.FieldType.long) E5 1 n) (.i2l) 11 L S H cs ss := s_any k5_11
theorem s5_12 {n cs ss : Nat} {L : List Slot} {S : List Value} {H : AH} : orun method_3_code (Option.some Jvm.ClassFile.FieldType.long) E5 1 (n + 1) (12, L, S, H, cs, ss) = pL S fun z _ => some (some (.long z), H) := s_any k5_12
theorem t5_0 {go : Nat → St → Option ORes} (hgo : go = orun method_3_code (Option.some Jvm.ClassFile.FieldType.long) E5 1) {n cs ss : Nat} {S : List Value} {H : AH} {q : Option ORes → Prop} {v : Int32} (h : Rsq (go n (1, [.val (.int v)], (.int v :: S), H, cs, ss)) q) : Rsq (go (n + 1) (0, [.val (.int v)], S, H, cs, ss)) q := by
  subst hgo
  exact res_of s5_0 h
theorem t5_1t {go : Nat → St → Option ORes} (hgo : go = orun method_3_code (Option.some Jvm.ClassFile.FieldType.long) E5 1) {n cs ss : Nat} {L : List Slot} {S : List Value} {H : AH} {q : Option ORes → Prop} {x : Int32} (hc : x < 0) (h : Rsq (go n (4, L, S, H, cs, ss)) q) : Rsq (go (n + 1) (1, L, (.int x :: S), H, cs, ss)) q := by
  subst hgo
  exact res_of s5_1 (res_t hc h)
theorem t5_1f {go : Nat → St → Option ORes} (hgo : go = orun method_3_code (Option.some Jvm.ClassFile.FieldType.long) E5 1) {n cs ss : Nat} {L : List Slot} {S : List Value} {H : AH} {q : Option ORes → Prop} {x : Int32} (hc : ¬ x < 0) (h : Rsq (go n (10, L, S, H, cs, ss)) q) : Rsq (go (n + 1) (1, L, (.int x :: S), H, cs, ss)) q := by
  subst hgo
  exact res_of s5_1 (res_f hc h)
theorem t5_4 {go : Nat → St → Option ORes} (hgo : go = orun method_3_code (Option.some Jvm.ClassFile.FieldType.long) E5 1) {n cs ss : Nat} {S : List Value} {H : AH} {q : Option ORes → Prop} {v : Int32} (h : Rsq (go n (5, [.val (.int v)], (.int v :: S), H, cs, ss)) q) : Rsq (go (n + 1) (4, [.val (.int v)], S, H, cs, ss)) q := by
  subst hgo
  exact res_of s5_4 h
theorem t5_5 {go : Nat → St → Option ORes} (hgo : go = orun method_3_code (Option.some Jvm.ClassFile.FieldType.long) E5 1) {n cs ss : Nat} {L : List Slot} {S : List Value} {H : AH} {q : Option ORes → Prop} {x : Int32} (h : Rsq (go n (6, L, (.long x.toInt64 :: S), H, cs, ss)) q) : Rsq (go (n + 1) (5, L, (.int x :: S), H, cs, ss)) q := by
  subst hgo
  exact res_of s5_5 h
theorem t5_6 {go : Nat → St → Option ORes} (hgo : go = orun method_3_code (Option.some Jvm.ClassFile.FieldType.long) E5 1) {n cs ss : Nat} {L : List Slot} {S : List Value} {H : AH} {q : Option ORes → Prop} {x : Int64} (h : Rsq (go n (7, L, (.long (-x) :: S), H, cs, ss)) q) : Rsq (go (n + 1) (6, L, (.long x :: S), H, cs, ss)) q := by
  subst hgo
  exact res_of s5_6 h
theorem t5_7 {go : Nat → St → Option ORes} (hgo : go = orun method_3_code (Option.some Jvm.ClassFile.FieldType.long) E5 1) {n cs ss : Nat} {L : List Slot} {S : List Value} {H : AH} {q : Option ORes → Prop} (h : Rsq (go n (12, L, S, H, cs, ss)) q) : Rsq (go (n + 1) (7, L, S, H, cs, ss)) q := by
  subst hgo
  exact res_of s5_7 h
theorem t5_10 {go : Nat → St → Option ORes} (hgo : go = orun method_3_code (Option.some Jvm.ClassFile.FieldType.long) E5 1) {n cs ss : Nat} {S : List Value} {H : AH} {q : Option ORes → Prop} {v : Int32} (h : Rsq (go n (11, [.val (.int v)], (.int v :: S), H, cs, ss)) q) : Rsq (go (n + 1) (10, [.val (.int v)], S, H, cs, ss)) q := by
  subst hgo
  exact res_of s5_10 h
theorem t5_11 {go : Nat → St → Option ORes} (hgo : go = orun method_3_code (Option.some Jvm.ClassFile.FieldType.long) E5 1) {n cs ss : Nat} {L : List Slot} {S : List Value} {H : AH} {q : Option ORes → Prop} {x : Int32} (h : Rsq (go n (12, L, (.long x.toInt64 :: S), H, cs, ss)) q) : Rsq (go (n + 1) (11, L, (.int x :: S), H, cs, ss)) q := by
  subst hgo
  exact res_of s5_11 h
theorem t5_12 {go : Nat → St → Option ORes} (hgo : go = orun method_3_code (Option.some Jvm.ClassFile.FieldType.long) E5 1) {n cs ss : Nat} {L : List Slot} {S : List Value} {H : AH} {q : Option ORes → Prop} {z : Int64} (h : q (some (some (.long z), H))) : Rsq (go (n + 1) (12, L, (.long z :: S), H, cs, ss)) q := by
  subst hgo
  exact res_of s5_12 h
theorem f6_in {x0 : Int64} {H : AH} : F6 [.long x0] H = orun method_4_code (Option.some Jvm.ClassFile.FieldType.int) E6 1 152 (0, [.val (.long x0), .second], [], H, 0, 0) := rfl
theorem s6_0 {n cs ss : Nat} {L : List Slot} {S : List Value} {H : AH} : orun method_4_code (Option.some Jvm.ClassFile.FieldType.int) E6 1 (n + 1) (0, L, S, H, cs, ss) = (gL L 0).bind fun v => orun method_4_code (Option.some Jvm.ClassFile.FieldType.int) E6 1 n (1, L, .long v :: S, H, cs, ss) := s_any k6_0
theorem s6_1 {n cs ss : Nat} {L : List Slot} {S : List Value} {H : AH} : orun method_4_code (Option.some Jvm.ClassFile.FieldType.int) E6 1 (n + 1) (1, L, S, H, cs, ss) = (aJ (10) S H cs ss).bind fun r => orun method_4_code (Option.some Jvm.ClassFile.FieldType.int) E6 1 n (4, L, r.1, r.2.1, r.2.2.1, r.2.2.2) := s_any k6_1
theorem s6_4 {n cs ss : Nat} {L : List Slot} {S : List Value} {H : AH} : orun method_4_code (Option.some Jvm.ClassFile.FieldType.int) E6 1 (n + 1) (4, L, S, H, cs, ss) = ex (Option.some Jvm.ClassFile.FieldType.int) E6 1 (orun method_4_code (Option.some Jvm.ClassFile.FieldType.int) E6 1 n) (.lcmp) 4 L S H cs ss := s_any k6_4
theorem s6_5 {n cs ss : Nat} {L : List Slot} {S : List Value} {H : AH} : orun method_4_code (Option.some Jvm.ClassFile.FieldType.int) E6 1 (n + 1) (5, L, S, H, cs, ss) = pI S fun x r => if x < 0 then orun method_4_code (Option.some Jvm.ClassFile.FieldType.int) E6 1 n (8, L, r, H, cs, ss) else orun method_4_code (Option.some Jvm.ClassFile.FieldType.int) E6 1 n (10, L, r, H, cs, ss) := s_ifN (Q := fun x => x < 0) (fun _ => z_ge) k6_5 (by decide) (by decide)
theorem s6_8 {n cs ss : Nat} {L : List Slot} {S : List Value} {H : AH} : orun method_4_code (Option.some Jvm.ClassFile.FieldType.int) E6 1 (n + 1) (8, L, S, H, cs, ss) = orun method_4_code (Option.some Jvm.ClassFile.FieldType.int) E6 1 n (9, L, (.int 1 :: S), H, cs, ss) := s_any k6_8
theorem s6_9 {n cs ss : Nat} {L : List Slot} {S : List Value} {H : AH} : orun method_4_code (Option.some Jvm.ClassFile.FieldType.int) E6 1 (n + 1) (9, L, S, H, cs, ss) = pI S fun z _ => some (some (.int z), H) := s_any k6_9
theorem s6_10 {n cs ss : Nat} {L : List Slot} {S : List Value} {H : AH} : orun method_4_code (Option.some Jvm.ClassFile.FieldType.int) E6 1 (n + 1) (10, L, S, H, cs, ss) = (gL L 0).bind fun v => orun method_4_code (Option.some Jvm.ClassFile.FieldType.int) E6 1 n (11, L, .long v :: S, H, cs, ss) := s_any k6_10
theorem s6_11 {n cs ss : Nat} {L : List Slot} {S : List Value} {H : AH} : orun method_4_code (Option.some Jvm.ClassFile.FieldType.int) E6 1 (n + 1) (11, L, S, H, cs, ss) = (aJ (100) S H cs ss).bind fun r => orun method_4_code (Option.some Jvm.ClassFile.FieldType.int) E6 1 n (14, L, r.1, r.2.1, r.2.2.1, r.2.2.2) := s_any k6_11
theorem s6_14 {n cs ss : Nat} {L : List Slot} {S : List Value} {H : AH} : orun method_4_code (Option.some Jvm.ClassFile.FieldType.int) E6 1 (n + 1) (14, L, S, H, cs, ss) = ex (Option.some Jvm.ClassFile.FieldType.int) E6 1 (orun method_4_code (Option.some Jvm.ClassFile.FieldType.int) E6 1 n) (.lcmp) 14 L S H cs ss := s_any k6_14
theorem s6_15 {n cs ss : Nat} {L : List Slot} {S : List Value} {H : AH} : orun method_4_code (Option.some Jvm.ClassFile.FieldType.int) E6 1 (n + 1) (15, L, S, H, cs, ss) = pI S fun x r => if x < 0 then orun method_4_code (Option.some Jvm.ClassFile.FieldType.int) E6 1 n (18, L, r, H, cs, ss) else orun method_4_code (Option.some Jvm.ClassFile.FieldType.int) E6 1 n (20, L, r, H, cs, ss) := s_ifN (Q := fun x => x < 0) (fun _ => z_ge) k6_15 (by decide) (by decide)
theorem s6_18 {n cs ss : Nat} {L : List Slot} {S : List Value} {H : AH} : orun method_4_code (Option.some Jvm.ClassFile.FieldType.int) E6 1 (n + 1) (18, L, S, H, cs, ss) = orun method_4_code (Option.some Jvm.ClassFile.FieldType.int) E6 1 n (19, L, (.int 2 :: S), H, cs, ss) := s_any k6_18
theorem s6_19 {n cs ss : Nat} {L : List Slot} {S : List Value} {H : AH} : orun method_4_code (Option.some Jvm.ClassFile.FieldType.int) E6 1 (n + 1) (19, L, S, H, cs, ss) = pI S fun z _ => some (some (.int z), H) := s_any k6_19
theorem s6_20 {n cs ss : Nat} {L : List Slot} {S : List Value} {H : AH} : orun method_4_code (Option.some Jvm.ClassFile.FieldType.int) E6 1 (n + 1) (20, L, S, H, cs, ss) = (gL L 0).bind fun v => orun method_4_code (Option.some Jvm.ClassFile.FieldType.int) E6 1 n (21, L, .long v :: S, H, cs, ss) := s_any k6_20
theorem s6_21 {n cs ss : Nat} {L : List Slot} {S : List Value} {H : AH} : orun method_4_code (Option.some Jvm.ClassFile.FieldType.int) E6 1 (n + 1) (21, L, S, H, cs, ss) = (aJ (1000) S H cs ss).bind fun r => orun method_4_code (Option.some Jvm.ClassFile.FieldType.int) E6 1 n (24, L, r.1, r.2.1, r.2.2.1, r.2.2.2) := s_any k6_21
theorem s6_24 {n cs ss : Nat} {L : List Slot} {S : List Value} {H : AH} : orun method_4_code (Option.some Jvm.ClassFile.FieldType.int) E6 1 (n + 1) (24, L, S, H, cs, ss) = ex (Option.some Jvm.ClassFile.FieldType.int) E6 1 (orun method_4_code (Option.some Jvm.ClassFile.FieldType.int) E6 1 n) (.lcmp) 24 L S H cs ss := s_any k6_24
theorem s6_25 {n cs ss : Nat} {L : List Slot} {S : List Value} {H : AH} : orun method_4_code (Option.some Jvm.ClassFile.FieldType.int) E6 1 (n + 1) (25, L, S, H, cs, ss) = pI S fun x r => if x < 0 then orun method_4_code (Option.some Jvm.ClassFile.FieldType.int) E6 1 n (28, L, r, H, cs, ss) else orun method_4_code (Option.some Jvm.ClassFile.FieldType.int) E6 1 n (30, L, r, H, cs, ss) := s_ifN (Q := fun x => x < 0) (fun _ => z_ge) k6_25 (by decide) (by decide)
theorem s6_28 {n cs ss : Nat} {L : List Slot} {S : List Value} {H : AH} : orun method_4_code (Option.some Jvm.ClassFile.FieldType.int) E6 1 (n + 1) (28, L, S, H, cs, ss) = orun method_4_code (Option.some Jvm.ClassFile.FieldType.int) E6 1 n (29, L, (.int 3 :: S), H, cs, ss) := s_any k6_28
theorem s6_29 {n cs ss : Nat} {L : List Slot} {S : List Value} {H : AH} : orun method_4_code (Option.some Jvm.ClassFile.FieldType.int) E6 1 (n + 1) (29, L, S, H, cs, ss) = pI S fun z _ => some (some (.int z), H) := s_any k6_29
theorem s6_30 {n cs ss : Nat} {L : List Slot} {S : List Value} {H : AH} : orun method_4_code (Option.some Jvm.ClassFile.FieldType.int) E6 1 (n + 1) (30, L, S, H, cs, ss) = (gL L 0).bind fun v => orun method_4_code (Option.some Jvm.ClassFile.FieldType.int) E6 1 n (31, L, .long v :: S, H, cs, ss) := s_any k6_30
theorem s6_31 {n cs ss : Nat} {L : List Slot} {S : List Value} {H : AH} : orun method_4_code (Option.some Jvm.ClassFile.FieldType.int) E6 1 (n + 1) (31, L, S, H, cs, ss) = (aJ (10000) S H cs ss).bind fun r => orun method_4_code (Option.some Jvm.ClassFile.FieldType.int) E6 1 n (34, L, r.1, r.2.1, r.2.2.1, r.2.2.2) := s_any k6_31
theorem s6_34 {n cs ss : Nat} {L : List Slot} {S : List Value} {H : AH} : orun method_4_code (Option.some Jvm.ClassFile.FieldType.int) E6 1 (n + 1) (34, L, S, H, cs, ss) = ex (Option.some Jvm.ClassFile.FieldType.int) E6 1 (orun method_4_code (Option.some Jvm.ClassFile.FieldType.int) E6 1 n) (.lcmp) 34 L S H cs ss := s_any k6_34
theorem s6_35 {n cs ss : Nat} {L : List Slot} {S : List Value} {H : AH} : orun method_4_code (Option.some Jvm.ClassFile.FieldType.int) E6 1 (n + 1) (35, L, S, H, cs, ss) = pI S fun x r => if x < 0 then orun method_4_code (Option.some Jvm.ClassFile.FieldType.int) E6 1 n (38, L, r, H, cs, ss) else orun method_4_code (Option.some Jvm.ClassFile.FieldType.int) E6 1 n (40, L, r, H, cs, ss) := s_ifN (Q := fun x => x < 0) (fun _ => z_ge) k6_35 (by decide) (by decide)
theorem s6_38 {n cs ss : Nat} {L : List Slot} {S : List Value} {H : AH} : orun method_4_code (Option.some Jvm.ClassFile.FieldType.int) E6 1 (n + 1) (38, L, S, H, cs, ss) = orun method_4_code (Option.some Jvm.ClassFile.FieldType.int) E6 1 n (39, L, (.int 4 :: S), H, cs, ss) := s_any k6_38
theorem s6_39 {n cs ss : Nat} {L : List Slot} {S : List Value} {H : AH} : orun method_4_code (Option.some Jvm.ClassFile.FieldType.int) E6 1 (n + 1) (39, L, S, H, cs, ss) = pI S fun z _ => some (some (.int z), H) := s_any k6_39
theorem s6_40 {n cs ss : Nat} {L : List Slot} {S : List Value} {H : AH} : orun method_4_code (Option.some Jvm.ClassFile.FieldType.int) E6 1 (n + 1) (40, L, S, H, cs, ss) = (gL L 0).bind fun v => orun method_4_code (Option.some Jvm.ClassFile.FieldType.int) E6 1 n (41, L, .long v :: S, H, cs, ss) := s_any k6_40
theorem s6_41 {n cs ss : Nat} {L : List Slot} {S : List Value} {H : AH} : orun method_4_code (Option.some Jvm.ClassFile.FieldType.int) E6 1 (n + 1) (41, L, S, H, cs, ss) = (aJ (100000) S H cs ss).bind fun r => orun method_4_code (Option.some Jvm.ClassFile.FieldType.int) E6 1 n (44, L, r.1, r.2.1, r.2.2.1, r.2.2.2) := s_any k6_41
theorem s6_44 {n cs ss : Nat} {L : List Slot} {S : List Value} {H : AH} : orun method_4_code (Option.some Jvm.ClassFile.FieldType.int) E6 1 (n + 1) (44, L, S, H, cs, ss) = ex (Option.some Jvm.ClassFile.FieldType.int) E6 1 (orun method_4_code (Option.some Jvm.ClassFile.FieldType.int) E6 1 n) (.lcmp) 44 L S H cs ss := s_any k6_44
theorem s6_45 {n cs ss : Nat} {L : List Slot} {S : List Value} {H : AH} : orun method_4_code (Option.some Jvm.ClassFile.FieldType.int) E6 1 (n + 1) (45, L, S, H, cs, ss) = pI S fun x r => if x < 0 then orun method_4_code (Option.some Jvm.ClassFile.FieldType.int) E6 1 n (48, L, r, H, cs, ss) else orun method_4_code (Option.some Jvm.ClassFile.FieldType.int) E6 1 n (50, L, r, H, cs, ss) := s_ifN (Q := fun x => x < 0) (fun _ => z_ge) k6_45 (by decide) (by decide)
theorem s6_48 {n cs ss : Nat} {L : List Slot} {S : List Value} {H : AH} : orun method_4_code (Option.some Jvm.ClassFile.FieldType.int) E6 1 (n + 1) (48, L, S, H, cs, ss) = orun method_4_code (Option.some Jvm.ClassFile.FieldType.int) E6 1 n (49, L, (.int 5 :: S), H, cs, ss) := s_any k6_48
theorem s6_49 {n cs ss : Nat} {L : List Slot} {S : List Value} {H : AH} : orun method_4_code (Option.some Jvm.ClassFile.FieldType.int) E6 1 (n + 1) (49, L, S, H, cs, ss) = pI S fun z _ => some (some (.int z), H) := s_any k6_49
theorem s6_50 {n cs ss : Nat} {L : List Slot} {S : List Value} {H : AH} : orun method_4_code (Option.some Jvm.ClassFile.FieldType.int) E6 1 (n + 1) (50, L, S, H, cs, ss) = (gL L 0).bind fun v => orun method_4_code (Option.some Jvm.ClassFile.FieldType.int) E6 1 n (51, L, .long v :: S, H, cs, ss) := s_any k6_50
theorem s6_51 {n cs ss : Nat} {L : List Slot} {S : List Value} {H : AH} : orun method_4_code (Option.some Jvm.ClassFile.FieldType.int) E6 1 (n + 1) (51, L, S, H, cs, ss) = (aJ (1000000) S H cs ss).bind fun r => orun method_4_code (Option.some Jvm.ClassFile.FieldType.int) E6 1 n (54, L, r.1, r.2.1, r.2.2.1, r.2.2.2) := s_any k6_51
theorem s6_54 {n cs ss : Nat} {L : List Slot} {S : List Value} {H : AH} : orun method_4_code (Option.some Jvm.ClassFile.FieldType.int) E6 1 (n + 1) (54, L, S, H, cs, ss) = ex (Option.some Jvm.ClassFile.FieldType.int) E6 1 (orun method_4_code (Option.some Jvm.ClassFile.FieldType.int) E6 1 n) (.lcmp) 54 L S H cs ss := s_any k6_54
theorem s6_55 {n cs ss : Nat} {L : List Slot} {S : List Value} {H : AH} : orun method_4_code (Option.some Jvm.ClassFile.FieldType.int) E6 1 (n + 1) (55, L, S, H, cs, ss) = pI S fun x r => if x < 0 then orun method_4_code (Option.some Jvm.ClassFile.FieldType.int) E6 1 n (58, L, r, H, cs, ss) else orun method_4_code (Option.some Jvm.ClassFile.FieldType.int) E6 1 n (61, L, r, H, cs, ss) := s_ifN (Q := fun x => x < 0) (fun _ => z_ge) k6_55 (by decide) (by decide)
theorem s6_58 {n cs ss : Nat} {L : List Slot} {S : List Value} {H : AH} : orun method_4_code (Option.some Jvm.ClassFile.FieldType.int) E6 1 (n + 1) (58, L, S, H, cs, ss) = orun method_4_code (Option.some Jvm.ClassFile.FieldType.int) E6 1 n (60, L, (.int 6 :: S), H, cs, ss) := s_any k6_58
theorem s6_60 {n cs ss : Nat} {L : List Slot} {S : List Value} {H : AH} : orun method_4_code (Option.some Jvm.ClassFile.FieldType.int) E6 1 (n + 1) (60, L, S, H, cs, ss) = pI S fun z _ => some (some (.int z), H) := s_any k6_60
theorem s6_61 {n cs ss : Nat} {L : List Slot} {S : List Value} {H : AH} : orun method_4_code (Option.some Jvm.ClassFile.FieldType.int) E6 1 (n + 1) (61, L, S, H, cs, ss) = (gL L 0).bind fun v => orun method_4_code (Option.some Jvm.ClassFile.FieldType.int) E6 1 n (62, L, .long v :: S, H, cs, ss) := s_any k6_61
theorem s6_62 {n cs ss : Nat} {L : List Slot} {S : List Value} {H : AH} : orun method_4_code (Option.some Jvm.ClassFile.FieldType.int) E6 1 (n + 1) (62, L, S, H, cs, ss) = (aJ (10000000) S H cs ss).bind fun r => orun method_4_code (Option.some Jvm.ClassFile.FieldType.int) E6 1 n (65, L, r.1, r.2.1, r.2.2.1, r.2.2.2) := s_any k6_62
theorem s6_65 {n cs ss : Nat} {L : List Slot} {S : List Value} {H : AH} : orun method_4_code (Option.some Jvm.ClassFile.FieldType.int) E6 1 (n + 1) (65, L, S, H, cs, ss) = ex (Option.some Jvm.ClassFile.FieldType.int) E6 1 (orun method_4_code (Option.some Jvm.ClassFile.FieldType.int) E6 1 n) (.lcmp) 65 L S H cs ss := s_any k6_65
theorem s6_66 {n cs ss : Nat} {L : List Slot} {S : List Value} {H : AH} : orun method_4_code (Option.some Jvm.ClassFile.FieldType.int) E6 1 (n + 1) (66, L, S, H, cs, ss) = pI S fun x r => if x < 0 then orun method_4_code (Option.some Jvm.ClassFile.FieldType.int) E6 1 n (69, L, r, H, cs, ss) else orun method_4_code (Option.some Jvm.ClassFile.FieldType.int) E6 1 n (72, L, r, H, cs, ss) := s_ifN (Q := fun x => x < 0) (fun _ => z_ge) k6_66 (by decide) (by decide)
theorem s6_69 {n cs ss : Nat} {L : List Slot} {S : List Value} {H : AH} : orun method_4_code (Option.some Jvm.ClassFile.FieldType.int) E6 1 (n + 1) (69, L, S, H, cs, ss) = orun method_4_code (Option.some Jvm.ClassFile.FieldType.int) E6 1 n (71, L, (.int 7 :: S), H, cs, ss) := s_any k6_69
theorem s6_71 {n cs ss : Nat} {L : List Slot} {S : List Value} {H : AH} : orun method_4_code (Option.some Jvm.ClassFile.FieldType.int) E6 1 (n + 1) (71, L, S, H, cs, ss) = pI S fun z _ => some (some (.int z), H) := s_any k6_71
theorem s6_72 {n cs ss : Nat} {L : List Slot} {S : List Value} {H : AH} : orun method_4_code (Option.some Jvm.ClassFile.FieldType.int) E6 1 (n + 1) (72, L, S, H, cs, ss) = (gL L 0).bind fun v => orun method_4_code (Option.some Jvm.ClassFile.FieldType.int) E6 1 n (73, L, .long v :: S, H, cs, ss) := s_any k6_72
theorem s6_73 {n cs ss : Nat} {L : List Slot} {S : List Value} {H : AH} : orun method_4_code (Option.some Jvm.ClassFile.FieldType.int) E6 1 (n + 1) (73, L, S, H, cs, ss) = (aJ (100000000) S H cs ss).bind fun r => orun method_4_code (Option.some Jvm.ClassFile.FieldType.int) E6 1 n (76, L, r.1, r.2.1, r.2.2.1, r.2.2.2) := s_any k6_73
theorem s6_76 {n cs ss : Nat} {L : List Slot} {S : List Value} {H : AH} : orun method_4_code (Option.some Jvm.ClassFile.FieldType.int) E6 1 (n + 1) (76, L, S, H, cs, ss) = ex (Option.some Jvm.ClassFile.FieldType.int) E6 1 (orun method_4_code (Option.some Jvm.ClassFile.FieldType.int) E6 1 n) (.lcmp) 76 L S H cs ss := s_any k6_76
theorem s6_77 {n cs ss : Nat} {L : List Slot} {S : List Value} {H : AH} : orun method_4_code (Option.some Jvm.ClassFile.FieldType.int) E6 1 (n + 1) (77, L, S, H, cs, ss) = pI S fun x r => if x < 0 then orun method_4_code (Option.some Jvm.ClassFile.FieldType.int) E6 1 n (80, L, r, H, cs, ss) else orun method_4_code (Option.some Jvm.ClassFile.FieldType.int) E6 1 n (83, L, r, H, cs, ss) := s_ifN (Q := fun x => x < 0) (fun _ => z_ge) k6_77 (by decide) (by decide)
theorem s6_80 {n cs ss : Nat} {L : List Slot} {S : List Value} {H : AH} : orun method_4_code (Option.some Jvm.ClassFile.FieldType.int) E6 1 (n + 1) (80, L, S, H, cs, ss) = orun method_4_code (Option.some Jvm.ClassFile.FieldType.int) E6 1 n (82, L, (.int 8 :: S), H, cs, ss) := s_any k6_80
theorem s6_82 {n cs ss : Nat} {L : List Slot} {S : List Value} {H : AH} : orun method_4_code (Option.some Jvm.ClassFile.FieldType.int) E6 1 (n + 1) (82, L, S, H, cs, ss) = pI S fun z _ => some (some (.int z), H) := s_any k6_82
theorem s6_83 {n cs ss : Nat} {L : List Slot} {S : List Value} {H : AH} : orun method_4_code (Option.some Jvm.ClassFile.FieldType.int) E6 1 (n + 1) (83, L, S, H, cs, ss) = (gL L 0).bind fun v => orun method_4_code (Option.some Jvm.ClassFile.FieldType.int) E6 1 n (84, L, .long v :: S, H, cs, ss) := s_any k6_83
theorem s6_84 {n cs ss : Nat} {L : List Slot} {S : List Value} {H : AH} : orun method_4_code (Option.some Jvm.ClassFile.FieldType.int) E6 1 (n + 1) (84, L, S, H, cs, ss) = (aJ (1000000000) S H cs ss).bind fun r => orun method_4_code (Option.some Jvm.ClassFile.FieldType.int) E6 1 n (87, L, r.1, r.2.1, r.2.2.1, r.2.2.2) := s_any k6_84
theorem s6_87 {n cs ss : Nat} {L : List Slot} {S : List Value} {H : AH} : orun method_4_code (Option.some Jvm.ClassFile.FieldType.int) E6 1 (n + 1) (87, L, S, H, cs, ss) = ex (Option.some Jvm.ClassFile.FieldType.int) E6 1 (orun method_4_code (Option.some Jvm.ClassFile.FieldType.int) E6 1 n) (.lcmp) 87 L S H cs ss := s_any k6_87
theorem s6_88 {n cs ss : Nat} {L : List Slot} {S : List Value} {H : AH} : orun method_4_code (Option.some Jvm.ClassFile.FieldType.int) E6 1 (n + 1) (88, L, S, H, cs, ss) = pI S fun x r => if x < 0 then orun method_4_code (Option.some Jvm.ClassFile.FieldType.int) E6 1 n (91, L, r, H, cs, ss) else orun method_4_code (Option.some Jvm.ClassFile.FieldType.int) E6 1 n (94, L, r, H, cs, ss) := s_ifN (Q := fun x => x < 0) (fun _ => z_ge) k6_88 (by decide) (by decide)
theorem s6_91 {n cs ss : Nat} {L : List Slot} {S : List Value} {H : AH} : orun method_4_code (Option.some Jvm.ClassFile.FieldType.int) E6 1 (n + 1) (91, L, S, H, cs, ss) = orun method_4_code (Option.some Jvm.ClassFile.FieldType.int) E6 1 n (93, L, (.int 9 :: S), H, cs, ss) := s_any k6_91
theorem s6_93 {n cs ss : Nat} {L : List Slot} {S : List Value} {H : AH} : orun method_4_code (Option.some Jvm.ClassFile.FieldType.int) E6 1 (n + 1) (93, L, S, H, cs, ss) = pI S fun z _ => some (some (.int z), H) := s_any k6_93
theorem s6_94 {n cs ss : Nat} {L : List Slot} {S : List Value} {H : AH} : orun method_4_code (Option.some Jvm.ClassFile.FieldType.int) E6 1 (n + 1) (94, L, S, H, cs, ss) = orun method_4_code (Option.some Jvm.ClassFile.FieldType.int) E6 1 n (96, L, (.int 10 :: S), H, cs, ss) := s_any k6_94
theorem s6_96 {n cs ss : Nat} {L : List Slot} {S : List Value} {H : AH} : orun method_4_code (Option.some Jvm.ClassFile.FieldType.int) E6 1 (n + 1) (96, L, S, H, cs, ss) = pI S fun z _ => some (some (.int z), H) := s_any k6_96
theorem t6_0 {go : Nat → St → Option ORes} (hgo : go = orun method_4_code (Option.some Jvm.ClassFile.FieldType.int) E6 1) {n cs ss : Nat} {l1 : Slot} {S : List Value} {H : AH} {q : Option ORes → Prop} {v : Int64} (h : Rsq (go n (1, [.val (.long v), l1], (.long v :: S), H, cs, ss)) q) : Rsq (go (n + 1) (0, [.val (.long v), l1], S, H, cs, ss)) q := by
  subst hgo
  exact res_of s6_0 h
theorem t6_1 {go : Nat → St → Option ORes} (hgo : go = orun method_4_code (Option.some Jvm.ClassFile.FieldType.int) E6 1) {n cs ss : Nat} {L : List Slot} {S : List Value} {H : AH} {q : Option ORes → Prop} (h : Rsq (go n (4, L, (.long (10) :: S), H, cs, ss)) q) : Rsq (go (n + 1) (1, L, S, H, cs, ss)) q := by
  subst hgo
  exact res_of s6_1 h
theorem t6_4 {go : Nat → St → Option ORes} (hgo : go = orun method_4_code (Option.some Jvm.ClassFile.FieldType.int) E6 1) {n cs ss : Nat} {L : List Slot} {S : List Value} {H : AH} {q : Option ORes → Prop} {x y : Int64} (h : Rsq (go n (5, L, (.int (lcmpW x y) :: S), H, cs, ss)) q) : Rsq (go (n + 1) (4, L, (.long y :: .long x :: S), H, cs, ss)) q := by
  subst hgo
  exact res_of s6_4 h
theorem t6_5t {go : Nat → St → Option ORes} (hgo : go = orun method_4_code (Option.some Jvm.ClassFile.FieldType.int) E6 1) {n cs ss : Nat} {L : List Slot} {S : List Value} {H : AH} {q : Option ORes → Prop} {x : Int32} (hc : x < 0) (h : Rsq (go n (8, L, S, H, cs, ss)) q) : Rsq (go (n + 1) (5, L, (.int x :: S), H, cs, ss)) q := by
  subst hgo
  exact res_of s6_5 (res_t hc h)
theorem t6_5f {go : Nat → St → Option ORes} (hgo : go = orun method_4_code (Option.some Jvm.ClassFile.FieldType.int) E6 1) {n cs ss : Nat} {L : List Slot} {S : List Value} {H : AH} {q : Option ORes → Prop} {x : Int32} (hc : ¬ x < 0) (h : Rsq (go n (10, L, S, H, cs, ss)) q) : Rsq (go (n + 1) (5, L, (.int x :: S), H, cs, ss)) q := by
  subst hgo
  exact res_of s6_5 (res_f hc h)
theorem t6_8 {go : Nat → St → Option ORes} (hgo : go = orun method_4_code (Option.some Jvm.ClassFile.FieldType.int) E6 1) {n cs ss : Nat} {L : List Slot} {S : List Value} {H : AH} {q : Option ORes → Prop} (h : Rsq (go n (9, L, (.int 1 :: S), H, cs, ss)) q) : Rsq (go (n + 1) (8, L, S, H, cs, ss)) q := by
  subst hgo
  exact res_of s6_8 h
theorem t6_9 {go : Nat → St → Option ORes} (hgo : go = orun method_4_code (Option.some Jvm.ClassFile.FieldType.int) E6 1) {n cs ss : Nat} {L : List Slot} {S : List Value} {H : AH} {q : Option ORes → Prop} {z : Int32} (h : q (some (some (.int z), H))) : Rsq (go (n + 1) (9, L, (.int z :: S), H, cs, ss)) q := by
  subst hgo
  exact res_of s6_9 h
theorem t6_10 {go : Nat → St → Option ORes} (hgo : go = orun method_4_code (Option.some Jvm.ClassFile.FieldType.int) E6 1) {n cs ss : Nat} {l1 : Slot} {S : List Value} {H : AH} {q : Option ORes → Prop} {v : Int64} (h : Rsq (go n (11, [.val (.long v), l1], (.long v :: S), H, cs, ss)) q) : Rsq (go (n + 1) (10, [.val (.long v), l1], S, H, cs, ss)) q := by
  subst hgo
  exact res_of s6_10 h
theorem t6_11 {go : Nat → St → Option ORes} (hgo : go = orun method_4_code (Option.some Jvm.ClassFile.FieldType.int) E6 1) {n cs ss : Nat} {L : List Slot} {S : List Value} {H : AH} {q : Option ORes → Prop} (h : Rsq (go n (14, L, (.long (100) :: S), H, cs, ss)) q) : Rsq (go (n + 1) (11, L, S, H, cs, ss)) q := by
  subst hgo
  exact res_of s6_11 h
theorem t6_14 {go : Nat → St → Option ORes} (hgo : go = orun method_4_code (Option.some Jvm.ClassFile.FieldType.int) E6 1) {n cs ss : Nat} {L : List Slot} {S : List Value} {H : AH} {q : Option ORes → Prop} {x y : Int64} (h : Rsq (go n (15, L, (.int (lcmpW x y) :: S), H, cs, ss)) q) : Rsq (go (n + 1) (14, L, (.long y :: .long x :: S), H, cs, ss)) q := by
  subst hgo
  exact res_of s6_14 h
theorem t6_15t {go : Nat → St → Option ORes} (hgo : go = orun method_4_code (Option.some Jvm.ClassFile.FieldType.int) E6 1) {n cs ss : Nat} {L : List Slot} {S : List Value} {H : AH} {q : Option ORes → Prop} {x : Int32} (hc : x < 0) (h : Rsq (go n (18, L, S, H, cs, ss)) q) : Rsq (go (n + 1) (15, L, (.int x :: S), H, cs, ss)) q := by
  subst hgo
  exact res_of s6_15 (res_t hc h)
theorem t6_15f {go : Nat → St → Option ORes} (hgo : go = orun method_4_code (Option.some Jvm.ClassFile.FieldType.int) E6 1) {n cs ss : Nat} {L : List Slot} {S : List Value} {H : AH} {q : Option ORes → Prop} {x : Int32} (hc : ¬ x < 0) (h : Rsq (go n (20, L, S, H, cs, ss)) q) : Rsq (go (n + 1) (15, L, (.int x :: S), H, cs, ss)) q := by
  subst hgo
  exact res_of s6_15 (res_f hc h)
theorem t6_18 {go : Nat → St → Option ORes} (hgo : go = orun method_4_code (Option.some Jvm.ClassFile.FieldType.int) E6 1) {n cs ss : Nat} {L : List Slot} {S : List Value} {H : AH} {q : Option ORes → Prop} (h : Rsq (go n (19, L, (.int 2 :: S), H, cs, ss)) q) : Rsq (go (n + 1) (18, L, S, H, cs, ss)) q := by
  subst hgo
  exact res_of s6_18 h
theorem t6_19 {go : Nat → St → Option ORes} (hgo : go = orun method_4_code (Option.some Jvm.ClassFile.FieldType.int) E6 1) {n cs ss : Nat} {L : List Slot} {S : List Value} {H : AH} {q : Option ORes → Prop} {z : Int32} (h : q (some (some (.int z), H))) : Rsq (go (n + 1) (19, L, (.int z :: S), H, cs, ss)) q := by
  subst hgo
  exact res_of s6_19 h
theorem t6_20 {go : Nat → St → Option ORes} (hgo : go = orun method_4_code (Option.some Jvm.ClassFile.FieldType.int) E6 1) {n cs ss : Nat} {l1 : Slot} {S : List Value} {H : AH} {q : Option ORes → Prop} {v : Int64} (h : Rsq (go n (21, [.val (.long v), l1], (.long v :: S), H, cs, ss)) q) : Rsq (go (n + 1) (20, [.val (.long v), l1], S, H, cs, ss)) q := by
  subst hgo
  exact res_of s6_20 h
theorem t6_21 {go : Nat → St → Option ORes} (hgo : go = orun method_4_code (Option.some Jvm.ClassFile.FieldType.int) E6 1) {n cs ss : Nat} {L : List Slot} {S : List Value} {H : AH} {q : Option ORes → Prop} (h : Rsq (go n (24, L, (.long (1000) :: S), H, cs, ss)) q) : Rsq (go (n + 1) (21, L, S, H, cs, ss)) q := by
  subst hgo
  exact res_of s6_21 h
theorem t6_24 {go : Nat → St → Option ORes} (hgo : go = orun method_4_code (Option.some Jvm.ClassFile.FieldType.int) E6 1) {n cs ss : Nat} {L : List Slot} {S : List Value} {H : AH} {q : Option ORes → Prop} {x y : Int64} (h : Rsq (go n (25, L, (.int (lcmpW x y) :: S), H, cs, ss)) q) : Rsq (go (n + 1) (24, L, (.long y :: .long x :: S), H, cs, ss)) q := by
  subst hgo
  exact res_of s6_24 h
theorem t6_25t {go : Nat → St → Option ORes} (hgo : go = orun method_4_code (Option.some Jvm.ClassFile.FieldType.int) E6 1) {n cs ss : Nat} {L : List Slot} {S : List Value} {H : AH} {q : Option ORes → Prop} {x : Int32} (hc : x < 0) (h : Rsq (go n (28, L, S, H, cs, ss)) q) : Rsq (go (n + 1) (25, L, (.int x :: S), H, cs, ss)) q := by
  subst hgo
  exact res_of s6_25 (res_t hc h)
theorem t6_25f {go : Nat → St → Option ORes} (hgo : go = orun method_4_code (Option.some Jvm.ClassFile.FieldType.int) E6 1) {n cs ss : Nat} {L : List Slot} {S : List Value} {H : AH} {q : Option ORes → Prop} {x : Int32} (hc : ¬ x < 0) (h : Rsq (go n (30, L, S, H, cs, ss)) q) : Rsq (go (n + 1) (25, L, (.int x :: S), H, cs, ss)) q := by
  subst hgo
  exact res_of s6_25 (res_f hc h)
theorem t6_28 {go : Nat → St → Option ORes} (hgo : go = orun method_4_code (Option.some Jvm.ClassFile.FieldType.int) E6 1) {n cs ss : Nat} {L : List Slot} {S : List Value} {H : AH} {q : Option ORes → Prop} (h : Rsq (go n (29, L, (.int 3 :: S), H, cs, ss)) q) : Rsq (go (n + 1) (28, L, S, H, cs, ss)) q := by
  subst hgo
  exact res_of s6_28 h
theorem t6_29 {go : Nat → St → Option ORes} (hgo : go = orun method_4_code (Option.some Jvm.ClassFile.FieldType.int) E6 1) {n cs ss : Nat} {L : List Slot} {S : List Value} {H : AH} {q : Option ORes → Prop} {z : Int32} (h : q (some (some (.int z), H))) : Rsq (go (n + 1) (29, L, (.int z :: S), H, cs, ss)) q := by
  subst hgo
  exact res_of s6_29 h
theorem t6_30 {go : Nat → St → Option ORes} (hgo : go = orun method_4_code (Option.some Jvm.ClassFile.FieldType.int) E6 1) {n cs ss : Nat} {l1 : Slot} {S : List Value} {H : AH} {q : Option ORes → Prop} {v : Int64} (h : Rsq (go n (31, [.val (.long v), l1], (.long v :: S), H, cs, ss)) q) : Rsq (go (n + 1) (30, [.val (.long v), l1], S, H, cs, ss)) q := by
  subst hgo
  exact res_of s6_30 h
theorem t6_31 {go : Nat → St → Option ORes} (hgo : go = orun method_4_code (Option.some Jvm.ClassFile.FieldType.int) E6 1) {n cs ss : Nat} {L : List Slot} {S : List Value} {H : AH} {q : Option ORes → Prop} (h : Rsq (go n (34, L, (.long (10000) :: S), H, cs, ss)) q) : Rsq (go (n + 1) (31, L, S, H, cs, ss)) q := by
  subst hgo
  exact res_of s6_31 h
theorem t6_34 {go : Nat → St → Option ORes} (hgo : go = orun method_4_code (Option.some Jvm.ClassFile.FieldType.int) E6 1) {n cs ss : Nat} {L : List Slot} {S : List Value} {H : AH} {q : Option ORes → Prop} {x y : Int64} (h : Rsq (go n (35, L, (.int (lcmpW x y) :: S), H, cs, ss)) q) : Rsq (go (n + 1) (34, L, (.long y :: .long x :: S), H, cs, ss)) q := by
  subst hgo
  exact res_of s6_34 h
theorem t6_35t {go : Nat → St → Option ORes} (hgo : go = orun method_4_code (Option.some Jvm.ClassFile.FieldType.int) E6 1) {n cs ss : Nat} {L : List Slot} {S : List Value} {H : AH} {q : Option ORes → Prop} {x : Int32} (hc : x < 0) (h : Rsq (go n (38, L, S, H, cs, ss)) q) : Rsq (go (n + 1) (35, L, (.int x :: S), H, cs, ss)) q := by
  subst hgo
  exact res_of s6_35 (res_t hc h)
theorem t6_35f {go : Nat → St → Option ORes} (hgo : go = orun method_4_code (Option.some Jvm.ClassFile.FieldType.int) E6 1) {n cs ss : Nat} {L : List Slot} {S : List Value} {H : AH} {q : Option ORes → Prop} {x : Int32} (hc : ¬ x < 0) (h : Rsq (go n (40, L, S, H, cs, ss)) q) : Rsq (go (n + 1) (35, L, (.int x :: S), H, cs, ss)) q := by
  subst hgo
  exact res_of s6_35 (res_f hc h)
theorem t6_38 {go : Nat → St → Option ORes} (hgo : go = orun method_4_code (Option.some Jvm.ClassFile.FieldType.int) E6 1) {n cs ss : Nat} {L : List Slot} {S : List Value} {H : AH} {q : Option ORes → Prop} (h : Rsq (go n (39, L, (.int 4 :: S), H, cs, ss)) q) : Rsq (go (n + 1) (38, L, S, H, cs, ss)) q := by
  subst hgo
  exact res_of s6_38 h
theorem t6_39 {go : Nat → St → Option ORes} (hgo : go = orun method_4_code (Option.some Jvm.ClassFile.FieldType.int) E6 1) {n cs ss : Nat} {L : List Slot} {S : List Value} {H : AH} {q : Option ORes → Prop} {z : Int32} (h : q (some (some (.int z), H))) : Rsq (go (n + 1) (39, L, (.int z :: S), H, cs, ss)) q := by
  subst hgo
  exact res_of s6_39 h
theorem t6_40 {go : Nat → St → Option ORes} (hgo : go = orun method_4_code (Option.some Jvm.ClassFile.FieldType.int) E6 1) {n cs ss : Nat} {l1 : Slot} {S : List Value} {H : AH} {q : Option ORes → Prop} {v : Int64} (h : Rsq (go n (41, [.val (.long v), l1], (.long v :: S), H, cs, ss)) q) : Rsq (go (n + 1) (40, [.val (.long v), l1], S, H, cs, ss)) q := by
  subst hgo
  exact res_of s6_40 h
theorem t6_41 {go : Nat → St → Option ORes} (hgo : go = orun method_4_code (Option.some Jvm.ClassFile.FieldType.int) E6 1) {n cs ss : Nat} {L : List Slot} {S : List Value} {H : AH} {q : Option ORes → Prop} (h : Rsq (go n (44, L, (.long (100000) :: S), H, cs, ss)) q) : Rsq (go (n + 1) (41, L, S, H, cs, ss)) q := by
  subst hgo
  exact res_of s6_41 h
theorem t6_44 {go : Nat → St → Option ORes} (hgo : go = orun method_4_code (Option.some Jvm.ClassFile.FieldType.int) E6 1) {n cs ss : Nat} {L : List Slot} {S : List Value} {H : AH} {q : Option ORes → Prop} {x y : Int64} (h : Rsq (go n (45, L, (.int (lcmpW x y) :: S), H, cs, ss)) q) : Rsq (go (n + 1) (44, L, (.long y :: .long x :: S), H, cs, ss)) q := by
  subst hgo
  exact res_of s6_44 h
theorem t6_45t {go : Nat → St → Option ORes} (hgo : go = orun method_4_code (Option.some Jvm.ClassFile.FieldType.int) E6 1) {n cs ss : Nat} {L : List Slot} {S : List Value} {H : AH} {q : Option ORes → Prop} {x : Int32} (hc : x < 0) (h : Rsq (go n (48, L, S, H, cs, ss)) q) : Rsq (go (n + 1) (45, L, (.int x :: S), H, cs, ss)) q := by
  subst hgo
  exact res_of s6_45 (res_t hc h)
theorem t6_45f {go : Nat → St → Option ORes} (hgo : go = orun method_4_code (Option.some Jvm.ClassFile.FieldType.int) E6 1) {n cs ss : Nat} {L : List Slot} {S : List Value} {H : AH} {q : Option ORes → Prop} {x : Int32} (hc : ¬ x < 0) (h : Rsq (go n (50, L, S, H, cs, ss)) q) : Rsq (go (n + 1) (45, L, (.int x :: S), H, cs, ss)) q := by
  subst hgo
  exact res_of s6_45 (res_f hc h)
theorem t6_48 {go : Nat → St → Option ORes} (hgo : go = orun method_4_code (Option.some Jvm.ClassFile.FieldType.int) E6 1) {n cs ss : Nat} {L : List Slot} {S : List Value} {H : AH} {q : Option ORes → Prop} (h : Rsq (go n (49, L, (.int 5 :: S), H, cs, ss)) q) : Rsq (go (n + 1) (48, L, S, H, cs, ss)) q := by
  subst hgo
  exact res_of s6_48 h
theorem t6_49 {go : Nat → St → Option ORes} (hgo : go = orun method_4_code (Option.some Jvm.ClassFile.FieldType.int) E6 1) {n cs ss : Nat} {L : List Slot} {S : List Value} {H : AH} {q : Option ORes → Prop} {z : Int32} (h : q (some (some (.int z), H))) : Rsq (go (n + 1) (49, L, (.int z :: S), H, cs, ss)) q := by
  subst hgo
  exact res_of s6_49 h
theorem t6_50 {go : Nat → St → Option ORes} (hgo : go = orun method_4_code (Option.some Jvm.ClassFile.FieldType.int) E6 1) {n cs ss : Nat} {l1 : Slot} {S : List Value} {H : AH} {q : Option ORes → Prop} {v : Int64} (h : Rsq (go n (51, [.val (.long v), l1], (.long v :: S), H, cs, ss)) q) : Rsq (go (n + 1) (50, [.val (.long v), l1], S, H, cs, ss)) q := by
  subst hgo
  exact res_of s6_50 h
theorem t6_51 {go : Nat → St → Option ORes} (hgo : go = orun method_4_code (Option.some Jvm.ClassFile.FieldType.int) E6 1) {n cs ss : Nat} {L : List Slot} {S : List Value} {H : AH} {q : Option ORes → Prop} (h : Rsq (go n (54, L, (.long (1000000) :: S), H, cs, ss)) q) : Rsq (go (n + 1) (51, L, S, H, cs, ss)) q := by
  subst hgo
  exact res_of s6_51 h
theorem t6_54 {go : Nat → St → Option ORes} (hgo : go = orun method_4_code (Option.some Jvm.ClassFile.FieldType.int) E6 1) {n cs ss : Nat} {L : List Slot} {S : List Value} {H : AH} {q : Option ORes → Prop} {x y : Int64} (h : Rsq (go n (55, L, (.int (lcmpW x y) :: S), H, cs, ss)) q) : Rsq (go (n + 1) (54, L, (.long y :: .long x :: S), H, cs, ss)) q := by
  subst hgo
  exact res_of s6_54 h
theorem t6_55t {go : Nat → St → Option ORes} (hgo : go = orun method_4_code (Option.some Jvm.ClassFile.FieldType.int) E6 1) {n cs ss : Nat} {L : List Slot} {S : List Value} {H : AH} {q : Option ORes → Prop} {x : Int32} (hc : x < 0) (h : Rsq (go n (58, L, S, H, cs, ss)) q) : Rsq (go (n + 1) (55, L, (.int x :: S), H, cs, ss)) q := by
  subst hgo
  exact res_of s6_55 (res_t hc h)
theorem t6_55f {go : Nat → St → Option ORes} (hgo : go = orun method_4_code (Option.some Jvm.ClassFile.FieldType.int) E6 1) {n cs ss : Nat} {L : List Slot} {S : List Value} {H : AH} {q : Option ORes → Prop} {x : Int32} (hc : ¬ x < 0) (h : Rsq (go n (61, L, S, H, cs, ss)) q) : Rsq (go (n + 1) (55, L, (.int x :: S), H, cs, ss)) q := by
  subst hgo
  exact res_of s6_55 (res_f hc h)
theorem t6_58 {go : Nat → St → Option ORes} (hgo : go = orun method_4_code (Option.some Jvm.ClassFile.FieldType.int) E6 1) {n cs ss : Nat} {L : List Slot} {S : List Value} {H : AH} {q : Option ORes → Prop} (h : Rsq (go n (60, L, (.int 6 :: S), H, cs, ss)) q) : Rsq (go (n + 1) (58, L, S, H, cs, ss)) q := by
  subst hgo
  exact res_of s6_58 h
theorem t6_60 {go : Nat → St → Option ORes} (hgo : go = orun method_4_code (Option.some Jvm.ClassFile.FieldType.int) E6 1) {n cs ss : Nat} {L : List Slot} {S : List Value} {H : AH} {q : Option ORes → Prop} {z : Int32} (h : q (some (some (.int z), H))) : Rsq (go (n + 1) (60, L, (.int z :: S), H, cs, ss)) q := by
  subst hgo
  exact res_of s6_60 h
theorem t6_61 {go : Nat → St → Option ORes} (hgo : go = orun method_4_code (Option.some Jvm.ClassFile.FieldType.int) E6 1) {n cs ss : Nat} {l1 : Slot} {S : List Value} {H : AH} {q : Option ORes → Prop} {v : Int64} (h : Rsq (go n (62, [.val (.long v), l1], (.long v :: S), H, cs, ss)) q) : Rsq (go (n + 1) (61, [.val (.long v), l1], S, H, cs, ss)) q := by
  subst hgo
  exact res_of s6_61 h
theorem t6_62 {go : Nat → St → Option ORes} (hgo : go = orun method_4_code (Option.some Jvm.ClassFile.FieldType.int) E6 1) {n cs ss : Nat} {L : List Slot} {S : List Value} {H : AH} {q : Option ORes → Prop} (h : Rsq (go n (65, L, (.long (10000000) :: S), H, cs, ss)) q) : Rsq (go (n + 1) (62, L, S, H, cs, ss)) q := by
  subst hgo
  exact res_of s6_62 h
theorem t6_65 {go : Nat → St → Option ORes} (hgo : go = orun method_4_code (Option.some Jvm.ClassFile.FieldType.int) E6 1) {n cs ss : Nat} {L : List Slot} {S : List Value} {H : AH} {q : Option ORes → Prop} {x y : Int64} (h : Rsq (go n (66, L, (.int (lcmpW x y) :: S), H, cs, ss)) q) : Rsq (go (n + 1) (65, L, (.long y :: .long x :: S), H, cs, ss)) q := by
  subst hgo
  exact res_of s6_65 h
theorem t6_66t {go : Nat → St → Option ORes} (hgo : go = orun method_4_code (Option.some Jvm.ClassFile.FieldType.int) E6 1) {n cs ss : Nat} {L : List Slot} {S : List Value} {H : AH} {q : Option ORes → Prop} {x : Int32} (hc : x < 0) (h : Rsq (go n (69, L, S, H, cs, ss)) q) : Rsq (go (n + 1) (66, L, (.int x :: S), H, cs, ss)) q := by
  subst hgo
  exact res_of s6_66 (res_t hc h)
theorem t6_66f {go : Nat → St → Option ORes} (hgo : go = orun method_4_code (Option.some Jvm.ClassFile.FieldType.int) E6 1) {n cs ss : Nat} {L : List Slot} {S : List Value} {H : AH} {q : Option ORes → Prop} {x : Int32} (hc : ¬ x < 0) (h : Rsq (go n (72, L, S, H, cs, ss)) q) : Rsq (go (n + 1) (66, L, (.int x :: S), H, cs, ss)) q := by
  subst hgo
  exact res_of s6_66 (res_f hc h)
theorem t6_69 {go : Nat → St → Option ORes} (hgo : go = orun method_4_code (Option.some Jvm.ClassFile.FieldType.int) E6 1) {n cs ss : Nat} {L : List Slot} {S : List Value} {H : AH} {q : Option ORes → Prop} (h : Rsq (go n (71, L, (.int 7 :: S), H, cs, ss)) q) : Rsq (go (n + 1) (69, L, S, H, cs, ss)) q := by
  subst hgo
  exact res_of s6_69 h
theorem t6_71 {go : Nat → St → Option ORes} (hgo : go = orun method_4_code (Option.some Jvm.ClassFile.FieldType.int) E6 1) {n cs ss : Nat} {L : List Slot} {S : List Value} {H : AH} {q : Option ORes → Prop} {z : Int32} (h : q (some (some (.int z), H))) : Rsq (go (n + 1) (71, L, (.int z :: S), H, cs, ss)) q := by
  subst hgo
  exact res_of s6_71 h
theorem t6_72 {go : Nat → St → Option ORes} (hgo : go = orun method_4_code (Option.some Jvm.ClassFile.FieldType.int) E6 1) {n cs ss : Nat} {l1 : Slot} {S : List Value} {H : AH} {q : Option ORes → Prop} {v : Int64} (h : Rsq (go n (73, [.val (.long v), l1], (.long v :: S), H, cs, ss)) q) : Rsq (go (n + 1) (72, [.val (.long v), l1], S, H, cs, ss)) q := by
  subst hgo
  exact res_of s6_72 h
theorem t6_73 {go : Nat → St → Option ORes} (hgo : go = orun method_4_code (Option.some Jvm.ClassFile.FieldType.int) E6 1) {n cs ss : Nat} {L : List Slot} {S : List Value} {H : AH} {q : Option ORes → Prop} (h : Rsq (go n (76, L, (.long (100000000) :: S), H, cs, ss)) q) : Rsq (go (n + 1) (73, L, S, H, cs, ss)) q := by
  subst hgo
  exact res_of s6_73 h
theorem t6_76 {go : Nat → St → Option ORes} (hgo : go = orun method_4_code (Option.some Jvm.ClassFile.FieldType.int) E6 1) {n cs ss : Nat} {L : List Slot} {S : List Value} {H : AH} {q : Option ORes → Prop} {x y : Int64} (h : Rsq (go n (77, L, (.int (lcmpW x y) :: S), H, cs, ss)) q) : Rsq (go (n + 1) (76, L, (.long y :: .long x :: S), H, cs, ss)) q := by
  subst hgo
  exact res_of s6_76 h
theorem t6_77t {go : Nat → St → Option ORes} (hgo : go = orun method_4_code (Option.some Jvm.ClassFile.FieldType.int) E6 1) {n cs ss : Nat} {L : List Slot} {S : List Value} {H : AH} {q : Option ORes → Prop} {x : Int32} (hc : x < 0) (h : Rsq (go n (80, L, S, H, cs, ss)) q) : Rsq (go (n + 1) (77, L, (.int x :: S), H, cs, ss)) q := by
  subst hgo
  exact res_of s6_77 (res_t hc h)
theorem t6_77f {go : Nat → St → Option ORes} (hgo : go = orun method_4_code (Option.some Jvm.ClassFile.FieldType.int) E6 1) {n cs ss : Nat} {L : List Slot} {S : List Value} {H : AH} {q : Option ORes → Prop} {x : Int32} (hc : ¬ x < 0) (h : Rsq (go n (83, L, S, H, cs, ss)) q) : Rsq (go (n + 1) (77, L, (.int x :: S), H, cs, ss)) q := by
  subst hgo
  exact res_of s6_77 (res_f hc h)
theorem t6_80 {go : Nat → St → Option ORes} (hgo : go = orun method_4_code (Option.some Jvm.ClassFile.FieldType.int) E6 1) {n cs ss : Nat} {L : List Slot} {S : List Value} {H : AH} {q : Option ORes → Prop} (h : Rsq (go n (82, L, (.int 8 :: S), H, cs, ss)) q) : Rsq (go (n + 1) (80, L, S, H, cs, ss)) q := by
  subst hgo
  exact res_of s6_80 h
theorem t6_82 {go : Nat → St → Option ORes} (hgo : go = orun method_4_code (Option.some Jvm.ClassFile.FieldType.int) E6 1) {n cs ss : Nat} {L : List Slot} {S : List Value} {H : AH} {q : Option ORes → Prop} {z : Int32} (h : q (some (some (.int z), H))) : Rsq (go (n + 1) (82, L, (.int z :: S), H, cs, ss)) q := by
  subst hgo
  exact res_of s6_82 h
theorem t6_83 {go : Nat → St → Option ORes} (hgo : go = orun method_4_code (Option.some Jvm.ClassFile.FieldType.int) E6 1) {n cs ss : Nat} {l1 : Slot} {S : List Value} {H : AH} {q : Option ORes → Prop} {v : Int64} (h : Rsq (go n (84, [.val (.long v), l1], (.long v :: S), H, cs, ss)) q) : Rsq (go (n + 1) (83, [.val (.long v), l1], S, H, cs, ss)) q := by
  subst hgo
  exact res_of s6_83 h
theorem t6_84 {go : Nat → St → Option ORes} (hgo : go = orun method_4_code (Option.some Jvm.ClassFile.FieldType.int) E6 1) {n cs ss : Nat} {L : List Slot} {S : List Value} {H : AH} {q : Option ORes → Prop} (h : Rsq (go n (87, L, (.long (1000000000) :: S), H, cs, ss)) q) : Rsq (go (n + 1) (84, L, S, H, cs, ss)) q := by
  subst hgo
  exact res_of s6_84 h
theorem t6_87 {go : Nat → St → Option ORes} (hgo : go = orun method_4_code (Option.some Jvm.ClassFile.FieldType.int) E6 1) {n cs ss : Nat} {L : List Slot} {S : List Value} {H : AH} {q : Option ORes → Prop} {x y : Int64} (h : Rsq (go n (88, L, (.int (lcmpW x y) :: S), H, cs, ss)) q) : Rsq (go (n + 1) (87, L, (.long y :: .long x :: S), H, cs, ss)) q := by
  subst hgo
  exact res_of s6_87 h
theorem t6_88t {go : Nat → St → Option ORes} (hgo : go = orun method_4_code (Option.some Jvm.ClassFile.FieldType.int) E6 1) {n cs ss : Nat} {L : List Slot} {S : List Value} {H : AH} {q : Option ORes → Prop} {x : Int32} (hc : x < 0) (h : Rsq (go n (91, L, S, H, cs, ss)) q) : Rsq (go (n + 1) (88, L, (.int x :: S), H, cs, ss)) q := by
  subst hgo
  exact res_of s6_88 (res_t hc h)
theorem t6_88f {go : Nat → St → Option ORes} (hgo : go = orun method_4_code (Option.some Jvm.ClassFile.FieldType.int) E6 1) {n cs ss : Nat} {L : List Slot} {S : List Value} {H : AH} {q : Option ORes → Prop} {x : Int32} (hc : ¬ x < 0) (h : Rsq (go n (94, L, S, H, cs, ss)) q) : Rsq (go (n + 1) (88, L, (.int x :: S), H, cs, ss)) q := by
  subst hgo
  exact res_of s6_88 (res_f hc h)
theorem t6_91 {go : Nat → St → Option ORes} (hgo : go = orun method_4_code (Option.some Jvm.ClassFile.FieldType.int) E6 1) {n cs ss : Nat} {L : List Slot} {S : List Value} {H : AH} {q : Option ORes → Prop} (h : Rsq (go n (93, L, (.int 9 :: S), H, cs, ss)) q) : Rsq (go (n + 1) (91, L, S, H, cs, ss)) q := by
  subst hgo
  exact res_of s6_91 h
theorem t6_93 {go : Nat → St → Option ORes} (hgo : go = orun method_4_code (Option.some Jvm.ClassFile.FieldType.int) E6 1) {n cs ss : Nat} {L : List Slot} {S : List Value} {H : AH} {q : Option ORes → Prop} {z : Int32} (h : q (some (some (.int z), H))) : Rsq (go (n + 1) (93, L, (.int z :: S), H, cs, ss)) q := by
  subst hgo
  exact res_of s6_93 h
theorem t6_94 {go : Nat → St → Option ORes} (hgo : go = orun method_4_code (Option.some Jvm.ClassFile.FieldType.int) E6 1) {n cs ss : Nat} {L : List Slot} {S : List Value} {H : AH} {q : Option ORes → Prop} (h : Rsq (go n (96, L, (.int 10 :: S), H, cs, ss)) q) : Rsq (go (n + 1) (94, L, S, H, cs, ss)) q := by
  subst hgo
  exact res_of s6_94 h
theorem t6_96 {go : Nat → St → Option ORes} (hgo : go = orun method_4_code (Option.some Jvm.ClassFile.FieldType.int) E6 1) {n cs ss : Nat} {L : List Slot} {S : List Value} {H : AH} {q : Option ORes → Prop} {z : Int32} (h : q (some (some (.int z), H))) : Rsq (go (n + 1) (96, L, (.int z :: S), H, cs, ss)) q := by
  subst hgo
  exact res_of s6_96 h
theorem f4_in {x0 : Int32} {H : AH} : F4 [.int x0] H = orun method_5_code (Option.some Jvm.ClassFile.FieldType.int) E4 1 60 (0, [.val (.int x0)], [], H, 0, 0) := rfl
theorem s4_0 {n cs ss : Nat} {L : List Slot} {S : List Value} {H : AH} : orun method_5_code (Option.some Jvm.ClassFile.FieldType.int) E4 1 (n + 1) (0, L, S, H, cs, ss) = (gI L 0).bind fun v => orun method_5_code (Option.some Jvm.ClassFile.FieldType.int) E4 1 n (1, L, .int v :: S, H, cs, ss) := s_any k4_0
theorem s4_1 {n cs ss : Nat} {L : List Slot} {S : List Value} {H : AH} : orun method_5_code (Option.some Jvm.ClassFile.FieldType.int) E4 1 (n + 1) (1, L, S, H, cs, ss) = pI S fun x r => if x < 0 then orun method_5_code (Option.some Jvm.ClassFile.FieldType.int) E4 1 n (4, L, r, H, cs, ss) else orun method_5_code (Option.some Jvm.ClassFile.FieldType.int) E4 1 n (8, L, r, H, cs, ss) := s_ifN (Q := fun x => x < 0) (fun _ => z_ge) k4_1 (by decide) (by decide)
theorem s4_4 {n cs ss : Nat} {L : List Slot} {S : List Value} {H : AH} : orun method_5_code (Option.some Jvm.ClassFile.FieldType.int) E4 1 (n + 1) (4, L, S, H, cs, ss) = orun method_5_code (Option.some Jvm.ClassFile.FieldType.int) E4 1 n (5, L, (.int 1 :: S), H, cs, ss) := s_any k4_4
theorem s4_5 {n cs ss : Nat} {L : List Slot} {S : List Value} {H : AH} : orun method_5_code (Option.some Jvm.ClassFile.FieldType.int) E4 1 (n + 1) (5, L, S, H, cs, ss) = orun method_5_code (Option.some Jvm.ClassFile.FieldType.int) E4 1 n (9, L, S, H, cs, ss) := s_goto k4_5 (by decide) (by decide)
theorem s4_8 {n cs ss : Nat} {L : List Slot} {S : List Value} {H : AH} : orun method_5_code (Option.some Jvm.ClassFile.FieldType.int) E4 1 (n + 1) (8, L, S, H, cs, ss) = orun method_5_code (Option.some Jvm.ClassFile.FieldType.int) E4 1 n (9, L, (.int 0 :: S), H, cs, ss) := s_any k4_8
theorem s4_9 {n cs ss : Nat} {L : List Slot} {S : List Value} {H : AH} : orun method_5_code (Option.some Jvm.ClassFile.FieldType.int) E4 1 (n + 1) (9, L, S, H, cs, ss) = (gI L 0).bind fun v => orun method_5_code (Option.some Jvm.ClassFile.FieldType.int) E4 1 n (10, L, .int v :: S, H, cs, ss) := s_any k4_9
theorem s4_10 {n cs ss : Nat} {L : List Slot} {S : List Value} {H : AH} : orun method_5_code (Option.some Jvm.ClassFile.FieldType.int) E4 1 (n + 1) (10, L, S, H, cs, ss) = (aCall 1 6 0 0 0 0 F5 S H cs ss).bind fun r => orun method_5_code (Option.some Jvm.ClassFile.FieldType.int) E4 1 n (13, L, r.1, r.2.1, r.2.2.1, r.2.2.2) := s_any k4_10
theorem s4_13 {n cs ss : Nat} {L : List Slot} {S : List Value} {H : AH} : orun method_5_code (Option.some Jvm.ClassFile.FieldType.int) E4 1 (n + 1) (13, L, S, H, cs, ss) = (aCall 1 6 0 0 0 0 F6 S H cs ss).bind fun r => orun method_5_code (Option.some Jvm.ClassFile.FieldType.int) E4 1 n (16, L, r.1, r.2.1, r.2.2.1, r.2.2.2) := s_any k4_13
theorem s4_16 {n cs ss : Nat} {L : List Slot} {S : List Value} {H : AH} : orun method_5_code (Option.some Jvm.ClassFile.FieldType.int) E4 1 (n + 1) (16, L, S, H, cs, ss) = pI S fun y S => pI S fun x r => orun method_5_code (Option.some Jvm.ClassFile.FieldType.int) E4 1 n (17, L, .int (x + y) :: r, H, cs, ss) := s_any k4_16
theorem s4_17 {n cs ss : Nat} {L : List Slot} {S : List Value} {H : AH} : orun method_5_code (Option.some Jvm.ClassFile.FieldType.int) E4 1 (n + 1) (17, L, S, H, cs, ss) = pI S fun z _ => some (some (.int z), H) := s_any k4_17
theorem t4_0 {go : Nat → St → Option ORes} (hgo : go = orun method_5_code (Option.some Jvm.ClassFile.FieldType.int) E4 1) {n cs ss : Nat} {S : List Value} {H : AH} {q : Option ORes → Prop} {v : Int32} (h : Rsq (go n (1, [.val (.int v)], (.int v :: S), H, cs, ss)) q) : Rsq (go (n + 1) (0, [.val (.int v)], S, H, cs, ss)) q := by
  subst hgo
  exact res_of s4_0 h
theorem t4_1t {go : Nat → St → Option ORes} (hgo : go = orun method_5_code (Option.some Jvm.ClassFile.FieldType.int) E4 1) {n cs ss : Nat} {L : List Slot} {S : List Value} {H : AH} {q : Option ORes → Prop} {x : Int32} (hc : x < 0) (h : Rsq (go n (4, L, S, H, cs, ss)) q) : Rsq (go (n + 1) (1, L, (.int x :: S), H, cs, ss)) q := by
  subst hgo
  exact res_of s4_1 (res_t hc h)
theorem t4_1f {go : Nat → St → Option ORes} (hgo : go = orun method_5_code (Option.some Jvm.ClassFile.FieldType.int) E4 1) {n cs ss : Nat} {L : List Slot} {S : List Value} {H : AH} {q : Option ORes → Prop} {x : Int32} (hc : ¬ x < 0) (h : Rsq (go n (8, L, S, H, cs, ss)) q) : Rsq (go (n + 1) (1, L, (.int x :: S), H, cs, ss)) q := by
  subst hgo
  exact res_of s4_1 (res_f hc h)
theorem t4_4 {go : Nat → St → Option ORes} (hgo : go = orun method_5_code (Option.some Jvm.ClassFile.FieldType.int) E4 1) {n cs ss : Nat} {L : List Slot} {S : List Value} {H : AH} {q : Option ORes → Prop} (h : Rsq (go n (5, L, (.int 1 :: S), H, cs, ss)) q) : Rsq (go (n + 1) (4, L, S, H, cs, ss)) q := by
  subst hgo
  exact res_of s4_4 h
theorem t4_5 {go : Nat → St → Option ORes} (hgo : go = orun method_5_code (Option.some Jvm.ClassFile.FieldType.int) E4 1) {n cs ss : Nat} {L : List Slot} {S : List Value} {H : AH} {q : Option ORes → Prop} (h : Rsq (go n (9, L, S, H, cs, ss)) q) : Rsq (go (n + 1) (5, L, S, H, cs, ss)) q := by
  subst hgo
  exact res_of s4_5 h
theorem t4_8 {go : Nat → St → Option ORes} (hgo : go = orun method_5_code (Option.some Jvm.ClassFile.FieldType.int) E4 1) {n cs ss : Nat} {L : List Slot} {S : List Value} {H : AH} {q : Option ORes → Prop} (h : Rsq (go n (9, L, (.int 0 :: S), H, cs, ss)) q) : Rsq (go (n + 1) (8, L, S, H, cs, ss)) q := by
  subst hgo
  exact res_of s4_8 h
theorem t4_9 {go : Nat → St → Option ORes} (hgo : go = orun method_5_code (Option.some Jvm.ClassFile.FieldType.int) E4 1) {n cs ss : Nat} {S : List Value} {H : AH} {q : Option ORes → Prop} {v : Int32} (h : Rsq (go n (10, [.val (.int v)], (.int v :: S), H, cs, ss)) q) : Rsq (go (n + 1) (9, [.val (.int v)], S, H, cs, ss)) q := by
  subst hgo
  exact res_of s4_9 h
theorem u4_10 {go : Nat → St → Option ORes} (hgo : go = orun method_5_code (Option.some Jvm.ClassFile.FieldType.int) E4 1) {n cs ss : Nat} {L : List Slot} {S : List Value} {H : AH} : go (n + 1) (10, L, S, H, cs, ss) = (aCall 1 6 0 0 0 0 F5 S H cs ss).bind fun r => go n (13, L, r.1, r.2.1, r.2.2.1, r.2.2.2) := by
  subst hgo
  exact s4_10
theorem u4_13 {go : Nat → St → Option ORes} (hgo : go = orun method_5_code (Option.some Jvm.ClassFile.FieldType.int) E4 1) {n cs ss : Nat} {L : List Slot} {S : List Value} {H : AH} : go (n + 1) (13, L, S, H, cs, ss) = (aCall 1 6 0 0 0 0 F6 S H cs ss).bind fun r => go n (16, L, r.1, r.2.1, r.2.2.1, r.2.2.2) := by
  subst hgo
  exact s4_13
theorem t4_16 {go : Nat → St → Option ORes} (hgo : go = orun method_5_code (Option.some Jvm.ClassFile.FieldType.int) E4 1) {n cs ss : Nat} {L : List Slot} {S : List Value} {H : AH} {q : Option ORes → Prop} {x y : Int32} (h : Rsq (go n (17, L, (.int (x + y) :: S), H, cs, ss)) q) : Rsq (go (n + 1) (16, L, (.int y :: .int x :: S), H, cs, ss)) q := by
  subst hgo
  exact res_of s4_16 h
theorem t4_17 {go : Nat → St → Option ORes} (hgo : go = orun method_5_code (Option.some Jvm.ClassFile.FieldType.int) E4 1) {n cs ss : Nat} {L : List Slot} {S : List Value} {H : AH} {q : Option ORes → Prop} {z : Int32} (h : q (some (some (.int z), H))) : Rsq (go (n + 1) (17, L, (.int z :: S), H, cs, ss)) q := by
  subst hgo
  exact res_of s4_17 h
theorem f7_in {x0 : Int32} {H : AH} : F7 [.int x0] H = orun method_6_code (Option.some Jvm.ClassFile.FieldType.long) E7 1 134 (0, [.val (.int x0), .unset], [], H, 0, 0) := rfl
theorem s7_0 {n cs ss : Nat} {L : List Slot} {S : List Value} {H : AH} : orun method_6_code (Option.some Jvm.ClassFile.FieldType.long) E7 1 (n + 1) (0, L, S, H, cs, ss) = orun method_6_code (Option.some Jvm.ClassFile.FieldType.long) E7 1 n (2, L, (.int 10 :: S), H, cs, ss) := s_any k7_0
theorem s7_2 {n cs ss : Nat} {L : List Slot} {S : List Value} {H : AH} : orun method_6_code (Option.some Jvm.ClassFile.FieldType.long) E7 1 (n + 1) (2, L, S, H, cs, ss) = (aArr .long 1 10 S H cs ss).bind fun r => orun method_6_code (Option.some Jvm.ClassFile.FieldType.long) E7 1 n (4, L, r.1, r.2.1, r.2.2.1, r.2.2.2) := s_any k7_2
theorem s7_4 {n cs ss : Nat} {L : List Slot} {S : List Value} {H : AH} : orun method_6_code (Option.some Jvm.ClassFile.FieldType.long) E7 1 (n + 1) (4, L, S, H, cs, ss) = ex (Option.some Jvm.ClassFile.FieldType.long) E7 1 (orun method_6_code (Option.some Jvm.ClassFile.FieldType.long) E7 1 n) (.dup) 4 L S H cs ss := s_any k7_4
theorem s7_5 {n cs ss : Nat} {L : List Slot} {S : List Value} {H : AH} : orun method_6_code (Option.some Jvm.ClassFile.FieldType.long) E7 1 (n + 1) (5, L, S, H, cs, ss) = orun method_6_code (Option.some Jvm.ClassFile.FieldType.long) E7 1 n (6, L, (.int 0 :: S), H, cs, ss) := s_any k7_5
theorem s7_6 {n cs ss : Nat} {L : List Slot} {S : List Value} {H : AH} : orun method_6_code (Option.some Jvm.ClassFile.FieldType.long) E7 1 (n + 1) (6, L, S, H, cs, ss) = orun method_6_code (Option.some Jvm.ClassFile.FieldType.long) E7 1 n (7, L, (.long 1 :: S), H, cs, ss) := s_any k7_6
theorem s7_7 {n cs ss : Nat} {L : List Slot} {S : List Value} {H : AH} : orun method_6_code (Option.some Jvm.ClassFile.FieldType.long) E7 1 (n + 1) (7, L, S, H, cs, ss) = ex (Option.some Jvm.ClassFile.FieldType.long) E7 1 (orun method_6_code (Option.some Jvm.ClassFile.FieldType.long) E7 1 n) (.lastore) 7 L S H cs ss := s_any k7_7
theorem s7_8 {n cs ss : Nat} {L : List Slot} {S : List Value} {H : AH} : orun method_6_code (Option.some Jvm.ClassFile.FieldType.long) E7 1 (n + 1) (8, L, S, H, cs, ss) = ex (Option.some Jvm.ClassFile.FieldType.long) E7 1 (orun method_6_code (Option.some Jvm.ClassFile.FieldType.long) E7 1 n) (.dup) 8 L S H cs ss := s_any k7_8
theorem s7_9 {n cs ss : Nat} {L : List Slot} {S : List Value} {H : AH} : orun method_6_code (Option.some Jvm.ClassFile.FieldType.long) E7 1 (n + 1) (9, L, S, H, cs, ss) = orun method_6_code (Option.some Jvm.ClassFile.FieldType.long) E7 1 n (10, L, (.int 1 :: S), H, cs, ss) := s_any k7_9
theorem s7_10 {n cs ss : Nat} {L : List Slot} {S : List Value} {H : AH} : orun method_6_code (Option.some Jvm.ClassFile.FieldType.long) E7 1 (n + 1) (10, L, S, H, cs, ss) = (aJ (10) S H cs ss).bind fun r => orun method_6_code (Option.some Jvm.ClassFile.FieldType.long) E7 1 n (13, L, r.1, r.2.1, r.2.2.1, r.2.2.2) := s_any k7_10
theorem s7_13 {n cs ss : Nat} {L : List Slot} {S : List Value} {H : AH} : orun method_6_code (Option.some Jvm.ClassFile.FieldType.long) E7 1 (n + 1) (13, L, S, H, cs, ss) = ex (Option.some Jvm.ClassFile.FieldType.long) E7 1 (orun method_6_code (Option.some Jvm.ClassFile.FieldType.long) E7 1 n) (.lastore) 13 L S H cs ss := s_any k7_13
theorem s7_14 {n cs ss : Nat} {L : List Slot} {S : List Value} {H : AH} : orun method_6_code (Option.some Jvm.ClassFile.FieldType.long) E7 1 (n + 1) (14, L, S, H, cs, ss) = ex (Option.some Jvm.ClassFile.FieldType.long) E7 1 (orun method_6_code (Option.some Jvm.ClassFile.FieldType.long) E7 1 n) (.dup) 14 L S H cs ss := s_any k7_14
theorem s7_15 {n cs ss : Nat} {L : List Slot} {S : List Value} {H : AH} : orun method_6_code (Option.some Jvm.ClassFile.FieldType.long) E7 1 (n + 1) (15, L, S, H, cs, ss) = orun method_6_code (Option.some Jvm.ClassFile.FieldType.long) E7 1 n (16, L, (.int 2 :: S), H, cs, ss) := s_any k7_15
theorem s7_16 {n cs ss : Nat} {L : List Slot} {S : List Value} {H : AH} : orun method_6_code (Option.some Jvm.ClassFile.FieldType.long) E7 1 (n + 1) (16, L, S, H, cs, ss) = (aJ (100) S H cs ss).bind fun r => orun method_6_code (Option.some Jvm.ClassFile.FieldType.long) E7 1 n (19, L, r.1, r.2.1, r.2.2.1, r.2.2.2) := s_any k7_16
theorem s7_19 {n cs ss : Nat} {L : List Slot} {S : List Value} {H : AH} : orun method_6_code (Option.some Jvm.ClassFile.FieldType.long) E7 1 (n + 1) (19, L, S, H, cs, ss) = ex (Option.some Jvm.ClassFile.FieldType.long) E7 1 (orun method_6_code (Option.some Jvm.ClassFile.FieldType.long) E7 1 n) (.lastore) 19 L S H cs ss := s_any k7_19
theorem s7_20 {n cs ss : Nat} {L : List Slot} {S : List Value} {H : AH} : orun method_6_code (Option.some Jvm.ClassFile.FieldType.long) E7 1 (n + 1) (20, L, S, H, cs, ss) = ex (Option.some Jvm.ClassFile.FieldType.long) E7 1 (orun method_6_code (Option.some Jvm.ClassFile.FieldType.long) E7 1 n) (.dup) 20 L S H cs ss := s_any k7_20
theorem s7_21 {n cs ss : Nat} {L : List Slot} {S : List Value} {H : AH} : orun method_6_code (Option.some Jvm.ClassFile.FieldType.long) E7 1 (n + 1) (21, L, S, H, cs, ss) = orun method_6_code (Option.some Jvm.ClassFile.FieldType.long) E7 1 n (22, L, (.int 3 :: S), H, cs, ss) := s_any k7_21
theorem s7_22 {n cs ss : Nat} {L : List Slot} {S : List Value} {H : AH} : orun method_6_code (Option.some Jvm.ClassFile.FieldType.long) E7 1 (n + 1) (22, L, S, H, cs, ss) = (aJ (1000) S H cs ss).bind fun r => orun method_6_code (Option.some Jvm.ClassFile.FieldType.long) E7 1 n (25, L, r.1, r.2.1, r.2.2.1, r.2.2.2) := s_any k7_22
theorem s7_25 {n cs ss : Nat} {L : List Slot} {S : List Value} {H : AH} : orun method_6_code (Option.some Jvm.ClassFile.FieldType.long) E7 1 (n + 1) (25, L, S, H, cs, ss) = ex (Option.some Jvm.ClassFile.FieldType.long) E7 1 (orun method_6_code (Option.some Jvm.ClassFile.FieldType.long) E7 1 n) (.lastore) 25 L S H cs ss := s_any k7_25
theorem s7_26 {n cs ss : Nat} {L : List Slot} {S : List Value} {H : AH} : orun method_6_code (Option.some Jvm.ClassFile.FieldType.long) E7 1 (n + 1) (26, L, S, H, cs, ss) = ex (Option.some Jvm.ClassFile.FieldType.long) E7 1 (orun method_6_code (Option.some Jvm.ClassFile.FieldType.long) E7 1 n) (.dup) 26 L S H cs ss := s_any k7_26
theorem s7_27 {n cs ss : Nat} {L : List Slot} {S : List Value} {H : AH} : orun method_6_code (Option.some Jvm.ClassFile.FieldType.long) E7 1 (n + 1) (27, L, S, H, cs, ss) = orun method_6_code (Option.some Jvm.ClassFile.FieldType.long) E7 1 n (28, L, (.int 4 :: S), H, cs, ss) := s_any k7_27
theorem s7_28 {n cs ss : Nat} {L : List Slot} {S : List Value} {H : AH} : orun method_6_code (Option.some Jvm.ClassFile.FieldType.long) E7 1 (n + 1) (28, L, S, H, cs, ss) = (aJ (10000) S H cs ss).bind fun r => orun method_6_code (Option.some Jvm.ClassFile.FieldType.long) E7 1 n (31, L, r.1, r.2.1, r.2.2.1, r.2.2.2) := s_any k7_28
theorem s7_31 {n cs ss : Nat} {L : List Slot} {S : List Value} {H : AH} : orun method_6_code (Option.some Jvm.ClassFile.FieldType.long) E7 1 (n + 1) (31, L, S, H, cs, ss) = ex (Option.some Jvm.ClassFile.FieldType.long) E7 1 (orun method_6_code (Option.some Jvm.ClassFile.FieldType.long) E7 1 n) (.lastore) 31 L S H cs ss := s_any k7_31
theorem s7_32 {n cs ss : Nat} {L : List Slot} {S : List Value} {H : AH} : orun method_6_code (Option.some Jvm.ClassFile.FieldType.long) E7 1 (n + 1) (32, L, S, H, cs, ss) = ex (Option.some Jvm.ClassFile.FieldType.long) E7 1 (orun method_6_code (Option.some Jvm.ClassFile.FieldType.long) E7 1 n) (.dup) 32 L S H cs ss := s_any k7_32
theorem s7_33 {n cs ss : Nat} {L : List Slot} {S : List Value} {H : AH} : orun method_6_code (Option.some Jvm.ClassFile.FieldType.long) E7 1 (n + 1) (33, L, S, H, cs, ss) = orun method_6_code (Option.some Jvm.ClassFile.FieldType.long) E7 1 n (34, L, (.int 5 :: S), H, cs, ss) := s_any k7_33
theorem s7_34 {n cs ss : Nat} {L : List Slot} {S : List Value} {H : AH} : orun method_6_code (Option.some Jvm.ClassFile.FieldType.long) E7 1 (n + 1) (34, L, S, H, cs, ss) = (aJ (100000) S H cs ss).bind fun r => orun method_6_code (Option.some Jvm.ClassFile.FieldType.long) E7 1 n (37, L, r.1, r.2.1, r.2.2.1, r.2.2.2) := s_any k7_34
theorem s7_37 {n cs ss : Nat} {L : List Slot} {S : List Value} {H : AH} : orun method_6_code (Option.some Jvm.ClassFile.FieldType.long) E7 1 (n + 1) (37, L, S, H, cs, ss) = ex (Option.some Jvm.ClassFile.FieldType.long) E7 1 (orun method_6_code (Option.some Jvm.ClassFile.FieldType.long) E7 1 n) (.lastore) 37 L S H cs ss := s_any k7_37
theorem s7_38 {n cs ss : Nat} {L : List Slot} {S : List Value} {H : AH} : orun method_6_code (Option.some Jvm.ClassFile.FieldType.long) E7 1 (n + 1) (38, L, S, H, cs, ss) = ex (Option.some Jvm.ClassFile.FieldType.long) E7 1 (orun method_6_code (Option.some Jvm.ClassFile.FieldType.long) E7 1 n) (.dup) 38 L S H cs ss := s_any k7_38
theorem s7_39 {n cs ss : Nat} {L : List Slot} {S : List Value} {H : AH} : orun method_6_code (Option.some Jvm.ClassFile.FieldType.long) E7 1 (n + 1) (39, L, S, H, cs, ss) = orun method_6_code (Option.some Jvm.ClassFile.FieldType.long) E7 1 n (41, L, (.int 6 :: S), H, cs, ss) := s_any k7_39
theorem s7_41 {n cs ss : Nat} {L : List Slot} {S : List Value} {H : AH} : orun method_6_code (Option.some Jvm.ClassFile.FieldType.long) E7 1 (n + 1) (41, L, S, H, cs, ss) = (aJ (1000000) S H cs ss).bind fun r => orun method_6_code (Option.some Jvm.ClassFile.FieldType.long) E7 1 n (44, L, r.1, r.2.1, r.2.2.1, r.2.2.2) := s_any k7_41
theorem s7_44 {n cs ss : Nat} {L : List Slot} {S : List Value} {H : AH} : orun method_6_code (Option.some Jvm.ClassFile.FieldType.long) E7 1 (n + 1) (44, L, S, H, cs, ss) = ex (Option.some Jvm.ClassFile.FieldType.long) E7 1 (orun method_6_code (Option.some Jvm.ClassFile.FieldType.long) E7 1 n) (.lastore) 44 L S H cs ss := s_any k7_44
theorem s7_45 {n cs ss : Nat} {L : List Slot} {S : List Value} {H : AH} : orun method_6_code (Option.some Jvm.ClassFile.FieldType.long) E7 1 (n + 1) (45, L, S, H, cs, ss) = ex (Option.some Jvm.ClassFile.FieldType.long) E7 1 (orun method_6_code (Option.some Jvm.ClassFile.FieldType.long) E7 1 n) (.dup) 45 L S H cs ss := s_any k7_45
theorem s7_46 {n cs ss : Nat} {L : List Slot} {S : List Value} {H : AH} : orun method_6_code (Option.some Jvm.ClassFile.FieldType.long) E7 1 (n + 1) (46, L, S, H, cs, ss) = orun method_6_code (Option.some Jvm.ClassFile.FieldType.long) E7 1 n (48, L, (.int 7 :: S), H, cs, ss) := s_any k7_46
theorem s7_48 {n cs ss : Nat} {L : List Slot} {S : List Value} {H : AH} : orun method_6_code (Option.some Jvm.ClassFile.FieldType.long) E7 1 (n + 1) (48, L, S, H, cs, ss) = (aJ (10000000) S H cs ss).bind fun r => orun method_6_code (Option.some Jvm.ClassFile.FieldType.long) E7 1 n (51, L, r.1, r.2.1, r.2.2.1, r.2.2.2) := s_any k7_48
theorem s7_51 {n cs ss : Nat} {L : List Slot} {S : List Value} {H : AH} : orun method_6_code (Option.some Jvm.ClassFile.FieldType.long) E7 1 (n + 1) (51, L, S, H, cs, ss) = ex (Option.some Jvm.ClassFile.FieldType.long) E7 1 (orun method_6_code (Option.some Jvm.ClassFile.FieldType.long) E7 1 n) (.lastore) 51 L S H cs ss := s_any k7_51
theorem s7_52 {n cs ss : Nat} {L : List Slot} {S : List Value} {H : AH} : orun method_6_code (Option.some Jvm.ClassFile.FieldType.long) E7 1 (n + 1) (52, L, S, H, cs, ss) = ex (Option.some Jvm.ClassFile.FieldType.long) E7 1 (orun method_6_code (Option.some Jvm.ClassFile.FieldType.long) E7 1 n) (.dup) 52 L S H cs ss := s_any k7_52
theorem s7_53 {n cs ss : Nat} {L : List Slot} {S : List Value} {H : AH} : orun method_6_code (Option.some Jvm.ClassFile.FieldType.long) E7 1 (n + 1) (53, L, S, H, cs, ss) = orun method_6_code (Option.some Jvm.ClassFile.FieldType.long) E7 1 n (55, L, (.int 8 :: S), H, cs, ss) := s_any k7_53
theorem s7_55 {n cs ss : Nat} {L : List Slot} {S : List Value} {H : AH} : orun method_6_code (Option.some Jvm.ClassFile.FieldType.long) E7 1 (n + 1) (55, L, S, H, cs, ss) = (aJ (100000000) S H cs ss).bind fun r => orun method_6_code (Option.some Jvm.ClassFile.FieldType.long) E7 1 n (58, L, r.1, r.2.1, r.2.2.1, r.2.2.2) := s_any k7_55
theorem s7_58 {n cs ss : Nat} {L : List Slot} {S : List Value} {H : AH} : orun method_6_code (Option.some Jvm.ClassFile.FieldType.long) E7 1 (n + 1) (58, L, S, H, cs, ss) = ex (Option.some Jvm.ClassFile.FieldType.long) E7 1 (orun method_6_code (Option.some Jvm.ClassFile.FieldType.long) E7 1 n) (.lastore) 58 L S H cs ss := s_any k7_58
theorem s7_59 {n cs ss : Nat} {L : List Slot} {S : List Value} {H : AH} : orun method_6_code (Option.some Jvm.ClassFile.FieldType.long) E7 1 (n + 1) (59, L, S, H, cs, ss) = ex (Option.some Jvm.ClassFile.FieldType.long) E7 1 (orun method_6_code (Option.some Jvm.ClassFile.FieldType.long) E7 1 n) (.dup) 59 L S H cs ss := s_any k7_59
theorem s7_60 {n cs ss : Nat} {L : List Slot} {S : List Value} {H : AH} : orun method_6_code (Option.some Jvm.ClassFile.FieldType.long) E7 1 (n + 1) (60, L, S, H, cs, ss) = orun method_6_code (Option.some Jvm.ClassFile.FieldType.long) E7 1 n (62, L, (.int 9 :: S), H, cs, ss) := s_any k7_60
theorem s7_62 {n cs ss : Nat} {L : List Slot} {S : List Value} {H : AH} : orun method_6_code (Option.some Jvm.ClassFile.FieldType.long) E7 1 (n + 1) (62, L, S, H, cs, ss) = (aJ (1000000000) S H cs ss).bind fun r => orun method_6_code (Option.some Jvm.ClassFile.FieldType.long) E7 1 n (65, L, r.1, r.2.1, r.2.2.1, r.2.2.2) := s_any k7_62
theorem s7_65 {n cs ss : Nat} {L : List Slot} {S : List Value} {H : AH} : orun method_6_code (Option.some Jvm.ClassFile.FieldType.long) E7 1 (n + 1) (65, L, S, H, cs, ss) = ex (Option.some Jvm.ClassFile.FieldType.long) E7 1 (orun method_6_code (Option.some Jvm.ClassFile.FieldType.long) E7 1 n) (.lastore) 65 L S H cs ss := s_any k7_65
theorem s7_66 {n cs ss : Nat} {L : List Slot} {S : List Value} {H : AH} : orun method_6_code (Option.some Jvm.ClassFile.FieldType.long) E7 1 (n + 1) (66, L, S, H, cs, ss) = pA S fun x r => (st1 L 1 x).bind fun L' => orun method_6_code (Option.some Jvm.ClassFile.FieldType.long) E7 1 n (67, L', r, H, cs, ss) := s_any k7_66
theorem s7_67 {n cs ss : Nat} {L : List Slot} {S : List Value} {H : AH} : orun method_6_code (Option.some Jvm.ClassFile.FieldType.long) E7 1 (n + 1) (67, L, S, H, cs, ss) = (gA L 1).bind fun v => orun method_6_code (Option.some Jvm.ClassFile.FieldType.long) E7 1 n (68, L, v :: S, H, cs, ss) := s_any k7_67
theorem s7_68 {n cs ss : Nat} {L : List Slot} {S : List Value} {H : AH} : orun method_6_code (Option.some Jvm.ClassFile.FieldType.long) E7 1 (n + 1) (68, L, S, H, cs, ss) = (gI L 0).bind fun v => orun method_6_code (Option.some Jvm.ClassFile.FieldType.long) E7 1 n (69, L, .int v :: S, H, cs, ss) := s_any k7_68
theorem s7_69 {n cs ss : Nat} {L : List Slot} {S : List Value} {H : AH} : orun method_6_code (Option.some Jvm.ClassFile.FieldType.long) E7 1 (n + 1) (69, L, S, H, cs, ss) = ex (Option.some Jvm.ClassFile.FieldType.long) E7 1 (orun method_6_code (Option.some Jvm.ClassFile.FieldType.long) E7 1 n) (.laload) 69 L S H cs ss := s_any k7_69
theorem s7_70 {n cs ss : Nat} {L : List Slot} {S : List Value} {H : AH} : orun method_6_code (Option.some Jvm.ClassFile.FieldType.long) E7 1 (n + 1) (70, L, S, H, cs, ss) = pL S fun z _ => some (some (.long z), H) := s_any k7_70
theorem t7_0 {go : Nat → St → Option ORes} (hgo : go = orun method_6_code (Option.some Jvm.ClassFile.FieldType.long) E7 1) {n cs ss : Nat} {L : List Slot} {S : List Value} {H : AH} {q : Option ORes → Prop} (h : Rsq (go n (2, L, (.int 10 :: S), H, cs, ss)) q) : Rsq (go (n + 1) (0, L, S, H, cs, ss)) q := by
  subst hgo
  exact res_of s7_0 h
theorem u7_2 {go : Nat → St → Option ORes} (hgo : go = orun method_6_code (Option.some Jvm.ClassFile.FieldType.long) E7 1) {n cs ss : Nat} {L : List Slot} {S : List Value} {H : AH} : go (n + 1) (2, L, S, H, cs, ss) = (aArr .long 1 10 S H cs ss).bind fun r => go n (4, L, r.1, r.2.1, r.2.2.1, r.2.2.2) := by
  subst hgo
  exact s7_2
theorem t7_4 {go : Nat → St → Option ORes} (hgo : go = orun method_6_code (Option.some Jvm.ClassFile.FieldType.long) E7 1) {n cs ss : Nat} {L : List Slot} {S : List Value} {H : AH} {q : Option ORes → Prop} {v : Value} (hv : isS v = true) (h : Rsq (go n (5, L, (v :: v :: S), H, cs, ss)) q) : Rsq (go (n + 1) (4, L, (v :: S), H, cs, ss)) q := by
  subst hgo
  refine res_of s7_4 ?_
  rw [ex_dup, p1_isS hv]
  exact h
theorem t7_5 {go : Nat → St → Option ORes} (hgo : go = orun method_6_code (Option.some Jvm.ClassFile.FieldType.long) E7 1) {n cs ss : Nat} {L : List Slot} {S : List Value} {H : AH} {q : Option ORes → Prop} (h : Rsq (go n (6, L, (.int 0 :: S), H, cs, ss)) q) : Rsq (go (n + 1) (5, L, S, H, cs, ss)) q := by
  subst hgo
  exact res_of s7_5 h
theorem t7_6 {go : Nat → St → Option ORes} (hgo : go = orun method_6_code (Option.some Jvm.ClassFile.FieldType.long) E7 1) {n cs ss : Nat} {L : List Slot} {S : List Value} {H : AH} {q : Option ORes → Prop} (h : Rsq (go n (7, L, (.long 1 :: S), H, cs, ss)) q) : Rsq (go (n + 1) (6, L, S, H, cs, ss)) q := by
  subst hgo
  exact res_of s7_6 h
theorem u7_7 {go : Nat → St → Option ORes} (hgo : go = orun method_6_code (Option.some Jvm.ClassFile.FieldType.long) E7 1) {n cs ss : Nat} {L : List Slot} {S : List Value} {H : AH} : go (n + 1) (7, L, S, H, cs, ss) = ex (Option.some Jvm.ClassFile.FieldType.long) E7 1 (go n) (.lastore) 7 L S H cs ss := by
  subst hgo
  exact s7_7
theorem t7_8 {go : Nat → St → Option ORes} (hgo : go = orun method_6_code (Option.some Jvm.ClassFile.FieldType.long) E7 1) {n cs ss : Nat} {L : List Slot} {S : List Value} {H : AH} {q : Option ORes → Prop} {v : Value} (hv : isS v = true) (h : Rsq (go n (9, L, (v :: v :: S), H, cs, ss)) q) : Rsq (go (n + 1) (8, L, (v :: S), H, cs, ss)) q := by
  subst hgo
  refine res_of s7_8 ?_
  rw [ex_dup, p1_isS hv]
  exact h
theorem t7_9 {go : Nat → St → Option ORes} (hgo : go = orun method_6_code (Option.some Jvm.ClassFile.FieldType.long) E7 1) {n cs ss : Nat} {L : List Slot} {S : List Value} {H : AH} {q : Option ORes → Prop} (h : Rsq (go n (10, L, (.int 1 :: S), H, cs, ss)) q) : Rsq (go (n + 1) (9, L, S, H, cs, ss)) q := by
  subst hgo
  exact res_of s7_9 h
theorem t7_10 {go : Nat → St → Option ORes} (hgo : go = orun method_6_code (Option.some Jvm.ClassFile.FieldType.long) E7 1) {n cs ss : Nat} {L : List Slot} {S : List Value} {H : AH} {q : Option ORes → Prop} (h : Rsq (go n (13, L, (.long (10) :: S), H, cs, ss)) q) : Rsq (go (n + 1) (10, L, S, H, cs, ss)) q := by
  subst hgo
  exact res_of s7_10 h
theorem u7_13 {go : Nat → St → Option ORes} (hgo : go = orun method_6_code (Option.some Jvm.ClassFile.FieldType.long) E7 1) {n cs ss : Nat} {L : List Slot} {S : List Value} {H : AH} : go (n + 1) (13, L, S, H, cs, ss) = ex (Option.some Jvm.ClassFile.FieldType.long) E7 1 (go n) (.lastore) 13 L S H cs ss := by
  subst hgo
  exact s7_13
theorem t7_14 {go : Nat → St → Option ORes} (hgo : go = orun method_6_code (Option.some Jvm.ClassFile.FieldType.long) E7 1) {n cs ss : Nat} {L : List Slot} {S : List Value} {H : AH} {q : Option ORes → Prop} {v : Value} (hv : isS v = true) (h : Rsq (go n (15, L, (v :: v :: S), H, cs, ss)) q) : Rsq (go (n + 1) (14, L, (v :: S), H, cs, ss)) q := by
  subst hgo
  refine res_of s7_14 ?_
  rw [ex_dup, p1_isS hv]
  exact h
theorem t7_15 {go : Nat → St → Option ORes} (hgo : go = orun method_6_code (Option.some Jvm.ClassFile.FieldType.long) E7 1) {n cs ss : Nat} {L : List Slot} {S : List Value} {H : AH} {q : Option ORes → Prop} (h : Rsq (go n (16, L, (.int 2 :: S), H, cs, ss)) q) : Rsq (go (n + 1) (15, L, S, H, cs, ss)) q := by
  subst hgo
  exact res_of s7_15 h
theorem t7_16 {go : Nat → St → Option ORes} (hgo : go = orun method_6_code (Option.some Jvm.ClassFile.FieldType.long) E7 1) {n cs ss : Nat} {L : List Slot} {S : List Value} {H : AH} {q : Option ORes → Prop} (h : Rsq (go n (19, L, (.long (100) :: S), H, cs, ss)) q) : Rsq (go (n + 1) (16, L, S, H, cs, ss)) q := by
  subst hgo
  exact res_of s7_16 h
theorem u7_19 {go : Nat → St → Option ORes} (hgo : go = orun method_6_code (Option.some Jvm.ClassFile.FieldType.long) E7 1) {n cs ss : Nat} {L : List Slot} {S : List Value} {H : AH} : go (n + 1) (19, L, S, H, cs, ss) = ex (Option.some Jvm.ClassFile.FieldType.long) E7 1 (go n) (.lastore) 19 L S H cs ss := by
  subst hgo
  exact s7_19
theorem t7_20 {go : Nat → St → Option ORes} (hgo : go = orun method_6_code (Option.some Jvm.ClassFile.FieldType.long) E7 1) {n cs ss : Nat} {L : List Slot} {S : List Value} {H : AH} {q : Option ORes → Prop} {v : Value} (hv : isS v = true) (h : Rsq (go n (21, L, (v :: v :: S), H, cs, ss)) q) : Rsq (go (n + 1) (20, L, (v :: S), H, cs, ss)) q := by
  subst hgo
  refine res_of s7_20 ?_
  rw [ex_dup, p1_isS hv]
  exact h
theorem t7_21 {go : Nat → St → Option ORes} (hgo : go = orun method_6_code (Option.some Jvm.ClassFile.FieldType.long) E7 1) {n cs ss : Nat} {L : List Slot} {S : List Value} {H : AH} {q : Option ORes → Prop} (h : Rsq (go n (22, L, (.int 3 :: S), H, cs, ss)) q) : Rsq (go (n + 1) (21, L, S, H, cs, ss)) q := by
  subst hgo
  exact res_of s7_21 h
theorem t7_22 {go : Nat → St → Option ORes} (hgo : go = orun method_6_code (Option.some Jvm.ClassFile.FieldType.long) E7 1) {n cs ss : Nat} {L : List Slot} {S : List Value} {H : AH} {q : Option ORes → Prop} (h : Rsq (go n (25, L, (.long (1000) :: S), H, cs, ss)) q) : Rsq (go (n + 1) (22, L, S, H, cs, ss)) q := by
  subst hgo
  exact res_of s7_22 h
theorem u7_25 {go : Nat → St → Option ORes} (hgo : go = orun method_6_code (Option.some Jvm.ClassFile.FieldType.long) E7 1) {n cs ss : Nat} {L : List Slot} {S : List Value} {H : AH} : go (n + 1) (25, L, S, H, cs, ss) = ex (Option.some Jvm.ClassFile.FieldType.long) E7 1 (go n) (.lastore) 25 L S H cs ss := by
  subst hgo
  exact s7_25
theorem t7_26 {go : Nat → St → Option ORes} (hgo : go = orun method_6_code (Option.some Jvm.ClassFile.FieldType.long) E7 1) {n cs ss : Nat} {L : List Slot} {S : List Value} {H : AH} {q : Option ORes → Prop} {v : Value} (hv : isS v = true) (h : Rsq (go n (27, L, (v :: v :: S), H, cs, ss)) q) : Rsq (go (n + 1) (26, L, (v :: S), H, cs, ss)) q := by
  subst hgo
  refine res_of s7_26 ?_
  rw [ex_dup, p1_isS hv]
  exact h
theorem t7_27 {go : Nat → St → Option ORes} (hgo : go = orun method_6_code (Option.some Jvm.ClassFile.FieldType.long) E7 1) {n cs ss : Nat} {L : List Slot} {S : List Value} {H : AH} {q : Option ORes → Prop} (h : Rsq (go n (28, L, (.int 4 :: S), H, cs, ss)) q) : Rsq (go (n + 1) (27, L, S, H, cs, ss)) q := by
  subst hgo
  exact res_of s7_27 h
theorem t7_28 {go : Nat → St → Option ORes} (hgo : go = orun method_6_code (Option.some Jvm.ClassFile.FieldType.long) E7 1) {n cs ss : Nat} {L : List Slot} {S : List Value} {H : AH} {q : Option ORes → Prop} (h : Rsq (go n (31, L, (.long (10000) :: S), H, cs, ss)) q) : Rsq (go (n + 1) (28, L, S, H, cs, ss)) q := by
  subst hgo
  exact res_of s7_28 h
theorem u7_31 {go : Nat → St → Option ORes} (hgo : go = orun method_6_code (Option.some Jvm.ClassFile.FieldType.long) E7 1) {n cs ss : Nat} {L : List Slot} {S : List Value} {H : AH} : go (n + 1) (31, L, S, H, cs, ss) = ex (Option.some Jvm.ClassFile.FieldType.long) E7 1 (go n) (.lastore) 31 L S H cs ss := by
  subst hgo
  exact s7_31
theorem t7_32 {go : Nat → St → Option ORes} (hgo : go = orun method_6_code (Option.some Jvm.ClassFile.FieldType.long) E7 1) {n cs ss : Nat} {L : List Slot} {S : List Value} {H : AH} {q : Option ORes → Prop} {v : Value} (hv : isS v = true) (h : Rsq (go n (33, L, (v :: v :: S), H, cs, ss)) q) : Rsq (go (n + 1) (32, L, (v :: S), H, cs, ss)) q := by
  subst hgo
  refine res_of s7_32 ?_
  rw [ex_dup, p1_isS hv]
  exact h
theorem t7_33 {go : Nat → St → Option ORes} (hgo : go = orun method_6_code (Option.some Jvm.ClassFile.FieldType.long) E7 1) {n cs ss : Nat} {L : List Slot} {S : List Value} {H : AH} {q : Option ORes → Prop} (h : Rsq (go n (34, L, (.int 5 :: S), H, cs, ss)) q) : Rsq (go (n + 1) (33, L, S, H, cs, ss)) q := by
  subst hgo
  exact res_of s7_33 h
theorem t7_34 {go : Nat → St → Option ORes} (hgo : go = orun method_6_code (Option.some Jvm.ClassFile.FieldType.long) E7 1) {n cs ss : Nat} {L : List Slot} {S : List Value} {H : AH} {q : Option ORes → Prop} (h : Rsq (go n (37, L, (.long (100000) :: S), H, cs, ss)) q) : Rsq (go (n + 1) (34, L, S, H, cs, ss)) q := by
  subst hgo
  exact res_of s7_34 h
theorem u7_37 {go : Nat → St → Option ORes} (hgo : go = orun method_6_code (Option.some Jvm.ClassFile.FieldType.long) E7 1) {n cs ss : Nat} {L : List Slot} {S : List Value} {H : AH} : go (n + 1) (37, L, S, H, cs, ss) = ex (Option.some Jvm.ClassFile.FieldType.long) E7 1 (go n) (.lastore) 37 L S H cs ss := by
  subst hgo
  exact s7_37
theorem t7_38 {go : Nat → St → Option ORes} (hgo : go = orun method_6_code (Option.some Jvm.ClassFile.FieldType.long) E7 1) {n cs ss : Nat} {L : List Slot} {S : List Value} {H : AH} {q : Option ORes → Prop} {v : Value} (hv : isS v = true) (h : Rsq (go n (39, L, (v :: v :: S), H, cs, ss)) q) : Rsq (go (n + 1) (38, L, (v :: S), H, cs, ss)) q := by
  subst hgo
  refine res_of s7_38 ?_
  rw [ex_dup, p1_isS hv]
  exact h
theorem t7_39 {go : Nat → St → Option ORes} (hgo : go = orun method_6_code (Option.some Jvm.ClassFile.FieldType.long) E7 1) {n cs ss : Nat} {L : List Slot} {S : List Value} {H : AH} {q : Option ORes → Prop} (h : Rsq (go n (41, L, (.int 6 :: S), H, cs, ss)) q) : Rsq (go (n + 1) (39, L, S, H, cs, ss)) q := by
  subst hgo
  exact res_of s7_39 h
theorem t7_41 {go : Nat → St → Option ORes} (hgo : go = orun method_6_code (Option.some Jvm.ClassFile.FieldType.long) E7 1) {n cs ss : Nat} {L : List Slot} {S : List Value} {H : AH} {q : Option ORes → Prop} (h : Rsq (go n (44, L, (.long (1000000) :: S), H, cs, ss)) q) : Rsq (go (n + 1) (41, L, S, H, cs, ss)) q := by
  subst hgo
  exact res_of s7_41 h
theorem u7_44 {go : Nat → St → Option ORes} (hgo : go = orun method_6_code (Option.some Jvm.ClassFile.FieldType.long) E7 1) {n cs ss : Nat} {L : List Slot} {S : List Value} {H : AH} : go (n + 1) (44, L, S, H, cs, ss) = ex (Option.some Jvm.ClassFile.FieldType.long) E7 1 (go n) (.lastore) 44 L S H cs ss := by
  subst hgo
  exact s7_44
theorem t7_45 {go : Nat → St → Option ORes} (hgo : go = orun method_6_code (Option.some Jvm.ClassFile.FieldType.long) E7 1) {n cs ss : Nat} {L : List Slot} {S : List Value} {H : AH} {q : Option ORes → Prop} {v : Value} (hv : isS v = true) (h : Rsq (go n (46, L, (v :: v :: S), H, cs, ss)) q) : Rsq (go (n + 1) (45, L, (v :: S), H, cs, ss)) q := by
  subst hgo
  refine res_of s7_45 ?_
  rw [ex_dup, p1_isS hv]
  exact h
theorem t7_46 {go : Nat → St → Option ORes} (hgo : go = orun method_6_code (Option.some Jvm.ClassFile.FieldType.long) E7 1) {n cs ss : Nat} {L : List Slot} {S : List Value} {H : AH} {q : Option ORes → Prop} (h : Rsq (go n (48, L, (.int 7 :: S), H, cs, ss)) q) : Rsq (go (n + 1) (46, L, S, H, cs, ss)) q := by
  subst hgo
  exact res_of s7_46 h
theorem t7_48 {go : Nat → St → Option ORes} (hgo : go = orun method_6_code (Option.some Jvm.ClassFile.FieldType.long) E7 1) {n cs ss : Nat} {L : List Slot} {S : List Value} {H : AH} {q : Option ORes → Prop} (h : Rsq (go n (51, L, (.long (10000000) :: S), H, cs, ss)) q) : Rsq (go (n + 1) (48, L, S, H, cs, ss)) q := by
  subst hgo
  exact res_of s7_48 h
theorem u7_51 {go : Nat → St → Option ORes} (hgo : go = orun method_6_code (Option.some Jvm.ClassFile.FieldType.long) E7 1) {n cs ss : Nat} {L : List Slot} {S : List Value} {H : AH} : go (n + 1) (51, L, S, H, cs, ss) = ex (Option.some Jvm.ClassFile.FieldType.long) E7 1 (go n) (.lastore) 51 L S H cs ss := by
  subst hgo
  exact s7_51
theorem t7_52 {go : Nat → St → Option ORes} (hgo : go = orun method_6_code (Option.some Jvm.ClassFile.FieldType.long) E7 1) {n cs ss : Nat} {L : List Slot} {S : List Value} {H : AH} {q : Option ORes → Prop} {v : Value} (hv : isS v = true) (h : Rsq (go n (53, L, (v :: v :: S), H, cs, ss)) q) : Rsq (go (n + 1) (52, L, (v :: S), H, cs, ss)) q := by
  subst hgo
  refine res_of s7_52 ?_
  rw [ex_dup, p1_isS hv]
  exact h
theorem t7_53 {go : Nat → St → Option ORes} (hgo : go = orun method_6_code (Option.some Jvm.ClassFile.FieldType.long) E7 1) {n cs ss : Nat} {L : List Slot} {S : List Value} {H : AH} {q : Option ORes → Prop} (h : Rsq (go n (55, L, (.int 8 :: S), H, cs, ss)) q) : Rsq (go (n + 1) (53, L, S, H, cs, ss)) q := by
  subst hgo
  exact res_of s7_53 h
theorem t7_55 {go : Nat → St → Option ORes} (hgo : go = orun method_6_code (Option.some Jvm.ClassFile.FieldType.long) E7 1) {n cs ss : Nat} {L : List Slot} {S : List Value} {H : AH} {q : Option ORes → Prop} (h : Rsq (go n (58, L, (.long (100000000) :: S), H, cs, ss)) q) : Rsq (go (n + 1) (55, L, S, H, cs, ss)) q := by
  subst hgo
  exact res_of s7_55 h
theorem u7_58 {go : Nat → St → Option ORes} (hgo : go = orun method_6_code (Option.some Jvm.ClassFile.FieldType.long) E7 1) {n cs ss : Nat} {L : List Slot} {S : List Value} {H : AH} : go (n + 1) (58, L, S, H, cs, ss) = ex (Option.some Jvm.ClassFile.FieldType.long) E7 1 (go n) (.lastore) 58 L S H cs ss := by
  subst hgo
  exact s7_58
theorem t7_59 {go : Nat → St → Option ORes} (hgo : go = orun method_6_code (Option.some Jvm.ClassFile.FieldType.long) E7 1) {n cs ss : Nat} {L : List Slot} {S : List Value} {H : AH} {q : Option ORes → Prop} {v : Value} (hv : isS v = true) (h : Rsq (go n (60, L, (v :: v :: S), H, cs, ss)) q) : Rsq (go (n + 1) (59, L, (v :: S), H, cs, ss)) q := by
  subst hgo
  refine res_of s7_59 ?_
  rw [ex_dup, p1_isS hv]
  exact h
theorem t7_60 {go : Nat → St → Option ORes} (hgo : go = orun method_6_code (Option.some Jvm.ClassFile.FieldType.long) E7 1) {n cs ss : Nat} {L : List Slot} {S : List Value} {H : AH} {q : Option ORes → Prop} (h : Rsq (go n (62, L, (.int 9 :: S), H, cs, ss)) q) : Rsq (go (n + 1) (60, L, S, H, cs, ss)) q := by
  subst hgo
  exact res_of s7_60 h
theorem t7_62 {go : Nat → St → Option ORes} (hgo : go = orun method_6_code (Option.some Jvm.ClassFile.FieldType.long) E7 1) {n cs ss : Nat} {L : List Slot} {S : List Value} {H : AH} {q : Option ORes → Prop} (h : Rsq (go n (65, L, (.long (1000000000) :: S), H, cs, ss)) q) : Rsq (go (n + 1) (62, L, S, H, cs, ss)) q := by
  subst hgo
  exact res_of s7_62 h
theorem u7_65 {go : Nat → St → Option ORes} (hgo : go = orun method_6_code (Option.some Jvm.ClassFile.FieldType.long) E7 1) {n cs ss : Nat} {L : List Slot} {S : List Value} {H : AH} : go (n + 1) (65, L, S, H, cs, ss) = ex (Option.some Jvm.ClassFile.FieldType.long) E7 1 (go n) (.lastore) 65 L S H cs ss := by
  subst hgo
  exact s7_65
theorem t7_66 {go : Nat → St → Option ORes} (hgo : go = orun method_6_code (Option.some Jvm.ClassFile.FieldType.long) E7 1) {n cs ss : Nat} {l0 l1 : Slot} {S : List Value} {H : AH} {q : Option ORes → Prop} {v : Value} (hv : isA v = true) (hk : so l1 = true) (h : Rsq (go n (67, [l0, .val v], S, H, cs, ss)) q) : Rsq (go (n + 1) (66, [l0, l1], (v :: S), H, cs, ss)) q := by
  subst hgo
  refine res_of s7_66 ?_
  rw [pA_isA hv, st1_so (L := [l0, l1]) (k := 1) (l := l1) rfl hk]
  exact h
theorem t7_67 {go : Nat → St → Option ORes} (hgo : go = orun method_6_code (Option.some Jvm.ClassFile.FieldType.long) E7 1) {n cs ss : Nat} {l0 : Slot} {S : List Value} {H : AH} {q : Option ORes → Prop} {v : Value} (hv : isA v = true) (h : Rsq (go n (68, [l0, .val v], (v :: S), H, cs, ss)) q) : Rsq (go (n + 1) (67, [l0, .val v], S, H, cs, ss)) q := by
  subst hgo
  refine res_of s7_67 ?_
  rw [gA_isA (L := [l0, .val v]) (k := 1) (v := v) rfl hv]
  exact h
theorem t7_68 {go : Nat → St → Option ORes} (hgo : go = orun method_6_code (Option.some Jvm.ClassFile.FieldType.long) E7 1) {n cs ss : Nat} {l1 : Slot} {S : List Value} {H : AH} {q : Option ORes → Prop} {v : Int32} (h : Rsq (go n (69, [.val (.int v), l1], (.int v :: S), H, cs, ss)) q) : Rsq (go (n + 1) (68, [.val (.int v), l1], S, H, cs, ss)) q := by
  subst hgo
  exact res_of s7_68 h
theorem u7_69 {go : Nat → St → Option ORes} (hgo : go = orun method_6_code (Option.some Jvm.ClassFile.FieldType.long) E7 1) {n cs ss : Nat} {L : List Slot} {S : List Value} {H : AH} : go (n + 1) (69, L, S, H, cs, ss) = ex (Option.some Jvm.ClassFile.FieldType.long) E7 1 (go n) (.laload) 69 L S H cs ss := by
  subst hgo
  exact s7_69
theorem t7_70 {go : Nat → St → Option ORes} (hgo : go = orun method_6_code (Option.some Jvm.ClassFile.FieldType.long) E7 1) {n cs ss : Nat} {L : List Slot} {S : List Value} {H : AH} {q : Option ORes → Prop} {z : Int64} (h : q (some (some (.long z), H))) : Rsq (go (n + 1) (70, L, (.long z :: S), H, cs, ss)) q := by
  subst hgo
  exact res_of s7_70 h
theorem f3_in {x0 : Nat} {x1 : Int32} {x2 : Int32} {x3 : Int32} {H : AH} : F3 [.ref x0, .int x1, .int x2, .int x3] H = orun method_7_code (Option.some Jvm.ClassFile.FieldType.boolean) E3 1 140 (0, [.val (.ref x0), .val (.int x1), .val (.int x2), .val (.int x3), .unset, .unset, .unset, .unset], [], H, 0, 0) := rfl
theorem s3_0 {n cs ss : Nat} {L : List Slot} {S : List Value} {H : AH} : orun method_7_code (Option.some Jvm.ClassFile.FieldType.boolean) E3 1 (n + 1) (0, L, S, H, cs, ss) = (gI L 2).bind fun v => orun method_7_code (Option.some Jvm.ClassFile.FieldType.boolean) E3 1 n (1, L, .int v :: S, H, cs, ss) := s_any k3_0
theorem s3_1 {n cs ss : Nat} {L : List Slot} {S : List Value} {H : AH} : orun method_7_code (Option.some Jvm.ClassFile.FieldType.boolean) E3 1 (n + 1) (1, L, S, H, cs, ss) = (aCall 1 6 1 10 0 0 F4 S H cs ss).bind fun r => orun method_7_code (Option.some Jvm.ClassFile.FieldType.boolean) E3 1 n (4, L, r.1, r.2.1, r.2.2.1, r.2.2.2) := s_any k3_1
theorem s3_4 {n cs ss : Nat} {L : List Slot} {S : List Value} {H : AH} : orun method_7_code (Option.some Jvm.ClassFile.FieldType.boolean) E3 1 (n + 1) (4, L, S, H, cs, ss) = pI S fun x r => (st1 L 4 (.int x)).bind fun L' => orun method_7_code (Option.some Jvm.ClassFile.FieldType.boolean) E3 1 n (6, L', r, H, cs, ss) := s_any k3_4
theorem s3_6 {n cs ss : Nat} {L : List Slot} {S : List Value} {H : AH} : orun method_7_code (Option.some Jvm.ClassFile.FieldType.boolean) E3 1 (n + 1) (6, L, S, H, cs, ss) = (gI L 3).bind fun v => orun method_7_code (Option.some Jvm.ClassFile.FieldType.boolean) E3 1 n (7, L, .int v :: S, H, cs, ss) := s_any k3_6
theorem s3_7 {n cs ss : Nat} {L : List Slot} {S : List Value} {H : AH} : orun method_7_code (Option.some Jvm.ClassFile.FieldType.boolean) E3 1 (n + 1) (7, L, S, H, cs, ss) = (gI L 4).bind fun v => orun method_7_code (Option.some Jvm.ClassFile.FieldType.boolean) E3 1 n (9, L, .int v :: S, H, cs, ss) := s_any k3_7
theorem s3_9 {n cs ss : Nat} {L : List Slot} {S : List Value} {H : AH} : orun method_7_code (Option.some Jvm.ClassFile.FieldType.boolean) E3 1 (n + 1) (9, L, S, H, cs, ss) = pI S fun y S => pI S fun x r => if x < y then orun method_7_code (Option.some Jvm.ClassFile.FieldType.boolean) E3 1 n (14, L, r, H, cs, ss) else orun method_7_code (Option.some Jvm.ClassFile.FieldType.boolean) E3 1 n (12, L, r, H, cs, ss) := s_icmp (Q := fun x y => x < y) (fun _ _ => h_lt) k3_9 (by decide) (by decide)
theorem s3_12 {n cs ss : Nat} {L : List Slot} {S : List Value} {H : AH} : orun method_7_code (Option.some Jvm.ClassFile.FieldType.boolean) E3 1 (n + 1) (12, L, S, H, cs, ss) = orun method_7_code (Option.some Jvm.ClassFile.FieldType.boolean) E3 1 n (13, L, (.int 1 :: S), H, cs, ss) := s_any k3_12
theorem s3_13 {n cs ss : Nat} {L : List Slot} {S : List Value} {H : AH} : orun method_7_code (Option.some Jvm.ClassFile.FieldType.boolean) E3 1 (n + 1) (13, L, S, H, cs, ss) = pI S fun z _ => some (some (.int (z &&& 1)), H) := s_any k3_13
theorem s3_14 {n cs ss : Nat} {L : List Slot} {S : List Value} {H : AH} : orun method_7_code (Option.some Jvm.ClassFile.FieldType.boolean) E3 1 (n + 1) (14, L, S, H, cs, ss) = (gI L 2).bind fun v => orun method_7_code (Option.some Jvm.ClassFile.FieldType.boolean) E3 1 n (15, L, .int v :: S, H, cs, ss) := s_any k3_14
theorem s3_15 {n cs ss : Nat} {L : List Slot} {S : List Value} {H : AH} : orun method_7_code (Option.some Jvm.ClassFile.FieldType.boolean) E3 1 (n + 1) (15, L, S, H, cs, ss) = pI S fun x r => if x < 0 then orun method_7_code (Option.some Jvm.ClassFile.FieldType.boolean) E3 1 n (18, L, r, H, cs, ss) else orun method_7_code (Option.some Jvm.ClassFile.FieldType.boolean) E3 1 n (36, L, r, H, cs, ss) := s_ifN (Q := fun x => x < 0) (fun _ => z_ge) k3_15 (by decide) (by decide)
theorem s3_18 {n cs ss : Nat} {L : List Slot} {S : List Value} {H : AH} : orun method_7_code (Option.some Jvm.ClassFile.FieldType.boolean) E3 1 (n + 1) (18, L, S, H, cs, ss) = (gI L 3).bind fun v => orun method_7_code (Option.some Jvm.ClassFile.FieldType.boolean) E3 1 n (19, L, .int v :: S, H, cs, ss) := s_any k3_18
theorem s3_19 {n cs ss : Nat} {L : List Slot} {S : List Value} {H : AH} : orun method_7_code (Option.some Jvm.ClassFile.FieldType.boolean) E3 1 (n + 1) (19, L, S, H, cs, ss) = pI S fun x r => if x = 0 then orun method_7_code (Option.some Jvm.ClassFile.FieldType.boolean) E3 1 n (22, L, r, H, cs, ss) else orun method_7_code (Option.some Jvm.ClassFile.FieldType.boolean) E3 1 n (36, L, r, H, cs, ss) := s_ifN (Q := fun x => x = 0) (fun _ => z_ne) k3_19 (by decide) (by decide)
theorem s3_22 {n cs ss : Nat} {L : List Slot} {S : List Value} {H : AH} : orun method_7_code (Option.some Jvm.ClassFile.FieldType.boolean) E3 1 (n + 1) (22, L, S, H, cs, ss) = (gA L 0).bind fun v => orun method_7_code (Option.some Jvm.ClassFile.FieldType.boolean) E3 1 n (23, L, v :: S, H, cs, ss) := s_any k3_22
theorem s3_23 {n cs ss : Nat} {L : List Slot} {S : List Value} {H : AH} : orun method_7_code (Option.some Jvm.ClassFile.FieldType.boolean) E3 1 (n + 1) (23, L, S, H, cs, ss) = (gI L 1).bind fun v => orun method_7_code (Option.some Jvm.ClassFile.FieldType.boolean) E3 1 n (24, L, .int v :: S, H, cs, ss) := s_any k3_23
theorem s3_24 {n cs ss : Nat} {L : List Slot} {S : List Value} {H : AH} : orun method_7_code (Option.some Jvm.ClassFile.FieldType.boolean) E3 1 (n + 1) (24, L, S, H, cs, ss) = ex (Option.some Jvm.ClassFile.FieldType.boolean) E3 1 (orun method_7_code (Option.some Jvm.ClassFile.FieldType.boolean) E3 1 n) (.baload) 24 L S H cs ss := s_any k3_24
theorem s3_25 {n cs ss : Nat} {L : List Slot} {S : List Value} {H : AH} : orun method_7_code (Option.some Jvm.ClassFile.FieldType.boolean) E3 1 (n + 1) (25, L, S, H, cs, ss) = orun method_7_code (Option.some Jvm.ClassFile.FieldType.boolean) E3 1 n (27, L, (.int 45 :: S), H, cs, ss) := s_any k3_25
theorem s3_27 {n cs ss : Nat} {L : List Slot} {S : List Value} {H : AH} : orun method_7_code (Option.some Jvm.ClassFile.FieldType.boolean) E3 1 (n + 1) (27, L, S, H, cs, ss) = pI S fun y S => pI S fun x r => if x = y then orun method_7_code (Option.some Jvm.ClassFile.FieldType.boolean) E3 1 n (30, L, r, H, cs, ss) else orun method_7_code (Option.some Jvm.ClassFile.FieldType.boolean) E3 1 n (34, L, r, H, cs, ss) := s_icmpN (Q := fun x y => x = y) (fun _ _ => h_ne) k3_27 (by decide) (by decide)
theorem s3_30 {n cs ss : Nat} {L : List Slot} {S : List Value} {H : AH} : orun method_7_code (Option.some Jvm.ClassFile.FieldType.boolean) E3 1 (n + 1) (30, L, S, H, cs, ss) = orun method_7_code (Option.some Jvm.ClassFile.FieldType.boolean) E3 1 n (31, L, (.int 1 :: S), H, cs, ss) := s_any k3_30
theorem s3_31 {n cs ss : Nat} {L : List Slot} {S : List Value} {H : AH} : orun method_7_code (Option.some Jvm.ClassFile.FieldType.boolean) E3 1 (n + 1) (31, L, S, H, cs, ss) = orun method_7_code (Option.some Jvm.ClassFile.FieldType.boolean) E3 1 n (35, L, S, H, cs, ss) := s_goto k3_31 (by decide) (by decide)
theorem s3_34 {n cs ss : Nat} {L : List Slot} {S : List Value} {H : AH} : orun method_7_code (Option.some Jvm.ClassFile.FieldType.boolean) E3 1 (n + 1) (34, L, S, H, cs, ss) = orun method_7_code (Option.some Jvm.ClassFile.FieldType.boolean) E3 1 n (35, L, (.int 0 :: S), H, cs, ss) := s_any k3_34
theorem s3_35 {n cs ss : Nat} {L : List Slot} {S : List Value} {H : AH} : orun method_7_code (Option.some Jvm.ClassFile.FieldType.boolean) E3 1 (n + 1) (35, L, S, H, cs, ss) = pI S fun z _ => some (some (.int (z &&& 1)), H) := s_any k3_35
theorem s3_36 {n cs ss : Nat} {L : List Slot} {S : List Value} {H : AH} : orun method_7_code (Option.some Jvm.ClassFile.FieldType.boolean) E3 1 (n + 1) (36, L, S, H, cs, ss) = (gI L 4).bind fun v => orun method_7_code (Option.some Jvm.ClassFile.FieldType.boolean) E3 1 n (38, L, .int v :: S, H, cs, ss) := s_any k3_36
theorem s3_38 {n cs ss : Nat} {L : List Slot} {S : List Value} {H : AH} : orun method_7_code (Option.some Jvm.ClassFile.FieldType.boolean) E3 1 (n + 1) (38, L, S, H, cs, ss) = orun method_7_code (Option.some Jvm.ClassFile.FieldType.boolean) E3 1 n (39, L, (.int 1 :: S), H, cs, ss) := s_any k3_38
theorem s3_39 {n cs ss : Nat} {L : List Slot} {S : List Value} {H : AH} : orun method_7_code (Option.some Jvm.ClassFile.FieldType.boolean) E3 1 (n + 1) (39, L, S, H, cs, ss) = pI S fun y S => pI S fun x r => orun method_7_code (Option.some Jvm.ClassFile.FieldType.boolean) E3 1 n (40, L, .int (x - y) :: r, H, cs, ss) := s_any k3_39
theorem s3_40 {n cs ss : Nat} {L : List Slot} {S : List Value} {H : AH} : orun method_7_code (Option.some Jvm.ClassFile.FieldType.boolean) E3 1 (n + 1) (40, L, S, H, cs, ss) = (gI L 3).bind fun v => orun method_7_code (Option.some Jvm.ClassFile.FieldType.boolean) E3 1 n (41, L, .int v :: S, H, cs, ss) := s_any k3_40
theorem s3_41 {n cs ss : Nat} {L : List Slot} {S : List Value} {H : AH} : orun method_7_code (Option.some Jvm.ClassFile.FieldType.boolean) E3 1 (n + 1) (41, L, S, H, cs, ss) = pI S fun y S => pI S fun x r => orun method_7_code (Option.some Jvm.ClassFile.FieldType.boolean) E3 1 n (42, L, .int (x - y) :: r, H, cs, ss) := s_any k3_41
theorem s3_42 {n cs ss : Nat} {L : List Slot} {S : List Value} {H : AH} : orun method_7_code (Option.some Jvm.ClassFile.FieldType.boolean) E3 1 (n + 1) (42, L, S, H, cs, ss) = pI S fun x r => (st1 L 5 (.int x)).bind fun L' => orun method_7_code (Option.some Jvm.ClassFile.FieldType.boolean) E3 1 n (44, L', r, H, cs, ss) := s_any k3_42
theorem s3_44 {n cs ss : Nat} {L : List Slot} {S : List Value} {H : AH} : orun method_7_code (Option.some Jvm.ClassFile.FieldType.boolean) E3 1 (n + 1) (44, L, S, H, cs, ss) = (gI L 2).bind fun v => orun method_7_code (Option.some Jvm.ClassFile.FieldType.boolean) E3 1 n (45, L, .int v :: S, H, cs, ss) := s_any k3_44
theorem s3_45 {n cs ss : Nat} {L : List Slot} {S : List Value} {H : AH} : orun method_7_code (Option.some Jvm.ClassFile.FieldType.boolean) E3 1 (n + 1) (45, L, S, H, cs, ss) = (aCall 1 6 1 10 0 0 F5 S H cs ss).bind fun r => orun method_7_code (Option.some Jvm.ClassFile.FieldType.boolean) E3 1 n (48, L, r.1, r.2.1, r.2.2.1, r.2.2.2) := s_any k3_45
theorem s3_48 {n cs ss : Nat} {L : List Slot} {S : List Value} {H : AH} : orun method_7_code (Option.some Jvm.ClassFile.FieldType.boolean) E3 1 (n + 1) (48, L, S, H, cs, ss) = (gI L 5).bind fun v => orun method_7_code (Option.some Jvm.ClassFile.FieldType.boolean) E3 1 n (50, L, .int v :: S, H, cs, ss) := s_any k3_48
theorem s3_50 {n cs ss : Nat} {L : List Slot} {S : List Value} {H : AH} : orun method_7_code (Option.some Jvm.ClassFile.FieldType.boolean) E3 1 (n + 1) (50, L, S, H, cs, ss) = (aCall 1 6 1 10 1 10 F7 S H cs ss).bind fun r => orun method_7_code (Option.some Jvm.ClassFile.FieldType.boolean) E3 1 n (53, L, r.1, r.2.1, r.2.2.1, r.2.2.2) := s_any k3_50
theorem s3_53 {n cs ss : Nat} {L : List Slot} {S : List Value} {H : AH} : orun method_7_code (Option.some Jvm.ClassFile.FieldType.boolean) E3 1 (n + 1) (53, L, S, H, cs, ss) = ex (Option.some Jvm.ClassFile.FieldType.boolean) E3 1 (orun method_7_code (Option.some Jvm.ClassFile.FieldType.boolean) E3 1 n) (.ldiv) 53 L S H cs ss := s_any k3_53
theorem s3_54 {n cs ss : Nat} {L : List Slot} {S : List Value} {H : AH} : orun method_7_code (Option.some Jvm.ClassFile.FieldType.boolean) E3 1 (n + 1) (54, L, S, H, cs, ss) = (aJ (10) S H cs ss).bind fun r => orun method_7_code (Option.some Jvm.ClassFile.FieldType.boolean) E3 1 n (57, L, r.1, r.2.1, r.2.2.1, r.2.2.2) := s_any k3_54
theorem s3_57 {n cs ss : Nat} {L : List Slot} {S : List Value} {H : AH} : orun method_7_code (Option.some Jvm.ClassFile.FieldType.boolean) E3 1 (n + 1) (57, L, S, H, cs, ss) = ex (Option.some Jvm.ClassFile.FieldType.boolean) E3 1 (orun method_7_code (Option.some Jvm.ClassFile.FieldType.boolean) E3 1 n) (.lrem) 57 L S H cs ss := s_any k3_57
theorem s3_58 {n cs ss : Nat} {L : List Slot} {S : List Value} {H : AH} : orun method_7_code (Option.some Jvm.ClassFile.FieldType.boolean) E3 1 (n + 1) (58, L, S, H, cs, ss) = pL S fun x r => (st2 L 6 x).bind fun L' => orun method_7_code (Option.some Jvm.ClassFile.FieldType.boolean) E3 1 n (60, L', r, H, cs, ss) := s_any k3_58
theorem s3_60 {n cs ss : Nat} {L : List Slot} {S : List Value} {H : AH} : orun method_7_code (Option.some Jvm.ClassFile.FieldType.boolean) E3 1 (n + 1) (60, L, S, H, cs, ss) = (gA L 0).bind fun v => orun method_7_code (Option.some Jvm.ClassFile.FieldType.boolean) E3 1 n (61, L, v :: S, H, cs, ss) := s_any k3_60
theorem s3_61 {n cs ss : Nat} {L : List Slot} {S : List Value} {H : AH} : orun method_7_code (Option.some Jvm.ClassFile.FieldType.boolean) E3 1 (n + 1) (61, L, S, H, cs, ss) = (gI L 1).bind fun v => orun method_7_code (Option.some Jvm.ClassFile.FieldType.boolean) E3 1 n (62, L, .int v :: S, H, cs, ss) := s_any k3_61
theorem s3_62 {n cs ss : Nat} {L : List Slot} {S : List Value} {H : AH} : orun method_7_code (Option.some Jvm.ClassFile.FieldType.boolean) E3 1 (n + 1) (62, L, S, H, cs, ss) = (gI L 3).bind fun v => orun method_7_code (Option.some Jvm.ClassFile.FieldType.boolean) E3 1 n (63, L, .int v :: S, H, cs, ss) := s_any k3_62
theorem s3_63 {n cs ss : Nat} {L : List Slot} {S : List Value} {H : AH} : orun method_7_code (Option.some Jvm.ClassFile.FieldType.boolean) E3 1 (n + 1) (63, L, S, H, cs, ss) = pI S fun y S => pI S fun x r => orun method_7_code (Option.some Jvm.ClassFile.FieldType.boolean) E3 1 n (64, L, .int (x + y) :: r, H, cs, ss) := s_any k3_63
theorem s3_64 {n cs ss : Nat} {L : List Slot} {S : List Value} {H : AH} : orun method_7_code (Option.some Jvm.ClassFile.FieldType.boolean) E3 1 (n + 1) (64, L, S, H, cs, ss) = ex (Option.some Jvm.ClassFile.FieldType.boolean) E3 1 (orun method_7_code (Option.some Jvm.ClassFile.FieldType.boolean) E3 1 n) (.baload) 64 L S H cs ss := s_any k3_64
theorem s3_65 {n cs ss : Nat} {L : List Slot} {S : List Value} {H : AH} : orun method_7_code (Option.some Jvm.ClassFile.FieldType.boolean) E3 1 (n + 1) (65, L, S, H, cs, ss) = orun method_7_code (Option.some Jvm.ClassFile.FieldType.boolean) E3 1 n (67, L, (.int 48 :: S), H, cs, ss) := s_any k3_65
theorem s3_67 {n cs ss : Nat} {L : List Slot} {S : List Value} {H : AH} : orun method_7_code (Option.some Jvm.ClassFile.FieldType.boolean) E3 1 (n + 1) (67, L, S, H, cs, ss) = (gL L 6).bind fun v => orun method_7_code (Option.some Jvm.ClassFile.FieldType.boolean) E3 1 n (69, L, .long v :: S, H, cs, ss) := s_any k3_67
theorem s3_69 {n cs ss : Nat} {L : List Slot} {S : List Value} {H : AH} : orun method_7_code (Option.some Jvm.ClassFile.FieldType.boolean) E3 1 (n + 1) (69, L, S, H, cs, ss) = ex (Option.some Jvm.ClassFile.FieldType.boolean) E3 1 (orun method_7_code (Option.some Jvm.ClassFile.FieldType.boolean) E3 1 n) (.l2i) 69 L S H cs ss := s_any k3_69
theorem s3_70 {n cs ss : Nat} {L : List Slot} {S : List Value} {H : AH} : orun method_7_code (Option.some Jvm.ClassFile.FieldType.boolean) E3 1 (n + 1) (70, L, S, H, cs, ss) = pI S fun y S => pI S fun x r => orun method_7_code (Option.some Jvm.ClassFile.FieldType.boolean) E3 1 n (71, L, .int (x + y) :: r, H, cs, ss) := s_any k3_70
theorem s3_71 {n cs ss : Nat} {L : List Slot} {S : List Value} {H : AH} : orun method_7_code (Option.some Jvm.ClassFile.FieldType.boolean) E3 1 (n + 1) (71, L, S, H, cs, ss) = ex (Option.some Jvm.ClassFile.FieldType.boolean) E3 1 (orun method_7_code (Option.some Jvm.ClassFile.FieldType.boolean) E3 1 n) (.i2b) 71 L S H cs ss := s_any k3_71
theorem s3_72 {n cs ss : Nat} {L : List Slot} {S : List Value} {H : AH} : orun method_7_code (Option.some Jvm.ClassFile.FieldType.boolean) E3 1 (n + 1) (72, L, S, H, cs, ss) = pI S fun y S => pI S fun x r => if x = y then orun method_7_code (Option.some Jvm.ClassFile.FieldType.boolean) E3 1 n (75, L, r, H, cs, ss) else orun method_7_code (Option.some Jvm.ClassFile.FieldType.boolean) E3 1 n (79, L, r, H, cs, ss) := s_icmpN (Q := fun x y => x = y) (fun _ _ => h_ne) k3_72 (by decide) (by decide)
theorem s3_75 {n cs ss : Nat} {L : List Slot} {S : List Value} {H : AH} : orun method_7_code (Option.some Jvm.ClassFile.FieldType.boolean) E3 1 (n + 1) (75, L, S, H, cs, ss) = orun method_7_code (Option.some Jvm.ClassFile.FieldType.boolean) E3 1 n (76, L, (.int 1 :: S), H, cs, ss) := s_any k3_75
theorem s3_76 {n cs ss : Nat} {L : List Slot} {S : List Value} {H : AH} : orun method_7_code (Option.some Jvm.ClassFile.FieldType.boolean) E3 1 (n + 1) (76, L, S, H, cs, ss) = orun method_7_code (Option.some Jvm.ClassFile.FieldType.boolean) E3 1 n (80, L, S, H, cs, ss) := s_goto k3_76 (by decide) (by decide)
theorem s3_79 {n cs ss : Nat} {L : List Slot} {S : List Value} {H : AH} : orun method_7_code (Option.some Jvm.ClassFile.FieldType.boolean) E3 1 (n + 1) (79, L, S, H, cs, ss) = orun method_7_code (Option.some Jvm.ClassFile.FieldType.boolean) E3 1 n (80, L, (.int 0 :: S), H, cs, ss) := s_any k3_79
theorem s3_80 {n cs ss : Nat} {L : List Slot} {S : List Value} {H : AH} : orun method_7_code (Option.some Jvm.ClassFile.FieldType.boolean) E3 1 (n + 1) (80, L, S, H, cs, ss) = pI S fun z _ => some (some (.int (z &&& 1)), H) := s_any k3_80
theorem t3_0 {go : Nat → St → Option ORes} (hgo : go = orun method_7_code (Option.some Jvm.ClassFile.FieldType.boolean) E3 1) {n cs ss : Nat} {l0 l1 l3 l4 l5 l6 l7 : Slot} {S : List Value} {H : AH} {q : Option ORes → Prop} {v : Int32} (h : Rsq (go n (1, [l0, l1, .val (.int v), l3, l4, l5, l6, l7], (.int v :: S), H, cs, ss)) q) : Rsq (go (n + 1) (0, [l0, l1, .val (.int v), l3, l4, l5, l6, l7], S, H, cs, ss)) q := by
  subst hgo
  exact res_of s3_0 h
theorem u3_1 {go : Nat → St → Option ORes} (hgo : go = orun method_7_code (Option.some Jvm.ClassFile.FieldType.boolean) E3 1) {n cs ss : Nat} {L : List Slot} {S : List Value} {H : AH} : go (n + 1) (1, L, S, H, cs, ss) = (aCall 1 6 1 10 0 0 F4 S H cs ss).bind fun r => go n (4, L, r.1, r.2.1, r.2.2.1, r.2.2.2) := by
  subst hgo
  exact s3_1
theorem t3_4 {go : Nat → St → Option ORes} (hgo : go = orun method_7_code (Option.some Jvm.ClassFile.FieldType.boolean) E3 1) {n cs ss : Nat} {l0 l1 l2 l3 l4 l5 l6 l7 : Slot} {S : List Value} {H : AH} {q : Option ORes → Prop} {x : Int32} (hk : so l4 = true) (h : Rsq (go n (6, [l0, l1, l2, l3, .val (.int x), l5, l6, l7], S, H, cs, ss)) q) : Rsq (go (n + 1) (4, [l0, l1, l2, l3, l4, l5, l6, l7], (.int x :: S), H, cs, ss)) q := by
  subst hgo
  refine res_of s3_4 ?_
  rw [pI_int, st1_so (L := [l0, l1, l2, l3, l4, l5, l6, l7]) (k := 4) (l := l4) rfl hk]
  exact h
theorem t3_6 {go : Nat → St → Option ORes} (hgo : go = orun method_7_code (Option.some Jvm.ClassFile.FieldType.boolean) E3 1) {n cs ss : Nat} {l0 l1 l2 l4 l5 l6 l7 : Slot} {S : List Value} {H : AH} {q : Option ORes → Prop} {v : Int32} (h : Rsq (go n (7, [l0, l1, l2, .val (.int v), l4, l5, l6, l7], (.int v :: S), H, cs, ss)) q) : Rsq (go (n + 1) (6, [l0, l1, l2, .val (.int v), l4, l5, l6, l7], S, H, cs, ss)) q := by
  subst hgo
  exact res_of s3_6 h
theorem t3_7 {go : Nat → St → Option ORes} (hgo : go = orun method_7_code (Option.some Jvm.ClassFile.FieldType.boolean) E3 1) {n cs ss : Nat} {l0 l1 l2 l3 l5 l6 l7 : Slot} {S : List Value} {H : AH} {q : Option ORes → Prop} {v : Int32} (h : Rsq (go n (9, [l0, l1, l2, l3, .val (.int v), l5, l6, l7], (.int v :: S), H, cs, ss)) q) : Rsq (go (n + 1) (7, [l0, l1, l2, l3, .val (.int v), l5, l6, l7], S, H, cs, ss)) q := by
  subst hgo
  exact res_of s3_7 h
theorem t3_9t {go : Nat → St → Option ORes} (hgo : go = orun method_7_code (Option.some Jvm.ClassFile.FieldType.boolean) E3 1) {n cs ss : Nat} {L : List Slot} {S : List Value} {H : AH} {q : Option ORes → Prop} {x y : Int32} (hc : x < y) (h : Rsq (go n (14, L, S, H, cs, ss)) q) : Rsq (go (n + 1) (9, L, (.int y :: .int x :: S), H, cs, ss)) q := by
  subst hgo
  exact res_of s3_9 (res_t hc h)
theorem t3_9f {go : Nat → St → Option ORes} (hgo : go = orun method_7_code (Option.some Jvm.ClassFile.FieldType.boolean) E3 1) {n cs ss : Nat} {L : List Slot} {S : List Value} {H : AH} {q : Option ORes → Prop} {x y : Int32} (hc : ¬ x < y) (h : Rsq (go n (12, L, S, H, cs, ss)) q) : Rsq (go (n + 1) (9, L, (.int y :: .int x :: S), H, cs, ss)) q := by
  subst hgo
  exact res_of s3_9 (res_f hc h)
theorem t3_12 {go : Nat → St → Option ORes} (hgo : go = orun method_7_code (Option.some Jvm.ClassFile.FieldType.boolean) E3 1) {n cs ss : Nat} {L : List Slot} {S : List Value} {H : AH} {q : Option ORes → Prop} (h : Rsq (go n (13, L, (.int 1 :: S), H, cs, ss)) q) : Rsq (go (n + 1) (12, L, S, H, cs, ss)) q := by
  subst hgo
  exact res_of s3_12 h
theorem t3_13 {go : Nat → St → Option ORes} (hgo : go = orun method_7_code (Option.some Jvm.ClassFile.FieldType.boolean) E3 1) {n cs ss : Nat} {L : List Slot} {S : List Value} {H : AH} {q : Option ORes → Prop} {z : Int32} (h : q (some (some (.int (z &&& 1)), H))) : Rsq (go (n + 1) (13, L, (.int z :: S), H, cs, ss)) q := by
  subst hgo
  exact res_of s3_13 h
theorem t3_14 {go : Nat → St → Option ORes} (hgo : go = orun method_7_code (Option.some Jvm.ClassFile.FieldType.boolean) E3 1) {n cs ss : Nat} {l0 l1 l3 l4 l5 l6 l7 : Slot} {S : List Value} {H : AH} {q : Option ORes → Prop} {v : Int32} (h : Rsq (go n (15, [l0, l1, .val (.int v), l3, l4, l5, l6, l7], (.int v :: S), H, cs, ss)) q) : Rsq (go (n + 1) (14, [l0, l1, .val (.int v), l3, l4, l5, l6, l7], S, H, cs, ss)) q := by
  subst hgo
  exact res_of s3_14 h
theorem t3_15t {go : Nat → St → Option ORes} (hgo : go = orun method_7_code (Option.some Jvm.ClassFile.FieldType.boolean) E3 1) {n cs ss : Nat} {L : List Slot} {S : List Value} {H : AH} {q : Option ORes → Prop} {x : Int32} (hc : x < 0) (h : Rsq (go n (18, L, S, H, cs, ss)) q) : Rsq (go (n + 1) (15, L, (.int x :: S), H, cs, ss)) q := by
  subst hgo
  exact res_of s3_15 (res_t hc h)
theorem t3_15f {go : Nat → St → Option ORes} (hgo : go = orun method_7_code (Option.some Jvm.ClassFile.FieldType.boolean) E3 1) {n cs ss : Nat} {L : List Slot} {S : List Value} {H : AH} {q : Option ORes → Prop} {x : Int32} (hc : ¬ x < 0) (h : Rsq (go n (36, L, S, H, cs, ss)) q) : Rsq (go (n + 1) (15, L, (.int x :: S), H, cs, ss)) q := by
  subst hgo
  exact res_of s3_15 (res_f hc h)
theorem t3_18 {go : Nat → St → Option ORes} (hgo : go = orun method_7_code (Option.some Jvm.ClassFile.FieldType.boolean) E3 1) {n cs ss : Nat} {l0 l1 l2 l4 l5 l6 l7 : Slot} {S : List Value} {H : AH} {q : Option ORes → Prop} {v : Int32} (h : Rsq (go n (19, [l0, l1, l2, .val (.int v), l4, l5, l6, l7], (.int v :: S), H, cs, ss)) q) : Rsq (go (n + 1) (18, [l0, l1, l2, .val (.int v), l4, l5, l6, l7], S, H, cs, ss)) q := by
  subst hgo
  exact res_of s3_18 h
theorem t3_19t {go : Nat → St → Option ORes} (hgo : go = orun method_7_code (Option.some Jvm.ClassFile.FieldType.boolean) E3 1) {n cs ss : Nat} {L : List Slot} {S : List Value} {H : AH} {q : Option ORes → Prop} {x : Int32} (hc : x = 0) (h : Rsq (go n (22, L, S, H, cs, ss)) q) : Rsq (go (n + 1) (19, L, (.int x :: S), H, cs, ss)) q := by
  subst hgo
  exact res_of s3_19 (res_t hc h)
theorem t3_19f {go : Nat → St → Option ORes} (hgo : go = orun method_7_code (Option.some Jvm.ClassFile.FieldType.boolean) E3 1) {n cs ss : Nat} {L : List Slot} {S : List Value} {H : AH} {q : Option ORes → Prop} {x : Int32} (hc : ¬ x = 0) (h : Rsq (go n (36, L, S, H, cs, ss)) q) : Rsq (go (n + 1) (19, L, (.int x :: S), H, cs, ss)) q := by
  subst hgo
  exact res_of s3_19 (res_f hc h)
theorem t3_22 {go : Nat → St → Option ORes} (hgo : go = orun method_7_code (Option.some Jvm.ClassFile.FieldType.boolean) E3 1) {n cs ss : Nat} {l1 l2 l3 l4 l5 l6 l7 : Slot} {S : List Value} {H : AH} {q : Option ORes → Prop} {v : Value} (hv : isA v = true) (h : Rsq (go n (23, [.val v, l1, l2, l3, l4, l5, l6, l7], (v :: S), H, cs, ss)) q) : Rsq (go (n + 1) (22, [.val v, l1, l2, l3, l4, l5, l6, l7], S, H, cs, ss)) q := by
  subst hgo
  refine res_of s3_22 ?_
  rw [gA_isA (L := [.val v, l1, l2, l3, l4, l5, l6, l7]) (k := 0) (v := v) rfl hv]
  exact h
theorem t3_23 {go : Nat → St → Option ORes} (hgo : go = orun method_7_code (Option.some Jvm.ClassFile.FieldType.boolean) E3 1) {n cs ss : Nat} {l0 l2 l3 l4 l5 l6 l7 : Slot} {S : List Value} {H : AH} {q : Option ORes → Prop} {v : Int32} (h : Rsq (go n (24, [l0, .val (.int v), l2, l3, l4, l5, l6, l7], (.int v :: S), H, cs, ss)) q) : Rsq (go (n + 1) (23, [l0, .val (.int v), l2, l3, l4, l5, l6, l7], S, H, cs, ss)) q := by
  subst hgo
  exact res_of s3_23 h
theorem u3_24 {go : Nat → St → Option ORes} (hgo : go = orun method_7_code (Option.some Jvm.ClassFile.FieldType.boolean) E3 1) {n cs ss : Nat} {L : List Slot} {S : List Value} {H : AH} : go (n + 1) (24, L, S, H, cs, ss) = ex (Option.some Jvm.ClassFile.FieldType.boolean) E3 1 (go n) (.baload) 24 L S H cs ss := by
  subst hgo
  exact s3_24
theorem t3_25 {go : Nat → St → Option ORes} (hgo : go = orun method_7_code (Option.some Jvm.ClassFile.FieldType.boolean) E3 1) {n cs ss : Nat} {L : List Slot} {S : List Value} {H : AH} {q : Option ORes → Prop} (h : Rsq (go n (27, L, (.int 45 :: S), H, cs, ss)) q) : Rsq (go (n + 1) (25, L, S, H, cs, ss)) q := by
  subst hgo
  exact res_of s3_25 h
theorem t3_27t {go : Nat → St → Option ORes} (hgo : go = orun method_7_code (Option.some Jvm.ClassFile.FieldType.boolean) E3 1) {n cs ss : Nat} {L : List Slot} {S : List Value} {H : AH} {q : Option ORes → Prop} {x y : Int32} (hc : x = y) (h : Rsq (go n (30, L, S, H, cs, ss)) q) : Rsq (go (n + 1) (27, L, (.int y :: .int x :: S), H, cs, ss)) q := by
  subst hgo
  exact res_of s3_27 (res_t hc h)
theorem t3_27f {go : Nat → St → Option ORes} (hgo : go = orun method_7_code (Option.some Jvm.ClassFile.FieldType.boolean) E3 1) {n cs ss : Nat} {L : List Slot} {S : List Value} {H : AH} {q : Option ORes → Prop} {x y : Int32} (hc : ¬ x = y) (h : Rsq (go n (34, L, S, H, cs, ss)) q) : Rsq (go (n + 1) (27, L, (.int y :: .int x :: S), H, cs, ss)) q := by
  subst hgo
  exact res_of s3_27 (res_f hc h)
theorem t3_30 {go : Nat → St → Option ORes} (hgo : go = orun method_7_code (Option.some Jvm.ClassFile.FieldType.boolean) E3 1) {n cs ss : Nat} {L : List Slot} {S : List Value} {H : AH} {q : Option ORes → Prop} (h : Rsq (go n (31, L, (.int 1 :: S), H, cs, ss)) q) : Rsq (go (n + 1) (30, L, S, H, cs, ss)) q := by
  subst hgo
  exact res_of s3_30 h
theorem t3_31 {go : Nat → St → Option ORes} (hgo : go = orun method_7_code (Option.some Jvm.ClassFile.FieldType.boolean) E3 1) {n cs ss : Nat} {L : List Slot} {S : List Value} {H : AH} {q : Option ORes → Prop} (h : Rsq (go n (35, L, S, H, cs, ss)) q) : Rsq (go (n + 1) (31, L, S, H, cs, ss)) q := by
  subst hgo
  exact res_of s3_31 h
theorem t3_34 {go : Nat → St → Option ORes} (hgo : go = orun method_7_code (Option.some Jvm.ClassFile.FieldType.boolean) E3 1) {n cs ss : Nat} {L : List Slot} {S : List Value} {H : AH} {q : Option ORes → Prop} (h : Rsq (go n (35, L, (.int 0 :: S), H, cs, ss)) q) : Rsq (go (n + 1) (34, L, S, H, cs, ss)) q := by
  subst hgo
  exact res_of s3_34 h
theorem t3_35 {go : Nat → St → Option ORes} (hgo : go = orun method_7_code (Option.some Jvm.ClassFile.FieldType.boolean) E3 1) {n cs ss : Nat} {L : List Slot} {S : List Value} {H : AH} {q : Option ORes → Prop} {z : Int32} (h : q (some (some (.int (z &&& 1)), H))) : Rsq (go (n + 1) (35, L, (.int z :: S), H, cs, ss)) q := by
  subst hgo
  exact res_of s3_35 h
theorem t3_36 {go : Nat → St → Option ORes} (hgo : go = orun method_7_code (Option.some Jvm.ClassFile.FieldType.boolean) E3 1) {n cs ss : Nat} {l0 l1 l2 l3 l5 l6 l7 : Slot} {S : List Value} {H : AH} {q : Option ORes → Prop} {v : Int32} (h : Rsq (go n (38, [l0, l1, l2, l3, .val (.int v), l5, l6, l7], (.int v :: S), H, cs, ss)) q) : Rsq (go (n + 1) (36, [l0, l1, l2, l3, .val (.int v), l5, l6, l7], S, H, cs, ss)) q := by
  subst hgo
  exact res_of s3_36 h
theorem t3_38 {go : Nat → St → Option ORes} (hgo : go = orun method_7_code (Option.some Jvm.ClassFile.FieldType.boolean) E3 1) {n cs ss : Nat} {L : List Slot} {S : List Value} {H : AH} {q : Option ORes → Prop} (h : Rsq (go n (39, L, (.int 1 :: S), H, cs, ss)) q) : Rsq (go (n + 1) (38, L, S, H, cs, ss)) q := by
  subst hgo
  exact res_of s3_38 h
theorem t3_39 {go : Nat → St → Option ORes} (hgo : go = orun method_7_code (Option.some Jvm.ClassFile.FieldType.boolean) E3 1) {n cs ss : Nat} {L : List Slot} {S : List Value} {H : AH} {q : Option ORes → Prop} {x y : Int32} (h : Rsq (go n (40, L, (.int (x - y) :: S), H, cs, ss)) q) : Rsq (go (n + 1) (39, L, (.int y :: .int x :: S), H, cs, ss)) q := by
  subst hgo
  exact res_of s3_39 h
theorem t3_40 {go : Nat → St → Option ORes} (hgo : go = orun method_7_code (Option.some Jvm.ClassFile.FieldType.boolean) E3 1) {n cs ss : Nat} {l0 l1 l2 l4 l5 l6 l7 : Slot} {S : List Value} {H : AH} {q : Option ORes → Prop} {v : Int32} (h : Rsq (go n (41, [l0, l1, l2, .val (.int v), l4, l5, l6, l7], (.int v :: S), H, cs, ss)) q) : Rsq (go (n + 1) (40, [l0, l1, l2, .val (.int v), l4, l5, l6, l7], S, H, cs, ss)) q := by
  subst hgo
  exact res_of s3_40 h
theorem t3_41 {go : Nat → St → Option ORes} (hgo : go = orun method_7_code (Option.some Jvm.ClassFile.FieldType.boolean) E3 1) {n cs ss : Nat} {L : List Slot} {S : List Value} {H : AH} {q : Option ORes → Prop} {x y : Int32} (h : Rsq (go n (42, L, (.int (x - y) :: S), H, cs, ss)) q) : Rsq (go (n + 1) (41, L, (.int y :: .int x :: S), H, cs, ss)) q := by
  subst hgo
  exact res_of s3_41 h
theorem t3_42 {go : Nat → St → Option ORes} (hgo : go = orun method_7_code (Option.some Jvm.ClassFile.FieldType.boolean) E3 1) {n cs ss : Nat} {l0 l1 l2 l3 l4 l5 l6 l7 : Slot} {S : List Value} {H : AH} {q : Option ORes → Prop} {x : Int32} (hk : so l5 = true) (h : Rsq (go n (44, [l0, l1, l2, l3, l4, .val (.int x), l6, l7], S, H, cs, ss)) q) : Rsq (go (n + 1) (42, [l0, l1, l2, l3, l4, l5, l6, l7], (.int x :: S), H, cs, ss)) q := by
  subst hgo
  refine res_of s3_42 ?_
  rw [pI_int, st1_so (L := [l0, l1, l2, l3, l4, l5, l6, l7]) (k := 5) (l := l5) rfl hk]
  exact h
theorem t3_44 {go : Nat → St → Option ORes} (hgo : go = orun method_7_code (Option.some Jvm.ClassFile.FieldType.boolean) E3 1) {n cs ss : Nat} {l0 l1 l3 l4 l5 l6 l7 : Slot} {S : List Value} {H : AH} {q : Option ORes → Prop} {v : Int32} (h : Rsq (go n (45, [l0, l1, .val (.int v), l3, l4, l5, l6, l7], (.int v :: S), H, cs, ss)) q) : Rsq (go (n + 1) (44, [l0, l1, .val (.int v), l3, l4, l5, l6, l7], S, H, cs, ss)) q := by
  subst hgo
  exact res_of s3_44 h
theorem u3_45 {go : Nat → St → Option ORes} (hgo : go = orun method_7_code (Option.some Jvm.ClassFile.FieldType.boolean) E3 1) {n cs ss : Nat} {L : List Slot} {S : List Value} {H : AH} : go (n + 1) (45, L, S, H, cs, ss) = (aCall 1 6 1 10 0 0 F5 S H cs ss).bind fun r => go n (48, L, r.1, r.2.1, r.2.2.1, r.2.2.2) := by
  subst hgo
  exact s3_45
theorem t3_48 {go : Nat → St → Option ORes} (hgo : go = orun method_7_code (Option.some Jvm.ClassFile.FieldType.boolean) E3 1) {n cs ss : Nat} {l0 l1 l2 l3 l4 l6 l7 : Slot} {S : List Value} {H : AH} {q : Option ORes → Prop} {v : Int32} (h : Rsq (go n (50, [l0, l1, l2, l3, l4, .val (.int v), l6, l7], (.int v :: S), H, cs, ss)) q) : Rsq (go (n + 1) (48, [l0, l1, l2, l3, l4, .val (.int v), l6, l7], S, H, cs, ss)) q := by
  subst hgo
  exact res_of s3_48 h
theorem u3_50 {go : Nat → St → Option ORes} (hgo : go = orun method_7_code (Option.some Jvm.ClassFile.FieldType.boolean) E3 1) {n cs ss : Nat} {L : List Slot} {S : List Value} {H : AH} : go (n + 1) (50, L, S, H, cs, ss) = (aCall 1 6 1 10 1 10 F7 S H cs ss).bind fun r => go n (53, L, r.1, r.2.1, r.2.2.1, r.2.2.2) := by
  subst hgo
  exact s3_50
theorem t3_53 {go : Nat → St → Option ORes} (hgo : go = orun method_7_code (Option.some Jvm.ClassFile.FieldType.boolean) E3 1) {n cs ss : Nat} {L : List Slot} {S : List Value} {H : AH} {q : Option ORes → Prop} {x y : Int64} (hz : ¬ y = 0) (h : Rsq (go n (54, L, (.long (x / y) :: S), H, cs, ss)) q) : Rsq (go (n + 1) (53, L, (.long y :: .long x :: S), H, cs, ss)) q := by
  subst hgo
  exact res_of s3_53 (res_f hz h)
theorem t3_54 {go : Nat → St → Option ORes} (hgo : go = orun method_7_code (Option.some Jvm.ClassFile.FieldType.boolean) E3 1) {n cs ss : Nat} {L : List Slot} {S : List Value} {H : AH} {q : Option ORes → Prop} (h : Rsq (go n (57, L, (.long (10) :: S), H, cs, ss)) q) : Rsq (go (n + 1) (54, L, S, H, cs, ss)) q := by
  subst hgo
  exact res_of s3_54 h
theorem t3_57 {go : Nat → St → Option ORes} (hgo : go = orun method_7_code (Option.some Jvm.ClassFile.FieldType.boolean) E3 1) {n cs ss : Nat} {L : List Slot} {S : List Value} {H : AH} {q : Option ORes → Prop} {x y : Int64} (hz : ¬ y = 0) (h : Rsq (go n (58, L, (.long (x % y) :: S), H, cs, ss)) q) : Rsq (go (n + 1) (57, L, (.long y :: .long x :: S), H, cs, ss)) q := by
  subst hgo
  exact res_of s3_57 (res_f hz h)
theorem t3_58 {go : Nat → St → Option ORes} (hgo : go = orun method_7_code (Option.some Jvm.ClassFile.FieldType.boolean) E3 1) {n cs ss : Nat} {l0 l1 l2 l3 l4 l5 l6 l7 : Slot} {S : List Value} {H : AH} {q : Option ORes → Prop} {x : Int64} (hk : so2 l6 l7 = true) (h : Rsq (go n (60, [l0, l1, l2, l3, l4, l5, .val (.long x), .second], S, H, cs, ss)) q) : Rsq (go (n + 1) (58, [l0, l1, l2, l3, l4, l5, l6, l7], (.long x :: S), H, cs, ss)) q := by
  subst hgo
  refine res_of s3_58 ?_
  rw [pL_long, st2_so (L := [l0, l1, l2, l3, l4, l5, l6, l7]) (k := 6) (l := l6) (l' := l7) rfl rfl hk]
  exact h
theorem t3_60 {go : Nat → St → Option ORes} (hgo : go = orun method_7_code (Option.some Jvm.ClassFile.FieldType.boolean) E3 1) {n cs ss : Nat} {l1 l2 l3 l4 l5 l6 l7 : Slot} {S : List Value} {H : AH} {q : Option ORes → Prop} {v : Value} (hv : isA v = true) (h : Rsq (go n (61, [.val v, l1, l2, l3, l4, l5, l6, l7], (v :: S), H, cs, ss)) q) : Rsq (go (n + 1) (60, [.val v, l1, l2, l3, l4, l5, l6, l7], S, H, cs, ss)) q := by
  subst hgo
  refine res_of s3_60 ?_
  rw [gA_isA (L := [.val v, l1, l2, l3, l4, l5, l6, l7]) (k := 0) (v := v) rfl hv]
  exact h
theorem t3_61 {go : Nat → St → Option ORes} (hgo : go = orun method_7_code (Option.some Jvm.ClassFile.FieldType.boolean) E3 1) {n cs ss : Nat} {l0 l2 l3 l4 l5 l6 l7 : Slot} {S : List Value} {H : AH} {q : Option ORes → Prop} {v : Int32} (h : Rsq (go n (62, [l0, .val (.int v), l2, l3, l4, l5, l6, l7], (.int v :: S), H, cs, ss)) q) : Rsq (go (n + 1) (61, [l0, .val (.int v), l2, l3, l4, l5, l6, l7], S, H, cs, ss)) q := by
  subst hgo
  exact res_of s3_61 h
theorem t3_62 {go : Nat → St → Option ORes} (hgo : go = orun method_7_code (Option.some Jvm.ClassFile.FieldType.boolean) E3 1) {n cs ss : Nat} {l0 l1 l2 l4 l5 l6 l7 : Slot} {S : List Value} {H : AH} {q : Option ORes → Prop} {v : Int32} (h : Rsq (go n (63, [l0, l1, l2, .val (.int v), l4, l5, l6, l7], (.int v :: S), H, cs, ss)) q) : Rsq (go (n + 1) (62, [l0, l1, l2, .val (.int v), l4, l5, l6, l7], S, H, cs, ss)) q := by
  subst hgo
  exact res_of s3_62 h
theorem t3_63 {go : Nat → St → Option ORes} (hgo : go = orun method_7_code (Option.some Jvm.ClassFile.FieldType.boolean) E3 1) {n cs ss : Nat} {L : List Slot} {S : List Value} {H : AH} {q : Option ORes → Prop} {x y : Int32} (h : Rsq (go n (64, L, (.int (x + y) :: S), H, cs, ss)) q) : Rsq (go (n + 1) (63, L, (.int y :: .int x :: S), H, cs, ss)) q := by
  subst hgo
  exact res_of s3_63 h
theorem u3_64 {go : Nat → St → Option ORes} (hgo : go = orun method_7_code (Option.some Jvm.ClassFile.FieldType.boolean) E3 1) {n cs ss : Nat} {L : List Slot} {S : List Value} {H : AH} : go (n + 1) (64, L, S, H, cs, ss) = ex (Option.some Jvm.ClassFile.FieldType.boolean) E3 1 (go n) (.baload) 64 L S H cs ss := by
  subst hgo
  exact s3_64
theorem t3_65 {go : Nat → St → Option ORes} (hgo : go = orun method_7_code (Option.some Jvm.ClassFile.FieldType.boolean) E3 1) {n cs ss : Nat} {L : List Slot} {S : List Value} {H : AH} {q : Option ORes → Prop} (h : Rsq (go n (67, L, (.int 48 :: S), H, cs, ss)) q) : Rsq (go (n + 1) (65, L, S, H, cs, ss)) q := by
  subst hgo
  exact res_of s3_65 h
theorem t3_67 {go : Nat → St → Option ORes} (hgo : go = orun method_7_code (Option.some Jvm.ClassFile.FieldType.boolean) E3 1) {n cs ss : Nat} {l0 l1 l2 l3 l4 l5 l7 : Slot} {S : List Value} {H : AH} {q : Option ORes → Prop} {v : Int64} (h : Rsq (go n (69, [l0, l1, l2, l3, l4, l5, .val (.long v), l7], (.long v :: S), H, cs, ss)) q) : Rsq (go (n + 1) (67, [l0, l1, l2, l3, l4, l5, .val (.long v), l7], S, H, cs, ss)) q := by
  subst hgo
  exact res_of s3_67 h
theorem t3_69 {go : Nat → St → Option ORes} (hgo : go = orun method_7_code (Option.some Jvm.ClassFile.FieldType.boolean) E3 1) {n cs ss : Nat} {L : List Slot} {S : List Value} {H : AH} {q : Option ORes → Prop} {x : Int64} (h : Rsq (go n (70, L, (.int x.toInt32 :: S), H, cs, ss)) q) : Rsq (go (n + 1) (69, L, (.long x :: S), H, cs, ss)) q := by
  subst hgo
  exact res_of s3_69 h
theorem t3_70 {go : Nat → St → Option ORes} (hgo : go = orun method_7_code (Option.some Jvm.ClassFile.FieldType.boolean) E3 1) {n cs ss : Nat} {L : List Slot} {S : List Value} {H : AH} {q : Option ORes → Prop} {x y : Int32} (h : Rsq (go n (71, L, (.int (x + y) :: S), H, cs, ss)) q) : Rsq (go (n + 1) (70, L, (.int y :: .int x :: S), H, cs, ss)) q := by
  subst hgo
  exact res_of s3_70 h
theorem t3_71 {go : Nat → St → Option ORes} (hgo : go = orun method_7_code (Option.some Jvm.ClassFile.FieldType.boolean) E3 1) {n cs ss : Nat} {L : List Slot} {S : List Value} {H : AH} {q : Option ORes → Prop} {x : Int32} (h : Rsq (go n (72, L, (.int (x.toInt8.toInt32) :: S), H, cs, ss)) q) : Rsq (go (n + 1) (71, L, (.int x :: S), H, cs, ss)) q := by
  subst hgo
  exact res_of s3_71 h
theorem t3_72t {go : Nat → St → Option ORes} (hgo : go = orun method_7_code (Option.some Jvm.ClassFile.FieldType.boolean) E3 1) {n cs ss : Nat} {L : List Slot} {S : List Value} {H : AH} {q : Option ORes → Prop} {x y : Int32} (hc : x = y) (h : Rsq (go n (75, L, S, H, cs, ss)) q) : Rsq (go (n + 1) (72, L, (.int y :: .int x :: S), H, cs, ss)) q := by
  subst hgo
  exact res_of s3_72 (res_t hc h)
theorem t3_72f {go : Nat → St → Option ORes} (hgo : go = orun method_7_code (Option.some Jvm.ClassFile.FieldType.boolean) E3 1) {n cs ss : Nat} {L : List Slot} {S : List Value} {H : AH} {q : Option ORes → Prop} {x y : Int32} (hc : ¬ x = y) (h : Rsq (go n (79, L, S, H, cs, ss)) q) : Rsq (go (n + 1) (72, L, (.int y :: .int x :: S), H, cs, ss)) q := by
  subst hgo
  exact res_of s3_72 (res_f hc h)
theorem t3_75 {go : Nat → St → Option ORes} (hgo : go = orun method_7_code (Option.some Jvm.ClassFile.FieldType.boolean) E3 1) {n cs ss : Nat} {L : List Slot} {S : List Value} {H : AH} {q : Option ORes → Prop} (h : Rsq (go n (76, L, (.int 1 :: S), H, cs, ss)) q) : Rsq (go (n + 1) (75, L, S, H, cs, ss)) q := by
  subst hgo
  exact res_of s3_75 h
theorem t3_76 {go : Nat → St → Option ORes} (hgo : go = orun method_7_code (Option.some Jvm.ClassFile.FieldType.boolean) E3 1) {n cs ss : Nat} {L : List Slot} {S : List Value} {H : AH} {q : Option ORes → Prop} (h : Rsq (go n (80, L, S, H, cs, ss)) q) : Rsq (go (n + 1) (76, L, S, H, cs, ss)) q := by
  subst hgo
  exact res_of s3_76 h
theorem t3_79 {go : Nat → St → Option ORes} (hgo : go = orun method_7_code (Option.some Jvm.ClassFile.FieldType.boolean) E3 1) {n cs ss : Nat} {L : List Slot} {S : List Value} {H : AH} {q : Option ORes → Prop} (h : Rsq (go n (80, L, (.int 0 :: S), H, cs, ss)) q) : Rsq (go (n + 1) (79, L, S, H, cs, ss)) q := by
  subst hgo
  exact res_of s3_79 h
theorem t3_80 {go : Nat → St → Option ORes} (hgo : go = orun method_7_code (Option.some Jvm.ClassFile.FieldType.boolean) E3 1) {n cs ss : Nat} {L : List Slot} {S : List Value} {H : AH} {q : Option ORes → Prop} {z : Int32} (h : q (some (some (.int (z &&& 1)), H))) : Rsq (go (n + 1) (80, L, (.int z :: S), H, cs, ss)) q := by
  subst hgo
  exact res_of s3_80 h
theorem f2_in {x0 : Nat} {x1 : Int32} {x2 : Int32} {H : AH} : F2 [.ref x0, .int x1, .int x2] H = orun method_8_code (Option.some Jvm.ClassFile.FieldType.boolean) E2 1 312 (0, [.val (.ref x0), .val (.int x1), .val (.int x2), .unset], [], H, 0, 0) := rfl
theorem s2_0 {n cs ss : Nat} {L : List Slot} {S : List Value} {H : AH} : orun method_8_code (Option.some Jvm.ClassFile.FieldType.boolean) E2 1 (n + 1) (0, L, S, H, cs, ss) = orun method_8_code (Option.some Jvm.ClassFile.FieldType.boolean) E2 1 n (1, L, (.int 1 :: S), H, cs, ss) := s_any k2_0
theorem s2_1 {n cs ss : Nat} {L : List Slot} {S : List Value} {H : AH} : orun method_8_code (Option.some Jvm.ClassFile.FieldType.boolean) E2 1 (n + 1) (1, L, S, H, cs, ss) = pI S fun x r => (st1 L 3 (.int x)).bind fun L' => orun method_8_code (Option.some Jvm.ClassFile.FieldType.boolean) E2 1 n (2, L', r, H, cs, ss) := s_any k2_1
theorem s2_2 {n cs ss : Nat} {L : List Slot} {S : List Value} {H : AH} : orun method_8_code (Option.some Jvm.ClassFile.FieldType.boolean) E2 1 (n + 1) (2, L, S, H, cs, ss) = (gI L 3).bind fun v => orun method_8_code (Option.some Jvm.ClassFile.FieldType.boolean) E2 1 n (3, L, .int v :: S, H, cs, ss) := s_any k2_2
theorem s2_3 {n cs ss : Nat} {L : List Slot} {S : List Value} {H : AH} : orun method_8_code (Option.some Jvm.ClassFile.FieldType.boolean) E2 1 (n + 1) (3, L, S, H, cs, ss) = pI S fun x r => if x = 0 then orun method_8_code (Option.some Jvm.ClassFile.FieldType.boolean) E2 1 n (20, L, r, H, cs, ss) else orun method_8_code (Option.some Jvm.ClassFile.FieldType.boolean) E2 1 n (6, L, r, H, cs, ss) := s_if (Q := fun x => x = 0) (fun _ => z_eq) k2_3 (by decide) (by decide)
theorem s2_6 {n cs ss : Nat} {L : List Slot} {S : List Value} {H : AH} : orun method_8_code (Option.some Jvm.ClassFile.FieldType.boolean) E2 1 (n + 1) (6, L, S, H, cs, ss) = (gA L 0).bind fun v => orun method_8_code (Option.some Jvm.ClassFile.FieldType.boolean) E2 1 n (7, L, v :: S, H, cs, ss) := s_any k2_6
theorem s2_7 {n cs ss : Nat} {L : List Slot} {S : List Value} {H : AH} : orun method_8_code (Option.some Jvm.ClassFile.FieldType.boolean) E2 1 (n + 1) (7, L, S, H, cs, ss) = (gI L 1).bind fun v => orun method_8_code (Option.some Jvm.ClassFile.FieldType.boolean) E2 1 n (8, L, .int v :: S, H, cs, ss) := s_any k2_7
theorem s2_8 {n cs ss : Nat} {L : List Slot} {S : List Value} {H : AH} : orun method_8_code (Option.some Jvm.ClassFile.FieldType.boolean) E2 1 (n + 1) (8, L, S, H, cs, ss) = (gI L 2).bind fun v => orun method_8_code (Option.some Jvm.ClassFile.FieldType.boolean) E2 1 n (9, L, .int v :: S, H, cs, ss) := s_any k2_8
theorem s2_9 {n cs ss : Nat} {L : List Slot} {S : List Value} {H : AH} : orun method_8_code (Option.some Jvm.ClassFile.FieldType.boolean) E2 1 (n + 1) (9, L, S, H, cs, ss) = orun method_8_code (Option.some Jvm.ClassFile.FieldType.boolean) E2 1 n (10, L, (.int 0 :: S), H, cs, ss) := s_any k2_9
theorem s2_10 {n cs ss : Nat} {L : List Slot} {S : List Value} {H : AH} : orun method_8_code (Option.some Jvm.ClassFile.FieldType.boolean) E2 1 (n + 1) (10, L, S, H, cs, ss) = (aCall 4 6 11 110 1 10 F3 S H cs ss).bind fun r => orun method_8_code (Option.some Jvm.ClassFile.FieldType.boolean) E2 1 n (13, L, r.1, r.2.1, r.2.2.1, r.2.2.2) := s_any k2_10
theorem s2_13 {n cs ss : Nat} {L : List Slot} {S : List Value} {H : AH} : orun method_8_code (Option.some Jvm.ClassFile.FieldType.boolean) E2 1 (n + 1) (13, L, S, H, cs, ss) = pI S fun x r => if x = 0 then orun method_8_code (Option.some Jvm.ClassFile.FieldType.boolean) E2 1 n (20, L, r, H, cs, ss) else orun method_8_code (Option.some Jvm.ClassFile.FieldType.boolean) E2 1 n (16, L, r, H, cs, ss) := s_if (Q := fun x => x = 0) (fun _ => z_eq) k2_13 (by decide) (by decide)
theorem s2_16 {n cs ss : Nat} {L : List Slot} {S : List Value} {H : AH} : orun method_8_code (Option.some Jvm.ClassFile.FieldType.boolean) E2 1 (n + 1) (16, L, S, H, cs, ss) = orun method_8_code (Option.some Jvm.ClassFile.FieldType.boolean) E2 1 n (17, L, (.int 1 :: S), H, cs, ss) := s_any k2_16
theorem s2_17 {n cs ss : Nat} {L : List Slot} {S : List Value} {H : AH} : orun method_8_code (Option.some Jvm.ClassFile.FieldType.boolean) E2 1 (n + 1) (17, L, S, H, cs, ss) = orun method_8_code (Option.some Jvm.ClassFile.FieldType.boolean) E2 1 n (21, L, S, H, cs, ss) := s_goto k2_17 (by decide) (by decide)
theorem s2_20 {n cs ss : Nat} {L : List Slot} {S : List Value} {H : AH} : orun method_8_code (Option.some Jvm.ClassFile.FieldType.boolean) E2 1 (n + 1) (20, L, S, H, cs, ss) = orun method_8_code (Option.some Jvm.ClassFile.FieldType.boolean) E2 1 n (21, L, (.int 0 :: S), H, cs, ss) := s_any k2_20
theorem s2_21 {n cs ss : Nat} {L : List Slot} {S : List Value} {H : AH} : orun method_8_code (Option.some Jvm.ClassFile.FieldType.boolean) E2 1 (n + 1) (21, L, S, H, cs, ss) = pI S fun x r => (st1 L 3 (.int x)).bind fun L' => orun method_8_code (Option.some Jvm.ClassFile.FieldType.boolean) E2 1 n (22, L', r, H, cs, ss) := s_any k2_21
theorem s2_22 {n cs ss : Nat} {L : List Slot} {S : List Value} {H : AH} : orun method_8_code (Option.some Jvm.ClassFile.FieldType.boolean) E2 1 (n + 1) (22, L, S, H, cs, ss) = (gI L 3).bind fun v => orun method_8_code (Option.some Jvm.ClassFile.FieldType.boolean) E2 1 n (23, L, .int v :: S, H, cs, ss) := s_any k2_22
theorem s2_23 {n cs ss : Nat} {L : List Slot} {S : List Value} {H : AH} : orun method_8_code (Option.some Jvm.ClassFile.FieldType.boolean) E2 1 (n + 1) (23, L, S, H, cs, ss) = pI S fun x r => if x = 0 then orun method_8_code (Option.some Jvm.ClassFile.FieldType.boolean) E2 1 n (40, L, r, H, cs, ss) else orun method_8_code (Option.some Jvm.ClassFile.FieldType.boolean) E2 1 n (26, L, r, H, cs, ss) := s_if (Q := fun x => x = 0) (fun _ => z_eq) k2_23 (by decide) (by decide)
theorem s2_26 {n cs ss : Nat} {L : List Slot} {S : List Value} {H : AH} : orun method_8_code (Option.some Jvm.ClassFile.FieldType.boolean) E2 1 (n + 1) (26, L, S, H, cs, ss) = (gA L 0).bind fun v => orun method_8_code (Option.some Jvm.ClassFile.FieldType.boolean) E2 1 n (27, L, v :: S, H, cs, ss) := s_any k2_26
theorem s2_27 {n cs ss : Nat} {L : List Slot} {S : List Value} {H : AH} : orun method_8_code (Option.some Jvm.ClassFile.FieldType.boolean) E2 1 (n + 1) (27, L, S, H, cs, ss) = (gI L 1).bind fun v => orun method_8_code (Option.some Jvm.ClassFile.FieldType.boolean) E2 1 n (28, L, .int v :: S, H, cs, ss) := s_any k2_27
theorem s2_28 {n cs ss : Nat} {L : List Slot} {S : List Value} {H : AH} : orun method_8_code (Option.some Jvm.ClassFile.FieldType.boolean) E2 1 (n + 1) (28, L, S, H, cs, ss) = (gI L 2).bind fun v => orun method_8_code (Option.some Jvm.ClassFile.FieldType.boolean) E2 1 n (29, L, .int v :: S, H, cs, ss) := s_any k2_28
theorem s2_29 {n cs ss : Nat} {L : List Slot} {S : List Value} {H : AH} : orun method_8_code (Option.some Jvm.ClassFile.FieldType.boolean) E2 1 (n + 1) (29, L, S, H, cs, ss) = orun method_8_code (Option.some Jvm.ClassFile.FieldType.boolean) E2 1 n (30, L, (.int 1 :: S), H, cs, ss) := s_any k2_29
theorem s2_30 {n cs ss : Nat} {L : List Slot} {S : List Value} {H : AH} : orun method_8_code (Option.some Jvm.ClassFile.FieldType.boolean) E2 1 (n + 1) (30, L, S, H, cs, ss) = (aCall 4 6 11 110 1 10 F3 S H cs ss).bind fun r => orun method_8_code (Option.some Jvm.ClassFile.FieldType.boolean) E2 1 n (33, L, r.1, r.2.1, r.2.2.1, r.2.2.2) := s_any k2_30
theorem s2_33 {n cs ss : Nat} {L : List Slot} {S : List Value} {H : AH} : orun method_8_code (Option.some Jvm.ClassFile.FieldType.boolean) E2 1 (n + 1) (33, L, S, H, cs, ss) = pI S fun x r => if x = 0 then orun method_8_code (Option.some Jvm.ClassFile.FieldType.boolean) E2 1 n (40, L, r, H, cs, ss) else orun method_8_code (Option.some Jvm.ClassFile.FieldType.boolean) E2 1 n (36, L, r, H, cs, ss) := s_if (Q := fun x => x = 0) (fun _ => z_eq) k2_33 (by decide) (by decide)
theorem s2_36 {n cs ss : Nat} {L : List Slot} {S : List Value} {H : AH} : orun method_8_code (Option.some Jvm.ClassFile.FieldType.boolean) E2 1 (n + 1) (36, L, S, H, cs, ss) = orun method_8_code (Option.some Jvm.ClassFile.FieldType.boolean) E2 1 n (37, L, (.int 1 :: S), H, cs, ss) := s_any k2_36
theorem s2_37 {n cs ss : Nat} {L : List Slot} {S : List Value} {H : AH} : orun method_8_code (Option.some Jvm.ClassFile.FieldType.boolean) E2 1 (n + 1) (37, L, S, H, cs, ss) = orun method_8_code (Option.some Jvm.ClassFile.FieldType.boolean) E2 1 n (41, L, S, H, cs, ss) := s_goto k2_37 (by decide) (by decide)
theorem s2_40 {n cs ss : Nat} {L : List Slot} {S : List Value} {H : AH} : orun method_8_code (Option.some Jvm.ClassFile.FieldType.boolean) E2 1 (n + 1) (40, L, S, H, cs, ss) = orun method_8_code (Option.some Jvm.ClassFile.FieldType.boolean) E2 1 n (41, L, (.int 0 :: S), H, cs, ss) := s_any k2_40
theorem s2_41 {n cs ss : Nat} {L : List Slot} {S : List Value} {H : AH} : orun method_8_code (Option.some Jvm.ClassFile.FieldType.boolean) E2 1 (n + 1) (41, L, S, H, cs, ss) = pI S fun x r => (st1 L 3 (.int x)).bind fun L' => orun method_8_code (Option.some Jvm.ClassFile.FieldType.boolean) E2 1 n (42, L', r, H, cs, ss) := s_any k2_41
theorem s2_42 {n cs ss : Nat} {L : List Slot} {S : List Value} {H : AH} : orun method_8_code (Option.some Jvm.ClassFile.FieldType.boolean) E2 1 (n + 1) (42, L, S, H, cs, ss) = (gI L 3).bind fun v => orun method_8_code (Option.some Jvm.ClassFile.FieldType.boolean) E2 1 n (43, L, .int v :: S, H, cs, ss) := s_any k2_42
theorem s2_43 {n cs ss : Nat} {L : List Slot} {S : List Value} {H : AH} : orun method_8_code (Option.some Jvm.ClassFile.FieldType.boolean) E2 1 (n + 1) (43, L, S, H, cs, ss) = pI S fun x r => if x = 0 then orun method_8_code (Option.some Jvm.ClassFile.FieldType.boolean) E2 1 n (60, L, r, H, cs, ss) else orun method_8_code (Option.some Jvm.ClassFile.FieldType.boolean) E2 1 n (46, L, r, H, cs, ss) := s_if (Q := fun x => x = 0) (fun _ => z_eq) k2_43 (by decide) (by decide)
theorem s2_46 {n cs ss : Nat} {L : List Slot} {S : List Value} {H : AH} : orun method_8_code (Option.some Jvm.ClassFile.FieldType.boolean) E2 1 (n + 1) (46, L, S, H, cs, ss) = (gA L 0).bind fun v => orun method_8_code (Option.some Jvm.ClassFile.FieldType.boolean) E2 1 n (47, L, v :: S, H, cs, ss) := s_any k2_46
theorem s2_47 {n cs ss : Nat} {L : List Slot} {S : List Value} {H : AH} : orun method_8_code (Option.some Jvm.ClassFile.FieldType.boolean) E2 1 (n + 1) (47, L, S, H, cs, ss) = (gI L 1).bind fun v => orun method_8_code (Option.some Jvm.ClassFile.FieldType.boolean) E2 1 n (48, L, .int v :: S, H, cs, ss) := s_any k2_47
theorem s2_48 {n cs ss : Nat} {L : List Slot} {S : List Value} {H : AH} : orun method_8_code (Option.some Jvm.ClassFile.FieldType.boolean) E2 1 (n + 1) (48, L, S, H, cs, ss) = (gI L 2).bind fun v => orun method_8_code (Option.some Jvm.ClassFile.FieldType.boolean) E2 1 n (49, L, .int v :: S, H, cs, ss) := s_any k2_48
theorem s2_49 {n cs ss : Nat} {L : List Slot} {S : List Value} {H : AH} : orun method_8_code (Option.some Jvm.ClassFile.FieldType.boolean) E2 1 (n + 1) (49, L, S, H, cs, ss) = orun method_8_code (Option.some Jvm.ClassFile.FieldType.boolean) E2 1 n (50, L, (.int 2 :: S), H, cs, ss) := s_any k2_49
theorem s2_50 {n cs ss : Nat} {L : List Slot} {S : List Value} {H : AH} : orun method_8_code (Option.some Jvm.ClassFile.FieldType.boolean) E2 1 (n + 1) (50, L, S, H, cs, ss) = (aCall 4 6 11 110 1 10 F3 S H cs ss).bind fun r => orun method_8_code (Option.some Jvm.ClassFile.FieldType.boolean) E2 1 n (53, L, r.1, r.2.1, r.2.2.1, r.2.2.2) := s_any k2_50
theorem s2_53 {n cs ss : Nat} {L : List Slot} {S : List Value} {H : AH} : orun method_8_code (Option.some Jvm.ClassFile.FieldType.boolean) E2 1 (n + 1) (53, L, S, H, cs, ss) = pI S fun x r => if x = 0 then orun method_8_code (Option.some Jvm.ClassFile.FieldType.boolean) E2 1 n (60, L, r, H, cs, ss) else orun method_8_code (Option.some Jvm.ClassFile.FieldType.boolean) E2 1 n (56, L, r, H, cs, ss) := s_if (Q := fun x => x = 0) (fun _ => z_eq) k2_53 (by decide) (by decide)
theorem s2_56 {n cs ss : Nat} {L : List Slot} {S : List Value} {H : AH} : orun method_8_code (Option.some Jvm.ClassFile.FieldType.boolean) E2 1 (n + 1) (56, L, S, H, cs, ss) = orun method_8_code (Option.some Jvm.ClassFile.FieldType.boolean) E2 1 n (57, L, (.int 1 :: S), H, cs, ss) := s_any k2_56
theorem s2_57 {n cs ss : Nat} {L : List Slot} {S : List Value} {H : AH} : orun method_8_code (Option.some Jvm.ClassFile.FieldType.boolean) E2 1 (n + 1) (57, L, S, H, cs, ss) = orun method_8_code (Option.some Jvm.ClassFile.FieldType.boolean) E2 1 n (61, L, S, H, cs, ss) := s_goto k2_57 (by decide) (by decide)
theorem s2_60 {n cs ss : Nat} {L : List Slot} {S : List Value} {H : AH} : orun method_8_code (Option.some Jvm.ClassFile.FieldType.boolean) E2 1 (n + 1) (60, L, S, H, cs, ss) = orun method_8_code (Option.some Jvm.ClassFile.FieldType.boolean) E2 1 n (61, L, (.int 0 :: S), H, cs, ss) := s_any k2_60
theorem s2_61 {n cs ss : Nat} {L : List Slot} {S : List Value} {H : AH} : orun method_8_code (Option.some Jvm.ClassFile.FieldType.boolean) E2 1 (n + 1) (61, L, S, H, cs, ss) = pI S fun x r => (st1 L 3 (.int x)).bind fun L' => orun method_8_code (Option.some Jvm.ClassFile.FieldType.boolean) E2 1 n (62, L', r, H, cs, ss) := s_any k2_61
theorem s2_62 {n cs ss : Nat} {L : List Slot} {S : List Value} {H : AH} : orun method_8_code (Option.some Jvm.ClassFile.FieldType.boolean) E2 1 (n + 1) (62, L, S, H, cs, ss) = (gI L 3).bind fun v => orun method_8_code (Option.some Jvm.ClassFile.FieldType.boolean) E2 1 n (63, L, .int v :: S, H, cs, ss) := s_any k2_62
theorem s2_63 {n cs ss : Nat} {L : List Slot} {S : List Value} {H : AH} : orun method_8_code (Option.some Jvm.ClassFile.FieldType.boolean) E2 1 (n + 1) (63, L, S, H, cs, ss) = pI S fun x r => if x = 0 then orun method_8_code (Option.some Jvm.ClassFile.FieldType.boolean) E2 1 n (80, L, r, H, cs, ss) else orun method_8_code (Option.some Jvm.ClassFile.FieldType.boolean) E2 1 n (66, L, r, H, cs, ss) := s_if (Q := fun x => x = 0) (fun _ => z_eq) k2_63 (by decide) (by decide)
theorem s2_66 {n cs ss : Nat} {L : List Slot} {S : List Value} {H : AH} : orun method_8_code (Option.some Jvm.ClassFile.FieldType.boolean) E2 1 (n + 1) (66, L, S, H, cs, ss) = (gA L 0).bind fun v => orun method_8_code (Option.some Jvm.ClassFile.FieldType.boolean) E2 1 n (67, L, v :: S, H, cs, ss) := s_any k2_66
theorem s2_67 {n cs ss : Nat} {L : List Slot} {S : List Value} {H : AH} : orun method_8_code (Option.some Jvm.ClassFile.FieldType.boolean) E2 1 (n + 1) (67, L, S, H, cs, ss) = (gI L 1).bind fun v => orun method_8_code (Option.some Jvm.ClassFile.FieldType.boolean) E2 1 n (68, L, .int v :: S, H, cs, ss) := s_any k2_67
theorem s2_68 {n cs ss : Nat} {L : List Slot} {S : List Value} {H : AH} : orun method_8_code (Option.some Jvm.ClassFile.FieldType.boolean) E2 1 (n + 1) (68, L, S, H, cs, ss) = (gI L 2).bind fun v => orun method_8_code (Option.some Jvm.ClassFile.FieldType.boolean) E2 1 n (69, L, .int v :: S, H, cs, ss) := s_any k2_68
theorem s2_69 {n cs ss : Nat} {L : List Slot} {S : List Value} {H : AH} : orun method_8_code (Option.some Jvm.ClassFile.FieldType.boolean) E2 1 (n + 1) (69, L, S, H, cs, ss) = orun method_8_code (Option.some Jvm.ClassFile.FieldType.boolean) E2 1 n (70, L, (.int 3 :: S), H, cs, ss) := s_any k2_69
theorem s2_70 {n cs ss : Nat} {L : List Slot} {S : List Value} {H : AH} : orun method_8_code (Option.some Jvm.ClassFile.FieldType.boolean) E2 1 (n + 1) (70, L, S, H, cs, ss) = (aCall 4 6 11 110 1 10 F3 S H cs ss).bind fun r => orun method_8_code (Option.some Jvm.ClassFile.FieldType.boolean) E2 1 n (73, L, r.1, r.2.1, r.2.2.1, r.2.2.2) := s_any k2_70
theorem s2_73 {n cs ss : Nat} {L : List Slot} {S : List Value} {H : AH} : orun method_8_code (Option.some Jvm.ClassFile.FieldType.boolean) E2 1 (n + 1) (73, L, S, H, cs, ss) = pI S fun x r => if x = 0 then orun method_8_code (Option.some Jvm.ClassFile.FieldType.boolean) E2 1 n (80, L, r, H, cs, ss) else orun method_8_code (Option.some Jvm.ClassFile.FieldType.boolean) E2 1 n (76, L, r, H, cs, ss) := s_if (Q := fun x => x = 0) (fun _ => z_eq) k2_73 (by decide) (by decide)
theorem s2_76 {n cs ss : Nat} {L : List Slot} {S : List Value} {H : AH} : orun method_8_code (Option.some Jvm.ClassFile.FieldType.boolean) E2 1 (n + 1) (76, L, S, H, cs, ss) = orun method_8_code (Option.some Jvm.ClassFile.FieldType.boolean) E2 1 n (77, L, (.int 1 :: S), H, cs, ss) := s_any k2_76
theorem s2_77 {n cs ss : Nat} {L : List Slot} {S : List Value} {H : AH} : orun method_8_code (Option.some Jvm.ClassFile.FieldType.boolean) E2 1 (n + 1) (77, L, S, H, cs, ss) = orun method_8_code (Option.some Jvm.ClassFile.FieldType.boolean) E2 1 n (81, L, S, H, cs, ss) := s_goto k2_77 (by decide) (by decide)
theorem s2_80 {n cs ss : Nat} {L : List Slot} {S : List Value} {H : AH} : orun method_8_code (Option.some Jvm.ClassFile.FieldType.boolean) E2 1 (n + 1) (80, L, S, H, cs, ss) = orun method_8_code (Option.some Jvm.ClassFile.FieldType.boolean) E2 1 n (81, L, (.int 0 :: S), H, cs, ss) := s_any k2_80
theorem s2_81 {n cs ss : Nat} {L : List Slot} {S : List Value} {H : AH} : orun method_8_code (Option.some Jvm.ClassFile.FieldType.boolean) E2 1 (n + 1) (81, L, S, H, cs, ss) = pI S fun x r => (st1 L 3 (.int x)).bind fun L' => orun method_8_code (Option.some Jvm.ClassFile.FieldType.boolean) E2 1 n (82, L', r, H, cs, ss) := s_any k2_81
theorem s2_82 {n cs ss : Nat} {L : List Slot} {S : List Value} {H : AH} : orun method_8_code (Option.some Jvm.ClassFile.FieldType.boolean) E2 1 (n + 1) (82, L, S, H, cs, ss) = (gI L 3).bind fun v => orun method_8_code (Option.some Jvm.ClassFile.FieldType.boolean) E2 1 n (83, L, .int v :: S, H, cs, ss) := s_any k2_82
theorem s2_83 {n cs ss : Nat} {L : List Slot} {S : List Value} {H : AH} : orun method_8_code (Option.some Jvm.ClassFile.FieldType.boolean) E2 1 (n + 1) (83, L, S, H, cs, ss) = pI S fun x r => if x = 0 then orun method_8_code (Option.some Jvm.ClassFile.FieldType.boolean) E2 1 n (100, L, r, H, cs, ss) else orun method_8_code (Option.some Jvm.ClassFile.FieldType.boolean) E2 1 n (86, L, r, H, cs, ss) := s_if (Q := fun x => x = 0) (fun _ => z_eq) k2_83 (by decide) (by decide)
theorem s2_86 {n cs ss : Nat} {L : List Slot} {S : List Value} {H : AH} : orun method_8_code (Option.some Jvm.ClassFile.FieldType.boolean) E2 1 (n + 1) (86, L, S, H, cs, ss) = (gA L 0).bind fun v => orun method_8_code (Option.some Jvm.ClassFile.FieldType.boolean) E2 1 n (87, L, v :: S, H, cs, ss) := s_any k2_86
theorem s2_87 {n cs ss : Nat} {L : List Slot} {S : List Value} {H : AH} : orun method_8_code (Option.some Jvm.ClassFile.FieldType.boolean) E2 1 (n + 1) (87, L, S, H, cs, ss) = (gI L 1).bind fun v => orun method_8_code (Option.some Jvm.ClassFile.FieldType.boolean) E2 1 n (88, L, .int v :: S, H, cs, ss) := s_any k2_87
theorem s2_88 {n cs ss : Nat} {L : List Slot} {S : List Value} {H : AH} : orun method_8_code (Option.some Jvm.ClassFile.FieldType.boolean) E2 1 (n + 1) (88, L, S, H, cs, ss) = (gI L 2).bind fun v => orun method_8_code (Option.some Jvm.ClassFile.FieldType.boolean) E2 1 n (89, L, .int v :: S, H, cs, ss) := s_any k2_88
theorem s2_89 {n cs ss : Nat} {L : List Slot} {S : List Value} {H : AH} : orun method_8_code (Option.some Jvm.ClassFile.FieldType.boolean) E2 1 (n + 1) (89, L, S, H, cs, ss) = orun method_8_code (Option.some Jvm.ClassFile.FieldType.boolean) E2 1 n (90, L, (.int 4 :: S), H, cs, ss) := s_any k2_89
theorem s2_90 {n cs ss : Nat} {L : List Slot} {S : List Value} {H : AH} : orun method_8_code (Option.some Jvm.ClassFile.FieldType.boolean) E2 1 (n + 1) (90, L, S, H, cs, ss) = (aCall 4 6 11 110 1 10 F3 S H cs ss).bind fun r => orun method_8_code (Option.some Jvm.ClassFile.FieldType.boolean) E2 1 n (93, L, r.1, r.2.1, r.2.2.1, r.2.2.2) := s_any k2_90
theorem s2_93 {n cs ss : Nat} {L : List Slot} {S : List Value} {H : AH} : orun method_8_code (Option.some Jvm.ClassFile.FieldType.boolean) E2 1 (n + 1) (93, L, S, H, cs, ss) = pI S fun x r => if x = 0 then orun method_8_code (Option.some Jvm.ClassFile.FieldType.boolean) E2 1 n (100, L, r, H, cs, ss) else orun method_8_code (Option.some Jvm.ClassFile.FieldType.boolean) E2 1 n (96, L, r, H, cs, ss) := s_if (Q := fun x => x = 0) (fun _ => z_eq) k2_93 (by decide) (by decide)
theorem s2_96 {n cs ss : Nat} {L : List Slot} {S : List Value} {H : AH} : orun method_8_code (Option.some Jvm.ClassFile.FieldType.boolean) E2 1 (n + 1) (96, L, S, H, cs, ss) = orun method_8_code (Option.some Jvm.ClassFile.FieldType.boolean) E2 1 n (97, L, (.int 1 :: S), H, cs, ss) := s_any k2_96
theorem s2_97 {n cs ss : Nat} {L : List Slot} {S : List Value} {H : AH} : orun method_8_code (Option.some Jvm.ClassFile.FieldType.boolean) E2 1 (n + 1) (97, L, S, H, cs, ss) = orun method_8_code (Option.some Jvm.ClassFile.FieldType.boolean) E2 1 n (101, L, S, H, cs, ss) := s_goto k2_97 (by decide) (by decide)
theorem s2_100 {n cs ss : Nat} {L : List Slot} {S : List Value} {H : AH} : orun method_8_code (Option.some Jvm.ClassFile.FieldType.boolean) E2 1 (n + 1) (100, L, S, H, cs, ss) = orun method_8_code (Option.some Jvm.ClassFile.FieldType.boolean) E2 1 n (101, L, (.int 0 :: S), H, cs, ss) := s_any k2_100
theorem s2_101 {n cs ss : Nat} {L : List Slot} {S : List Value} {H : AH} : orun method_8_code (Option.some Jvm.ClassFile.FieldType.boolean) E2 1 (n + 1) (101, L, S, H, cs, ss) = pI S fun x r => (st1 L 3 (.int x)).bind fun L' => orun method_8_code (Option.some Jvm.ClassFile.FieldType.boolean) E2 1 n (102, L', r, H, cs, ss) := s_any k2_101
theorem s2_102 {n cs ss : Nat} {L : List Slot} {S : List Value} {H : AH} : orun method_8_code (Option.some Jvm.ClassFile.FieldType.boolean) E2 1 (n + 1) (102, L, S, H, cs, ss) = (gI L 3).bind fun v => orun method_8_code (Option.some Jvm.ClassFile.FieldType.boolean) E2 1 n (103, L, .int v :: S, H, cs, ss) := s_any k2_102
theorem s2_103 {n cs ss : Nat} {L : List Slot} {S : List Value} {H : AH} : orun method_8_code (Option.some Jvm.ClassFile.FieldType.boolean) E2 1 (n + 1) (103, L, S, H, cs, ss) = pI S fun x r => if x = 0 then orun method_8_code (Option.some Jvm.ClassFile.FieldType.boolean) E2 1 n (120, L, r, H, cs, ss) else orun method_8_code (Option.some Jvm.ClassFile.FieldType.boolean) E2 1 n (106, L, r, H, cs, ss) := s_if (Q := fun x => x = 0) (fun _ => z_eq) k2_103 (by decide) (by decide)
theorem s2_106 {n cs ss : Nat} {L : List Slot} {S : List Value} {H : AH} : orun method_8_code (Option.some Jvm.ClassFile.FieldType.boolean) E2 1 (n + 1) (106, L, S, H, cs, ss) = (gA L 0).bind fun v => orun method_8_code (Option.some Jvm.ClassFile.FieldType.boolean) E2 1 n (107, L, v :: S, H, cs, ss) := s_any k2_106
theorem s2_107 {n cs ss : Nat} {L : List Slot} {S : List Value} {H : AH} : orun method_8_code (Option.some Jvm.ClassFile.FieldType.boolean) E2 1 (n + 1) (107, L, S, H, cs, ss) = (gI L 1).bind fun v => orun method_8_code (Option.some Jvm.ClassFile.FieldType.boolean) E2 1 n (108, L, .int v :: S, H, cs, ss) := s_any k2_107
theorem s2_108 {n cs ss : Nat} {L : List Slot} {S : List Value} {H : AH} : orun method_8_code (Option.some Jvm.ClassFile.FieldType.boolean) E2 1 (n + 1) (108, L, S, H, cs, ss) = (gI L 2).bind fun v => orun method_8_code (Option.some Jvm.ClassFile.FieldType.boolean) E2 1 n (109, L, .int v :: S, H, cs, ss) := s_any k2_108
theorem s2_109 {n cs ss : Nat} {L : List Slot} {S : List Value} {H : AH} : orun method_8_code (Option.some Jvm.ClassFile.FieldType.boolean) E2 1 (n + 1) (109, L, S, H, cs, ss) = orun method_8_code (Option.some Jvm.ClassFile.FieldType.boolean) E2 1 n (110, L, (.int 5 :: S), H, cs, ss) := s_any k2_109
theorem s2_110 {n cs ss : Nat} {L : List Slot} {S : List Value} {H : AH} : orun method_8_code (Option.some Jvm.ClassFile.FieldType.boolean) E2 1 (n + 1) (110, L, S, H, cs, ss) = (aCall 4 6 11 110 1 10 F3 S H cs ss).bind fun r => orun method_8_code (Option.some Jvm.ClassFile.FieldType.boolean) E2 1 n (113, L, r.1, r.2.1, r.2.2.1, r.2.2.2) := s_any k2_110
theorem s2_113 {n cs ss : Nat} {L : List Slot} {S : List Value} {H : AH} : orun method_8_code (Option.some Jvm.ClassFile.FieldType.boolean) E2 1 (n + 1) (113, L, S, H, cs, ss) = pI S fun x r => if x = 0 then orun method_8_code (Option.some Jvm.ClassFile.FieldType.boolean) E2 1 n (120, L, r, H, cs, ss) else orun method_8_code (Option.some Jvm.ClassFile.FieldType.boolean) E2 1 n (116, L, r, H, cs, ss) := s_if (Q := fun x => x = 0) (fun _ => z_eq) k2_113 (by decide) (by decide)
theorem s2_116 {n cs ss : Nat} {L : List Slot} {S : List Value} {H : AH} : orun method_8_code (Option.some Jvm.ClassFile.FieldType.boolean) E2 1 (n + 1) (116, L, S, H, cs, ss) = orun method_8_code (Option.some Jvm.ClassFile.FieldType.boolean) E2 1 n (117, L, (.int 1 :: S), H, cs, ss) := s_any k2_116
theorem s2_117 {n cs ss : Nat} {L : List Slot} {S : List Value} {H : AH} : orun method_8_code (Option.some Jvm.ClassFile.FieldType.boolean) E2 1 (n + 1) (117, L, S, H, cs, ss) = orun method_8_code (Option.some Jvm.ClassFile.FieldType.boolean) E2 1 n (121, L, S, H, cs, ss) := s_goto k2_117 (by decide) (by decide)
theorem s2_120 {n cs ss : Nat} {L : List Slot} {S : List Value} {H : AH} : orun method_8_code (Option.some Jvm.ClassFile.FieldType.boolean) E2 1 (n + 1) (120, L, S, H, cs, ss) = orun method_8_code (Option.some Jvm.ClassFile.FieldType.boolean) E2 1 n (121, L, (.int 0 :: S), H, cs, ss) := s_any k2_120
theorem s2_121 {n cs ss : Nat} {L : List Slot} {S : List Value} {H : AH} : orun method_8_code (Option.some Jvm.ClassFile.FieldType.boolean) E2 1 (n + 1) (121, L, S, H, cs, ss) = pI S fun x r => (st1 L 3 (.int x)).bind fun L' => orun method_8_code (Option.some Jvm.ClassFile.FieldType.boolean) E2 1 n (122, L', r, H, cs, ss) := s_any k2_121
theorem s2_122 {n cs ss : Nat} {L : List Slot} {S : List Value} {H : AH} : orun method_8_code (Option.some Jvm.ClassFile.FieldType.boolean) E2 1 (n + 1) (122, L, S, H, cs, ss) = (gI L 3).bind fun v => orun method_8_code (Option.some Jvm.ClassFile.FieldType.boolean) E2 1 n (123, L, .int v :: S, H, cs, ss) := s_any k2_122
theorem s2_123 {n cs ss : Nat} {L : List Slot} {S : List Value} {H : AH} : orun method_8_code (Option.some Jvm.ClassFile.FieldType.boolean) E2 1 (n + 1) (123, L, S, H, cs, ss) = pI S fun x r => if x = 0 then orun method_8_code (Option.some Jvm.ClassFile.FieldType.boolean) E2 1 n (141, L, r, H, cs, ss) else orun method_8_code (Option.some Jvm.ClassFile.FieldType.boolean) E2 1 n (126, L, r, H, cs, ss) := s_if (Q := fun x => x = 0) (fun _ => z_eq) k2_123 (by decide) (by decide)
theorem s2_126 {n cs ss : Nat} {L : List Slot} {S : List Value} {H : AH} : orun method_8_code (Option.some Jvm.ClassFile.FieldType.boolean) E2 1 (n + 1) (126, L, S, H, cs, ss) = (gA L 0).bind fun v => orun method_8_code (Option.some Jvm.ClassFile.FieldType.boolean) E2 1 n (127, L, v :: S, H, cs, ss) := s_any k2_126
theorem s2_127 {n cs ss : Nat} {L : List Slot} {S : List Value} {H : AH} : orun method_8_code (Option.some Jvm.ClassFile.FieldType.boolean) E2 1 (n + 1) (127, L, S, H, cs, ss) = (gI L 1).bind fun v => orun method_8_code (Option.some Jvm.ClassFile.FieldType.boolean) E2 1 n (128, L, .int v :: S, H, cs, ss) := s_any k2_127
theorem s2_128 {n cs ss : Nat} {L : List Slot} {S : List Value} {H : AH} : orun method_8_code (Option.some Jvm.ClassFile.FieldType.boolean) E2 1 (n + 1) (128, L, S, H, cs, ss) = (gI L 2).bind fun v => orun method_8_code (Option.some Jvm.ClassFile.FieldType.boolean) E2 1 n (129, L, .int v :: S, H, cs, ss) := s_any k2_128
theorem s2_129 {n cs ss : Nat} {L : List Slot} {S : List Value} {H : AH} : orun method_8_code (Option.some Jvm.ClassFile.FieldType.boolean) E2 1 (n + 1) (129, L, S, H, cs, ss) = orun method_8_code (Option.some Jvm.ClassFile.FieldType.boolean) E2 1 n (131, L, (.int 6 :: S), H, cs, ss) := s_any k2_129
theorem s2_131 {n cs ss : Nat} {L : List Slot} {S : List Value} {H : AH} : orun method_8_code (Option.some Jvm.ClassFile.FieldType.boolean) E2 1 (n + 1) (131, L, S, H, cs, ss) = (aCall 4 6 11 110 1 10 F3 S H cs ss).bind fun r => orun method_8_code (Option.some Jvm.ClassFile.FieldType.boolean) E2 1 n (134, L, r.1, r.2.1, r.2.2.1, r.2.2.2) := s_any k2_131
theorem s2_134 {n cs ss : Nat} {L : List Slot} {S : List Value} {H : AH} : orun method_8_code (Option.some Jvm.ClassFile.FieldType.boolean) E2 1 (n + 1) (134, L, S, H, cs, ss) = pI S fun x r => if x = 0 then orun method_8_code (Option.some Jvm.ClassFile.FieldType.boolean) E2 1 n (141, L, r, H, cs, ss) else orun method_8_code (Option.some Jvm.ClassFile.FieldType.boolean) E2 1 n (137, L, r, H, cs, ss) := s_if (Q := fun x => x = 0) (fun _ => z_eq) k2_134 (by decide) (by decide)
theorem s2_137 {n cs ss : Nat} {L : List Slot} {S : List Value} {H : AH} : orun method_8_code (Option.some Jvm.ClassFile.FieldType.boolean) E2 1 (n + 1) (137, L, S, H, cs, ss) = orun method_8_code (Option.some Jvm.ClassFile.FieldType.boolean) E2 1 n (138, L, (.int 1 :: S), H, cs, ss) := s_any k2_137
theorem s2_138 {n cs ss : Nat} {L : List Slot} {S : List Value} {H : AH} : orun method_8_code (Option.some Jvm.ClassFile.FieldType.boolean) E2 1 (n + 1) (138, L, S, H, cs, ss) = orun method_8_code (Option.some Jvm.ClassFile.FieldType.boolean) E2 1 n (142, L, S, H, cs, ss) := s_goto k2_138 (by decide) (by decide)
theorem s2_141 {n cs ss : Nat} {L : List Slot} {S : List Value} {H : AH} : orun method_8_code (Option.some Jvm.ClassFile.FieldType.boolean) E2 1 (n + 1) (141, L, S, H, cs, ss) = orun method_8_code (Option.some Jvm.ClassFile.FieldType.boolean) E2 1 n (142, L, (.int 0 :: S), H, cs, ss) := s_any k2_141
theorem s2_142 {n cs ss : Nat} {L : List Slot} {S : List Value} {H : AH} : orun method_8_code (Option.some Jvm.ClassFile.FieldType.boolean) E2 1 (n + 1) (142, L, S, H, cs, ss) = pI S fun x r => (st1 L 3 (.int x)).bind fun L' => orun method_8_code (Option.some Jvm.ClassFile.FieldType.boolean) E2 1 n (143, L', r, H, cs, ss) := s_any k2_142
theorem s2_143 {n cs ss : Nat} {L : List Slot} {S : List Value} {H : AH} : orun method_8_code (Option.some Jvm.ClassFile.FieldType.boolean) E2 1 (n + 1) (143, L, S, H, cs, ss) = (gI L 3).bind fun v => orun method_8_code (Option.some Jvm.ClassFile.FieldType.boolean) E2 1 n (144, L, .int v :: S, H, cs, ss) := s_any k2_143
theorem s2_144 {n cs ss : Nat} {L : List Slot} {S : List Value} {H : AH} : orun method_8_code (Option.some Jvm.ClassFile.FieldType.boolean) E2 1 (n + 1) (144, L, S, H, cs, ss) = pI S fun x r => if x = 0 then orun method_8_code (Option.some Jvm.ClassFile.FieldType.boolean) E2 1 n (162, L, r, H, cs, ss) else orun method_8_code (Option.some Jvm.ClassFile.FieldType.boolean) E2 1 n (147, L, r, H, cs, ss) := s_if (Q := fun x => x = 0) (fun _ => z_eq) k2_144 (by decide) (by decide)
theorem s2_147 {n cs ss : Nat} {L : List Slot} {S : List Value} {H : AH} : orun method_8_code (Option.some Jvm.ClassFile.FieldType.boolean) E2 1 (n + 1) (147, L, S, H, cs, ss) = (gA L 0).bind fun v => orun method_8_code (Option.some Jvm.ClassFile.FieldType.boolean) E2 1 n (148, L, v :: S, H, cs, ss) := s_any k2_147
theorem s2_148 {n cs ss : Nat} {L : List Slot} {S : List Value} {H : AH} : orun method_8_code (Option.some Jvm.ClassFile.FieldType.boolean) E2 1 (n + 1) (148, L, S, H, cs, ss) = (gI L 1).bind fun v => orun method_8_code (Option.some Jvm.ClassFile.FieldType.boolean) E2 1 n (149, L, .int v :: S, H, cs, ss) := s_any k2_148
theorem s2_149 {n cs ss : Nat} {L : List Slot} {S : List Value} {H : AH} : orun method_8_code (Option.some Jvm.ClassFile.FieldType.boolean) E2 1 (n + 1) (149, L, S, H, cs, ss) = (gI L 2).bind fun v => orun method_8_code (Option.some Jvm.ClassFile.FieldType.boolean) E2 1 n (150, L, .int v :: S, H, cs, ss) := s_any k2_149
theorem s2_150 {n cs ss : Nat} {L : List Slot} {S : List Value} {H : AH} : orun method_8_code (Option.some Jvm.ClassFile.FieldType.boolean) E2 1 (n + 1) (150, L, S, H, cs, ss) = orun method_8_code (Option.some Jvm.ClassFile.FieldType.boolean) E2 1 n (152, L, (.int 7 :: S), H, cs, ss) := s_any k2_150
theorem s2_152 {n cs ss : Nat} {L : List Slot} {S : List Value} {H : AH} : orun method_8_code (Option.some Jvm.ClassFile.FieldType.boolean) E2 1 (n + 1) (152, L, S, H, cs, ss) = (aCall 4 6 11 110 1 10 F3 S H cs ss).bind fun r => orun method_8_code (Option.some Jvm.ClassFile.FieldType.boolean) E2 1 n (155, L, r.1, r.2.1, r.2.2.1, r.2.2.2) := s_any k2_152
theorem s2_155 {n cs ss : Nat} {L : List Slot} {S : List Value} {H : AH} : orun method_8_code (Option.some Jvm.ClassFile.FieldType.boolean) E2 1 (n + 1) (155, L, S, H, cs, ss) = pI S fun x r => if x = 0 then orun method_8_code (Option.some Jvm.ClassFile.FieldType.boolean) E2 1 n (162, L, r, H, cs, ss) else orun method_8_code (Option.some Jvm.ClassFile.FieldType.boolean) E2 1 n (158, L, r, H, cs, ss) := s_if (Q := fun x => x = 0) (fun _ => z_eq) k2_155 (by decide) (by decide)
theorem s2_158 {n cs ss : Nat} {L : List Slot} {S : List Value} {H : AH} : orun method_8_code (Option.some Jvm.ClassFile.FieldType.boolean) E2 1 (n + 1) (158, L, S, H, cs, ss) = orun method_8_code (Option.some Jvm.ClassFile.FieldType.boolean) E2 1 n (159, L, (.int 1 :: S), H, cs, ss) := s_any k2_158
theorem s2_159 {n cs ss : Nat} {L : List Slot} {S : List Value} {H : AH} : orun method_8_code (Option.some Jvm.ClassFile.FieldType.boolean) E2 1 (n + 1) (159, L, S, H, cs, ss) = orun method_8_code (Option.some Jvm.ClassFile.FieldType.boolean) E2 1 n (163, L, S, H, cs, ss) := s_goto k2_159 (by decide) (by decide)
theorem s2_162 {n cs ss : Nat} {L : List Slot} {S : List Value} {H : AH} : orun method_8_code (Option.some Jvm.ClassFile.FieldType.boolean) E2 1 (n + 1) (162, L, S, H, cs, ss) = orun method_8_code (Option.some Jvm.ClassFile.FieldType.boolean) E2 1 n (163, L, (.int 0 :: S), H, cs, ss) := s_any k2_162
theorem s2_163 {n cs ss : Nat} {L : List Slot} {S : List Value} {H : AH} : orun method_8_code (Option.some Jvm.ClassFile.FieldType.boolean) E2 1 (n + 1) (163, L, S, H, cs, ss) = pI S fun x r => (st1 L 3 (.int x)).bind fun L' => orun method_8_code (Option.some Jvm.ClassFile.FieldType.boolean) E2 1 n (164, L', r, H, cs, ss) := s_any k2_163
theorem s2_164 {n cs ss : Nat} {L : List Slot} {S : List Value} {H : AH} : orun method_8_code (Option.some Jvm.ClassFile.FieldType.boolean) E2 1 (n + 1) (164, L, S, H, cs, ss) = (gI L 3).bind fun v => orun method_8_code (Option.some Jvm.ClassFile.FieldType.boolean) E2 1 n (165, L, .int v :: S, H, cs, ss) := s_any k2_164
theorem s2_165 {n cs ss : Nat} {L : List Slot} {S : List Value} {H : AH} : orun method_8_code (Option.some Jvm.ClassFile.FieldType.boolean) E2 1 (n + 1) (165, L, S, H, cs, ss) = pI S fun x r => if x = 0 then orun method_8_code (Option.some Jvm.ClassFile.FieldType.boolean) E2 1 n (183, L, r, H, cs, ss) else orun method_8_code (Option.some Jvm.ClassFile.FieldType.boolean) E2 1 n (168, L, r, H, cs, ss) := s_if (Q := fun x => x = 0) (fun _ => z_eq) k2_165 (by decide) (by decide)
theorem s2_168 {n cs ss : Nat} {L : List Slot} {S : List Value} {H : AH} : orun method_8_code (Option.some Jvm.ClassFile.FieldType.boolean) E2 1 (n + 1) (168, L, S, H, cs, ss) = (gA L 0).bind fun v => orun method_8_code (Option.some Jvm.ClassFile.FieldType.boolean) E2 1 n (169, L, v :: S, H, cs, ss) := s_any k2_168
theorem s2_169 {n cs ss : Nat} {L : List Slot} {S : List Value} {H : AH} : orun method_8_code (Option.some Jvm.ClassFile.FieldType.boolean) E2 1 (n + 1) (169, L, S, H, cs, ss) = (gI L 1).bind fun v => orun method_8_code (Option.some Jvm.ClassFile.FieldType.boolean) E2 1 n (170, L, .int v :: S, H, cs, ss) := s_any k2_169
theorem s2_170 {n cs ss : Nat} {L : List Slot} {S : List Value} {H : AH} : orun method_8_code (Option.some Jvm.ClassFile.FieldType.boolean) E2 1 (n + 1) (170, L, S, H, cs, ss) = (gI L 2).bind fun v => orun method_8_code (Option.some Jvm.ClassFile.FieldType.boolean) E2 1 n (171, L, .int v :: S, H, cs, ss) := s_any k2_170
theorem s2_171 {n cs ss : Nat} {L : List Slot} {S : List Value} {H : AH} : orun method_8_code (Option.some Jvm.ClassFile.FieldType.boolean) E2 1 (n + 1) (171, L, S, H, cs, ss) = orun method_8_code (Option.some Jvm.ClassFile.FieldType.boolean) E2 1 n (173, L, (.int 8 :: S), H, cs, ss) := s_any k2_171
theorem s2_173 {n cs ss : Nat} {L : List Slot} {S : List Value} {H : AH} : orun method_8_code (Option.some Jvm.ClassFile.FieldType.boolean) E2 1 (n + 1) (173, L, S, H, cs, ss) = (aCall 4 6 11 110 1 10 F3 S H cs ss).bind fun r => orun method_8_code (Option.some Jvm.ClassFile.FieldType.boolean) E2 1 n (176, L, r.1, r.2.1, r.2.2.1, r.2.2.2) := s_any k2_173
theorem s2_176 {n cs ss : Nat} {L : List Slot} {S : List Value} {H : AH} : orun method_8_code (Option.some Jvm.ClassFile.FieldType.boolean) E2 1 (n + 1) (176, L, S, H, cs, ss) = pI S fun x r => if x = 0 then orun method_8_code (Option.some Jvm.ClassFile.FieldType.boolean) E2 1 n (183, L, r, H, cs, ss) else orun method_8_code (Option.some Jvm.ClassFile.FieldType.boolean) E2 1 n (179, L, r, H, cs, ss) := s_if (Q := fun x => x = 0) (fun _ => z_eq) k2_176 (by decide) (by decide)
theorem s2_179 {n cs ss : Nat} {L : List Slot} {S : List Value} {H : AH} : orun method_8_code (Option.some Jvm.ClassFile.FieldType.boolean) E2 1 (n + 1) (179, L, S, H, cs, ss) = orun method_8_code (Option.some Jvm.ClassFile.FieldType.boolean) E2 1 n (180, L, (.int 1 :: S), H, cs, ss) := s_any k2_179
theorem s2_180 {n cs ss : Nat} {L : List Slot} {S : List Value} {H : AH} : orun method_8_code (Option.some Jvm.ClassFile.FieldType.boolean) E2 1 (n + 1) (180, L, S, H, cs, ss) = orun method_8_code (Option.some Jvm.ClassFile.FieldType.boolean) E2 1 n (184, L, S, H, cs, ss) := s_goto k2_180 (by decide) (by decide)
theorem s2_183 {n cs ss : Nat} {L : List Slot} {S : List Value} {H : AH} : orun method_8_code (Option.some Jvm.ClassFile.FieldType.boolean) E2 1 (n + 1) (183, L, S, H, cs, ss) = orun method_8_code (Option.some Jvm.ClassFile.FieldType.boolean) E2 1 n (184, L, (.int 0 :: S), H, cs, ss) := s_any k2_183
theorem s2_184 {n cs ss : Nat} {L : List Slot} {S : List Value} {H : AH} : orun method_8_code (Option.some Jvm.ClassFile.FieldType.boolean) E2 1 (n + 1) (184, L, S, H, cs, ss) = pI S fun x r => (st1 L 3 (.int x)).bind fun L' => orun method_8_code (Option.some Jvm.ClassFile.FieldType.boolean) E2 1 n (185, L', r, H, cs, ss) := s_any k2_184
theorem s2_185 {n cs ss : Nat} {L : List Slot} {S : List Value} {H : AH} : orun method_8_code (Option.some Jvm.ClassFile.FieldType.boolean) E2 1 (n + 1) (185, L, S, H, cs, ss) = (gI L 3).bind fun v => orun method_8_code (Option.some Jvm.ClassFile.FieldType.boolean) E2 1 n (186, L, .int v :: S, H, cs, ss) := s_any k2_185
theorem s2_186 {n cs ss : Nat} {L : List Slot} {S : List Value} {H : AH} : orun method_8_code (Option.some Jvm.ClassFile.FieldType.boolean) E2 1 (n + 1) (186, L, S, H, cs, ss) = pI S fun x r => if x = 0 then orun method_8_code (Option.some Jvm.ClassFile.FieldType.boolean) E2 1 n (204, L, r, H, cs, ss) else orun method_8_code (Option.some Jvm.ClassFile.FieldType.boolean) E2 1 n (189, L, r, H, cs, ss) := s_if (Q := fun x => x = 0) (fun _ => z_eq) k2_186 (by decide) (by decide)
theorem s2_189 {n cs ss : Nat} {L : List Slot} {S : List Value} {H : AH} : orun method_8_code (Option.some Jvm.ClassFile.FieldType.boolean) E2 1 (n + 1) (189, L, S, H, cs, ss) = (gA L 0).bind fun v => orun method_8_code (Option.some Jvm.ClassFile.FieldType.boolean) E2 1 n (190, L, v :: S, H, cs, ss) := s_any k2_189
theorem s2_190 {n cs ss : Nat} {L : List Slot} {S : List Value} {H : AH} : orun method_8_code (Option.some Jvm.ClassFile.FieldType.boolean) E2 1 (n + 1) (190, L, S, H, cs, ss) = (gI L 1).bind fun v => orun method_8_code (Option.some Jvm.ClassFile.FieldType.boolean) E2 1 n (191, L, .int v :: S, H, cs, ss) := s_any k2_190
theorem s2_191 {n cs ss : Nat} {L : List Slot} {S : List Value} {H : AH} : orun method_8_code (Option.some Jvm.ClassFile.FieldType.boolean) E2 1 (n + 1) (191, L, S, H, cs, ss) = (gI L 2).bind fun v => orun method_8_code (Option.some Jvm.ClassFile.FieldType.boolean) E2 1 n (192, L, .int v :: S, H, cs, ss) := s_any k2_191
theorem s2_192 {n cs ss : Nat} {L : List Slot} {S : List Value} {H : AH} : orun method_8_code (Option.some Jvm.ClassFile.FieldType.boolean) E2 1 (n + 1) (192, L, S, H, cs, ss) = orun method_8_code (Option.some Jvm.ClassFile.FieldType.boolean) E2 1 n (194, L, (.int 9 :: S), H, cs, ss) := s_any k2_192
theorem s2_194 {n cs ss : Nat} {L : List Slot} {S : List Value} {H : AH} : orun method_8_code (Option.some Jvm.ClassFile.FieldType.boolean) E2 1 (n + 1) (194, L, S, H, cs, ss) = (aCall 4 6 11 110 1 10 F3 S H cs ss).bind fun r => orun method_8_code (Option.some Jvm.ClassFile.FieldType.boolean) E2 1 n (197, L, r.1, r.2.1, r.2.2.1, r.2.2.2) := s_any k2_194
theorem s2_197 {n cs ss : Nat} {L : List Slot} {S : List Value} {H : AH} : orun method_8_code (Option.some Jvm.ClassFile.FieldType.boolean) E2 1 (n + 1) (197, L, S, H, cs, ss) = pI S fun x r => if x = 0 then orun method_8_code (Option.some Jvm.ClassFile.FieldType.boolean) E2 1 n (204, L, r, H, cs, ss) else orun method_8_code (Option.some Jvm.ClassFile.FieldType.boolean) E2 1 n (200, L, r, H, cs, ss) := s_if (Q := fun x => x = 0) (fun _ => z_eq) k2_197 (by decide) (by decide)
theorem s2_200 {n cs ss : Nat} {L : List Slot} {S : List Value} {H : AH} : orun method_8_code (Option.some Jvm.ClassFile.FieldType.boolean) E2 1 (n + 1) (200, L, S, H, cs, ss) = orun method_8_code (Option.some Jvm.ClassFile.FieldType.boolean) E2 1 n (201, L, (.int 1 :: S), H, cs, ss) := s_any k2_200
theorem s2_201 {n cs ss : Nat} {L : List Slot} {S : List Value} {H : AH} : orun method_8_code (Option.some Jvm.ClassFile.FieldType.boolean) E2 1 (n + 1) (201, L, S, H, cs, ss) = orun method_8_code (Option.some Jvm.ClassFile.FieldType.boolean) E2 1 n (205, L, S, H, cs, ss) := s_goto k2_201 (by decide) (by decide)
theorem s2_204 {n cs ss : Nat} {L : List Slot} {S : List Value} {H : AH} : orun method_8_code (Option.some Jvm.ClassFile.FieldType.boolean) E2 1 (n + 1) (204, L, S, H, cs, ss) = orun method_8_code (Option.some Jvm.ClassFile.FieldType.boolean) E2 1 n (205, L, (.int 0 :: S), H, cs, ss) := s_any k2_204
theorem s2_205 {n cs ss : Nat} {L : List Slot} {S : List Value} {H : AH} : orun method_8_code (Option.some Jvm.ClassFile.FieldType.boolean) E2 1 (n + 1) (205, L, S, H, cs, ss) = pI S fun x r => (st1 L 3 (.int x)).bind fun L' => orun method_8_code (Option.some Jvm.ClassFile.FieldType.boolean) E2 1 n (206, L', r, H, cs, ss) := s_any k2_205
theorem s2_206 {n cs ss : Nat} {L : List Slot} {S : List Value} {H : AH} : orun method_8_code (Option.some Jvm.ClassFile.FieldType.boolean) E2 1 (n + 1) (206, L, S, H, cs, ss) = (gI L 3).bind fun v => orun method_8_code (Option.some Jvm.ClassFile.FieldType.boolean) E2 1 n (207, L, .int v :: S, H, cs, ss) := s_any k2_206
theorem s2_207 {n cs ss : Nat} {L : List Slot} {S : List Value} {H : AH} : orun method_8_code (Option.some Jvm.ClassFile.FieldType.boolean) E2 1 (n + 1) (207, L, S, H, cs, ss) = pI S fun x r => if x = 0 then orun method_8_code (Option.some Jvm.ClassFile.FieldType.boolean) E2 1 n (225, L, r, H, cs, ss) else orun method_8_code (Option.some Jvm.ClassFile.FieldType.boolean) E2 1 n (210, L, r, H, cs, ss) := s_if (Q := fun x => x = 0) (fun _ => z_eq) k2_207 (by decide) (by decide)
theorem s2_210 {n cs ss : Nat} {L : List Slot} {S : List Value} {H : AH} : orun method_8_code (Option.some Jvm.ClassFile.FieldType.boolean) E2 1 (n + 1) (210, L, S, H, cs, ss) = (gA L 0).bind fun v => orun method_8_code (Option.some Jvm.ClassFile.FieldType.boolean) E2 1 n (211, L, v :: S, H, cs, ss) := s_any k2_210
theorem s2_211 {n cs ss : Nat} {L : List Slot} {S : List Value} {H : AH} : orun method_8_code (Option.some Jvm.ClassFile.FieldType.boolean) E2 1 (n + 1) (211, L, S, H, cs, ss) = (gI L 1).bind fun v => orun method_8_code (Option.some Jvm.ClassFile.FieldType.boolean) E2 1 n (212, L, .int v :: S, H, cs, ss) := s_any k2_211
theorem s2_212 {n cs ss : Nat} {L : List Slot} {S : List Value} {H : AH} : orun method_8_code (Option.some Jvm.ClassFile.FieldType.boolean) E2 1 (n + 1) (212, L, S, H, cs, ss) = (gI L 2).bind fun v => orun method_8_code (Option.some Jvm.ClassFile.FieldType.boolean) E2 1 n (213, L, .int v :: S, H, cs, ss) := s_any k2_212
theorem s2_213 {n cs ss : Nat} {L : List Slot} {S : List Value} {H : AH} : orun method_8_code (Option.some Jvm.ClassFile.FieldType.boolean) E2 1 (n + 1) (213, L, S, H, cs, ss) = orun method_8_code (Option.some Jvm.ClassFile.FieldType.boolean) E2 1 n (215, L, (.int 10 :: S), H, cs, ss) := s_any k2_213
theorem s2_215 {n cs ss : Nat} {L : List Slot} {S : List Value} {H : AH} : orun method_8_code (Option.some Jvm.ClassFile.FieldType.boolean) E2 1 (n + 1) (215, L, S, H, cs, ss) = (aCall 4 6 11 110 1 10 F3 S H cs ss).bind fun r => orun method_8_code (Option.some Jvm.ClassFile.FieldType.boolean) E2 1 n (218, L, r.1, r.2.1, r.2.2.1, r.2.2.2) := s_any k2_215
theorem s2_218 {n cs ss : Nat} {L : List Slot} {S : List Value} {H : AH} : orun method_8_code (Option.some Jvm.ClassFile.FieldType.boolean) E2 1 (n + 1) (218, L, S, H, cs, ss) = pI S fun x r => if x = 0 then orun method_8_code (Option.some Jvm.ClassFile.FieldType.boolean) E2 1 n (225, L, r, H, cs, ss) else orun method_8_code (Option.some Jvm.ClassFile.FieldType.boolean) E2 1 n (221, L, r, H, cs, ss) := s_if (Q := fun x => x = 0) (fun _ => z_eq) k2_218 (by decide) (by decide)
theorem s2_221 {n cs ss : Nat} {L : List Slot} {S : List Value} {H : AH} : orun method_8_code (Option.some Jvm.ClassFile.FieldType.boolean) E2 1 (n + 1) (221, L, S, H, cs, ss) = orun method_8_code (Option.some Jvm.ClassFile.FieldType.boolean) E2 1 n (222, L, (.int 1 :: S), H, cs, ss) := s_any k2_221
theorem s2_222 {n cs ss : Nat} {L : List Slot} {S : List Value} {H : AH} : orun method_8_code (Option.some Jvm.ClassFile.FieldType.boolean) E2 1 (n + 1) (222, L, S, H, cs, ss) = orun method_8_code (Option.some Jvm.ClassFile.FieldType.boolean) E2 1 n (226, L, S, H, cs, ss) := s_goto k2_222 (by decide) (by decide)
theorem s2_225 {n cs ss : Nat} {L : List Slot} {S : List Value} {H : AH} : orun method_8_code (Option.some Jvm.ClassFile.FieldType.boolean) E2 1 (n + 1) (225, L, S, H, cs, ss) = orun method_8_code (Option.some Jvm.ClassFile.FieldType.boolean) E2 1 n (226, L, (.int 0 :: S), H, cs, ss) := s_any k2_225
theorem s2_226 {n cs ss : Nat} {L : List Slot} {S : List Value} {H : AH} : orun method_8_code (Option.some Jvm.ClassFile.FieldType.boolean) E2 1 (n + 1) (226, L, S, H, cs, ss) = pI S fun x r => (st1 L 3 (.int x)).bind fun L' => orun method_8_code (Option.some Jvm.ClassFile.FieldType.boolean) E2 1 n (227, L', r, H, cs, ss) := s_any k2_226
theorem s2_227 {n cs ss : Nat} {L : List Slot} {S : List Value} {H : AH} : orun method_8_code (Option.some Jvm.ClassFile.FieldType.boolean) E2 1 (n + 1) (227, L, S, H, cs, ss) = (gI L 3).bind fun v => orun method_8_code (Option.some Jvm.ClassFile.FieldType.boolean) E2 1 n (228, L, .int v :: S, H, cs, ss) := s_any k2_227
theorem s2_228 {n cs ss : Nat} {L : List Slot} {S : List Value} {H : AH} : orun method_8_code (Option.some Jvm.ClassFile.FieldType.boolean) E2 1 (n + 1) (228, L, S, H, cs, ss) = pI S fun z _ => some (some (.int (z &&& 1)), H) := s_any k2_228
theorem t2_0 {go : Nat → St → Option ORes} (hgo : go = orun method_8_code (Option.some Jvm.ClassFile.FieldType.boolean) E2 1) {n cs ss : Nat} {L : List Slot} {S : List Value} {H : AH} {q : Option ORes → Prop} (h : Rsq (go n (1, L, (.int 1 :: S), H, cs, ss)) q) : Rsq (go (n + 1) (0, L, S, H, cs, ss)) q := by
  subst hgo
  exact res_of s2_0 h
theorem t2_1 {go : Nat → St → Option ORes} (hgo : go = orun method_8_code (Option.some Jvm.ClassFile.FieldType.boolean) E2 1) {n cs ss : Nat} {l0 l1 l2 l3 : Slot} {S : List Value} {H : AH} {q : Option ORes → Prop} {x : Int32} (hk : so l3 = true) (h : Rsq (go n (2, [l0, l1, l2, .val (.int x)], S, H, cs, ss)) q) : Rsq (go (n + 1) (1, [l0, l1, l2, l3], (.int x :: S), H, cs, ss)) q := by
  subst hgo
  refine res_of s2_1 ?_
  rw [pI_int, st1_so (L := [l0, l1, l2, l3]) (k := 3) (l := l3) rfl hk]
  exact h
theorem t2_2 {go : Nat → St → Option ORes} (hgo : go = orun method_8_code (Option.some Jvm.ClassFile.FieldType.boolean) E2 1) {n cs ss : Nat} {l0 l1 l2 : Slot} {S : List Value} {H : AH} {q : Option ORes → Prop} {v : Int32} (h : Rsq (go n (3, [l0, l1, l2, .val (.int v)], (.int v :: S), H, cs, ss)) q) : Rsq (go (n + 1) (2, [l0, l1, l2, .val (.int v)], S, H, cs, ss)) q := by
  subst hgo
  exact res_of s2_2 h
theorem t2_3t {go : Nat → St → Option ORes} (hgo : go = orun method_8_code (Option.some Jvm.ClassFile.FieldType.boolean) E2 1) {n cs ss : Nat} {L : List Slot} {S : List Value} {H : AH} {q : Option ORes → Prop} {x : Int32} (hc : x = 0) (h : Rsq (go n (20, L, S, H, cs, ss)) q) : Rsq (go (n + 1) (3, L, (.int x :: S), H, cs, ss)) q := by
  subst hgo
  exact res_of s2_3 (res_t hc h)
theorem t2_3f {go : Nat → St → Option ORes} (hgo : go = orun method_8_code (Option.some Jvm.ClassFile.FieldType.boolean) E2 1) {n cs ss : Nat} {L : List Slot} {S : List Value} {H : AH} {q : Option ORes → Prop} {x : Int32} (hc : ¬ x = 0) (h : Rsq (go n (6, L, S, H, cs, ss)) q) : Rsq (go (n + 1) (3, L, (.int x :: S), H, cs, ss)) q := by
  subst hgo
  exact res_of s2_3 (res_f hc h)
theorem t2_6 {go : Nat → St → Option ORes} (hgo : go = orun method_8_code (Option.some Jvm.ClassFile.FieldType.boolean) E2 1) {n cs ss : Nat} {l1 l2 l3 : Slot} {S : List Value} {H : AH} {q : Option ORes → Prop} {v : Value} (hv : isA v = true) (h : Rsq (go n (7, [.val v, l1, l2, l3], (v :: S), H, cs, ss)) q) : Rsq (go (n + 1) (6, [.val v, l1, l2, l3], S, H, cs, ss)) q := by
  subst hgo
  refine res_of s2_6 ?_
  rw [gA_isA (L := [.val v, l1, l2, l3]) (k := 0) (v := v) rfl hv]
  exact h
theorem t2_7 {go : Nat → St → Option ORes} (hgo : go = orun method_8_code (Option.some Jvm.ClassFile.FieldType.boolean) E2 1) {n cs ss : Nat} {l0 l2 l3 : Slot} {S : List Value} {H : AH} {q : Option ORes → Prop} {v : Int32} (h : Rsq (go n (8, [l0, .val (.int v), l2, l3], (.int v :: S), H, cs, ss)) q) : Rsq (go (n + 1) (7, [l0, .val (.int v), l2, l3], S, H, cs, ss)) q := by
  subst hgo
  exact res_of s2_7 h
theorem t2_8 {go : Nat → St → Option ORes} (hgo : go = orun method_8_code (Option.some Jvm.ClassFile.FieldType.boolean) E2 1) {n cs ss : Nat} {l0 l1 l3 : Slot} {S : List Value} {H : AH} {q : Option ORes → Prop} {v : Int32} (h : Rsq (go n (9, [l0, l1, .val (.int v), l3], (.int v :: S), H, cs, ss)) q) : Rsq (go (n + 1) (8, [l0, l1, .val (.int v), l3], S, H, cs, ss)) q := by
  subst hgo
  exact res_of s2_8 h
theorem t2_9 {go : Nat → St → Option ORes} (hgo : go = orun method_8_code (Option.some Jvm.ClassFile.FieldType.boolean) E2 1) {n cs ss : Nat} {L : List Slot} {S : List Value} {H : AH} {q : Option ORes → Prop} (h : Rsq (go n (10, L, (.int 0 :: S), H, cs, ss)) q) : Rsq (go (n + 1) (9, L, S, H, cs, ss)) q := by
  subst hgo
  exact res_of s2_9 h
theorem u2_10 {go : Nat → St → Option ORes} (hgo : go = orun method_8_code (Option.some Jvm.ClassFile.FieldType.boolean) E2 1) {n cs ss : Nat} {L : List Slot} {S : List Value} {H : AH} : go (n + 1) (10, L, S, H, cs, ss) = (aCall 4 6 11 110 1 10 F3 S H cs ss).bind fun r => go n (13, L, r.1, r.2.1, r.2.2.1, r.2.2.2) := by
  subst hgo
  exact s2_10
theorem t2_13t {go : Nat → St → Option ORes} (hgo : go = orun method_8_code (Option.some Jvm.ClassFile.FieldType.boolean) E2 1) {n cs ss : Nat} {L : List Slot} {S : List Value} {H : AH} {q : Option ORes → Prop} {x : Int32} (hc : x = 0) (h : Rsq (go n (20, L, S, H, cs, ss)) q) : Rsq (go (n + 1) (13, L, (.int x :: S), H, cs, ss)) q := by
  subst hgo
  exact res_of s2_13 (res_t hc h)
theorem t2_13f {go : Nat → St → Option ORes} (hgo : go = orun method_8_code (Option.some Jvm.ClassFile.FieldType.boolean) E2 1) {n cs ss : Nat} {L : List Slot} {S : List Value} {H : AH} {q : Option ORes → Prop} {x : Int32} (hc : ¬ x = 0) (h : Rsq (go n (16, L, S, H, cs, ss)) q) : Rsq (go (n + 1) (13, L, (.int x :: S), H, cs, ss)) q := by
  subst hgo
  exact res_of s2_13 (res_f hc h)
theorem t2_16 {go : Nat → St → Option ORes} (hgo : go = orun method_8_code (Option.some Jvm.ClassFile.FieldType.boolean) E2 1) {n cs ss : Nat} {L : List Slot} {S : List Value} {H : AH} {q : Option ORes → Prop} (h : Rsq (go n (17, L, (.int 1 :: S), H, cs, ss)) q) : Rsq (go (n + 1) (16, L, S, H, cs, ss)) q := by
  subst hgo
  exact res_of s2_16 h
theorem t2_17 {go : Nat → St → Option ORes} (hgo : go = orun method_8_code (Option.some Jvm.ClassFile.FieldType.boolean) E2 1) {n cs ss : Nat} {L : List Slot} {S : List Value} {H : AH} {q : Option ORes → Prop} (h : Rsq (go n (21, L, S, H, cs, ss)) q) : Rsq (go (n + 1) (17, L, S, H, cs, ss)) q := by
  subst hgo
  exact res_of s2_17 h
theorem t2_20 {go : Nat → St → Option ORes} (hgo : go = orun method_8_code (Option.some Jvm.ClassFile.FieldType.boolean) E2 1) {n cs ss : Nat} {L : List Slot} {S : List Value} {H : AH} {q : Option ORes → Prop} (h : Rsq (go n (21, L, (.int 0 :: S), H, cs, ss)) q) : Rsq (go (n + 1) (20, L, S, H, cs, ss)) q := by
  subst hgo
  exact res_of s2_20 h
theorem t2_21 {go : Nat → St → Option ORes} (hgo : go = orun method_8_code (Option.some Jvm.ClassFile.FieldType.boolean) E2 1) {n cs ss : Nat} {l0 l1 l2 l3 : Slot} {S : List Value} {H : AH} {q : Option ORes → Prop} {x : Int32} (hk : so l3 = true) (h : Rsq (go n (22, [l0, l1, l2, .val (.int x)], S, H, cs, ss)) q) : Rsq (go (n + 1) (21, [l0, l1, l2, l3], (.int x :: S), H, cs, ss)) q := by
  subst hgo
  refine res_of s2_21 ?_
  rw [pI_int, st1_so (L := [l0, l1, l2, l3]) (k := 3) (l := l3) rfl hk]
  exact h
theorem t2_22 {go : Nat → St → Option ORes} (hgo : go = orun method_8_code (Option.some Jvm.ClassFile.FieldType.boolean) E2 1) {n cs ss : Nat} {l0 l1 l2 : Slot} {S : List Value} {H : AH} {q : Option ORes → Prop} {v : Int32} (h : Rsq (go n (23, [l0, l1, l2, .val (.int v)], (.int v :: S), H, cs, ss)) q) : Rsq (go (n + 1) (22, [l0, l1, l2, .val (.int v)], S, H, cs, ss)) q := by
  subst hgo
  exact res_of s2_22 h
theorem t2_23t {go : Nat → St → Option ORes} (hgo : go = orun method_8_code (Option.some Jvm.ClassFile.FieldType.boolean) E2 1) {n cs ss : Nat} {L : List Slot} {S : List Value} {H : AH} {q : Option ORes → Prop} {x : Int32} (hc : x = 0) (h : Rsq (go n (40, L, S, H, cs, ss)) q) : Rsq (go (n + 1) (23, L, (.int x :: S), H, cs, ss)) q := by
  subst hgo
  exact res_of s2_23 (res_t hc h)
theorem t2_23f {go : Nat → St → Option ORes} (hgo : go = orun method_8_code (Option.some Jvm.ClassFile.FieldType.boolean) E2 1) {n cs ss : Nat} {L : List Slot} {S : List Value} {H : AH} {q : Option ORes → Prop} {x : Int32} (hc : ¬ x = 0) (h : Rsq (go n (26, L, S, H, cs, ss)) q) : Rsq (go (n + 1) (23, L, (.int x :: S), H, cs, ss)) q := by
  subst hgo
  exact res_of s2_23 (res_f hc h)
theorem t2_26 {go : Nat → St → Option ORes} (hgo : go = orun method_8_code (Option.some Jvm.ClassFile.FieldType.boolean) E2 1) {n cs ss : Nat} {l1 l2 l3 : Slot} {S : List Value} {H : AH} {q : Option ORes → Prop} {v : Value} (hv : isA v = true) (h : Rsq (go n (27, [.val v, l1, l2, l3], (v :: S), H, cs, ss)) q) : Rsq (go (n + 1) (26, [.val v, l1, l2, l3], S, H, cs, ss)) q := by
  subst hgo
  refine res_of s2_26 ?_
  rw [gA_isA (L := [.val v, l1, l2, l3]) (k := 0) (v := v) rfl hv]
  exact h
theorem t2_27 {go : Nat → St → Option ORes} (hgo : go = orun method_8_code (Option.some Jvm.ClassFile.FieldType.boolean) E2 1) {n cs ss : Nat} {l0 l2 l3 : Slot} {S : List Value} {H : AH} {q : Option ORes → Prop} {v : Int32} (h : Rsq (go n (28, [l0, .val (.int v), l2, l3], (.int v :: S), H, cs, ss)) q) : Rsq (go (n + 1) (27, [l0, .val (.int v), l2, l3], S, H, cs, ss)) q := by
  subst hgo
  exact res_of s2_27 h
theorem t2_28 {go : Nat → St → Option ORes} (hgo : go = orun method_8_code (Option.some Jvm.ClassFile.FieldType.boolean) E2 1) {n cs ss : Nat} {l0 l1 l3 : Slot} {S : List Value} {H : AH} {q : Option ORes → Prop} {v : Int32} (h : Rsq (go n (29, [l0, l1, .val (.int v), l3], (.int v :: S), H, cs, ss)) q) : Rsq (go (n + 1) (28, [l0, l1, .val (.int v), l3], S, H, cs, ss)) q := by
  subst hgo
  exact res_of s2_28 h
theorem t2_29 {go : Nat → St → Option ORes} (hgo : go = orun method_8_code (Option.some Jvm.ClassFile.FieldType.boolean) E2 1) {n cs ss : Nat} {L : List Slot} {S : List Value} {H : AH} {q : Option ORes → Prop} (h : Rsq (go n (30, L, (.int 1 :: S), H, cs, ss)) q) : Rsq (go (n + 1) (29, L, S, H, cs, ss)) q := by
  subst hgo
  exact res_of s2_29 h
theorem u2_30 {go : Nat → St → Option ORes} (hgo : go = orun method_8_code (Option.some Jvm.ClassFile.FieldType.boolean) E2 1) {n cs ss : Nat} {L : List Slot} {S : List Value} {H : AH} : go (n + 1) (30, L, S, H, cs, ss) = (aCall 4 6 11 110 1 10 F3 S H cs ss).bind fun r => go n (33, L, r.1, r.2.1, r.2.2.1, r.2.2.2) := by
  subst hgo
  exact s2_30
theorem t2_33t {go : Nat → St → Option ORes} (hgo : go = orun method_8_code (Option.some Jvm.ClassFile.FieldType.boolean) E2 1) {n cs ss : Nat} {L : List Slot} {S : List Value} {H : AH} {q : Option ORes → Prop} {x : Int32} (hc : x = 0) (h : Rsq (go n (40, L, S, H, cs, ss)) q) : Rsq (go (n + 1) (33, L, (.int x :: S), H, cs, ss)) q := by
  subst hgo
  exact res_of s2_33 (res_t hc h)
theorem t2_33f {go : Nat → St → Option ORes} (hgo : go = orun method_8_code (Option.some Jvm.ClassFile.FieldType.boolean) E2 1) {n cs ss : Nat} {L : List Slot} {S : List Value} {H : AH} {q : Option ORes → Prop} {x : Int32} (hc : ¬ x = 0) (h : Rsq (go n (36, L, S, H, cs, ss)) q) : Rsq (go (n + 1) (33, L, (.int x :: S), H, cs, ss)) q := by
  subst hgo
  exact res_of s2_33 (res_f hc h)
theorem t2_36 {go : Nat → St → Option ORes} (hgo : go = orun method_8_code (Option.some Jvm.ClassFile.FieldType.boolean) E2 1) {n cs ss : Nat} {L : List Slot} {S : List Value} {H : AH} {q : Option ORes → Prop} (h : Rsq (go n (37, L, (.int 1 :: S), H, cs, ss)) q) : Rsq (go (n + 1) (36, L, S, H, cs, ss)) q := by
  subst hgo
  exact res_of s2_36 h
theorem t2_37 {go : Nat → St → Option ORes} (hgo : go = orun method_8_code (Option.some Jvm.ClassFile.FieldType.boolean) E2 1) {n cs ss : Nat} {L : List Slot} {S : List Value} {H : AH} {q : Option ORes → Prop} (h : Rsq (go n (41, L, S, H, cs, ss)) q) : Rsq (go (n + 1) (37, L, S, H, cs, ss)) q := by
  subst hgo
  exact res_of s2_37 h
theorem t2_40 {go : Nat → St → Option ORes} (hgo : go = orun method_8_code (Option.some Jvm.ClassFile.FieldType.boolean) E2 1) {n cs ss : Nat} {L : List Slot} {S : List Value} {H : AH} {q : Option ORes → Prop} (h : Rsq (go n (41, L, (.int 0 :: S), H, cs, ss)) q) : Rsq (go (n + 1) (40, L, S, H, cs, ss)) q := by
  subst hgo
  exact res_of s2_40 h
theorem t2_41 {go : Nat → St → Option ORes} (hgo : go = orun method_8_code (Option.some Jvm.ClassFile.FieldType.boolean) E2 1) {n cs ss : Nat} {l0 l1 l2 l3 : Slot} {S : List Value} {H : AH} {q : Option ORes → Prop} {x : Int32} (hk : so l3 = true) (h : Rsq (go n (42, [l0, l1, l2, .val (.int x)], S, H, cs, ss)) q) : Rsq (go (n + 1) (41, [l0, l1, l2, l3], (.int x :: S), H, cs, ss)) q := by
  subst hgo
  refine res_of s2_41 ?_
  rw [pI_int, st1_so (L := [l0, l1, l2, l3]) (k := 3) (l := l3) rfl hk]
  exact h
theorem t2_42 {go : Nat → St → Option ORes} (hgo : go = orun method_8_code (Option.some Jvm.ClassFile.FieldType.boolean) E2 1) {n cs ss : Nat} {l0 l1 l2 : Slot} {S : List Value} {H : AH} {q : Option ORes → Prop} {v : Int32} (h : Rsq (go n (43, [l0, l1, l2, .val (.int v)], (.int v :: S), H, cs, ss)) q) : Rsq (go (n + 1) (42, [l0, l1, l2, .val (.int v)], S, H, cs, ss)) q := by
  subst hgo
  exact res_of s2_42 h
theorem t2_43t {go : Nat → St → Option ORes} (hgo : go = orun method_8_code (Option.some Jvm.ClassFile.FieldType.boolean) E2 1) {n cs ss : Nat} {L : List Slot} {S : List Value} {H : AH} {q : Option ORes → Prop} {x : Int32} (hc : x = 0) (h : Rsq (go n (60, L, S, H, cs, ss)) q) : Rsq (go (n + 1) (43, L, (.int x :: S), H, cs, ss)) q := by
  subst hgo
  exact res_of s2_43 (res_t hc h)
theorem t2_43f {go : Nat → St → Option ORes} (hgo : go = orun method_8_code (Option.some Jvm.ClassFile.FieldType.boolean) E2 1) {n cs ss : Nat} {L : List Slot} {S : List Value} {H : AH} {q : Option ORes → Prop} {x : Int32} (hc : ¬ x = 0) (h : Rsq (go n (46, L, S, H, cs, ss)) q) : Rsq (go (n + 1) (43, L, (.int x :: S), H, cs, ss)) q := by
  subst hgo
  exact res_of s2_43 (res_f hc h)
theorem t2_46 {go : Nat → St → Option ORes} (hgo : go = orun method_8_code (Option.some Jvm.ClassFile.FieldType.boolean) E2 1) {n cs ss : Nat} {l1 l2 l3 : Slot} {S : List Value} {H : AH} {q : Option ORes → Prop} {v : Value} (hv : isA v = true) (h : Rsq (go n (47, [.val v, l1, l2, l3], (v :: S), H, cs, ss)) q) : Rsq (go (n + 1) (46, [.val v, l1, l2, l3], S, H, cs, ss)) q := by
  subst hgo
  refine res_of s2_46 ?_
  rw [gA_isA (L := [.val v, l1, l2, l3]) (k := 0) (v := v) rfl hv]
  exact h
theorem t2_47 {go : Nat → St → Option ORes} (hgo : go = orun method_8_code (Option.some Jvm.ClassFile.FieldType.boolean) E2 1) {n cs ss : Nat} {l0 l2 l3 : Slot} {S : List Value} {H : AH} {q : Option ORes → Prop} {v : Int32} (h : Rsq (go n (48, [l0, .val (.int v), l2, l3], (.int v :: S), H, cs, ss)) q) : Rsq (go (n + 1) (47, [l0, .val (.int v), l2, l3], S, H, cs, ss)) q := by
  subst hgo
  exact res_of s2_47 h
theorem t2_48 {go : Nat → St → Option ORes} (hgo : go = orun method_8_code (Option.some Jvm.ClassFile.FieldType.boolean) E2 1) {n cs ss : Nat} {l0 l1 l3 : Slot} {S : List Value} {H : AH} {q : Option ORes → Prop} {v : Int32} (h : Rsq (go n (49, [l0, l1, .val (.int v), l3], (.int v :: S), H, cs, ss)) q) : Rsq (go (n + 1) (48, [l0, l1, .val (.int v), l3], S, H, cs, ss)) q := by
  subst hgo
  exact res_of s2_48 h
theorem t2_49 {go : Nat → St → Option ORes} (hgo : go = orun method_8_code (Option.some Jvm.ClassFile.FieldType.boolean) E2 1) {n cs ss : Nat} {L : List Slot} {S : List Value} {H : AH} {q : Option ORes → Prop} (h : Rsq (go n (50, L, (.int 2 :: S), H, cs, ss)) q) : Rsq (go (n + 1) (49, L, S, H, cs, ss)) q := by
  subst hgo
  exact res_of s2_49 h
theorem u2_50 {go : Nat → St → Option ORes} (hgo : go = orun method_8_code (Option.some Jvm.ClassFile.FieldType.boolean) E2 1) {n cs ss : Nat} {L : List Slot} {S : List Value} {H : AH} : go (n + 1) (50, L, S, H, cs, ss) = (aCall 4 6 11 110 1 10 F3 S H cs ss).bind fun r => go n (53, L, r.1, r.2.1, r.2.2.1, r.2.2.2) := by
  subst hgo
  exact s2_50
theorem t2_53t {go : Nat → St → Option ORes} (hgo : go = orun method_8_code (Option.some Jvm.ClassFile.FieldType.boolean) E2 1) {n cs ss : Nat} {L : List Slot} {S : List Value} {H : AH} {q : Option ORes → Prop} {x : Int32} (hc : x = 0) (h : Rsq (go n (60, L, S, H, cs, ss)) q) : Rsq (go (n + 1) (53, L, (.int x :: S), H, cs, ss)) q := by
  subst hgo
  exact res_of s2_53 (res_t hc h)
theorem t2_53f {go : Nat → St → Option ORes} (hgo : go = orun method_8_code (Option.some Jvm.ClassFile.FieldType.boolean) E2 1) {n cs ss : Nat} {L : List Slot} {S : List Value} {H : AH} {q : Option ORes → Prop} {x : Int32} (hc : ¬ x = 0) (h : Rsq (go n (56, L, S, H, cs, ss)) q) : Rsq (go (n + 1) (53, L, (.int x :: S), H, cs, ss)) q := by
  subst hgo
  exact res_of s2_53 (res_f hc h)
theorem t2_56 {go : Nat → St → Option ORes} (hgo : go = orun method_8_code (Option.some Jvm.ClassFile.FieldType.boolean) E2 1) {n cs ss : Nat} {L : List Slot} {S : List Value} {H : AH} {q : Option ORes → Prop} (h : Rsq (go n (57, L, (.int 1 :: S), H, cs, ss)) q) : Rsq (go (n + 1) (56, L, S, H, cs, ss)) q := by
  subst hgo
  exact res_of s2_56 h
theorem t2_57 {go : Nat → St → Option ORes} (hgo : go = orun method_8_code (Option.some Jvm.ClassFile.FieldType.boolean) E2 1) {n cs ss : Nat} {L : List Slot} {S : List Value} {H : AH} {q : Option ORes → Prop} (h : Rsq (go n (61, L, S, H, cs, ss)) q) : Rsq (go (n + 1) (57, L, S, H, cs, ss)) q := by
  subst hgo
  exact res_of s2_57 h
theorem t2_60 {go : Nat → St → Option ORes} (hgo : go = orun method_8_code (Option.some Jvm.ClassFile.FieldType.boolean) E2 1) {n cs ss : Nat} {L : List Slot} {S : List Value} {H : AH} {q : Option ORes → Prop} (h : Rsq (go n (61, L, (.int 0 :: S), H, cs, ss)) q) : Rsq (go (n + 1) (60, L, S, H, cs, ss)) q := by
  subst hgo
  exact res_of s2_60 h
theorem t2_61 {go : Nat → St → Option ORes} (hgo : go = orun method_8_code (Option.some Jvm.ClassFile.FieldType.boolean) E2 1) {n cs ss : Nat} {l0 l1 l2 l3 : Slot} {S : List Value} {H : AH} {q : Option ORes → Prop} {x : Int32} (hk : so l3 = true) (h : Rsq (go n (62, [l0, l1, l2, .val (.int x)], S, H, cs, ss)) q) : Rsq (go (n + 1) (61, [l0, l1, l2, l3], (.int x :: S), H, cs, ss)) q := by
  subst hgo
  refine res_of s2_61 ?_
  rw [pI_int, st1_so (L := [l0, l1, l2, l3]) (k := 3) (l := l3) rfl hk]
  exact h
theorem t2_62 {go : Nat → St → Option ORes} (hgo : go = orun method_8_code (Option.some Jvm.ClassFile.FieldType.boolean) E2 1) {n cs ss : Nat} {l0 l1 l2 : Slot} {S : List Value} {H : AH} {q : Option ORes → Prop} {v : Int32} (h : Rsq (go n (63, [l0, l1, l2, .val (.int v)], (.int v :: S), H, cs, ss)) q) : Rsq (go (n + 1) (62, [l0, l1, l2, .val (.int v)], S, H, cs, ss)) q := by
  subst hgo
  exact res_of s2_62 h
theorem t2_63t {go : Nat → St → Option ORes} (hgo : go = orun method_8_code (Option.some Jvm.ClassFile.FieldType.boolean) E2 1) {n cs ss : Nat} {L : List Slot} {S : List Value} {H : AH} {q : Option ORes → Prop} {x : Int32} (hc : x = 0) (h : Rsq (go n (80, L, S, H, cs, ss)) q) : Rsq (go (n + 1) (63, L, (.int x :: S), H, cs, ss)) q := by
  subst hgo
  exact res_of s2_63 (res_t hc h)
theorem t2_63f {go : Nat → St → Option ORes} (hgo : go = orun method_8_code (Option.some Jvm.ClassFile.FieldType.boolean) E2 1) {n cs ss : Nat} {L : List Slot} {S : List Value} {H : AH} {q : Option ORes → Prop} {x : Int32} (hc : ¬ x = 0) (h : Rsq (go n (66, L, S, H, cs, ss)) q) : Rsq (go (n + 1) (63, L, (.int x :: S), H, cs, ss)) q := by
  subst hgo
  exact res_of s2_63 (res_f hc h)
theorem t2_66 {go : Nat → St → Option ORes} (hgo : go = orun method_8_code (Option.some Jvm.ClassFile.FieldType.boolean) E2 1) {n cs ss : Nat} {l1 l2 l3 : Slot} {S : List Value} {H : AH} {q : Option ORes → Prop} {v : Value} (hv : isA v = true) (h : Rsq (go n (67, [.val v, l1, l2, l3], (v :: S), H, cs, ss)) q) : Rsq (go (n + 1) (66, [.val v, l1, l2, l3], S, H, cs, ss)) q := by
  subst hgo
  refine res_of s2_66 ?_
  rw [gA_isA (L := [.val v, l1, l2, l3]) (k := 0) (v := v) rfl hv]
  exact h
theorem t2_67 {go : Nat → St → Option ORes} (hgo : go = orun method_8_code (Option.some Jvm.ClassFile.FieldType.boolean) E2 1) {n cs ss : Nat} {l0 l2 l3 : Slot} {S : List Value} {H : AH} {q : Option ORes → Prop} {v : Int32} (h : Rsq (go n (68, [l0, .val (.int v), l2, l3], (.int v :: S), H, cs, ss)) q) : Rsq (go (n + 1) (67, [l0, .val (.int v), l2, l3], S, H, cs, ss)) q := by
  subst hgo
  exact res_of s2_67 h
theorem t2_68 {go : Nat → St → Option ORes} (hgo : go = orun method_8_code (Option.some Jvm.ClassFile.FieldType.boolean) E2 1) {n cs ss : Nat} {l0 l1 l3 : Slot} {S : List Value} {H : AH} {q : Option ORes → Prop} {v : Int32} (h : Rsq (go n (69, [l0, l1, .val (.int v), l3], (.int v :: S), H, cs, ss)) q) : Rsq (go (n + 1) (68, [l0, l1, .val (.int v), l3], S, H, cs, ss)) q := by
  subst hgo
  exact res_of s2_68 h
theorem t2_69 {go : Nat → St → Option ORes} (hgo : go = orun method_8_code (Option.some Jvm.ClassFile.FieldType.boolean) E2 1) {n cs ss : Nat} {L : List Slot} {S : List Value} {H : AH} {q : Option ORes → Prop} (h : Rsq (go n (70, L, (.int 3 :: S), H, cs, ss)) q) : Rsq (go (n + 1) (69, L, S, H, cs, ss)) q := by
  subst hgo
  exact res_of s2_69 h
theorem u2_70 {go : Nat → St → Option ORes} (hgo : go = orun method_8_code (Option.some Jvm.ClassFile.FieldType.boolean) E2 1) {n cs ss : Nat} {L : List Slot} {S : List Value} {H : AH} : go (n + 1) (70, L, S, H, cs, ss) = (aCall 4 6 11 110 1 10 F3 S H cs ss).bind fun r => go n (73, L, r.1, r.2.1, r.2.2.1, r.2.2.2) := by
  subst hgo
  exact s2_70
theorem t2_73t {go : Nat → St → Option ORes} (hgo : go = orun method_8_code (Option.some Jvm.ClassFile.FieldType.boolean) E2 1) {n cs ss : Nat} {L : List Slot} {S : List Value} {H : AH} {q : Option ORes → Prop} {x : Int32} (hc : x = 0) (h : Rsq (go n (80, L, S, H, cs, ss)) q) : Rsq (go (n + 1) (73, L, (.int x :: S), H, cs, ss)) q := by
  subst hgo
  exact res_of s2_73 (res_t hc h)
theorem t2_73f {go : Nat → St → Option ORes} (hgo : go = orun method_8_code (Option.some Jvm.ClassFile.FieldType.boolean) E2 1) {n cs ss : Nat} {L : List Slot} {S : List Value} {H : AH} {q : Option ORes → Prop} {x : Int32} (hc : ¬ x = 0) (h : Rsq (go n (76, L, S, H, cs, ss)) q) : Rsq (go (n + 1) (73, L, (.int x :: S), H, cs, ss)) q := by
  subst hgo
  exact res_of s2_73 (res_f hc h)
theorem t2_76 {go : Nat → St → Option ORes} (hgo : go = orun method_8_code (Option.some Jvm.ClassFile.FieldType.boolean) E2 1) {n cs ss : Nat} {L : List Slot} {S : List Value} {H : AH} {q : Option ORes → Prop} (h : Rsq (go n (77, L, (.int 1 :: S), H, cs, ss)) q) : Rsq (go (n + 1) (76, L, S, H, cs, ss)) q := by
  subst hgo
  exact res_of s2_76 h
theorem t2_77 {go : Nat → St → Option ORes} (hgo : go = orun method_8_code (Option.some Jvm.ClassFile.FieldType.boolean) E2 1) {n cs ss : Nat} {L : List Slot} {S : List Value} {H : AH} {q : Option ORes → Prop} (h : Rsq (go n (81, L, S, H, cs, ss)) q) : Rsq (go (n + 1) (77, L, S, H, cs, ss)) q := by
  subst hgo
  exact res_of s2_77 h
theorem t2_80 {go : Nat → St → Option ORes} (hgo : go = orun method_8_code (Option.some Jvm.ClassFile.FieldType.boolean) E2 1) {n cs ss : Nat} {L : List Slot} {S : List Value} {H : AH} {q : Option ORes → Prop} (h : Rsq (go n (81, L, (.int 0 :: S), H, cs, ss)) q) : Rsq (go (n + 1) (80, L, S, H, cs, ss)) q := by
  subst hgo
  exact res_of s2_80 h
theorem t2_81 {go : Nat → St → Option ORes} (hgo : go = orun method_8_code (Option.some Jvm.ClassFile.FieldType.boolean) E2 1) {n cs ss : Nat} {l0 l1 l2 l3 : Slot} {S : List Value} {H : AH} {q : Option ORes → Prop} {x : Int32} (hk : so l3 = true) (h : Rsq (go n (82, [l0, l1, l2, .val (.int x)], S, H, cs, ss)) q) : Rsq (go (n + 1) (81, [l0, l1, l2, l3], (.int x :: S), H, cs, ss)) q := by
  subst hgo
  refine res_of s2_81 ?_
  rw [pI_int, st1_so (L := [l0, l1, l2, l3]) (k := 3) (l := l3) rfl hk]
  exact h
theorem t2_82 {go : Nat → St → Option ORes} (hgo : go = orun method_8_code (Option.some Jvm.ClassFile.FieldType.boolean) E2 1) {n cs ss : Nat} {l0 l1 l2 : Slot} {S : List Value} {H : AH} {q : Option ORes → Prop} {v : Int32} (h : Rsq (go n (83, [l0, l1, l2, .val (.int v)], (.int v :: S), H, cs, ss)) q) : Rsq (go (n + 1) (82, [l0, l1, l2, .val (.int v)], S, H, cs, ss)) q := by
  subst hgo
  exact res_of s2_82 h
theorem t2_83t {go : Nat → St → Option ORes} (hgo : go = orun method_8_code (Option.some Jvm.ClassFile.FieldType.boolean) E2 1) {n cs ss : Nat} {L : List Slot} {S : List Value} {H : AH} {q : Option ORes → Prop} {x : Int32} (hc : x = 0) (h : Rsq (go n (100, L, S, H, cs, ss)) q) : Rsq (go (n + 1) (83, L, (.int x :: S), H, cs, ss)) q := by
  subst hgo
  exact res_of s2_83 (res_t hc h)
theorem t2_83f {go : Nat → St → Option ORes} (hgo : go = orun method_8_code (Option.some Jvm.ClassFile.FieldType.boolean) E2 1) {n cs ss : Nat} {L : List Slot} {S : List Value} {H : AH} {q : Option ORes → Prop} {x : Int32} (hc : ¬ x = 0) (h : Rsq (go n (86, L, S, H, cs, ss)) q) : Rsq (go (n + 1) (83, L, (.int x :: S), H, cs, ss)) q := by
  subst hgo
  exact res_of s2_83 (res_f hc h)
theorem t2_86 {go : Nat → St → Option ORes} (hgo : go = orun method_8_code (Option.some Jvm.ClassFile.FieldType.boolean) E2 1) {n cs ss : Nat} {l1 l2 l3 : Slot} {S : List Value} {H : AH} {q : Option ORes → Prop} {v : Value} (hv : isA v = true) (h : Rsq (go n (87, [.val v, l1, l2, l3], (v :: S), H, cs, ss)) q) : Rsq (go (n + 1) (86, [.val v, l1, l2, l3], S, H, cs, ss)) q := by
  subst hgo
  refine res_of s2_86 ?_
  rw [gA_isA (L := [.val v, l1, l2, l3]) (k := 0) (v := v) rfl hv]
  exact h
theorem t2_87 {go : Nat → St → Option ORes} (hgo : go = orun method_8_code (Option.some Jvm.ClassFile.FieldType.boolean) E2 1) {n cs ss : Nat} {l0 l2 l3 : Slot} {S : List Value} {H : AH} {q : Option ORes → Prop} {v : Int32} (h : Rsq (go n (88, [l0, .val (.int v), l2, l3], (.int v :: S), H, cs, ss)) q) : Rsq (go (n + 1) (87, [l0, .val (.int v), l2, l3], S, H, cs, ss)) q := by
  subst hgo
  exact res_of s2_87 h
theorem t2_88 {go : Nat → St → Option ORes} (hgo : go = orun method_8_code (Option.some Jvm.ClassFile.FieldType.boolean) E2 1) {n cs ss : Nat} {l0 l1 l3 : Slot} {S : List Value} {H : AH} {q : Option ORes → Prop} {v : Int32} (h : Rsq (go n (89, [l0, l1, .val (.int v), l3], (.int v :: S), H, cs, ss)) q) : Rsq (go (n + 1) (88, [l0, l1, .val (.int v), l3], S, H, cs, ss)) q := by
  subst hgo
  exact res_of s2_88 h
theorem t2_89 {go : Nat → St → Option ORes} (hgo : go = orun method_8_code (Option.some Jvm.ClassFile.FieldType.boolean) E2 1) {n cs ss : Nat} {L : List Slot} {S : List Value} {H : AH} {q : Option ORes → Prop} (h : Rsq (go n (90, L, (.int 4 :: S), H, cs, ss)) q) : Rsq (go (n + 1) (89, L, S, H, cs, ss)) q := by
  subst hgo
  exact res_of s2_89 h
theorem u2_90 {go : Nat → St → Option ORes} (hgo : go = orun method_8_code (Option.some Jvm.ClassFile.FieldType.boolean) E2 1) {n cs ss : Nat} {L : List Slot} {S : List Value} {H : AH} : go (n + 1) (90, L, S, H, cs, ss) = (aCall 4 6 11 110 1 10 F3 S H cs ss).bind fun r => go n (93, L, r.1, r.2.1, r.2.2.1, r.2.2.2) := by
  subst hgo
  exact s2_90
theorem t2_93t {go : Nat → St → Option ORes} (hgo : go = orun method_8_code (Option.some Jvm.ClassFile.FieldType.boolean) E2 1) {n cs ss : Nat} {L : List Slot} {S : List Value} {H : AH} {q : Option ORes → Prop} {x : Int32} (hc : x = 0) (h : Rsq (go n (100, L, S, H, cs, ss)) q) : Rsq (go (n + 1) (93, L, (.int x :: S), H, cs, ss)) q := by
  subst hgo
  exact res_of s2_93 (res_t hc h)
theorem t2_93f {go : Nat → St → Option ORes} (hgo : go = orun method_8_code (Option.some Jvm.ClassFile.FieldType.boolean) E2 1) {n cs ss : Nat} {L : List Slot} {S : List Value} {H : AH} {q : Option ORes → Prop} {x : Int32} (hc : ¬ x = 0) (h : Rsq (go n (96, L, S, H, cs, ss)) q) : Rsq (go (n + 1) (93, L, (.int x :: S), H, cs, ss)) q := by
  subst hgo
  exact res_of s2_93 (res_f hc h)
theorem t2_96 {go : Nat → St → Option ORes} (hgo : go = orun method_8_code (Option.some Jvm.ClassFile.FieldType.boolean) E2 1) {n cs ss : Nat} {L : List Slot} {S : List Value} {H : AH} {q : Option ORes → Prop} (h : Rsq (go n (97, L, (.int 1 :: S), H, cs, ss)) q) : Rsq (go (n + 1) (96, L, S, H, cs, ss)) q := by
  subst hgo
  exact res_of s2_96 h
theorem t2_97 {go : Nat → St → Option ORes} (hgo : go = orun method_8_code (Option.some Jvm.ClassFile.FieldType.boolean) E2 1) {n cs ss : Nat} {L : List Slot} {S : List Value} {H : AH} {q : Option ORes → Prop} (h : Rsq (go n (101, L, S, H, cs, ss)) q) : Rsq (go (n + 1) (97, L, S, H, cs, ss)) q := by
  subst hgo
  exact res_of s2_97 h
theorem t2_100 {go : Nat → St → Option ORes} (hgo : go = orun method_8_code (Option.some Jvm.ClassFile.FieldType.boolean) E2 1) {n cs ss : Nat} {L : List Slot} {S : List Value} {H : AH} {q : Option ORes → Prop} (h : Rsq (go n (101, L, (.int 0 :: S), H, cs, ss)) q) : Rsq (go (n + 1) (100, L, S, H, cs, ss)) q := by
  subst hgo
  exact res_of s2_100 h
theorem t2_101 {go : Nat → St → Option ORes} (hgo : go = orun method_8_code (Option.some Jvm.ClassFile.FieldType.boolean) E2 1) {n cs ss : Nat} {l0 l1 l2 l3 : Slot} {S : List Value} {H : AH} {q : Option ORes → Prop} {x : Int32} (hk : so l3 = true) (h : Rsq (go n (102, [l0, l1, l2, .val (.int x)], S, H, cs, ss)) q) : Rsq (go (n + 1) (101, [l0, l1, l2, l3], (.int x :: S), H, cs, ss)) q := by
  subst hgo
  refine res_of s2_101 ?_
  rw [pI_int, st1_so (L := [l0, l1, l2, l3]) (k := 3) (l := l3) rfl hk]
  exact h
theorem t2_102 {go : Nat → St → Option ORes} (hgo : go = orun method_8_code (Option.some Jvm.ClassFile.FieldType.boolean) E2 1) {n cs ss : Nat} {l0 l1 l2 : Slot} {S : List Value} {H : AH} {q : Option ORes → Prop} {v : Int32} (h : Rsq (go n (103, [l0, l1, l2, .val (.int v)], (.int v :: S), H, cs, ss)) q) : Rsq (go (n + 1) (102, [l0, l1, l2, .val (.int v)], S, H, cs, ss)) q := by
  subst hgo
  exact res_of s2_102 h
theorem t2_103t {go : Nat → St → Option ORes} (hgo : go = orun method_8_code (Option.some Jvm.ClassFile.FieldType.boolean) E2 1) {n cs ss : Nat} {L : List Slot} {S : List Value} {H : AH} {q : Option ORes → Prop} {x : Int32} (hc : x = 0) (h : Rsq (go n (120, L, S, H, cs, ss)) q) : Rsq (go (n + 1) (103, L, (.int x :: S), H, cs, ss)) q := by
  subst hgo
  exact res_of s2_103 (res_t hc h)
theorem t2_103f {go : Nat → St → Option ORes} (hgo : go = orun method_8_code (Option.some Jvm.ClassFile.FieldType.boolean) E2 1) {n cs ss : Nat} {L : List Slot} {S : List Value} {H : AH} {q : Option ORes → Prop} {x : Int32} (hc : ¬ x = 0) (h : Rsq (go n (106, L, S, H, cs, ss)) q) : Rsq (go (n + 1) (103, L, (.int x :: S), H, cs, ss)) q := by
  subst hgo
  exact res_of s2_103 (res_f hc h)
theorem t2_106 {go : Nat → St → Option ORes} (hgo : go = orun method_8_code (Option.some Jvm.ClassFile.FieldType.boolean) E2 1) {n cs ss : Nat} {l1 l2 l3 : Slot} {S : List Value} {H : AH} {q : Option ORes → Prop} {v : Value} (hv : isA v = true) (h : Rsq (go n (107, [.val v, l1, l2, l3], (v :: S), H, cs, ss)) q) : Rsq (go (n + 1) (106, [.val v, l1, l2, l3], S, H, cs, ss)) q := by
  subst hgo
  refine res_of s2_106 ?_
  rw [gA_isA (L := [.val v, l1, l2, l3]) (k := 0) (v := v) rfl hv]
  exact h
theorem t2_107 {go : Nat → St → Option ORes} (hgo : go = orun method_8_code (Option.some Jvm.ClassFile.FieldType.boolean) E2 1) {n cs ss : Nat} {l0 l2 l3 : Slot} {S : List Value} {H : AH} {q : Option ORes → Prop} {v : Int32} (h : Rsq (go n (108, [l0, .val (.int v), l2, l3], (.int v :: S), H, cs, ss)) q) : Rsq (go (n + 1) (107, [l0, .val (.int v), l2, l3], S, H, cs, ss)) q := by
  subst hgo
  exact res_of s2_107 h
theorem t2_108 {go : Nat → St → Option ORes} (hgo : go = orun method_8_code (Option.some Jvm.ClassFile.FieldType.boolean) E2 1) {n cs ss : Nat} {l0 l1 l3 : Slot} {S : List Value} {H : AH} {q : Option ORes → Prop} {v : Int32} (h : Rsq (go n (109, [l0, l1, .val (.int v), l3], (.int v :: S), H, cs, ss)) q) : Rsq (go (n + 1) (108, [l0, l1, .val (.int v), l3], S, H, cs, ss)) q := by
  subst hgo
  exact res_of s2_108 h
theorem t2_109 {go : Nat → St → Option ORes} (hgo : go = orun method_8_code (Option.some Jvm.ClassFile.FieldType.boolean) E2 1) {n cs ss : Nat} {L : List Slot} {S : List Value} {H : AH} {q : Option ORes → Prop} (h : Rsq (go n (110, L, (.int 5 :: S), H, cs, ss)) q) : Rsq (go (n + 1) (109, L, S, H, cs, ss)) q := by
  subst hgo
  exact res_of s2_109 h
theorem u2_110 {go : Nat → St → Option ORes} (hgo : go = orun method_8_code (Option.some Jvm.ClassFile.FieldType.boolean) E2 1) {n cs ss : Nat} {L : List Slot} {S : List Value} {H : AH} : go (n + 1) (110, L, S, H, cs, ss) = (aCall 4 6 11 110 1 10 F3 S H cs ss).bind fun r => go n (113, L, r.1, r.2.1, r.2.2.1, r.2.2.2) := by
  subst hgo
  exact s2_110
theorem t2_113t {go : Nat → St → Option ORes} (hgo : go = orun method_8_code (Option.some Jvm.ClassFile.FieldType.boolean) E2 1) {n cs ss : Nat} {L : List Slot} {S : List Value} {H : AH} {q : Option ORes → Prop} {x : Int32} (hc : x = 0) (h : Rsq (go n (120, L, S, H, cs, ss)) q) : Rsq (go (n + 1) (113, L, (.int x :: S), H, cs, ss)) q := by
  subst hgo
  exact res_of s2_113 (res_t hc h)
theorem t2_113f {go : Nat → St → Option ORes} (hgo : go = orun method_8_code (Option.some Jvm.ClassFile.FieldType.boolean) E2 1) {n cs ss : Nat} {L : List Slot} {S : List Value} {H : AH} {q : Option ORes → Prop} {x : Int32} (hc : ¬ x = 0) (h : Rsq (go n (116, L, S, H, cs, ss)) q) : Rsq (go (n + 1) (113, L, (.int x :: S), H, cs, ss)) q := by
  subst hgo
  exact res_of s2_113 (res_f hc h)
theorem t2_116 {go : Nat → St → Option ORes} (hgo : go = orun method_8_code (Option.some Jvm.ClassFile.FieldType.boolean) E2 1) {n cs ss : Nat} {L : List Slot} {S : List Value} {H : AH} {q : Option ORes → Prop} (h : Rsq (go n (117, L, (.int 1 :: S), H, cs, ss)) q) : Rsq (go (n + 1) (116, L, S, H, cs, ss)) q := by
  subst hgo
  exact res_of s2_116 h
theorem t2_117 {go : Nat → St → Option ORes} (hgo : go = orun method_8_code (Option.some Jvm.ClassFile.FieldType.boolean) E2 1) {n cs ss : Nat} {L : List Slot} {S : List Value} {H : AH} {q : Option ORes → Prop} (h : Rsq (go n (121, L, S, H, cs, ss)) q) : Rsq (go (n + 1) (117, L, S, H, cs, ss)) q := by
  subst hgo
  exact res_of s2_117 h
theorem t2_120 {go : Nat → St → Option ORes} (hgo : go = orun method_8_code (Option.some Jvm.ClassFile.FieldType.boolean) E2 1) {n cs ss : Nat} {L : List Slot} {S : List Value} {H : AH} {q : Option ORes → Prop} (h : Rsq (go n (121, L, (.int 0 :: S), H, cs, ss)) q) : Rsq (go (n + 1) (120, L, S, H, cs, ss)) q := by
  subst hgo
  exact res_of s2_120 h
theorem t2_121 {go : Nat → St → Option ORes} (hgo : go = orun method_8_code (Option.some Jvm.ClassFile.FieldType.boolean) E2 1) {n cs ss : Nat} {l0 l1 l2 l3 : Slot} {S : List Value} {H : AH} {q : Option ORes → Prop} {x : Int32} (hk : so l3 = true) (h : Rsq (go n (122, [l0, l1, l2, .val (.int x)], S, H, cs, ss)) q) : Rsq (go (n + 1) (121, [l0, l1, l2, l3], (.int x :: S), H, cs, ss)) q := by
  subst hgo
  refine res_of s2_121 ?_
  rw [pI_int, st1_so (L := [l0, l1, l2, l3]) (k := 3) (l := l3) rfl hk]
  exact h
theorem t2_122 {go : Nat → St → Option ORes} (hgo : go = orun method_8_code (Option.some Jvm.ClassFile.FieldType.boolean) E2 1) {n cs ss : Nat} {l0 l1 l2 : Slot} {S : List Value} {H : AH} {q : Option ORes → Prop} {v : Int32} (h : Rsq (go n (123, [l0, l1, l2, .val (.int v)], (.int v :: S), H, cs, ss)) q) : Rsq (go (n + 1) (122, [l0, l1, l2, .val (.int v)], S, H, cs, ss)) q := by
  subst hgo
  exact res_of s2_122 h
theorem t2_123t {go : Nat → St → Option ORes} (hgo : go = orun method_8_code (Option.some Jvm.ClassFile.FieldType.boolean) E2 1) {n cs ss : Nat} {L : List Slot} {S : List Value} {H : AH} {q : Option ORes → Prop} {x : Int32} (hc : x = 0) (h : Rsq (go n (141, L, S, H, cs, ss)) q) : Rsq (go (n + 1) (123, L, (.int x :: S), H, cs, ss)) q := by
  subst hgo
  exact res_of s2_123 (res_t hc h)
theorem t2_123f {go : Nat → St → Option ORes} (hgo : go = orun method_8_code (Option.some Jvm.ClassFile.FieldType.boolean) E2 1) {n cs ss : Nat} {L : List Slot} {S : List Value} {H : AH} {q : Option ORes → Prop} {x : Int32} (hc : ¬ x = 0) (h : Rsq (go n (126, L, S, H, cs, ss)) q) : Rsq (go (n + 1) (123, L, (.int x :: S), H, cs, ss)) q := by
  subst hgo
  exact res_of s2_123 (res_f hc h)
theorem t2_126 {go : Nat → St → Option ORes} (hgo : go = orun method_8_code (Option.some Jvm.ClassFile.FieldType.boolean) E2 1) {n cs ss : Nat} {l1 l2 l3 : Slot} {S : List Value} {H : AH} {q : Option ORes → Prop} {v : Value} (hv : isA v = true) (h : Rsq (go n (127, [.val v, l1, l2, l3], (v :: S), H, cs, ss)) q) : Rsq (go (n + 1) (126, [.val v, l1, l2, l3], S, H, cs, ss)) q := by
  subst hgo
  refine res_of s2_126 ?_
  rw [gA_isA (L := [.val v, l1, l2, l3]) (k := 0) (v := v) rfl hv]
  exact h
theorem t2_127 {go : Nat → St → Option ORes} (hgo : go = orun method_8_code (Option.some Jvm.ClassFile.FieldType.boolean) E2 1) {n cs ss : Nat} {l0 l2 l3 : Slot} {S : List Value} {H : AH} {q : Option ORes → Prop} {v : Int32} (h : Rsq (go n (128, [l0, .val (.int v), l2, l3], (.int v :: S), H, cs, ss)) q) : Rsq (go (n + 1) (127, [l0, .val (.int v), l2, l3], S, H, cs, ss)) q := by
  subst hgo
  exact res_of s2_127 h
theorem t2_128 {go : Nat → St → Option ORes} (hgo : go = orun method_8_code (Option.some Jvm.ClassFile.FieldType.boolean) E2 1) {n cs ss : Nat} {l0 l1 l3 : Slot} {S : List Value} {H : AH} {q : Option ORes → Prop} {v : Int32} (h : Rsq (go n (129, [l0, l1, .val (.int v), l3], (.int v :: S), H, cs, ss)) q) : Rsq (go (n + 1) (128, [l0, l1, .val (.int v), l3], S, H, cs, ss)) q := by
  subst hgo
  exact res_of s2_128 h
theorem t2_129 {go : Nat → St → Option ORes} (hgo : go = orun method_8_code (Option.some Jvm.ClassFile.FieldType.boolean) E2 1) {n cs ss : Nat} {L : List Slot} {S : List Value} {H : AH} {q : Option ORes → Prop} (h : Rsq (go n (131, L, (.int 6 :: S), H, cs, ss)) q) : Rsq (go (n + 1) (129, L, S, H, cs, ss)) q := by
  subst hgo
  exact res_of s2_129 h
theorem u2_131 {go : Nat → St → Option ORes} (hgo : go = orun method_8_code (Option.some Jvm.ClassFile.FieldType.boolean) E2 1) {n cs ss : Nat} {L : List Slot} {S : List Value} {H : AH} : go (n + 1) (131, L, S, H, cs, ss) = (aCall 4 6 11 110 1 10 F3 S H cs ss).bind fun r => go n (134, L, r.1, r.2.1, r.2.2.1, r.2.2.2) := by
  subst hgo
  exact s2_131
theorem t2_134t {go : Nat → St → Option ORes} (hgo : go = orun method_8_code (Option.some Jvm.ClassFile.FieldType.boolean) E2 1) {n cs ss : Nat} {L : List Slot} {S : List Value} {H : AH} {q : Option ORes → Prop} {x : Int32} (hc : x = 0) (h : Rsq (go n (141, L, S, H, cs, ss)) q) : Rsq (go (n + 1) (134, L, (.int x :: S), H, cs, ss)) q := by
  subst hgo
  exact res_of s2_134 (res_t hc h)
theorem t2_134f {go : Nat → St → Option ORes} (hgo : go = orun method_8_code (Option.some Jvm.ClassFile.FieldType.boolean) E2 1) {n cs ss : Nat} {L : List Slot} {S : List Value} {H : AH} {q : Option ORes → Prop} {x : Int32} (hc : ¬ x = 0) (h : Rsq (go n (137, L, S, H, cs, ss)) q) : Rsq (go (n + 1) (134, L, (.int x :: S), H, cs, ss)) q := by
  subst hgo
  exact res_of s2_134 (res_f hc h)
theorem t2_137 {go : Nat → St → Option ORes} (hgo : go = orun method_8_code (Option.some Jvm.ClassFile.FieldType.boolean) E2 1) {n cs ss : Nat} {L : List Slot} {S : List Value} {H : AH} {q : Option ORes → Prop} (h : Rsq (go n (138, L, (.int 1 :: S), H, cs, ss)) q) : Rsq (go (n + 1) (137, L, S, H, cs, ss)) q := by
  subst hgo
  exact res_of s2_137 h
theorem t2_138 {go : Nat → St → Option ORes} (hgo : go = orun method_8_code (Option.some Jvm.ClassFile.FieldType.boolean) E2 1) {n cs ss : Nat} {L : List Slot} {S : List Value} {H : AH} {q : Option ORes → Prop} (h : Rsq (go n (142, L, S, H, cs, ss)) q) : Rsq (go (n + 1) (138, L, S, H, cs, ss)) q := by
  subst hgo
  exact res_of s2_138 h
theorem t2_141 {go : Nat → St → Option ORes} (hgo : go = orun method_8_code (Option.some Jvm.ClassFile.FieldType.boolean) E2 1) {n cs ss : Nat} {L : List Slot} {S : List Value} {H : AH} {q : Option ORes → Prop} (h : Rsq (go n (142, L, (.int 0 :: S), H, cs, ss)) q) : Rsq (go (n + 1) (141, L, S, H, cs, ss)) q := by
  subst hgo
  exact res_of s2_141 h
theorem t2_142 {go : Nat → St → Option ORes} (hgo : go = orun method_8_code (Option.some Jvm.ClassFile.FieldType.boolean) E2 1) {n cs ss : Nat} {l0 l1 l2 l3 : Slot} {S : List Value} {H : AH} {q : Option ORes → Prop} {x : Int32} (hk : so l3 = true) (h : Rsq (go n (143, [l0, l1, l2, .val (.int x)], S, H, cs, ss)) q) : Rsq (go (n + 1) (142, [l0, l1, l2, l3], (.int x :: S), H, cs, ss)) q := by
  subst hgo
  refine res_of s2_142 ?_
  rw [pI_int, st1_so (L := [l0, l1, l2, l3]) (k := 3) (l := l3) rfl hk]
  exact h
theorem t2_143 {go : Nat → St → Option ORes} (hgo : go = orun method_8_code (Option.some Jvm.ClassFile.FieldType.boolean) E2 1) {n cs ss : Nat} {l0 l1 l2 : Slot} {S : List Value} {H : AH} {q : Option ORes → Prop} {v : Int32} (h : Rsq (go n (144, [l0, l1, l2, .val (.int v)], (.int v :: S), H, cs, ss)) q) : Rsq (go (n + 1) (143, [l0, l1, l2, .val (.int v)], S, H, cs, ss)) q := by
  subst hgo
  exact res_of s2_143 h
theorem t2_144t {go : Nat → St → Option ORes} (hgo : go = orun method_8_code (Option.some Jvm.ClassFile.FieldType.boolean) E2 1) {n cs ss : Nat} {L : List Slot} {S : List Value} {H : AH} {q : Option ORes → Prop} {x : Int32} (hc : x = 0) (h : Rsq (go n (162, L, S, H, cs, ss)) q) : Rsq (go (n + 1) (144, L, (.int x :: S), H, cs, ss)) q := by
  subst hgo
  exact res_of s2_144 (res_t hc h)
theorem t2_144f {go : Nat → St → Option ORes} (hgo : go = orun method_8_code (Option.some Jvm.ClassFile.FieldType.boolean) E2 1) {n cs ss : Nat} {L : List Slot} {S : List Value} {H : AH} {q : Option ORes → Prop} {x : Int32} (hc : ¬ x = 0) (h : Rsq (go n (147, L, S, H, cs, ss)) q) : Rsq (go (n + 1) (144, L, (.int x :: S), H, cs, ss)) q := by
  subst hgo
  exact res_of s2_144 (res_f hc h)
theorem t2_147 {go : Nat → St → Option ORes} (hgo : go = orun method_8_code (Option.some Jvm.ClassFile.FieldType.boolean) E2 1) {n cs ss : Nat} {l1 l2 l3 : Slot} {S : List Value} {H : AH} {q : Option ORes → Prop} {v : Value} (hv : isA v = true) (h : Rsq (go n (148, [.val v, l1, l2, l3], (v :: S), H, cs, ss)) q) : Rsq (go (n + 1) (147, [.val v, l1, l2, l3], S, H, cs, ss)) q := by
  subst hgo
  refine res_of s2_147 ?_
  rw [gA_isA (L := [.val v, l1, l2, l3]) (k := 0) (v := v) rfl hv]
  exact h
theorem t2_148 {go : Nat → St → Option ORes} (hgo : go = orun method_8_code (Option.some Jvm.ClassFile.FieldType.boolean) E2 1) {n cs ss : Nat} {l0 l2 l3 : Slot} {S : List Value} {H : AH} {q : Option ORes → Prop} {v : Int32} (h : Rsq (go n (149, [l0, .val (.int v), l2, l3], (.int v :: S), H, cs, ss)) q) : Rsq (go (n + 1) (148, [l0, .val (.int v), l2, l3], S, H, cs, ss)) q := by
  subst hgo
  exact res_of s2_148 h
theorem t2_149 {go : Nat → St → Option ORes} (hgo : go = orun method_8_code (Option.some Jvm.ClassFile.FieldType.boolean) E2 1) {n cs ss : Nat} {l0 l1 l3 : Slot} {S : List Value} {H : AH} {q : Option ORes → Prop} {v : Int32} (h : Rsq (go n (150, [l0, l1, .val (.int v), l3], (.int v :: S), H, cs, ss)) q) : Rsq (go (n + 1) (149, [l0, l1, .val (.int v), l3], S, H, cs, ss)) q := by
  subst hgo
  exact res_of s2_149 h
theorem t2_150 {go : Nat → St → Option ORes} (hgo : go = orun method_8_code (Option.some Jvm.ClassFile.FieldType.boolean) E2 1) {n cs ss : Nat} {L : List Slot} {S : List Value} {H : AH} {q : Option ORes → Prop} (h : Rsq (go n (152, L, (.int 7 :: S), H, cs, ss)) q) : Rsq (go (n + 1) (150, L, S, H, cs, ss)) q := by
  subst hgo
  exact res_of s2_150 h
theorem u2_152 {go : Nat → St → Option ORes} (hgo : go = orun method_8_code (Option.some Jvm.ClassFile.FieldType.boolean) E2 1) {n cs ss : Nat} {L : List Slot} {S : List Value} {H : AH} : go (n + 1) (152, L, S, H, cs, ss) = (aCall 4 6 11 110 1 10 F3 S H cs ss).bind fun r => go n (155, L, r.1, r.2.1, r.2.2.1, r.2.2.2) := by
  subst hgo
  exact s2_152
theorem t2_155t {go : Nat → St → Option ORes} (hgo : go = orun method_8_code (Option.some Jvm.ClassFile.FieldType.boolean) E2 1) {n cs ss : Nat} {L : List Slot} {S : List Value} {H : AH} {q : Option ORes → Prop} {x : Int32} (hc : x = 0) (h : Rsq (go n (162, L, S, H, cs, ss)) q) : Rsq (go (n + 1) (155, L, (.int x :: S), H, cs, ss)) q := by
  subst hgo
  exact res_of s2_155 (res_t hc h)
theorem t2_155f {go : Nat → St → Option ORes} (hgo : go = orun method_8_code (Option.some Jvm.ClassFile.FieldType.boolean) E2 1) {n cs ss : Nat} {L : List Slot} {S : List Value} {H : AH} {q : Option ORes → Prop} {x : Int32} (hc : ¬ x = 0) (h : Rsq (go n (158, L, S, H, cs, ss)) q) : Rsq (go (n + 1) (155, L, (.int x :: S), H, cs, ss)) q := by
  subst hgo
  exact res_of s2_155 (res_f hc h)
theorem t2_158 {go : Nat → St → Option ORes} (hgo : go = orun method_8_code (Option.some Jvm.ClassFile.FieldType.boolean) E2 1) {n cs ss : Nat} {L : List Slot} {S : List Value} {H : AH} {q : Option ORes → Prop} (h : Rsq (go n (159, L, (.int 1 :: S), H, cs, ss)) q) : Rsq (go (n + 1) (158, L, S, H, cs, ss)) q := by
  subst hgo
  exact res_of s2_158 h
theorem t2_159 {go : Nat → St → Option ORes} (hgo : go = orun method_8_code (Option.some Jvm.ClassFile.FieldType.boolean) E2 1) {n cs ss : Nat} {L : List Slot} {S : List Value} {H : AH} {q : Option ORes → Prop} (h : Rsq (go n (163, L, S, H, cs, ss)) q) : Rsq (go (n + 1) (159, L, S, H, cs, ss)) q := by
  subst hgo
  exact res_of s2_159 h
theorem t2_162 {go : Nat → St → Option ORes} (hgo : go = orun method_8_code (Option.some Jvm.ClassFile.FieldType.boolean) E2 1) {n cs ss : Nat} {L : List Slot} {S : List Value} {H : AH} {q : Option ORes → Prop} (h : Rsq (go n (163, L, (.int 0 :: S), H, cs, ss)) q) : Rsq (go (n + 1) (162, L, S, H, cs, ss)) q := by
  subst hgo
  exact res_of s2_162 h
theorem t2_163 {go : Nat → St → Option ORes} (hgo : go = orun method_8_code (Option.some Jvm.ClassFile.FieldType.boolean) E2 1) {n cs ss : Nat} {l0 l1 l2 l3 : Slot} {S : List Value} {H : AH} {q : Option ORes → Prop} {x : Int32} (hk : so l3 = true) (h : Rsq (go n (164, [l0, l1, l2, .val (.int x)], S, H, cs, ss)) q) : Rsq (go (n + 1) (163, [l0, l1, l2, l3], (.int x :: S), H, cs, ss)) q := by
  subst hgo
  refine res_of s2_163 ?_
  rw [pI_int, st1_so (L := [l0, l1, l2, l3]) (k := 3) (l := l3) rfl hk]
  exact h
theorem t2_164 {go : Nat → St → Option ORes} (hgo : go = orun method_8_code (Option.some Jvm.ClassFile.FieldType.boolean) E2 1) {n cs ss : Nat} {l0 l1 l2 : Slot} {S : List Value} {H : AH} {q : Option ORes → Prop} {v : Int32} (h : Rsq (go n (165, [l0, l1, l2, .val (.int v)], (.int v :: S), H, cs, ss)) q) : Rsq (go (n + 1) (164, [l0, l1, l2, .val (.int v)], S, H, cs, ss)) q := by
  subst hgo
  exact res_of s2_164 h
theorem t2_165t {go : Nat → St → Option ORes} (hgo : go = orun method_8_code (Option.some Jvm.ClassFile.FieldType.boolean) E2 1) {n cs ss : Nat} {L : List Slot} {S : List Value} {H : AH} {q : Option ORes → Prop} {x : Int32} (hc : x = 0) (h : Rsq (go n (183, L, S, H, cs, ss)) q) : Rsq (go (n + 1) (165, L, (.int x :: S), H, cs, ss)) q := by
  subst hgo
  exact res_of s2_165 (res_t hc h)
theorem t2_165f {go : Nat → St → Option ORes} (hgo : go = orun method_8_code (Option.some Jvm.ClassFile.FieldType.boolean) E2 1) {n cs ss : Nat} {L : List Slot} {S : List Value} {H : AH} {q : Option ORes → Prop} {x : Int32} (hc : ¬ x = 0) (h : Rsq (go n (168, L, S, H, cs, ss)) q) : Rsq (go (n + 1) (165, L, (.int x :: S), H, cs, ss)) q := by
  subst hgo
  exact res_of s2_165 (res_f hc h)
theorem t2_168 {go : Nat → St → Option ORes} (hgo : go = orun method_8_code (Option.some Jvm.ClassFile.FieldType.boolean) E2 1) {n cs ss : Nat} {l1 l2 l3 : Slot} {S : List Value} {H : AH} {q : Option ORes → Prop} {v : Value} (hv : isA v = true) (h : Rsq (go n (169, [.val v, l1, l2, l3], (v :: S), H, cs, ss)) q) : Rsq (go (n + 1) (168, [.val v, l1, l2, l3], S, H, cs, ss)) q := by
  subst hgo
  refine res_of s2_168 ?_
  rw [gA_isA (L := [.val v, l1, l2, l3]) (k := 0) (v := v) rfl hv]
  exact h
theorem t2_169 {go : Nat → St → Option ORes} (hgo : go = orun method_8_code (Option.some Jvm.ClassFile.FieldType.boolean) E2 1) {n cs ss : Nat} {l0 l2 l3 : Slot} {S : List Value} {H : AH} {q : Option ORes → Prop} {v : Int32} (h : Rsq (go n (170, [l0, .val (.int v), l2, l3], (.int v :: S), H, cs, ss)) q) : Rsq (go (n + 1) (169, [l0, .val (.int v), l2, l3], S, H, cs, ss)) q := by
  subst hgo
  exact res_of s2_169 h
theorem t2_170 {go : Nat → St → Option ORes} (hgo : go = orun method_8_code (Option.some Jvm.ClassFile.FieldType.boolean) E2 1) {n cs ss : Nat} {l0 l1 l3 : Slot} {S : List Value} {H : AH} {q : Option ORes → Prop} {v : Int32} (h : Rsq (go n (171, [l0, l1, .val (.int v), l3], (.int v :: S), H, cs, ss)) q) : Rsq (go (n + 1) (170, [l0, l1, .val (.int v), l3], S, H, cs, ss)) q := by
  subst hgo
  exact res_of s2_170 h
theorem t2_171 {go : Nat → St → Option ORes} (hgo : go = orun method_8_code (Option.some Jvm.ClassFile.FieldType.boolean) E2 1) {n cs ss : Nat} {L : List Slot} {S : List Value} {H : AH} {q : Option ORes → Prop} (h : Rsq (go n (173, L, (.int 8 :: S), H, cs, ss)) q) : Rsq (go (n + 1) (171, L, S, H, cs, ss)) q := by
  subst hgo
  exact res_of s2_171 h
theorem u2_173 {go : Nat → St → Option ORes} (hgo : go = orun method_8_code (Option.some Jvm.ClassFile.FieldType.boolean) E2 1) {n cs ss : Nat} {L : List Slot} {S : List Value} {H : AH} : go (n + 1) (173, L, S, H, cs, ss) = (aCall 4 6 11 110 1 10 F3 S H cs ss).bind fun r => go n (176, L, r.1, r.2.1, r.2.2.1, r.2.2.2) := by
  subst hgo
  exact s2_173
theorem t2_176t {go : Nat → St → Option ORes} (hgo : go = orun method_8_code (Option.some Jvm.ClassFile.FieldType.boolean) E2 1) {n cs ss : Nat} {L : List Slot} {S : List Value} {H : AH} {q : Option ORes → Prop} {x : Int32} (hc : x = 0) (h : Rsq (go n (183, L, S, H, cs, ss)) q) : Rsq (go (n + 1) (176, L, (.int x :: S), H, cs, ss)) q := by
  subst hgo
  exact res_of s2_176 (res_t hc h)
theorem t2_176f {go : Nat → St → Option ORes} (hgo : go = orun method_8_code (Option.some Jvm.ClassFile.FieldType.boolean) E2 1) {n cs ss : Nat} {L : List Slot} {S : List Value} {H : AH} {q : Option ORes → Prop} {x : Int32} (hc : ¬ x = 0) (h : Rsq (go n (179, L, S, H, cs, ss)) q) : Rsq (go (n + 1) (176, L, (.int x :: S), H, cs, ss)) q := by
  subst hgo
  exact res_of s2_176 (res_f hc h)
theorem t2_179 {go : Nat → St → Option ORes} (hgo : go = orun method_8_code (Option.some Jvm.ClassFile.FieldType.boolean) E2 1) {n cs ss : Nat} {L : List Slot} {S : List Value} {H : AH} {q : Option ORes → Prop} (h : Rsq (go n (180, L, (.int 1 :: S), H, cs, ss)) q) : Rsq (go (n + 1) (179, L, S, H, cs, ss)) q := by
  subst hgo
  exact res_of s2_179 h
theorem t2_180 {go : Nat → St → Option ORes} (hgo : go = orun method_8_code (Option.some Jvm.ClassFile.FieldType.boolean) E2 1) {n cs ss : Nat} {L : List Slot} {S : List Value} {H : AH} {q : Option ORes → Prop} (h : Rsq (go n (184, L, S, H, cs, ss)) q) : Rsq (go (n + 1) (180, L, S, H, cs, ss)) q := by
  subst hgo
  exact res_of s2_180 h
theorem t2_183 {go : Nat → St → Option ORes} (hgo : go = orun method_8_code (Option.some Jvm.ClassFile.FieldType.boolean) E2 1) {n cs ss : Nat} {L : List Slot} {S : List Value} {H : AH} {q : Option ORes → Prop} (h : Rsq (go n (184, L, (.int 0 :: S), H, cs, ss)) q) : Rsq (go (n + 1) (183, L, S, H, cs, ss)) q := by
  subst hgo
  exact res_of s2_183 h
theorem t2_184 {go : Nat → St → Option ORes} (hgo : go = orun method_8_code (Option.some Jvm.ClassFile.FieldType.boolean) E2 1) {n cs ss : Nat} {l0 l1 l2 l3 : Slot} {S : List Value} {H : AH} {q : Option ORes → Prop} {x : Int32} (hk : so l3 = true) (h : Rsq (go n (185, [l0, l1, l2, .val (.int x)], S, H, cs, ss)) q) : Rsq (go (n + 1) (184, [l0, l1, l2, l3], (.int x :: S), H, cs, ss)) q := by
  subst hgo
  refine res_of s2_184 ?_
  rw [pI_int, st1_so (L := [l0, l1, l2, l3]) (k := 3) (l := l3) rfl hk]
  exact h
theorem t2_185 {go : Nat → St → Option ORes} (hgo : go = orun method_8_code (Option.some Jvm.ClassFile.FieldType.boolean) E2 1) {n cs ss : Nat} {l0 l1 l2 : Slot} {S : List Value} {H : AH} {q : Option ORes → Prop} {v : Int32} (h : Rsq (go n (186, [l0, l1, l2, .val (.int v)], (.int v :: S), H, cs, ss)) q) : Rsq (go (n + 1) (185, [l0, l1, l2, .val (.int v)], S, H, cs, ss)) q := by
  subst hgo
  exact res_of s2_185 h
theorem t2_186t {go : Nat → St → Option ORes} (hgo : go = orun method_8_code (Option.some Jvm.ClassFile.FieldType.boolean) E2 1) {n cs ss : Nat} {L : List Slot} {S : List Value} {H : AH} {q : Option ORes → Prop} {x : Int32} (hc : x = 0) (h : Rsq (go n (204, L, S, H, cs, ss)) q) : Rsq (go (n + 1) (186, L, (.int x :: S), H, cs, ss)) q := by
  subst hgo
  exact res_of s2_186 (res_t hc h)
theorem t2_186f {go : Nat → St → Option ORes} (hgo : go = orun method_8_code (Option.some Jvm.ClassFile.FieldType.boolean) E2 1) {n cs ss : Nat} {L : List Slot} {S : List Value} {H : AH} {q : Option ORes → Prop} {x : Int32} (hc : ¬ x = 0) (h : Rsq (go n (189, L, S, H, cs, ss)) q) : Rsq (go (n + 1) (186, L, (.int x :: S), H, cs, ss)) q := by
  subst hgo
  exact res_of s2_186 (res_f hc h)
theorem t2_189 {go : Nat → St → Option ORes} (hgo : go = orun method_8_code (Option.some Jvm.ClassFile.FieldType.boolean) E2 1) {n cs ss : Nat} {l1 l2 l3 : Slot} {S : List Value} {H : AH} {q : Option ORes → Prop} {v : Value} (hv : isA v = true) (h : Rsq (go n (190, [.val v, l1, l2, l3], (v :: S), H, cs, ss)) q) : Rsq (go (n + 1) (189, [.val v, l1, l2, l3], S, H, cs, ss)) q := by
  subst hgo
  refine res_of s2_189 ?_
  rw [gA_isA (L := [.val v, l1, l2, l3]) (k := 0) (v := v) rfl hv]
  exact h
theorem t2_190 {go : Nat → St → Option ORes} (hgo : go = orun method_8_code (Option.some Jvm.ClassFile.FieldType.boolean) E2 1) {n cs ss : Nat} {l0 l2 l3 : Slot} {S : List Value} {H : AH} {q : Option ORes → Prop} {v : Int32} (h : Rsq (go n (191, [l0, .val (.int v), l2, l3], (.int v :: S), H, cs, ss)) q) : Rsq (go (n + 1) (190, [l0, .val (.int v), l2, l3], S, H, cs, ss)) q := by
  subst hgo
  exact res_of s2_190 h
theorem t2_191 {go : Nat → St → Option ORes} (hgo : go = orun method_8_code (Option.some Jvm.ClassFile.FieldType.boolean) E2 1) {n cs ss : Nat} {l0 l1 l3 : Slot} {S : List Value} {H : AH} {q : Option ORes → Prop} {v : Int32} (h : Rsq (go n (192, [l0, l1, .val (.int v), l3], (.int v :: S), H, cs, ss)) q) : Rsq (go (n + 1) (191, [l0, l1, .val (.int v), l3], S, H, cs, ss)) q := by
  subst hgo
  exact res_of s2_191 h
theorem t2_192 {go : Nat → St → Option ORes} (hgo : go = orun method_8_code (Option.some Jvm.ClassFile.FieldType.boolean) E2 1) {n cs ss : Nat} {L : List Slot} {S : List Value} {H : AH} {q : Option ORes → Prop} (h : Rsq (go n (194, L, (.int 9 :: S), H, cs, ss)) q) : Rsq (go (n + 1) (192, L, S, H, cs, ss)) q := by
  subst hgo
  exact res_of s2_192 h
theorem u2_194 {go : Nat → St → Option ORes} (hgo : go = orun method_8_code (Option.some Jvm.ClassFile.FieldType.boolean) E2 1) {n cs ss : Nat} {L : List Slot} {S : List Value} {H : AH} : go (n + 1) (194, L, S, H, cs, ss) = (aCall 4 6 11 110 1 10 F3 S H cs ss).bind fun r => go n (197, L, r.1, r.2.1, r.2.2.1, r.2.2.2) := by
  subst hgo
  exact s2_194
theorem t2_197t {go : Nat → St → Option ORes} (hgo : go = orun method_8_code (Option.some Jvm.ClassFile.FieldType.boolean) E2 1) {n cs ss : Nat} {L : List Slot} {S : List Value} {H : AH} {q : Option ORes → Prop} {x : Int32} (hc : x = 0) (h : Rsq (go n (204, L, S, H, cs, ss)) q) : Rsq (go (n + 1) (197, L, (.int x :: S), H, cs, ss)) q := by
  subst hgo
  exact res_of s2_197 (res_t hc h)
theorem t2_197f {go : Nat → St → Option ORes} (hgo : go = orun method_8_code (Option.some Jvm.ClassFile.FieldType.boolean) E2 1) {n cs ss : Nat} {L : List Slot} {S : List Value} {H : AH} {q : Option ORes → Prop} {x : Int32} (hc : ¬ x = 0) (h : Rsq (go n (200, L, S, H, cs, ss)) q) : Rsq (go (n + 1) (197, L, (.int x :: S), H, cs, ss)) q := by
  subst hgo
  exact res_of s2_197 (res_f hc h)
theorem t2_200 {go : Nat → St → Option ORes} (hgo : go = orun method_8_code (Option.some Jvm.ClassFile.FieldType.boolean) E2 1) {n cs ss : Nat} {L : List Slot} {S : List Value} {H : AH} {q : Option ORes → Prop} (h : Rsq (go n (201, L, (.int 1 :: S), H, cs, ss)) q) : Rsq (go (n + 1) (200, L, S, H, cs, ss)) q := by
  subst hgo
  exact res_of s2_200 h
theorem t2_201 {go : Nat → St → Option ORes} (hgo : go = orun method_8_code (Option.some Jvm.ClassFile.FieldType.boolean) E2 1) {n cs ss : Nat} {L : List Slot} {S : List Value} {H : AH} {q : Option ORes → Prop} (h : Rsq (go n (205, L, S, H, cs, ss)) q) : Rsq (go (n + 1) (201, L, S, H, cs, ss)) q := by
  subst hgo
  exact res_of s2_201 h
theorem t2_204 {go : Nat → St → Option ORes} (hgo : go = orun method_8_code (Option.some Jvm.ClassFile.FieldType.boolean) E2 1) {n cs ss : Nat} {L : List Slot} {S : List Value} {H : AH} {q : Option ORes → Prop} (h : Rsq (go n (205, L, (.int 0 :: S), H, cs, ss)) q) : Rsq (go (n + 1) (204, L, S, H, cs, ss)) q := by
  subst hgo
  exact res_of s2_204 h
theorem t2_205 {go : Nat → St → Option ORes} (hgo : go = orun method_8_code (Option.some Jvm.ClassFile.FieldType.boolean) E2 1) {n cs ss : Nat} {l0 l1 l2 l3 : Slot} {S : List Value} {H : AH} {q : Option ORes → Prop} {x : Int32} (hk : so l3 = true) (h : Rsq (go n (206, [l0, l1, l2, .val (.int x)], S, H, cs, ss)) q) : Rsq (go (n + 1) (205, [l0, l1, l2, l3], (.int x :: S), H, cs, ss)) q := by
  subst hgo
  refine res_of s2_205 ?_
  rw [pI_int, st1_so (L := [l0, l1, l2, l3]) (k := 3) (l := l3) rfl hk]
  exact h
theorem t2_206 {go : Nat → St → Option ORes} (hgo : go = orun method_8_code (Option.some Jvm.ClassFile.FieldType.boolean) E2 1) {n cs ss : Nat} {l0 l1 l2 : Slot} {S : List Value} {H : AH} {q : Option ORes → Prop} {v : Int32} (h : Rsq (go n (207, [l0, l1, l2, .val (.int v)], (.int v :: S), H, cs, ss)) q) : Rsq (go (n + 1) (206, [l0, l1, l2, .val (.int v)], S, H, cs, ss)) q := by
  subst hgo
  exact res_of s2_206 h
theorem t2_207t {go : Nat → St → Option ORes} (hgo : go = orun method_8_code (Option.some Jvm.ClassFile.FieldType.boolean) E2 1) {n cs ss : Nat} {L : List Slot} {S : List Value} {H : AH} {q : Option ORes → Prop} {x : Int32} (hc : x = 0) (h : Rsq (go n (225, L, S, H, cs, ss)) q) : Rsq (go (n + 1) (207, L, (.int x :: S), H, cs, ss)) q := by
  subst hgo
  exact res_of s2_207 (res_t hc h)
theorem t2_207f {go : Nat → St → Option ORes} (hgo : go = orun method_8_code (Option.some Jvm.ClassFile.FieldType.boolean) E2 1) {n cs ss : Nat} {L : List Slot} {S : List Value} {H : AH} {q : Option ORes → Prop} {x : Int32} (hc : ¬ x = 0) (h : Rsq (go n (210, L, S, H, cs, ss)) q) : Rsq (go (n + 1) (207, L, (.int x :: S), H, cs, ss)) q := by
  subst hgo
  exact res_of s2_207 (res_f hc h)
theorem t2_210 {go : Nat → St → Option ORes} (hgo : go = orun method_8_code (Option.some Jvm.ClassFile.FieldType.boolean) E2 1) {n cs ss : Nat} {l1 l2 l3 : Slot} {S : List Value} {H : AH} {q : Option ORes → Prop} {v : Value} (hv : isA v = true) (h : Rsq (go n (211, [.val v, l1, l2, l3], (v :: S), H, cs, ss)) q) : Rsq (go (n + 1) (210, [.val v, l1, l2, l3], S, H, cs, ss)) q := by
  subst hgo
  refine res_of s2_210 ?_
  rw [gA_isA (L := [.val v, l1, l2, l3]) (k := 0) (v := v) rfl hv]
  exact h
theorem t2_211 {go : Nat → St → Option ORes} (hgo : go = orun method_8_code (Option.some Jvm.ClassFile.FieldType.boolean) E2 1) {n cs ss : Nat} {l0 l2 l3 : Slot} {S : List Value} {H : AH} {q : Option ORes → Prop} {v : Int32} (h : Rsq (go n (212, [l0, .val (.int v), l2, l3], (.int v :: S), H, cs, ss)) q) : Rsq (go (n + 1) (211, [l0, .val (.int v), l2, l3], S, H, cs, ss)) q := by
  subst hgo
  exact res_of s2_211 h
theorem t2_212 {go : Nat → St → Option ORes} (hgo : go = orun method_8_code (Option.some Jvm.ClassFile.FieldType.boolean) E2 1) {n cs ss : Nat} {l0 l1 l3 : Slot} {S : List Value} {H : AH} {q : Option ORes → Prop} {v : Int32} (h : Rsq (go n (213, [l0, l1, .val (.int v), l3], (.int v :: S), H, cs, ss)) q) : Rsq (go (n + 1) (212, [l0, l1, .val (.int v), l3], S, H, cs, ss)) q := by
  subst hgo
  exact res_of s2_212 h
theorem t2_213 {go : Nat → St → Option ORes} (hgo : go = orun method_8_code (Option.some Jvm.ClassFile.FieldType.boolean) E2 1) {n cs ss : Nat} {L : List Slot} {S : List Value} {H : AH} {q : Option ORes → Prop} (h : Rsq (go n (215, L, (.int 10 :: S), H, cs, ss)) q) : Rsq (go (n + 1) (213, L, S, H, cs, ss)) q := by
  subst hgo
  exact res_of s2_213 h
theorem u2_215 {go : Nat → St → Option ORes} (hgo : go = orun method_8_code (Option.some Jvm.ClassFile.FieldType.boolean) E2 1) {n cs ss : Nat} {L : List Slot} {S : List Value} {H : AH} : go (n + 1) (215, L, S, H, cs, ss) = (aCall 4 6 11 110 1 10 F3 S H cs ss).bind fun r => go n (218, L, r.1, r.2.1, r.2.2.1, r.2.2.2) := by
  subst hgo
  exact s2_215
theorem t2_218t {go : Nat → St → Option ORes} (hgo : go = orun method_8_code (Option.some Jvm.ClassFile.FieldType.boolean) E2 1) {n cs ss : Nat} {L : List Slot} {S : List Value} {H : AH} {q : Option ORes → Prop} {x : Int32} (hc : x = 0) (h : Rsq (go n (225, L, S, H, cs, ss)) q) : Rsq (go (n + 1) (218, L, (.int x :: S), H, cs, ss)) q := by
  subst hgo
  exact res_of s2_218 (res_t hc h)
theorem t2_218f {go : Nat → St → Option ORes} (hgo : go = orun method_8_code (Option.some Jvm.ClassFile.FieldType.boolean) E2 1) {n cs ss : Nat} {L : List Slot} {S : List Value} {H : AH} {q : Option ORes → Prop} {x : Int32} (hc : ¬ x = 0) (h : Rsq (go n (221, L, S, H, cs, ss)) q) : Rsq (go (n + 1) (218, L, (.int x :: S), H, cs, ss)) q := by
  subst hgo
  exact res_of s2_218 (res_f hc h)
theorem t2_221 {go : Nat → St → Option ORes} (hgo : go = orun method_8_code (Option.some Jvm.ClassFile.FieldType.boolean) E2 1) {n cs ss : Nat} {L : List Slot} {S : List Value} {H : AH} {q : Option ORes → Prop} (h : Rsq (go n (222, L, (.int 1 :: S), H, cs, ss)) q) : Rsq (go (n + 1) (221, L, S, H, cs, ss)) q := by
  subst hgo
  exact res_of s2_221 h
theorem t2_222 {go : Nat → St → Option ORes} (hgo : go = orun method_8_code (Option.some Jvm.ClassFile.FieldType.boolean) E2 1) {n cs ss : Nat} {L : List Slot} {S : List Value} {H : AH} {q : Option ORes → Prop} (h : Rsq (go n (226, L, S, H, cs, ss)) q) : Rsq (go (n + 1) (222, L, S, H, cs, ss)) q := by
  subst hgo
  exact res_of s2_222 h
theorem t2_225 {go : Nat → St → Option ORes} (hgo : go = orun method_8_code (Option.some Jvm.ClassFile.FieldType.boolean) E2 1) {n cs ss : Nat} {L : List Slot} {S : List Value} {H : AH} {q : Option ORes → Prop} (h : Rsq (go n (226, L, (.int 0 :: S), H, cs, ss)) q) : Rsq (go (n + 1) (225, L, S, H, cs, ss)) q := by
  subst hgo
  exact res_of s2_225 h
theorem t2_226 {go : Nat → St → Option ORes} (hgo : go = orun method_8_code (Option.some Jvm.ClassFile.FieldType.boolean) E2 1) {n cs ss : Nat} {l0 l1 l2 l3 : Slot} {S : List Value} {H : AH} {q : Option ORes → Prop} {x : Int32} (hk : so l3 = true) (h : Rsq (go n (227, [l0, l1, l2, .val (.int x)], S, H, cs, ss)) q) : Rsq (go (n + 1) (226, [l0, l1, l2, l3], (.int x :: S), H, cs, ss)) q := by
  subst hgo
  refine res_of s2_226 ?_
  rw [pI_int, st1_so (L := [l0, l1, l2, l3]) (k := 3) (l := l3) rfl hk]
  exact h
theorem t2_227 {go : Nat → St → Option ORes} (hgo : go = orun method_8_code (Option.some Jvm.ClassFile.FieldType.boolean) E2 1) {n cs ss : Nat} {l0 l1 l2 : Slot} {S : List Value} {H : AH} {q : Option ORes → Prop} {v : Int32} (h : Rsq (go n (228, [l0, l1, l2, .val (.int v)], (.int v :: S), H, cs, ss)) q) : Rsq (go (n + 1) (227, [l0, l1, l2, .val (.int v)], S, H, cs, ss)) q := by
  subst hgo
  exact res_of s2_227 h
theorem t2_228 {go : Nat → St → Option ORes} (hgo : go = orun method_8_code (Option.some Jvm.ClassFile.FieldType.boolean) E2 1) {n cs ss : Nat} {L : List Slot} {S : List Value} {H : AH} {q : Option ORes → Prop} {z : Int32} (h : q (some (some (.int (z &&& 1)), H))) : Rsq (go (n + 1) (228, L, (.int z :: S), H, cs, ss)) q := by
  subst hgo
  exact res_of s2_228 h
theorem f0_in {x0 : Int32} {x1 : Int32} {x2 : Int32} {x3 : Int32} {H : AH} : F0 [.int x0, .int x1, .int x2, .int x3] H = orun code ret E0 1 700 (0, [.val (.int x0), .val (.int x1), .val (.int x2), .val (.int x3), .unset, .unset, .unset, .unset, .unset, .unset, .unset, .unset, .unset, .unset], [], H, 0, 0) := rfl
theorem s0_0 {n cs ss : Nat} {L : List Slot} {S : List Value} {H : AH} : orun code ret E0 1 (n + 1) (0, L, S, H, cs, ss) = orun code ret E0 1 n (1, L, (.int 3 :: S), H, cs, ss) := s_any k0_0
theorem s0_1 {n cs ss : Nat} {L : List Slot} {S : List Value} {H : AH} : orun code ret E0 1 (n + 1) (1, L, S, H, cs, ss) = (aArr .int 56 576 S H cs ss).bind fun r => orun code ret E0 1 n (3, L, r.1, r.2.1, r.2.2.1, r.2.2.2) := s_any k0_1
theorem s0_3 {n cs ss : Nat} {L : List Slot} {S : List Value} {H : AH} : orun code ret E0 1 (n + 1) (3, L, S, H, cs, ss) = ex ret E0 1 (orun code ret E0 1 n) (.dup) 3 L S H cs ss := s_any k0_3
theorem s0_4 {n cs ss : Nat} {L : List Slot} {S : List Value} {H : AH} : orun code ret E0 1 (n + 1) (4, L, S, H, cs, ss) = orun code ret E0 1 n (5, L, (.int 0 :: S), H, cs, ss) := s_any k0_4
theorem s0_5 {n cs ss : Nat} {L : List Slot} {S : List Value} {H : AH} : orun code ret E0 1 (n + 1) (5, L, S, H, cs, ss) = (gI L 0).bind fun v => orun code ret E0 1 n (6, L, .int v :: S, H, cs, ss) := s_any k0_5
theorem s0_6 {n cs ss : Nat} {L : List Slot} {S : List Value} {H : AH} : orun code ret E0 1 (n + 1) (6, L, S, H, cs, ss) = ex ret E0 1 (orun code ret E0 1 n) (.iastore) 6 L S H cs ss := s_any k0_6
theorem s0_7 {n cs ss : Nat} {L : List Slot} {S : List Value} {H : AH} : orun code ret E0 1 (n + 1) (7, L, S, H, cs, ss) = ex ret E0 1 (orun code ret E0 1 n) (.dup) 7 L S H cs ss := s_any k0_7
theorem s0_8 {n cs ss : Nat} {L : List Slot} {S : List Value} {H : AH} : orun code ret E0 1 (n + 1) (8, L, S, H, cs, ss) = orun code ret E0 1 n (9, L, (.int 1 :: S), H, cs, ss) := s_any k0_8
theorem s0_9 {n cs ss : Nat} {L : List Slot} {S : List Value} {H : AH} : orun code ret E0 1 (n + 1) (9, L, S, H, cs, ss) = (gI L 1).bind fun v => orun code ret E0 1 n (10, L, .int v :: S, H, cs, ss) := s_any k0_9
theorem s0_10 {n cs ss : Nat} {L : List Slot} {S : List Value} {H : AH} : orun code ret E0 1 (n + 1) (10, L, S, H, cs, ss) = ex ret E0 1 (orun code ret E0 1 n) (.iastore) 10 L S H cs ss := s_any k0_10
theorem s0_11 {n cs ss : Nat} {L : List Slot} {S : List Value} {H : AH} : orun code ret E0 1 (n + 1) (11, L, S, H, cs, ss) = ex ret E0 1 (orun code ret E0 1 n) (.dup) 11 L S H cs ss := s_any k0_11
theorem s0_12 {n cs ss : Nat} {L : List Slot} {S : List Value} {H : AH} : orun code ret E0 1 (n + 1) (12, L, S, H, cs, ss) = orun code ret E0 1 n (13, L, (.int 2 :: S), H, cs, ss) := s_any k0_12
theorem s0_13 {n cs ss : Nat} {L : List Slot} {S : List Value} {H : AH} : orun code ret E0 1 (n + 1) (13, L, S, H, cs, ss) = (gI L 2).bind fun v => orun code ret E0 1 n (14, L, .int v :: S, H, cs, ss) := s_any k0_13
theorem s0_14 {n cs ss : Nat} {L : List Slot} {S : List Value} {H : AH} : orun code ret E0 1 (n + 1) (14, L, S, H, cs, ss) = ex ret E0 1 (orun code ret E0 1 n) (.iastore) 14 L S H cs ss := s_any k0_14
theorem s0_15 {n cs ss : Nat} {L : List Slot} {S : List Value} {H : AH} : orun code ret E0 1 (n + 1) (15, L, S, H, cs, ss) = pA S fun x r => (st1 L 4 x).bind fun L' => orun code ret E0 1 n (17, L', r, H, cs, ss) := s_any k0_15
theorem s0_17 {n cs ss : Nat} {L : List Slot} {S : List Value} {H : AH} : orun code ret E0 1 (n + 1) (17, L, S, H, cs, ss) = (gI L 3).bind fun v => orun code ret E0 1 n (18, L, .int v :: S, H, cs, ss) := s_any k0_17
theorem s0_18 {n cs ss : Nat} {L : List Slot} {S : List Value} {H : AH} : orun code ret E0 1 (n + 1) (18, L, S, H, cs, ss) = orun code ret E0 1 n (19, L, (.int 1 :: S), H, cs, ss) := s_any k0_18
theorem s0_19 {n cs ss : Nat} {L : List Slot} {S : List Value} {H : AH} : orun code ret E0 1 (n + 1) (19, L, S, H, cs, ss) = pI S fun y S => pI S fun x r => orun code ret E0 1 n (20, L, .int (x &&& y) :: r, H, cs, ss) := s_any k0_19
theorem s0_20 {n cs ss : Nat} {L : List Slot} {S : List Value} {H : AH} : orun code ret E0 1 (n + 1) (20, L, S, H, cs, ss) = pI S fun x r => (st1 L 5 (.int x)).bind fun L' => orun code ret E0 1 n (22, L', r, H, cs, ss) := s_any k0_20
theorem s0_22 {n cs ss : Nat} {L : List Slot} {S : List Value} {H : AH} : orun code ret E0 1 (n + 1) (22, L, S, H, cs, ss) = (gI L 3).bind fun v => orun code ret E0 1 n (23, L, .int v :: S, H, cs, ss) := s_any k0_22
theorem s0_23 {n cs ss : Nat} {L : List Slot} {S : List Value} {H : AH} : orun code ret E0 1 (n + 1) (23, L, S, H, cs, ss) = orun code ret E0 1 n (24, L, (.int 1 :: S), H, cs, ss) := s_any k0_23
theorem s0_24 {n cs ss : Nat} {L : List Slot} {S : List Value} {H : AH} : orun code ret E0 1 (n + 1) (24, L, S, H, cs, ss) = ex ret E0 1 (orun code ret E0 1 n) (.iushr) 24 L S H cs ss := s_any k0_24
theorem s0_25 {n cs ss : Nat} {L : List Slot} {S : List Value} {H : AH} : orun code ret E0 1 (n + 1) (25, L, S, H, cs, ss) = orun code ret E0 1 n (26, L, (.int 3 :: S), H, cs, ss) := s_any k0_25
theorem s0_26 {n cs ss : Nat} {L : List Slot} {S : List Value} {H : AH} : orun code ret E0 1 (n + 1) (26, L, S, H, cs, ss) = ex ret E0 1 (orun code ret E0 1 n) (.irem) 26 L S H cs ss := s_any k0_26
theorem s0_27 {n cs ss : Nat} {L : List Slot} {S : List Value} {H : AH} : orun code ret E0 1 (n + 1) (27, L, S, H, cs, ss) = pI S fun x r => (st1 L 6 (.int x)).bind fun L' => orun code ret E0 1 n (29, L', r, H, cs, ss) := s_any k0_27
theorem s0_29 {n cs ss : Nat} {L : List Slot} {S : List Value} {H : AH} : orun code ret E0 1 (n + 1) (29, L, S, H, cs, ss) = (gI L 5).bind fun v => orun code ret E0 1 n (31, L, .int v :: S, H, cs, ss) := s_any k0_29
theorem s0_31 {n cs ss : Nat} {L : List Slot} {S : List Value} {H : AH} : orun code ret E0 1 (n + 1) (31, L, S, H, cs, ss) = (gI L 6).bind fun v => orun code ret E0 1 n (33, L, .int v :: S, H, cs, ss) := s_any k0_31
theorem s0_33 {n cs ss : Nat} {L : List Slot} {S : List Value} {H : AH} : orun code ret E0 1 (n + 1) (33, L, S, H, cs, ss) = pI S fun y S => pI S fun x r => orun code ret E0 1 n (34, L, .int (x + y) :: r, H, cs, ss) := s_any k0_33
theorem s0_34 {n cs ss : Nat} {L : List Slot} {S : List Value} {H : AH} : orun code ret E0 1 (n + 1) (34, L, S, H, cs, ss) = pI S fun x r => (st1 L 7 (.int x)).bind fun L' => orun code ret E0 1 n (36, L', r, H, cs, ss) := s_any k0_34
theorem s0_36 {n cs ss : Nat} {L : List Slot} {S : List Value} {H : AH} : orun code ret E0 1 (n + 1) (36, L, S, H, cs, ss) = (gI L 3).bind fun v => orun code ret E0 1 n (37, L, .int v :: S, H, cs, ss) := s_any k0_36
theorem s0_37 {n cs ss : Nat} {L : List Slot} {S : List Value} {H : AH} : orun code ret E0 1 (n + 1) (37, L, S, H, cs, ss) = orun code ret E0 1 n (38, L, (.int 3 :: S), H, cs, ss) := s_any k0_37
theorem s0_38 {n cs ss : Nat} {L : List Slot} {S : List Value} {H : AH} : orun code ret E0 1 (n + 1) (38, L, S, H, cs, ss) = ex ret E0 1 (orun code ret E0 1 n) (.iushr) 38 L S H cs ss := s_any k0_38
theorem s0_39 {n cs ss : Nat} {L : List Slot} {S : List Value} {H : AH} : orun code ret E0 1 (n + 1) (39, L, S, H, cs, ss) = orun code ret E0 1 n (40, L, (.int 3 :: S), H, cs, ss) := s_any k0_39
theorem s0_40 {n cs ss : Nat} {L : List Slot} {S : List Value} {H : AH} : orun code ret E0 1 (n + 1) (40, L, S, H, cs, ss) = pI S fun y S => pI S fun x r => orun code ret E0 1 n (41, L, .int (x &&& y) :: r, H, cs, ss) := s_any k0_40
theorem s0_41 {n cs ss : Nat} {L : List Slot} {S : List Value} {H : AH} : orun code ret E0 1 (n + 1) (41, L, S, H, cs, ss) = pI S fun x r => (st1 L 8 (.int x)).bind fun L' => orun code ret E0 1 n (43, L', r, H, cs, ss) := s_any k0_41
theorem s0_43 {n cs ss : Nat} {L : List Slot} {S : List Value} {H : AH} : orun code ret E0 1 (n + 1) (43, L, S, H, cs, ss) = orun code ret E0 1 n (45, L, (.int 32 :: S), H, cs, ss) := s_any k0_43
theorem s0_45 {n cs ss : Nat} {L : List Slot} {S : List Value} {H : AH} : orun code ret E0 1 (n + 1) (45, L, S, H, cs, ss) = (aArr .byte 56 576 S H cs ss).bind fun r => orun code ret E0 1 n (47, L, r.1, r.2.1, r.2.2.1, r.2.2.2) := s_any k0_45
theorem s0_47 {n cs ss : Nat} {L : List Slot} {S : List Value} {H : AH} : orun code ret E0 1 (n + 1) (47, L, S, H, cs, ss) = pA S fun x r => (st1 L 9 x).bind fun L' => orun code ret E0 1 n (49, L', r, H, cs, ss) := s_any k0_47
theorem s0_49 {n cs ss : Nat} {L : List Slot} {S : List Value} {H : AH} : orun code ret E0 1 (n + 1) (49, L, S, H, cs, ss) = (gA L 4).bind fun v => orun code ret E0 1 n (51, L, v :: S, H, cs, ss) := s_any k0_49
theorem s0_51 {n cs ss : Nat} {L : List Slot} {S : List Value} {H : AH} : orun code ret E0 1 (n + 1) (51, L, S, H, cs, ss) = (gI L 5).bind fun v => orun code ret E0 1 n (53, L, .int v :: S, H, cs, ss) := s_any k0_51
theorem s0_53 {n cs ss : Nat} {L : List Slot} {S : List Value} {H : AH} : orun code ret E0 1 (n + 1) (53, L, S, H, cs, ss) = (gI L 7).bind fun v => orun code ret E0 1 n (55, L, .int v :: S, H, cs, ss) := s_any k0_53
theorem s0_55 {n cs ss : Nat} {L : List Slot} {S : List Value} {H : AH} : orun code ret E0 1 (n + 1) (55, L, S, H, cs, ss) = (gA L 9).bind fun v => orun code ret E0 1 n (57, L, v :: S, H, cs, ss) := s_any k0_55
theorem s0_57 {n cs ss : Nat} {L : List Slot} {S : List Value} {H : AH} : orun code ret E0 1 (n + 1) (57, L, S, H, cs, ss) = (gI L 8).bind fun v => orun code ret E0 1 n (59, L, .int v :: S, H, cs, ss) := s_any k0_57
theorem s0_59 {n cs ss : Nat} {L : List Slot} {S : List Value} {H : AH} : orun code ret E0 1 (n + 1) (59, L, S, H, cs, ss) = (aCall 5 6 56 576 0 0 F1 S H cs ss).bind fun r => orun code ret E0 1 n (62, L, r.1, r.2.1, r.2.2.1, r.2.2.2) := s_any k0_59
theorem s0_62 {n cs ss : Nat} {L : List Slot} {S : List Value} {H : AH} : orun code ret E0 1 (n + 1) (62, L, S, H, cs, ss) = pI S fun x r => (st1 L 10 (.int x)).bind fun L' => orun code ret E0 1 n (64, L', r, H, cs, ss) := s_any k0_62
theorem s0_64 {n cs ss : Nat} {L : List Slot} {S : List Value} {H : AH} : orun code ret E0 1 (n + 1) (64, L, S, H, cs, ss) = orun code ret E0 1 n (65, L, (.int 1 :: S), H, cs, ss) := s_any k0_64
theorem s0_65 {n cs ss : Nat} {L : List Slot} {S : List Value} {H : AH} : orun code ret E0 1 (n + 1) (65, L, S, H, cs, ss) = pI S fun x r => (st1 L 11 (.int x)).bind fun L' => orun code ret E0 1 n (67, L', r, H, cs, ss) := s_any k0_65
theorem s0_67 {n cs ss : Nat} {L : List Slot} {S : List Value} {H : AH} : orun code ret E0 1 (n + 1) (67, L, S, H, cs, ss) = (gI L 8).bind fun v => orun code ret E0 1 n (69, L, .int v :: S, H, cs, ss) := s_any k0_67
theorem s0_69 {n cs ss : Nat} {L : List Slot} {S : List Value} {H : AH} : orun code ret E0 1 (n + 1) (69, L, S, H, cs, ss) = pI S fun x r => (st1 L 12 (.int x)).bind fun L' => orun code ret E0 1 n (71, L', r, H, cs, ss) := s_any k0_69
theorem s0_71 {n cs ss : Nat} {L : List Slot} {S : List Value} {H : AH} : orun code ret E0 1 (n + 1) (71, L, S, H, cs, ss) = (gI L 6).bind fun v => orun code ret E0 1 n (73, L, .int v :: S, H, cs, ss) := s_any k0_71
theorem s0_73 {n cs ss : Nat} {L : List Slot} {S : List Value} {H : AH} : orun code ret E0 1 (n + 1) (73, L, S, H, cs, ss) = orun code ret E0 1 n (74, L, (.int 1 :: S), H, cs, ss) := s_any k0_73
theorem s0_74 {n cs ss : Nat} {L : List Slot} {S : List Value} {H : AH} : orun code ret E0 1 (n + 1) (74, L, S, H, cs, ss) = pI S fun y S => pI S fun x r => if x < y then orun code ret E0 1 n (118, L, r, H, cs, ss) else orun code ret E0 1 n (77, L, r, H, cs, ss) := s_icmp (Q := fun x y => x < y) (fun _ _ => h_lt) k0_74 (by decide) (by decide)
theorem s0_77 {n cs ss : Nat} {L : List Slot} {S : List Value} {H : AH} : orun code ret E0 1 (n + 1) (77, L, S, H, cs, ss) = (gA L 4).bind fun v => orun code ret E0 1 n (79, L, v :: S, H, cs, ss) := s_any k0_77
theorem s0_79 {n cs ss : Nat} {L : List Slot} {S : List Value} {H : AH} : orun code ret E0 1 (n + 1) (79, L, S, H, cs, ss) = (gI L 5).bind fun v => orun code ret E0 1 n (81, L, .int v :: S, H, cs, ss) := s_any k0_79
theorem s0_81 {n cs ss : Nat} {L : List Slot} {S : List Value} {H : AH} : orun code ret E0 1 (n + 1) (81, L, S, H, cs, ss) = ex ret E0 1 (orun code ret E0 1 n) (.iaload) 81 L S H cs ss := s_any k0_81
theorem s0_82 {n cs ss : Nat} {L : List Slot} {S : List Value} {H : AH} : orun code ret E0 1 (n + 1) (82, L, S, H, cs, ss) = pI S fun x r => (st1 L 13 (.int x)).bind fun L' => orun code ret E0 1 n (84, L', r, H, cs, ss) := s_any k0_82
theorem s0_84 {n cs ss : Nat} {L : List Slot} {S : List Value} {H : AH} : orun code ret E0 1 (n + 1) (84, L, S, H, cs, ss) = (gI L 11).bind fun v => orun code ret E0 1 n (86, L, .int v :: S, H, cs, ss) := s_any k0_84
theorem s0_86 {n cs ss : Nat} {L : List Slot} {S : List Value} {H : AH} : orun code ret E0 1 (n + 1) (86, L, S, H, cs, ss) = pI S fun x r => if x = 0 then orun code ret E0 1 n (105, L, r, H, cs, ss) else orun code ret E0 1 n (89, L, r, H, cs, ss) := s_if (Q := fun x => x = 0) (fun _ => z_eq) k0_86 (by decide) (by decide)
theorem s0_89 {n cs ss : Nat} {L : List Slot} {S : List Value} {H : AH} : orun code ret E0 1 (n + 1) (89, L, S, H, cs, ss) = (gA L 9).bind fun v => orun code ret E0 1 n (91, L, v :: S, H, cs, ss) := s_any k0_89
theorem s0_91 {n cs ss : Nat} {L : List Slot} {S : List Value} {H : AH} : orun code ret E0 1 (n + 1) (91, L, S, H, cs, ss) = (gI L 12).bind fun v => orun code ret E0 1 n (93, L, .int v :: S, H, cs, ss) := s_any k0_91
theorem s0_93 {n cs ss : Nat} {L : List Slot} {S : List Value} {H : AH} : orun code ret E0 1 (n + 1) (93, L, S, H, cs, ss) = (gI L 13).bind fun v => orun code ret E0 1 n (95, L, .int v :: S, H, cs, ss) := s_any k0_93
theorem s0_95 {n cs ss : Nat} {L : List Slot} {S : List Value} {H : AH} : orun code ret E0 1 (n + 1) (95, L, S, H, cs, ss) = (aCall 3 6 56 576 11 110 F2 S H cs ss).bind fun r => orun code ret E0 1 n (98, L, r.1, r.2.1, r.2.2.1, r.2.2.2) := s_any k0_95
theorem s0_98 {n cs ss : Nat} {L : List Slot} {S : List Value} {H : AH} : orun code ret E0 1 (n + 1) (98, L, S, H, cs, ss) = pI S fun x r => if x = 0 then orun code ret E0 1 n (105, L, r, H, cs, ss) else orun code ret E0 1 n (101, L, r, H, cs, ss) := s_if (Q := fun x => x = 0) (fun _ => z_eq) k0_98 (by decide) (by decide)
theorem s0_101 {n cs ss : Nat} {L : List Slot} {S : List Value} {H : AH} : orun code ret E0 1 (n + 1) (101, L, S, H, cs, ss) = orun code ret E0 1 n (102, L, (.int 1 :: S), H, cs, ss) := s_any k0_101
theorem s0_102 {n cs ss : Nat} {L : List Slot} {S : List Value} {H : AH} : orun code ret E0 1 (n + 1) (102, L, S, H, cs, ss) = orun code ret E0 1 n (106, L, S, H, cs, ss) := s_goto k0_102 (by decide) (by decide)
theorem s0_105 {n cs ss : Nat} {L : List Slot} {S : List Value} {H : AH} : orun code ret E0 1 (n + 1) (105, L, S, H, cs, ss) = orun code ret E0 1 n (106, L, (.int 0 :: S), H, cs, ss) := s_any k0_105
theorem s0_106 {n cs ss : Nat} {L : List Slot} {S : List Value} {H : AH} : orun code ret E0 1 (n + 1) (106, L, S, H, cs, ss) = pI S fun x r => (st1 L 11 (.int x)).bind fun L' => orun code ret E0 1 n (108, L', r, H, cs, ss) := s_any k0_106
theorem s0_108 {n cs ss : Nat} {L : List Slot} {S : List Value} {H : AH} : orun code ret E0 1 (n + 1) (108, L, S, H, cs, ss) = (gI L 12).bind fun v => orun code ret E0 1 n (110, L, .int v :: S, H, cs, ss) := s_any k0_108
theorem s0_110 {n cs ss : Nat} {L : List Slot} {S : List Value} {H : AH} : orun code ret E0 1 (n + 1) (110, L, S, H, cs, ss) = (gI L 13).bind fun v => orun code ret E0 1 n (112, L, .int v :: S, H, cs, ss) := s_any k0_110
theorem s0_112 {n cs ss : Nat} {L : List Slot} {S : List Value} {H : AH} : orun code ret E0 1 (n + 1) (112, L, S, H, cs, ss) = (aCall 1 6 56 576 0 0 F4 S H cs ss).bind fun r => orun code ret E0 1 n (115, L, r.1, r.2.1, r.2.2.1, r.2.2.2) := s_any k0_112
theorem s0_115 {n cs ss : Nat} {L : List Slot} {S : List Value} {H : AH} : orun code ret E0 1 (n + 1) (115, L, S, H, cs, ss) = pI S fun y S => pI S fun x r => orun code ret E0 1 n (116, L, .int (x + y) :: r, H, cs, ss) := s_any k0_115
theorem s0_116 {n cs ss : Nat} {L : List Slot} {S : List Value} {H : AH} : orun code ret E0 1 (n + 1) (116, L, S, H, cs, ss) = pI S fun x r => (st1 L 12 (.int x)).bind fun L' => orun code ret E0 1 n (118, L', r, H, cs, ss) := s_any k0_116
theorem s0_118 {n cs ss : Nat} {L : List Slot} {S : List Value} {H : AH} : orun code ret E0 1 (n + 1) (118, L, S, H, cs, ss) = (gI L 6).bind fun v => orun code ret E0 1 n (120, L, .int v :: S, H, cs, ss) := s_any k0_118
theorem s0_120 {n cs ss : Nat} {L : List Slot} {S : List Value} {H : AH} : orun code ret E0 1 (n + 1) (120, L, S, H, cs, ss) = orun code ret E0 1 n (121, L, (.int 2 :: S), H, cs, ss) := s_any k0_120
theorem s0_121 {n cs ss : Nat} {L : List Slot} {S : List Value} {H : AH} : orun code ret E0 1 (n + 1) (121, L, S, H, cs, ss) = pI S fun y S => pI S fun x r => if x < y then orun code ret E0 1 n (192, L, r, H, cs, ss) else orun code ret E0 1 n (124, L, r, H, cs, ss) := s_icmp (Q := fun x y => x < y) (fun _ _ => h_lt) k0_121 (by decide) (by decide)
theorem s0_124 {n cs ss : Nat} {L : List Slot} {S : List Value} {H : AH} : orun code ret E0 1 (n + 1) (124, L, S, H, cs, ss) = (gI L 11).bind fun v => orun code ret E0 1 n (126, L, .int v :: S, H, cs, ss) := s_any k0_124
theorem s0_126 {n cs ss : Nat} {L : List Slot} {S : List Value} {H : AH} : orun code ret E0 1 (n + 1) (126, L, S, H, cs, ss) = pI S fun x r => if x = 0 then orun code ret E0 1 n (143, L, r, H, cs, ss) else orun code ret E0 1 n (129, L, r, H, cs, ss) := s_if (Q := fun x => x = 0) (fun _ => z_eq) k0_126 (by decide) (by decide)
theorem s0_129 {n cs ss : Nat} {L : List Slot} {S : List Value} {H : AH} : orun code ret E0 1 (n + 1) (129, L, S, H, cs, ss) = (gA L 9).bind fun v => orun code ret E0 1 n (131, L, v :: S, H, cs, ss) := s_any k0_129
theorem s0_131 {n cs ss : Nat} {L : List Slot} {S : List Value} {H : AH} : orun code ret E0 1 (n + 1) (131, L, S, H, cs, ss) = (gI L 12).bind fun v => orun code ret E0 1 n (133, L, .int v :: S, H, cs, ss) := s_any k0_131
theorem s0_133 {n cs ss : Nat} {L : List Slot} {S : List Value} {H : AH} : orun code ret E0 1 (n + 1) (133, L, S, H, cs, ss) = ex ret E0 1 (orun code ret E0 1 n) (.baload) 133 L S H cs ss := s_any k0_133
theorem s0_134 {n cs ss : Nat} {L : List Slot} {S : List Value} {H : AH} : orun code ret E0 1 (n + 1) (134, L, S, H, cs, ss) = orun code ret E0 1 n (136, L, (.int 46 :: S), H, cs, ss) := s_any k0_134
theorem s0_136 {n cs ss : Nat} {L : List Slot} {S : List Value} {H : AH} : orun code ret E0 1 (n + 1) (136, L, S, H, cs, ss) = pI S fun y S => pI S fun x r => if x = y then orun code ret E0 1 n (139, L, r, H, cs, ss) else orun code ret E0 1 n (143, L, r, H, cs, ss) := s_icmpN (Q := fun x y => x = y) (fun _ _ => h_ne) k0_136 (by decide) (by decide)
theorem s0_139 {n cs ss : Nat} {L : List Slot} {S : List Value} {H : AH} : orun code ret E0 1 (n + 1) (139, L, S, H, cs, ss) = orun code ret E0 1 n (140, L, (.int 1 :: S), H, cs, ss) := s_any k0_139
theorem s0_140 {n cs ss : Nat} {L : List Slot} {S : List Value} {H : AH} : orun code ret E0 1 (n + 1) (140, L, S, H, cs, ss) = orun code ret E0 1 n (144, L, S, H, cs, ss) := s_goto k0_140 (by decide) (by decide)
theorem s0_143 {n cs ss : Nat} {L : List Slot} {S : List Value} {H : AH} : orun code ret E0 1 (n + 1) (143, L, S, H, cs, ss) = orun code ret E0 1 n (144, L, (.int 0 :: S), H, cs, ss) := s_any k0_143
theorem s0_144 {n cs ss : Nat} {L : List Slot} {S : List Value} {H : AH} : orun code ret E0 1 (n + 1) (144, L, S, H, cs, ss) = pI S fun x r => (st1 L 11 (.int x)).bind fun L' => orun code ret E0 1 n (146, L', r, H, cs, ss) := s_any k0_144
theorem s0_146 {n cs ss : Nat} {L : List Slot} {S : List Value} {H : AH} : orun code ret E0 1 (n + 1) (146, L, S, H, cs, ss) = (gI L 12).bind fun v => (st1 L 12 (.int (v + 1))).bind fun L' => orun code ret E0 1 n (149, L', S, H, cs, ss) := s_any k0_146
theorem s0_149 {n cs ss : Nat} {L : List Slot} {S : List Value} {H : AH} : orun code ret E0 1 (n + 1) (149, L, S, H, cs, ss) = (gA L 4).bind fun v => orun code ret E0 1 n (151, L, v :: S, H, cs, ss) := s_any k0_149
theorem s0_151 {n cs ss : Nat} {L : List Slot} {S : List Value} {H : AH} : orun code ret E0 1 (n + 1) (151, L, S, H, cs, ss) = (gI L 5).bind fun v => orun code ret E0 1 n (153, L, .int v :: S, H, cs, ss) := s_any k0_151
theorem s0_153 {n cs ss : Nat} {L : List Slot} {S : List Value} {H : AH} : orun code ret E0 1 (n + 1) (153, L, S, H, cs, ss) = orun code ret E0 1 n (154, L, (.int 1 :: S), H, cs, ss) := s_any k0_153
theorem s0_154 {n cs ss : Nat} {L : List Slot} {S : List Value} {H : AH} : orun code ret E0 1 (n + 1) (154, L, S, H, cs, ss) = pI S fun y S => pI S fun x r => orun code ret E0 1 n (155, L, .int (x + y) :: r, H, cs, ss) := s_any k0_154
theorem s0_155 {n cs ss : Nat} {L : List Slot} {S : List Value} {H : AH} : orun code ret E0 1 (n + 1) (155, L, S, H, cs, ss) = ex ret E0 1 (orun code ret E0 1 n) (.iaload) 155 L S H cs ss := s_any k0_155
theorem s0_156 {n cs ss : Nat} {L : List Slot} {S : List Value} {H : AH} : orun code ret E0 1 (n + 1) (156, L, S, H, cs, ss) = pI S fun x r => (st1 L 13 (.int x)).bind fun L' => orun code ret E0 1 n (158, L', r, H, cs, ss) := s_any k0_156
theorem s0_158 {n cs ss : Nat} {L : List Slot} {S : List Value} {H : AH} : orun code ret E0 1 (n + 1) (158, L, S, H, cs, ss) = (gI L 11).bind fun v => orun code ret E0 1 n (160, L, .int v :: S, H, cs, ss) := s_any k0_158
theorem s0_160 {n cs ss : Nat} {L : List Slot} {S : List Value} {H : AH} : orun code ret E0 1 (n + 1) (160, L, S, H, cs, ss) = pI S fun x r => if x = 0 then orun code ret E0 1 n (179, L, r, H, cs, ss) else orun code ret E0 1 n (163, L, r, H, cs, ss) := s_if (Q := fun x => x = 0) (fun _ => z_eq) k0_160 (by decide) (by decide)
theorem s0_163 {n cs ss : Nat} {L : List Slot} {S : List Value} {H : AH} : orun code ret E0 1 (n + 1) (163, L, S, H, cs, ss) = (gA L 9).bind fun v => orun code ret E0 1 n (165, L, v :: S, H, cs, ss) := s_any k0_163
theorem s0_165 {n cs ss : Nat} {L : List Slot} {S : List Value} {H : AH} : orun code ret E0 1 (n + 1) (165, L, S, H, cs, ss) = (gI L 12).bind fun v => orun code ret E0 1 n (167, L, .int v :: S, H, cs, ss) := s_any k0_165
theorem s0_167 {n cs ss : Nat} {L : List Slot} {S : List Value} {H : AH} : orun code ret E0 1 (n + 1) (167, L, S, H, cs, ss) = (gI L 13).bind fun v => orun code ret E0 1 n (169, L, .int v :: S, H, cs, ss) := s_any k0_167
theorem s0_169 {n cs ss : Nat} {L : List Slot} {S : List Value} {H : AH} : orun code ret E0 1 (n + 1) (169, L, S, H, cs, ss) = (aCall 3 6 56 576 11 110 F2 S H cs ss).bind fun r => orun code ret E0 1 n (172, L, r.1, r.2.1, r.2.2.1, r.2.2.2) := s_any k0_169
theorem s0_172 {n cs ss : Nat} {L : List Slot} {S : List Value} {H : AH} : orun code ret E0 1 (n + 1) (172, L, S, H, cs, ss) = pI S fun x r => if x = 0 then orun code ret E0 1 n (179, L, r, H, cs, ss) else orun code ret E0 1 n (175, L, r, H, cs, ss) := s_if (Q := fun x => x = 0) (fun _ => z_eq) k0_172 (by decide) (by decide)
theorem s0_175 {n cs ss : Nat} {L : List Slot} {S : List Value} {H : AH} : orun code ret E0 1 (n + 1) (175, L, S, H, cs, ss) = orun code ret E0 1 n (176, L, (.int 1 :: S), H, cs, ss) := s_any k0_175
theorem s0_176 {n cs ss : Nat} {L : List Slot} {S : List Value} {H : AH} : orun code ret E0 1 (n + 1) (176, L, S, H, cs, ss) = orun code ret E0 1 n (180, L, S, H, cs, ss) := s_goto k0_176 (by decide) (by decide)
theorem s0_179 {n cs ss : Nat} {L : List Slot} {S : List Value} {H : AH} : orun code ret E0 1 (n + 1) (179, L, S, H, cs, ss) = orun code ret E0 1 n (180, L, (.int 0 :: S), H, cs, ss) := s_any k0_179
theorem s0_180 {n cs ss : Nat} {L : List Slot} {S : List Value} {H : AH} : orun code ret E0 1 (n + 1) (180, L, S, H, cs, ss) = pI S fun x r => (st1 L 11 (.int x)).bind fun L' => orun code ret E0 1 n (182, L', r, H, cs, ss) := s_any k0_180
theorem s0_182 {n cs ss : Nat} {L : List Slot} {S : List Value} {H : AH} : orun code ret E0 1 (n + 1) (182, L, S, H, cs, ss) = (gI L 12).bind fun v => orun code ret E0 1 n (184, L, .int v :: S, H, cs, ss) := s_any k0_182
theorem s0_184 {n cs ss : Nat} {L : List Slot} {S : List Value} {H : AH} : orun code ret E0 1 (n + 1) (184, L, S, H, cs, ss) = (gI L 13).bind fun v => orun code ret E0 1 n (186, L, .int v :: S, H, cs, ss) := s_any k0_184
theorem s0_186 {n cs ss : Nat} {L : List Slot} {S : List Value} {H : AH} : orun code ret E0 1 (n + 1) (186, L, S, H, cs, ss) = (aCall 1 6 56 576 0 0 F4 S H cs ss).bind fun r => orun code ret E0 1 n (189, L, r.1, r.2.1, r.2.2.1, r.2.2.2) := s_any k0_186
theorem s0_189 {n cs ss : Nat} {L : List Slot} {S : List Value} {H : AH} : orun code ret E0 1 (n + 1) (189, L, S, H, cs, ss) = pI S fun y S => pI S fun x r => orun code ret E0 1 n (190, L, .int (x + y) :: r, H, cs, ss) := s_any k0_189
theorem s0_190 {n cs ss : Nat} {L : List Slot} {S : List Value} {H : AH} : orun code ret E0 1 (n + 1) (190, L, S, H, cs, ss) = pI S fun x r => (st1 L 12 (.int x)).bind fun L' => orun code ret E0 1 n (192, L', r, H, cs, ss) := s_any k0_190
theorem s0_192 {n cs ss : Nat} {L : List Slot} {S : List Value} {H : AH} : orun code ret E0 1 (n + 1) (192, L, S, H, cs, ss) = (gI L 11).bind fun v => orun code ret E0 1 n (194, L, .int v :: S, H, cs, ss) := s_any k0_192
theorem s0_194 {n cs ss : Nat} {L : List Slot} {S : List Value} {H : AH} : orun code ret E0 1 (n + 1) (194, L, S, H, cs, ss) = pI S fun x r => if x = 0 then orun code ret E0 1 n (208, L, r, H, cs, ss) else orun code ret E0 1 n (197, L, r, H, cs, ss) := s_if (Q := fun x => x = 0) (fun _ => z_eq) k0_194 (by decide) (by decide)
theorem s0_197 {n cs ss : Nat} {L : List Slot} {S : List Value} {H : AH} : orun code ret E0 1 (n + 1) (197, L, S, H, cs, ss) = (gI L 10).bind fun v => orun code ret E0 1 n (199, L, .int v :: S, H, cs, ss) := s_any k0_197
theorem s0_199 {n cs ss : Nat} {L : List Slot} {S : List Value} {H : AH} : orun code ret E0 1 (n + 1) (199, L, S, H, cs, ss) = (gI L 12).bind fun v => orun code ret E0 1 n (201, L, .int v :: S, H, cs, ss) := s_any k0_199
theorem s0_201 {n cs ss : Nat} {L : List Slot} {S : List Value} {H : AH} : orun code ret E0 1 (n + 1) (201, L, S, H, cs, ss) = pI S fun y S => pI S fun x r => if x = y then orun code ret E0 1 n (204, L, r, H, cs, ss) else orun code ret E0 1 n (208, L, r, H, cs, ss) := s_icmpN (Q := fun x y => x = y) (fun _ _ => h_ne) k0_201 (by decide) (by decide)
theorem s0_204 {n cs ss : Nat} {L : List Slot} {S : List Value} {H : AH} : orun code ret E0 1 (n + 1) (204, L, S, H, cs, ss) = orun code ret E0 1 n (205, L, (.int 1 :: S), H, cs, ss) := s_any k0_204
theorem s0_205 {n cs ss : Nat} {L : List Slot} {S : List Value} {H : AH} : orun code ret E0 1 (n + 1) (205, L, S, H, cs, ss) = orun code ret E0 1 n (209, L, S, H, cs, ss) := s_goto k0_205 (by decide) (by decide)
theorem s0_208 {n cs ss : Nat} {L : List Slot} {S : List Value} {H : AH} : orun code ret E0 1 (n + 1) (208, L, S, H, cs, ss) = orun code ret E0 1 n (209, L, (.int 0 :: S), H, cs, ss) := s_any k0_208
theorem s0_209 {n cs ss : Nat} {L : List Slot} {S : List Value} {H : AH} : orun code ret E0 1 (n + 1) (209, L, S, H, cs, ss) = pI S fun x r => (st1 L 11 (.int x)).bind fun L' => orun code ret E0 1 n (211, L', r, H, cs, ss) := s_any k0_209
theorem s0_211 {n cs ss : Nat} {L : List Slot} {S : List Value} {H : AH} : orun code ret E0 1 (n + 1) (211, L, S, H, cs, ss) = (gI L 8).bind fun v => orun code ret E0 1 n (213, L, .int v :: S, H, cs, ss) := s_any k0_211
theorem s0_213 {n cs ss : Nat} {L : List Slot} {S : List Value} {H : AH} : orun code ret E0 1 (n + 1) (213, L, S, H, cs, ss) = pI S fun x r => if 0 < x then orun code ret E0 1 n (216, L, r, H, cs, ss) else orun code ret E0 1 n (238, L, r, H, cs, ss) := s_ifN (Q := fun x => 0 < x) (fun _ => z_le) k0_213 (by decide) (by decide)
theorem s0_216 {n cs ss : Nat} {L : List Slot} {S : List Value} {H : AH} : orun code ret E0 1 (n + 1) (216, L, S, H, cs, ss) = (gI L 11).bind fun v => orun code ret E0 1 n (218, L, .int v :: S, H, cs, ss) := s_any k0_216
theorem s0_218 {n cs ss : Nat} {L : List Slot} {S : List Value} {H : AH} : orun code ret E0 1 (n + 1) (218, L, S, H, cs, ss) = pI S fun x r => if x = 0 then orun code ret E0 1 n (235, L, r, H, cs, ss) else orun code ret E0 1 n (221, L, r, H, cs, ss) := s_if (Q := fun x => x = 0) (fun _ => z_eq) k0_218 (by decide) (by decide)
theorem s0_221 {n cs ss : Nat} {L : List Slot} {S : List Value} {H : AH} : orun code ret E0 1 (n + 1) (221, L, S, H, cs, ss) = (gA L 9).bind fun v => orun code ret E0 1 n (223, L, v :: S, H, cs, ss) := s_any k0_221
theorem s0_223 {n cs ss : Nat} {L : List Slot} {S : List Value} {H : AH} : orun code ret E0 1 (n + 1) (223, L, S, H, cs, ss) = (gI L 8).bind fun v => orun code ret E0 1 n (225, L, .int v :: S, H, cs, ss) := s_any k0_223
theorem s0_225 {n cs ss : Nat} {L : List Slot} {S : List Value} {H : AH} : orun code ret E0 1 (n + 1) (225, L, S, H, cs, ss) = orun code ret E0 1 n (226, L, (.int 1 :: S), H, cs, ss) := s_any k0_225
theorem s0_226 {n cs ss : Nat} {L : List Slot} {S : List Value} {H : AH} : orun code ret E0 1 (n + 1) (226, L, S, H, cs, ss) = pI S fun y S => pI S fun x r => orun code ret E0 1 n (227, L, .int (x - y) :: r, H, cs, ss) := s_any k0_226
theorem s0_227 {n cs ss : Nat} {L : List Slot} {S : List Value} {H : AH} : orun code ret E0 1 (n + 1) (227, L, S, H, cs, ss) = ex ret E0 1 (orun code ret E0 1 n) (.baload) 227 L S H cs ss := s_any k0_227
theorem s0_228 {n cs ss : Nat} {L : List Slot} {S : List Value} {H : AH} : orun code ret E0 1 (n + 1) (228, L, S, H, cs, ss) = pI S fun x r => if x = 0 then orun code ret E0 1 n (231, L, r, H, cs, ss) else orun code ret E0 1 n (235, L, r, H, cs, ss) := s_ifN (Q := fun x => x = 0) (fun _ => z_ne) k0_228 (by decide) (by decide)
theorem s0_231 {n cs ss : Nat} {L : List Slot} {S : List Value} {H : AH} : orun code ret E0 1 (n + 1) (231, L, S, H, cs, ss) = orun code ret E0 1 n (232, L, (.int 1 :: S), H, cs, ss) := s_any k0_231
theorem s0_232 {n cs ss : Nat} {L : List Slot} {S : List Value} {H : AH} : orun code ret E0 1 (n + 1) (232, L, S, H, cs, ss) = orun code ret E0 1 n (236, L, S, H, cs, ss) := s_goto k0_232 (by decide) (by decide)
theorem s0_235 {n cs ss : Nat} {L : List Slot} {S : List Value} {H : AH} : orun code ret E0 1 (n + 1) (235, L, S, H, cs, ss) = orun code ret E0 1 n (236, L, (.int 0 :: S), H, cs, ss) := s_any k0_235
theorem s0_236 {n cs ss : Nat} {L : List Slot} {S : List Value} {H : AH} : orun code ret E0 1 (n + 1) (236, L, S, H, cs, ss) = pI S fun x r => (st1 L 11 (.int x)).bind fun L' => orun code ret E0 1 n (238, L', r, H, cs, ss) := s_any k0_236
theorem s0_238 {n cs ss : Nat} {L : List Slot} {S : List Value} {H : AH} : orun code ret E0 1 (n + 1) (238, L, S, H, cs, ss) = (gI L 11).bind fun v => orun code ret E0 1 n (240, L, .int v :: S, H, cs, ss) := s_any k0_238
theorem s0_240 {n cs ss : Nat} {L : List Slot} {S : List Value} {H : AH} : orun code ret E0 1 (n + 1) (240, L, S, H, cs, ss) = pI S fun x r => if x = 0 then orun code ret E0 1 n (255, L, r, H, cs, ss) else orun code ret E0 1 n (243, L, r, H, cs, ss) := s_if (Q := fun x => x = 0) (fun _ => z_eq) k0_240 (by decide) (by decide)
theorem s0_243 {n cs ss : Nat} {L : List Slot} {S : List Value} {H : AH} : orun code ret E0 1 (n + 1) (243, L, S, H, cs, ss) = (gA L 9).bind fun v => orun code ret E0 1 n (245, L, v :: S, H, cs, ss) := s_any k0_243
theorem s0_245 {n cs ss : Nat} {L : List Slot} {S : List Value} {H : AH} : orun code ret E0 1 (n + 1) (245, L, S, H, cs, ss) = (gI L 12).bind fun v => orun code ret E0 1 n (247, L, .int v :: S, H, cs, ss) := s_any k0_245
theorem s0_247 {n cs ss : Nat} {L : List Slot} {S : List Value} {H : AH} : orun code ret E0 1 (n + 1) (247, L, S, H, cs, ss) = ex ret E0 1 (orun code ret E0 1 n) (.baload) 247 L S H cs ss := s_any k0_247
theorem s0_248 {n cs ss : Nat} {L : List Slot} {S : List Value} {H : AH} : orun code ret E0 1 (n + 1) (248, L, S, H, cs, ss) = pI S fun x r => if x = 0 then orun code ret E0 1 n (251, L, r, H, cs, ss) else orun code ret E0 1 n (255, L, r, H, cs, ss) := s_ifN (Q := fun x => x = 0) (fun _ => z_ne) k0_248 (by decide) (by decide)
theorem s0_251 {n cs ss : Nat} {L : List Slot} {S : List Value} {H : AH} : orun code ret E0 1 (n + 1) (251, L, S, H, cs, ss) = orun code ret E0 1 n (252, L, (.int 1 :: S), H, cs, ss) := s_any k0_251
theorem s0_252 {n cs ss : Nat} {L : List Slot} {S : List Value} {H : AH} : orun code ret E0 1 (n + 1) (252, L, S, H, cs, ss) = orun code ret E0 1 n (256, L, S, H, cs, ss) := s_goto k0_252 (by decide) (by decide)
theorem s0_255 {n cs ss : Nat} {L : List Slot} {S : List Value} {H : AH} : orun code ret E0 1 (n + 1) (255, L, S, H, cs, ss) = orun code ret E0 1 n (256, L, (.int 0 :: S), H, cs, ss) := s_any k0_255
theorem s0_256 {n cs ss : Nat} {L : List Slot} {S : List Value} {H : AH} : orun code ret E0 1 (n + 1) (256, L, S, H, cs, ss) = pI S fun x r => (st1 L 11 (.int x)).bind fun L' => orun code ret E0 1 n (258, L', r, H, cs, ss) := s_any k0_256
theorem s0_258 {n cs ss : Nat} {L : List Slot} {S : List Value} {H : AH} : orun code ret E0 1 (n + 1) (258, L, S, H, cs, ss) = (gI L 11).bind fun v => orun code ret E0 1 n (260, L, .int v :: S, H, cs, ss) := s_any k0_258
theorem s0_260 {n cs ss : Nat} {L : List Slot} {S : List Value} {H : AH} : orun code ret E0 1 (n + 1) (260, L, S, H, cs, ss) = pI S fun z _ => some (some (.int (z &&& 1)), H) := s_any k0_260
theorem t0_0 {go : Nat → St → Option ORes} (hgo : go = orun code ret E0 1) {n cs ss : Nat} {L : List Slot} {S : List Value} {H : AH} {q : Option ORes → Prop} (h : Rsq (go n (1, L, (.int 3 :: S), H, cs, ss)) q) : Rsq (go (n + 1) (0, L, S, H, cs, ss)) q := by
  subst hgo
  exact res_of s0_0 h
theorem u0_1 {go : Nat → St → Option ORes} (hgo : go = orun code ret E0 1) {n cs ss : Nat} {L : List Slot} {S : List Value} {H : AH} : go (n + 1) (1, L, S, H, cs, ss) = (aArr .int 56 576 S H cs ss).bind fun r => go n (3, L, r.1, r.2.1, r.2.2.1, r.2.2.2) := by
  subst hgo
  exact s0_1
theorem t0_3 {go : Nat → St → Option ORes} (hgo : go = orun code ret E0 1) {n cs ss : Nat} {L : List Slot} {S : List Value} {H : AH} {q : Option ORes → Prop} {v : Value} (hv : isS v = true) (h : Rsq (go n (4, L, (v :: v :: S), H, cs, ss)) q) : Rsq (go (n + 1) (3, L, (v :: S), H, cs, ss)) q := by
  subst hgo
  refine res_of s0_3 ?_
  rw [ex_dup, p1_isS hv]
  exact h
theorem t0_4 {go : Nat → St → Option ORes} (hgo : go = orun code ret E0 1) {n cs ss : Nat} {L : List Slot} {S : List Value} {H : AH} {q : Option ORes → Prop} (h : Rsq (go n (5, L, (.int 0 :: S), H, cs, ss)) q) : Rsq (go (n + 1) (4, L, S, H, cs, ss)) q := by
  subst hgo
  exact res_of s0_4 h
theorem t0_5 {go : Nat → St → Option ORes} (hgo : go = orun code ret E0 1) {n cs ss : Nat} {l1 l2 l3 l4 l5 l6 l7 l8 l9 l10 l11 l12 l13 : Slot} {S : List Value} {H : AH} {q : Option ORes → Prop} {v : Int32} (h : Rsq (go n (6, [.val (.int v), l1, l2, l3, l4, l5, l6, l7, l8, l9, l10, l11, l12, l13], (.int v :: S), H, cs, ss)) q) : Rsq (go (n + 1) (5, [.val (.int v), l1, l2, l3, l4, l5, l6, l7, l8, l9, l10, l11, l12, l13], S, H, cs, ss)) q := by
  subst hgo
  exact res_of s0_5 h
theorem u0_6 {go : Nat → St → Option ORes} (hgo : go = orun code ret E0 1) {n cs ss : Nat} {L : List Slot} {S : List Value} {H : AH} : go (n + 1) (6, L, S, H, cs, ss) = ex ret E0 1 (go n) (.iastore) 6 L S H cs ss := by
  subst hgo
  exact s0_6
theorem t0_7 {go : Nat → St → Option ORes} (hgo : go = orun code ret E0 1) {n cs ss : Nat} {L : List Slot} {S : List Value} {H : AH} {q : Option ORes → Prop} {v : Value} (hv : isS v = true) (h : Rsq (go n (8, L, (v :: v :: S), H, cs, ss)) q) : Rsq (go (n + 1) (7, L, (v :: S), H, cs, ss)) q := by
  subst hgo
  refine res_of s0_7 ?_
  rw [ex_dup, p1_isS hv]
  exact h
theorem t0_8 {go : Nat → St → Option ORes} (hgo : go = orun code ret E0 1) {n cs ss : Nat} {L : List Slot} {S : List Value} {H : AH} {q : Option ORes → Prop} (h : Rsq (go n (9, L, (.int 1 :: S), H, cs, ss)) q) : Rsq (go (n + 1) (8, L, S, H, cs, ss)) q := by
  subst hgo
  exact res_of s0_8 h
theorem t0_9 {go : Nat → St → Option ORes} (hgo : go = orun code ret E0 1) {n cs ss : Nat} {l0 l2 l3 l4 l5 l6 l7 l8 l9 l10 l11 l12 l13 : Slot} {S : List Value} {H : AH} {q : Option ORes → Prop} {v : Int32} (h : Rsq (go n (10, [l0, .val (.int v), l2, l3, l4, l5, l6, l7, l8, l9, l10, l11, l12, l13], (.int v :: S), H, cs, ss)) q) : Rsq (go (n + 1) (9, [l0, .val (.int v), l2, l3, l4, l5, l6, l7, l8, l9, l10, l11, l12, l13], S, H, cs, ss)) q := by
  subst hgo
  exact res_of s0_9 h
theorem u0_10 {go : Nat → St → Option ORes} (hgo : go = orun code ret E0 1) {n cs ss : Nat} {L : List Slot} {S : List Value} {H : AH} : go (n + 1) (10, L, S, H, cs, ss) = ex ret E0 1 (go n) (.iastore) 10 L S H cs ss := by
  subst hgo
  exact s0_10
theorem t0_11 {go : Nat → St → Option ORes} (hgo : go = orun code ret E0 1) {n cs ss : Nat} {L : List Slot} {S : List Value} {H : AH} {q : Option ORes → Prop} {v : Value} (hv : isS v = true) (h : Rsq (go n (12, L, (v :: v :: S), H, cs, ss)) q) : Rsq (go (n + 1) (11, L, (v :: S), H, cs, ss)) q := by
  subst hgo
  refine res_of s0_11 ?_
  rw [ex_dup, p1_isS hv]
  exact h
theorem t0_12 {go : Nat → St → Option ORes} (hgo : go = orun code ret E0 1) {n cs ss : Nat} {L : List Slot} {S : List Value} {H : AH} {q : Option ORes → Prop} (h : Rsq (go n (13, L, (.int 2 :: S), H, cs, ss)) q) : Rsq (go (n + 1) (12, L, S, H, cs, ss)) q := by
  subst hgo
  exact res_of s0_12 h
theorem t0_13 {go : Nat → St → Option ORes} (hgo : go = orun code ret E0 1) {n cs ss : Nat} {l0 l1 l3 l4 l5 l6 l7 l8 l9 l10 l11 l12 l13 : Slot} {S : List Value} {H : AH} {q : Option ORes → Prop} {v : Int32} (h : Rsq (go n (14, [l0, l1, .val (.int v), l3, l4, l5, l6, l7, l8, l9, l10, l11, l12, l13], (.int v :: S), H, cs, ss)) q) : Rsq (go (n + 1) (13, [l0, l1, .val (.int v), l3, l4, l5, l6, l7, l8, l9, l10, l11, l12, l13], S, H, cs, ss)) q := by
  subst hgo
  exact res_of s0_13 h
theorem u0_14 {go : Nat → St → Option ORes} (hgo : go = orun code ret E0 1) {n cs ss : Nat} {L : List Slot} {S : List Value} {H : AH} : go (n + 1) (14, L, S, H, cs, ss) = ex ret E0 1 (go n) (.iastore) 14 L S H cs ss := by
  subst hgo
  exact s0_14
theorem t0_15 {go : Nat → St → Option ORes} (hgo : go = orun code ret E0 1) {n cs ss : Nat} {l0 l1 l2 l3 l4 l5 l6 l7 l8 l9 l10 l11 l12 l13 : Slot} {S : List Value} {H : AH} {q : Option ORes → Prop} {v : Value} (hv : isA v = true) (hk : so l4 = true) (h : Rsq (go n (17, [l0, l1, l2, l3, .val v, l5, l6, l7, l8, l9, l10, l11, l12, l13], S, H, cs, ss)) q) : Rsq (go (n + 1) (15, [l0, l1, l2, l3, l4, l5, l6, l7, l8, l9, l10, l11, l12, l13], (v :: S), H, cs, ss)) q := by
  subst hgo
  refine res_of s0_15 ?_
  rw [pA_isA hv, st1_so (L := [l0, l1, l2, l3, l4, l5, l6, l7, l8, l9, l10, l11, l12, l13]) (k := 4) (l := l4) rfl hk]
  exact h
theorem t0_17 {go : Nat → St → Option ORes} (hgo : go = orun code ret E0 1) {n cs ss : Nat} {l0 l1 l2 l4 l5 l6 l7 l8 l9 l10 l11 l12 l13 : Slot} {S : List Value} {H : AH} {q : Option ORes → Prop} {v : Int32} (h : Rsq (go n (18, [l0, l1, l2, .val (.int v), l4, l5, l6, l7, l8, l9, l10, l11, l12, l13], (.int v :: S), H, cs, ss)) q) : Rsq (go (n + 1) (17, [l0, l1, l2, .val (.int v), l4, l5, l6, l7, l8, l9, l10, l11, l12, l13], S, H, cs, ss)) q := by
  subst hgo
  exact res_of s0_17 h
theorem t0_18 {go : Nat → St → Option ORes} (hgo : go = orun code ret E0 1) {n cs ss : Nat} {L : List Slot} {S : List Value} {H : AH} {q : Option ORes → Prop} (h : Rsq (go n (19, L, (.int 1 :: S), H, cs, ss)) q) : Rsq (go (n + 1) (18, L, S, H, cs, ss)) q := by
  subst hgo
  exact res_of s0_18 h
theorem t0_19 {go : Nat → St → Option ORes} (hgo : go = orun code ret E0 1) {n cs ss : Nat} {L : List Slot} {S : List Value} {H : AH} {q : Option ORes → Prop} {x y : Int32} (h : Rsq (go n (20, L, (.int (x &&& y) :: S), H, cs, ss)) q) : Rsq (go (n + 1) (19, L, (.int y :: .int x :: S), H, cs, ss)) q := by
  subst hgo
  exact res_of s0_19 h
theorem t0_20 {go : Nat → St → Option ORes} (hgo : go = orun code ret E0 1) {n cs ss : Nat} {l0 l1 l2 l3 l4 l5 l6 l7 l8 l9 l10 l11 l12 l13 : Slot} {S : List Value} {H : AH} {q : Option ORes → Prop} {x : Int32} (hk : so l5 = true) (h : Rsq (go n (22, [l0, l1, l2, l3, l4, .val (.int x), l6, l7, l8, l9, l10, l11, l12, l13], S, H, cs, ss)) q) : Rsq (go (n + 1) (20, [l0, l1, l2, l3, l4, l5, l6, l7, l8, l9, l10, l11, l12, l13], (.int x :: S), H, cs, ss)) q := by
  subst hgo
  refine res_of s0_20 ?_
  rw [pI_int, st1_so (L := [l0, l1, l2, l3, l4, l5, l6, l7, l8, l9, l10, l11, l12, l13]) (k := 5) (l := l5) rfl hk]
  exact h
theorem t0_22 {go : Nat → St → Option ORes} (hgo : go = orun code ret E0 1) {n cs ss : Nat} {l0 l1 l2 l4 l5 l6 l7 l8 l9 l10 l11 l12 l13 : Slot} {S : List Value} {H : AH} {q : Option ORes → Prop} {v : Int32} (h : Rsq (go n (23, [l0, l1, l2, .val (.int v), l4, l5, l6, l7, l8, l9, l10, l11, l12, l13], (.int v :: S), H, cs, ss)) q) : Rsq (go (n + 1) (22, [l0, l1, l2, .val (.int v), l4, l5, l6, l7, l8, l9, l10, l11, l12, l13], S, H, cs, ss)) q := by
  subst hgo
  exact res_of s0_22 h
theorem t0_23 {go : Nat → St → Option ORes} (hgo : go = orun code ret E0 1) {n cs ss : Nat} {L : List Slot} {S : List Value} {H : AH} {q : Option ORes → Prop} (h : Rsq (go n (24, L, (.int 1 :: S), H, cs, ss)) q) : Rsq (go (n + 1) (23, L, S, H, cs, ss)) q := by
  subst hgo
  exact res_of s0_23 h
theorem t0_24 {go : Nat → St → Option ORes} (hgo : go = orun code ret E0 1) {n cs ss : Nat} {L : List Slot} {S : List Value} {H : AH} {q : Option ORes → Prop} {x y : Int32} (h : Rsq (go n (25, L, (.int ((x.toUInt32 >>> (y &&& 31).toUInt32).toInt32) :: S), H, cs, ss)) q) : Rsq (go (n + 1) (24, L, (.int y :: .int x :: S), H, cs, ss)) q := by
  subst hgo
  exact res_of s0_24 h
theorem t0_25 {go : Nat → St → Option ORes} (hgo : go = orun code ret E0 1) {n cs ss : Nat} {L : List Slot} {S : List Value} {H : AH} {q : Option ORes → Prop} (h : Rsq (go n (26, L, (.int 3 :: S), H, cs, ss)) q) : Rsq (go (n + 1) (25, L, S, H, cs, ss)) q := by
  subst hgo
  exact res_of s0_25 h
theorem t0_26 {go : Nat → St → Option ORes} (hgo : go = orun code ret E0 1) {n cs ss : Nat} {L : List Slot} {S : List Value} {H : AH} {q : Option ORes → Prop} {x y : Int32} (hz : ¬ y = 0) (h : Rsq (go n (27, L, (.int (x % y) :: S), H, cs, ss)) q) : Rsq (go (n + 1) (26, L, (.int y :: .int x :: S), H, cs, ss)) q := by
  subst hgo
  exact res_of s0_26 (res_f hz h)
theorem t0_27 {go : Nat → St → Option ORes} (hgo : go = orun code ret E0 1) {n cs ss : Nat} {l0 l1 l2 l3 l4 l5 l6 l7 l8 l9 l10 l11 l12 l13 : Slot} {S : List Value} {H : AH} {q : Option ORes → Prop} {x : Int32} (hk : so l6 = true) (h : Rsq (go n (29, [l0, l1, l2, l3, l4, l5, .val (.int x), l7, l8, l9, l10, l11, l12, l13], S, H, cs, ss)) q) : Rsq (go (n + 1) (27, [l0, l1, l2, l3, l4, l5, l6, l7, l8, l9, l10, l11, l12, l13], (.int x :: S), H, cs, ss)) q := by
  subst hgo
  refine res_of s0_27 ?_
  rw [pI_int, st1_so (L := [l0, l1, l2, l3, l4, l5, l6, l7, l8, l9, l10, l11, l12, l13]) (k := 6) (l := l6) rfl hk]
  exact h
theorem t0_29 {go : Nat → St → Option ORes} (hgo : go = orun code ret E0 1) {n cs ss : Nat} {l0 l1 l2 l3 l4 l6 l7 l8 l9 l10 l11 l12 l13 : Slot} {S : List Value} {H : AH} {q : Option ORes → Prop} {v : Int32} (h : Rsq (go n (31, [l0, l1, l2, l3, l4, .val (.int v), l6, l7, l8, l9, l10, l11, l12, l13], (.int v :: S), H, cs, ss)) q) : Rsq (go (n + 1) (29, [l0, l1, l2, l3, l4, .val (.int v), l6, l7, l8, l9, l10, l11, l12, l13], S, H, cs, ss)) q := by
  subst hgo
  exact res_of s0_29 h
theorem t0_31 {go : Nat → St → Option ORes} (hgo : go = orun code ret E0 1) {n cs ss : Nat} {l0 l1 l2 l3 l4 l5 l7 l8 l9 l10 l11 l12 l13 : Slot} {S : List Value} {H : AH} {q : Option ORes → Prop} {v : Int32} (h : Rsq (go n (33, [l0, l1, l2, l3, l4, l5, .val (.int v), l7, l8, l9, l10, l11, l12, l13], (.int v :: S), H, cs, ss)) q) : Rsq (go (n + 1) (31, [l0, l1, l2, l3, l4, l5, .val (.int v), l7, l8, l9, l10, l11, l12, l13], S, H, cs, ss)) q := by
  subst hgo
  exact res_of s0_31 h
theorem t0_33 {go : Nat → St → Option ORes} (hgo : go = orun code ret E0 1) {n cs ss : Nat} {L : List Slot} {S : List Value} {H : AH} {q : Option ORes → Prop} {x y : Int32} (h : Rsq (go n (34, L, (.int (x + y) :: S), H, cs, ss)) q) : Rsq (go (n + 1) (33, L, (.int y :: .int x :: S), H, cs, ss)) q := by
  subst hgo
  exact res_of s0_33 h
theorem t0_34 {go : Nat → St → Option ORes} (hgo : go = orun code ret E0 1) {n cs ss : Nat} {l0 l1 l2 l3 l4 l5 l6 l7 l8 l9 l10 l11 l12 l13 : Slot} {S : List Value} {H : AH} {q : Option ORes → Prop} {x : Int32} (hk : so l7 = true) (h : Rsq (go n (36, [l0, l1, l2, l3, l4, l5, l6, .val (.int x), l8, l9, l10, l11, l12, l13], S, H, cs, ss)) q) : Rsq (go (n + 1) (34, [l0, l1, l2, l3, l4, l5, l6, l7, l8, l9, l10, l11, l12, l13], (.int x :: S), H, cs, ss)) q := by
  subst hgo
  refine res_of s0_34 ?_
  rw [pI_int, st1_so (L := [l0, l1, l2, l3, l4, l5, l6, l7, l8, l9, l10, l11, l12, l13]) (k := 7) (l := l7) rfl hk]
  exact h
theorem t0_36 {go : Nat → St → Option ORes} (hgo : go = orun code ret E0 1) {n cs ss : Nat} {l0 l1 l2 l4 l5 l6 l7 l8 l9 l10 l11 l12 l13 : Slot} {S : List Value} {H : AH} {q : Option ORes → Prop} {v : Int32} (h : Rsq (go n (37, [l0, l1, l2, .val (.int v), l4, l5, l6, l7, l8, l9, l10, l11, l12, l13], (.int v :: S), H, cs, ss)) q) : Rsq (go (n + 1) (36, [l0, l1, l2, .val (.int v), l4, l5, l6, l7, l8, l9, l10, l11, l12, l13], S, H, cs, ss)) q := by
  subst hgo
  exact res_of s0_36 h
theorem t0_37 {go : Nat → St → Option ORes} (hgo : go = orun code ret E0 1) {n cs ss : Nat} {L : List Slot} {S : List Value} {H : AH} {q : Option ORes → Prop} (h : Rsq (go n (38, L, (.int 3 :: S), H, cs, ss)) q) : Rsq (go (n + 1) (37, L, S, H, cs, ss)) q := by
  subst hgo
  exact res_of s0_37 h
theorem t0_38 {go : Nat → St → Option ORes} (hgo : go = orun code ret E0 1) {n cs ss : Nat} {L : List Slot} {S : List Value} {H : AH} {q : Option ORes → Prop} {x y : Int32} (h : Rsq (go n (39, L, (.int ((x.toUInt32 >>> (y &&& 31).toUInt32).toInt32) :: S), H, cs, ss)) q) : Rsq (go (n + 1) (38, L, (.int y :: .int x :: S), H, cs, ss)) q := by
  subst hgo
  exact res_of s0_38 h
theorem t0_39 {go : Nat → St → Option ORes} (hgo : go = orun code ret E0 1) {n cs ss : Nat} {L : List Slot} {S : List Value} {H : AH} {q : Option ORes → Prop} (h : Rsq (go n (40, L, (.int 3 :: S), H, cs, ss)) q) : Rsq (go (n + 1) (39, L, S, H, cs, ss)) q := by
  subst hgo
  exact res_of s0_39 h
theorem t0_40 {go : Nat → St → Option ORes} (hgo : go = orun code ret E0 1) {n cs ss : Nat} {L : List Slot} {S : List Value} {H : AH} {q : Option ORes → Prop} {x y : Int32} (h : Rsq (go n (41, L, (.int (x &&& y) :: S), H, cs, ss)) q) : Rsq (go (n + 1) (40, L, (.int y :: .int x :: S), H, cs, ss)) q := by
  subst hgo
  exact res_of s0_40 h
theorem t0_41 {go : Nat → St → Option ORes} (hgo : go = orun code ret E0 1) {n cs ss : Nat} {l0 l1 l2 l3 l4 l5 l6 l7 l8 l9 l10 l11 l12 l13 : Slot} {S : List Value} {H : AH} {q : Option ORes → Prop} {x : Int32} (hk : so l8 = true) (h : Rsq (go n (43, [l0, l1, l2, l3, l4, l5, l6, l7, .val (.int x), l9, l10, l11, l12, l13], S, H, cs, ss)) q) : Rsq (go (n + 1) (41, [l0, l1, l2, l3, l4, l5, l6, l7, l8, l9, l10, l11, l12, l13], (.int x :: S), H, cs, ss)) q := by
  subst hgo
  refine res_of s0_41 ?_
  rw [pI_int, st1_so (L := [l0, l1, l2, l3, l4, l5, l6, l7, l8, l9, l10, l11, l12, l13]) (k := 8) (l := l8) rfl hk]
  exact h
theorem t0_43 {go : Nat → St → Option ORes} (hgo : go = orun code ret E0 1) {n cs ss : Nat} {L : List Slot} {S : List Value} {H : AH} {q : Option ORes → Prop} (h : Rsq (go n (45, L, (.int 32 :: S), H, cs, ss)) q) : Rsq (go (n + 1) (43, L, S, H, cs, ss)) q := by
  subst hgo
  exact res_of s0_43 h
theorem u0_45 {go : Nat → St → Option ORes} (hgo : go = orun code ret E0 1) {n cs ss : Nat} {L : List Slot} {S : List Value} {H : AH} : go (n + 1) (45, L, S, H, cs, ss) = (aArr .byte 56 576 S H cs ss).bind fun r => go n (47, L, r.1, r.2.1, r.2.2.1, r.2.2.2) := by
  subst hgo
  exact s0_45
theorem t0_47 {go : Nat → St → Option ORes} (hgo : go = orun code ret E0 1) {n cs ss : Nat} {l0 l1 l2 l3 l4 l5 l6 l7 l8 l9 l10 l11 l12 l13 : Slot} {S : List Value} {H : AH} {q : Option ORes → Prop} {v : Value} (hv : isA v = true) (hk : so l9 = true) (h : Rsq (go n (49, [l0, l1, l2, l3, l4, l5, l6, l7, l8, .val v, l10, l11, l12, l13], S, H, cs, ss)) q) : Rsq (go (n + 1) (47, [l0, l1, l2, l3, l4, l5, l6, l7, l8, l9, l10, l11, l12, l13], (v :: S), H, cs, ss)) q := by
  subst hgo
  refine res_of s0_47 ?_
  rw [pA_isA hv, st1_so (L := [l0, l1, l2, l3, l4, l5, l6, l7, l8, l9, l10, l11, l12, l13]) (k := 9) (l := l9) rfl hk]
  exact h
theorem t0_49 {go : Nat → St → Option ORes} (hgo : go = orun code ret E0 1) {n cs ss : Nat} {l0 l1 l2 l3 l5 l6 l7 l8 l9 l10 l11 l12 l13 : Slot} {S : List Value} {H : AH} {q : Option ORes → Prop} {v : Value} (hv : isA v = true) (h : Rsq (go n (51, [l0, l1, l2, l3, .val v, l5, l6, l7, l8, l9, l10, l11, l12, l13], (v :: S), H, cs, ss)) q) : Rsq (go (n + 1) (49, [l0, l1, l2, l3, .val v, l5, l6, l7, l8, l9, l10, l11, l12, l13], S, H, cs, ss)) q := by
  subst hgo
  refine res_of s0_49 ?_
  rw [gA_isA (L := [l0, l1, l2, l3, .val v, l5, l6, l7, l8, l9, l10, l11, l12, l13]) (k := 4) (v := v) rfl hv]
  exact h
theorem t0_51 {go : Nat → St → Option ORes} (hgo : go = orun code ret E0 1) {n cs ss : Nat} {l0 l1 l2 l3 l4 l6 l7 l8 l9 l10 l11 l12 l13 : Slot} {S : List Value} {H : AH} {q : Option ORes → Prop} {v : Int32} (h : Rsq (go n (53, [l0, l1, l2, l3, l4, .val (.int v), l6, l7, l8, l9, l10, l11, l12, l13], (.int v :: S), H, cs, ss)) q) : Rsq (go (n + 1) (51, [l0, l1, l2, l3, l4, .val (.int v), l6, l7, l8, l9, l10, l11, l12, l13], S, H, cs, ss)) q := by
  subst hgo
  exact res_of s0_51 h
theorem t0_53 {go : Nat → St → Option ORes} (hgo : go = orun code ret E0 1) {n cs ss : Nat} {l0 l1 l2 l3 l4 l5 l6 l8 l9 l10 l11 l12 l13 : Slot} {S : List Value} {H : AH} {q : Option ORes → Prop} {v : Int32} (h : Rsq (go n (55, [l0, l1, l2, l3, l4, l5, l6, .val (.int v), l8, l9, l10, l11, l12, l13], (.int v :: S), H, cs, ss)) q) : Rsq (go (n + 1) (53, [l0, l1, l2, l3, l4, l5, l6, .val (.int v), l8, l9, l10, l11, l12, l13], S, H, cs, ss)) q := by
  subst hgo
  exact res_of s0_53 h
theorem t0_55 {go : Nat → St → Option ORes} (hgo : go = orun code ret E0 1) {n cs ss : Nat} {l0 l1 l2 l3 l4 l5 l6 l7 l8 l10 l11 l12 l13 : Slot} {S : List Value} {H : AH} {q : Option ORes → Prop} {v : Value} (hv : isA v = true) (h : Rsq (go n (57, [l0, l1, l2, l3, l4, l5, l6, l7, l8, .val v, l10, l11, l12, l13], (v :: S), H, cs, ss)) q) : Rsq (go (n + 1) (55, [l0, l1, l2, l3, l4, l5, l6, l7, l8, .val v, l10, l11, l12, l13], S, H, cs, ss)) q := by
  subst hgo
  refine res_of s0_55 ?_
  rw [gA_isA (L := [l0, l1, l2, l3, l4, l5, l6, l7, l8, .val v, l10, l11, l12, l13]) (k := 9) (v := v) rfl hv]
  exact h
theorem t0_57 {go : Nat → St → Option ORes} (hgo : go = orun code ret E0 1) {n cs ss : Nat} {l0 l1 l2 l3 l4 l5 l6 l7 l9 l10 l11 l12 l13 : Slot} {S : List Value} {H : AH} {q : Option ORes → Prop} {v : Int32} (h : Rsq (go n (59, [l0, l1, l2, l3, l4, l5, l6, l7, .val (.int v), l9, l10, l11, l12, l13], (.int v :: S), H, cs, ss)) q) : Rsq (go (n + 1) (57, [l0, l1, l2, l3, l4, l5, l6, l7, .val (.int v), l9, l10, l11, l12, l13], S, H, cs, ss)) q := by
  subst hgo
  exact res_of s0_57 h
theorem u0_59 {go : Nat → St → Option ORes} (hgo : go = orun code ret E0 1) {n cs ss : Nat} {L : List Slot} {S : List Value} {H : AH} : go (n + 1) (59, L, S, H, cs, ss) = (aCall 5 6 56 576 0 0 F1 S H cs ss).bind fun r => go n (62, L, r.1, r.2.1, r.2.2.1, r.2.2.2) := by
  subst hgo
  exact s0_59
theorem t0_62 {go : Nat → St → Option ORes} (hgo : go = orun code ret E0 1) {n cs ss : Nat} {l0 l1 l2 l3 l4 l5 l6 l7 l8 l9 l10 l11 l12 l13 : Slot} {S : List Value} {H : AH} {q : Option ORes → Prop} {x : Int32} (hk : so l10 = true) (h : Rsq (go n (64, [l0, l1, l2, l3, l4, l5, l6, l7, l8, l9, .val (.int x), l11, l12, l13], S, H, cs, ss)) q) : Rsq (go (n + 1) (62, [l0, l1, l2, l3, l4, l5, l6, l7, l8, l9, l10, l11, l12, l13], (.int x :: S), H, cs, ss)) q := by
  subst hgo
  refine res_of s0_62 ?_
  rw [pI_int, st1_so (L := [l0, l1, l2, l3, l4, l5, l6, l7, l8, l9, l10, l11, l12, l13]) (k := 10) (l := l10) rfl hk]
  exact h
theorem t0_64 {go : Nat → St → Option ORes} (hgo : go = orun code ret E0 1) {n cs ss : Nat} {L : List Slot} {S : List Value} {H : AH} {q : Option ORes → Prop} (h : Rsq (go n (65, L, (.int 1 :: S), H, cs, ss)) q) : Rsq (go (n + 1) (64, L, S, H, cs, ss)) q := by
  subst hgo
  exact res_of s0_64 h
theorem t0_65 {go : Nat → St → Option ORes} (hgo : go = orun code ret E0 1) {n cs ss : Nat} {l0 l1 l2 l3 l4 l5 l6 l7 l8 l9 l10 l11 l12 l13 : Slot} {S : List Value} {H : AH} {q : Option ORes → Prop} {x : Int32} (hk : so l11 = true) (h : Rsq (go n (67, [l0, l1, l2, l3, l4, l5, l6, l7, l8, l9, l10, .val (.int x), l12, l13], S, H, cs, ss)) q) : Rsq (go (n + 1) (65, [l0, l1, l2, l3, l4, l5, l6, l7, l8, l9, l10, l11, l12, l13], (.int x :: S), H, cs, ss)) q := by
  subst hgo
  refine res_of s0_65 ?_
  rw [pI_int, st1_so (L := [l0, l1, l2, l3, l4, l5, l6, l7, l8, l9, l10, l11, l12, l13]) (k := 11) (l := l11) rfl hk]
  exact h
theorem t0_67 {go : Nat → St → Option ORes} (hgo : go = orun code ret E0 1) {n cs ss : Nat} {l0 l1 l2 l3 l4 l5 l6 l7 l9 l10 l11 l12 l13 : Slot} {S : List Value} {H : AH} {q : Option ORes → Prop} {v : Int32} (h : Rsq (go n (69, [l0, l1, l2, l3, l4, l5, l6, l7, .val (.int v), l9, l10, l11, l12, l13], (.int v :: S), H, cs, ss)) q) : Rsq (go (n + 1) (67, [l0, l1, l2, l3, l4, l5, l6, l7, .val (.int v), l9, l10, l11, l12, l13], S, H, cs, ss)) q := by
  subst hgo
  exact res_of s0_67 h
theorem t0_69 {go : Nat → St → Option ORes} (hgo : go = orun code ret E0 1) {n cs ss : Nat} {l0 l1 l2 l3 l4 l5 l6 l7 l8 l9 l10 l11 l12 l13 : Slot} {S : List Value} {H : AH} {q : Option ORes → Prop} {x : Int32} (hk : so l12 = true) (h : Rsq (go n (71, [l0, l1, l2, l3, l4, l5, l6, l7, l8, l9, l10, l11, .val (.int x), l13], S, H, cs, ss)) q) : Rsq (go (n + 1) (69, [l0, l1, l2, l3, l4, l5, l6, l7, l8, l9, l10, l11, l12, l13], (.int x :: S), H, cs, ss)) q := by
  subst hgo
  refine res_of s0_69 ?_
  rw [pI_int, st1_so (L := [l0, l1, l2, l3, l4, l5, l6, l7, l8, l9, l10, l11, l12, l13]) (k := 12) (l := l12) rfl hk]
  exact h
theorem t0_71 {go : Nat → St → Option ORes} (hgo : go = orun code ret E0 1) {n cs ss : Nat} {l0 l1 l2 l3 l4 l5 l7 l8 l9 l10 l11 l12 l13 : Slot} {S : List Value} {H : AH} {q : Option ORes → Prop} {v : Int32} (h : Rsq (go n (73, [l0, l1, l2, l3, l4, l5, .val (.int v), l7, l8, l9, l10, l11, l12, l13], (.int v :: S), H, cs, ss)) q) : Rsq (go (n + 1) (71, [l0, l1, l2, l3, l4, l5, .val (.int v), l7, l8, l9, l10, l11, l12, l13], S, H, cs, ss)) q := by
  subst hgo
  exact res_of s0_71 h
theorem t0_73 {go : Nat → St → Option ORes} (hgo : go = orun code ret E0 1) {n cs ss : Nat} {L : List Slot} {S : List Value} {H : AH} {q : Option ORes → Prop} (h : Rsq (go n (74, L, (.int 1 :: S), H, cs, ss)) q) : Rsq (go (n + 1) (73, L, S, H, cs, ss)) q := by
  subst hgo
  exact res_of s0_73 h
theorem t0_74t {go : Nat → St → Option ORes} (hgo : go = orun code ret E0 1) {n cs ss : Nat} {L : List Slot} {S : List Value} {H : AH} {q : Option ORes → Prop} {x y : Int32} (hc : x < y) (h : Rsq (go n (118, L, S, H, cs, ss)) q) : Rsq (go (n + 1) (74, L, (.int y :: .int x :: S), H, cs, ss)) q := by
  subst hgo
  exact res_of s0_74 (res_t hc h)
theorem t0_74f {go : Nat → St → Option ORes} (hgo : go = orun code ret E0 1) {n cs ss : Nat} {L : List Slot} {S : List Value} {H : AH} {q : Option ORes → Prop} {x y : Int32} (hc : ¬ x < y) (h : Rsq (go n (77, L, S, H, cs, ss)) q) : Rsq (go (n + 1) (74, L, (.int y :: .int x :: S), H, cs, ss)) q := by
  subst hgo
  exact res_of s0_74 (res_f hc h)
theorem t0_77 {go : Nat → St → Option ORes} (hgo : go = orun code ret E0 1) {n cs ss : Nat} {l0 l1 l2 l3 l5 l6 l7 l8 l9 l10 l11 l12 l13 : Slot} {S : List Value} {H : AH} {q : Option ORes → Prop} {v : Value} (hv : isA v = true) (h : Rsq (go n (79, [l0, l1, l2, l3, .val v, l5, l6, l7, l8, l9, l10, l11, l12, l13], (v :: S), H, cs, ss)) q) : Rsq (go (n + 1) (77, [l0, l1, l2, l3, .val v, l5, l6, l7, l8, l9, l10, l11, l12, l13], S, H, cs, ss)) q := by
  subst hgo
  refine res_of s0_77 ?_
  rw [gA_isA (L := [l0, l1, l2, l3, .val v, l5, l6, l7, l8, l9, l10, l11, l12, l13]) (k := 4) (v := v) rfl hv]
  exact h
theorem t0_79 {go : Nat → St → Option ORes} (hgo : go = orun code ret E0 1) {n cs ss : Nat} {l0 l1 l2 l3 l4 l6 l7 l8 l9 l10 l11 l12 l13 : Slot} {S : List Value} {H : AH} {q : Option ORes → Prop} {v : Int32} (h : Rsq (go n (81, [l0, l1, l2, l3, l4, .val (.int v), l6, l7, l8, l9, l10, l11, l12, l13], (.int v :: S), H, cs, ss)) q) : Rsq (go (n + 1) (79, [l0, l1, l2, l3, l4, .val (.int v), l6, l7, l8, l9, l10, l11, l12, l13], S, H, cs, ss)) q := by
  subst hgo
  exact res_of s0_79 h
theorem u0_81 {go : Nat → St → Option ORes} (hgo : go = orun code ret E0 1) {n cs ss : Nat} {L : List Slot} {S : List Value} {H : AH} : go (n + 1) (81, L, S, H, cs, ss) = ex ret E0 1 (go n) (.iaload) 81 L S H cs ss := by
  subst hgo
  exact s0_81
theorem t0_82 {go : Nat → St → Option ORes} (hgo : go = orun code ret E0 1) {n cs ss : Nat} {l0 l1 l2 l3 l4 l5 l6 l7 l8 l9 l10 l11 l12 l13 : Slot} {S : List Value} {H : AH} {q : Option ORes → Prop} {x : Int32} (hk : so l13 = true) (h : Rsq (go n (84, [l0, l1, l2, l3, l4, l5, l6, l7, l8, l9, l10, l11, l12, .val (.int x)], S, H, cs, ss)) q) : Rsq (go (n + 1) (82, [l0, l1, l2, l3, l4, l5, l6, l7, l8, l9, l10, l11, l12, l13], (.int x :: S), H, cs, ss)) q := by
  subst hgo
  refine res_of s0_82 ?_
  rw [pI_int, st1_so (L := [l0, l1, l2, l3, l4, l5, l6, l7, l8, l9, l10, l11, l12, l13]) (k := 13) (l := l13) rfl hk]
  exact h
theorem t0_84 {go : Nat → St → Option ORes} (hgo : go = orun code ret E0 1) {n cs ss : Nat} {l0 l1 l2 l3 l4 l5 l6 l7 l8 l9 l10 l12 l13 : Slot} {S : List Value} {H : AH} {q : Option ORes → Prop} {v : Int32} (h : Rsq (go n (86, [l0, l1, l2, l3, l4, l5, l6, l7, l8, l9, l10, .val (.int v), l12, l13], (.int v :: S), H, cs, ss)) q) : Rsq (go (n + 1) (84, [l0, l1, l2, l3, l4, l5, l6, l7, l8, l9, l10, .val (.int v), l12, l13], S, H, cs, ss)) q := by
  subst hgo
  exact res_of s0_84 h
theorem t0_86t {go : Nat → St → Option ORes} (hgo : go = orun code ret E0 1) {n cs ss : Nat} {L : List Slot} {S : List Value} {H : AH} {q : Option ORes → Prop} {x : Int32} (hc : x = 0) (h : Rsq (go n (105, L, S, H, cs, ss)) q) : Rsq (go (n + 1) (86, L, (.int x :: S), H, cs, ss)) q := by
  subst hgo
  exact res_of s0_86 (res_t hc h)
theorem t0_86f {go : Nat → St → Option ORes} (hgo : go = orun code ret E0 1) {n cs ss : Nat} {L : List Slot} {S : List Value} {H : AH} {q : Option ORes → Prop} {x : Int32} (hc : ¬ x = 0) (h : Rsq (go n (89, L, S, H, cs, ss)) q) : Rsq (go (n + 1) (86, L, (.int x :: S), H, cs, ss)) q := by
  subst hgo
  exact res_of s0_86 (res_f hc h)
theorem t0_89 {go : Nat → St → Option ORes} (hgo : go = orun code ret E0 1) {n cs ss : Nat} {l0 l1 l2 l3 l4 l5 l6 l7 l8 l10 l11 l12 l13 : Slot} {S : List Value} {H : AH} {q : Option ORes → Prop} {v : Value} (hv : isA v = true) (h : Rsq (go n (91, [l0, l1, l2, l3, l4, l5, l6, l7, l8, .val v, l10, l11, l12, l13], (v :: S), H, cs, ss)) q) : Rsq (go (n + 1) (89, [l0, l1, l2, l3, l4, l5, l6, l7, l8, .val v, l10, l11, l12, l13], S, H, cs, ss)) q := by
  subst hgo
  refine res_of s0_89 ?_
  rw [gA_isA (L := [l0, l1, l2, l3, l4, l5, l6, l7, l8, .val v, l10, l11, l12, l13]) (k := 9) (v := v) rfl hv]
  exact h
theorem t0_91 {go : Nat → St → Option ORes} (hgo : go = orun code ret E0 1) {n cs ss : Nat} {l0 l1 l2 l3 l4 l5 l6 l7 l8 l9 l10 l11 l13 : Slot} {S : List Value} {H : AH} {q : Option ORes → Prop} {v : Int32} (h : Rsq (go n (93, [l0, l1, l2, l3, l4, l5, l6, l7, l8, l9, l10, l11, .val (.int v), l13], (.int v :: S), H, cs, ss)) q) : Rsq (go (n + 1) (91, [l0, l1, l2, l3, l4, l5, l6, l7, l8, l9, l10, l11, .val (.int v), l13], S, H, cs, ss)) q := by
  subst hgo
  exact res_of s0_91 h
theorem t0_93 {go : Nat → St → Option ORes} (hgo : go = orun code ret E0 1) {n cs ss : Nat} {l0 l1 l2 l3 l4 l5 l6 l7 l8 l9 l10 l11 l12 : Slot} {S : List Value} {H : AH} {q : Option ORes → Prop} {v : Int32} (h : Rsq (go n (95, [l0, l1, l2, l3, l4, l5, l6, l7, l8, l9, l10, l11, l12, .val (.int v)], (.int v :: S), H, cs, ss)) q) : Rsq (go (n + 1) (93, [l0, l1, l2, l3, l4, l5, l6, l7, l8, l9, l10, l11, l12, .val (.int v)], S, H, cs, ss)) q := by
  subst hgo
  exact res_of s0_93 h
theorem u0_95 {go : Nat → St → Option ORes} (hgo : go = orun code ret E0 1) {n cs ss : Nat} {L : List Slot} {S : List Value} {H : AH} : go (n + 1) (95, L, S, H, cs, ss) = (aCall 3 6 56 576 11 110 F2 S H cs ss).bind fun r => go n (98, L, r.1, r.2.1, r.2.2.1, r.2.2.2) := by
  subst hgo
  exact s0_95
theorem t0_98t {go : Nat → St → Option ORes} (hgo : go = orun code ret E0 1) {n cs ss : Nat} {L : List Slot} {S : List Value} {H : AH} {q : Option ORes → Prop} {x : Int32} (hc : x = 0) (h : Rsq (go n (105, L, S, H, cs, ss)) q) : Rsq (go (n + 1) (98, L, (.int x :: S), H, cs, ss)) q := by
  subst hgo
  exact res_of s0_98 (res_t hc h)
theorem t0_98f {go : Nat → St → Option ORes} (hgo : go = orun code ret E0 1) {n cs ss : Nat} {L : List Slot} {S : List Value} {H : AH} {q : Option ORes → Prop} {x : Int32} (hc : ¬ x = 0) (h : Rsq (go n (101, L, S, H, cs, ss)) q) : Rsq (go (n + 1) (98, L, (.int x :: S), H, cs, ss)) q := by
  subst hgo
  exact res_of s0_98 (res_f hc h)
theorem t0_101 {go : Nat → St → Option ORes} (hgo : go = orun code ret E0 1) {n cs ss : Nat} {L : List Slot} {S : List Value} {H : AH} {q : Option ORes → Prop} (h : Rsq (go n (102, L, (.int 1 :: S), H, cs, ss)) q) : Rsq (go (n + 1) (101, L, S, H, cs, ss)) q := by
  subst hgo
  exact res_of s0_101 h
theorem t0_102 {go : Nat → St → Option ORes} (hgo : go = orun code ret E0 1) {n cs ss : Nat} {L : List Slot} {S : List Value} {H : AH} {q : Option ORes → Prop} (h : Rsq (go n (106, L, S, H, cs, ss)) q) : Rsq (go (n + 1) (102, L, S, H, cs, ss)) q := by
  subst hgo
  exact res_of s0_102 h
theorem t0_105 {go : Nat → St → Option ORes} (hgo : go = orun code ret E0 1) {n cs ss : Nat} {L : List Slot} {S : List Value} {H : AH} {q : Option ORes → Prop} (h : Rsq (go n (106, L, (.int 0 :: S), H, cs, ss)) q) : Rsq (go (n + 1) (105, L, S, H, cs, ss)) q := by
  subst hgo
  exact res_of s0_105 h
theorem t0_106 {go : Nat → St → Option ORes} (hgo : go = orun code ret E0 1) {n cs ss : Nat} {l0 l1 l2 l3 l4 l5 l6 l7 l8 l9 l10 l11 l12 l13 : Slot} {S : List Value} {H : AH} {q : Option ORes → Prop} {x : Int32} (hk : so l11 = true) (h : Rsq (go n (108, [l0, l1, l2, l3, l4, l5, l6, l7, l8, l9, l10, .val (.int x), l12, l13], S, H, cs, ss)) q) : Rsq (go (n + 1) (106, [l0, l1, l2, l3, l4, l5, l6, l7, l8, l9, l10, l11, l12, l13], (.int x :: S), H, cs, ss)) q := by
  subst hgo
  refine res_of s0_106 ?_
  rw [pI_int, st1_so (L := [l0, l1, l2, l3, l4, l5, l6, l7, l8, l9, l10, l11, l12, l13]) (k := 11) (l := l11) rfl hk]
  exact h
theorem t0_108 {go : Nat → St → Option ORes} (hgo : go = orun code ret E0 1) {n cs ss : Nat} {l0 l1 l2 l3 l4 l5 l6 l7 l8 l9 l10 l11 l13 : Slot} {S : List Value} {H : AH} {q : Option ORes → Prop} {v : Int32} (h : Rsq (go n (110, [l0, l1, l2, l3, l4, l5, l6, l7, l8, l9, l10, l11, .val (.int v), l13], (.int v :: S), H, cs, ss)) q) : Rsq (go (n + 1) (108, [l0, l1, l2, l3, l4, l5, l6, l7, l8, l9, l10, l11, .val (.int v), l13], S, H, cs, ss)) q := by
  subst hgo
  exact res_of s0_108 h
theorem t0_110 {go : Nat → St → Option ORes} (hgo : go = orun code ret E0 1) {n cs ss : Nat} {l0 l1 l2 l3 l4 l5 l6 l7 l8 l9 l10 l11 l12 : Slot} {S : List Value} {H : AH} {q : Option ORes → Prop} {v : Int32} (h : Rsq (go n (112, [l0, l1, l2, l3, l4, l5, l6, l7, l8, l9, l10, l11, l12, .val (.int v)], (.int v :: S), H, cs, ss)) q) : Rsq (go (n + 1) (110, [l0, l1, l2, l3, l4, l5, l6, l7, l8, l9, l10, l11, l12, .val (.int v)], S, H, cs, ss)) q := by
  subst hgo
  exact res_of s0_110 h
theorem u0_112 {go : Nat → St → Option ORes} (hgo : go = orun code ret E0 1) {n cs ss : Nat} {L : List Slot} {S : List Value} {H : AH} : go (n + 1) (112, L, S, H, cs, ss) = (aCall 1 6 56 576 0 0 F4 S H cs ss).bind fun r => go n (115, L, r.1, r.2.1, r.2.2.1, r.2.2.2) := by
  subst hgo
  exact s0_112
theorem t0_115 {go : Nat → St → Option ORes} (hgo : go = orun code ret E0 1) {n cs ss : Nat} {L : List Slot} {S : List Value} {H : AH} {q : Option ORes → Prop} {x y : Int32} (h : Rsq (go n (116, L, (.int (x + y) :: S), H, cs, ss)) q) : Rsq (go (n + 1) (115, L, (.int y :: .int x :: S), H, cs, ss)) q := by
  subst hgo
  exact res_of s0_115 h
theorem t0_116 {go : Nat → St → Option ORes} (hgo : go = orun code ret E0 1) {n cs ss : Nat} {l0 l1 l2 l3 l4 l5 l6 l7 l8 l9 l10 l11 l12 l13 : Slot} {S : List Value} {H : AH} {q : Option ORes → Prop} {x : Int32} (hk : so l12 = true) (h : Rsq (go n (118, [l0, l1, l2, l3, l4, l5, l6, l7, l8, l9, l10, l11, .val (.int x), l13], S, H, cs, ss)) q) : Rsq (go (n + 1) (116, [l0, l1, l2, l3, l4, l5, l6, l7, l8, l9, l10, l11, l12, l13], (.int x :: S), H, cs, ss)) q := by
  subst hgo
  refine res_of s0_116 ?_
  rw [pI_int, st1_so (L := [l0, l1, l2, l3, l4, l5, l6, l7, l8, l9, l10, l11, l12, l13]) (k := 12) (l := l12) rfl hk]
  exact h
theorem t0_118 {go : Nat → St → Option ORes} (hgo : go = orun code ret E0 1) {n cs ss : Nat} {l0 l1 l2 l3 l4 l5 l7 l8 l9 l10 l11 l12 l13 : Slot} {S : List Value} {H : AH} {q : Option ORes → Prop} {v : Int32} (h : Rsq (go n (120, [l0, l1, l2, l3, l4, l5, .val (.int v), l7, l8, l9, l10, l11, l12, l13], (.int v :: S), H, cs, ss)) q) : Rsq (go (n + 1) (118, [l0, l1, l2, l3, l4, l5, .val (.int v), l7, l8, l9, l10, l11, l12, l13], S, H, cs, ss)) q := by
  subst hgo
  exact res_of s0_118 h
theorem t0_120 {go : Nat → St → Option ORes} (hgo : go = orun code ret E0 1) {n cs ss : Nat} {L : List Slot} {S : List Value} {H : AH} {q : Option ORes → Prop} (h : Rsq (go n (121, L, (.int 2 :: S), H, cs, ss)) q) : Rsq (go (n + 1) (120, L, S, H, cs, ss)) q := by
  subst hgo
  exact res_of s0_120 h
theorem t0_121t {go : Nat → St → Option ORes} (hgo : go = orun code ret E0 1) {n cs ss : Nat} {L : List Slot} {S : List Value} {H : AH} {q : Option ORes → Prop} {x y : Int32} (hc : x < y) (h : Rsq (go n (192, L, S, H, cs, ss)) q) : Rsq (go (n + 1) (121, L, (.int y :: .int x :: S), H, cs, ss)) q := by
  subst hgo
  exact res_of s0_121 (res_t hc h)
theorem t0_121f {go : Nat → St → Option ORes} (hgo : go = orun code ret E0 1) {n cs ss : Nat} {L : List Slot} {S : List Value} {H : AH} {q : Option ORes → Prop} {x y : Int32} (hc : ¬ x < y) (h : Rsq (go n (124, L, S, H, cs, ss)) q) : Rsq (go (n + 1) (121, L, (.int y :: .int x :: S), H, cs, ss)) q := by
  subst hgo
  exact res_of s0_121 (res_f hc h)
theorem t0_124 {go : Nat → St → Option ORes} (hgo : go = orun code ret E0 1) {n cs ss : Nat} {l0 l1 l2 l3 l4 l5 l6 l7 l8 l9 l10 l12 l13 : Slot} {S : List Value} {H : AH} {q : Option ORes → Prop} {v : Int32} (h : Rsq (go n (126, [l0, l1, l2, l3, l4, l5, l6, l7, l8, l9, l10, .val (.int v), l12, l13], (.int v :: S), H, cs, ss)) q) : Rsq (go (n + 1) (124, [l0, l1, l2, l3, l4, l5, l6, l7, l8, l9, l10, .val (.int v), l12, l13], S, H, cs, ss)) q := by
  subst hgo
  exact res_of s0_124 h
theorem t0_126t {go : Nat → St → Option ORes} (hgo : go = orun code ret E0 1) {n cs ss : Nat} {L : List Slot} {S : List Value} {H : AH} {q : Option ORes → Prop} {x : Int32} (hc : x = 0) (h : Rsq (go n (143, L, S, H, cs, ss)) q) : Rsq (go (n + 1) (126, L, (.int x :: S), H, cs, ss)) q := by
  subst hgo
  exact res_of s0_126 (res_t hc h)
theorem t0_126f {go : Nat → St → Option ORes} (hgo : go = orun code ret E0 1) {n cs ss : Nat} {L : List Slot} {S : List Value} {H : AH} {q : Option ORes → Prop} {x : Int32} (hc : ¬ x = 0) (h : Rsq (go n (129, L, S, H, cs, ss)) q) : Rsq (go (n + 1) (126, L, (.int x :: S), H, cs, ss)) q := by
  subst hgo
  exact res_of s0_126 (res_f hc h)
theorem t0_129 {go : Nat → St → Option ORes} (hgo : go = orun code ret E0 1) {n cs ss : Nat} {l0 l1 l2 l3 l4 l5 l6 l7 l8 l10 l11 l12 l13 : Slot} {S : List Value} {H : AH} {q : Option ORes → Prop} {v : Value} (hv : isA v = true) (h : Rsq (go n (131, [l0, l1, l2, l3, l4, l5, l6, l7, l8, .val v, l10, l11, l12, l13], (v :: S), H, cs, ss)) q) : Rsq (go (n + 1) (129, [l0, l1, l2, l3, l4, l5, l6, l7, l8, .val v, l10, l11, l12, l13], S, H, cs, ss)) q := by
  subst hgo
  refine res_of s0_129 ?_
  rw [gA_isA (L := [l0, l1, l2, l3, l4, l5, l6, l7, l8, .val v, l10, l11, l12, l13]) (k := 9) (v := v) rfl hv]
  exact h
theorem t0_131 {go : Nat → St → Option ORes} (hgo : go = orun code ret E0 1) {n cs ss : Nat} {l0 l1 l2 l3 l4 l5 l6 l7 l8 l9 l10 l11 l13 : Slot} {S : List Value} {H : AH} {q : Option ORes → Prop} {v : Int32} (h : Rsq (go n (133, [l0, l1, l2, l3, l4, l5, l6, l7, l8, l9, l10, l11, .val (.int v), l13], (.int v :: S), H, cs, ss)) q) : Rsq (go (n + 1) (131, [l0, l1, l2, l3, l4, l5, l6, l7, l8, l9, l10, l11, .val (.int v), l13], S, H, cs, ss)) q := by
  subst hgo
  exact res_of s0_131 h
theorem u0_133 {go : Nat → St → Option ORes} (hgo : go = orun code ret E0 1) {n cs ss : Nat} {L : List Slot} {S : List Value} {H : AH} : go (n + 1) (133, L, S, H, cs, ss) = ex ret E0 1 (go n) (.baload) 133 L S H cs ss := by
  subst hgo
  exact s0_133
theorem t0_134 {go : Nat → St → Option ORes} (hgo : go = orun code ret E0 1) {n cs ss : Nat} {L : List Slot} {S : List Value} {H : AH} {q : Option ORes → Prop} (h : Rsq (go n (136, L, (.int 46 :: S), H, cs, ss)) q) : Rsq (go (n + 1) (134, L, S, H, cs, ss)) q := by
  subst hgo
  exact res_of s0_134 h
theorem t0_136t {go : Nat → St → Option ORes} (hgo : go = orun code ret E0 1) {n cs ss : Nat} {L : List Slot} {S : List Value} {H : AH} {q : Option ORes → Prop} {x y : Int32} (hc : x = y) (h : Rsq (go n (139, L, S, H, cs, ss)) q) : Rsq (go (n + 1) (136, L, (.int y :: .int x :: S), H, cs, ss)) q := by
  subst hgo
  exact res_of s0_136 (res_t hc h)
theorem t0_136f {go : Nat → St → Option ORes} (hgo : go = orun code ret E0 1) {n cs ss : Nat} {L : List Slot} {S : List Value} {H : AH} {q : Option ORes → Prop} {x y : Int32} (hc : ¬ x = y) (h : Rsq (go n (143, L, S, H, cs, ss)) q) : Rsq (go (n + 1) (136, L, (.int y :: .int x :: S), H, cs, ss)) q := by
  subst hgo
  exact res_of s0_136 (res_f hc h)
theorem t0_139 {go : Nat → St → Option ORes} (hgo : go = orun code ret E0 1) {n cs ss : Nat} {L : List Slot} {S : List Value} {H : AH} {q : Option ORes → Prop} (h : Rsq (go n (140, L, (.int 1 :: S), H, cs, ss)) q) : Rsq (go (n + 1) (139, L, S, H, cs, ss)) q := by
  subst hgo
  exact res_of s0_139 h
theorem t0_140 {go : Nat → St → Option ORes} (hgo : go = orun code ret E0 1) {n cs ss : Nat} {L : List Slot} {S : List Value} {H : AH} {q : Option ORes → Prop} (h : Rsq (go n (144, L, S, H, cs, ss)) q) : Rsq (go (n + 1) (140, L, S, H, cs, ss)) q := by
  subst hgo
  exact res_of s0_140 h
theorem t0_143 {go : Nat → St → Option ORes} (hgo : go = orun code ret E0 1) {n cs ss : Nat} {L : List Slot} {S : List Value} {H : AH} {q : Option ORes → Prop} (h : Rsq (go n (144, L, (.int 0 :: S), H, cs, ss)) q) : Rsq (go (n + 1) (143, L, S, H, cs, ss)) q := by
  subst hgo
  exact res_of s0_143 h
theorem t0_144 {go : Nat → St → Option ORes} (hgo : go = orun code ret E0 1) {n cs ss : Nat} {l0 l1 l2 l3 l4 l5 l6 l7 l8 l9 l10 l11 l12 l13 : Slot} {S : List Value} {H : AH} {q : Option ORes → Prop} {x : Int32} (hk : so l11 = true) (h : Rsq (go n (146, [l0, l1, l2, l3, l4, l5, l6, l7, l8, l9, l10, .val (.int x), l12, l13], S, H, cs, ss)) q) : Rsq (go (n + 1) (144, [l0, l1, l2, l3, l4, l5, l6, l7, l8, l9, l10, l11, l12, l13], (.int x :: S), H, cs, ss)) q := by
  subst hgo
  refine res_of s0_144 ?_
  rw [pI_int, st1_so (L := [l0, l1, l2, l3, l4, l5, l6, l7, l8, l9, l10, l11, l12, l13]) (k := 11) (l := l11) rfl hk]
  exact h
theorem t0_146 {go : Nat → St → Option ORes} (hgo : go = orun code ret E0 1) {n cs ss : Nat} {l0 l1 l2 l3 l4 l5 l6 l7 l8 l9 l10 l11 l13 : Slot} {S : List Value} {H : AH} {q : Option ORes → Prop} {v : Int32} (h : Rsq (go n (149, [l0, l1, l2, l3, l4, l5, l6, l7, l8, l9, l10, l11, .val (.int (v + 1)), l13], S, H, cs, ss)) q) : Rsq (go (n + 1) (146, [l0, l1, l2, l3, l4, l5, l6, l7, l8, l9, l10, l11, .val (.int v), l13], S, H, cs, ss)) q := by
  subst hgo
  exact res_of s0_146 h
theorem t0_149 {go : Nat → St → Option ORes} (hgo : go = orun code ret E0 1) {n cs ss : Nat} {l0 l1 l2 l3 l5 l6 l7 l8 l9 l10 l11 l12 l13 : Slot} {S : List Value} {H : AH} {q : Option ORes → Prop} {v : Value} (hv : isA v = true) (h : Rsq (go n (151, [l0, l1, l2, l3, .val v, l5, l6, l7, l8, l9, l10, l11, l12, l13], (v :: S), H, cs, ss)) q) : Rsq (go (n + 1) (149, [l0, l1, l2, l3, .val v, l5, l6, l7, l8, l9, l10, l11, l12, l13], S, H, cs, ss)) q := by
  subst hgo
  refine res_of s0_149 ?_
  rw [gA_isA (L := [l0, l1, l2, l3, .val v, l5, l6, l7, l8, l9, l10, l11, l12, l13]) (k := 4) (v := v) rfl hv]
  exact h
theorem t0_151 {go : Nat → St → Option ORes} (hgo : go = orun code ret E0 1) {n cs ss : Nat} {l0 l1 l2 l3 l4 l6 l7 l8 l9 l10 l11 l12 l13 : Slot} {S : List Value} {H : AH} {q : Option ORes → Prop} {v : Int32} (h : Rsq (go n (153, [l0, l1, l2, l3, l4, .val (.int v), l6, l7, l8, l9, l10, l11, l12, l13], (.int v :: S), H, cs, ss)) q) : Rsq (go (n + 1) (151, [l0, l1, l2, l3, l4, .val (.int v), l6, l7, l8, l9, l10, l11, l12, l13], S, H, cs, ss)) q := by
  subst hgo
  exact res_of s0_151 h
theorem t0_153 {go : Nat → St → Option ORes} (hgo : go = orun code ret E0 1) {n cs ss : Nat} {L : List Slot} {S : List Value} {H : AH} {q : Option ORes → Prop} (h : Rsq (go n (154, L, (.int 1 :: S), H, cs, ss)) q) : Rsq (go (n + 1) (153, L, S, H, cs, ss)) q := by
  subst hgo
  exact res_of s0_153 h
theorem t0_154 {go : Nat → St → Option ORes} (hgo : go = orun code ret E0 1) {n cs ss : Nat} {L : List Slot} {S : List Value} {H : AH} {q : Option ORes → Prop} {x y : Int32} (h : Rsq (go n (155, L, (.int (x + y) :: S), H, cs, ss)) q) : Rsq (go (n + 1) (154, L, (.int y :: .int x :: S), H, cs, ss)) q := by
  subst hgo
  exact res_of s0_154 h
theorem u0_155 {go : Nat → St → Option ORes} (hgo : go = orun code ret E0 1) {n cs ss : Nat} {L : List Slot} {S : List Value} {H : AH} : go (n + 1) (155, L, S, H, cs, ss) = ex ret E0 1 (go n) (.iaload) 155 L S H cs ss := by
  subst hgo
  exact s0_155
theorem t0_156 {go : Nat → St → Option ORes} (hgo : go = orun code ret E0 1) {n cs ss : Nat} {l0 l1 l2 l3 l4 l5 l6 l7 l8 l9 l10 l11 l12 l13 : Slot} {S : List Value} {H : AH} {q : Option ORes → Prop} {x : Int32} (hk : so l13 = true) (h : Rsq (go n (158, [l0, l1, l2, l3, l4, l5, l6, l7, l8, l9, l10, l11, l12, .val (.int x)], S, H, cs, ss)) q) : Rsq (go (n + 1) (156, [l0, l1, l2, l3, l4, l5, l6, l7, l8, l9, l10, l11, l12, l13], (.int x :: S), H, cs, ss)) q := by
  subst hgo
  refine res_of s0_156 ?_
  rw [pI_int, st1_so (L := [l0, l1, l2, l3, l4, l5, l6, l7, l8, l9, l10, l11, l12, l13]) (k := 13) (l := l13) rfl hk]
  exact h
theorem t0_158 {go : Nat → St → Option ORes} (hgo : go = orun code ret E0 1) {n cs ss : Nat} {l0 l1 l2 l3 l4 l5 l6 l7 l8 l9 l10 l12 l13 : Slot} {S : List Value} {H : AH} {q : Option ORes → Prop} {v : Int32} (h : Rsq (go n (160, [l0, l1, l2, l3, l4, l5, l6, l7, l8, l9, l10, .val (.int v), l12, l13], (.int v :: S), H, cs, ss)) q) : Rsq (go (n + 1) (158, [l0, l1, l2, l3, l4, l5, l6, l7, l8, l9, l10, .val (.int v), l12, l13], S, H, cs, ss)) q := by
  subst hgo
  exact res_of s0_158 h
theorem t0_160t {go : Nat → St → Option ORes} (hgo : go = orun code ret E0 1) {n cs ss : Nat} {L : List Slot} {S : List Value} {H : AH} {q : Option ORes → Prop} {x : Int32} (hc : x = 0) (h : Rsq (go n (179, L, S, H, cs, ss)) q) : Rsq (go (n + 1) (160, L, (.int x :: S), H, cs, ss)) q := by
  subst hgo
  exact res_of s0_160 (res_t hc h)
theorem t0_160f {go : Nat → St → Option ORes} (hgo : go = orun code ret E0 1) {n cs ss : Nat} {L : List Slot} {S : List Value} {H : AH} {q : Option ORes → Prop} {x : Int32} (hc : ¬ x = 0) (h : Rsq (go n (163, L, S, H, cs, ss)) q) : Rsq (go (n + 1) (160, L, (.int x :: S), H, cs, ss)) q := by
  subst hgo
  exact res_of s0_160 (res_f hc h)
theorem t0_163 {go : Nat → St → Option ORes} (hgo : go = orun code ret E0 1) {n cs ss : Nat} {l0 l1 l2 l3 l4 l5 l6 l7 l8 l10 l11 l12 l13 : Slot} {S : List Value} {H : AH} {q : Option ORes → Prop} {v : Value} (hv : isA v = true) (h : Rsq (go n (165, [l0, l1, l2, l3, l4, l5, l6, l7, l8, .val v, l10, l11, l12, l13], (v :: S), H, cs, ss)) q) : Rsq (go (n + 1) (163, [l0, l1, l2, l3, l4, l5, l6, l7, l8, .val v, l10, l11, l12, l13], S, H, cs, ss)) q := by
  subst hgo
  refine res_of s0_163 ?_
  rw [gA_isA (L := [l0, l1, l2, l3, l4, l5, l6, l7, l8, .val v, l10, l11, l12, l13]) (k := 9) (v := v) rfl hv]
  exact h
theorem t0_165 {go : Nat → St → Option ORes} (hgo : go = orun code ret E0 1) {n cs ss : Nat} {l0 l1 l2 l3 l4 l5 l6 l7 l8 l9 l10 l11 l13 : Slot} {S : List Value} {H : AH} {q : Option ORes → Prop} {v : Int32} (h : Rsq (go n (167, [l0, l1, l2, l3, l4, l5, l6, l7, l8, l9, l10, l11, .val (.int v), l13], (.int v :: S), H, cs, ss)) q) : Rsq (go (n + 1) (165, [l0, l1, l2, l3, l4, l5, l6, l7, l8, l9, l10, l11, .val (.int v), l13], S, H, cs, ss)) q := by
  subst hgo
  exact res_of s0_165 h
theorem t0_167 {go : Nat → St → Option ORes} (hgo : go = orun code ret E0 1) {n cs ss : Nat} {l0 l1 l2 l3 l4 l5 l6 l7 l8 l9 l10 l11 l12 : Slot} {S : List Value} {H : AH} {q : Option ORes → Prop} {v : Int32} (h : Rsq (go n (169, [l0, l1, l2, l3, l4, l5, l6, l7, l8, l9, l10, l11, l12, .val (.int v)], (.int v :: S), H, cs, ss)) q) : Rsq (go (n + 1) (167, [l0, l1, l2, l3, l4, l5, l6, l7, l8, l9, l10, l11, l12, .val (.int v)], S, H, cs, ss)) q := by
  subst hgo
  exact res_of s0_167 h
theorem u0_169 {go : Nat → St → Option ORes} (hgo : go = orun code ret E0 1) {n cs ss : Nat} {L : List Slot} {S : List Value} {H : AH} : go (n + 1) (169, L, S, H, cs, ss) = (aCall 3 6 56 576 11 110 F2 S H cs ss).bind fun r => go n (172, L, r.1, r.2.1, r.2.2.1, r.2.2.2) := by
  subst hgo
  exact s0_169
theorem t0_172t {go : Nat → St → Option ORes} (hgo : go = orun code ret E0 1) {n cs ss : Nat} {L : List Slot} {S : List Value} {H : AH} {q : Option ORes → Prop} {x : Int32} (hc : x = 0) (h : Rsq (go n (179, L, S, H, cs, ss)) q) : Rsq (go (n + 1) (172, L, (.int x :: S), H, cs, ss)) q := by
  subst hgo
  exact res_of s0_172 (res_t hc h)
theorem t0_172f {go : Nat → St → Option ORes} (hgo : go = orun code ret E0 1) {n cs ss : Nat} {L : List Slot} {S : List Value} {H : AH} {q : Option ORes → Prop} {x : Int32} (hc : ¬ x = 0) (h : Rsq (go n (175, L, S, H, cs, ss)) q) : Rsq (go (n + 1) (172, L, (.int x :: S), H, cs, ss)) q := by
  subst hgo
  exact res_of s0_172 (res_f hc h)
theorem t0_175 {go : Nat → St → Option ORes} (hgo : go = orun code ret E0 1) {n cs ss : Nat} {L : List Slot} {S : List Value} {H : AH} {q : Option ORes → Prop} (h : Rsq (go n (176, L, (.int 1 :: S), H, cs, ss)) q) : Rsq (go (n + 1) (175, L, S, H, cs, ss)) q := by
  subst hgo
  exact res_of s0_175 h
theorem t0_176 {go : Nat → St → Option ORes} (hgo : go = orun code ret E0 1) {n cs ss : Nat} {L : List Slot} {S : List Value} {H : AH} {q : Option ORes → Prop} (h : Rsq (go n (180, L, S, H, cs, ss)) q) : Rsq (go (n + 1) (176, L, S, H, cs, ss)) q := by
  subst hgo
  exact res_of s0_176 h
theorem t0_179 {go : Nat → St → Option ORes} (hgo : go = orun code ret E0 1) {n cs ss : Nat} {L : List Slot} {S : List Value} {H : AH} {q : Option ORes → Prop} (h : Rsq (go n (180, L, (.int 0 :: S), H, cs, ss)) q) : Rsq (go (n + 1) (179, L, S, H, cs, ss)) q := by
  subst hgo
  exact res_of s0_179 h
theorem t0_180 {go : Nat → St → Option ORes} (hgo : go = orun code ret E0 1) {n cs ss : Nat} {l0 l1 l2 l3 l4 l5 l6 l7 l8 l9 l10 l11 l12 l13 : Slot} {S : List Value} {H : AH} {q : Option ORes → Prop} {x : Int32} (hk : so l11 = true) (h : Rsq (go n (182, [l0, l1, l2, l3, l4, l5, l6, l7, l8, l9, l10, .val (.int x), l12, l13], S, H, cs, ss)) q) : Rsq (go (n + 1) (180, [l0, l1, l2, l3, l4, l5, l6, l7, l8, l9, l10, l11, l12, l13], (.int x :: S), H, cs, ss)) q := by
  subst hgo
  refine res_of s0_180 ?_
  rw [pI_int, st1_so (L := [l0, l1, l2, l3, l4, l5, l6, l7, l8, l9, l10, l11, l12, l13]) (k := 11) (l := l11) rfl hk]
  exact h
theorem t0_182 {go : Nat → St → Option ORes} (hgo : go = orun code ret E0 1) {n cs ss : Nat} {l0 l1 l2 l3 l4 l5 l6 l7 l8 l9 l10 l11 l13 : Slot} {S : List Value} {H : AH} {q : Option ORes → Prop} {v : Int32} (h : Rsq (go n (184, [l0, l1, l2, l3, l4, l5, l6, l7, l8, l9, l10, l11, .val (.int v), l13], (.int v :: S), H, cs, ss)) q) : Rsq (go (n + 1) (182, [l0, l1, l2, l3, l4, l5, l6, l7, l8, l9, l10, l11, .val (.int v), l13], S, H, cs, ss)) q := by
  subst hgo
  exact res_of s0_182 h
theorem t0_184 {go : Nat → St → Option ORes} (hgo : go = orun code ret E0 1) {n cs ss : Nat} {l0 l1 l2 l3 l4 l5 l6 l7 l8 l9 l10 l11 l12 : Slot} {S : List Value} {H : AH} {q : Option ORes → Prop} {v : Int32} (h : Rsq (go n (186, [l0, l1, l2, l3, l4, l5, l6, l7, l8, l9, l10, l11, l12, .val (.int v)], (.int v :: S), H, cs, ss)) q) : Rsq (go (n + 1) (184, [l0, l1, l2, l3, l4, l5, l6, l7, l8, l9, l10, l11, l12, .val (.int v)], S, H, cs, ss)) q := by
  subst hgo
  exact res_of s0_184 h
theorem u0_186 {go : Nat → St → Option ORes} (hgo : go = orun code ret E0 1) {n cs ss : Nat} {L : List Slot} {S : List Value} {H : AH} : go (n + 1) (186, L, S, H, cs, ss) = (aCall 1 6 56 576 0 0 F4 S H cs ss).bind fun r => go n (189, L, r.1, r.2.1, r.2.2.1, r.2.2.2) := by
  subst hgo
  exact s0_186
theorem t0_189 {go : Nat → St → Option ORes} (hgo : go = orun code ret E0 1) {n cs ss : Nat} {L : List Slot} {S : List Value} {H : AH} {q : Option ORes → Prop} {x y : Int32} (h : Rsq (go n (190, L, (.int (x + y) :: S), H, cs, ss)) q) : Rsq (go (n + 1) (189, L, (.int y :: .int x :: S), H, cs, ss)) q := by
  subst hgo
  exact res_of s0_189 h
theorem t0_190 {go : Nat → St → Option ORes} (hgo : go = orun code ret E0 1) {n cs ss : Nat} {l0 l1 l2 l3 l4 l5 l6 l7 l8 l9 l10 l11 l12 l13 : Slot} {S : List Value} {H : AH} {q : Option ORes → Prop} {x : Int32} (hk : so l12 = true) (h : Rsq (go n (192, [l0, l1, l2, l3, l4, l5, l6, l7, l8, l9, l10, l11, .val (.int x), l13], S, H, cs, ss)) q) : Rsq (go (n + 1) (190, [l0, l1, l2, l3, l4, l5, l6, l7, l8, l9, l10, l11, l12, l13], (.int x :: S), H, cs, ss)) q := by
  subst hgo
  refine res_of s0_190 ?_
  rw [pI_int, st1_so (L := [l0, l1, l2, l3, l4, l5, l6, l7, l8, l9, l10, l11, l12, l13]) (k := 12) (l := l12) rfl hk]
  exact h
theorem t0_192 {go : Nat → St → Option ORes} (hgo : go = orun code ret E0 1) {n cs ss : Nat} {l0 l1 l2 l3 l4 l5 l6 l7 l8 l9 l10 l12 l13 : Slot} {S : List Value} {H : AH} {q : Option ORes → Prop} {v : Int32} (h : Rsq (go n (194, [l0, l1, l2, l3, l4, l5, l6, l7, l8, l9, l10, .val (.int v), l12, l13], (.int v :: S), H, cs, ss)) q) : Rsq (go (n + 1) (192, [l0, l1, l2, l3, l4, l5, l6, l7, l8, l9, l10, .val (.int v), l12, l13], S, H, cs, ss)) q := by
  subst hgo
  exact res_of s0_192 h
theorem t0_194t {go : Nat → St → Option ORes} (hgo : go = orun code ret E0 1) {n cs ss : Nat} {L : List Slot} {S : List Value} {H : AH} {q : Option ORes → Prop} {x : Int32} (hc : x = 0) (h : Rsq (go n (208, L, S, H, cs, ss)) q) : Rsq (go (n + 1) (194, L, (.int x :: S), H, cs, ss)) q := by
  subst hgo
  exact res_of s0_194 (res_t hc h)
theorem t0_194f {go : Nat → St → Option ORes} (hgo : go = orun code ret E0 1) {n cs ss : Nat} {L : List Slot} {S : List Value} {H : AH} {q : Option ORes → Prop} {x : Int32} (hc : ¬ x = 0) (h : Rsq (go n (197, L, S, H, cs, ss)) q) : Rsq (go (n + 1) (194, L, (.int x :: S), H, cs, ss)) q := by
  subst hgo
  exact res_of s0_194 (res_f hc h)
theorem t0_197 {go : Nat → St → Option ORes} (hgo : go = orun code ret E0 1) {n cs ss : Nat} {l0 l1 l2 l3 l4 l5 l6 l7 l8 l9 l11 l12 l13 : Slot} {S : List Value} {H : AH} {q : Option ORes → Prop} {v : Int32} (h : Rsq (go n (199, [l0, l1, l2, l3, l4, l5, l6, l7, l8, l9, .val (.int v), l11, l12, l13], (.int v :: S), H, cs, ss)) q) : Rsq (go (n + 1) (197, [l0, l1, l2, l3, l4, l5, l6, l7, l8, l9, .val (.int v), l11, l12, l13], S, H, cs, ss)) q := by
  subst hgo
  exact res_of s0_197 h
theorem t0_199 {go : Nat → St → Option ORes} (hgo : go = orun code ret E0 1) {n cs ss : Nat} {l0 l1 l2 l3 l4 l5 l6 l7 l8 l9 l10 l11 l13 : Slot} {S : List Value} {H : AH} {q : Option ORes → Prop} {v : Int32} (h : Rsq (go n (201, [l0, l1, l2, l3, l4, l5, l6, l7, l8, l9, l10, l11, .val (.int v), l13], (.int v :: S), H, cs, ss)) q) : Rsq (go (n + 1) (199, [l0, l1, l2, l3, l4, l5, l6, l7, l8, l9, l10, l11, .val (.int v), l13], S, H, cs, ss)) q := by
  subst hgo
  exact res_of s0_199 h
theorem t0_201t {go : Nat → St → Option ORes} (hgo : go = orun code ret E0 1) {n cs ss : Nat} {L : List Slot} {S : List Value} {H : AH} {q : Option ORes → Prop} {x y : Int32} (hc : x = y) (h : Rsq (go n (204, L, S, H, cs, ss)) q) : Rsq (go (n + 1) (201, L, (.int y :: .int x :: S), H, cs, ss)) q := by
  subst hgo
  exact res_of s0_201 (res_t hc h)
theorem t0_201f {go : Nat → St → Option ORes} (hgo : go = orun code ret E0 1) {n cs ss : Nat} {L : List Slot} {S : List Value} {H : AH} {q : Option ORes → Prop} {x y : Int32} (hc : ¬ x = y) (h : Rsq (go n (208, L, S, H, cs, ss)) q) : Rsq (go (n + 1) (201, L, (.int y :: .int x :: S), H, cs, ss)) q := by
  subst hgo
  exact res_of s0_201 (res_f hc h)
theorem t0_204 {go : Nat → St → Option ORes} (hgo : go = orun code ret E0 1) {n cs ss : Nat} {L : List Slot} {S : List Value} {H : AH} {q : Option ORes → Prop} (h : Rsq (go n (205, L, (.int 1 :: S), H, cs, ss)) q) : Rsq (go (n + 1) (204, L, S, H, cs, ss)) q := by
  subst hgo
  exact res_of s0_204 h
theorem t0_205 {go : Nat → St → Option ORes} (hgo : go = orun code ret E0 1) {n cs ss : Nat} {L : List Slot} {S : List Value} {H : AH} {q : Option ORes → Prop} (h : Rsq (go n (209, L, S, H, cs, ss)) q) : Rsq (go (n + 1) (205, L, S, H, cs, ss)) q := by
  subst hgo
  exact res_of s0_205 h
theorem t0_208 {go : Nat → St → Option ORes} (hgo : go = orun code ret E0 1) {n cs ss : Nat} {L : List Slot} {S : List Value} {H : AH} {q : Option ORes → Prop} (h : Rsq (go n (209, L, (.int 0 :: S), H, cs, ss)) q) : Rsq (go (n + 1) (208, L, S, H, cs, ss)) q := by
  subst hgo
  exact res_of s0_208 h
theorem t0_209 {go : Nat → St → Option ORes} (hgo : go = orun code ret E0 1) {n cs ss : Nat} {l0 l1 l2 l3 l4 l5 l6 l7 l8 l9 l10 l11 l12 l13 : Slot} {S : List Value} {H : AH} {q : Option ORes → Prop} {x : Int32} (hk : so l11 = true) (h : Rsq (go n (211, [l0, l1, l2, l3, l4, l5, l6, l7, l8, l9, l10, .val (.int x), l12, l13], S, H, cs, ss)) q) : Rsq (go (n + 1) (209, [l0, l1, l2, l3, l4, l5, l6, l7, l8, l9, l10, l11, l12, l13], (.int x :: S), H, cs, ss)) q := by
  subst hgo
  refine res_of s0_209 ?_
  rw [pI_int, st1_so (L := [l0, l1, l2, l3, l4, l5, l6, l7, l8, l9, l10, l11, l12, l13]) (k := 11) (l := l11) rfl hk]
  exact h
theorem t0_211 {go : Nat → St → Option ORes} (hgo : go = orun code ret E0 1) {n cs ss : Nat} {l0 l1 l2 l3 l4 l5 l6 l7 l9 l10 l11 l12 l13 : Slot} {S : List Value} {H : AH} {q : Option ORes → Prop} {v : Int32} (h : Rsq (go n (213, [l0, l1, l2, l3, l4, l5, l6, l7, .val (.int v), l9, l10, l11, l12, l13], (.int v :: S), H, cs, ss)) q) : Rsq (go (n + 1) (211, [l0, l1, l2, l3, l4, l5, l6, l7, .val (.int v), l9, l10, l11, l12, l13], S, H, cs, ss)) q := by
  subst hgo
  exact res_of s0_211 h
theorem t0_213t {go : Nat → St → Option ORes} (hgo : go = orun code ret E0 1) {n cs ss : Nat} {L : List Slot} {S : List Value} {H : AH} {q : Option ORes → Prop} {x : Int32} (hc : 0 < x) (h : Rsq (go n (216, L, S, H, cs, ss)) q) : Rsq (go (n + 1) (213, L, (.int x :: S), H, cs, ss)) q := by
  subst hgo
  exact res_of s0_213 (res_t hc h)
theorem t0_213f {go : Nat → St → Option ORes} (hgo : go = orun code ret E0 1) {n cs ss : Nat} {L : List Slot} {S : List Value} {H : AH} {q : Option ORes → Prop} {x : Int32} (hc : ¬ 0 < x) (h : Rsq (go n (238, L, S, H, cs, ss)) q) : Rsq (go (n + 1) (213, L, (.int x :: S), H, cs, ss)) q := by
  subst hgo
  exact res_of s0_213 (res_f hc h)
theorem t0_216 {go : Nat → St → Option ORes} (hgo : go = orun code ret E0 1) {n cs ss : Nat} {l0 l1 l2 l3 l4 l5 l6 l7 l8 l9 l10 l12 l13 : Slot} {S : List Value} {H : AH} {q : Option ORes → Prop} {v : Int32} (h : Rsq (go n (218, [l0, l1, l2, l3, l4, l5, l6, l7, l8, l9, l10, .val (.int v), l12, l13], (.int v :: S), H, cs, ss)) q) : Rsq (go (n + 1) (216, [l0, l1, l2, l3, l4, l5, l6, l7, l8, l9, l10, .val (.int v), l12, l13], S, H, cs, ss)) q := by
  subst hgo
  exact res_of s0_216 h
theorem t0_218t {go : Nat → St → Option ORes} (hgo : go = orun code ret E0 1) {n cs ss : Nat} {L : List Slot} {S : List Value} {H : AH} {q : Option ORes → Prop} {x : Int32} (hc : x = 0) (h : Rsq (go n (235, L, S, H, cs, ss)) q) : Rsq (go (n + 1) (218, L, (.int x :: S), H, cs, ss)) q := by
  subst hgo
  exact res_of s0_218 (res_t hc h)
theorem t0_218f {go : Nat → St → Option ORes} (hgo : go = orun code ret E0 1) {n cs ss : Nat} {L : List Slot} {S : List Value} {H : AH} {q : Option ORes → Prop} {x : Int32} (hc : ¬ x = 0) (h : Rsq (go n (221, L, S, H, cs, ss)) q) : Rsq (go (n + 1) (218, L, (.int x :: S), H, cs, ss)) q := by
  subst hgo
  exact res_of s0_218 (res_f hc h)
theorem t0_221 {go : Nat → St → Option ORes} (hgo : go = orun code ret E0 1) {n cs ss : Nat} {l0 l1 l2 l3 l4 l5 l6 l7 l8 l10 l11 l12 l13 : Slot} {S : List Value} {H : AH} {q : Option ORes → Prop} {v : Value} (hv : isA v = true) (h : Rsq (go n (223, [l0, l1, l2, l3, l4, l5, l6, l7, l8, .val v, l10, l11, l12, l13], (v :: S), H, cs, ss)) q) : Rsq (go (n + 1) (221, [l0, l1, l2, l3, l4, l5, l6, l7, l8, .val v, l10, l11, l12, l13], S, H, cs, ss)) q := by
  subst hgo
  refine res_of s0_221 ?_
  rw [gA_isA (L := [l0, l1, l2, l3, l4, l5, l6, l7, l8, .val v, l10, l11, l12, l13]) (k := 9) (v := v) rfl hv]
  exact h
theorem t0_223 {go : Nat → St → Option ORes} (hgo : go = orun code ret E0 1) {n cs ss : Nat} {l0 l1 l2 l3 l4 l5 l6 l7 l9 l10 l11 l12 l13 : Slot} {S : List Value} {H : AH} {q : Option ORes → Prop} {v : Int32} (h : Rsq (go n (225, [l0, l1, l2, l3, l4, l5, l6, l7, .val (.int v), l9, l10, l11, l12, l13], (.int v :: S), H, cs, ss)) q) : Rsq (go (n + 1) (223, [l0, l1, l2, l3, l4, l5, l6, l7, .val (.int v), l9, l10, l11, l12, l13], S, H, cs, ss)) q := by
  subst hgo
  exact res_of s0_223 h
theorem t0_225 {go : Nat → St → Option ORes} (hgo : go = orun code ret E0 1) {n cs ss : Nat} {L : List Slot} {S : List Value} {H : AH} {q : Option ORes → Prop} (h : Rsq (go n (226, L, (.int 1 :: S), H, cs, ss)) q) : Rsq (go (n + 1) (225, L, S, H, cs, ss)) q := by
  subst hgo
  exact res_of s0_225 h
theorem t0_226 {go : Nat → St → Option ORes} (hgo : go = orun code ret E0 1) {n cs ss : Nat} {L : List Slot} {S : List Value} {H : AH} {q : Option ORes → Prop} {x y : Int32} (h : Rsq (go n (227, L, (.int (x - y) :: S), H, cs, ss)) q) : Rsq (go (n + 1) (226, L, (.int y :: .int x :: S), H, cs, ss)) q := by
  subst hgo
  exact res_of s0_226 h
theorem u0_227 {go : Nat → St → Option ORes} (hgo : go = orun code ret E0 1) {n cs ss : Nat} {L : List Slot} {S : List Value} {H : AH} : go (n + 1) (227, L, S, H, cs, ss) = ex ret E0 1 (go n) (.baload) 227 L S H cs ss := by
  subst hgo
  exact s0_227
theorem t0_228t {go : Nat → St → Option ORes} (hgo : go = orun code ret E0 1) {n cs ss : Nat} {L : List Slot} {S : List Value} {H : AH} {q : Option ORes → Prop} {x : Int32} (hc : x = 0) (h : Rsq (go n (231, L, S, H, cs, ss)) q) : Rsq (go (n + 1) (228, L, (.int x :: S), H, cs, ss)) q := by
  subst hgo
  exact res_of s0_228 (res_t hc h)
theorem t0_228f {go : Nat → St → Option ORes} (hgo : go = orun code ret E0 1) {n cs ss : Nat} {L : List Slot} {S : List Value} {H : AH} {q : Option ORes → Prop} {x : Int32} (hc : ¬ x = 0) (h : Rsq (go n (235, L, S, H, cs, ss)) q) : Rsq (go (n + 1) (228, L, (.int x :: S), H, cs, ss)) q := by
  subst hgo
  exact res_of s0_228 (res_f hc h)
theorem t0_231 {go : Nat → St → Option ORes} (hgo : go = orun code ret E0 1) {n cs ss : Nat} {L : List Slot} {S : List Value} {H : AH} {q : Option ORes → Prop} (h : Rsq (go n (232, L, (.int 1 :: S), H, cs, ss)) q) : Rsq (go (n + 1) (231, L, S, H, cs, ss)) q := by
  subst hgo
  exact res_of s0_231 h
theorem t0_232 {go : Nat → St → Option ORes} (hgo : go = orun code ret E0 1) {n cs ss : Nat} {L : List Slot} {S : List Value} {H : AH} {q : Option ORes → Prop} (h : Rsq (go n (236, L, S, H, cs, ss)) q) : Rsq (go (n + 1) (232, L, S, H, cs, ss)) q := by
  subst hgo
  exact res_of s0_232 h
theorem t0_235 {go : Nat → St → Option ORes} (hgo : go = orun code ret E0 1) {n cs ss : Nat} {L : List Slot} {S : List Value} {H : AH} {q : Option ORes → Prop} (h : Rsq (go n (236, L, (.int 0 :: S), H, cs, ss)) q) : Rsq (go (n + 1) (235, L, S, H, cs, ss)) q := by
  subst hgo
  exact res_of s0_235 h
theorem t0_236 {go : Nat → St → Option ORes} (hgo : go = orun code ret E0 1) {n cs ss : Nat} {l0 l1 l2 l3 l4 l5 l6 l7 l8 l9 l10 l11 l12 l13 : Slot} {S : List Value} {H : AH} {q : Option ORes → Prop} {x : Int32} (hk : so l11 = true) (h : Rsq (go n (238, [l0, l1, l2, l3, l4, l5, l6, l7, l8, l9, l10, .val (.int x), l12, l13], S, H, cs, ss)) q) : Rsq (go (n + 1) (236, [l0, l1, l2, l3, l4, l5, l6, l7, l8, l9, l10, l11, l12, l13], (.int x :: S), H, cs, ss)) q := by
  subst hgo
  refine res_of s0_236 ?_
  rw [pI_int, st1_so (L := [l0, l1, l2, l3, l4, l5, l6, l7, l8, l9, l10, l11, l12, l13]) (k := 11) (l := l11) rfl hk]
  exact h
theorem t0_238 {go : Nat → St → Option ORes} (hgo : go = orun code ret E0 1) {n cs ss : Nat} {l0 l1 l2 l3 l4 l5 l6 l7 l8 l9 l10 l12 l13 : Slot} {S : List Value} {H : AH} {q : Option ORes → Prop} {v : Int32} (h : Rsq (go n (240, [l0, l1, l2, l3, l4, l5, l6, l7, l8, l9, l10, .val (.int v), l12, l13], (.int v :: S), H, cs, ss)) q) : Rsq (go (n + 1) (238, [l0, l1, l2, l3, l4, l5, l6, l7, l8, l9, l10, .val (.int v), l12, l13], S, H, cs, ss)) q := by
  subst hgo
  exact res_of s0_238 h
theorem t0_240t {go : Nat → St → Option ORes} (hgo : go = orun code ret E0 1) {n cs ss : Nat} {L : List Slot} {S : List Value} {H : AH} {q : Option ORes → Prop} {x : Int32} (hc : x = 0) (h : Rsq (go n (255, L, S, H, cs, ss)) q) : Rsq (go (n + 1) (240, L, (.int x :: S), H, cs, ss)) q := by
  subst hgo
  exact res_of s0_240 (res_t hc h)
theorem t0_240f {go : Nat → St → Option ORes} (hgo : go = orun code ret E0 1) {n cs ss : Nat} {L : List Slot} {S : List Value} {H : AH} {q : Option ORes → Prop} {x : Int32} (hc : ¬ x = 0) (h : Rsq (go n (243, L, S, H, cs, ss)) q) : Rsq (go (n + 1) (240, L, (.int x :: S), H, cs, ss)) q := by
  subst hgo
  exact res_of s0_240 (res_f hc h)
theorem t0_243 {go : Nat → St → Option ORes} (hgo : go = orun code ret E0 1) {n cs ss : Nat} {l0 l1 l2 l3 l4 l5 l6 l7 l8 l10 l11 l12 l13 : Slot} {S : List Value} {H : AH} {q : Option ORes → Prop} {v : Value} (hv : isA v = true) (h : Rsq (go n (245, [l0, l1, l2, l3, l4, l5, l6, l7, l8, .val v, l10, l11, l12, l13], (v :: S), H, cs, ss)) q) : Rsq (go (n + 1) (243, [l0, l1, l2, l3, l4, l5, l6, l7, l8, .val v, l10, l11, l12, l13], S, H, cs, ss)) q := by
  subst hgo
  refine res_of s0_243 ?_
  rw [gA_isA (L := [l0, l1, l2, l3, l4, l5, l6, l7, l8, .val v, l10, l11, l12, l13]) (k := 9) (v := v) rfl hv]
  exact h
theorem t0_245 {go : Nat → St → Option ORes} (hgo : go = orun code ret E0 1) {n cs ss : Nat} {l0 l1 l2 l3 l4 l5 l6 l7 l8 l9 l10 l11 l13 : Slot} {S : List Value} {H : AH} {q : Option ORes → Prop} {v : Int32} (h : Rsq (go n (247, [l0, l1, l2, l3, l4, l5, l6, l7, l8, l9, l10, l11, .val (.int v), l13], (.int v :: S), H, cs, ss)) q) : Rsq (go (n + 1) (245, [l0, l1, l2, l3, l4, l5, l6, l7, l8, l9, l10, l11, .val (.int v), l13], S, H, cs, ss)) q := by
  subst hgo
  exact res_of s0_245 h
theorem u0_247 {go : Nat → St → Option ORes} (hgo : go = orun code ret E0 1) {n cs ss : Nat} {L : List Slot} {S : List Value} {H : AH} : go (n + 1) (247, L, S, H, cs, ss) = ex ret E0 1 (go n) (.baload) 247 L S H cs ss := by
  subst hgo
  exact s0_247
theorem t0_248t {go : Nat → St → Option ORes} (hgo : go = orun code ret E0 1) {n cs ss : Nat} {L : List Slot} {S : List Value} {H : AH} {q : Option ORes → Prop} {x : Int32} (hc : x = 0) (h : Rsq (go n (251, L, S, H, cs, ss)) q) : Rsq (go (n + 1) (248, L, (.int x :: S), H, cs, ss)) q := by
  subst hgo
  exact res_of s0_248 (res_t hc h)
theorem t0_248f {go : Nat → St → Option ORes} (hgo : go = orun code ret E0 1) {n cs ss : Nat} {L : List Slot} {S : List Value} {H : AH} {q : Option ORes → Prop} {x : Int32} (hc : ¬ x = 0) (h : Rsq (go n (255, L, S, H, cs, ss)) q) : Rsq (go (n + 1) (248, L, (.int x :: S), H, cs, ss)) q := by
  subst hgo
  exact res_of s0_248 (res_f hc h)
theorem t0_251 {go : Nat → St → Option ORes} (hgo : go = orun code ret E0 1) {n cs ss : Nat} {L : List Slot} {S : List Value} {H : AH} {q : Option ORes → Prop} (h : Rsq (go n (252, L, (.int 1 :: S), H, cs, ss)) q) : Rsq (go (n + 1) (251, L, S, H, cs, ss)) q := by
  subst hgo
  exact res_of s0_251 h
theorem t0_252 {go : Nat → St → Option ORes} (hgo : go = orun code ret E0 1) {n cs ss : Nat} {L : List Slot} {S : List Value} {H : AH} {q : Option ORes → Prop} (h : Rsq (go n (256, L, S, H, cs, ss)) q) : Rsq (go (n + 1) (252, L, S, H, cs, ss)) q := by
  subst hgo
  exact res_of s0_252 h
theorem t0_255 {go : Nat → St → Option ORes} (hgo : go = orun code ret E0 1) {n cs ss : Nat} {L : List Slot} {S : List Value} {H : AH} {q : Option ORes → Prop} (h : Rsq (go n (256, L, (.int 0 :: S), H, cs, ss)) q) : Rsq (go (n + 1) (255, L, S, H, cs, ss)) q := by
  subst hgo
  exact res_of s0_255 h
theorem t0_256 {go : Nat → St → Option ORes} (hgo : go = orun code ret E0 1) {n cs ss : Nat} {l0 l1 l2 l3 l4 l5 l6 l7 l8 l9 l10 l11 l12 l13 : Slot} {S : List Value} {H : AH} {q : Option ORes → Prop} {x : Int32} (hk : so l11 = true) (h : Rsq (go n (258, [l0, l1, l2, l3, l4, l5, l6, l7, l8, l9, l10, .val (.int x), l12, l13], S, H, cs, ss)) q) : Rsq (go (n + 1) (256, [l0, l1, l2, l3, l4, l5, l6, l7, l8, l9, l10, l11, l12, l13], (.int x :: S), H, cs, ss)) q := by
  subst hgo
  refine res_of s0_256 ?_
  rw [pI_int, st1_so (L := [l0, l1, l2, l3, l4, l5, l6, l7, l8, l9, l10, l11, l12, l13]) (k := 11) (l := l11) rfl hk]
  exact h
theorem t0_258 {go : Nat → St → Option ORes} (hgo : go = orun code ret E0 1) {n cs ss : Nat} {l0 l1 l2 l3 l4 l5 l6 l7 l8 l9 l10 l12 l13 : Slot} {S : List Value} {H : AH} {q : Option ORes → Prop} {v : Int32} (h : Rsq (go n (260, [l0, l1, l2, l3, l4, l5, l6, l7, l8, l9, l10, .val (.int v), l12, l13], (.int v :: S), H, cs, ss)) q) : Rsq (go (n + 1) (258, [l0, l1, l2, l3, l4, l5, l6, l7, l8, l9, l10, .val (.int v), l12, l13], S, H, cs, ss)) q := by
  subst hgo
  exact res_of s0_258 h
theorem t0_260 {go : Nat → St → Option ORes} (hgo : go = orun code ret E0 1) {n cs ss : Nat} {L : List Slot} {S : List Value} {H : AH} {q : Option ORes → Prop} {z : Int32} (h : q (some (some (.int (z &&& 1)), H))) : Rsq (go (n + 1) (260, L, (.int z :: S), H, cs, ss)) q := by
  subst hgo
  exact res_of s0_260 h
theorem qb_6 : (Int8.ofInt 6).toInt32 = 6 := by decide
theorem qb_7 : (Int8.ofInt 7).toInt32 = 7 := by decide
theorem qb_8 : (Int8.ofInt 8).toInt32 = 8 := by decide
theorem qb_9 : (Int8.ofInt 9).toInt32 = 9 := by decide
theorem qb_10 : (Int8.ofInt 10).toInt32 = 10 := by decide
theorem qb_32 : (Int8.ofInt 32).toInt32 = 32 := by decide
theorem qb_45 : (Int8.ofInt 45).toInt32 = 45 := by decide
theorem qb_46 : (Int8.ofInt 46).toInt32 = 46 := by decide
theorem qb_48 : (Int8.ofInt 48).toInt32 = 48 := by decide
theorem qc_m1 : Int32.ofInt (-1) = (-1) := by decide
theorem qc_0 : Int32.ofInt 0 = 0 := by decide
theorem qc_1 : Int32.ofInt 1 = 1 := by decide
theorem qc_2 : Int32.ofInt 2 = 2 := by decide
theorem qc_3 : Int32.ofInt 3 = 3 := by decide
theorem qc_4 : Int32.ofInt 4 = 4 := by decide
theorem qc_5 : Int32.ofInt 5 = 5 := by decide
theorem lt_of {x y : Int32} {a b : Int} (hx : x.toInt = a) (hy : y.toInt = b) (h : a < b) : x < y := by
  rw [Int32.lt_iff_toInt_lt]; omega
theorem nlt_of {x y : Int32} {a b : Int} (hx : x.toInt = a) (hy : y.toInt = b) (h : ¬ a < b) : ¬ x < y := by
  rw [Int32.lt_iff_toInt_lt]; omega
theorem eq_of {x y : Int32} {a b : Int} (hx : x.toInt = a) (hy : y.toInt = b) (h : a = b) : x = y := by
  rw [← Int32.toInt_inj]; omega
theorem lt64 {x y : Int64} {a b : Int} (hx : x.toInt = a) (hy : y.toInt = b) (h : a < b) : x < y := by
  rw [Int64.lt_iff_toInt_lt]; omega
theorem nlt64 {x y : Int64} {a b : Int} (hx : x.toInt = a) (hy : y.toInt = b) (h : ¬ a < b) : ¬ x < y := by
  rw [Int64.lt_iff_toInt_lt]; omega
theorem own_ix {i : Int32} {a : Nat} (hi : i.toInt = (a : Int)) : ¬ i < 0 ∧ i.toNatClampNeg = a := by
  have e0 : (0 : Int32).toInt = 0 := by decide
  refine ⟨?_, ?_⟩
  · rw [Int32.lt_iff_toInt_lt]; omega
  · show i.toInt.toNat = a
    omega
theorem own_add {x y : Int32} {a b : Int} (hx : x.toInt = a) (hy : y.toInt = b) (h : -2147483648 ≤ a + b ∧ a + b < 2147483648) : (x + y).toInt = a + b := by
  have h1 := c_iadd x y
  have h2 := rng32 (x + y)
  omega
theorem own_sub {x y : Int32} {a b : Int} (hx : x.toInt = a) (hy : y.toInt = b) (h : -2147483648 ≤ a - b ∧ a - b < 2147483648) : (x - y).toInt = a - b := by
  have h1 := c_isub x y
  have h2 := rng32 (x - y)
  omega
theorem own_b {x : Int32} {a : Int} (hx : x.toInt = a) (h : -128 ≤ a ∧ a < 128) : x.toInt8.toInt32.toInt = a := by
  have h1 := c_i2b x
  omega
theorem own_or1 {k p r : Nat} (h : k < p ∨ p + (r + 1) ≤ k) : k < p ∨ p + r ≤ k := by omega
theorem own_ne1 {k p r : Nat} (h : k < p ∨ p + (r + 1) ≤ k) : p + r ≠ k := by omega
theorem own_or2 {k p t d : Nat} (h : k < p ∨ p + t ≤ k) (e : t = 1 + d) : k < p + 1 ∨ p + 1 + d ≤ k := by omega
theorem own_ne2 {k p t d : Nat} (h : k < p ∨ p + t ≤ k) (e : t = 1 + d) : p ≠ k := by omega
def mg (v : Int32) : Nat := v.toInt.natAbs
def dn (m : Nat) : Nat := if m < 10 then 1 else if m < 100 then 2 else if m < 1000 then 3 else if m < 10000 then 4 else if m < 100000 then 5 else if m < 1000000 then 6 else if m < 10000000 then 7 else if m < 100000000 then 8 else if m < 1000000000 then 9 else 10
def ng (v : Int32) : Nat := if v.toInt < 0 then 1 else 0
def tl (v : Int32) : Nat := ng v + dn (mg v)
def chv (v : Int32) (k : Nat) : Int := if v.toInt < 0 ∧ k = 0 then 45 else 48 + ((mg v / 10 ^ (tl v - 1 - k) % 10 : Nat) : Int)
theorem dn_le (m : Nat) : 1 ≤ dn m ∧ dn m ≤ 10 := by
  unfold dn
  repeat' split
  all_goals omega
theorem mg_lt (v : Int32) : mg v ≤ 2147483648 := by
  have := rng32 v
  unfold mg; omega
theorem ofn {k : Nat} (h : k < 2147483648) : (Int32.ofNat k).toInt = (k : Int) := Int32.toInt_ofNat_small (by omega)
def own_mag (v : Int32) : Int64 := if v < 0 then -v.toInt64 else v.toInt64
theorem own_mag_i (v : Int32) : (own_mag v).toInt = (mg v : Int) := by
  have h1 := c_i2l v
  have h2 := c_lneg v.toInt64
  have h3 := rng64 (-v.toInt64)
  have h4 := rng32 v
  have e0 : (0 : Int32).toInt = 0 := by decide
  unfold own_mag mg
  by_cases h : v < 0
  · rw [if_pos h]
    rw [Int32.lt_iff_toInt_lt] at h
    omega
  · rw [if_neg h]
    rw [Int32.lt_iff_toInt_lt] at h
    omega
theorem F5_eq (v : Int32) (H : AH) : F5 [.int v] H = some (some (.long (own_mag v)), H) := by
  unfold own_mag
  by_cases h : v < 0
  · rw [if_pos h]
    refine is_of f5_in fun go hgo => ?_
    refine t5_0 hgo ?_
    refine t5_1t hgo h ?_
    refine t5_4 hgo ?_
    refine t5_5 hgo ?_
    refine t5_6 hgo ?_
    refine t5_7 hgo ?_
    refine t5_12 hgo ?_
    exact is_r
  · rw [if_neg h]
    refine is_of f5_in fun go hgo => ?_
    refine t5_0 hgo ?_
    refine t5_1f hgo h ?_
    refine t5_10 hgo ?_
    refine t5_11 hgo ?_
    refine t5_12 hgo ?_
    exact is_r
set_option maxRecDepth 65536 in
theorem F6_eq {m : Int64} {M : Nat} (hm : m.toInt = (M : Int)) (H : AH) : F6 [.long m] H = some (some (.int (Int32.ofNat (dn M))), H) := by
  refine is_of f6_in fun go hgo => ?_
  by_cases h1 : M < 10
  · have e : dn M = 1 := by unfold dn; (repeat' split); all_goals omega
    rw [e]
    refine t6_0 hgo ?_
    refine t6_1 hgo ?_
    refine t6_4 hgo ?_
    refine t6_5t hgo ((lw_lt _ _).mpr (lt64 hm (by decide : (10 : Int64).toInt = 10) (by omega))) ?_
    refine t6_8 hgo ?_
    refine t6_9 hgo ?_
    exact rfl
  refine t6_0 hgo ?_
  refine t6_1 hgo ?_
  refine t6_4 hgo ?_
  refine t6_5f hgo (fun q => nlt64 hm (by decide : (10 : Int64).toInt = 10) (by omega) ((lw_lt _ _).mp q)) ?_
  by_cases h2 : M < 100
  · have e : dn M = 2 := by unfold dn; (repeat' split); all_goals omega
    rw [e]
    refine t6_10 hgo ?_
    refine t6_11 hgo ?_
    refine t6_14 hgo ?_
    refine t6_15t hgo ((lw_lt _ _).mpr (lt64 hm (by decide : (100 : Int64).toInt = 100) (by omega))) ?_
    refine t6_18 hgo ?_
    refine t6_19 hgo ?_
    exact rfl
  refine t6_10 hgo ?_
  refine t6_11 hgo ?_
  refine t6_14 hgo ?_
  refine t6_15f hgo (fun q => nlt64 hm (by decide : (100 : Int64).toInt = 100) (by omega) ((lw_lt _ _).mp q)) ?_
  by_cases h3 : M < 1000
  · have e : dn M = 3 := by unfold dn; (repeat' split); all_goals omega
    rw [e]
    refine t6_20 hgo ?_
    refine t6_21 hgo ?_
    refine t6_24 hgo ?_
    refine t6_25t hgo ((lw_lt _ _).mpr (lt64 hm (by decide : (1000 : Int64).toInt = 1000) (by omega))) ?_
    refine t6_28 hgo ?_
    refine t6_29 hgo ?_
    exact rfl
  refine t6_20 hgo ?_
  refine t6_21 hgo ?_
  refine t6_24 hgo ?_
  refine t6_25f hgo (fun q => nlt64 hm (by decide : (1000 : Int64).toInt = 1000) (by omega) ((lw_lt _ _).mp q)) ?_
  by_cases h4 : M < 10000
  · have e : dn M = 4 := by unfold dn; (repeat' split); all_goals omega
    rw [e]
    refine t6_30 hgo ?_
    refine t6_31 hgo ?_
    refine t6_34 hgo ?_
    refine t6_35t hgo ((lw_lt _ _).mpr (lt64 hm (by decide : (10000 : Int64).toInt = 10000) (by omega))) ?_
    refine t6_38 hgo ?_
    refine t6_39 hgo ?_
    exact rfl
  refine t6_30 hgo ?_
  refine t6_31 hgo ?_
  refine t6_34 hgo ?_
  refine t6_35f hgo (fun q => nlt64 hm (by decide : (10000 : Int64).toInt = 10000) (by omega) ((lw_lt _ _).mp q)) ?_
  by_cases h5 : M < 100000
  · have e : dn M = 5 := by unfold dn; (repeat' split); all_goals omega
    rw [e]
    refine t6_40 hgo ?_
    refine t6_41 hgo ?_
    refine t6_44 hgo ?_
    refine t6_45t hgo ((lw_lt _ _).mpr (lt64 hm (by decide : (100000 : Int64).toInt = 100000) (by omega))) ?_
    refine t6_48 hgo ?_
    refine t6_49 hgo ?_
    exact rfl
  refine t6_40 hgo ?_
  refine t6_41 hgo ?_
  refine t6_44 hgo ?_
  refine t6_45f hgo (fun q => nlt64 hm (by decide : (100000 : Int64).toInt = 100000) (by omega) ((lw_lt _ _).mp q)) ?_
  by_cases h6 : M < 1000000
  · have e : dn M = 6 := by unfold dn; (repeat' split); all_goals omega
    rw [e]
    refine t6_50 hgo ?_
    refine t6_51 hgo ?_
    refine t6_54 hgo ?_
    refine t6_55t hgo ((lw_lt _ _).mpr (lt64 hm (by decide : (1000000 : Int64).toInt = 1000000) (by omega))) ?_
    refine t6_58 hgo ?_
    refine t6_60 hgo ?_
    exact rfl
  refine t6_50 hgo ?_
  refine t6_51 hgo ?_
  refine t6_54 hgo ?_
  refine t6_55f hgo (fun q => nlt64 hm (by decide : (1000000 : Int64).toInt = 1000000) (by omega) ((lw_lt _ _).mp q)) ?_
  by_cases h7 : M < 10000000
  · have e : dn M = 7 := by unfold dn; (repeat' split); all_goals omega
    rw [e]
    refine t6_61 hgo ?_
    refine t6_62 hgo ?_
    refine t6_65 hgo ?_
    refine t6_66t hgo ((lw_lt _ _).mpr (lt64 hm (by decide : (10000000 : Int64).toInt = 10000000) (by omega))) ?_
    refine t6_69 hgo ?_
    refine t6_71 hgo ?_
    exact rfl
  refine t6_61 hgo ?_
  refine t6_62 hgo ?_
  refine t6_65 hgo ?_
  refine t6_66f hgo (fun q => nlt64 hm (by decide : (10000000 : Int64).toInt = 10000000) (by omega) ((lw_lt _ _).mp q)) ?_
  by_cases h8 : M < 100000000
  · have e : dn M = 8 := by unfold dn; (repeat' split); all_goals omega
    rw [e]
    refine t6_72 hgo ?_
    refine t6_73 hgo ?_
    refine t6_76 hgo ?_
    refine t6_77t hgo ((lw_lt _ _).mpr (lt64 hm (by decide : (100000000 : Int64).toInt = 100000000) (by omega))) ?_
    refine t6_80 hgo ?_
    refine t6_82 hgo ?_
    exact rfl
  refine t6_72 hgo ?_
  refine t6_73 hgo ?_
  refine t6_76 hgo ?_
  refine t6_77f hgo (fun q => nlt64 hm (by decide : (100000000 : Int64).toInt = 100000000) (by omega) ((lw_lt _ _).mp q)) ?_
  by_cases h9 : M < 1000000000
  · have e : dn M = 9 := by unfold dn; (repeat' split); all_goals omega
    rw [e]
    refine t6_83 hgo ?_
    refine t6_84 hgo ?_
    refine t6_87 hgo ?_
    refine t6_88t hgo ((lw_lt _ _).mpr (lt64 hm (by decide : (1000000000 : Int64).toInt = 1000000000) (by omega))) ?_
    refine t6_91 hgo ?_
    refine t6_93 hgo ?_
    exact rfl
  refine t6_83 hgo ?_
  refine t6_84 hgo ?_
  refine t6_87 hgo ?_
  refine t6_88f hgo (fun q => nlt64 hm (by decide : (1000000000 : Int64).toInt = 1000000000) (by omega) ((lw_lt _ _).mp q)) ?_
  · have e : dn M = 10 := by unfold dn; (repeat' split); all_goals omega
    rw [e]
    refine t6_94 hgo ?_
    refine t6_96 hgo ?_
    exact rfl
theorem F4_eq (v : Int32) (H : AH) : F4 [.int v] H = some (some (.int (Int32.ofNat (tl v))), H) := by
  have hd := dn_le (mg v)
  have h1 := ofn (k := dn (mg v)) (by omega)
  have e0 : (0 : Int32).toInt = 0 := by decide
  have e1 : (1 : Int32).toInt = 1 := by decide
  have hF := F6_eq (own_mag_i v) H
  by_cases h : v < 0
  · refine is_of f4_in fun go hgo => ?_
    refine t4_0 hgo ?_
    refine t4_1t hgo h ?_
    refine t4_4 hgo ?_
    refine t4_5 hgo ?_
    refine t4_9 hgo ?_
    refine res_of (u4_10 hgo) ?_
    simp only [eq_self, and_self, true_and, and_true, not_true_eq_false, not_false_eq_true, if_true, if_false, reduceIte, Option.bind_some, List.getElem?_cons_zero, List.getElem?_cons_succ, Nat.reduceAdd, Nat.reduceSub, Nat.reduceLT, Nat.reduceLeDiff, Nat.le_refl, Nat.zero_add, Nat.add_zero, List.length_cons, List.length_nil, Int32.reduceLT, Int32.reduceToNatClampNeg, Int32.reduceAdd, Int32.reduceSub, Int32.reduceMul, decide_true, aCall, aRecv, aObj, obj, List.take_succ_cons, List.take_zero, List.drop_succ_cons, List.drop_zero, List.reverse_cons, List.reverse_nil, List.nil_append, List.cons_append, List.append_nil, List.map_cons, List.map_nil, List.sum_cons, List.sum_nil, cat_int, cat_long, cat_ref, cat_null, Option.toList_some, Option.toList_none, F5_eq, hF]
    refine res_of (u4_13 hgo) ?_
    simp only [eq_self, and_self, true_and, and_true, not_true_eq_false, not_false_eq_true, if_true, if_false, reduceIte, Option.bind_some, List.getElem?_cons_zero, List.getElem?_cons_succ, Nat.reduceAdd, Nat.reduceSub, Nat.reduceLT, Nat.reduceLeDiff, Nat.le_refl, Nat.zero_add, Nat.add_zero, List.length_cons, List.length_nil, Int32.reduceLT, Int32.reduceToNatClampNeg, Int32.reduceAdd, Int32.reduceSub, Int32.reduceMul, decide_true, aCall, aRecv, aObj, obj, List.take_succ_cons, List.take_zero, List.drop_succ_cons, List.drop_zero, List.reverse_cons, List.reverse_nil, List.nil_append, List.cons_append, List.append_nil, List.map_cons, List.map_nil, List.sum_cons, List.sum_nil, cat_int, cat_long, cat_ref, cat_null, Option.toList_some, Option.toList_none, F5_eq, hF]
    refine t4_16 hgo ?_
    refine t4_17 hgo ?_
    refine is_i ?_ rfl
    rw [Int32.lt_iff_toInt_lt, e0] at h
    have ht : tl v = 1 + dn (mg v) := by unfold tl ng; rw [if_pos h]
    rw [← Int32.toInt_inj, ofn (by omega), own_add e1 h1 (by omega)]; omega
  · refine is_of f4_in fun go hgo => ?_
    refine t4_0 hgo ?_
    refine t4_1f hgo h ?_
    refine t4_8 hgo ?_
    refine t4_9 hgo ?_
    refine res_of (u4_10 hgo) ?_
    simp only [eq_self, and_self, true_and, and_true, not_true_eq_false, not_false_eq_true, if_true, if_false, reduceIte, Option.bind_some, List.getElem?_cons_zero, List.getElem?_cons_succ, Nat.reduceAdd, Nat.reduceSub, Nat.reduceLT, Nat.reduceLeDiff, Nat.le_refl, Nat.zero_add, Nat.add_zero, List.length_cons, List.length_nil, Int32.reduceLT, Int32.reduceToNatClampNeg, Int32.reduceAdd, Int32.reduceSub, Int32.reduceMul, decide_true, aCall, aRecv, aObj, obj, List.take_succ_cons, List.take_zero, List.drop_succ_cons, List.drop_zero, List.reverse_cons, List.reverse_nil, List.nil_append, List.cons_append, List.append_nil, List.map_cons, List.map_nil, List.sum_cons, List.sum_nil, cat_int, cat_long, cat_ref, cat_null, Option.toList_some, Option.toList_none, F5_eq, hF]
    refine res_of (u4_13 hgo) ?_
    simp only [eq_self, and_self, true_and, and_true, not_true_eq_false, not_false_eq_true, if_true, if_false, reduceIte, Option.bind_some, List.getElem?_cons_zero, List.getElem?_cons_succ, Nat.reduceAdd, Nat.reduceSub, Nat.reduceLT, Nat.reduceLeDiff, Nat.le_refl, Nat.zero_add, Nat.add_zero, List.length_cons, List.length_nil, Int32.reduceLT, Int32.reduceToNatClampNeg, Int32.reduceAdd, Int32.reduceSub, Int32.reduceMul, decide_true, aCall, aRecv, aObj, obj, List.take_succ_cons, List.take_zero, List.drop_succ_cons, List.drop_zero, List.reverse_cons, List.reverse_nil, List.nil_append, List.cons_append, List.append_nil, List.map_cons, List.map_nil, List.sum_cons, List.sum_nil, cat_int, cat_long, cat_ref, cat_null, Option.toList_some, Option.toList_none, F5_eq, hF]
    refine t4_16 hgo ?_
    refine t4_17 hgo ?_
    refine is_i ?_ rfl
    rw [Int32.lt_iff_toInt_lt, e0] at h
    have ht : tl v = dn (mg v) := by unfold tl ng; rw [if_neg h, Nat.zero_add]
    rw [← Int32.toInt_inj, ofn (by omega), own_add e0 h1 (by omega)]; omega
theorem get_last {H : AH} {a : Ob} : (H ++ [a])[H.length]? = some a := by simp
theorem set_last {a b : Ob} : ∀ {H : AH}, (H ++ [a]).set H.length b = H ++ [b]
  | [] => rfl
  | x :: H => congrArg (x :: ·) (set_last (H := H))
theorem own_p (j : Nat) (h : j < 10) : ∃ p : Int64, ([.long 1, .long 10, .long 100, .long 1000, .long 10000, .long 100000, .long 1000000, .long 10000000, .long 100000000, .long 1000000000] : List Value)[j]? = some (Value.long p) ∧ p.toInt = ((10 ^ j : Nat) : Int) := by
  match j, h with
  | 0, _ => exact ⟨1, rfl, by decide⟩
  | 1, _ => exact ⟨10, rfl, by decide⟩
  | 2, _ => exact ⟨100, rfl, by decide⟩
  | 3, _ => exact ⟨1000, rfl, by decide⟩
  | 4, _ => exact ⟨10000, rfl, by decide⟩
  | 5, _ => exact ⟨100000, rfl, by decide⟩
  | 6, _ => exact ⟨1000000, rfl, by decide⟩
  | 7, _ => exact ⟨10000000, rfl, by decide⟩
  | 8, _ => exact ⟨100000000, rfl, by decide⟩
  | 9, _ => exact ⟨1000000000, rfl, by decide⟩
  | k + 10, h => exact absurd h (by omega)
set_option maxRecDepth 65536 in
set_option maxHeartbeats 8000000 in
theorem F7_eq {j : Int32} {n : Nat} {H : AH} (hj : j.toInt = (n : Int)) (hn : n < 10) (hH : 1 ≤ H.length) : ∃ p : Int64, p.toInt = ((10 ^ n : Nat) : Int) ∧ F7 [.int j] H = some (some (.long p), H ++ [.inr (.long, [.long 1, .long 10, .long 100, .long 1000, .long 10000, .long 100000, .long 1000000, .long 10000000, .long 100000000, .long 1000000000])]) := by
  obtain ⟨p, h1, h2⟩ := own_p n hn
  obtain ⟨i1, i2⟩ := own_ix hj
  refine ⟨p, h2, is_of f7_in fun go hgo => ?_⟩
  refine t7_0 hgo ?_
  refine res_of (u7_2 hgo) ?_
  simp only [eq_self, and_self, true_and, and_true, not_true_eq_false, not_false_eq_true, if_true, if_false, reduceIte, Option.bind_some, List.getElem?_cons_zero, List.getElem?_cons_succ, Nat.reduceAdd, Nat.reduceSub, Nat.reduceLT, Nat.reduceLeDiff, Nat.le_refl, Nat.zero_add, Nat.add_zero, List.length_cons, List.length_nil, Int32.reduceLT, Int32.reduceToNatClampNeg, Int32.reduceAdd, Int32.reduceSub, Int32.reduceMul, decide_true, aArr, List.nil_append, List.cons_append, List.replicate_zero, List.replicate_succ, defaultValue, get_last, set_last, hH, i1, i2, h1]
  refine t7_4 hgo rfl ?_
  refine t7_5 hgo ?_
  refine t7_6 hgo ?_
  refine res_of (u7_7 hgo) ?_
  simp only [eq_self, and_self, true_and, and_true, not_true_eq_false, not_false_eq_true, if_true, if_false, reduceIte, Option.bind_some, List.getElem?_cons_zero, List.getElem?_cons_succ, Nat.reduceAdd, Nat.reduceSub, Nat.reduceLT, Nat.reduceLeDiff, Nat.le_refl, Nat.zero_add, Nat.add_zero, List.length_cons, List.length_nil, Int32.reduceLT, Int32.reduceToNatClampNeg, Int32.reduceAdd, Int32.reduceSub, Int32.reduceMul, decide_true, ex_lastore, ast, astL, pI_int, pL_long, pR_ref, arr, isT, isBZ, nar, List.set_cons_zero, List.set_cons_succ, get_last, set_last, hH, i1, i2, h1]
  refine t7_8 hgo rfl ?_
  refine t7_9 hgo ?_
  refine t7_10 hgo ?_
  refine res_of (u7_13 hgo) ?_
  simp only [eq_self, and_self, true_and, and_true, not_true_eq_false, not_false_eq_true, if_true, if_false, reduceIte, Option.bind_some, List.getElem?_cons_zero, List.getElem?_cons_succ, Nat.reduceAdd, Nat.reduceSub, Nat.reduceLT, Nat.reduceLeDiff, Nat.le_refl, Nat.zero_add, Nat.add_zero, List.length_cons, List.length_nil, Int32.reduceLT, Int32.reduceToNatClampNeg, Int32.reduceAdd, Int32.reduceSub, Int32.reduceMul, decide_true, ex_lastore, ast, astL, pI_int, pL_long, pR_ref, arr, isT, isBZ, nar, List.set_cons_zero, List.set_cons_succ, get_last, set_last, hH, i1, i2, h1]
  refine t7_14 hgo rfl ?_
  refine t7_15 hgo ?_
  refine t7_16 hgo ?_
  refine res_of (u7_19 hgo) ?_
  simp only [eq_self, and_self, true_and, and_true, not_true_eq_false, not_false_eq_true, if_true, if_false, reduceIte, Option.bind_some, List.getElem?_cons_zero, List.getElem?_cons_succ, Nat.reduceAdd, Nat.reduceSub, Nat.reduceLT, Nat.reduceLeDiff, Nat.le_refl, Nat.zero_add, Nat.add_zero, List.length_cons, List.length_nil, Int32.reduceLT, Int32.reduceToNatClampNeg, Int32.reduceAdd, Int32.reduceSub, Int32.reduceMul, decide_true, ex_lastore, ast, astL, pI_int, pL_long, pR_ref, arr, isT, isBZ, nar, List.set_cons_zero, List.set_cons_succ, get_last, set_last, hH, i1, i2, h1]
  refine t7_20 hgo rfl ?_
  refine t7_21 hgo ?_
  refine t7_22 hgo ?_
  refine res_of (u7_25 hgo) ?_
  simp only [eq_self, and_self, true_and, and_true, not_true_eq_false, not_false_eq_true, if_true, if_false, reduceIte, Option.bind_some, List.getElem?_cons_zero, List.getElem?_cons_succ, Nat.reduceAdd, Nat.reduceSub, Nat.reduceLT, Nat.reduceLeDiff, Nat.le_refl, Nat.zero_add, Nat.add_zero, List.length_cons, List.length_nil, Int32.reduceLT, Int32.reduceToNatClampNeg, Int32.reduceAdd, Int32.reduceSub, Int32.reduceMul, decide_true, ex_lastore, ast, astL, pI_int, pL_long, pR_ref, arr, isT, isBZ, nar, List.set_cons_zero, List.set_cons_succ, get_last, set_last, hH, i1, i2, h1]
  refine t7_26 hgo rfl ?_
  refine t7_27 hgo ?_
  refine t7_28 hgo ?_
  refine res_of (u7_31 hgo) ?_
  simp only [eq_self, and_self, true_and, and_true, not_true_eq_false, not_false_eq_true, if_true, if_false, reduceIte, Option.bind_some, List.getElem?_cons_zero, List.getElem?_cons_succ, Nat.reduceAdd, Nat.reduceSub, Nat.reduceLT, Nat.reduceLeDiff, Nat.le_refl, Nat.zero_add, Nat.add_zero, List.length_cons, List.length_nil, Int32.reduceLT, Int32.reduceToNatClampNeg, Int32.reduceAdd, Int32.reduceSub, Int32.reduceMul, decide_true, ex_lastore, ast, astL, pI_int, pL_long, pR_ref, arr, isT, isBZ, nar, List.set_cons_zero, List.set_cons_succ, get_last, set_last, hH, i1, i2, h1]
  refine t7_32 hgo rfl ?_
  refine t7_33 hgo ?_
  refine t7_34 hgo ?_
  refine res_of (u7_37 hgo) ?_
  simp only [eq_self, and_self, true_and, and_true, not_true_eq_false, not_false_eq_true, if_true, if_false, reduceIte, Option.bind_some, List.getElem?_cons_zero, List.getElem?_cons_succ, Nat.reduceAdd, Nat.reduceSub, Nat.reduceLT, Nat.reduceLeDiff, Nat.le_refl, Nat.zero_add, Nat.add_zero, List.length_cons, List.length_nil, Int32.reduceLT, Int32.reduceToNatClampNeg, Int32.reduceAdd, Int32.reduceSub, Int32.reduceMul, decide_true, ex_lastore, ast, astL, pI_int, pL_long, pR_ref, arr, isT, isBZ, nar, List.set_cons_zero, List.set_cons_succ, get_last, set_last, hH, i1, i2, h1]
  refine t7_38 hgo rfl ?_
  refine t7_39 hgo ?_
  refine t7_41 hgo ?_
  refine res_of (u7_44 hgo) ?_
  simp only [eq_self, and_self, true_and, and_true, not_true_eq_false, not_false_eq_true, if_true, if_false, reduceIte, Option.bind_some, List.getElem?_cons_zero, List.getElem?_cons_succ, Nat.reduceAdd, Nat.reduceSub, Nat.reduceLT, Nat.reduceLeDiff, Nat.le_refl, Nat.zero_add, Nat.add_zero, List.length_cons, List.length_nil, Int32.reduceLT, Int32.reduceToNatClampNeg, Int32.reduceAdd, Int32.reduceSub, Int32.reduceMul, decide_true, ex_lastore, ast, astL, pI_int, pL_long, pR_ref, arr, isT, isBZ, nar, List.set_cons_zero, List.set_cons_succ, get_last, set_last, hH, i1, i2, h1]
  refine t7_45 hgo rfl ?_
  refine t7_46 hgo ?_
  refine t7_48 hgo ?_
  refine res_of (u7_51 hgo) ?_
  simp only [eq_self, and_self, true_and, and_true, not_true_eq_false, not_false_eq_true, if_true, if_false, reduceIte, Option.bind_some, List.getElem?_cons_zero, List.getElem?_cons_succ, Nat.reduceAdd, Nat.reduceSub, Nat.reduceLT, Nat.reduceLeDiff, Nat.le_refl, Nat.zero_add, Nat.add_zero, List.length_cons, List.length_nil, Int32.reduceLT, Int32.reduceToNatClampNeg, Int32.reduceAdd, Int32.reduceSub, Int32.reduceMul, decide_true, ex_lastore, ast, astL, pI_int, pL_long, pR_ref, arr, isT, isBZ, nar, List.set_cons_zero, List.set_cons_succ, get_last, set_last, hH, i1, i2, h1]
  refine t7_52 hgo rfl ?_
  refine t7_53 hgo ?_
  refine t7_55 hgo ?_
  refine res_of (u7_58 hgo) ?_
  simp only [eq_self, and_self, true_and, and_true, not_true_eq_false, not_false_eq_true, if_true, if_false, reduceIte, Option.bind_some, List.getElem?_cons_zero, List.getElem?_cons_succ, Nat.reduceAdd, Nat.reduceSub, Nat.reduceLT, Nat.reduceLeDiff, Nat.le_refl, Nat.zero_add, Nat.add_zero, List.length_cons, List.length_nil, Int32.reduceLT, Int32.reduceToNatClampNeg, Int32.reduceAdd, Int32.reduceSub, Int32.reduceMul, decide_true, ex_lastore, ast, astL, pI_int, pL_long, pR_ref, arr, isT, isBZ, nar, List.set_cons_zero, List.set_cons_succ, get_last, set_last, hH, i1, i2, h1]
  refine t7_59 hgo rfl ?_
  refine t7_60 hgo ?_
  refine t7_62 hgo ?_
  refine res_of (u7_65 hgo) ?_
  simp only [eq_self, and_self, true_and, and_true, not_true_eq_false, not_false_eq_true, if_true, if_false, reduceIte, Option.bind_some, List.getElem?_cons_zero, List.getElem?_cons_succ, Nat.reduceAdd, Nat.reduceSub, Nat.reduceLT, Nat.reduceLeDiff, Nat.le_refl, Nat.zero_add, Nat.add_zero, List.length_cons, List.length_nil, Int32.reduceLT, Int32.reduceToNatClampNeg, Int32.reduceAdd, Int32.reduceSub, Int32.reduceMul, decide_true, ex_lastore, ast, astL, pI_int, pL_long, pR_ref, arr, isT, isBZ, nar, List.set_cons_zero, List.set_cons_succ, get_last, set_last, hH, i1, i2, h1]
  refine t7_66 hgo rfl rfl ?_
  refine t7_67 hgo rfl ?_
  refine t7_68 hgo ?_
  refine res_of (u7_69 hgo) ?_
  simp only [eq_self, and_self, true_and, and_true, not_true_eq_false, not_false_eq_true, if_true, if_false, reduceIte, Option.bind_some, List.getElem?_cons_zero, List.getElem?_cons_succ, Nat.reduceAdd, Nat.reduceSub, Nat.reduceLT, Nat.reduceLeDiff, Nat.le_refl, Nat.zero_add, Nat.add_zero, List.length_cons, List.length_nil, Int32.reduceLT, Int32.reduceToNatClampNeg, Int32.reduceAdd, Int32.reduceSub, Int32.reduceMul, decide_true, ex_laload, ald, pI_int, pR_ref, arr, isT, isBZ, get_last, set_last, hH, i1, i2, h1]
  refine t7_70 hgo ?_
  exact is_r
set_option maxRecDepth 65536 in
set_option maxHeartbeats 8000000 in
theorem F3_ok {H : AH} {B : List Value} {st v kk : Int32} {p k : Nat} (hB : H[2]? = some (.inr (.byte, B))) (hst : st.toInt = (p : Int)) (hp : p ≤ 20) (hk : kk.toInt = (k : Int)) (hk' : k ≤ 10) (hW : ∀ k, k < tl v → ∃ x : Int32, B[p + k]? = some (Value.int x) ∧ x.toInt = chv v k) : ∃ H', F3 [.ref 2, .int st, .int v, .int kk] H = some (some (.int 1), H') ∧ (∀ (k : Nat) (o : Ob), H[k]? = some o → H'[k]? = some o) := by
  have hd := dn_le (mg v)
  have hH : 1 ≤ H.length := by
    have := (List.getElem?_eq_some_iff.mp hB).1
    omega
  have hng : ng v ≤ 1 := by unfold ng; split <;> omega
  have htl : tl v ≤ 11 := by unfold tl; omega
  have htd : tl v = ng v + dn (mg v) := rfl
  have htn := ofn (k := tl v) (by omega)
  have e0 : (0 : Int32).toInt = 0 := by decide
  have e1 : (1 : Int32).toInt = 1 := by decide
  have e48 : (48 : Int32).toInt = 48 := by decide
  by_cases h1 : k < tl v
  · obtain ⟨x, hx, hxv⟩ := hW k h1
    by_cases h2 : v.toInt < 0 ∧ k = 0
    · have hc : x.toInt = 45 := by rw [hxv]; unfold chv; rw [if_pos h2]
      obtain ⟨i1, i2⟩ := own_ix hst
      have hk0 : k = 0 := h2.2
      subst hk0
      rw [Nat.add_zero] at hx
      refine ⟨H, is_of f3_in fun go hgo => ?_, fun k o h => h⟩
      refine t3_0 hgo ?_
      refine res_of (u3_1 hgo) ?_
      simp only [eq_self, and_self, true_and, and_true, not_true_eq_false, not_false_eq_true, if_true, if_false, reduceIte, Option.bind_some, List.getElem?_cons_zero, List.getElem?_cons_succ, Nat.reduceAdd, Nat.reduceSub, Nat.reduceLT, Nat.reduceLeDiff, Nat.le_refl, Nat.zero_add, Nat.add_zero, List.length_cons, List.length_nil, Int32.reduceLT, Int32.reduceToNatClampNeg, Int32.reduceAdd, Int32.reduceSub, Int32.reduceMul, decide_true, aCall, aRecv, aObj, obj, List.take_succ_cons, List.take_zero, List.drop_succ_cons, List.drop_zero, List.reverse_cons, List.reverse_nil, List.nil_append, List.cons_append, List.append_nil, List.map_cons, List.map_nil, List.sum_cons, List.sum_nil, cat_int, cat_long, cat_ref, cat_null, Option.toList_some, Option.toList_none, F4_eq, hB, i1, i2, hx]
      refine t3_4 hgo rfl ?_
      refine t3_6 hgo ?_
      refine t3_7 hgo ?_
      refine t3_9t hgo (lt_of hk htn (by omega)) ?_
      refine t3_14 hgo ?_
      refine t3_15t hgo (lt_of rfl e0 h2.1) ?_
      refine t3_18 hgo ?_
      refine t3_19t hgo (eq_of hk e0 rfl) ?_
      refine t3_22 hgo rfl ?_
      refine t3_23 hgo ?_
      refine res_of (u3_24 hgo) ?_
      simp only [eq_self, and_self, true_and, and_true, not_true_eq_false, not_false_eq_true, if_true, if_false, reduceIte, Option.bind_some, List.getElem?_cons_zero, List.getElem?_cons_succ, Nat.reduceAdd, Nat.reduceSub, Nat.reduceLT, Nat.reduceLeDiff, Nat.le_refl, Nat.zero_add, Nat.add_zero, List.length_cons, List.length_nil, Int32.reduceLT, Int32.reduceToNatClampNeg, Int32.reduceAdd, Int32.reduceSub, Int32.reduceMul, decide_true, ex_baload, ald, pI_int, pR_ref, arr, isT, isBZ, F4_eq, hB, i1, i2, hx]
      refine t3_25 hgo ?_
      refine t3_27t hgo (eq_of hc (by decide : (45 : Int32).toInt = 45) rfl) ?_
      refine t3_30 hgo ?_
      refine t3_31 hgo ?_
      refine t3_35 hgo ?_
      exact is_1
    · have hn10 : tl v - 1 - k < 10 := by
        by_cases h3 : v.toInt < 0
        · have hk0 : ¬ k = 0 := fun q => h2 ⟨h3, q⟩
          omega
        · have : ng v = 0 := by unfold ng; rw [if_neg h3]
          omega
      have hj1 := own_sub htn e1 (by omega)
      have hj2 : (Int32.ofNat (tl v) - 1 - kk).toInt = ((tl v - 1 - k : Nat) : Int) := by
        rw [own_sub hj1 hk (by omega)]; omega
      obtain ⟨pw, hpw, hF7⟩ := F7_eq hj2 hn10 hH
      have hB' : (H ++ [.inr (.long, [.long 1, .long 10, .long 100, .long 1000, .long 10000, .long 100000, .long 1000000, .long 10000000, .long 100000000, .long 1000000000])])[2]? = some (.inr (.byte, B)) := by
        rw [List.getElem?_append_left (List.getElem?_eq_some_iff.mp hB).1]; exact hB
      have hpos : 0 < 10 ^ (tl v - 1 - k) := Nat.pow_pos (by decide)
      have hz : ¬ pw = 0 := by
        intro q; rw [q] at hpw
        have : (0 : Int64).toInt = 0 := by decide
        omega
      have hm1 : pw ≠ -1 := by
        intro q; rw [q] at hpw
        have : (-1 : Int64).toInt = -1 := by decide
        omega
      have q1 := (c_ldiv (own_mag v) pw _ hpw hm1).1 (by rw [own_mag_i]; omega)
      rw [own_mag_i] at q1
      obtain ⟨Q, hQ⟩ : ∃ Q, Q = mg v / 10 ^ (tl v - 1 - k) := ⟨_, rfl⟩
      have q1' : (own_mag v / pw).toInt = (Q : Int) := by rw [q1, hQ]; exact (Int.natCast_ediv _ _).symm
      have q2 : (own_mag v / pw % 10).toInt = ((Q % 10 : Nat) : Int) := by
        rw [Int64.toInt_mod, q1', show (10 : Int64).toInt = 10 from by decide, Int.tmod_eq_emod_of_nonneg (Int.natCast_nonneg Q)]
        omega
      have q3 := c_l2i (own_mag v / pw % 10)
      have q4 := rng32 (own_mag v / pw % 10).toInt32
      have q5 : (own_mag v / pw % 10).toInt32.toInt = ((Q % 10 : Nat) : Int) := by omega
      have q6 := own_add e48 q5 (by omega)
      have q7 := own_b q6 (by omega)
      have hc : x.toInt = 48 + ((Q % 10 : Nat) : Int) := by rw [hxv]; unfold chv; rw [if_neg h2, hQ]
      have hsk := own_add hst hk (by omega)
      obtain ⟨i1, i2⟩ := own_ix (a := p + k) (by rw [hsk]; omega)
      refine ⟨H ++ [.inr (.long, [.long 1, .long 10, .long 100, .long 1000, .long 10000, .long 100000, .long 1000000, .long 10000000, .long 100000000, .long 1000000000])], is_of f3_in fun go hgo => ?_, fun k o h => by rw [List.getElem?_append_left (List.getElem?_eq_some_iff.mp h).1]; exact h⟩
      by_cases h3 : v.toInt < 0
      · have hk0 : ¬ k = 0 := fun q => h2 ⟨h3, q⟩
        have hkz : ¬ kk = 0 := by rw [← Int32.toInt_inj]; omega
        refine t3_0 hgo ?_
        refine res_of (u3_1 hgo) ?_
        simp only [eq_self, and_self, true_and, and_true, not_true_eq_false, not_false_eq_true, if_true, if_false, reduceIte, Option.bind_some, List.getElem?_cons_zero, List.getElem?_cons_succ, Nat.reduceAdd, Nat.reduceSub, Nat.reduceLT, Nat.reduceLeDiff, Nat.le_refl, Nat.zero_add, Nat.add_zero, List.length_cons, List.length_nil, Int32.reduceLT, Int32.reduceToNatClampNeg, Int32.reduceAdd, Int32.reduceSub, Int32.reduceMul, decide_true, aCall, aRecv, aObj, obj, List.take_succ_cons, List.take_zero, List.drop_succ_cons, List.drop_zero, List.reverse_cons, List.reverse_nil, List.nil_append, List.cons_append, List.append_nil, List.map_cons, List.map_nil, List.sum_cons, List.sum_nil, cat_int, cat_long, cat_ref, cat_null, Option.toList_some, Option.toList_none, F4_eq, F5_eq, hF7, hB', i1, i2, hx]
        refine t3_4 hgo rfl ?_
        refine t3_6 hgo ?_
        refine t3_7 hgo ?_
        refine t3_9t hgo (lt_of hk htn (by omega)) ?_
        refine t3_14 hgo ?_
        refine t3_15t hgo (lt_of rfl e0 h3) ?_
        refine t3_18 hgo ?_
        refine t3_19f hgo hkz ?_
        refine t3_36 hgo ?_
        refine t3_38 hgo ?_
        refine t3_39 hgo ?_
        refine t3_40 hgo ?_
        refine t3_41 hgo ?_
        refine t3_42 hgo rfl ?_
        refine t3_44 hgo ?_
        refine res_of (u3_45 hgo) ?_
        simp only [eq_self, and_self, true_and, and_true, not_true_eq_false, not_false_eq_true, if_true, if_false, reduceIte, Option.bind_some, List.getElem?_cons_zero, List.getElem?_cons_succ, Nat.reduceAdd, Nat.reduceSub, Nat.reduceLT, Nat.reduceLeDiff, Nat.le_refl, Nat.zero_add, Nat.add_zero, List.length_cons, List.length_nil, Int32.reduceLT, Int32.reduceToNatClampNeg, Int32.reduceAdd, Int32.reduceSub, Int32.reduceMul, decide_true, aCall, aRecv, aObj, obj, List.take_succ_cons, List.take_zero, List.drop_succ_cons, List.drop_zero, List.reverse_cons, List.reverse_nil, List.nil_append, List.cons_append, List.append_nil, List.map_cons, List.map_nil, List.sum_cons, List.sum_nil, cat_int, cat_long, cat_ref, cat_null, Option.toList_some, Option.toList_none, F4_eq, F5_eq, hF7, hB', i1, i2, hx]
        refine t3_48 hgo ?_
        refine res_of (u3_50 hgo) ?_
        simp only [eq_self, and_self, true_and, and_true, not_true_eq_false, not_false_eq_true, if_true, if_false, reduceIte, Option.bind_some, List.getElem?_cons_zero, List.getElem?_cons_succ, Nat.reduceAdd, Nat.reduceSub, Nat.reduceLT, Nat.reduceLeDiff, Nat.le_refl, Nat.zero_add, Nat.add_zero, List.length_cons, List.length_nil, Int32.reduceLT, Int32.reduceToNatClampNeg, Int32.reduceAdd, Int32.reduceSub, Int32.reduceMul, decide_true, aCall, aRecv, aObj, obj, List.take_succ_cons, List.take_zero, List.drop_succ_cons, List.drop_zero, List.reverse_cons, List.reverse_nil, List.nil_append, List.cons_append, List.append_nil, List.map_cons, List.map_nil, List.sum_cons, List.sum_nil, cat_int, cat_long, cat_ref, cat_null, Option.toList_some, Option.toList_none, F4_eq, F5_eq, hF7, hB', i1, i2, hx]
        refine t3_53 hgo hz ?_
        refine t3_54 hgo ?_
        refine t3_57 hgo (by decide) ?_
        refine t3_58 hgo rfl ?_
        refine t3_60 hgo rfl ?_
        refine t3_61 hgo ?_
        refine t3_62 hgo ?_
        refine t3_63 hgo ?_
        refine res_of (u3_64 hgo) ?_
        simp only [eq_self, and_self, true_and, and_true, not_true_eq_false, not_false_eq_true, if_true, if_false, reduceIte, Option.bind_some, List.getElem?_cons_zero, List.getElem?_cons_succ, Nat.reduceAdd, Nat.reduceSub, Nat.reduceLT, Nat.reduceLeDiff, Nat.le_refl, Nat.zero_add, Nat.add_zero, List.length_cons, List.length_nil, Int32.reduceLT, Int32.reduceToNatClampNeg, Int32.reduceAdd, Int32.reduceSub, Int32.reduceMul, decide_true, ex_baload, ald, pI_int, pR_ref, arr, isT, isBZ, F4_eq, F5_eq, hF7, hB', i1, i2, hx]
        refine t3_65 hgo ?_
        refine t3_67 hgo ?_
        refine t3_69 hgo ?_
        refine t3_70 hgo ?_
        refine t3_71 hgo ?_
        refine t3_72t hgo (eq_of hc q7 rfl) ?_
        refine t3_75 hgo ?_
        refine t3_76 hgo ?_
        refine t3_80 hgo ?_
        exact is_1
      · skip
        refine t3_0 hgo ?_
        refine res_of (u3_1 hgo) ?_
        simp only [eq_self, and_self, true_and, and_true, not_true_eq_false, not_false_eq_true, if_true, if_false, reduceIte, Option.bind_some, List.getElem?_cons_zero, List.getElem?_cons_succ, Nat.reduceAdd, Nat.reduceSub, Nat.reduceLT, Nat.reduceLeDiff, Nat.le_refl, Nat.zero_add, Nat.add_zero, List.length_cons, List.length_nil, Int32.reduceLT, Int32.reduceToNatClampNeg, Int32.reduceAdd, Int32.reduceSub, Int32.reduceMul, decide_true, aCall, aRecv, aObj, obj, List.take_succ_cons, List.take_zero, List.drop_succ_cons, List.drop_zero, List.reverse_cons, List.reverse_nil, List.nil_append, List.cons_append, List.append_nil, List.map_cons, List.map_nil, List.sum_cons, List.sum_nil, cat_int, cat_long, cat_ref, cat_null, Option.toList_some, Option.toList_none, F4_eq, F5_eq, hF7, hB', i1, i2, hx]
        refine t3_4 hgo rfl ?_
        refine t3_6 hgo ?_
        refine t3_7 hgo ?_
        refine t3_9t hgo (lt_of hk htn (by omega)) ?_
        refine t3_14 hgo ?_
        refine t3_15f hgo (nlt_of rfl e0 h3) ?_
        refine t3_36 hgo ?_
        refine t3_38 hgo ?_
        refine t3_39 hgo ?_
        refine t3_40 hgo ?_
        refine t3_41 hgo ?_
        refine t3_42 hgo rfl ?_
        refine t3_44 hgo ?_
        refine res_of (u3_45 hgo) ?_
        simp only [eq_self, and_self, true_and, and_true, not_true_eq_false, not_false_eq_true, if_true, if_false, reduceIte, Option.bind_some, List.getElem?_cons_zero, List.getElem?_cons_succ, Nat.reduceAdd, Nat.reduceSub, Nat.reduceLT, Nat.reduceLeDiff, Nat.le_refl, Nat.zero_add, Nat.add_zero, List.length_cons, List.length_nil, Int32.reduceLT, Int32.reduceToNatClampNeg, Int32.reduceAdd, Int32.reduceSub, Int32.reduceMul, decide_true, aCall, aRecv, aObj, obj, List.take_succ_cons, List.take_zero, List.drop_succ_cons, List.drop_zero, List.reverse_cons, List.reverse_nil, List.nil_append, List.cons_append, List.append_nil, List.map_cons, List.map_nil, List.sum_cons, List.sum_nil, cat_int, cat_long, cat_ref, cat_null, Option.toList_some, Option.toList_none, F4_eq, F5_eq, hF7, hB', i1, i2, hx]
        refine t3_48 hgo ?_
        refine res_of (u3_50 hgo) ?_
        simp only [eq_self, and_self, true_and, and_true, not_true_eq_false, not_false_eq_true, if_true, if_false, reduceIte, Option.bind_some, List.getElem?_cons_zero, List.getElem?_cons_succ, Nat.reduceAdd, Nat.reduceSub, Nat.reduceLT, Nat.reduceLeDiff, Nat.le_refl, Nat.zero_add, Nat.add_zero, List.length_cons, List.length_nil, Int32.reduceLT, Int32.reduceToNatClampNeg, Int32.reduceAdd, Int32.reduceSub, Int32.reduceMul, decide_true, aCall, aRecv, aObj, obj, List.take_succ_cons, List.take_zero, List.drop_succ_cons, List.drop_zero, List.reverse_cons, List.reverse_nil, List.nil_append, List.cons_append, List.append_nil, List.map_cons, List.map_nil, List.sum_cons, List.sum_nil, cat_int, cat_long, cat_ref, cat_null, Option.toList_some, Option.toList_none, F4_eq, F5_eq, hF7, hB', i1, i2, hx]
        refine t3_53 hgo hz ?_
        refine t3_54 hgo ?_
        refine t3_57 hgo (by decide) ?_
        refine t3_58 hgo rfl ?_
        refine t3_60 hgo rfl ?_
        refine t3_61 hgo ?_
        refine t3_62 hgo ?_
        refine t3_63 hgo ?_
        refine res_of (u3_64 hgo) ?_
        simp only [eq_self, and_self, true_and, and_true, not_true_eq_false, not_false_eq_true, if_true, if_false, reduceIte, Option.bind_some, List.getElem?_cons_zero, List.getElem?_cons_succ, Nat.reduceAdd, Nat.reduceSub, Nat.reduceLT, Nat.reduceLeDiff, Nat.le_refl, Nat.zero_add, Nat.add_zero, List.length_cons, List.length_nil, Int32.reduceLT, Int32.reduceToNatClampNeg, Int32.reduceAdd, Int32.reduceSub, Int32.reduceMul, decide_true, ex_baload, ald, pI_int, pR_ref, arr, isT, isBZ, F4_eq, F5_eq, hF7, hB', i1, i2, hx]
        refine t3_65 hgo ?_
        refine t3_67 hgo ?_
        refine t3_69 hgo ?_
        refine t3_70 hgo ?_
        refine t3_71 hgo ?_
        refine t3_72t hgo (eq_of hc q7 rfl) ?_
        refine t3_75 hgo ?_
        refine t3_76 hgo ?_
        refine t3_80 hgo ?_
        exact is_1
  · refine ⟨H, is_of f3_in fun go hgo => ?_, fun k o h => h⟩
    refine t3_0 hgo ?_
    refine res_of (u3_1 hgo) ?_
    simp only [eq_self, and_self, true_and, and_true, not_true_eq_false, not_false_eq_true, if_true, if_false, reduceIte, Option.bind_some, List.getElem?_cons_zero, List.getElem?_cons_succ, Nat.reduceAdd, Nat.reduceSub, Nat.reduceLT, Nat.reduceLeDiff, Nat.le_refl, Nat.zero_add, Nat.add_zero, List.length_cons, List.length_nil, Int32.reduceLT, Int32.reduceToNatClampNeg, Int32.reduceAdd, Int32.reduceSub, Int32.reduceMul, decide_true, aCall, aRecv, aObj, obj, List.take_succ_cons, List.take_zero, List.drop_succ_cons, List.drop_zero, List.reverse_cons, List.reverse_nil, List.nil_append, List.cons_append, List.append_nil, List.map_cons, List.map_nil, List.sum_cons, List.sum_nil, cat_int, cat_long, cat_ref, cat_null, Option.toList_some, Option.toList_none, F4_eq]
    refine t3_4 hgo rfl ?_
    refine t3_6 hgo ?_
    refine t3_7 hgo ?_
    refine t3_9f hgo (nlt_of hk htn (by omega)) ?_
    refine t3_12 hgo ?_
    refine t3_13 hgo ?_
    exact is_1
set_option maxRecDepth 65536 in
set_option maxHeartbeats 8000000 in
theorem F2_ok {H : AH} {B : List Value} {st v : Int32} {p : Nat} (hB : H[2]? = some (.inr (.byte, B))) (hst : st.toInt = (p : Int)) (hp : p ≤ 20) (hW : ∀ k, k < tl v → ∃ x : Int32, B[p + k]? = some (Value.int x) ∧ x.toInt = chv v k) : ∃ H', F2 [.ref 2, .int st, .int v] H = some (some (.int 1), H') ∧ (∀ (k : Nat) (o : Ob), H[k]? = some o → H'[k]? = some o) := by
  obtain ⟨H0, f0, k0⟩ := F3_ok (kk := 0) (k := 0) hB hst hp (by decide) (by decide) hW
  have hB1 := k0 2 _ hB
  obtain ⟨H1, f1, k1⟩ := F3_ok (kk := 1) (k := 1) hB1 hst hp (by decide) (by decide) hW
  have hB2 := k1 2 _ hB1
  obtain ⟨H2, f2, k2⟩ := F3_ok (kk := 2) (k := 2) hB2 hst hp (by decide) (by decide) hW
  have hB3 := k2 2 _ hB2
  obtain ⟨H3, f3, k3⟩ := F3_ok (kk := 3) (k := 3) hB3 hst hp (by decide) (by decide) hW
  have hB4 := k3 2 _ hB3
  obtain ⟨H4, f4, k4⟩ := F3_ok (kk := 4) (k := 4) hB4 hst hp (by decide) (by decide) hW
  have hB5 := k4 2 _ hB4
  obtain ⟨H5, f5, k5⟩ := F3_ok (kk := 5) (k := 5) hB5 hst hp (by decide) (by decide) hW
  have hB6 := k5 2 _ hB5
  obtain ⟨H6, f6, k6⟩ := F3_ok (kk := 6) (k := 6) hB6 hst hp (by decide) (by decide) hW
  have hB7 := k6 2 _ hB6
  obtain ⟨H7, f7, k7⟩ := F3_ok (kk := 7) (k := 7) hB7 hst hp (by decide) (by decide) hW
  have hB8 := k7 2 _ hB7
  obtain ⟨H8, f8, k8⟩ := F3_ok (kk := 8) (k := 8) hB8 hst hp (by decide) (by decide) hW
  have hB9 := k8 2 _ hB8
  obtain ⟨H9, f9, k9⟩ := F3_ok (kk := 9) (k := 9) hB9 hst hp (by decide) (by decide) hW
  have hB10 := k9 2 _ hB9
  obtain ⟨H10, f10, k10⟩ := F3_ok (kk := 10) (k := 10) hB10 hst hp (by decide) (by decide) hW
  refine ⟨H10, is_of f2_in fun go hgo => ?_, fun k o h => k10 k o (k9 k o (k8 k o (k7 k o (k6 k o (k5 k o (k4 k o (k3 k o (k2 k o (k1 k o (k0 k o (h)))))))))))⟩
  refine t2_0 hgo ?_
  refine t2_1 hgo rfl ?_
  refine t2_2 hgo ?_
  refine t2_3f hgo (by decide) ?_
  refine t2_6 hgo rfl ?_
  refine t2_7 hgo ?_
  refine t2_8 hgo ?_
  refine t2_9 hgo ?_
  refine res_of (u2_10 hgo) ?_
  simp only [eq_self, and_self, true_and, and_true, not_true_eq_false, not_false_eq_true, if_true, if_false, reduceIte, Option.bind_some, List.getElem?_cons_zero, List.getElem?_cons_succ, Nat.reduceAdd, Nat.reduceSub, Nat.reduceLT, Nat.reduceLeDiff, Nat.le_refl, Nat.zero_add, Nat.add_zero, List.length_cons, List.length_nil, Int32.reduceLT, Int32.reduceToNatClampNeg, Int32.reduceAdd, Int32.reduceSub, Int32.reduceMul, decide_true, aCall, aRecv, aObj, obj, List.take_succ_cons, List.take_zero, List.drop_succ_cons, List.drop_zero, List.reverse_cons, List.reverse_nil, List.nil_append, List.cons_append, List.append_nil, List.map_cons, List.map_nil, List.sum_cons, List.sum_nil, cat_int, cat_long, cat_ref, cat_null, Option.toList_some, Option.toList_none, f0]
  refine t2_13f hgo (by decide) ?_
  refine t2_16 hgo ?_
  refine t2_17 hgo ?_
  refine t2_21 hgo rfl ?_
  refine t2_22 hgo ?_
  refine t2_23f hgo (by decide) ?_
  refine t2_26 hgo rfl ?_
  refine t2_27 hgo ?_
  refine t2_28 hgo ?_
  refine t2_29 hgo ?_
  refine res_of (u2_30 hgo) ?_
  simp only [eq_self, and_self, true_and, and_true, not_true_eq_false, not_false_eq_true, if_true, if_false, reduceIte, Option.bind_some, List.getElem?_cons_zero, List.getElem?_cons_succ, Nat.reduceAdd, Nat.reduceSub, Nat.reduceLT, Nat.reduceLeDiff, Nat.le_refl, Nat.zero_add, Nat.add_zero, List.length_cons, List.length_nil, Int32.reduceLT, Int32.reduceToNatClampNeg, Int32.reduceAdd, Int32.reduceSub, Int32.reduceMul, decide_true, aCall, aRecv, aObj, obj, List.take_succ_cons, List.take_zero, List.drop_succ_cons, List.drop_zero, List.reverse_cons, List.reverse_nil, List.nil_append, List.cons_append, List.append_nil, List.map_cons, List.map_nil, List.sum_cons, List.sum_nil, cat_int, cat_long, cat_ref, cat_null, Option.toList_some, Option.toList_none, f1]
  refine t2_33f hgo (by decide) ?_
  refine t2_36 hgo ?_
  refine t2_37 hgo ?_
  refine t2_41 hgo rfl ?_
  refine t2_42 hgo ?_
  refine t2_43f hgo (by decide) ?_
  refine t2_46 hgo rfl ?_
  refine t2_47 hgo ?_
  refine t2_48 hgo ?_
  refine t2_49 hgo ?_
  refine res_of (u2_50 hgo) ?_
  simp only [eq_self, and_self, true_and, and_true, not_true_eq_false, not_false_eq_true, if_true, if_false, reduceIte, Option.bind_some, List.getElem?_cons_zero, List.getElem?_cons_succ, Nat.reduceAdd, Nat.reduceSub, Nat.reduceLT, Nat.reduceLeDiff, Nat.le_refl, Nat.zero_add, Nat.add_zero, List.length_cons, List.length_nil, Int32.reduceLT, Int32.reduceToNatClampNeg, Int32.reduceAdd, Int32.reduceSub, Int32.reduceMul, decide_true, aCall, aRecv, aObj, obj, List.take_succ_cons, List.take_zero, List.drop_succ_cons, List.drop_zero, List.reverse_cons, List.reverse_nil, List.nil_append, List.cons_append, List.append_nil, List.map_cons, List.map_nil, List.sum_cons, List.sum_nil, cat_int, cat_long, cat_ref, cat_null, Option.toList_some, Option.toList_none, f2]
  refine t2_53f hgo (by decide) ?_
  refine t2_56 hgo ?_
  refine t2_57 hgo ?_
  refine t2_61 hgo rfl ?_
  refine t2_62 hgo ?_
  refine t2_63f hgo (by decide) ?_
  refine t2_66 hgo rfl ?_
  refine t2_67 hgo ?_
  refine t2_68 hgo ?_
  refine t2_69 hgo ?_
  refine res_of (u2_70 hgo) ?_
  simp only [eq_self, and_self, true_and, and_true, not_true_eq_false, not_false_eq_true, if_true, if_false, reduceIte, Option.bind_some, List.getElem?_cons_zero, List.getElem?_cons_succ, Nat.reduceAdd, Nat.reduceSub, Nat.reduceLT, Nat.reduceLeDiff, Nat.le_refl, Nat.zero_add, Nat.add_zero, List.length_cons, List.length_nil, Int32.reduceLT, Int32.reduceToNatClampNeg, Int32.reduceAdd, Int32.reduceSub, Int32.reduceMul, decide_true, aCall, aRecv, aObj, obj, List.take_succ_cons, List.take_zero, List.drop_succ_cons, List.drop_zero, List.reverse_cons, List.reverse_nil, List.nil_append, List.cons_append, List.append_nil, List.map_cons, List.map_nil, List.sum_cons, List.sum_nil, cat_int, cat_long, cat_ref, cat_null, Option.toList_some, Option.toList_none, f3]
  refine t2_73f hgo (by decide) ?_
  refine t2_76 hgo ?_
  refine t2_77 hgo ?_
  refine t2_81 hgo rfl ?_
  refine t2_82 hgo ?_
  refine t2_83f hgo (by decide) ?_
  refine t2_86 hgo rfl ?_
  refine t2_87 hgo ?_
  refine t2_88 hgo ?_
  refine t2_89 hgo ?_
  refine res_of (u2_90 hgo) ?_
  simp only [eq_self, and_self, true_and, and_true, not_true_eq_false, not_false_eq_true, if_true, if_false, reduceIte, Option.bind_some, List.getElem?_cons_zero, List.getElem?_cons_succ, Nat.reduceAdd, Nat.reduceSub, Nat.reduceLT, Nat.reduceLeDiff, Nat.le_refl, Nat.zero_add, Nat.add_zero, List.length_cons, List.length_nil, Int32.reduceLT, Int32.reduceToNatClampNeg, Int32.reduceAdd, Int32.reduceSub, Int32.reduceMul, decide_true, aCall, aRecv, aObj, obj, List.take_succ_cons, List.take_zero, List.drop_succ_cons, List.drop_zero, List.reverse_cons, List.reverse_nil, List.nil_append, List.cons_append, List.append_nil, List.map_cons, List.map_nil, List.sum_cons, List.sum_nil, cat_int, cat_long, cat_ref, cat_null, Option.toList_some, Option.toList_none, f4]
  refine t2_93f hgo (by decide) ?_
  refine t2_96 hgo ?_
  refine t2_97 hgo ?_
  refine t2_101 hgo rfl ?_
  refine t2_102 hgo ?_
  refine t2_103f hgo (by decide) ?_
  refine t2_106 hgo rfl ?_
  refine t2_107 hgo ?_
  refine t2_108 hgo ?_
  refine t2_109 hgo ?_
  refine res_of (u2_110 hgo) ?_
  simp only [eq_self, and_self, true_and, and_true, not_true_eq_false, not_false_eq_true, if_true, if_false, reduceIte, Option.bind_some, List.getElem?_cons_zero, List.getElem?_cons_succ, Nat.reduceAdd, Nat.reduceSub, Nat.reduceLT, Nat.reduceLeDiff, Nat.le_refl, Nat.zero_add, Nat.add_zero, List.length_cons, List.length_nil, Int32.reduceLT, Int32.reduceToNatClampNeg, Int32.reduceAdd, Int32.reduceSub, Int32.reduceMul, decide_true, aCall, aRecv, aObj, obj, List.take_succ_cons, List.take_zero, List.drop_succ_cons, List.drop_zero, List.reverse_cons, List.reverse_nil, List.nil_append, List.cons_append, List.append_nil, List.map_cons, List.map_nil, List.sum_cons, List.sum_nil, cat_int, cat_long, cat_ref, cat_null, Option.toList_some, Option.toList_none, f5]
  refine t2_113f hgo (by decide) ?_
  refine t2_116 hgo ?_
  refine t2_117 hgo ?_
  refine t2_121 hgo rfl ?_
  refine t2_122 hgo ?_
  refine t2_123f hgo (by decide) ?_
  refine t2_126 hgo rfl ?_
  refine t2_127 hgo ?_
  refine t2_128 hgo ?_
  refine t2_129 hgo ?_
  refine res_of (u2_131 hgo) ?_
  simp only [eq_self, and_self, true_and, and_true, not_true_eq_false, not_false_eq_true, if_true, if_false, reduceIte, Option.bind_some, List.getElem?_cons_zero, List.getElem?_cons_succ, Nat.reduceAdd, Nat.reduceSub, Nat.reduceLT, Nat.reduceLeDiff, Nat.le_refl, Nat.zero_add, Nat.add_zero, List.length_cons, List.length_nil, Int32.reduceLT, Int32.reduceToNatClampNeg, Int32.reduceAdd, Int32.reduceSub, Int32.reduceMul, decide_true, aCall, aRecv, aObj, obj, List.take_succ_cons, List.take_zero, List.drop_succ_cons, List.drop_zero, List.reverse_cons, List.reverse_nil, List.nil_append, List.cons_append, List.append_nil, List.map_cons, List.map_nil, List.sum_cons, List.sum_nil, cat_int, cat_long, cat_ref, cat_null, Option.toList_some, Option.toList_none, f6]
  refine t2_134f hgo (by decide) ?_
  refine t2_137 hgo ?_
  refine t2_138 hgo ?_
  refine t2_142 hgo rfl ?_
  refine t2_143 hgo ?_
  refine t2_144f hgo (by decide) ?_
  refine t2_147 hgo rfl ?_
  refine t2_148 hgo ?_
  refine t2_149 hgo ?_
  refine t2_150 hgo ?_
  refine res_of (u2_152 hgo) ?_
  simp only [eq_self, and_self, true_and, and_true, not_true_eq_false, not_false_eq_true, if_true, if_false, reduceIte, Option.bind_some, List.getElem?_cons_zero, List.getElem?_cons_succ, Nat.reduceAdd, Nat.reduceSub, Nat.reduceLT, Nat.reduceLeDiff, Nat.le_refl, Nat.zero_add, Nat.add_zero, List.length_cons, List.length_nil, Int32.reduceLT, Int32.reduceToNatClampNeg, Int32.reduceAdd, Int32.reduceSub, Int32.reduceMul, decide_true, aCall, aRecv, aObj, obj, List.take_succ_cons, List.take_zero, List.drop_succ_cons, List.drop_zero, List.reverse_cons, List.reverse_nil, List.nil_append, List.cons_append, List.append_nil, List.map_cons, List.map_nil, List.sum_cons, List.sum_nil, cat_int, cat_long, cat_ref, cat_null, Option.toList_some, Option.toList_none, f7]
  refine t2_155f hgo (by decide) ?_
  refine t2_158 hgo ?_
  refine t2_159 hgo ?_
  refine t2_163 hgo rfl ?_
  refine t2_164 hgo ?_
  refine t2_165f hgo (by decide) ?_
  refine t2_168 hgo rfl ?_
  refine t2_169 hgo ?_
  refine t2_170 hgo ?_
  refine t2_171 hgo ?_
  refine res_of (u2_173 hgo) ?_
  simp only [eq_self, and_self, true_and, and_true, not_true_eq_false, not_false_eq_true, if_true, if_false, reduceIte, Option.bind_some, List.getElem?_cons_zero, List.getElem?_cons_succ, Nat.reduceAdd, Nat.reduceSub, Nat.reduceLT, Nat.reduceLeDiff, Nat.le_refl, Nat.zero_add, Nat.add_zero, List.length_cons, List.length_nil, Int32.reduceLT, Int32.reduceToNatClampNeg, Int32.reduceAdd, Int32.reduceSub, Int32.reduceMul, decide_true, aCall, aRecv, aObj, obj, List.take_succ_cons, List.take_zero, List.drop_succ_cons, List.drop_zero, List.reverse_cons, List.reverse_nil, List.nil_append, List.cons_append, List.append_nil, List.map_cons, List.map_nil, List.sum_cons, List.sum_nil, cat_int, cat_long, cat_ref, cat_null, Option.toList_some, Option.toList_none, f8]
  refine t2_176f hgo (by decide) ?_
  refine t2_179 hgo ?_
  refine t2_180 hgo ?_
  refine t2_184 hgo rfl ?_
  refine t2_185 hgo ?_
  refine t2_186f hgo (by decide) ?_
  refine t2_189 hgo rfl ?_
  refine t2_190 hgo ?_
  refine t2_191 hgo ?_
  refine t2_192 hgo ?_
  refine res_of (u2_194 hgo) ?_
  simp only [eq_self, and_self, true_and, and_true, not_true_eq_false, not_false_eq_true, if_true, if_false, reduceIte, Option.bind_some, List.getElem?_cons_zero, List.getElem?_cons_succ, Nat.reduceAdd, Nat.reduceSub, Nat.reduceLT, Nat.reduceLeDiff, Nat.le_refl, Nat.zero_add, Nat.add_zero, List.length_cons, List.length_nil, Int32.reduceLT, Int32.reduceToNatClampNeg, Int32.reduceAdd, Int32.reduceSub, Int32.reduceMul, decide_true, aCall, aRecv, aObj, obj, List.take_succ_cons, List.take_zero, List.drop_succ_cons, List.drop_zero, List.reverse_cons, List.reverse_nil, List.nil_append, List.cons_append, List.append_nil, List.map_cons, List.map_nil, List.sum_cons, List.sum_nil, cat_int, cat_long, cat_ref, cat_null, Option.toList_some, Option.toList_none, f9]
  refine t2_197f hgo (by decide) ?_
  refine t2_200 hgo ?_
  refine t2_201 hgo ?_
  refine t2_205 hgo rfl ?_
  refine t2_206 hgo ?_
  refine t2_207f hgo (by decide) ?_
  refine t2_210 hgo rfl ?_
  refine t2_211 hgo ?_
  refine t2_212 hgo ?_
  refine t2_213 hgo ?_
  refine res_of (u2_215 hgo) ?_
  simp only [eq_self, and_self, true_and, and_true, not_true_eq_false, not_false_eq_true, if_true, if_false, reduceIte, Option.bind_some, List.getElem?_cons_zero, List.getElem?_cons_succ, Nat.reduceAdd, Nat.reduceSub, Nat.reduceLT, Nat.reduceLeDiff, Nat.le_refl, Nat.zero_add, Nat.add_zero, List.length_cons, List.length_nil, Int32.reduceLT, Int32.reduceToNatClampNeg, Int32.reduceAdd, Int32.reduceSub, Int32.reduceMul, decide_true, aCall, aRecv, aObj, obj, List.take_succ_cons, List.take_zero, List.drop_succ_cons, List.drop_zero, List.reverse_cons, List.reverse_nil, List.nil_append, List.cons_append, List.append_nil, List.map_cons, List.map_nil, List.sum_cons, List.sum_nil, cat_int, cat_long, cat_ref, cat_null, Option.toList_some, Option.toList_none, f10]
  refine t2_218f hgo (by decide) ?_
  refine t2_221 hgo ?_
  refine t2_222 hgo ?_
  refine t2_226 hgo rfl ?_
  refine t2_227 hgo ?_
  refine t2_228 hgo ?_
  exact is_1
set_option maxRecDepth 65536 in
set_option maxHeartbeats 8000000 in
theorem wr {go : Nat → St → Option ORes} (hgo : go = orun prog_96_method_10_code (Option.some Jvm.ClassFile.FieldType.int) E1 1) {Cs : List Value} {l0 l1 l2 l4 l6 l7 l8 : Slot} {e dd : Int32} {p d cs ss : Nat} {q : Option ORes → Prop} (he : e.toInt = (p : Int) + (d : Int)) (hdd : dd.toInt = (d : Int)) (hpd : p + d ≤ 32) : ∀ (r N : Nat) (B : List Value) (R : Nat) (rest idx : Int32), r ≤ d → B.length = 32 → rest.toInt = -(R : Int) → R ≤ 2147483648 → idx.toInt = (p : Int) + (r : Int) - 1 → 30 * r + 30 ≤ N → (∀ (N' : Nat) (B' : List Value) (l10 l11 : Slot), N ≤ N' + 30 * r + 30 → B'.length = 32 → (∀ k, k < p ∨ p + r ≤ k → B'[k]? = B[k]?) → (∀ k, k < r → ∃ x : Int32, B'[p + k]? = some (Value.int x) ∧ x.toInt = 48 + ((R / 10 ^ (r - 1 - k) % 10 : Nat) : Int)) → so l10 = true → so l11 = true → Rsq (go (N') (144, [l0, l1, l2, .val (.ref 2), l4, .val (.int e), l6, l7, l8, .val (.int dd), l10, l11], [], [.inr (.int, [.int 1, .int 10, .int 100, .int 1000, .int 10000, .int 100000, .int 1000000, .int 10000000, .int 100000000, .int 1000000000]), .inr (.int, Cs), .inr (.byte, B')], cs, ss)) q) → Rsq (go (N) (108, [l0, l1, l2, .val (.ref 2), l4, .val (.int e), l6, l7, l8, .val (.int dd), .val (.int rest), .val (.int idx)], [], [.inr (.int, [.int 1, .int 10, .int 100, .int 1000, .int 10000, .int 100000, .int 1000000, .int 10000000, .int 100000000, .int 1000000000]), .inr (.int, Cs), .inr (.byte, B)], cs, ss)) q := by
  have e48 : (48 : Int32).toInt = 48 := by decide
  have e10 : (10 : Int32).toInt = 10 := by decide
  have em1 : (-1 : Int32).toInt = -1 := by decide
  have hsub := own_sub he hdd (by omega)
  intro r
  induction r with
  | zero =>
    intro N B R rest idx hr hB hrest hR hidx hN h
    obtain ⟨m, rfl⟩ : ∃ m, N = m + 5 := ⟨N - 5, by omega⟩
    refine t1_108 hgo ?_
    refine t1_110 hgo ?_
    refine t1_112 hgo ?_
    refine t1_114 hgo ?_
    refine t1_115t hgo (lt_of hidx hsub (by omega)) ?_
    exact h m B _ _ (by omega) hB (fun k _ => rfl) (fun k hk => absurd hk (by omega)) rfl rfl
  | succ r ih =>
    intro N B R rest idx hr hB hrest hR hidx hN h
    obtain ⟨m, rfl⟩ : ∃ m, N = m + 20 := ⟨N - 20, by omega⟩
    obtain ⟨i1, i2⟩ := own_ix (a := p + r) (by rw [hidx]; omega)
    have h32 : p + r < 32 := by omega
    have hrm : (rest % 10).toInt = -((R % 10 : Nat) : Int) := by
      have := c_irem rest 10 10 e10
      rcases Nat.eq_zero_or_pos R with z | z
      · have := this.1 (by omega); omega
      · have := this.2 (by omega); omega
    have hrd : (rest / 10).toInt = -((R / 10 : Nat) : Int) := by
      have := c_idiv rest 10 10 e10 (by decide)
      rcases Nat.eq_zero_or_pos R with z | z
      · have := this.1 (by omega); omega
      · have := this.2 (by omega); omega
    have hy1 := own_sub e48 hrm (by omega)
    have hy2 := own_b hy1 (by omega)
    have hy3 := own_b hy2 (by omega)
    have hid := own_add hidx em1 (by omega)
    refine t1_108 hgo ?_
    refine t1_110 hgo ?_
    refine t1_112 hgo ?_
    refine t1_114 hgo ?_
    refine t1_115f hgo (nlt_of hidx hsub (by omega)) ?_
    refine t1_118 hgo rfl ?_
    refine t1_119 hgo ?_
    refine t1_121 hgo ?_
    refine t1_123 hgo ?_
    refine t1_125 hgo ?_
    refine t1_127 hgo (by decide) ?_
    refine t1_128 hgo ?_
    refine t1_129 hgo ?_
    refine res_of (u1_130 hgo) ?_
    simp only [eq_self, and_self, true_and, and_true, not_true_eq_false, not_false_eq_true, if_true, if_false, reduceIte, Option.bind_some, List.getElem?_cons_zero, List.getElem?_cons_succ, Nat.reduceAdd, Nat.reduceSub, Nat.reduceLT, Nat.reduceLeDiff, Nat.le_refl, Nat.zero_add, Nat.add_zero, List.length_cons, List.length_nil, Int32.reduceLT, Int32.reduceToNatClampNeg, Int32.reduceAdd, Int32.reduceSub, Int32.reduceMul, decide_true, ex_bastore, ast, astL, pI_int, pL_long, pR_ref, arr, isT, isBZ, nar, List.set_cons_zero, List.set_cons_succ, i1, i2, hB, h32]
    refine t1_131 hgo ?_
    refine t1_133 hgo ?_
    refine t1_135 hgo (by decide) ?_
    refine t1_136 hgo rfl ?_
    refine t1_138 hgo ?_
    refine t1_141 hgo ?_
    refine ih m _ (R / 10) _ _ (by omega) (by rw [List.length_set]; exact hB) hrd (by omega) (by rw [hid]; omega) (by omega) ?_
    intro N' B' l10 l11 hN' hlen hout hin s10 s11
    refine h N' B' l10 l11 (by omega) hlen (fun k hk => ?_) (fun k hk => ?_) s10 s11
    · rw [hout k (own_or1 hk), List.getElem?_set_ne (own_ne1 hk)]
    · by_cases hkr : k < r
      · obtain ⟨x, x1, x2⟩ := hin k hkr
        refine ⟨x, x1, ?_⟩
        have ep : r + 1 - 1 - k = (r - 1 - k) + 1 := by omega
        rw [x2, ep, Nat.pow_succ, Nat.mul_comm, ← Nat.div_div_eq_div_mul]
      · obtain rfl : k = r := by omega
        refine ⟨_, (hout (p + k) (Or.inr (Nat.le_refl _))).trans (List.getElem?_set_self (by rw [hB]; exact h32)), ?_⟩
        rw [hy3]
        have ep : k + 1 - 1 - k = 0 := by omega
        rw [ep, Nat.pow_zero, Nat.div_one]
        exact Int.sub_neg _ _
set_option maxRecDepth 65536 in
set_option maxHeartbeats 8000000 in
theorem dl_1 {go : Nat → St → Option ORes} (hgo : go = orun prog_96_method_10_code (Option.some Jvm.ClassFile.FieldType.int) E1 1) {Cs B : List Value} {l0 l1 l2 l3 l4 l5 l6 l7 l10 l11 : Slot} {w : Int32} {M m cs ss : Nat} {q : Option ORes → Prop} (hw : w.toInt = -(M : Int)) (hM : 10 ≤ M) (h : Rsq (go (m) (66, [l0, l1, l2, l3, l4, l5, l6, l7, .val (.int w), .val (.int 2), l10, l11], [], [.inr (.int, [.int 1, .int 10, .int 100, .int 1000, .int 10000, .int 100000, .int 1000000, .int 10000000, .int 100000000, .int 1000000000]), .inr (.int, Cs), .inr (.byte, B)], cs, ss)) q) : Rsq (go (m + 11) (66, [l0, l1, l2, l3, l4, l5, l6, l7, .val (.int w), .val (.int 1), l10, l11], [], [.inr (.int, [.int 1, .int 10, .int 100, .int 1000, .int 10000, .int 100000, .int 1000000, .int 10000000, .int 100000000, .int 1000000000]), .inr (.int, Cs), .inr (.byte, B)], cs, ss)) q := by
  refine t1_66 hgo ?_
  refine t1_68 hgo ?_
  refine t1_70t hgo (by decide) ?_
  refine t1_73 hgo ?_
  refine res_of (u1_75 hgo) ?_
  simp only [nr_i, nr_j, nr_a, nr_o, nr_b, nr_b1, nr_b0, ft_i, ft_j, ft_a, ft_o, ft_b, ft_b1, ft_b0, rV_nil, b_1, b_0, b_1r, b_0r, b_bb, b_and, i_10, i_01, eq_self, iff_self, not_true_eq_false, not_false_eq_true, ite_not, cat_int, cat_long, cat_ref, cat_null, and11, and01, Nat.reduceAdd, Nat.reduceSub, Nat.reduceMul, Nat.reduceLT, Nat.reduceLeDiff, Nat.reduceEqDiff, Int32.reduceAdd, Int32.reduceSub, Int32.reduceMul, Int32.reduceMod, Int32.reduceLT, Int32.reduceLE, Int32.reduceToNatClampNeg, Int64.reduceAdd, Int64.reduceSub, Int64.reduceLT, Nat.le_refl, Nat.zero_add, Nat.add_zero, and_self, Option.bind_some, Option.bind_none, gI, gL, gA, st1, st2, pI_int, pL_long, pA_ref, pA_null, pR_ref, p1_int, p1_ref, p1_null, ex_ishl, ex_ishr, ex_iushr, ex_idiv, ex_irem, ex_ineg, ex_i2b, ex_i2c, ex_i2s, ex_i2l, ex_l2i, ex_lneg, ex_lshl, ex_lshr, ex_lushr, ex_ldiv, ex_lrem, ex_lcmp, ex_dup, ex_pop, ex_dup_x1, ex_dup2, ex_ifnull, ex_ifnonnull, ex_if_acmp, ex_arraylength, ex_iaload, ex_baload, ex_caload, ex_laload, ex_aaload, ex_iastore, ex_bastore, ex_castore, ex_lastore, ex_ldc, ex_ldc_w, ex_ldc2_w, ex_getfield, ex_putfield, ex_getstatic, ex_new, ex_invokestatic, ex_invokespecial, ex_invokevirtual, ex_checkcast, ex_instanceof, ex_anewarray, ex_newarray, ex_ireturn, ex_lreturn, ex_areturn, ex_return, br_d, br_n, br_t, br_f, spc, look, aI, aJ, aGet, aPut, aNew, aArr, aObj, aCall, aRecv, obj, arr, ald, ast, astL, isT, isBZ, atn, refEq, acV, List.getElem?_cons_zero, List.getElem?_cons_succ, List.set_cons_zero, List.set_cons_succ, List.take_succ_cons, List.take_zero, List.drop_succ_cons, List.drop_zero, List.reverse_cons, List.reverse_nil, List.nil_append, List.cons_append, List.map_cons, List.map_nil, List.sum_cons, List.sum_nil, List.length_cons, List.length_nil, Option.toList_some, Option.toList_none, List.append_nil, true_and, and_true, not_false_eq_true, decide_true, decide_false, Bool.not_true, Bool.not_false, if_true, if_false, reduceIte, Option.map_some, nar, defaultValue, List.replicate_zero, List.replicate_succ, ln0, ln1, ln2, ln3, ln4, ln5, ln6, ln7, ln8, ln9, ln10, ln11, ln12, ln13, ln14, ln15, ln16, ln17, ln18, ln19, ln20, ln21, ln22, ln23, ln24, ln25, ln26, ln27, ln28, ln29, ln30, ln31, ln32, ln33, ln34, ln35, ln36, aSta, aCast, aClone, aCopy]
  refine t1_78 hgo ?_
  refine res_of (u1_80 hgo) ?_
  simp only [eq_self, and_self, true_and, and_true, not_true_eq_false, not_false_eq_true, if_true, if_false, reduceIte, Option.bind_some, List.getElem?_cons_zero, List.getElem?_cons_succ, Nat.reduceAdd, Nat.reduceSub, Nat.reduceLT, Nat.reduceLeDiff, Nat.le_refl, Nat.zero_add, Nat.add_zero, List.length_cons, List.length_nil, Int32.reduceLT, Int32.reduceToNatClampNeg, Int32.reduceAdd, Int32.reduceSub, Int32.reduceMul, decide_true, ex_iaload, ald, pI_int, pR_ref, arr, isT, isBZ]
  refine t1_81 hgo ?_
  refine t1_82f hgo (nlt_of (by decide : (-10 : Int32).toInt = -10) hw (by omega)) ?_
  refine t1_85 hgo ?_
  refine t1_88 hgo ?_
  simp only [Int32.reduceAdd]
  exact h
set_option maxRecDepth 65536 in
set_option maxHeartbeats 8000000 in
theorem dx_1 {go : Nat → St → Option ORes} (hgo : go = orun prog_96_method_10_code (Option.some Jvm.ClassFile.FieldType.int) E1 1) {Cs B : List Value} {l0 l1 l2 l3 l4 l5 l6 l7 l10 l11 : Slot} {w : Int32} {M m cs ss : Nat} {q : Option ORes → Prop} (hw : w.toInt = -(M : Int)) (hM : M < 10) (h : Rsq (go (m) (91, [l0, l1, l2, l3, l4, l5, l6, l7, .val (.int w), .val (.int 1), l10, l11], [], [.inr (.int, [.int 1, .int 10, .int 100, .int 1000, .int 10000, .int 100000, .int 1000000, .int 10000000, .int 100000000, .int 1000000000]), .inr (.int, Cs), .inr (.byte, B)], cs, ss)) q) : Rsq (go (m + 9) (66, [l0, l1, l2, l3, l4, l5, l6, l7, .val (.int w), .val (.int 1), l10, l11], [], [.inr (.int, [.int 1, .int 10, .int 100, .int 1000, .int 10000, .int 100000, .int 1000000, .int 10000000, .int 100000000, .int 1000000000]), .inr (.int, Cs), .inr (.byte, B)], cs, ss)) q := by
  refine t1_66 hgo ?_
  refine t1_68 hgo ?_
  refine t1_70t hgo (by decide) ?_
  refine t1_73 hgo ?_
  refine res_of (u1_75 hgo) ?_
  simp only [nr_i, nr_j, nr_a, nr_o, nr_b, nr_b1, nr_b0, ft_i, ft_j, ft_a, ft_o, ft_b, ft_b1, ft_b0, rV_nil, b_1, b_0, b_1r, b_0r, b_bb, b_and, i_10, i_01, eq_self, iff_self, not_true_eq_false, not_false_eq_true, ite_not, cat_int, cat_long, cat_ref, cat_null, and11, and01, Nat.reduceAdd, Nat.reduceSub, Nat.reduceMul, Nat.reduceLT, Nat.reduceLeDiff, Nat.reduceEqDiff, Int32.reduceAdd, Int32.reduceSub, Int32.reduceMul, Int32.reduceMod, Int32.reduceLT, Int32.reduceLE, Int32.reduceToNatClampNeg, Int64.reduceAdd, Int64.reduceSub, Int64.reduceLT, Nat.le_refl, Nat.zero_add, Nat.add_zero, and_self, Option.bind_some, Option.bind_none, gI, gL, gA, st1, st2, pI_int, pL_long, pA_ref, pA_null, pR_ref, p1_int, p1_ref, p1_null, ex_ishl, ex_ishr, ex_iushr, ex_idiv, ex_irem, ex_ineg, ex_i2b, ex_i2c, ex_i2s, ex_i2l, ex_l2i, ex_lneg, ex_lshl, ex_lshr, ex_lushr, ex_ldiv, ex_lrem, ex_lcmp, ex_dup, ex_pop, ex_dup_x1, ex_dup2, ex_ifnull, ex_ifnonnull, ex_if_acmp, ex_arraylength, ex_iaload, ex_baload, ex_caload, ex_laload, ex_aaload, ex_iastore, ex_bastore, ex_castore, ex_lastore, ex_ldc, ex_ldc_w, ex_ldc2_w, ex_getfield, ex_putfield, ex_getstatic, ex_new, ex_invokestatic, ex_invokespecial, ex_invokevirtual, ex_checkcast, ex_instanceof, ex_anewarray, ex_newarray, ex_ireturn, ex_lreturn, ex_areturn, ex_return, br_d, br_n, br_t, br_f, spc, look, aI, aJ, aGet, aPut, aNew, aArr, aObj, aCall, aRecv, obj, arr, ald, ast, astL, isT, isBZ, atn, refEq, acV, List.getElem?_cons_zero, List.getElem?_cons_succ, List.set_cons_zero, List.set_cons_succ, List.take_succ_cons, List.take_zero, List.drop_succ_cons, List.drop_zero, List.reverse_cons, List.reverse_nil, List.nil_append, List.cons_append, List.map_cons, List.map_nil, List.sum_cons, List.sum_nil, List.length_cons, List.length_nil, Option.toList_some, Option.toList_none, List.append_nil, true_and, and_true, not_false_eq_true, decide_true, decide_false, Bool.not_true, Bool.not_false, if_true, if_false, reduceIte, Option.map_some, nar, defaultValue, List.replicate_zero, List.replicate_succ, ln0, ln1, ln2, ln3, ln4, ln5, ln6, ln7, ln8, ln9, ln10, ln11, ln12, ln13, ln14, ln15, ln16, ln17, ln18, ln19, ln20, ln21, ln22, ln23, ln24, ln25, ln26, ln27, ln28, ln29, ln30, ln31, ln32, ln33, ln34, ln35, ln36, aSta, aCast, aClone, aCopy]
  refine t1_78 hgo ?_
  refine res_of (u1_80 hgo) ?_
  simp only [eq_self, and_self, true_and, and_true, not_true_eq_false, not_false_eq_true, if_true, if_false, reduceIte, Option.bind_some, List.getElem?_cons_zero, List.getElem?_cons_succ, Nat.reduceAdd, Nat.reduceSub, Nat.reduceLT, Nat.reduceLeDiff, Nat.le_refl, Nat.zero_add, Nat.add_zero, List.length_cons, List.length_nil, Int32.reduceLT, Int32.reduceToNatClampNeg, Int32.reduceAdd, Int32.reduceSub, Int32.reduceMul, decide_true, ex_iaload, ald, pI_int, pR_ref, arr, isT, isBZ]
  refine t1_81 hgo ?_
  refine t1_82t hgo (lt_of (by decide : (-10 : Int32).toInt = -10) hw (by omega)) ?_
  exact h
set_option maxRecDepth 65536 in
set_option maxHeartbeats 8000000 in
theorem dl_2 {go : Nat → St → Option ORes} (hgo : go = orun prog_96_method_10_code (Option.some Jvm.ClassFile.FieldType.int) E1 1) {Cs B : List Value} {l0 l1 l2 l3 l4 l5 l6 l7 l10 l11 : Slot} {w : Int32} {M m cs ss : Nat} {q : Option ORes → Prop} (hw : w.toInt = -(M : Int)) (hM : 100 ≤ M) (h : Rsq (go (m) (66, [l0, l1, l2, l3, l4, l5, l6, l7, .val (.int w), .val (.int 3), l10, l11], [], [.inr (.int, [.int 1, .int 10, .int 100, .int 1000, .int 10000, .int 100000, .int 1000000, .int 10000000, .int 100000000, .int 1000000000]), .inr (.int, Cs), .inr (.byte, B)], cs, ss)) q) : Rsq (go (m + 11) (66, [l0, l1, l2, l3, l4, l5, l6, l7, .val (.int w), .val (.int 2), l10, l11], [], [.inr (.int, [.int 1, .int 10, .int 100, .int 1000, .int 10000, .int 100000, .int 1000000, .int 10000000, .int 100000000, .int 1000000000]), .inr (.int, Cs), .inr (.byte, B)], cs, ss)) q := by
  refine t1_66 hgo ?_
  refine t1_68 hgo ?_
  refine t1_70t hgo (by decide) ?_
  refine t1_73 hgo ?_
  refine res_of (u1_75 hgo) ?_
  simp only [nr_i, nr_j, nr_a, nr_o, nr_b, nr_b1, nr_b0, ft_i, ft_j, ft_a, ft_o, ft_b, ft_b1, ft_b0, rV_nil, b_1, b_0, b_1r, b_0r, b_bb, b_and, i_10, i_01, eq_self, iff_self, not_true_eq_false, not_false_eq_true, ite_not, cat_int, cat_long, cat_ref, cat_null, and11, and01, Nat.reduceAdd, Nat.reduceSub, Nat.reduceMul, Nat.reduceLT, Nat.reduceLeDiff, Nat.reduceEqDiff, Int32.reduceAdd, Int32.reduceSub, Int32.reduceMul, Int32.reduceMod, Int32.reduceLT, Int32.reduceLE, Int32.reduceToNatClampNeg, Int64.reduceAdd, Int64.reduceSub, Int64.reduceLT, Nat.le_refl, Nat.zero_add, Nat.add_zero, and_self, Option.bind_some, Option.bind_none, gI, gL, gA, st1, st2, pI_int, pL_long, pA_ref, pA_null, pR_ref, p1_int, p1_ref, p1_null, ex_ishl, ex_ishr, ex_iushr, ex_idiv, ex_irem, ex_ineg, ex_i2b, ex_i2c, ex_i2s, ex_i2l, ex_l2i, ex_lneg, ex_lshl, ex_lshr, ex_lushr, ex_ldiv, ex_lrem, ex_lcmp, ex_dup, ex_pop, ex_dup_x1, ex_dup2, ex_ifnull, ex_ifnonnull, ex_if_acmp, ex_arraylength, ex_iaload, ex_baload, ex_caload, ex_laload, ex_aaload, ex_iastore, ex_bastore, ex_castore, ex_lastore, ex_ldc, ex_ldc_w, ex_ldc2_w, ex_getfield, ex_putfield, ex_getstatic, ex_new, ex_invokestatic, ex_invokespecial, ex_invokevirtual, ex_checkcast, ex_instanceof, ex_anewarray, ex_newarray, ex_ireturn, ex_lreturn, ex_areturn, ex_return, br_d, br_n, br_t, br_f, spc, look, aI, aJ, aGet, aPut, aNew, aArr, aObj, aCall, aRecv, obj, arr, ald, ast, astL, isT, isBZ, atn, refEq, acV, List.getElem?_cons_zero, List.getElem?_cons_succ, List.set_cons_zero, List.set_cons_succ, List.take_succ_cons, List.take_zero, List.drop_succ_cons, List.drop_zero, List.reverse_cons, List.reverse_nil, List.nil_append, List.cons_append, List.map_cons, List.map_nil, List.sum_cons, List.sum_nil, List.length_cons, List.length_nil, Option.toList_some, Option.toList_none, List.append_nil, true_and, and_true, not_false_eq_true, decide_true, decide_false, Bool.not_true, Bool.not_false, if_true, if_false, reduceIte, Option.map_some, nar, defaultValue, List.replicate_zero, List.replicate_succ, ln0, ln1, ln2, ln3, ln4, ln5, ln6, ln7, ln8, ln9, ln10, ln11, ln12, ln13, ln14, ln15, ln16, ln17, ln18, ln19, ln20, ln21, ln22, ln23, ln24, ln25, ln26, ln27, ln28, ln29, ln30, ln31, ln32, ln33, ln34, ln35, ln36, aSta, aCast, aClone, aCopy]
  refine t1_78 hgo ?_
  refine res_of (u1_80 hgo) ?_
  simp only [eq_self, and_self, true_and, and_true, not_true_eq_false, not_false_eq_true, if_true, if_false, reduceIte, Option.bind_some, List.getElem?_cons_zero, List.getElem?_cons_succ, Nat.reduceAdd, Nat.reduceSub, Nat.reduceLT, Nat.reduceLeDiff, Nat.le_refl, Nat.zero_add, Nat.add_zero, List.length_cons, List.length_nil, Int32.reduceLT, Int32.reduceToNatClampNeg, Int32.reduceAdd, Int32.reduceSub, Int32.reduceMul, decide_true, ex_iaload, ald, pI_int, pR_ref, arr, isT, isBZ]
  refine t1_81 hgo ?_
  refine t1_82f hgo (nlt_of (by decide : (-100 : Int32).toInt = -100) hw (by omega)) ?_
  refine t1_85 hgo ?_
  refine t1_88 hgo ?_
  simp only [Int32.reduceAdd]
  exact h
set_option maxRecDepth 65536 in
set_option maxHeartbeats 8000000 in
theorem dx_2 {go : Nat → St → Option ORes} (hgo : go = orun prog_96_method_10_code (Option.some Jvm.ClassFile.FieldType.int) E1 1) {Cs B : List Value} {l0 l1 l2 l3 l4 l5 l6 l7 l10 l11 : Slot} {w : Int32} {M m cs ss : Nat} {q : Option ORes → Prop} (hw : w.toInt = -(M : Int)) (hM : M < 100) (h : Rsq (go (m) (91, [l0, l1, l2, l3, l4, l5, l6, l7, .val (.int w), .val (.int 2), l10, l11], [], [.inr (.int, [.int 1, .int 10, .int 100, .int 1000, .int 10000, .int 100000, .int 1000000, .int 10000000, .int 100000000, .int 1000000000]), .inr (.int, Cs), .inr (.byte, B)], cs, ss)) q) : Rsq (go (m + 9) (66, [l0, l1, l2, l3, l4, l5, l6, l7, .val (.int w), .val (.int 2), l10, l11], [], [.inr (.int, [.int 1, .int 10, .int 100, .int 1000, .int 10000, .int 100000, .int 1000000, .int 10000000, .int 100000000, .int 1000000000]), .inr (.int, Cs), .inr (.byte, B)], cs, ss)) q := by
  refine t1_66 hgo ?_
  refine t1_68 hgo ?_
  refine t1_70t hgo (by decide) ?_
  refine t1_73 hgo ?_
  refine res_of (u1_75 hgo) ?_
  simp only [nr_i, nr_j, nr_a, nr_o, nr_b, nr_b1, nr_b0, ft_i, ft_j, ft_a, ft_o, ft_b, ft_b1, ft_b0, rV_nil, b_1, b_0, b_1r, b_0r, b_bb, b_and, i_10, i_01, eq_self, iff_self, not_true_eq_false, not_false_eq_true, ite_not, cat_int, cat_long, cat_ref, cat_null, and11, and01, Nat.reduceAdd, Nat.reduceSub, Nat.reduceMul, Nat.reduceLT, Nat.reduceLeDiff, Nat.reduceEqDiff, Int32.reduceAdd, Int32.reduceSub, Int32.reduceMul, Int32.reduceMod, Int32.reduceLT, Int32.reduceLE, Int32.reduceToNatClampNeg, Int64.reduceAdd, Int64.reduceSub, Int64.reduceLT, Nat.le_refl, Nat.zero_add, Nat.add_zero, and_self, Option.bind_some, Option.bind_none, gI, gL, gA, st1, st2, pI_int, pL_long, pA_ref, pA_null, pR_ref, p1_int, p1_ref, p1_null, ex_ishl, ex_ishr, ex_iushr, ex_idiv, ex_irem, ex_ineg, ex_i2b, ex_i2c, ex_i2s, ex_i2l, ex_l2i, ex_lneg, ex_lshl, ex_lshr, ex_lushr, ex_ldiv, ex_lrem, ex_lcmp, ex_dup, ex_pop, ex_dup_x1, ex_dup2, ex_ifnull, ex_ifnonnull, ex_if_acmp, ex_arraylength, ex_iaload, ex_baload, ex_caload, ex_laload, ex_aaload, ex_iastore, ex_bastore, ex_castore, ex_lastore, ex_ldc, ex_ldc_w, ex_ldc2_w, ex_getfield, ex_putfield, ex_getstatic, ex_new, ex_invokestatic, ex_invokespecial, ex_invokevirtual, ex_checkcast, ex_instanceof, ex_anewarray, ex_newarray, ex_ireturn, ex_lreturn, ex_areturn, ex_return, br_d, br_n, br_t, br_f, spc, look, aI, aJ, aGet, aPut, aNew, aArr, aObj, aCall, aRecv, obj, arr, ald, ast, astL, isT, isBZ, atn, refEq, acV, List.getElem?_cons_zero, List.getElem?_cons_succ, List.set_cons_zero, List.set_cons_succ, List.take_succ_cons, List.take_zero, List.drop_succ_cons, List.drop_zero, List.reverse_cons, List.reverse_nil, List.nil_append, List.cons_append, List.map_cons, List.map_nil, List.sum_cons, List.sum_nil, List.length_cons, List.length_nil, Option.toList_some, Option.toList_none, List.append_nil, true_and, and_true, not_false_eq_true, decide_true, decide_false, Bool.not_true, Bool.not_false, if_true, if_false, reduceIte, Option.map_some, nar, defaultValue, List.replicate_zero, List.replicate_succ, ln0, ln1, ln2, ln3, ln4, ln5, ln6, ln7, ln8, ln9, ln10, ln11, ln12, ln13, ln14, ln15, ln16, ln17, ln18, ln19, ln20, ln21, ln22, ln23, ln24, ln25, ln26, ln27, ln28, ln29, ln30, ln31, ln32, ln33, ln34, ln35, ln36, aSta, aCast, aClone, aCopy]
  refine t1_78 hgo ?_
  refine res_of (u1_80 hgo) ?_
  simp only [eq_self, and_self, true_and, and_true, not_true_eq_false, not_false_eq_true, if_true, if_false, reduceIte, Option.bind_some, List.getElem?_cons_zero, List.getElem?_cons_succ, Nat.reduceAdd, Nat.reduceSub, Nat.reduceLT, Nat.reduceLeDiff, Nat.le_refl, Nat.zero_add, Nat.add_zero, List.length_cons, List.length_nil, Int32.reduceLT, Int32.reduceToNatClampNeg, Int32.reduceAdd, Int32.reduceSub, Int32.reduceMul, decide_true, ex_iaload, ald, pI_int, pR_ref, arr, isT, isBZ]
  refine t1_81 hgo ?_
  refine t1_82t hgo (lt_of (by decide : (-100 : Int32).toInt = -100) hw (by omega)) ?_
  exact h
set_option maxRecDepth 65536 in
set_option maxHeartbeats 8000000 in
theorem dl_3 {go : Nat → St → Option ORes} (hgo : go = orun prog_96_method_10_code (Option.some Jvm.ClassFile.FieldType.int) E1 1) {Cs B : List Value} {l0 l1 l2 l3 l4 l5 l6 l7 l10 l11 : Slot} {w : Int32} {M m cs ss : Nat} {q : Option ORes → Prop} (hw : w.toInt = -(M : Int)) (hM : 1000 ≤ M) (h : Rsq (go (m) (66, [l0, l1, l2, l3, l4, l5, l6, l7, .val (.int w), .val (.int 4), l10, l11], [], [.inr (.int, [.int 1, .int 10, .int 100, .int 1000, .int 10000, .int 100000, .int 1000000, .int 10000000, .int 100000000, .int 1000000000]), .inr (.int, Cs), .inr (.byte, B)], cs, ss)) q) : Rsq (go (m + 11) (66, [l0, l1, l2, l3, l4, l5, l6, l7, .val (.int w), .val (.int 3), l10, l11], [], [.inr (.int, [.int 1, .int 10, .int 100, .int 1000, .int 10000, .int 100000, .int 1000000, .int 10000000, .int 100000000, .int 1000000000]), .inr (.int, Cs), .inr (.byte, B)], cs, ss)) q := by
  refine t1_66 hgo ?_
  refine t1_68 hgo ?_
  refine t1_70t hgo (by decide) ?_
  refine t1_73 hgo ?_
  refine res_of (u1_75 hgo) ?_
  simp only [nr_i, nr_j, nr_a, nr_o, nr_b, nr_b1, nr_b0, ft_i, ft_j, ft_a, ft_o, ft_b, ft_b1, ft_b0, rV_nil, b_1, b_0, b_1r, b_0r, b_bb, b_and, i_10, i_01, eq_self, iff_self, not_true_eq_false, not_false_eq_true, ite_not, cat_int, cat_long, cat_ref, cat_null, and11, and01, Nat.reduceAdd, Nat.reduceSub, Nat.reduceMul, Nat.reduceLT, Nat.reduceLeDiff, Nat.reduceEqDiff, Int32.reduceAdd, Int32.reduceSub, Int32.reduceMul, Int32.reduceMod, Int32.reduceLT, Int32.reduceLE, Int32.reduceToNatClampNeg, Int64.reduceAdd, Int64.reduceSub, Int64.reduceLT, Nat.le_refl, Nat.zero_add, Nat.add_zero, and_self, Option.bind_some, Option.bind_none, gI, gL, gA, st1, st2, pI_int, pL_long, pA_ref, pA_null, pR_ref, p1_int, p1_ref, p1_null, ex_ishl, ex_ishr, ex_iushr, ex_idiv, ex_irem, ex_ineg, ex_i2b, ex_i2c, ex_i2s, ex_i2l, ex_l2i, ex_lneg, ex_lshl, ex_lshr, ex_lushr, ex_ldiv, ex_lrem, ex_lcmp, ex_dup, ex_pop, ex_dup_x1, ex_dup2, ex_ifnull, ex_ifnonnull, ex_if_acmp, ex_arraylength, ex_iaload, ex_baload, ex_caload, ex_laload, ex_aaload, ex_iastore, ex_bastore, ex_castore, ex_lastore, ex_ldc, ex_ldc_w, ex_ldc2_w, ex_getfield, ex_putfield, ex_getstatic, ex_new, ex_invokestatic, ex_invokespecial, ex_invokevirtual, ex_checkcast, ex_instanceof, ex_anewarray, ex_newarray, ex_ireturn, ex_lreturn, ex_areturn, ex_return, br_d, br_n, br_t, br_f, spc, look, aI, aJ, aGet, aPut, aNew, aArr, aObj, aCall, aRecv, obj, arr, ald, ast, astL, isT, isBZ, atn, refEq, acV, List.getElem?_cons_zero, List.getElem?_cons_succ, List.set_cons_zero, List.set_cons_succ, List.take_succ_cons, List.take_zero, List.drop_succ_cons, List.drop_zero, List.reverse_cons, List.reverse_nil, List.nil_append, List.cons_append, List.map_cons, List.map_nil, List.sum_cons, List.sum_nil, List.length_cons, List.length_nil, Option.toList_some, Option.toList_none, List.append_nil, true_and, and_true, not_false_eq_true, decide_true, decide_false, Bool.not_true, Bool.not_false, if_true, if_false, reduceIte, Option.map_some, nar, defaultValue, List.replicate_zero, List.replicate_succ, ln0, ln1, ln2, ln3, ln4, ln5, ln6, ln7, ln8, ln9, ln10, ln11, ln12, ln13, ln14, ln15, ln16, ln17, ln18, ln19, ln20, ln21, ln22, ln23, ln24, ln25, ln26, ln27, ln28, ln29, ln30, ln31, ln32, ln33, ln34, ln35, ln36, aSta, aCast, aClone, aCopy]
  refine t1_78 hgo ?_
  refine res_of (u1_80 hgo) ?_
  simp only [eq_self, and_self, true_and, and_true, not_true_eq_false, not_false_eq_true, if_true, if_false, reduceIte, Option.bind_some, List.getElem?_cons_zero, List.getElem?_cons_succ, Nat.reduceAdd, Nat.reduceSub, Nat.reduceLT, Nat.reduceLeDiff, Nat.le_refl, Nat.zero_add, Nat.add_zero, List.length_cons, List.length_nil, Int32.reduceLT, Int32.reduceToNatClampNeg, Int32.reduceAdd, Int32.reduceSub, Int32.reduceMul, decide_true, ex_iaload, ald, pI_int, pR_ref, arr, isT, isBZ]
  refine t1_81 hgo ?_
  refine t1_82f hgo (nlt_of (by decide : (-1000 : Int32).toInt = -1000) hw (by omega)) ?_
  refine t1_85 hgo ?_
  refine t1_88 hgo ?_
  simp only [Int32.reduceAdd]
  exact h
set_option maxRecDepth 65536 in
set_option maxHeartbeats 8000000 in
theorem dx_3 {go : Nat → St → Option ORes} (hgo : go = orun prog_96_method_10_code (Option.some Jvm.ClassFile.FieldType.int) E1 1) {Cs B : List Value} {l0 l1 l2 l3 l4 l5 l6 l7 l10 l11 : Slot} {w : Int32} {M m cs ss : Nat} {q : Option ORes → Prop} (hw : w.toInt = -(M : Int)) (hM : M < 1000) (h : Rsq (go (m) (91, [l0, l1, l2, l3, l4, l5, l6, l7, .val (.int w), .val (.int 3), l10, l11], [], [.inr (.int, [.int 1, .int 10, .int 100, .int 1000, .int 10000, .int 100000, .int 1000000, .int 10000000, .int 100000000, .int 1000000000]), .inr (.int, Cs), .inr (.byte, B)], cs, ss)) q) : Rsq (go (m + 9) (66, [l0, l1, l2, l3, l4, l5, l6, l7, .val (.int w), .val (.int 3), l10, l11], [], [.inr (.int, [.int 1, .int 10, .int 100, .int 1000, .int 10000, .int 100000, .int 1000000, .int 10000000, .int 100000000, .int 1000000000]), .inr (.int, Cs), .inr (.byte, B)], cs, ss)) q := by
  refine t1_66 hgo ?_
  refine t1_68 hgo ?_
  refine t1_70t hgo (by decide) ?_
  refine t1_73 hgo ?_
  refine res_of (u1_75 hgo) ?_
  simp only [nr_i, nr_j, nr_a, nr_o, nr_b, nr_b1, nr_b0, ft_i, ft_j, ft_a, ft_o, ft_b, ft_b1, ft_b0, rV_nil, b_1, b_0, b_1r, b_0r, b_bb, b_and, i_10, i_01, eq_self, iff_self, not_true_eq_false, not_false_eq_true, ite_not, cat_int, cat_long, cat_ref, cat_null, and11, and01, Nat.reduceAdd, Nat.reduceSub, Nat.reduceMul, Nat.reduceLT, Nat.reduceLeDiff, Nat.reduceEqDiff, Int32.reduceAdd, Int32.reduceSub, Int32.reduceMul, Int32.reduceMod, Int32.reduceLT, Int32.reduceLE, Int32.reduceToNatClampNeg, Int64.reduceAdd, Int64.reduceSub, Int64.reduceLT, Nat.le_refl, Nat.zero_add, Nat.add_zero, and_self, Option.bind_some, Option.bind_none, gI, gL, gA, st1, st2, pI_int, pL_long, pA_ref, pA_null, pR_ref, p1_int, p1_ref, p1_null, ex_ishl, ex_ishr, ex_iushr, ex_idiv, ex_irem, ex_ineg, ex_i2b, ex_i2c, ex_i2s, ex_i2l, ex_l2i, ex_lneg, ex_lshl, ex_lshr, ex_lushr, ex_ldiv, ex_lrem, ex_lcmp, ex_dup, ex_pop, ex_dup_x1, ex_dup2, ex_ifnull, ex_ifnonnull, ex_if_acmp, ex_arraylength, ex_iaload, ex_baload, ex_caload, ex_laload, ex_aaload, ex_iastore, ex_bastore, ex_castore, ex_lastore, ex_ldc, ex_ldc_w, ex_ldc2_w, ex_getfield, ex_putfield, ex_getstatic, ex_new, ex_invokestatic, ex_invokespecial, ex_invokevirtual, ex_checkcast, ex_instanceof, ex_anewarray, ex_newarray, ex_ireturn, ex_lreturn, ex_areturn, ex_return, br_d, br_n, br_t, br_f, spc, look, aI, aJ, aGet, aPut, aNew, aArr, aObj, aCall, aRecv, obj, arr, ald, ast, astL, isT, isBZ, atn, refEq, acV, List.getElem?_cons_zero, List.getElem?_cons_succ, List.set_cons_zero, List.set_cons_succ, List.take_succ_cons, List.take_zero, List.drop_succ_cons, List.drop_zero, List.reverse_cons, List.reverse_nil, List.nil_append, List.cons_append, List.map_cons, List.map_nil, List.sum_cons, List.sum_nil, List.length_cons, List.length_nil, Option.toList_some, Option.toList_none, List.append_nil, true_and, and_true, not_false_eq_true, decide_true, decide_false, Bool.not_true, Bool.not_false, if_true, if_false, reduceIte, Option.map_some, nar, defaultValue, List.replicate_zero, List.replicate_succ, ln0, ln1, ln2, ln3, ln4, ln5, ln6, ln7, ln8, ln9, ln10, ln11, ln12, ln13, ln14, ln15, ln16, ln17, ln18, ln19, ln20, ln21, ln22, ln23, ln24, ln25, ln26, ln27, ln28, ln29, ln30, ln31, ln32, ln33, ln34, ln35, ln36, aSta, aCast, aClone, aCopy]
  refine t1_78 hgo ?_
  refine res_of (u1_80 hgo) ?_
  simp only [eq_self, and_self, true_and, and_true, not_true_eq_false, not_false_eq_true, if_true, if_false, reduceIte, Option.bind_some, List.getElem?_cons_zero, List.getElem?_cons_succ, Nat.reduceAdd, Nat.reduceSub, Nat.reduceLT, Nat.reduceLeDiff, Nat.le_refl, Nat.zero_add, Nat.add_zero, List.length_cons, List.length_nil, Int32.reduceLT, Int32.reduceToNatClampNeg, Int32.reduceAdd, Int32.reduceSub, Int32.reduceMul, decide_true, ex_iaload, ald, pI_int, pR_ref, arr, isT, isBZ]
  refine t1_81 hgo ?_
  refine t1_82t hgo (lt_of (by decide : (-1000 : Int32).toInt = -1000) hw (by omega)) ?_
  exact h
set_option maxRecDepth 65536 in
set_option maxHeartbeats 8000000 in
theorem dl_4 {go : Nat → St → Option ORes} (hgo : go = orun prog_96_method_10_code (Option.some Jvm.ClassFile.FieldType.int) E1 1) {Cs B : List Value} {l0 l1 l2 l3 l4 l5 l6 l7 l10 l11 : Slot} {w : Int32} {M m cs ss : Nat} {q : Option ORes → Prop} (hw : w.toInt = -(M : Int)) (hM : 10000 ≤ M) (h : Rsq (go (m) (66, [l0, l1, l2, l3, l4, l5, l6, l7, .val (.int w), .val (.int 5), l10, l11], [], [.inr (.int, [.int 1, .int 10, .int 100, .int 1000, .int 10000, .int 100000, .int 1000000, .int 10000000, .int 100000000, .int 1000000000]), .inr (.int, Cs), .inr (.byte, B)], cs, ss)) q) : Rsq (go (m + 11) (66, [l0, l1, l2, l3, l4, l5, l6, l7, .val (.int w), .val (.int 4), l10, l11], [], [.inr (.int, [.int 1, .int 10, .int 100, .int 1000, .int 10000, .int 100000, .int 1000000, .int 10000000, .int 100000000, .int 1000000000]), .inr (.int, Cs), .inr (.byte, B)], cs, ss)) q := by
  refine t1_66 hgo ?_
  refine t1_68 hgo ?_
  refine t1_70t hgo (by decide) ?_
  refine t1_73 hgo ?_
  refine res_of (u1_75 hgo) ?_
  simp only [nr_i, nr_j, nr_a, nr_o, nr_b, nr_b1, nr_b0, ft_i, ft_j, ft_a, ft_o, ft_b, ft_b1, ft_b0, rV_nil, b_1, b_0, b_1r, b_0r, b_bb, b_and, i_10, i_01, eq_self, iff_self, not_true_eq_false, not_false_eq_true, ite_not, cat_int, cat_long, cat_ref, cat_null, and11, and01, Nat.reduceAdd, Nat.reduceSub, Nat.reduceMul, Nat.reduceLT, Nat.reduceLeDiff, Nat.reduceEqDiff, Int32.reduceAdd, Int32.reduceSub, Int32.reduceMul, Int32.reduceMod, Int32.reduceLT, Int32.reduceLE, Int32.reduceToNatClampNeg, Int64.reduceAdd, Int64.reduceSub, Int64.reduceLT, Nat.le_refl, Nat.zero_add, Nat.add_zero, and_self, Option.bind_some, Option.bind_none, gI, gL, gA, st1, st2, pI_int, pL_long, pA_ref, pA_null, pR_ref, p1_int, p1_ref, p1_null, ex_ishl, ex_ishr, ex_iushr, ex_idiv, ex_irem, ex_ineg, ex_i2b, ex_i2c, ex_i2s, ex_i2l, ex_l2i, ex_lneg, ex_lshl, ex_lshr, ex_lushr, ex_ldiv, ex_lrem, ex_lcmp, ex_dup, ex_pop, ex_dup_x1, ex_dup2, ex_ifnull, ex_ifnonnull, ex_if_acmp, ex_arraylength, ex_iaload, ex_baload, ex_caload, ex_laload, ex_aaload, ex_iastore, ex_bastore, ex_castore, ex_lastore, ex_ldc, ex_ldc_w, ex_ldc2_w, ex_getfield, ex_putfield, ex_getstatic, ex_new, ex_invokestatic, ex_invokespecial, ex_invokevirtual, ex_checkcast, ex_instanceof, ex_anewarray, ex_newarray, ex_ireturn, ex_lreturn, ex_areturn, ex_return, br_d, br_n, br_t, br_f, spc, look, aI, aJ, aGet, aPut, aNew, aArr, aObj, aCall, aRecv, obj, arr, ald, ast, astL, isT, isBZ, atn, refEq, acV, List.getElem?_cons_zero, List.getElem?_cons_succ, List.set_cons_zero, List.set_cons_succ, List.take_succ_cons, List.take_zero, List.drop_succ_cons, List.drop_zero, List.reverse_cons, List.reverse_nil, List.nil_append, List.cons_append, List.map_cons, List.map_nil, List.sum_cons, List.sum_nil, List.length_cons, List.length_nil, Option.toList_some, Option.toList_none, List.append_nil, true_and, and_true, not_false_eq_true, decide_true, decide_false, Bool.not_true, Bool.not_false, if_true, if_false, reduceIte, Option.map_some, nar, defaultValue, List.replicate_zero, List.replicate_succ, ln0, ln1, ln2, ln3, ln4, ln5, ln6, ln7, ln8, ln9, ln10, ln11, ln12, ln13, ln14, ln15, ln16, ln17, ln18, ln19, ln20, ln21, ln22, ln23, ln24, ln25, ln26, ln27, ln28, ln29, ln30, ln31, ln32, ln33, ln34, ln35, ln36, aSta, aCast, aClone, aCopy]
  refine t1_78 hgo ?_
  refine res_of (u1_80 hgo) ?_
  simp only [eq_self, and_self, true_and, and_true, not_true_eq_false, not_false_eq_true, if_true, if_false, reduceIte, Option.bind_some, List.getElem?_cons_zero, List.getElem?_cons_succ, Nat.reduceAdd, Nat.reduceSub, Nat.reduceLT, Nat.reduceLeDiff, Nat.le_refl, Nat.zero_add, Nat.add_zero, List.length_cons, List.length_nil, Int32.reduceLT, Int32.reduceToNatClampNeg, Int32.reduceAdd, Int32.reduceSub, Int32.reduceMul, decide_true, ex_iaload, ald, pI_int, pR_ref, arr, isT, isBZ]
  refine t1_81 hgo ?_
  refine t1_82f hgo (nlt_of (by decide : (-10000 : Int32).toInt = -10000) hw (by omega)) ?_
  refine t1_85 hgo ?_
  refine t1_88 hgo ?_
  simp only [Int32.reduceAdd]
  exact h
set_option maxRecDepth 65536 in
set_option maxHeartbeats 8000000 in
theorem dx_4 {go : Nat → St → Option ORes} (hgo : go = orun prog_96_method_10_code (Option.some Jvm.ClassFile.FieldType.int) E1 1) {Cs B : List Value} {l0 l1 l2 l3 l4 l5 l6 l7 l10 l11 : Slot} {w : Int32} {M m cs ss : Nat} {q : Option ORes → Prop} (hw : w.toInt = -(M : Int)) (hM : M < 10000) (h : Rsq (go (m) (91, [l0, l1, l2, l3, l4, l5, l6, l7, .val (.int w), .val (.int 4), l10, l11], [], [.inr (.int, [.int 1, .int 10, .int 100, .int 1000, .int 10000, .int 100000, .int 1000000, .int 10000000, .int 100000000, .int 1000000000]), .inr (.int, Cs), .inr (.byte, B)], cs, ss)) q) : Rsq (go (m + 9) (66, [l0, l1, l2, l3, l4, l5, l6, l7, .val (.int w), .val (.int 4), l10, l11], [], [.inr (.int, [.int 1, .int 10, .int 100, .int 1000, .int 10000, .int 100000, .int 1000000, .int 10000000, .int 100000000, .int 1000000000]), .inr (.int, Cs), .inr (.byte, B)], cs, ss)) q := by
  refine t1_66 hgo ?_
  refine t1_68 hgo ?_
  refine t1_70t hgo (by decide) ?_
  refine t1_73 hgo ?_
  refine res_of (u1_75 hgo) ?_
  simp only [nr_i, nr_j, nr_a, nr_o, nr_b, nr_b1, nr_b0, ft_i, ft_j, ft_a, ft_o, ft_b, ft_b1, ft_b0, rV_nil, b_1, b_0, b_1r, b_0r, b_bb, b_and, i_10, i_01, eq_self, iff_self, not_true_eq_false, not_false_eq_true, ite_not, cat_int, cat_long, cat_ref, cat_null, and11, and01, Nat.reduceAdd, Nat.reduceSub, Nat.reduceMul, Nat.reduceLT, Nat.reduceLeDiff, Nat.reduceEqDiff, Int32.reduceAdd, Int32.reduceSub, Int32.reduceMul, Int32.reduceMod, Int32.reduceLT, Int32.reduceLE, Int32.reduceToNatClampNeg, Int64.reduceAdd, Int64.reduceSub, Int64.reduceLT, Nat.le_refl, Nat.zero_add, Nat.add_zero, and_self, Option.bind_some, Option.bind_none, gI, gL, gA, st1, st2, pI_int, pL_long, pA_ref, pA_null, pR_ref, p1_int, p1_ref, p1_null, ex_ishl, ex_ishr, ex_iushr, ex_idiv, ex_irem, ex_ineg, ex_i2b, ex_i2c, ex_i2s, ex_i2l, ex_l2i, ex_lneg, ex_lshl, ex_lshr, ex_lushr, ex_ldiv, ex_lrem, ex_lcmp, ex_dup, ex_pop, ex_dup_x1, ex_dup2, ex_ifnull, ex_ifnonnull, ex_if_acmp, ex_arraylength, ex_iaload, ex_baload, ex_caload, ex_laload, ex_aaload, ex_iastore, ex_bastore, ex_castore, ex_lastore, ex_ldc, ex_ldc_w, ex_ldc2_w, ex_getfield, ex_putfield, ex_getstatic, ex_new, ex_invokestatic, ex_invokespecial, ex_invokevirtual, ex_checkcast, ex_instanceof, ex_anewarray, ex_newarray, ex_ireturn, ex_lreturn, ex_areturn, ex_return, br_d, br_n, br_t, br_f, spc, look, aI, aJ, aGet, aPut, aNew, aArr, aObj, aCall, aRecv, obj, arr, ald, ast, astL, isT, isBZ, atn, refEq, acV, List.getElem?_cons_zero, List.getElem?_cons_succ, List.set_cons_zero, List.set_cons_succ, List.take_succ_cons, List.take_zero, List.drop_succ_cons, List.drop_zero, List.reverse_cons, List.reverse_nil, List.nil_append, List.cons_append, List.map_cons, List.map_nil, List.sum_cons, List.sum_nil, List.length_cons, List.length_nil, Option.toList_some, Option.toList_none, List.append_nil, true_and, and_true, not_false_eq_true, decide_true, decide_false, Bool.not_true, Bool.not_false, if_true, if_false, reduceIte, Option.map_some, nar, defaultValue, List.replicate_zero, List.replicate_succ, ln0, ln1, ln2, ln3, ln4, ln5, ln6, ln7, ln8, ln9, ln10, ln11, ln12, ln13, ln14, ln15, ln16, ln17, ln18, ln19, ln20, ln21, ln22, ln23, ln24, ln25, ln26, ln27, ln28, ln29, ln30, ln31, ln32, ln33, ln34, ln35, ln36, aSta, aCast, aClone, aCopy]
  refine t1_78 hgo ?_
  refine res_of (u1_80 hgo) ?_
  simp only [eq_self, and_self, true_and, and_true, not_true_eq_false, not_false_eq_true, if_true, if_false, reduceIte, Option.bind_some, List.getElem?_cons_zero, List.getElem?_cons_succ, Nat.reduceAdd, Nat.reduceSub, Nat.reduceLT, Nat.reduceLeDiff, Nat.le_refl, Nat.zero_add, Nat.add_zero, List.length_cons, List.length_nil, Int32.reduceLT, Int32.reduceToNatClampNeg, Int32.reduceAdd, Int32.reduceSub, Int32.reduceMul, decide_true, ex_iaload, ald, pI_int, pR_ref, arr, isT, isBZ]
  refine t1_81 hgo ?_
  refine t1_82t hgo (lt_of (by decide : (-10000 : Int32).toInt = -10000) hw (by omega)) ?_
  exact h
set_option maxRecDepth 65536 in
set_option maxHeartbeats 8000000 in
theorem dl_5 {go : Nat → St → Option ORes} (hgo : go = orun prog_96_method_10_code (Option.some Jvm.ClassFile.FieldType.int) E1 1) {Cs B : List Value} {l0 l1 l2 l3 l4 l5 l6 l7 l10 l11 : Slot} {w : Int32} {M m cs ss : Nat} {q : Option ORes → Prop} (hw : w.toInt = -(M : Int)) (hM : 100000 ≤ M) (h : Rsq (go (m) (66, [l0, l1, l2, l3, l4, l5, l6, l7, .val (.int w), .val (.int 6), l10, l11], [], [.inr (.int, [.int 1, .int 10, .int 100, .int 1000, .int 10000, .int 100000, .int 1000000, .int 10000000, .int 100000000, .int 1000000000]), .inr (.int, Cs), .inr (.byte, B)], cs, ss)) q) : Rsq (go (m + 11) (66, [l0, l1, l2, l3, l4, l5, l6, l7, .val (.int w), .val (.int 5), l10, l11], [], [.inr (.int, [.int 1, .int 10, .int 100, .int 1000, .int 10000, .int 100000, .int 1000000, .int 10000000, .int 100000000, .int 1000000000]), .inr (.int, Cs), .inr (.byte, B)], cs, ss)) q := by
  refine t1_66 hgo ?_
  refine t1_68 hgo ?_
  refine t1_70t hgo (by decide) ?_
  refine t1_73 hgo ?_
  refine res_of (u1_75 hgo) ?_
  simp only [nr_i, nr_j, nr_a, nr_o, nr_b, nr_b1, nr_b0, ft_i, ft_j, ft_a, ft_o, ft_b, ft_b1, ft_b0, rV_nil, b_1, b_0, b_1r, b_0r, b_bb, b_and, i_10, i_01, eq_self, iff_self, not_true_eq_false, not_false_eq_true, ite_not, cat_int, cat_long, cat_ref, cat_null, and11, and01, Nat.reduceAdd, Nat.reduceSub, Nat.reduceMul, Nat.reduceLT, Nat.reduceLeDiff, Nat.reduceEqDiff, Int32.reduceAdd, Int32.reduceSub, Int32.reduceMul, Int32.reduceMod, Int32.reduceLT, Int32.reduceLE, Int32.reduceToNatClampNeg, Int64.reduceAdd, Int64.reduceSub, Int64.reduceLT, Nat.le_refl, Nat.zero_add, Nat.add_zero, and_self, Option.bind_some, Option.bind_none, gI, gL, gA, st1, st2, pI_int, pL_long, pA_ref, pA_null, pR_ref, p1_int, p1_ref, p1_null, ex_ishl, ex_ishr, ex_iushr, ex_idiv, ex_irem, ex_ineg, ex_i2b, ex_i2c, ex_i2s, ex_i2l, ex_l2i, ex_lneg, ex_lshl, ex_lshr, ex_lushr, ex_ldiv, ex_lrem, ex_lcmp, ex_dup, ex_pop, ex_dup_x1, ex_dup2, ex_ifnull, ex_ifnonnull, ex_if_acmp, ex_arraylength, ex_iaload, ex_baload, ex_caload, ex_laload, ex_aaload, ex_iastore, ex_bastore, ex_castore, ex_lastore, ex_ldc, ex_ldc_w, ex_ldc2_w, ex_getfield, ex_putfield, ex_getstatic, ex_new, ex_invokestatic, ex_invokespecial, ex_invokevirtual, ex_checkcast, ex_instanceof, ex_anewarray, ex_newarray, ex_ireturn, ex_lreturn, ex_areturn, ex_return, br_d, br_n, br_t, br_f, spc, look, aI, aJ, aGet, aPut, aNew, aArr, aObj, aCall, aRecv, obj, arr, ald, ast, astL, isT, isBZ, atn, refEq, acV, List.getElem?_cons_zero, List.getElem?_cons_succ, List.set_cons_zero, List.set_cons_succ, List.take_succ_cons, List.take_zero, List.drop_succ_cons, List.drop_zero, List.reverse_cons, List.reverse_nil, List.nil_append, List.cons_append, List.map_cons, List.map_nil, List.sum_cons, List.sum_nil, List.length_cons, List.length_nil, Option.toList_some, Option.toList_none, List.append_nil, true_and, and_true, not_false_eq_true, decide_true, decide_false, Bool.not_true, Bool.not_false, if_true, if_false, reduceIte, Option.map_some, nar, defaultValue, List.replicate_zero, List.replicate_succ, ln0, ln1, ln2, ln3, ln4, ln5, ln6, ln7, ln8, ln9, ln10, ln11, ln12, ln13, ln14, ln15, ln16, ln17, ln18, ln19, ln20, ln21, ln22, ln23, ln24, ln25, ln26, ln27, ln28, ln29, ln30, ln31, ln32, ln33, ln34, ln35, ln36, aSta, aCast, aClone, aCopy]
  refine t1_78 hgo ?_
  refine res_of (u1_80 hgo) ?_
  simp only [eq_self, and_self, true_and, and_true, not_true_eq_false, not_false_eq_true, if_true, if_false, reduceIte, Option.bind_some, List.getElem?_cons_zero, List.getElem?_cons_succ, Nat.reduceAdd, Nat.reduceSub, Nat.reduceLT, Nat.reduceLeDiff, Nat.le_refl, Nat.zero_add, Nat.add_zero, List.length_cons, List.length_nil, Int32.reduceLT, Int32.reduceToNatClampNeg, Int32.reduceAdd, Int32.reduceSub, Int32.reduceMul, decide_true, ex_iaload, ald, pI_int, pR_ref, arr, isT, isBZ]
  refine t1_81 hgo ?_
  refine t1_82f hgo (nlt_of (by decide : (-100000 : Int32).toInt = -100000) hw (by omega)) ?_
  refine t1_85 hgo ?_
  refine t1_88 hgo ?_
  simp only [Int32.reduceAdd]
  exact h
set_option maxRecDepth 65536 in
set_option maxHeartbeats 8000000 in
theorem dx_5 {go : Nat → St → Option ORes} (hgo : go = orun prog_96_method_10_code (Option.some Jvm.ClassFile.FieldType.int) E1 1) {Cs B : List Value} {l0 l1 l2 l3 l4 l5 l6 l7 l10 l11 : Slot} {w : Int32} {M m cs ss : Nat} {q : Option ORes → Prop} (hw : w.toInt = -(M : Int)) (hM : M < 100000) (h : Rsq (go (m) (91, [l0, l1, l2, l3, l4, l5, l6, l7, .val (.int w), .val (.int 5), l10, l11], [], [.inr (.int, [.int 1, .int 10, .int 100, .int 1000, .int 10000, .int 100000, .int 1000000, .int 10000000, .int 100000000, .int 1000000000]), .inr (.int, Cs), .inr (.byte, B)], cs, ss)) q) : Rsq (go (m + 9) (66, [l0, l1, l2, l3, l4, l5, l6, l7, .val (.int w), .val (.int 5), l10, l11], [], [.inr (.int, [.int 1, .int 10, .int 100, .int 1000, .int 10000, .int 100000, .int 1000000, .int 10000000, .int 100000000, .int 1000000000]), .inr (.int, Cs), .inr (.byte, B)], cs, ss)) q := by
  refine t1_66 hgo ?_
  refine t1_68 hgo ?_
  refine t1_70t hgo (by decide) ?_
  refine t1_73 hgo ?_
  refine res_of (u1_75 hgo) ?_
  simp only [nr_i, nr_j, nr_a, nr_o, nr_b, nr_b1, nr_b0, ft_i, ft_j, ft_a, ft_o, ft_b, ft_b1, ft_b0, rV_nil, b_1, b_0, b_1r, b_0r, b_bb, b_and, i_10, i_01, eq_self, iff_self, not_true_eq_false, not_false_eq_true, ite_not, cat_int, cat_long, cat_ref, cat_null, and11, and01, Nat.reduceAdd, Nat.reduceSub, Nat.reduceMul, Nat.reduceLT, Nat.reduceLeDiff, Nat.reduceEqDiff, Int32.reduceAdd, Int32.reduceSub, Int32.reduceMul, Int32.reduceMod, Int32.reduceLT, Int32.reduceLE, Int32.reduceToNatClampNeg, Int64.reduceAdd, Int64.reduceSub, Int64.reduceLT, Nat.le_refl, Nat.zero_add, Nat.add_zero, and_self, Option.bind_some, Option.bind_none, gI, gL, gA, st1, st2, pI_int, pL_long, pA_ref, pA_null, pR_ref, p1_int, p1_ref, p1_null, ex_ishl, ex_ishr, ex_iushr, ex_idiv, ex_irem, ex_ineg, ex_i2b, ex_i2c, ex_i2s, ex_i2l, ex_l2i, ex_lneg, ex_lshl, ex_lshr, ex_lushr, ex_ldiv, ex_lrem, ex_lcmp, ex_dup, ex_pop, ex_dup_x1, ex_dup2, ex_ifnull, ex_ifnonnull, ex_if_acmp, ex_arraylength, ex_iaload, ex_baload, ex_caload, ex_laload, ex_aaload, ex_iastore, ex_bastore, ex_castore, ex_lastore, ex_ldc, ex_ldc_w, ex_ldc2_w, ex_getfield, ex_putfield, ex_getstatic, ex_new, ex_invokestatic, ex_invokespecial, ex_invokevirtual, ex_checkcast, ex_instanceof, ex_anewarray, ex_newarray, ex_ireturn, ex_lreturn, ex_areturn, ex_return, br_d, br_n, br_t, br_f, spc, look, aI, aJ, aGet, aPut, aNew, aArr, aObj, aCall, aRecv, obj, arr, ald, ast, astL, isT, isBZ, atn, refEq, acV, List.getElem?_cons_zero, List.getElem?_cons_succ, List.set_cons_zero, List.set_cons_succ, List.take_succ_cons, List.take_zero, List.drop_succ_cons, List.drop_zero, List.reverse_cons, List.reverse_nil, List.nil_append, List.cons_append, List.map_cons, List.map_nil, List.sum_cons, List.sum_nil, List.length_cons, List.length_nil, Option.toList_some, Option.toList_none, List.append_nil, true_and, and_true, not_false_eq_true, decide_true, decide_false, Bool.not_true, Bool.not_false, if_true, if_false, reduceIte, Option.map_some, nar, defaultValue, List.replicate_zero, List.replicate_succ, ln0, ln1, ln2, ln3, ln4, ln5, ln6, ln7, ln8, ln9, ln10, ln11, ln12, ln13, ln14, ln15, ln16, ln17, ln18, ln19, ln20, ln21, ln22, ln23, ln24, ln25, ln26, ln27, ln28, ln29, ln30, ln31, ln32, ln33, ln34, ln35, ln36, aSta, aCast, aClone, aCopy]
  refine t1_78 hgo ?_
  refine res_of (u1_80 hgo) ?_
  simp only [eq_self, and_self, true_and, and_true, not_true_eq_false, not_false_eq_true, if_true, if_false, reduceIte, Option.bind_some, List.getElem?_cons_zero, List.getElem?_cons_succ, Nat.reduceAdd, Nat.reduceSub, Nat.reduceLT, Nat.reduceLeDiff, Nat.le_refl, Nat.zero_add, Nat.add_zero, List.length_cons, List.length_nil, Int32.reduceLT, Int32.reduceToNatClampNeg, Int32.reduceAdd, Int32.reduceSub, Int32.reduceMul, decide_true, ex_iaload, ald, pI_int, pR_ref, arr, isT, isBZ]
  refine t1_81 hgo ?_
  refine t1_82t hgo (lt_of (by decide : (-100000 : Int32).toInt = -100000) hw (by omega)) ?_
  exact h
set_option maxRecDepth 65536 in
set_option maxHeartbeats 8000000 in
theorem dl_6 {go : Nat → St → Option ORes} (hgo : go = orun prog_96_method_10_code (Option.some Jvm.ClassFile.FieldType.int) E1 1) {Cs B : List Value} {l0 l1 l2 l3 l4 l5 l6 l7 l10 l11 : Slot} {w : Int32} {M m cs ss : Nat} {q : Option ORes → Prop} (hw : w.toInt = -(M : Int)) (hM : 1000000 ≤ M) (h : Rsq (go (m) (66, [l0, l1, l2, l3, l4, l5, l6, l7, .val (.int w), .val (.int 7), l10, l11], [], [.inr (.int, [.int 1, .int 10, .int 100, .int 1000, .int 10000, .int 100000, .int 1000000, .int 10000000, .int 100000000, .int 1000000000]), .inr (.int, Cs), .inr (.byte, B)], cs, ss)) q) : Rsq (go (m + 11) (66, [l0, l1, l2, l3, l4, l5, l6, l7, .val (.int w), .val (.int 6), l10, l11], [], [.inr (.int, [.int 1, .int 10, .int 100, .int 1000, .int 10000, .int 100000, .int 1000000, .int 10000000, .int 100000000, .int 1000000000]), .inr (.int, Cs), .inr (.byte, B)], cs, ss)) q := by
  refine t1_66 hgo ?_
  refine t1_68 hgo ?_
  refine t1_70t hgo (by decide) ?_
  refine t1_73 hgo ?_
  refine res_of (u1_75 hgo) ?_
  simp only [nr_i, nr_j, nr_a, nr_o, nr_b, nr_b1, nr_b0, ft_i, ft_j, ft_a, ft_o, ft_b, ft_b1, ft_b0, rV_nil, b_1, b_0, b_1r, b_0r, b_bb, b_and, i_10, i_01, eq_self, iff_self, not_true_eq_false, not_false_eq_true, ite_not, cat_int, cat_long, cat_ref, cat_null, and11, and01, Nat.reduceAdd, Nat.reduceSub, Nat.reduceMul, Nat.reduceLT, Nat.reduceLeDiff, Nat.reduceEqDiff, Int32.reduceAdd, Int32.reduceSub, Int32.reduceMul, Int32.reduceMod, Int32.reduceLT, Int32.reduceLE, Int32.reduceToNatClampNeg, Int64.reduceAdd, Int64.reduceSub, Int64.reduceLT, Nat.le_refl, Nat.zero_add, Nat.add_zero, and_self, Option.bind_some, Option.bind_none, gI, gL, gA, st1, st2, pI_int, pL_long, pA_ref, pA_null, pR_ref, p1_int, p1_ref, p1_null, ex_ishl, ex_ishr, ex_iushr, ex_idiv, ex_irem, ex_ineg, ex_i2b, ex_i2c, ex_i2s, ex_i2l, ex_l2i, ex_lneg, ex_lshl, ex_lshr, ex_lushr, ex_ldiv, ex_lrem, ex_lcmp, ex_dup, ex_pop, ex_dup_x1, ex_dup2, ex_ifnull, ex_ifnonnull, ex_if_acmp, ex_arraylength, ex_iaload, ex_baload, ex_caload, ex_laload, ex_aaload, ex_iastore, ex_bastore, ex_castore, ex_lastore, ex_ldc, ex_ldc_w, ex_ldc2_w, ex_getfield, ex_putfield, ex_getstatic, ex_new, ex_invokestatic, ex_invokespecial, ex_invokevirtual, ex_checkcast, ex_instanceof, ex_anewarray, ex_newarray, ex_ireturn, ex_lreturn, ex_areturn, ex_return, br_d, br_n, br_t, br_f, spc, look, aI, aJ, aGet, aPut, aNew, aArr, aObj, aCall, aRecv, obj, arr, ald, ast, astL, isT, isBZ, atn, refEq, acV, List.getElem?_cons_zero, List.getElem?_cons_succ, List.set_cons_zero, List.set_cons_succ, List.take_succ_cons, List.take_zero, List.drop_succ_cons, List.drop_zero, List.reverse_cons, List.reverse_nil, List.nil_append, List.cons_append, List.map_cons, List.map_nil, List.sum_cons, List.sum_nil, List.length_cons, List.length_nil, Option.toList_some, Option.toList_none, List.append_nil, true_and, and_true, not_false_eq_true, decide_true, decide_false, Bool.not_true, Bool.not_false, if_true, if_false, reduceIte, Option.map_some, nar, defaultValue, List.replicate_zero, List.replicate_succ, ln0, ln1, ln2, ln3, ln4, ln5, ln6, ln7, ln8, ln9, ln10, ln11, ln12, ln13, ln14, ln15, ln16, ln17, ln18, ln19, ln20, ln21, ln22, ln23, ln24, ln25, ln26, ln27, ln28, ln29, ln30, ln31, ln32, ln33, ln34, ln35, ln36, aSta, aCast, aClone, aCopy]
  refine t1_78 hgo ?_
  refine res_of (u1_80 hgo) ?_
  simp only [eq_self, and_self, true_and, and_true, not_true_eq_false, not_false_eq_true, if_true, if_false, reduceIte, Option.bind_some, List.getElem?_cons_zero, List.getElem?_cons_succ, Nat.reduceAdd, Nat.reduceSub, Nat.reduceLT, Nat.reduceLeDiff, Nat.le_refl, Nat.zero_add, Nat.add_zero, List.length_cons, List.length_nil, Int32.reduceLT, Int32.reduceToNatClampNeg, Int32.reduceAdd, Int32.reduceSub, Int32.reduceMul, decide_true, ex_iaload, ald, pI_int, pR_ref, arr, isT, isBZ]
  refine t1_81 hgo ?_
  refine t1_82f hgo (nlt_of (by decide : (-1000000 : Int32).toInt = -1000000) hw (by omega)) ?_
  refine t1_85 hgo ?_
  refine t1_88 hgo ?_
  simp only [Int32.reduceAdd]
  exact h
set_option maxRecDepth 65536 in
set_option maxHeartbeats 8000000 in
theorem dx_6 {go : Nat → St → Option ORes} (hgo : go = orun prog_96_method_10_code (Option.some Jvm.ClassFile.FieldType.int) E1 1) {Cs B : List Value} {l0 l1 l2 l3 l4 l5 l6 l7 l10 l11 : Slot} {w : Int32} {M m cs ss : Nat} {q : Option ORes → Prop} (hw : w.toInt = -(M : Int)) (hM : M < 1000000) (h : Rsq (go (m) (91, [l0, l1, l2, l3, l4, l5, l6, l7, .val (.int w), .val (.int 6), l10, l11], [], [.inr (.int, [.int 1, .int 10, .int 100, .int 1000, .int 10000, .int 100000, .int 1000000, .int 10000000, .int 100000000, .int 1000000000]), .inr (.int, Cs), .inr (.byte, B)], cs, ss)) q) : Rsq (go (m + 9) (66, [l0, l1, l2, l3, l4, l5, l6, l7, .val (.int w), .val (.int 6), l10, l11], [], [.inr (.int, [.int 1, .int 10, .int 100, .int 1000, .int 10000, .int 100000, .int 1000000, .int 10000000, .int 100000000, .int 1000000000]), .inr (.int, Cs), .inr (.byte, B)], cs, ss)) q := by
  refine t1_66 hgo ?_
  refine t1_68 hgo ?_
  refine t1_70t hgo (by decide) ?_
  refine t1_73 hgo ?_
  refine res_of (u1_75 hgo) ?_
  simp only [nr_i, nr_j, nr_a, nr_o, nr_b, nr_b1, nr_b0, ft_i, ft_j, ft_a, ft_o, ft_b, ft_b1, ft_b0, rV_nil, b_1, b_0, b_1r, b_0r, b_bb, b_and, i_10, i_01, eq_self, iff_self, not_true_eq_false, not_false_eq_true, ite_not, cat_int, cat_long, cat_ref, cat_null, and11, and01, Nat.reduceAdd, Nat.reduceSub, Nat.reduceMul, Nat.reduceLT, Nat.reduceLeDiff, Nat.reduceEqDiff, Int32.reduceAdd, Int32.reduceSub, Int32.reduceMul, Int32.reduceMod, Int32.reduceLT, Int32.reduceLE, Int32.reduceToNatClampNeg, Int64.reduceAdd, Int64.reduceSub, Int64.reduceLT, Nat.le_refl, Nat.zero_add, Nat.add_zero, and_self, Option.bind_some, Option.bind_none, gI, gL, gA, st1, st2, pI_int, pL_long, pA_ref, pA_null, pR_ref, p1_int, p1_ref, p1_null, ex_ishl, ex_ishr, ex_iushr, ex_idiv, ex_irem, ex_ineg, ex_i2b, ex_i2c, ex_i2s, ex_i2l, ex_l2i, ex_lneg, ex_lshl, ex_lshr, ex_lushr, ex_ldiv, ex_lrem, ex_lcmp, ex_dup, ex_pop, ex_dup_x1, ex_dup2, ex_ifnull, ex_ifnonnull, ex_if_acmp, ex_arraylength, ex_iaload, ex_baload, ex_caload, ex_laload, ex_aaload, ex_iastore, ex_bastore, ex_castore, ex_lastore, ex_ldc, ex_ldc_w, ex_ldc2_w, ex_getfield, ex_putfield, ex_getstatic, ex_new, ex_invokestatic, ex_invokespecial, ex_invokevirtual, ex_checkcast, ex_instanceof, ex_anewarray, ex_newarray, ex_ireturn, ex_lreturn, ex_areturn, ex_return, br_d, br_n, br_t, br_f, spc, look, aI, aJ, aGet, aPut, aNew, aArr, aObj, aCall, aRecv, obj, arr, ald, ast, astL, isT, isBZ, atn, refEq, acV, List.getElem?_cons_zero, List.getElem?_cons_succ, List.set_cons_zero, List.set_cons_succ, List.take_succ_cons, List.take_zero, List.drop_succ_cons, List.drop_zero, List.reverse_cons, List.reverse_nil, List.nil_append, List.cons_append, List.map_cons, List.map_nil, List.sum_cons, List.sum_nil, List.length_cons, List.length_nil, Option.toList_some, Option.toList_none, List.append_nil, true_and, and_true, not_false_eq_true, decide_true, decide_false, Bool.not_true, Bool.not_false, if_true, if_false, reduceIte, Option.map_some, nar, defaultValue, List.replicate_zero, List.replicate_succ, ln0, ln1, ln2, ln3, ln4, ln5, ln6, ln7, ln8, ln9, ln10, ln11, ln12, ln13, ln14, ln15, ln16, ln17, ln18, ln19, ln20, ln21, ln22, ln23, ln24, ln25, ln26, ln27, ln28, ln29, ln30, ln31, ln32, ln33, ln34, ln35, ln36, aSta, aCast, aClone, aCopy]
  refine t1_78 hgo ?_
  refine res_of (u1_80 hgo) ?_
  simp only [eq_self, and_self, true_and, and_true, not_true_eq_false, not_false_eq_true, if_true, if_false, reduceIte, Option.bind_some, List.getElem?_cons_zero, List.getElem?_cons_succ, Nat.reduceAdd, Nat.reduceSub, Nat.reduceLT, Nat.reduceLeDiff, Nat.le_refl, Nat.zero_add, Nat.add_zero, List.length_cons, List.length_nil, Int32.reduceLT, Int32.reduceToNatClampNeg, Int32.reduceAdd, Int32.reduceSub, Int32.reduceMul, decide_true, ex_iaload, ald, pI_int, pR_ref, arr, isT, isBZ]
  refine t1_81 hgo ?_
  refine t1_82t hgo (lt_of (by decide : (-1000000 : Int32).toInt = -1000000) hw (by omega)) ?_
  exact h
set_option maxRecDepth 65536 in
set_option maxHeartbeats 8000000 in
theorem dl_7 {go : Nat → St → Option ORes} (hgo : go = orun prog_96_method_10_code (Option.some Jvm.ClassFile.FieldType.int) E1 1) {Cs B : List Value} {l0 l1 l2 l3 l4 l5 l6 l7 l10 l11 : Slot} {w : Int32} {M m cs ss : Nat} {q : Option ORes → Prop} (hw : w.toInt = -(M : Int)) (hM : 10000000 ≤ M) (h : Rsq (go (m) (66, [l0, l1, l2, l3, l4, l5, l6, l7, .val (.int w), .val (.int 8), l10, l11], [], [.inr (.int, [.int 1, .int 10, .int 100, .int 1000, .int 10000, .int 100000, .int 1000000, .int 10000000, .int 100000000, .int 1000000000]), .inr (.int, Cs), .inr (.byte, B)], cs, ss)) q) : Rsq (go (m + 11) (66, [l0, l1, l2, l3, l4, l5, l6, l7, .val (.int w), .val (.int 7), l10, l11], [], [.inr (.int, [.int 1, .int 10, .int 100, .int 1000, .int 10000, .int 100000, .int 1000000, .int 10000000, .int 100000000, .int 1000000000]), .inr (.int, Cs), .inr (.byte, B)], cs, ss)) q := by
  refine t1_66 hgo ?_
  refine t1_68 hgo ?_
  refine t1_70t hgo (by decide) ?_
  refine t1_73 hgo ?_
  refine res_of (u1_75 hgo) ?_
  simp only [nr_i, nr_j, nr_a, nr_o, nr_b, nr_b1, nr_b0, ft_i, ft_j, ft_a, ft_o, ft_b, ft_b1, ft_b0, rV_nil, b_1, b_0, b_1r, b_0r, b_bb, b_and, i_10, i_01, eq_self, iff_self, not_true_eq_false, not_false_eq_true, ite_not, cat_int, cat_long, cat_ref, cat_null, and11, and01, Nat.reduceAdd, Nat.reduceSub, Nat.reduceMul, Nat.reduceLT, Nat.reduceLeDiff, Nat.reduceEqDiff, Int32.reduceAdd, Int32.reduceSub, Int32.reduceMul, Int32.reduceMod, Int32.reduceLT, Int32.reduceLE, Int32.reduceToNatClampNeg, Int64.reduceAdd, Int64.reduceSub, Int64.reduceLT, Nat.le_refl, Nat.zero_add, Nat.add_zero, and_self, Option.bind_some, Option.bind_none, gI, gL, gA, st1, st2, pI_int, pL_long, pA_ref, pA_null, pR_ref, p1_int, p1_ref, p1_null, ex_ishl, ex_ishr, ex_iushr, ex_idiv, ex_irem, ex_ineg, ex_i2b, ex_i2c, ex_i2s, ex_i2l, ex_l2i, ex_lneg, ex_lshl, ex_lshr, ex_lushr, ex_ldiv, ex_lrem, ex_lcmp, ex_dup, ex_pop, ex_dup_x1, ex_dup2, ex_ifnull, ex_ifnonnull, ex_if_acmp, ex_arraylength, ex_iaload, ex_baload, ex_caload, ex_laload, ex_aaload, ex_iastore, ex_bastore, ex_castore, ex_lastore, ex_ldc, ex_ldc_w, ex_ldc2_w, ex_getfield, ex_putfield, ex_getstatic, ex_new, ex_invokestatic, ex_invokespecial, ex_invokevirtual, ex_checkcast, ex_instanceof, ex_anewarray, ex_newarray, ex_ireturn, ex_lreturn, ex_areturn, ex_return, br_d, br_n, br_t, br_f, spc, look, aI, aJ, aGet, aPut, aNew, aArr, aObj, aCall, aRecv, obj, arr, ald, ast, astL, isT, isBZ, atn, refEq, acV, List.getElem?_cons_zero, List.getElem?_cons_succ, List.set_cons_zero, List.set_cons_succ, List.take_succ_cons, List.take_zero, List.drop_succ_cons, List.drop_zero, List.reverse_cons, List.reverse_nil, List.nil_append, List.cons_append, List.map_cons, List.map_nil, List.sum_cons, List.sum_nil, List.length_cons, List.length_nil, Option.toList_some, Option.toList_none, List.append_nil, true_and, and_true, not_false_eq_true, decide_true, decide_false, Bool.not_true, Bool.not_false, if_true, if_false, reduceIte, Option.map_some, nar, defaultValue, List.replicate_zero, List.replicate_succ, ln0, ln1, ln2, ln3, ln4, ln5, ln6, ln7, ln8, ln9, ln10, ln11, ln12, ln13, ln14, ln15, ln16, ln17, ln18, ln19, ln20, ln21, ln22, ln23, ln24, ln25, ln26, ln27, ln28, ln29, ln30, ln31, ln32, ln33, ln34, ln35, ln36, aSta, aCast, aClone, aCopy]
  refine t1_78 hgo ?_
  refine res_of (u1_80 hgo) ?_
  simp only [eq_self, and_self, true_and, and_true, not_true_eq_false, not_false_eq_true, if_true, if_false, reduceIte, Option.bind_some, List.getElem?_cons_zero, List.getElem?_cons_succ, Nat.reduceAdd, Nat.reduceSub, Nat.reduceLT, Nat.reduceLeDiff, Nat.le_refl, Nat.zero_add, Nat.add_zero, List.length_cons, List.length_nil, Int32.reduceLT, Int32.reduceToNatClampNeg, Int32.reduceAdd, Int32.reduceSub, Int32.reduceMul, decide_true, ex_iaload, ald, pI_int, pR_ref, arr, isT, isBZ]
  refine t1_81 hgo ?_
  refine t1_82f hgo (nlt_of (by decide : (-10000000 : Int32).toInt = -10000000) hw (by omega)) ?_
  refine t1_85 hgo ?_
  refine t1_88 hgo ?_
  simp only [Int32.reduceAdd]
  exact h
set_option maxRecDepth 65536 in
set_option maxHeartbeats 8000000 in
theorem dx_7 {go : Nat → St → Option ORes} (hgo : go = orun prog_96_method_10_code (Option.some Jvm.ClassFile.FieldType.int) E1 1) {Cs B : List Value} {l0 l1 l2 l3 l4 l5 l6 l7 l10 l11 : Slot} {w : Int32} {M m cs ss : Nat} {q : Option ORes → Prop} (hw : w.toInt = -(M : Int)) (hM : M < 10000000) (h : Rsq (go (m) (91, [l0, l1, l2, l3, l4, l5, l6, l7, .val (.int w), .val (.int 7), l10, l11], [], [.inr (.int, [.int 1, .int 10, .int 100, .int 1000, .int 10000, .int 100000, .int 1000000, .int 10000000, .int 100000000, .int 1000000000]), .inr (.int, Cs), .inr (.byte, B)], cs, ss)) q) : Rsq (go (m + 9) (66, [l0, l1, l2, l3, l4, l5, l6, l7, .val (.int w), .val (.int 7), l10, l11], [], [.inr (.int, [.int 1, .int 10, .int 100, .int 1000, .int 10000, .int 100000, .int 1000000, .int 10000000, .int 100000000, .int 1000000000]), .inr (.int, Cs), .inr (.byte, B)], cs, ss)) q := by
  refine t1_66 hgo ?_
  refine t1_68 hgo ?_
  refine t1_70t hgo (by decide) ?_
  refine t1_73 hgo ?_
  refine res_of (u1_75 hgo) ?_
  simp only [nr_i, nr_j, nr_a, nr_o, nr_b, nr_b1, nr_b0, ft_i, ft_j, ft_a, ft_o, ft_b, ft_b1, ft_b0, rV_nil, b_1, b_0, b_1r, b_0r, b_bb, b_and, i_10, i_01, eq_self, iff_self, not_true_eq_false, not_false_eq_true, ite_not, cat_int, cat_long, cat_ref, cat_null, and11, and01, Nat.reduceAdd, Nat.reduceSub, Nat.reduceMul, Nat.reduceLT, Nat.reduceLeDiff, Nat.reduceEqDiff, Int32.reduceAdd, Int32.reduceSub, Int32.reduceMul, Int32.reduceMod, Int32.reduceLT, Int32.reduceLE, Int32.reduceToNatClampNeg, Int64.reduceAdd, Int64.reduceSub, Int64.reduceLT, Nat.le_refl, Nat.zero_add, Nat.add_zero, and_self, Option.bind_some, Option.bind_none, gI, gL, gA, st1, st2, pI_int, pL_long, pA_ref, pA_null, pR_ref, p1_int, p1_ref, p1_null, ex_ishl, ex_ishr, ex_iushr, ex_idiv, ex_irem, ex_ineg, ex_i2b, ex_i2c, ex_i2s, ex_i2l, ex_l2i, ex_lneg, ex_lshl, ex_lshr, ex_lushr, ex_ldiv, ex_lrem, ex_lcmp, ex_dup, ex_pop, ex_dup_x1, ex_dup2, ex_ifnull, ex_ifnonnull, ex_if_acmp, ex_arraylength, ex_iaload, ex_baload, ex_caload, ex_laload, ex_aaload, ex_iastore, ex_bastore, ex_castore, ex_lastore, ex_ldc, ex_ldc_w, ex_ldc2_w, ex_getfield, ex_putfield, ex_getstatic, ex_new, ex_invokestatic, ex_invokespecial, ex_invokevirtual, ex_checkcast, ex_instanceof, ex_anewarray, ex_newarray, ex_ireturn, ex_lreturn, ex_areturn, ex_return, br_d, br_n, br_t, br_f, spc, look, aI, aJ, aGet, aPut, aNew, aArr, aObj, aCall, aRecv, obj, arr, ald, ast, astL, isT, isBZ, atn, refEq, acV, List.getElem?_cons_zero, List.getElem?_cons_succ, List.set_cons_zero, List.set_cons_succ, List.take_succ_cons, List.take_zero, List.drop_succ_cons, List.drop_zero, List.reverse_cons, List.reverse_nil, List.nil_append, List.cons_append, List.map_cons, List.map_nil, List.sum_cons, List.sum_nil, List.length_cons, List.length_nil, Option.toList_some, Option.toList_none, List.append_nil, true_and, and_true, not_false_eq_true, decide_true, decide_false, Bool.not_true, Bool.not_false, if_true, if_false, reduceIte, Option.map_some, nar, defaultValue, List.replicate_zero, List.replicate_succ, ln0, ln1, ln2, ln3, ln4, ln5, ln6, ln7, ln8, ln9, ln10, ln11, ln12, ln13, ln14, ln15, ln16, ln17, ln18, ln19, ln20, ln21, ln22, ln23, ln24, ln25, ln26, ln27, ln28, ln29, ln30, ln31, ln32, ln33, ln34, ln35, ln36, aSta, aCast, aClone, aCopy]
  refine t1_78 hgo ?_
  refine res_of (u1_80 hgo) ?_
  simp only [eq_self, and_self, true_and, and_true, not_true_eq_false, not_false_eq_true, if_true, if_false, reduceIte, Option.bind_some, List.getElem?_cons_zero, List.getElem?_cons_succ, Nat.reduceAdd, Nat.reduceSub, Nat.reduceLT, Nat.reduceLeDiff, Nat.le_refl, Nat.zero_add, Nat.add_zero, List.length_cons, List.length_nil, Int32.reduceLT, Int32.reduceToNatClampNeg, Int32.reduceAdd, Int32.reduceSub, Int32.reduceMul, decide_true, ex_iaload, ald, pI_int, pR_ref, arr, isT, isBZ]
  refine t1_81 hgo ?_
  refine t1_82t hgo (lt_of (by decide : (-10000000 : Int32).toInt = -10000000) hw (by omega)) ?_
  exact h
set_option maxRecDepth 65536 in
set_option maxHeartbeats 8000000 in
theorem dl_8 {go : Nat → St → Option ORes} (hgo : go = orun prog_96_method_10_code (Option.some Jvm.ClassFile.FieldType.int) E1 1) {Cs B : List Value} {l0 l1 l2 l3 l4 l5 l6 l7 l10 l11 : Slot} {w : Int32} {M m cs ss : Nat} {q : Option ORes → Prop} (hw : w.toInt = -(M : Int)) (hM : 100000000 ≤ M) (h : Rsq (go (m) (66, [l0, l1, l2, l3, l4, l5, l6, l7, .val (.int w), .val (.int 9), l10, l11], [], [.inr (.int, [.int 1, .int 10, .int 100, .int 1000, .int 10000, .int 100000, .int 1000000, .int 10000000, .int 100000000, .int 1000000000]), .inr (.int, Cs), .inr (.byte, B)], cs, ss)) q) : Rsq (go (m + 11) (66, [l0, l1, l2, l3, l4, l5, l6, l7, .val (.int w), .val (.int 8), l10, l11], [], [.inr (.int, [.int 1, .int 10, .int 100, .int 1000, .int 10000, .int 100000, .int 1000000, .int 10000000, .int 100000000, .int 1000000000]), .inr (.int, Cs), .inr (.byte, B)], cs, ss)) q := by
  refine t1_66 hgo ?_
  refine t1_68 hgo ?_
  refine t1_70t hgo (by decide) ?_
  refine t1_73 hgo ?_
  refine res_of (u1_75 hgo) ?_
  simp only [nr_i, nr_j, nr_a, nr_o, nr_b, nr_b1, nr_b0, ft_i, ft_j, ft_a, ft_o, ft_b, ft_b1, ft_b0, rV_nil, b_1, b_0, b_1r, b_0r, b_bb, b_and, i_10, i_01, eq_self, iff_self, not_true_eq_false, not_false_eq_true, ite_not, cat_int, cat_long, cat_ref, cat_null, and11, and01, Nat.reduceAdd, Nat.reduceSub, Nat.reduceMul, Nat.reduceLT, Nat.reduceLeDiff, Nat.reduceEqDiff, Int32.reduceAdd, Int32.reduceSub, Int32.reduceMul, Int32.reduceMod, Int32.reduceLT, Int32.reduceLE, Int32.reduceToNatClampNeg, Int64.reduceAdd, Int64.reduceSub, Int64.reduceLT, Nat.le_refl, Nat.zero_add, Nat.add_zero, and_self, Option.bind_some, Option.bind_none, gI, gL, gA, st1, st2, pI_int, pL_long, pA_ref, pA_null, pR_ref, p1_int, p1_ref, p1_null, ex_ishl, ex_ishr, ex_iushr, ex_idiv, ex_irem, ex_ineg, ex_i2b, ex_i2c, ex_i2s, ex_i2l, ex_l2i, ex_lneg, ex_lshl, ex_lshr, ex_lushr, ex_ldiv, ex_lrem, ex_lcmp, ex_dup, ex_pop, ex_dup_x1, ex_dup2, ex_ifnull, ex_ifnonnull, ex_if_acmp, ex_arraylength, ex_iaload, ex_baload, ex_caload, ex_laload, ex_aaload, ex_iastore, ex_bastore, ex_castore, ex_lastore, ex_ldc, ex_ldc_w, ex_ldc2_w, ex_getfield, ex_putfield, ex_getstatic, ex_new, ex_invokestatic, ex_invokespecial, ex_invokevirtual, ex_checkcast, ex_instanceof, ex_anewarray, ex_newarray, ex_ireturn, ex_lreturn, ex_areturn, ex_return, br_d, br_n, br_t, br_f, spc, look, aI, aJ, aGet, aPut, aNew, aArr, aObj, aCall, aRecv, obj, arr, ald, ast, astL, isT, isBZ, atn, refEq, acV, List.getElem?_cons_zero, List.getElem?_cons_succ, List.set_cons_zero, List.set_cons_succ, List.take_succ_cons, List.take_zero, List.drop_succ_cons, List.drop_zero, List.reverse_cons, List.reverse_nil, List.nil_append, List.cons_append, List.map_cons, List.map_nil, List.sum_cons, List.sum_nil, List.length_cons, List.length_nil, Option.toList_some, Option.toList_none, List.append_nil, true_and, and_true, not_false_eq_true, decide_true, decide_false, Bool.not_true, Bool.not_false, if_true, if_false, reduceIte, Option.map_some, nar, defaultValue, List.replicate_zero, List.replicate_succ, ln0, ln1, ln2, ln3, ln4, ln5, ln6, ln7, ln8, ln9, ln10, ln11, ln12, ln13, ln14, ln15, ln16, ln17, ln18, ln19, ln20, ln21, ln22, ln23, ln24, ln25, ln26, ln27, ln28, ln29, ln30, ln31, ln32, ln33, ln34, ln35, ln36, aSta, aCast, aClone, aCopy]
  refine t1_78 hgo ?_
  refine res_of (u1_80 hgo) ?_
  simp only [eq_self, and_self, true_and, and_true, not_true_eq_false, not_false_eq_true, if_true, if_false, reduceIte, Option.bind_some, List.getElem?_cons_zero, List.getElem?_cons_succ, Nat.reduceAdd, Nat.reduceSub, Nat.reduceLT, Nat.reduceLeDiff, Nat.le_refl, Nat.zero_add, Nat.add_zero, List.length_cons, List.length_nil, Int32.reduceLT, Int32.reduceToNatClampNeg, Int32.reduceAdd, Int32.reduceSub, Int32.reduceMul, decide_true, ex_iaload, ald, pI_int, pR_ref, arr, isT, isBZ]
  refine t1_81 hgo ?_
  refine t1_82f hgo (nlt_of (by decide : (-100000000 : Int32).toInt = -100000000) hw (by omega)) ?_
  refine t1_85 hgo ?_
  refine t1_88 hgo ?_
  simp only [Int32.reduceAdd]
  exact h
set_option maxRecDepth 65536 in
set_option maxHeartbeats 8000000 in
theorem dx_8 {go : Nat → St → Option ORes} (hgo : go = orun prog_96_method_10_code (Option.some Jvm.ClassFile.FieldType.int) E1 1) {Cs B : List Value} {l0 l1 l2 l3 l4 l5 l6 l7 l10 l11 : Slot} {w : Int32} {M m cs ss : Nat} {q : Option ORes → Prop} (hw : w.toInt = -(M : Int)) (hM : M < 100000000) (h : Rsq (go (m) (91, [l0, l1, l2, l3, l4, l5, l6, l7, .val (.int w), .val (.int 8), l10, l11], [], [.inr (.int, [.int 1, .int 10, .int 100, .int 1000, .int 10000, .int 100000, .int 1000000, .int 10000000, .int 100000000, .int 1000000000]), .inr (.int, Cs), .inr (.byte, B)], cs, ss)) q) : Rsq (go (m + 9) (66, [l0, l1, l2, l3, l4, l5, l6, l7, .val (.int w), .val (.int 8), l10, l11], [], [.inr (.int, [.int 1, .int 10, .int 100, .int 1000, .int 10000, .int 100000, .int 1000000, .int 10000000, .int 100000000, .int 1000000000]), .inr (.int, Cs), .inr (.byte, B)], cs, ss)) q := by
  refine t1_66 hgo ?_
  refine t1_68 hgo ?_
  refine t1_70t hgo (by decide) ?_
  refine t1_73 hgo ?_
  refine res_of (u1_75 hgo) ?_
  simp only [nr_i, nr_j, nr_a, nr_o, nr_b, nr_b1, nr_b0, ft_i, ft_j, ft_a, ft_o, ft_b, ft_b1, ft_b0, rV_nil, b_1, b_0, b_1r, b_0r, b_bb, b_and, i_10, i_01, eq_self, iff_self, not_true_eq_false, not_false_eq_true, ite_not, cat_int, cat_long, cat_ref, cat_null, and11, and01, Nat.reduceAdd, Nat.reduceSub, Nat.reduceMul, Nat.reduceLT, Nat.reduceLeDiff, Nat.reduceEqDiff, Int32.reduceAdd, Int32.reduceSub, Int32.reduceMul, Int32.reduceMod, Int32.reduceLT, Int32.reduceLE, Int32.reduceToNatClampNeg, Int64.reduceAdd, Int64.reduceSub, Int64.reduceLT, Nat.le_refl, Nat.zero_add, Nat.add_zero, and_self, Option.bind_some, Option.bind_none, gI, gL, gA, st1, st2, pI_int, pL_long, pA_ref, pA_null, pR_ref, p1_int, p1_ref, p1_null, ex_ishl, ex_ishr, ex_iushr, ex_idiv, ex_irem, ex_ineg, ex_i2b, ex_i2c, ex_i2s, ex_i2l, ex_l2i, ex_lneg, ex_lshl, ex_lshr, ex_lushr, ex_ldiv, ex_lrem, ex_lcmp, ex_dup, ex_pop, ex_dup_x1, ex_dup2, ex_ifnull, ex_ifnonnull, ex_if_acmp, ex_arraylength, ex_iaload, ex_baload, ex_caload, ex_laload, ex_aaload, ex_iastore, ex_bastore, ex_castore, ex_lastore, ex_ldc, ex_ldc_w, ex_ldc2_w, ex_getfield, ex_putfield, ex_getstatic, ex_new, ex_invokestatic, ex_invokespecial, ex_invokevirtual, ex_checkcast, ex_instanceof, ex_anewarray, ex_newarray, ex_ireturn, ex_lreturn, ex_areturn, ex_return, br_d, br_n, br_t, br_f, spc, look, aI, aJ, aGet, aPut, aNew, aArr, aObj, aCall, aRecv, obj, arr, ald, ast, astL, isT, isBZ, atn, refEq, acV, List.getElem?_cons_zero, List.getElem?_cons_succ, List.set_cons_zero, List.set_cons_succ, List.take_succ_cons, List.take_zero, List.drop_succ_cons, List.drop_zero, List.reverse_cons, List.reverse_nil, List.nil_append, List.cons_append, List.map_cons, List.map_nil, List.sum_cons, List.sum_nil, List.length_cons, List.length_nil, Option.toList_some, Option.toList_none, List.append_nil, true_and, and_true, not_false_eq_true, decide_true, decide_false, Bool.not_true, Bool.not_false, if_true, if_false, reduceIte, Option.map_some, nar, defaultValue, List.replicate_zero, List.replicate_succ, ln0, ln1, ln2, ln3, ln4, ln5, ln6, ln7, ln8, ln9, ln10, ln11, ln12, ln13, ln14, ln15, ln16, ln17, ln18, ln19, ln20, ln21, ln22, ln23, ln24, ln25, ln26, ln27, ln28, ln29, ln30, ln31, ln32, ln33, ln34, ln35, ln36, aSta, aCast, aClone, aCopy]
  refine t1_78 hgo ?_
  refine res_of (u1_80 hgo) ?_
  simp only [eq_self, and_self, true_and, and_true, not_true_eq_false, not_false_eq_true, if_true, if_false, reduceIte, Option.bind_some, List.getElem?_cons_zero, List.getElem?_cons_succ, Nat.reduceAdd, Nat.reduceSub, Nat.reduceLT, Nat.reduceLeDiff, Nat.le_refl, Nat.zero_add, Nat.add_zero, List.length_cons, List.length_nil, Int32.reduceLT, Int32.reduceToNatClampNeg, Int32.reduceAdd, Int32.reduceSub, Int32.reduceMul, decide_true, ex_iaload, ald, pI_int, pR_ref, arr, isT, isBZ]
  refine t1_81 hgo ?_
  refine t1_82t hgo (lt_of (by decide : (-100000000 : Int32).toInt = -100000000) hw (by omega)) ?_
  exact h
set_option maxRecDepth 65536 in
set_option maxHeartbeats 8000000 in
theorem dl_9 {go : Nat → St → Option ORes} (hgo : go = orun prog_96_method_10_code (Option.some Jvm.ClassFile.FieldType.int) E1 1) {Cs B : List Value} {l0 l1 l2 l3 l4 l5 l6 l7 l10 l11 : Slot} {w : Int32} {M m cs ss : Nat} {q : Option ORes → Prop} (hw : w.toInt = -(M : Int)) (hM : 1000000000 ≤ M) (h : Rsq (go (m) (66, [l0, l1, l2, l3, l4, l5, l6, l7, .val (.int w), .val (.int 10), l10, l11], [], [.inr (.int, [.int 1, .int 10, .int 100, .int 1000, .int 10000, .int 100000, .int 1000000, .int 10000000, .int 100000000, .int 1000000000]), .inr (.int, Cs), .inr (.byte, B)], cs, ss)) q) : Rsq (go (m + 11) (66, [l0, l1, l2, l3, l4, l5, l6, l7, .val (.int w), .val (.int 9), l10, l11], [], [.inr (.int, [.int 1, .int 10, .int 100, .int 1000, .int 10000, .int 100000, .int 1000000, .int 10000000, .int 100000000, .int 1000000000]), .inr (.int, Cs), .inr (.byte, B)], cs, ss)) q := by
  refine t1_66 hgo ?_
  refine t1_68 hgo ?_
  refine t1_70t hgo (by decide) ?_
  refine t1_73 hgo ?_
  refine res_of (u1_75 hgo) ?_
  simp only [nr_i, nr_j, nr_a, nr_o, nr_b, nr_b1, nr_b0, ft_i, ft_j, ft_a, ft_o, ft_b, ft_b1, ft_b0, rV_nil, b_1, b_0, b_1r, b_0r, b_bb, b_and, i_10, i_01, eq_self, iff_self, not_true_eq_false, not_false_eq_true, ite_not, cat_int, cat_long, cat_ref, cat_null, and11, and01, Nat.reduceAdd, Nat.reduceSub, Nat.reduceMul, Nat.reduceLT, Nat.reduceLeDiff, Nat.reduceEqDiff, Int32.reduceAdd, Int32.reduceSub, Int32.reduceMul, Int32.reduceMod, Int32.reduceLT, Int32.reduceLE, Int32.reduceToNatClampNeg, Int64.reduceAdd, Int64.reduceSub, Int64.reduceLT, Nat.le_refl, Nat.zero_add, Nat.add_zero, and_self, Option.bind_some, Option.bind_none, gI, gL, gA, st1, st2, pI_int, pL_long, pA_ref, pA_null, pR_ref, p1_int, p1_ref, p1_null, ex_ishl, ex_ishr, ex_iushr, ex_idiv, ex_irem, ex_ineg, ex_i2b, ex_i2c, ex_i2s, ex_i2l, ex_l2i, ex_lneg, ex_lshl, ex_lshr, ex_lushr, ex_ldiv, ex_lrem, ex_lcmp, ex_dup, ex_pop, ex_dup_x1, ex_dup2, ex_ifnull, ex_ifnonnull, ex_if_acmp, ex_arraylength, ex_iaload, ex_baload, ex_caload, ex_laload, ex_aaload, ex_iastore, ex_bastore, ex_castore, ex_lastore, ex_ldc, ex_ldc_w, ex_ldc2_w, ex_getfield, ex_putfield, ex_getstatic, ex_new, ex_invokestatic, ex_invokespecial, ex_invokevirtual, ex_checkcast, ex_instanceof, ex_anewarray, ex_newarray, ex_ireturn, ex_lreturn, ex_areturn, ex_return, br_d, br_n, br_t, br_f, spc, look, aI, aJ, aGet, aPut, aNew, aArr, aObj, aCall, aRecv, obj, arr, ald, ast, astL, isT, isBZ, atn, refEq, acV, List.getElem?_cons_zero, List.getElem?_cons_succ, List.set_cons_zero, List.set_cons_succ, List.take_succ_cons, List.take_zero, List.drop_succ_cons, List.drop_zero, List.reverse_cons, List.reverse_nil, List.nil_append, List.cons_append, List.map_cons, List.map_nil, List.sum_cons, List.sum_nil, List.length_cons, List.length_nil, Option.toList_some, Option.toList_none, List.append_nil, true_and, and_true, not_false_eq_true, decide_true, decide_false, Bool.not_true, Bool.not_false, if_true, if_false, reduceIte, Option.map_some, nar, defaultValue, List.replicate_zero, List.replicate_succ, ln0, ln1, ln2, ln3, ln4, ln5, ln6, ln7, ln8, ln9, ln10, ln11, ln12, ln13, ln14, ln15, ln16, ln17, ln18, ln19, ln20, ln21, ln22, ln23, ln24, ln25, ln26, ln27, ln28, ln29, ln30, ln31, ln32, ln33, ln34, ln35, ln36, aSta, aCast, aClone, aCopy]
  refine t1_78 hgo ?_
  refine res_of (u1_80 hgo) ?_
  simp only [eq_self, and_self, true_and, and_true, not_true_eq_false, not_false_eq_true, if_true, if_false, reduceIte, Option.bind_some, List.getElem?_cons_zero, List.getElem?_cons_succ, Nat.reduceAdd, Nat.reduceSub, Nat.reduceLT, Nat.reduceLeDiff, Nat.le_refl, Nat.zero_add, Nat.add_zero, List.length_cons, List.length_nil, Int32.reduceLT, Int32.reduceToNatClampNeg, Int32.reduceAdd, Int32.reduceSub, Int32.reduceMul, decide_true, ex_iaload, ald, pI_int, pR_ref, arr, isT, isBZ]
  refine t1_81 hgo ?_
  refine t1_82f hgo (nlt_of (by decide : (-1000000000 : Int32).toInt = -1000000000) hw (by omega)) ?_
  refine t1_85 hgo ?_
  refine t1_88 hgo ?_
  simp only [Int32.reduceAdd]
  exact h
set_option maxRecDepth 65536 in
set_option maxHeartbeats 8000000 in
theorem dx_9 {go : Nat → St → Option ORes} (hgo : go = orun prog_96_method_10_code (Option.some Jvm.ClassFile.FieldType.int) E1 1) {Cs B : List Value} {l0 l1 l2 l3 l4 l5 l6 l7 l10 l11 : Slot} {w : Int32} {M m cs ss : Nat} {q : Option ORes → Prop} (hw : w.toInt = -(M : Int)) (hM : M < 1000000000) (h : Rsq (go (m) (91, [l0, l1, l2, l3, l4, l5, l6, l7, .val (.int w), .val (.int 9), l10, l11], [], [.inr (.int, [.int 1, .int 10, .int 100, .int 1000, .int 10000, .int 100000, .int 1000000, .int 10000000, .int 100000000, .int 1000000000]), .inr (.int, Cs), .inr (.byte, B)], cs, ss)) q) : Rsq (go (m + 9) (66, [l0, l1, l2, l3, l4, l5, l6, l7, .val (.int w), .val (.int 9), l10, l11], [], [.inr (.int, [.int 1, .int 10, .int 100, .int 1000, .int 10000, .int 100000, .int 1000000, .int 10000000, .int 100000000, .int 1000000000]), .inr (.int, Cs), .inr (.byte, B)], cs, ss)) q := by
  refine t1_66 hgo ?_
  refine t1_68 hgo ?_
  refine t1_70t hgo (by decide) ?_
  refine t1_73 hgo ?_
  refine res_of (u1_75 hgo) ?_
  simp only [nr_i, nr_j, nr_a, nr_o, nr_b, nr_b1, nr_b0, ft_i, ft_j, ft_a, ft_o, ft_b, ft_b1, ft_b0, rV_nil, b_1, b_0, b_1r, b_0r, b_bb, b_and, i_10, i_01, eq_self, iff_self, not_true_eq_false, not_false_eq_true, ite_not, cat_int, cat_long, cat_ref, cat_null, and11, and01, Nat.reduceAdd, Nat.reduceSub, Nat.reduceMul, Nat.reduceLT, Nat.reduceLeDiff, Nat.reduceEqDiff, Int32.reduceAdd, Int32.reduceSub, Int32.reduceMul, Int32.reduceMod, Int32.reduceLT, Int32.reduceLE, Int32.reduceToNatClampNeg, Int64.reduceAdd, Int64.reduceSub, Int64.reduceLT, Nat.le_refl, Nat.zero_add, Nat.add_zero, and_self, Option.bind_some, Option.bind_none, gI, gL, gA, st1, st2, pI_int, pL_long, pA_ref, pA_null, pR_ref, p1_int, p1_ref, p1_null, ex_ishl, ex_ishr, ex_iushr, ex_idiv, ex_irem, ex_ineg, ex_i2b, ex_i2c, ex_i2s, ex_i2l, ex_l2i, ex_lneg, ex_lshl, ex_lshr, ex_lushr, ex_ldiv, ex_lrem, ex_lcmp, ex_dup, ex_pop, ex_dup_x1, ex_dup2, ex_ifnull, ex_ifnonnull, ex_if_acmp, ex_arraylength, ex_iaload, ex_baload, ex_caload, ex_laload, ex_aaload, ex_iastore, ex_bastore, ex_castore, ex_lastore, ex_ldc, ex_ldc_w, ex_ldc2_w, ex_getfield, ex_putfield, ex_getstatic, ex_new, ex_invokestatic, ex_invokespecial, ex_invokevirtual, ex_checkcast, ex_instanceof, ex_anewarray, ex_newarray, ex_ireturn, ex_lreturn, ex_areturn, ex_return, br_d, br_n, br_t, br_f, spc, look, aI, aJ, aGet, aPut, aNew, aArr, aObj, aCall, aRecv, obj, arr, ald, ast, astL, isT, isBZ, atn, refEq, acV, List.getElem?_cons_zero, List.getElem?_cons_succ, List.set_cons_zero, List.set_cons_succ, List.take_succ_cons, List.take_zero, List.drop_succ_cons, List.drop_zero, List.reverse_cons, List.reverse_nil, List.nil_append, List.cons_append, List.map_cons, List.map_nil, List.sum_cons, List.sum_nil, List.length_cons, List.length_nil, Option.toList_some, Option.toList_none, List.append_nil, true_and, and_true, not_false_eq_true, decide_true, decide_false, Bool.not_true, Bool.not_false, if_true, if_false, reduceIte, Option.map_some, nar, defaultValue, List.replicate_zero, List.replicate_succ, ln0, ln1, ln2, ln3, ln4, ln5, ln6, ln7, ln8, ln9, ln10, ln11, ln12, ln13, ln14, ln15, ln16, ln17, ln18, ln19, ln20, ln21, ln22, ln23, ln24, ln25, ln26, ln27, ln28, ln29, ln30, ln31, ln32, ln33, ln34, ln35, ln36, aSta, aCast, aClone, aCopy]
  refine t1_78 hgo ?_
  refine res_of (u1_80 hgo) ?_
  simp only [eq_self, and_self, true_and, and_true, not_true_eq_false, not_false_eq_true, if_true, if_false, reduceIte, Option.bind_some, List.getElem?_cons_zero, List.getElem?_cons_succ, Nat.reduceAdd, Nat.reduceSub, Nat.reduceLT, Nat.reduceLeDiff, Nat.le_refl, Nat.zero_add, Nat.add_zero, List.length_cons, List.length_nil, Int32.reduceLT, Int32.reduceToNatClampNeg, Int32.reduceAdd, Int32.reduceSub, Int32.reduceMul, decide_true, ex_iaload, ald, pI_int, pR_ref, arr, isT, isBZ]
  refine t1_81 hgo ?_
  refine t1_82t hgo (lt_of (by decide : (-1000000000 : Int32).toInt = -1000000000) hw (by omega)) ?_
  exact h
set_option maxRecDepth 65536 in
set_option maxHeartbeats 8000000 in
theorem dx_10 {go : Nat → St → Option ORes} (hgo : go = orun prog_96_method_10_code (Option.some Jvm.ClassFile.FieldType.int) E1 1) {Cs B : List Value} {l0 l1 l2 l3 l4 l5 l6 l7 l10 l11 : Slot} {w : Int32} {M m cs ss : Nat} {q : Option ORes → Prop} (hw : w.toInt = -(M : Int)) (h : Rsq (go (m) (91, [l0, l1, l2, l3, l4, l5, l6, l7, .val (.int w), .val (.int 10), l10, l11], [], [.inr (.int, [.int 1, .int 10, .int 100, .int 1000, .int 10000, .int 100000, .int 1000000, .int 10000000, .int 100000000, .int 1000000000]), .inr (.int, Cs), .inr (.byte, B)], cs, ss)) q) : Rsq (go (m + 3) (66, [l0, l1, l2, l3, l4, l5, l6, l7, .val (.int w), .val (.int 10), l10, l11], [], [.inr (.int, [.int 1, .int 10, .int 100, .int 1000, .int 10000, .int 100000, .int 1000000, .int 10000000, .int 100000000, .int 1000000000]), .inr (.int, Cs), .inr (.byte, B)], cs, ss)) q := by
  refine t1_66 hgo ?_
  refine t1_68 hgo ?_
  refine t1_70f hgo (by decide) ?_
  exact h
set_option maxRecDepth 65536 in
set_option maxHeartbeats 8000000 in
theorem dig {go : Nat → St → Option ORes} (hgo : go = orun prog_96_method_10_code (Option.some Jvm.ClassFile.FieldType.int) E1 1) {Cs B : List Value} {l0 l1 l2 l3 l4 l5 l6 l7 l10 l11 : Slot} {w : Int32} {M cs ss : Nat} {q : Option ORes → Prop} (hw : w.toInt = -(M : Int)) (N : Nat) (hN : 200 ≤ N) (h : ∀ N', N ≤ N' + 200 → Rsq (go (N') (91, [l0, l1, l2, l3, l4, l5, l6, l7, .val (.int w), .val (.int (Int32.ofNat (dn M))), l10, l11], [], [.inr (.int, [.int 1, .int 10, .int 100, .int 1000, .int 10000, .int 100000, .int 1000000, .int 10000000, .int 100000000, .int 1000000000]), .inr (.int, Cs), .inr (.byte, B)], cs, ss)) q) : Rsq (go (N) (66, [l0, l1, l2, l3, l4, l5, l6, l7, .val (.int w), .val (.int 1), l10, l11], [], [.inr (.int, [.int 1, .int 10, .int 100, .int 1000, .int 10000, .int 100000, .int 1000000, .int 10000000, .int 100000000, .int 1000000000]), .inr (.int, Cs), .inr (.byte, B)], cs, ss)) q := by
  obtain ⟨m, rfl⟩ : ∃ m, N = m + 200 := ⟨N - 200, by omega⟩
  by_cases h1 : M < 10
  · have e : dn M = 1 := by unfold dn; (repeat' split); all_goals omega
    rw [e] at h
    exact dx_1 hgo (m := m + 191) hw h1 (h _ (by omega))
  refine dl_1 hgo (m := m + 189) hw (by omega) ?_
  by_cases h2 : M < 100
  · have e : dn M = 2 := by unfold dn; (repeat' split); all_goals omega
    rw [e] at h
    exact dx_2 hgo (m := m + 180) hw h2 (h _ (by omega))
  refine dl_2 hgo (m := m + 178) hw (by omega) ?_
  by_cases h3 : M < 1000
  · have e : dn M = 3 := by unfold dn; (repeat' split); all_goals omega
    rw [e] at h
    exact dx_3 hgo (m := m + 169) hw h3 (h _ (by omega))
  refine dl_3 hgo (m := m + 167) hw (by omega) ?_
  by_cases h4 : M < 10000
  · have e : dn M = 4 := by unfold dn; (repeat' split); all_goals omega
    rw [e] at h
    exact dx_4 hgo (m := m + 158) hw h4 (h _ (by omega))
  refine dl_4 hgo (m := m + 156) hw (by omega) ?_
  by_cases h5 : M < 100000
  · have e : dn M = 5 := by unfold dn; (repeat' split); all_goals omega
    rw [e] at h
    exact dx_5 hgo (m := m + 147) hw h5 (h _ (by omega))
  refine dl_5 hgo (m := m + 145) hw (by omega) ?_
  by_cases h6 : M < 1000000
  · have e : dn M = 6 := by unfold dn; (repeat' split); all_goals omega
    rw [e] at h
    exact dx_6 hgo (m := m + 136) hw h6 (h _ (by omega))
  refine dl_6 hgo (m := m + 134) hw (by omega) ?_
  by_cases h7 : M < 10000000
  · have e : dn M = 7 := by unfold dn; (repeat' split); all_goals omega
    rw [e] at h
    exact dx_7 hgo (m := m + 125) hw h7 (h _ (by omega))
  refine dl_7 hgo (m := m + 123) hw (by omega) ?_
  by_cases h8 : M < 100000000
  · have e : dn M = 8 := by unfold dn; (repeat' split); all_goals omega
    rw [e] at h
    exact dx_8 hgo (m := m + 114) hw h8 (h _ (by omega))
  refine dl_8 hgo (m := m + 112) hw (by omega) ?_
  by_cases h9 : M < 1000000000
  · have e : dn M = 9 := by unfold dn; (repeat' split); all_goals omega
    rw [e] at h
    exact dx_9 hgo (m := m + 103) hw h9 (h _ (by omega))
  refine dl_9 hgo (m := m + 101) hw (by omega) ?_
  have e : dn M = 10 := by unfold dn; (repeat' split); all_goals omega
  rw [e] at h
  exact dx_10 hgo (m := m + 98) hw (h _ (by omega))
def Wrote (B B' : List Value) (p : Nat) (v : Int32) : Prop := B'.length = 32 ∧ (∀ k, k < p ∨ p + tl v ≤ k → B'[k]? = B[k]?) ∧ ∀ k, k < tl v → ∃ x : Int32, B'[p + k]? = some (Value.int x) ∧ x.toInt = chv v k
set_option maxRecDepth 65536 in
set_option maxHeartbeats 8000000 in
theorem comp {go : Nat → St → Option ORes} (hgo : go = orun prog_96_method_10_code (Option.some Jvm.ClassFile.FieldType.int) E1 1) {Cs B : List Value} {l1 l2 l4 l7 l8 l9 l10 l11 : Slot} {pos i v : Int32} {p j N cs ss : Nat} {q : Option ORes → Prop} (s7 : so l7 = true) (s8 : so l8 = true) (s9 : so l9 = true) (s10 : so l10 = true) (s11 : so l11 = true) (hi : i.toInt = (j : Int)) (hv : Cs[j]? = some (Value.int v)) (hB : B.length = 32) (hpos : pos.toInt = (p : Int)) (hp : p ≤ 20) (hN : 700 ≤ N) (h : ∀ (N' : Nat) (B' : List Value) (pos' : Int32) (l7 l8 l9 l10 l11 : Slot), N ≤ N' + 700 → pos'.toInt = (p : Int) + (tl v : Int) → Wrote B B' p v → so l7 = true → so l8 = true → so l9 = true → so l10 = true → so l11 = true → Rsq (go (N') (7, [.val (.ref 1), l1, l2, .val (.ref 2), l4, .val (.int pos'), .val (.int (i + 1)), l7, l8, l9, l10, l11], [], [.inr (.int, [.int 1, .int 10, .int 100, .int 1000, .int 10000, .int 100000, .int 1000000, .int 10000000, .int 100000000, .int 1000000000]), .inr (.int, Cs), .inr (.byte, B')], cs, ss)) q) : Rsq (go (N) (28, [.val (.ref 1), l1, l2, .val (.ref 2), l4, .val (.int pos), .val (.int i), l7, l8, l9, l10, l11], [], [.inr (.int, [.int 1, .int 10, .int 100, .int 1000, .int 10000, .int 100000, .int 1000000, .int 10000000, .int 100000000, .int 1000000000]), .inr (.int, Cs), .inr (.byte, B)], cs, ss)) q := by
  obtain ⟨i1, i2⟩ := own_ix hi
  obtain ⟨p1, p2⟩ := own_ix hpos
  have hd := dn_le (mg v)
  have hml := mg_lt v
  have e0 : (0 : Int32).toInt = 0 := by decide
  have e1 : (1 : Int32).toInt = 1 := by decide
  have e45 : (45 : Int32).toInt = 45 := by decide
  have hdd := ofn (k := dn (mg v)) (by omega)
  have hrv := rng32 v
  have h20 : p < 32 := by omega
  by_cases hneg : v.toInt < 0
  · have hmg : v.toInt = -(mg v : Int) := by unfold mg; omega
    have htl : tl v = 1 + dn (mg v) := by unfold tl ng; rw [if_pos hneg]
    obtain ⟨m, rfl⟩ : ∃ m, N = m + 200 + 18 := ⟨N - 200 - 18, by omega⟩
    refine t1_28 hgo rfl ?_
    refine t1_29 hgo ?_
    refine res_of (u1_31 hgo) ?_
    simp only [eq_self, and_self, true_and, and_true, not_true_eq_false, not_false_eq_true, if_true, if_false, reduceIte, Option.bind_some, List.getElem?_cons_zero, List.getElem?_cons_succ, Nat.reduceAdd, Nat.reduceSub, Nat.reduceLT, Nat.reduceLeDiff, Nat.le_refl, Nat.zero_add, Nat.add_zero, List.length_cons, List.length_nil, Int32.reduceLT, Int32.reduceToNatClampNeg, Int32.reduceAdd, Int32.reduceSub, Int32.reduceMul, decide_true, ex_iaload, ald, pI_int, pR_ref, arr, isT, isBZ, i1, i2, hv, p1, p2, hB, h20]
    refine t1_32 hgo (by first | rfl | assumption) ?_
    refine t1_34 hgo ?_
    refine t1_36t hgo (lt_of rfl e0 hneg) ?_
    refine t1_39 hgo rfl ?_
    refine t1_40 hgo ?_
    refine t1_42 hgo ?_
    refine t1_45 hgo ?_
    refine res_of (u1_47 hgo) ?_
    simp only [eq_self, and_self, true_and, and_true, not_true_eq_false, not_false_eq_true, if_true, if_false, reduceIte, Option.bind_some, List.getElem?_cons_zero, List.getElem?_cons_succ, Nat.reduceAdd, Nat.reduceSub, Nat.reduceLT, Nat.reduceLeDiff, Nat.le_refl, Nat.zero_add, Nat.add_zero, List.length_cons, List.length_nil, Int32.reduceLT, Int32.reduceToNatClampNeg, Int32.reduceAdd, Int32.reduceSub, Int32.reduceMul, decide_true, ex_bastore, ast, astL, pI_int, pL_long, pR_ref, arr, isT, isBZ, nar, List.set_cons_zero, List.set_cons_succ, i1, i2, hv, p1, p2, hB, h20]
    refine t1_48 hgo ?_
    refine t1_50t hgo (lt_of rfl e0 hneg) ?_
    refine t1_53 hgo ?_
    refine t1_55 hgo ?_
    refine t1_61 hgo (by first | rfl | assumption) ?_
    refine t1_63 hgo ?_
    refine t1_64 hgo (by first | rfl | assumption) ?_
    have hp1 := own_add hpos e1 (by omega)
    refine dig hgo hmg (m + 200) (by omega) (fun N' hN' => ?_)
    obtain ⟨m', rfl⟩ : ∃ m', N' = m' + 10 := ⟨N' - 10, by omega⟩
    refine t1_91 hgo ?_
    refine t1_93 hgo ?_
    refine t1_95 hgo ?_
    refine t1_96 hgo (by first | rfl | assumption) ?_
    refine t1_98 hgo ?_
    refine t1_100 hgo (by first | rfl | assumption) ?_
    refine t1_102 hgo ?_
    refine t1_104 hgo ?_
    refine t1_105 hgo ?_
    refine t1_106 hgo (by first | rfl | assumption) ?_
    have he := own_add hp1 hdd (by omega)
    have hid := own_sub he e1 (by omega)
    have hl1 : (B.set p (.int ((45 : Int32).toInt8.toInt32))).length = 32 := by rw [List.length_set]; exact hB
    refine wr hgo (p := p + 1) (d := dn (mg v)) (by rw [he]; omega) hdd (by omega) (dn (mg v)) m' _ (mg v) _ _ (Nat.le_refl _) hl1 hmg hml (by rw [hid]; omega) (by omega) ?_
    intro N2 B' l10 l11 hN2 hlen hout hin s10 s11
    obtain ⟨m2, rfl⟩ : ∃ m2, N2 = m2 + 2 := ⟨N2 - 2, by omega⟩
    refine t1_144 hgo ?_
    refine t1_147 hgo ?_
    refine h m2 B' _ _ _ _ _ _ (by omega) (by rw [he, htl]; omega) ⟨hlen, fun k hk => ?_, fun k hk => ?_⟩ rfl rfl rfl s10 s11
    · rw [hout k (own_or2 hk htl), List.getElem?_set_ne (own_ne2 hk htl)]
    · by_cases hk0 : k = 0
      · subst hk0
        refine ⟨_, (hout (p + 0) (Or.inl (Nat.lt_succ_self _))).trans (List.getElem?_set_self (by rw [hB]; exact h20)), ?_⟩
        unfold chv; rw [if_pos ⟨hneg, rfl⟩]; decide
      · obtain ⟨x, x1, x2⟩ := hin (k - 1) (by omega)
        refine ⟨x, ?_, ?_⟩
        · rw [show p + k = p + 1 + (k - 1) by omega]; exact x1
        · rw [x2]; unfold chv; rw [if_neg (fun q => hk0 q.2), htl, show dn (mg v) - 1 - (k - 1) = 1 + dn (mg v) - 1 - k by omega]
  · have hmg : (-v).toInt = -(mg v : Int) := by
      have := c_ineg v
      have := rng32 (-v)
      unfold mg; omega
    have htl : tl v = dn (mg v) := by unfold tl ng; rw [if_neg hneg, Nat.zero_add]
    obtain ⟨m, rfl⟩ : ∃ m, N = m + 200 + 13 := ⟨N - 200 - 13, by omega⟩
    refine t1_28 hgo rfl ?_
    refine t1_29 hgo ?_
    refine res_of (u1_31 hgo) ?_
    simp only [eq_self, and_self, true_and, and_true, not_true_eq_false, not_false_eq_true, if_true, if_false, reduceIte, Option.bind_some, List.getElem?_cons_zero, List.getElem?_cons_succ, Nat.reduceAdd, Nat.reduceSub, Nat.reduceLT, Nat.reduceLeDiff, Nat.le_refl, Nat.zero_add, Nat.add_zero, List.length_cons, List.length_nil, Int32.reduceLT, Int32.reduceToNatClampNeg, Int32.reduceAdd, Int32.reduceSub, Int32.reduceMul, decide_true, ex_iaload, ald, pI_int, pR_ref, arr, isT, isBZ, i1, i2, hv]
    refine t1_32 hgo (by first | rfl | assumption) ?_
    refine t1_34 hgo ?_
    refine t1_36f hgo (nlt_of rfl e0 hneg) ?_
    refine t1_48 hgo ?_
    refine t1_50f hgo (nlt_of rfl e0 hneg) ?_
    refine t1_58 hgo ?_
    refine t1_60 hgo ?_
    refine t1_61 hgo (by first | rfl | assumption) ?_
    refine t1_63 hgo ?_
    refine t1_64 hgo (by first | rfl | assumption) ?_
    refine dig hgo hmg (m + 200) (by omega) (fun N' hN' => ?_)
    obtain ⟨m', rfl⟩ : ∃ m', N' = m' + 10 := ⟨N' - 10, by omega⟩
    refine t1_91 hgo ?_
    refine t1_93 hgo ?_
    refine t1_95 hgo ?_
    refine t1_96 hgo (by first | rfl | assumption) ?_
    refine t1_98 hgo ?_
    refine t1_100 hgo (by first | rfl | assumption) ?_
    refine t1_102 hgo ?_
    refine t1_104 hgo ?_
    refine t1_105 hgo ?_
    refine t1_106 hgo (by first | rfl | assumption) ?_
    have he := own_add hpos hdd (by omega)
    have hid := own_sub he e1 (by omega)
    refine wr hgo (p := p) (d := dn (mg v)) (by rw [he]) hdd (by omega) (dn (mg v)) m' _ (mg v) _ _ (Nat.le_refl _) hB hmg hml (by rw [hid]) (by omega) ?_
    intro N2 B' l10 l11 hN2 hlen hout hin s10 s11
    obtain ⟨m2, rfl⟩ : ∃ m2, N2 = m2 + 2 := ⟨N2 - 2, by omega⟩
    refine t1_144 hgo ?_
    refine t1_147 hgo ?_
    refine h m2 B' _ _ _ _ _ _ (by omega) (by rw [he, htl]) ⟨hlen, fun k hk => ?_, fun k hk => ?_⟩ rfl rfl rfl s10 s11
    · rw [htl] at hk
      exact hout k hk
    · obtain ⟨x, x1, x2⟩ := hin k (by omega)
      refine ⟨x, x1, ?_⟩
      rw [x2]; unfold chv; rw [if_neg (fun q => hneg q.1), htl]
set_option maxRecDepth 65536 in
set_option maxHeartbeats 8000000 in
theorem F1_0 {Cs B : List Value} {fr to at' : Int32} {f p : Nat} (hfr : fr.toInt = (f : Int)) (hat : at'.toInt = (p : Int)) (hf : f ≤ 1) (hp : p ≤ 3) (hB : B.length = 32) (hto : to.toInt = (f : Int)) : F1 [.ref 1, .int fr, .int to, .ref 2, .int at'] [.inr (.int, [.int 1, .int 10, .int 100, .int 1000, .int 10000, .int 100000, .int 1000000, .int 10000000, .int 100000000, .int 1000000000]), .inr (.int, Cs), .inr (.byte, B)] = some (some (.int at'), [.inr (.int, [.int 1, .int 10, .int 100, .int 1000, .int 10000, .int 100000, .int 1000000, .int 10000000, .int 100000000, .int 1000000000]), .inr (.int, Cs), .inr (.byte, B)]) := by
  refine is_of f1_in fun go hgo => ?_
  refine t1_0 hgo ?_
  refine t1_2 hgo rfl ?_
  refine t1_4 hgo ?_
  refine t1_5 hgo rfl ?_
  refine t1_7 hgo ?_
  refine t1_9 hgo ?_
  refine t1_10f hgo (nlt_of hfr hto (by omega)) ?_
  refine t1_150 hgo ?_
  refine t1_152 hgo ?_
  exact is_r
set_option maxRecDepth 65536 in
set_option maxHeartbeats 8000000 in
theorem F1_1 {Cs B : List Value} {fr to at' : Int32} {f p : Nat} (hfr : fr.toInt = (f : Int)) (hat : at'.toInt = (p : Int)) (hf : f ≤ 1) (hp : p ≤ 3) (hB : B.length = 32) {v : Int32} (hto : to.toInt = (f : Int) + 1) (hv : Cs[f]? = some (Value.int v)) : ∃ (B' : List Value) (e : Int32), F1 [.ref 1, .int fr, .int to, .ref 2, .int at'] [.inr (.int, [.int 1, .int 10, .int 100, .int 1000, .int 10000, .int 100000, .int 1000000, .int 10000000, .int 100000000, .int 1000000000]), .inr (.int, Cs), .inr (.byte, B)] = some (some (.int e), [.inr (.int, [.int 1, .int 10, .int 100, .int 1000, .int 10000, .int 100000, .int 1000000, .int 10000000, .int 100000000, .int 1000000000]), .inr (.int, Cs), .inr (.byte, B')]) ∧ e.toInt = (p : Int) + (tl v : Int) ∧ Wrote B B' p v := by
  have e1 : (1 : Int32).toInt = 1 := by decide
  refine rsq_of (q := fun r => ∃ (B' : List Value) (e : Int32), r = some (some (.int e), [.inr (.int, [.int 1, .int 10, .int 100, .int 1000, .int 10000, .int 100000, .int 1000000, .int 10000000, .int 100000000, .int 1000000000]), .inr (.int, Cs), .inr (.byte, B')]) ∧ e.toInt = (p : Int) + (tl v : Int) ∧ Wrote B B' p v) f1_in fun go hgo => ?_
  refine t1_0 hgo ?_
  refine t1_2 hgo rfl ?_
  refine t1_4 hgo ?_
  refine t1_5 hgo rfl ?_
  refine t1_7 hgo ?_
  refine t1_9 hgo ?_
  refine t1_10t hgo (lt_of hfr hto (by omega)) ?_
  refine t1_13 hgo ?_
  refine t1_15 hgo ?_
  refine t1_16f hgo (nlt_of rfl rfl (by omega)) ?_
  refine comp hgo rfl rfl rfl rfl rfl hfr hv hB hat (by omega) (by decide) ?_
  intro N' B' pos' l7 l8 l9 l10 l11 hN' hpos' hW s7 s8 s9 s10 s11
  obtain ⟨m, rfl⟩ : ∃ m, N' = m + 5 := ⟨N' - 5, by omega⟩
  refine t1_7 hgo ?_
  refine t1_9 hgo ?_
  refine t1_10f hgo (nlt_of (own_add hfr e1 (by omega)) hto (by omega)) ?_
  refine t1_150 hgo ?_
  refine t1_152 hgo ?_
  exact ⟨B', pos', rfl, hpos', hW⟩
set_option maxRecDepth 65536 in
set_option maxHeartbeats 8000000 in
theorem F1_2 {Cs B : List Value} {fr to at' : Int32} {f p : Nat} (hfr : fr.toInt = (f : Int)) (hat : at'.toInt = (p : Int)) (hf : f ≤ 1) (hp : p ≤ 3) (hB : B.length = 32) {v u : Int32} (hto : to.toInt = (f : Int) + 2) (hv : Cs[f]? = some (Value.int v)) (hu : Cs[f + 1]? = some (Value.int u)) : ∃ (B1 B' : List Value) (e : Int32), F1 [.ref 1, .int fr, .int to, .ref 2, .int at'] [.inr (.int, [.int 1, .int 10, .int 100, .int 1000, .int 10000, .int 100000, .int 1000000, .int 10000000, .int 100000000, .int 1000000000]), .inr (.int, Cs), .inr (.byte, B)] = some (some (.int e), [.inr (.int, [.int 1, .int 10, .int 100, .int 1000, .int 10000, .int 100000, .int 1000000, .int 10000000, .int 100000000, .int 1000000000]), .inr (.int, Cs), .inr (.byte, B')]) ∧ e.toInt = (p : Int) + (tl v : Int) + 1 + (tl u : Int) ∧ Wrote B B1 p v ∧ Wrote (B1.set (p + tl v) (.int ((46 : Int32).toInt8.toInt32))) B' (p + tl v + 1) u := by
  have e1 : (1 : Int32).toInt = 1 := by decide
  have hd := dn_le (mg v)
  have htv : tl v ≤ 11 := by unfold tl ng; split <;> omega
  refine rsq_of (q := fun r => ∃ (B1 B' : List Value) (e : Int32), r = some (some (.int e), [.inr (.int, [.int 1, .int 10, .int 100, .int 1000, .int 10000, .int 100000, .int 1000000, .int 10000000, .int 100000000, .int 1000000000]), .inr (.int, Cs), .inr (.byte, B')]) ∧ e.toInt = (p : Int) + (tl v : Int) + 1 + (tl u : Int) ∧ Wrote B B1 p v ∧ Wrote (B1.set (p + tl v) (.int ((46 : Int32).toInt8.toInt32))) B' (p + tl v + 1) u) f1_in fun go hgo => ?_
  refine t1_0 hgo ?_
  refine t1_2 hgo rfl ?_
  refine t1_4 hgo ?_
  refine t1_5 hgo rfl ?_
  refine t1_7 hgo ?_
  refine t1_9 hgo ?_
  refine t1_10t hgo (lt_of hfr hto (by omega)) ?_
  refine t1_13 hgo ?_
  refine t1_15 hgo ?_
  refine t1_16f hgo (nlt_of rfl rfl (by omega)) ?_
  refine comp hgo rfl rfl rfl rfl rfl hfr hv hB hat (by omega) (by decide) ?_
  intro N' B1 pos' l7 l8 l9 l10 l11 hN' hpos' hW s7 s8 s9 s10 s11
  obtain ⟨m, rfl⟩ : ∃ m, N' = m + 11 := ⟨N' - 11, by omega⟩
  obtain ⟨p1, p2⟩ := own_ix (a := p + tl v) (by rw [hpos']; omega)
  have hf1 := own_add hfr e1 (by omega)
  have hB1 := hW.1
  have h32 : p + tl v < 32 := by omega
  refine t1_7 hgo ?_
  refine t1_9 hgo ?_
  refine t1_10t hgo (lt_of hf1 hto (by omega)) ?_
  refine t1_13 hgo ?_
  refine t1_15 hgo ?_
  refine t1_16t hgo (lt_of hfr hf1 (by omega)) ?_
  refine t1_19 hgo rfl ?_
  refine t1_20 hgo ?_
  refine t1_22 hgo ?_
  refine t1_25 hgo ?_
  refine res_of (u1_27 hgo) ?_
  simp only [eq_self, and_self, true_and, and_true, not_true_eq_false, not_false_eq_true, if_true, if_false, reduceIte, Option.bind_some, List.getElem?_cons_zero, List.getElem?_cons_succ, Nat.reduceAdd, Nat.reduceSub, Nat.reduceLT, Nat.reduceLeDiff, Nat.le_refl, Nat.zero_add, Nat.add_zero, List.length_cons, List.length_nil, Int32.reduceLT, Int32.reduceToNatClampNeg, Int32.reduceAdd, Int32.reduceSub, Int32.reduceMul, decide_true, ex_bastore, ast, astL, pI_int, pL_long, pR_ref, arr, isT, isBZ, nar, List.set_cons_zero, List.set_cons_succ, p1, p2, hB1, h32]
  have hpp := own_add hpos' e1 (by omega)
  refine comp hgo s7 s8 s9 s10 s11 (j := f + 1) (p := p + tl v + 1) (by rw [hf1]; omega) hu (by rw [List.length_set]; exact hB1) (by rw [hpp]; omega) (by omega) (by omega) ?_
  intro N2 B' pos2 l7 l8 l9 l10 l11 hN2 hpos2 hW2 s7 s8 s9 s10 s11
  obtain ⟨m2, rfl⟩ : ∃ m2, N2 = m2 + 5 := ⟨N2 - 5, by omega⟩
  have hf2 := own_add hf1 e1 (by omega)
  refine t1_7 hgo ?_
  refine t1_9 hgo ?_
  refine t1_10f hgo (nlt_of hf2 hto (by omega)) ?_
  refine t1_150 hgo ?_
  refine t1_152 hgo ?_
  exact ⟨B1, B', pos2, rfl, by rw [hpos2]; omega, hW, hW2⟩
theorem own_z {k : Nat} (h : k < 32) : ([.int 0, .int 0, .int 0, .int 0, .int 0, .int 0, .int 0, .int 0, .int 0, .int 0, .int 0, .int 0, .int 0, .int 0, .int 0, .int 0, .int 0, .int 0, .int 0, .int 0, .int 0, .int 0, .int 0, .int 0, .int 0, .int 0, .int 0, .int 0, .int 0, .int 0, .int 0, .int 0] : List Value)[k]? = some (Value.int 0) := by
  have e : ([.int 0, .int 0, .int 0, .int 0, .int 0, .int 0, .int 0, .int 0, .int 0, .int 0, .int 0, .int 0, .int 0, .int 0, .int 0, .int 0, .int 0, .int 0, .int 0, .int 0, .int 0, .int 0, .int 0, .int 0, .int 0, .int 0, .int 0, .int 0, .int 0, .int 0, .int 0, .int 0] : List Value) = List.replicate 32 (.int 0) := rfl
  rw [e, List.getElem?_replicate, if_pos h]
theorem own_3 (x : Int32) : ∃ (f c a : Nat), f ≤ 1 ∧ c ≤ 2 ∧ a ≤ 3 ∧ (x &&& 1).toInt = (f : Int) ∧ ((x.toUInt32 >>> ((1 : Int32) &&& 31).toUInt32).toInt32 % 3).toInt = (c : Int) ∧ ((x.toUInt32 >>> ((3 : Int32) &&& 31).toUInt32).toInt32 &&& 3).toInt = (a : Int) := by
  have h1 := c_mask x 1 1 (by decide) (by decide)
  have h2 := c_iushr x 1 1 (by decide) (by decide)
  have h3 := (c_irem ((x.toUInt32 >>> ((1 : Int32) &&& 31).toUInt32).toInt32) 3 3 (by decide)).1 (by rw [h2]; omega)
  have h4 := c_mask ((x.toUInt32 >>> ((3 : Int32) &&& 31).toUInt32).toInt32) 3 2 (by decide) (by decide)
  refine ⟨(x &&& 1).toInt.toNat, ((x.toUInt32 >>> ((1 : Int32) &&& 31).toUInt32).toInt32 % 3).toInt.toNat, ((x.toUInt32 >>> ((3 : Int32) &&& 31).toUInt32).toInt32 &&& 3).toInt.toNat, ?_, ?_, ?_, ?_, ?_, ?_⟩ <;> omega
theorem own_cs {v0 v1 v2 : Int32} (k : Nat) (h : k < 3) : ∃ v : Int32, ([.int v0, .int v1, .int v2] : List Value)[k]? = some (Value.int v) := by
  match k, h with
  | 0, _ => exact ⟨_, rfl⟩
  | 1, _ => exact ⟨_, rfl⟩
  | 2, _ => exact ⟨_, rfl⟩
  | k + 3, h => exact absurd h (by omega)
set_option maxRecDepth 65536 in
set_option maxHeartbeats 8000000 in
theorem tail {go : Nat → St → Option ORes} (hgo : go = orun code ret E0 1) {v0 v1 v2 fr ct to at' : Int32} {f c a N : Nat} {l0 l1 l2 l3 : Slot} (hf : f ≤ 1) (hc : c ≤ 2) (ha : a ≤ 3) (hfr : fr.toInt = (f : Int)) (hct : ct.toInt = (c : Int)) (hto : to.toInt = (f : Int) + (c : Int)) (hat : at'.toInt = (a : Int)) (hN : 400 ≤ N) : Rsq (go N (49, [l0, l1, l2, l3, .val (.ref 1), .val (.int fr), .val (.int ct), .val (.int to), .val (.int at'), .val (.ref 2), .unset, .unset, .unset, .unset], [], [.inr (.int, [.int 1, .int 10, .int 100, .int 1000, .int 10000, .int 100000, .int 1000000, .int 10000000, .int 100000000, .int 1000000000]), .inr (.int, [.int v0, .int v1, .int v2]), .inr (.byte, [.int 0, .int 0, .int 0, .int 0, .int 0, .int 0, .int 0, .int 0, .int 0, .int 0, .int 0, .int 0, .int 0, .int 0, .int 0, .int 0, .int 0, .int 0, .int 0, .int 0, .int 0, .int 0, .int 0, .int 0, .int 0, .int 0, .int 0, .int 0, .int 0, .int 0, .int 0, .int 0])], 2, 35)) OneI := by
  have e0 : (0 : Int32).toInt = 0 := by decide
  have e1 : (1 : Int32).toInt = 1 := by decide
  have e2 : (2 : Int32).toInt = 2 := by decide
  have h32 : ([.int 0, .int 0, .int 0, .int 0, .int 0, .int 0, .int 0, .int 0, .int 0, .int 0, .int 0, .int 0, .int 0, .int 0, .int 0, .int 0, .int 0, .int 0, .int 0, .int 0, .int 0, .int 0, .int 0, .int 0, .int 0, .int 0, .int 0, .int 0, .int 0, .int 0, .int 0, .int 0] : List Value).length = 32 := rfl
  obtain ⟨ia, ib⟩ := own_ix hat
  obtain ⟨if1, if2⟩ := own_ix hfr
  obtain ⟨m, rfl⟩ : ∃ m, N = m + 400 := ⟨N - 400, by omega⟩
  obtain ⟨v, hv⟩ := own_cs (v0 := v0) (v1 := v1) (v2 := v2) f (by omega)
  obtain ⟨u, hu⟩ := own_cs (v0 := v0) (v1 := v1) (v2 := v2) (f + 1) (by omega)
  have hdv := dn_le (mg v)
  have hdu := dn_le (mg u)
  have htv : tl v ≤ 11 := by unfold tl ng; split <;> omega
  have htu : tl u ≤ 11 := by unfold tl ng; split <;> omega
  rcases (by omega : c = 0 ∨ c = 1 ∨ c = 2) with rfl | rfl | rfl
  · have g := F1_0 (Cs := [.int v0, .int v1, .int v2]) (B := [.int 0, .int 0, .int 0, .int 0, .int 0, .int 0, .int 0, .int 0, .int 0, .int 0, .int 0, .int 0, .int 0, .int 0, .int 0, .int 0, .int 0, .int 0, .int 0, .int 0, .int 0, .int 0, .int 0, .int 0, .int 0, .int 0, .int 0, .int 0, .int 0, .int 0, .int 0, .int 0]) hfr hat hf ha h32 (by rw [hto]; omega)
    have z1 := own_z (k := a) (by omega)
    refine t0_49 hgo rfl ?_
    refine t0_51 hgo ?_
    refine t0_53 hgo ?_
    refine t0_55 hgo rfl ?_
    refine t0_57 hgo ?_
    refine res_of (u0_59 hgo) ?_
    simp only [eq_self, and_self, true_and, and_true, not_true_eq_false, not_false_eq_true, if_true, if_false, reduceIte, Option.bind_some, List.getElem?_cons_zero, List.getElem?_cons_succ, Nat.reduceAdd, Nat.reduceSub, Nat.reduceLT, Nat.reduceLeDiff, Nat.le_refl, Nat.zero_add, Nat.add_zero, List.length_cons, List.length_nil, Int32.reduceLT, Int32.reduceToNatClampNeg, Int32.reduceAdd, Int32.reduceSub, Int32.reduceMul, decide_true, aCall, aRecv, aObj, obj, List.take_succ_cons, List.take_zero, List.drop_succ_cons, List.drop_zero, List.reverse_cons, List.reverse_nil, List.nil_append, List.cons_append, List.append_nil, List.map_cons, List.map_nil, List.sum_cons, List.sum_nil, cat_int, cat_long, cat_ref, cat_null, Option.toList_some, Option.toList_none, g]
    refine t0_62 hgo rfl ?_
    refine t0_64 hgo ?_
    refine t0_65 hgo rfl ?_
    refine t0_67 hgo ?_
    refine t0_69 hgo rfl ?_
    refine t0_71 hgo ?_
    refine t0_73 hgo ?_
    refine t0_74t hgo (lt_of hct e1 (by omega)) ?_
    refine t0_118 hgo ?_
    refine t0_120 hgo ?_
    refine t0_121t hgo (lt_of hct e2 (by omega)) ?_
    refine t0_192 hgo ?_
    refine t0_194f hgo (by decide) ?_
    refine t0_197 hgo ?_
    refine t0_199 hgo ?_
    refine t0_201t hgo rfl ?_
    refine t0_204 hgo ?_
    refine t0_205 hgo ?_
    refine t0_209 hgo rfl ?_
    by_cases hap : 0 < a
    · have hs := own_sub hat e1 (by omega)
      obtain ⟨j1, j2⟩ := own_ix (a := a - 1) (by rw [hs]; omega)
      have z2 := own_z (k := a - 1) (by omega)
      refine t0_211 hgo ?_
      refine t0_213t hgo (lt_of e0 hat (by omega)) ?_
      refine t0_216 hgo ?_
      refine t0_218f hgo (by decide) ?_
      refine t0_221 hgo rfl ?_
      refine t0_223 hgo ?_
      refine t0_225 hgo ?_
      refine t0_226 hgo ?_
      refine res_of (u0_227 hgo) ?_
      simp only [eq_self, and_self, true_and, and_true, not_true_eq_false, not_false_eq_true, if_true, if_false, reduceIte, Option.bind_some, List.getElem?_cons_zero, List.getElem?_cons_succ, Nat.reduceAdd, Nat.reduceSub, Nat.reduceLT, Nat.reduceLeDiff, Nat.le_refl, Nat.zero_add, Nat.add_zero, List.length_cons, List.length_nil, Int32.reduceLT, Int32.reduceToNatClampNeg, Int32.reduceAdd, Int32.reduceSub, Int32.reduceMul, decide_true, ex_baload, ald, pI_int, pR_ref, arr, isT, isBZ, j1, j2, z2, ia, ib, z1]
      refine t0_228t hgo rfl ?_
      refine t0_231 hgo ?_
      refine t0_232 hgo ?_
      refine t0_236 hgo rfl ?_
      refine t0_238 hgo ?_
      refine t0_240f hgo (by decide) ?_
      refine t0_243 hgo rfl ?_
      refine t0_245 hgo ?_
      refine res_of (u0_247 hgo) ?_
      simp only [eq_self, and_self, true_and, and_true, not_true_eq_false, not_false_eq_true, if_true, if_false, reduceIte, Option.bind_some, List.getElem?_cons_zero, List.getElem?_cons_succ, Nat.reduceAdd, Nat.reduceSub, Nat.reduceLT, Nat.reduceLeDiff, Nat.le_refl, Nat.zero_add, Nat.add_zero, List.length_cons, List.length_nil, Int32.reduceLT, Int32.reduceToNatClampNeg, Int32.reduceAdd, Int32.reduceSub, Int32.reduceMul, decide_true, ex_baload, ald, pI_int, pR_ref, arr, isT, isBZ, j1, j2, z2, ia, ib, z1]
      refine t0_248t hgo rfl ?_
      refine t0_251 hgo ?_
      refine t0_252 hgo ?_
      refine t0_256 hgo rfl ?_
      refine t0_258 hgo ?_
      refine t0_260 hgo ?_
      exact one_b
    · skip
      refine t0_211 hgo ?_
      refine t0_213f hgo (nlt_of e0 hat (by omega)) ?_
      refine t0_238 hgo ?_
      refine t0_240f hgo (by decide) ?_
      refine t0_243 hgo rfl ?_
      refine t0_245 hgo ?_
      refine res_of (u0_247 hgo) ?_
      simp only [eq_self, and_self, true_and, and_true, not_true_eq_false, not_false_eq_true, if_true, if_false, reduceIte, Option.bind_some, List.getElem?_cons_zero, List.getElem?_cons_succ, Nat.reduceAdd, Nat.reduceSub, Nat.reduceLT, Nat.reduceLeDiff, Nat.le_refl, Nat.zero_add, Nat.add_zero, List.length_cons, List.length_nil, Int32.reduceLT, Int32.reduceToNatClampNeg, Int32.reduceAdd, Int32.reduceSub, Int32.reduceMul, decide_true, ex_baload, ald, pI_int, pR_ref, arr, isT, isBZ, ia, ib, z1]
      refine t0_248t hgo rfl ?_
      refine t0_251 hgo ?_
      refine t0_252 hgo ?_
      refine t0_256 hgo rfl ?_
      refine t0_258 hgo ?_
      refine t0_260 hgo ?_
      exact one_b
  · obtain ⟨B', en, g, hen, hW⟩ := F1_1 (Cs := [.int v0, .int v1, .int v2]) (B := [.int 0, .int 0, .int 0, .int 0, .int 0, .int 0, .int 0, .int 0, .int 0, .int 0, .int 0, .int 0, .int 0, .int 0, .int 0, .int 0, .int 0, .int 0, .int 0, .int 0, .int 0, .int 0, .int 0, .int 0, .int 0, .int 0, .int 0, .int 0, .int 0, .int 0, .int 0, .int 0]) hfr hat hf ha h32 (by rw [hto]; omega) hv
    obtain ⟨w1, w2, w3⟩ := hW
    obtain ⟨H2, g2, k2⟩ := F2_ok (H := [.inr (.int, [.int 1, .int 10, .int 100, .int 1000, .int 10000, .int 100000, .int 1000000, .int 10000000, .int 100000000, .int 1000000000]), .inr (.int, [.int v0, .int v1, .int v2]), .inr (.byte, B')]) (B := B') (v := v) rfl hat (by omega) w3
    have hB2 := k2 2 _ rfl
    have ht := ofn (k := tl v) (by omega)
    have hps := own_add hat ht (by omega)
    have hpe : en = at' + Int32.ofNat (tl v) := by rw [← Int32.toInt_inj, hps, hen]
    obtain ⟨q1, q2⟩ := own_ix (a := a + tl v) (by rw [hps]; omega)
    have z1 : B'[a + tl v]? = some (Value.int 0) := by rw [w2 (a + tl v) (Or.inr (Nat.le_refl _))]; exact own_z (by omega)
    refine t0_49 hgo rfl ?_
    refine t0_51 hgo ?_
    refine t0_53 hgo ?_
    refine t0_55 hgo rfl ?_
    refine t0_57 hgo ?_
    refine res_of (u0_59 hgo) ?_
    simp only [eq_self, and_self, true_and, and_true, not_true_eq_false, not_false_eq_true, if_true, if_false, reduceIte, Option.bind_some, List.getElem?_cons_zero, List.getElem?_cons_succ, Nat.reduceAdd, Nat.reduceSub, Nat.reduceLT, Nat.reduceLeDiff, Nat.le_refl, Nat.zero_add, Nat.add_zero, List.length_cons, List.length_nil, Int32.reduceLT, Int32.reduceToNatClampNeg, Int32.reduceAdd, Int32.reduceSub, Int32.reduceMul, decide_true, aCall, aRecv, aObj, obj, List.take_succ_cons, List.take_zero, List.drop_succ_cons, List.drop_zero, List.reverse_cons, List.reverse_nil, List.nil_append, List.cons_append, List.append_nil, List.map_cons, List.map_nil, List.sum_cons, List.sum_nil, cat_int, cat_long, cat_ref, cat_null, Option.toList_some, Option.toList_none, g, if1, if2, hv, g2, F4_eq]
    refine t0_62 hgo rfl ?_
    refine t0_64 hgo ?_
    refine t0_65 hgo rfl ?_
    refine t0_67 hgo ?_
    refine t0_69 hgo rfl ?_
    refine t0_71 hgo ?_
    refine t0_73 hgo ?_
    refine t0_74f hgo (nlt_of hct e1 (by omega)) ?_
    refine t0_77 hgo rfl ?_
    refine t0_79 hgo ?_
    refine res_of (u0_81 hgo) ?_
    simp only [eq_self, and_self, true_and, and_true, not_true_eq_false, not_false_eq_true, if_true, if_false, reduceIte, Option.bind_some, List.getElem?_cons_zero, List.getElem?_cons_succ, Nat.reduceAdd, Nat.reduceSub, Nat.reduceLT, Nat.reduceLeDiff, Nat.le_refl, Nat.zero_add, Nat.add_zero, List.length_cons, List.length_nil, Int32.reduceLT, Int32.reduceToNatClampNeg, Int32.reduceAdd, Int32.reduceSub, Int32.reduceMul, decide_true, ex_iaload, ald, pI_int, pR_ref, arr, isT, isBZ, g, if1, if2, hv, g2, F4_eq]
    refine t0_82 hgo rfl ?_
    refine t0_84 hgo ?_
    refine t0_86f hgo (by decide) ?_
    refine t0_89 hgo rfl ?_
    refine t0_91 hgo ?_
    refine t0_93 hgo ?_
    refine res_of (u0_95 hgo) ?_
    simp only [eq_self, and_self, true_and, and_true, not_true_eq_false, not_false_eq_true, if_true, if_false, reduceIte, Option.bind_some, List.getElem?_cons_zero, List.getElem?_cons_succ, Nat.reduceAdd, Nat.reduceSub, Nat.reduceLT, Nat.reduceLeDiff, Nat.le_refl, Nat.zero_add, Nat.add_zero, List.length_cons, List.length_nil, Int32.reduceLT, Int32.reduceToNatClampNeg, Int32.reduceAdd, Int32.reduceSub, Int32.reduceMul, decide_true, aCall, aRecv, aObj, obj, List.take_succ_cons, List.take_zero, List.drop_succ_cons, List.drop_zero, List.reverse_cons, List.reverse_nil, List.nil_append, List.cons_append, List.append_nil, List.map_cons, List.map_nil, List.sum_cons, List.sum_nil, cat_int, cat_long, cat_ref, cat_null, Option.toList_some, Option.toList_none, g, if1, if2, hv, g2, F4_eq]
    refine t0_98f hgo (by decide) ?_
    refine t0_101 hgo ?_
    refine t0_102 hgo ?_
    refine t0_106 hgo rfl ?_
    refine t0_108 hgo ?_
    refine t0_110 hgo ?_
    refine res_of (u0_112 hgo) ?_
    simp only [eq_self, and_self, true_and, and_true, not_true_eq_false, not_false_eq_true, if_true, if_false, reduceIte, Option.bind_some, List.getElem?_cons_zero, List.getElem?_cons_succ, Nat.reduceAdd, Nat.reduceSub, Nat.reduceLT, Nat.reduceLeDiff, Nat.le_refl, Nat.zero_add, Nat.add_zero, List.length_cons, List.length_nil, Int32.reduceLT, Int32.reduceToNatClampNeg, Int32.reduceAdd, Int32.reduceSub, Int32.reduceMul, decide_true, aCall, aRecv, aObj, obj, List.take_succ_cons, List.take_zero, List.drop_succ_cons, List.drop_zero, List.reverse_cons, List.reverse_nil, List.nil_append, List.cons_append, List.append_nil, List.map_cons, List.map_nil, List.sum_cons, List.sum_nil, cat_int, cat_long, cat_ref, cat_null, Option.toList_some, Option.toList_none, g, if1, if2, hv, g2, F4_eq]
    refine t0_115 hgo ?_
    refine t0_116 hgo rfl ?_
    refine t0_118 hgo ?_
    refine t0_120 hgo ?_
    refine t0_121t hgo (lt_of hct e2 (by omega)) ?_
    refine t0_192 hgo ?_
    refine t0_194f hgo (by decide) ?_
    refine t0_197 hgo ?_
    refine t0_199 hgo ?_
    refine t0_201t hgo hpe ?_
    refine t0_204 hgo ?_
    refine t0_205 hgo ?_
    refine t0_209 hgo rfl ?_
    by_cases hap : 0 < a
    · have hs := own_sub hat e1 (by omega)
      obtain ⟨j1, j2⟩ := own_ix (a := a - 1) (by rw [hs]; omega)
      have z2 : B'[a - 1]? = some (Value.int 0) := by rw [w2 (a - 1) (Or.inl (by omega))]; exact own_z (by omega)
      refine t0_211 hgo ?_
      refine t0_213t hgo (lt_of e0 hat (by omega)) ?_
      refine t0_216 hgo ?_
      refine t0_218f hgo (by decide) ?_
      refine t0_221 hgo rfl ?_
      refine t0_223 hgo ?_
      refine t0_225 hgo ?_
      refine t0_226 hgo ?_
      refine res_of (u0_227 hgo) ?_
      simp only [eq_self, and_self, true_and, and_true, not_true_eq_false, not_false_eq_true, if_true, if_false, reduceIte, Option.bind_some, List.getElem?_cons_zero, List.getElem?_cons_succ, Nat.reduceAdd, Nat.reduceSub, Nat.reduceLT, Nat.reduceLeDiff, Nat.le_refl, Nat.zero_add, Nat.add_zero, List.length_cons, List.length_nil, Int32.reduceLT, Int32.reduceToNatClampNeg, Int32.reduceAdd, Int32.reduceSub, Int32.reduceMul, decide_true, ex_baload, ald, pI_int, pR_ref, arr, isT, isBZ, hB2, j1, j2, z2, q1, q2, z1]
      refine t0_228t hgo rfl ?_
      refine t0_231 hgo ?_
      refine t0_232 hgo ?_
      refine t0_236 hgo rfl ?_
      refine t0_238 hgo ?_
      refine t0_240f hgo (by decide) ?_
      refine t0_243 hgo rfl ?_
      refine t0_245 hgo ?_
      refine res_of (u0_247 hgo) ?_
      simp only [eq_self, and_self, true_and, and_true, not_true_eq_false, not_false_eq_true, if_true, if_false, reduceIte, Option.bind_some, List.getElem?_cons_zero, List.getElem?_cons_succ, Nat.reduceAdd, Nat.reduceSub, Nat.reduceLT, Nat.reduceLeDiff, Nat.le_refl, Nat.zero_add, Nat.add_zero, List.length_cons, List.length_nil, Int32.reduceLT, Int32.reduceToNatClampNeg, Int32.reduceAdd, Int32.reduceSub, Int32.reduceMul, decide_true, ex_baload, ald, pI_int, pR_ref, arr, isT, isBZ, hB2, j1, j2, z2, q1, q2, z1]
      refine t0_248t hgo rfl ?_
      refine t0_251 hgo ?_
      refine t0_252 hgo ?_
      refine t0_256 hgo rfl ?_
      refine t0_258 hgo ?_
      refine t0_260 hgo ?_
      exact one_b
    · skip
      refine t0_211 hgo ?_
      refine t0_213f hgo (nlt_of e0 hat (by omega)) ?_
      refine t0_238 hgo ?_
      refine t0_240f hgo (by decide) ?_
      refine t0_243 hgo rfl ?_
      refine t0_245 hgo ?_
      refine res_of (u0_247 hgo) ?_
      simp only [eq_self, and_self, true_and, and_true, not_true_eq_false, not_false_eq_true, if_true, if_false, reduceIte, Option.bind_some, List.getElem?_cons_zero, List.getElem?_cons_succ, Nat.reduceAdd, Nat.reduceSub, Nat.reduceLT, Nat.reduceLeDiff, Nat.le_refl, Nat.zero_add, Nat.add_zero, List.length_cons, List.length_nil, Int32.reduceLT, Int32.reduceToNatClampNeg, Int32.reduceAdd, Int32.reduceSub, Int32.reduceMul, decide_true, ex_baload, ald, pI_int, pR_ref, arr, isT, isBZ, hB2, q1, q2, z1]
      refine t0_248t hgo rfl ?_
      refine t0_251 hgo ?_
      refine t0_252 hgo ?_
      refine t0_256 hgo rfl ?_
      refine t0_258 hgo ?_
      refine t0_260 hgo ?_
      exact one_b
  · obtain ⟨B1, B', en, g, hen, hW, hW2⟩ := F1_2 (Cs := [.int v0, .int v1, .int v2]) (B := [.int 0, .int 0, .int 0, .int 0, .int 0, .int 0, .int 0, .int 0, .int 0, .int 0, .int 0, .int 0, .int 0, .int 0, .int 0, .int 0, .int 0, .int 0, .int 0, .int 0, .int 0, .int 0, .int 0, .int 0, .int 0, .int 0, .int 0, .int 0, .int 0, .int 0, .int 0, .int 0]) hfr hat hf ha h32 (by rw [hto]; omega) hv hu
    obtain ⟨w1, w2, w3⟩ := hW
    obtain ⟨y1, y2, y3⟩ := hW2
    have x3 : ∀ k, k < tl v → ∃ x : Int32, B'[a + k]? = some (Value.int x) ∧ x.toInt = chv v k := by
      intro k hk
      obtain ⟨x, x1, x2⟩ := w3 k hk
      refine ⟨x, ?_, x2⟩
      rw [y2 (a + k) (Or.inl (by omega)), List.getElem?_set_ne (show a + tl v ≠ a + k by omega)]; exact x1
    have xd : B'[a + tl v]? = some (Value.int ((46 : Int32).toInt8.toInt32)) := by
      rw [y2 (a + tl v) (Or.inl (by omega)), List.getElem?_set_self (show a + tl v < B1.length by omega)]
    obtain ⟨H2, g2, k2⟩ := F2_ok (H := [.inr (.int, [.int 1, .int 10, .int 100, .int 1000, .int 10000, .int 100000, .int 1000000, .int 10000000, .int 100000000, .int 1000000000]), .inr (.int, [.int v0, .int v1, .int v2]), .inr (.byte, B')]) (B := B') (v := v) rfl hat (by omega) x3
    have hB2 := k2 2 _ rfl
    have hC2 := k2 1 _ rfl
    have ht := ofn (k := tl v) (by omega)
    have hps := own_add hat ht (by omega)
    obtain ⟨q1, q2⟩ := own_ix (a := a + tl v) (by rw [hps]; omega)
    have hps1 := own_add hps e1 (by omega)
    obtain ⟨H3, g3, k3⟩ := F2_ok (H := H2) (B := B') (v := u) (p := a + tl v + 1) hB2 (by rw [hps1]; omega) (by omega) y3
    have hB3 := k3 2 _ hB2
    have hfe := own_add hfr e1 (by omega)
    obtain ⟨if3, if4⟩ := own_ix (a := f + 1) (by rw [hfe]; omega)
    have ht' := ofn (k := tl u) (by omega)
    have hps2 := own_add hps1 ht' (by omega)
    have hpe : en = at' + Int32.ofNat (tl v) + 1 + Int32.ofNat (tl u) := by rw [← Int32.toInt_inj, hps2, hen]
    obtain ⟨r1, r2⟩ := own_ix (a := a + tl v + 1 + tl u) (by rw [hps2]; omega)
    have z1 : B'[a + tl v + 1 + tl u]? = some (Value.int 0) := by
      rw [y2 (a + tl v + 1 + tl u) (Or.inr (Nat.le_refl _)), List.getElem?_set_ne (show a + tl v ≠ a + tl v + 1 + tl u by omega), w2 (a + tl v + 1 + tl u) (Or.inr (by omega))]; exact own_z (by omega)
    refine t0_49 hgo rfl ?_
    refine t0_51 hgo ?_
    refine t0_53 hgo ?_
    refine t0_55 hgo rfl ?_
    refine t0_57 hgo ?_
    refine res_of (u0_59 hgo) ?_
    simp only [eq_self, and_self, true_and, and_true, not_true_eq_false, not_false_eq_true, if_true, if_false, reduceIte, Option.bind_some, List.getElem?_cons_zero, List.getElem?_cons_succ, Nat.reduceAdd, Nat.reduceSub, Nat.reduceLT, Nat.reduceLeDiff, Nat.le_refl, Nat.zero_add, Nat.add_zero, List.length_cons, List.length_nil, Int32.reduceLT, Int32.reduceToNatClampNeg, Int32.reduceAdd, Int32.reduceSub, Int32.reduceMul, decide_true, aCall, aRecv, aObj, obj, List.take_succ_cons, List.take_zero, List.drop_succ_cons, List.drop_zero, List.reverse_cons, List.reverse_nil, List.nil_append, List.cons_append, List.append_nil, List.map_cons, List.map_nil, List.sum_cons, List.sum_nil, cat_int, cat_long, cat_ref, cat_null, Option.toList_some, Option.toList_none, g, if1, if2, hv, g2, F4_eq]
    refine t0_62 hgo rfl ?_
    refine t0_64 hgo ?_
    refine t0_65 hgo rfl ?_
    refine t0_67 hgo ?_
    refine t0_69 hgo rfl ?_
    refine t0_71 hgo ?_
    refine t0_73 hgo ?_
    refine t0_74f hgo (nlt_of hct e1 (by omega)) ?_
    refine t0_77 hgo rfl ?_
    refine t0_79 hgo ?_
    refine res_of (u0_81 hgo) ?_
    simp only [eq_self, and_self, true_and, and_true, not_true_eq_false, not_false_eq_true, if_true, if_false, reduceIte, Option.bind_some, List.getElem?_cons_zero, List.getElem?_cons_succ, Nat.reduceAdd, Nat.reduceSub, Nat.reduceLT, Nat.reduceLeDiff, Nat.le_refl, Nat.zero_add, Nat.add_zero, List.length_cons, List.length_nil, Int32.reduceLT, Int32.reduceToNatClampNeg, Int32.reduceAdd, Int32.reduceSub, Int32.reduceMul, decide_true, ex_iaload, ald, pI_int, pR_ref, arr, isT, isBZ, g, if1, if2, hv, g2, F4_eq]
    refine t0_82 hgo rfl ?_
    refine t0_84 hgo ?_
    refine t0_86f hgo (by decide) ?_
    refine t0_89 hgo rfl ?_
    refine t0_91 hgo ?_
    refine t0_93 hgo ?_
    refine res_of (u0_95 hgo) ?_
    simp only [eq_self, and_self, true_and, and_true, not_true_eq_false, not_false_eq_true, if_true, if_false, reduceIte, Option.bind_some, List.getElem?_cons_zero, List.getElem?_cons_succ, Nat.reduceAdd, Nat.reduceSub, Nat.reduceLT, Nat.reduceLeDiff, Nat.le_refl, Nat.zero_add, Nat.add_zero, List.length_cons, List.length_nil, Int32.reduceLT, Int32.reduceToNatClampNeg, Int32.reduceAdd, Int32.reduceSub, Int32.reduceMul, decide_true, aCall, aRecv, aObj, obj, List.take_succ_cons, List.take_zero, List.drop_succ_cons, List.drop_zero, List.reverse_cons, List.reverse_nil, List.nil_append, List.cons_append, List.append_nil, List.map_cons, List.map_nil, List.sum_cons, List.sum_nil, cat_int, cat_long, cat_ref, cat_null, Option.toList_some, Option.toList_none, g, if1, if2, hv, g2, F4_eq]
    refine t0_98f hgo (by decide) ?_
    refine t0_101 hgo ?_
    refine t0_102 hgo ?_
    refine t0_106 hgo rfl ?_
    refine t0_108 hgo ?_
    refine t0_110 hgo ?_
    refine res_of (u0_112 hgo) ?_
    simp only [eq_self, and_self, true_and, and_true, not_true_eq_false, not_false_eq_true, if_true, if_false, reduceIte, Option.bind_some, List.getElem?_cons_zero, List.getElem?_cons_succ, Nat.reduceAdd, Nat.reduceSub, Nat.reduceLT, Nat.reduceLeDiff, Nat.le_refl, Nat.zero_add, Nat.add_zero, List.length_cons, List.length_nil, Int32.reduceLT, Int32.reduceToNatClampNeg, Int32.reduceAdd, Int32.reduceSub, Int32.reduceMul, decide_true, aCall, aRecv, aObj, obj, List.take_succ_cons, List.take_zero, List.drop_succ_cons, List.drop_zero, List.reverse_cons, List.reverse_nil, List.nil_append, List.cons_append, List.append_nil, List.map_cons, List.map_nil, List.sum_cons, List.sum_nil, cat_int, cat_long, cat_ref, cat_null, Option.toList_some, Option.toList_none, g, if1, if2, hv, g2, F4_eq]
    refine t0_115 hgo ?_
    refine t0_116 hgo rfl ?_
    refine t0_118 hgo ?_
    refine t0_120 hgo ?_
    refine t0_121f hgo (nlt_of hct e2 (by omega)) ?_
    refine t0_124 hgo ?_
    refine t0_126f hgo (by decide) ?_
    refine t0_129 hgo rfl ?_
    refine t0_131 hgo ?_
    refine res_of (u0_133 hgo) ?_
    simp only [eq_self, and_self, true_and, and_true, not_true_eq_false, not_false_eq_true, if_true, if_false, reduceIte, Option.bind_some, List.getElem?_cons_zero, List.getElem?_cons_succ, Nat.reduceAdd, Nat.reduceSub, Nat.reduceLT, Nat.reduceLeDiff, Nat.le_refl, Nat.zero_add, Nat.add_zero, List.length_cons, List.length_nil, Int32.reduceLT, Int32.reduceToNatClampNeg, Int32.reduceAdd, Int32.reduceSub, Int32.reduceMul, decide_true, ex_baload, ald, pI_int, pR_ref, arr, isT, isBZ, q1, q2, hB2, xd, if3, if4, hC2, hu, g3, F4_eq]
    refine t0_134 hgo ?_
    refine t0_136t hgo rfl ?_
    refine t0_139 hgo ?_
    refine t0_140 hgo ?_
    refine t0_144 hgo rfl ?_
    refine t0_146 hgo ?_
    refine t0_149 hgo rfl ?_
    refine t0_151 hgo ?_
    refine t0_153 hgo ?_
    refine t0_154 hgo ?_
    refine res_of (u0_155 hgo) ?_
    simp only [eq_self, and_self, true_and, and_true, not_true_eq_false, not_false_eq_true, if_true, if_false, reduceIte, Option.bind_some, List.getElem?_cons_zero, List.getElem?_cons_succ, Nat.reduceAdd, Nat.reduceSub, Nat.reduceLT, Nat.reduceLeDiff, Nat.le_refl, Nat.zero_add, Nat.add_zero, List.length_cons, List.length_nil, Int32.reduceLT, Int32.reduceToNatClampNeg, Int32.reduceAdd, Int32.reduceSub, Int32.reduceMul, decide_true, ex_iaload, ald, pI_int, pR_ref, arr, isT, isBZ, q1, q2, hB2, xd, if3, if4, hC2, hu, g3, F4_eq]
    refine t0_156 hgo rfl ?_
    refine t0_158 hgo ?_
    refine t0_160f hgo (by decide) ?_
    refine t0_163 hgo rfl ?_
    refine t0_165 hgo ?_
    refine t0_167 hgo ?_
    refine res_of (u0_169 hgo) ?_
    simp only [eq_self, and_self, true_and, and_true, not_true_eq_false, not_false_eq_true, if_true, if_false, reduceIte, Option.bind_some, List.getElem?_cons_zero, List.getElem?_cons_succ, Nat.reduceAdd, Nat.reduceSub, Nat.reduceLT, Nat.reduceLeDiff, Nat.le_refl, Nat.zero_add, Nat.add_zero, List.length_cons, List.length_nil, Int32.reduceLT, Int32.reduceToNatClampNeg, Int32.reduceAdd, Int32.reduceSub, Int32.reduceMul, decide_true, aCall, aRecv, aObj, obj, List.take_succ_cons, List.take_zero, List.drop_succ_cons, List.drop_zero, List.reverse_cons, List.reverse_nil, List.nil_append, List.cons_append, List.append_nil, List.map_cons, List.map_nil, List.sum_cons, List.sum_nil, cat_int, cat_long, cat_ref, cat_null, Option.toList_some, Option.toList_none, q1, q2, hB2, xd, if3, if4, hC2, hu, g3, F4_eq]
    refine t0_172f hgo (by decide) ?_
    refine t0_175 hgo ?_
    refine t0_176 hgo ?_
    refine t0_180 hgo rfl ?_
    refine t0_182 hgo ?_
    refine t0_184 hgo ?_
    refine res_of (u0_186 hgo) ?_
    simp only [eq_self, and_self, true_and, and_true, not_true_eq_false, not_false_eq_true, if_true, if_false, reduceIte, Option.bind_some, List.getElem?_cons_zero, List.getElem?_cons_succ, Nat.reduceAdd, Nat.reduceSub, Nat.reduceLT, Nat.reduceLeDiff, Nat.le_refl, Nat.zero_add, Nat.add_zero, List.length_cons, List.length_nil, Int32.reduceLT, Int32.reduceToNatClampNeg, Int32.reduceAdd, Int32.reduceSub, Int32.reduceMul, decide_true, aCall, aRecv, aObj, obj, List.take_succ_cons, List.take_zero, List.drop_succ_cons, List.drop_zero, List.reverse_cons, List.reverse_nil, List.nil_append, List.cons_append, List.append_nil, List.map_cons, List.map_nil, List.sum_cons, List.sum_nil, cat_int, cat_long, cat_ref, cat_null, Option.toList_some, Option.toList_none, q1, q2, hB2, xd, if3, if4, hC2, hu, g3, F4_eq]
    refine t0_189 hgo ?_
    refine t0_190 hgo rfl ?_
    refine t0_192 hgo ?_
    refine t0_194f hgo (by decide) ?_
    refine t0_197 hgo ?_
    refine t0_199 hgo ?_
    refine t0_201t hgo hpe ?_
    refine t0_204 hgo ?_
    refine t0_205 hgo ?_
    refine t0_209 hgo rfl ?_
    by_cases hap : 0 < a
    · have hs := own_sub hat e1 (by omega)
      obtain ⟨j1, j2⟩ := own_ix (a := a - 1) (by rw [hs]; omega)
      have z2 : B'[a - 1]? = some (Value.int 0) := by
        rw [y2 (a - 1) (Or.inl (by omega)), List.getElem?_set_ne (show a + tl v ≠ a - 1 by omega), w2 (a - 1) (Or.inl (by omega))]; exact own_z (by omega)
      refine t0_211 hgo ?_
      refine t0_213t hgo (lt_of e0 hat (by omega)) ?_
      refine t0_216 hgo ?_
      refine t0_218f hgo (by decide) ?_
      refine t0_221 hgo rfl ?_
      refine t0_223 hgo ?_
      refine t0_225 hgo ?_
      refine t0_226 hgo ?_
      refine res_of (u0_227 hgo) ?_
      simp only [eq_self, and_self, true_and, and_true, not_true_eq_false, not_false_eq_true, if_true, if_false, reduceIte, Option.bind_some, List.getElem?_cons_zero, List.getElem?_cons_succ, Nat.reduceAdd, Nat.reduceSub, Nat.reduceLT, Nat.reduceLeDiff, Nat.le_refl, Nat.zero_add, Nat.add_zero, List.length_cons, List.length_nil, Int32.reduceLT, Int32.reduceToNatClampNeg, Int32.reduceAdd, Int32.reduceSub, Int32.reduceMul, decide_true, ex_baload, ald, pI_int, pR_ref, arr, isT, isBZ, hB3, j1, j2, z2, r1, r2, z1]
      refine t0_228t hgo rfl ?_
      refine t0_231 hgo ?_
      refine t0_232 hgo ?_
      refine t0_236 hgo rfl ?_
      refine t0_238 hgo ?_
      refine t0_240f hgo (by decide) ?_
      refine t0_243 hgo rfl ?_
      refine t0_245 hgo ?_
      refine res_of (u0_247 hgo) ?_
      simp only [eq_self, and_self, true_and, and_true, not_true_eq_false, not_false_eq_true, if_true, if_false, reduceIte, Option.bind_some, List.getElem?_cons_zero, List.getElem?_cons_succ, Nat.reduceAdd, Nat.reduceSub, Nat.reduceLT, Nat.reduceLeDiff, Nat.le_refl, Nat.zero_add, Nat.add_zero, List.length_cons, List.length_nil, Int32.reduceLT, Int32.reduceToNatClampNeg, Int32.reduceAdd, Int32.reduceSub, Int32.reduceMul, decide_true, ex_baload, ald, pI_int, pR_ref, arr, isT, isBZ, hB3, j1, j2, z2, r1, r2, z1]
      refine t0_248t hgo rfl ?_
      refine t0_251 hgo ?_
      refine t0_252 hgo ?_
      refine t0_256 hgo rfl ?_
      refine t0_258 hgo ?_
      refine t0_260 hgo ?_
      exact one_b
    · skip
      refine t0_211 hgo ?_
      refine t0_213f hgo (nlt_of e0 hat (by omega)) ?_
      refine t0_238 hgo ?_
      refine t0_240f hgo (by decide) ?_
      refine t0_243 hgo rfl ?_
      refine t0_245 hgo ?_
      refine res_of (u0_247 hgo) ?_
      simp only [eq_self, and_self, true_and, and_true, not_true_eq_false, not_false_eq_true, if_true, if_false, reduceIte, Option.bind_some, List.getElem?_cons_zero, List.getElem?_cons_succ, Nat.reduceAdd, Nat.reduceSub, Nat.reduceLT, Nat.reduceLeDiff, Nat.le_refl, Nat.zero_add, Nat.add_zero, List.length_cons, List.length_nil, Int32.reduceLT, Int32.reduceToNatClampNeg, Int32.reduceAdd, Int32.reduceSub, Int32.reduceMul, decide_true, ex_baload, ald, pI_int, pR_ref, arr, isT, isBZ, hB3, r1, r2, z1]
      refine t0_248t hgo rfl ?_
      refine t0_251 hgo ?_
      refine t0_252 hgo ?_
      refine t0_256 hgo rfl ?_
      refine t0_258 hgo ?_
      refine t0_260 hgo ?_
      exact one_b
set_option maxRecDepth 65536 in
set_option maxHeartbeats 8000000 in
theorem law_val (v0 v1 v2 v3 : Int32) : ∃ H', F0 [.int v0, .int v1, .int v2, .int v3] [.inr (.int, [.int 1, .int 10, .int 100, .int 1000, .int 10000, .int 100000, .int 1000000, .int 10000000, .int 100000000, .int 1000000000])] = some (some (.int 1), H') := by
  obtain ⟨f, c, a, hf, hc, ha, h1, h2, h3⟩ := own_3 v3
  refine one_of f0_in fun go hgo => ?_
  refine t0_0 hgo ?_
  refine res_of (u0_1 hgo) ?_
  simp only [eq_self, and_self, true_and, and_true, not_true_eq_false, not_false_eq_true, if_true, if_false, reduceIte, Option.bind_some, List.getElem?_cons_zero, List.getElem?_cons_succ, Nat.reduceAdd, Nat.reduceSub, Nat.reduceLT, Nat.reduceLeDiff, Nat.le_refl, Nat.zero_add, Nat.add_zero, List.length_cons, List.length_nil, Int32.reduceLT, Int32.reduceToNatClampNeg, Int32.reduceAdd, Int32.reduceSub, Int32.reduceMul, decide_true, aArr, List.nil_append, List.cons_append, List.replicate_zero, List.replicate_succ, defaultValue]
  refine t0_3 hgo rfl ?_
  refine t0_4 hgo ?_
  refine t0_5 hgo ?_
  refine res_of (u0_6 hgo) ?_
  simp only [eq_self, and_self, true_and, and_true, not_true_eq_false, not_false_eq_true, if_true, if_false, reduceIte, Option.bind_some, List.getElem?_cons_zero, List.getElem?_cons_succ, Nat.reduceAdd, Nat.reduceSub, Nat.reduceLT, Nat.reduceLeDiff, Nat.le_refl, Nat.zero_add, Nat.add_zero, List.length_cons, List.length_nil, Int32.reduceLT, Int32.reduceToNatClampNeg, Int32.reduceAdd, Int32.reduceSub, Int32.reduceMul, decide_true, ex_iastore, ast, astL, pI_int, pL_long, pR_ref, arr, isT, isBZ, nar, List.set_cons_zero, List.set_cons_succ]
  refine t0_7 hgo rfl ?_
  refine t0_8 hgo ?_
  refine t0_9 hgo ?_
  refine res_of (u0_10 hgo) ?_
  simp only [eq_self, and_self, true_and, and_true, not_true_eq_false, not_false_eq_true, if_true, if_false, reduceIte, Option.bind_some, List.getElem?_cons_zero, List.getElem?_cons_succ, Nat.reduceAdd, Nat.reduceSub, Nat.reduceLT, Nat.reduceLeDiff, Nat.le_refl, Nat.zero_add, Nat.add_zero, List.length_cons, List.length_nil, Int32.reduceLT, Int32.reduceToNatClampNeg, Int32.reduceAdd, Int32.reduceSub, Int32.reduceMul, decide_true, ex_iastore, ast, astL, pI_int, pL_long, pR_ref, arr, isT, isBZ, nar, List.set_cons_zero, List.set_cons_succ]
  refine t0_11 hgo rfl ?_
  refine t0_12 hgo ?_
  refine t0_13 hgo ?_
  refine res_of (u0_14 hgo) ?_
  simp only [eq_self, and_self, true_and, and_true, not_true_eq_false, not_false_eq_true, if_true, if_false, reduceIte, Option.bind_some, List.getElem?_cons_zero, List.getElem?_cons_succ, Nat.reduceAdd, Nat.reduceSub, Nat.reduceLT, Nat.reduceLeDiff, Nat.le_refl, Nat.zero_add, Nat.add_zero, List.length_cons, List.length_nil, Int32.reduceLT, Int32.reduceToNatClampNeg, Int32.reduceAdd, Int32.reduceSub, Int32.reduceMul, decide_true, ex_iastore, ast, astL, pI_int, pL_long, pR_ref, arr, isT, isBZ, nar, List.set_cons_zero, List.set_cons_succ]
  refine t0_15 hgo rfl rfl ?_
  refine t0_17 hgo ?_
  refine t0_18 hgo ?_
  refine t0_19 hgo ?_
  refine t0_20 hgo rfl ?_
  refine t0_22 hgo ?_
  refine t0_23 hgo ?_
  refine t0_24 hgo ?_
  refine t0_25 hgo ?_
  refine t0_26 hgo (by decide) ?_
  refine t0_27 hgo rfl ?_
  refine t0_29 hgo ?_
  refine t0_31 hgo ?_
  refine t0_33 hgo ?_
  refine t0_34 hgo rfl ?_
  refine t0_36 hgo ?_
  refine t0_37 hgo ?_
  refine t0_38 hgo ?_
  refine t0_39 hgo ?_
  refine t0_40 hgo ?_
  refine t0_41 hgo rfl ?_
  refine t0_43 hgo ?_
  refine res_of (u0_45 hgo) ?_
  simp only [eq_self, and_self, true_and, and_true, not_true_eq_false, not_false_eq_true, if_true, if_false, reduceIte, Option.bind_some, List.getElem?_cons_zero, List.getElem?_cons_succ, Nat.reduceAdd, Nat.reduceSub, Nat.reduceLT, Nat.reduceLeDiff, Nat.le_refl, Nat.zero_add, Nat.add_zero, List.length_cons, List.length_nil, Int32.reduceLT, Int32.reduceToNatClampNeg, Int32.reduceAdd, Int32.reduceSub, Int32.reduceMul, decide_true, aArr, List.nil_append, List.cons_append, List.replicate_zero, List.replicate_succ, defaultValue]
  refine t0_47 hgo rfl rfl ?_
  exact tail hgo hf hc ha h1 h2 (own_add h1 h2 (by omega)) h3 (by omega)
set_option maxRecDepth 65536 in
set_option maxHeartbeats 40000000 in
theorem comes_1 {Post : Tables → Env → Array Value → State → Outcome → State → Prop} (hpost : ∀ tb e args s v u, (limb_1_1.after args s (.returned v) u = true ∧ limb_1_2.after args s (.returned v) u = true ∧ True) → FrameEnd s (.returned v) u (Jvm.fieldLocs frame_1_writes args s ++ Jvm.arrayLocs frame_1_arrays args s ++ Jvm.staticLocs frame_1_statics s) 56 576 → Post tb e args s (.returned v) u) :
    ArmFor flags0 classFile x code maxLocals ret World_1 tables_1 room_1 Calls_1 rest_1 Pre_1 Post := by
  intro l hfl _ _ p e ha hc hk s m args below hf hA hF happ hP
  obtain ⟨hcalls, hrest, hpre⟩ := hP
  obtain ⟨-, -, -, hnamed, -, -, -, hat⟩ := (Spec.applies_iff hf).mp happ
  obtain ⟨hg, hn⟩ := and_e (Cond.before_iff.mp (show (Jvm.Cond.and given_1 narrow_1).before args s = true from hpre))
  obtain ⟨g0, g1⟩ := and_e hg
  obtain ⟨i1, g2⟩ := and_e g1
  obtain ⟨i2, g3⟩ := and_e g2
  obtain ⟨i3, g4⟩ := and_e g3
  obtain ⟨w0, w1, w2, w3, rfl⟩ : ∃ w0 w1 w2 w3 : Value, args = #[w0, w1, w2, w3] := by
    have hs : args.size = 4 := by simpa [Cond.value, given_1] using g0
    obtain ⟨L⟩ := args
    match L, hs with
    | [w0, w1, w2, w3], _ => exact ⟨w0, w1, w2, w3, rfl⟩
  have hw := fun d (hd : d ∈ tables_1) => atoms_spec (ws := Jvm.Cond.code x code maxLocals ret :: tables_1) hat d (List.mem_cons_of_mem _ hd)
  obtain ⟨v0, e0⟩ := is_v i1
  obtain rfl : w0 = (.int v0) := Option.some.inj e0
  obtain ⟨v1, e1⟩ := is_v i2
  obtain rfl : w1 = (.int v1) := Option.some.inj e1
  obtain ⟨v2, e2⟩ := is_v i3
  obtain rfl : w2 = (.int v2) := Option.some.inj e2
  obtain ⟨v3, e3⟩ := is_v g4
  obtain rfl : w3 = (.int v3) := Option.some.inj e3
  obtain ⟨nA, hn⟩ := and_e hn
  obtain ⟨nL, hn⟩ := and_e hn
  obtain ⟨o0, hn⟩ := and_e hn
  obtain ⟨o1, hn⟩ := and_e hn
  obtain ⟨o2, hn⟩ := and_e hn
  obtain ⟨o3, hn⟩ := and_e hn
  obtain ⟨o4, hn⟩ := and_e hn
  obtain ⟨o5, hn⟩ := and_e hn
  obtain ⟨o6, hn⟩ := and_e hn
  obtain ⟨o7, hn⟩ := and_e hn
  obtain ⟨o8, hn⟩ := and_e hn
  obtain ⟨ax, ex⟩ := arr_v nA
  have et := fun (idx : List Nat) => (show (Term.static "com/example/fronda/fronda/model/Label" "TENS" "[I").eval #[Value.int v0, Value.int v1, Value.int v2, Value.int v3] s none idx s = some (.ref ax) from ex)
  obtain ⟨cl, A⟩ := Arr.start ex nA
  have hcl : s.arrayAt? ax = some cl := A.fin (Vm.Alike.refl _)
  obtain ⟨q, e10⟩ := len_el (eqv_i (Term.int_eval 10) nL) ex hcl
  have hsz : cl.slots.size = 10 := by
    have := len_toInt q
    rw [e10] at this
    have e : (10 : Int32).toInt = 10 := by decide
    omega
  have r0 : cl.slots[0]? = some (Value.int 1) := elem_1 et hcl o0 (by decide)
  have r1 : cl.slots[1]? = some (Value.int 10) := elem_1 et hcl o1 (by decide)
  have r2 : cl.slots[2]? = some (Value.int 100) := elem_1 et hcl o2 (by decide)
  have r3 : cl.slots[3]? = some (Value.int 1000) := elem_1 et hcl o3 (by decide)
  have r4 : cl.slots[4]? = some (Value.int 10000) := elem_1 et hcl o4 (by decide)
  have r5 : cl.slots[5]? = some (Value.int 100000) := elem_1 et hcl o5 (by decide)
  have r6 : cl.slots[6]? = some (Value.int 1000000) := elem_1 et hcl o6 (by decide)
  have r7 : cl.slots[7]? = some (Value.int 10000000) := elem_1 et hcl o7 (by decide)
  have r8 : cl.slots[8]? = some (Value.int 100000000) := elem_1 et hcl o8 (by decide)
  have r9 : cl.slots[9]? = some (Value.int 1000000000) := elem_1 et hcl hn (by decide)
  have hl : cl.slots.toList = [.int 1, .int 10, .int 100, .int 1000, .int 10000, .int 100000, .int 1000000, .int 10000000, .int 100000000, .int 1000000000] := by
    apply List.ext_getElem?
    intro k
    rw [Array.getElem?_toList]
    match k with
    | 0 => exact r0
    | 1 => exact r1
    | 2 => exact r2
    | 3 => exact r3
    | 4 => exact r4
    | 5 => exact r5
    | 6 => exact r6
    | 7 => exact r7
    | 8 => exact r8
    | 9 => exact r9
    | k + 10 => rw [Array.getElem?_eq_none (by omega), List.getElem?_eq_none (by simp)]
  have tA := Sta.start ex (Or.inr ⟨(hw _ (List.mem_of_getElem? (i := 4) rfl)), (hw _ (List.mem_of_getElem? (i := 7) rfl))⟩)
  have hst : OwnSta s (sgx [ax] s.heap.size) := tA
  have hsg : Sg (sgx [ax] s.heap.size) 1 s.heap.size := sgx_ok (by
    intro a ha
    simp only [List.mem_cons, List.not_mem_nil, or_false] at ha
    subst ha
    exact arr_lt A) (by simp)
  have hrep : Rep s (sgx [ax] s.heap.size) 1 s.heap.size K s.heap [.inr (.int, [.int 1, .int 10, .int 100, .int 1000, .int 10000, .int 100000, .int 1000000, .int 10000000, .int 100000000, .int 1000000000])] := rep_x rfl (by
    intro k o h
    match k, h with
    | 0, h =>
      cases h
      rw [← hl]
      refine repo_arr A q (fun k hk => ?_)
      match k, (show k < 10 by omega) with
      | 0, _ => exact ⟨_, r0, rfl⟩
      | 1, _ => exact ⟨_, r1, rfl⟩
      | 2, _ => exact ⟨_, r2, rfl⟩
      | 3, _ => exact ⟨_, r3, rfl⟩
      | 4, _ => exact ⟨_, r4, rfl⟩
      | 5, _ => exact ⟨_, r5, rfl⟩
      | 6, _ => exact ⟨_, r6, rfl⟩
      | 7, _ => exact ⟨_, r7, rfl⟩
      | 8, _ => exact ⟨_, r8, rfl⟩
      | 9, _ => exact ⟨_, r9, rfl⟩
      | k + 10, h => exact absurd h (by omega)
    | k + 1, h => cases h)
  obtain ⟨H', hv⟩ := law_val v0 v1 v2 v3
  obtain ⟨n, o, h1, h2, h3, _, L, rfl, ⟨rfl, -, N⟩, hq⟩ := says0 l (Z := s) (σ := sgx [ax] s.heap.size) (n0 := s.heap.size) hsg hw hst _ _ _ s.heap hv hrep p e ha hc hk s m _ below hf ((Spec.applies_iff_loose hf).mp happ).1 ⟨rfl, State.Warmed39.refl s, rfl⟩ trivial
  refine ⟨n, _, h1, h2, h3, hpost _ _ _ _ _ _ ⟨Cond.after_iff.mpr rfl, Cond.after_iff.mpr (eq_i res_at (Term.int_eval (1)) rfl), trivial⟩ ⟨hq.1, hq.2.1, (hq.2.2.sift fun y hy => Or.inr (N y hy)).mono (by decide) (by decide)⟩⟩
theorem main_1_1 : Claimed_1_1 := comes_1 fun _ _ _ _ _ _ h hF => ⟨h.1, hF⟩
theorem main_1_2 : Claimed_1_2 := comes_1 fun _ _ _ _ _ _ h hF => ⟨h.2.1, hF⟩
end Jvm.Pilot.@@N@@
namespace Jvm.Pilot.@@N@@
open Jvm Jvm.ClassFile Sem Op Lib Jvm.Free Jvm.Stand Jvm.Pilot.@@N@@.Jvm.D
/-! MADE BY PROGRAM (witnessworld.py) out of the Statement's table words and the real class files: 12 classes; the members and pool entries that the words name. The judged class is class 1, her method 1. -/
namespace start1
open Jvm.ClassFile
def u (s : String) : CpInfo := .utf8 (stringToUtf16 s)
/-- a pool by its gaps: so many unusable entries, then the entry; so many at the end -/
def gap : Nat → List CpInfo → List CpInfo
  | 0, r => r
  | n + 1, r => .unusable :: gap n r
def poolList (es : List (Nat × CpInfo)) (last : Nat) : List CpInfo := es.foldr (fun e r => gap e.1 (e.2 :: r)) (gap last [])
def pool (es : List (Nat × CpInfo)) (last : Nat) : Array CpInfo := ⟨poolList es last⟩
def fileOf (pool : Array CpInfo) (this : Nat) (attrs : Array Attribute := #[]) (ms : Array MethodInfo := #[]) (fl : Nat := 33) (sup : Nat := 0) (ifs : Array Nat := #[]) (fds : Array FieldInfo := #[]) : ClassFile where
  minorVersion := 0
  majorVersion := 65
  constantPool := pool
  accessFlags := fl
  thisClass := this
  superClass := sup
  interfaces := ifs
  fields := fds
  methods := ms
  attributes := attrs
def plain (name : String) (sup : Option ClassId) : Class where
  name := name
  kind := .ordinary
  loader := none
  accessFlags := 33
  super := sup
  interfaces := #[]
  cf := none
  fields := #[]
  methods := #[]
  instanceTypes := #[]
  staticTypes := #[]
  resolved := #[]
  callSites := []
  init := .initialized
  statics := none
  mirror := none

def pool0 : Array CpInfo := pool [(5, u "<init>"), (0, u "()V"), (1, .class_ 10), (1, u "java/lang/Object")] 113

def k0m0 : Method := { name := "<init>", desc := "()V", sig := { parameters := [], returnType := none }, accessFlags := 1, code := none }
/-- java/lang/Object -/
def k0 : Class := { plain "java/lang/Object" none with
  accessFlags := 33
  interfaces := #[]
  cf := some (fileOf pool0 8 #[] #[{ accessFlags := 1, nameIndex := 5, descriptorIndex := 6, attributes := #[] }] 33 0 #[] #[])
  fields := #[]
  methods := #[k0m0]
  instanceTypes := #[]
  staticTypes := #[]
  resolved := Array.replicate 124 none
  statics := none }

def pool1 : Array CpInfo := pool [(2, .class_ 4), (1, u "java/lang/Object"), (0, u "<init>"), (0, u "()V"), (0, .methodref 8 9), (0, .class_ 10), (0, .nameAndType 11 12), (0, u "com/example/fronda/fronda/model/Label"), (0, u "writeText"), (0, u "([III[BI)I"), (0, .methodref 14 15), (0, .class_ 16), (0, .nameAndType 17 18), (0, u "com/example/fronda/fronda/model/LabelWriteTextPinLaw"), (0, u "checkComponent"), (0, u "([BII)Z"), (0, .methodref 14 20), (0, .nameAndType 21 22), (0, u "textLength"), (0, u "(I)I"), (0, .long 10), (1, .long 100), (1, .long 1000), (1, .long 10000), (1, .long 100000), (1, .long 1000000), (1, .long 10000000), (1, .long 100000000), (1, .long 1000000000), (1, .methodref 14 42), (0, .nameAndType 43 44), (0, u "magnitude"), (0, u "(I)J"), (0, .methodref 14 46), (0, .nameAndType 47 48), (0, u "digitCount"), (0, u "(J)I"), (0, .methodref 14 50), (0, .nameAndType 51 44), (0, u "pow10"), (0, .methodref 14 53), (0, .nameAndType 54 55), (0, u "byteOk"), (0, u "([BIII)Z"), (2, u "law"), (0, u "(IIII)Z")] 7

def k1m0 : Method := { name := "<init>", desc := "()V", sig := { parameters := [], returnType := none }, accessFlags := 1, code := none }
def k1c1 : Code := { maxStack := 5, maxLocals := 14, code := code, exceptionTable := #[], attributes := #[] }
def k1m1 : Method := { name := "law", desc := "(IIII)Z", sig := { parameters := [.int, .int, .int, .int], returnType := some .boolean }, accessFlags := 9, code := some k1c1 }
def k1c2 : Code := { maxStack := 2, maxLocals := 1, code := method_3_code, exceptionTable := #[], attributes := #[] }
def k1m2 : Method := { name := "magnitude", desc := "(I)J", sig := { parameters := [.int], returnType := some .long }, accessFlags := 10, code := some k1c2 }
def k1c3 : Code := { maxStack := 4, maxLocals := 2, code := method_4_code, exceptionTable := #[], attributes := #[] }
def k1m3 : Method := { name := "digitCount", desc := "(J)I", sig := { parameters := [.long], returnType := some .int }, accessFlags := 10, code := some k1c3 }
def k1c4 : Code := { maxStack := 3, maxLocals := 1, code := method_5_code, exceptionTable := #[], attributes := #[] }
def k1m4 : Method := { name := "textLength", desc := "(I)I", sig := { parameters := [.int], returnType := some .int }, accessFlags := 10, code := some k1c4 }
def k1c5 : Code := { maxStack := 5, maxLocals := 2, code := method_6_code, exceptionTable := #[], attributes := #[] }
def k1m5 : Method := { name := "pow10", desc := "(I)J", sig := { parameters := [.int], returnType := some .long }, accessFlags := 10, code := some k1c5 }
def k1c6 : Code := { maxStack := 4, maxLocals := 8, code := method_7_code, exceptionTable := #[], attributes := #[] }
def k1m6 : Method := { name := "byteOk", desc := "([BIII)Z", sig := { parameters := [(.array .byte), .int, .int, .int], returnType := some .boolean }, accessFlags := 10, code := some k1c6 }
def k1c7 : Code := { maxStack := 4, maxLocals := 4, code := method_8_code, exceptionTable := #[], attributes := #[] }
def k1m7 : Method := { name := "checkComponent", desc := "([BII)Z", sig := { parameters := [(.array .byte), .int, .int], returnType := some .boolean }, accessFlags := 10, code := some k1c7 }
/-- com/example/fronda/fronda/model/LabelWriteTextPinLaw -/
def k1 : Class := { plain "com/example/fronda/fronda/model/LabelWriteTextPinLaw" (some 0) with
  accessFlags := 49
  interfaces := #[]
  cf := some (fileOf pool1 14 #[] #[{ accessFlags := 1, nameIndex := 5, descriptorIndex := 6, attributes := #[] }, { accessFlags := 9, nameIndex := 58, descriptorIndex := 59, attributes := #[] }, { accessFlags := 10, nameIndex := 43, descriptorIndex := 44, attributes := #[] }, { accessFlags := 10, nameIndex := 47, descriptorIndex := 48, attributes := #[] }, { accessFlags := 10, nameIndex := 21, descriptorIndex := 22, attributes := #[] }, { accessFlags := 10, nameIndex := 51, descriptorIndex := 44, attributes := #[] }, { accessFlags := 10, nameIndex := 54, descriptorIndex := 55, attributes := #[] }, { accessFlags := 10, nameIndex := 17, descriptorIndex := 18, attributes := #[] }] 49 2 #[] #[])
  fields := #[]
  methods := #[k1m0, k1m1, k1m2, k1m3, k1m4, k1m5, k1m6, k1m7]
  instanceTypes := #[]
  staticTypes := #[]
  resolved := Array.replicate 67 none
  statics := none }

def pool2 : Array CpInfo := pool [(1, .class_ 2), (0, u "java/lang/Comparable"), (0, .class_ 4), (0, u "java/lang/Object")] 7

/-- java/lang/Comparable -/
def k2 : Class := { plain "java/lang/Comparable" (some 0) with
  accessFlags := 1537
  interfaces := #[]
  cf := some (fileOf pool2 1 #[] #[] 1537 3 #[] #[])
  fields := #[]
  methods := #[]
  instanceTypes := #[]
  staticTypes := #[]
  resolved := Array.replicate 12 none
  statics := none }

def pool3 : Array CpInfo := pool [(2, .class_ 4), (1, u "java/lang/Object"), (3, .class_ 10), (1, u "com/example/fronda/fronda/model/Label"), (0, u "components"), (0, u "[I"), (89, u "writeText"), (0, u "([III[BI)I"), (9, .fieldref 8 114), (0, .nameAndType 115 12), (0, u "TENS"), (5, .class_ 122), (0, u "java/lang/Comparable"), (0, u "SEPARATOR"), (0, u "B"), (2, u "MAX_DIGITS"), (0, u "I")] 43

def k3c0 : Code := { maxStack := 5, maxLocals := 12, code := prog_96_method_10_code, exceptionTable := #[], attributes := #[] }
def k3m0 : Method := { name := "writeText", desc := "([III[BI)I", sig := { parameters := [(.array .int), .int, .int, (.array .byte), .int], returnType := some .int }, accessFlags := 8, code := some k3c0 }
/-- com/example/fronda/fronda/model/Label -/
def k3 : Class := { plain "com/example/fronda/fronda/model/Label" (some 0) with
  accessFlags := 49
  interfaces := #[2]
  cf := some (fileOf pool3 8 #[] #[{ accessFlags := 8, nameIndex := 102, descriptorIndex := 103, attributes := #[] }] 49 2 #[121] #[{ accessFlags := 26, nameIndex := 123, descriptorIndex := 124, attributes := #[] }, { accessFlags := 26, nameIndex := 127, descriptorIndex := 128, attributes := #[] }, { accessFlags := 26, nameIndex := 115, descriptorIndex := 12, attributes := #[] }, { accessFlags := 18, nameIndex := 11, descriptorIndex := 12, attributes := #[] }])
  fields := #[{ name := "SEPARATOR", type := .byte, accessFlags := 26, slot := 0, constantValue := 0 }, { name := "MAX_DIGITS", type := .int, accessFlags := 26, slot := 1, constantValue := 0 }, { name := "TENS", type := (.array .int), accessFlags := 26, slot := 2, constantValue := 0 }, { name := "components", type := (.array .int), accessFlags := 18, slot := 0, constantValue := 0 }]
  methods := #[k3m0]
  instanceTypes := #[(.array .int)]
  staticTypes := #[.byte, .int, (.array .int)]
  resolved := Array.replicate 172 none
  statics := some 0 }

def pool4 : Array CpInfo := pool [(1, u "java/lang/Cloneable"), (0, .class_ 1), (0, u "java/lang/Object"), (0, .class_ 3)] 3

/-- java/lang/Cloneable -/
def k4 : Class := { plain "java/lang/Cloneable" (some 0) with
  accessFlags := 1537
  interfaces := #[]
  cf := some (fileOf pool4 2 #[] #[] 1537 4 #[] #[])
  fields := #[]
  methods := #[]
  instanceTypes := #[]
  staticTypes := #[]
  resolved := Array.replicate 8 none
  statics := none }

def pool5 : Array CpInfo := pool [(1, u "java/io/Serializable"), (0, .class_ 1), (0, u "java/lang/Object"), (0, .class_ 3)] 3

/-- java/io/Serializable -/
def k5 : Class := { plain "java/io/Serializable" (some 0) with
  accessFlags := 1537
  interfaces := #[]
  cf := some (fileOf pool5 2 #[] #[] 1537 4 #[] #[])
  fields := #[]
  methods := #[]
  instanceTypes := #[]
  staticTypes := #[]
  resolved := Array.replicate 8 none
  statics := none }

/-- the primitive byte -/
def k6 : Class := { plain "byte" none with kind := .primitive 'B', accessFlags := 0x411 }
/-- [B -/
def k7 : Class := { plain "[B" (some 0) with kind := .array 6 .byte, interfaces := #[4, 5], accessFlags := 1041 }

/-- the primitive int -/
def k8 : Class := { plain "int" none with kind := .primitive 'I', accessFlags := 0x411 }
/-- [I -/
def k9 : Class := { plain "[I" (some 0) with kind := .array 8 .int, interfaces := #[4, 5], accessFlags := 1041 }

/-- the primitive long -/
def k10 : Class := { plain "long" none with kind := .primitive 'J', accessFlags := 0x411 }
/-- [J -/
def k11 : Class := { plain "[J" (some 0) with kind := .array 10 .long, interfaces := #[4, 5], accessFlags := 1041 }

def heap : Heap := #[{ cls := 3, slots := #[.int 0, .int 0, .ref 1], vm := .statics 3 },
  { cls := 9, slots := #[.int 1, .int 10, .int 100, .int 1000, .int 10000, .int 100000, .int 1000000, .int 10000000, .int 100000000, .int 1000000000], vm := .none }]
def classes : Array Class := #[k0, k1, k2, k3, k4, k5, k6, k7, k8, k9, k10, k11]
def interned : List (Array UInt16 × Addr) := []
def slotsUsed : Nat := 13
def theMethod : MethodId := ⟨1, 1⟩
def args0 : Array Value := #[.int 5, .int 3, .int 2, .int 1]
def aboutOver (below : List Frame) : State where
  vm := { classes := classes, interned := interned.toArray }
  heap := heap
  slotsUsed := slotsUsed
  threads := #[{ frames := .invoking theMethod args0 :: below }]
def below0 : List Frame := [.native { method := ⟨0, 0⟩, args := #[] }]
def about1 : State := aboutOver below0
def p0 : Program := .bare "" "" ""
def e0 : Env := launch0.env 0 0 0
theorem w_frames : about1.frames = Frame.invoking theMethod args0 :: below0 := rfl
set_option maxRecDepth 65536 in
theorem w_args : argsFit about1.vm theMethod args0 = true := by decide +kernel
set_option maxRecDepth 65536 in
theorem w_heap : heapFits about1 = true := by decide +kernel
set_option maxRecDepth 65536 in
theorem w_runnable : about1.curStatus? = some .runnable := by decide +kernel
set_option maxRecDepth 65536 in
theorem w_alone : about1.alone = true := by decide +kernel
set_option maxRecDepth 65536 in
theorem w_named : about1.methodNamed? x = some theMethod := by decide +kernel
set_option maxRecDepth 65536 in
theorem w_hears : about1.hears theMethod below0 = true := by decide +kernel
set_option maxRecDepth 65536 in
theorem w_ripe : about1.ripe theMethod args0 below0 = true := by decide +kernel
theorem w_running : about1.status = .running := rfl
set_option maxRecDepth 65536 in
theorem w_room : about1.hasRoom e0.platform room_1 = true :=
  launch0.hasRoom_least _ room_1 (by decide +kernel) (by decide +kernel) (by decide +kernel) (by decide +kernel) (by decide +kernel) (by decide +kernel)
theorem allAtoms_all (ts : List Jvm.Cond) (a : Array Jvm.Value) (st : Jvm.State) : (allAtoms ts).before a st = ts.all (fun c => c.before a st) := by
  induction ts with
  | nil => rfl
  | cons c t ih =>
    show (Jvm.Cond.and c (allAtoms t)).before a st = _
    rw [Jvm.Cond.before_and, ih, List.all_cons]
def words1 : List Jvm.Cond := Jvm.Cond.code x code maxLocals ret :: tables_1
/-- a 'code' word, met by the world's own term for the bytes: nothing is compared byte by byte -/
theorem code_word {y : MethodName} {bytes : ByteArray} {mx : Nat} {rt : Option FieldType} {a : Array Value} {s : State} {m : MethodId} {meth : Method} {c : Code} (h1 : s.methodNamed? y = some m) (h2 : s.vm.method? m = some meth) (h3 : meth.code = some c) (h4 : c.code = bytes)
    (h5 : (c.maxLocals == mx && c.exceptionTable.isEmpty && decide (c.maxStack ≤ mostOperands) && decide (meth.sig.returnType = rt) && !meth.locks && decide (parseMethodDescriptor y.desc = some meth.sig)) = true) : (Jvm.Cond.code y bytes mx rt).before a s = true := by
  simp only [Bool.and_eq_true, beq_iff_eq, Bool.not_eq_true', decide_eq_true_eq] at h5
  obtain ⟨⟨⟨⟨⟨g1, g2⟩, g3⟩, g4⟩, g5⟩, g6⟩ := h5
  simp [Cond.before, Cond.holds, Cond.value, h1, h2, h3, h4, g1, g2, g3, g4, g5, g6]
def isCode : Jvm.Cond → Bool
  | .code _ _ _ _ => true
  | _ => false
theorem all_split {L : List Jvm.Cond} {P : Jvm.Cond → Bool} (h1 : L.all (fun c => isCode c || P c) = true) (h2 : ∀ c ∈ L.filter isCode, P c = true) : L.all P = true := by
  refine List.all_eq_true.mpr fun c hc => ?_
  have h := List.all_eq_true.mp h1 c hc
  rcases Bool.eq_false_or_eq_true (isCode c) with hi | hi
  · exact h2 c (List.mem_filter.mpr ⟨hc, hi⟩)
  · simpa [hi] using h
set_option maxRecDepth 65536 in
theorem w_c0 : (Jvm.Cond.code x code maxLocals ret).before args0 about1 = true := code_word (m := ⟨1, 1⟩) (meth := k1m1) (c := k1c1) (by decide +kernel) rfl rfl rfl (by decide +kernel)
set_option maxRecDepth 65536 in
theorem w_c1 : (Jvm.Cond.code ({ cls := "com/example/fronda/fronda/model/Label", name := "writeText", desc := "([III[BI)I" } : Jvm.MethodName) prog_96_method_10_code (12 : Nat) (Option.some Jvm.ClassFile.FieldType.int)).before args0 about1 = true := code_word (m := ⟨3, 0⟩) (meth := k3m0) (c := k3c0) (by decide +kernel) rfl rfl rfl (by decide +kernel)
set_option maxRecDepth 65536 in
theorem w_c2 : (Jvm.Cond.code ({ cls := "com/example/fronda/fronda/model/LabelWriteTextPinLaw", name := "checkComponent", desc := "([BII)Z" } : Jvm.MethodName) method_8_code (4 : Nat) (Option.some Jvm.ClassFile.FieldType.boolean)).before args0 about1 = true := code_word (m := ⟨1, 7⟩) (meth := k1m7) (c := k1c7) (by decide +kernel) rfl rfl rfl (by decide +kernel)
set_option maxRecDepth 65536 in
theorem w_c3 : (Jvm.Cond.code ({ cls := "com/example/fronda/fronda/model/LabelWriteTextPinLaw", name := "byteOk", desc := "([BIII)Z" } : Jvm.MethodName) method_7_code (8 : Nat) (Option.some Jvm.ClassFile.FieldType.boolean)).before args0 about1 = true := code_word (m := ⟨1, 6⟩) (meth := k1m6) (c := k1c6) (by decide +kernel) rfl rfl rfl (by decide +kernel)
set_option maxRecDepth 65536 in
theorem w_c4 : (Jvm.Cond.code ({ cls := "com/example/fronda/fronda/model/LabelWriteTextPinLaw", name := "textLength", desc := "(I)I" } : Jvm.MethodName) method_5_code (1 : Nat) (Option.some Jvm.ClassFile.FieldType.int)).before args0 about1 = true := code_word (m := ⟨1, 4⟩) (meth := k1m4) (c := k1c4) (by decide +kernel) rfl rfl rfl (by decide +kernel)
set_option maxRecDepth 65536 in
theorem w_c5 : (Jvm.Cond.code ({ cls := "com/example/fronda/fronda/model/LabelWriteTextPinLaw", name := "magnitude", desc := "(I)J" } : Jvm.MethodName) method_3_code (1 : Nat) (Option.some Jvm.ClassFile.FieldType.long)).before args0 about1 = true := code_word (m := ⟨1, 2⟩) (meth := k1m2) (c := k1c2) (by decide +kernel) rfl rfl rfl (by decide +kernel)
set_option maxRecDepth 65536 in
theorem w_c6 : (Jvm.Cond.code ({ cls := "com/example/fronda/fronda/model/LabelWriteTextPinLaw", name := "digitCount", desc := "(J)I" } : Jvm.MethodName) method_4_code (2 : Nat) (Option.some Jvm.ClassFile.FieldType.int)).before args0 about1 = true := code_word (m := ⟨1, 3⟩) (meth := k1m3) (c := k1c3) (by decide +kernel) rfl rfl rfl (by decide +kernel)
set_option maxRecDepth 65536 in
theorem w_c7 : (Jvm.Cond.code ({ cls := "com/example/fronda/fronda/model/LabelWriteTextPinLaw", name := "pow10", desc := "(I)J" } : Jvm.MethodName) method_6_code (2 : Nat) (Option.some Jvm.ClassFile.FieldType.long)).before args0 about1 = true := code_word (m := ⟨1, 5⟩) (meth := k1m5) (c := k1c5) (by decide +kernel) rfl rfl rfl (by decide +kernel)
def codes1 : List Jvm.Cond := [Jvm.Cond.code x code maxLocals ret, Jvm.Cond.code ({ cls := "com/example/fronda/fronda/model/Label", name := "writeText", desc := "([III[BI)I" } : Jvm.MethodName) prog_96_method_10_code (12 : Nat) (Option.some Jvm.ClassFile.FieldType.int), Jvm.Cond.code ({ cls := "com/example/fronda/fronda/model/LabelWriteTextPinLaw", name := "checkComponent", desc := "([BII)Z" } : Jvm.MethodName) method_8_code (4 : Nat) (Option.some Jvm.ClassFile.FieldType.boolean), Jvm.Cond.code ({ cls := "com/example/fronda/fronda/model/LabelWriteTextPinLaw", name := "byteOk", desc := "([BIII)Z" } : Jvm.MethodName) method_7_code (8 : Nat) (Option.some Jvm.ClassFile.FieldType.boolean), Jvm.Cond.code ({ cls := "com/example/fronda/fronda/model/LabelWriteTextPinLaw", name := "textLength", desc := "(I)I" } : Jvm.MethodName) method_5_code (1 : Nat) (Option.some Jvm.ClassFile.FieldType.int), Jvm.Cond.code ({ cls := "com/example/fronda/fronda/model/LabelWriteTextPinLaw", name := "magnitude", desc := "(I)J" } : Jvm.MethodName) method_3_code (1 : Nat) (Option.some Jvm.ClassFile.FieldType.long), Jvm.Cond.code ({ cls := "com/example/fronda/fronda/model/LabelWriteTextPinLaw", name := "digitCount", desc := "(J)I" } : Jvm.MethodName) method_4_code (2 : Nat) (Option.some Jvm.ClassFile.FieldType.int), Jvm.Cond.code ({ cls := "com/example/fronda/fronda/model/LabelWriteTextPinLaw", name := "pow10", desc := "(I)J" } : Jvm.MethodName) method_6_code (2 : Nat) (Option.some Jvm.ClassFile.FieldType.long)]
set_option maxRecDepth 65536 in
theorem codes_eq : words1.filter isCode = codes1 := rfl
theorem w_codes : ∀ c ∈ words1.filter isCode, c.before args0 about1 = true := by
  rw [codes_eq]
  intro c hc
  simp only [codes1, List.mem_cons, List.not_mem_nil, or_false] at hc
  rcases hc with rfl | rfl | rfl | rfl | rfl | rfl | rfl | rfl
  · exact w_c0
  · exact w_c1
  · exact w_c2
  · exact w_c3
  · exact w_c4
  · exact w_c5
  · exact w_c6
  · exact w_c7
set_option maxRecDepth 65536 in
theorem w_t1 : (words1.take 24).all (fun c => isCode c || c.before args0 about1) = true := by decide +kernel
set_option maxRecDepth 65536 in
theorem w_t2 : (words1.drop 24).all (fun c => isCode c || c.before args0 about1) = true := by decide +kernel
theorem w_tables : (allAtoms (Jvm.Cond.code x code maxLocals ret :: tables_1)).before args0 about1 = true := by
  rw [allAtoms_all]
  show words1.all (fun c => c.before args0 about1) = true
  refine all_split ?_ w_codes
  rw [← List.take_append_drop 24 words1, List.all_append, w_t1, w_t2]
  rfl
set_option maxRecDepth 65536 in
theorem w_case : (Jvm.Cond.and given_1 narrow_1).before args0 about1 = true := by decide +kernel
theorem w_applies : (headSpec (Jvm.Cond.code x code maxLocals ret :: tables_1) room_1).applies x e0.platform about1 = true :=
  (Spec.applies_iff w_frames).mpr ⟨w_running, w_runnable, w_alone, w_named, w_hears, w_ripe, w_room, w_tables⟩
theorem atStart : AtStart classFile x code maxLocals ret World_1 tables_1 room_1 Calls_1 rest_1 Pre_1 launch0 p0 e0 about1 theMethod args0 below0 :=
  ⟨lists_1, trivial, launch0.admits_env _ _ _, launch0.least_env, fairChoices_fair.cas, fairChoices_fair.clock, w_frames, w_args, w_heap, w_applies, trivial, trivial, w_case⟩
end start1
theorem witness_1 : WitnessClaimed_1 := ⟨start1.p0, start1.e0, start1.about1, start1.theMethod, start1.args0, start1.below0, start1.atStart⟩
end Jvm.Pilot.@@N@@
