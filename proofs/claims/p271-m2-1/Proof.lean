import JvmDerived
import JvmDerived.Pilot.@@N@@Statement
import JvmDerived.Pilot.@@N@@Code
set_option linter.unusedVariables false
set_option linter.unusedSimpArgs false
namespace Jvm.Own
open Sem ClassFile Op Lib Jvm.Stand Jvm.Free Jvm.LawKit Jvm.RoadKit
/-! ## 1. A machine over abstract states: refs are numbers of objects -/
abbrev Ob := Sum (Nat × List Value) (FieldType × List Value)
abbrev AH := List Ob
abbrev Act := List Value → AH → Nat → Nat → Option (List Value × AH × Nat × Nat)
abbrev St := Nat × List Slot × List Value × AH × Nat × Nat
abbrev ORes := Option Value × AH
def il : Instr → Nat
  | .aload _ | .astore _ | .iload _ | .istore _ | .lload _ | .lstore _ | .bipush _ | .ldc _ | .newarray _ => 2
  | .sipush _ | .iinc _ _ | .goto _ | .if_icmp _ _ | .ifCond _ _ | .if_acmp _ _ | .ifnull _ | .ifnonnull _ | .ldc_w _ | .ldc2_w _ | .getfield _ | .putfield _ | .getstatic _ | .putstatic _ | .new _ | .anewarray _ | .checkcast _ | .instanceof _ | .invokestatic _ | .invokespecial _ | .invokevirtual _ => 3
  | .invokeinterface _ _ => 5
  | _ => 1
def dec (code : ByteArray) (pc : Nat) : Option Instr :=
  match decode code pc with
  | .ok (i, len) => if len = il i then some i else none
  | .error _ => none
theorem dec_spec {code : ByteArray} {pc : Nat} {i : Instr} (h : dec code pc = some i) : decode code pc = .ok (i, il i) := by
  unfold dec at h
  split at h
  · rename_i j len hd
    split at h
    · rename_i hl; cases h; rw [hd, hl]
    · cases h
  · cases h
def gI (L : List Slot) (k : Nat) : Option Int32 := match L[k]? with | some (.val (.int v)) => some v | _ => none
def gL (L : List Slot) (k : Nat) : Option Int64 := match L[k]? with | some (.val (.long v)) => some v | _ => none
def gA (L : List Slot) (k : Nat) : Option Value := match L[k]? with | some (.val (.ref a)) => some (.ref a) | some (.val .null) => some .null | _ => none
def st1 (L : List Slot) (k : Nat) (v : Value) : Option (List Slot) := match L[k]? with
  | some .unset => some (L.set k (.val v))
  | some (.val (.int _)) => some (L.set k (.val v))
  | some (.val (.ref _)) => some (L.set k (.val v))
  | some (.val .null) => some (L.set k (.val v))
  | _ => none
def st2 (L : List Slot) (k : Nat) (x : Int64) : Option (List Slot) := match L[k]?, L[k + 1]? with
  | some .unset, some .unset => some ((L.set k (.val (.long x))).set (k + 1) .second)
  | some (.val (.long _)), some .second => some ((L.set k (.val (.long x))).set (k + 1) .second)
  | _, _ => none
def pI : List Value → (Int32 → List Value → Option ORes) → Option ORes | .int x :: r, f => f x r | _, _ => none
def pL : List Value → (Int64 → List Value → Option ORes) → Option ORes | .long x :: r, f => f x r | _, _ => none
def pA : List Value → (Value → List Value → Option ORes) → Option ORes | .ref a :: r, f => f (.ref a) r | .null :: r, f => f .null r | _, _ => none
def pR : List Value → (Nat → List Value → Option ORes) → Option ORes | .ref a :: r, f => f a r | _, _ => none
def p1 : List Value → (Value → List Value → Option ORes) → Option ORes | .int a :: r, f => f (.int a) r | .ref a :: r, f => f (.ref a) r | .null :: r, f => f .null r | _, _ => none
def br (b : Bool) (pc : Nat) (o : Int) (f : Nat → Option ORes) : Option ORes := if 0 ≤ (pc : Int) + o then (bif b then f ((pc : Int) + o).toNat else f (pc + 3)) else none
def arr (H : AH) (k : Nat) : Option (FieldType × List Value) := match H[k]? with | some (.inr q) => some q | _ => none
def ald (ok : FieldType → Bool) (S : List Value) (H : AH) (f : Value → List Value → Option ORes) : Option ORes :=
  pI S fun j S => pR S fun a r => (arr H a).bind fun q => if ok q.1 = true ∧ ¬ j < 0 then (q.2[j.toNatClampNeg]?).bind fun v => f v r else none
def ast (ok : FieldType → Bool) (x0 : Nat) (S : List Value) (H : AH) (f : List Value → AH → Option ORes) : Option ORes :=
  pI S fun x S => pI S fun j S => pR S fun a r => (arr H a).bind fun q => if ok q.1 = true ∧ ¬ j < 0 ∧ j.toNatClampNeg < q.2.length ∧ x0 ≤ a then f r (H.set a (.inr (q.1, q.2.set j.toNatClampNeg (.int (nar q.1 x))))) else none
def astL (x0 : Nat) (S : List Value) (H : AH) (f : List Value → AH → Option ORes) : Option ORes :=
  pL S fun x S => pI S fun j S => pR S fun a r => (arr H a).bind fun q => if q.1 = .long ∧ ¬ j < 0 ∧ j.toNatClampNeg < q.2.length ∧ x0 ≤ a then f r (H.set a (.inr (q.1, q.2.set j.toNatClampNeg (.long x)))) else none
def isT (t u : FieldType) : Bool := decide (u = t)
def isBZ : FieldType → Bool | .byte => true | .boolean => true | _ => false
def rI (rt : Option FieldType) (S : List Value) (H : AH) : Option ORes := pI S fun z _ => match rt with
  | some .int => some (some (.int z), H)
  | some .boolean => some (some (.int (z &&& 1)), H)
  | some .byte => some (some (.int z.toInt8.toInt32), H)
  | some .char => some (some (.int z.toUInt32.toUInt16.toUInt32.toInt32), H)
  | some .short => some (some (.int z.toInt16.toInt32), H)
  | _ => none
def rL (rt : Option FieldType) (S : List Value) (H : AH) : Option ORes := pL S fun z _ => match rt with | some .long => some (some (.long z), H) | _ => none
def rA (rt : Option FieldType) (S : List Value) (H : AH) : Option ORes := pA S fun z _ => match rt with | some (.object _) => some (some z, H) | some (.array _) => some (some z, H) | _ => none
def rV (rt : Option FieldType) (S : List Value) (H : AH) : Option ORes := match rt, S with | none, [] => some (none, H) | _, _ => none
def look (q i : Nat) : List (Nat × Nat × Act) → Option Act
  | [] => none
  | x :: r => if x.1 = q ∧ x.2.1 = i then some x.2.2 else look q i r
def spc (E : List (Nat × Nat × Act)) (q i : Nat) (S : List Value) (H : AH) (cs ss : Nat) (f : List Value → AH → Nat → Nat → Option ORes) : Option ORes :=
  (look q i E).bind fun act => (act S H cs ss).bind fun r => f r.1 r.2.1 r.2.2.1 r.2.2.2
def atn : ArrayType → Nat | .boolean => 0 | .char => 1 | .float => 2 | .double => 3 | .byte => 4 | .short => 5 | .int => 6 | .long => 7
def aty : Nat → ArrayType | 0 => .boolean | 1 => .char | 2 => .float | 3 => .double | 4 => .byte | 5 => .short | 6 => .int | _ => .long
def insOf (q i : Nat) : Instr := match q with
  | 0 => .ldc i | 1 => .ldc_w i | 2 => .ldc2_w i | 3 => .getfield i | 4 => .putfield i | 5 => .getstatic i | 6 => .new i | 7 => .invokestatic i | 8 => .invokespecial i | 9 => .invokevirtual i
  | 10 => .checkcast i | 11 => .instanceof i | 12 => .anewarray i | 13 => .newarray (aty i) | _ => .putstatic i
def refEq : Value → Value → Bool | .ref a, .ref b => decide (a = b) | .null, .null => true | _, _ => false
def ex (rt : Option FieldType) (E : List (Nat × Nat × Act)) (x0 : Nat) (k : St → Option ORes) (i : Instr) (pc : Nat) (L : List Slot) (S : List Value) (H : AH) (cs ss : Nat) : Option ORes := match i with
  | .iload n => (gI L n).bind fun v => k (pc + 2, L, .int v :: S, H, cs, ss)
  | .iload_n n => (gI L n.val).bind fun v => k (pc + 1, L, .int v :: S, H, cs, ss)
  | .lload n => (gL L n).bind fun v => k (pc + 2, L, .long v :: S, H, cs, ss)
  | .lload_n n => (gL L n.val).bind fun v => k (pc + 1, L, .long v :: S, H, cs, ss)
  | .aload n => (gA L n).bind fun v => k (pc + 2, L, v :: S, H, cs, ss)
  | .aload_n n => (gA L n.val).bind fun v => k (pc + 1, L, v :: S, H, cs, ss)
  | .istore n => pI S fun x r => (st1 L n (.int x)).bind fun L' => k (pc + 2, L', r, H, cs, ss)
  | .istore_n n => pI S fun x r => (st1 L n.val (.int x)).bind fun L' => k (pc + 1, L', r, H, cs, ss)
  | .lstore n => pL S fun x r => (st2 L n x).bind fun L' => k (pc + 2, L', r, H, cs, ss)
  | .lstore_n n => pL S fun x r => (st2 L n.val x).bind fun L' => k (pc + 1, L', r, H, cs, ss)
  | .astore n => pA S fun x r => (st1 L n x).bind fun L' => k (pc + 2, L', r, H, cs, ss)
  | .astore_n n => pA S fun x r => (st1 L n.val x).bind fun L' => k (pc + 1, L', r, H, cs, ss)
  | .iinc n c => (gI L n).bind fun v => (st1 L n (.int (v + Int32.ofInt c))).bind fun L' => k (pc + 3, L', S, H, cs, ss)
  | .iconst c => k (pc + 1, L, .int (Int32.ofInt c) :: S, H, cs, ss)
  | .bipush c => k (pc + 2, L, .int (Int8.ofInt c).toInt32 :: S, H, cs, ss)
  | .sipush c => k (pc + 3, L, .int (Int16.ofInt c).toInt32 :: S, H, cs, ss)
  | .lconst c => k (pc + 1, L, .long (Int64.ofNat c) :: S, H, cs, ss)
  | .aconst_null => k (pc + 1, L, .null :: S, H, cs, ss)
  | .iadd => pI S fun y S => pI S fun x r => k (pc + 1, L, .int (x + y) :: r, H, cs, ss)
  | .isub => pI S fun y S => pI S fun x r => k (pc + 1, L, .int (x - y) :: r, H, cs, ss)
  | .imul => pI S fun y S => pI S fun x r => k (pc + 1, L, .int (x * y) :: r, H, cs, ss)
  | .iand => pI S fun y S => pI S fun x r => k (pc + 1, L, .int (x &&& y) :: r, H, cs, ss)
  | .ior => pI S fun y S => pI S fun x r => k (pc + 1, L, .int (x ||| y) :: r, H, cs, ss)
  | .ixor => pI S fun y S => pI S fun x r => k (pc + 1, L, .int (x ^^^ y) :: r, H, cs, ss)
  | .ishl => pI S fun y S => pI S fun x r => k (pc + 1, L, .int (x <<< (y &&& 31)) :: r, H, cs, ss)
  | .ishr => pI S fun y S => pI S fun x r => k (pc + 1, L, .int (x >>> (y &&& 31)) :: r, H, cs, ss)
  | .iushr => pI S fun y S => pI S fun x r => k (pc + 1, L, .int ((x.toUInt32 >>> (y &&& 31).toUInt32).toInt32) :: r, H, cs, ss)
  | .idiv => pI S fun y S => pI S fun x r => if y = 0 then none else k (pc + 1, L, .int (x / y) :: r, H, cs, ss)
  | .irem => pI S fun y S => pI S fun x r => if y = 0 then none else k (pc + 1, L, .int (x % y) :: r, H, cs, ss)
  | .ineg => pI S fun x r => k (pc + 1, L, .int (-x) :: r, H, cs, ss)
  | .i2b => pI S fun x r => k (pc + 1, L, .int x.toInt8.toInt32 :: r, H, cs, ss)
  | .i2c => pI S fun x r => k (pc + 1, L, .int x.toUInt32.toUInt16.toUInt32.toInt32 :: r, H, cs, ss)
  | .i2s => pI S fun x r => k (pc + 1, L, .int x.toInt16.toInt32 :: r, H, cs, ss)
  | .i2l => pI S fun x r => k (pc + 1, L, .long x.toInt64 :: r, H, cs, ss)
  | .l2i => pL S fun x r => k (pc + 1, L, .int x.toInt32 :: r, H, cs, ss)
  | .lneg => pL S fun x r => k (pc + 1, L, .long (-x) :: r, H, cs, ss)
  | .ladd => pL S fun y S => pL S fun x r => k (pc + 1, L, .long (x + y) :: r, H, cs, ss)
  | .lsub => pL S fun y S => pL S fun x r => k (pc + 1, L, .long (x - y) :: r, H, cs, ss)
  | .lmul => pL S fun y S => pL S fun x r => k (pc + 1, L, .long (x * y) :: r, H, cs, ss)
  | .land => pL S fun y S => pL S fun x r => k (pc + 1, L, .long (x &&& y) :: r, H, cs, ss)
  | .lor => pL S fun y S => pL S fun x r => k (pc + 1, L, .long (x ||| y) :: r, H, cs, ss)
  | .lxor => pL S fun y S => pL S fun x r => k (pc + 1, L, .long (x ^^^ y) :: r, H, cs, ss)
  | .lshl => pI S fun y S => pL S fun x r => k (pc + 1, L, .long (x <<< (y &&& 0x3f).toInt64) :: r, H, cs, ss)
  | .lshr => pI S fun y S => pL S fun x r => k (pc + 1, L, .long (x >>> (y &&& 0x3f).toInt64) :: r, H, cs, ss)
  | .lushr => pI S fun y S => pL S fun x r => k (pc + 1, L, .long ((x.toUInt64 >>> (y &&& 0x3f).toInt64.toUInt64).toInt64) :: r, H, cs, ss)
  | .ldiv => pL S fun y S => pL S fun x r => if y = 0 then none else k (pc + 1, L, .long (x / y) :: r, H, cs, ss)
  | .lrem => pL S fun y S => pL S fun x r => if y = 0 then none else k (pc + 1, L, .long (x % y) :: r, H, cs, ss)
  | .lcmp => pL S fun y S => pL S fun x r => k (pc + 1, L, .int (lcmpW x y) :: r, H, cs, ss)
  | .dup => p1 S fun v r => k (pc + 1, L, v :: v :: r, H, cs, ss)
  | .pop => p1 S fun _ r => k (pc + 1, L, r, H, cs, ss)
  | .dup_x1 => p1 S fun x S => p1 S fun y r => k (pc + 1, L, x :: y :: x :: r, H, cs, ss)
  | .dup2 => p1 S fun x S => p1 S fun y r => k (pc + 1, L, x :: y :: x :: y :: r, H, cs, ss)
  | .goto o => if 0 ≤ (pc : Int) + o then k (((pc : Int) + o).toNat, L, S, H, cs, ss) else none
  | .ifCond cd o => pI S fun x r => br (ifCond.holds cd x) pc o fun q => k (q, L, r, H, cs, ss)
  | .if_icmp cd o => pI S fun y S => pI S fun x r => br (if_icmp.holds cd x y) pc o fun q => k (q, L, r, H, cs, ss)
  | .ifnull o => pA S fun v r => br (refEq v .null) pc o fun q => k (q, L, r, H, cs, ss)
  | .ifnonnull o => pA S fun v r => br (!refEq v .null) pc o fun q => k (q, L, r, H, cs, ss)
  | .if_acmp cd o => pA S fun y S => pA S fun x r => br (acV cd (refEq x y)) pc o fun q => k (q, L, r, H, cs, ss)
  | .arraylength => pR S fun a r => (arr H a).bind fun q => k (pc + 1, L, .int q.2.length.toInt32 :: r, H, cs, ss)
  | .iaload => ald (isT .int) S H fun v r => k (pc + 1, L, v :: r, H, cs, ss)
  | .baload => ald isBZ S H fun v r => k (pc + 1, L, v :: r, H, cs, ss)
  | .caload => ald (isT .char) S H fun v r => k (pc + 1, L, v :: r, H, cs, ss)
  | .laload => ald (isT .long) S H fun v r => k (pc + 1, L, v :: r, H, cs, ss)
  | .aaload => ald FieldType.isReference S H fun v r => k (pc + 1, L, v :: r, H, cs, ss)
  | .iastore => ast (isT .int) x0 S H fun r H' => k (pc + 1, L, r, H', cs, ss)
  | .bastore => ast (isT .byte) x0 S H fun r H' => k (pc + 1, L, r, H', cs, ss)
  | .castore => ast (isT .char) x0 S H fun r H' => k (pc + 1, L, r, H', cs, ss)
  | .lastore => astL x0 S H fun r H' => k (pc + 1, L, r, H', cs, ss)
  | .ldc i => spc E 0 i S H cs ss fun S' H' cs' ss' => k (pc + 2, L, S', H', cs', ss')
  | .ldc_w i => spc E 1 i S H cs ss fun S' H' cs' ss' => k (pc + 3, L, S', H', cs', ss')
  | .ldc2_w i => spc E 2 i S H cs ss fun S' H' cs' ss' => k (pc + 3, L, S', H', cs', ss')
  | .getfield i => spc E 3 i S H cs ss fun S' H' cs' ss' => k (pc + 3, L, S', H', cs', ss')
  | .putfield i => spc E 4 i S H cs ss fun S' H' cs' ss' => k (pc + 3, L, S', H', cs', ss')
  | .getstatic i => spc E 5 i S H cs ss fun S' H' cs' ss' => k (pc + 3, L, S', H', cs', ss')
  | .new i => spc E 6 i S H cs ss fun S' H' cs' ss' => k (pc + 3, L, S', H', cs', ss')
  | .invokestatic i => spc E 7 i S H cs ss fun S' H' cs' ss' => k (pc + 3, L, S', H', cs', ss')
  | .invokespecial i => spc E 8 i S H cs ss fun S' H' cs' ss' => k (pc + 3, L, S', H', cs', ss')
  | .invokevirtual i => spc E 9 i S H cs ss fun S' H' cs' ss' => k (pc + 3, L, S', H', cs', ss')
  | .checkcast i => spc E 10 i S H cs ss fun S' H' cs' ss' => k (pc + 3, L, S', H', cs', ss')
  | .instanceof i => spc E 11 i S H cs ss fun S' H' cs' ss' => k (pc + 3, L, S', H', cs', ss')
  | .anewarray i => spc E 12 i S H cs ss fun S' H' cs' ss' => k (pc + 3, L, S', H', cs', ss')
  | .newarray t => spc E 13 (atn t) S H cs ss fun S' H' cs' ss' => k (pc + 2, L, S', H', cs', ss')
  | .ireturn => rI rt S H
  | .lreturn => rL rt S H
  | .areturn => rA rt S H
  | .return_ => rV rt S H
  | _ => none
def orun (code : ByteArray) (rt : Option FieldType) (E : List (Nat × Nat × Act)) (x0 : Nat) : Nat → St → Option ORes
  | 0, _ => none
  | n + 1, s => (dec code s.1).bind fun i => ex rt E x0 (orun code rt E x0 n) i s.1 s.2.1 s.2.2.1 s.2.2.2.1 s.2.2.2.2.1 s.2.2.2.2.2
theorem orun_succ {code : ByteArray} {rt : Option FieldType} {E : List (Nat × Nat × Act)} {x0 n pc : Nat} {L : List Slot} {S : List Value} {H : AH} {cs ss : Nat} :
    orun code rt E x0 (n + 1) (pc, L, S, H, cs, ss) = (dec code pc).bind fun i => ex rt E x0 (orun code rt E x0 n) i pc L S H cs ss := rfl
/-! ## 2. What an abstract state stands for -/
def cv (σ : Nat → Nat) : Value → Value | .ref k => .ref (σ k) | v => v
def csl (σ : Nat → Nat) : Slot → Slot | .val v => .val (cv σ v) | x => x
def cL (σ : Nat → Nat) (L : List Slot) : Array Slot := (L.map (csl σ)).toArray
abbrev CD := String × List (String × String × String)
def RepO (Z : State) (σ : Nat → Nat) (K : List CD) (h : Heap) (a : Addr) : Ob → Prop
  | .inl (c, vs) => ∃ C fs, K[c]? = some (C, fs) ∧ Exa Z h a C ∧ ∀ (j : Nat) (v : Value), vs[j]? = some v → ∃ O n d, fs[j]? = some (O, n, d) ∧ Fld Z h a O n d (cv σ v)
  | .inr (ty, vs) => ∃ cell : Cell, Arr Z h a cell ty ∧ cell.slots = (vs.map (cv σ)).toArray ∧ vs.length < 2 ^ 31 ∧ (∀ v ∈ vs, fits ty v = true) ∧ (Z.heap.size ≤ a → Exa Z h a ("[" ++ ty.toString))
def Rep (Z : State) (σ : Nat → Nat) (x0 n0 : Nat) (K : List CD) (h : Heap) (H : AH) : Prop :=
  h.size + x0 = n0 + H.length ∧ x0 ≤ H.length ∧ Old Z n0 h ∧ ∀ (k : Nat) (o : Ob), H[k]? = some o → RepO Z σ K h (σ k) o
def Sg (σ : Nat → Nat) (x0 n0 : Nat) : Prop := (∀ k, x0 ≤ k → σ k + x0 = n0 + k) ∧ (∀ i, i < x0 → σ i < n0) ∧ ∀ i j, i < x0 → j < x0 → σ i = σ j → i = j
theorem Sg.inj {σ : Nat → Nat} {x0 n0 i j : Nat} (h : Sg σ x0 n0) (e : σ i = σ j) : i = j := by
  obtain ⟨h1, h2, h3⟩ := h
  rcases Nat.lt_or_ge i x0 with a | a <;> rcases Nat.lt_or_ge j x0 with b | b
  · exact h3 i j a b e
  · have := h2 i a; have := h1 j b; omega
  · have := h2 j b; have := h1 i a; omega
  · have := h1 i a; have := h1 j b; omega
theorem Sg.new {σ : Nat → Nat} {x0 n0 k : Nat} (h : Sg σ x0 n0) (q : x0 ≤ k) : n0 ≤ σ k := by have := h.1 k q; omega
def KOk (Z : State) (a0 : Array Value) (K : List CD) : Prop := ∀ (c : Nat) (C : String) (fs : List (String × String × String)), K[c]? = some (C, fs) →
  (∃ kk, (Jvm.Cond.instantiable C kk).before a0 Z = true) ∧ (∀ (i : Nat) (f : String × String × String), fs[i]? = some f → Laid Z a0 C f.1 f.2.1 f.2.2 ∧ ∃ ty, parseFieldDescriptor f.2.2 = some ty) ∧
  ∀ (i j : Nat) (f g : String × String × String), fs[i]? = some f → fs[j]? = some g → f.2.1 = g.2.1 → i = j
section Reps
variable {Z : State} {σ : Nat → Nat} {x0 n0 : Nat} {K : List CD} {h h' : Heap} {H : AH} {a0 : Array Value}
theorem RepO.ext {a : Addr} {o : Ob} (E : Ext h h') (R : RepO Z σ K h a o) : RepO Z σ K h' a o := by
  rcases o with ⟨c, vs⟩ | ⟨ty, vs⟩
  · obtain ⟨C, fs, h1, h2, h3⟩ := R
    exact ⟨C, fs, h1, h2.ext E, fun j v q => by obtain ⟨O, n, d, q1, q2⟩ := h3 j v q; exact ⟨O, n, d, q1, q2.ext E⟩⟩
  · obtain ⟨cell, h1, h2, h3, h4, h5⟩ := R
    exact ⟨cell, h1.ext E, h2, h3, h4, fun q => (h5 q).ext E⟩
theorem RepO.other {a b : Addr} {o : Ob} {sl : Nat} {v : Value} (W : Wr h h' a sl v) (R : RepO Z σ K h b o) (ne : b ≠ a) : RepO Z σ K h' b o := by
  rcases o with ⟨c, vs⟩ | ⟨ty, vs⟩
  · obtain ⟨C, fs, h1, h2, h3⟩ := R
    exact ⟨C, fs, h1, h2.wr W, fun j v q => by obtain ⟨O, n, d, q1, q2⟩ := h3 j v q; exact ⟨O, n, d, q1, q2.other W (Or.inl ne)⟩⟩
  · obtain ⟨cell, h1, h2, h3, h4, h5⟩ := R
    exact ⟨cell, h1.other W ne, h2, h3, h4, fun q => (h5 q).wr W⟩
theorem Rep.push (R : Rep Z σ x0 n0 K h H) (E : Ext h h') (hs : h'.size = h.size + 1) {o : Ob} (ho : RepO Z σ K h' (σ H.length) o) : Rep Z σ x0 n0 K h' (H ++ [o]) := by
  obtain ⟨r1, r2, r3, r4⟩ := R
  refine ⟨by rw [hs]; simp; omega, by simp; omega, r3.ext E, fun k o' q => ?_⟩
  rcases Nat.lt_trichotomy k H.length with a | a | a
  · rw [List.getElem?_append_left a] at q; exact (r4 k o' q).ext E
  · subst a; simp at q; subst q; exact ho
  · rw [List.getElem?_append_right (Nat.le_of_lt a), List.getElem?_eq_none (by simp; omega)] at q; cases q
theorem Rep.addr (S : Sg σ x0 n0) (R : Rep Z σ x0 n0 K h H) : σ H.length = h.size := by have := S.1 H.length R.2.1; have := R.1; omega
theorem Rep.write (S : Sg σ x0 n0) (R : Rep Z σ x0 n0 K h H) {k sl : Nat} {v : Value} {o : Ob} (hk : x0 ≤ k) (W : Wr h h' (σ k) sl v) (ho : RepO Z σ K h' (σ k) o) : Rep Z σ x0 n0 K h' (H.set k o) := by
  obtain ⟨r1, r2, r3, r4⟩ := R
  refine ⟨by rw [W.size]; simpa using r1, by simpa using r2, r3.wr W (S.new hk), fun j o' q => ?_⟩
  by_cases e : k = j
  · subst e
    by_cases hl : k < H.length
    · rw [List.getElem?_set_self hl] at q; cases q; exact ho
    · rw [List.getElem?_eq_none (by simp; omega)] at q; cases q
  · rw [List.getElem?_set_ne e] at q
    exact (r4 j o' q).other W fun u => e (S.inj u).symm
theorem cv_fits (ty : FieldType) (v : Value) : fits ty (cv σ v) = fits ty v := by cases v <;> first | rfl | (cases ty <;> rfl)
theorem RepO.fld (KO : KOk Z a0 K) {a : Addr} {c j : Nat} {vs : List Value} {v : Value} {C O n d : String} {fs : List (String × String × String)} (hC : K[c]? = some (C, fs)) (hj : fs[j]? = some (O, n, d)) (R : RepO Z σ K h a (.inl (c, vs))) (W : Wr h h' a (Jvm.RoadKit.slotOf Z O n d) (cv σ v)) : RepO Z σ K h' a (.inl (c, vs.set j v)) := by
  obtain ⟨C', fs', h1, h2, h3⟩ := R
  cases hC.symm.trans h1
  obtain ⟨-, k2, k3⟩ := KO c C fs hC
  refine ⟨C, fs, hC, h2.wr W, fun i w q => ?_⟩
  by_cases e : j = i
  · subst e
    by_cases hl : j < vs.length
    · rw [List.getElem?_set_self hl] at q; cases q
      obtain ⟨O', n', d', q1, q2⟩ := h3 j _ (List.getElem?_eq_getElem hl)
      cases hj.symm.trans q1
      exact ⟨O, n, d, hj, q2.same W⟩
    · rw [List.getElem?_eq_none (by simp; omega)] at q; cases q
  · rw [List.getElem?_set_ne e] at q
    obtain ⟨O', n', d', q1, q2⟩ := h3 i w q
    obtain ⟨l1, t1, p1⟩ := k2 j _ hj
    obtain ⟨l2, t2, p2⟩ := k2 i _ q1
    exact ⟨O', n', d', q1, q2.other W (Or.inr (slot_ne l2 l1 (fun u => e (k3 j i _ _ hj q1 u.symm)) p2 p1))⟩
theorem RepO.arr {a : Addr} {i : Nat} {ty : FieldType} {vs : List Value} {v : Value} (R : RepO Z σ K h a (.inr (ty, vs))) (hf : fits ty v = true) (W : Wr h h' a i (cv σ v)) : RepO Z σ K h' a (.inr (ty, vs.set i v)) := by
  obtain ⟨cell, h1, h2, h3, h4, h5⟩ := R
  refine ⟨_, h1.same W, ?_, by simpa using h3, fun w hw => ?_, fun q => (h5 q).wr W⟩
  · simp [Cell.setSlot, h2]
  · rcases List.mem_or_eq_of_mem_set hw with q | rfl
    · exact h4 w q
    · exact hf
theorem arr_some {H : AH} {k : Nat} {q : FieldType × List Value} (e : arr H k = some q) : H[k]? = some (.inr q) := by
  unfold arr at e; split at e
  · rename_i q' hq; cases e; exact hq
  · cases e
end Reps
/-! ## 3. One step of the machine is a orun of the JVM -/
section Sound
def Good (p : Program) (l : Launch) (e : Env) (R : Room) (s : State) (m : MethodId) (args : Array Value) (below : List Frame) (meth : Method) (c : Code) (Z : State) (σ : Nat → Nat) (x0 n0 : Nat) (K : List CD) (i : Instr) (act : Act) : Prop :=
  ∀ (T : State) (locs : List Loc) (cs ss pc : Nat) (L : List Slot) (S : List Value) (H : AH) (S' : List Value) (H' : AH) (cs' ss' : Nat), Stand p l e R s m args below meth c T locs cs ss → decode c.code pc = .ok (i, il i) → L.length = c.maxLocals → Rep Z σ x0 n0 K T.heap H → Fr n0 locs → cs ≤ R.cells ∧ ss ≤ R.slots → act S H cs ss = some (S', H', cs', ss') →
    ∃ T' locs', Stand p l e R s m args below meth c T' locs' cs' ss' ∧ Rep Z σ x0 n0 K T'.heap H' ∧ Fr n0 locs' ∧ (cs' ≤ R.cells ∧ ss' ≤ R.slots) ∧ ∀ target, Steps p.tables e below (T'.setTop (mkF m (pc + il i) (cL σ L) (S'.map (cv σ)))) target → Steps p.tables e below (T.setTop (mkF m pc (cL σ L) (S.map (cv σ)))) target
def AllGood (p : Program) (l : Launch) (e : Env) (R : Room) (s : State) (m : MethodId) (args : Array Value) (below : List Frame) (meth : Method) (c : Code) (Z : State) (σ : Nat → Nat) (x0 n0 : Nat) (K : List CD) : List (Nat × Nat × Act) → Prop
  | [] => True
  | x :: r => Good p l e R s m args below meth c Z σ x0 n0 K (insOf x.1 x.2.1) x.2.2 ∧ AllGood p l e R s m args below meth c Z σ x0 n0 K r
/-- the end: it has returned v, over the heap H' -/
def Done (p : Program) (e : Env) (R : Room) (s : State) (below : List Frame) (Z : State) (σ : Nat → Nat) (x0 n0 : Nat) (K : List CD) (r : ORes) (T : State) (g : JFrame) : Prop :=
  ∃ t, Steps p.tables e below (T.setTop g) t ∧ t.status = .running ∧ Ended t below (.returned (r.1.map (cv σ))) ∧ Rep Z σ x0 n0 K t.heap r.2 ∧ ∃ L, Fr n0 L ∧ s.WarmedH t.vm ∧ s.sameButNew ({ t with vm := s.vm } : State) L R.cells R.slots
variable {p : Program} {l : Launch} {e : Env} {R : Room} {s : State} {m : MethodId} {args : Array Value} {below : List Frame} {meth : Method} {c : Code} {Z : State} {σ : Nat → Nat} {x0 n0 : Nat} {K : List CD}
theorem look_good {E : List (Nat × Nat × Act)} {q i : Nat} {act : Act} (h : AllGood p l e R s m args below meth c Z σ x0 n0 K E) (hl : look q i E = some act) : Good p l e R s m args below meth c Z σ x0 n0 K (insOf q i) act := by
  induction E with
  | nil => cases hl
  | cons x r ih =>
    unfold look at hl
    split at hl
    · rename_i hq; cases hl; obtain ⟨rfl, rfl⟩ := hq; exact h.1
    · exact ih h.2 hl
theorem Done.step {r : ORes} {T T' : State} {g g' : JFrame} (D : Done p e R s below Z σ x0 n0 K r T' g') (st : ∀ target, Steps p.tables e below (T'.setTop g') target → Steps p.tables e below (T.setTop g) target) : Done p e R s below Z σ x0 n0 K r T g := by
  obtain ⟨t, h1, h2⟩ := D; exact ⟨t, st _ h1, h2⟩
theorem gI_ok {L : List Slot} {k : Nat} {v : Int32} (h : gI L k = some v) : (cL σ L)[k]? = some (.val (.int v)) := by
  unfold gI at h; split at h
  · rename_i w hw; cases h; simp [cL, hw, csl, cv]
  · cases h
theorem gL_ok {L : List Slot} {k : Nat} {v : Int64} (h : gL L k = some v) : (cL σ L)[k]? = some (.val (.long v)) := by
  unfold gL at h; split at h
  · rename_i w hw; cases h; simp [cL, hw, csl, cv]
  · cases h
theorem gA_ok {L : List Slot} {k : Nat} {v : Value} (h : gA L k = some v) : (cL σ L)[k]? = some (.val (cv σ v)) ∧ (cv σ v).isRef = true := by
  unfold gA at h; split at h
  · rename_i w hw; cases h; simp [cL, hw, csl, cv, Value.isRef]
  · rename_i hw; cases h; simp [cL, hw, csl, cv, Value.isRef]
  · cases h
theorem st1_ok {L L' : List Slot} {k : Nat} {v : Value} (h : st1 L k v = some L') (hv : v.category = 1) : storeLocals (cL σ L) k (cv σ v) = some (cL σ L') ∧ L'.length = L.length := by
  have hv' : (cv σ v).category = 1 := by cases v <;> first | rfl | exact hv
  have key : ∀ o : Slot, L[k]? = some o → One (csl σ o) → L' = L.set k (.val v) → storeLocals (cL σ L) k (cv σ v) = some (cL σ L') ∧ L'.length = L.length := by
    intro o ho h1 e
    subst e
    refine ⟨?_, by simp⟩
    rw [XS.store1 (o := csl σ o) (by simp [cL, ho]) h1 hv']
    simp [cL, csl, List.map_set]
  unfold st1 at h; split at h <;> first | cases h | skip
  all_goals (rename_i ho; exact key _ ho (by first | exact One.u | exact One.val rfl) rfl)
theorem st2_ok {L L' : List Slot} {k : Nat} {x : Int64} (h : st2 L k x = some L') : storeLocals (cL σ L) k (.long x) = some (cL σ L') ∧ L'.length = L.length := by
  unfold st2 at h; split at h
  · rename_i h1 h2
    cases h
    refine ⟨?_, by simp⟩
    obtain ⟨b1, g1⟩ := List.getElem?_eq_some_iff.mp h1
    obtain ⟨b2, g2⟩ := List.getElem?_eq_some_iff.mp h2
    simp [storeLocals, storeSelf, setAt, cL, csl, cv, h1, h2, b1, b2, g1, g2, Value.category, List.map_set, List.getElem?_set]
  · rename_i y h1 h2
    cases h
    refine ⟨?_, by simp⟩
    obtain ⟨b1, g1⟩ := List.getElem?_eq_some_iff.mp h1
    obtain ⟨b2, g2⟩ := List.getElem?_eq_some_iff.mp h2
    simp [storeLocals, storeSelf, setAt, cL, csl, cv, h1, h2, b1, b2, g1, g2, Value.category, List.map_set, List.getElem?_set]
    rw [List.set_comm _ _ (show k + 1 ≠ k by omega), List.set_set]
  · cases h
theorem pI_ok {S : List Value} {f : Int32 → List Value → Option ORes} {r : ORes} (h : pI S f = some r) : ∃ x S', S = .int x :: S' ∧ f x S' = some r := by
  unfold pI at h; split at h
  · exact ⟨_, _, rfl, h⟩
  · cases h
theorem pL_ok {S : List Value} {f : Int64 → List Value → Option ORes} {r : ORes} (h : pL S f = some r) : ∃ x S', S = .long x :: S' ∧ f x S' = some r := by
  unfold pL at h; split at h
  · exact ⟨_, _, rfl, h⟩
  · cases h
theorem pR_ok {S : List Value} {f : Nat → List Value → Option ORes} {r : ORes} (h : pR S f = some r) : ∃ x S', S = .ref x :: S' ∧ f x S' = some r := by
  unfold pR at h; split at h
  · exact ⟨_, _, rfl, h⟩
  · cases h
theorem pA_ok {S : List Value} {f : Value → List Value → Option ORes} {r : ORes} (h : pA S f = some r) : ∃ x S', S = x :: S' ∧ f x S' = some r ∧ (x = .null ∨ ∃ a, x = .ref a) := by
  unfold pA at h; split at h
  · exact ⟨_, _, rfl, h, Or.inr ⟨_, rfl⟩⟩
  · exact ⟨_, _, rfl, h, Or.inl rfl⟩
  · cases h
theorem p1_ok {S : List Value} {f : Value → List Value → Option ORes} {r : ORes} (h : p1 S f = some r) : ∃ x S', S = x :: S' ∧ f x S' = some r ∧ (cv σ x).category = 1 := by
  unfold p1 at h; split at h
  · exact ⟨_, _, rfl, h, rfl⟩
  · exact ⟨_, _, rfl, h, rfl⟩
  · exact ⟨_, _, rfl, h, rfl⟩
  · cases h
theorem bind_ok {α : Type} {o : Option α} {f : α → Option ORes} {r : ORes} (h : o.bind f = some r) : ∃ x, o = some x ∧ f x = some r := Option.bind_eq_some_iff.mp h
theorem br_ok {b : Bool} {pc : Nat} {o : Int} {f : Nat → Option ORes} {r : ORes} (h : br b pc o f = some r) : 0 ≤ (pc : Int) + o ∧ ((b = true ∧ f ((pc : Int) + o).toNat = some r) ∨ (b = false ∧ f (pc + 3) = some r)) := by
  unfold br at h; split at h
  · rename_i q; cases b
    · exact ⟨q, Or.inr ⟨rfl, h⟩⟩
    · exact ⟨q, Or.inl ⟨rfl, h⟩⟩
  · cases h
theorem ref_of {x : Value} (h : x = .null ∨ ∃ a, x = .ref a) : (cv σ x).isRef = true ∧ x.category = 1 := by rcases h with rfl | ⟨a, rfl⟩ <;> exact ⟨rfl, rfl⟩
theorem refEq_ok (hsg : Sg σ x0 n0) {x y : Value} (hx : x = .null ∨ ∃ a, x = .ref a) (hy : y = .null ∨ ∃ a, y = .ref a) : decide (cv σ x = cv σ y) = refEq x y := by
  rcases hx with rfl | ⟨a, rfl⟩ <;> rcases hy with rfl | ⟨b, rfl⟩ <;> simp [cv, refEq]
  exact ⟨fun h => hsg.inj h, fun h => by rw [h]⟩
theorem size_cL {L : List Slot} : (cL σ L).size = L.length := by simp [cL]
theorem inB {cell : Cell} {j : Int32} {v : Value} (h : ¬ j < 0) (hv : cell.slots[j.toNatClampNeg]? = some v) : ¬ (j < 0 ∨ cell.slots.size ≤ j.toNatClampNeg) := fun q => q.elim h fun q => by rw [Array.getElem?_eq_none q] at hv; cases hv
set_option maxHeartbeats 4000000 in
theorem ex_sound {rt : Option FieldType} {E : List (Nat × Nat × Act)} {k : St → Option ORes} {res : ORes} (hx : p.tables.exec = Jvm.exec) (hZ : Z.Warmed39 s.vm) (hsg : Sg σ x0 n0) (hrt : meth.sig.returnType = rt) (hlk : meth.locks = false) (hE : AllGood p l e R s m args below meth c Z σ x0 n0 K E)
    (hk : ∀ (T : State) (locs : List Loc) (cs ss pc : Nat) (L : List Slot) (S : List Value) (H : AH), Stand p l e R s m args below meth c T locs cs ss → L.length = c.maxLocals → Rep Z σ x0 n0 K T.heap H → Fr n0 locs → cs ≤ R.cells ∧ ss ≤ R.slots → k (pc, L, S, H, cs, ss) = some res → Done p e R s below Z σ x0 n0 K res T (mkF m pc (cL σ L) (S.map (cv σ))))
    {T : State} {locs : List Loc} {cs ss pc : Nat} {i : Instr} {L : List Slot} {S : List Value} {H : AH} (X : Stand p l e R s m args below meth c T locs cs ss) (hd : decode c.code pc = .ok (i, il i)) (hL : L.length = c.maxLocals) (hR : Rep Z σ x0 n0 K T.heap H) (hF : Fr n0 locs) (hB : cs ≤ R.cells ∧ ss ≤ R.slots)
    (h : ex rt E x0 k i pc L S H cs ss = some res) : Done p e R s below Z σ x0 n0 K res T (mkF m pc (cL σ L) (S.map (cv σ))) := by
  cases i with
  | iload n =>
    dsimp only [ex] at h
    replace h := bind_ok h
    obtain ⟨v, h1, h⟩ := h
    exact (hk _ _ _ _ _ _ _ _ X hL hR hF hB h).step fun t q => XS.iload X.here hx rfl hd (gI_ok h1) q
  | iload_n n =>
    dsimp only [ex] at h
    replace h := bind_ok h
    obtain ⟨v, h1, h⟩ := h
    exact (hk _ _ _ _ _ _ _ _ X hL hR hF hB h).step fun t q => XS.iloadN X.here hx rfl hd (gI_ok h1) q
  | lload n =>
    dsimp only [ex] at h
    replace h := bind_ok h
    obtain ⟨v, h1, h⟩ := h
    exact (hk _ _ _ _ _ _ _ _ X hL hR hF hB h).step fun t q => XS.lload X.here hx rfl hd (gL_ok h1) q
  | lload_n n =>
    dsimp only [ex] at h
    replace h := bind_ok h
    obtain ⟨v, h1, h⟩ := h
    exact (hk _ _ _ _ _ _ _ _ X hL hR hF hB h).step fun t q => XS.lloadN X.here hx rfl hd (gL_ok h1) q
  | aload n =>
    dsimp only [ex] at h
    replace h := bind_ok h
    obtain ⟨v, h1, h⟩ := h
    exact (hk _ _ _ _ _ _ _ _ X hL hR hF hB h).step fun t q => XS.aload X.here hx rfl hd (gA_ok h1).1 (gA_ok (σ := σ) h1).2 q
  | aload_n n =>
    dsimp only [ex] at h
    replace h := bind_ok h
    obtain ⟨v, h1, h⟩ := h
    exact (hk _ _ _ _ _ _ _ _ X hL hR hF hB h).step fun t q => XS.aloadN X.here hx rfl hd (gA_ok h1).1 (gA_ok (σ := σ) h1).2 q
  | istore n =>
    dsimp only [ex] at h
    replace h := pI_ok h
    obtain ⟨x, S1, rfl, h⟩ := h
    replace h := bind_ok h
    obtain ⟨L1, h1, h⟩ := h
    have h2 := st1_ok (σ := σ) h1 rfl
    exact (hk _ _ _ _ _ _ _ _ X (h2.2.trans hL) hR hF hB h).step fun t q => XS.istore X.here hx rfl hd rfl h2.1 q
  | istore_n n =>
    dsimp only [ex] at h
    replace h := pI_ok h
    obtain ⟨x, S1, rfl, h⟩ := h
    replace h := bind_ok h
    obtain ⟨L1, h1, h⟩ := h
    have h2 := st1_ok (σ := σ) h1 rfl
    exact (hk _ _ _ _ _ _ _ _ X (h2.2.trans hL) hR hF hB h).step fun t q => XS.istoreN X.here hx rfl hd rfl h2.1 q
  | lstore n =>
    dsimp only [ex] at h
    replace h := pL_ok h
    obtain ⟨x, S1, rfl, h⟩ := h
    replace h := bind_ok h
    obtain ⟨L1, h1, h⟩ := h
    have h2 := st2_ok (σ := σ) h1
    exact (hk _ _ _ _ _ _ _ _ X (h2.2.trans hL) hR hF hB h).step fun t q => XS.lstore X.here hx rfl hd rfl h2.1 q
  | lstore_n n =>
    dsimp only [ex] at h
    replace h := pL_ok h
    obtain ⟨x, S1, rfl, h⟩ := h
    replace h := bind_ok h
    obtain ⟨L1, h1, h⟩ := h
    have h2 := st2_ok (σ := σ) h1
    exact (hk _ _ _ _ _ _ _ _ X (h2.2.trans hL) hR hF hB h).step fun t q => XS.lstoreN X.here hx rfl hd rfl h2.1 q
  | astore n =>
    dsimp only [ex] at h
    replace h := pA_ok h
    obtain ⟨x, S1, rfl, h, hr⟩ := h
    replace h := bind_ok h
    obtain ⟨L1, h1, h⟩ := h
    have h2 := st1_ok (σ := σ) h1 (ref_of (σ := σ) hr).2
    exact (hk _ _ _ _ _ _ _ _ X (h2.2.trans hL) hR hF hB h).step fun t q => XS.astore X.here hx rfl hd rfl (ref_of hr).1 h2.1 q
  | astore_n n =>
    dsimp only [ex] at h
    replace h := pA_ok h
    obtain ⟨x, S1, rfl, h, hr⟩ := h
    replace h := bind_ok h
    obtain ⟨L1, h1, h⟩ := h
    have h2 := st1_ok (σ := σ) h1 (ref_of (σ := σ) hr).2
    exact (hk _ _ _ _ _ _ _ _ X (h2.2.trans hL) hR hF hB h).step fun t q => XS.astoreN X.here hx rfl hd rfl (ref_of hr).1 h2.1 q
  | iinc n cst =>
    dsimp only [ex] at h
    replace h := bind_ok h
    obtain ⟨v, h1, h⟩ := h
    replace h := bind_ok h
    obtain ⟨L1, h2, h⟩ := h
    have h2 := st1_ok (σ := σ) h2 rfl
    exact (hk _ _ _ _ _ _ _ _ X (h2.2.trans hL) hR hF hB h).step fun t q => XS.iinc X.here hx rfl hd (gI_ok h1) h2.1 q
  | iconst cst =>
    dsimp only [ex] at h
    exact (hk _ _ _ _ _ _ _ _ X hL hR hF hB h).step fun t q => XS.iconst X.here hx rfl hd q
  | bipush cst =>
    dsimp only [ex] at h
    exact (hk _ _ _ _ _ _ _ _ X hL hR hF hB h).step fun t q => XS.bipush X.here hx rfl hd q
  | sipush cst =>
    dsimp only [ex] at h
    exact (hk _ _ _ _ _ _ _ _ X hL hR hF hB h).step fun t q => XS.sipush X.here hx rfl hd q
  | lconst cst =>
    dsimp only [ex] at h
    exact (hk _ _ _ _ _ _ _ _ X hL hR hF hB h).step fun t q => XS.lconst X.here hx rfl hd q
  | aconst_null =>
    dsimp only [ex] at h
    exact (hk _ _ _ _ _ _ _ _ X hL hR hF hB h).step fun t q => XS.aconstNull X.here hx rfl hd q
  | iadd =>
    dsimp only [ex] at h
    replace h := pI_ok h
    obtain ⟨y, S1, rfl, h⟩ := h
    replace h := pI_ok h
    obtain ⟨x, S2, rfl, h⟩ := h
    exact (hk _ _ _ _ _ _ _ _ X hL hR hF hB h).step fun t q => XS.iadd X.here hx rfl hd rfl q
  | isub =>
    dsimp only [ex] at h
    replace h := pI_ok h
    obtain ⟨y, S1, rfl, h⟩ := h
    replace h := pI_ok h
    obtain ⟨x, S2, rfl, h⟩ := h
    exact (hk _ _ _ _ _ _ _ _ X hL hR hF hB h).step fun t q => XS.isub X.here hx rfl hd rfl q
  | imul =>
    dsimp only [ex] at h
    replace h := pI_ok h
    obtain ⟨y, S1, rfl, h⟩ := h
    replace h := pI_ok h
    obtain ⟨x, S2, rfl, h⟩ := h
    exact (hk _ _ _ _ _ _ _ _ X hL hR hF hB h).step fun t q => XS.imul X.here hx rfl hd rfl q
  | iand =>
    dsimp only [ex] at h
    replace h := pI_ok h
    obtain ⟨y, S1, rfl, h⟩ := h
    replace h := pI_ok h
    obtain ⟨x, S2, rfl, h⟩ := h
    exact (hk _ _ _ _ _ _ _ _ X hL hR hF hB h).step fun t q => XS.iand X.here hx rfl hd rfl q
  | ior =>
    dsimp only [ex] at h
    replace h := pI_ok h
    obtain ⟨y, S1, rfl, h⟩ := h
    replace h := pI_ok h
    obtain ⟨x, S2, rfl, h⟩ := h
    exact (hk _ _ _ _ _ _ _ _ X hL hR hF hB h).step fun t q => XS.ior X.here hx rfl hd rfl q
  | ixor =>
    dsimp only [ex] at h
    replace h := pI_ok h
    obtain ⟨y, S1, rfl, h⟩ := h
    replace h := pI_ok h
    obtain ⟨x, S2, rfl, h⟩ := h
    exact (hk _ _ _ _ _ _ _ _ X hL hR hF hB h).step fun t q => XS.ixor X.here hx rfl hd rfl q
  | ishl =>
    dsimp only [ex] at h
    replace h := pI_ok h
    obtain ⟨y, S1, rfl, h⟩ := h
    replace h := pI_ok h
    obtain ⟨x, S2, rfl, h⟩ := h
    exact (hk _ _ _ _ _ _ _ _ X hL hR hF hB h).step fun t q => XS.ishl X.here hx rfl hd rfl q
  | ishr =>
    dsimp only [ex] at h
    replace h := pI_ok h
    obtain ⟨y, S1, rfl, h⟩ := h
    replace h := pI_ok h
    obtain ⟨x, S2, rfl, h⟩ := h
    exact (hk _ _ _ _ _ _ _ _ X hL hR hF hB h).step fun t q => XS.ishr X.here hx rfl hd rfl q
  | iushr =>
    dsimp only [ex] at h
    replace h := pI_ok h
    obtain ⟨y, S1, rfl, h⟩ := h
    replace h := pI_ok h
    obtain ⟨x, S2, rfl, h⟩ := h
    exact (hk _ _ _ _ _ _ _ _ X hL hR hF hB h).step fun t q => XS.iushr X.here hx rfl hd rfl q
  | ladd =>
    dsimp only [ex] at h
    replace h := pL_ok h
    obtain ⟨y, S1, rfl, h⟩ := h
    replace h := pL_ok h
    obtain ⟨x, S2, rfl, h⟩ := h
    exact (hk _ _ _ _ _ _ _ _ X hL hR hF hB h).step fun t q => XS.ladd X.here hx rfl hd rfl q
  | lsub =>
    dsimp only [ex] at h
    replace h := pL_ok h
    obtain ⟨y, S1, rfl, h⟩ := h
    replace h := pL_ok h
    obtain ⟨x, S2, rfl, h⟩ := h
    exact (hk _ _ _ _ _ _ _ _ X hL hR hF hB h).step fun t q => XS.lsub X.here hx rfl hd rfl q
  | lmul =>
    dsimp only [ex] at h
    replace h := pL_ok h
    obtain ⟨y, S1, rfl, h⟩ := h
    replace h := pL_ok h
    obtain ⟨x, S2, rfl, h⟩ := h
    exact (hk _ _ _ _ _ _ _ _ X hL hR hF hB h).step fun t q => XS.lmul X.here hx rfl hd rfl q
  | land =>
    dsimp only [ex] at h
    replace h := pL_ok h
    obtain ⟨y, S1, rfl, h⟩ := h
    replace h := pL_ok h
    obtain ⟨x, S2, rfl, h⟩ := h
    exact (hk _ _ _ _ _ _ _ _ X hL hR hF hB h).step fun t q => XS.land X.here hx rfl hd rfl q
  | lor =>
    dsimp only [ex] at h
    replace h := pL_ok h
    obtain ⟨y, S1, rfl, h⟩ := h
    replace h := pL_ok h
    obtain ⟨x, S2, rfl, h⟩ := h
    exact (hk _ _ _ _ _ _ _ _ X hL hR hF hB h).step fun t q => XS.lor X.here hx rfl hd rfl q
  | lxor =>
    dsimp only [ex] at h
    replace h := pL_ok h
    obtain ⟨y, S1, rfl, h⟩ := h
    replace h := pL_ok h
    obtain ⟨x, S2, rfl, h⟩ := h
    exact (hk _ _ _ _ _ _ _ _ X hL hR hF hB h).step fun t q => XS.lxor X.here hx rfl hd rfl q
  | lcmp =>
    dsimp only [ex] at h
    replace h := pL_ok h
    obtain ⟨y, S1, rfl, h⟩ := h
    replace h := pL_ok h
    obtain ⟨x, S2, rfl, h⟩ := h
    exact (hk _ _ _ _ _ _ _ _ X hL hR hF hB h).step fun t q => XS.lcmp X.here hx rfl hd rfl q
  | lshl =>
    dsimp only [ex] at h
    replace h := pI_ok h
    obtain ⟨y, S1, rfl, h⟩ := h
    replace h := pL_ok h
    obtain ⟨x, S2, rfl, h⟩ := h
    exact (hk _ _ _ _ _ _ _ _ X hL hR hF hB h).step fun t q => XS.lshl X.here hx rfl hd rfl q
  | lshr =>
    dsimp only [ex] at h
    replace h := pI_ok h
    obtain ⟨y, S1, rfl, h⟩ := h
    replace h := pL_ok h
    obtain ⟨x, S2, rfl, h⟩ := h
    exact (hk _ _ _ _ _ _ _ _ X hL hR hF hB h).step fun t q => XS.lshr X.here hx rfl hd rfl q
  | lushr =>
    dsimp only [ex] at h
    replace h := pI_ok h
    obtain ⟨y, S1, rfl, h⟩ := h
    replace h := pL_ok h
    obtain ⟨x, S2, rfl, h⟩ := h
    exact (hk _ _ _ _ _ _ _ _ X hL hR hF hB h).step fun t q => XS.lushr X.here hx rfl hd rfl q
  | idiv =>
    dsimp only [ex] at h
    replace h := pI_ok h
    obtain ⟨y, S1, rfl, h⟩ := h
    replace h := pI_ok h
    obtain ⟨x, S2, rfl, h⟩ := h
    split at h
    · cases h
    · rename_i hy
      exact (hk _ _ _ _ _ _ _ _ X hL hR hF hB h).step fun t q => XS.idiv X.here hx rfl hd rfl hy q
  | irem =>
    dsimp only [ex] at h
    replace h := pI_ok h
    obtain ⟨y, S1, rfl, h⟩ := h
    replace h := pI_ok h
    obtain ⟨x, S2, rfl, h⟩ := h
    split at h
    · cases h
    · rename_i hy
      exact (hk _ _ _ _ _ _ _ _ X hL hR hF hB h).step fun t q => iremM X hx rfl hd rfl hy q
  | ldiv =>
    dsimp only [ex] at h
    replace h := pL_ok h
    obtain ⟨y, S1, rfl, h⟩ := h
    replace h := pL_ok h
    obtain ⟨x, S2, rfl, h⟩ := h
    split at h
    · cases h
    · rename_i hy
      exact (hk _ _ _ _ _ _ _ _ X hL hR hF hB h).step fun t q => XS.ldiv X.here hx rfl hd rfl hy q
  | lrem =>
    dsimp only [ex] at h
    replace h := pL_ok h
    obtain ⟨y, S1, rfl, h⟩ := h
    replace h := pL_ok h
    obtain ⟨x, S2, rfl, h⟩ := h
    split at h
    · cases h
    · rename_i hy
      exact (hk _ _ _ _ _ _ _ _ X hL hR hF hB h).step fun t q => XS.lrem X.here hx rfl hd rfl hy (by rw [lrem_mod]; exact q)
  | ineg =>
    dsimp only [ex] at h
    replace h := pI_ok h
    obtain ⟨x, S1, rfl, h⟩ := h
    exact (hk _ _ _ _ _ _ _ _ X hL hR hF hB h).step fun t q => XS.ineg X.here hx rfl hd rfl q
  | i2b =>
    dsimp only [ex] at h
    replace h := pI_ok h
    obtain ⟨x, S1, rfl, h⟩ := h
    exact (hk _ _ _ _ _ _ _ _ X hL hR hF hB h).step fun t q => XS.i2b X.here hx rfl hd rfl q
  | i2c =>
    dsimp only [ex] at h
    replace h := pI_ok h
    obtain ⟨x, S1, rfl, h⟩ := h
    exact (hk _ _ _ _ _ _ _ _ X hL hR hF hB h).step fun t q => XS.i2c X.here hx rfl hd rfl q
  | i2s =>
    dsimp only [ex] at h
    replace h := pI_ok h
    obtain ⟨x, S1, rfl, h⟩ := h
    exact (hk _ _ _ _ _ _ _ _ X hL hR hF hB h).step fun t q => XS.i2s X.here hx rfl hd rfl q
  | i2l =>
    dsimp only [ex] at h
    replace h := pI_ok h
    obtain ⟨x, S1, rfl, h⟩ := h
    exact (hk _ _ _ _ _ _ _ _ X hL hR hF hB h).step fun t q => XS.i2l X.here hx rfl hd rfl q
  | l2i =>
    dsimp only [ex] at h
    replace h := pL_ok h
    obtain ⟨x, S1, rfl, h⟩ := h
    exact (hk _ _ _ _ _ _ _ _ X hL hR hF hB h).step fun t q => XS.l2i X.here hx rfl hd rfl q
  | lneg =>
    dsimp only [ex] at h
    replace h := pL_ok h
    obtain ⟨x, S1, rfl, h⟩ := h
    exact (hk _ _ _ _ _ _ _ _ X hL hR hF hB h).step fun t q => XS.lneg X.here hx rfl hd rfl q
  | dup =>
    dsimp only [ex] at h
    replace h := p1_ok (σ := σ) h
    obtain ⟨x, S1, rfl, h, h1⟩ := h
    exact (hk _ _ _ _ _ _ _ _ X hL hR hF hB h).step fun t q => XS.dup X.here hx rfl hd rfl h1 q
  | pop =>
    dsimp only [ex] at h
    replace h := p1_ok (σ := σ) h
    obtain ⟨x, S1, rfl, h, h1⟩ := h
    exact (hk _ _ _ _ _ _ _ _ X hL hR hF hB h).step fun t q => XS.pop X.here hx rfl hd rfl h1 q
  | dup_x1 =>
    dsimp only [ex] at h
    replace h := p1_ok (σ := σ) h
    obtain ⟨x, S1, rfl, h, h1⟩ := h
    replace h := p1_ok (σ := σ) h
    obtain ⟨y, S2, rfl, h, h2⟩ := h
    exact (hk _ _ _ _ _ _ _ _ X hL hR hF hB h).step fun t q => XS.dupX1 X.here hx rfl hd rfl h1 h2 q
  | dup2 =>
    dsimp only [ex] at h
    replace h := p1_ok (σ := σ) h
    obtain ⟨x, S1, rfl, h, h1⟩ := h
    replace h := p1_ok (σ := σ) h
    obtain ⟨y, S2, rfl, h, h2⟩ := h
    exact (hk _ _ _ _ _ _ _ _ X hL hR hF hB h).step fun t q => XT.dup2 X.here hx rfl hd rfl h1 h2 q
  | goto o =>
    dsimp only [ex] at h
    split at h
    · rename_i ho
      exact (hk _ _ _ _ _ _ _ _ X hL hR hF hB h).step fun t q => XS.goto X.here hx rfl rfl hd ho rfl q
    · cases h
  | ifCond cd o =>
    dsimp only [ex] at h
    replace h := pI_ok h
    obtain ⟨x, S1, rfl, h⟩ := h
    replace h := br_ok h
    obtain ⟨ho, ⟨hc, h⟩ | ⟨hc, h⟩⟩ := h
    · exact (hk _ _ _ _ _ _ _ _ X hL hR hF hB h).step fun t q => XS.ifYes X.here hx rfl rfl hd rfl hc ho rfl q
    · exact (hk _ _ _ _ _ _ _ _ X hL hR hF hB h).step fun t q => XS.ifNo X.here hx rfl hd rfl hc q
  | if_icmp cd o =>
    dsimp only [ex] at h
    replace h := pI_ok h
    obtain ⟨y, S1, rfl, h⟩ := h
    replace h := pI_ok h
    obtain ⟨x, S2, rfl, h⟩ := h
    replace h := br_ok h
    obtain ⟨ho, ⟨hc, h⟩ | ⟨hc, h⟩⟩ := h
    · exact (hk _ _ _ _ _ _ _ _ X hL hR hF hB h).step fun t q => XS.icmpYes X.here hx rfl rfl hd rfl hc ho rfl q
    · exact (hk _ _ _ _ _ _ _ _ X hL hR hF hB h).step fun t q => XS.icmpNo X.here hx rfl hd rfl hc q
  | ifnull o =>
    dsimp only [ex] at h
    replace h := pA_ok h
    obtain ⟨x, S1, rfl, h, hr⟩ := h
    replace h := br_ok h
    obtain ⟨ho, ⟨hc, h⟩ | ⟨hc, h⟩⟩ := h
    · rcases hr with rfl | ⟨a, rfl⟩
      · exact (hk _ _ _ _ _ _ _ _ X hL hR hF hB h).step fun t q => XS.ifnullYes X.here hx rfl rfl hd rfl ho rfl q
      · cases hc
    · rcases hr with rfl | ⟨a, rfl⟩
      · cases hc
      · exact (hk _ _ _ _ _ _ _ _ X hL hR hF hB h).step fun t q => XS.ifnullNo X.here hx rfl hd rfl q
  | ifnonnull o =>
    dsimp only [ex] at h
    replace h := pA_ok h
    obtain ⟨x, S1, rfl, h, hr⟩ := h
    replace h := br_ok h
    obtain ⟨ho, ⟨hc, h⟩ | ⟨hc, h⟩⟩ := h
    · rcases hr with rfl | ⟨a, rfl⟩
      · cases hc
      · exact (hk _ _ _ _ _ _ _ _ X hL hR hF hB h).step fun t q => XS.ifnonnullYes X.here hx rfl rfl hd rfl ho rfl q
    · rcases hr with rfl | ⟨a, rfl⟩
      · exact (hk _ _ _ _ _ _ _ _ X hL hR hF hB h).step fun t q => XS.ifnonnullNo X.here hx rfl hd rfl q
      · cases hc
  | if_acmp cd o =>
    dsimp only [ex] at h
    replace h := pA_ok h
    obtain ⟨y, S1, rfl, h, hr⟩ := h
    replace h := pA_ok h
    obtain ⟨x, S2, rfl, h, hr'⟩ := h
    replace h := br_ok h
    obtain ⟨ho, ⟨hc, h⟩ | ⟨hc, h⟩⟩ := h
    · exact (hk _ _ _ _ _ _ _ _ X hL hR hF hB h).step fun t q => acmp X hx rfl (ref_of hr').1 (ref_of hr).1 (same := refEq x y) rfl hd rfl (refEq_ok hsg hr' hr) ho (by rw [if_pos hc]) q
    · exact (hk _ _ _ _ _ _ _ _ X hL hR hF hB h).step fun t q => acmp X hx rfl (ref_of hr').1 (ref_of hr).1 (same := refEq x y) rfl hd rfl (refEq_ok hsg hr' hr) ho (by rw [if_neg (by simp [hc])]) q
  | arraylength =>
    dsimp only [ex] at h
    replace h := pR_ok h
    obtain ⟨a, S1, rfl, h⟩ := h
    replace h := bind_ok h
    obtain ⟨⟨ty, vs⟩, h1, h⟩ := h
    obtain ⟨cell, A, hs, hl, hfi, -⟩ := hR.2.2.2 _ _ (arr_some h1)
    have hz : cell.slots.size.toInt32 = vs.length.toInt32 := by rw [hs]; simp
    have D := hk _ _ _ _ _ _ _ _ X hL hR hF hB h
    refine D.step fun t q => ?_
    refine X.arraylength hx (cell := cell) A.1 (State.isArrayOf_alike hZ.alike A.2.1) (g := mkF m pc (cL σ L) (.ref (σ a) :: S1.map (cv σ))) rfl rfl hd t ?_
    rw [hz]
    exact q
  | iaload =>
    dsimp only [ex, ald] at h
    replace h := pI_ok h
    obtain ⟨j, S1, rfl, h⟩ := h
    replace h := pR_ok h
    obtain ⟨a, S2, rfl, h⟩ := h
    replace h := bind_ok h
    obtain ⟨⟨ty, vs⟩, h1, h⟩ := h
    split at h
    · rename_i hq
      replace h := bind_ok h
      obtain ⟨v, h2, h⟩ := h
      obtain ⟨cell, A, hs, hl, hfi, -⟩ := hR.2.2.2 _ _ (arr_some h1)
      obtain rfl : ty = .int := of_decide_eq_true hq.1
      have hv : cell.slots[j.toNatClampNeg]? = some (cv σ v) := by rw [hs, List.getElem?_toArray, List.getElem?_map, h2]; rfl
      exact (hk _ _ _ _ _ _ _ _ X hL hR hF hB h).step fun t q => X.iaload hx (cell := cell) (j := j) (v := cv σ v) A.1 (State.isArrayOf_alike hZ.alike A.2.1) A.2.2 (inB hq.2 hv) hv (g := mkF m pc (cL σ L) (.int j :: .ref (σ a) :: S2.map (cv σ))) rfl rfl hd t q
    · cases h
  | baload =>
    dsimp only [ex, ald] at h
    replace h := pI_ok h
    obtain ⟨j, S1, rfl, h⟩ := h
    replace h := pR_ok h
    obtain ⟨a, S2, rfl, h⟩ := h
    replace h := bind_ok h
    obtain ⟨⟨ty, vs⟩, h1, h⟩ := h
    split at h
    · rename_i hq
      replace h := bind_ok h
      obtain ⟨v, h2, h⟩ := h
      obtain ⟨cell, A, hs, hl, hfi, -⟩ := hR.2.2.2 _ _ (arr_some h1)
      have hv : cell.slots[j.toNatClampNeg]? = some (cv σ v) := by rw [hs, List.getElem?_toArray, List.getElem?_map, h2]; rfl
      cases ty with
      | byte => exact (hk _ _ _ _ _ _ _ _ X hL hR hF hB h).step fun t q => X.baloadBytes hx (cell := cell) (j := j) (v := cv σ v) A.1 (State.isArrayOf_alike hZ.alike A.2.1) A.2.2 (inB hq.2 hv) hv (g := mkF m pc (cL σ L) (.int j :: .ref (σ a) :: S2.map (cv σ))) rfl rfl hd t q
      | boolean => exact (hk _ _ _ _ _ _ _ _ X hL hR hF hB h).step fun t q => X.baloadBooleans hx (cell := cell) (j := j) (v := cv σ v) A.1 (State.isArrayOf_alike hZ.alike A.2.1) A.2.2 (inB hq.2 hv) hv (g := mkF m pc (cL σ L) (.int j :: .ref (σ a) :: S2.map (cv σ))) rfl rfl hd t q
      | _ => exact nomatch (show false = true from hq.1)
    · cases h
  | caload =>
    dsimp only [ex, ald] at h
    replace h := pI_ok h
    obtain ⟨j, S1, rfl, h⟩ := h
    replace h := pR_ok h
    obtain ⟨a, S2, rfl, h⟩ := h
    replace h := bind_ok h
    obtain ⟨⟨ty, vs⟩, h1, h⟩ := h
    split at h
    · rename_i hq
      replace h := bind_ok h
      obtain ⟨v, h2, h⟩ := h
      obtain ⟨cell, A, hs, hl, hfi, -⟩ := hR.2.2.2 _ _ (arr_some h1)
      obtain rfl : ty = .char := of_decide_eq_true hq.1
      have hv : cell.slots[j.toNatClampNeg]? = some (cv σ v) := by rw [hs, List.getElem?_toArray, List.getElem?_map, h2]; rfl
      exact (hk _ _ _ _ _ _ _ _ X hL hR hF hB h).step fun t q => X.caload hx (cell := cell) (j := j) (v := cv σ v) A.1 (State.isArrayOf_alike hZ.alike A.2.1) A.2.2 (inB hq.2 hv) hv (g := mkF m pc (cL σ L) (.int j :: .ref (σ a) :: S2.map (cv σ))) rfl rfl hd t q
    · cases h
  | laload =>
    dsimp only [ex, ald] at h
    replace h := pI_ok h
    obtain ⟨j, S1, rfl, h⟩ := h
    replace h := pR_ok h
    obtain ⟨a, S2, rfl, h⟩ := h
    replace h := bind_ok h
    obtain ⟨⟨ty, vs⟩, h1, h⟩ := h
    split at h
    · rename_i hq
      replace h := bind_ok h
      obtain ⟨v, h2, h⟩ := h
      obtain ⟨cell, A, hs, hl, hfi, -⟩ := hR.2.2.2 _ _ (arr_some h1)
      obtain rfl : ty = .long := of_decide_eq_true hq.1
      have hv : cell.slots[j.toNatClampNeg]? = some (cv σ v) := by rw [hs, List.getElem?_toArray, List.getElem?_map, h2]; rfl
      exact (hk _ _ _ _ _ _ _ _ X hL hR hF hB h).step fun t q => X.laload hx (cell := cell) (j := j) (v := cv σ v) A.1 (State.isArrayOf_alike hZ.alike A.2.1) A.2.2 (inB hq.2 hv) hv (g := mkF m pc (cL σ L) (.int j :: .ref (σ a) :: S2.map (cv σ))) rfl rfl hd t q
    · cases h
  | aaload =>
    dsimp only [ex, ald] at h
    replace h := pI_ok h
    obtain ⟨j, S1, rfl, h⟩ := h
    replace h := pR_ok h
    obtain ⟨a, S2, rfl, h⟩ := h
    replace h := bind_ok h
    obtain ⟨⟨ty, vs⟩, h1, h⟩ := h
    split at h
    · rename_i hq
      replace h := bind_ok h
      obtain ⟨v, h2, h⟩ := h
      obtain ⟨cell, A, hs, hl, hfi, -⟩ := hR.2.2.2 _ _ (arr_some h1)
      have hv : cell.slots[j.toNatClampNeg]? = some (cv σ v) := by rw [hs, List.getElem?_toArray, List.getElem?_map, h2]; rfl
      exact (hk _ _ _ _ _ _ _ _ X hL hR hF hB h).step fun t q => X.aaload hx (cell := cell) (j := j) (v := cv σ v) A.1 (State.isArrayOf_alike hZ.alike A.2.1) hq.1 A.2.2 (inB hq.2 hv) hv (g := mkF m pc (cL σ L) (.int j :: .ref (σ a) :: S2.map (cv σ))) rfl rfl hd t q
    · cases h
  | iastore =>
    dsimp only [ex, ast] at h
    replace h := pI_ok h
    obtain ⟨x, S0, rfl, h⟩ := h
    replace h := pI_ok h
    obtain ⟨j, S1, rfl, h⟩ := h
    replace h := pR_ok h
    obtain ⟨a, S2, rfl, h⟩ := h
    replace h := bind_ok h
    obtain ⟨⟨ty, vs⟩, h1, h⟩ := h
    split at h
    · rename_i hq
      obtain rfl : ty = .int := of_decide_eq_true hq.1
      obtain ⟨cell, A, hs, hl, hfi, -⟩ := hR.2.2.2 _ _ (arr_some h1)
      obtain ⟨T', h', X', e', W, st⟩ := stI X hx hZ rfl A (j := j) (x := x) (by rw [hs]; simpa using And.intro hq.2.1 hq.2.2.1) (g := mkF m pc (cL σ L) _) rfl rfl hd
      refine (hk _ _ _ _ _ _ _ _ X' hL (e' ▸ hR.write hsg hq.2.2.2 W (RepO.arr (hR.2.2.2 _ _ (arr_some h1)) (v := .int _) (rfl) W)) (Fr.snoc X' hF (hsg.new hq.2.2.2)) hB h).step st
    · cases h
  | bastore =>
    dsimp only [ex, ast] at h
    replace h := pI_ok h
    obtain ⟨x, S0, rfl, h⟩ := h
    replace h := pI_ok h
    obtain ⟨j, S1, rfl, h⟩ := h
    replace h := pR_ok h
    obtain ⟨a, S2, rfl, h⟩ := h
    replace h := bind_ok h
    obtain ⟨⟨ty, vs⟩, h1, h⟩ := h
    split at h
    · rename_i hq
      obtain rfl : ty = .byte := of_decide_eq_true hq.1
      obtain ⟨cell, A, hs, hl, hfi, -⟩ := hR.2.2.2 _ _ (arr_some h1)
      obtain ⟨T', h', X', e', W, st⟩ := stB X hx hZ rfl A (j := j) (x := x) (by rw [hs]; simpa using And.intro hq.2.1 hq.2.2.1) (g := mkF m pc (cL σ L) _) rfl rfl hd
      refine (hk _ _ _ _ _ _ _ _ X' hL (e' ▸ hR.write hsg hq.2.2.2 W (RepO.arr (hR.2.2.2 _ _ (arr_some h1)) (v := .int _) (fits_nar_byte _) W)) (Fr.snoc X' hF (hsg.new hq.2.2.2)) hB h).step st
    · cases h
  | castore =>
    dsimp only [ex, ast] at h
    replace h := pI_ok h
    obtain ⟨x, S0, rfl, h⟩ := h
    replace h := pI_ok h
    obtain ⟨j, S1, rfl, h⟩ := h
    replace h := pR_ok h
    obtain ⟨a, S2, rfl, h⟩ := h
    replace h := bind_ok h
    obtain ⟨⟨ty, vs⟩, h1, h⟩ := h
    split at h
    · rename_i hq
      obtain rfl : ty = .char := of_decide_eq_true hq.1
      obtain ⟨cell, A, hs, hl, hfi, -⟩ := hR.2.2.2 _ _ (arr_some h1)
      obtain ⟨T', h', X', e', W, st⟩ := stC X hx hZ rfl A (j := j) (x := x) (by rw [hs]; simpa using And.intro hq.2.1 hq.2.2.1) (g := mkF m pc (cL σ L) _) rfl rfl hd
      refine (hk _ _ _ _ _ _ _ _ X' hL (e' ▸ hR.write hsg hq.2.2.2 W (RepO.arr (hR.2.2.2 _ _ (arr_some h1)) (v := .int _) (fits_nar_char _) W)) (Fr.snoc X' hF (hsg.new hq.2.2.2)) hB h).step st
    · cases h
  | lastore =>
    dsimp only [ex, astL] at h
    replace h := pL_ok h
    obtain ⟨x, S0, rfl, h⟩ := h
    replace h := pI_ok h
    obtain ⟨j, S1, rfl, h⟩ := h
    replace h := pR_ok h
    obtain ⟨a, S2, rfl, h⟩ := h
    replace h := bind_ok h
    obtain ⟨⟨ty, vs⟩, h1, h⟩ := h
    split at h
    · rename_i hq
      obtain rfl : ty = .long := hq.1
      obtain ⟨cell, A, hs, hl, hfi, -⟩ := hR.2.2.2 _ _ (arr_some h1)
      obtain ⟨T', h', X', e', W, st⟩ := stJ X hx hZ rfl A (j := j) (x := x) (by rw [hs]; simpa using And.intro hq.2.1 hq.2.2.1) (g := mkF m pc (cL σ L) _) rfl rfl hd
      refine (hk _ _ _ _ _ _ _ _ X' hL (e' ▸ hR.write hsg hq.2.2.2 W (RepO.arr (hR.2.2.2 _ _ (arr_some h1)) (v := .long _) rfl W)) (Fr.snoc X' hF (hsg.new hq.2.2.2)) hB h).step st
    · cases h
  | ldc i =>
    dsimp only [ex, spc] at h
    replace h := bind_ok h
    obtain ⟨act, h1, h⟩ := h
    replace h := bind_ok h
    obtain ⟨⟨S', H', cs', ss'⟩, h2, h⟩ := h
    obtain ⟨T', locs', X', hR', hF', hB', st⟩ := look_good (q := 0) hE h1 T locs cs ss pc L S H S' H' cs' ss' X hd hL hR hF hB h2
    exact (hk _ _ _ _ _ _ _ _ X' hL hR' hF' hB' h).step st
  | ldc_w i =>
    dsimp only [ex, spc] at h
    replace h := bind_ok h
    obtain ⟨act, h1, h⟩ := h
    replace h := bind_ok h
    obtain ⟨⟨S', H', cs', ss'⟩, h2, h⟩ := h
    obtain ⟨T', locs', X', hR', hF', hB', st⟩ := look_good (q := 1) hE h1 T locs cs ss pc L S H S' H' cs' ss' X hd hL hR hF hB h2
    exact (hk _ _ _ _ _ _ _ _ X' hL hR' hF' hB' h).step st
  | ldc2_w i =>
    dsimp only [ex, spc] at h
    replace h := bind_ok h
    obtain ⟨act, h1, h⟩ := h
    replace h := bind_ok h
    obtain ⟨⟨S', H', cs', ss'⟩, h2, h⟩ := h
    obtain ⟨T', locs', X', hR', hF', hB', st⟩ := look_good (q := 2) hE h1 T locs cs ss pc L S H S' H' cs' ss' X hd hL hR hF hB h2
    exact (hk _ _ _ _ _ _ _ _ X' hL hR' hF' hB' h).step st
  | getfield i =>
    dsimp only [ex, spc] at h
    replace h := bind_ok h
    obtain ⟨act, h1, h⟩ := h
    replace h := bind_ok h
    obtain ⟨⟨S', H', cs', ss'⟩, h2, h⟩ := h
    obtain ⟨T', locs', X', hR', hF', hB', st⟩ := look_good (q := 3) hE h1 T locs cs ss pc L S H S' H' cs' ss' X hd hL hR hF hB h2
    exact (hk _ _ _ _ _ _ _ _ X' hL hR' hF' hB' h).step st
  | putfield i =>
    dsimp only [ex, spc] at h
    replace h := bind_ok h
    obtain ⟨act, h1, h⟩ := h
    replace h := bind_ok h
    obtain ⟨⟨S', H', cs', ss'⟩, h2, h⟩ := h
    obtain ⟨T', locs', X', hR', hF', hB', st⟩ := look_good (q := 4) hE h1 T locs cs ss pc L S H S' H' cs' ss' X hd hL hR hF hB h2
    exact (hk _ _ _ _ _ _ _ _ X' hL hR' hF' hB' h).step st
  | getstatic i =>
    dsimp only [ex, spc] at h
    replace h := bind_ok h
    obtain ⟨act, h1, h⟩ := h
    replace h := bind_ok h
    obtain ⟨⟨S', H', cs', ss'⟩, h2, h⟩ := h
    obtain ⟨T', locs', X', hR', hF', hB', st⟩ := look_good (q := 5) hE h1 T locs cs ss pc L S H S' H' cs' ss' X hd hL hR hF hB h2
    exact (hk _ _ _ _ _ _ _ _ X' hL hR' hF' hB' h).step st
  | new i =>
    dsimp only [ex, spc] at h
    replace h := bind_ok h
    obtain ⟨act, h1, h⟩ := h
    replace h := bind_ok h
    obtain ⟨⟨S', H', cs', ss'⟩, h2, h⟩ := h
    obtain ⟨T', locs', X', hR', hF', hB', st⟩ := look_good (q := 6) hE h1 T locs cs ss pc L S H S' H' cs' ss' X hd hL hR hF hB h2
    exact (hk _ _ _ _ _ _ _ _ X' hL hR' hF' hB' h).step st
  | invokestatic i =>
    dsimp only [ex, spc] at h
    replace h := bind_ok h
    obtain ⟨act, h1, h⟩ := h
    replace h := bind_ok h
    obtain ⟨⟨S', H', cs', ss'⟩, h2, h⟩ := h
    obtain ⟨T', locs', X', hR', hF', hB', st⟩ := look_good (q := 7) hE h1 T locs cs ss pc L S H S' H' cs' ss' X hd hL hR hF hB h2
    exact (hk _ _ _ _ _ _ _ _ X' hL hR' hF' hB' h).step st
  | invokespecial i =>
    dsimp only [ex, spc] at h
    replace h := bind_ok h
    obtain ⟨act, h1, h⟩ := h
    replace h := bind_ok h
    obtain ⟨⟨S', H', cs', ss'⟩, h2, h⟩ := h
    obtain ⟨T', locs', X', hR', hF', hB', st⟩ := look_good (q := 8) hE h1 T locs cs ss pc L S H S' H' cs' ss' X hd hL hR hF hB h2
    exact (hk _ _ _ _ _ _ _ _ X' hL hR' hF' hB' h).step st
  | invokevirtual i =>
    dsimp only [ex, spc] at h
    replace h := bind_ok h
    obtain ⟨act, h1, h⟩ := h
    replace h := bind_ok h
    obtain ⟨⟨S', H', cs', ss'⟩, h2, h⟩ := h
    obtain ⟨T', locs', X', hR', hF', hB', st⟩ := look_good (q := 9) hE h1 T locs cs ss pc L S H S' H' cs' ss' X hd hL hR hF hB h2
    exact (hk _ _ _ _ _ _ _ _ X' hL hR' hF' hB' h).step st
  | checkcast i =>
    dsimp only [ex, spc] at h
    replace h := bind_ok h
    obtain ⟨act, h1, h⟩ := h
    replace h := bind_ok h
    obtain ⟨⟨S', H', cs', ss'⟩, h2, h⟩ := h
    obtain ⟨T', locs', X', hR', hF', hB', st⟩ := look_good (q := 10) hE h1 T locs cs ss pc L S H S' H' cs' ss' X hd hL hR hF hB h2
    exact (hk _ _ _ _ _ _ _ _ X' hL hR' hF' hB' h).step st
  | instanceof i =>
    dsimp only [ex, spc] at h
    replace h := bind_ok h
    obtain ⟨act, h1, h⟩ := h
    replace h := bind_ok h
    obtain ⟨⟨S', H', cs', ss'⟩, h2, h⟩ := h
    obtain ⟨T', locs', X', hR', hF', hB', st⟩ := look_good (q := 11) hE h1 T locs cs ss pc L S H S' H' cs' ss' X hd hL hR hF hB h2
    exact (hk _ _ _ _ _ _ _ _ X' hL hR' hF' hB' h).step st
  | anewarray i =>
    dsimp only [ex, spc] at h
    replace h := bind_ok h
    obtain ⟨act, h1, h⟩ := h
    replace h := bind_ok h
    obtain ⟨⟨S', H', cs', ss'⟩, h2, h⟩ := h
    obtain ⟨T', locs', X', hR', hF', hB', st⟩ := look_good (q := 12) hE h1 T locs cs ss pc L S H S' H' cs' ss' X hd hL hR hF hB h2
    exact (hk _ _ _ _ _ _ _ _ X' hL hR' hF' hB' h).step st
  | newarray ty =>
    dsimp only [ex, spc] at h
    replace h := bind_ok h
    obtain ⟨act, h1, h⟩ := h
    replace h := bind_ok h
    obtain ⟨⟨S', H', cs', ss'⟩, h2, h⟩ := h
    have g1 := look_good (q := 13) hE h1
    rw [show insOf 13 (atn ty) = .newarray ty from by cases ty <;> rfl] at g1
    obtain ⟨T', locs', X', hR', hF', hB', st⟩ := g1 T locs cs ss pc L S H S' H' cs' ss' X hd hL hR hF hB h2
    exact (hk _ _ _ _ _ _ _ _ X' hL hR' hF' hB' h).step st
  | ireturn =>
    dsimp only [ex, rI] at h
    replace h := pI_ok h
    obtain ⟨z, S1, rfl, h⟩ := h
    split at h
    · cases h
      obtain ⟨fs, hr, hrun, hended, hW, hsame⟩ := X.leave (v := some (.int z)) (fun q => by rw [hrt] at q; cases q) hlk
      exact ⟨_, retOut X hx hrt rfl (Or.inl ⟨rfl, Or.inl rfl, z, rfl⟩) hd hr, hrun, hended, hR, locs, hF, hW, hsame.mono hB.1 hB.2⟩
    · cases h
      obtain ⟨fs, hr, hrun, hended, hW, hsame⟩ := X.leave (v := some (.int (z &&& 1))) (fun q => by rw [hrt] at q; cases q) hlk
      exact ⟨_, retN X hx (t := .boolean) (z := z) hrt (by simp) hd hr, hrun, hended, hR, locs, hF, hW, hsame.mono hB.1 hB.2⟩
    · cases h
      obtain ⟨fs, hr, hrun, hended, hW, hsame⟩ := X.leave (v := some (.int z.toInt8.toInt32)) (fun q => by rw [hrt] at q; cases q) hlk
      exact ⟨_, retN X hx (t := .byte) (z := z) hrt (by simp) hd hr, hrun, hended, hR, locs, hF, hW, hsame.mono hB.1 hB.2⟩
    · cases h
      obtain ⟨fs, hr, hrun, hended, hW, hsame⟩ := X.leave (v := some (.int z.toUInt32.toUInt16.toUInt32.toInt32)) (fun q => by rw [hrt] at q; cases q) hlk
      exact ⟨_, retN X hx (t := .char) (z := z) hrt (by simp) hd hr, hrun, hended, hR, locs, hF, hW, hsame.mono hB.1 hB.2⟩
    · cases h
      obtain ⟨fs, hr, hrun, hended, hW, hsame⟩ := X.leave (v := some (.int z.toInt16.toInt32)) (fun q => by rw [hrt] at q; cases q) hlk
      exact ⟨_, retN X hx (t := .short) (z := z) hrt (by simp) hd hr, hrun, hended, hR, locs, hF, hW, hsame.mono hB.1 hB.2⟩
    · cases h
  | lreturn =>
    dsimp only [ex, rL] at h
    replace h := pL_ok h
    obtain ⟨z, S1, rfl, h⟩ := h
    split at h
    · cases h
      obtain ⟨fs, hr, hrun, hended, hW, hsame⟩ := X.leave (v := some (.long z)) (fun q => by rw [hrt] at q; cases q) hlk
      exact ⟨_, retOut X hx hrt rfl (Or.inr (Or.inl ⟨rfl, rfl, z, rfl⟩)) hd hr, hrun, hended, hR, locs, hF, hW, hsame.mono hB.1 hB.2⟩
    · cases h
  | areturn =>
    dsimp only [ex, rA] at h
    replace h := pA_ok h
    obtain ⟨z, S1, rfl, h, hq⟩ := h
    split at h
    · cases h
      obtain ⟨fs, hr, hrun, hended, hW, hsame⟩ := X.leave (v := some (cv σ z)) (fun q => by rw [hrt] at q; cases q) hlk
      exact ⟨_, retOut X hx hrt (by cases z <;> rfl) (Or.inr (Or.inr (Or.inr (Or.inr ⟨rfl, rfl, (ref_of hq).1⟩)))) hd hr, hrun, hended, hR, locs, hF, hW, hsame.mono hB.1 hB.2⟩
    · cases h
      obtain ⟨fs, hr, hrun, hended, hW, hsame⟩ := X.leave (v := some (cv σ z)) (fun q => by rw [hrt] at q; cases q) hlk
      exact ⟨_, retOut X hx hrt (by cases z <;> rfl) (Or.inr (Or.inr (Or.inr (Or.inr ⟨rfl, rfl, (ref_of hq).1⟩)))) hd hr, hrun, hended, hR, locs, hF, hW, hsame.mono hB.1 hB.2⟩
    · cases h
  | return_ =>
    dsimp only [ex, rV] at h
    split at h
    · cases h
      obtain ⟨fs, hr, hrun, hended, hW, hsame⟩ := X.leave (v := none) (fun _ => rfl) hlk
      exact ⟨_, X.returnOut hx hrt hd hr, hrun, hended, hR, locs, hF, hW, hsame.mono hB.1 hB.2⟩
    · cases h
  | _ => exact nomatch (show (none : Option ORes) = some res from h)
theorem run_sound {rt : Option FieldType} {E : List (Nat × Nat × Act)} {res : ORes} (hx : p.tables.exec = Jvm.exec) (hZ : Z.Warmed39 s.vm) (hsg : Sg σ x0 n0) (hrt : meth.sig.returnType = rt) (hlk : meth.locks = false) (hE : AllGood p l e R s m args below meth c Z σ x0 n0 K E) :
    ∀ (n : Nat) (T : State) (locs : List Loc) (cs ss pc : Nat) (L : List Slot) (S : List Value) (H : AH), Stand p l e R s m args below meth c T locs cs ss → L.length = c.maxLocals → Rep Z σ x0 n0 K T.heap H → Fr n0 locs → cs ≤ R.cells ∧ ss ≤ R.slots → orun c.code rt E x0 n (pc, L, S, H, cs, ss) = some res → Done p e R s below Z σ x0 n0 K res T (mkF m pc (cL σ L) (S.map (cv σ)))
  | 0, _, _, _, _, _, _, _, _, _, _, _, _, _, h => nomatch (show (none : Option ORes) = some res from h)
  | n + 1, T, locs, cs, ss, pc, L, S, H, X, hL, hR, hF, hB, h => by
    rw [orun_succ] at h
    replace h := bind_ok h
    obtain ⟨i, hi, h⟩ := h
    exact ex_sound hx hZ hsg hrt hlk hE (run_sound hx hZ hsg hrt hlk hE n) X (dec_spec hi) hL hR hF hB h
/-! ## 4. A method's contract off its orun -/
def oflat : List Value → List Slot
  | [] => []
  | v :: r => if v.category = 2 then .val v :: .second :: oflat r else .val v :: oflat r
def ent (as : List Value) (n : Nat) : List Slot := oflat as ++ List.replicate (n - (oflat as).length) .unset
theorem cat_cv (v : Value) : (cv σ v).category = v.category := by cases v <;> rfl
theorem oflat_ok (as : List Value) : ∀ acc : Array Slot, (as.map (cv σ)).foldl (fun acc v => if v.category = 2 then (acc.push (.val v)).push .second else acc.push (.val v)) acc = acc ++ ((oflat as).map (csl σ)).toArray := by
  induction as with
  | nil => intro acc; simp [oflat]
  | cons v r ih =>
    intro acc
    simp only [List.map_cons, List.foldl_cons, cat_cv, oflat]
    rw [ih]
    split <;> simp [csl]
theorem ent_ok (as : List Value) (n : Nat) : argsToLocals (as.map (cv σ)).toArray n = cL σ (ent as n) := by
  have h := oflat_ok (σ := σ) as #[]
  simp only [argsToLocals, List.foldl_toArray]
  rw [h]
  simp [cL, ent, csl]
/-- what a callee's function says of it -/
def Says (l : Launch) (Z : State) (σ : Nat → Nat) (x0 n0 : Nat) (K : List CD) (y : MethodName) (bytes : ByteArray) (maxL : Nat) (ret : Option FieldType) (ws : List Jvm.Cond) (rm : Room) (F : List Value → AH → Option ORes) : Prop :=
  ∀ (as : List Value) (H : AH) (r : ORes) (h : Heap), F as H = some r → Rep Z σ x0 n0 K h H →
    MetFree l y (head1 (Jvm.Cond.code y bytes maxL ret :: ws) rm) (fun a U => a = (as.map (cv σ)).toArray ∧ Z.Warmed39 U.vm ∧ U.heap = h) (fun _ _ _ _ _ => True) (fun _ U o U' => ∃ v L, o = .returned v ∧ (v = r.1.map (cv σ) ∧ Rep Z σ x0 n0 K U'.heap r.2 ∧ Fr n0 L) ∧ FrameEnd U o U' L rm.cells rm.slots)
def fn (bytes : ByteArray) (maxL : Nat) (ret : Option FieldType) (E : List (Nat × Nat × Act)) (x0 fuel : Nat) (as : List Value) (H : AH) : Option ORes :=
  if (ent as maxL).length = maxL then orun bytes ret E x0 fuel (0, ent as maxL, [], H, 0, 0) else none
theorem says_fn {l : Launch} {Z : State} {σ : Nat → Nat} {x0 n0 : Nat} {K : List CD} {y : MethodName} {bytes : ByteArray} {maxL : Nat} {ret : Option FieldType} {ws : List Jvm.Cond} {rm : Room} {E : List (Nat × Nat × Act)} {fuel : Nat} (hsg : Sg σ x0 n0) (hpl : plainFor y = true)
    (hE : ∀ (p : Program) (e : Env) (s : State) (m : MethodId) (args : Array Value) (below : List Frame) (meth : Method) (c : Code), p.tables.exec = Jvm.exec → c.code = bytes → c.maxLocals = maxL → Z.Warmed39 s.vm → s.vm.findClass y.cls = some m.cls → meth.name = y.name → AllGood p l e rm s m args below meth c Z σ x0 n0 K E) :
    Says l Z σ x0 n0 K y bytes maxL ret ws rm (fn bytes maxL ret E x0 fuel) := by
  intro as H r h hf hR
  unfold fn at hf
  split at hf
  · rename_i hlen
    refine MetFree.of_bodySF hpl hisR ?_
    intro p e s m args below meth c s₁ Bd hml0 hP hK
    obtain ⟨rfl, hZ, hh⟩ := hP
    have hx := Bd.exec
    have hby := Bd.bytes
    have hown : s.vm.findClass y.cls = some m.cls := findClass_of_methodNamed Bd.named
    have hnm := (name_of_methodNamed Bd.named Bd.method).1
    have X0 : Stand p l e rm s m (as.map (cv σ)).toArray below meth c s₁ [] 0 0 := Stand.of_body Bd
    have e0 : s₁.heap = h := by rw [← hh, Bd.state]; rfl
    have D := run_sound hx hZ hsg Bd.returns (BodyLoose.notSynchronized Bd) (hE p e s m _ below meth c hx hby hml0 hZ hown hnm) fuel s₁ [] 0 0 0 (ent as maxL) [] H X0 (hlen.trans hml0.symm) (e0 ▸ hR) (Fr.nil n0) ⟨Nat.zero_le _, Nat.zero_le _⟩ (by rw [hby]; exact hf)
    obtain ⟨t, h1, h2, h3, h4, L, h5, h6, h7⟩ := D
    refine ⟨t, _, castTop (g' := mkF m 0 (cL σ (ent as maxL)) []) ?_ h1, h2, h3, _, L, rfl, ⟨rfl, h4, h5⟩, ⟨_, rfl⟩, h6, h7⟩
    simp only [entryFrame, ent_ok]
  · cases hf
end Sound
/-! ## 5. The steps that ask the sheet's words -/
def obj (H : AH) (k : Nat) : Option (Nat × List Value) := match H[k]? with | some (.inl q) => some q | _ => none
theorem obj_some {H : AH} {k : Nat} {q : Nat × List Value} (e : obj H k = some q) : H[k]? = some (.inl q) := by
  unfold obj at e; split at e
  · rename_i q' hq; cases e; exact hq
  · cases e
def aI (v : Int32) : Act := fun S H cs ss => some (.int v :: S, H, cs, ss)
def aJ (v : Int64) : Act := fun S H cs ss => some (.long v :: S, H, cs, ss)
def aGet (c j : Nat) : Act := fun S H cs ss => match S with
  | .ref a :: r => (obj H a).bind fun q => if q.1 = c then (q.2[j]?).bind fun v => some (v :: r, H, cs, ss) else none
  | _ => none
def aPut (x0 c j : Nat) (ty : FieldType) : Act := fun S H cs ss => match S with
  | v :: .ref a :: r => (obj H a).bind fun q => if q.1 = c ∧ narrow ty v = v ∧ fits ty v = true ∧ x0 ≤ a ∧ j < q.2.length then some (r, H.set a (.inl (c, q.2.set j v)), cs, ss) else none
  | _ => none
def aNew (c n Rc Rs : Nat) (ds : List Value) : Act := fun S H cs ss => if cs + 1 ≤ Rc ∧ ss + n ≤ Rs then some (.ref H.length :: S, H ++ [.inl (c, ds)], cs + 1, ss + n) else none
def aArr (ty : FieldType) (Rc Rs : Nat) : Act := fun S H cs ss => match S with
  | .int n :: r => if ¬ n < 0 ∧ cs + 1 ≤ Rc ∧ ss + n.toNatClampNeg ≤ Rs ∧ n.toNatClampNeg ≤ 67108864 then some (.ref H.length :: r, H ++ [.inr (ty, List.replicate n.toNatClampNeg (defaultValue ty))], cs + 1, ss + n.toNatClampNeg) else none
  | _ => none
def aObj (W : Nat) : Act := fun S H cs ss => match S with
  | .ref _ :: r => if (r.map Value.category).sum ≤ W then some (r, H, cs, ss) else none
  | _ => none
def aCall (na W Rc Rs mc ms : Nat) (F : List Value → AH → Option ORes) : Act := fun S H cs ss =>
  if na ≤ S.length ∧ ((S.drop na).map Value.category).sum ≤ W ∧ cs + mc ≤ Rc ∧ ss + ms ≤ Rs then (F (S.take na).reverse H).bind fun r => some (r.1.toList ++ S.drop na, r.2, cs + mc, ss + ms) else none
def aRecv (na cl W Rc Rs mc ms : Nat) (F : List Value → AH → Option ORes) : Act := fun S H cs ss => match S.drop na with
  | .ref a :: r => (obj H a).bind fun q => if q.1 = cl ∧ na ≤ S.length ∧ (r.map Value.category).sum ≤ W ∧ cs + mc ≤ Rc ∧ ss + ms ≤ Rs then (F (.ref a :: (S.take na).reverse) H).bind fun v => some (v.1.toList ++ r, v.2, cs + mc, ss + ms) else none
  | _ => none
section Acts
variable {p : Program} {l : Launch} {e : Env} {R : Room} {s : State} {m : MethodId} {args : Array Value} {below : List Frame} {meth : Method} {c : Code} {Z : State} {σ : Nat → Nat} {x0 n0 : Nat} {K : List CD} {a0 : Array Value}
theorem okI (hx : p.tables.exec = Jvm.exec) (hZ : Z.Warmed39 s.vm) {own : String} {idx : Nat} {v : Int32} (hown : s.vm.findClass own = some m.cls) (w : (Jvm.Cond.constant own idx v).before a0 Z = true) : Good p l e R s m args below meth c Z σ x0 n0 K (.ldc idx) (aI v) := by
  intro T locs cs ss pc L S H S' H' cs' ss' X hd hL hR hF hB h
  cases h
  exact ⟨T, locs, X, hR, hF, hB, fun t q => X.ldcInt hx hown (mvT hZ w) (g := mkF m pc (cL σ L) _) rfl hd t q⟩
theorem okIW (hx : p.tables.exec = Jvm.exec) (hZ : Z.Warmed39 s.vm) {own : String} {idx : Nat} {v : Int32} (hown : s.vm.findClass own = some m.cls) (w : (Jvm.Cond.constant own idx v).before a0 Z = true) : Good p l e R s m args below meth c Z σ x0 n0 K (.ldc_w idx) (aI v) := by
  intro T locs cs ss pc L S H S' H' cs' ss' X hd hL hR hF hB h
  cases h
  exact ⟨T, locs, X, hR, hF, hB, fun t q => X.ldcwInt hx hown (mvT hZ w) (g := mkF m pc (cL σ L) _) rfl hd t q⟩
theorem okJ (hx : p.tables.exec = Jvm.exec) (hZ : Z.Warmed39 s.vm) {own : String} {idx : Nat} {v : Int64} (hown : s.vm.findClass own = some m.cls) (w : (Jvm.Cond.constantLong own idx v).before a0 Z = true) : Good p l e R s m args below meth c Z σ x0 n0 K (.ldc2_w idx) (aJ v) := by
  intro T locs cs ss pc L S H S' H' cs' ss' X hd hL hR hF hB h
  cases h
  exact ⟨T, locs, X, hR, hF, hB, fun t q => X.ldc2Long hx hown (mvT hZ w) (g := mkF m pc (cL σ L) _) rfl hd t q⟩
theorem okGet (hx : p.tables.exec = Jvm.exec) (hZ : Z.Warmed39 s.vm) {own R0 O n d host C : String} {idx cn j : Nat} {fs : List (String × String × String)} (hown : s.vm.findClass own = some m.cls) (w : (Jvm.Cond.fieldLink own idx R0 n d).before a0 Z = true ∨ (Jvm.Cond.fieldLinkNest own idx R0 n d host).before a0 Z = true) (via : Via Z R0 O n d)
    (hC : K[cn]? = some (C, fs)) (hj : fs[j]? = some (O, n, d)) : Good p l e R s m args below meth c Z σ x0 n0 K (.getfield idx) (aGet cn j) := by
  intro T locs cs ss pc L S H S' H' cs' ss' X hd hL hR hF hB h
  unfold aGet at h
  split at h
  · rename_i a r
    replace h := Option.bind_eq_some_iff.mp h
    obtain ⟨⟨cn', vs⟩, h1, h⟩ := h
    dsimp only at h
    split at h
    · rename_i hcn; subst hcn
      replace h := Option.bind_eq_some_iff.mp h
      obtain ⟨v, h2, h⟩ := h
      cases h
      obtain ⟨C', fs', q1, q2, q3⟩ := hR.2.2.2 _ _ (obj_some h1)
      cases hC.symm.trans q1
      obtain ⟨O', n', d', q4, q5⟩ := q3 j v h2
      cases hj.symm.trans q4
      obtain ⟨T', X', e', st⟩ := getF X hx hZ hown w via rfl q5 (g := mkF m pc (cL σ L) (List.map (cv σ) (.ref a :: r))) rfl rfl hd
      exact ⟨T', locs, X', e' ▸ hR, hF, hB, st⟩
    · cases h
  · cases h
theorem cv_narrow {ty : FieldType} {v : Value} (h : narrow ty v = v) : narrow ty (cv σ v) = cv σ v := by cases v <;> first | exact h | (cases ty <;> rfl)
theorem okPut (hx : p.tables.exec = Jvm.exec) (hZ : Z.Warmed39 s.vm) (hsg : Sg σ x0 n0) (KO : KOk Z a0 K) {own R0 O n d host C : String} {idx cn j : Nat} {ty : FieldType} {fs : List (String × String × String)} (hown : s.vm.findClass own = some m.cls) (w : (Jvm.Cond.fieldLink own idx R0 n d).before a0 Z = true ∨ (Jvm.Cond.fieldLinkNest own idx R0 n d host).before a0 Z = true) (via : Via Z R0 O n d)
    (hC : K[cn]? = some (C, fs)) (hj : fs[j]? = some (O, n, d)) (hty : parseFieldDescriptor d = some ty) (hLay : (Jvm.Cond.lays C O n d).before a0 Z = true ∨ ((Jvm.Cond.laysFinal C O n d).before a0 Z = true ∧ own = O ∧ meth.name = "<init>")) : Good p l e R s m args below meth c Z σ x0 n0 K (.putfield idx) (aPut x0 cn j ty) := by
  intro T locs cs ss pc L S H S' H' cs' ss' X hd hL hR hF hB h
  unfold aPut at h
  split at h
  · rename_i v a r
    replace h := Option.bind_eq_some_iff.mp h
    obtain ⟨⟨cn', vs⟩, h1, h⟩ := h
    dsimp only at h
    split at h
    · rename_i hq
      obtain ⟨rfl, hn, hf, hx0, hjl⟩ := hq
      cases h
      have hRO := hR.2.2.2 _ _ (obj_some h1)
      obtain ⟨C', fs', q1, q2, q3⟩ := hRO
      cases hC.symm.trans q1
      obtain ⟨O', n', d', q4, q5⟩ := q3 j _ (List.getElem?_eq_getElem hjl)
      cases hj.symm.trans q4
      obtain ⟨⟨kk, wi⟩, -⟩ := KO cn' C fs hC
      obtain ⟨T', h', X', e', W, st⟩ := putF X hx hZ hown w via rfl q5 q2 hLay wi hty (cv_narrow hn) ((cv_fits ty v).trans hf) (g := mkF m pc (cL σ L) (List.map (cv σ) (v :: .ref a :: S'))) rfl rfl hd
      exact ⟨T', _, X', e' ▸ hR.write hsg hx0 W (RepO.fld KO hC hj (hR.2.2.2 _ _ (obj_some h1)) W), Fr.snoc X' hF (hsg.new hx0), hB, st⟩
    · cases h
  · cases h
theorem ext_push (h : Heap) (c : Cell) : Ext h (h.push c) := ext_of fun a q => (Array.getElem?_push_lt q).trans (Array.getElem?_eq_getElem q).symm
theorem okNew (hx : p.tables.exec = Jvm.exec) (hZ : Z.Warmed39 s.vm) (hsg : Sg σ x0 n0) (KO : KOk Z a0 K) {own C : String} {idx n cn Rc Rs : Nat} {ds : List Value} {fs : List (String × String × String)} (hown : s.vm.findClass own = some m.cls) (w : (Jvm.Cond.classLink own idx C).before a0 Z = true) (wi : (Jvm.Cond.instantiable C n).before a0 Z = true) (wz : (Jvm.Cond.initialized C).before a0 Z = true)
    (hC : K[cn]? = some (C, fs)) (hds : ds = fs.map fun f => ((parseFieldDescriptor f.2.2).map defaultValue).getD .null) (hRc : Rc ≤ R.cells) (hRs : Rs ≤ R.slots) : Good p l e R s m args below meth c Z σ x0 n0 K (.new idx) (aNew cn n Rc Rs ds) := by
  intro T locs cs ss pc L S H S' H' cs' ss' X hd hL hR hF hB h
  unfold aNew at h
  split at h
  · rename_i hq
    cases h
    obtain ⟨vm', cC, kC, h1, h2, h3, h4, X', st⟩ := X.newCold hx hown (mv hZ w) (mv hZ wi) (mv hZ wz) (g := mkF m pc (cL σ L) (S.map (cv σ))) rfl hd (Nat.le_trans hq.1 hRc) (Nat.le_trans hq.2 hRs)
    have ea : σ H.length = T.heap.size := hR.addr hsg
    have h1' : Z.vm.findClass C = some cC := by rw [← hZ.alike.findClass]; exact h1
    obtain ⟨kZ, z1, -⟩ := Vm.findClass_spec h1'
    obtain ⟨k', z2, z3⟩ := hZ.alike.2.2 _ _ z1
    cases h2.symm.trans z2
    have ei : kC.instanceTypes = kZ.instanceTypes := by rw [z3]
    have hN : (T.heap.push { cls := cC, slots := kC.instanceTypes.map defaultValue, vm := .none })[T.heap.size]? = some { cls := cC, slots := kC.instanceTypes.map defaultValue, vm := .none } := by simp
    refine ⟨_, locs, X', hR.push (ext_push _ _) (by show (T.heap.push _).size = _; simp) ?_, hF, ⟨Nat.le_trans hq.1 hRc, Nat.le_trans hq.2 hRs⟩, ?_⟩
    · rw [ea]
      refine ⟨C, fs, hC, ⟨_, kZ, hN, h1', z1, rfl, fun _ => by simp [ei]⟩, fun j v hj => ?_⟩
      subst hds
      rw [List.getElem?_map, Option.map_eq_some_iff] at hj
      obtain ⟨⟨O, nm, d⟩, q1, q2⟩ := hj
      obtain ⟨-, k2, -⟩ := KO cn C fs hC
      obtain ⟨Ld, ty, ht⟩ := k2 j _ q1
      obtain ⟨c1, k1, cf, kf, i, f, a1, a2, a3, a4, a5, a6, -⟩ := Ld.spec
      cases h1'.symm.trans a1
      cases z1.symm.trans a2
      refine ⟨O, nm, d, q1, _, cf, kf, i, f, hN, a3, a4, by simp, rfl, a5, ?_⟩
      have ht' : parseFieldDescriptor d = some ty := ht
      simp only [ht', Option.map_some, Option.getD_some] at q2
      subst q2
      have hcv : cv σ (defaultValue ty) = defaultValue ty := by cases ty <;> rfl
      simp [ei, a6, (State.fieldFound?_type a3 ht).2, hcv]
    · intro t q
      refine st t ?_
      have q' := q
      simp only [List.map_cons, cv, ea] at q'
      exact q'
  · cases h
theorem okArr (hx : p.tables.exec = Jvm.exec) (hZ : Z.Warmed39 s.vm) (hsg : Sg σ x0 n0) {t : ArrayType} {Rc Rs : Nat} (w : (Jvm.Cond.arrayClass (newarray.typeOf t)).before a0 Z = true) (hRc : Rc ≤ R.cells) (hRs : Rs ≤ R.slots) : Good p l e R s m args below meth c Z σ x0 n0 K (.newarray t) (aArr (newarray.typeOf t) Rc Rs) := by
  intro T locs cs ss pc L S H S' H' cs' ss' X hd hL hR hF hB h
  unfold aArr at h
  split at h
  · rename_i n r
    split at h
    · rename_i hq
      cases h
      have hcb : componentBytes (newarray.typeOf t) ≤ 8 := by cases t <;> decide
      obtain ⟨cA, kA, comp, h1, h2, h3, X', st⟩ := X.newarrayPrim hx (mvA hZ w) (g := mkF m pc (cL σ L) (List.map (cv σ) (.int n :: r))) rfl hd rfl hq.1 (Nat.le_trans (Nat.mul_le_mul hq.2.2.2 hcb) (by decide)) (Nat.le_trans hq.2.1 hRc) (Nat.le_trans hq.2.2.1 hRs)
      have ea : σ H.length = T.heap.size := hR.addr hsg
      have h1' : Z.vm.findClass ("[" ++ (newarray.typeOf t).toString) = some cA := by rw [← hZ.alike.findClass]; exact h1
      obtain ⟨kZ, z1, -⟩ := Vm.findClass_spec h1'
      obtain ⟨k', z2, z3⟩ := hZ.alike.2.2 _ _ z1
      cases h2.symm.trans z2
      have kk : kZ.kind = .array comp (newarray.typeOf t) := by rw [← h3, z3]
      have hcv : cv σ (defaultValue (newarray.typeOf t)) = defaultValue (newarray.typeOf t) := by cases t <;> rfl
      refine ⟨_, locs, X', hR.push (ext_push _ _) (by show (T.heap.push _).size = _; simp) ?_, hF, ⟨Nat.le_trans hq.2.1 hRc, Nat.le_trans hq.2.2.1 hRs⟩, ?_⟩
      · rw [ea]
        refine ⟨newA cA (newarray.typeOf t) n, ⟨by show (T.heap.push _)[T.heap.size]? = _; simp [newA], ⟨by simp [newA], kZ, z1, comp, kk⟩, by simp [newA]⟩, by simp [newA, hcv], ?_, fun v hv => ?_, fun _ => ⟨newA cA (newarray.typeOf t) n, kZ, by show (T.heap.push _)[T.heap.size]? = _; simp [newA], h1', z1, rfl, fun q => by rw [kk] at q; cases q⟩⟩
        · rw [List.length_replicate]; have := hq.2.2.2; omega
        · rw [(List.mem_replicate.mp hv).2]; cases t <;> rfl
      · intro t q
        refine st t ?_
        have q' := q
        simp only [List.map_cons, cv, ea] at q'
        exact q'
    · cases h
  · cases h
theorem cat_sum (r : List Value) : ((r.map (cv σ)).map fun v => v.category).sum = (r.map Value.category).sum := by
  rw [List.map_map]; congr 1; exact List.map_congr_left fun v _ => cat_cv v
theorem okObj (hx : p.tables.exec = Jvm.exec) (hZ : Z.Warmed39 s.vm) {own : String} {idx W : Nat} (hown : s.vm.findClass own = some m.cls) (w1 : (Jvm.Cond.methodLink own idx Lib.objectInit).before a0 Z = true) (w2 : (Jvm.Cond.instanceMethod Lib.objectInit).before a0 Z = true)
    (w3 : (Jvm.Cond.code Lib.objectInit ⟨#[0xb1]⟩ 1 none).before a0 Z = true) (hf : 1 ≤ R.frames) (hl : W + 12 ≤ R.locals) : Good p l e R s m args below meth c Z σ x0 n0 K (.invokespecial idx) (aObj W) := by
  intro T locs cs ss pc L S H S' H' cs' ss' X hd hL hR hF hB h
  unfold aObj at h
  split at h
  · rename_i a r
    split at h
    · rename_i hq
      cases h
      obtain ⟨T', X', e', st⟩ := initO X hx hZ hown w1 w2 w3 rfl (g := mkF m pc (cL σ L) (List.map (cv σ) (.ref a :: S'))) rfl (size_cL.trans hL) rfl hd hf (W := W) (by show 2 * 0 + _ ≤ _; rw [cat_sum]; omega) hl
      exact ⟨T', locs, X', e' ▸ hR, hF, hB, st⟩
    · cases h
  · cases h
theorem args_rev (S : List Value) (na : Nat) : S.map (cv σ) = (((S.take na).reverse).map (cv σ)).reverse ++ (S.drop na).map (cv σ) := by
  rw [List.map_reverse, List.reverse_reverse, ← List.map_append, List.take_append_drop]
theorem toList_map (v : Option Value) (r : List Value) : (v.map (cv σ)).toList ++ r.map (cv σ) = (v.toList ++ r).map (cv σ) := by cases v <;> simp
theorem okStat (hx : p.tables.exec = Jvm.exec) (hZ : Z.Warmed39 s.vm) {own : String} {idx na W Rc Rs maxL : Nat} {y : MethodName} {bytes : ByteArray} {ret rr : Option FieldType} {ps : List FieldType} {rm : Room} {F : List Value → AH → Option ORes} (hF0 : Says l Z σ x0 n0 K y bytes maxL ret [] rm F)
    (hown : s.vm.findClass own = some m.cls) (w1 : (Jvm.Cond.methodLink own idx y).before a0 Z = true) (w2 : (Jvm.Cond.static y).before a0 Z = true) (w3 : (Jvm.Cond.initialized y.cls).before a0 Z = true) (w4 : (Jvm.Cond.code y bytes maxL ret).before a0 Z = true)
    (hy : y.cls ≠ "java/lang/invoke/MethodHandle" ∧ y.cls ≠ "java/lang/invoke/VarHandle") (hd0 : parseMethodDescriptor y.desc = some ⟨ps, rr⟩) (hna : ps.length = na) (hRc : Rc ≤ R.cells) (hRs : Rs ≤ R.slots) (hfr : rm.frames + 1 ≤ R.frames) (hlo : W + (maxL + 11) + rm.locals ≤ R.locals) :
    Good p l e R s m args below meth c Z σ x0 n0 K (.invokestatic idx) (aCall na W Rc Rs rm.cells rm.slots F) := by
  intro T locs cs ss pc L S H S' H' cs' ss' X hd hL hR hF hB h
  unfold aCall at h
  split at h
  · rename_i hq
    replace h := Option.bind_eq_some_iff.mp h
    obtain ⟨⟨v, H1⟩, h1, h⟩ := h
    cases h
    obtain ⟨v', vm1, ⟨T', L', k', n'⟩, -, X', ⟨Lc, ⟨hv, hR', hN⟩, l1, y1, z1⟩, st⟩ := Jvm.LawKit.callS X hx (y := y) hown (mvT hZ w1) (mvT hZ w2) (mvT hZ w3) (mvT hZ w4) hy (backOf (h := T.heap) (W := W) (Q := fun w h' L => w = v.map (cv σ) ∧ Rep Z σ x0 n0 K h' H1 ∧ Fr n0 L) (hF0 _ H _ T.heap h1 hR) hZ w4 w3 hfr hlo) (g := mkF m pc (cL σ L) (S.map (cv σ))) rfl (size_cL.trans hL) (argsL := ((S.take na).reverse).map (cv σ)) (rest := (S.drop na).map (cv σ)) (lenOf hd0 (by rw [hna]; simp; omega)) (args_rev S na) (by show 2 * 0 + _ ≤ _; rw [cat_sum]; omega) hd (fun _ _ => ⟨rfl, rfl, Nat.le_trans hq.2.2.1 hRc, Nat.le_trans hq.2.2.2 hRs⟩)
    dsimp only [Pt.U, Pt.locs, Pt.cells, Pt.slots] at X' l1 y1 z1 st hR'
    subst l1 y1 z1 hv
    refine ⟨T', _, X', hR', hF.app hN, ⟨Nat.le_trans hq.2.2.1 hRc, Nat.le_trans hq.2.2.2 hRs⟩, fun t q => st t ?_⟩
    show Steps p.tables e below (T'.setTop (mkF m (pc + 3) (cL σ L) ((v.map (cv σ)).toList ++ (S.drop na).map (cv σ)))) t
    rw [toList_map]; exact q
  · cases h
theorem okCtor (hx : p.tables.exec = Jvm.exec) (hZ : Z.Warmed39 s.vm) {own : String} {idx na cl W Rc Rs maxL : Nat} {y : MethodName} {bytes : ByteArray} {rr : Option FieldType} {ps : List FieldType} {rm : Room} {F : List Value → AH → Option ORes} (hF0 : Says l Z σ x0 n0 K y bytes maxL none [] rm F) (hy1 : y.name = "<init>")
    (hown : s.vm.findClass own = some m.cls) (w1 : (Jvm.Cond.methodLink own idx y).before a0 Z = true) (w2 : (Jvm.Cond.instanceMethod y).before a0 Z = true) (w3 : (Jvm.Cond.initialized y.cls).before a0 Z = true) (w4 : (Jvm.Cond.code y bytes maxL none).before a0 Z = true)
    (hy : y.cls ≠ "java/lang/invoke/MethodHandle" ∧ y.cls ≠ "java/lang/invoke/VarHandle") (hd0 : parseMethodDescriptor y.desc = some ⟨ps, rr⟩) (hna : ps.length = na) (hRc : Rc ≤ R.cells) (hRs : Rs ≤ R.slots) (hfr : rm.frames + 1 ≤ R.frames) (hlo : W + (maxL + 11) + rm.locals ≤ R.locals) :
    Good p l e R s m args below meth c Z σ x0 n0 K (.invokespecial idx) (aRecv na cl W Rc Rs rm.cells rm.slots F) := by
  intro T locs cs ss pc L S H S' H' cs' ss' X hd hL hR hF hB h
  unfold aRecv at h
  split at h
  · rename_i a r hdr
    replace h := Option.bind_eq_some_iff.mp h
    obtain ⟨q0, h0, h⟩ := h
    split at h
    · rename_i hq
      replace h := Option.bind_eq_some_iff.mp h
      obtain ⟨⟨v, H1⟩, h1, h⟩ := h
      cases h
      have hst : S.map (cv σ) = (((S.take na).reverse).map (cv σ)).reverse ++ .ref (σ a) :: r.map (cv σ) := by rw [args_rev S na, hdr]; rfl
      obtain ⟨v', vm1, ⟨T', L', k', n'⟩, -, X', ⟨Lc, ⟨hv, hR', hN⟩, l1, y1, z1⟩, st⟩ := X.specialBack hx (y := y) hy1 hown (mvT hZ w1) (mvT hZ w2) (mvT hZ w4) hy (backOf (h := T.heap) (W := W) (Q := fun w h' L => w = v.map (cv σ) ∧ Rep Z σ x0 n0 K h' H1 ∧ Fr n0 L) (hF0 _ H _ T.heap h1 hR) hZ w4 w3 hfr hlo) (g := mkF m pc (cL σ L) (S.map (cv σ))) rfl (size_cL.trans hL) (Steps.refl _) (a := σ a) (argsL := ((S.take na).reverse).map (cv σ)) (rest := r.map (cv σ)) (lenOf hd0 (by rw [hna]; simp; omega)) hst (by show 2 * 0 + _ ≤ _; rw [cat_sum]; omega) hd (fun _ _ => ⟨rfl, rfl, Nat.le_trans hq.2.2.2.1 hRc, Nat.le_trans hq.2.2.2.2 hRs⟩)
      dsimp only [Pt.U, Pt.locs, Pt.cells, Pt.slots] at X' l1 y1 z1 st hR'
      subst l1 y1 z1 hv
      refine ⟨T', _, X', hR', hF.app hN, ⟨Nat.le_trans hq.2.2.2.1 hRc, Nat.le_trans hq.2.2.2.2 hRs⟩, fun t q => st.trans ?_⟩
      show Steps p.tables e below (T'.setTop (mkF m (pc + 3) (cL σ L) ((v.map (cv σ)).toList ++ r.map (cv σ)))) t
      rw [toList_map]; exact q
    · cases h
  · cases h
theorem okVirt (hx : p.tables.exec = Jvm.exec) (hZ : Z.Warmed39 s.vm) {own C : String} {idx na cl W Rc Rs maxL : Nat} {y z : MethodName} {bytes : ByteArray} {ret rr : Option FieldType} {ps : List FieldType} {rm : Room} {fs : List (String × String × String)} {F : List Value → AH → Option ORes} (hF0 : Says l Z σ x0 n0 K z bytes maxL ret [] rm F) (hC : K[cl]? = some (C, fs))
    (hown : s.vm.findClass own = some m.cls) (w1 : (Jvm.Cond.methodLink own idx y).before a0 Z = true) (w2 : (Jvm.Cond.declares y).before a0 Z = true) (w5 : (Jvm.Cond.selects C y z).before a0 Z = true) (w6 : (Jvm.Cond.instanceMethod z).before a0 Z = true) (w3 : (Jvm.Cond.initialized z.cls).before a0 Z = true) (w4 : (Jvm.Cond.code z bytes maxL ret).before a0 Z = true)
    (nf : ∀ (s' : State) (ar : Array Value), (Jvm.Cond.selects C y z).before ar s' = true → NotFace s' y) (hy : y.cls ≠ "java/lang/invoke/MethodHandle" ∧ y.cls ≠ "java/lang/invoke/VarHandle") (hd0 : parseMethodDescriptor y.desc = some ⟨ps, rr⟩) (hna : ps.length = na) (hRc : Rc ≤ R.cells) (hRs : Rs ≤ R.slots) (hfr : rm.frames + 1 ≤ R.frames) (hlo : W + (maxL + 11) + rm.locals ≤ R.locals) :
    Good p l e R s m args below meth c Z σ x0 n0 K (.invokevirtual idx) (aRecv na cl W Rc Rs rm.cells rm.slots F) := by
  intro T locs cs ss pc L S H S' H' cs' ss' X hd hL hR hF hB h
  unfold aRecv at h
  split at h
  · rename_i a r hdr
    replace h := Option.bind_eq_some_iff.mp h
    obtain ⟨⟨cn, vs⟩, h0, h⟩ := h
    dsimp only at h
    split at h
    · rename_i hq
      replace h := Option.bind_eq_some_iff.mp h
      obtain ⟨⟨v, H1⟩, h1, h⟩ := h
      cases h
      obtain ⟨rfl, hq⟩ := hq
      obtain ⟨C', fs', q1, q2, -⟩ := hR.2.2.2 _ _ (obj_some h0)
      cases hC.symm.trans q1
      obtain ⟨cB, kB, i1, i2, i3⟩ := isOf (T := T) hZ rfl q2
      have hst : S.map (cv σ) = (((S.take na).reverse).map (cv σ)).reverse ++ .ref (σ a) :: r.map (cv σ) := by rw [args_rev S na, hdr]; rfl
      obtain ⟨v', vm1, ⟨T', L', k', n'⟩, -, X', ⟨Lc, ⟨hv, hR', hN⟩, l1, y1, z1⟩, st⟩ := X.virtualBack hx (y := y) (z := z) hown (mvT hZ w1) (mvT hZ w2) (nf s #[] (mvT hZ w5)) (mvT hZ w5) (mvT hZ w6) hy (backOf (h := T.heap) (W := W) (Q := fun w h' L => w = v.map (cv σ) ∧ Rep Z σ x0 n0 K h' H1 ∧ Fr n0 L) (hF0 _ H _ T.heap h1 hR) hZ w4 w3 hfr hlo) i1 i3 (g := mkF m pc (cL σ L) (S.map (cv σ))) rfl (size_cL.trans hL) (Steps.refl _) (argsL := ((S.take na).reverse).map (cv σ)) (rest := r.map (cv σ)) (lenOf hd0 (by rw [hna]; simp; omega)) hst (by show 2 * 0 + _ ≤ _; rw [cat_sum]; omega) hd (fun _ _ => ⟨rfl, rfl, Nat.le_trans hq.2.2.1 hRc, Nat.le_trans hq.2.2.2 hRs⟩)
      dsimp only [Pt.U, Pt.locs, Pt.cells, Pt.slots] at X' l1 y1 z1 st hR'
      subst l1 y1 z1 hv
      refine ⟨T', _, X', hR', hF.app hN, ⟨Nat.le_trans hq.2.2.1 hRc, Nat.le_trans hq.2.2.2 hRs⟩, fun t q => st.trans ?_⟩
      show Steps p.tables e below (T'.setTop (mkF m (pc + 3) (cL σ L) ((v.map (cv σ)).toList ++ r.map (cv σ)))) t
      rw [toList_map]; exact q
    · cases h
  · cases h
theorem ag_nil : AllGood p l e R s m args below meth c Z σ x0 n0 K [] := trivial
theorem ag_cons {q i : Nat} {act : Act} {E : List (Nat × Nat × Act)} (h : Good p l e R s m args below meth c Z σ x0 n0 K (insOf q i) act) (t : AllGood p l e R s m args below meth c Z σ x0 n0 K E) : AllGood p l e R s m args below meth c Z σ x0 n0 K ((q, i, act) :: E) := ⟨h, t⟩
end Acts
theorem names_inj {fs : List (String × String × String)} (h : (fs.map fun f => f.2.1).Nodup) : ∀ (i j : Nat) (f g : String × String × String), fs[i]? = some f → fs[j]? = some g → f.2.1 = g.2.1 → i = j := by
  intro i j f g hf hg e
  refine (List.getElem?_inj (l := fs.map fun f => f.2.1) (by simpa using (List.getElem?_eq_some_iff.mp hf).1) h).mp ?_
  simp [hf, hg, e]
theorem sg_start {n : Nat} : Sg (fun k => n + k) 0 n := ⟨fun k _ => rfl, fun i h => absurd h (Nat.not_lt_zero _), fun i j h => absurd h (Nat.not_lt_zero _)⟩
theorem rep_start {s : State} {σ : Nat → Nat} {K : List CD} : Rep s σ 0 s.heap.size K s.heap [] := ⟨rfl, Nat.le_refl _, Old.start s, fun k o h => by cases h⟩
end Jvm.Own
namespace Jvm.Own
open Sem ClassFile Op Lib Jvm.RoadKit
/-! ## 6. Rows for evaluating a orun -/
section Ev
variable {x y : Int32} {pc : Nat} {o : Int} {f : Nat → Option ORes} {P : Prop} [Decidable P]
theorem h_eq : if_icmp.holds .eq x y = decide (x = y) := by by_cases h : x = y <;> simp [if_icmp.holds, h]
theorem h_ne : if_icmp.holds .ne x y = !decide (x = y) := by by_cases h : x = y <;> simp [if_icmp.holds, h]
theorem h_lt : if_icmp.holds .lt x y = decide (x < y) := rfl
theorem h_ge : if_icmp.holds .ge x y = !decide (x < y) := by
  by_cases h : x < y
  · simp [if_icmp.holds, h, Int32.not_le.mpr h]
  · simp [if_icmp.holds, h, Int32.not_lt.mp h]
theorem h_gt : if_icmp.holds .gt x y = decide (y < x) := rfl
theorem h_le : if_icmp.holds .le x y = !decide (y < x) := by
  by_cases h : y < x
  · simp [if_icmp.holds, h, Int32.not_le.mpr h]
  · simp [if_icmp.holds, h, Int32.not_lt.mp h]
theorem z_eq : ifCond.holds .eq x = decide (x = 0) := h_eq (y := 0)
theorem z_ne : ifCond.holds .ne x = !decide (x = 0) := h_ne (y := 0)
theorem z_lt : ifCond.holds .lt x = decide (x < 0) := rfl
theorem z_ge : ifCond.holds .ge x = !decide (x < 0) := h_ge (y := 0)
theorem z_gt : ifCond.holds .gt x = decide (0 < x) := rfl
theorem z_le : ifCond.holds .le x = !decide (0 < x) := h_le (y := 0)
theorem br_d : br (decide P) pc o f = if 0 ≤ (pc : Int) + o then (if P then f ((pc : Int) + o).toNat else f (pc + 3)) else none := by unfold br; by_cases h : P <;> simp [h]
theorem br_n : br (!decide P) pc o f = if 0 ≤ (pc : Int) + o then (if P then f (pc + 3) else f ((pc : Int) + o).toNat) else none := by unfold br; by_cases h : P <;> simp [h]
theorem br_t : br true pc o f = if 0 ≤ (pc : Int) + o then f ((pc : Int) + o).toNat else none := rfl
theorem br_f : br false pc o f = if 0 ≤ (pc : Int) + o then f (pc + 3) else none := rfl
theorem b_1 : ((if P then (1 : Int32) else 0) = 1) = P := by by_cases h : P <;> simp [h]
theorem b_0 : ((if P then (1 : Int32) else 0) = 0) = ¬ P := by by_cases h : P <;> simp [h]
theorem b_1r : ((1 : Int32) = (if P then (1 : Int32) else 0)) = P := by by_cases h : P <;> simp [h]
theorem b_0r : ((0 : Int32) = (if P then (1 : Int32) else 0)) = ¬ P := by by_cases h : P <;> simp [h]
theorem b_bb {Q : Prop} [Decidable Q] : ((if P then (1 : Int32) else 0) = (if Q then (1 : Int32) else 0)) = (P ↔ Q) := by by_cases h : P <;> by_cases h' : Q <;> simp [h, h']
theorem b_and : (if P then (1 : Int32) else 0) &&& 1 = if P then 1 else 0 := by by_cases h : P <;> simp [h]
theorem i_10 : ((1 : Int32) = 0) = False := by simp
theorem i_01 : ((0 : Int32) = 1) = False := by simp
theorem nr_i {x : Int32} : narrow .int (.int x) = .int x := rfl
theorem nr_j {x : Int64} : narrow .long (.long x) = .long x := rfl
theorem nr_a {t : FieldType} {v : Value} : narrow (.array t) v = v := by cases v <;> rfl
theorem nr_o {t : String} {v : Value} : narrow (.object t) v = v := by cases v <;> rfl
theorem nr_b : narrow .boolean (.int (if P then (1 : Int32) else 0)) = .int (if P then (1 : Int32) else 0) := by by_cases h : P <;> simp [h] <;> rfl
theorem nr_b1 : narrow .boolean (.int 1) = .int 1 := rfl
theorem nr_b0 : narrow .boolean (.int 0) = .int 0 := rfl
theorem ft_i {x : Int32} : fits .int (.int x) = true := rfl
theorem ft_j {x : Int64} : fits .long (.long x) = true := rfl
theorem ft_a {t : FieldType} {a : Nat} : fits (.array t) (.ref a) = true := rfl
theorem ft_o {t : String} {a : Nat} : fits (.object t) (.ref a) = true := rfl
theorem ft_b : fits .boolean (.int (if P then (1 : Int32) else 0)) = true := by by_cases h : P <;> simp [h] <;> rfl
theorem ft_b1 : fits .boolean (.int 1) = true := rfl
theorem ft_b0 : fits .boolean (.int 0) = true := rfl
theorem rV_nil {H : AH} : rV none [] H = some (none, H) := rfl
theorem cat_int {x : Int32} : Value.category (.int x) = 1 := rfl
theorem cat_long {x : Int64} : Value.category (.long x) = 2 := rfl
theorem cat_ref {a : Nat} : Value.category (.ref a) = 1 := rfl
theorem cat_null : Value.category .null = 1 := rfl
theorem and11 : (1 : Int32) &&& 1 = 1 := rfl
theorem and01 : (0 : Int32) &&& 1 = 0 := rfl
theorem pI_int {x : Int32} {r : List Value} {f : Int32 → List Value → Option ORes} : pI (.int x :: r) f = f x r := rfl
theorem pL_long {x : Int64} {r : List Value} {f : Int64 → List Value → Option ORes} : pL (.long x :: r) f = f x r := rfl
theorem pA_ref {a : Nat} {r : List Value} {f : Value → List Value → Option ORes} : pA (.ref a :: r) f = f (.ref a) r := rfl
theorem pA_null {r : List Value} {f : Value → List Value → Option ORes} : pA (.null :: r) f = f .null r := rfl
theorem pR_ref {a : Nat} {r : List Value} {f : Nat → List Value → Option ORes} : pR (.ref a :: r) f = f a r := rfl
theorem p1_int {x : Int32} {r : List Value} {f : Value → List Value → Option ORes} : p1 (.int x :: r) f = f (.int x) r := rfl
theorem p1_ref {a : Nat} {r : List Value} {f : Value → List Value → Option ORes} : p1 (.ref a :: r) f = f (.ref a) r := rfl
theorem p1_null {r : List Value} {f : Value → List Value → Option ORes} : p1 (.null :: r) f = f .null r := rfl
variable {code : ByteArray} {rt : Option FieldType} {E : List (Nat × Nat × Act)} {x0 n q cs ss : Nat} {L : List Slot} {S : List Value} {H : AH}
theorem s_icmp {cd : ClassFile.Cond} {Q : Int32 → Int32 → Prop} [∀ x y, Decidable (Q x y)] (hP : ∀ x y, if_icmp.holds cd x y = decide (Q x y)) (h : dec code pc = some (.if_icmp cd o)) (ho : 0 ≤ (pc : Int) + o) (hq : ((pc : Int) + o).toNat = q) :
    orun code rt E x0 (n + 1) (pc, L, S, H, cs, ss) = pI S fun y S => pI S fun x r => if Q x y then orun code rt E x0 n (q, L, r, H, cs, ss) else orun code rt E x0 n (pc + 3, L, r, H, cs, ss) := by
  subst hq; rw [orun_succ, h]
  refine congrArg (pI S) (funext fun y => funext fun S' => congrArg (pI S') (funext fun x => funext fun r => ?_))
  rw [hP, br_d, if_pos ho]
theorem s_icmpN {cd : ClassFile.Cond} {Q : Int32 → Int32 → Prop} [∀ x y, Decidable (Q x y)] (hP : ∀ x y, if_icmp.holds cd x y = !decide (Q x y)) (h : dec code pc = some (.if_icmp cd o)) (ho : 0 ≤ (pc : Int) + o) (hq : ((pc : Int) + o).toNat = q) :
    orun code rt E x0 (n + 1) (pc, L, S, H, cs, ss) = pI S fun y S => pI S fun x r => if Q x y then orun code rt E x0 n (pc + 3, L, r, H, cs, ss) else orun code rt E x0 n (q, L, r, H, cs, ss) := by
  subst hq; rw [orun_succ, h]
  refine congrArg (pI S) (funext fun y => funext fun S' => congrArg (pI S') (funext fun x => funext fun r => ?_))
  rw [hP, br_n, if_pos ho]
theorem s_if {cd : ClassFile.Cond} {Q : Int32 → Prop} [∀ x, Decidable (Q x)] (hP : ∀ x, ifCond.holds cd x = decide (Q x)) (h : dec code pc = some (.ifCond cd o)) (ho : 0 ≤ (pc : Int) + o) (hq : ((pc : Int) + o).toNat = q) :
    orun code rt E x0 (n + 1) (pc, L, S, H, cs, ss) = pI S fun x r => if Q x then orun code rt E x0 n (q, L, r, H, cs, ss) else orun code rt E x0 n (pc + 3, L, r, H, cs, ss) := by
  subst hq; rw [orun_succ, h]
  refine congrArg (pI S) (funext fun x => funext fun r => ?_)
  rw [hP, br_d, if_pos ho]
theorem s_ifN {cd : ClassFile.Cond} {Q : Int32 → Prop} [∀ x, Decidable (Q x)] (hP : ∀ x, ifCond.holds cd x = !decide (Q x)) (h : dec code pc = some (.ifCond cd o)) (ho : 0 ≤ (pc : Int) + o) (hq : ((pc : Int) + o).toNat = q) :
    orun code rt E x0 (n + 1) (pc, L, S, H, cs, ss) = pI S fun x r => if Q x then orun code rt E x0 n (pc + 3, L, r, H, cs, ss) else orun code rt E x0 n (q, L, r, H, cs, ss) := by
  subst hq; rw [orun_succ, h]
  refine congrArg (pI S) (funext fun x => funext fun r => ?_)
  rw [hP, br_n, if_pos ho]
theorem s_goto (h : dec code pc = some (.goto o)) (ho : 0 ≤ (pc : Int) + o) (hq : ((pc : Int) + o).toNat = q) : orun code rt E x0 (n + 1) (pc, L, S, H, cs, ss) = orun code rt E x0 n (q, L, S, H, cs, ss) := by
  subst hq; rw [orun_succ, h]; exact if_pos ho
theorem s_any {i : Instr} (h : dec code pc = some i) : orun code rt E x0 (n + 1) (pc, L, S, H, cs, ss) = ex rt E x0 (orun code rt E x0 n) i pc L S H cs ss := by rw [orun_succ, h]; rfl
end Ev
theorem ex_ishl {rt : Option FieldType} {E : List (Nat × Nat × Act)} {x0 pc cs ss : Nat} {k : St → Option ORes} {L : List Slot} {S : List Value} {H : AH}  : ex rt E x0 k (.ishl) pc L S H cs ss = pI S fun y S => pI S fun x r => k (pc + 1, L, .int (x <<< (y &&& 31)) :: r, H, cs, ss) := rfl
theorem ex_ishr {rt : Option FieldType} {E : List (Nat × Nat × Act)} {x0 pc cs ss : Nat} {k : St → Option ORes} {L : List Slot} {S : List Value} {H : AH}  : ex rt E x0 k (.ishr) pc L S H cs ss = pI S fun y S => pI S fun x r => k (pc + 1, L, .int (x >>> (y &&& 31)) :: r, H, cs, ss) := rfl
theorem ex_iushr {rt : Option FieldType} {E : List (Nat × Nat × Act)} {x0 pc cs ss : Nat} {k : St → Option ORes} {L : List Slot} {S : List Value} {H : AH}  : ex rt E x0 k (.iushr) pc L S H cs ss = pI S fun y S => pI S fun x r => k (pc + 1, L, .int ((x.toUInt32 >>> (y &&& 31).toUInt32).toInt32) :: r, H, cs, ss) := rfl
theorem ex_idiv {rt : Option FieldType} {E : List (Nat × Nat × Act)} {x0 pc cs ss : Nat} {k : St → Option ORes} {L : List Slot} {S : List Value} {H : AH}  : ex rt E x0 k (.idiv) pc L S H cs ss = pI S fun y S => pI S fun x r => if y = 0 then none else k (pc + 1, L, .int (x / y) :: r, H, cs, ss) := rfl
theorem ex_irem {rt : Option FieldType} {E : List (Nat × Nat × Act)} {x0 pc cs ss : Nat} {k : St → Option ORes} {L : List Slot} {S : List Value} {H : AH}  : ex rt E x0 k (.irem) pc L S H cs ss = pI S fun y S => pI S fun x r => if y = 0 then none else k (pc + 1, L, .int (x % y) :: r, H, cs, ss) := rfl
theorem ex_ineg {rt : Option FieldType} {E : List (Nat × Nat × Act)} {x0 pc cs ss : Nat} {k : St → Option ORes} {L : List Slot} {S : List Value} {H : AH}  : ex rt E x0 k (.ineg) pc L S H cs ss = pI S fun x r => k (pc + 1, L, .int (-x) :: r, H, cs, ss) := rfl
theorem ex_i2b {rt : Option FieldType} {E : List (Nat × Nat × Act)} {x0 pc cs ss : Nat} {k : St → Option ORes} {L : List Slot} {S : List Value} {H : AH}  : ex rt E x0 k (.i2b) pc L S H cs ss = pI S fun x r => k (pc + 1, L, .int x.toInt8.toInt32 :: r, H, cs, ss) := rfl
theorem ex_i2c {rt : Option FieldType} {E : List (Nat × Nat × Act)} {x0 pc cs ss : Nat} {k : St → Option ORes} {L : List Slot} {S : List Value} {H : AH}  : ex rt E x0 k (.i2c) pc L S H cs ss = pI S fun x r => k (pc + 1, L, .int x.toUInt32.toUInt16.toUInt32.toInt32 :: r, H, cs, ss) := rfl
theorem ex_i2s {rt : Option FieldType} {E : List (Nat × Nat × Act)} {x0 pc cs ss : Nat} {k : St → Option ORes} {L : List Slot} {S : List Value} {H : AH}  : ex rt E x0 k (.i2s) pc L S H cs ss = pI S fun x r => k (pc + 1, L, .int x.toInt16.toInt32 :: r, H, cs, ss) := rfl
theorem ex_i2l {rt : Option FieldType} {E : List (Nat × Nat × Act)} {x0 pc cs ss : Nat} {k : St → Option ORes} {L : List Slot} {S : List Value} {H : AH}  : ex rt E x0 k (.i2l) pc L S H cs ss = pI S fun x r => k (pc + 1, L, .long x.toInt64 :: r, H, cs, ss) := rfl
theorem ex_l2i {rt : Option FieldType} {E : List (Nat × Nat × Act)} {x0 pc cs ss : Nat} {k : St → Option ORes} {L : List Slot} {S : List Value} {H : AH}  : ex rt E x0 k (.l2i) pc L S H cs ss = pL S fun x r => k (pc + 1, L, .int x.toInt32 :: r, H, cs, ss) := rfl
theorem ex_lneg {rt : Option FieldType} {E : List (Nat × Nat × Act)} {x0 pc cs ss : Nat} {k : St → Option ORes} {L : List Slot} {S : List Value} {H : AH}  : ex rt E x0 k (.lneg) pc L S H cs ss = pL S fun x r => k (pc + 1, L, .long (-x) :: r, H, cs, ss) := rfl
theorem ex_lshl {rt : Option FieldType} {E : List (Nat × Nat × Act)} {x0 pc cs ss : Nat} {k : St → Option ORes} {L : List Slot} {S : List Value} {H : AH}  : ex rt E x0 k (.lshl) pc L S H cs ss = pI S fun y S => pL S fun x r => k (pc + 1, L, .long (x <<< (y &&& 0x3f).toInt64) :: r, H, cs, ss) := rfl
theorem ex_lshr {rt : Option FieldType} {E : List (Nat × Nat × Act)} {x0 pc cs ss : Nat} {k : St → Option ORes} {L : List Slot} {S : List Value} {H : AH}  : ex rt E x0 k (.lshr) pc L S H cs ss = pI S fun y S => pL S fun x r => k (pc + 1, L, .long (x >>> (y &&& 0x3f).toInt64) :: r, H, cs, ss) := rfl
theorem ex_lushr {rt : Option FieldType} {E : List (Nat × Nat × Act)} {x0 pc cs ss : Nat} {k : St → Option ORes} {L : List Slot} {S : List Value} {H : AH}  : ex rt E x0 k (.lushr) pc L S H cs ss = pI S fun y S => pL S fun x r => k (pc + 1, L, .long ((x.toUInt64 >>> (y &&& 0x3f).toInt64.toUInt64).toInt64) :: r, H, cs, ss) := rfl
theorem ex_ldiv {rt : Option FieldType} {E : List (Nat × Nat × Act)} {x0 pc cs ss : Nat} {k : St → Option ORes} {L : List Slot} {S : List Value} {H : AH}  : ex rt E x0 k (.ldiv) pc L S H cs ss = pL S fun y S => pL S fun x r => if y = 0 then none else k (pc + 1, L, .long (x / y) :: r, H, cs, ss) := rfl
theorem ex_lrem {rt : Option FieldType} {E : List (Nat × Nat × Act)} {x0 pc cs ss : Nat} {k : St → Option ORes} {L : List Slot} {S : List Value} {H : AH}  : ex rt E x0 k (.lrem) pc L S H cs ss = pL S fun y S => pL S fun x r => if y = 0 then none else k (pc + 1, L, .long (x % y) :: r, H, cs, ss) := rfl
theorem ex_lcmp {rt : Option FieldType} {E : List (Nat × Nat × Act)} {x0 pc cs ss : Nat} {k : St → Option ORes} {L : List Slot} {S : List Value} {H : AH}  : ex rt E x0 k (.lcmp) pc L S H cs ss = pL S fun y S => pL S fun x r => k (pc + 1, L, .int (lcmpW x y) :: r, H, cs, ss) := rfl
theorem ex_dup {rt : Option FieldType} {E : List (Nat × Nat × Act)} {x0 pc cs ss : Nat} {k : St → Option ORes} {L : List Slot} {S : List Value} {H : AH}  : ex rt E x0 k (.dup) pc L S H cs ss = p1 S fun v r => k (pc + 1, L, v :: v :: r, H, cs, ss) := rfl
theorem ex_pop {rt : Option FieldType} {E : List (Nat × Nat × Act)} {x0 pc cs ss : Nat} {k : St → Option ORes} {L : List Slot} {S : List Value} {H : AH}  : ex rt E x0 k (.pop) pc L S H cs ss = p1 S fun _ r => k (pc + 1, L, r, H, cs, ss) := rfl
theorem ex_dup_x1 {rt : Option FieldType} {E : List (Nat × Nat × Act)} {x0 pc cs ss : Nat} {k : St → Option ORes} {L : List Slot} {S : List Value} {H : AH}  : ex rt E x0 k (.dup_x1) pc L S H cs ss = p1 S fun x S => p1 S fun y r => k (pc + 1, L, x :: y :: x :: r, H, cs, ss) := rfl
theorem ex_dup2 {rt : Option FieldType} {E : List (Nat × Nat × Act)} {x0 pc cs ss : Nat} {k : St → Option ORes} {L : List Slot} {S : List Value} {H : AH}  : ex rt E x0 k (.dup2) pc L S H cs ss = p1 S fun x S => p1 S fun y r => k (pc + 1, L, x :: y :: x :: y :: r, H, cs, ss) := rfl
theorem ex_ifnull {rt : Option FieldType} {E : List (Nat × Nat × Act)} {x0 pc cs ss : Nat} {k : St → Option ORes} {L : List Slot} {S : List Value} {H : AH} {o : Int} : ex rt E x0 k (.ifnull o) pc L S H cs ss = pA S fun v r => br (refEq v .null) pc o fun q => k (q, L, r, H, cs, ss) := rfl
theorem ex_ifnonnull {rt : Option FieldType} {E : List (Nat × Nat × Act)} {x0 pc cs ss : Nat} {k : St → Option ORes} {L : List Slot} {S : List Value} {H : AH} {o : Int} : ex rt E x0 k (.ifnonnull o) pc L S H cs ss = pA S fun v r => br (!refEq v .null) pc o fun q => k (q, L, r, H, cs, ss) := rfl
theorem ex_if_acmp {rt : Option FieldType} {E : List (Nat × Nat × Act)} {x0 pc cs ss : Nat} {k : St → Option ORes} {L : List Slot} {S : List Value} {H : AH} {cd : ACond} {o : Int} : ex rt E x0 k (.if_acmp cd o) pc L S H cs ss = pA S fun y S => pA S fun x r => br (acV cd (refEq x y)) pc o fun q => k (q, L, r, H, cs, ss) := rfl
theorem ex_arraylength {rt : Option FieldType} {E : List (Nat × Nat × Act)} {x0 pc cs ss : Nat} {k : St → Option ORes} {L : List Slot} {S : List Value} {H : AH}  : ex rt E x0 k (.arraylength) pc L S H cs ss = pR S fun a r => (arr H a).bind fun q => k (pc + 1, L, .int q.2.length.toInt32 :: r, H, cs, ss) := rfl
theorem ex_iaload {rt : Option FieldType} {E : List (Nat × Nat × Act)} {x0 pc cs ss : Nat} {k : St → Option ORes} {L : List Slot} {S : List Value} {H : AH}  : ex rt E x0 k (.iaload) pc L S H cs ss = ald (isT .int) S H fun v r => k (pc + 1, L, v :: r, H, cs, ss) := rfl
theorem ex_baload {rt : Option FieldType} {E : List (Nat × Nat × Act)} {x0 pc cs ss : Nat} {k : St → Option ORes} {L : List Slot} {S : List Value} {H : AH}  : ex rt E x0 k (.baload) pc L S H cs ss = ald isBZ S H fun v r => k (pc + 1, L, v :: r, H, cs, ss) := rfl
theorem ex_caload {rt : Option FieldType} {E : List (Nat × Nat × Act)} {x0 pc cs ss : Nat} {k : St → Option ORes} {L : List Slot} {S : List Value} {H : AH}  : ex rt E x0 k (.caload) pc L S H cs ss = ald (isT .char) S H fun v r => k (pc + 1, L, v :: r, H, cs, ss) := rfl
theorem ex_laload {rt : Option FieldType} {E : List (Nat × Nat × Act)} {x0 pc cs ss : Nat} {k : St → Option ORes} {L : List Slot} {S : List Value} {H : AH}  : ex rt E x0 k (.laload) pc L S H cs ss = ald (isT .long) S H fun v r => k (pc + 1, L, v :: r, H, cs, ss) := rfl
theorem ex_aaload {rt : Option FieldType} {E : List (Nat × Nat × Act)} {x0 pc cs ss : Nat} {k : St → Option ORes} {L : List Slot} {S : List Value} {H : AH}  : ex rt E x0 k (.aaload) pc L S H cs ss = ald FieldType.isReference S H fun v r => k (pc + 1, L, v :: r, H, cs, ss) := rfl
theorem ex_iastore {rt : Option FieldType} {E : List (Nat × Nat × Act)} {x0 pc cs ss : Nat} {k : St → Option ORes} {L : List Slot} {S : List Value} {H : AH}  : ex rt E x0 k (.iastore) pc L S H cs ss = ast (isT .int) x0 S H fun r H' => k (pc + 1, L, r, H', cs, ss) := rfl
theorem ex_bastore {rt : Option FieldType} {E : List (Nat × Nat × Act)} {x0 pc cs ss : Nat} {k : St → Option ORes} {L : List Slot} {S : List Value} {H : AH}  : ex rt E x0 k (.bastore) pc L S H cs ss = ast (isT .byte) x0 S H fun r H' => k (pc + 1, L, r, H', cs, ss) := rfl
theorem ex_castore {rt : Option FieldType} {E : List (Nat × Nat × Act)} {x0 pc cs ss : Nat} {k : St → Option ORes} {L : List Slot} {S : List Value} {H : AH}  : ex rt E x0 k (.castore) pc L S H cs ss = ast (isT .char) x0 S H fun r H' => k (pc + 1, L, r, H', cs, ss) := rfl
theorem ex_lastore {rt : Option FieldType} {E : List (Nat × Nat × Act)} {x0 pc cs ss : Nat} {k : St → Option ORes} {L : List Slot} {S : List Value} {H : AH}  : ex rt E x0 k (.lastore) pc L S H cs ss = astL x0 S H fun r H' => k (pc + 1, L, r, H', cs, ss) := rfl
theorem ex_ldc {rt : Option FieldType} {E : List (Nat × Nat × Act)} {x0 pc cs ss : Nat} {k : St → Option ORes} {L : List Slot} {S : List Value} {H : AH} {i : Nat} : ex rt E x0 k (.ldc i) pc L S H cs ss = spc E 0 i S H cs ss fun S' H' cs' ss' => k (pc + 2, L, S', H', cs', ss') := rfl
theorem ex_ldc_w {rt : Option FieldType} {E : List (Nat × Nat × Act)} {x0 pc cs ss : Nat} {k : St → Option ORes} {L : List Slot} {S : List Value} {H : AH} {i : Nat} : ex rt E x0 k (.ldc_w i) pc L S H cs ss = spc E 1 i S H cs ss fun S' H' cs' ss' => k (pc + 3, L, S', H', cs', ss') := rfl
theorem ex_ldc2_w {rt : Option FieldType} {E : List (Nat × Nat × Act)} {x0 pc cs ss : Nat} {k : St → Option ORes} {L : List Slot} {S : List Value} {H : AH} {i : Nat} : ex rt E x0 k (.ldc2_w i) pc L S H cs ss = spc E 2 i S H cs ss fun S' H' cs' ss' => k (pc + 3, L, S', H', cs', ss') := rfl
theorem ex_getfield {rt : Option FieldType} {E : List (Nat × Nat × Act)} {x0 pc cs ss : Nat} {k : St → Option ORes} {L : List Slot} {S : List Value} {H : AH} {i : Nat} : ex rt E x0 k (.getfield i) pc L S H cs ss = spc E 3 i S H cs ss fun S' H' cs' ss' => k (pc + 3, L, S', H', cs', ss') := rfl
theorem ex_putfield {rt : Option FieldType} {E : List (Nat × Nat × Act)} {x0 pc cs ss : Nat} {k : St → Option ORes} {L : List Slot} {S : List Value} {H : AH} {i : Nat} : ex rt E x0 k (.putfield i) pc L S H cs ss = spc E 4 i S H cs ss fun S' H' cs' ss' => k (pc + 3, L, S', H', cs', ss') := rfl
theorem ex_getstatic {rt : Option FieldType} {E : List (Nat × Nat × Act)} {x0 pc cs ss : Nat} {k : St → Option ORes} {L : List Slot} {S : List Value} {H : AH} {i : Nat} : ex rt E x0 k (.getstatic i) pc L S H cs ss = spc E 5 i S H cs ss fun S' H' cs' ss' => k (pc + 3, L, S', H', cs', ss') := rfl
theorem ex_new {rt : Option FieldType} {E : List (Nat × Nat × Act)} {x0 pc cs ss : Nat} {k : St → Option ORes} {L : List Slot} {S : List Value} {H : AH} {i : Nat} : ex rt E x0 k (.new i) pc L S H cs ss = spc E 6 i S H cs ss fun S' H' cs' ss' => k (pc + 3, L, S', H', cs', ss') := rfl
theorem ex_invokestatic {rt : Option FieldType} {E : List (Nat × Nat × Act)} {x0 pc cs ss : Nat} {k : St → Option ORes} {L : List Slot} {S : List Value} {H : AH} {i : Nat} : ex rt E x0 k (.invokestatic i) pc L S H cs ss = spc E 7 i S H cs ss fun S' H' cs' ss' => k (pc + 3, L, S', H', cs', ss') := rfl
theorem ex_invokespecial {rt : Option FieldType} {E : List (Nat × Nat × Act)} {x0 pc cs ss : Nat} {k : St → Option ORes} {L : List Slot} {S : List Value} {H : AH} {i : Nat} : ex rt E x0 k (.invokespecial i) pc L S H cs ss = spc E 8 i S H cs ss fun S' H' cs' ss' => k (pc + 3, L, S', H', cs', ss') := rfl
theorem ex_invokevirtual {rt : Option FieldType} {E : List (Nat × Nat × Act)} {x0 pc cs ss : Nat} {k : St → Option ORes} {L : List Slot} {S : List Value} {H : AH} {i : Nat} : ex rt E x0 k (.invokevirtual i) pc L S H cs ss = spc E 9 i S H cs ss fun S' H' cs' ss' => k (pc + 3, L, S', H', cs', ss') := rfl
theorem ex_checkcast {rt : Option FieldType} {E : List (Nat × Nat × Act)} {x0 pc cs ss : Nat} {k : St → Option ORes} {L : List Slot} {S : List Value} {H : AH} {i : Nat} : ex rt E x0 k (.checkcast i) pc L S H cs ss = spc E 10 i S H cs ss fun S' H' cs' ss' => k (pc + 3, L, S', H', cs', ss') := rfl
theorem ex_instanceof {rt : Option FieldType} {E : List (Nat × Nat × Act)} {x0 pc cs ss : Nat} {k : St → Option ORes} {L : List Slot} {S : List Value} {H : AH} {i : Nat} : ex rt E x0 k (.instanceof i) pc L S H cs ss = spc E 11 i S H cs ss fun S' H' cs' ss' => k (pc + 3, L, S', H', cs', ss') := rfl
theorem ex_anewarray {rt : Option FieldType} {E : List (Nat × Nat × Act)} {x0 pc cs ss : Nat} {k : St → Option ORes} {L : List Slot} {S : List Value} {H : AH} {i : Nat} : ex rt E x0 k (.anewarray i) pc L S H cs ss = spc E 12 i S H cs ss fun S' H' cs' ss' => k (pc + 3, L, S', H', cs', ss') := rfl
theorem ex_newarray {rt : Option FieldType} {E : List (Nat × Nat × Act)} {x0 pc cs ss : Nat} {k : St → Option ORes} {L : List Slot} {S : List Value} {H : AH} {t : ArrayType} : ex rt E x0 k (.newarray t) pc L S H cs ss = spc E 13 (atn t) S H cs ss fun S' H' cs' ss' => k (pc + 2, L, S', H', cs', ss') := rfl
theorem ex_ireturn {rt : Option FieldType} {E : List (Nat × Nat × Act)} {x0 pc cs ss : Nat} {k : St → Option ORes} {L : List Slot} {S : List Value} {H : AH}  : ex rt E x0 k (.ireturn) pc L S H cs ss = rI rt S H := rfl
theorem ex_lreturn {rt : Option FieldType} {E : List (Nat × Nat × Act)} {x0 pc cs ss : Nat} {k : St → Option ORes} {L : List Slot} {S : List Value} {H : AH}  : ex rt E x0 k (.lreturn) pc L S H cs ss = rL rt S H := rfl
theorem ex_areturn {rt : Option FieldType} {E : List (Nat × Nat × Act)} {x0 pc cs ss : Nat} {k : St → Option ORes} {L : List Slot} {S : List Value} {H : AH}  : ex rt E x0 k (.areturn) pc L S H cs ss = rA rt S H := rfl
theorem ex_return {rt : Option FieldType} {E : List (Nat × Nat × Act)} {x0 pc cs ss : Nat} {k : St → Option ORes} {L : List Slot} {S : List Value} {H : AH}  : ex rt E x0 k (.return_) pc L S H cs ss = rV rt S H := rfl
end Jvm.Own
namespace Jvm.Own
open Sem ClassFile Op Lib Jvm.RoadKit
/-! ## 7. Walking: one row a step, the answer's property kept apart -/
def Rsq (r : Option ORes) (q : Option ORes → Prop) : Prop := q r
theorem res_of {a b : Option ORes} {q : Option ORes → Prop} (e : a = b) (h : Rsq b q) : Rsq a q := by subst e; exact h
theorem res_t {P : Prop} [Decidable P] {A B : Option ORes} {q : Option ORes → Prop} (hc : P) (h : Rsq A q) : Rsq (if P then A else B) q := by rw [if_pos hc]; exact h
theorem res_f {P : Prop} [Decidable P] {A B : Option ORes} {q : Option ORes → Prop} (hc : ¬ P) (h : Rsq B q) : Rsq (if P then A else B) q := by rw [if_neg hc]; exact h
def OneI (r : Option ORes) : Prop := ∃ H', r = some (some (.int 1), H')
def Is (v : Option ORes) (r : Option ORes) : Prop := r = v
section Ofs
variable {code : ByteArray} {rt : Option FieldType} {E : List (Nat × Nat × Act)} {x0 N : Nat} {st : St} {a v : Option ORes} {q : Option ORes → Prop}
theorem rsq_of (e : a = orun code rt E x0 N st) (h : ∀ go, go = orun code rt E x0 → Rsq (go N st) q) : q a := by subst e; exact h _ rfl
theorem one_of (e : a = orun code rt E x0 N st) (h : ∀ go, go = orun code rt E x0 → Rsq (go N st) OneI) : ∃ H', a = some (some (.int 1), H') := by subst e; exact h _ rfl
theorem is_of (e : a = orun code rt E x0 N st) (h : ∀ go, go = orun code rt E x0 → Rsq (go N st) (Is v)) : a = v := by subst e; exact h _ rfl
end Ofs
theorem one_1 {H : AH} : OneI (some (some (.int 1), H)) := ⟨H, rfl⟩
theorem one_b {H : AH} : OneI (some (some (.int (1 &&& 1)), H)) := ⟨H, by rw [and11]⟩
theorem is_i {z w : Int32} {H H' : AH} (e : z = w) (e' : H = H') : Is (some (some (.int w), H')) (some (some (.int z), H)) := by subst e; subst e'; rfl
theorem is_r {v : Option ORes} : Is v v := rfl
theorem is_1 {H : AH} : Is (some (some (.int 1), H)) (some (some (.int (1 &&& 1)), H)) := by unfold Is; rw [and11]
theorem is_0 {H : AH} : Is (some (some (.int 0), H)) (some (some (.int (0 &&& 1)), H)) := by unfold Is; rw [and01]
def so : Slot → Bool | .unset => true | .val (.int _) => true | .val (.ref _) => true | .val .null => true | _ => false
def so2 : Slot → Slot → Bool | .unset, .unset => true | .val (.long _), .second => true | _, _ => false
def isA : Value → Bool | .ref _ => true | .null => true | _ => false
def isS : Value → Bool | .int _ => true | .ref _ => true | .null => true | _ => false
theorem st1_so {L : List Slot} {k : Nat} {v : Value} {l : Slot} (hL : L[k]? = some l) (hk : so l = true) : st1 L k v = some (L.set k (.val v)) := by
  unfold st1; rw [hL]
  cases l with
  | unset => rfl
  | second => simp [so] at hk
  | val w => cases w <;> first | rfl | (simp [so] at hk)
theorem st2_so {L : List Slot} {k : Nat} {x : Int64} {l l' : Slot} (h1 : L[k]? = some l) (h2 : L[k + 1]? = some l') (hk : so2 l l' = true) : st2 L k x = some ((L.set k (.val (.long x))).set (k + 1) .second) := by
  unfold st2; rw [h1, h2]
  cases l with
  | unset => cases l' with
    | unset => rfl
    | second => simp [so2] at hk
    | val w => simp [so2] at hk
  | second => cases l' <;> simp [so2] at hk
  | val w => cases w <;> cases l' <;> first | rfl | (simp [so2] at hk)
theorem gA_isA {L : List Slot} {k : Nat} {v : Value} (hL : L[k]? = some (.val v)) (hv : isA v = true) : gA L k = some v := by
  unfold gA; rw [hL]; cases v <;> first | rfl | (simp [isA] at hv)
theorem pA_isA {v : Value} {r : List Value} {f : Value → List Value → Option ORes} (hv : isA v = true) : pA (v :: r) f = f v r := by
  cases v <;> first | rfl | (simp [isA] at hv)
theorem p1_isS {v : Value} {r : List Value} {f : Value → List Value → Option ORes} (hv : isS v = true) : p1 (v :: r) f = f v r := by
  cases v <;> first | rfl | (simp [isS] at hv)
def ln (l : List Value) : Int32 := l.length.toInt32
theorem ln_of {l : List Value} {n : Nat} {z : Int32} (h : l.length = n) (h' : n.toInt32 = z) : ln l = z := by unfold ln; rw [h, h']
theorem ln0 : ln [] = 0 := rfl
theorem ln1 {a0 : Value} : ln [a0] = 1 := rfl
theorem ln2 {a0 a1 : Value} : ln [a0, a1] = 2 := rfl
theorem ln3 {a0 a1 a2 : Value} : ln [a0, a1, a2] = 3 := rfl
theorem ln4 {a0 a1 a2 a3 : Value} : ln [a0, a1, a2, a3] = 4 := rfl
theorem ln5 {a0 a1 a2 a3 a4 : Value} : ln [a0, a1, a2, a3, a4] = 5 := rfl
theorem ln6 {a0 a1 a2 a3 a4 a5 : Value} : ln [a0, a1, a2, a3, a4, a5] = 6 := rfl
theorem ln7 {a0 a1 a2 a3 a4 a5 a6 : Value} : ln [a0, a1, a2, a3, a4, a5, a6] = 7 := rfl
theorem ln8 {a0 a1 a2 a3 a4 a5 a6 a7 : Value} : ln [a0, a1, a2, a3, a4, a5, a6, a7] = 8 := rfl
theorem ln9 {a0 a1 a2 a3 a4 a5 a6 a7 a8 : Value} : ln [a0, a1, a2, a3, a4, a5, a6, a7, a8] = 9 := rfl
theorem ln10 {a0 a1 a2 a3 a4 a5 a6 a7 a8 a9 : Value} : ln [a0, a1, a2, a3, a4, a5, a6, a7, a8, a9] = 10 := rfl
theorem ln11 {a0 a1 a2 a3 a4 a5 a6 a7 a8 a9 a10 : Value} : ln [a0, a1, a2, a3, a4, a5, a6, a7, a8, a9, a10] = 11 := rfl
theorem ln12 {a0 a1 a2 a3 a4 a5 a6 a7 a8 a9 a10 a11 : Value} : ln [a0, a1, a2, a3, a4, a5, a6, a7, a8, a9, a10, a11] = 12 := rfl
theorem ln13 {a0 a1 a2 a3 a4 a5 a6 a7 a8 a9 a10 a11 a12 : Value} : ln [a0, a1, a2, a3, a4, a5, a6, a7, a8, a9, a10, a11, a12] = 13 := rfl
theorem ln14 {a0 a1 a2 a3 a4 a5 a6 a7 a8 a9 a10 a11 a12 a13 : Value} : ln [a0, a1, a2, a3, a4, a5, a6, a7, a8, a9, a10, a11, a12, a13] = 14 := rfl
theorem ln15 {a0 a1 a2 a3 a4 a5 a6 a7 a8 a9 a10 a11 a12 a13 a14 : Value} : ln [a0, a1, a2, a3, a4, a5, a6, a7, a8, a9, a10, a11, a12, a13, a14] = 15 := rfl
theorem ln16 {a0 a1 a2 a3 a4 a5 a6 a7 a8 a9 a10 a11 a12 a13 a14 a15 : Value} : ln [a0, a1, a2, a3, a4, a5, a6, a7, a8, a9, a10, a11, a12, a13, a14, a15] = 16 := rfl
theorem ln17 {a0 a1 a2 a3 a4 a5 a6 a7 a8 a9 a10 a11 a12 a13 a14 a15 a16 : Value} : ln [a0, a1, a2, a3, a4, a5, a6, a7, a8, a9, a10, a11, a12, a13, a14, a15, a16] = 17 := rfl
theorem ln18 {a0 a1 a2 a3 a4 a5 a6 a7 a8 a9 a10 a11 a12 a13 a14 a15 a16 a17 : Value} : ln [a0, a1, a2, a3, a4, a5, a6, a7, a8, a9, a10, a11, a12, a13, a14, a15, a16, a17] = 18 := rfl
theorem ln19 {a0 a1 a2 a3 a4 a5 a6 a7 a8 a9 a10 a11 a12 a13 a14 a15 a16 a17 a18 : Value} : ln [a0, a1, a2, a3, a4, a5, a6, a7, a8, a9, a10, a11, a12, a13, a14, a15, a16, a17, a18] = 19 := rfl
theorem ln20 {a0 a1 a2 a3 a4 a5 a6 a7 a8 a9 a10 a11 a12 a13 a14 a15 a16 a17 a18 a19 : Value} : ln [a0, a1, a2, a3, a4, a5, a6, a7, a8, a9, a10, a11, a12, a13, a14, a15, a16, a17, a18, a19] = 20 := rfl
theorem ln21 {a0 a1 a2 a3 a4 a5 a6 a7 a8 a9 a10 a11 a12 a13 a14 a15 a16 a17 a18 a19 a20 : Value} : ln [a0, a1, a2, a3, a4, a5, a6, a7, a8, a9, a10, a11, a12, a13, a14, a15, a16, a17, a18, a19, a20] = 21 := rfl
theorem ln22 {a0 a1 a2 a3 a4 a5 a6 a7 a8 a9 a10 a11 a12 a13 a14 a15 a16 a17 a18 a19 a20 a21 : Value} : ln [a0, a1, a2, a3, a4, a5, a6, a7, a8, a9, a10, a11, a12, a13, a14, a15, a16, a17, a18, a19, a20, a21] = 22 := rfl
theorem ln23 {a0 a1 a2 a3 a4 a5 a6 a7 a8 a9 a10 a11 a12 a13 a14 a15 a16 a17 a18 a19 a20 a21 a22 : Value} : ln [a0, a1, a2, a3, a4, a5, a6, a7, a8, a9, a10, a11, a12, a13, a14, a15, a16, a17, a18, a19, a20, a21, a22] = 23 := rfl
theorem ln24 {a0 a1 a2 a3 a4 a5 a6 a7 a8 a9 a10 a11 a12 a13 a14 a15 a16 a17 a18 a19 a20 a21 a22 a23 : Value} : ln [a0, a1, a2, a3, a4, a5, a6, a7, a8, a9, a10, a11, a12, a13, a14, a15, a16, a17, a18, a19, a20, a21, a22, a23] = 24 := rfl
theorem ln25 {a0 a1 a2 a3 a4 a5 a6 a7 a8 a9 a10 a11 a12 a13 a14 a15 a16 a17 a18 a19 a20 a21 a22 a23 a24 : Value} : ln [a0, a1, a2, a3, a4, a5, a6, a7, a8, a9, a10, a11, a12, a13, a14, a15, a16, a17, a18, a19, a20, a21, a22, a23, a24] = 25 := rfl
theorem ln26 {a0 a1 a2 a3 a4 a5 a6 a7 a8 a9 a10 a11 a12 a13 a14 a15 a16 a17 a18 a19 a20 a21 a22 a23 a24 a25 : Value} : ln [a0, a1, a2, a3, a4, a5, a6, a7, a8, a9, a10, a11, a12, a13, a14, a15, a16, a17, a18, a19, a20, a21, a22, a23, a24, a25] = 26 := rfl
theorem ln27 {a0 a1 a2 a3 a4 a5 a6 a7 a8 a9 a10 a11 a12 a13 a14 a15 a16 a17 a18 a19 a20 a21 a22 a23 a24 a25 a26 : Value} : ln [a0, a1, a2, a3, a4, a5, a6, a7, a8, a9, a10, a11, a12, a13, a14, a15, a16, a17, a18, a19, a20, a21, a22, a23, a24, a25, a26] = 27 := rfl
theorem ln28 {a0 a1 a2 a3 a4 a5 a6 a7 a8 a9 a10 a11 a12 a13 a14 a15 a16 a17 a18 a19 a20 a21 a22 a23 a24 a25 a26 a27 : Value} : ln [a0, a1, a2, a3, a4, a5, a6, a7, a8, a9, a10, a11, a12, a13, a14, a15, a16, a17, a18, a19, a20, a21, a22, a23, a24, a25, a26, a27] = 28 := rfl
theorem ln29 {a0 a1 a2 a3 a4 a5 a6 a7 a8 a9 a10 a11 a12 a13 a14 a15 a16 a17 a18 a19 a20 a21 a22 a23 a24 a25 a26 a27 a28 : Value} : ln [a0, a1, a2, a3, a4, a5, a6, a7, a8, a9, a10, a11, a12, a13, a14, a15, a16, a17, a18, a19, a20, a21, a22, a23, a24, a25, a26, a27, a28] = 29 := rfl
theorem ln30 {a0 a1 a2 a3 a4 a5 a6 a7 a8 a9 a10 a11 a12 a13 a14 a15 a16 a17 a18 a19 a20 a21 a22 a23 a24 a25 a26 a27 a28 a29 : Value} : ln [a0, a1, a2, a3, a4, a5, a6, a7, a8, a9, a10, a11, a12, a13, a14, a15, a16, a17, a18, a19, a20, a21, a22, a23, a24, a25, a26, a27, a28, a29] = 30 := rfl
theorem ln31 {a0 a1 a2 a3 a4 a5 a6 a7 a8 a9 a10 a11 a12 a13 a14 a15 a16 a17 a18 a19 a20 a21 a22 a23 a24 a25 a26 a27 a28 a29 a30 : Value} : ln [a0, a1, a2, a3, a4, a5, a6, a7, a8, a9, a10, a11, a12, a13, a14, a15, a16, a17, a18, a19, a20, a21, a22, a23, a24, a25, a26, a27, a28, a29, a30] = 31 := rfl
theorem ln32 {a0 a1 a2 a3 a4 a5 a6 a7 a8 a9 a10 a11 a12 a13 a14 a15 a16 a17 a18 a19 a20 a21 a22 a23 a24 a25 a26 a27 a28 a29 a30 a31 : Value} : ln [a0, a1, a2, a3, a4, a5, a6, a7, a8, a9, a10, a11, a12, a13, a14, a15, a16, a17, a18, a19, a20, a21, a22, a23, a24, a25, a26, a27, a28, a29, a30, a31] = 32 := rfl
theorem ln33 {a0 a1 a2 a3 a4 a5 a6 a7 a8 a9 a10 a11 a12 a13 a14 a15 a16 a17 a18 a19 a20 a21 a22 a23 a24 a25 a26 a27 a28 a29 a30 a31 a32 : Value} : ln [a0, a1, a2, a3, a4, a5, a6, a7, a8, a9, a10, a11, a12, a13, a14, a15, a16, a17, a18, a19, a20, a21, a22, a23, a24, a25, a26, a27, a28, a29, a30, a31, a32] = 33 := rfl
theorem ln34 {a0 a1 a2 a3 a4 a5 a6 a7 a8 a9 a10 a11 a12 a13 a14 a15 a16 a17 a18 a19 a20 a21 a22 a23 a24 a25 a26 a27 a28 a29 a30 a31 a32 a33 : Value} : ln [a0, a1, a2, a3, a4, a5, a6, a7, a8, a9, a10, a11, a12, a13, a14, a15, a16, a17, a18, a19, a20, a21, a22, a23, a24, a25, a26, a27, a28, a29, a30, a31, a32, a33] = 34 := rfl
theorem ln35 {a0 a1 a2 a3 a4 a5 a6 a7 a8 a9 a10 a11 a12 a13 a14 a15 a16 a17 a18 a19 a20 a21 a22 a23 a24 a25 a26 a27 a28 a29 a30 a31 a32 a33 a34 : Value} : ln [a0, a1, a2, a3, a4, a5, a6, a7, a8, a9, a10, a11, a12, a13, a14, a15, a16, a17, a18, a19, a20, a21, a22, a23, a24, a25, a26, a27, a28, a29, a30, a31, a32, a33, a34] = 35 := rfl
theorem ln36 {a0 a1 a2 a3 a4 a5 a6 a7 a8 a9 a10 a11 a12 a13 a14 a15 a16 a17 a18 a19 a20 a21 a22 a23 a24 a25 a26 a27 a28 a29 a30 a31 a32 a33 a34 a35 : Value} : ln [a0, a1, a2, a3, a4, a5, a6, a7, a8, a9, a10, a11, a12, a13, a14, a15, a16, a17, a18, a19, a20, a21, a22, a23, a24, a25, a26, a27, a28, a29, a30, a31, a32, a33, a34, a35] = 36 := rfl
end Jvm.Own
namespace Jvm.Own
open Sem ClassFile Op Lib Jvm.Stand Jvm.Free Jvm.LawKit Jvm.RoadKit
/-! ## 7. Statics, casts, copies of arrays -/
def aSta (v : Value) : Act := fun S H cs ss => some (v :: S, H, cs, ss)
def aCast (x0 : Nat) (ty : FieldType) : Act := fun S H cs ss => match S with
  | .ref a :: r => (arr H a).bind fun q => if q.1 = ty ∧ x0 ≤ a then some (.ref a :: r, H, cs, ss) else none
  | _ => none
def aClone (x0 : Nat) (ty : FieldType) (W Rc Rs : Nat) : Act := fun S H cs ss => match S with
  | .ref a :: r => (arr H a).bind fun q => if q.1 = ty ∧ x0 ≤ a ∧ (r.map Value.category).sum ≤ W ∧ cs + 1 ≤ Rc ∧ ss + q.2.length ≤ Rs then some (.ref H.length :: r, H ++ [.inr q], cs + 1, ss + q.2.length) else none
  | _ => none
def aCopy (x0 : Nat) (ty : FieldType) (W : Nat) : Act := fun S H cs ss => match S with
  | .int nn :: .int dp :: .ref b :: .int sp :: .ref a :: r => (arr H a).bind fun qa => (arr H b).bind fun qb =>
      if qa.1 = ty ∧ qb.1 = ty ∧ x0 ≤ b ∧ (r.map Value.category).sum ≤ W ∧ ¬ sp < 0 ∧ ¬ dp < 0 ∧ ¬ nn < 0 ∧ sp.toNatClampNeg + nn.toNatClampNeg ≤ qa.2.length ∧ dp.toNatClampNeg + nn.toNatClampNeg ≤ qb.2.length then
        some (r, H.set b (.inr (ty, qb.2.take dp.toNatClampNeg ++ (qa.2.drop sp.toNatClampNeg).take nn.toNatClampNeg ++ qb.2.drop (dp.toNatClampNeg + nn.toNatClampNeg))), cs, ss) else none
  | _ => none
section Acts2
variable {p : Program} {l : Launch} {e : Env} {R : Room} {s : State} {m : MethodId} {args : Array Value} {below : List Frame} {meth : Method} {c : Code} {Z : State} {σ : Nat → Nat} {x0 n0 : Nat} {K : List CD} {a0 : Array Value} {h h' : Heap}
theorem okSta (hx : p.tables.exec = Jvm.exec) (hZ : Z.Warmed39 s.vm) {own R0 O n d : String} {idx : Nat} {v : Value} (hown : s.vm.findClass own = some m.cls) (w : (Jvm.Cond.fieldLink own idx R0 n d).before a0 Z = true) (via : Via Z R0 O n d) (F : Sta Z Z.heap O n d (cv σ v)) : Good p l e R s m args below meth c Z σ x0 n0 K (.getstatic idx) (aSta v) := by
  intro T locs cs ss pc L S H S' H' cs' ss' X hd hL hR hF hB h
  cases h
  obtain ⟨T', X', e', st⟩ := getS (host := "") X hx hZ hown w via rfl (F.ext hR.2.2.1.2) (g := mkF m pc (cL σ L) (S.map (cv σ))) rfl hd
  exact ⟨T', locs, X', e' ▸ hR, hF, hB, st⟩
theorem okCast (hx : p.tables.exec = Jvm.exec) (hZ : Z.Warmed39 s.vm) (hsg : Sg σ x0 n0) {own C ad : String} {idx : Nat} {ty : FieldType} (hown : s.vm.findClass own = some m.cls) (had : "[" ++ ty.toString = ad) (w : (Jvm.Cond.classLink own idx C).before a0 Z = true) (wc : (Jvm.Cond.castable ad C).before a0 Z = true) : Good p l e R s m args below meth c Z σ x0 n0 K (.checkcast idx) (aCast x0 ty) := by
  intro T locs cs ss pc L S H S' H' cs' ss' X hd hL hR hF hB h
  subst had
  unfold aCast at h
  split at h
  · rename_i a r
    replace h := Option.bind_eq_some_iff.mp h
    obtain ⟨⟨t, vs⟩, h1, h⟩ := h
    dsimp only at h
    split at h
    · rename_i hq
      obtain ⟨rfl, hx0⟩ := hq
      cases h
      obtain ⟨cell, A, hs, hl, hfi, hex⟩ := hR.2.2.2 _ _ (arr_some h1)
      obtain ⟨T', X', e', st⟩ := castY X hx hZ hown w rfl (Ins.of_exa (hex (hR.2.2.1.1.symm ▸ hsg.new hx0)) wc) (g := mkF m pc (cL σ L) (List.map (cv σ) (.ref a :: r))) rfl rfl hd
      exact ⟨T', locs, X', e' ▸ hR, hF, hB, st⟩
    · cases h
  · cases h
theorem okClone (hx : p.tables.exec = Jvm.exec) (hZ : Z.Warmed39 s.vm) (hsg : Sg σ x0 n0) {own ad : String} {idx W Rc Rs : Nat} {ty : FieldType} (hown : s.vm.findClass own = some m.cls) (had : "[" ++ ty.toString = ad)
    (w1 : (Jvm.Cond.methodLink own idx ⟨ad, "clone", "()Ljava/lang/Object;"⟩).before a0 Z = true) (w2 : (Jvm.Cond.sameMethod ad "java/lang/Object" "clone" "()Ljava/lang/Object;").before a0 Z = true) (w3 : (Jvm.Cond.native ⟨"java/lang/Object", "clone", "()Ljava/lang/Object;"⟩).before a0 Z = true)
    (w4 : (Jvm.Cond.instanceMethod ⟨"java/lang/Object", "clone", "()Ljava/lang/Object;"⟩).before a0 Z = true) (w5 : (Jvm.Cond.selects ad ⟨ad, "clone", "()Ljava/lang/Object;"⟩ ⟨"java/lang/Object", "clone", "()Ljava/lang/Object;"⟩).before a0 Z = true) (w6 : (Jvm.Cond.castable ad "java/lang/Cloneable").before a0 Z = true)
    (hf : 1 ≤ R.frames) (hlo : W + 14 ≤ R.locals) (hRc : Rc ≤ R.cells) (hRs : Rs ≤ R.slots) : Good p l e R s m args below meth c Z σ x0 n0 K (.invokevirtual idx) (aClone x0 ty W Rc Rs) := by
  intro T locs cs ss pc L S H S' H' cs' ss' X hd hL hR hF hB h
  subst had
  unfold aClone at h
  split at h
  · rename_i a r
    replace h := Option.bind_eq_some_iff.mp h
    obtain ⟨⟨t, vs⟩, h1, h⟩ := h
    dsimp only at h
    split at h
    · rename_i hq
      obtain ⟨rfl, hx0, hW, hc1, hs1⟩ := hq
      cases h
      obtain ⟨cell, A, hs, hl, hfi, hex⟩ := hR.2.2.2 _ _ (arr_some h1)
      obtain ⟨c2, k, e1, e2, e3, -, e5⟩ := hex (hR.2.2.1.1.symm ▸ hsg.new hx0)
      cases A.1.symm.trans e1
      obtain ⟨c1, cC, g1, g2, g3⟩ := Cond.castable_spec w6
      cases e2.symm.trans g1
      have hal : Z.vm.Alike T.vm := hZ.alike.trans X.warmed.alike
      have FC : FitC Z cell := fitC_of A fun i hi v hv => by
        rw [hs] at hv
        simp only [List.getElem?_toArray, List.getElem?_map, Option.map_eq_some_iff] at hv
        obtain ⟨w, hw, rfl⟩ := hv
        rw [cv_fits]; exact hfi w (List.mem_of_getElem? hw)
      have ea : σ H.length = T.heap.size := hR.addr hsg
      have hsz : cell.slots.size = vs.length := by rw [hs]; simp
      obtain ⟨vm', X', st⟩ := X.cloneArray hx hown (mv hZ w1) (mv hZ w2) (mv hZ w3) (mv hZ w4) (mv hZ w5) (a := σ a) A.1 A.2.1.1 A.2.2 (by rw [hZ.alike.findClass]; exact e2) (by rw [hZ.alike.findClass]; exact g2) (by rw [hZ.alike.assignable]; exact g3)
        (fun i v hv => by have q := FC i v hv; rw [← State.fitsSlot_setVm hal] at q; exact q) (g := mkF m pc (cL σ L) (List.map (cv σ) (.ref a :: r))) rfl (size_cL.trans hL) rfl hd hf (by show 2 * 0 + _ + _ ≤ _; rw [cat_sum]; omega) (Nat.le_trans hc1 hRc) (by rw [hsz]; exact Nat.le_trans hs1 hRs)
        (by obtain ⟨-, k2, hk2, comp, hkind⟩ := A.2.1; rw [hZ.alike.clonesLoader]; exact Vm.clonesLoader_of_array hk2 hkind)
      rw [hsz] at X'
      refine ⟨_, locs, X', hR.push (ext_push _ _) (by show (T.heap.push _).size = _; simp) ?_, hF, ⟨Nat.le_trans hc1 hRc, Nat.le_trans hs1 hRs⟩, ?_⟩
      · rw [ea]
        have hN : (T.heap.push { cls := cell.cls, slots := cell.slots })[T.heap.size]? = some { cls := cell.cls, slots := cell.slots } := by simp
        exact ⟨_, ⟨hN, ⟨fun _ z => (by cases z), A.2.1.2⟩, fun z => (by cases z)⟩, hs, hl, hfi, fun _ => ⟨_, k, hN, e2, e3, rfl, e5⟩⟩
      · intro t q
        refine st t ?_
        have q' := q
        simp only [List.map_cons, cv, ea] at q'
        exact q'
    · cases h
  · cases h
theorem RepO.keep {a b : Addr} {o : Ob} (W : Keep h h' [b]) (R : RepO Z σ K h a o) (ne : a ≠ b) : RepO Z σ K h' a o := by
  have nm : a ∉ [b] := ninS ne nin0
  rcases o with ⟨c, vs⟩ | ⟨ty, vs⟩
  · obtain ⟨C, fs, h1, h2, h3⟩ := R
    exact ⟨C, fs, h1, h2.keep W, fun j v q => by obtain ⟨O, n, d, q1, q2⟩ := h3 j v q; exact ⟨O, n, d, q1, q2.keep W nm⟩⟩
  · obtain ⟨cell, h1, h2, h3, h4, h5⟩ := R
    exact ⟨cell, ⟨W.2.1 a cell h1.1 nm, h1.2⟩, h2, h3, h4, fun q => (h5 q).keep W⟩
theorem Rep.writeK {H : AH} (S : Sg σ x0 n0) (R : Rep Z σ x0 n0 K h H) {k : Nat} {o : Ob} (hk : x0 ≤ k) (W : Keep h h' [σ k]) (hsz : h'.size = h.size) (ho : RepO Z σ K h' (σ k) o) : Rep Z σ x0 n0 K h' (H.set k o) := by
  obtain ⟨r1, r2, r3, r4⟩ := R
  refine ⟨by rw [hsz]; simpa using r1, by simpa using r2, r3.keep W (allS (S.new hk) all0), fun j o' q => ?_⟩
  by_cases e : k = j
  · subst e
    by_cases hl : k < H.length
    · rw [List.getElem?_set_self hl] at q; cases q; exact ho
    · rw [List.getElem?_eq_none (by simp; omega)] at q; cases q
  · rw [List.getElem?_set_ne e] at q
    exact (r4 j o' q).keep W fun u => e (S.inj u).symm
theorem stretch_eq {cell : Cell} {vs : List Value} (hs : cell.slots = (vs.map (cv σ)).toArray) {i n : Nat} (hl : i + n ≤ vs.length) : cell.stretch i n = ((vs.drop i).take n).map (cv σ) := by
  apply List.ext_getElem?
  intro j
  simp only [Cell.stretch, List.getElem?_map, List.getElem?_range', List.getElem?_take, List.getElem?_drop]
  by_cases q : j < n
  · have : i + j < vs.length := by omega
    simp [q, hs, this, Array.getD_eq_getD_getElem?]
  · simp [q]
theorem okCopy (hx : p.tables.exec = Jvm.exec) (hZ : Z.Warmed39 s.vm) (hsg : Sg σ x0 n0) {own : String} {idx W : Nat} {ty : FieldType} (hown : s.vm.findClass own = some m.cls) (hty : refKind ty = false)
    (w1 : (Jvm.Cond.methodLink own idx Jvm.Stand.acN).before a0 Z = true) (w2 : (Jvm.Cond.native Jvm.Stand.acN).before a0 Z = true) (w3 : (Jvm.Cond.static Jvm.Stand.acN).before a0 Z = true) (w4 : (Jvm.Cond.initialized "java/lang/System").before a0 Z = true)
    (hf : 1 ≤ R.frames) (hlo : W + (nativeFrameWords "java/lang/System" "arraycopy" 5 + 11) ≤ R.locals) : Good p l e R s m args below meth c Z σ x0 n0 K (.invokestatic idx) (aCopy x0 ty W) := by
  intro T locs cs ss pc L S H S' H' cs' ss' X hd hL hR hF hB h
  unfold aCopy at h
  split at h
  · rename_i nn dp b sp a r
    replace h := Option.bind_eq_some_iff.mp h
    obtain ⟨⟨ta, vs⟩, ha, h⟩ := h
    replace h := Option.bind_eq_some_iff.mp h
    obtain ⟨⟨tb, vd⟩, hb, h⟩ := h
    dsimp only at h
    split at h
    · rename_i hq
      obtain ⟨rfl, rfl, hx0, hW, h1, h2, h3, h4, h5⟩ := hq
      cases h
      obtain ⟨ca, A, hsa, hla, hfa, hea⟩ := hR.2.2.2 _ _ (arr_some ha)
      obtain ⟨cb, B, hsb, hlb, hfb, heb⟩ := hR.2.2.2 _ _ (arr_some hb)
      obtain ⟨oa, ka, hka, sa, hska⟩ := State.isArrayOf_alike hZ.alike A.2.1
      obtain ⟨ob, kb, hkb, sb, hskb⟩ := State.isArrayOf_alike hZ.alike B.2.1
      have nat : ∀ {x : Int32}, ¬ x < 0 → x.toInt = x.toNatClampNeg := fun {x} q => nat_of q
      have za : ca.slots.size = vs.length := by rw [hsa]; simp
      have zb : cb.slots.size = vd.length := by rw [hsb]; simp
      have gv : ∀ i, i < nn.toNatClampNeg → ∃ v ∈ vs, ca.slots.getD (sp.toNatClampNeg + i) .null = cv σ v := fun i hi => by
        have q : sp.toNatClampNeg + i < vs.length := by omega
        exact ⟨vs[sp.toNatClampNeg + i], List.getElem_mem q, by rw [hsa]; simp [Array.getD_eq_getD_getElem?, q]⟩
      obtain ⟨vm₁, hW₁, X', st⟩ := X.arraycopyK hx hown (mvT hZ w1) (mvT hZ w2) (mvT hZ w3) (mvT hZ w4) (src := σ a) (dst := σ b) A.1 B.1 oa ob A.2.2 B.2.2 hka hkb hska hskb (by simp [hty]) h1 h2 h3 (by rw [nat h1, nat h3, za]; omega) (by rw [nat h2, nat h3, zb]; omega)
        (fun vm₁ hw i hi => by
          obtain ⟨v, hv, hg⟩ := gv i hi
          rw [hg, cv_fits]
          refine ⟨hfa v hv, ?_⟩
          have q := hfa v hv
          cases v <;> first | trivial | exact (prim_no_ref hty q).elim) (g := mkF m pc (cL σ L) (List.map (cv σ) (.int nn :: .int dp :: .ref b :: .int sp :: .ref a :: S'))) rfl (size_cL.trans hL) rfl hd hf (by show 2 * 0 + _ + _ ≤ _; rw [cat_sum]; omega)
      have cf := cb.storeRun_facts dp.toNatClampNeg (ca.stretch sp.toNatClampNeg nn.toNatClampNeg)
      have hlt : σ b < T.heap.size := B.lt
      have hKp : Keep T.heap (T.heap.setIfInBounds (σ b) (copied ca cb sp dp nn)) [σ b] := by
        refine ⟨by simp, fun x c q r => ?_, fun x c q => ?_⟩
        · rw [Array.getElem?_setIfInBounds_ne (fun z => r (by simp [z]))]; exact q
        · by_cases z : σ b = x
          · subst z; cases B.1.symm.trans q
            exact ⟨_, by rw [Array.getElem?_setIfInBounds_self_of_lt hlt], cf.1, cf.2.1, cf.2.2.1⟩
          · exact ⟨c, by rw [Array.getElem?_setIfInBounds_ne z]; exact q, rfl, rfl, rfl⟩
      refine ⟨_, _, X', hR.writeK hsg hx0 hKp (by show (T.heap.setIfInBounds _ _).size = _; simp) ?_, hF.app fun y hy => ?_, hB, st⟩
      · have hN : (T.heap.setIfInBounds (σ b) (copied ca cb sp dp nn))[σ b]? = some (copied ca cb sp dp nn) := by rw [Array.getElem?_setIfInBounds_self_of_lt hlt]
        refine ⟨copied ca cb sp dp nn, ⟨hN, ⟨fun k z => B.2.1.1 k (cf.2.1 ▸ z), ?_⟩, fun z => B.2.2 (cf.2.1 ▸ z)⟩, ?_, ?_, ?_, fun q => (heb q).keep hKp⟩
        · obtain ⟨kk, z1, z2⟩ := B.2.1.2
          exact ⟨kk, by rw [show (copied ca cb sp dp nn).cls = cb.cls from cf.1]; exact z1, z2⟩
        · apply Array.ext_getElem?
          intro j
          show (cb.storeRun _ (ca.stretch _ _)).slots[j]? = _
          have hst := stretch_eq (σ := σ) hsa h4
          have hln : (ca.stretch sp.toNatClampNeg nn.toNatClampNeg).length = nn.toNatClampNeg := by simp [Cell.stretch]
          rw [Cell.storeRun_get _ _ _ _ (by rw [hln, zb]; exact h5), hln, hst, hsb]
          have l1 : (vd.take dp.toNatClampNeg).length = dp.toNatClampNeg := by rw [List.length_take]; omega
          have l2 : ((vs.drop sp.toNatClampNeg).take nn.toNatClampNeg).length = nn.toNatClampNeg := by rw [List.length_take, List.length_drop]; omega
          simp only [List.getElem?_toArray, List.map_append, List.append_assoc]
          by_cases c1 : j < dp.toNatClampNeg
          · rw [if_neg (by omega), List.getElem?_append_left (by rw [List.length_map]; omega)]
            simp [List.getElem?_take, c1]
          · rw [List.getElem?_append_right (by rw [List.length_map]; omega), List.length_map, l1]
            by_cases c2 : j < dp.toNatClampNeg + nn.toNatClampNeg
            · rw [if_pos ⟨by omega, c2⟩, List.getElem?_append_left (by rw [List.length_map, l2]; omega)]
            · rw [if_neg (by omega), List.getElem?_append_right (by rw [List.length_map, l2]; omega), List.length_map, l2]
              simp only [List.getElem?_map, List.getElem?_drop]
              congr 2; omega
        · simp only [List.length_append, List.length_take, List.length_drop]; omega
        · intro v hv
          simp only [List.mem_append] at hv
          rcases hv with (q | q) | q
          · exact hfb v (List.mem_of_mem_take q)
          · exact hfa v (List.mem_of_mem_drop (List.mem_of_mem_take q))
          · exact hfb v (List.mem_of_mem_drop q)
      · simp only [copyLocs, List.mem_map] at hy
        obtain ⟨i, -, rfl⟩ := hy
        exact hsg.new hx0
    · cases h
  · cases h
end Acts2
end Jvm.Own
namespace Jvm.Pilot.@@N@@
open Jvm Jvm.ClassFile Sem Op Lib Jvm.Free Jvm.Stand Jvm.LawKit Jvm.RoadKit Bundle Jvm.Own Jvm.Pilot.@@N@@.Jvm.D
theorem k0_0 : dec code 0 = some (.iload 4) := by decide +kernel
theorem k0_2 : dec code 2 = some (.sipush 255) := by decide +kernel
theorem k0_5 : dec code 5 = some (.iand) := by decide +kernel
theorem k0_6 : dec code 6 = some (.iconst 5) := by decide +kernel
theorem k0_7 : dec code 7 = some (.irem) := by decide +kernel
theorem k0_8 : dec code 8 = some (.istore 5) := by decide +kernel
theorem k0_10 : dec code 10 = some (.iload 4) := by decide +kernel
theorem k0_12 : dec code 12 = some (.bipush 8) := by decide +kernel
theorem k0_14 : dec code 14 = some (.iushr) := by decide +kernel
theorem k0_15 : dec code 15 = some (.istore 6) := by decide +kernel
theorem k0_17 : dec code 17 = some (.lconst 1) := by decide +kernel
theorem k0_18 : dec code 18 = some (.iload_n 1) := by decide +kernel
theorem k0_19 : dec code 19 = some (.ldc 7) := by decide +kernel
theorem k0_21 : dec code 21 = some (.iand) := by decide +kernel
theorem k0_22 : dec code 22 = some (.i2l) := by decide +kernel
theorem k0_23 : dec code 23 = some (.ladd) := by decide +kernel
theorem k0_24 : dec code 24 = some (.lstore 7) := by decide +kernel
theorem k0_26 : dec code 26 = some (.lconst 1) := by decide +kernel
theorem k0_27 : dec code 27 = some (.iload_n 2) := by decide +kernel
theorem k0_28 : dec code 28 = some (.ldc 7) := by decide +kernel
theorem k0_30 : dec code 30 = some (.iand) := by decide +kernel
theorem k0_31 : dec code 31 = some (.i2l) := by decide +kernel
theorem k0_32 : dec code 32 = some (.ladd) := by decide +kernel
theorem k0_33 : dec code 33 = some (.lstore 9) := by decide +kernel
theorem k0_35 : dec code 35 = some (.lconst 1) := by decide +kernel
theorem k0_36 : dec code 36 = some (.iload_n 3) := by decide +kernel
theorem k0_37 : dec code 37 = some (.ldc 7) := by decide +kernel
theorem k0_39 : dec code 39 = some (.iand) := by decide +kernel
theorem k0_40 : dec code 40 = some (.i2l) := by decide +kernel
theorem k0_41 : dec code 41 = some (.ladd) := by decide +kernel
theorem k0_42 : dec code 42 = some (.lstore 11) := by decide +kernel
theorem k0_44 : dec code 44 = some (.iload_n 0) := by decide +kernel
theorem k0_45 : dec code 45 = some (.i2l) := by decide +kernel
theorem k0_46 : dec code 46 = some (.ldc2_w 10) := by decide +kernel
theorem k0_49 : dec code 49 = some (.lload 7) := by decide +kernel
theorem k0_51 : dec code 51 = some (.lsub) := by decide +kernel
theorem k0_52 : dec code 52 = some (.lload 9) := by decide +kernel
theorem k0_54 : dec code 54 = some (.lsub) := by decide +kernel
theorem k0_55 : dec code 55 = some (.lload 11) := by decide +kernel
theorem k0_57 : dec code 57 = some (.lsub) := by decide +kernel
theorem k0_58 : dec code 58 = some (.invokestatic 12) := by decide +kernel
theorem k0_61 : dec code 61 = some (.lstore 13) := by decide +kernel
theorem k0_63 : dec code 63 = some (.lload 13) := by decide +kernel
theorem k0_65 : dec code 65 = some (.l2i) := by decide +kernel
theorem k0_66 : dec code 66 = some (.istore 15) := by decide +kernel
theorem k0_68 : dec code 68 = some (.lload 13) := by decide +kernel
theorem k0_70 : dec code 70 = some (.lload 7) := by decide +kernel
theorem k0_72 : dec code 72 = some (.ladd) := by decide +kernel
theorem k0_73 : dec code 73 = some (.l2i) := by decide +kernel
theorem k0_74 : dec code 74 = some (.istore 16) := by decide +kernel
theorem k0_76 : dec code 76 = some (.lload 13) := by decide +kernel
theorem k0_78 : dec code 78 = some (.lload 7) := by decide +kernel
theorem k0_80 : dec code 80 = some (.ladd) := by decide +kernel
theorem k0_81 : dec code 81 = some (.lload 9) := by decide +kernel
theorem k0_83 : dec code 83 = some (.ladd) := by decide +kernel
theorem k0_84 : dec code 84 = some (.l2i) := by decide +kernel
theorem k0_85 : dec code 85 = some (.istore 17) := by decide +kernel
theorem k0_87 : dec code 87 = some (.lload 13) := by decide +kernel
theorem k0_89 : dec code 89 = some (.lload 7) := by decide +kernel
theorem k0_91 : dec code 91 = some (.ladd) := by decide +kernel
theorem k0_92 : dec code 92 = some (.lload 9) := by decide +kernel
theorem k0_94 : dec code 94 = some (.ladd) := by decide +kernel
theorem k0_95 : dec code 95 = some (.lload 11) := by decide +kernel
theorem k0_97 : dec code 97 = some (.ladd) := by decide +kernel
theorem k0_98 : dec code 98 = some (.l2i) := by decide +kernel
theorem k0_99 : dec code 99 = some (.istore 18) := by decide +kernel
theorem k0_101 : dec code 101 = some (.iload 6) := by decide +kernel
theorem k0_103 : dec code 103 = some (.iconst 1) := by decide +kernel
theorem k0_104 : dec code 104 = some (.iand) := by decide +kernel
theorem k0_105 : dec code 105 = some (.ifCond .eq 7) := by decide +kernel
theorem k0_108 : dec code 108 = some (.iconst 1) := by decide +kernel
theorem k0_109 : dec code 109 = some (.goto 4) := by decide +kernel
theorem k0_112 : dec code 112 = some (.iconst 0) := by decide +kernel
theorem k0_113 : dec code 113 = some (.istore 19) := by decide +kernel
theorem k0_115 : dec code 115 = some (.iload 6) := by decide +kernel
theorem k0_117 : dec code 117 = some (.iconst 2) := by decide +kernel
theorem k0_118 : dec code 118 = some (.iand) := by decide +kernel
theorem k0_119 : dec code 119 = some (.ifCond .eq 7) := by decide +kernel
theorem k0_122 : dec code 122 = some (.iconst 1) := by decide +kernel
theorem k0_123 : dec code 123 = some (.goto 4) := by decide +kernel
theorem k0_126 : dec code 126 = some (.iconst 0) := by decide +kernel
theorem k0_127 : dec code 127 = some (.istore 20) := by decide +kernel
theorem k0_129 : dec code 129 = some (.iload 6) := by decide +kernel
theorem k0_131 : dec code 131 = some (.iconst 4) := by decide +kernel
theorem k0_132 : dec code 132 = some (.iand) := by decide +kernel
theorem k0_133 : dec code 133 = some (.ifCond .eq 7) := by decide +kernel
theorem k0_136 : dec code 136 = some (.iconst 1) := by decide +kernel
theorem k0_137 : dec code 137 = some (.goto 4) := by decide +kernel
theorem k0_140 : dec code 140 = some (.iconst 0) := by decide +kernel
theorem k0_141 : dec code 141 = some (.istore 21) := by decide +kernel
theorem k0_143 : dec code 143 = some (.iload 6) := by decide +kernel
theorem k0_145 : dec code 145 = some (.bipush 8) := by decide +kernel
theorem k0_147 : dec code 147 = some (.iand) := by decide +kernel
theorem k0_148 : dec code 148 = some (.ifCond .eq 7) := by decide +kernel
theorem k0_151 : dec code 151 = some (.iconst 1) := by decide +kernel
theorem k0_152 : dec code 152 = some (.goto 4) := by decide +kernel
theorem k0_155 : dec code 155 = some (.iconst 0) := by decide +kernel
theorem k0_156 : dec code 156 = some (.istore 22) := by decide +kernel
theorem k0_158 : dec code 158 = some (.iload 5) := by decide +kernel
theorem k0_160 : dec code 160 = some (.ifCond .le 12) := by decide +kernel
theorem k0_163 : dec code 163 = some (.iload 19) := by decide +kernel
theorem k0_165 : dec code 165 = some (.ifCond .eq 7) := by decide +kernel
theorem k0_168 : dec code 168 = some (.iconst 1) := by decide +kernel
theorem k0_169 : dec code 169 = some (.goto 4) := by decide +kernel
theorem k0_172 : dec code 172 = some (.iconst 0) := by decide +kernel
theorem k0_173 : dec code 173 = some (.iload 5) := by decide +kernel
theorem k0_175 : dec code 175 = some (.iconst 1) := by decide +kernel
theorem k0_176 : dec code 176 = some (.if_icmp .le 12) := by decide +kernel
theorem k0_179 : dec code 179 = some (.iload 20) := by decide +kernel
theorem k0_181 : dec code 181 = some (.ifCond .eq 7) := by decide +kernel
theorem k0_184 : dec code 184 = some (.iconst 1) := by decide +kernel
theorem k0_185 : dec code 185 = some (.goto 4) := by decide +kernel
theorem k0_188 : dec code 188 = some (.iconst 0) := by decide +kernel
theorem k0_189 : dec code 189 = some (.iadd) := by decide +kernel
theorem k0_190 : dec code 190 = some (.iload 5) := by decide +kernel
theorem k0_192 : dec code 192 = some (.iconst 2) := by decide +kernel
theorem k0_193 : dec code 193 = some (.if_icmp .le 12) := by decide +kernel
theorem k0_196 : dec code 196 = some (.iload 21) := by decide +kernel
theorem k0_198 : dec code 198 = some (.ifCond .eq 7) := by decide +kernel
theorem k0_201 : dec code 201 = some (.iconst 1) := by decide +kernel
theorem k0_202 : dec code 202 = some (.goto 4) := by decide +kernel
theorem k0_205 : dec code 205 = some (.iconst 0) := by decide +kernel
theorem k0_206 : dec code 206 = some (.iadd) := by decide +kernel
theorem k0_207 : dec code 207 = some (.iload 5) := by decide +kernel
theorem k0_209 : dec code 209 = some (.iconst 3) := by decide +kernel
theorem k0_210 : dec code 210 = some (.if_icmp .le 12) := by decide +kernel
theorem k0_213 : dec code 213 = some (.iload 22) := by decide +kernel
theorem k0_215 : dec code 215 = some (.ifCond .eq 7) := by decide +kernel
theorem k0_218 : dec code 218 = some (.iconst 1) := by decide +kernel
theorem k0_219 : dec code 219 = some (.goto 4) := by decide +kernel
theorem k0_222 : dec code 222 = some (.iconst 0) := by decide +kernel
theorem k0_223 : dec code 223 = some (.iadd) := by decide +kernel
theorem k0_224 : dec code 224 = some (.istore 23) := by decide +kernel
theorem k0_226 : dec code 226 = some (.iload 23) := by decide +kernel
theorem k0_228 : dec code 228 = some (.newarray .int) := by decide +kernel
theorem k0_230 : dec code 230 = some (.astore 24) := by decide +kernel
theorem k0_232 : dec code 232 = some (.iload 5) := by decide +kernel
theorem k0_234 : dec code 234 = some (.iload 23) := by decide +kernel
theorem k0_236 : dec code 236 = some (.isub) := by decide +kernel
theorem k0_237 : dec code 237 = some (.newarray .int) := by decide +kernel
theorem k0_239 : dec code 239 = some (.astore 25) := by decide +kernel
theorem k0_241 : dec code 241 = some (.iconst 0) := by decide +kernel
theorem k0_242 : dec code 242 = some (.istore 26) := by decide +kernel
theorem k0_244 : dec code 244 = some (.iconst 0) := by decide +kernel
theorem k0_245 : dec code 245 = some (.istore 27) := by decide +kernel
theorem k0_247 : dec code 247 = some (.iload 5) := by decide +kernel
theorem k0_249 : dec code 249 = some (.ifCond .le 31) := by decide +kernel
theorem k0_252 : dec code 252 = some (.iload 19) := by decide +kernel
theorem k0_254 : dec code 254 = some (.ifCond .eq 16) := by decide +kernel
theorem k0_257 : dec code 257 = some (.aload 24) := by decide +kernel
theorem k0_259 : dec code 259 = some (.iload 26) := by decide +kernel
theorem k0_261 : dec code 261 = some (.iload 15) := by decide +kernel
theorem k0_263 : dec code 263 = some (.iastore) := by decide +kernel
theorem k0_264 : dec code 264 = some (.iinc 26 1) := by decide +kernel
theorem k0_267 : dec code 267 = some (.goto 13) := by decide +kernel
theorem k0_270 : dec code 270 = some (.aload 25) := by decide +kernel
theorem k0_272 : dec code 272 = some (.iload 27) := by decide +kernel
theorem k0_274 : dec code 274 = some (.iload 15) := by decide +kernel
theorem k0_276 : dec code 276 = some (.iastore) := by decide +kernel
theorem k0_277 : dec code 277 = some (.iinc 27 1) := by decide +kernel
theorem k0_280 : dec code 280 = some (.iload 5) := by decide +kernel
theorem k0_282 : dec code 282 = some (.iconst 1) := by decide +kernel
theorem k0_283 : dec code 283 = some (.if_icmp .le 31) := by decide +kernel
theorem k0_286 : dec code 286 = some (.iload 20) := by decide +kernel
theorem k0_288 : dec code 288 = some (.ifCond .eq 16) := by decide +kernel
theorem k0_291 : dec code 291 = some (.aload 24) := by decide +kernel
theorem k0_293 : dec code 293 = some (.iload 26) := by decide +kernel
theorem k0_295 : dec code 295 = some (.iload 16) := by decide +kernel
theorem k0_297 : dec code 297 = some (.iastore) := by decide +kernel
theorem k0_298 : dec code 298 = some (.iinc 26 1) := by decide +kernel
theorem k0_301 : dec code 301 = some (.goto 13) := by decide +kernel
theorem k0_304 : dec code 304 = some (.aload 25) := by decide +kernel
theorem k0_306 : dec code 306 = some (.iload 27) := by decide +kernel
theorem k0_308 : dec code 308 = some (.iload 16) := by decide +kernel
theorem k0_310 : dec code 310 = some (.iastore) := by decide +kernel
theorem k0_311 : dec code 311 = some (.iinc 27 1) := by decide +kernel
theorem k0_314 : dec code 314 = some (.iload 5) := by decide +kernel
theorem k0_316 : dec code 316 = some (.iconst 2) := by decide +kernel
theorem k0_317 : dec code 317 = some (.if_icmp .le 31) := by decide +kernel
theorem k0_320 : dec code 320 = some (.iload 21) := by decide +kernel
theorem k0_322 : dec code 322 = some (.ifCond .eq 16) := by decide +kernel
theorem k0_325 : dec code 325 = some (.aload 24) := by decide +kernel
theorem k0_327 : dec code 327 = some (.iload 26) := by decide +kernel
theorem k0_329 : dec code 329 = some (.iload 17) := by decide +kernel
theorem k0_331 : dec code 331 = some (.iastore) := by decide +kernel
theorem k0_332 : dec code 332 = some (.iinc 26 1) := by decide +kernel
theorem k0_335 : dec code 335 = some (.goto 13) := by decide +kernel
theorem k0_338 : dec code 338 = some (.aload 25) := by decide +kernel
theorem k0_340 : dec code 340 = some (.iload 27) := by decide +kernel
theorem k0_342 : dec code 342 = some (.iload 17) := by decide +kernel
theorem k0_344 : dec code 344 = some (.iastore) := by decide +kernel
theorem k0_345 : dec code 345 = some (.iinc 27 1) := by decide +kernel
theorem k0_348 : dec code 348 = some (.iload 5) := by decide +kernel
theorem k0_350 : dec code 350 = some (.iconst 3) := by decide +kernel
theorem k0_351 : dec code 351 = some (.if_icmp .le 31) := by decide +kernel
theorem k0_354 : dec code 354 = some (.iload 22) := by decide +kernel
theorem k0_356 : dec code 356 = some (.ifCond .eq 16) := by decide +kernel
theorem k0_359 : dec code 359 = some (.aload 24) := by decide +kernel
theorem k0_361 : dec code 361 = some (.iload 26) := by decide +kernel
theorem k0_363 : dec code 363 = some (.iload 18) := by decide +kernel
theorem k0_365 : dec code 365 = some (.iastore) := by decide +kernel
theorem k0_366 : dec code 366 = some (.iinc 26 1) := by decide +kernel
theorem k0_369 : dec code 369 = some (.goto 13) := by decide +kernel
theorem k0_372 : dec code 372 = some (.aload 25) := by decide +kernel
theorem k0_374 : dec code 374 = some (.iload 27) := by decide +kernel
theorem k0_376 : dec code 376 = some (.iload 18) := by decide +kernel
theorem k0_378 : dec code 378 = some (.iastore) := by decide +kernel
theorem k0_379 : dec code 379 = some (.iinc 27 1) := by decide +kernel
theorem k0_382 : dec code 382 = some (.aload 24) := by decide +kernel
theorem k0_384 : dec code 384 = some (.aload 25) := by decide +kernel
theorem k0_386 : dec code 386 = some (.invokestatic 18) := by decide +kernel
theorem k0_389 : dec code 389 = some (.astore 28) := by decide +kernel
theorem k0_391 : dec code 391 = some (.aload 28) := by decide +kernel
theorem k0_393 : dec code 393 = some (.arraylength) := by decide +kernel
theorem k0_394 : dec code 394 = some (.iload 5) := by decide +kernel
theorem k0_396 : dec code 396 = some (.if_icmp .eq 5) := by decide +kernel
theorem k0_399 : dec code 399 = some (.iconst 0) := by decide +kernel
theorem k0_400 : dec code 400 = some (.ireturn) := by decide +kernel
theorem k0_401 : dec code 401 = some (.iconst 1) := by decide +kernel
theorem k0_402 : dec code 402 = some (.istore 29) := by decide +kernel
theorem k0_404 : dec code 404 = some (.iload 5) := by decide +kernel
theorem k0_406 : dec code 406 = some (.ifCond .le 24) := by decide +kernel
theorem k0_409 : dec code 409 = some (.iload 29) := by decide +kernel
theorem k0_411 : dec code 411 = some (.ifCond .eq 16) := by decide +kernel
theorem k0_414 : dec code 414 = some (.aload 28) := by decide +kernel
theorem k0_416 : dec code 416 = some (.iconst 0) := by decide +kernel
theorem k0_417 : dec code 417 = some (.iaload) := by decide +kernel
theorem k0_418 : dec code 418 = some (.iload 15) := by decide +kernel
theorem k0_420 : dec code 420 = some (.if_icmp .ne 7) := by decide +kernel
theorem k0_423 : dec code 423 = some (.iconst 1) := by decide +kernel
theorem k0_424 : dec code 424 = some (.goto 4) := by decide +kernel
theorem k0_427 : dec code 427 = some (.iconst 0) := by decide +kernel
theorem k0_428 : dec code 428 = some (.istore 29) := by decide +kernel
theorem k0_430 : dec code 430 = some (.iload 5) := by decide +kernel
theorem k0_432 : dec code 432 = some (.iconst 1) := by decide +kernel
theorem k0_433 : dec code 433 = some (.if_icmp .le 24) := by decide +kernel
theorem k0_436 : dec code 436 = some (.iload 29) := by decide +kernel
theorem k0_438 : dec code 438 = some (.ifCond .eq 16) := by decide +kernel
theorem k0_441 : dec code 441 = some (.aload 28) := by decide +kernel
theorem k0_443 : dec code 443 = some (.iconst 1) := by decide +kernel
theorem k0_444 : dec code 444 = some (.iaload) := by decide +kernel
theorem k0_445 : dec code 445 = some (.iload 16) := by decide +kernel
theorem k0_447 : dec code 447 = some (.if_icmp .ne 7) := by decide +kernel
theorem k0_450 : dec code 450 = some (.iconst 1) := by decide +kernel
theorem k0_451 : dec code 451 = some (.goto 4) := by decide +kernel
theorem k0_454 : dec code 454 = some (.iconst 0) := by decide +kernel
theorem k0_455 : dec code 455 = some (.istore 29) := by decide +kernel
theorem k0_457 : dec code 457 = some (.iload 5) := by decide +kernel
theorem k0_459 : dec code 459 = some (.iconst 2) := by decide +kernel
theorem k0_460 : dec code 460 = some (.if_icmp .le 24) := by decide +kernel
theorem k0_463 : dec code 463 = some (.iload 29) := by decide +kernel
theorem k0_465 : dec code 465 = some (.ifCond .eq 16) := by decide +kernel
theorem k0_468 : dec code 468 = some (.aload 28) := by decide +kernel
theorem k0_470 : dec code 470 = some (.iconst 2) := by decide +kernel
theorem k0_471 : dec code 471 = some (.iaload) := by decide +kernel
theorem k0_472 : dec code 472 = some (.iload 17) := by decide +kernel
theorem k0_474 : dec code 474 = some (.if_icmp .ne 7) := by decide +kernel
theorem k0_477 : dec code 477 = some (.iconst 1) := by decide +kernel
theorem k0_478 : dec code 478 = some (.goto 4) := by decide +kernel
theorem k0_481 : dec code 481 = some (.iconst 0) := by decide +kernel
theorem k0_482 : dec code 482 = some (.istore 29) := by decide +kernel
theorem k0_484 : dec code 484 = some (.iload 5) := by decide +kernel
theorem k0_486 : dec code 486 = some (.iconst 3) := by decide +kernel
theorem k0_487 : dec code 487 = some (.if_icmp .le 24) := by decide +kernel
theorem k0_490 : dec code 490 = some (.iload 29) := by decide +kernel
theorem k0_492 : dec code 492 = some (.ifCond .eq 16) := by decide +kernel
theorem k0_495 : dec code 495 = some (.aload 28) := by decide +kernel
theorem k0_497 : dec code 497 = some (.iconst 3) := by decide +kernel
theorem k0_498 : dec code 498 = some (.iaload) := by decide +kernel
theorem k0_499 : dec code 499 = some (.iload 18) := by decide +kernel
theorem k0_501 : dec code 501 = some (.if_icmp .ne 7) := by decide +kernel
theorem k0_504 : dec code 504 = some (.iconst 1) := by decide +kernel
theorem k0_505 : dec code 505 = some (.goto 4) := by decide +kernel
theorem k0_508 : dec code 508 = some (.iconst 0) := by decide +kernel
theorem k0_509 : dec code 509 = some (.istore 29) := by decide +kernel
theorem k0_511 : dec code 511 = some (.iload 29) := by decide +kernel
theorem k0_513 : dec code 513 = some (.ireturn) := by decide +kernel
theorem k1_0 : dec jdk_29_method_70_code 0 = some (.lload_n 0) := by decide +kernel
theorem k1_1 : dec jdk_29_method_70_code 1 = some (.lload_n 2) := by decide +kernel
theorem k1_2 : dec jdk_29_method_70_code 2 = some (.lcmp) := by decide +kernel
theorem k1_3 : dec jdk_29_method_70_code 3 = some (.ifCond .gt 7) := by decide +kernel
theorem k1_6 : dec jdk_29_method_70_code 6 = some (.lload_n 0) := by decide +kernel
theorem k1_7 : dec jdk_29_method_70_code 7 = some (.goto 4) := by decide +kernel
theorem k1_10 : dec jdk_29_method_70_code 10 = some (.lload_n 2) := by decide +kernel
theorem k1_11 : dec jdk_29_method_70_code 11 = some (.lreturn) := by decide +kernel
theorem k2_0 : dec prog_120_method_10_code 0 = some (.aload_n 0) := by decide +kernel
theorem k2_1 : dec prog_120_method_10_code 1 = some (.arraylength) := by decide +kernel
theorem k2_2 : dec prog_120_method_10_code 2 = some (.aload_n 1) := by decide +kernel
theorem k2_3 : dec prog_120_method_10_code 3 = some (.arraylength) := by decide +kernel
theorem k2_4 : dec prog_120_method_10_code 4 = some (.iadd) := by decide +kernel
theorem k2_5 : dec prog_120_method_10_code 5 = some (.newarray .int) := by decide +kernel
theorem k2_7 : dec prog_120_method_10_code 7 = some (.astore_n 2) := by decide +kernel
theorem k2_8 : dec prog_120_method_10_code 8 = some (.iconst 0) := by decide +kernel
theorem k2_9 : dec prog_120_method_10_code 9 = some (.istore_n 3) := by decide +kernel
theorem k2_10 : dec prog_120_method_10_code 10 = some (.iconst 0) := by decide +kernel
theorem k2_11 : dec prog_120_method_10_code 11 = some (.istore 4) := by decide +kernel
theorem k2_13 : dec prog_120_method_10_code 13 = some (.iconst 0) := by decide +kernel
theorem k2_14 : dec prog_120_method_10_code 14 = some (.istore 5) := by decide +kernel
theorem k2_16 : dec prog_120_method_10_code 16 = some (.iload 5) := by decide +kernel
theorem k2_18 : dec prog_120_method_10_code 18 = some (.aload_n 2) := by decide +kernel
theorem k2_19 : dec prog_120_method_10_code 19 = some (.arraylength) := by decide +kernel
theorem k2_20 : dec prog_120_method_10_code 20 = some (.if_icmp .ge 56) := by decide +kernel
theorem k2_23 : dec prog_120_method_10_code 23 = some (.iload 4) := by decide +kernel
theorem k2_25 : dec prog_120_method_10_code 25 = some (.aload_n 1) := by decide +kernel
theorem k2_26 : dec prog_120_method_10_code 26 = some (.arraylength) := by decide +kernel
theorem k2_27 : dec prog_120_method_10_code 27 = some (.if_icmp .eq 19) := by decide +kernel
theorem k2_30 : dec prog_120_method_10_code 30 = some (.iload_n 3) := by decide +kernel
theorem k2_31 : dec prog_120_method_10_code 31 = some (.aload_n 0) := by decide +kernel
theorem k2_32 : dec prog_120_method_10_code 32 = some (.arraylength) := by decide +kernel
theorem k2_33 : dec prog_120_method_10_code 33 = some (.if_icmp .ge 26) := by decide +kernel
theorem k2_36 : dec prog_120_method_10_code 36 = some (.aload_n 0) := by decide +kernel
theorem k2_37 : dec prog_120_method_10_code 37 = some (.iload_n 3) := by decide +kernel
theorem k2_38 : dec prog_120_method_10_code 38 = some (.iaload) := by decide +kernel
theorem k2_39 : dec prog_120_method_10_code 39 = some (.aload_n 1) := by decide +kernel
theorem k2_40 : dec prog_120_method_10_code 40 = some (.iload 4) := by decide +kernel
theorem k2_42 : dec prog_120_method_10_code 42 = some (.iaload) := by decide +kernel
theorem k2_43 : dec prog_120_method_10_code 43 = some (.if_icmp .ge 16) := by decide +kernel
theorem k2_46 : dec prog_120_method_10_code 46 = some (.aload_n 2) := by decide +kernel
theorem k2_47 : dec prog_120_method_10_code 47 = some (.iload 5) := by decide +kernel
theorem k2_49 : dec prog_120_method_10_code 49 = some (.aload_n 0) := by decide +kernel
theorem k2_50 : dec prog_120_method_10_code 50 = some (.iload_n 3) := by decide +kernel
theorem k2_51 : dec prog_120_method_10_code 51 = some (.iaload) := by decide +kernel
theorem k2_52 : dec prog_120_method_10_code 52 = some (.iastore) := by decide +kernel
theorem k2_53 : dec prog_120_method_10_code 53 = some (.iinc 3 1) := by decide +kernel
theorem k2_56 : dec prog_120_method_10_code 56 = some (.goto 14) := by decide +kernel
theorem k2_59 : dec prog_120_method_10_code 59 = some (.aload_n 2) := by decide +kernel
theorem k2_60 : dec prog_120_method_10_code 60 = some (.iload 5) := by decide +kernel
theorem k2_62 : dec prog_120_method_10_code 62 = some (.aload_n 1) := by decide +kernel
theorem k2_63 : dec prog_120_method_10_code 63 = some (.iload 4) := by decide +kernel
theorem k2_65 : dec prog_120_method_10_code 65 = some (.iaload) := by decide +kernel
theorem k2_66 : dec prog_120_method_10_code 66 = some (.iastore) := by decide +kernel
theorem k2_67 : dec prog_120_method_10_code 67 = some (.iinc 4 1) := by decide +kernel
theorem k2_70 : dec prog_120_method_10_code 70 = some (.iinc 5 1) := by decide +kernel
theorem k2_73 : dec prog_120_method_10_code 73 = some (.goto (-57)) := by decide +kernel
theorem k2_76 : dec prog_120_method_10_code 76 = some (.aload_n 2) := by decide +kernel
theorem k2_77 : dec prog_120_method_10_code 77 = some (.areturn) := by decide +kernel
def K : List CD := []
theorem kok {Z : State} {a0 : Array Value} (hw : ∀ d ∈ tables_1, d.before a0 Z = true) : KOk Z a0 K := by
  intro c C fs h
  cases h
/-! body 1: Math.min(JJ)J -/
def E1 : List (Nat × Nat × Act) := []
def F1 : List Value → AH → Option ORes := fn jdk_29_method_70_code 4 (Option.some Jvm.ClassFile.FieldType.long) E1 0 56
def r1 : Room := { frames := 0, cells := 0, slots := 0, locals := 0 }
theorem says1 (l : Launch) {Z : State} {a0 : Array Value} {σ : Nat → Nat} {n0 : Nat} (hsg : Sg σ 0 n0) (hw : ∀ d ∈ tables_1, d.before a0 Z = true) : Says l Z σ 0 n0 K (⟨"java/lang/Math", "min", "(JJ)J"⟩ : MethodName) jdk_29_method_70_code 4 (Option.some Jvm.ClassFile.FieldType.long) [] r1 F1 :=
  says_fn hsg (Jvm.Free.JP.mathPlain rfl (by decide +kernel)) fun p e s m args below meth c hx hby hml hZ hown hnm => ag_nil
/-! body 2: WordIndex.merged([I[I)[I -/
def E2 : List (Nat × Nat × Act) := [(13, 6, aArr .int 1 4)]
def F2 : List Value → AH → Option ORes := fn prog_120_method_10_code 6 (Option.some (Jvm.ClassFile.FieldType.array Jvm.ClassFile.FieldType.int)) E2 0 220
def r2 : Room := { frames := 0, cells := 1, slots := 4, locals := 0 }
theorem says2 (l : Launch) {Z : State} {a0 : Array Value} {σ : Nat → Nat} {n0 : Nat} (hsg : Sg σ 0 n0) (hw : ∀ d ∈ tables_1, d.before a0 Z = true) : Says l Z σ 0 n0 K (⟨"com/example/fronda/fronda/model/WordIndex", "merged", "([I[I)[I"⟩ : MethodName) prog_120_method_10_code 6 (Option.some (Jvm.ClassFile.FieldType.array Jvm.ClassFile.FieldType.int)) [] r2 F2 :=
  says_fn hsg (plainFor_of_name (by first | (simp [plainName, overriddenIn]; done) | decide +kernel)) fun p e s m args below meth c hx hby hml hZ hown hnm => ag_cons (okArr (t := .int) hx hZ hsg (hw _ (List.mem_of_getElem? (i := 6) rfl)) (by decide) (by decide)) <| ag_nil
/-! body 0: WordIndexMergedPinLaw.law(IIIII)Z -/
def E0 : List (Nat × Nat × Act) := [(0, 7, aI (1073741823)), (2, 10, aJ (2147483647)), (7, 12, aCall 2 6 16 128 0 0 F1), (13, 6, aArr .int 16 128), (7, 18, aCall 2 6 16 128 1 4 F2)]
def F0 : List Value → AH → Option ORes := fn code maxLocals ret E0 0 560
theorem says0 (l : Launch) {Z : State} {a0 : Array Value} {σ : Nat → Nat} {n0 : Nat} (hsg : Sg σ 0 n0) (hw : ∀ d ∈ tables_1, d.before a0 Z = true) : Says l Z σ 0 n0 K x code maxLocals ret tables_1 room_1 F0 :=
  says_fn hsg (plainFor_of_name (by first | (simp [x, plainName, overriddenIn]; done) | decide +kernel)) fun p e s m args below meth c hx hby hml hZ hown hnm => ag_cons (okI hx hZ hown (hw _ (List.mem_of_getElem? (i := 0) rfl))) <| ag_cons (okJ hx hZ hown (hw _ (List.mem_of_getElem? (i := 1) rfl))) <| ag_cons (okStat (W := 6) hx hZ (says1 l hsg hw) hown (hw _ (List.mem_of_getElem? (i := 2) rfl)) (hw _ (List.mem_of_getElem? (i := 3) rfl)) (hw _ (List.mem_of_getElem? (i := 4) rfl)) (hw _ (List.mem_of_getElem? (i := 5) rfl)) (by decide) (by decide +kernel : parseMethodDescriptor "(JJ)J" = some ⟨[.long, .long], some .long⟩) rfl (by decide) (by decide) (by decide) (by decide)) <| ag_cons (okArr (t := .int) hx hZ hsg (hw _ (List.mem_of_getElem? (i := 6) rfl)) (by decide) (by decide)) <| ag_cons (okStat (W := 6) hx hZ (says2 l hsg hw) hown (hw _ (List.mem_of_getElem? (i := 7) rfl)) (hw _ (List.mem_of_getElem? (i := 8) rfl)) (hw _ (List.mem_of_getElem? (i := 9) rfl)) (hw _ (List.mem_of_getElem? (i := 10) rfl)) (by decide) (by decide +kernel : parseMethodDescriptor "([I[I)[I" = some ⟨[(.array .int), (.array .int)], some (.array .int)⟩) rfl (by decide) (by decide) (by decide) (by decide)) <| ag_nil
theorem f1_in {x0 : Int64} {x1 : Int64} {H : AH} : F1 [.long x0, .long x1] H = orun jdk_29_method_70_code (Option.some Jvm.ClassFile.FieldType.long) E1 0 56 (0, [.val (.long x0), .second, .val (.long x1), .second], [], H, 0, 0) := rfl
theorem s1_0 {n cs ss : Nat} {L : List Slot} {S : List Value} {H : AH} : orun jdk_29_method_70_code (Option.some Jvm.ClassFile.FieldType.long) E1 0 (n + 1) (0, L, S, H, cs, ss) = (gL L 0).bind fun v => orun jdk_29_method_70_code (Option.some Jvm.ClassFile.FieldType.long) E1 0 n (1, L, .long v :: S, H, cs, ss) := s_any k1_0
theorem s1_1 {n cs ss : Nat} {L : List Slot} {S : List Value} {H : AH} : orun jdk_29_method_70_code (Option.some Jvm.ClassFile.FieldType.long) E1 0 (n + 1) (1, L, S, H, cs, ss) = (gL L 2).bind fun v => orun jdk_29_method_70_code (Option.some Jvm.ClassFile.FieldType.long) E1 0 n (2, L, .long v :: S, H, cs, ss) := s_any k1_1
theorem s1_2 {n cs ss : Nat} {L : List Slot} {S : List Value} {H : AH} : orun jdk_29_method_70_code (Option.some Jvm.ClassFile.FieldType.long) E1 0 (n + 1) (2, L, S, H, cs, ss) = ex (Option.some Jvm.ClassFile.FieldType.long) E1 0 (orun jdk_29_method_70_code (Option.some Jvm.ClassFile.FieldType.long) E1 0 n) (.lcmp) 2 L S H cs ss := s_any k1_2
theorem s1_3 {n cs ss : Nat} {L : List Slot} {S : List Value} {H : AH} : orun jdk_29_method_70_code (Option.some Jvm.ClassFile.FieldType.long) E1 0 (n + 1) (3, L, S, H, cs, ss) = pI S fun x r => if 0 < x then orun jdk_29_method_70_code (Option.some Jvm.ClassFile.FieldType.long) E1 0 n (10, L, r, H, cs, ss) else orun jdk_29_method_70_code (Option.some Jvm.ClassFile.FieldType.long) E1 0 n (6, L, r, H, cs, ss) := s_if (Q := fun x => 0 < x) (fun _ => z_gt) k1_3 (by decide) (by decide)
theorem s1_6 {n cs ss : Nat} {L : List Slot} {S : List Value} {H : AH} : orun jdk_29_method_70_code (Option.some Jvm.ClassFile.FieldType.long) E1 0 (n + 1) (6, L, S, H, cs, ss) = (gL L 0).bind fun v => orun jdk_29_method_70_code (Option.some Jvm.ClassFile.FieldType.long) E1 0 n (7, L, .long v :: S, H, cs, ss) := s_any k1_6
theorem s1_7 {n cs ss : Nat} {L : List Slot} {S : List Value} {H : AH} : orun jdk_29_method_70_code (Option.some Jvm.ClassFile.FieldType.long) E1 0 (n + 1) (7, L, S, H, cs, ss) = orun jdk_29_method_70_code (Option.some Jvm.ClassFile.FieldType.long) E1 0 n (11, L, S, H, cs, ss) := s_goto k1_7 (by decide) (by decide)
theorem s1_10 {n cs ss : Nat} {L : List Slot} {S : List Value} {H : AH} : orun jdk_29_method_70_code (Option.some Jvm.ClassFile.FieldType.long) E1 0 (n + 1) (10, L, S, H, cs, ss) = (gL L 2).bind fun v => orun jdk_29_method_70_code (Option.some Jvm.ClassFile.FieldType.long) E1 0 n (11, L, .long v :: S, H, cs, ss) := s_any k1_10
theorem s1_11 {n cs ss : Nat} {L : List Slot} {S : List Value} {H : AH} : orun jdk_29_method_70_code (Option.some Jvm.ClassFile.FieldType.long) E1 0 (n + 1) (11, L, S, H, cs, ss) = pL S fun z _ => some (some (.long z), H) := s_any k1_11
theorem t1_0 {go : Nat → St → Option ORes} (hgo : go = orun jdk_29_method_70_code (Option.some Jvm.ClassFile.FieldType.long) E1 0) {n cs ss : Nat} {l1 l2 l3 : Slot} {S : List Value} {H : AH} {q : Option ORes → Prop} {v : Int64} (h : Rsq (go n (1, [.val (.long v), l1, l2, l3], (.long v :: S), H, cs, ss)) q) : Rsq (go (n + 1) (0, [.val (.long v), l1, l2, l3], S, H, cs, ss)) q := by
  subst hgo
  exact res_of s1_0 h
theorem t1_1 {go : Nat → St → Option ORes} (hgo : go = orun jdk_29_method_70_code (Option.some Jvm.ClassFile.FieldType.long) E1 0) {n cs ss : Nat} {l0 l1 l3 : Slot} {S : List Value} {H : AH} {q : Option ORes → Prop} {v : Int64} (h : Rsq (go n (2, [l0, l1, .val (.long v), l3], (.long v :: S), H, cs, ss)) q) : Rsq (go (n + 1) (1, [l0, l1, .val (.long v), l3], S, H, cs, ss)) q := by
  subst hgo
  exact res_of s1_1 h
theorem t1_2 {go : Nat → St → Option ORes} (hgo : go = orun jdk_29_method_70_code (Option.some Jvm.ClassFile.FieldType.long) E1 0) {n cs ss : Nat} {L : List Slot} {S : List Value} {H : AH} {q : Option ORes → Prop} {x y : Int64} (h : Rsq (go n (3, L, (.int (lcmpW x y) :: S), H, cs, ss)) q) : Rsq (go (n + 1) (2, L, (.long y :: .long x :: S), H, cs, ss)) q := by
  subst hgo
  exact res_of s1_2 h
theorem t1_3t {go : Nat → St → Option ORes} (hgo : go = orun jdk_29_method_70_code (Option.some Jvm.ClassFile.FieldType.long) E1 0) {n cs ss : Nat} {L : List Slot} {S : List Value} {H : AH} {q : Option ORes → Prop} {x : Int32} (hc : 0 < x) (h : Rsq (go n (10, L, S, H, cs, ss)) q) : Rsq (go (n + 1) (3, L, (.int x :: S), H, cs, ss)) q := by
  subst hgo
  exact res_of s1_3 (res_t hc h)
theorem t1_3f {go : Nat → St → Option ORes} (hgo : go = orun jdk_29_method_70_code (Option.some Jvm.ClassFile.FieldType.long) E1 0) {n cs ss : Nat} {L : List Slot} {S : List Value} {H : AH} {q : Option ORes → Prop} {x : Int32} (hc : ¬ 0 < x) (h : Rsq (go n (6, L, S, H, cs, ss)) q) : Rsq (go (n + 1) (3, L, (.int x :: S), H, cs, ss)) q := by
  subst hgo
  exact res_of s1_3 (res_f hc h)
theorem t1_6 {go : Nat → St → Option ORes} (hgo : go = orun jdk_29_method_70_code (Option.some Jvm.ClassFile.FieldType.long) E1 0) {n cs ss : Nat} {l1 l2 l3 : Slot} {S : List Value} {H : AH} {q : Option ORes → Prop} {v : Int64} (h : Rsq (go n (7, [.val (.long v), l1, l2, l3], (.long v :: S), H, cs, ss)) q) : Rsq (go (n + 1) (6, [.val (.long v), l1, l2, l3], S, H, cs, ss)) q := by
  subst hgo
  exact res_of s1_6 h
theorem t1_7 {go : Nat → St → Option ORes} (hgo : go = orun jdk_29_method_70_code (Option.some Jvm.ClassFile.FieldType.long) E1 0) {n cs ss : Nat} {L : List Slot} {S : List Value} {H : AH} {q : Option ORes → Prop} (h : Rsq (go n (11, L, S, H, cs, ss)) q) : Rsq (go (n + 1) (7, L, S, H, cs, ss)) q := by
  subst hgo
  exact res_of s1_7 h
theorem t1_10 {go : Nat → St → Option ORes} (hgo : go = orun jdk_29_method_70_code (Option.some Jvm.ClassFile.FieldType.long) E1 0) {n cs ss : Nat} {l0 l1 l3 : Slot} {S : List Value} {H : AH} {q : Option ORes → Prop} {v : Int64} (h : Rsq (go n (11, [l0, l1, .val (.long v), l3], (.long v :: S), H, cs, ss)) q) : Rsq (go (n + 1) (10, [l0, l1, .val (.long v), l3], S, H, cs, ss)) q := by
  subst hgo
  exact res_of s1_10 h
theorem t1_11 {go : Nat → St → Option ORes} (hgo : go = orun jdk_29_method_70_code (Option.some Jvm.ClassFile.FieldType.long) E1 0) {n cs ss : Nat} {L : List Slot} {S : List Value} {H : AH} {q : Option ORes → Prop} {z : Int64} (h : q (some (some (.long z), H))) : Rsq (go (n + 1) (11, L, (.long z :: S), H, cs, ss)) q := by
  subst hgo
  exact res_of s1_11 h
theorem f2_in {x0 : Nat} {x1 : Nat} {H : AH} : F2 [.ref x0, .ref x1] H = orun prog_120_method_10_code (Option.some (Jvm.ClassFile.FieldType.array Jvm.ClassFile.FieldType.int)) E2 0 220 (0, [.val (.ref x0), .val (.ref x1), .unset, .unset, .unset, .unset], [], H, 0, 0) := rfl
theorem s2_0 {n cs ss : Nat} {L : List Slot} {S : List Value} {H : AH} : orun prog_120_method_10_code (Option.some (Jvm.ClassFile.FieldType.array Jvm.ClassFile.FieldType.int)) E2 0 (n + 1) (0, L, S, H, cs, ss) = (gA L 0).bind fun v => orun prog_120_method_10_code (Option.some (Jvm.ClassFile.FieldType.array Jvm.ClassFile.FieldType.int)) E2 0 n (1, L, v :: S, H, cs, ss) := s_any k2_0
theorem s2_1 {n cs ss : Nat} {L : List Slot} {S : List Value} {H : AH} : orun prog_120_method_10_code (Option.some (Jvm.ClassFile.FieldType.array Jvm.ClassFile.FieldType.int)) E2 0 (n + 1) (1, L, S, H, cs, ss) = pR S fun a r => (arr H a).bind fun q => orun prog_120_method_10_code (Option.some (Jvm.ClassFile.FieldType.array Jvm.ClassFile.FieldType.int)) E2 0 n (2, L, .int (ln q.2) :: r, H, cs, ss) := s_any k2_1
theorem s2_2 {n cs ss : Nat} {L : List Slot} {S : List Value} {H : AH} : orun prog_120_method_10_code (Option.some (Jvm.ClassFile.FieldType.array Jvm.ClassFile.FieldType.int)) E2 0 (n + 1) (2, L, S, H, cs, ss) = (gA L 1).bind fun v => orun prog_120_method_10_code (Option.some (Jvm.ClassFile.FieldType.array Jvm.ClassFile.FieldType.int)) E2 0 n (3, L, v :: S, H, cs, ss) := s_any k2_2
theorem s2_3 {n cs ss : Nat} {L : List Slot} {S : List Value} {H : AH} : orun prog_120_method_10_code (Option.some (Jvm.ClassFile.FieldType.array Jvm.ClassFile.FieldType.int)) E2 0 (n + 1) (3, L, S, H, cs, ss) = pR S fun a r => (arr H a).bind fun q => orun prog_120_method_10_code (Option.some (Jvm.ClassFile.FieldType.array Jvm.ClassFile.FieldType.int)) E2 0 n (4, L, .int (ln q.2) :: r, H, cs, ss) := s_any k2_3
theorem s2_4 {n cs ss : Nat} {L : List Slot} {S : List Value} {H : AH} : orun prog_120_method_10_code (Option.some (Jvm.ClassFile.FieldType.array Jvm.ClassFile.FieldType.int)) E2 0 (n + 1) (4, L, S, H, cs, ss) = pI S fun y S => pI S fun x r => orun prog_120_method_10_code (Option.some (Jvm.ClassFile.FieldType.array Jvm.ClassFile.FieldType.int)) E2 0 n (5, L, .int (x + y) :: r, H, cs, ss) := s_any k2_4
theorem s2_5 {n cs ss : Nat} {L : List Slot} {S : List Value} {H : AH} : orun prog_120_method_10_code (Option.some (Jvm.ClassFile.FieldType.array Jvm.ClassFile.FieldType.int)) E2 0 (n + 1) (5, L, S, H, cs, ss) = (aArr .int 1 4 S H cs ss).bind fun r => orun prog_120_method_10_code (Option.some (Jvm.ClassFile.FieldType.array Jvm.ClassFile.FieldType.int)) E2 0 n (7, L, r.1, r.2.1, r.2.2.1, r.2.2.2) := s_any k2_5
theorem s2_7 {n cs ss : Nat} {L : List Slot} {S : List Value} {H : AH} : orun prog_120_method_10_code (Option.some (Jvm.ClassFile.FieldType.array Jvm.ClassFile.FieldType.int)) E2 0 (n + 1) (7, L, S, H, cs, ss) = pA S fun x r => (st1 L 2 x).bind fun L' => orun prog_120_method_10_code (Option.some (Jvm.ClassFile.FieldType.array Jvm.ClassFile.FieldType.int)) E2 0 n (8, L', r, H, cs, ss) := s_any k2_7
theorem s2_8 {n cs ss : Nat} {L : List Slot} {S : List Value} {H : AH} : orun prog_120_method_10_code (Option.some (Jvm.ClassFile.FieldType.array Jvm.ClassFile.FieldType.int)) E2 0 (n + 1) (8, L, S, H, cs, ss) = orun prog_120_method_10_code (Option.some (Jvm.ClassFile.FieldType.array Jvm.ClassFile.FieldType.int)) E2 0 n (9, L, (.int 0 :: S), H, cs, ss) := s_any k2_8
theorem s2_9 {n cs ss : Nat} {L : List Slot} {S : List Value} {H : AH} : orun prog_120_method_10_code (Option.some (Jvm.ClassFile.FieldType.array Jvm.ClassFile.FieldType.int)) E2 0 (n + 1) (9, L, S, H, cs, ss) = pI S fun x r => (st1 L 3 (.int x)).bind fun L' => orun prog_120_method_10_code (Option.some (Jvm.ClassFile.FieldType.array Jvm.ClassFile.FieldType.int)) E2 0 n (10, L', r, H, cs, ss) := s_any k2_9
theorem s2_10 {n cs ss : Nat} {L : List Slot} {S : List Value} {H : AH} : orun prog_120_method_10_code (Option.some (Jvm.ClassFile.FieldType.array Jvm.ClassFile.FieldType.int)) E2 0 (n + 1) (10, L, S, H, cs, ss) = orun prog_120_method_10_code (Option.some (Jvm.ClassFile.FieldType.array Jvm.ClassFile.FieldType.int)) E2 0 n (11, L, (.int 0 :: S), H, cs, ss) := s_any k2_10
theorem s2_11 {n cs ss : Nat} {L : List Slot} {S : List Value} {H : AH} : orun prog_120_method_10_code (Option.some (Jvm.ClassFile.FieldType.array Jvm.ClassFile.FieldType.int)) E2 0 (n + 1) (11, L, S, H, cs, ss) = pI S fun x r => (st1 L 4 (.int x)).bind fun L' => orun prog_120_method_10_code (Option.some (Jvm.ClassFile.FieldType.array Jvm.ClassFile.FieldType.int)) E2 0 n (13, L', r, H, cs, ss) := s_any k2_11
theorem s2_13 {n cs ss : Nat} {L : List Slot} {S : List Value} {H : AH} : orun prog_120_method_10_code (Option.some (Jvm.ClassFile.FieldType.array Jvm.ClassFile.FieldType.int)) E2 0 (n + 1) (13, L, S, H, cs, ss) = orun prog_120_method_10_code (Option.some (Jvm.ClassFile.FieldType.array Jvm.ClassFile.FieldType.int)) E2 0 n (14, L, (.int 0 :: S), H, cs, ss) := s_any k2_13
theorem s2_14 {n cs ss : Nat} {L : List Slot} {S : List Value} {H : AH} : orun prog_120_method_10_code (Option.some (Jvm.ClassFile.FieldType.array Jvm.ClassFile.FieldType.int)) E2 0 (n + 1) (14, L, S, H, cs, ss) = pI S fun x r => (st1 L 5 (.int x)).bind fun L' => orun prog_120_method_10_code (Option.some (Jvm.ClassFile.FieldType.array Jvm.ClassFile.FieldType.int)) E2 0 n (16, L', r, H, cs, ss) := s_any k2_14
theorem s2_16 {n cs ss : Nat} {L : List Slot} {S : List Value} {H : AH} : orun prog_120_method_10_code (Option.some (Jvm.ClassFile.FieldType.array Jvm.ClassFile.FieldType.int)) E2 0 (n + 1) (16, L, S, H, cs, ss) = (gI L 5).bind fun v => orun prog_120_method_10_code (Option.some (Jvm.ClassFile.FieldType.array Jvm.ClassFile.FieldType.int)) E2 0 n (18, L, .int v :: S, H, cs, ss) := s_any k2_16
theorem s2_18 {n cs ss : Nat} {L : List Slot} {S : List Value} {H : AH} : orun prog_120_method_10_code (Option.some (Jvm.ClassFile.FieldType.array Jvm.ClassFile.FieldType.int)) E2 0 (n + 1) (18, L, S, H, cs, ss) = (gA L 2).bind fun v => orun prog_120_method_10_code (Option.some (Jvm.ClassFile.FieldType.array Jvm.ClassFile.FieldType.int)) E2 0 n (19, L, v :: S, H, cs, ss) := s_any k2_18
theorem s2_19 {n cs ss : Nat} {L : List Slot} {S : List Value} {H : AH} : orun prog_120_method_10_code (Option.some (Jvm.ClassFile.FieldType.array Jvm.ClassFile.FieldType.int)) E2 0 (n + 1) (19, L, S, H, cs, ss) = pR S fun a r => (arr H a).bind fun q => orun prog_120_method_10_code (Option.some (Jvm.ClassFile.FieldType.array Jvm.ClassFile.FieldType.int)) E2 0 n (20, L, .int (ln q.2) :: r, H, cs, ss) := s_any k2_19
theorem s2_20 {n cs ss : Nat} {L : List Slot} {S : List Value} {H : AH} : orun prog_120_method_10_code (Option.some (Jvm.ClassFile.FieldType.array Jvm.ClassFile.FieldType.int)) E2 0 (n + 1) (20, L, S, H, cs, ss) = pI S fun y S => pI S fun x r => if x < y then orun prog_120_method_10_code (Option.some (Jvm.ClassFile.FieldType.array Jvm.ClassFile.FieldType.int)) E2 0 n (23, L, r, H, cs, ss) else orun prog_120_method_10_code (Option.some (Jvm.ClassFile.FieldType.array Jvm.ClassFile.FieldType.int)) E2 0 n (76, L, r, H, cs, ss) := s_icmpN (Q := fun x y => x < y) (fun _ _ => h_ge) k2_20 (by decide) (by decide)
theorem s2_23 {n cs ss : Nat} {L : List Slot} {S : List Value} {H : AH} : orun prog_120_method_10_code (Option.some (Jvm.ClassFile.FieldType.array Jvm.ClassFile.FieldType.int)) E2 0 (n + 1) (23, L, S, H, cs, ss) = (gI L 4).bind fun v => orun prog_120_method_10_code (Option.some (Jvm.ClassFile.FieldType.array Jvm.ClassFile.FieldType.int)) E2 0 n (25, L, .int v :: S, H, cs, ss) := s_any k2_23
theorem s2_25 {n cs ss : Nat} {L : List Slot} {S : List Value} {H : AH} : orun prog_120_method_10_code (Option.some (Jvm.ClassFile.FieldType.array Jvm.ClassFile.FieldType.int)) E2 0 (n + 1) (25, L, S, H, cs, ss) = (gA L 1).bind fun v => orun prog_120_method_10_code (Option.some (Jvm.ClassFile.FieldType.array Jvm.ClassFile.FieldType.int)) E2 0 n (26, L, v :: S, H, cs, ss) := s_any k2_25
theorem s2_26 {n cs ss : Nat} {L : List Slot} {S : List Value} {H : AH} : orun prog_120_method_10_code (Option.some (Jvm.ClassFile.FieldType.array Jvm.ClassFile.FieldType.int)) E2 0 (n + 1) (26, L, S, H, cs, ss) = pR S fun a r => (arr H a).bind fun q => orun prog_120_method_10_code (Option.some (Jvm.ClassFile.FieldType.array Jvm.ClassFile.FieldType.int)) E2 0 n (27, L, .int (ln q.2) :: r, H, cs, ss) := s_any k2_26
theorem s2_27 {n cs ss : Nat} {L : List Slot} {S : List Value} {H : AH} : orun prog_120_method_10_code (Option.some (Jvm.ClassFile.FieldType.array Jvm.ClassFile.FieldType.int)) E2 0 (n + 1) (27, L, S, H, cs, ss) = pI S fun y S => pI S fun x r => if x = y then orun prog_120_method_10_code (Option.some (Jvm.ClassFile.FieldType.array Jvm.ClassFile.FieldType.int)) E2 0 n (46, L, r, H, cs, ss) else orun prog_120_method_10_code (Option.some (Jvm.ClassFile.FieldType.array Jvm.ClassFile.FieldType.int)) E2 0 n (30, L, r, H, cs, ss) := s_icmp (Q := fun x y => x = y) (fun _ _ => h_eq) k2_27 (by decide) (by decide)
theorem s2_30 {n cs ss : Nat} {L : List Slot} {S : List Value} {H : AH} : orun prog_120_method_10_code (Option.some (Jvm.ClassFile.FieldType.array Jvm.ClassFile.FieldType.int)) E2 0 (n + 1) (30, L, S, H, cs, ss) = (gI L 3).bind fun v => orun prog_120_method_10_code (Option.some (Jvm.ClassFile.FieldType.array Jvm.ClassFile.FieldType.int)) E2 0 n (31, L, .int v :: S, H, cs, ss) := s_any k2_30
theorem s2_31 {n cs ss : Nat} {L : List Slot} {S : List Value} {H : AH} : orun prog_120_method_10_code (Option.some (Jvm.ClassFile.FieldType.array Jvm.ClassFile.FieldType.int)) E2 0 (n + 1) (31, L, S, H, cs, ss) = (gA L 0).bind fun v => orun prog_120_method_10_code (Option.some (Jvm.ClassFile.FieldType.array Jvm.ClassFile.FieldType.int)) E2 0 n (32, L, v :: S, H, cs, ss) := s_any k2_31
theorem s2_32 {n cs ss : Nat} {L : List Slot} {S : List Value} {H : AH} : orun prog_120_method_10_code (Option.some (Jvm.ClassFile.FieldType.array Jvm.ClassFile.FieldType.int)) E2 0 (n + 1) (32, L, S, H, cs, ss) = pR S fun a r => (arr H a).bind fun q => orun prog_120_method_10_code (Option.some (Jvm.ClassFile.FieldType.array Jvm.ClassFile.FieldType.int)) E2 0 n (33, L, .int (ln q.2) :: r, H, cs, ss) := s_any k2_32
theorem s2_33 {n cs ss : Nat} {L : List Slot} {S : List Value} {H : AH} : orun prog_120_method_10_code (Option.some (Jvm.ClassFile.FieldType.array Jvm.ClassFile.FieldType.int)) E2 0 (n + 1) (33, L, S, H, cs, ss) = pI S fun y S => pI S fun x r => if x < y then orun prog_120_method_10_code (Option.some (Jvm.ClassFile.FieldType.array Jvm.ClassFile.FieldType.int)) E2 0 n (36, L, r, H, cs, ss) else orun prog_120_method_10_code (Option.some (Jvm.ClassFile.FieldType.array Jvm.ClassFile.FieldType.int)) E2 0 n (59, L, r, H, cs, ss) := s_icmpN (Q := fun x y => x < y) (fun _ _ => h_ge) k2_33 (by decide) (by decide)
theorem s2_36 {n cs ss : Nat} {L : List Slot} {S : List Value} {H : AH} : orun prog_120_method_10_code (Option.some (Jvm.ClassFile.FieldType.array Jvm.ClassFile.FieldType.int)) E2 0 (n + 1) (36, L, S, H, cs, ss) = (gA L 0).bind fun v => orun prog_120_method_10_code (Option.some (Jvm.ClassFile.FieldType.array Jvm.ClassFile.FieldType.int)) E2 0 n (37, L, v :: S, H, cs, ss) := s_any k2_36
theorem s2_37 {n cs ss : Nat} {L : List Slot} {S : List Value} {H : AH} : orun prog_120_method_10_code (Option.some (Jvm.ClassFile.FieldType.array Jvm.ClassFile.FieldType.int)) E2 0 (n + 1) (37, L, S, H, cs, ss) = (gI L 3).bind fun v => orun prog_120_method_10_code (Option.some (Jvm.ClassFile.FieldType.array Jvm.ClassFile.FieldType.int)) E2 0 n (38, L, .int v :: S, H, cs, ss) := s_any k2_37
theorem s2_38 {n cs ss : Nat} {L : List Slot} {S : List Value} {H : AH} : orun prog_120_method_10_code (Option.some (Jvm.ClassFile.FieldType.array Jvm.ClassFile.FieldType.int)) E2 0 (n + 1) (38, L, S, H, cs, ss) = ex (Option.some (Jvm.ClassFile.FieldType.array Jvm.ClassFile.FieldType.int)) E2 0 (orun prog_120_method_10_code (Option.some (Jvm.ClassFile.FieldType.array Jvm.ClassFile.FieldType.int)) E2 0 n) (.iaload) 38 L S H cs ss := s_any k2_38
theorem s2_39 {n cs ss : Nat} {L : List Slot} {S : List Value} {H : AH} : orun prog_120_method_10_code (Option.some (Jvm.ClassFile.FieldType.array Jvm.ClassFile.FieldType.int)) E2 0 (n + 1) (39, L, S, H, cs, ss) = (gA L 1).bind fun v => orun prog_120_method_10_code (Option.some (Jvm.ClassFile.FieldType.array Jvm.ClassFile.FieldType.int)) E2 0 n (40, L, v :: S, H, cs, ss) := s_any k2_39
theorem s2_40 {n cs ss : Nat} {L : List Slot} {S : List Value} {H : AH} : orun prog_120_method_10_code (Option.some (Jvm.ClassFile.FieldType.array Jvm.ClassFile.FieldType.int)) E2 0 (n + 1) (40, L, S, H, cs, ss) = (gI L 4).bind fun v => orun prog_120_method_10_code (Option.some (Jvm.ClassFile.FieldType.array Jvm.ClassFile.FieldType.int)) E2 0 n (42, L, .int v :: S, H, cs, ss) := s_any k2_40
theorem s2_42 {n cs ss : Nat} {L : List Slot} {S : List Value} {H : AH} : orun prog_120_method_10_code (Option.some (Jvm.ClassFile.FieldType.array Jvm.ClassFile.FieldType.int)) E2 0 (n + 1) (42, L, S, H, cs, ss) = ex (Option.some (Jvm.ClassFile.FieldType.array Jvm.ClassFile.FieldType.int)) E2 0 (orun prog_120_method_10_code (Option.some (Jvm.ClassFile.FieldType.array Jvm.ClassFile.FieldType.int)) E2 0 n) (.iaload) 42 L S H cs ss := s_any k2_42
theorem s2_43 {n cs ss : Nat} {L : List Slot} {S : List Value} {H : AH} : orun prog_120_method_10_code (Option.some (Jvm.ClassFile.FieldType.array Jvm.ClassFile.FieldType.int)) E2 0 (n + 1) (43, L, S, H, cs, ss) = pI S fun y S => pI S fun x r => if x < y then orun prog_120_method_10_code (Option.some (Jvm.ClassFile.FieldType.array Jvm.ClassFile.FieldType.int)) E2 0 n (46, L, r, H, cs, ss) else orun prog_120_method_10_code (Option.some (Jvm.ClassFile.FieldType.array Jvm.ClassFile.FieldType.int)) E2 0 n (59, L, r, H, cs, ss) := s_icmpN (Q := fun x y => x < y) (fun _ _ => h_ge) k2_43 (by decide) (by decide)
theorem s2_46 {n cs ss : Nat} {L : List Slot} {S : List Value} {H : AH} : orun prog_120_method_10_code (Option.some (Jvm.ClassFile.FieldType.array Jvm.ClassFile.FieldType.int)) E2 0 (n + 1) (46, L, S, H, cs, ss) = (gA L 2).bind fun v => orun prog_120_method_10_code (Option.some (Jvm.ClassFile.FieldType.array Jvm.ClassFile.FieldType.int)) E2 0 n (47, L, v :: S, H, cs, ss) := s_any k2_46
theorem s2_47 {n cs ss : Nat} {L : List Slot} {S : List Value} {H : AH} : orun prog_120_method_10_code (Option.some (Jvm.ClassFile.FieldType.array Jvm.ClassFile.FieldType.int)) E2 0 (n + 1) (47, L, S, H, cs, ss) = (gI L 5).bind fun v => orun prog_120_method_10_code (Option.some (Jvm.ClassFile.FieldType.array Jvm.ClassFile.FieldType.int)) E2 0 n (49, L, .int v :: S, H, cs, ss) := s_any k2_47
theorem s2_49 {n cs ss : Nat} {L : List Slot} {S : List Value} {H : AH} : orun prog_120_method_10_code (Option.some (Jvm.ClassFile.FieldType.array Jvm.ClassFile.FieldType.int)) E2 0 (n + 1) (49, L, S, H, cs, ss) = (gA L 0).bind fun v => orun prog_120_method_10_code (Option.some (Jvm.ClassFile.FieldType.array Jvm.ClassFile.FieldType.int)) E2 0 n (50, L, v :: S, H, cs, ss) := s_any k2_49
theorem s2_50 {n cs ss : Nat} {L : List Slot} {S : List Value} {H : AH} : orun prog_120_method_10_code (Option.some (Jvm.ClassFile.FieldType.array Jvm.ClassFile.FieldType.int)) E2 0 (n + 1) (50, L, S, H, cs, ss) = (gI L 3).bind fun v => orun prog_120_method_10_code (Option.some (Jvm.ClassFile.FieldType.array Jvm.ClassFile.FieldType.int)) E2 0 n (51, L, .int v :: S, H, cs, ss) := s_any k2_50
theorem s2_51 {n cs ss : Nat} {L : List Slot} {S : List Value} {H : AH} : orun prog_120_method_10_code (Option.some (Jvm.ClassFile.FieldType.array Jvm.ClassFile.FieldType.int)) E2 0 (n + 1) (51, L, S, H, cs, ss) = ex (Option.some (Jvm.ClassFile.FieldType.array Jvm.ClassFile.FieldType.int)) E2 0 (orun prog_120_method_10_code (Option.some (Jvm.ClassFile.FieldType.array Jvm.ClassFile.FieldType.int)) E2 0 n) (.iaload) 51 L S H cs ss := s_any k2_51
theorem s2_52 {n cs ss : Nat} {L : List Slot} {S : List Value} {H : AH} : orun prog_120_method_10_code (Option.some (Jvm.ClassFile.FieldType.array Jvm.ClassFile.FieldType.int)) E2 0 (n + 1) (52, L, S, H, cs, ss) = ex (Option.some (Jvm.ClassFile.FieldType.array Jvm.ClassFile.FieldType.int)) E2 0 (orun prog_120_method_10_code (Option.some (Jvm.ClassFile.FieldType.array Jvm.ClassFile.FieldType.int)) E2 0 n) (.iastore) 52 L S H cs ss := s_any k2_52
theorem s2_53 {n cs ss : Nat} {L : List Slot} {S : List Value} {H : AH} : orun prog_120_method_10_code (Option.some (Jvm.ClassFile.FieldType.array Jvm.ClassFile.FieldType.int)) E2 0 (n + 1) (53, L, S, H, cs, ss) = (gI L 3).bind fun v => (st1 L 3 (.int (v + 1))).bind fun L' => orun prog_120_method_10_code (Option.some (Jvm.ClassFile.FieldType.array Jvm.ClassFile.FieldType.int)) E2 0 n (56, L', S, H, cs, ss) := s_any k2_53
theorem s2_56 {n cs ss : Nat} {L : List Slot} {S : List Value} {H : AH} : orun prog_120_method_10_code (Option.some (Jvm.ClassFile.FieldType.array Jvm.ClassFile.FieldType.int)) E2 0 (n + 1) (56, L, S, H, cs, ss) = orun prog_120_method_10_code (Option.some (Jvm.ClassFile.FieldType.array Jvm.ClassFile.FieldType.int)) E2 0 n (70, L, S, H, cs, ss) := s_goto k2_56 (by decide) (by decide)
theorem s2_59 {n cs ss : Nat} {L : List Slot} {S : List Value} {H : AH} : orun prog_120_method_10_code (Option.some (Jvm.ClassFile.FieldType.array Jvm.ClassFile.FieldType.int)) E2 0 (n + 1) (59, L, S, H, cs, ss) = (gA L 2).bind fun v => orun prog_120_method_10_code (Option.some (Jvm.ClassFile.FieldType.array Jvm.ClassFile.FieldType.int)) E2 0 n (60, L, v :: S, H, cs, ss) := s_any k2_59
theorem s2_60 {n cs ss : Nat} {L : List Slot} {S : List Value} {H : AH} : orun prog_120_method_10_code (Option.some (Jvm.ClassFile.FieldType.array Jvm.ClassFile.FieldType.int)) E2 0 (n + 1) (60, L, S, H, cs, ss) = (gI L 5).bind fun v => orun prog_120_method_10_code (Option.some (Jvm.ClassFile.FieldType.array Jvm.ClassFile.FieldType.int)) E2 0 n (62, L, .int v :: S, H, cs, ss) := s_any k2_60
theorem s2_62 {n cs ss : Nat} {L : List Slot} {S : List Value} {H : AH} : orun prog_120_method_10_code (Option.some (Jvm.ClassFile.FieldType.array Jvm.ClassFile.FieldType.int)) E2 0 (n + 1) (62, L, S, H, cs, ss) = (gA L 1).bind fun v => orun prog_120_method_10_code (Option.some (Jvm.ClassFile.FieldType.array Jvm.ClassFile.FieldType.int)) E2 0 n (63, L, v :: S, H, cs, ss) := s_any k2_62
theorem s2_63 {n cs ss : Nat} {L : List Slot} {S : List Value} {H : AH} : orun prog_120_method_10_code (Option.some (Jvm.ClassFile.FieldType.array Jvm.ClassFile.FieldType.int)) E2 0 (n + 1) (63, L, S, H, cs, ss) = (gI L 4).bind fun v => orun prog_120_method_10_code (Option.some (Jvm.ClassFile.FieldType.array Jvm.ClassFile.FieldType.int)) E2 0 n (65, L, .int v :: S, H, cs, ss) := s_any k2_63
theorem s2_65 {n cs ss : Nat} {L : List Slot} {S : List Value} {H : AH} : orun prog_120_method_10_code (Option.some (Jvm.ClassFile.FieldType.array Jvm.ClassFile.FieldType.int)) E2 0 (n + 1) (65, L, S, H, cs, ss) = ex (Option.some (Jvm.ClassFile.FieldType.array Jvm.ClassFile.FieldType.int)) E2 0 (orun prog_120_method_10_code (Option.some (Jvm.ClassFile.FieldType.array Jvm.ClassFile.FieldType.int)) E2 0 n) (.iaload) 65 L S H cs ss := s_any k2_65
theorem s2_66 {n cs ss : Nat} {L : List Slot} {S : List Value} {H : AH} : orun prog_120_method_10_code (Option.some (Jvm.ClassFile.FieldType.array Jvm.ClassFile.FieldType.int)) E2 0 (n + 1) (66, L, S, H, cs, ss) = ex (Option.some (Jvm.ClassFile.FieldType.array Jvm.ClassFile.FieldType.int)) E2 0 (orun prog_120_method_10_code (Option.some (Jvm.ClassFile.FieldType.array Jvm.ClassFile.FieldType.int)) E2 0 n) (.iastore) 66 L S H cs ss := s_any k2_66
theorem s2_67 {n cs ss : Nat} {L : List Slot} {S : List Value} {H : AH} : orun prog_120_method_10_code (Option.some (Jvm.ClassFile.FieldType.array Jvm.ClassFile.FieldType.int)) E2 0 (n + 1) (67, L, S, H, cs, ss) = (gI L 4).bind fun v => (st1 L 4 (.int (v + 1))).bind fun L' => orun prog_120_method_10_code (Option.some (Jvm.ClassFile.FieldType.array Jvm.ClassFile.FieldType.int)) E2 0 n (70, L', S, H, cs, ss) := s_any k2_67
theorem s2_70 {n cs ss : Nat} {L : List Slot} {S : List Value} {H : AH} : orun prog_120_method_10_code (Option.some (Jvm.ClassFile.FieldType.array Jvm.ClassFile.FieldType.int)) E2 0 (n + 1) (70, L, S, H, cs, ss) = (gI L 5).bind fun v => (st1 L 5 (.int (v + 1))).bind fun L' => orun prog_120_method_10_code (Option.some (Jvm.ClassFile.FieldType.array Jvm.ClassFile.FieldType.int)) E2 0 n (73, L', S, H, cs, ss) := s_any k2_70
theorem s2_73 {n cs ss : Nat} {L : List Slot} {S : List Value} {H : AH} : orun prog_120_method_10_code (Option.some (Jvm.ClassFile.FieldType.array Jvm.ClassFile.FieldType.int)) E2 0 (n + 1) (73, L, S, H, cs, ss) = orun prog_120_method_10_code (Option.some (Jvm.ClassFile.FieldType.array Jvm.ClassFile.FieldType.int)) E2 0 n (16, L, S, H, cs, ss) := s_goto k2_73 (by decide) (by decide)
theorem s2_76 {n cs ss : Nat} {L : List Slot} {S : List Value} {H : AH} : orun prog_120_method_10_code (Option.some (Jvm.ClassFile.FieldType.array Jvm.ClassFile.FieldType.int)) E2 0 (n + 1) (76, L, S, H, cs, ss) = (gA L 2).bind fun v => orun prog_120_method_10_code (Option.some (Jvm.ClassFile.FieldType.array Jvm.ClassFile.FieldType.int)) E2 0 n (77, L, v :: S, H, cs, ss) := s_any k2_76
theorem s2_77 {n cs ss : Nat} {L : List Slot} {S : List Value} {H : AH} : orun prog_120_method_10_code (Option.some (Jvm.ClassFile.FieldType.array Jvm.ClassFile.FieldType.int)) E2 0 (n + 1) (77, L, S, H, cs, ss) = pA S fun z _ => some (some z, H) := s_any k2_77
theorem t2_0 {go : Nat → St → Option ORes} (hgo : go = orun prog_120_method_10_code (Option.some (Jvm.ClassFile.FieldType.array Jvm.ClassFile.FieldType.int)) E2 0) {n cs ss : Nat} {l1 l2 l3 l4 l5 : Slot} {S : List Value} {H : AH} {q : Option ORes → Prop} {v : Value} (hv : isA v = true) (h : Rsq (go n (1, [.val v, l1, l2, l3, l4, l5], (v :: S), H, cs, ss)) q) : Rsq (go (n + 1) (0, [.val v, l1, l2, l3, l4, l5], S, H, cs, ss)) q := by
  subst hgo
  refine res_of s2_0 ?_
  rw [gA_isA (L := [.val v, l1, l2, l3, l4, l5]) (k := 0) (v := v) rfl hv]
  exact h
theorem u2_1 {go : Nat → St → Option ORes} (hgo : go = orun prog_120_method_10_code (Option.some (Jvm.ClassFile.FieldType.array Jvm.ClassFile.FieldType.int)) E2 0) {n cs ss : Nat} {L : List Slot} {S : List Value} {H : AH} : go (n + 1) (1, L, S, H, cs, ss) = pR S fun a r => (arr H a).bind fun q => go n (2, L, .int (ln q.2) :: r, H, cs, ss) := by
  subst hgo
  exact s2_1
theorem t2_2 {go : Nat → St → Option ORes} (hgo : go = orun prog_120_method_10_code (Option.some (Jvm.ClassFile.FieldType.array Jvm.ClassFile.FieldType.int)) E2 0) {n cs ss : Nat} {l0 l2 l3 l4 l5 : Slot} {S : List Value} {H : AH} {q : Option ORes → Prop} {v : Value} (hv : isA v = true) (h : Rsq (go n (3, [l0, .val v, l2, l3, l4, l5], (v :: S), H, cs, ss)) q) : Rsq (go (n + 1) (2, [l0, .val v, l2, l3, l4, l5], S, H, cs, ss)) q := by
  subst hgo
  refine res_of s2_2 ?_
  rw [gA_isA (L := [l0, .val v, l2, l3, l4, l5]) (k := 1) (v := v) rfl hv]
  exact h
theorem u2_3 {go : Nat → St → Option ORes} (hgo : go = orun prog_120_method_10_code (Option.some (Jvm.ClassFile.FieldType.array Jvm.ClassFile.FieldType.int)) E2 0) {n cs ss : Nat} {L : List Slot} {S : List Value} {H : AH} : go (n + 1) (3, L, S, H, cs, ss) = pR S fun a r => (arr H a).bind fun q => go n (4, L, .int (ln q.2) :: r, H, cs, ss) := by
  subst hgo
  exact s2_3
theorem t2_4 {go : Nat → St → Option ORes} (hgo : go = orun prog_120_method_10_code (Option.some (Jvm.ClassFile.FieldType.array Jvm.ClassFile.FieldType.int)) E2 0) {n cs ss : Nat} {L : List Slot} {S : List Value} {H : AH} {q : Option ORes → Prop} {x y : Int32} (h : Rsq (go n (5, L, (.int (x + y) :: S), H, cs, ss)) q) : Rsq (go (n + 1) (4, L, (.int y :: .int x :: S), H, cs, ss)) q := by
  subst hgo
  exact res_of s2_4 h
theorem u2_5 {go : Nat → St → Option ORes} (hgo : go = orun prog_120_method_10_code (Option.some (Jvm.ClassFile.FieldType.array Jvm.ClassFile.FieldType.int)) E2 0) {n cs ss : Nat} {L : List Slot} {S : List Value} {H : AH} : go (n + 1) (5, L, S, H, cs, ss) = (aArr .int 1 4 S H cs ss).bind fun r => go n (7, L, r.1, r.2.1, r.2.2.1, r.2.2.2) := by
  subst hgo
  exact s2_5
theorem t2_7 {go : Nat → St → Option ORes} (hgo : go = orun prog_120_method_10_code (Option.some (Jvm.ClassFile.FieldType.array Jvm.ClassFile.FieldType.int)) E2 0) {n cs ss : Nat} {l0 l1 l2 l3 l4 l5 : Slot} {S : List Value} {H : AH} {q : Option ORes → Prop} {v : Value} (hv : isA v = true) (hk : so l2 = true) (h : Rsq (go n (8, [l0, l1, .val v, l3, l4, l5], S, H, cs, ss)) q) : Rsq (go (n + 1) (7, [l0, l1, l2, l3, l4, l5], (v :: S), H, cs, ss)) q := by
  subst hgo
  refine res_of s2_7 ?_
  rw [pA_isA hv, st1_so (L := [l0, l1, l2, l3, l4, l5]) (k := 2) (l := l2) rfl hk]
  exact h
theorem t2_8 {go : Nat → St → Option ORes} (hgo : go = orun prog_120_method_10_code (Option.some (Jvm.ClassFile.FieldType.array Jvm.ClassFile.FieldType.int)) E2 0) {n cs ss : Nat} {L : List Slot} {S : List Value} {H : AH} {q : Option ORes → Prop} (h : Rsq (go n (9, L, (.int 0 :: S), H, cs, ss)) q) : Rsq (go (n + 1) (8, L, S, H, cs, ss)) q := by
  subst hgo
  exact res_of s2_8 h
theorem t2_9 {go : Nat → St → Option ORes} (hgo : go = orun prog_120_method_10_code (Option.some (Jvm.ClassFile.FieldType.array Jvm.ClassFile.FieldType.int)) E2 0) {n cs ss : Nat} {l0 l1 l2 l3 l4 l5 : Slot} {S : List Value} {H : AH} {q : Option ORes → Prop} {x : Int32} (hk : so l3 = true) (h : Rsq (go n (10, [l0, l1, l2, .val (.int x), l4, l5], S, H, cs, ss)) q) : Rsq (go (n + 1) (9, [l0, l1, l2, l3, l4, l5], (.int x :: S), H, cs, ss)) q := by
  subst hgo
  refine res_of s2_9 ?_
  rw [pI_int, st1_so (L := [l0, l1, l2, l3, l4, l5]) (k := 3) (l := l3) rfl hk]
  exact h
theorem t2_10 {go : Nat → St → Option ORes} (hgo : go = orun prog_120_method_10_code (Option.some (Jvm.ClassFile.FieldType.array Jvm.ClassFile.FieldType.int)) E2 0) {n cs ss : Nat} {L : List Slot} {S : List Value} {H : AH} {q : Option ORes → Prop} (h : Rsq (go n (11, L, (.int 0 :: S), H, cs, ss)) q) : Rsq (go (n + 1) (10, L, S, H, cs, ss)) q := by
  subst hgo
  exact res_of s2_10 h
theorem t2_11 {go : Nat → St → Option ORes} (hgo : go = orun prog_120_method_10_code (Option.some (Jvm.ClassFile.FieldType.array Jvm.ClassFile.FieldType.int)) E2 0) {n cs ss : Nat} {l0 l1 l2 l3 l4 l5 : Slot} {S : List Value} {H : AH} {q : Option ORes → Prop} {x : Int32} (hk : so l4 = true) (h : Rsq (go n (13, [l0, l1, l2, l3, .val (.int x), l5], S, H, cs, ss)) q) : Rsq (go (n + 1) (11, [l0, l1, l2, l3, l4, l5], (.int x :: S), H, cs, ss)) q := by
  subst hgo
  refine res_of s2_11 ?_
  rw [pI_int, st1_so (L := [l0, l1, l2, l3, l4, l5]) (k := 4) (l := l4) rfl hk]
  exact h
theorem t2_13 {go : Nat → St → Option ORes} (hgo : go = orun prog_120_method_10_code (Option.some (Jvm.ClassFile.FieldType.array Jvm.ClassFile.FieldType.int)) E2 0) {n cs ss : Nat} {L : List Slot} {S : List Value} {H : AH} {q : Option ORes → Prop} (h : Rsq (go n (14, L, (.int 0 :: S), H, cs, ss)) q) : Rsq (go (n + 1) (13, L, S, H, cs, ss)) q := by
  subst hgo
  exact res_of s2_13 h
theorem t2_14 {go : Nat → St → Option ORes} (hgo : go = orun prog_120_method_10_code (Option.some (Jvm.ClassFile.FieldType.array Jvm.ClassFile.FieldType.int)) E2 0) {n cs ss : Nat} {l0 l1 l2 l3 l4 l5 : Slot} {S : List Value} {H : AH} {q : Option ORes → Prop} {x : Int32} (hk : so l5 = true) (h : Rsq (go n (16, [l0, l1, l2, l3, l4, .val (.int x)], S, H, cs, ss)) q) : Rsq (go (n + 1) (14, [l0, l1, l2, l3, l4, l5], (.int x :: S), H, cs, ss)) q := by
  subst hgo
  refine res_of s2_14 ?_
  rw [pI_int, st1_so (L := [l0, l1, l2, l3, l4, l5]) (k := 5) (l := l5) rfl hk]
  exact h
theorem t2_16 {go : Nat → St → Option ORes} (hgo : go = orun prog_120_method_10_code (Option.some (Jvm.ClassFile.FieldType.array Jvm.ClassFile.FieldType.int)) E2 0) {n cs ss : Nat} {l0 l1 l2 l3 l4 : Slot} {S : List Value} {H : AH} {q : Option ORes → Prop} {v : Int32} (h : Rsq (go n (18, [l0, l1, l2, l3, l4, .val (.int v)], (.int v :: S), H, cs, ss)) q) : Rsq (go (n + 1) (16, [l0, l1, l2, l3, l4, .val (.int v)], S, H, cs, ss)) q := by
  subst hgo
  exact res_of s2_16 h
theorem t2_18 {go : Nat → St → Option ORes} (hgo : go = orun prog_120_method_10_code (Option.some (Jvm.ClassFile.FieldType.array Jvm.ClassFile.FieldType.int)) E2 0) {n cs ss : Nat} {l0 l1 l3 l4 l5 : Slot} {S : List Value} {H : AH} {q : Option ORes → Prop} {v : Value} (hv : isA v = true) (h : Rsq (go n (19, [l0, l1, .val v, l3, l4, l5], (v :: S), H, cs, ss)) q) : Rsq (go (n + 1) (18, [l0, l1, .val v, l3, l4, l5], S, H, cs, ss)) q := by
  subst hgo
  refine res_of s2_18 ?_
  rw [gA_isA (L := [l0, l1, .val v, l3, l4, l5]) (k := 2) (v := v) rfl hv]
  exact h
theorem u2_19 {go : Nat → St → Option ORes} (hgo : go = orun prog_120_method_10_code (Option.some (Jvm.ClassFile.FieldType.array Jvm.ClassFile.FieldType.int)) E2 0) {n cs ss : Nat} {L : List Slot} {S : List Value} {H : AH} : go (n + 1) (19, L, S, H, cs, ss) = pR S fun a r => (arr H a).bind fun q => go n (20, L, .int (ln q.2) :: r, H, cs, ss) := by
  subst hgo
  exact s2_19
theorem t2_20t {go : Nat → St → Option ORes} (hgo : go = orun prog_120_method_10_code (Option.some (Jvm.ClassFile.FieldType.array Jvm.ClassFile.FieldType.int)) E2 0) {n cs ss : Nat} {L : List Slot} {S : List Value} {H : AH} {q : Option ORes → Prop} {x y : Int32} (hc : x < y) (h : Rsq (go n (23, L, S, H, cs, ss)) q) : Rsq (go (n + 1) (20, L, (.int y :: .int x :: S), H, cs, ss)) q := by
  subst hgo
  exact res_of s2_20 (res_t hc h)
theorem t2_20f {go : Nat → St → Option ORes} (hgo : go = orun prog_120_method_10_code (Option.some (Jvm.ClassFile.FieldType.array Jvm.ClassFile.FieldType.int)) E2 0) {n cs ss : Nat} {L : List Slot} {S : List Value} {H : AH} {q : Option ORes → Prop} {x y : Int32} (hc : ¬ x < y) (h : Rsq (go n (76, L, S, H, cs, ss)) q) : Rsq (go (n + 1) (20, L, (.int y :: .int x :: S), H, cs, ss)) q := by
  subst hgo
  exact res_of s2_20 (res_f hc h)
theorem t2_23 {go : Nat → St → Option ORes} (hgo : go = orun prog_120_method_10_code (Option.some (Jvm.ClassFile.FieldType.array Jvm.ClassFile.FieldType.int)) E2 0) {n cs ss : Nat} {l0 l1 l2 l3 l5 : Slot} {S : List Value} {H : AH} {q : Option ORes → Prop} {v : Int32} (h : Rsq (go n (25, [l0, l1, l2, l3, .val (.int v), l5], (.int v :: S), H, cs, ss)) q) : Rsq (go (n + 1) (23, [l0, l1, l2, l3, .val (.int v), l5], S, H, cs, ss)) q := by
  subst hgo
  exact res_of s2_23 h
theorem t2_25 {go : Nat → St → Option ORes} (hgo : go = orun prog_120_method_10_code (Option.some (Jvm.ClassFile.FieldType.array Jvm.ClassFile.FieldType.int)) E2 0) {n cs ss : Nat} {l0 l2 l3 l4 l5 : Slot} {S : List Value} {H : AH} {q : Option ORes → Prop} {v : Value} (hv : isA v = true) (h : Rsq (go n (26, [l0, .val v, l2, l3, l4, l5], (v :: S), H, cs, ss)) q) : Rsq (go (n + 1) (25, [l0, .val v, l2, l3, l4, l5], S, H, cs, ss)) q := by
  subst hgo
  refine res_of s2_25 ?_
  rw [gA_isA (L := [l0, .val v, l2, l3, l4, l5]) (k := 1) (v := v) rfl hv]
  exact h
theorem u2_26 {go : Nat → St → Option ORes} (hgo : go = orun prog_120_method_10_code (Option.some (Jvm.ClassFile.FieldType.array Jvm.ClassFile.FieldType.int)) E2 0) {n cs ss : Nat} {L : List Slot} {S : List Value} {H : AH} : go (n + 1) (26, L, S, H, cs, ss) = pR S fun a r => (arr H a).bind fun q => go n (27, L, .int (ln q.2) :: r, H, cs, ss) := by
  subst hgo
  exact s2_26
theorem t2_27t {go : Nat → St → Option ORes} (hgo : go = orun prog_120_method_10_code (Option.some (Jvm.ClassFile.FieldType.array Jvm.ClassFile.FieldType.int)) E2 0) {n cs ss : Nat} {L : List Slot} {S : List Value} {H : AH} {q : Option ORes → Prop} {x y : Int32} (hc : x = y) (h : Rsq (go n (46, L, S, H, cs, ss)) q) : Rsq (go (n + 1) (27, L, (.int y :: .int x :: S), H, cs, ss)) q := by
  subst hgo
  exact res_of s2_27 (res_t hc h)
theorem t2_27f {go : Nat → St → Option ORes} (hgo : go = orun prog_120_method_10_code (Option.some (Jvm.ClassFile.FieldType.array Jvm.ClassFile.FieldType.int)) E2 0) {n cs ss : Nat} {L : List Slot} {S : List Value} {H : AH} {q : Option ORes → Prop} {x y : Int32} (hc : ¬ x = y) (h : Rsq (go n (30, L, S, H, cs, ss)) q) : Rsq (go (n + 1) (27, L, (.int y :: .int x :: S), H, cs, ss)) q := by
  subst hgo
  exact res_of s2_27 (res_f hc h)
theorem t2_30 {go : Nat → St → Option ORes} (hgo : go = orun prog_120_method_10_code (Option.some (Jvm.ClassFile.FieldType.array Jvm.ClassFile.FieldType.int)) E2 0) {n cs ss : Nat} {l0 l1 l2 l4 l5 : Slot} {S : List Value} {H : AH} {q : Option ORes → Prop} {v : Int32} (h : Rsq (go n (31, [l0, l1, l2, .val (.int v), l4, l5], (.int v :: S), H, cs, ss)) q) : Rsq (go (n + 1) (30, [l0, l1, l2, .val (.int v), l4, l5], S, H, cs, ss)) q := by
  subst hgo
  exact res_of s2_30 h
theorem t2_31 {go : Nat → St → Option ORes} (hgo : go = orun prog_120_method_10_code (Option.some (Jvm.ClassFile.FieldType.array Jvm.ClassFile.FieldType.int)) E2 0) {n cs ss : Nat} {l1 l2 l3 l4 l5 : Slot} {S : List Value} {H : AH} {q : Option ORes → Prop} {v : Value} (hv : isA v = true) (h : Rsq (go n (32, [.val v, l1, l2, l3, l4, l5], (v :: S), H, cs, ss)) q) : Rsq (go (n + 1) (31, [.val v, l1, l2, l3, l4, l5], S, H, cs, ss)) q := by
  subst hgo
  refine res_of s2_31 ?_
  rw [gA_isA (L := [.val v, l1, l2, l3, l4, l5]) (k := 0) (v := v) rfl hv]
  exact h
theorem u2_32 {go : Nat → St → Option ORes} (hgo : go = orun prog_120_method_10_code (Option.some (Jvm.ClassFile.FieldType.array Jvm.ClassFile.FieldType.int)) E2 0) {n cs ss : Nat} {L : List Slot} {S : List Value} {H : AH} : go (n + 1) (32, L, S, H, cs, ss) = pR S fun a r => (arr H a).bind fun q => go n (33, L, .int (ln q.2) :: r, H, cs, ss) := by
  subst hgo
  exact s2_32
theorem t2_33t {go : Nat → St → Option ORes} (hgo : go = orun prog_120_method_10_code (Option.some (Jvm.ClassFile.FieldType.array Jvm.ClassFile.FieldType.int)) E2 0) {n cs ss : Nat} {L : List Slot} {S : List Value} {H : AH} {q : Option ORes → Prop} {x y : Int32} (hc : x < y) (h : Rsq (go n (36, L, S, H, cs, ss)) q) : Rsq (go (n + 1) (33, L, (.int y :: .int x :: S), H, cs, ss)) q := by
  subst hgo
  exact res_of s2_33 (res_t hc h)
theorem t2_33f {go : Nat → St → Option ORes} (hgo : go = orun prog_120_method_10_code (Option.some (Jvm.ClassFile.FieldType.array Jvm.ClassFile.FieldType.int)) E2 0) {n cs ss : Nat} {L : List Slot} {S : List Value} {H : AH} {q : Option ORes → Prop} {x y : Int32} (hc : ¬ x < y) (h : Rsq (go n (59, L, S, H, cs, ss)) q) : Rsq (go (n + 1) (33, L, (.int y :: .int x :: S), H, cs, ss)) q := by
  subst hgo
  exact res_of s2_33 (res_f hc h)
theorem t2_36 {go : Nat → St → Option ORes} (hgo : go = orun prog_120_method_10_code (Option.some (Jvm.ClassFile.FieldType.array Jvm.ClassFile.FieldType.int)) E2 0) {n cs ss : Nat} {l1 l2 l3 l4 l5 : Slot} {S : List Value} {H : AH} {q : Option ORes → Prop} {v : Value} (hv : isA v = true) (h : Rsq (go n (37, [.val v, l1, l2, l3, l4, l5], (v :: S), H, cs, ss)) q) : Rsq (go (n + 1) (36, [.val v, l1, l2, l3, l4, l5], S, H, cs, ss)) q := by
  subst hgo
  refine res_of s2_36 ?_
  rw [gA_isA (L := [.val v, l1, l2, l3, l4, l5]) (k := 0) (v := v) rfl hv]
  exact h
theorem t2_37 {go : Nat → St → Option ORes} (hgo : go = orun prog_120_method_10_code (Option.some (Jvm.ClassFile.FieldType.array Jvm.ClassFile.FieldType.int)) E2 0) {n cs ss : Nat} {l0 l1 l2 l4 l5 : Slot} {S : List Value} {H : AH} {q : Option ORes → Prop} {v : Int32} (h : Rsq (go n (38, [l0, l1, l2, .val (.int v), l4, l5], (.int v :: S), H, cs, ss)) q) : Rsq (go (n + 1) (37, [l0, l1, l2, .val (.int v), l4, l5], S, H, cs, ss)) q := by
  subst hgo
  exact res_of s2_37 h
theorem u2_38 {go : Nat → St → Option ORes} (hgo : go = orun prog_120_method_10_code (Option.some (Jvm.ClassFile.FieldType.array Jvm.ClassFile.FieldType.int)) E2 0) {n cs ss : Nat} {L : List Slot} {S : List Value} {H : AH} : go (n + 1) (38, L, S, H, cs, ss) = ex (Option.some (Jvm.ClassFile.FieldType.array Jvm.ClassFile.FieldType.int)) E2 0 (go n) (.iaload) 38 L S H cs ss := by
  subst hgo
  exact s2_38
theorem t2_39 {go : Nat → St → Option ORes} (hgo : go = orun prog_120_method_10_code (Option.some (Jvm.ClassFile.FieldType.array Jvm.ClassFile.FieldType.int)) E2 0) {n cs ss : Nat} {l0 l2 l3 l4 l5 : Slot} {S : List Value} {H : AH} {q : Option ORes → Prop} {v : Value} (hv : isA v = true) (h : Rsq (go n (40, [l0, .val v, l2, l3, l4, l5], (v :: S), H, cs, ss)) q) : Rsq (go (n + 1) (39, [l0, .val v, l2, l3, l4, l5], S, H, cs, ss)) q := by
  subst hgo
  refine res_of s2_39 ?_
  rw [gA_isA (L := [l0, .val v, l2, l3, l4, l5]) (k := 1) (v := v) rfl hv]
  exact h
theorem t2_40 {go : Nat → St → Option ORes} (hgo : go = orun prog_120_method_10_code (Option.some (Jvm.ClassFile.FieldType.array Jvm.ClassFile.FieldType.int)) E2 0) {n cs ss : Nat} {l0 l1 l2 l3 l5 : Slot} {S : List Value} {H : AH} {q : Option ORes → Prop} {v : Int32} (h : Rsq (go n (42, [l0, l1, l2, l3, .val (.int v), l5], (.int v :: S), H, cs, ss)) q) : Rsq (go (n + 1) (40, [l0, l1, l2, l3, .val (.int v), l5], S, H, cs, ss)) q := by
  subst hgo
  exact res_of s2_40 h
theorem u2_42 {go : Nat → St → Option ORes} (hgo : go = orun prog_120_method_10_code (Option.some (Jvm.ClassFile.FieldType.array Jvm.ClassFile.FieldType.int)) E2 0) {n cs ss : Nat} {L : List Slot} {S : List Value} {H : AH} : go (n + 1) (42, L, S, H, cs, ss) = ex (Option.some (Jvm.ClassFile.FieldType.array Jvm.ClassFile.FieldType.int)) E2 0 (go n) (.iaload) 42 L S H cs ss := by
  subst hgo
  exact s2_42
theorem t2_43t {go : Nat → St → Option ORes} (hgo : go = orun prog_120_method_10_code (Option.some (Jvm.ClassFile.FieldType.array Jvm.ClassFile.FieldType.int)) E2 0) {n cs ss : Nat} {L : List Slot} {S : List Value} {H : AH} {q : Option ORes → Prop} {x y : Int32} (hc : x < y) (h : Rsq (go n (46, L, S, H, cs, ss)) q) : Rsq (go (n + 1) (43, L, (.int y :: .int x :: S), H, cs, ss)) q := by
  subst hgo
  exact res_of s2_43 (res_t hc h)
theorem t2_43f {go : Nat → St → Option ORes} (hgo : go = orun prog_120_method_10_code (Option.some (Jvm.ClassFile.FieldType.array Jvm.ClassFile.FieldType.int)) E2 0) {n cs ss : Nat} {L : List Slot} {S : List Value} {H : AH} {q : Option ORes → Prop} {x y : Int32} (hc : ¬ x < y) (h : Rsq (go n (59, L, S, H, cs, ss)) q) : Rsq (go (n + 1) (43, L, (.int y :: .int x :: S), H, cs, ss)) q := by
  subst hgo
  exact res_of s2_43 (res_f hc h)
theorem t2_46 {go : Nat → St → Option ORes} (hgo : go = orun prog_120_method_10_code (Option.some (Jvm.ClassFile.FieldType.array Jvm.ClassFile.FieldType.int)) E2 0) {n cs ss : Nat} {l0 l1 l3 l4 l5 : Slot} {S : List Value} {H : AH} {q : Option ORes → Prop} {v : Value} (hv : isA v = true) (h : Rsq (go n (47, [l0, l1, .val v, l3, l4, l5], (v :: S), H, cs, ss)) q) : Rsq (go (n + 1) (46, [l0, l1, .val v, l3, l4, l5], S, H, cs, ss)) q := by
  subst hgo
  refine res_of s2_46 ?_
  rw [gA_isA (L := [l0, l1, .val v, l3, l4, l5]) (k := 2) (v := v) rfl hv]
  exact h
theorem t2_47 {go : Nat → St → Option ORes} (hgo : go = orun prog_120_method_10_code (Option.some (Jvm.ClassFile.FieldType.array Jvm.ClassFile.FieldType.int)) E2 0) {n cs ss : Nat} {l0 l1 l2 l3 l4 : Slot} {S : List Value} {H : AH} {q : Option ORes → Prop} {v : Int32} (h : Rsq (go n (49, [l0, l1, l2, l3, l4, .val (.int v)], (.int v :: S), H, cs, ss)) q) : Rsq (go (n + 1) (47, [l0, l1, l2, l3, l4, .val (.int v)], S, H, cs, ss)) q := by
  subst hgo
  exact res_of s2_47 h
theorem t2_49 {go : Nat → St → Option ORes} (hgo : go = orun prog_120_method_10_code (Option.some (Jvm.ClassFile.FieldType.array Jvm.ClassFile.FieldType.int)) E2 0) {n cs ss : Nat} {l1 l2 l3 l4 l5 : Slot} {S : List Value} {H : AH} {q : Option ORes → Prop} {v : Value} (hv : isA v = true) (h : Rsq (go n (50, [.val v, l1, l2, l3, l4, l5], (v :: S), H, cs, ss)) q) : Rsq (go (n + 1) (49, [.val v, l1, l2, l3, l4, l5], S, H, cs, ss)) q := by
  subst hgo
  refine res_of s2_49 ?_
  rw [gA_isA (L := [.val v, l1, l2, l3, l4, l5]) (k := 0) (v := v) rfl hv]
  exact h
theorem t2_50 {go : Nat → St → Option ORes} (hgo : go = orun prog_120_method_10_code (Option.some (Jvm.ClassFile.FieldType.array Jvm.ClassFile.FieldType.int)) E2 0) {n cs ss : Nat} {l0 l1 l2 l4 l5 : Slot} {S : List Value} {H : AH} {q : Option ORes → Prop} {v : Int32} (h : Rsq (go n (51, [l0, l1, l2, .val (.int v), l4, l5], (.int v :: S), H, cs, ss)) q) : Rsq (go (n + 1) (50, [l0, l1, l2, .val (.int v), l4, l5], S, H, cs, ss)) q := by
  subst hgo
  exact res_of s2_50 h
theorem u2_51 {go : Nat → St → Option ORes} (hgo : go = orun prog_120_method_10_code (Option.some (Jvm.ClassFile.FieldType.array Jvm.ClassFile.FieldType.int)) E2 0) {n cs ss : Nat} {L : List Slot} {S : List Value} {H : AH} : go (n + 1) (51, L, S, H, cs, ss) = ex (Option.some (Jvm.ClassFile.FieldType.array Jvm.ClassFile.FieldType.int)) E2 0 (go n) (.iaload) 51 L S H cs ss := by
  subst hgo
  exact s2_51
theorem u2_52 {go : Nat → St → Option ORes} (hgo : go = orun prog_120_method_10_code (Option.some (Jvm.ClassFile.FieldType.array Jvm.ClassFile.FieldType.int)) E2 0) {n cs ss : Nat} {L : List Slot} {S : List Value} {H : AH} : go (n + 1) (52, L, S, H, cs, ss) = ex (Option.some (Jvm.ClassFile.FieldType.array Jvm.ClassFile.FieldType.int)) E2 0 (go n) (.iastore) 52 L S H cs ss := by
  subst hgo
  exact s2_52
theorem t2_53 {go : Nat → St → Option ORes} (hgo : go = orun prog_120_method_10_code (Option.some (Jvm.ClassFile.FieldType.array Jvm.ClassFile.FieldType.int)) E2 0) {n cs ss : Nat} {l0 l1 l2 l4 l5 : Slot} {S : List Value} {H : AH} {q : Option ORes → Prop} {v : Int32} (h : Rsq (go n (56, [l0, l1, l2, .val (.int (v + 1)), l4, l5], S, H, cs, ss)) q) : Rsq (go (n + 1) (53, [l0, l1, l2, .val (.int v), l4, l5], S, H, cs, ss)) q := by
  subst hgo
  exact res_of s2_53 h
theorem t2_56 {go : Nat → St → Option ORes} (hgo : go = orun prog_120_method_10_code (Option.some (Jvm.ClassFile.FieldType.array Jvm.ClassFile.FieldType.int)) E2 0) {n cs ss : Nat} {L : List Slot} {S : List Value} {H : AH} {q : Option ORes → Prop} (h : Rsq (go n (70, L, S, H, cs, ss)) q) : Rsq (go (n + 1) (56, L, S, H, cs, ss)) q := by
  subst hgo
  exact res_of s2_56 h
theorem t2_59 {go : Nat → St → Option ORes} (hgo : go = orun prog_120_method_10_code (Option.some (Jvm.ClassFile.FieldType.array Jvm.ClassFile.FieldType.int)) E2 0) {n cs ss : Nat} {l0 l1 l3 l4 l5 : Slot} {S : List Value} {H : AH} {q : Option ORes → Prop} {v : Value} (hv : isA v = true) (h : Rsq (go n (60, [l0, l1, .val v, l3, l4, l5], (v :: S), H, cs, ss)) q) : Rsq (go (n + 1) (59, [l0, l1, .val v, l3, l4, l5], S, H, cs, ss)) q := by
  subst hgo
  refine res_of s2_59 ?_
  rw [gA_isA (L := [l0, l1, .val v, l3, l4, l5]) (k := 2) (v := v) rfl hv]
  exact h
theorem t2_60 {go : Nat → St → Option ORes} (hgo : go = orun prog_120_method_10_code (Option.some (Jvm.ClassFile.FieldType.array Jvm.ClassFile.FieldType.int)) E2 0) {n cs ss : Nat} {l0 l1 l2 l3 l4 : Slot} {S : List Value} {H : AH} {q : Option ORes → Prop} {v : Int32} (h : Rsq (go n (62, [l0, l1, l2, l3, l4, .val (.int v)], (.int v :: S), H, cs, ss)) q) : Rsq (go (n + 1) (60, [l0, l1, l2, l3, l4, .val (.int v)], S, H, cs, ss)) q := by
  subst hgo
  exact res_of s2_60 h
theorem t2_62 {go : Nat → St → Option ORes} (hgo : go = orun prog_120_method_10_code (Option.some (Jvm.ClassFile.FieldType.array Jvm.ClassFile.FieldType.int)) E2 0) {n cs ss : Nat} {l0 l2 l3 l4 l5 : Slot} {S : List Value} {H : AH} {q : Option ORes → Prop} {v : Value} (hv : isA v = true) (h : Rsq (go n (63, [l0, .val v, l2, l3, l4, l5], (v :: S), H, cs, ss)) q) : Rsq (go (n + 1) (62, [l0, .val v, l2, l3, l4, l5], S, H, cs, ss)) q := by
  subst hgo
  refine res_of s2_62 ?_
  rw [gA_isA (L := [l0, .val v, l2, l3, l4, l5]) (k := 1) (v := v) rfl hv]
  exact h
theorem t2_63 {go : Nat → St → Option ORes} (hgo : go = orun prog_120_method_10_code (Option.some (Jvm.ClassFile.FieldType.array Jvm.ClassFile.FieldType.int)) E2 0) {n cs ss : Nat} {l0 l1 l2 l3 l5 : Slot} {S : List Value} {H : AH} {q : Option ORes → Prop} {v : Int32} (h : Rsq (go n (65, [l0, l1, l2, l3, .val (.int v), l5], (.int v :: S), H, cs, ss)) q) : Rsq (go (n + 1) (63, [l0, l1, l2, l3, .val (.int v), l5], S, H, cs, ss)) q := by
  subst hgo
  exact res_of s2_63 h
theorem u2_65 {go : Nat → St → Option ORes} (hgo : go = orun prog_120_method_10_code (Option.some (Jvm.ClassFile.FieldType.array Jvm.ClassFile.FieldType.int)) E2 0) {n cs ss : Nat} {L : List Slot} {S : List Value} {H : AH} : go (n + 1) (65, L, S, H, cs, ss) = ex (Option.some (Jvm.ClassFile.FieldType.array Jvm.ClassFile.FieldType.int)) E2 0 (go n) (.iaload) 65 L S H cs ss := by
  subst hgo
  exact s2_65
theorem u2_66 {go : Nat → St → Option ORes} (hgo : go = orun prog_120_method_10_code (Option.some (Jvm.ClassFile.FieldType.array Jvm.ClassFile.FieldType.int)) E2 0) {n cs ss : Nat} {L : List Slot} {S : List Value} {H : AH} : go (n + 1) (66, L, S, H, cs, ss) = ex (Option.some (Jvm.ClassFile.FieldType.array Jvm.ClassFile.FieldType.int)) E2 0 (go n) (.iastore) 66 L S H cs ss := by
  subst hgo
  exact s2_66
theorem t2_67 {go : Nat → St → Option ORes} (hgo : go = orun prog_120_method_10_code (Option.some (Jvm.ClassFile.FieldType.array Jvm.ClassFile.FieldType.int)) E2 0) {n cs ss : Nat} {l0 l1 l2 l3 l5 : Slot} {S : List Value} {H : AH} {q : Option ORes → Prop} {v : Int32} (h : Rsq (go n (70, [l0, l1, l2, l3, .val (.int (v + 1)), l5], S, H, cs, ss)) q) : Rsq (go (n + 1) (67, [l0, l1, l2, l3, .val (.int v), l5], S, H, cs, ss)) q := by
  subst hgo
  exact res_of s2_67 h
theorem t2_70 {go : Nat → St → Option ORes} (hgo : go = orun prog_120_method_10_code (Option.some (Jvm.ClassFile.FieldType.array Jvm.ClassFile.FieldType.int)) E2 0) {n cs ss : Nat} {l0 l1 l2 l3 l4 : Slot} {S : List Value} {H : AH} {q : Option ORes → Prop} {v : Int32} (h : Rsq (go n (73, [l0, l1, l2, l3, l4, .val (.int (v + 1))], S, H, cs, ss)) q) : Rsq (go (n + 1) (70, [l0, l1, l2, l3, l4, .val (.int v)], S, H, cs, ss)) q := by
  subst hgo
  exact res_of s2_70 h
theorem t2_73 {go : Nat → St → Option ORes} (hgo : go = orun prog_120_method_10_code (Option.some (Jvm.ClassFile.FieldType.array Jvm.ClassFile.FieldType.int)) E2 0) {n cs ss : Nat} {L : List Slot} {S : List Value} {H : AH} {q : Option ORes → Prop} (h : Rsq (go n (16, L, S, H, cs, ss)) q) : Rsq (go (n + 1) (73, L, S, H, cs, ss)) q := by
  subst hgo
  exact res_of s2_73 h
theorem t2_76 {go : Nat → St → Option ORes} (hgo : go = orun prog_120_method_10_code (Option.some (Jvm.ClassFile.FieldType.array Jvm.ClassFile.FieldType.int)) E2 0) {n cs ss : Nat} {l0 l1 l3 l4 l5 : Slot} {S : List Value} {H : AH} {q : Option ORes → Prop} {v : Value} (hv : isA v = true) (h : Rsq (go n (77, [l0, l1, .val v, l3, l4, l5], (v :: S), H, cs, ss)) q) : Rsq (go (n + 1) (76, [l0, l1, .val v, l3, l4, l5], S, H, cs, ss)) q := by
  subst hgo
  refine res_of s2_76 ?_
  rw [gA_isA (L := [l0, l1, .val v, l3, l4, l5]) (k := 2) (v := v) rfl hv]
  exact h
theorem t2_77 {go : Nat → St → Option ORes} (hgo : go = orun prog_120_method_10_code (Option.some (Jvm.ClassFile.FieldType.array Jvm.ClassFile.FieldType.int)) E2 0) {n cs ss : Nat} {L : List Slot} {S : List Value} {H : AH} {q : Option ORes → Prop} {z : Value} (hv : isA z = true) (h : q (some (some z, H))) : Rsq (go (n + 1) (77, L, (z :: S), H, cs, ss)) q := by
  subst hgo
  refine res_of s2_77 ?_
  rw [pA_isA hv]
  exact h
theorem f0_in {x0 : Int32} {x1 : Int32} {x2 : Int32} {x3 : Int32} {x4 : Int32} {H : AH} : F0 [.int x0, .int x1, .int x2, .int x3, .int x4] H = orun code ret E0 0 560 (0, [.val (.int x0), .val (.int x1), .val (.int x2), .val (.int x3), .val (.int x4), .unset, .unset, .unset, .unset, .unset, .unset, .unset, .unset, .unset, .unset, .unset, .unset, .unset, .unset, .unset, .unset, .unset, .unset, .unset, .unset, .unset, .unset, .unset, .unset, .unset], [], H, 0, 0) := rfl
theorem s0_0 {n cs ss : Nat} {L : List Slot} {S : List Value} {H : AH} : orun code ret E0 0 (n + 1) (0, L, S, H, cs, ss) = (gI L 4).bind fun v => orun code ret E0 0 n (2, L, .int v :: S, H, cs, ss) := s_any k0_0
theorem s0_2 {n cs ss : Nat} {L : List Slot} {S : List Value} {H : AH} : orun code ret E0 0 (n + 1) (2, L, S, H, cs, ss) = orun code ret E0 0 n (5, L, (.int 255 :: S), H, cs, ss) := s_any k0_2
theorem s0_5 {n cs ss : Nat} {L : List Slot} {S : List Value} {H : AH} : orun code ret E0 0 (n + 1) (5, L, S, H, cs, ss) = pI S fun y S => pI S fun x r => orun code ret E0 0 n (6, L, .int (x &&& y) :: r, H, cs, ss) := s_any k0_5
theorem s0_6 {n cs ss : Nat} {L : List Slot} {S : List Value} {H : AH} : orun code ret E0 0 (n + 1) (6, L, S, H, cs, ss) = orun code ret E0 0 n (7, L, (.int 5 :: S), H, cs, ss) := s_any k0_6
theorem s0_7 {n cs ss : Nat} {L : List Slot} {S : List Value} {H : AH} : orun code ret E0 0 (n + 1) (7, L, S, H, cs, ss) = ex ret E0 0 (orun code ret E0 0 n) (.irem) 7 L S H cs ss := s_any k0_7
theorem s0_8 {n cs ss : Nat} {L : List Slot} {S : List Value} {H : AH} : orun code ret E0 0 (n + 1) (8, L, S, H, cs, ss) = pI S fun x r => (st1 L 5 (.int x)).bind fun L' => orun code ret E0 0 n (10, L', r, H, cs, ss) := s_any k0_8
theorem s0_10 {n cs ss : Nat} {L : List Slot} {S : List Value} {H : AH} : orun code ret E0 0 (n + 1) (10, L, S, H, cs, ss) = (gI L 4).bind fun v => orun code ret E0 0 n (12, L, .int v :: S, H, cs, ss) := s_any k0_10
theorem s0_12 {n cs ss : Nat} {L : List Slot} {S : List Value} {H : AH} : orun code ret E0 0 (n + 1) (12, L, S, H, cs, ss) = orun code ret E0 0 n (14, L, (.int 8 :: S), H, cs, ss) := s_any k0_12
theorem s0_14 {n cs ss : Nat} {L : List Slot} {S : List Value} {H : AH} : orun code ret E0 0 (n + 1) (14, L, S, H, cs, ss) = ex ret E0 0 (orun code ret E0 0 n) (.iushr) 14 L S H cs ss := s_any k0_14
theorem s0_15 {n cs ss : Nat} {L : List Slot} {S : List Value} {H : AH} : orun code ret E0 0 (n + 1) (15, L, S, H, cs, ss) = pI S fun x r => (st1 L 6 (.int x)).bind fun L' => orun code ret E0 0 n (17, L', r, H, cs, ss) := s_any k0_15
theorem s0_17 {n cs ss : Nat} {L : List Slot} {S : List Value} {H : AH} : orun code ret E0 0 (n + 1) (17, L, S, H, cs, ss) = orun code ret E0 0 n (18, L, (.long 1 :: S), H, cs, ss) := s_any k0_17
theorem s0_18 {n cs ss : Nat} {L : List Slot} {S : List Value} {H : AH} : orun code ret E0 0 (n + 1) (18, L, S, H, cs, ss) = (gI L 1).bind fun v => orun code ret E0 0 n (19, L, .int v :: S, H, cs, ss) := s_any k0_18
theorem s0_19 {n cs ss : Nat} {L : List Slot} {S : List Value} {H : AH} : orun code ret E0 0 (n + 1) (19, L, S, H, cs, ss) = (aI (1073741823) S H cs ss).bind fun r => orun code ret E0 0 n (21, L, r.1, r.2.1, r.2.2.1, r.2.2.2) := s_any k0_19
theorem s0_21 {n cs ss : Nat} {L : List Slot} {S : List Value} {H : AH} : orun code ret E0 0 (n + 1) (21, L, S, H, cs, ss) = pI S fun y S => pI S fun x r => orun code ret E0 0 n (22, L, .int (x &&& y) :: r, H, cs, ss) := s_any k0_21
theorem s0_22 {n cs ss : Nat} {L : List Slot} {S : List Value} {H : AH} : orun code ret E0 0 (n + 1) (22, L, S, H, cs, ss) = ex ret E0 0 (orun code ret E0 0 n) (.i2l) 22 L S H cs ss := s_any k0_22
theorem s0_23 {n cs ss : Nat} {L : List Slot} {S : List Value} {H : AH} : orun code ret E0 0 (n + 1) (23, L, S, H, cs, ss) = pL S fun y S => pL S fun x r => orun code ret E0 0 n (24, L, .long (x + y) :: r, H, cs, ss) := s_any k0_23
theorem s0_24 {n cs ss : Nat} {L : List Slot} {S : List Value} {H : AH} : orun code ret E0 0 (n + 1) (24, L, S, H, cs, ss) = pL S fun x r => (st2 L 7 x).bind fun L' => orun code ret E0 0 n (26, L', r, H, cs, ss) := s_any k0_24
theorem s0_26 {n cs ss : Nat} {L : List Slot} {S : List Value} {H : AH} : orun code ret E0 0 (n + 1) (26, L, S, H, cs, ss) = orun code ret E0 0 n (27, L, (.long 1 :: S), H, cs, ss) := s_any k0_26
theorem s0_27 {n cs ss : Nat} {L : List Slot} {S : List Value} {H : AH} : orun code ret E0 0 (n + 1) (27, L, S, H, cs, ss) = (gI L 2).bind fun v => orun code ret E0 0 n (28, L, .int v :: S, H, cs, ss) := s_any k0_27
theorem s0_28 {n cs ss : Nat} {L : List Slot} {S : List Value} {H : AH} : orun code ret E0 0 (n + 1) (28, L, S, H, cs, ss) = (aI (1073741823) S H cs ss).bind fun r => orun code ret E0 0 n (30, L, r.1, r.2.1, r.2.2.1, r.2.2.2) := s_any k0_28
theorem s0_30 {n cs ss : Nat} {L : List Slot} {S : List Value} {H : AH} : orun code ret E0 0 (n + 1) (30, L, S, H, cs, ss) = pI S fun y S => pI S fun x r => orun code ret E0 0 n (31, L, .int (x &&& y) :: r, H, cs, ss) := s_any k0_30
theorem s0_31 {n cs ss : Nat} {L : List Slot} {S : List Value} {H : AH} : orun code ret E0 0 (n + 1) (31, L, S, H, cs, ss) = ex ret E0 0 (orun code ret E0 0 n) (.i2l) 31 L S H cs ss := s_any k0_31
theorem s0_32 {n cs ss : Nat} {L : List Slot} {S : List Value} {H : AH} : orun code ret E0 0 (n + 1) (32, L, S, H, cs, ss) = pL S fun y S => pL S fun x r => orun code ret E0 0 n (33, L, .long (x + y) :: r, H, cs, ss) := s_any k0_32
theorem s0_33 {n cs ss : Nat} {L : List Slot} {S : List Value} {H : AH} : orun code ret E0 0 (n + 1) (33, L, S, H, cs, ss) = pL S fun x r => (st2 L 9 x).bind fun L' => orun code ret E0 0 n (35, L', r, H, cs, ss) := s_any k0_33
theorem s0_35 {n cs ss : Nat} {L : List Slot} {S : List Value} {H : AH} : orun code ret E0 0 (n + 1) (35, L, S, H, cs, ss) = orun code ret E0 0 n (36, L, (.long 1 :: S), H, cs, ss) := s_any k0_35
theorem s0_36 {n cs ss : Nat} {L : List Slot} {S : List Value} {H : AH} : orun code ret E0 0 (n + 1) (36, L, S, H, cs, ss) = (gI L 3).bind fun v => orun code ret E0 0 n (37, L, .int v :: S, H, cs, ss) := s_any k0_36
theorem s0_37 {n cs ss : Nat} {L : List Slot} {S : List Value} {H : AH} : orun code ret E0 0 (n + 1) (37, L, S, H, cs, ss) = (aI (1073741823) S H cs ss).bind fun r => orun code ret E0 0 n (39, L, r.1, r.2.1, r.2.2.1, r.2.2.2) := s_any k0_37
theorem s0_39 {n cs ss : Nat} {L : List Slot} {S : List Value} {H : AH} : orun code ret E0 0 (n + 1) (39, L, S, H, cs, ss) = pI S fun y S => pI S fun x r => orun code ret E0 0 n (40, L, .int (x &&& y) :: r, H, cs, ss) := s_any k0_39
theorem s0_40 {n cs ss : Nat} {L : List Slot} {S : List Value} {H : AH} : orun code ret E0 0 (n + 1) (40, L, S, H, cs, ss) = ex ret E0 0 (orun code ret E0 0 n) (.i2l) 40 L S H cs ss := s_any k0_40
theorem s0_41 {n cs ss : Nat} {L : List Slot} {S : List Value} {H : AH} : orun code ret E0 0 (n + 1) (41, L, S, H, cs, ss) = pL S fun y S => pL S fun x r => orun code ret E0 0 n (42, L, .long (x + y) :: r, H, cs, ss) := s_any k0_41
theorem s0_42 {n cs ss : Nat} {L : List Slot} {S : List Value} {H : AH} : orun code ret E0 0 (n + 1) (42, L, S, H, cs, ss) = pL S fun x r => (st2 L 11 x).bind fun L' => orun code ret E0 0 n (44, L', r, H, cs, ss) := s_any k0_42
theorem s0_44 {n cs ss : Nat} {L : List Slot} {S : List Value} {H : AH} : orun code ret E0 0 (n + 1) (44, L, S, H, cs, ss) = (gI L 0).bind fun v => orun code ret E0 0 n (45, L, .int v :: S, H, cs, ss) := s_any k0_44
theorem s0_45 {n cs ss : Nat} {L : List Slot} {S : List Value} {H : AH} : orun code ret E0 0 (n + 1) (45, L, S, H, cs, ss) = ex ret E0 0 (orun code ret E0 0 n) (.i2l) 45 L S H cs ss := s_any k0_45
theorem s0_46 {n cs ss : Nat} {L : List Slot} {S : List Value} {H : AH} : orun code ret E0 0 (n + 1) (46, L, S, H, cs, ss) = (aJ (2147483647) S H cs ss).bind fun r => orun code ret E0 0 n (49, L, r.1, r.2.1, r.2.2.1, r.2.2.2) := s_any k0_46
theorem s0_49 {n cs ss : Nat} {L : List Slot} {S : List Value} {H : AH} : orun code ret E0 0 (n + 1) (49, L, S, H, cs, ss) = (gL L 7).bind fun v => orun code ret E0 0 n (51, L, .long v :: S, H, cs, ss) := s_any k0_49
theorem s0_51 {n cs ss : Nat} {L : List Slot} {S : List Value} {H : AH} : orun code ret E0 0 (n + 1) (51, L, S, H, cs, ss) = pL S fun y S => pL S fun x r => orun code ret E0 0 n (52, L, .long (x - y) :: r, H, cs, ss) := s_any k0_51
theorem s0_52 {n cs ss : Nat} {L : List Slot} {S : List Value} {H : AH} : orun code ret E0 0 (n + 1) (52, L, S, H, cs, ss) = (gL L 9).bind fun v => orun code ret E0 0 n (54, L, .long v :: S, H, cs, ss) := s_any k0_52
theorem s0_54 {n cs ss : Nat} {L : List Slot} {S : List Value} {H : AH} : orun code ret E0 0 (n + 1) (54, L, S, H, cs, ss) = pL S fun y S => pL S fun x r => orun code ret E0 0 n (55, L, .long (x - y) :: r, H, cs, ss) := s_any k0_54
theorem s0_55 {n cs ss : Nat} {L : List Slot} {S : List Value} {H : AH} : orun code ret E0 0 (n + 1) (55, L, S, H, cs, ss) = (gL L 11).bind fun v => orun code ret E0 0 n (57, L, .long v :: S, H, cs, ss) := s_any k0_55
theorem s0_57 {n cs ss : Nat} {L : List Slot} {S : List Value} {H : AH} : orun code ret E0 0 (n + 1) (57, L, S, H, cs, ss) = pL S fun y S => pL S fun x r => orun code ret E0 0 n (58, L, .long (x - y) :: r, H, cs, ss) := s_any k0_57
theorem s0_58 {n cs ss : Nat} {L : List Slot} {S : List Value} {H : AH} : orun code ret E0 0 (n + 1) (58, L, S, H, cs, ss) = (aCall 2 6 16 128 0 0 F1 S H cs ss).bind fun r => orun code ret E0 0 n (61, L, r.1, r.2.1, r.2.2.1, r.2.2.2) := s_any k0_58
theorem s0_61 {n cs ss : Nat} {L : List Slot} {S : List Value} {H : AH} : orun code ret E0 0 (n + 1) (61, L, S, H, cs, ss) = pL S fun x r => (st2 L 13 x).bind fun L' => orun code ret E0 0 n (63, L', r, H, cs, ss) := s_any k0_61
theorem s0_63 {n cs ss : Nat} {L : List Slot} {S : List Value} {H : AH} : orun code ret E0 0 (n + 1) (63, L, S, H, cs, ss) = (gL L 13).bind fun v => orun code ret E0 0 n (65, L, .long v :: S, H, cs, ss) := s_any k0_63
theorem s0_65 {n cs ss : Nat} {L : List Slot} {S : List Value} {H : AH} : orun code ret E0 0 (n + 1) (65, L, S, H, cs, ss) = ex ret E0 0 (orun code ret E0 0 n) (.l2i) 65 L S H cs ss := s_any k0_65
theorem s0_66 {n cs ss : Nat} {L : List Slot} {S : List Value} {H : AH} : orun code ret E0 0 (n + 1) (66, L, S, H, cs, ss) = pI S fun x r => (st1 L 15 (.int x)).bind fun L' => orun code ret E0 0 n (68, L', r, H, cs, ss) := s_any k0_66
theorem s0_68 {n cs ss : Nat} {L : List Slot} {S : List Value} {H : AH} : orun code ret E0 0 (n + 1) (68, L, S, H, cs, ss) = (gL L 13).bind fun v => orun code ret E0 0 n (70, L, .long v :: S, H, cs, ss) := s_any k0_68
theorem s0_70 {n cs ss : Nat} {L : List Slot} {S : List Value} {H : AH} : orun code ret E0 0 (n + 1) (70, L, S, H, cs, ss) = (gL L 7).bind fun v => orun code ret E0 0 n (72, L, .long v :: S, H, cs, ss) := s_any k0_70
theorem s0_72 {n cs ss : Nat} {L : List Slot} {S : List Value} {H : AH} : orun code ret E0 0 (n + 1) (72, L, S, H, cs, ss) = pL S fun y S => pL S fun x r => orun code ret E0 0 n (73, L, .long (x + y) :: r, H, cs, ss) := s_any k0_72
theorem s0_73 {n cs ss : Nat} {L : List Slot} {S : List Value} {H : AH} : orun code ret E0 0 (n + 1) (73, L, S, H, cs, ss) = ex ret E0 0 (orun code ret E0 0 n) (.l2i) 73 L S H cs ss := s_any k0_73
theorem s0_74 {n cs ss : Nat} {L : List Slot} {S : List Value} {H : AH} : orun code ret E0 0 (n + 1) (74, L, S, H, cs, ss) = pI S fun x r => (st1 L 16 (.int x)).bind fun L' => orun code ret E0 0 n (76, L', r, H, cs, ss) := s_any k0_74
theorem s0_76 {n cs ss : Nat} {L : List Slot} {S : List Value} {H : AH} : orun code ret E0 0 (n + 1) (76, L, S, H, cs, ss) = (gL L 13).bind fun v => orun code ret E0 0 n (78, L, .long v :: S, H, cs, ss) := s_any k0_76
theorem s0_78 {n cs ss : Nat} {L : List Slot} {S : List Value} {H : AH} : orun code ret E0 0 (n + 1) (78, L, S, H, cs, ss) = (gL L 7).bind fun v => orun code ret E0 0 n (80, L, .long v :: S, H, cs, ss) := s_any k0_78
theorem s0_80 {n cs ss : Nat} {L : List Slot} {S : List Value} {H : AH} : orun code ret E0 0 (n + 1) (80, L, S, H, cs, ss) = pL S fun y S => pL S fun x r => orun code ret E0 0 n (81, L, .long (x + y) :: r, H, cs, ss) := s_any k0_80
theorem s0_81 {n cs ss : Nat} {L : List Slot} {S : List Value} {H : AH} : orun code ret E0 0 (n + 1) (81, L, S, H, cs, ss) = (gL L 9).bind fun v => orun code ret E0 0 n (83, L, .long v :: S, H, cs, ss) := s_any k0_81
theorem s0_83 {n cs ss : Nat} {L : List Slot} {S : List Value} {H : AH} : orun code ret E0 0 (n + 1) (83, L, S, H, cs, ss) = pL S fun y S => pL S fun x r => orun code ret E0 0 n (84, L, .long (x + y) :: r, H, cs, ss) := s_any k0_83
theorem s0_84 {n cs ss : Nat} {L : List Slot} {S : List Value} {H : AH} : orun code ret E0 0 (n + 1) (84, L, S, H, cs, ss) = ex ret E0 0 (orun code ret E0 0 n) (.l2i) 84 L S H cs ss := s_any k0_84
theorem s0_85 {n cs ss : Nat} {L : List Slot} {S : List Value} {H : AH} : orun code ret E0 0 (n + 1) (85, L, S, H, cs, ss) = pI S fun x r => (st1 L 17 (.int x)).bind fun L' => orun code ret E0 0 n (87, L', r, H, cs, ss) := s_any k0_85
theorem s0_87 {n cs ss : Nat} {L : List Slot} {S : List Value} {H : AH} : orun code ret E0 0 (n + 1) (87, L, S, H, cs, ss) = (gL L 13).bind fun v => orun code ret E0 0 n (89, L, .long v :: S, H, cs, ss) := s_any k0_87
theorem s0_89 {n cs ss : Nat} {L : List Slot} {S : List Value} {H : AH} : orun code ret E0 0 (n + 1) (89, L, S, H, cs, ss) = (gL L 7).bind fun v => orun code ret E0 0 n (91, L, .long v :: S, H, cs, ss) := s_any k0_89
theorem s0_91 {n cs ss : Nat} {L : List Slot} {S : List Value} {H : AH} : orun code ret E0 0 (n + 1) (91, L, S, H, cs, ss) = pL S fun y S => pL S fun x r => orun code ret E0 0 n (92, L, .long (x + y) :: r, H, cs, ss) := s_any k0_91
theorem s0_92 {n cs ss : Nat} {L : List Slot} {S : List Value} {H : AH} : orun code ret E0 0 (n + 1) (92, L, S, H, cs, ss) = (gL L 9).bind fun v => orun code ret E0 0 n (94, L, .long v :: S, H, cs, ss) := s_any k0_92
theorem s0_94 {n cs ss : Nat} {L : List Slot} {S : List Value} {H : AH} : orun code ret E0 0 (n + 1) (94, L, S, H, cs, ss) = pL S fun y S => pL S fun x r => orun code ret E0 0 n (95, L, .long (x + y) :: r, H, cs, ss) := s_any k0_94
theorem s0_95 {n cs ss : Nat} {L : List Slot} {S : List Value} {H : AH} : orun code ret E0 0 (n + 1) (95, L, S, H, cs, ss) = (gL L 11).bind fun v => orun code ret E0 0 n (97, L, .long v :: S, H, cs, ss) := s_any k0_95
theorem s0_97 {n cs ss : Nat} {L : List Slot} {S : List Value} {H : AH} : orun code ret E0 0 (n + 1) (97, L, S, H, cs, ss) = pL S fun y S => pL S fun x r => orun code ret E0 0 n (98, L, .long (x + y) :: r, H, cs, ss) := s_any k0_97
theorem s0_98 {n cs ss : Nat} {L : List Slot} {S : List Value} {H : AH} : orun code ret E0 0 (n + 1) (98, L, S, H, cs, ss) = ex ret E0 0 (orun code ret E0 0 n) (.l2i) 98 L S H cs ss := s_any k0_98
theorem s0_99 {n cs ss : Nat} {L : List Slot} {S : List Value} {H : AH} : orun code ret E0 0 (n + 1) (99, L, S, H, cs, ss) = pI S fun x r => (st1 L 18 (.int x)).bind fun L' => orun code ret E0 0 n (101, L', r, H, cs, ss) := s_any k0_99
theorem s0_101 {n cs ss : Nat} {L : List Slot} {S : List Value} {H : AH} : orun code ret E0 0 (n + 1) (101, L, S, H, cs, ss) = (gI L 6).bind fun v => orun code ret E0 0 n (103, L, .int v :: S, H, cs, ss) := s_any k0_101
theorem s0_103 {n cs ss : Nat} {L : List Slot} {S : List Value} {H : AH} : orun code ret E0 0 (n + 1) (103, L, S, H, cs, ss) = orun code ret E0 0 n (104, L, (.int 1 :: S), H, cs, ss) := s_any k0_103
theorem s0_104 {n cs ss : Nat} {L : List Slot} {S : List Value} {H : AH} : orun code ret E0 0 (n + 1) (104, L, S, H, cs, ss) = pI S fun y S => pI S fun x r => orun code ret E0 0 n (105, L, .int (x &&& y) :: r, H, cs, ss) := s_any k0_104
theorem s0_105 {n cs ss : Nat} {L : List Slot} {S : List Value} {H : AH} : orun code ret E0 0 (n + 1) (105, L, S, H, cs, ss) = pI S fun x r => if x = 0 then orun code ret E0 0 n (112, L, r, H, cs, ss) else orun code ret E0 0 n (108, L, r, H, cs, ss) := s_if (Q := fun x => x = 0) (fun _ => z_eq) k0_105 (by decide) (by decide)
theorem s0_108 {n cs ss : Nat} {L : List Slot} {S : List Value} {H : AH} : orun code ret E0 0 (n + 1) (108, L, S, H, cs, ss) = orun code ret E0 0 n (109, L, (.int 1 :: S), H, cs, ss) := s_any k0_108
theorem s0_109 {n cs ss : Nat} {L : List Slot} {S : List Value} {H : AH} : orun code ret E0 0 (n + 1) (109, L, S, H, cs, ss) = orun code ret E0 0 n (113, L, S, H, cs, ss) := s_goto k0_109 (by decide) (by decide)
theorem s0_112 {n cs ss : Nat} {L : List Slot} {S : List Value} {H : AH} : orun code ret E0 0 (n + 1) (112, L, S, H, cs, ss) = orun code ret E0 0 n (113, L, (.int 0 :: S), H, cs, ss) := s_any k0_112
theorem s0_113 {n cs ss : Nat} {L : List Slot} {S : List Value} {H : AH} : orun code ret E0 0 (n + 1) (113, L, S, H, cs, ss) = pI S fun x r => (st1 L 19 (.int x)).bind fun L' => orun code ret E0 0 n (115, L', r, H, cs, ss) := s_any k0_113
theorem s0_115 {n cs ss : Nat} {L : List Slot} {S : List Value} {H : AH} : orun code ret E0 0 (n + 1) (115, L, S, H, cs, ss) = (gI L 6).bind fun v => orun code ret E0 0 n (117, L, .int v :: S, H, cs, ss) := s_any k0_115
theorem s0_117 {n cs ss : Nat} {L : List Slot} {S : List Value} {H : AH} : orun code ret E0 0 (n + 1) (117, L, S, H, cs, ss) = orun code ret E0 0 n (118, L, (.int 2 :: S), H, cs, ss) := s_any k0_117
theorem s0_118 {n cs ss : Nat} {L : List Slot} {S : List Value} {H : AH} : orun code ret E0 0 (n + 1) (118, L, S, H, cs, ss) = pI S fun y S => pI S fun x r => orun code ret E0 0 n (119, L, .int (x &&& y) :: r, H, cs, ss) := s_any k0_118
theorem s0_119 {n cs ss : Nat} {L : List Slot} {S : List Value} {H : AH} : orun code ret E0 0 (n + 1) (119, L, S, H, cs, ss) = pI S fun x r => if x = 0 then orun code ret E0 0 n (126, L, r, H, cs, ss) else orun code ret E0 0 n (122, L, r, H, cs, ss) := s_if (Q := fun x => x = 0) (fun _ => z_eq) k0_119 (by decide) (by decide)
theorem s0_122 {n cs ss : Nat} {L : List Slot} {S : List Value} {H : AH} : orun code ret E0 0 (n + 1) (122, L, S, H, cs, ss) = orun code ret E0 0 n (123, L, (.int 1 :: S), H, cs, ss) := s_any k0_122
theorem s0_123 {n cs ss : Nat} {L : List Slot} {S : List Value} {H : AH} : orun code ret E0 0 (n + 1) (123, L, S, H, cs, ss) = orun code ret E0 0 n (127, L, S, H, cs, ss) := s_goto k0_123 (by decide) (by decide)
theorem s0_126 {n cs ss : Nat} {L : List Slot} {S : List Value} {H : AH} : orun code ret E0 0 (n + 1) (126, L, S, H, cs, ss) = orun code ret E0 0 n (127, L, (.int 0 :: S), H, cs, ss) := s_any k0_126
theorem s0_127 {n cs ss : Nat} {L : List Slot} {S : List Value} {H : AH} : orun code ret E0 0 (n + 1) (127, L, S, H, cs, ss) = pI S fun x r => (st1 L 20 (.int x)).bind fun L' => orun code ret E0 0 n (129, L', r, H, cs, ss) := s_any k0_127
theorem s0_129 {n cs ss : Nat} {L : List Slot} {S : List Value} {H : AH} : orun code ret E0 0 (n + 1) (129, L, S, H, cs, ss) = (gI L 6).bind fun v => orun code ret E0 0 n (131, L, .int v :: S, H, cs, ss) := s_any k0_129
theorem s0_131 {n cs ss : Nat} {L : List Slot} {S : List Value} {H : AH} : orun code ret E0 0 (n + 1) (131, L, S, H, cs, ss) = orun code ret E0 0 n (132, L, (.int 4 :: S), H, cs, ss) := s_any k0_131
theorem s0_132 {n cs ss : Nat} {L : List Slot} {S : List Value} {H : AH} : orun code ret E0 0 (n + 1) (132, L, S, H, cs, ss) = pI S fun y S => pI S fun x r => orun code ret E0 0 n (133, L, .int (x &&& y) :: r, H, cs, ss) := s_any k0_132
theorem s0_133 {n cs ss : Nat} {L : List Slot} {S : List Value} {H : AH} : orun code ret E0 0 (n + 1) (133, L, S, H, cs, ss) = pI S fun x r => if x = 0 then orun code ret E0 0 n (140, L, r, H, cs, ss) else orun code ret E0 0 n (136, L, r, H, cs, ss) := s_if (Q := fun x => x = 0) (fun _ => z_eq) k0_133 (by decide) (by decide)
theorem s0_136 {n cs ss : Nat} {L : List Slot} {S : List Value} {H : AH} : orun code ret E0 0 (n + 1) (136, L, S, H, cs, ss) = orun code ret E0 0 n (137, L, (.int 1 :: S), H, cs, ss) := s_any k0_136
theorem s0_137 {n cs ss : Nat} {L : List Slot} {S : List Value} {H : AH} : orun code ret E0 0 (n + 1) (137, L, S, H, cs, ss) = orun code ret E0 0 n (141, L, S, H, cs, ss) := s_goto k0_137 (by decide) (by decide)
theorem s0_140 {n cs ss : Nat} {L : List Slot} {S : List Value} {H : AH} : orun code ret E0 0 (n + 1) (140, L, S, H, cs, ss) = orun code ret E0 0 n (141, L, (.int 0 :: S), H, cs, ss) := s_any k0_140
theorem s0_141 {n cs ss : Nat} {L : List Slot} {S : List Value} {H : AH} : orun code ret E0 0 (n + 1) (141, L, S, H, cs, ss) = pI S fun x r => (st1 L 21 (.int x)).bind fun L' => orun code ret E0 0 n (143, L', r, H, cs, ss) := s_any k0_141
theorem s0_143 {n cs ss : Nat} {L : List Slot} {S : List Value} {H : AH} : orun code ret E0 0 (n + 1) (143, L, S, H, cs, ss) = (gI L 6).bind fun v => orun code ret E0 0 n (145, L, .int v :: S, H, cs, ss) := s_any k0_143
theorem s0_145 {n cs ss : Nat} {L : List Slot} {S : List Value} {H : AH} : orun code ret E0 0 (n + 1) (145, L, S, H, cs, ss) = orun code ret E0 0 n (147, L, (.int 8 :: S), H, cs, ss) := s_any k0_145
theorem s0_147 {n cs ss : Nat} {L : List Slot} {S : List Value} {H : AH} : orun code ret E0 0 (n + 1) (147, L, S, H, cs, ss) = pI S fun y S => pI S fun x r => orun code ret E0 0 n (148, L, .int (x &&& y) :: r, H, cs, ss) := s_any k0_147
theorem s0_148 {n cs ss : Nat} {L : List Slot} {S : List Value} {H : AH} : orun code ret E0 0 (n + 1) (148, L, S, H, cs, ss) = pI S fun x r => if x = 0 then orun code ret E0 0 n (155, L, r, H, cs, ss) else orun code ret E0 0 n (151, L, r, H, cs, ss) := s_if (Q := fun x => x = 0) (fun _ => z_eq) k0_148 (by decide) (by decide)
theorem s0_151 {n cs ss : Nat} {L : List Slot} {S : List Value} {H : AH} : orun code ret E0 0 (n + 1) (151, L, S, H, cs, ss) = orun code ret E0 0 n (152, L, (.int 1 :: S), H, cs, ss) := s_any k0_151
theorem s0_152 {n cs ss : Nat} {L : List Slot} {S : List Value} {H : AH} : orun code ret E0 0 (n + 1) (152, L, S, H, cs, ss) = orun code ret E0 0 n (156, L, S, H, cs, ss) := s_goto k0_152 (by decide) (by decide)
theorem s0_155 {n cs ss : Nat} {L : List Slot} {S : List Value} {H : AH} : orun code ret E0 0 (n + 1) (155, L, S, H, cs, ss) = orun code ret E0 0 n (156, L, (.int 0 :: S), H, cs, ss) := s_any k0_155
theorem s0_156 {n cs ss : Nat} {L : List Slot} {S : List Value} {H : AH} : orun code ret E0 0 (n + 1) (156, L, S, H, cs, ss) = pI S fun x r => (st1 L 22 (.int x)).bind fun L' => orun code ret E0 0 n (158, L', r, H, cs, ss) := s_any k0_156
theorem s0_158 {n cs ss : Nat} {L : List Slot} {S : List Value} {H : AH} : orun code ret E0 0 (n + 1) (158, L, S, H, cs, ss) = (gI L 5).bind fun v => orun code ret E0 0 n (160, L, .int v :: S, H, cs, ss) := s_any k0_158
theorem s0_160 {n cs ss : Nat} {L : List Slot} {S : List Value} {H : AH} : orun code ret E0 0 (n + 1) (160, L, S, H, cs, ss) = pI S fun x r => if 0 < x then orun code ret E0 0 n (163, L, r, H, cs, ss) else orun code ret E0 0 n (172, L, r, H, cs, ss) := s_ifN (Q := fun x => 0 < x) (fun _ => z_le) k0_160 (by decide) (by decide)
theorem s0_163 {n cs ss : Nat} {L : List Slot} {S : List Value} {H : AH} : orun code ret E0 0 (n + 1) (163, L, S, H, cs, ss) = (gI L 19).bind fun v => orun code ret E0 0 n (165, L, .int v :: S, H, cs, ss) := s_any k0_163
theorem s0_165 {n cs ss : Nat} {L : List Slot} {S : List Value} {H : AH} : orun code ret E0 0 (n + 1) (165, L, S, H, cs, ss) = pI S fun x r => if x = 0 then orun code ret E0 0 n (172, L, r, H, cs, ss) else orun code ret E0 0 n (168, L, r, H, cs, ss) := s_if (Q := fun x => x = 0) (fun _ => z_eq) k0_165 (by decide) (by decide)
theorem s0_168 {n cs ss : Nat} {L : List Slot} {S : List Value} {H : AH} : orun code ret E0 0 (n + 1) (168, L, S, H, cs, ss) = orun code ret E0 0 n (169, L, (.int 1 :: S), H, cs, ss) := s_any k0_168
theorem s0_169 {n cs ss : Nat} {L : List Slot} {S : List Value} {H : AH} : orun code ret E0 0 (n + 1) (169, L, S, H, cs, ss) = orun code ret E0 0 n (173, L, S, H, cs, ss) := s_goto k0_169 (by decide) (by decide)
theorem s0_172 {n cs ss : Nat} {L : List Slot} {S : List Value} {H : AH} : orun code ret E0 0 (n + 1) (172, L, S, H, cs, ss) = orun code ret E0 0 n (173, L, (.int 0 :: S), H, cs, ss) := s_any k0_172
theorem s0_173 {n cs ss : Nat} {L : List Slot} {S : List Value} {H : AH} : orun code ret E0 0 (n + 1) (173, L, S, H, cs, ss) = (gI L 5).bind fun v => orun code ret E0 0 n (175, L, .int v :: S, H, cs, ss) := s_any k0_173
theorem s0_175 {n cs ss : Nat} {L : List Slot} {S : List Value} {H : AH} : orun code ret E0 0 (n + 1) (175, L, S, H, cs, ss) = orun code ret E0 0 n (176, L, (.int 1 :: S), H, cs, ss) := s_any k0_175
theorem s0_176 {n cs ss : Nat} {L : List Slot} {S : List Value} {H : AH} : orun code ret E0 0 (n + 1) (176, L, S, H, cs, ss) = pI S fun y S => pI S fun x r => if y < x then orun code ret E0 0 n (179, L, r, H, cs, ss) else orun code ret E0 0 n (188, L, r, H, cs, ss) := s_icmpN (Q := fun x y => y < x) (fun _ _ => h_le) k0_176 (by decide) (by decide)
theorem s0_179 {n cs ss : Nat} {L : List Slot} {S : List Value} {H : AH} : orun code ret E0 0 (n + 1) (179, L, S, H, cs, ss) = (gI L 20).bind fun v => orun code ret E0 0 n (181, L, .int v :: S, H, cs, ss) := s_any k0_179
theorem s0_181 {n cs ss : Nat} {L : List Slot} {S : List Value} {H : AH} : orun code ret E0 0 (n + 1) (181, L, S, H, cs, ss) = pI S fun x r => if x = 0 then orun code ret E0 0 n (188, L, r, H, cs, ss) else orun code ret E0 0 n (184, L, r, H, cs, ss) := s_if (Q := fun x => x = 0) (fun _ => z_eq) k0_181 (by decide) (by decide)
theorem s0_184 {n cs ss : Nat} {L : List Slot} {S : List Value} {H : AH} : orun code ret E0 0 (n + 1) (184, L, S, H, cs, ss) = orun code ret E0 0 n (185, L, (.int 1 :: S), H, cs, ss) := s_any k0_184
theorem s0_185 {n cs ss : Nat} {L : List Slot} {S : List Value} {H : AH} : orun code ret E0 0 (n + 1) (185, L, S, H, cs, ss) = orun code ret E0 0 n (189, L, S, H, cs, ss) := s_goto k0_185 (by decide) (by decide)
theorem s0_188 {n cs ss : Nat} {L : List Slot} {S : List Value} {H : AH} : orun code ret E0 0 (n + 1) (188, L, S, H, cs, ss) = orun code ret E0 0 n (189, L, (.int 0 :: S), H, cs, ss) := s_any k0_188
theorem s0_189 {n cs ss : Nat} {L : List Slot} {S : List Value} {H : AH} : orun code ret E0 0 (n + 1) (189, L, S, H, cs, ss) = pI S fun y S => pI S fun x r => orun code ret E0 0 n (190, L, .int (x + y) :: r, H, cs, ss) := s_any k0_189
theorem s0_190 {n cs ss : Nat} {L : List Slot} {S : List Value} {H : AH} : orun code ret E0 0 (n + 1) (190, L, S, H, cs, ss) = (gI L 5).bind fun v => orun code ret E0 0 n (192, L, .int v :: S, H, cs, ss) := s_any k0_190
theorem s0_192 {n cs ss : Nat} {L : List Slot} {S : List Value} {H : AH} : orun code ret E0 0 (n + 1) (192, L, S, H, cs, ss) = orun code ret E0 0 n (193, L, (.int 2 :: S), H, cs, ss) := s_any k0_192
theorem s0_193 {n cs ss : Nat} {L : List Slot} {S : List Value} {H : AH} : orun code ret E0 0 (n + 1) (193, L, S, H, cs, ss) = pI S fun y S => pI S fun x r => if y < x then orun code ret E0 0 n (196, L, r, H, cs, ss) else orun code ret E0 0 n (205, L, r, H, cs, ss) := s_icmpN (Q := fun x y => y < x) (fun _ _ => h_le) k0_193 (by decide) (by decide)
theorem s0_196 {n cs ss : Nat} {L : List Slot} {S : List Value} {H : AH} : orun code ret E0 0 (n + 1) (196, L, S, H, cs, ss) = (gI L 21).bind fun v => orun code ret E0 0 n (198, L, .int v :: S, H, cs, ss) := s_any k0_196
theorem s0_198 {n cs ss : Nat} {L : List Slot} {S : List Value} {H : AH} : orun code ret E0 0 (n + 1) (198, L, S, H, cs, ss) = pI S fun x r => if x = 0 then orun code ret E0 0 n (205, L, r, H, cs, ss) else orun code ret E0 0 n (201, L, r, H, cs, ss) := s_if (Q := fun x => x = 0) (fun _ => z_eq) k0_198 (by decide) (by decide)
theorem s0_201 {n cs ss : Nat} {L : List Slot} {S : List Value} {H : AH} : orun code ret E0 0 (n + 1) (201, L, S, H, cs, ss) = orun code ret E0 0 n (202, L, (.int 1 :: S), H, cs, ss) := s_any k0_201
theorem s0_202 {n cs ss : Nat} {L : List Slot} {S : List Value} {H : AH} : orun code ret E0 0 (n + 1) (202, L, S, H, cs, ss) = orun code ret E0 0 n (206, L, S, H, cs, ss) := s_goto k0_202 (by decide) (by decide)
theorem s0_205 {n cs ss : Nat} {L : List Slot} {S : List Value} {H : AH} : orun code ret E0 0 (n + 1) (205, L, S, H, cs, ss) = orun code ret E0 0 n (206, L, (.int 0 :: S), H, cs, ss) := s_any k0_205
theorem s0_206 {n cs ss : Nat} {L : List Slot} {S : List Value} {H : AH} : orun code ret E0 0 (n + 1) (206, L, S, H, cs, ss) = pI S fun y S => pI S fun x r => orun code ret E0 0 n (207, L, .int (x + y) :: r, H, cs, ss) := s_any k0_206
theorem s0_207 {n cs ss : Nat} {L : List Slot} {S : List Value} {H : AH} : orun code ret E0 0 (n + 1) (207, L, S, H, cs, ss) = (gI L 5).bind fun v => orun code ret E0 0 n (209, L, .int v :: S, H, cs, ss) := s_any k0_207
theorem s0_209 {n cs ss : Nat} {L : List Slot} {S : List Value} {H : AH} : orun code ret E0 0 (n + 1) (209, L, S, H, cs, ss) = orun code ret E0 0 n (210, L, (.int 3 :: S), H, cs, ss) := s_any k0_209
theorem s0_210 {n cs ss : Nat} {L : List Slot} {S : List Value} {H : AH} : orun code ret E0 0 (n + 1) (210, L, S, H, cs, ss) = pI S fun y S => pI S fun x r => if y < x then orun code ret E0 0 n (213, L, r, H, cs, ss) else orun code ret E0 0 n (222, L, r, H, cs, ss) := s_icmpN (Q := fun x y => y < x) (fun _ _ => h_le) k0_210 (by decide) (by decide)
theorem s0_213 {n cs ss : Nat} {L : List Slot} {S : List Value} {H : AH} : orun code ret E0 0 (n + 1) (213, L, S, H, cs, ss) = (gI L 22).bind fun v => orun code ret E0 0 n (215, L, .int v :: S, H, cs, ss) := s_any k0_213
theorem s0_215 {n cs ss : Nat} {L : List Slot} {S : List Value} {H : AH} : orun code ret E0 0 (n + 1) (215, L, S, H, cs, ss) = pI S fun x r => if x = 0 then orun code ret E0 0 n (222, L, r, H, cs, ss) else orun code ret E0 0 n (218, L, r, H, cs, ss) := s_if (Q := fun x => x = 0) (fun _ => z_eq) k0_215 (by decide) (by decide)
theorem s0_218 {n cs ss : Nat} {L : List Slot} {S : List Value} {H : AH} : orun code ret E0 0 (n + 1) (218, L, S, H, cs, ss) = orun code ret E0 0 n (219, L, (.int 1 :: S), H, cs, ss) := s_any k0_218
theorem s0_219 {n cs ss : Nat} {L : List Slot} {S : List Value} {H : AH} : orun code ret E0 0 (n + 1) (219, L, S, H, cs, ss) = orun code ret E0 0 n (223, L, S, H, cs, ss) := s_goto k0_219 (by decide) (by decide)
theorem s0_222 {n cs ss : Nat} {L : List Slot} {S : List Value} {H : AH} : orun code ret E0 0 (n + 1) (222, L, S, H, cs, ss) = orun code ret E0 0 n (223, L, (.int 0 :: S), H, cs, ss) := s_any k0_222
theorem s0_223 {n cs ss : Nat} {L : List Slot} {S : List Value} {H : AH} : orun code ret E0 0 (n + 1) (223, L, S, H, cs, ss) = pI S fun y S => pI S fun x r => orun code ret E0 0 n (224, L, .int (x + y) :: r, H, cs, ss) := s_any k0_223
theorem s0_224 {n cs ss : Nat} {L : List Slot} {S : List Value} {H : AH} : orun code ret E0 0 (n + 1) (224, L, S, H, cs, ss) = pI S fun x r => (st1 L 23 (.int x)).bind fun L' => orun code ret E0 0 n (226, L', r, H, cs, ss) := s_any k0_224
theorem s0_226 {n cs ss : Nat} {L : List Slot} {S : List Value} {H : AH} : orun code ret E0 0 (n + 1) (226, L, S, H, cs, ss) = (gI L 23).bind fun v => orun code ret E0 0 n (228, L, .int v :: S, H, cs, ss) := s_any k0_226
theorem s0_228 {n cs ss : Nat} {L : List Slot} {S : List Value} {H : AH} : orun code ret E0 0 (n + 1) (228, L, S, H, cs, ss) = (aArr .int 16 128 S H cs ss).bind fun r => orun code ret E0 0 n (230, L, r.1, r.2.1, r.2.2.1, r.2.2.2) := s_any k0_228
theorem s0_230 {n cs ss : Nat} {L : List Slot} {S : List Value} {H : AH} : orun code ret E0 0 (n + 1) (230, L, S, H, cs, ss) = pA S fun x r => (st1 L 24 x).bind fun L' => orun code ret E0 0 n (232, L', r, H, cs, ss) := s_any k0_230
theorem s0_232 {n cs ss : Nat} {L : List Slot} {S : List Value} {H : AH} : orun code ret E0 0 (n + 1) (232, L, S, H, cs, ss) = (gI L 5).bind fun v => orun code ret E0 0 n (234, L, .int v :: S, H, cs, ss) := s_any k0_232
theorem s0_234 {n cs ss : Nat} {L : List Slot} {S : List Value} {H : AH} : orun code ret E0 0 (n + 1) (234, L, S, H, cs, ss) = (gI L 23).bind fun v => orun code ret E0 0 n (236, L, .int v :: S, H, cs, ss) := s_any k0_234
theorem s0_236 {n cs ss : Nat} {L : List Slot} {S : List Value} {H : AH} : orun code ret E0 0 (n + 1) (236, L, S, H, cs, ss) = pI S fun y S => pI S fun x r => orun code ret E0 0 n (237, L, .int (x - y) :: r, H, cs, ss) := s_any k0_236
theorem s0_237 {n cs ss : Nat} {L : List Slot} {S : List Value} {H : AH} : orun code ret E0 0 (n + 1) (237, L, S, H, cs, ss) = (aArr .int 16 128 S H cs ss).bind fun r => orun code ret E0 0 n (239, L, r.1, r.2.1, r.2.2.1, r.2.2.2) := s_any k0_237
theorem s0_239 {n cs ss : Nat} {L : List Slot} {S : List Value} {H : AH} : orun code ret E0 0 (n + 1) (239, L, S, H, cs, ss) = pA S fun x r => (st1 L 25 x).bind fun L' => orun code ret E0 0 n (241, L', r, H, cs, ss) := s_any k0_239
theorem s0_241 {n cs ss : Nat} {L : List Slot} {S : List Value} {H : AH} : orun code ret E0 0 (n + 1) (241, L, S, H, cs, ss) = orun code ret E0 0 n (242, L, (.int 0 :: S), H, cs, ss) := s_any k0_241
theorem s0_242 {n cs ss : Nat} {L : List Slot} {S : List Value} {H : AH} : orun code ret E0 0 (n + 1) (242, L, S, H, cs, ss) = pI S fun x r => (st1 L 26 (.int x)).bind fun L' => orun code ret E0 0 n (244, L', r, H, cs, ss) := s_any k0_242
theorem s0_244 {n cs ss : Nat} {L : List Slot} {S : List Value} {H : AH} : orun code ret E0 0 (n + 1) (244, L, S, H, cs, ss) = orun code ret E0 0 n (245, L, (.int 0 :: S), H, cs, ss) := s_any k0_244
theorem s0_245 {n cs ss : Nat} {L : List Slot} {S : List Value} {H : AH} : orun code ret E0 0 (n + 1) (245, L, S, H, cs, ss) = pI S fun x r => (st1 L 27 (.int x)).bind fun L' => orun code ret E0 0 n (247, L', r, H, cs, ss) := s_any k0_245
theorem s0_247 {n cs ss : Nat} {L : List Slot} {S : List Value} {H : AH} : orun code ret E0 0 (n + 1) (247, L, S, H, cs, ss) = (gI L 5).bind fun v => orun code ret E0 0 n (249, L, .int v :: S, H, cs, ss) := s_any k0_247
theorem s0_249 {n cs ss : Nat} {L : List Slot} {S : List Value} {H : AH} : orun code ret E0 0 (n + 1) (249, L, S, H, cs, ss) = pI S fun x r => if 0 < x then orun code ret E0 0 n (252, L, r, H, cs, ss) else orun code ret E0 0 n (280, L, r, H, cs, ss) := s_ifN (Q := fun x => 0 < x) (fun _ => z_le) k0_249 (by decide) (by decide)
theorem s0_252 {n cs ss : Nat} {L : List Slot} {S : List Value} {H : AH} : orun code ret E0 0 (n + 1) (252, L, S, H, cs, ss) = (gI L 19).bind fun v => orun code ret E0 0 n (254, L, .int v :: S, H, cs, ss) := s_any k0_252
theorem s0_254 {n cs ss : Nat} {L : List Slot} {S : List Value} {H : AH} : orun code ret E0 0 (n + 1) (254, L, S, H, cs, ss) = pI S fun x r => if x = 0 then orun code ret E0 0 n (270, L, r, H, cs, ss) else orun code ret E0 0 n (257, L, r, H, cs, ss) := s_if (Q := fun x => x = 0) (fun _ => z_eq) k0_254 (by decide) (by decide)
theorem s0_257 {n cs ss : Nat} {L : List Slot} {S : List Value} {H : AH} : orun code ret E0 0 (n + 1) (257, L, S, H, cs, ss) = (gA L 24).bind fun v => orun code ret E0 0 n (259, L, v :: S, H, cs, ss) := s_any k0_257
theorem s0_259 {n cs ss : Nat} {L : List Slot} {S : List Value} {H : AH} : orun code ret E0 0 (n + 1) (259, L, S, H, cs, ss) = (gI L 26).bind fun v => orun code ret E0 0 n (261, L, .int v :: S, H, cs, ss) := s_any k0_259
theorem s0_261 {n cs ss : Nat} {L : List Slot} {S : List Value} {H : AH} : orun code ret E0 0 (n + 1) (261, L, S, H, cs, ss) = (gI L 15).bind fun v => orun code ret E0 0 n (263, L, .int v :: S, H, cs, ss) := s_any k0_261
theorem s0_263 {n cs ss : Nat} {L : List Slot} {S : List Value} {H : AH} : orun code ret E0 0 (n + 1) (263, L, S, H, cs, ss) = ex ret E0 0 (orun code ret E0 0 n) (.iastore) 263 L S H cs ss := s_any k0_263
theorem s0_264 {n cs ss : Nat} {L : List Slot} {S : List Value} {H : AH} : orun code ret E0 0 (n + 1) (264, L, S, H, cs, ss) = (gI L 26).bind fun v => (st1 L 26 (.int (v + 1))).bind fun L' => orun code ret E0 0 n (267, L', S, H, cs, ss) := s_any k0_264
theorem s0_267 {n cs ss : Nat} {L : List Slot} {S : List Value} {H : AH} : orun code ret E0 0 (n + 1) (267, L, S, H, cs, ss) = orun code ret E0 0 n (280, L, S, H, cs, ss) := s_goto k0_267 (by decide) (by decide)
theorem s0_270 {n cs ss : Nat} {L : List Slot} {S : List Value} {H : AH} : orun code ret E0 0 (n + 1) (270, L, S, H, cs, ss) = (gA L 25).bind fun v => orun code ret E0 0 n (272, L, v :: S, H, cs, ss) := s_any k0_270
theorem s0_272 {n cs ss : Nat} {L : List Slot} {S : List Value} {H : AH} : orun code ret E0 0 (n + 1) (272, L, S, H, cs, ss) = (gI L 27).bind fun v => orun code ret E0 0 n (274, L, .int v :: S, H, cs, ss) := s_any k0_272
theorem s0_274 {n cs ss : Nat} {L : List Slot} {S : List Value} {H : AH} : orun code ret E0 0 (n + 1) (274, L, S, H, cs, ss) = (gI L 15).bind fun v => orun code ret E0 0 n (276, L, .int v :: S, H, cs, ss) := s_any k0_274
theorem s0_276 {n cs ss : Nat} {L : List Slot} {S : List Value} {H : AH} : orun code ret E0 0 (n + 1) (276, L, S, H, cs, ss) = ex ret E0 0 (orun code ret E0 0 n) (.iastore) 276 L S H cs ss := s_any k0_276
theorem s0_277 {n cs ss : Nat} {L : List Slot} {S : List Value} {H : AH} : orun code ret E0 0 (n + 1) (277, L, S, H, cs, ss) = (gI L 27).bind fun v => (st1 L 27 (.int (v + 1))).bind fun L' => orun code ret E0 0 n (280, L', S, H, cs, ss) := s_any k0_277
theorem s0_280 {n cs ss : Nat} {L : List Slot} {S : List Value} {H : AH} : orun code ret E0 0 (n + 1) (280, L, S, H, cs, ss) = (gI L 5).bind fun v => orun code ret E0 0 n (282, L, .int v :: S, H, cs, ss) := s_any k0_280
theorem s0_282 {n cs ss : Nat} {L : List Slot} {S : List Value} {H : AH} : orun code ret E0 0 (n + 1) (282, L, S, H, cs, ss) = orun code ret E0 0 n (283, L, (.int 1 :: S), H, cs, ss) := s_any k0_282
theorem s0_283 {n cs ss : Nat} {L : List Slot} {S : List Value} {H : AH} : orun code ret E0 0 (n + 1) (283, L, S, H, cs, ss) = pI S fun y S => pI S fun x r => if y < x then orun code ret E0 0 n (286, L, r, H, cs, ss) else orun code ret E0 0 n (314, L, r, H, cs, ss) := s_icmpN (Q := fun x y => y < x) (fun _ _ => h_le) k0_283 (by decide) (by decide)
theorem s0_286 {n cs ss : Nat} {L : List Slot} {S : List Value} {H : AH} : orun code ret E0 0 (n + 1) (286, L, S, H, cs, ss) = (gI L 20).bind fun v => orun code ret E0 0 n (288, L, .int v :: S, H, cs, ss) := s_any k0_286
theorem s0_288 {n cs ss : Nat} {L : List Slot} {S : List Value} {H : AH} : orun code ret E0 0 (n + 1) (288, L, S, H, cs, ss) = pI S fun x r => if x = 0 then orun code ret E0 0 n (304, L, r, H, cs, ss) else orun code ret E0 0 n (291, L, r, H, cs, ss) := s_if (Q := fun x => x = 0) (fun _ => z_eq) k0_288 (by decide) (by decide)
theorem s0_291 {n cs ss : Nat} {L : List Slot} {S : List Value} {H : AH} : orun code ret E0 0 (n + 1) (291, L, S, H, cs, ss) = (gA L 24).bind fun v => orun code ret E0 0 n (293, L, v :: S, H, cs, ss) := s_any k0_291
theorem s0_293 {n cs ss : Nat} {L : List Slot} {S : List Value} {H : AH} : orun code ret E0 0 (n + 1) (293, L, S, H, cs, ss) = (gI L 26).bind fun v => orun code ret E0 0 n (295, L, .int v :: S, H, cs, ss) := s_any k0_293
theorem s0_295 {n cs ss : Nat} {L : List Slot} {S : List Value} {H : AH} : orun code ret E0 0 (n + 1) (295, L, S, H, cs, ss) = (gI L 16).bind fun v => orun code ret E0 0 n (297, L, .int v :: S, H, cs, ss) := s_any k0_295
theorem s0_297 {n cs ss : Nat} {L : List Slot} {S : List Value} {H : AH} : orun code ret E0 0 (n + 1) (297, L, S, H, cs, ss) = ex ret E0 0 (orun code ret E0 0 n) (.iastore) 297 L S H cs ss := s_any k0_297
theorem s0_298 {n cs ss : Nat} {L : List Slot} {S : List Value} {H : AH} : orun code ret E0 0 (n + 1) (298, L, S, H, cs, ss) = (gI L 26).bind fun v => (st1 L 26 (.int (v + 1))).bind fun L' => orun code ret E0 0 n (301, L', S, H, cs, ss) := s_any k0_298
theorem s0_301 {n cs ss : Nat} {L : List Slot} {S : List Value} {H : AH} : orun code ret E0 0 (n + 1) (301, L, S, H, cs, ss) = orun code ret E0 0 n (314, L, S, H, cs, ss) := s_goto k0_301 (by decide) (by decide)
theorem s0_304 {n cs ss : Nat} {L : List Slot} {S : List Value} {H : AH} : orun code ret E0 0 (n + 1) (304, L, S, H, cs, ss) = (gA L 25).bind fun v => orun code ret E0 0 n (306, L, v :: S, H, cs, ss) := s_any k0_304
theorem s0_306 {n cs ss : Nat} {L : List Slot} {S : List Value} {H : AH} : orun code ret E0 0 (n + 1) (306, L, S, H, cs, ss) = (gI L 27).bind fun v => orun code ret E0 0 n (308, L, .int v :: S, H, cs, ss) := s_any k0_306
theorem s0_308 {n cs ss : Nat} {L : List Slot} {S : List Value} {H : AH} : orun code ret E0 0 (n + 1) (308, L, S, H, cs, ss) = (gI L 16).bind fun v => orun code ret E0 0 n (310, L, .int v :: S, H, cs, ss) := s_any k0_308
theorem s0_310 {n cs ss : Nat} {L : List Slot} {S : List Value} {H : AH} : orun code ret E0 0 (n + 1) (310, L, S, H, cs, ss) = ex ret E0 0 (orun code ret E0 0 n) (.iastore) 310 L S H cs ss := s_any k0_310
theorem s0_311 {n cs ss : Nat} {L : List Slot} {S : List Value} {H : AH} : orun code ret E0 0 (n + 1) (311, L, S, H, cs, ss) = (gI L 27).bind fun v => (st1 L 27 (.int (v + 1))).bind fun L' => orun code ret E0 0 n (314, L', S, H, cs, ss) := s_any k0_311
theorem s0_314 {n cs ss : Nat} {L : List Slot} {S : List Value} {H : AH} : orun code ret E0 0 (n + 1) (314, L, S, H, cs, ss) = (gI L 5).bind fun v => orun code ret E0 0 n (316, L, .int v :: S, H, cs, ss) := s_any k0_314
theorem s0_316 {n cs ss : Nat} {L : List Slot} {S : List Value} {H : AH} : orun code ret E0 0 (n + 1) (316, L, S, H, cs, ss) = orun code ret E0 0 n (317, L, (.int 2 :: S), H, cs, ss) := s_any k0_316
theorem s0_317 {n cs ss : Nat} {L : List Slot} {S : List Value} {H : AH} : orun code ret E0 0 (n + 1) (317, L, S, H, cs, ss) = pI S fun y S => pI S fun x r => if y < x then orun code ret E0 0 n (320, L, r, H, cs, ss) else orun code ret E0 0 n (348, L, r, H, cs, ss) := s_icmpN (Q := fun x y => y < x) (fun _ _ => h_le) k0_317 (by decide) (by decide)
theorem s0_320 {n cs ss : Nat} {L : List Slot} {S : List Value} {H : AH} : orun code ret E0 0 (n + 1) (320, L, S, H, cs, ss) = (gI L 21).bind fun v => orun code ret E0 0 n (322, L, .int v :: S, H, cs, ss) := s_any k0_320
theorem s0_322 {n cs ss : Nat} {L : List Slot} {S : List Value} {H : AH} : orun code ret E0 0 (n + 1) (322, L, S, H, cs, ss) = pI S fun x r => if x = 0 then orun code ret E0 0 n (338, L, r, H, cs, ss) else orun code ret E0 0 n (325, L, r, H, cs, ss) := s_if (Q := fun x => x = 0) (fun _ => z_eq) k0_322 (by decide) (by decide)
theorem s0_325 {n cs ss : Nat} {L : List Slot} {S : List Value} {H : AH} : orun code ret E0 0 (n + 1) (325, L, S, H, cs, ss) = (gA L 24).bind fun v => orun code ret E0 0 n (327, L, v :: S, H, cs, ss) := s_any k0_325
theorem s0_327 {n cs ss : Nat} {L : List Slot} {S : List Value} {H : AH} : orun code ret E0 0 (n + 1) (327, L, S, H, cs, ss) = (gI L 26).bind fun v => orun code ret E0 0 n (329, L, .int v :: S, H, cs, ss) := s_any k0_327
theorem s0_329 {n cs ss : Nat} {L : List Slot} {S : List Value} {H : AH} : orun code ret E0 0 (n + 1) (329, L, S, H, cs, ss) = (gI L 17).bind fun v => orun code ret E0 0 n (331, L, .int v :: S, H, cs, ss) := s_any k0_329
theorem s0_331 {n cs ss : Nat} {L : List Slot} {S : List Value} {H : AH} : orun code ret E0 0 (n + 1) (331, L, S, H, cs, ss) = ex ret E0 0 (orun code ret E0 0 n) (.iastore) 331 L S H cs ss := s_any k0_331
theorem s0_332 {n cs ss : Nat} {L : List Slot} {S : List Value} {H : AH} : orun code ret E0 0 (n + 1) (332, L, S, H, cs, ss) = (gI L 26).bind fun v => (st1 L 26 (.int (v + 1))).bind fun L' => orun code ret E0 0 n (335, L', S, H, cs, ss) := s_any k0_332
theorem s0_335 {n cs ss : Nat} {L : List Slot} {S : List Value} {H : AH} : orun code ret E0 0 (n + 1) (335, L, S, H, cs, ss) = orun code ret E0 0 n (348, L, S, H, cs, ss) := s_goto k0_335 (by decide) (by decide)
theorem s0_338 {n cs ss : Nat} {L : List Slot} {S : List Value} {H : AH} : orun code ret E0 0 (n + 1) (338, L, S, H, cs, ss) = (gA L 25).bind fun v => orun code ret E0 0 n (340, L, v :: S, H, cs, ss) := s_any k0_338
theorem s0_340 {n cs ss : Nat} {L : List Slot} {S : List Value} {H : AH} : orun code ret E0 0 (n + 1) (340, L, S, H, cs, ss) = (gI L 27).bind fun v => orun code ret E0 0 n (342, L, .int v :: S, H, cs, ss) := s_any k0_340
theorem s0_342 {n cs ss : Nat} {L : List Slot} {S : List Value} {H : AH} : orun code ret E0 0 (n + 1) (342, L, S, H, cs, ss) = (gI L 17).bind fun v => orun code ret E0 0 n (344, L, .int v :: S, H, cs, ss) := s_any k0_342
theorem s0_344 {n cs ss : Nat} {L : List Slot} {S : List Value} {H : AH} : orun code ret E0 0 (n + 1) (344, L, S, H, cs, ss) = ex ret E0 0 (orun code ret E0 0 n) (.iastore) 344 L S H cs ss := s_any k0_344
theorem s0_345 {n cs ss : Nat} {L : List Slot} {S : List Value} {H : AH} : orun code ret E0 0 (n + 1) (345, L, S, H, cs, ss) = (gI L 27).bind fun v => (st1 L 27 (.int (v + 1))).bind fun L' => orun code ret E0 0 n (348, L', S, H, cs, ss) := s_any k0_345
theorem s0_348 {n cs ss : Nat} {L : List Slot} {S : List Value} {H : AH} : orun code ret E0 0 (n + 1) (348, L, S, H, cs, ss) = (gI L 5).bind fun v => orun code ret E0 0 n (350, L, .int v :: S, H, cs, ss) := s_any k0_348
theorem s0_350 {n cs ss : Nat} {L : List Slot} {S : List Value} {H : AH} : orun code ret E0 0 (n + 1) (350, L, S, H, cs, ss) = orun code ret E0 0 n (351, L, (.int 3 :: S), H, cs, ss) := s_any k0_350
theorem s0_351 {n cs ss : Nat} {L : List Slot} {S : List Value} {H : AH} : orun code ret E0 0 (n + 1) (351, L, S, H, cs, ss) = pI S fun y S => pI S fun x r => if y < x then orun code ret E0 0 n (354, L, r, H, cs, ss) else orun code ret E0 0 n (382, L, r, H, cs, ss) := s_icmpN (Q := fun x y => y < x) (fun _ _ => h_le) k0_351 (by decide) (by decide)
theorem s0_354 {n cs ss : Nat} {L : List Slot} {S : List Value} {H : AH} : orun code ret E0 0 (n + 1) (354, L, S, H, cs, ss) = (gI L 22).bind fun v => orun code ret E0 0 n (356, L, .int v :: S, H, cs, ss) := s_any k0_354
theorem s0_356 {n cs ss : Nat} {L : List Slot} {S : List Value} {H : AH} : orun code ret E0 0 (n + 1) (356, L, S, H, cs, ss) = pI S fun x r => if x = 0 then orun code ret E0 0 n (372, L, r, H, cs, ss) else orun code ret E0 0 n (359, L, r, H, cs, ss) := s_if (Q := fun x => x = 0) (fun _ => z_eq) k0_356 (by decide) (by decide)
theorem s0_359 {n cs ss : Nat} {L : List Slot} {S : List Value} {H : AH} : orun code ret E0 0 (n + 1) (359, L, S, H, cs, ss) = (gA L 24).bind fun v => orun code ret E0 0 n (361, L, v :: S, H, cs, ss) := s_any k0_359
theorem s0_361 {n cs ss : Nat} {L : List Slot} {S : List Value} {H : AH} : orun code ret E0 0 (n + 1) (361, L, S, H, cs, ss) = (gI L 26).bind fun v => orun code ret E0 0 n (363, L, .int v :: S, H, cs, ss) := s_any k0_361
theorem s0_363 {n cs ss : Nat} {L : List Slot} {S : List Value} {H : AH} : orun code ret E0 0 (n + 1) (363, L, S, H, cs, ss) = (gI L 18).bind fun v => orun code ret E0 0 n (365, L, .int v :: S, H, cs, ss) := s_any k0_363
theorem s0_365 {n cs ss : Nat} {L : List Slot} {S : List Value} {H : AH} : orun code ret E0 0 (n + 1) (365, L, S, H, cs, ss) = ex ret E0 0 (orun code ret E0 0 n) (.iastore) 365 L S H cs ss := s_any k0_365
theorem s0_366 {n cs ss : Nat} {L : List Slot} {S : List Value} {H : AH} : orun code ret E0 0 (n + 1) (366, L, S, H, cs, ss) = (gI L 26).bind fun v => (st1 L 26 (.int (v + 1))).bind fun L' => orun code ret E0 0 n (369, L', S, H, cs, ss) := s_any k0_366
theorem s0_369 {n cs ss : Nat} {L : List Slot} {S : List Value} {H : AH} : orun code ret E0 0 (n + 1) (369, L, S, H, cs, ss) = orun code ret E0 0 n (382, L, S, H, cs, ss) := s_goto k0_369 (by decide) (by decide)
theorem s0_372 {n cs ss : Nat} {L : List Slot} {S : List Value} {H : AH} : orun code ret E0 0 (n + 1) (372, L, S, H, cs, ss) = (gA L 25).bind fun v => orun code ret E0 0 n (374, L, v :: S, H, cs, ss) := s_any k0_372
theorem s0_374 {n cs ss : Nat} {L : List Slot} {S : List Value} {H : AH} : orun code ret E0 0 (n + 1) (374, L, S, H, cs, ss) = (gI L 27).bind fun v => orun code ret E0 0 n (376, L, .int v :: S, H, cs, ss) := s_any k0_374
theorem s0_376 {n cs ss : Nat} {L : List Slot} {S : List Value} {H : AH} : orun code ret E0 0 (n + 1) (376, L, S, H, cs, ss) = (gI L 18).bind fun v => orun code ret E0 0 n (378, L, .int v :: S, H, cs, ss) := s_any k0_376
theorem s0_378 {n cs ss : Nat} {L : List Slot} {S : List Value} {H : AH} : orun code ret E0 0 (n + 1) (378, L, S, H, cs, ss) = ex ret E0 0 (orun code ret E0 0 n) (.iastore) 378 L S H cs ss := s_any k0_378
theorem s0_379 {n cs ss : Nat} {L : List Slot} {S : List Value} {H : AH} : orun code ret E0 0 (n + 1) (379, L, S, H, cs, ss) = (gI L 27).bind fun v => (st1 L 27 (.int (v + 1))).bind fun L' => orun code ret E0 0 n (382, L', S, H, cs, ss) := s_any k0_379
theorem s0_382 {n cs ss : Nat} {L : List Slot} {S : List Value} {H : AH} : orun code ret E0 0 (n + 1) (382, L, S, H, cs, ss) = (gA L 24).bind fun v => orun code ret E0 0 n (384, L, v :: S, H, cs, ss) := s_any k0_382
theorem s0_384 {n cs ss : Nat} {L : List Slot} {S : List Value} {H : AH} : orun code ret E0 0 (n + 1) (384, L, S, H, cs, ss) = (gA L 25).bind fun v => orun code ret E0 0 n (386, L, v :: S, H, cs, ss) := s_any k0_384
theorem s0_386 {n cs ss : Nat} {L : List Slot} {S : List Value} {H : AH} : orun code ret E0 0 (n + 1) (386, L, S, H, cs, ss) = (aCall 2 6 16 128 1 4 F2 S H cs ss).bind fun r => orun code ret E0 0 n (389, L, r.1, r.2.1, r.2.2.1, r.2.2.2) := s_any k0_386
theorem s0_389 {n cs ss : Nat} {L : List Slot} {S : List Value} {H : AH} : orun code ret E0 0 (n + 1) (389, L, S, H, cs, ss) = pA S fun x r => (st1 L 28 x).bind fun L' => orun code ret E0 0 n (391, L', r, H, cs, ss) := s_any k0_389
theorem s0_391 {n cs ss : Nat} {L : List Slot} {S : List Value} {H : AH} : orun code ret E0 0 (n + 1) (391, L, S, H, cs, ss) = (gA L 28).bind fun v => orun code ret E0 0 n (393, L, v :: S, H, cs, ss) := s_any k0_391
theorem s0_393 {n cs ss : Nat} {L : List Slot} {S : List Value} {H : AH} : orun code ret E0 0 (n + 1) (393, L, S, H, cs, ss) = pR S fun a r => (arr H a).bind fun q => orun code ret E0 0 n (394, L, .int (ln q.2) :: r, H, cs, ss) := s_any k0_393
theorem s0_394 {n cs ss : Nat} {L : List Slot} {S : List Value} {H : AH} : orun code ret E0 0 (n + 1) (394, L, S, H, cs, ss) = (gI L 5).bind fun v => orun code ret E0 0 n (396, L, .int v :: S, H, cs, ss) := s_any k0_394
theorem s0_396 {n cs ss : Nat} {L : List Slot} {S : List Value} {H : AH} : orun code ret E0 0 (n + 1) (396, L, S, H, cs, ss) = pI S fun y S => pI S fun x r => if x = y then orun code ret E0 0 n (401, L, r, H, cs, ss) else orun code ret E0 0 n (399, L, r, H, cs, ss) := s_icmp (Q := fun x y => x = y) (fun _ _ => h_eq) k0_396 (by decide) (by decide)
theorem s0_399 {n cs ss : Nat} {L : List Slot} {S : List Value} {H : AH} : orun code ret E0 0 (n + 1) (399, L, S, H, cs, ss) = orun code ret E0 0 n (400, L, (.int 0 :: S), H, cs, ss) := s_any k0_399
theorem s0_400 {n cs ss : Nat} {L : List Slot} {S : List Value} {H : AH} : orun code ret E0 0 (n + 1) (400, L, S, H, cs, ss) = pI S fun z _ => some (some (.int (z &&& 1)), H) := s_any k0_400
theorem s0_401 {n cs ss : Nat} {L : List Slot} {S : List Value} {H : AH} : orun code ret E0 0 (n + 1) (401, L, S, H, cs, ss) = orun code ret E0 0 n (402, L, (.int 1 :: S), H, cs, ss) := s_any k0_401
theorem s0_402 {n cs ss : Nat} {L : List Slot} {S : List Value} {H : AH} : orun code ret E0 0 (n + 1) (402, L, S, H, cs, ss) = pI S fun x r => (st1 L 29 (.int x)).bind fun L' => orun code ret E0 0 n (404, L', r, H, cs, ss) := s_any k0_402
theorem s0_404 {n cs ss : Nat} {L : List Slot} {S : List Value} {H : AH} : orun code ret E0 0 (n + 1) (404, L, S, H, cs, ss) = (gI L 5).bind fun v => orun code ret E0 0 n (406, L, .int v :: S, H, cs, ss) := s_any k0_404
theorem s0_406 {n cs ss : Nat} {L : List Slot} {S : List Value} {H : AH} : orun code ret E0 0 (n + 1) (406, L, S, H, cs, ss) = pI S fun x r => if 0 < x then orun code ret E0 0 n (409, L, r, H, cs, ss) else orun code ret E0 0 n (430, L, r, H, cs, ss) := s_ifN (Q := fun x => 0 < x) (fun _ => z_le) k0_406 (by decide) (by decide)
theorem s0_409 {n cs ss : Nat} {L : List Slot} {S : List Value} {H : AH} : orun code ret E0 0 (n + 1) (409, L, S, H, cs, ss) = (gI L 29).bind fun v => orun code ret E0 0 n (411, L, .int v :: S, H, cs, ss) := s_any k0_409
theorem s0_411 {n cs ss : Nat} {L : List Slot} {S : List Value} {H : AH} : orun code ret E0 0 (n + 1) (411, L, S, H, cs, ss) = pI S fun x r => if x = 0 then orun code ret E0 0 n (427, L, r, H, cs, ss) else orun code ret E0 0 n (414, L, r, H, cs, ss) := s_if (Q := fun x => x = 0) (fun _ => z_eq) k0_411 (by decide) (by decide)
theorem s0_414 {n cs ss : Nat} {L : List Slot} {S : List Value} {H : AH} : orun code ret E0 0 (n + 1) (414, L, S, H, cs, ss) = (gA L 28).bind fun v => orun code ret E0 0 n (416, L, v :: S, H, cs, ss) := s_any k0_414
theorem s0_416 {n cs ss : Nat} {L : List Slot} {S : List Value} {H : AH} : orun code ret E0 0 (n + 1) (416, L, S, H, cs, ss) = orun code ret E0 0 n (417, L, (.int 0 :: S), H, cs, ss) := s_any k0_416
theorem s0_417 {n cs ss : Nat} {L : List Slot} {S : List Value} {H : AH} : orun code ret E0 0 (n + 1) (417, L, S, H, cs, ss) = ex ret E0 0 (orun code ret E0 0 n) (.iaload) 417 L S H cs ss := s_any k0_417
theorem s0_418 {n cs ss : Nat} {L : List Slot} {S : List Value} {H : AH} : orun code ret E0 0 (n + 1) (418, L, S, H, cs, ss) = (gI L 15).bind fun v => orun code ret E0 0 n (420, L, .int v :: S, H, cs, ss) := s_any k0_418
theorem s0_420 {n cs ss : Nat} {L : List Slot} {S : List Value} {H : AH} : orun code ret E0 0 (n + 1) (420, L, S, H, cs, ss) = pI S fun y S => pI S fun x r => if x = y then orun code ret E0 0 n (423, L, r, H, cs, ss) else orun code ret E0 0 n (427, L, r, H, cs, ss) := s_icmpN (Q := fun x y => x = y) (fun _ _ => h_ne) k0_420 (by decide) (by decide)
theorem s0_423 {n cs ss : Nat} {L : List Slot} {S : List Value} {H : AH} : orun code ret E0 0 (n + 1) (423, L, S, H, cs, ss) = orun code ret E0 0 n (424, L, (.int 1 :: S), H, cs, ss) := s_any k0_423
theorem s0_424 {n cs ss : Nat} {L : List Slot} {S : List Value} {H : AH} : orun code ret E0 0 (n + 1) (424, L, S, H, cs, ss) = orun code ret E0 0 n (428, L, S, H, cs, ss) := s_goto k0_424 (by decide) (by decide)
theorem s0_427 {n cs ss : Nat} {L : List Slot} {S : List Value} {H : AH} : orun code ret E0 0 (n + 1) (427, L, S, H, cs, ss) = orun code ret E0 0 n (428, L, (.int 0 :: S), H, cs, ss) := s_any k0_427
theorem s0_428 {n cs ss : Nat} {L : List Slot} {S : List Value} {H : AH} : orun code ret E0 0 (n + 1) (428, L, S, H, cs, ss) = pI S fun x r => (st1 L 29 (.int x)).bind fun L' => orun code ret E0 0 n (430, L', r, H, cs, ss) := s_any k0_428
theorem s0_430 {n cs ss : Nat} {L : List Slot} {S : List Value} {H : AH} : orun code ret E0 0 (n + 1) (430, L, S, H, cs, ss) = (gI L 5).bind fun v => orun code ret E0 0 n (432, L, .int v :: S, H, cs, ss) := s_any k0_430
theorem s0_432 {n cs ss : Nat} {L : List Slot} {S : List Value} {H : AH} : orun code ret E0 0 (n + 1) (432, L, S, H, cs, ss) = orun code ret E0 0 n (433, L, (.int 1 :: S), H, cs, ss) := s_any k0_432
theorem s0_433 {n cs ss : Nat} {L : List Slot} {S : List Value} {H : AH} : orun code ret E0 0 (n + 1) (433, L, S, H, cs, ss) = pI S fun y S => pI S fun x r => if y < x then orun code ret E0 0 n (436, L, r, H, cs, ss) else orun code ret E0 0 n (457, L, r, H, cs, ss) := s_icmpN (Q := fun x y => y < x) (fun _ _ => h_le) k0_433 (by decide) (by decide)
theorem s0_436 {n cs ss : Nat} {L : List Slot} {S : List Value} {H : AH} : orun code ret E0 0 (n + 1) (436, L, S, H, cs, ss) = (gI L 29).bind fun v => orun code ret E0 0 n (438, L, .int v :: S, H, cs, ss) := s_any k0_436
theorem s0_438 {n cs ss : Nat} {L : List Slot} {S : List Value} {H : AH} : orun code ret E0 0 (n + 1) (438, L, S, H, cs, ss) = pI S fun x r => if x = 0 then orun code ret E0 0 n (454, L, r, H, cs, ss) else orun code ret E0 0 n (441, L, r, H, cs, ss) := s_if (Q := fun x => x = 0) (fun _ => z_eq) k0_438 (by decide) (by decide)
theorem s0_441 {n cs ss : Nat} {L : List Slot} {S : List Value} {H : AH} : orun code ret E0 0 (n + 1) (441, L, S, H, cs, ss) = (gA L 28).bind fun v => orun code ret E0 0 n (443, L, v :: S, H, cs, ss) := s_any k0_441
theorem s0_443 {n cs ss : Nat} {L : List Slot} {S : List Value} {H : AH} : orun code ret E0 0 (n + 1) (443, L, S, H, cs, ss) = orun code ret E0 0 n (444, L, (.int 1 :: S), H, cs, ss) := s_any k0_443
theorem s0_444 {n cs ss : Nat} {L : List Slot} {S : List Value} {H : AH} : orun code ret E0 0 (n + 1) (444, L, S, H, cs, ss) = ex ret E0 0 (orun code ret E0 0 n) (.iaload) 444 L S H cs ss := s_any k0_444
theorem s0_445 {n cs ss : Nat} {L : List Slot} {S : List Value} {H : AH} : orun code ret E0 0 (n + 1) (445, L, S, H, cs, ss) = (gI L 16).bind fun v => orun code ret E0 0 n (447, L, .int v :: S, H, cs, ss) := s_any k0_445
theorem s0_447 {n cs ss : Nat} {L : List Slot} {S : List Value} {H : AH} : orun code ret E0 0 (n + 1) (447, L, S, H, cs, ss) = pI S fun y S => pI S fun x r => if x = y then orun code ret E0 0 n (450, L, r, H, cs, ss) else orun code ret E0 0 n (454, L, r, H, cs, ss) := s_icmpN (Q := fun x y => x = y) (fun _ _ => h_ne) k0_447 (by decide) (by decide)
theorem s0_450 {n cs ss : Nat} {L : List Slot} {S : List Value} {H : AH} : orun code ret E0 0 (n + 1) (450, L, S, H, cs, ss) = orun code ret E0 0 n (451, L, (.int 1 :: S), H, cs, ss) := s_any k0_450
theorem s0_451 {n cs ss : Nat} {L : List Slot} {S : List Value} {H : AH} : orun code ret E0 0 (n + 1) (451, L, S, H, cs, ss) = orun code ret E0 0 n (455, L, S, H, cs, ss) := s_goto k0_451 (by decide) (by decide)
theorem s0_454 {n cs ss : Nat} {L : List Slot} {S : List Value} {H : AH} : orun code ret E0 0 (n + 1) (454, L, S, H, cs, ss) = orun code ret E0 0 n (455, L, (.int 0 :: S), H, cs, ss) := s_any k0_454
theorem s0_455 {n cs ss : Nat} {L : List Slot} {S : List Value} {H : AH} : orun code ret E0 0 (n + 1) (455, L, S, H, cs, ss) = pI S fun x r => (st1 L 29 (.int x)).bind fun L' => orun code ret E0 0 n (457, L', r, H, cs, ss) := s_any k0_455
theorem s0_457 {n cs ss : Nat} {L : List Slot} {S : List Value} {H : AH} : orun code ret E0 0 (n + 1) (457, L, S, H, cs, ss) = (gI L 5).bind fun v => orun code ret E0 0 n (459, L, .int v :: S, H, cs, ss) := s_any k0_457
theorem s0_459 {n cs ss : Nat} {L : List Slot} {S : List Value} {H : AH} : orun code ret E0 0 (n + 1) (459, L, S, H, cs, ss) = orun code ret E0 0 n (460, L, (.int 2 :: S), H, cs, ss) := s_any k0_459
theorem s0_460 {n cs ss : Nat} {L : List Slot} {S : List Value} {H : AH} : orun code ret E0 0 (n + 1) (460, L, S, H, cs, ss) = pI S fun y S => pI S fun x r => if y < x then orun code ret E0 0 n (463, L, r, H, cs, ss) else orun code ret E0 0 n (484, L, r, H, cs, ss) := s_icmpN (Q := fun x y => y < x) (fun _ _ => h_le) k0_460 (by decide) (by decide)
theorem s0_463 {n cs ss : Nat} {L : List Slot} {S : List Value} {H : AH} : orun code ret E0 0 (n + 1) (463, L, S, H, cs, ss) = (gI L 29).bind fun v => orun code ret E0 0 n (465, L, .int v :: S, H, cs, ss) := s_any k0_463
theorem s0_465 {n cs ss : Nat} {L : List Slot} {S : List Value} {H : AH} : orun code ret E0 0 (n + 1) (465, L, S, H, cs, ss) = pI S fun x r => if x = 0 then orun code ret E0 0 n (481, L, r, H, cs, ss) else orun code ret E0 0 n (468, L, r, H, cs, ss) := s_if (Q := fun x => x = 0) (fun _ => z_eq) k0_465 (by decide) (by decide)
theorem s0_468 {n cs ss : Nat} {L : List Slot} {S : List Value} {H : AH} : orun code ret E0 0 (n + 1) (468, L, S, H, cs, ss) = (gA L 28).bind fun v => orun code ret E0 0 n (470, L, v :: S, H, cs, ss) := s_any k0_468
theorem s0_470 {n cs ss : Nat} {L : List Slot} {S : List Value} {H : AH} : orun code ret E0 0 (n + 1) (470, L, S, H, cs, ss) = orun code ret E0 0 n (471, L, (.int 2 :: S), H, cs, ss) := s_any k0_470
theorem s0_471 {n cs ss : Nat} {L : List Slot} {S : List Value} {H : AH} : orun code ret E0 0 (n + 1) (471, L, S, H, cs, ss) = ex ret E0 0 (orun code ret E0 0 n) (.iaload) 471 L S H cs ss := s_any k0_471
theorem s0_472 {n cs ss : Nat} {L : List Slot} {S : List Value} {H : AH} : orun code ret E0 0 (n + 1) (472, L, S, H, cs, ss) = (gI L 17).bind fun v => orun code ret E0 0 n (474, L, .int v :: S, H, cs, ss) := s_any k0_472
theorem s0_474 {n cs ss : Nat} {L : List Slot} {S : List Value} {H : AH} : orun code ret E0 0 (n + 1) (474, L, S, H, cs, ss) = pI S fun y S => pI S fun x r => if x = y then orun code ret E0 0 n (477, L, r, H, cs, ss) else orun code ret E0 0 n (481, L, r, H, cs, ss) := s_icmpN (Q := fun x y => x = y) (fun _ _ => h_ne) k0_474 (by decide) (by decide)
theorem s0_477 {n cs ss : Nat} {L : List Slot} {S : List Value} {H : AH} : orun code ret E0 0 (n + 1) (477, L, S, H, cs, ss) = orun code ret E0 0 n (478, L, (.int 1 :: S), H, cs, ss) := s_any k0_477
theorem s0_478 {n cs ss : Nat} {L : List Slot} {S : List Value} {H : AH} : orun code ret E0 0 (n + 1) (478, L, S, H, cs, ss) = orun code ret E0 0 n (482, L, S, H, cs, ss) := s_goto k0_478 (by decide) (by decide)
theorem s0_481 {n cs ss : Nat} {L : List Slot} {S : List Value} {H : AH} : orun code ret E0 0 (n + 1) (481, L, S, H, cs, ss) = orun code ret E0 0 n (482, L, (.int 0 :: S), H, cs, ss) := s_any k0_481
theorem s0_482 {n cs ss : Nat} {L : List Slot} {S : List Value} {H : AH} : orun code ret E0 0 (n + 1) (482, L, S, H, cs, ss) = pI S fun x r => (st1 L 29 (.int x)).bind fun L' => orun code ret E0 0 n (484, L', r, H, cs, ss) := s_any k0_482
theorem s0_484 {n cs ss : Nat} {L : List Slot} {S : List Value} {H : AH} : orun code ret E0 0 (n + 1) (484, L, S, H, cs, ss) = (gI L 5).bind fun v => orun code ret E0 0 n (486, L, .int v :: S, H, cs, ss) := s_any k0_484
theorem s0_486 {n cs ss : Nat} {L : List Slot} {S : List Value} {H : AH} : orun code ret E0 0 (n + 1) (486, L, S, H, cs, ss) = orun code ret E0 0 n (487, L, (.int 3 :: S), H, cs, ss) := s_any k0_486
theorem s0_487 {n cs ss : Nat} {L : List Slot} {S : List Value} {H : AH} : orun code ret E0 0 (n + 1) (487, L, S, H, cs, ss) = pI S fun y S => pI S fun x r => if y < x then orun code ret E0 0 n (490, L, r, H, cs, ss) else orun code ret E0 0 n (511, L, r, H, cs, ss) := s_icmpN (Q := fun x y => y < x) (fun _ _ => h_le) k0_487 (by decide) (by decide)
theorem s0_490 {n cs ss : Nat} {L : List Slot} {S : List Value} {H : AH} : orun code ret E0 0 (n + 1) (490, L, S, H, cs, ss) = (gI L 29).bind fun v => orun code ret E0 0 n (492, L, .int v :: S, H, cs, ss) := s_any k0_490
theorem s0_492 {n cs ss : Nat} {L : List Slot} {S : List Value} {H : AH} : orun code ret E0 0 (n + 1) (492, L, S, H, cs, ss) = pI S fun x r => if x = 0 then orun code ret E0 0 n (508, L, r, H, cs, ss) else orun code ret E0 0 n (495, L, r, H, cs, ss) := s_if (Q := fun x => x = 0) (fun _ => z_eq) k0_492 (by decide) (by decide)
theorem s0_495 {n cs ss : Nat} {L : List Slot} {S : List Value} {H : AH} : orun code ret E0 0 (n + 1) (495, L, S, H, cs, ss) = (gA L 28).bind fun v => orun code ret E0 0 n (497, L, v :: S, H, cs, ss) := s_any k0_495
theorem s0_497 {n cs ss : Nat} {L : List Slot} {S : List Value} {H : AH} : orun code ret E0 0 (n + 1) (497, L, S, H, cs, ss) = orun code ret E0 0 n (498, L, (.int 3 :: S), H, cs, ss) := s_any k0_497
theorem s0_498 {n cs ss : Nat} {L : List Slot} {S : List Value} {H : AH} : orun code ret E0 0 (n + 1) (498, L, S, H, cs, ss) = ex ret E0 0 (orun code ret E0 0 n) (.iaload) 498 L S H cs ss := s_any k0_498
theorem s0_499 {n cs ss : Nat} {L : List Slot} {S : List Value} {H : AH} : orun code ret E0 0 (n + 1) (499, L, S, H, cs, ss) = (gI L 18).bind fun v => orun code ret E0 0 n (501, L, .int v :: S, H, cs, ss) := s_any k0_499
theorem s0_501 {n cs ss : Nat} {L : List Slot} {S : List Value} {H : AH} : orun code ret E0 0 (n + 1) (501, L, S, H, cs, ss) = pI S fun y S => pI S fun x r => if x = y then orun code ret E0 0 n (504, L, r, H, cs, ss) else orun code ret E0 0 n (508, L, r, H, cs, ss) := s_icmpN (Q := fun x y => x = y) (fun _ _ => h_ne) k0_501 (by decide) (by decide)
theorem s0_504 {n cs ss : Nat} {L : List Slot} {S : List Value} {H : AH} : orun code ret E0 0 (n + 1) (504, L, S, H, cs, ss) = orun code ret E0 0 n (505, L, (.int 1 :: S), H, cs, ss) := s_any k0_504
theorem s0_505 {n cs ss : Nat} {L : List Slot} {S : List Value} {H : AH} : orun code ret E0 0 (n + 1) (505, L, S, H, cs, ss) = orun code ret E0 0 n (509, L, S, H, cs, ss) := s_goto k0_505 (by decide) (by decide)
theorem s0_508 {n cs ss : Nat} {L : List Slot} {S : List Value} {H : AH} : orun code ret E0 0 (n + 1) (508, L, S, H, cs, ss) = orun code ret E0 0 n (509, L, (.int 0 :: S), H, cs, ss) := s_any k0_508
theorem s0_509 {n cs ss : Nat} {L : List Slot} {S : List Value} {H : AH} : orun code ret E0 0 (n + 1) (509, L, S, H, cs, ss) = pI S fun x r => (st1 L 29 (.int x)).bind fun L' => orun code ret E0 0 n (511, L', r, H, cs, ss) := s_any k0_509
theorem s0_511 {n cs ss : Nat} {L : List Slot} {S : List Value} {H : AH} : orun code ret E0 0 (n + 1) (511, L, S, H, cs, ss) = (gI L 29).bind fun v => orun code ret E0 0 n (513, L, .int v :: S, H, cs, ss) := s_any k0_511
theorem s0_513 {n cs ss : Nat} {L : List Slot} {S : List Value} {H : AH} : orun code ret E0 0 (n + 1) (513, L, S, H, cs, ss) = pI S fun z _ => some (some (.int (z &&& 1)), H) := s_any k0_513
theorem t0_0 {go : Nat → St → Option ORes} (hgo : go = orun code ret E0 0) {n cs ss : Nat} {l0 l1 l2 l3 l5 l6 l7 l8 l9 l10 l11 l12 l13 l14 l15 l16 l17 l18 l19 l20 l21 l22 l23 l24 l25 l26 l27 l28 l29 : Slot} {S : List Value} {H : AH} {q : Option ORes → Prop} {v : Int32} (h : Rsq (go n (2, [l0, l1, l2, l3, .val (.int v), l5, l6, l7, l8, l9, l10, l11, l12, l13, l14, l15, l16, l17, l18, l19, l20, l21, l22, l23, l24, l25, l26, l27, l28, l29], (.int v :: S), H, cs, ss)) q) : Rsq (go (n + 1) (0, [l0, l1, l2, l3, .val (.int v), l5, l6, l7, l8, l9, l10, l11, l12, l13, l14, l15, l16, l17, l18, l19, l20, l21, l22, l23, l24, l25, l26, l27, l28, l29], S, H, cs, ss)) q := by
  subst hgo
  exact res_of s0_0 h
theorem t0_2 {go : Nat → St → Option ORes} (hgo : go = orun code ret E0 0) {n cs ss : Nat} {L : List Slot} {S : List Value} {H : AH} {q : Option ORes → Prop} (h : Rsq (go n (5, L, (.int 255 :: S), H, cs, ss)) q) : Rsq (go (n + 1) (2, L, S, H, cs, ss)) q := by
  subst hgo
  exact res_of s0_2 h
theorem t0_5 {go : Nat → St → Option ORes} (hgo : go = orun code ret E0 0) {n cs ss : Nat} {L : List Slot} {S : List Value} {H : AH} {q : Option ORes → Prop} {x y : Int32} (h : Rsq (go n (6, L, (.int (x &&& y) :: S), H, cs, ss)) q) : Rsq (go (n + 1) (5, L, (.int y :: .int x :: S), H, cs, ss)) q := by
  subst hgo
  exact res_of s0_5 h
theorem t0_6 {go : Nat → St → Option ORes} (hgo : go = orun code ret E0 0) {n cs ss : Nat} {L : List Slot} {S : List Value} {H : AH} {q : Option ORes → Prop} (h : Rsq (go n (7, L, (.int 5 :: S), H, cs, ss)) q) : Rsq (go (n + 1) (6, L, S, H, cs, ss)) q := by
  subst hgo
  exact res_of s0_6 h
theorem t0_7 {go : Nat → St → Option ORes} (hgo : go = orun code ret E0 0) {n cs ss : Nat} {L : List Slot} {S : List Value} {H : AH} {q : Option ORes → Prop} {x y : Int32} (hz : ¬ y = 0) (h : Rsq (go n (8, L, (.int (x % y) :: S), H, cs, ss)) q) : Rsq (go (n + 1) (7, L, (.int y :: .int x :: S), H, cs, ss)) q := by
  subst hgo
  exact res_of s0_7 (res_f hz h)
theorem t0_8 {go : Nat → St → Option ORes} (hgo : go = orun code ret E0 0) {n cs ss : Nat} {l0 l1 l2 l3 l4 l5 l6 l7 l8 l9 l10 l11 l12 l13 l14 l15 l16 l17 l18 l19 l20 l21 l22 l23 l24 l25 l26 l27 l28 l29 : Slot} {S : List Value} {H : AH} {q : Option ORes → Prop} {x : Int32} (hk : so l5 = true) (h : Rsq (go n (10, [l0, l1, l2, l3, l4, .val (.int x), l6, l7, l8, l9, l10, l11, l12, l13, l14, l15, l16, l17, l18, l19, l20, l21, l22, l23, l24, l25, l26, l27, l28, l29], S, H, cs, ss)) q) : Rsq (go (n + 1) (8, [l0, l1, l2, l3, l4, l5, l6, l7, l8, l9, l10, l11, l12, l13, l14, l15, l16, l17, l18, l19, l20, l21, l22, l23, l24, l25, l26, l27, l28, l29], (.int x :: S), H, cs, ss)) q := by
  subst hgo
  refine res_of s0_8 ?_
  rw [pI_int, st1_so (L := [l0, l1, l2, l3, l4, l5, l6, l7, l8, l9, l10, l11, l12, l13, l14, l15, l16, l17, l18, l19, l20, l21, l22, l23, l24, l25, l26, l27, l28, l29]) (k := 5) (l := l5) rfl hk]
  exact h
theorem t0_10 {go : Nat → St → Option ORes} (hgo : go = orun code ret E0 0) {n cs ss : Nat} {l0 l1 l2 l3 l5 l6 l7 l8 l9 l10 l11 l12 l13 l14 l15 l16 l17 l18 l19 l20 l21 l22 l23 l24 l25 l26 l27 l28 l29 : Slot} {S : List Value} {H : AH} {q : Option ORes → Prop} {v : Int32} (h : Rsq (go n (12, [l0, l1, l2, l3, .val (.int v), l5, l6, l7, l8, l9, l10, l11, l12, l13, l14, l15, l16, l17, l18, l19, l20, l21, l22, l23, l24, l25, l26, l27, l28, l29], (.int v :: S), H, cs, ss)) q) : Rsq (go (n + 1) (10, [l0, l1, l2, l3, .val (.int v), l5, l6, l7, l8, l9, l10, l11, l12, l13, l14, l15, l16, l17, l18, l19, l20, l21, l22, l23, l24, l25, l26, l27, l28, l29], S, H, cs, ss)) q := by
  subst hgo
  exact res_of s0_10 h
theorem t0_12 {go : Nat → St → Option ORes} (hgo : go = orun code ret E0 0) {n cs ss : Nat} {L : List Slot} {S : List Value} {H : AH} {q : Option ORes → Prop} (h : Rsq (go n (14, L, (.int 8 :: S), H, cs, ss)) q) : Rsq (go (n + 1) (12, L, S, H, cs, ss)) q := by
  subst hgo
  exact res_of s0_12 h
theorem t0_14 {go : Nat → St → Option ORes} (hgo : go = orun code ret E0 0) {n cs ss : Nat} {L : List Slot} {S : List Value} {H : AH} {q : Option ORes → Prop} {x y : Int32} (h : Rsq (go n (15, L, (.int ((x.toUInt32 >>> (y &&& 31).toUInt32).toInt32) :: S), H, cs, ss)) q) : Rsq (go (n + 1) (14, L, (.int y :: .int x :: S), H, cs, ss)) q := by
  subst hgo
  exact res_of s0_14 h
theorem t0_15 {go : Nat → St → Option ORes} (hgo : go = orun code ret E0 0) {n cs ss : Nat} {l0 l1 l2 l3 l4 l5 l6 l7 l8 l9 l10 l11 l12 l13 l14 l15 l16 l17 l18 l19 l20 l21 l22 l23 l24 l25 l26 l27 l28 l29 : Slot} {S : List Value} {H : AH} {q : Option ORes → Prop} {x : Int32} (hk : so l6 = true) (h : Rsq (go n (17, [l0, l1, l2, l3, l4, l5, .val (.int x), l7, l8, l9, l10, l11, l12, l13, l14, l15, l16, l17, l18, l19, l20, l21, l22, l23, l24, l25, l26, l27, l28, l29], S, H, cs, ss)) q) : Rsq (go (n + 1) (15, [l0, l1, l2, l3, l4, l5, l6, l7, l8, l9, l10, l11, l12, l13, l14, l15, l16, l17, l18, l19, l20, l21, l22, l23, l24, l25, l26, l27, l28, l29], (.int x :: S), H, cs, ss)) q := by
  subst hgo
  refine res_of s0_15 ?_
  rw [pI_int, st1_so (L := [l0, l1, l2, l3, l4, l5, l6, l7, l8, l9, l10, l11, l12, l13, l14, l15, l16, l17, l18, l19, l20, l21, l22, l23, l24, l25, l26, l27, l28, l29]) (k := 6) (l := l6) rfl hk]
  exact h
theorem t0_17 {go : Nat → St → Option ORes} (hgo : go = orun code ret E0 0) {n cs ss : Nat} {L : List Slot} {S : List Value} {H : AH} {q : Option ORes → Prop} (h : Rsq (go n (18, L, (.long 1 :: S), H, cs, ss)) q) : Rsq (go (n + 1) (17, L, S, H, cs, ss)) q := by
  subst hgo
  exact res_of s0_17 h
theorem t0_18 {go : Nat → St → Option ORes} (hgo : go = orun code ret E0 0) {n cs ss : Nat} {l0 l2 l3 l4 l5 l6 l7 l8 l9 l10 l11 l12 l13 l14 l15 l16 l17 l18 l19 l20 l21 l22 l23 l24 l25 l26 l27 l28 l29 : Slot} {S : List Value} {H : AH} {q : Option ORes → Prop} {v : Int32} (h : Rsq (go n (19, [l0, .val (.int v), l2, l3, l4, l5, l6, l7, l8, l9, l10, l11, l12, l13, l14, l15, l16, l17, l18, l19, l20, l21, l22, l23, l24, l25, l26, l27, l28, l29], (.int v :: S), H, cs, ss)) q) : Rsq (go (n + 1) (18, [l0, .val (.int v), l2, l3, l4, l5, l6, l7, l8, l9, l10, l11, l12, l13, l14, l15, l16, l17, l18, l19, l20, l21, l22, l23, l24, l25, l26, l27, l28, l29], S, H, cs, ss)) q := by
  subst hgo
  exact res_of s0_18 h
theorem t0_19 {go : Nat → St → Option ORes} (hgo : go = orun code ret E0 0) {n cs ss : Nat} {L : List Slot} {S : List Value} {H : AH} {q : Option ORes → Prop} (h : Rsq (go n (21, L, (.int (1073741823) :: S), H, cs, ss)) q) : Rsq (go (n + 1) (19, L, S, H, cs, ss)) q := by
  subst hgo
  exact res_of s0_19 h
theorem t0_21 {go : Nat → St → Option ORes} (hgo : go = orun code ret E0 0) {n cs ss : Nat} {L : List Slot} {S : List Value} {H : AH} {q : Option ORes → Prop} {x y : Int32} (h : Rsq (go n (22, L, (.int (x &&& y) :: S), H, cs, ss)) q) : Rsq (go (n + 1) (21, L, (.int y :: .int x :: S), H, cs, ss)) q := by
  subst hgo
  exact res_of s0_21 h
theorem t0_22 {go : Nat → St → Option ORes} (hgo : go = orun code ret E0 0) {n cs ss : Nat} {L : List Slot} {S : List Value} {H : AH} {q : Option ORes → Prop} {x : Int32} (h : Rsq (go n (23, L, (.long x.toInt64 :: S), H, cs, ss)) q) : Rsq (go (n + 1) (22, L, (.int x :: S), H, cs, ss)) q := by
  subst hgo
  exact res_of s0_22 h
theorem t0_23 {go : Nat → St → Option ORes} (hgo : go = orun code ret E0 0) {n cs ss : Nat} {L : List Slot} {S : List Value} {H : AH} {q : Option ORes → Prop} {x y : Int64} (h : Rsq (go n (24, L, (.long (x + y) :: S), H, cs, ss)) q) : Rsq (go (n + 1) (23, L, (.long y :: .long x :: S), H, cs, ss)) q := by
  subst hgo
  exact res_of s0_23 h
theorem t0_24 {go : Nat → St → Option ORes} (hgo : go = orun code ret E0 0) {n cs ss : Nat} {l0 l1 l2 l3 l4 l5 l6 l7 l8 l9 l10 l11 l12 l13 l14 l15 l16 l17 l18 l19 l20 l21 l22 l23 l24 l25 l26 l27 l28 l29 : Slot} {S : List Value} {H : AH} {q : Option ORes → Prop} {x : Int64} (hk : so2 l7 l8 = true) (h : Rsq (go n (26, [l0, l1, l2, l3, l4, l5, l6, .val (.long x), .second, l9, l10, l11, l12, l13, l14, l15, l16, l17, l18, l19, l20, l21, l22, l23, l24, l25, l26, l27, l28, l29], S, H, cs, ss)) q) : Rsq (go (n + 1) (24, [l0, l1, l2, l3, l4, l5, l6, l7, l8, l9, l10, l11, l12, l13, l14, l15, l16, l17, l18, l19, l20, l21, l22, l23, l24, l25, l26, l27, l28, l29], (.long x :: S), H, cs, ss)) q := by
  subst hgo
  refine res_of s0_24 ?_
  rw [pL_long, st2_so (L := [l0, l1, l2, l3, l4, l5, l6, l7, l8, l9, l10, l11, l12, l13, l14, l15, l16, l17, l18, l19, l20, l21, l22, l23, l24, l25, l26, l27, l28, l29]) (k := 7) (l := l7) (l' := l8) rfl rfl hk]
  exact h
theorem t0_26 {go : Nat → St → Option ORes} (hgo : go = orun code ret E0 0) {n cs ss : Nat} {L : List Slot} {S : List Value} {H : AH} {q : Option ORes → Prop} (h : Rsq (go n (27, L, (.long 1 :: S), H, cs, ss)) q) : Rsq (go (n + 1) (26, L, S, H, cs, ss)) q := by
  subst hgo
  exact res_of s0_26 h
theorem t0_27 {go : Nat → St → Option ORes} (hgo : go = orun code ret E0 0) {n cs ss : Nat} {l0 l1 l3 l4 l5 l6 l7 l8 l9 l10 l11 l12 l13 l14 l15 l16 l17 l18 l19 l20 l21 l22 l23 l24 l25 l26 l27 l28 l29 : Slot} {S : List Value} {H : AH} {q : Option ORes → Prop} {v : Int32} (h : Rsq (go n (28, [l0, l1, .val (.int v), l3, l4, l5, l6, l7, l8, l9, l10, l11, l12, l13, l14, l15, l16, l17, l18, l19, l20, l21, l22, l23, l24, l25, l26, l27, l28, l29], (.int v :: S), H, cs, ss)) q) : Rsq (go (n + 1) (27, [l0, l1, .val (.int v), l3, l4, l5, l6, l7, l8, l9, l10, l11, l12, l13, l14, l15, l16, l17, l18, l19, l20, l21, l22, l23, l24, l25, l26, l27, l28, l29], S, H, cs, ss)) q := by
  subst hgo
  exact res_of s0_27 h
theorem t0_28 {go : Nat → St → Option ORes} (hgo : go = orun code ret E0 0) {n cs ss : Nat} {L : List Slot} {S : List Value} {H : AH} {q : Option ORes → Prop} (h : Rsq (go n (30, L, (.int (1073741823) :: S), H, cs, ss)) q) : Rsq (go (n + 1) (28, L, S, H, cs, ss)) q := by
  subst hgo
  exact res_of s0_28 h
theorem t0_30 {go : Nat → St → Option ORes} (hgo : go = orun code ret E0 0) {n cs ss : Nat} {L : List Slot} {S : List Value} {H : AH} {q : Option ORes → Prop} {x y : Int32} (h : Rsq (go n (31, L, (.int (x &&& y) :: S), H, cs, ss)) q) : Rsq (go (n + 1) (30, L, (.int y :: .int x :: S), H, cs, ss)) q := by
  subst hgo
  exact res_of s0_30 h
theorem t0_31 {go : Nat → St → Option ORes} (hgo : go = orun code ret E0 0) {n cs ss : Nat} {L : List Slot} {S : List Value} {H : AH} {q : Option ORes → Prop} {x : Int32} (h : Rsq (go n (32, L, (.long x.toInt64 :: S), H, cs, ss)) q) : Rsq (go (n + 1) (31, L, (.int x :: S), H, cs, ss)) q := by
  subst hgo
  exact res_of s0_31 h
theorem t0_32 {go : Nat → St → Option ORes} (hgo : go = orun code ret E0 0) {n cs ss : Nat} {L : List Slot} {S : List Value} {H : AH} {q : Option ORes → Prop} {x y : Int64} (h : Rsq (go n (33, L, (.long (x + y) :: S), H, cs, ss)) q) : Rsq (go (n + 1) (32, L, (.long y :: .long x :: S), H, cs, ss)) q := by
  subst hgo
  exact res_of s0_32 h
theorem t0_33 {go : Nat → St → Option ORes} (hgo : go = orun code ret E0 0) {n cs ss : Nat} {l0 l1 l2 l3 l4 l5 l6 l7 l8 l9 l10 l11 l12 l13 l14 l15 l16 l17 l18 l19 l20 l21 l22 l23 l24 l25 l26 l27 l28 l29 : Slot} {S : List Value} {H : AH} {q : Option ORes → Prop} {x : Int64} (hk : so2 l9 l10 = true) (h : Rsq (go n (35, [l0, l1, l2, l3, l4, l5, l6, l7, l8, .val (.long x), .second, l11, l12, l13, l14, l15, l16, l17, l18, l19, l20, l21, l22, l23, l24, l25, l26, l27, l28, l29], S, H, cs, ss)) q) : Rsq (go (n + 1) (33, [l0, l1, l2, l3, l4, l5, l6, l7, l8, l9, l10, l11, l12, l13, l14, l15, l16, l17, l18, l19, l20, l21, l22, l23, l24, l25, l26, l27, l28, l29], (.long x :: S), H, cs, ss)) q := by
  subst hgo
  refine res_of s0_33 ?_
  rw [pL_long, st2_so (L := [l0, l1, l2, l3, l4, l5, l6, l7, l8, l9, l10, l11, l12, l13, l14, l15, l16, l17, l18, l19, l20, l21, l22, l23, l24, l25, l26, l27, l28, l29]) (k := 9) (l := l9) (l' := l10) rfl rfl hk]
  exact h
theorem t0_35 {go : Nat → St → Option ORes} (hgo : go = orun code ret E0 0) {n cs ss : Nat} {L : List Slot} {S : List Value} {H : AH} {q : Option ORes → Prop} (h : Rsq (go n (36, L, (.long 1 :: S), H, cs, ss)) q) : Rsq (go (n + 1) (35, L, S, H, cs, ss)) q := by
  subst hgo
  exact res_of s0_35 h
theorem t0_36 {go : Nat → St → Option ORes} (hgo : go = orun code ret E0 0) {n cs ss : Nat} {l0 l1 l2 l4 l5 l6 l7 l8 l9 l10 l11 l12 l13 l14 l15 l16 l17 l18 l19 l20 l21 l22 l23 l24 l25 l26 l27 l28 l29 : Slot} {S : List Value} {H : AH} {q : Option ORes → Prop} {v : Int32} (h : Rsq (go n (37, [l0, l1, l2, .val (.int v), l4, l5, l6, l7, l8, l9, l10, l11, l12, l13, l14, l15, l16, l17, l18, l19, l20, l21, l22, l23, l24, l25, l26, l27, l28, l29], (.int v :: S), H, cs, ss)) q) : Rsq (go (n + 1) (36, [l0, l1, l2, .val (.int v), l4, l5, l6, l7, l8, l9, l10, l11, l12, l13, l14, l15, l16, l17, l18, l19, l20, l21, l22, l23, l24, l25, l26, l27, l28, l29], S, H, cs, ss)) q := by
  subst hgo
  exact res_of s0_36 h
theorem t0_37 {go : Nat → St → Option ORes} (hgo : go = orun code ret E0 0) {n cs ss : Nat} {L : List Slot} {S : List Value} {H : AH} {q : Option ORes → Prop} (h : Rsq (go n (39, L, (.int (1073741823) :: S), H, cs, ss)) q) : Rsq (go (n + 1) (37, L, S, H, cs, ss)) q := by
  subst hgo
  exact res_of s0_37 h
theorem t0_39 {go : Nat → St → Option ORes} (hgo : go = orun code ret E0 0) {n cs ss : Nat} {L : List Slot} {S : List Value} {H : AH} {q : Option ORes → Prop} {x y : Int32} (h : Rsq (go n (40, L, (.int (x &&& y) :: S), H, cs, ss)) q) : Rsq (go (n + 1) (39, L, (.int y :: .int x :: S), H, cs, ss)) q := by
  subst hgo
  exact res_of s0_39 h
theorem t0_40 {go : Nat → St → Option ORes} (hgo : go = orun code ret E0 0) {n cs ss : Nat} {L : List Slot} {S : List Value} {H : AH} {q : Option ORes → Prop} {x : Int32} (h : Rsq (go n (41, L, (.long x.toInt64 :: S), H, cs, ss)) q) : Rsq (go (n + 1) (40, L, (.int x :: S), H, cs, ss)) q := by
  subst hgo
  exact res_of s0_40 h
theorem t0_41 {go : Nat → St → Option ORes} (hgo : go = orun code ret E0 0) {n cs ss : Nat} {L : List Slot} {S : List Value} {H : AH} {q : Option ORes → Prop} {x y : Int64} (h : Rsq (go n (42, L, (.long (x + y) :: S), H, cs, ss)) q) : Rsq (go (n + 1) (41, L, (.long y :: .long x :: S), H, cs, ss)) q := by
  subst hgo
  exact res_of s0_41 h
theorem t0_42 {go : Nat → St → Option ORes} (hgo : go = orun code ret E0 0) {n cs ss : Nat} {l0 l1 l2 l3 l4 l5 l6 l7 l8 l9 l10 l11 l12 l13 l14 l15 l16 l17 l18 l19 l20 l21 l22 l23 l24 l25 l26 l27 l28 l29 : Slot} {S : List Value} {H : AH} {q : Option ORes → Prop} {x : Int64} (hk : so2 l11 l12 = true) (h : Rsq (go n (44, [l0, l1, l2, l3, l4, l5, l6, l7, l8, l9, l10, .val (.long x), .second, l13, l14, l15, l16, l17, l18, l19, l20, l21, l22, l23, l24, l25, l26, l27, l28, l29], S, H, cs, ss)) q) : Rsq (go (n + 1) (42, [l0, l1, l2, l3, l4, l5, l6, l7, l8, l9, l10, l11, l12, l13, l14, l15, l16, l17, l18, l19, l20, l21, l22, l23, l24, l25, l26, l27, l28, l29], (.long x :: S), H, cs, ss)) q := by
  subst hgo
  refine res_of s0_42 ?_
  rw [pL_long, st2_so (L := [l0, l1, l2, l3, l4, l5, l6, l7, l8, l9, l10, l11, l12, l13, l14, l15, l16, l17, l18, l19, l20, l21, l22, l23, l24, l25, l26, l27, l28, l29]) (k := 11) (l := l11) (l' := l12) rfl rfl hk]
  exact h
theorem t0_44 {go : Nat → St → Option ORes} (hgo : go = orun code ret E0 0) {n cs ss : Nat} {l1 l2 l3 l4 l5 l6 l7 l8 l9 l10 l11 l12 l13 l14 l15 l16 l17 l18 l19 l20 l21 l22 l23 l24 l25 l26 l27 l28 l29 : Slot} {S : List Value} {H : AH} {q : Option ORes → Prop} {v : Int32} (h : Rsq (go n (45, [.val (.int v), l1, l2, l3, l4, l5, l6, l7, l8, l9, l10, l11, l12, l13, l14, l15, l16, l17, l18, l19, l20, l21, l22, l23, l24, l25, l26, l27, l28, l29], (.int v :: S), H, cs, ss)) q) : Rsq (go (n + 1) (44, [.val (.int v), l1, l2, l3, l4, l5, l6, l7, l8, l9, l10, l11, l12, l13, l14, l15, l16, l17, l18, l19, l20, l21, l22, l23, l24, l25, l26, l27, l28, l29], S, H, cs, ss)) q := by
  subst hgo
  exact res_of s0_44 h
theorem t0_45 {go : Nat → St → Option ORes} (hgo : go = orun code ret E0 0) {n cs ss : Nat} {L : List Slot} {S : List Value} {H : AH} {q : Option ORes → Prop} {x : Int32} (h : Rsq (go n (46, L, (.long x.toInt64 :: S), H, cs, ss)) q) : Rsq (go (n + 1) (45, L, (.int x :: S), H, cs, ss)) q := by
  subst hgo
  exact res_of s0_45 h
theorem t0_46 {go : Nat → St → Option ORes} (hgo : go = orun code ret E0 0) {n cs ss : Nat} {L : List Slot} {S : List Value} {H : AH} {q : Option ORes → Prop} (h : Rsq (go n (49, L, (.long (2147483647) :: S), H, cs, ss)) q) : Rsq (go (n + 1) (46, L, S, H, cs, ss)) q := by
  subst hgo
  exact res_of s0_46 h
theorem t0_49 {go : Nat → St → Option ORes} (hgo : go = orun code ret E0 0) {n cs ss : Nat} {l0 l1 l2 l3 l4 l5 l6 l8 l9 l10 l11 l12 l13 l14 l15 l16 l17 l18 l19 l20 l21 l22 l23 l24 l25 l26 l27 l28 l29 : Slot} {S : List Value} {H : AH} {q : Option ORes → Prop} {v : Int64} (h : Rsq (go n (51, [l0, l1, l2, l3, l4, l5, l6, .val (.long v), l8, l9, l10, l11, l12, l13, l14, l15, l16, l17, l18, l19, l20, l21, l22, l23, l24, l25, l26, l27, l28, l29], (.long v :: S), H, cs, ss)) q) : Rsq (go (n + 1) (49, [l0, l1, l2, l3, l4, l5, l6, .val (.long v), l8, l9, l10, l11, l12, l13, l14, l15, l16, l17, l18, l19, l20, l21, l22, l23, l24, l25, l26, l27, l28, l29], S, H, cs, ss)) q := by
  subst hgo
  exact res_of s0_49 h
theorem t0_51 {go : Nat → St → Option ORes} (hgo : go = orun code ret E0 0) {n cs ss : Nat} {L : List Slot} {S : List Value} {H : AH} {q : Option ORes → Prop} {x y : Int64} (h : Rsq (go n (52, L, (.long (x - y) :: S), H, cs, ss)) q) : Rsq (go (n + 1) (51, L, (.long y :: .long x :: S), H, cs, ss)) q := by
  subst hgo
  exact res_of s0_51 h
theorem t0_52 {go : Nat → St → Option ORes} (hgo : go = orun code ret E0 0) {n cs ss : Nat} {l0 l1 l2 l3 l4 l5 l6 l7 l8 l10 l11 l12 l13 l14 l15 l16 l17 l18 l19 l20 l21 l22 l23 l24 l25 l26 l27 l28 l29 : Slot} {S : List Value} {H : AH} {q : Option ORes → Prop} {v : Int64} (h : Rsq (go n (54, [l0, l1, l2, l3, l4, l5, l6, l7, l8, .val (.long v), l10, l11, l12, l13, l14, l15, l16, l17, l18, l19, l20, l21, l22, l23, l24, l25, l26, l27, l28, l29], (.long v :: S), H, cs, ss)) q) : Rsq (go (n + 1) (52, [l0, l1, l2, l3, l4, l5, l6, l7, l8, .val (.long v), l10, l11, l12, l13, l14, l15, l16, l17, l18, l19, l20, l21, l22, l23, l24, l25, l26, l27, l28, l29], S, H, cs, ss)) q := by
  subst hgo
  exact res_of s0_52 h
theorem t0_54 {go : Nat → St → Option ORes} (hgo : go = orun code ret E0 0) {n cs ss : Nat} {L : List Slot} {S : List Value} {H : AH} {q : Option ORes → Prop} {x y : Int64} (h : Rsq (go n (55, L, (.long (x - y) :: S), H, cs, ss)) q) : Rsq (go (n + 1) (54, L, (.long y :: .long x :: S), H, cs, ss)) q := by
  subst hgo
  exact res_of s0_54 h
theorem t0_55 {go : Nat → St → Option ORes} (hgo : go = orun code ret E0 0) {n cs ss : Nat} {l0 l1 l2 l3 l4 l5 l6 l7 l8 l9 l10 l12 l13 l14 l15 l16 l17 l18 l19 l20 l21 l22 l23 l24 l25 l26 l27 l28 l29 : Slot} {S : List Value} {H : AH} {q : Option ORes → Prop} {v : Int64} (h : Rsq (go n (57, [l0, l1, l2, l3, l4, l5, l6, l7, l8, l9, l10, .val (.long v), l12, l13, l14, l15, l16, l17, l18, l19, l20, l21, l22, l23, l24, l25, l26, l27, l28, l29], (.long v :: S), H, cs, ss)) q) : Rsq (go (n + 1) (55, [l0, l1, l2, l3, l4, l5, l6, l7, l8, l9, l10, .val (.long v), l12, l13, l14, l15, l16, l17, l18, l19, l20, l21, l22, l23, l24, l25, l26, l27, l28, l29], S, H, cs, ss)) q := by
  subst hgo
  exact res_of s0_55 h
theorem t0_57 {go : Nat → St → Option ORes} (hgo : go = orun code ret E0 0) {n cs ss : Nat} {L : List Slot} {S : List Value} {H : AH} {q : Option ORes → Prop} {x y : Int64} (h : Rsq (go n (58, L, (.long (x - y) :: S), H, cs, ss)) q) : Rsq (go (n + 1) (57, L, (.long y :: .long x :: S), H, cs, ss)) q := by
  subst hgo
  exact res_of s0_57 h
theorem u0_58 {go : Nat → St → Option ORes} (hgo : go = orun code ret E0 0) {n cs ss : Nat} {L : List Slot} {S : List Value} {H : AH} : go (n + 1) (58, L, S, H, cs, ss) = (aCall 2 6 16 128 0 0 F1 S H cs ss).bind fun r => go n (61, L, r.1, r.2.1, r.2.2.1, r.2.2.2) := by
  subst hgo
  exact s0_58
theorem t0_61 {go : Nat → St → Option ORes} (hgo : go = orun code ret E0 0) {n cs ss : Nat} {l0 l1 l2 l3 l4 l5 l6 l7 l8 l9 l10 l11 l12 l13 l14 l15 l16 l17 l18 l19 l20 l21 l22 l23 l24 l25 l26 l27 l28 l29 : Slot} {S : List Value} {H : AH} {q : Option ORes → Prop} {x : Int64} (hk : so2 l13 l14 = true) (h : Rsq (go n (63, [l0, l1, l2, l3, l4, l5, l6, l7, l8, l9, l10, l11, l12, .val (.long x), .second, l15, l16, l17, l18, l19, l20, l21, l22, l23, l24, l25, l26, l27, l28, l29], S, H, cs, ss)) q) : Rsq (go (n + 1) (61, [l0, l1, l2, l3, l4, l5, l6, l7, l8, l9, l10, l11, l12, l13, l14, l15, l16, l17, l18, l19, l20, l21, l22, l23, l24, l25, l26, l27, l28, l29], (.long x :: S), H, cs, ss)) q := by
  subst hgo
  refine res_of s0_61 ?_
  rw [pL_long, st2_so (L := [l0, l1, l2, l3, l4, l5, l6, l7, l8, l9, l10, l11, l12, l13, l14, l15, l16, l17, l18, l19, l20, l21, l22, l23, l24, l25, l26, l27, l28, l29]) (k := 13) (l := l13) (l' := l14) rfl rfl hk]
  exact h
theorem t0_63 {go : Nat → St → Option ORes} (hgo : go = orun code ret E0 0) {n cs ss : Nat} {l0 l1 l2 l3 l4 l5 l6 l7 l8 l9 l10 l11 l12 l14 l15 l16 l17 l18 l19 l20 l21 l22 l23 l24 l25 l26 l27 l28 l29 : Slot} {S : List Value} {H : AH} {q : Option ORes → Prop} {v : Int64} (h : Rsq (go n (65, [l0, l1, l2, l3, l4, l5, l6, l7, l8, l9, l10, l11, l12, .val (.long v), l14, l15, l16, l17, l18, l19, l20, l21, l22, l23, l24, l25, l26, l27, l28, l29], (.long v :: S), H, cs, ss)) q) : Rsq (go (n + 1) (63, [l0, l1, l2, l3, l4, l5, l6, l7, l8, l9, l10, l11, l12, .val (.long v), l14, l15, l16, l17, l18, l19, l20, l21, l22, l23, l24, l25, l26, l27, l28, l29], S, H, cs, ss)) q := by
  subst hgo
  exact res_of s0_63 h
theorem t0_65 {go : Nat → St → Option ORes} (hgo : go = orun code ret E0 0) {n cs ss : Nat} {L : List Slot} {S : List Value} {H : AH} {q : Option ORes → Prop} {x : Int64} (h : Rsq (go n (66, L, (.int x.toInt32 :: S), H, cs, ss)) q) : Rsq (go (n + 1) (65, L, (.long x :: S), H, cs, ss)) q := by
  subst hgo
  exact res_of s0_65 h
theorem t0_66 {go : Nat → St → Option ORes} (hgo : go = orun code ret E0 0) {n cs ss : Nat} {l0 l1 l2 l3 l4 l5 l6 l7 l8 l9 l10 l11 l12 l13 l14 l15 l16 l17 l18 l19 l20 l21 l22 l23 l24 l25 l26 l27 l28 l29 : Slot} {S : List Value} {H : AH} {q : Option ORes → Prop} {x : Int32} (hk : so l15 = true) (h : Rsq (go n (68, [l0, l1, l2, l3, l4, l5, l6, l7, l8, l9, l10, l11, l12, l13, l14, .val (.int x), l16, l17, l18, l19, l20, l21, l22, l23, l24, l25, l26, l27, l28, l29], S, H, cs, ss)) q) : Rsq (go (n + 1) (66, [l0, l1, l2, l3, l4, l5, l6, l7, l8, l9, l10, l11, l12, l13, l14, l15, l16, l17, l18, l19, l20, l21, l22, l23, l24, l25, l26, l27, l28, l29], (.int x :: S), H, cs, ss)) q := by
  subst hgo
  refine res_of s0_66 ?_
  rw [pI_int, st1_so (L := [l0, l1, l2, l3, l4, l5, l6, l7, l8, l9, l10, l11, l12, l13, l14, l15, l16, l17, l18, l19, l20, l21, l22, l23, l24, l25, l26, l27, l28, l29]) (k := 15) (l := l15) rfl hk]
  exact h
theorem t0_68 {go : Nat → St → Option ORes} (hgo : go = orun code ret E0 0) {n cs ss : Nat} {l0 l1 l2 l3 l4 l5 l6 l7 l8 l9 l10 l11 l12 l14 l15 l16 l17 l18 l19 l20 l21 l22 l23 l24 l25 l26 l27 l28 l29 : Slot} {S : List Value} {H : AH} {q : Option ORes → Prop} {v : Int64} (h : Rsq (go n (70, [l0, l1, l2, l3, l4, l5, l6, l7, l8, l9, l10, l11, l12, .val (.long v), l14, l15, l16, l17, l18, l19, l20, l21, l22, l23, l24, l25, l26, l27, l28, l29], (.long v :: S), H, cs, ss)) q) : Rsq (go (n + 1) (68, [l0, l1, l2, l3, l4, l5, l6, l7, l8, l9, l10, l11, l12, .val (.long v), l14, l15, l16, l17, l18, l19, l20, l21, l22, l23, l24, l25, l26, l27, l28, l29], S, H, cs, ss)) q := by
  subst hgo
  exact res_of s0_68 h
theorem t0_70 {go : Nat → St → Option ORes} (hgo : go = orun code ret E0 0) {n cs ss : Nat} {l0 l1 l2 l3 l4 l5 l6 l8 l9 l10 l11 l12 l13 l14 l15 l16 l17 l18 l19 l20 l21 l22 l23 l24 l25 l26 l27 l28 l29 : Slot} {S : List Value} {H : AH} {q : Option ORes → Prop} {v : Int64} (h : Rsq (go n (72, [l0, l1, l2, l3, l4, l5, l6, .val (.long v), l8, l9, l10, l11, l12, l13, l14, l15, l16, l17, l18, l19, l20, l21, l22, l23, l24, l25, l26, l27, l28, l29], (.long v :: S), H, cs, ss)) q) : Rsq (go (n + 1) (70, [l0, l1, l2, l3, l4, l5, l6, .val (.long v), l8, l9, l10, l11, l12, l13, l14, l15, l16, l17, l18, l19, l20, l21, l22, l23, l24, l25, l26, l27, l28, l29], S, H, cs, ss)) q := by
  subst hgo
  exact res_of s0_70 h
theorem t0_72 {go : Nat → St → Option ORes} (hgo : go = orun code ret E0 0) {n cs ss : Nat} {L : List Slot} {S : List Value} {H : AH} {q : Option ORes → Prop} {x y : Int64} (h : Rsq (go n (73, L, (.long (x + y) :: S), H, cs, ss)) q) : Rsq (go (n + 1) (72, L, (.long y :: .long x :: S), H, cs, ss)) q := by
  subst hgo
  exact res_of s0_72 h
theorem t0_73 {go : Nat → St → Option ORes} (hgo : go = orun code ret E0 0) {n cs ss : Nat} {L : List Slot} {S : List Value} {H : AH} {q : Option ORes → Prop} {x : Int64} (h : Rsq (go n (74, L, (.int x.toInt32 :: S), H, cs, ss)) q) : Rsq (go (n + 1) (73, L, (.long x :: S), H, cs, ss)) q := by
  subst hgo
  exact res_of s0_73 h
theorem t0_74 {go : Nat → St → Option ORes} (hgo : go = orun code ret E0 0) {n cs ss : Nat} {l0 l1 l2 l3 l4 l5 l6 l7 l8 l9 l10 l11 l12 l13 l14 l15 l16 l17 l18 l19 l20 l21 l22 l23 l24 l25 l26 l27 l28 l29 : Slot} {S : List Value} {H : AH} {q : Option ORes → Prop} {x : Int32} (hk : so l16 = true) (h : Rsq (go n (76, [l0, l1, l2, l3, l4, l5, l6, l7, l8, l9, l10, l11, l12, l13, l14, l15, .val (.int x), l17, l18, l19, l20, l21, l22, l23, l24, l25, l26, l27, l28, l29], S, H, cs, ss)) q) : Rsq (go (n + 1) (74, [l0, l1, l2, l3, l4, l5, l6, l7, l8, l9, l10, l11, l12, l13, l14, l15, l16, l17, l18, l19, l20, l21, l22, l23, l24, l25, l26, l27, l28, l29], (.int x :: S), H, cs, ss)) q := by
  subst hgo
  refine res_of s0_74 ?_
  rw [pI_int, st1_so (L := [l0, l1, l2, l3, l4, l5, l6, l7, l8, l9, l10, l11, l12, l13, l14, l15, l16, l17, l18, l19, l20, l21, l22, l23, l24, l25, l26, l27, l28, l29]) (k := 16) (l := l16) rfl hk]
  exact h
theorem t0_76 {go : Nat → St → Option ORes} (hgo : go = orun code ret E0 0) {n cs ss : Nat} {l0 l1 l2 l3 l4 l5 l6 l7 l8 l9 l10 l11 l12 l14 l15 l16 l17 l18 l19 l20 l21 l22 l23 l24 l25 l26 l27 l28 l29 : Slot} {S : List Value} {H : AH} {q : Option ORes → Prop} {v : Int64} (h : Rsq (go n (78, [l0, l1, l2, l3, l4, l5, l6, l7, l8, l9, l10, l11, l12, .val (.long v), l14, l15, l16, l17, l18, l19, l20, l21, l22, l23, l24, l25, l26, l27, l28, l29], (.long v :: S), H, cs, ss)) q) : Rsq (go (n + 1) (76, [l0, l1, l2, l3, l4, l5, l6, l7, l8, l9, l10, l11, l12, .val (.long v), l14, l15, l16, l17, l18, l19, l20, l21, l22, l23, l24, l25, l26, l27, l28, l29], S, H, cs, ss)) q := by
  subst hgo
  exact res_of s0_76 h
theorem t0_78 {go : Nat → St → Option ORes} (hgo : go = orun code ret E0 0) {n cs ss : Nat} {l0 l1 l2 l3 l4 l5 l6 l8 l9 l10 l11 l12 l13 l14 l15 l16 l17 l18 l19 l20 l21 l22 l23 l24 l25 l26 l27 l28 l29 : Slot} {S : List Value} {H : AH} {q : Option ORes → Prop} {v : Int64} (h : Rsq (go n (80, [l0, l1, l2, l3, l4, l5, l6, .val (.long v), l8, l9, l10, l11, l12, l13, l14, l15, l16, l17, l18, l19, l20, l21, l22, l23, l24, l25, l26, l27, l28, l29], (.long v :: S), H, cs, ss)) q) : Rsq (go (n + 1) (78, [l0, l1, l2, l3, l4, l5, l6, .val (.long v), l8, l9, l10, l11, l12, l13, l14, l15, l16, l17, l18, l19, l20, l21, l22, l23, l24, l25, l26, l27, l28, l29], S, H, cs, ss)) q := by
  subst hgo
  exact res_of s0_78 h
theorem t0_80 {go : Nat → St → Option ORes} (hgo : go = orun code ret E0 0) {n cs ss : Nat} {L : List Slot} {S : List Value} {H : AH} {q : Option ORes → Prop} {x y : Int64} (h : Rsq (go n (81, L, (.long (x + y) :: S), H, cs, ss)) q) : Rsq (go (n + 1) (80, L, (.long y :: .long x :: S), H, cs, ss)) q := by
  subst hgo
  exact res_of s0_80 h
theorem t0_81 {go : Nat → St → Option ORes} (hgo : go = orun code ret E0 0) {n cs ss : Nat} {l0 l1 l2 l3 l4 l5 l6 l7 l8 l10 l11 l12 l13 l14 l15 l16 l17 l18 l19 l20 l21 l22 l23 l24 l25 l26 l27 l28 l29 : Slot} {S : List Value} {H : AH} {q : Option ORes → Prop} {v : Int64} (h : Rsq (go n (83, [l0, l1, l2, l3, l4, l5, l6, l7, l8, .val (.long v), l10, l11, l12, l13, l14, l15, l16, l17, l18, l19, l20, l21, l22, l23, l24, l25, l26, l27, l28, l29], (.long v :: S), H, cs, ss)) q) : Rsq (go (n + 1) (81, [l0, l1, l2, l3, l4, l5, l6, l7, l8, .val (.long v), l10, l11, l12, l13, l14, l15, l16, l17, l18, l19, l20, l21, l22, l23, l24, l25, l26, l27, l28, l29], S, H, cs, ss)) q := by
  subst hgo
  exact res_of s0_81 h
theorem t0_83 {go : Nat → St → Option ORes} (hgo : go = orun code ret E0 0) {n cs ss : Nat} {L : List Slot} {S : List Value} {H : AH} {q : Option ORes → Prop} {x y : Int64} (h : Rsq (go n (84, L, (.long (x + y) :: S), H, cs, ss)) q) : Rsq (go (n + 1) (83, L, (.long y :: .long x :: S), H, cs, ss)) q := by
  subst hgo
  exact res_of s0_83 h
theorem t0_84 {go : Nat → St → Option ORes} (hgo : go = orun code ret E0 0) {n cs ss : Nat} {L : List Slot} {S : List Value} {H : AH} {q : Option ORes → Prop} {x : Int64} (h : Rsq (go n (85, L, (.int x.toInt32 :: S), H, cs, ss)) q) : Rsq (go (n + 1) (84, L, (.long x :: S), H, cs, ss)) q := by
  subst hgo
  exact res_of s0_84 h
theorem t0_85 {go : Nat → St → Option ORes} (hgo : go = orun code ret E0 0) {n cs ss : Nat} {l0 l1 l2 l3 l4 l5 l6 l7 l8 l9 l10 l11 l12 l13 l14 l15 l16 l17 l18 l19 l20 l21 l22 l23 l24 l25 l26 l27 l28 l29 : Slot} {S : List Value} {H : AH} {q : Option ORes → Prop} {x : Int32} (hk : so l17 = true) (h : Rsq (go n (87, [l0, l1, l2, l3, l4, l5, l6, l7, l8, l9, l10, l11, l12, l13, l14, l15, l16, .val (.int x), l18, l19, l20, l21, l22, l23, l24, l25, l26, l27, l28, l29], S, H, cs, ss)) q) : Rsq (go (n + 1) (85, [l0, l1, l2, l3, l4, l5, l6, l7, l8, l9, l10, l11, l12, l13, l14, l15, l16, l17, l18, l19, l20, l21, l22, l23, l24, l25, l26, l27, l28, l29], (.int x :: S), H, cs, ss)) q := by
  subst hgo
  refine res_of s0_85 ?_
  rw [pI_int, st1_so (L := [l0, l1, l2, l3, l4, l5, l6, l7, l8, l9, l10, l11, l12, l13, l14, l15, l16, l17, l18, l19, l20, l21, l22, l23, l24, l25, l26, l27, l28, l29]) (k := 17) (l := l17) rfl hk]
  exact h
theorem t0_87 {go : Nat → St → Option ORes} (hgo : go = orun code ret E0 0) {n cs ss : Nat} {l0 l1 l2 l3 l4 l5 l6 l7 l8 l9 l10 l11 l12 l14 l15 l16 l17 l18 l19 l20 l21 l22 l23 l24 l25 l26 l27 l28 l29 : Slot} {S : List Value} {H : AH} {q : Option ORes → Prop} {v : Int64} (h : Rsq (go n (89, [l0, l1, l2, l3, l4, l5, l6, l7, l8, l9, l10, l11, l12, .val (.long v), l14, l15, l16, l17, l18, l19, l20, l21, l22, l23, l24, l25, l26, l27, l28, l29], (.long v :: S), H, cs, ss)) q) : Rsq (go (n + 1) (87, [l0, l1, l2, l3, l4, l5, l6, l7, l8, l9, l10, l11, l12, .val (.long v), l14, l15, l16, l17, l18, l19, l20, l21, l22, l23, l24, l25, l26, l27, l28, l29], S, H, cs, ss)) q := by
  subst hgo
  exact res_of s0_87 h
theorem t0_89 {go : Nat → St → Option ORes} (hgo : go = orun code ret E0 0) {n cs ss : Nat} {l0 l1 l2 l3 l4 l5 l6 l8 l9 l10 l11 l12 l13 l14 l15 l16 l17 l18 l19 l20 l21 l22 l23 l24 l25 l26 l27 l28 l29 : Slot} {S : List Value} {H : AH} {q : Option ORes → Prop} {v : Int64} (h : Rsq (go n (91, [l0, l1, l2, l3, l4, l5, l6, .val (.long v), l8, l9, l10, l11, l12, l13, l14, l15, l16, l17, l18, l19, l20, l21, l22, l23, l24, l25, l26, l27, l28, l29], (.long v :: S), H, cs, ss)) q) : Rsq (go (n + 1) (89, [l0, l1, l2, l3, l4, l5, l6, .val (.long v), l8, l9, l10, l11, l12, l13, l14, l15, l16, l17, l18, l19, l20, l21, l22, l23, l24, l25, l26, l27, l28, l29], S, H, cs, ss)) q := by
  subst hgo
  exact res_of s0_89 h
theorem t0_91 {go : Nat → St → Option ORes} (hgo : go = orun code ret E0 0) {n cs ss : Nat} {L : List Slot} {S : List Value} {H : AH} {q : Option ORes → Prop} {x y : Int64} (h : Rsq (go n (92, L, (.long (x + y) :: S), H, cs, ss)) q) : Rsq (go (n + 1) (91, L, (.long y :: .long x :: S), H, cs, ss)) q := by
  subst hgo
  exact res_of s0_91 h
theorem t0_92 {go : Nat → St → Option ORes} (hgo : go = orun code ret E0 0) {n cs ss : Nat} {l0 l1 l2 l3 l4 l5 l6 l7 l8 l10 l11 l12 l13 l14 l15 l16 l17 l18 l19 l20 l21 l22 l23 l24 l25 l26 l27 l28 l29 : Slot} {S : List Value} {H : AH} {q : Option ORes → Prop} {v : Int64} (h : Rsq (go n (94, [l0, l1, l2, l3, l4, l5, l6, l7, l8, .val (.long v), l10, l11, l12, l13, l14, l15, l16, l17, l18, l19, l20, l21, l22, l23, l24, l25, l26, l27, l28, l29], (.long v :: S), H, cs, ss)) q) : Rsq (go (n + 1) (92, [l0, l1, l2, l3, l4, l5, l6, l7, l8, .val (.long v), l10, l11, l12, l13, l14, l15, l16, l17, l18, l19, l20, l21, l22, l23, l24, l25, l26, l27, l28, l29], S, H, cs, ss)) q := by
  subst hgo
  exact res_of s0_92 h
theorem t0_94 {go : Nat → St → Option ORes} (hgo : go = orun code ret E0 0) {n cs ss : Nat} {L : List Slot} {S : List Value} {H : AH} {q : Option ORes → Prop} {x y : Int64} (h : Rsq (go n (95, L, (.long (x + y) :: S), H, cs, ss)) q) : Rsq (go (n + 1) (94, L, (.long y :: .long x :: S), H, cs, ss)) q := by
  subst hgo
  exact res_of s0_94 h
theorem t0_95 {go : Nat → St → Option ORes} (hgo : go = orun code ret E0 0) {n cs ss : Nat} {l0 l1 l2 l3 l4 l5 l6 l7 l8 l9 l10 l12 l13 l14 l15 l16 l17 l18 l19 l20 l21 l22 l23 l24 l25 l26 l27 l28 l29 : Slot} {S : List Value} {H : AH} {q : Option ORes → Prop} {v : Int64} (h : Rsq (go n (97, [l0, l1, l2, l3, l4, l5, l6, l7, l8, l9, l10, .val (.long v), l12, l13, l14, l15, l16, l17, l18, l19, l20, l21, l22, l23, l24, l25, l26, l27, l28, l29], (.long v :: S), H, cs, ss)) q) : Rsq (go (n + 1) (95, [l0, l1, l2, l3, l4, l5, l6, l7, l8, l9, l10, .val (.long v), l12, l13, l14, l15, l16, l17, l18, l19, l20, l21, l22, l23, l24, l25, l26, l27, l28, l29], S, H, cs, ss)) q := by
  subst hgo
  exact res_of s0_95 h
theorem t0_97 {go : Nat → St → Option ORes} (hgo : go = orun code ret E0 0) {n cs ss : Nat} {L : List Slot} {S : List Value} {H : AH} {q : Option ORes → Prop} {x y : Int64} (h : Rsq (go n (98, L, (.long (x + y) :: S), H, cs, ss)) q) : Rsq (go (n + 1) (97, L, (.long y :: .long x :: S), H, cs, ss)) q := by
  subst hgo
  exact res_of s0_97 h
theorem t0_98 {go : Nat → St → Option ORes} (hgo : go = orun code ret E0 0) {n cs ss : Nat} {L : List Slot} {S : List Value} {H : AH} {q : Option ORes → Prop} {x : Int64} (h : Rsq (go n (99, L, (.int x.toInt32 :: S), H, cs, ss)) q) : Rsq (go (n + 1) (98, L, (.long x :: S), H, cs, ss)) q := by
  subst hgo
  exact res_of s0_98 h
theorem t0_99 {go : Nat → St → Option ORes} (hgo : go = orun code ret E0 0) {n cs ss : Nat} {l0 l1 l2 l3 l4 l5 l6 l7 l8 l9 l10 l11 l12 l13 l14 l15 l16 l17 l18 l19 l20 l21 l22 l23 l24 l25 l26 l27 l28 l29 : Slot} {S : List Value} {H : AH} {q : Option ORes → Prop} {x : Int32} (hk : so l18 = true) (h : Rsq (go n (101, [l0, l1, l2, l3, l4, l5, l6, l7, l8, l9, l10, l11, l12, l13, l14, l15, l16, l17, .val (.int x), l19, l20, l21, l22, l23, l24, l25, l26, l27, l28, l29], S, H, cs, ss)) q) : Rsq (go (n + 1) (99, [l0, l1, l2, l3, l4, l5, l6, l7, l8, l9, l10, l11, l12, l13, l14, l15, l16, l17, l18, l19, l20, l21, l22, l23, l24, l25, l26, l27, l28, l29], (.int x :: S), H, cs, ss)) q := by
  subst hgo
  refine res_of s0_99 ?_
  rw [pI_int, st1_so (L := [l0, l1, l2, l3, l4, l5, l6, l7, l8, l9, l10, l11, l12, l13, l14, l15, l16, l17, l18, l19, l20, l21, l22, l23, l24, l25, l26, l27, l28, l29]) (k := 18) (l := l18) rfl hk]
  exact h
theorem t0_101 {go : Nat → St → Option ORes} (hgo : go = orun code ret E0 0) {n cs ss : Nat} {l0 l1 l2 l3 l4 l5 l7 l8 l9 l10 l11 l12 l13 l14 l15 l16 l17 l18 l19 l20 l21 l22 l23 l24 l25 l26 l27 l28 l29 : Slot} {S : List Value} {H : AH} {q : Option ORes → Prop} {v : Int32} (h : Rsq (go n (103, [l0, l1, l2, l3, l4, l5, .val (.int v), l7, l8, l9, l10, l11, l12, l13, l14, l15, l16, l17, l18, l19, l20, l21, l22, l23, l24, l25, l26, l27, l28, l29], (.int v :: S), H, cs, ss)) q) : Rsq (go (n + 1) (101, [l0, l1, l2, l3, l4, l5, .val (.int v), l7, l8, l9, l10, l11, l12, l13, l14, l15, l16, l17, l18, l19, l20, l21, l22, l23, l24, l25, l26, l27, l28, l29], S, H, cs, ss)) q := by
  subst hgo
  exact res_of s0_101 h
theorem t0_103 {go : Nat → St → Option ORes} (hgo : go = orun code ret E0 0) {n cs ss : Nat} {L : List Slot} {S : List Value} {H : AH} {q : Option ORes → Prop} (h : Rsq (go n (104, L, (.int 1 :: S), H, cs, ss)) q) : Rsq (go (n + 1) (103, L, S, H, cs, ss)) q := by
  subst hgo
  exact res_of s0_103 h
theorem t0_104 {go : Nat → St → Option ORes} (hgo : go = orun code ret E0 0) {n cs ss : Nat} {L : List Slot} {S : List Value} {H : AH} {q : Option ORes → Prop} {x y : Int32} (h : Rsq (go n (105, L, (.int (x &&& y) :: S), H, cs, ss)) q) : Rsq (go (n + 1) (104, L, (.int y :: .int x :: S), H, cs, ss)) q := by
  subst hgo
  exact res_of s0_104 h
theorem t0_105t {go : Nat → St → Option ORes} (hgo : go = orun code ret E0 0) {n cs ss : Nat} {L : List Slot} {S : List Value} {H : AH} {q : Option ORes → Prop} {x : Int32} (hc : x = 0) (h : Rsq (go n (112, L, S, H, cs, ss)) q) : Rsq (go (n + 1) (105, L, (.int x :: S), H, cs, ss)) q := by
  subst hgo
  exact res_of s0_105 (res_t hc h)
theorem t0_105f {go : Nat → St → Option ORes} (hgo : go = orun code ret E0 0) {n cs ss : Nat} {L : List Slot} {S : List Value} {H : AH} {q : Option ORes → Prop} {x : Int32} (hc : ¬ x = 0) (h : Rsq (go n (108, L, S, H, cs, ss)) q) : Rsq (go (n + 1) (105, L, (.int x :: S), H, cs, ss)) q := by
  subst hgo
  exact res_of s0_105 (res_f hc h)
theorem t0_108 {go : Nat → St → Option ORes} (hgo : go = orun code ret E0 0) {n cs ss : Nat} {L : List Slot} {S : List Value} {H : AH} {q : Option ORes → Prop} (h : Rsq (go n (109, L, (.int 1 :: S), H, cs, ss)) q) : Rsq (go (n + 1) (108, L, S, H, cs, ss)) q := by
  subst hgo
  exact res_of s0_108 h
theorem t0_109 {go : Nat → St → Option ORes} (hgo : go = orun code ret E0 0) {n cs ss : Nat} {L : List Slot} {S : List Value} {H : AH} {q : Option ORes → Prop} (h : Rsq (go n (113, L, S, H, cs, ss)) q) : Rsq (go (n + 1) (109, L, S, H, cs, ss)) q := by
  subst hgo
  exact res_of s0_109 h
theorem t0_112 {go : Nat → St → Option ORes} (hgo : go = orun code ret E0 0) {n cs ss : Nat} {L : List Slot} {S : List Value} {H : AH} {q : Option ORes → Prop} (h : Rsq (go n (113, L, (.int 0 :: S), H, cs, ss)) q) : Rsq (go (n + 1) (112, L, S, H, cs, ss)) q := by
  subst hgo
  exact res_of s0_112 h
theorem t0_113 {go : Nat → St → Option ORes} (hgo : go = orun code ret E0 0) {n cs ss : Nat} {l0 l1 l2 l3 l4 l5 l6 l7 l8 l9 l10 l11 l12 l13 l14 l15 l16 l17 l18 l19 l20 l21 l22 l23 l24 l25 l26 l27 l28 l29 : Slot} {S : List Value} {H : AH} {q : Option ORes → Prop} {x : Int32} (hk : so l19 = true) (h : Rsq (go n (115, [l0, l1, l2, l3, l4, l5, l6, l7, l8, l9, l10, l11, l12, l13, l14, l15, l16, l17, l18, .val (.int x), l20, l21, l22, l23, l24, l25, l26, l27, l28, l29], S, H, cs, ss)) q) : Rsq (go (n + 1) (113, [l0, l1, l2, l3, l4, l5, l6, l7, l8, l9, l10, l11, l12, l13, l14, l15, l16, l17, l18, l19, l20, l21, l22, l23, l24, l25, l26, l27, l28, l29], (.int x :: S), H, cs, ss)) q := by
  subst hgo
  refine res_of s0_113 ?_
  rw [pI_int, st1_so (L := [l0, l1, l2, l3, l4, l5, l6, l7, l8, l9, l10, l11, l12, l13, l14, l15, l16, l17, l18, l19, l20, l21, l22, l23, l24, l25, l26, l27, l28, l29]) (k := 19) (l := l19) rfl hk]
  exact h
theorem t0_115 {go : Nat → St → Option ORes} (hgo : go = orun code ret E0 0) {n cs ss : Nat} {l0 l1 l2 l3 l4 l5 l7 l8 l9 l10 l11 l12 l13 l14 l15 l16 l17 l18 l19 l20 l21 l22 l23 l24 l25 l26 l27 l28 l29 : Slot} {S : List Value} {H : AH} {q : Option ORes → Prop} {v : Int32} (h : Rsq (go n (117, [l0, l1, l2, l3, l4, l5, .val (.int v), l7, l8, l9, l10, l11, l12, l13, l14, l15, l16, l17, l18, l19, l20, l21, l22, l23, l24, l25, l26, l27, l28, l29], (.int v :: S), H, cs, ss)) q) : Rsq (go (n + 1) (115, [l0, l1, l2, l3, l4, l5, .val (.int v), l7, l8, l9, l10, l11, l12, l13, l14, l15, l16, l17, l18, l19, l20, l21, l22, l23, l24, l25, l26, l27, l28, l29], S, H, cs, ss)) q := by
  subst hgo
  exact res_of s0_115 h
theorem t0_117 {go : Nat → St → Option ORes} (hgo : go = orun code ret E0 0) {n cs ss : Nat} {L : List Slot} {S : List Value} {H : AH} {q : Option ORes → Prop} (h : Rsq (go n (118, L, (.int 2 :: S), H, cs, ss)) q) : Rsq (go (n + 1) (117, L, S, H, cs, ss)) q := by
  subst hgo
  exact res_of s0_117 h
theorem t0_118 {go : Nat → St → Option ORes} (hgo : go = orun code ret E0 0) {n cs ss : Nat} {L : List Slot} {S : List Value} {H : AH} {q : Option ORes → Prop} {x y : Int32} (h : Rsq (go n (119, L, (.int (x &&& y) :: S), H, cs, ss)) q) : Rsq (go (n + 1) (118, L, (.int y :: .int x :: S), H, cs, ss)) q := by
  subst hgo
  exact res_of s0_118 h
theorem t0_119t {go : Nat → St → Option ORes} (hgo : go = orun code ret E0 0) {n cs ss : Nat} {L : List Slot} {S : List Value} {H : AH} {q : Option ORes → Prop} {x : Int32} (hc : x = 0) (h : Rsq (go n (126, L, S, H, cs, ss)) q) : Rsq (go (n + 1) (119, L, (.int x :: S), H, cs, ss)) q := by
  subst hgo
  exact res_of s0_119 (res_t hc h)
theorem t0_119f {go : Nat → St → Option ORes} (hgo : go = orun code ret E0 0) {n cs ss : Nat} {L : List Slot} {S : List Value} {H : AH} {q : Option ORes → Prop} {x : Int32} (hc : ¬ x = 0) (h : Rsq (go n (122, L, S, H, cs, ss)) q) : Rsq (go (n + 1) (119, L, (.int x :: S), H, cs, ss)) q := by
  subst hgo
  exact res_of s0_119 (res_f hc h)
theorem t0_122 {go : Nat → St → Option ORes} (hgo : go = orun code ret E0 0) {n cs ss : Nat} {L : List Slot} {S : List Value} {H : AH} {q : Option ORes → Prop} (h : Rsq (go n (123, L, (.int 1 :: S), H, cs, ss)) q) : Rsq (go (n + 1) (122, L, S, H, cs, ss)) q := by
  subst hgo
  exact res_of s0_122 h
theorem t0_123 {go : Nat → St → Option ORes} (hgo : go = orun code ret E0 0) {n cs ss : Nat} {L : List Slot} {S : List Value} {H : AH} {q : Option ORes → Prop} (h : Rsq (go n (127, L, S, H, cs, ss)) q) : Rsq (go (n + 1) (123, L, S, H, cs, ss)) q := by
  subst hgo
  exact res_of s0_123 h
theorem t0_126 {go : Nat → St → Option ORes} (hgo : go = orun code ret E0 0) {n cs ss : Nat} {L : List Slot} {S : List Value} {H : AH} {q : Option ORes → Prop} (h : Rsq (go n (127, L, (.int 0 :: S), H, cs, ss)) q) : Rsq (go (n + 1) (126, L, S, H, cs, ss)) q := by
  subst hgo
  exact res_of s0_126 h
theorem t0_127 {go : Nat → St → Option ORes} (hgo : go = orun code ret E0 0) {n cs ss : Nat} {l0 l1 l2 l3 l4 l5 l6 l7 l8 l9 l10 l11 l12 l13 l14 l15 l16 l17 l18 l19 l20 l21 l22 l23 l24 l25 l26 l27 l28 l29 : Slot} {S : List Value} {H : AH} {q : Option ORes → Prop} {x : Int32} (hk : so l20 = true) (h : Rsq (go n (129, [l0, l1, l2, l3, l4, l5, l6, l7, l8, l9, l10, l11, l12, l13, l14, l15, l16, l17, l18, l19, .val (.int x), l21, l22, l23, l24, l25, l26, l27, l28, l29], S, H, cs, ss)) q) : Rsq (go (n + 1) (127, [l0, l1, l2, l3, l4, l5, l6, l7, l8, l9, l10, l11, l12, l13, l14, l15, l16, l17, l18, l19, l20, l21, l22, l23, l24, l25, l26, l27, l28, l29], (.int x :: S), H, cs, ss)) q := by
  subst hgo
  refine res_of s0_127 ?_
  rw [pI_int, st1_so (L := [l0, l1, l2, l3, l4, l5, l6, l7, l8, l9, l10, l11, l12, l13, l14, l15, l16, l17, l18, l19, l20, l21, l22, l23, l24, l25, l26, l27, l28, l29]) (k := 20) (l := l20) rfl hk]
  exact h
theorem t0_129 {go : Nat → St → Option ORes} (hgo : go = orun code ret E0 0) {n cs ss : Nat} {l0 l1 l2 l3 l4 l5 l7 l8 l9 l10 l11 l12 l13 l14 l15 l16 l17 l18 l19 l20 l21 l22 l23 l24 l25 l26 l27 l28 l29 : Slot} {S : List Value} {H : AH} {q : Option ORes → Prop} {v : Int32} (h : Rsq (go n (131, [l0, l1, l2, l3, l4, l5, .val (.int v), l7, l8, l9, l10, l11, l12, l13, l14, l15, l16, l17, l18, l19, l20, l21, l22, l23, l24, l25, l26, l27, l28, l29], (.int v :: S), H, cs, ss)) q) : Rsq (go (n + 1) (129, [l0, l1, l2, l3, l4, l5, .val (.int v), l7, l8, l9, l10, l11, l12, l13, l14, l15, l16, l17, l18, l19, l20, l21, l22, l23, l24, l25, l26, l27, l28, l29], S, H, cs, ss)) q := by
  subst hgo
  exact res_of s0_129 h
theorem t0_131 {go : Nat → St → Option ORes} (hgo : go = orun code ret E0 0) {n cs ss : Nat} {L : List Slot} {S : List Value} {H : AH} {q : Option ORes → Prop} (h : Rsq (go n (132, L, (.int 4 :: S), H, cs, ss)) q) : Rsq (go (n + 1) (131, L, S, H, cs, ss)) q := by
  subst hgo
  exact res_of s0_131 h
theorem t0_132 {go : Nat → St → Option ORes} (hgo : go = orun code ret E0 0) {n cs ss : Nat} {L : List Slot} {S : List Value} {H : AH} {q : Option ORes → Prop} {x y : Int32} (h : Rsq (go n (133, L, (.int (x &&& y) :: S), H, cs, ss)) q) : Rsq (go (n + 1) (132, L, (.int y :: .int x :: S), H, cs, ss)) q := by
  subst hgo
  exact res_of s0_132 h
theorem t0_133t {go : Nat → St → Option ORes} (hgo : go = orun code ret E0 0) {n cs ss : Nat} {L : List Slot} {S : List Value} {H : AH} {q : Option ORes → Prop} {x : Int32} (hc : x = 0) (h : Rsq (go n (140, L, S, H, cs, ss)) q) : Rsq (go (n + 1) (133, L, (.int x :: S), H, cs, ss)) q := by
  subst hgo
  exact res_of s0_133 (res_t hc h)
theorem t0_133f {go : Nat → St → Option ORes} (hgo : go = orun code ret E0 0) {n cs ss : Nat} {L : List Slot} {S : List Value} {H : AH} {q : Option ORes → Prop} {x : Int32} (hc : ¬ x = 0) (h : Rsq (go n (136, L, S, H, cs, ss)) q) : Rsq (go (n + 1) (133, L, (.int x :: S), H, cs, ss)) q := by
  subst hgo
  exact res_of s0_133 (res_f hc h)
theorem t0_136 {go : Nat → St → Option ORes} (hgo : go = orun code ret E0 0) {n cs ss : Nat} {L : List Slot} {S : List Value} {H : AH} {q : Option ORes → Prop} (h : Rsq (go n (137, L, (.int 1 :: S), H, cs, ss)) q) : Rsq (go (n + 1) (136, L, S, H, cs, ss)) q := by
  subst hgo
  exact res_of s0_136 h
theorem t0_137 {go : Nat → St → Option ORes} (hgo : go = orun code ret E0 0) {n cs ss : Nat} {L : List Slot} {S : List Value} {H : AH} {q : Option ORes → Prop} (h : Rsq (go n (141, L, S, H, cs, ss)) q) : Rsq (go (n + 1) (137, L, S, H, cs, ss)) q := by
  subst hgo
  exact res_of s0_137 h
theorem t0_140 {go : Nat → St → Option ORes} (hgo : go = orun code ret E0 0) {n cs ss : Nat} {L : List Slot} {S : List Value} {H : AH} {q : Option ORes → Prop} (h : Rsq (go n (141, L, (.int 0 :: S), H, cs, ss)) q) : Rsq (go (n + 1) (140, L, S, H, cs, ss)) q := by
  subst hgo
  exact res_of s0_140 h
theorem t0_141 {go : Nat → St → Option ORes} (hgo : go = orun code ret E0 0) {n cs ss : Nat} {l0 l1 l2 l3 l4 l5 l6 l7 l8 l9 l10 l11 l12 l13 l14 l15 l16 l17 l18 l19 l20 l21 l22 l23 l24 l25 l26 l27 l28 l29 : Slot} {S : List Value} {H : AH} {q : Option ORes → Prop} {x : Int32} (hk : so l21 = true) (h : Rsq (go n (143, [l0, l1, l2, l3, l4, l5, l6, l7, l8, l9, l10, l11, l12, l13, l14, l15, l16, l17, l18, l19, l20, .val (.int x), l22, l23, l24, l25, l26, l27, l28, l29], S, H, cs, ss)) q) : Rsq (go (n + 1) (141, [l0, l1, l2, l3, l4, l5, l6, l7, l8, l9, l10, l11, l12, l13, l14, l15, l16, l17, l18, l19, l20, l21, l22, l23, l24, l25, l26, l27, l28, l29], (.int x :: S), H, cs, ss)) q := by
  subst hgo
  refine res_of s0_141 ?_
  rw [pI_int, st1_so (L := [l0, l1, l2, l3, l4, l5, l6, l7, l8, l9, l10, l11, l12, l13, l14, l15, l16, l17, l18, l19, l20, l21, l22, l23, l24, l25, l26, l27, l28, l29]) (k := 21) (l := l21) rfl hk]
  exact h
theorem t0_143 {go : Nat → St → Option ORes} (hgo : go = orun code ret E0 0) {n cs ss : Nat} {l0 l1 l2 l3 l4 l5 l7 l8 l9 l10 l11 l12 l13 l14 l15 l16 l17 l18 l19 l20 l21 l22 l23 l24 l25 l26 l27 l28 l29 : Slot} {S : List Value} {H : AH} {q : Option ORes → Prop} {v : Int32} (h : Rsq (go n (145, [l0, l1, l2, l3, l4, l5, .val (.int v), l7, l8, l9, l10, l11, l12, l13, l14, l15, l16, l17, l18, l19, l20, l21, l22, l23, l24, l25, l26, l27, l28, l29], (.int v :: S), H, cs, ss)) q) : Rsq (go (n + 1) (143, [l0, l1, l2, l3, l4, l5, .val (.int v), l7, l8, l9, l10, l11, l12, l13, l14, l15, l16, l17, l18, l19, l20, l21, l22, l23, l24, l25, l26, l27, l28, l29], S, H, cs, ss)) q := by
  subst hgo
  exact res_of s0_143 h
theorem t0_145 {go : Nat → St → Option ORes} (hgo : go = orun code ret E0 0) {n cs ss : Nat} {L : List Slot} {S : List Value} {H : AH} {q : Option ORes → Prop} (h : Rsq (go n (147, L, (.int 8 :: S), H, cs, ss)) q) : Rsq (go (n + 1) (145, L, S, H, cs, ss)) q := by
  subst hgo
  exact res_of s0_145 h
theorem t0_147 {go : Nat → St → Option ORes} (hgo : go = orun code ret E0 0) {n cs ss : Nat} {L : List Slot} {S : List Value} {H : AH} {q : Option ORes → Prop} {x y : Int32} (h : Rsq (go n (148, L, (.int (x &&& y) :: S), H, cs, ss)) q) : Rsq (go (n + 1) (147, L, (.int y :: .int x :: S), H, cs, ss)) q := by
  subst hgo
  exact res_of s0_147 h
theorem t0_148t {go : Nat → St → Option ORes} (hgo : go = orun code ret E0 0) {n cs ss : Nat} {L : List Slot} {S : List Value} {H : AH} {q : Option ORes → Prop} {x : Int32} (hc : x = 0) (h : Rsq (go n (155, L, S, H, cs, ss)) q) : Rsq (go (n + 1) (148, L, (.int x :: S), H, cs, ss)) q := by
  subst hgo
  exact res_of s0_148 (res_t hc h)
theorem t0_148f {go : Nat → St → Option ORes} (hgo : go = orun code ret E0 0) {n cs ss : Nat} {L : List Slot} {S : List Value} {H : AH} {q : Option ORes → Prop} {x : Int32} (hc : ¬ x = 0) (h : Rsq (go n (151, L, S, H, cs, ss)) q) : Rsq (go (n + 1) (148, L, (.int x :: S), H, cs, ss)) q := by
  subst hgo
  exact res_of s0_148 (res_f hc h)
theorem t0_151 {go : Nat → St → Option ORes} (hgo : go = orun code ret E0 0) {n cs ss : Nat} {L : List Slot} {S : List Value} {H : AH} {q : Option ORes → Prop} (h : Rsq (go n (152, L, (.int 1 :: S), H, cs, ss)) q) : Rsq (go (n + 1) (151, L, S, H, cs, ss)) q := by
  subst hgo
  exact res_of s0_151 h
theorem t0_152 {go : Nat → St → Option ORes} (hgo : go = orun code ret E0 0) {n cs ss : Nat} {L : List Slot} {S : List Value} {H : AH} {q : Option ORes → Prop} (h : Rsq (go n (156, L, S, H, cs, ss)) q) : Rsq (go (n + 1) (152, L, S, H, cs, ss)) q := by
  subst hgo
  exact res_of s0_152 h
theorem t0_155 {go : Nat → St → Option ORes} (hgo : go = orun code ret E0 0) {n cs ss : Nat} {L : List Slot} {S : List Value} {H : AH} {q : Option ORes → Prop} (h : Rsq (go n (156, L, (.int 0 :: S), H, cs, ss)) q) : Rsq (go (n + 1) (155, L, S, H, cs, ss)) q := by
  subst hgo
  exact res_of s0_155 h
theorem t0_156 {go : Nat → St → Option ORes} (hgo : go = orun code ret E0 0) {n cs ss : Nat} {l0 l1 l2 l3 l4 l5 l6 l7 l8 l9 l10 l11 l12 l13 l14 l15 l16 l17 l18 l19 l20 l21 l22 l23 l24 l25 l26 l27 l28 l29 : Slot} {S : List Value} {H : AH} {q : Option ORes → Prop} {x : Int32} (hk : so l22 = true) (h : Rsq (go n (158, [l0, l1, l2, l3, l4, l5, l6, l7, l8, l9, l10, l11, l12, l13, l14, l15, l16, l17, l18, l19, l20, l21, .val (.int x), l23, l24, l25, l26, l27, l28, l29], S, H, cs, ss)) q) : Rsq (go (n + 1) (156, [l0, l1, l2, l3, l4, l5, l6, l7, l8, l9, l10, l11, l12, l13, l14, l15, l16, l17, l18, l19, l20, l21, l22, l23, l24, l25, l26, l27, l28, l29], (.int x :: S), H, cs, ss)) q := by
  subst hgo
  refine res_of s0_156 ?_
  rw [pI_int, st1_so (L := [l0, l1, l2, l3, l4, l5, l6, l7, l8, l9, l10, l11, l12, l13, l14, l15, l16, l17, l18, l19, l20, l21, l22, l23, l24, l25, l26, l27, l28, l29]) (k := 22) (l := l22) rfl hk]
  exact h
theorem t0_158 {go : Nat → St → Option ORes} (hgo : go = orun code ret E0 0) {n cs ss : Nat} {l0 l1 l2 l3 l4 l6 l7 l8 l9 l10 l11 l12 l13 l14 l15 l16 l17 l18 l19 l20 l21 l22 l23 l24 l25 l26 l27 l28 l29 : Slot} {S : List Value} {H : AH} {q : Option ORes → Prop} {v : Int32} (h : Rsq (go n (160, [l0, l1, l2, l3, l4, .val (.int v), l6, l7, l8, l9, l10, l11, l12, l13, l14, l15, l16, l17, l18, l19, l20, l21, l22, l23, l24, l25, l26, l27, l28, l29], (.int v :: S), H, cs, ss)) q) : Rsq (go (n + 1) (158, [l0, l1, l2, l3, l4, .val (.int v), l6, l7, l8, l9, l10, l11, l12, l13, l14, l15, l16, l17, l18, l19, l20, l21, l22, l23, l24, l25, l26, l27, l28, l29], S, H, cs, ss)) q := by
  subst hgo
  exact res_of s0_158 h
theorem t0_160t {go : Nat → St → Option ORes} (hgo : go = orun code ret E0 0) {n cs ss : Nat} {L : List Slot} {S : List Value} {H : AH} {q : Option ORes → Prop} {x : Int32} (hc : 0 < x) (h : Rsq (go n (163, L, S, H, cs, ss)) q) : Rsq (go (n + 1) (160, L, (.int x :: S), H, cs, ss)) q := by
  subst hgo
  exact res_of s0_160 (res_t hc h)
theorem t0_160f {go : Nat → St → Option ORes} (hgo : go = orun code ret E0 0) {n cs ss : Nat} {L : List Slot} {S : List Value} {H : AH} {q : Option ORes → Prop} {x : Int32} (hc : ¬ 0 < x) (h : Rsq (go n (172, L, S, H, cs, ss)) q) : Rsq (go (n + 1) (160, L, (.int x :: S), H, cs, ss)) q := by
  subst hgo
  exact res_of s0_160 (res_f hc h)
theorem t0_163 {go : Nat → St → Option ORes} (hgo : go = orun code ret E0 0) {n cs ss : Nat} {l0 l1 l2 l3 l4 l5 l6 l7 l8 l9 l10 l11 l12 l13 l14 l15 l16 l17 l18 l20 l21 l22 l23 l24 l25 l26 l27 l28 l29 : Slot} {S : List Value} {H : AH} {q : Option ORes → Prop} {v : Int32} (h : Rsq (go n (165, [l0, l1, l2, l3, l4, l5, l6, l7, l8, l9, l10, l11, l12, l13, l14, l15, l16, l17, l18, .val (.int v), l20, l21, l22, l23, l24, l25, l26, l27, l28, l29], (.int v :: S), H, cs, ss)) q) : Rsq (go (n + 1) (163, [l0, l1, l2, l3, l4, l5, l6, l7, l8, l9, l10, l11, l12, l13, l14, l15, l16, l17, l18, .val (.int v), l20, l21, l22, l23, l24, l25, l26, l27, l28, l29], S, H, cs, ss)) q := by
  subst hgo
  exact res_of s0_163 h
theorem t0_165t {go : Nat → St → Option ORes} (hgo : go = orun code ret E0 0) {n cs ss : Nat} {L : List Slot} {S : List Value} {H : AH} {q : Option ORes → Prop} {x : Int32} (hc : x = 0) (h : Rsq (go n (172, L, S, H, cs, ss)) q) : Rsq (go (n + 1) (165, L, (.int x :: S), H, cs, ss)) q := by
  subst hgo
  exact res_of s0_165 (res_t hc h)
theorem t0_165f {go : Nat → St → Option ORes} (hgo : go = orun code ret E0 0) {n cs ss : Nat} {L : List Slot} {S : List Value} {H : AH} {q : Option ORes → Prop} {x : Int32} (hc : ¬ x = 0) (h : Rsq (go n (168, L, S, H, cs, ss)) q) : Rsq (go (n + 1) (165, L, (.int x :: S), H, cs, ss)) q := by
  subst hgo
  exact res_of s0_165 (res_f hc h)
theorem t0_168 {go : Nat → St → Option ORes} (hgo : go = orun code ret E0 0) {n cs ss : Nat} {L : List Slot} {S : List Value} {H : AH} {q : Option ORes → Prop} (h : Rsq (go n (169, L, (.int 1 :: S), H, cs, ss)) q) : Rsq (go (n + 1) (168, L, S, H, cs, ss)) q := by
  subst hgo
  exact res_of s0_168 h
theorem t0_169 {go : Nat → St → Option ORes} (hgo : go = orun code ret E0 0) {n cs ss : Nat} {L : List Slot} {S : List Value} {H : AH} {q : Option ORes → Prop} (h : Rsq (go n (173, L, S, H, cs, ss)) q) : Rsq (go (n + 1) (169, L, S, H, cs, ss)) q := by
  subst hgo
  exact res_of s0_169 h
theorem t0_172 {go : Nat → St → Option ORes} (hgo : go = orun code ret E0 0) {n cs ss : Nat} {L : List Slot} {S : List Value} {H : AH} {q : Option ORes → Prop} (h : Rsq (go n (173, L, (.int 0 :: S), H, cs, ss)) q) : Rsq (go (n + 1) (172, L, S, H, cs, ss)) q := by
  subst hgo
  exact res_of s0_172 h
theorem t0_173 {go : Nat → St → Option ORes} (hgo : go = orun code ret E0 0) {n cs ss : Nat} {l0 l1 l2 l3 l4 l6 l7 l8 l9 l10 l11 l12 l13 l14 l15 l16 l17 l18 l19 l20 l21 l22 l23 l24 l25 l26 l27 l28 l29 : Slot} {S : List Value} {H : AH} {q : Option ORes → Prop} {v : Int32} (h : Rsq (go n (175, [l0, l1, l2, l3, l4, .val (.int v), l6, l7, l8, l9, l10, l11, l12, l13, l14, l15, l16, l17, l18, l19, l20, l21, l22, l23, l24, l25, l26, l27, l28, l29], (.int v :: S), H, cs, ss)) q) : Rsq (go (n + 1) (173, [l0, l1, l2, l3, l4, .val (.int v), l6, l7, l8, l9, l10, l11, l12, l13, l14, l15, l16, l17, l18, l19, l20, l21, l22, l23, l24, l25, l26, l27, l28, l29], S, H, cs, ss)) q := by
  subst hgo
  exact res_of s0_173 h
theorem t0_175 {go : Nat → St → Option ORes} (hgo : go = orun code ret E0 0) {n cs ss : Nat} {L : List Slot} {S : List Value} {H : AH} {q : Option ORes → Prop} (h : Rsq (go n (176, L, (.int 1 :: S), H, cs, ss)) q) : Rsq (go (n + 1) (175, L, S, H, cs, ss)) q := by
  subst hgo
  exact res_of s0_175 h
theorem t0_176t {go : Nat → St → Option ORes} (hgo : go = orun code ret E0 0) {n cs ss : Nat} {L : List Slot} {S : List Value} {H : AH} {q : Option ORes → Prop} {x y : Int32} (hc : y < x) (h : Rsq (go n (179, L, S, H, cs, ss)) q) : Rsq (go (n + 1) (176, L, (.int y :: .int x :: S), H, cs, ss)) q := by
  subst hgo
  exact res_of s0_176 (res_t hc h)
theorem t0_176f {go : Nat → St → Option ORes} (hgo : go = orun code ret E0 0) {n cs ss : Nat} {L : List Slot} {S : List Value} {H : AH} {q : Option ORes → Prop} {x y : Int32} (hc : ¬ y < x) (h : Rsq (go n (188, L, S, H, cs, ss)) q) : Rsq (go (n + 1) (176, L, (.int y :: .int x :: S), H, cs, ss)) q := by
  subst hgo
  exact res_of s0_176 (res_f hc h)
theorem t0_179 {go : Nat → St → Option ORes} (hgo : go = orun code ret E0 0) {n cs ss : Nat} {l0 l1 l2 l3 l4 l5 l6 l7 l8 l9 l10 l11 l12 l13 l14 l15 l16 l17 l18 l19 l21 l22 l23 l24 l25 l26 l27 l28 l29 : Slot} {S : List Value} {H : AH} {q : Option ORes → Prop} {v : Int32} (h : Rsq (go n (181, [l0, l1, l2, l3, l4, l5, l6, l7, l8, l9, l10, l11, l12, l13, l14, l15, l16, l17, l18, l19, .val (.int v), l21, l22, l23, l24, l25, l26, l27, l28, l29], (.int v :: S), H, cs, ss)) q) : Rsq (go (n + 1) (179, [l0, l1, l2, l3, l4, l5, l6, l7, l8, l9, l10, l11, l12, l13, l14, l15, l16, l17, l18, l19, .val (.int v), l21, l22, l23, l24, l25, l26, l27, l28, l29], S, H, cs, ss)) q := by
  subst hgo
  exact res_of s0_179 h
theorem t0_181t {go : Nat → St → Option ORes} (hgo : go = orun code ret E0 0) {n cs ss : Nat} {L : List Slot} {S : List Value} {H : AH} {q : Option ORes → Prop} {x : Int32} (hc : x = 0) (h : Rsq (go n (188, L, S, H, cs, ss)) q) : Rsq (go (n + 1) (181, L, (.int x :: S), H, cs, ss)) q := by
  subst hgo
  exact res_of s0_181 (res_t hc h)
theorem t0_181f {go : Nat → St → Option ORes} (hgo : go = orun code ret E0 0) {n cs ss : Nat} {L : List Slot} {S : List Value} {H : AH} {q : Option ORes → Prop} {x : Int32} (hc : ¬ x = 0) (h : Rsq (go n (184, L, S, H, cs, ss)) q) : Rsq (go (n + 1) (181, L, (.int x :: S), H, cs, ss)) q := by
  subst hgo
  exact res_of s0_181 (res_f hc h)
theorem t0_184 {go : Nat → St → Option ORes} (hgo : go = orun code ret E0 0) {n cs ss : Nat} {L : List Slot} {S : List Value} {H : AH} {q : Option ORes → Prop} (h : Rsq (go n (185, L, (.int 1 :: S), H, cs, ss)) q) : Rsq (go (n + 1) (184, L, S, H, cs, ss)) q := by
  subst hgo
  exact res_of s0_184 h
theorem t0_185 {go : Nat → St → Option ORes} (hgo : go = orun code ret E0 0) {n cs ss : Nat} {L : List Slot} {S : List Value} {H : AH} {q : Option ORes → Prop} (h : Rsq (go n (189, L, S, H, cs, ss)) q) : Rsq (go (n + 1) (185, L, S, H, cs, ss)) q := by
  subst hgo
  exact res_of s0_185 h
theorem t0_188 {go : Nat → St → Option ORes} (hgo : go = orun code ret E0 0) {n cs ss : Nat} {L : List Slot} {S : List Value} {H : AH} {q : Option ORes → Prop} (h : Rsq (go n (189, L, (.int 0 :: S), H, cs, ss)) q) : Rsq (go (n + 1) (188, L, S, H, cs, ss)) q := by
  subst hgo
  exact res_of s0_188 h
theorem t0_189 {go : Nat → St → Option ORes} (hgo : go = orun code ret E0 0) {n cs ss : Nat} {L : List Slot} {S : List Value} {H : AH} {q : Option ORes → Prop} {x y : Int32} (h : Rsq (go n (190, L, (.int (x + y) :: S), H, cs, ss)) q) : Rsq (go (n + 1) (189, L, (.int y :: .int x :: S), H, cs, ss)) q := by
  subst hgo
  exact res_of s0_189 h
theorem t0_190 {go : Nat → St → Option ORes} (hgo : go = orun code ret E0 0) {n cs ss : Nat} {l0 l1 l2 l3 l4 l6 l7 l8 l9 l10 l11 l12 l13 l14 l15 l16 l17 l18 l19 l20 l21 l22 l23 l24 l25 l26 l27 l28 l29 : Slot} {S : List Value} {H : AH} {q : Option ORes → Prop} {v : Int32} (h : Rsq (go n (192, [l0, l1, l2, l3, l4, .val (.int v), l6, l7, l8, l9, l10, l11, l12, l13, l14, l15, l16, l17, l18, l19, l20, l21, l22, l23, l24, l25, l26, l27, l28, l29], (.int v :: S), H, cs, ss)) q) : Rsq (go (n + 1) (190, [l0, l1, l2, l3, l4, .val (.int v), l6, l7, l8, l9, l10, l11, l12, l13, l14, l15, l16, l17, l18, l19, l20, l21, l22, l23, l24, l25, l26, l27, l28, l29], S, H, cs, ss)) q := by
  subst hgo
  exact res_of s0_190 h
theorem t0_192 {go : Nat → St → Option ORes} (hgo : go = orun code ret E0 0) {n cs ss : Nat} {L : List Slot} {S : List Value} {H : AH} {q : Option ORes → Prop} (h : Rsq (go n (193, L, (.int 2 :: S), H, cs, ss)) q) : Rsq (go (n + 1) (192, L, S, H, cs, ss)) q := by
  subst hgo
  exact res_of s0_192 h
theorem t0_193t {go : Nat → St → Option ORes} (hgo : go = orun code ret E0 0) {n cs ss : Nat} {L : List Slot} {S : List Value} {H : AH} {q : Option ORes → Prop} {x y : Int32} (hc : y < x) (h : Rsq (go n (196, L, S, H, cs, ss)) q) : Rsq (go (n + 1) (193, L, (.int y :: .int x :: S), H, cs, ss)) q := by
  subst hgo
  exact res_of s0_193 (res_t hc h)
theorem t0_193f {go : Nat → St → Option ORes} (hgo : go = orun code ret E0 0) {n cs ss : Nat} {L : List Slot} {S : List Value} {H : AH} {q : Option ORes → Prop} {x y : Int32} (hc : ¬ y < x) (h : Rsq (go n (205, L, S, H, cs, ss)) q) : Rsq (go (n + 1) (193, L, (.int y :: .int x :: S), H, cs, ss)) q := by
  subst hgo
  exact res_of s0_193 (res_f hc h)
theorem t0_196 {go : Nat → St → Option ORes} (hgo : go = orun code ret E0 0) {n cs ss : Nat} {l0 l1 l2 l3 l4 l5 l6 l7 l8 l9 l10 l11 l12 l13 l14 l15 l16 l17 l18 l19 l20 l22 l23 l24 l25 l26 l27 l28 l29 : Slot} {S : List Value} {H : AH} {q : Option ORes → Prop} {v : Int32} (h : Rsq (go n (198, [l0, l1, l2, l3, l4, l5, l6, l7, l8, l9, l10, l11, l12, l13, l14, l15, l16, l17, l18, l19, l20, .val (.int v), l22, l23, l24, l25, l26, l27, l28, l29], (.int v :: S), H, cs, ss)) q) : Rsq (go (n + 1) (196, [l0, l1, l2, l3, l4, l5, l6, l7, l8, l9, l10, l11, l12, l13, l14, l15, l16, l17, l18, l19, l20, .val (.int v), l22, l23, l24, l25, l26, l27, l28, l29], S, H, cs, ss)) q := by
  subst hgo
  exact res_of s0_196 h
theorem t0_198t {go : Nat → St → Option ORes} (hgo : go = orun code ret E0 0) {n cs ss : Nat} {L : List Slot} {S : List Value} {H : AH} {q : Option ORes → Prop} {x : Int32} (hc : x = 0) (h : Rsq (go n (205, L, S, H, cs, ss)) q) : Rsq (go (n + 1) (198, L, (.int x :: S), H, cs, ss)) q := by
  subst hgo
  exact res_of s0_198 (res_t hc h)
theorem t0_198f {go : Nat → St → Option ORes} (hgo : go = orun code ret E0 0) {n cs ss : Nat} {L : List Slot} {S : List Value} {H : AH} {q : Option ORes → Prop} {x : Int32} (hc : ¬ x = 0) (h : Rsq (go n (201, L, S, H, cs, ss)) q) : Rsq (go (n + 1) (198, L, (.int x :: S), H, cs, ss)) q := by
  subst hgo
  exact res_of s0_198 (res_f hc h)
theorem t0_201 {go : Nat → St → Option ORes} (hgo : go = orun code ret E0 0) {n cs ss : Nat} {L : List Slot} {S : List Value} {H : AH} {q : Option ORes → Prop} (h : Rsq (go n (202, L, (.int 1 :: S), H, cs, ss)) q) : Rsq (go (n + 1) (201, L, S, H, cs, ss)) q := by
  subst hgo
  exact res_of s0_201 h
theorem t0_202 {go : Nat → St → Option ORes} (hgo : go = orun code ret E0 0) {n cs ss : Nat} {L : List Slot} {S : List Value} {H : AH} {q : Option ORes → Prop} (h : Rsq (go n (206, L, S, H, cs, ss)) q) : Rsq (go (n + 1) (202, L, S, H, cs, ss)) q := by
  subst hgo
  exact res_of s0_202 h
theorem t0_205 {go : Nat → St → Option ORes} (hgo : go = orun code ret E0 0) {n cs ss : Nat} {L : List Slot} {S : List Value} {H : AH} {q : Option ORes → Prop} (h : Rsq (go n (206, L, (.int 0 :: S), H, cs, ss)) q) : Rsq (go (n + 1) (205, L, S, H, cs, ss)) q := by
  subst hgo
  exact res_of s0_205 h
theorem t0_206 {go : Nat → St → Option ORes} (hgo : go = orun code ret E0 0) {n cs ss : Nat} {L : List Slot} {S : List Value} {H : AH} {q : Option ORes → Prop} {x y : Int32} (h : Rsq (go n (207, L, (.int (x + y) :: S), H, cs, ss)) q) : Rsq (go (n + 1) (206, L, (.int y :: .int x :: S), H, cs, ss)) q := by
  subst hgo
  exact res_of s0_206 h
theorem t0_207 {go : Nat → St → Option ORes} (hgo : go = orun code ret E0 0) {n cs ss : Nat} {l0 l1 l2 l3 l4 l6 l7 l8 l9 l10 l11 l12 l13 l14 l15 l16 l17 l18 l19 l20 l21 l22 l23 l24 l25 l26 l27 l28 l29 : Slot} {S : List Value} {H : AH} {q : Option ORes → Prop} {v : Int32} (h : Rsq (go n (209, [l0, l1, l2, l3, l4, .val (.int v), l6, l7, l8, l9, l10, l11, l12, l13, l14, l15, l16, l17, l18, l19, l20, l21, l22, l23, l24, l25, l26, l27, l28, l29], (.int v :: S), H, cs, ss)) q) : Rsq (go (n + 1) (207, [l0, l1, l2, l3, l4, .val (.int v), l6, l7, l8, l9, l10, l11, l12, l13, l14, l15, l16, l17, l18, l19, l20, l21, l22, l23, l24, l25, l26, l27, l28, l29], S, H, cs, ss)) q := by
  subst hgo
  exact res_of s0_207 h
theorem t0_209 {go : Nat → St → Option ORes} (hgo : go = orun code ret E0 0) {n cs ss : Nat} {L : List Slot} {S : List Value} {H : AH} {q : Option ORes → Prop} (h : Rsq (go n (210, L, (.int 3 :: S), H, cs, ss)) q) : Rsq (go (n + 1) (209, L, S, H, cs, ss)) q := by
  subst hgo
  exact res_of s0_209 h
theorem t0_210t {go : Nat → St → Option ORes} (hgo : go = orun code ret E0 0) {n cs ss : Nat} {L : List Slot} {S : List Value} {H : AH} {q : Option ORes → Prop} {x y : Int32} (hc : y < x) (h : Rsq (go n (213, L, S, H, cs, ss)) q) : Rsq (go (n + 1) (210, L, (.int y :: .int x :: S), H, cs, ss)) q := by
  subst hgo
  exact res_of s0_210 (res_t hc h)
theorem t0_210f {go : Nat → St → Option ORes} (hgo : go = orun code ret E0 0) {n cs ss : Nat} {L : List Slot} {S : List Value} {H : AH} {q : Option ORes → Prop} {x y : Int32} (hc : ¬ y < x) (h : Rsq (go n (222, L, S, H, cs, ss)) q) : Rsq (go (n + 1) (210, L, (.int y :: .int x :: S), H, cs, ss)) q := by
  subst hgo
  exact res_of s0_210 (res_f hc h)
theorem t0_213 {go : Nat → St → Option ORes} (hgo : go = orun code ret E0 0) {n cs ss : Nat} {l0 l1 l2 l3 l4 l5 l6 l7 l8 l9 l10 l11 l12 l13 l14 l15 l16 l17 l18 l19 l20 l21 l23 l24 l25 l26 l27 l28 l29 : Slot} {S : List Value} {H : AH} {q : Option ORes → Prop} {v : Int32} (h : Rsq (go n (215, [l0, l1, l2, l3, l4, l5, l6, l7, l8, l9, l10, l11, l12, l13, l14, l15, l16, l17, l18, l19, l20, l21, .val (.int v), l23, l24, l25, l26, l27, l28, l29], (.int v :: S), H, cs, ss)) q) : Rsq (go (n + 1) (213, [l0, l1, l2, l3, l4, l5, l6, l7, l8, l9, l10, l11, l12, l13, l14, l15, l16, l17, l18, l19, l20, l21, .val (.int v), l23, l24, l25, l26, l27, l28, l29], S, H, cs, ss)) q := by
  subst hgo
  exact res_of s0_213 h
theorem t0_215t {go : Nat → St → Option ORes} (hgo : go = orun code ret E0 0) {n cs ss : Nat} {L : List Slot} {S : List Value} {H : AH} {q : Option ORes → Prop} {x : Int32} (hc : x = 0) (h : Rsq (go n (222, L, S, H, cs, ss)) q) : Rsq (go (n + 1) (215, L, (.int x :: S), H, cs, ss)) q := by
  subst hgo
  exact res_of s0_215 (res_t hc h)
theorem t0_215f {go : Nat → St → Option ORes} (hgo : go = orun code ret E0 0) {n cs ss : Nat} {L : List Slot} {S : List Value} {H : AH} {q : Option ORes → Prop} {x : Int32} (hc : ¬ x = 0) (h : Rsq (go n (218, L, S, H, cs, ss)) q) : Rsq (go (n + 1) (215, L, (.int x :: S), H, cs, ss)) q := by
  subst hgo
  exact res_of s0_215 (res_f hc h)
theorem t0_218 {go : Nat → St → Option ORes} (hgo : go = orun code ret E0 0) {n cs ss : Nat} {L : List Slot} {S : List Value} {H : AH} {q : Option ORes → Prop} (h : Rsq (go n (219, L, (.int 1 :: S), H, cs, ss)) q) : Rsq (go (n + 1) (218, L, S, H, cs, ss)) q := by
  subst hgo
  exact res_of s0_218 h
theorem t0_219 {go : Nat → St → Option ORes} (hgo : go = orun code ret E0 0) {n cs ss : Nat} {L : List Slot} {S : List Value} {H : AH} {q : Option ORes → Prop} (h : Rsq (go n (223, L, S, H, cs, ss)) q) : Rsq (go (n + 1) (219, L, S, H, cs, ss)) q := by
  subst hgo
  exact res_of s0_219 h
theorem t0_222 {go : Nat → St → Option ORes} (hgo : go = orun code ret E0 0) {n cs ss : Nat} {L : List Slot} {S : List Value} {H : AH} {q : Option ORes → Prop} (h : Rsq (go n (223, L, (.int 0 :: S), H, cs, ss)) q) : Rsq (go (n + 1) (222, L, S, H, cs, ss)) q := by
  subst hgo
  exact res_of s0_222 h
theorem t0_223 {go : Nat → St → Option ORes} (hgo : go = orun code ret E0 0) {n cs ss : Nat} {L : List Slot} {S : List Value} {H : AH} {q : Option ORes → Prop} {x y : Int32} (h : Rsq (go n (224, L, (.int (x + y) :: S), H, cs, ss)) q) : Rsq (go (n + 1) (223, L, (.int y :: .int x :: S), H, cs, ss)) q := by
  subst hgo
  exact res_of s0_223 h
theorem t0_224 {go : Nat → St → Option ORes} (hgo : go = orun code ret E0 0) {n cs ss : Nat} {l0 l1 l2 l3 l4 l5 l6 l7 l8 l9 l10 l11 l12 l13 l14 l15 l16 l17 l18 l19 l20 l21 l22 l23 l24 l25 l26 l27 l28 l29 : Slot} {S : List Value} {H : AH} {q : Option ORes → Prop} {x : Int32} (hk : so l23 = true) (h : Rsq (go n (226, [l0, l1, l2, l3, l4, l5, l6, l7, l8, l9, l10, l11, l12, l13, l14, l15, l16, l17, l18, l19, l20, l21, l22, .val (.int x), l24, l25, l26, l27, l28, l29], S, H, cs, ss)) q) : Rsq (go (n + 1) (224, [l0, l1, l2, l3, l4, l5, l6, l7, l8, l9, l10, l11, l12, l13, l14, l15, l16, l17, l18, l19, l20, l21, l22, l23, l24, l25, l26, l27, l28, l29], (.int x :: S), H, cs, ss)) q := by
  subst hgo
  refine res_of s0_224 ?_
  rw [pI_int, st1_so (L := [l0, l1, l2, l3, l4, l5, l6, l7, l8, l9, l10, l11, l12, l13, l14, l15, l16, l17, l18, l19, l20, l21, l22, l23, l24, l25, l26, l27, l28, l29]) (k := 23) (l := l23) rfl hk]
  exact h
theorem t0_226 {go : Nat → St → Option ORes} (hgo : go = orun code ret E0 0) {n cs ss : Nat} {l0 l1 l2 l3 l4 l5 l6 l7 l8 l9 l10 l11 l12 l13 l14 l15 l16 l17 l18 l19 l20 l21 l22 l24 l25 l26 l27 l28 l29 : Slot} {S : List Value} {H : AH} {q : Option ORes → Prop} {v : Int32} (h : Rsq (go n (228, [l0, l1, l2, l3, l4, l5, l6, l7, l8, l9, l10, l11, l12, l13, l14, l15, l16, l17, l18, l19, l20, l21, l22, .val (.int v), l24, l25, l26, l27, l28, l29], (.int v :: S), H, cs, ss)) q) : Rsq (go (n + 1) (226, [l0, l1, l2, l3, l4, l5, l6, l7, l8, l9, l10, l11, l12, l13, l14, l15, l16, l17, l18, l19, l20, l21, l22, .val (.int v), l24, l25, l26, l27, l28, l29], S, H, cs, ss)) q := by
  subst hgo
  exact res_of s0_226 h
theorem u0_228 {go : Nat → St → Option ORes} (hgo : go = orun code ret E0 0) {n cs ss : Nat} {L : List Slot} {S : List Value} {H : AH} : go (n + 1) (228, L, S, H, cs, ss) = (aArr .int 16 128 S H cs ss).bind fun r => go n (230, L, r.1, r.2.1, r.2.2.1, r.2.2.2) := by
  subst hgo
  exact s0_228
theorem t0_230 {go : Nat → St → Option ORes} (hgo : go = orun code ret E0 0) {n cs ss : Nat} {l0 l1 l2 l3 l4 l5 l6 l7 l8 l9 l10 l11 l12 l13 l14 l15 l16 l17 l18 l19 l20 l21 l22 l23 l24 l25 l26 l27 l28 l29 : Slot} {S : List Value} {H : AH} {q : Option ORes → Prop} {v : Value} (hv : isA v = true) (hk : so l24 = true) (h : Rsq (go n (232, [l0, l1, l2, l3, l4, l5, l6, l7, l8, l9, l10, l11, l12, l13, l14, l15, l16, l17, l18, l19, l20, l21, l22, l23, .val v, l25, l26, l27, l28, l29], S, H, cs, ss)) q) : Rsq (go (n + 1) (230, [l0, l1, l2, l3, l4, l5, l6, l7, l8, l9, l10, l11, l12, l13, l14, l15, l16, l17, l18, l19, l20, l21, l22, l23, l24, l25, l26, l27, l28, l29], (v :: S), H, cs, ss)) q := by
  subst hgo
  refine res_of s0_230 ?_
  rw [pA_isA hv, st1_so (L := [l0, l1, l2, l3, l4, l5, l6, l7, l8, l9, l10, l11, l12, l13, l14, l15, l16, l17, l18, l19, l20, l21, l22, l23, l24, l25, l26, l27, l28, l29]) (k := 24) (l := l24) rfl hk]
  exact h
theorem t0_232 {go : Nat → St → Option ORes} (hgo : go = orun code ret E0 0) {n cs ss : Nat} {l0 l1 l2 l3 l4 l6 l7 l8 l9 l10 l11 l12 l13 l14 l15 l16 l17 l18 l19 l20 l21 l22 l23 l24 l25 l26 l27 l28 l29 : Slot} {S : List Value} {H : AH} {q : Option ORes → Prop} {v : Int32} (h : Rsq (go n (234, [l0, l1, l2, l3, l4, .val (.int v), l6, l7, l8, l9, l10, l11, l12, l13, l14, l15, l16, l17, l18, l19, l20, l21, l22, l23, l24, l25, l26, l27, l28, l29], (.int v :: S), H, cs, ss)) q) : Rsq (go (n + 1) (232, [l0, l1, l2, l3, l4, .val (.int v), l6, l7, l8, l9, l10, l11, l12, l13, l14, l15, l16, l17, l18, l19, l20, l21, l22, l23, l24, l25, l26, l27, l28, l29], S, H, cs, ss)) q := by
  subst hgo
  exact res_of s0_232 h
theorem t0_234 {go : Nat → St → Option ORes} (hgo : go = orun code ret E0 0) {n cs ss : Nat} {l0 l1 l2 l3 l4 l5 l6 l7 l8 l9 l10 l11 l12 l13 l14 l15 l16 l17 l18 l19 l20 l21 l22 l24 l25 l26 l27 l28 l29 : Slot} {S : List Value} {H : AH} {q : Option ORes → Prop} {v : Int32} (h : Rsq (go n (236, [l0, l1, l2, l3, l4, l5, l6, l7, l8, l9, l10, l11, l12, l13, l14, l15, l16, l17, l18, l19, l20, l21, l22, .val (.int v), l24, l25, l26, l27, l28, l29], (.int v :: S), H, cs, ss)) q) : Rsq (go (n + 1) (234, [l0, l1, l2, l3, l4, l5, l6, l7, l8, l9, l10, l11, l12, l13, l14, l15, l16, l17, l18, l19, l20, l21, l22, .val (.int v), l24, l25, l26, l27, l28, l29], S, H, cs, ss)) q := by
  subst hgo
  exact res_of s0_234 h
theorem t0_236 {go : Nat → St → Option ORes} (hgo : go = orun code ret E0 0) {n cs ss : Nat} {L : List Slot} {S : List Value} {H : AH} {q : Option ORes → Prop} {x y : Int32} (h : Rsq (go n (237, L, (.int (x - y) :: S), H, cs, ss)) q) : Rsq (go (n + 1) (236, L, (.int y :: .int x :: S), H, cs, ss)) q := by
  subst hgo
  exact res_of s0_236 h
theorem u0_237 {go : Nat → St → Option ORes} (hgo : go = orun code ret E0 0) {n cs ss : Nat} {L : List Slot} {S : List Value} {H : AH} : go (n + 1) (237, L, S, H, cs, ss) = (aArr .int 16 128 S H cs ss).bind fun r => go n (239, L, r.1, r.2.1, r.2.2.1, r.2.2.2) := by
  subst hgo
  exact s0_237
theorem t0_239 {go : Nat → St → Option ORes} (hgo : go = orun code ret E0 0) {n cs ss : Nat} {l0 l1 l2 l3 l4 l5 l6 l7 l8 l9 l10 l11 l12 l13 l14 l15 l16 l17 l18 l19 l20 l21 l22 l23 l24 l25 l26 l27 l28 l29 : Slot} {S : List Value} {H : AH} {q : Option ORes → Prop} {v : Value} (hv : isA v = true) (hk : so l25 = true) (h : Rsq (go n (241, [l0, l1, l2, l3, l4, l5, l6, l7, l8, l9, l10, l11, l12, l13, l14, l15, l16, l17, l18, l19, l20, l21, l22, l23, l24, .val v, l26, l27, l28, l29], S, H, cs, ss)) q) : Rsq (go (n + 1) (239, [l0, l1, l2, l3, l4, l5, l6, l7, l8, l9, l10, l11, l12, l13, l14, l15, l16, l17, l18, l19, l20, l21, l22, l23, l24, l25, l26, l27, l28, l29], (v :: S), H, cs, ss)) q := by
  subst hgo
  refine res_of s0_239 ?_
  rw [pA_isA hv, st1_so (L := [l0, l1, l2, l3, l4, l5, l6, l7, l8, l9, l10, l11, l12, l13, l14, l15, l16, l17, l18, l19, l20, l21, l22, l23, l24, l25, l26, l27, l28, l29]) (k := 25) (l := l25) rfl hk]
  exact h
theorem t0_241 {go : Nat → St → Option ORes} (hgo : go = orun code ret E0 0) {n cs ss : Nat} {L : List Slot} {S : List Value} {H : AH} {q : Option ORes → Prop} (h : Rsq (go n (242, L, (.int 0 :: S), H, cs, ss)) q) : Rsq (go (n + 1) (241, L, S, H, cs, ss)) q := by
  subst hgo
  exact res_of s0_241 h
theorem t0_242 {go : Nat → St → Option ORes} (hgo : go = orun code ret E0 0) {n cs ss : Nat} {l0 l1 l2 l3 l4 l5 l6 l7 l8 l9 l10 l11 l12 l13 l14 l15 l16 l17 l18 l19 l20 l21 l22 l23 l24 l25 l26 l27 l28 l29 : Slot} {S : List Value} {H : AH} {q : Option ORes → Prop} {x : Int32} (hk : so l26 = true) (h : Rsq (go n (244, [l0, l1, l2, l3, l4, l5, l6, l7, l8, l9, l10, l11, l12, l13, l14, l15, l16, l17, l18, l19, l20, l21, l22, l23, l24, l25, .val (.int x), l27, l28, l29], S, H, cs, ss)) q) : Rsq (go (n + 1) (242, [l0, l1, l2, l3, l4, l5, l6, l7, l8, l9, l10, l11, l12, l13, l14, l15, l16, l17, l18, l19, l20, l21, l22, l23, l24, l25, l26, l27, l28, l29], (.int x :: S), H, cs, ss)) q := by
  subst hgo
  refine res_of s0_242 ?_
  rw [pI_int, st1_so (L := [l0, l1, l2, l3, l4, l5, l6, l7, l8, l9, l10, l11, l12, l13, l14, l15, l16, l17, l18, l19, l20, l21, l22, l23, l24, l25, l26, l27, l28, l29]) (k := 26) (l := l26) rfl hk]
  exact h
theorem t0_244 {go : Nat → St → Option ORes} (hgo : go = orun code ret E0 0) {n cs ss : Nat} {L : List Slot} {S : List Value} {H : AH} {q : Option ORes → Prop} (h : Rsq (go n (245, L, (.int 0 :: S), H, cs, ss)) q) : Rsq (go (n + 1) (244, L, S, H, cs, ss)) q := by
  subst hgo
  exact res_of s0_244 h
theorem t0_245 {go : Nat → St → Option ORes} (hgo : go = orun code ret E0 0) {n cs ss : Nat} {l0 l1 l2 l3 l4 l5 l6 l7 l8 l9 l10 l11 l12 l13 l14 l15 l16 l17 l18 l19 l20 l21 l22 l23 l24 l25 l26 l27 l28 l29 : Slot} {S : List Value} {H : AH} {q : Option ORes → Prop} {x : Int32} (hk : so l27 = true) (h : Rsq (go n (247, [l0, l1, l2, l3, l4, l5, l6, l7, l8, l9, l10, l11, l12, l13, l14, l15, l16, l17, l18, l19, l20, l21, l22, l23, l24, l25, l26, .val (.int x), l28, l29], S, H, cs, ss)) q) : Rsq (go (n + 1) (245, [l0, l1, l2, l3, l4, l5, l6, l7, l8, l9, l10, l11, l12, l13, l14, l15, l16, l17, l18, l19, l20, l21, l22, l23, l24, l25, l26, l27, l28, l29], (.int x :: S), H, cs, ss)) q := by
  subst hgo
  refine res_of s0_245 ?_
  rw [pI_int, st1_so (L := [l0, l1, l2, l3, l4, l5, l6, l7, l8, l9, l10, l11, l12, l13, l14, l15, l16, l17, l18, l19, l20, l21, l22, l23, l24, l25, l26, l27, l28, l29]) (k := 27) (l := l27) rfl hk]
  exact h
theorem t0_247 {go : Nat → St → Option ORes} (hgo : go = orun code ret E0 0) {n cs ss : Nat} {l0 l1 l2 l3 l4 l6 l7 l8 l9 l10 l11 l12 l13 l14 l15 l16 l17 l18 l19 l20 l21 l22 l23 l24 l25 l26 l27 l28 l29 : Slot} {S : List Value} {H : AH} {q : Option ORes → Prop} {v : Int32} (h : Rsq (go n (249, [l0, l1, l2, l3, l4, .val (.int v), l6, l7, l8, l9, l10, l11, l12, l13, l14, l15, l16, l17, l18, l19, l20, l21, l22, l23, l24, l25, l26, l27, l28, l29], (.int v :: S), H, cs, ss)) q) : Rsq (go (n + 1) (247, [l0, l1, l2, l3, l4, .val (.int v), l6, l7, l8, l9, l10, l11, l12, l13, l14, l15, l16, l17, l18, l19, l20, l21, l22, l23, l24, l25, l26, l27, l28, l29], S, H, cs, ss)) q := by
  subst hgo
  exact res_of s0_247 h
theorem t0_249t {go : Nat → St → Option ORes} (hgo : go = orun code ret E0 0) {n cs ss : Nat} {L : List Slot} {S : List Value} {H : AH} {q : Option ORes → Prop} {x : Int32} (hc : 0 < x) (h : Rsq (go n (252, L, S, H, cs, ss)) q) : Rsq (go (n + 1) (249, L, (.int x :: S), H, cs, ss)) q := by
  subst hgo
  exact res_of s0_249 (res_t hc h)
theorem t0_249f {go : Nat → St → Option ORes} (hgo : go = orun code ret E0 0) {n cs ss : Nat} {L : List Slot} {S : List Value} {H : AH} {q : Option ORes → Prop} {x : Int32} (hc : ¬ 0 < x) (h : Rsq (go n (280, L, S, H, cs, ss)) q) : Rsq (go (n + 1) (249, L, (.int x :: S), H, cs, ss)) q := by
  subst hgo
  exact res_of s0_249 (res_f hc h)
theorem t0_252 {go : Nat → St → Option ORes} (hgo : go = orun code ret E0 0) {n cs ss : Nat} {l0 l1 l2 l3 l4 l5 l6 l7 l8 l9 l10 l11 l12 l13 l14 l15 l16 l17 l18 l20 l21 l22 l23 l24 l25 l26 l27 l28 l29 : Slot} {S : List Value} {H : AH} {q : Option ORes → Prop} {v : Int32} (h : Rsq (go n (254, [l0, l1, l2, l3, l4, l5, l6, l7, l8, l9, l10, l11, l12, l13, l14, l15, l16, l17, l18, .val (.int v), l20, l21, l22, l23, l24, l25, l26, l27, l28, l29], (.int v :: S), H, cs, ss)) q) : Rsq (go (n + 1) (252, [l0, l1, l2, l3, l4, l5, l6, l7, l8, l9, l10, l11, l12, l13, l14, l15, l16, l17, l18, .val (.int v), l20, l21, l22, l23, l24, l25, l26, l27, l28, l29], S, H, cs, ss)) q := by
  subst hgo
  exact res_of s0_252 h
theorem t0_254t {go : Nat → St → Option ORes} (hgo : go = orun code ret E0 0) {n cs ss : Nat} {L : List Slot} {S : List Value} {H : AH} {q : Option ORes → Prop} {x : Int32} (hc : x = 0) (h : Rsq (go n (270, L, S, H, cs, ss)) q) : Rsq (go (n + 1) (254, L, (.int x :: S), H, cs, ss)) q := by
  subst hgo
  exact res_of s0_254 (res_t hc h)
theorem t0_254f {go : Nat → St → Option ORes} (hgo : go = orun code ret E0 0) {n cs ss : Nat} {L : List Slot} {S : List Value} {H : AH} {q : Option ORes → Prop} {x : Int32} (hc : ¬ x = 0) (h : Rsq (go n (257, L, S, H, cs, ss)) q) : Rsq (go (n + 1) (254, L, (.int x :: S), H, cs, ss)) q := by
  subst hgo
  exact res_of s0_254 (res_f hc h)
theorem t0_257 {go : Nat → St → Option ORes} (hgo : go = orun code ret E0 0) {n cs ss : Nat} {l0 l1 l2 l3 l4 l5 l6 l7 l8 l9 l10 l11 l12 l13 l14 l15 l16 l17 l18 l19 l20 l21 l22 l23 l25 l26 l27 l28 l29 : Slot} {S : List Value} {H : AH} {q : Option ORes → Prop} {v : Value} (hv : isA v = true) (h : Rsq (go n (259, [l0, l1, l2, l3, l4, l5, l6, l7, l8, l9, l10, l11, l12, l13, l14, l15, l16, l17, l18, l19, l20, l21, l22, l23, .val v, l25, l26, l27, l28, l29], (v :: S), H, cs, ss)) q) : Rsq (go (n + 1) (257, [l0, l1, l2, l3, l4, l5, l6, l7, l8, l9, l10, l11, l12, l13, l14, l15, l16, l17, l18, l19, l20, l21, l22, l23, .val v, l25, l26, l27, l28, l29], S, H, cs, ss)) q := by
  subst hgo
  refine res_of s0_257 ?_
  rw [gA_isA (L := [l0, l1, l2, l3, l4, l5, l6, l7, l8, l9, l10, l11, l12, l13, l14, l15, l16, l17, l18, l19, l20, l21, l22, l23, .val v, l25, l26, l27, l28, l29]) (k := 24) (v := v) rfl hv]
  exact h
theorem t0_259 {go : Nat → St → Option ORes} (hgo : go = orun code ret E0 0) {n cs ss : Nat} {l0 l1 l2 l3 l4 l5 l6 l7 l8 l9 l10 l11 l12 l13 l14 l15 l16 l17 l18 l19 l20 l21 l22 l23 l24 l25 l27 l28 l29 : Slot} {S : List Value} {H : AH} {q : Option ORes → Prop} {v : Int32} (h : Rsq (go n (261, [l0, l1, l2, l3, l4, l5, l6, l7, l8, l9, l10, l11, l12, l13, l14, l15, l16, l17, l18, l19, l20, l21, l22, l23, l24, l25, .val (.int v), l27, l28, l29], (.int v :: S), H, cs, ss)) q) : Rsq (go (n + 1) (259, [l0, l1, l2, l3, l4, l5, l6, l7, l8, l9, l10, l11, l12, l13, l14, l15, l16, l17, l18, l19, l20, l21, l22, l23, l24, l25, .val (.int v), l27, l28, l29], S, H, cs, ss)) q := by
  subst hgo
  exact res_of s0_259 h
theorem t0_261 {go : Nat → St → Option ORes} (hgo : go = orun code ret E0 0) {n cs ss : Nat} {l0 l1 l2 l3 l4 l5 l6 l7 l8 l9 l10 l11 l12 l13 l14 l16 l17 l18 l19 l20 l21 l22 l23 l24 l25 l26 l27 l28 l29 : Slot} {S : List Value} {H : AH} {q : Option ORes → Prop} {v : Int32} (h : Rsq (go n (263, [l0, l1, l2, l3, l4, l5, l6, l7, l8, l9, l10, l11, l12, l13, l14, .val (.int v), l16, l17, l18, l19, l20, l21, l22, l23, l24, l25, l26, l27, l28, l29], (.int v :: S), H, cs, ss)) q) : Rsq (go (n + 1) (261, [l0, l1, l2, l3, l4, l5, l6, l7, l8, l9, l10, l11, l12, l13, l14, .val (.int v), l16, l17, l18, l19, l20, l21, l22, l23, l24, l25, l26, l27, l28, l29], S, H, cs, ss)) q := by
  subst hgo
  exact res_of s0_261 h
theorem u0_263 {go : Nat → St → Option ORes} (hgo : go = orun code ret E0 0) {n cs ss : Nat} {L : List Slot} {S : List Value} {H : AH} : go (n + 1) (263, L, S, H, cs, ss) = ex ret E0 0 (go n) (.iastore) 263 L S H cs ss := by
  subst hgo
  exact s0_263
theorem t0_264 {go : Nat → St → Option ORes} (hgo : go = orun code ret E0 0) {n cs ss : Nat} {l0 l1 l2 l3 l4 l5 l6 l7 l8 l9 l10 l11 l12 l13 l14 l15 l16 l17 l18 l19 l20 l21 l22 l23 l24 l25 l27 l28 l29 : Slot} {S : List Value} {H : AH} {q : Option ORes → Prop} {v : Int32} (h : Rsq (go n (267, [l0, l1, l2, l3, l4, l5, l6, l7, l8, l9, l10, l11, l12, l13, l14, l15, l16, l17, l18, l19, l20, l21, l22, l23, l24, l25, .val (.int (v + 1)), l27, l28, l29], S, H, cs, ss)) q) : Rsq (go (n + 1) (264, [l0, l1, l2, l3, l4, l5, l6, l7, l8, l9, l10, l11, l12, l13, l14, l15, l16, l17, l18, l19, l20, l21, l22, l23, l24, l25, .val (.int v), l27, l28, l29], S, H, cs, ss)) q := by
  subst hgo
  exact res_of s0_264 h
theorem t0_267 {go : Nat → St → Option ORes} (hgo : go = orun code ret E0 0) {n cs ss : Nat} {L : List Slot} {S : List Value} {H : AH} {q : Option ORes → Prop} (h : Rsq (go n (280, L, S, H, cs, ss)) q) : Rsq (go (n + 1) (267, L, S, H, cs, ss)) q := by
  subst hgo
  exact res_of s0_267 h
theorem t0_270 {go : Nat → St → Option ORes} (hgo : go = orun code ret E0 0) {n cs ss : Nat} {l0 l1 l2 l3 l4 l5 l6 l7 l8 l9 l10 l11 l12 l13 l14 l15 l16 l17 l18 l19 l20 l21 l22 l23 l24 l26 l27 l28 l29 : Slot} {S : List Value} {H : AH} {q : Option ORes → Prop} {v : Value} (hv : isA v = true) (h : Rsq (go n (272, [l0, l1, l2, l3, l4, l5, l6, l7, l8, l9, l10, l11, l12, l13, l14, l15, l16, l17, l18, l19, l20, l21, l22, l23, l24, .val v, l26, l27, l28, l29], (v :: S), H, cs, ss)) q) : Rsq (go (n + 1) (270, [l0, l1, l2, l3, l4, l5, l6, l7, l8, l9, l10, l11, l12, l13, l14, l15, l16, l17, l18, l19, l20, l21, l22, l23, l24, .val v, l26, l27, l28, l29], S, H, cs, ss)) q := by
  subst hgo
  refine res_of s0_270 ?_
  rw [gA_isA (L := [l0, l1, l2, l3, l4, l5, l6, l7, l8, l9, l10, l11, l12, l13, l14, l15, l16, l17, l18, l19, l20, l21, l22, l23, l24, .val v, l26, l27, l28, l29]) (k := 25) (v := v) rfl hv]
  exact h
theorem t0_272 {go : Nat → St → Option ORes} (hgo : go = orun code ret E0 0) {n cs ss : Nat} {l0 l1 l2 l3 l4 l5 l6 l7 l8 l9 l10 l11 l12 l13 l14 l15 l16 l17 l18 l19 l20 l21 l22 l23 l24 l25 l26 l28 l29 : Slot} {S : List Value} {H : AH} {q : Option ORes → Prop} {v : Int32} (h : Rsq (go n (274, [l0, l1, l2, l3, l4, l5, l6, l7, l8, l9, l10, l11, l12, l13, l14, l15, l16, l17, l18, l19, l20, l21, l22, l23, l24, l25, l26, .val (.int v), l28, l29], (.int v :: S), H, cs, ss)) q) : Rsq (go (n + 1) (272, [l0, l1, l2, l3, l4, l5, l6, l7, l8, l9, l10, l11, l12, l13, l14, l15, l16, l17, l18, l19, l20, l21, l22, l23, l24, l25, l26, .val (.int v), l28, l29], S, H, cs, ss)) q := by
  subst hgo
  exact res_of s0_272 h
theorem t0_274 {go : Nat → St → Option ORes} (hgo : go = orun code ret E0 0) {n cs ss : Nat} {l0 l1 l2 l3 l4 l5 l6 l7 l8 l9 l10 l11 l12 l13 l14 l16 l17 l18 l19 l20 l21 l22 l23 l24 l25 l26 l27 l28 l29 : Slot} {S : List Value} {H : AH} {q : Option ORes → Prop} {v : Int32} (h : Rsq (go n (276, [l0, l1, l2, l3, l4, l5, l6, l7, l8, l9, l10, l11, l12, l13, l14, .val (.int v), l16, l17, l18, l19, l20, l21, l22, l23, l24, l25, l26, l27, l28, l29], (.int v :: S), H, cs, ss)) q) : Rsq (go (n + 1) (274, [l0, l1, l2, l3, l4, l5, l6, l7, l8, l9, l10, l11, l12, l13, l14, .val (.int v), l16, l17, l18, l19, l20, l21, l22, l23, l24, l25, l26, l27, l28, l29], S, H, cs, ss)) q := by
  subst hgo
  exact res_of s0_274 h
theorem u0_276 {go : Nat → St → Option ORes} (hgo : go = orun code ret E0 0) {n cs ss : Nat} {L : List Slot} {S : List Value} {H : AH} : go (n + 1) (276, L, S, H, cs, ss) = ex ret E0 0 (go n) (.iastore) 276 L S H cs ss := by
  subst hgo
  exact s0_276
theorem t0_277 {go : Nat → St → Option ORes} (hgo : go = orun code ret E0 0) {n cs ss : Nat} {l0 l1 l2 l3 l4 l5 l6 l7 l8 l9 l10 l11 l12 l13 l14 l15 l16 l17 l18 l19 l20 l21 l22 l23 l24 l25 l26 l28 l29 : Slot} {S : List Value} {H : AH} {q : Option ORes → Prop} {v : Int32} (h : Rsq (go n (280, [l0, l1, l2, l3, l4, l5, l6, l7, l8, l9, l10, l11, l12, l13, l14, l15, l16, l17, l18, l19, l20, l21, l22, l23, l24, l25, l26, .val (.int (v + 1)), l28, l29], S, H, cs, ss)) q) : Rsq (go (n + 1) (277, [l0, l1, l2, l3, l4, l5, l6, l7, l8, l9, l10, l11, l12, l13, l14, l15, l16, l17, l18, l19, l20, l21, l22, l23, l24, l25, l26, .val (.int v), l28, l29], S, H, cs, ss)) q := by
  subst hgo
  exact res_of s0_277 h
theorem t0_280 {go : Nat → St → Option ORes} (hgo : go = orun code ret E0 0) {n cs ss : Nat} {l0 l1 l2 l3 l4 l6 l7 l8 l9 l10 l11 l12 l13 l14 l15 l16 l17 l18 l19 l20 l21 l22 l23 l24 l25 l26 l27 l28 l29 : Slot} {S : List Value} {H : AH} {q : Option ORes → Prop} {v : Int32} (h : Rsq (go n (282, [l0, l1, l2, l3, l4, .val (.int v), l6, l7, l8, l9, l10, l11, l12, l13, l14, l15, l16, l17, l18, l19, l20, l21, l22, l23, l24, l25, l26, l27, l28, l29], (.int v :: S), H, cs, ss)) q) : Rsq (go (n + 1) (280, [l0, l1, l2, l3, l4, .val (.int v), l6, l7, l8, l9, l10, l11, l12, l13, l14, l15, l16, l17, l18, l19, l20, l21, l22, l23, l24, l25, l26, l27, l28, l29], S, H, cs, ss)) q := by
  subst hgo
  exact res_of s0_280 h
theorem t0_282 {go : Nat → St → Option ORes} (hgo : go = orun code ret E0 0) {n cs ss : Nat} {L : List Slot} {S : List Value} {H : AH} {q : Option ORes → Prop} (h : Rsq (go n (283, L, (.int 1 :: S), H, cs, ss)) q) : Rsq (go (n + 1) (282, L, S, H, cs, ss)) q := by
  subst hgo
  exact res_of s0_282 h
theorem t0_283t {go : Nat → St → Option ORes} (hgo : go = orun code ret E0 0) {n cs ss : Nat} {L : List Slot} {S : List Value} {H : AH} {q : Option ORes → Prop} {x y : Int32} (hc : y < x) (h : Rsq (go n (286, L, S, H, cs, ss)) q) : Rsq (go (n + 1) (283, L, (.int y :: .int x :: S), H, cs, ss)) q := by
  subst hgo
  exact res_of s0_283 (res_t hc h)
theorem t0_283f {go : Nat → St → Option ORes} (hgo : go = orun code ret E0 0) {n cs ss : Nat} {L : List Slot} {S : List Value} {H : AH} {q : Option ORes → Prop} {x y : Int32} (hc : ¬ y < x) (h : Rsq (go n (314, L, S, H, cs, ss)) q) : Rsq (go (n + 1) (283, L, (.int y :: .int x :: S), H, cs, ss)) q := by
  subst hgo
  exact res_of s0_283 (res_f hc h)
theorem t0_286 {go : Nat → St → Option ORes} (hgo : go = orun code ret E0 0) {n cs ss : Nat} {l0 l1 l2 l3 l4 l5 l6 l7 l8 l9 l10 l11 l12 l13 l14 l15 l16 l17 l18 l19 l21 l22 l23 l24 l25 l26 l27 l28 l29 : Slot} {S : List Value} {H : AH} {q : Option ORes → Prop} {v : Int32} (h : Rsq (go n (288, [l0, l1, l2, l3, l4, l5, l6, l7, l8, l9, l10, l11, l12, l13, l14, l15, l16, l17, l18, l19, .val (.int v), l21, l22, l23, l24, l25, l26, l27, l28, l29], (.int v :: S), H, cs, ss)) q) : Rsq (go (n + 1) (286, [l0, l1, l2, l3, l4, l5, l6, l7, l8, l9, l10, l11, l12, l13, l14, l15, l16, l17, l18, l19, .val (.int v), l21, l22, l23, l24, l25, l26, l27, l28, l29], S, H, cs, ss)) q := by
  subst hgo
  exact res_of s0_286 h
theorem t0_288t {go : Nat → St → Option ORes} (hgo : go = orun code ret E0 0) {n cs ss : Nat} {L : List Slot} {S : List Value} {H : AH} {q : Option ORes → Prop} {x : Int32} (hc : x = 0) (h : Rsq (go n (304, L, S, H, cs, ss)) q) : Rsq (go (n + 1) (288, L, (.int x :: S), H, cs, ss)) q := by
  subst hgo
  exact res_of s0_288 (res_t hc h)
theorem t0_288f {go : Nat → St → Option ORes} (hgo : go = orun code ret E0 0) {n cs ss : Nat} {L : List Slot} {S : List Value} {H : AH} {q : Option ORes → Prop} {x : Int32} (hc : ¬ x = 0) (h : Rsq (go n (291, L, S, H, cs, ss)) q) : Rsq (go (n + 1) (288, L, (.int x :: S), H, cs, ss)) q := by
  subst hgo
  exact res_of s0_288 (res_f hc h)
theorem t0_291 {go : Nat → St → Option ORes} (hgo : go = orun code ret E0 0) {n cs ss : Nat} {l0 l1 l2 l3 l4 l5 l6 l7 l8 l9 l10 l11 l12 l13 l14 l15 l16 l17 l18 l19 l20 l21 l22 l23 l25 l26 l27 l28 l29 : Slot} {S : List Value} {H : AH} {q : Option ORes → Prop} {v : Value} (hv : isA v = true) (h : Rsq (go n (293, [l0, l1, l2, l3, l4, l5, l6, l7, l8, l9, l10, l11, l12, l13, l14, l15, l16, l17, l18, l19, l20, l21, l22, l23, .val v, l25, l26, l27, l28, l29], (v :: S), H, cs, ss)) q) : Rsq (go (n + 1) (291, [l0, l1, l2, l3, l4, l5, l6, l7, l8, l9, l10, l11, l12, l13, l14, l15, l16, l17, l18, l19, l20, l21, l22, l23, .val v, l25, l26, l27, l28, l29], S, H, cs, ss)) q := by
  subst hgo
  refine res_of s0_291 ?_
  rw [gA_isA (L := [l0, l1, l2, l3, l4, l5, l6, l7, l8, l9, l10, l11, l12, l13, l14, l15, l16, l17, l18, l19, l20, l21, l22, l23, .val v, l25, l26, l27, l28, l29]) (k := 24) (v := v) rfl hv]
  exact h
theorem t0_293 {go : Nat → St → Option ORes} (hgo : go = orun code ret E0 0) {n cs ss : Nat} {l0 l1 l2 l3 l4 l5 l6 l7 l8 l9 l10 l11 l12 l13 l14 l15 l16 l17 l18 l19 l20 l21 l22 l23 l24 l25 l27 l28 l29 : Slot} {S : List Value} {H : AH} {q : Option ORes → Prop} {v : Int32} (h : Rsq (go n (295, [l0, l1, l2, l3, l4, l5, l6, l7, l8, l9, l10, l11, l12, l13, l14, l15, l16, l17, l18, l19, l20, l21, l22, l23, l24, l25, .val (.int v), l27, l28, l29], (.int v :: S), H, cs, ss)) q) : Rsq (go (n + 1) (293, [l0, l1, l2, l3, l4, l5, l6, l7, l8, l9, l10, l11, l12, l13, l14, l15, l16, l17, l18, l19, l20, l21, l22, l23, l24, l25, .val (.int v), l27, l28, l29], S, H, cs, ss)) q := by
  subst hgo
  exact res_of s0_293 h
theorem t0_295 {go : Nat → St → Option ORes} (hgo : go = orun code ret E0 0) {n cs ss : Nat} {l0 l1 l2 l3 l4 l5 l6 l7 l8 l9 l10 l11 l12 l13 l14 l15 l17 l18 l19 l20 l21 l22 l23 l24 l25 l26 l27 l28 l29 : Slot} {S : List Value} {H : AH} {q : Option ORes → Prop} {v : Int32} (h : Rsq (go n (297, [l0, l1, l2, l3, l4, l5, l6, l7, l8, l9, l10, l11, l12, l13, l14, l15, .val (.int v), l17, l18, l19, l20, l21, l22, l23, l24, l25, l26, l27, l28, l29], (.int v :: S), H, cs, ss)) q) : Rsq (go (n + 1) (295, [l0, l1, l2, l3, l4, l5, l6, l7, l8, l9, l10, l11, l12, l13, l14, l15, .val (.int v), l17, l18, l19, l20, l21, l22, l23, l24, l25, l26, l27, l28, l29], S, H, cs, ss)) q := by
  subst hgo
  exact res_of s0_295 h
theorem u0_297 {go : Nat → St → Option ORes} (hgo : go = orun code ret E0 0) {n cs ss : Nat} {L : List Slot} {S : List Value} {H : AH} : go (n + 1) (297, L, S, H, cs, ss) = ex ret E0 0 (go n) (.iastore) 297 L S H cs ss := by
  subst hgo
  exact s0_297
theorem t0_298 {go : Nat → St → Option ORes} (hgo : go = orun code ret E0 0) {n cs ss : Nat} {l0 l1 l2 l3 l4 l5 l6 l7 l8 l9 l10 l11 l12 l13 l14 l15 l16 l17 l18 l19 l20 l21 l22 l23 l24 l25 l27 l28 l29 : Slot} {S : List Value} {H : AH} {q : Option ORes → Prop} {v : Int32} (h : Rsq (go n (301, [l0, l1, l2, l3, l4, l5, l6, l7, l8, l9, l10, l11, l12, l13, l14, l15, l16, l17, l18, l19, l20, l21, l22, l23, l24, l25, .val (.int (v + 1)), l27, l28, l29], S, H, cs, ss)) q) : Rsq (go (n + 1) (298, [l0, l1, l2, l3, l4, l5, l6, l7, l8, l9, l10, l11, l12, l13, l14, l15, l16, l17, l18, l19, l20, l21, l22, l23, l24, l25, .val (.int v), l27, l28, l29], S, H, cs, ss)) q := by
  subst hgo
  exact res_of s0_298 h
theorem t0_301 {go : Nat → St → Option ORes} (hgo : go = orun code ret E0 0) {n cs ss : Nat} {L : List Slot} {S : List Value} {H : AH} {q : Option ORes → Prop} (h : Rsq (go n (314, L, S, H, cs, ss)) q) : Rsq (go (n + 1) (301, L, S, H, cs, ss)) q := by
  subst hgo
  exact res_of s0_301 h
theorem t0_304 {go : Nat → St → Option ORes} (hgo : go = orun code ret E0 0) {n cs ss : Nat} {l0 l1 l2 l3 l4 l5 l6 l7 l8 l9 l10 l11 l12 l13 l14 l15 l16 l17 l18 l19 l20 l21 l22 l23 l24 l26 l27 l28 l29 : Slot} {S : List Value} {H : AH} {q : Option ORes → Prop} {v : Value} (hv : isA v = true) (h : Rsq (go n (306, [l0, l1, l2, l3, l4, l5, l6, l7, l8, l9, l10, l11, l12, l13, l14, l15, l16, l17, l18, l19, l20, l21, l22, l23, l24, .val v, l26, l27, l28, l29], (v :: S), H, cs, ss)) q) : Rsq (go (n + 1) (304, [l0, l1, l2, l3, l4, l5, l6, l7, l8, l9, l10, l11, l12, l13, l14, l15, l16, l17, l18, l19, l20, l21, l22, l23, l24, .val v, l26, l27, l28, l29], S, H, cs, ss)) q := by
  subst hgo
  refine res_of s0_304 ?_
  rw [gA_isA (L := [l0, l1, l2, l3, l4, l5, l6, l7, l8, l9, l10, l11, l12, l13, l14, l15, l16, l17, l18, l19, l20, l21, l22, l23, l24, .val v, l26, l27, l28, l29]) (k := 25) (v := v) rfl hv]
  exact h
theorem t0_306 {go : Nat → St → Option ORes} (hgo : go = orun code ret E0 0) {n cs ss : Nat} {l0 l1 l2 l3 l4 l5 l6 l7 l8 l9 l10 l11 l12 l13 l14 l15 l16 l17 l18 l19 l20 l21 l22 l23 l24 l25 l26 l28 l29 : Slot} {S : List Value} {H : AH} {q : Option ORes → Prop} {v : Int32} (h : Rsq (go n (308, [l0, l1, l2, l3, l4, l5, l6, l7, l8, l9, l10, l11, l12, l13, l14, l15, l16, l17, l18, l19, l20, l21, l22, l23, l24, l25, l26, .val (.int v), l28, l29], (.int v :: S), H, cs, ss)) q) : Rsq (go (n + 1) (306, [l0, l1, l2, l3, l4, l5, l6, l7, l8, l9, l10, l11, l12, l13, l14, l15, l16, l17, l18, l19, l20, l21, l22, l23, l24, l25, l26, .val (.int v), l28, l29], S, H, cs, ss)) q := by
  subst hgo
  exact res_of s0_306 h
theorem t0_308 {go : Nat → St → Option ORes} (hgo : go = orun code ret E0 0) {n cs ss : Nat} {l0 l1 l2 l3 l4 l5 l6 l7 l8 l9 l10 l11 l12 l13 l14 l15 l17 l18 l19 l20 l21 l22 l23 l24 l25 l26 l27 l28 l29 : Slot} {S : List Value} {H : AH} {q : Option ORes → Prop} {v : Int32} (h : Rsq (go n (310, [l0, l1, l2, l3, l4, l5, l6, l7, l8, l9, l10, l11, l12, l13, l14, l15, .val (.int v), l17, l18, l19, l20, l21, l22, l23, l24, l25, l26, l27, l28, l29], (.int v :: S), H, cs, ss)) q) : Rsq (go (n + 1) (308, [l0, l1, l2, l3, l4, l5, l6, l7, l8, l9, l10, l11, l12, l13, l14, l15, .val (.int v), l17, l18, l19, l20, l21, l22, l23, l24, l25, l26, l27, l28, l29], S, H, cs, ss)) q := by
  subst hgo
  exact res_of s0_308 h
theorem u0_310 {go : Nat → St → Option ORes} (hgo : go = orun code ret E0 0) {n cs ss : Nat} {L : List Slot} {S : List Value} {H : AH} : go (n + 1) (310, L, S, H, cs, ss) = ex ret E0 0 (go n) (.iastore) 310 L S H cs ss := by
  subst hgo
  exact s0_310
theorem t0_311 {go : Nat → St → Option ORes} (hgo : go = orun code ret E0 0) {n cs ss : Nat} {l0 l1 l2 l3 l4 l5 l6 l7 l8 l9 l10 l11 l12 l13 l14 l15 l16 l17 l18 l19 l20 l21 l22 l23 l24 l25 l26 l28 l29 : Slot} {S : List Value} {H : AH} {q : Option ORes → Prop} {v : Int32} (h : Rsq (go n (314, [l0, l1, l2, l3, l4, l5, l6, l7, l8, l9, l10, l11, l12, l13, l14, l15, l16, l17, l18, l19, l20, l21, l22, l23, l24, l25, l26, .val (.int (v + 1)), l28, l29], S, H, cs, ss)) q) : Rsq (go (n + 1) (311, [l0, l1, l2, l3, l4, l5, l6, l7, l8, l9, l10, l11, l12, l13, l14, l15, l16, l17, l18, l19, l20, l21, l22, l23, l24, l25, l26, .val (.int v), l28, l29], S, H, cs, ss)) q := by
  subst hgo
  exact res_of s0_311 h
theorem t0_314 {go : Nat → St → Option ORes} (hgo : go = orun code ret E0 0) {n cs ss : Nat} {l0 l1 l2 l3 l4 l6 l7 l8 l9 l10 l11 l12 l13 l14 l15 l16 l17 l18 l19 l20 l21 l22 l23 l24 l25 l26 l27 l28 l29 : Slot} {S : List Value} {H : AH} {q : Option ORes → Prop} {v : Int32} (h : Rsq (go n (316, [l0, l1, l2, l3, l4, .val (.int v), l6, l7, l8, l9, l10, l11, l12, l13, l14, l15, l16, l17, l18, l19, l20, l21, l22, l23, l24, l25, l26, l27, l28, l29], (.int v :: S), H, cs, ss)) q) : Rsq (go (n + 1) (314, [l0, l1, l2, l3, l4, .val (.int v), l6, l7, l8, l9, l10, l11, l12, l13, l14, l15, l16, l17, l18, l19, l20, l21, l22, l23, l24, l25, l26, l27, l28, l29], S, H, cs, ss)) q := by
  subst hgo
  exact res_of s0_314 h
theorem t0_316 {go : Nat → St → Option ORes} (hgo : go = orun code ret E0 0) {n cs ss : Nat} {L : List Slot} {S : List Value} {H : AH} {q : Option ORes → Prop} (h : Rsq (go n (317, L, (.int 2 :: S), H, cs, ss)) q) : Rsq (go (n + 1) (316, L, S, H, cs, ss)) q := by
  subst hgo
  exact res_of s0_316 h
theorem t0_317t {go : Nat → St → Option ORes} (hgo : go = orun code ret E0 0) {n cs ss : Nat} {L : List Slot} {S : List Value} {H : AH} {q : Option ORes → Prop} {x y : Int32} (hc : y < x) (h : Rsq (go n (320, L, S, H, cs, ss)) q) : Rsq (go (n + 1) (317, L, (.int y :: .int x :: S), H, cs, ss)) q := by
  subst hgo
  exact res_of s0_317 (res_t hc h)
theorem t0_317f {go : Nat → St → Option ORes} (hgo : go = orun code ret E0 0) {n cs ss : Nat} {L : List Slot} {S : List Value} {H : AH} {q : Option ORes → Prop} {x y : Int32} (hc : ¬ y < x) (h : Rsq (go n (348, L, S, H, cs, ss)) q) : Rsq (go (n + 1) (317, L, (.int y :: .int x :: S), H, cs, ss)) q := by
  subst hgo
  exact res_of s0_317 (res_f hc h)
theorem t0_320 {go : Nat → St → Option ORes} (hgo : go = orun code ret E0 0) {n cs ss : Nat} {l0 l1 l2 l3 l4 l5 l6 l7 l8 l9 l10 l11 l12 l13 l14 l15 l16 l17 l18 l19 l20 l22 l23 l24 l25 l26 l27 l28 l29 : Slot} {S : List Value} {H : AH} {q : Option ORes → Prop} {v : Int32} (h : Rsq (go n (322, [l0, l1, l2, l3, l4, l5, l6, l7, l8, l9, l10, l11, l12, l13, l14, l15, l16, l17, l18, l19, l20, .val (.int v), l22, l23, l24, l25, l26, l27, l28, l29], (.int v :: S), H, cs, ss)) q) : Rsq (go (n + 1) (320, [l0, l1, l2, l3, l4, l5, l6, l7, l8, l9, l10, l11, l12, l13, l14, l15, l16, l17, l18, l19, l20, .val (.int v), l22, l23, l24, l25, l26, l27, l28, l29], S, H, cs, ss)) q := by
  subst hgo
  exact res_of s0_320 h
theorem t0_322t {go : Nat → St → Option ORes} (hgo : go = orun code ret E0 0) {n cs ss : Nat} {L : List Slot} {S : List Value} {H : AH} {q : Option ORes → Prop} {x : Int32} (hc : x = 0) (h : Rsq (go n (338, L, S, H, cs, ss)) q) : Rsq (go (n + 1) (322, L, (.int x :: S), H, cs, ss)) q := by
  subst hgo
  exact res_of s0_322 (res_t hc h)
theorem t0_322f {go : Nat → St → Option ORes} (hgo : go = orun code ret E0 0) {n cs ss : Nat} {L : List Slot} {S : List Value} {H : AH} {q : Option ORes → Prop} {x : Int32} (hc : ¬ x = 0) (h : Rsq (go n (325, L, S, H, cs, ss)) q) : Rsq (go (n + 1) (322, L, (.int x :: S), H, cs, ss)) q := by
  subst hgo
  exact res_of s0_322 (res_f hc h)
theorem t0_325 {go : Nat → St → Option ORes} (hgo : go = orun code ret E0 0) {n cs ss : Nat} {l0 l1 l2 l3 l4 l5 l6 l7 l8 l9 l10 l11 l12 l13 l14 l15 l16 l17 l18 l19 l20 l21 l22 l23 l25 l26 l27 l28 l29 : Slot} {S : List Value} {H : AH} {q : Option ORes → Prop} {v : Value} (hv : isA v = true) (h : Rsq (go n (327, [l0, l1, l2, l3, l4, l5, l6, l7, l8, l9, l10, l11, l12, l13, l14, l15, l16, l17, l18, l19, l20, l21, l22, l23, .val v, l25, l26, l27, l28, l29], (v :: S), H, cs, ss)) q) : Rsq (go (n + 1) (325, [l0, l1, l2, l3, l4, l5, l6, l7, l8, l9, l10, l11, l12, l13, l14, l15, l16, l17, l18, l19, l20, l21, l22, l23, .val v, l25, l26, l27, l28, l29], S, H, cs, ss)) q := by
  subst hgo
  refine res_of s0_325 ?_
  rw [gA_isA (L := [l0, l1, l2, l3, l4, l5, l6, l7, l8, l9, l10, l11, l12, l13, l14, l15, l16, l17, l18, l19, l20, l21, l22, l23, .val v, l25, l26, l27, l28, l29]) (k := 24) (v := v) rfl hv]
  exact h
theorem t0_327 {go : Nat → St → Option ORes} (hgo : go = orun code ret E0 0) {n cs ss : Nat} {l0 l1 l2 l3 l4 l5 l6 l7 l8 l9 l10 l11 l12 l13 l14 l15 l16 l17 l18 l19 l20 l21 l22 l23 l24 l25 l27 l28 l29 : Slot} {S : List Value} {H : AH} {q : Option ORes → Prop} {v : Int32} (h : Rsq (go n (329, [l0, l1, l2, l3, l4, l5, l6, l7, l8, l9, l10, l11, l12, l13, l14, l15, l16, l17, l18, l19, l20, l21, l22, l23, l24, l25, .val (.int v), l27, l28, l29], (.int v :: S), H, cs, ss)) q) : Rsq (go (n + 1) (327, [l0, l1, l2, l3, l4, l5, l6, l7, l8, l9, l10, l11, l12, l13, l14, l15, l16, l17, l18, l19, l20, l21, l22, l23, l24, l25, .val (.int v), l27, l28, l29], S, H, cs, ss)) q := by
  subst hgo
  exact res_of s0_327 h
theorem t0_329 {go : Nat → St → Option ORes} (hgo : go = orun code ret E0 0) {n cs ss : Nat} {l0 l1 l2 l3 l4 l5 l6 l7 l8 l9 l10 l11 l12 l13 l14 l15 l16 l18 l19 l20 l21 l22 l23 l24 l25 l26 l27 l28 l29 : Slot} {S : List Value} {H : AH} {q : Option ORes → Prop} {v : Int32} (h : Rsq (go n (331, [l0, l1, l2, l3, l4, l5, l6, l7, l8, l9, l10, l11, l12, l13, l14, l15, l16, .val (.int v), l18, l19, l20, l21, l22, l23, l24, l25, l26, l27, l28, l29], (.int v :: S), H, cs, ss)) q) : Rsq (go (n + 1) (329, [l0, l1, l2, l3, l4, l5, l6, l7, l8, l9, l10, l11, l12, l13, l14, l15, l16, .val (.int v), l18, l19, l20, l21, l22, l23, l24, l25, l26, l27, l28, l29], S, H, cs, ss)) q := by
  subst hgo
  exact res_of s0_329 h
theorem u0_331 {go : Nat → St → Option ORes} (hgo : go = orun code ret E0 0) {n cs ss : Nat} {L : List Slot} {S : List Value} {H : AH} : go (n + 1) (331, L, S, H, cs, ss) = ex ret E0 0 (go n) (.iastore) 331 L S H cs ss := by
  subst hgo
  exact s0_331
theorem t0_332 {go : Nat → St → Option ORes} (hgo : go = orun code ret E0 0) {n cs ss : Nat} {l0 l1 l2 l3 l4 l5 l6 l7 l8 l9 l10 l11 l12 l13 l14 l15 l16 l17 l18 l19 l20 l21 l22 l23 l24 l25 l27 l28 l29 : Slot} {S : List Value} {H : AH} {q : Option ORes → Prop} {v : Int32} (h : Rsq (go n (335, [l0, l1, l2, l3, l4, l5, l6, l7, l8, l9, l10, l11, l12, l13, l14, l15, l16, l17, l18, l19, l20, l21, l22, l23, l24, l25, .val (.int (v + 1)), l27, l28, l29], S, H, cs, ss)) q) : Rsq (go (n + 1) (332, [l0, l1, l2, l3, l4, l5, l6, l7, l8, l9, l10, l11, l12, l13, l14, l15, l16, l17, l18, l19, l20, l21, l22, l23, l24, l25, .val (.int v), l27, l28, l29], S, H, cs, ss)) q := by
  subst hgo
  exact res_of s0_332 h
theorem t0_335 {go : Nat → St → Option ORes} (hgo : go = orun code ret E0 0) {n cs ss : Nat} {L : List Slot} {S : List Value} {H : AH} {q : Option ORes → Prop} (h : Rsq (go n (348, L, S, H, cs, ss)) q) : Rsq (go (n + 1) (335, L, S, H, cs, ss)) q := by
  subst hgo
  exact res_of s0_335 h
theorem t0_338 {go : Nat → St → Option ORes} (hgo : go = orun code ret E0 0) {n cs ss : Nat} {l0 l1 l2 l3 l4 l5 l6 l7 l8 l9 l10 l11 l12 l13 l14 l15 l16 l17 l18 l19 l20 l21 l22 l23 l24 l26 l27 l28 l29 : Slot} {S : List Value} {H : AH} {q : Option ORes → Prop} {v : Value} (hv : isA v = true) (h : Rsq (go n (340, [l0, l1, l2, l3, l4, l5, l6, l7, l8, l9, l10, l11, l12, l13, l14, l15, l16, l17, l18, l19, l20, l21, l22, l23, l24, .val v, l26, l27, l28, l29], (v :: S), H, cs, ss)) q) : Rsq (go (n + 1) (338, [l0, l1, l2, l3, l4, l5, l6, l7, l8, l9, l10, l11, l12, l13, l14, l15, l16, l17, l18, l19, l20, l21, l22, l23, l24, .val v, l26, l27, l28, l29], S, H, cs, ss)) q := by
  subst hgo
  refine res_of s0_338 ?_
  rw [gA_isA (L := [l0, l1, l2, l3, l4, l5, l6, l7, l8, l9, l10, l11, l12, l13, l14, l15, l16, l17, l18, l19, l20, l21, l22, l23, l24, .val v, l26, l27, l28, l29]) (k := 25) (v := v) rfl hv]
  exact h
theorem t0_340 {go : Nat → St → Option ORes} (hgo : go = orun code ret E0 0) {n cs ss : Nat} {l0 l1 l2 l3 l4 l5 l6 l7 l8 l9 l10 l11 l12 l13 l14 l15 l16 l17 l18 l19 l20 l21 l22 l23 l24 l25 l26 l28 l29 : Slot} {S : List Value} {H : AH} {q : Option ORes → Prop} {v : Int32} (h : Rsq (go n (342, [l0, l1, l2, l3, l4, l5, l6, l7, l8, l9, l10, l11, l12, l13, l14, l15, l16, l17, l18, l19, l20, l21, l22, l23, l24, l25, l26, .val (.int v), l28, l29], (.int v :: S), H, cs, ss)) q) : Rsq (go (n + 1) (340, [l0, l1, l2, l3, l4, l5, l6, l7, l8, l9, l10, l11, l12, l13, l14, l15, l16, l17, l18, l19, l20, l21, l22, l23, l24, l25, l26, .val (.int v), l28, l29], S, H, cs, ss)) q := by
  subst hgo
  exact res_of s0_340 h
theorem t0_342 {go : Nat → St → Option ORes} (hgo : go = orun code ret E0 0) {n cs ss : Nat} {l0 l1 l2 l3 l4 l5 l6 l7 l8 l9 l10 l11 l12 l13 l14 l15 l16 l18 l19 l20 l21 l22 l23 l24 l25 l26 l27 l28 l29 : Slot} {S : List Value} {H : AH} {q : Option ORes → Prop} {v : Int32} (h : Rsq (go n (344, [l0, l1, l2, l3, l4, l5, l6, l7, l8, l9, l10, l11, l12, l13, l14, l15, l16, .val (.int v), l18, l19, l20, l21, l22, l23, l24, l25, l26, l27, l28, l29], (.int v :: S), H, cs, ss)) q) : Rsq (go (n + 1) (342, [l0, l1, l2, l3, l4, l5, l6, l7, l8, l9, l10, l11, l12, l13, l14, l15, l16, .val (.int v), l18, l19, l20, l21, l22, l23, l24, l25, l26, l27, l28, l29], S, H, cs, ss)) q := by
  subst hgo
  exact res_of s0_342 h
theorem u0_344 {go : Nat → St → Option ORes} (hgo : go = orun code ret E0 0) {n cs ss : Nat} {L : List Slot} {S : List Value} {H : AH} : go (n + 1) (344, L, S, H, cs, ss) = ex ret E0 0 (go n) (.iastore) 344 L S H cs ss := by
  subst hgo
  exact s0_344
theorem t0_345 {go : Nat → St → Option ORes} (hgo : go = orun code ret E0 0) {n cs ss : Nat} {l0 l1 l2 l3 l4 l5 l6 l7 l8 l9 l10 l11 l12 l13 l14 l15 l16 l17 l18 l19 l20 l21 l22 l23 l24 l25 l26 l28 l29 : Slot} {S : List Value} {H : AH} {q : Option ORes → Prop} {v : Int32} (h : Rsq (go n (348, [l0, l1, l2, l3, l4, l5, l6, l7, l8, l9, l10, l11, l12, l13, l14, l15, l16, l17, l18, l19, l20, l21, l22, l23, l24, l25, l26, .val (.int (v + 1)), l28, l29], S, H, cs, ss)) q) : Rsq (go (n + 1) (345, [l0, l1, l2, l3, l4, l5, l6, l7, l8, l9, l10, l11, l12, l13, l14, l15, l16, l17, l18, l19, l20, l21, l22, l23, l24, l25, l26, .val (.int v), l28, l29], S, H, cs, ss)) q := by
  subst hgo
  exact res_of s0_345 h
theorem t0_348 {go : Nat → St → Option ORes} (hgo : go = orun code ret E0 0) {n cs ss : Nat} {l0 l1 l2 l3 l4 l6 l7 l8 l9 l10 l11 l12 l13 l14 l15 l16 l17 l18 l19 l20 l21 l22 l23 l24 l25 l26 l27 l28 l29 : Slot} {S : List Value} {H : AH} {q : Option ORes → Prop} {v : Int32} (h : Rsq (go n (350, [l0, l1, l2, l3, l4, .val (.int v), l6, l7, l8, l9, l10, l11, l12, l13, l14, l15, l16, l17, l18, l19, l20, l21, l22, l23, l24, l25, l26, l27, l28, l29], (.int v :: S), H, cs, ss)) q) : Rsq (go (n + 1) (348, [l0, l1, l2, l3, l4, .val (.int v), l6, l7, l8, l9, l10, l11, l12, l13, l14, l15, l16, l17, l18, l19, l20, l21, l22, l23, l24, l25, l26, l27, l28, l29], S, H, cs, ss)) q := by
  subst hgo
  exact res_of s0_348 h
theorem t0_350 {go : Nat → St → Option ORes} (hgo : go = orun code ret E0 0) {n cs ss : Nat} {L : List Slot} {S : List Value} {H : AH} {q : Option ORes → Prop} (h : Rsq (go n (351, L, (.int 3 :: S), H, cs, ss)) q) : Rsq (go (n + 1) (350, L, S, H, cs, ss)) q := by
  subst hgo
  exact res_of s0_350 h
theorem t0_351t {go : Nat → St → Option ORes} (hgo : go = orun code ret E0 0) {n cs ss : Nat} {L : List Slot} {S : List Value} {H : AH} {q : Option ORes → Prop} {x y : Int32} (hc : y < x) (h : Rsq (go n (354, L, S, H, cs, ss)) q) : Rsq (go (n + 1) (351, L, (.int y :: .int x :: S), H, cs, ss)) q := by
  subst hgo
  exact res_of s0_351 (res_t hc h)
theorem t0_351f {go : Nat → St → Option ORes} (hgo : go = orun code ret E0 0) {n cs ss : Nat} {L : List Slot} {S : List Value} {H : AH} {q : Option ORes → Prop} {x y : Int32} (hc : ¬ y < x) (h : Rsq (go n (382, L, S, H, cs, ss)) q) : Rsq (go (n + 1) (351, L, (.int y :: .int x :: S), H, cs, ss)) q := by
  subst hgo
  exact res_of s0_351 (res_f hc h)
theorem t0_354 {go : Nat → St → Option ORes} (hgo : go = orun code ret E0 0) {n cs ss : Nat} {l0 l1 l2 l3 l4 l5 l6 l7 l8 l9 l10 l11 l12 l13 l14 l15 l16 l17 l18 l19 l20 l21 l23 l24 l25 l26 l27 l28 l29 : Slot} {S : List Value} {H : AH} {q : Option ORes → Prop} {v : Int32} (h : Rsq (go n (356, [l0, l1, l2, l3, l4, l5, l6, l7, l8, l9, l10, l11, l12, l13, l14, l15, l16, l17, l18, l19, l20, l21, .val (.int v), l23, l24, l25, l26, l27, l28, l29], (.int v :: S), H, cs, ss)) q) : Rsq (go (n + 1) (354, [l0, l1, l2, l3, l4, l5, l6, l7, l8, l9, l10, l11, l12, l13, l14, l15, l16, l17, l18, l19, l20, l21, .val (.int v), l23, l24, l25, l26, l27, l28, l29], S, H, cs, ss)) q := by
  subst hgo
  exact res_of s0_354 h
theorem t0_356t {go : Nat → St → Option ORes} (hgo : go = orun code ret E0 0) {n cs ss : Nat} {L : List Slot} {S : List Value} {H : AH} {q : Option ORes → Prop} {x : Int32} (hc : x = 0) (h : Rsq (go n (372, L, S, H, cs, ss)) q) : Rsq (go (n + 1) (356, L, (.int x :: S), H, cs, ss)) q := by
  subst hgo
  exact res_of s0_356 (res_t hc h)
theorem t0_356f {go : Nat → St → Option ORes} (hgo : go = orun code ret E0 0) {n cs ss : Nat} {L : List Slot} {S : List Value} {H : AH} {q : Option ORes → Prop} {x : Int32} (hc : ¬ x = 0) (h : Rsq (go n (359, L, S, H, cs, ss)) q) : Rsq (go (n + 1) (356, L, (.int x :: S), H, cs, ss)) q := by
  subst hgo
  exact res_of s0_356 (res_f hc h)
theorem t0_359 {go : Nat → St → Option ORes} (hgo : go = orun code ret E0 0) {n cs ss : Nat} {l0 l1 l2 l3 l4 l5 l6 l7 l8 l9 l10 l11 l12 l13 l14 l15 l16 l17 l18 l19 l20 l21 l22 l23 l25 l26 l27 l28 l29 : Slot} {S : List Value} {H : AH} {q : Option ORes → Prop} {v : Value} (hv : isA v = true) (h : Rsq (go n (361, [l0, l1, l2, l3, l4, l5, l6, l7, l8, l9, l10, l11, l12, l13, l14, l15, l16, l17, l18, l19, l20, l21, l22, l23, .val v, l25, l26, l27, l28, l29], (v :: S), H, cs, ss)) q) : Rsq (go (n + 1) (359, [l0, l1, l2, l3, l4, l5, l6, l7, l8, l9, l10, l11, l12, l13, l14, l15, l16, l17, l18, l19, l20, l21, l22, l23, .val v, l25, l26, l27, l28, l29], S, H, cs, ss)) q := by
  subst hgo
  refine res_of s0_359 ?_
  rw [gA_isA (L := [l0, l1, l2, l3, l4, l5, l6, l7, l8, l9, l10, l11, l12, l13, l14, l15, l16, l17, l18, l19, l20, l21, l22, l23, .val v, l25, l26, l27, l28, l29]) (k := 24) (v := v) rfl hv]
  exact h
theorem t0_361 {go : Nat → St → Option ORes} (hgo : go = orun code ret E0 0) {n cs ss : Nat} {l0 l1 l2 l3 l4 l5 l6 l7 l8 l9 l10 l11 l12 l13 l14 l15 l16 l17 l18 l19 l20 l21 l22 l23 l24 l25 l27 l28 l29 : Slot} {S : List Value} {H : AH} {q : Option ORes → Prop} {v : Int32} (h : Rsq (go n (363, [l0, l1, l2, l3, l4, l5, l6, l7, l8, l9, l10, l11, l12, l13, l14, l15, l16, l17, l18, l19, l20, l21, l22, l23, l24, l25, .val (.int v), l27, l28, l29], (.int v :: S), H, cs, ss)) q) : Rsq (go (n + 1) (361, [l0, l1, l2, l3, l4, l5, l6, l7, l8, l9, l10, l11, l12, l13, l14, l15, l16, l17, l18, l19, l20, l21, l22, l23, l24, l25, .val (.int v), l27, l28, l29], S, H, cs, ss)) q := by
  subst hgo
  exact res_of s0_361 h
theorem t0_363 {go : Nat → St → Option ORes} (hgo : go = orun code ret E0 0) {n cs ss : Nat} {l0 l1 l2 l3 l4 l5 l6 l7 l8 l9 l10 l11 l12 l13 l14 l15 l16 l17 l19 l20 l21 l22 l23 l24 l25 l26 l27 l28 l29 : Slot} {S : List Value} {H : AH} {q : Option ORes → Prop} {v : Int32} (h : Rsq (go n (365, [l0, l1, l2, l3, l4, l5, l6, l7, l8, l9, l10, l11, l12, l13, l14, l15, l16, l17, .val (.int v), l19, l20, l21, l22, l23, l24, l25, l26, l27, l28, l29], (.int v :: S), H, cs, ss)) q) : Rsq (go (n + 1) (363, [l0, l1, l2, l3, l4, l5, l6, l7, l8, l9, l10, l11, l12, l13, l14, l15, l16, l17, .val (.int v), l19, l20, l21, l22, l23, l24, l25, l26, l27, l28, l29], S, H, cs, ss)) q := by
  subst hgo
  exact res_of s0_363 h
theorem u0_365 {go : Nat → St → Option ORes} (hgo : go = orun code ret E0 0) {n cs ss : Nat} {L : List Slot} {S : List Value} {H : AH} : go (n + 1) (365, L, S, H, cs, ss) = ex ret E0 0 (go n) (.iastore) 365 L S H cs ss := by
  subst hgo
  exact s0_365
theorem t0_366 {go : Nat → St → Option ORes} (hgo : go = orun code ret E0 0) {n cs ss : Nat} {l0 l1 l2 l3 l4 l5 l6 l7 l8 l9 l10 l11 l12 l13 l14 l15 l16 l17 l18 l19 l20 l21 l22 l23 l24 l25 l27 l28 l29 : Slot} {S : List Value} {H : AH} {q : Option ORes → Prop} {v : Int32} (h : Rsq (go n (369, [l0, l1, l2, l3, l4, l5, l6, l7, l8, l9, l10, l11, l12, l13, l14, l15, l16, l17, l18, l19, l20, l21, l22, l23, l24, l25, .val (.int (v + 1)), l27, l28, l29], S, H, cs, ss)) q) : Rsq (go (n + 1) (366, [l0, l1, l2, l3, l4, l5, l6, l7, l8, l9, l10, l11, l12, l13, l14, l15, l16, l17, l18, l19, l20, l21, l22, l23, l24, l25, .val (.int v), l27, l28, l29], S, H, cs, ss)) q := by
  subst hgo
  exact res_of s0_366 h
theorem t0_369 {go : Nat → St → Option ORes} (hgo : go = orun code ret E0 0) {n cs ss : Nat} {L : List Slot} {S : List Value} {H : AH} {q : Option ORes → Prop} (h : Rsq (go n (382, L, S, H, cs, ss)) q) : Rsq (go (n + 1) (369, L, S, H, cs, ss)) q := by
  subst hgo
  exact res_of s0_369 h
theorem t0_372 {go : Nat → St → Option ORes} (hgo : go = orun code ret E0 0) {n cs ss : Nat} {l0 l1 l2 l3 l4 l5 l6 l7 l8 l9 l10 l11 l12 l13 l14 l15 l16 l17 l18 l19 l20 l21 l22 l23 l24 l26 l27 l28 l29 : Slot} {S : List Value} {H : AH} {q : Option ORes → Prop} {v : Value} (hv : isA v = true) (h : Rsq (go n (374, [l0, l1, l2, l3, l4, l5, l6, l7, l8, l9, l10, l11, l12, l13, l14, l15, l16, l17, l18, l19, l20, l21, l22, l23, l24, .val v, l26, l27, l28, l29], (v :: S), H, cs, ss)) q) : Rsq (go (n + 1) (372, [l0, l1, l2, l3, l4, l5, l6, l7, l8, l9, l10, l11, l12, l13, l14, l15, l16, l17, l18, l19, l20, l21, l22, l23, l24, .val v, l26, l27, l28, l29], S, H, cs, ss)) q := by
  subst hgo
  refine res_of s0_372 ?_
  rw [gA_isA (L := [l0, l1, l2, l3, l4, l5, l6, l7, l8, l9, l10, l11, l12, l13, l14, l15, l16, l17, l18, l19, l20, l21, l22, l23, l24, .val v, l26, l27, l28, l29]) (k := 25) (v := v) rfl hv]
  exact h
theorem t0_374 {go : Nat → St → Option ORes} (hgo : go = orun code ret E0 0) {n cs ss : Nat} {l0 l1 l2 l3 l4 l5 l6 l7 l8 l9 l10 l11 l12 l13 l14 l15 l16 l17 l18 l19 l20 l21 l22 l23 l24 l25 l26 l28 l29 : Slot} {S : List Value} {H : AH} {q : Option ORes → Prop} {v : Int32} (h : Rsq (go n (376, [l0, l1, l2, l3, l4, l5, l6, l7, l8, l9, l10, l11, l12, l13, l14, l15, l16, l17, l18, l19, l20, l21, l22, l23, l24, l25, l26, .val (.int v), l28, l29], (.int v :: S), H, cs, ss)) q) : Rsq (go (n + 1) (374, [l0, l1, l2, l3, l4, l5, l6, l7, l8, l9, l10, l11, l12, l13, l14, l15, l16, l17, l18, l19, l20, l21, l22, l23, l24, l25, l26, .val (.int v), l28, l29], S, H, cs, ss)) q := by
  subst hgo
  exact res_of s0_374 h
theorem t0_376 {go : Nat → St → Option ORes} (hgo : go = orun code ret E0 0) {n cs ss : Nat} {l0 l1 l2 l3 l4 l5 l6 l7 l8 l9 l10 l11 l12 l13 l14 l15 l16 l17 l19 l20 l21 l22 l23 l24 l25 l26 l27 l28 l29 : Slot} {S : List Value} {H : AH} {q : Option ORes → Prop} {v : Int32} (h : Rsq (go n (378, [l0, l1, l2, l3, l4, l5, l6, l7, l8, l9, l10, l11, l12, l13, l14, l15, l16, l17, .val (.int v), l19, l20, l21, l22, l23, l24, l25, l26, l27, l28, l29], (.int v :: S), H, cs, ss)) q) : Rsq (go (n + 1) (376, [l0, l1, l2, l3, l4, l5, l6, l7, l8, l9, l10, l11, l12, l13, l14, l15, l16, l17, .val (.int v), l19, l20, l21, l22, l23, l24, l25, l26, l27, l28, l29], S, H, cs, ss)) q := by
  subst hgo
  exact res_of s0_376 h
theorem u0_378 {go : Nat → St → Option ORes} (hgo : go = orun code ret E0 0) {n cs ss : Nat} {L : List Slot} {S : List Value} {H : AH} : go (n + 1) (378, L, S, H, cs, ss) = ex ret E0 0 (go n) (.iastore) 378 L S H cs ss := by
  subst hgo
  exact s0_378
theorem t0_379 {go : Nat → St → Option ORes} (hgo : go = orun code ret E0 0) {n cs ss : Nat} {l0 l1 l2 l3 l4 l5 l6 l7 l8 l9 l10 l11 l12 l13 l14 l15 l16 l17 l18 l19 l20 l21 l22 l23 l24 l25 l26 l28 l29 : Slot} {S : List Value} {H : AH} {q : Option ORes → Prop} {v : Int32} (h : Rsq (go n (382, [l0, l1, l2, l3, l4, l5, l6, l7, l8, l9, l10, l11, l12, l13, l14, l15, l16, l17, l18, l19, l20, l21, l22, l23, l24, l25, l26, .val (.int (v + 1)), l28, l29], S, H, cs, ss)) q) : Rsq (go (n + 1) (379, [l0, l1, l2, l3, l4, l5, l6, l7, l8, l9, l10, l11, l12, l13, l14, l15, l16, l17, l18, l19, l20, l21, l22, l23, l24, l25, l26, .val (.int v), l28, l29], S, H, cs, ss)) q := by
  subst hgo
  exact res_of s0_379 h
theorem t0_382 {go : Nat → St → Option ORes} (hgo : go = orun code ret E0 0) {n cs ss : Nat} {l0 l1 l2 l3 l4 l5 l6 l7 l8 l9 l10 l11 l12 l13 l14 l15 l16 l17 l18 l19 l20 l21 l22 l23 l25 l26 l27 l28 l29 : Slot} {S : List Value} {H : AH} {q : Option ORes → Prop} {v : Value} (hv : isA v = true) (h : Rsq (go n (384, [l0, l1, l2, l3, l4, l5, l6, l7, l8, l9, l10, l11, l12, l13, l14, l15, l16, l17, l18, l19, l20, l21, l22, l23, .val v, l25, l26, l27, l28, l29], (v :: S), H, cs, ss)) q) : Rsq (go (n + 1) (382, [l0, l1, l2, l3, l4, l5, l6, l7, l8, l9, l10, l11, l12, l13, l14, l15, l16, l17, l18, l19, l20, l21, l22, l23, .val v, l25, l26, l27, l28, l29], S, H, cs, ss)) q := by
  subst hgo
  refine res_of s0_382 ?_
  rw [gA_isA (L := [l0, l1, l2, l3, l4, l5, l6, l7, l8, l9, l10, l11, l12, l13, l14, l15, l16, l17, l18, l19, l20, l21, l22, l23, .val v, l25, l26, l27, l28, l29]) (k := 24) (v := v) rfl hv]
  exact h
theorem t0_384 {go : Nat → St → Option ORes} (hgo : go = orun code ret E0 0) {n cs ss : Nat} {l0 l1 l2 l3 l4 l5 l6 l7 l8 l9 l10 l11 l12 l13 l14 l15 l16 l17 l18 l19 l20 l21 l22 l23 l24 l26 l27 l28 l29 : Slot} {S : List Value} {H : AH} {q : Option ORes → Prop} {v : Value} (hv : isA v = true) (h : Rsq (go n (386, [l0, l1, l2, l3, l4, l5, l6, l7, l8, l9, l10, l11, l12, l13, l14, l15, l16, l17, l18, l19, l20, l21, l22, l23, l24, .val v, l26, l27, l28, l29], (v :: S), H, cs, ss)) q) : Rsq (go (n + 1) (384, [l0, l1, l2, l3, l4, l5, l6, l7, l8, l9, l10, l11, l12, l13, l14, l15, l16, l17, l18, l19, l20, l21, l22, l23, l24, .val v, l26, l27, l28, l29], S, H, cs, ss)) q := by
  subst hgo
  refine res_of s0_384 ?_
  rw [gA_isA (L := [l0, l1, l2, l3, l4, l5, l6, l7, l8, l9, l10, l11, l12, l13, l14, l15, l16, l17, l18, l19, l20, l21, l22, l23, l24, .val v, l26, l27, l28, l29]) (k := 25) (v := v) rfl hv]
  exact h
theorem u0_386 {go : Nat → St → Option ORes} (hgo : go = orun code ret E0 0) {n cs ss : Nat} {L : List Slot} {S : List Value} {H : AH} : go (n + 1) (386, L, S, H, cs, ss) = (aCall 2 6 16 128 1 4 F2 S H cs ss).bind fun r => go n (389, L, r.1, r.2.1, r.2.2.1, r.2.2.2) := by
  subst hgo
  exact s0_386
theorem t0_389 {go : Nat → St → Option ORes} (hgo : go = orun code ret E0 0) {n cs ss : Nat} {l0 l1 l2 l3 l4 l5 l6 l7 l8 l9 l10 l11 l12 l13 l14 l15 l16 l17 l18 l19 l20 l21 l22 l23 l24 l25 l26 l27 l28 l29 : Slot} {S : List Value} {H : AH} {q : Option ORes → Prop} {v : Value} (hv : isA v = true) (hk : so l28 = true) (h : Rsq (go n (391, [l0, l1, l2, l3, l4, l5, l6, l7, l8, l9, l10, l11, l12, l13, l14, l15, l16, l17, l18, l19, l20, l21, l22, l23, l24, l25, l26, l27, .val v, l29], S, H, cs, ss)) q) : Rsq (go (n + 1) (389, [l0, l1, l2, l3, l4, l5, l6, l7, l8, l9, l10, l11, l12, l13, l14, l15, l16, l17, l18, l19, l20, l21, l22, l23, l24, l25, l26, l27, l28, l29], (v :: S), H, cs, ss)) q := by
  subst hgo
  refine res_of s0_389 ?_
  rw [pA_isA hv, st1_so (L := [l0, l1, l2, l3, l4, l5, l6, l7, l8, l9, l10, l11, l12, l13, l14, l15, l16, l17, l18, l19, l20, l21, l22, l23, l24, l25, l26, l27, l28, l29]) (k := 28) (l := l28) rfl hk]
  exact h
theorem t0_391 {go : Nat → St → Option ORes} (hgo : go = orun code ret E0 0) {n cs ss : Nat} {l0 l1 l2 l3 l4 l5 l6 l7 l8 l9 l10 l11 l12 l13 l14 l15 l16 l17 l18 l19 l20 l21 l22 l23 l24 l25 l26 l27 l29 : Slot} {S : List Value} {H : AH} {q : Option ORes → Prop} {v : Value} (hv : isA v = true) (h : Rsq (go n (393, [l0, l1, l2, l3, l4, l5, l6, l7, l8, l9, l10, l11, l12, l13, l14, l15, l16, l17, l18, l19, l20, l21, l22, l23, l24, l25, l26, l27, .val v, l29], (v :: S), H, cs, ss)) q) : Rsq (go (n + 1) (391, [l0, l1, l2, l3, l4, l5, l6, l7, l8, l9, l10, l11, l12, l13, l14, l15, l16, l17, l18, l19, l20, l21, l22, l23, l24, l25, l26, l27, .val v, l29], S, H, cs, ss)) q := by
  subst hgo
  refine res_of s0_391 ?_
  rw [gA_isA (L := [l0, l1, l2, l3, l4, l5, l6, l7, l8, l9, l10, l11, l12, l13, l14, l15, l16, l17, l18, l19, l20, l21, l22, l23, l24, l25, l26, l27, .val v, l29]) (k := 28) (v := v) rfl hv]
  exact h
theorem u0_393 {go : Nat → St → Option ORes} (hgo : go = orun code ret E0 0) {n cs ss : Nat} {L : List Slot} {S : List Value} {H : AH} : go (n + 1) (393, L, S, H, cs, ss) = pR S fun a r => (arr H a).bind fun q => go n (394, L, .int (ln q.2) :: r, H, cs, ss) := by
  subst hgo
  exact s0_393
theorem t0_394 {go : Nat → St → Option ORes} (hgo : go = orun code ret E0 0) {n cs ss : Nat} {l0 l1 l2 l3 l4 l6 l7 l8 l9 l10 l11 l12 l13 l14 l15 l16 l17 l18 l19 l20 l21 l22 l23 l24 l25 l26 l27 l28 l29 : Slot} {S : List Value} {H : AH} {q : Option ORes → Prop} {v : Int32} (h : Rsq (go n (396, [l0, l1, l2, l3, l4, .val (.int v), l6, l7, l8, l9, l10, l11, l12, l13, l14, l15, l16, l17, l18, l19, l20, l21, l22, l23, l24, l25, l26, l27, l28, l29], (.int v :: S), H, cs, ss)) q) : Rsq (go (n + 1) (394, [l0, l1, l2, l3, l4, .val (.int v), l6, l7, l8, l9, l10, l11, l12, l13, l14, l15, l16, l17, l18, l19, l20, l21, l22, l23, l24, l25, l26, l27, l28, l29], S, H, cs, ss)) q := by
  subst hgo
  exact res_of s0_394 h
theorem t0_396t {go : Nat → St → Option ORes} (hgo : go = orun code ret E0 0) {n cs ss : Nat} {L : List Slot} {S : List Value} {H : AH} {q : Option ORes → Prop} {x y : Int32} (hc : x = y) (h : Rsq (go n (401, L, S, H, cs, ss)) q) : Rsq (go (n + 1) (396, L, (.int y :: .int x :: S), H, cs, ss)) q := by
  subst hgo
  exact res_of s0_396 (res_t hc h)
theorem t0_396f {go : Nat → St → Option ORes} (hgo : go = orun code ret E0 0) {n cs ss : Nat} {L : List Slot} {S : List Value} {H : AH} {q : Option ORes → Prop} {x y : Int32} (hc : ¬ x = y) (h : Rsq (go n (399, L, S, H, cs, ss)) q) : Rsq (go (n + 1) (396, L, (.int y :: .int x :: S), H, cs, ss)) q := by
  subst hgo
  exact res_of s0_396 (res_f hc h)
theorem t0_399 {go : Nat → St → Option ORes} (hgo : go = orun code ret E0 0) {n cs ss : Nat} {L : List Slot} {S : List Value} {H : AH} {q : Option ORes → Prop} (h : Rsq (go n (400, L, (.int 0 :: S), H, cs, ss)) q) : Rsq (go (n + 1) (399, L, S, H, cs, ss)) q := by
  subst hgo
  exact res_of s0_399 h
theorem t0_400 {go : Nat → St → Option ORes} (hgo : go = orun code ret E0 0) {n cs ss : Nat} {L : List Slot} {S : List Value} {H : AH} {q : Option ORes → Prop} {z : Int32} (h : q (some (some (.int (z &&& 1)), H))) : Rsq (go (n + 1) (400, L, (.int z :: S), H, cs, ss)) q := by
  subst hgo
  exact res_of s0_400 h
theorem t0_401 {go : Nat → St → Option ORes} (hgo : go = orun code ret E0 0) {n cs ss : Nat} {L : List Slot} {S : List Value} {H : AH} {q : Option ORes → Prop} (h : Rsq (go n (402, L, (.int 1 :: S), H, cs, ss)) q) : Rsq (go (n + 1) (401, L, S, H, cs, ss)) q := by
  subst hgo
  exact res_of s0_401 h
theorem t0_402 {go : Nat → St → Option ORes} (hgo : go = orun code ret E0 0) {n cs ss : Nat} {l0 l1 l2 l3 l4 l5 l6 l7 l8 l9 l10 l11 l12 l13 l14 l15 l16 l17 l18 l19 l20 l21 l22 l23 l24 l25 l26 l27 l28 l29 : Slot} {S : List Value} {H : AH} {q : Option ORes → Prop} {x : Int32} (hk : so l29 = true) (h : Rsq (go n (404, [l0, l1, l2, l3, l4, l5, l6, l7, l8, l9, l10, l11, l12, l13, l14, l15, l16, l17, l18, l19, l20, l21, l22, l23, l24, l25, l26, l27, l28, .val (.int x)], S, H, cs, ss)) q) : Rsq (go (n + 1) (402, [l0, l1, l2, l3, l4, l5, l6, l7, l8, l9, l10, l11, l12, l13, l14, l15, l16, l17, l18, l19, l20, l21, l22, l23, l24, l25, l26, l27, l28, l29], (.int x :: S), H, cs, ss)) q := by
  subst hgo
  refine res_of s0_402 ?_
  rw [pI_int, st1_so (L := [l0, l1, l2, l3, l4, l5, l6, l7, l8, l9, l10, l11, l12, l13, l14, l15, l16, l17, l18, l19, l20, l21, l22, l23, l24, l25, l26, l27, l28, l29]) (k := 29) (l := l29) rfl hk]
  exact h
theorem t0_404 {go : Nat → St → Option ORes} (hgo : go = orun code ret E0 0) {n cs ss : Nat} {l0 l1 l2 l3 l4 l6 l7 l8 l9 l10 l11 l12 l13 l14 l15 l16 l17 l18 l19 l20 l21 l22 l23 l24 l25 l26 l27 l28 l29 : Slot} {S : List Value} {H : AH} {q : Option ORes → Prop} {v : Int32} (h : Rsq (go n (406, [l0, l1, l2, l3, l4, .val (.int v), l6, l7, l8, l9, l10, l11, l12, l13, l14, l15, l16, l17, l18, l19, l20, l21, l22, l23, l24, l25, l26, l27, l28, l29], (.int v :: S), H, cs, ss)) q) : Rsq (go (n + 1) (404, [l0, l1, l2, l3, l4, .val (.int v), l6, l7, l8, l9, l10, l11, l12, l13, l14, l15, l16, l17, l18, l19, l20, l21, l22, l23, l24, l25, l26, l27, l28, l29], S, H, cs, ss)) q := by
  subst hgo
  exact res_of s0_404 h
theorem t0_406t {go : Nat → St → Option ORes} (hgo : go = orun code ret E0 0) {n cs ss : Nat} {L : List Slot} {S : List Value} {H : AH} {q : Option ORes → Prop} {x : Int32} (hc : 0 < x) (h : Rsq (go n (409, L, S, H, cs, ss)) q) : Rsq (go (n + 1) (406, L, (.int x :: S), H, cs, ss)) q := by
  subst hgo
  exact res_of s0_406 (res_t hc h)
theorem t0_406f {go : Nat → St → Option ORes} (hgo : go = orun code ret E0 0) {n cs ss : Nat} {L : List Slot} {S : List Value} {H : AH} {q : Option ORes → Prop} {x : Int32} (hc : ¬ 0 < x) (h : Rsq (go n (430, L, S, H, cs, ss)) q) : Rsq (go (n + 1) (406, L, (.int x :: S), H, cs, ss)) q := by
  subst hgo
  exact res_of s0_406 (res_f hc h)
theorem t0_409 {go : Nat → St → Option ORes} (hgo : go = orun code ret E0 0) {n cs ss : Nat} {l0 l1 l2 l3 l4 l5 l6 l7 l8 l9 l10 l11 l12 l13 l14 l15 l16 l17 l18 l19 l20 l21 l22 l23 l24 l25 l26 l27 l28 : Slot} {S : List Value} {H : AH} {q : Option ORes → Prop} {v : Int32} (h : Rsq (go n (411, [l0, l1, l2, l3, l4, l5, l6, l7, l8, l9, l10, l11, l12, l13, l14, l15, l16, l17, l18, l19, l20, l21, l22, l23, l24, l25, l26, l27, l28, .val (.int v)], (.int v :: S), H, cs, ss)) q) : Rsq (go (n + 1) (409, [l0, l1, l2, l3, l4, l5, l6, l7, l8, l9, l10, l11, l12, l13, l14, l15, l16, l17, l18, l19, l20, l21, l22, l23, l24, l25, l26, l27, l28, .val (.int v)], S, H, cs, ss)) q := by
  subst hgo
  exact res_of s0_409 h
theorem t0_411t {go : Nat → St → Option ORes} (hgo : go = orun code ret E0 0) {n cs ss : Nat} {L : List Slot} {S : List Value} {H : AH} {q : Option ORes → Prop} {x : Int32} (hc : x = 0) (h : Rsq (go n (427, L, S, H, cs, ss)) q) : Rsq (go (n + 1) (411, L, (.int x :: S), H, cs, ss)) q := by
  subst hgo
  exact res_of s0_411 (res_t hc h)
theorem t0_411f {go : Nat → St → Option ORes} (hgo : go = orun code ret E0 0) {n cs ss : Nat} {L : List Slot} {S : List Value} {H : AH} {q : Option ORes → Prop} {x : Int32} (hc : ¬ x = 0) (h : Rsq (go n (414, L, S, H, cs, ss)) q) : Rsq (go (n + 1) (411, L, (.int x :: S), H, cs, ss)) q := by
  subst hgo
  exact res_of s0_411 (res_f hc h)
theorem t0_414 {go : Nat → St → Option ORes} (hgo : go = orun code ret E0 0) {n cs ss : Nat} {l0 l1 l2 l3 l4 l5 l6 l7 l8 l9 l10 l11 l12 l13 l14 l15 l16 l17 l18 l19 l20 l21 l22 l23 l24 l25 l26 l27 l29 : Slot} {S : List Value} {H : AH} {q : Option ORes → Prop} {v : Value} (hv : isA v = true) (h : Rsq (go n (416, [l0, l1, l2, l3, l4, l5, l6, l7, l8, l9, l10, l11, l12, l13, l14, l15, l16, l17, l18, l19, l20, l21, l22, l23, l24, l25, l26, l27, .val v, l29], (v :: S), H, cs, ss)) q) : Rsq (go (n + 1) (414, [l0, l1, l2, l3, l4, l5, l6, l7, l8, l9, l10, l11, l12, l13, l14, l15, l16, l17, l18, l19, l20, l21, l22, l23, l24, l25, l26, l27, .val v, l29], S, H, cs, ss)) q := by
  subst hgo
  refine res_of s0_414 ?_
  rw [gA_isA (L := [l0, l1, l2, l3, l4, l5, l6, l7, l8, l9, l10, l11, l12, l13, l14, l15, l16, l17, l18, l19, l20, l21, l22, l23, l24, l25, l26, l27, .val v, l29]) (k := 28) (v := v) rfl hv]
  exact h
theorem t0_416 {go : Nat → St → Option ORes} (hgo : go = orun code ret E0 0) {n cs ss : Nat} {L : List Slot} {S : List Value} {H : AH} {q : Option ORes → Prop} (h : Rsq (go n (417, L, (.int 0 :: S), H, cs, ss)) q) : Rsq (go (n + 1) (416, L, S, H, cs, ss)) q := by
  subst hgo
  exact res_of s0_416 h
theorem u0_417 {go : Nat → St → Option ORes} (hgo : go = orun code ret E0 0) {n cs ss : Nat} {L : List Slot} {S : List Value} {H : AH} : go (n + 1) (417, L, S, H, cs, ss) = ex ret E0 0 (go n) (.iaload) 417 L S H cs ss := by
  subst hgo
  exact s0_417
theorem t0_418 {go : Nat → St → Option ORes} (hgo : go = orun code ret E0 0) {n cs ss : Nat} {l0 l1 l2 l3 l4 l5 l6 l7 l8 l9 l10 l11 l12 l13 l14 l16 l17 l18 l19 l20 l21 l22 l23 l24 l25 l26 l27 l28 l29 : Slot} {S : List Value} {H : AH} {q : Option ORes → Prop} {v : Int32} (h : Rsq (go n (420, [l0, l1, l2, l3, l4, l5, l6, l7, l8, l9, l10, l11, l12, l13, l14, .val (.int v), l16, l17, l18, l19, l20, l21, l22, l23, l24, l25, l26, l27, l28, l29], (.int v :: S), H, cs, ss)) q) : Rsq (go (n + 1) (418, [l0, l1, l2, l3, l4, l5, l6, l7, l8, l9, l10, l11, l12, l13, l14, .val (.int v), l16, l17, l18, l19, l20, l21, l22, l23, l24, l25, l26, l27, l28, l29], S, H, cs, ss)) q := by
  subst hgo
  exact res_of s0_418 h
theorem t0_420t {go : Nat → St → Option ORes} (hgo : go = orun code ret E0 0) {n cs ss : Nat} {L : List Slot} {S : List Value} {H : AH} {q : Option ORes → Prop} {x y : Int32} (hc : x = y) (h : Rsq (go n (423, L, S, H, cs, ss)) q) : Rsq (go (n + 1) (420, L, (.int y :: .int x :: S), H, cs, ss)) q := by
  subst hgo
  exact res_of s0_420 (res_t hc h)
theorem t0_420f {go : Nat → St → Option ORes} (hgo : go = orun code ret E0 0) {n cs ss : Nat} {L : List Slot} {S : List Value} {H : AH} {q : Option ORes → Prop} {x y : Int32} (hc : ¬ x = y) (h : Rsq (go n (427, L, S, H, cs, ss)) q) : Rsq (go (n + 1) (420, L, (.int y :: .int x :: S), H, cs, ss)) q := by
  subst hgo
  exact res_of s0_420 (res_f hc h)
theorem t0_423 {go : Nat → St → Option ORes} (hgo : go = orun code ret E0 0) {n cs ss : Nat} {L : List Slot} {S : List Value} {H : AH} {q : Option ORes → Prop} (h : Rsq (go n (424, L, (.int 1 :: S), H, cs, ss)) q) : Rsq (go (n + 1) (423, L, S, H, cs, ss)) q := by
  subst hgo
  exact res_of s0_423 h
theorem t0_424 {go : Nat → St → Option ORes} (hgo : go = orun code ret E0 0) {n cs ss : Nat} {L : List Slot} {S : List Value} {H : AH} {q : Option ORes → Prop} (h : Rsq (go n (428, L, S, H, cs, ss)) q) : Rsq (go (n + 1) (424, L, S, H, cs, ss)) q := by
  subst hgo
  exact res_of s0_424 h
theorem t0_427 {go : Nat → St → Option ORes} (hgo : go = orun code ret E0 0) {n cs ss : Nat} {L : List Slot} {S : List Value} {H : AH} {q : Option ORes → Prop} (h : Rsq (go n (428, L, (.int 0 :: S), H, cs, ss)) q) : Rsq (go (n + 1) (427, L, S, H, cs, ss)) q := by
  subst hgo
  exact res_of s0_427 h
theorem t0_428 {go : Nat → St → Option ORes} (hgo : go = orun code ret E0 0) {n cs ss : Nat} {l0 l1 l2 l3 l4 l5 l6 l7 l8 l9 l10 l11 l12 l13 l14 l15 l16 l17 l18 l19 l20 l21 l22 l23 l24 l25 l26 l27 l28 l29 : Slot} {S : List Value} {H : AH} {q : Option ORes → Prop} {x : Int32} (hk : so l29 = true) (h : Rsq (go n (430, [l0, l1, l2, l3, l4, l5, l6, l7, l8, l9, l10, l11, l12, l13, l14, l15, l16, l17, l18, l19, l20, l21, l22, l23, l24, l25, l26, l27, l28, .val (.int x)], S, H, cs, ss)) q) : Rsq (go (n + 1) (428, [l0, l1, l2, l3, l4, l5, l6, l7, l8, l9, l10, l11, l12, l13, l14, l15, l16, l17, l18, l19, l20, l21, l22, l23, l24, l25, l26, l27, l28, l29], (.int x :: S), H, cs, ss)) q := by
  subst hgo
  refine res_of s0_428 ?_
  rw [pI_int, st1_so (L := [l0, l1, l2, l3, l4, l5, l6, l7, l8, l9, l10, l11, l12, l13, l14, l15, l16, l17, l18, l19, l20, l21, l22, l23, l24, l25, l26, l27, l28, l29]) (k := 29) (l := l29) rfl hk]
  exact h
theorem t0_430 {go : Nat → St → Option ORes} (hgo : go = orun code ret E0 0) {n cs ss : Nat} {l0 l1 l2 l3 l4 l6 l7 l8 l9 l10 l11 l12 l13 l14 l15 l16 l17 l18 l19 l20 l21 l22 l23 l24 l25 l26 l27 l28 l29 : Slot} {S : List Value} {H : AH} {q : Option ORes → Prop} {v : Int32} (h : Rsq (go n (432, [l0, l1, l2, l3, l4, .val (.int v), l6, l7, l8, l9, l10, l11, l12, l13, l14, l15, l16, l17, l18, l19, l20, l21, l22, l23, l24, l25, l26, l27, l28, l29], (.int v :: S), H, cs, ss)) q) : Rsq (go (n + 1) (430, [l0, l1, l2, l3, l4, .val (.int v), l6, l7, l8, l9, l10, l11, l12, l13, l14, l15, l16, l17, l18, l19, l20, l21, l22, l23, l24, l25, l26, l27, l28, l29], S, H, cs, ss)) q := by
  subst hgo
  exact res_of s0_430 h
theorem t0_432 {go : Nat → St → Option ORes} (hgo : go = orun code ret E0 0) {n cs ss : Nat} {L : List Slot} {S : List Value} {H : AH} {q : Option ORes → Prop} (h : Rsq (go n (433, L, (.int 1 :: S), H, cs, ss)) q) : Rsq (go (n + 1) (432, L, S, H, cs, ss)) q := by
  subst hgo
  exact res_of s0_432 h
theorem t0_433t {go : Nat → St → Option ORes} (hgo : go = orun code ret E0 0) {n cs ss : Nat} {L : List Slot} {S : List Value} {H : AH} {q : Option ORes → Prop} {x y : Int32} (hc : y < x) (h : Rsq (go n (436, L, S, H, cs, ss)) q) : Rsq (go (n + 1) (433, L, (.int y :: .int x :: S), H, cs, ss)) q := by
  subst hgo
  exact res_of s0_433 (res_t hc h)
theorem t0_433f {go : Nat → St → Option ORes} (hgo : go = orun code ret E0 0) {n cs ss : Nat} {L : List Slot} {S : List Value} {H : AH} {q : Option ORes → Prop} {x y : Int32} (hc : ¬ y < x) (h : Rsq (go n (457, L, S, H, cs, ss)) q) : Rsq (go (n + 1) (433, L, (.int y :: .int x :: S), H, cs, ss)) q := by
  subst hgo
  exact res_of s0_433 (res_f hc h)
theorem t0_436 {go : Nat → St → Option ORes} (hgo : go = orun code ret E0 0) {n cs ss : Nat} {l0 l1 l2 l3 l4 l5 l6 l7 l8 l9 l10 l11 l12 l13 l14 l15 l16 l17 l18 l19 l20 l21 l22 l23 l24 l25 l26 l27 l28 : Slot} {S : List Value} {H : AH} {q : Option ORes → Prop} {v : Int32} (h : Rsq (go n (438, [l0, l1, l2, l3, l4, l5, l6, l7, l8, l9, l10, l11, l12, l13, l14, l15, l16, l17, l18, l19, l20, l21, l22, l23, l24, l25, l26, l27, l28, .val (.int v)], (.int v :: S), H, cs, ss)) q) : Rsq (go (n + 1) (436, [l0, l1, l2, l3, l4, l5, l6, l7, l8, l9, l10, l11, l12, l13, l14, l15, l16, l17, l18, l19, l20, l21, l22, l23, l24, l25, l26, l27, l28, .val (.int v)], S, H, cs, ss)) q := by
  subst hgo
  exact res_of s0_436 h
theorem t0_438t {go : Nat → St → Option ORes} (hgo : go = orun code ret E0 0) {n cs ss : Nat} {L : List Slot} {S : List Value} {H : AH} {q : Option ORes → Prop} {x : Int32} (hc : x = 0) (h : Rsq (go n (454, L, S, H, cs, ss)) q) : Rsq (go (n + 1) (438, L, (.int x :: S), H, cs, ss)) q := by
  subst hgo
  exact res_of s0_438 (res_t hc h)
theorem t0_438f {go : Nat → St → Option ORes} (hgo : go = orun code ret E0 0) {n cs ss : Nat} {L : List Slot} {S : List Value} {H : AH} {q : Option ORes → Prop} {x : Int32} (hc : ¬ x = 0) (h : Rsq (go n (441, L, S, H, cs, ss)) q) : Rsq (go (n + 1) (438, L, (.int x :: S), H, cs, ss)) q := by
  subst hgo
  exact res_of s0_438 (res_f hc h)
theorem t0_441 {go : Nat → St → Option ORes} (hgo : go = orun code ret E0 0) {n cs ss : Nat} {l0 l1 l2 l3 l4 l5 l6 l7 l8 l9 l10 l11 l12 l13 l14 l15 l16 l17 l18 l19 l20 l21 l22 l23 l24 l25 l26 l27 l29 : Slot} {S : List Value} {H : AH} {q : Option ORes → Prop} {v : Value} (hv : isA v = true) (h : Rsq (go n (443, [l0, l1, l2, l3, l4, l5, l6, l7, l8, l9, l10, l11, l12, l13, l14, l15, l16, l17, l18, l19, l20, l21, l22, l23, l24, l25, l26, l27, .val v, l29], (v :: S), H, cs, ss)) q) : Rsq (go (n + 1) (441, [l0, l1, l2, l3, l4, l5, l6, l7, l8, l9, l10, l11, l12, l13, l14, l15, l16, l17, l18, l19, l20, l21, l22, l23, l24, l25, l26, l27, .val v, l29], S, H, cs, ss)) q := by
  subst hgo
  refine res_of s0_441 ?_
  rw [gA_isA (L := [l0, l1, l2, l3, l4, l5, l6, l7, l8, l9, l10, l11, l12, l13, l14, l15, l16, l17, l18, l19, l20, l21, l22, l23, l24, l25, l26, l27, .val v, l29]) (k := 28) (v := v) rfl hv]
  exact h
theorem t0_443 {go : Nat → St → Option ORes} (hgo : go = orun code ret E0 0) {n cs ss : Nat} {L : List Slot} {S : List Value} {H : AH} {q : Option ORes → Prop} (h : Rsq (go n (444, L, (.int 1 :: S), H, cs, ss)) q) : Rsq (go (n + 1) (443, L, S, H, cs, ss)) q := by
  subst hgo
  exact res_of s0_443 h
theorem u0_444 {go : Nat → St → Option ORes} (hgo : go = orun code ret E0 0) {n cs ss : Nat} {L : List Slot} {S : List Value} {H : AH} : go (n + 1) (444, L, S, H, cs, ss) = ex ret E0 0 (go n) (.iaload) 444 L S H cs ss := by
  subst hgo
  exact s0_444
theorem t0_445 {go : Nat → St → Option ORes} (hgo : go = orun code ret E0 0) {n cs ss : Nat} {l0 l1 l2 l3 l4 l5 l6 l7 l8 l9 l10 l11 l12 l13 l14 l15 l17 l18 l19 l20 l21 l22 l23 l24 l25 l26 l27 l28 l29 : Slot} {S : List Value} {H : AH} {q : Option ORes → Prop} {v : Int32} (h : Rsq (go n (447, [l0, l1, l2, l3, l4, l5, l6, l7, l8, l9, l10, l11, l12, l13, l14, l15, .val (.int v), l17, l18, l19, l20, l21, l22, l23, l24, l25, l26, l27, l28, l29], (.int v :: S), H, cs, ss)) q) : Rsq (go (n + 1) (445, [l0, l1, l2, l3, l4, l5, l6, l7, l8, l9, l10, l11, l12, l13, l14, l15, .val (.int v), l17, l18, l19, l20, l21, l22, l23, l24, l25, l26, l27, l28, l29], S, H, cs, ss)) q := by
  subst hgo
  exact res_of s0_445 h
theorem t0_447t {go : Nat → St → Option ORes} (hgo : go = orun code ret E0 0) {n cs ss : Nat} {L : List Slot} {S : List Value} {H : AH} {q : Option ORes → Prop} {x y : Int32} (hc : x = y) (h : Rsq (go n (450, L, S, H, cs, ss)) q) : Rsq (go (n + 1) (447, L, (.int y :: .int x :: S), H, cs, ss)) q := by
  subst hgo
  exact res_of s0_447 (res_t hc h)
theorem t0_447f {go : Nat → St → Option ORes} (hgo : go = orun code ret E0 0) {n cs ss : Nat} {L : List Slot} {S : List Value} {H : AH} {q : Option ORes → Prop} {x y : Int32} (hc : ¬ x = y) (h : Rsq (go n (454, L, S, H, cs, ss)) q) : Rsq (go (n + 1) (447, L, (.int y :: .int x :: S), H, cs, ss)) q := by
  subst hgo
  exact res_of s0_447 (res_f hc h)
theorem t0_450 {go : Nat → St → Option ORes} (hgo : go = orun code ret E0 0) {n cs ss : Nat} {L : List Slot} {S : List Value} {H : AH} {q : Option ORes → Prop} (h : Rsq (go n (451, L, (.int 1 :: S), H, cs, ss)) q) : Rsq (go (n + 1) (450, L, S, H, cs, ss)) q := by
  subst hgo
  exact res_of s0_450 h
theorem t0_451 {go : Nat → St → Option ORes} (hgo : go = orun code ret E0 0) {n cs ss : Nat} {L : List Slot} {S : List Value} {H : AH} {q : Option ORes → Prop} (h : Rsq (go n (455, L, S, H, cs, ss)) q) : Rsq (go (n + 1) (451, L, S, H, cs, ss)) q := by
  subst hgo
  exact res_of s0_451 h
theorem t0_454 {go : Nat → St → Option ORes} (hgo : go = orun code ret E0 0) {n cs ss : Nat} {L : List Slot} {S : List Value} {H : AH} {q : Option ORes → Prop} (h : Rsq (go n (455, L, (.int 0 :: S), H, cs, ss)) q) : Rsq (go (n + 1) (454, L, S, H, cs, ss)) q := by
  subst hgo
  exact res_of s0_454 h
theorem t0_455 {go : Nat → St → Option ORes} (hgo : go = orun code ret E0 0) {n cs ss : Nat} {l0 l1 l2 l3 l4 l5 l6 l7 l8 l9 l10 l11 l12 l13 l14 l15 l16 l17 l18 l19 l20 l21 l22 l23 l24 l25 l26 l27 l28 l29 : Slot} {S : List Value} {H : AH} {q : Option ORes → Prop} {x : Int32} (hk : so l29 = true) (h : Rsq (go n (457, [l0, l1, l2, l3, l4, l5, l6, l7, l8, l9, l10, l11, l12, l13, l14, l15, l16, l17, l18, l19, l20, l21, l22, l23, l24, l25, l26, l27, l28, .val (.int x)], S, H, cs, ss)) q) : Rsq (go (n + 1) (455, [l0, l1, l2, l3, l4, l5, l6, l7, l8, l9, l10, l11, l12, l13, l14, l15, l16, l17, l18, l19, l20, l21, l22, l23, l24, l25, l26, l27, l28, l29], (.int x :: S), H, cs, ss)) q := by
  subst hgo
  refine res_of s0_455 ?_
  rw [pI_int, st1_so (L := [l0, l1, l2, l3, l4, l5, l6, l7, l8, l9, l10, l11, l12, l13, l14, l15, l16, l17, l18, l19, l20, l21, l22, l23, l24, l25, l26, l27, l28, l29]) (k := 29) (l := l29) rfl hk]
  exact h
theorem t0_457 {go : Nat → St → Option ORes} (hgo : go = orun code ret E0 0) {n cs ss : Nat} {l0 l1 l2 l3 l4 l6 l7 l8 l9 l10 l11 l12 l13 l14 l15 l16 l17 l18 l19 l20 l21 l22 l23 l24 l25 l26 l27 l28 l29 : Slot} {S : List Value} {H : AH} {q : Option ORes → Prop} {v : Int32} (h : Rsq (go n (459, [l0, l1, l2, l3, l4, .val (.int v), l6, l7, l8, l9, l10, l11, l12, l13, l14, l15, l16, l17, l18, l19, l20, l21, l22, l23, l24, l25, l26, l27, l28, l29], (.int v :: S), H, cs, ss)) q) : Rsq (go (n + 1) (457, [l0, l1, l2, l3, l4, .val (.int v), l6, l7, l8, l9, l10, l11, l12, l13, l14, l15, l16, l17, l18, l19, l20, l21, l22, l23, l24, l25, l26, l27, l28, l29], S, H, cs, ss)) q := by
  subst hgo
  exact res_of s0_457 h
theorem t0_459 {go : Nat → St → Option ORes} (hgo : go = orun code ret E0 0) {n cs ss : Nat} {L : List Slot} {S : List Value} {H : AH} {q : Option ORes → Prop} (h : Rsq (go n (460, L, (.int 2 :: S), H, cs, ss)) q) : Rsq (go (n + 1) (459, L, S, H, cs, ss)) q := by
  subst hgo
  exact res_of s0_459 h
theorem t0_460t {go : Nat → St → Option ORes} (hgo : go = orun code ret E0 0) {n cs ss : Nat} {L : List Slot} {S : List Value} {H : AH} {q : Option ORes → Prop} {x y : Int32} (hc : y < x) (h : Rsq (go n (463, L, S, H, cs, ss)) q) : Rsq (go (n + 1) (460, L, (.int y :: .int x :: S), H, cs, ss)) q := by
  subst hgo
  exact res_of s0_460 (res_t hc h)
theorem t0_460f {go : Nat → St → Option ORes} (hgo : go = orun code ret E0 0) {n cs ss : Nat} {L : List Slot} {S : List Value} {H : AH} {q : Option ORes → Prop} {x y : Int32} (hc : ¬ y < x) (h : Rsq (go n (484, L, S, H, cs, ss)) q) : Rsq (go (n + 1) (460, L, (.int y :: .int x :: S), H, cs, ss)) q := by
  subst hgo
  exact res_of s0_460 (res_f hc h)
theorem t0_463 {go : Nat → St → Option ORes} (hgo : go = orun code ret E0 0) {n cs ss : Nat} {l0 l1 l2 l3 l4 l5 l6 l7 l8 l9 l10 l11 l12 l13 l14 l15 l16 l17 l18 l19 l20 l21 l22 l23 l24 l25 l26 l27 l28 : Slot} {S : List Value} {H : AH} {q : Option ORes → Prop} {v : Int32} (h : Rsq (go n (465, [l0, l1, l2, l3, l4, l5, l6, l7, l8, l9, l10, l11, l12, l13, l14, l15, l16, l17, l18, l19, l20, l21, l22, l23, l24, l25, l26, l27, l28, .val (.int v)], (.int v :: S), H, cs, ss)) q) : Rsq (go (n + 1) (463, [l0, l1, l2, l3, l4, l5, l6, l7, l8, l9, l10, l11, l12, l13, l14, l15, l16, l17, l18, l19, l20, l21, l22, l23, l24, l25, l26, l27, l28, .val (.int v)], S, H, cs, ss)) q := by
  subst hgo
  exact res_of s0_463 h
theorem t0_465t {go : Nat → St → Option ORes} (hgo : go = orun code ret E0 0) {n cs ss : Nat} {L : List Slot} {S : List Value} {H : AH} {q : Option ORes → Prop} {x : Int32} (hc : x = 0) (h : Rsq (go n (481, L, S, H, cs, ss)) q) : Rsq (go (n + 1) (465, L, (.int x :: S), H, cs, ss)) q := by
  subst hgo
  exact res_of s0_465 (res_t hc h)
theorem t0_465f {go : Nat → St → Option ORes} (hgo : go = orun code ret E0 0) {n cs ss : Nat} {L : List Slot} {S : List Value} {H : AH} {q : Option ORes → Prop} {x : Int32} (hc : ¬ x = 0) (h : Rsq (go n (468, L, S, H, cs, ss)) q) : Rsq (go (n + 1) (465, L, (.int x :: S), H, cs, ss)) q := by
  subst hgo
  exact res_of s0_465 (res_f hc h)
theorem t0_468 {go : Nat → St → Option ORes} (hgo : go = orun code ret E0 0) {n cs ss : Nat} {l0 l1 l2 l3 l4 l5 l6 l7 l8 l9 l10 l11 l12 l13 l14 l15 l16 l17 l18 l19 l20 l21 l22 l23 l24 l25 l26 l27 l29 : Slot} {S : List Value} {H : AH} {q : Option ORes → Prop} {v : Value} (hv : isA v = true) (h : Rsq (go n (470, [l0, l1, l2, l3, l4, l5, l6, l7, l8, l9, l10, l11, l12, l13, l14, l15, l16, l17, l18, l19, l20, l21, l22, l23, l24, l25, l26, l27, .val v, l29], (v :: S), H, cs, ss)) q) : Rsq (go (n + 1) (468, [l0, l1, l2, l3, l4, l5, l6, l7, l8, l9, l10, l11, l12, l13, l14, l15, l16, l17, l18, l19, l20, l21, l22, l23, l24, l25, l26, l27, .val v, l29], S, H, cs, ss)) q := by
  subst hgo
  refine res_of s0_468 ?_
  rw [gA_isA (L := [l0, l1, l2, l3, l4, l5, l6, l7, l8, l9, l10, l11, l12, l13, l14, l15, l16, l17, l18, l19, l20, l21, l22, l23, l24, l25, l26, l27, .val v, l29]) (k := 28) (v := v) rfl hv]
  exact h
theorem t0_470 {go : Nat → St → Option ORes} (hgo : go = orun code ret E0 0) {n cs ss : Nat} {L : List Slot} {S : List Value} {H : AH} {q : Option ORes → Prop} (h : Rsq (go n (471, L, (.int 2 :: S), H, cs, ss)) q) : Rsq (go (n + 1) (470, L, S, H, cs, ss)) q := by
  subst hgo
  exact res_of s0_470 h
theorem u0_471 {go : Nat → St → Option ORes} (hgo : go = orun code ret E0 0) {n cs ss : Nat} {L : List Slot} {S : List Value} {H : AH} : go (n + 1) (471, L, S, H, cs, ss) = ex ret E0 0 (go n) (.iaload) 471 L S H cs ss := by
  subst hgo
  exact s0_471
theorem t0_472 {go : Nat → St → Option ORes} (hgo : go = orun code ret E0 0) {n cs ss : Nat} {l0 l1 l2 l3 l4 l5 l6 l7 l8 l9 l10 l11 l12 l13 l14 l15 l16 l18 l19 l20 l21 l22 l23 l24 l25 l26 l27 l28 l29 : Slot} {S : List Value} {H : AH} {q : Option ORes → Prop} {v : Int32} (h : Rsq (go n (474, [l0, l1, l2, l3, l4, l5, l6, l7, l8, l9, l10, l11, l12, l13, l14, l15, l16, .val (.int v), l18, l19, l20, l21, l22, l23, l24, l25, l26, l27, l28, l29], (.int v :: S), H, cs, ss)) q) : Rsq (go (n + 1) (472, [l0, l1, l2, l3, l4, l5, l6, l7, l8, l9, l10, l11, l12, l13, l14, l15, l16, .val (.int v), l18, l19, l20, l21, l22, l23, l24, l25, l26, l27, l28, l29], S, H, cs, ss)) q := by
  subst hgo
  exact res_of s0_472 h
theorem t0_474t {go : Nat → St → Option ORes} (hgo : go = orun code ret E0 0) {n cs ss : Nat} {L : List Slot} {S : List Value} {H : AH} {q : Option ORes → Prop} {x y : Int32} (hc : x = y) (h : Rsq (go n (477, L, S, H, cs, ss)) q) : Rsq (go (n + 1) (474, L, (.int y :: .int x :: S), H, cs, ss)) q := by
  subst hgo
  exact res_of s0_474 (res_t hc h)
theorem t0_474f {go : Nat → St → Option ORes} (hgo : go = orun code ret E0 0) {n cs ss : Nat} {L : List Slot} {S : List Value} {H : AH} {q : Option ORes → Prop} {x y : Int32} (hc : ¬ x = y) (h : Rsq (go n (481, L, S, H, cs, ss)) q) : Rsq (go (n + 1) (474, L, (.int y :: .int x :: S), H, cs, ss)) q := by
  subst hgo
  exact res_of s0_474 (res_f hc h)
theorem t0_477 {go : Nat → St → Option ORes} (hgo : go = orun code ret E0 0) {n cs ss : Nat} {L : List Slot} {S : List Value} {H : AH} {q : Option ORes → Prop} (h : Rsq (go n (478, L, (.int 1 :: S), H, cs, ss)) q) : Rsq (go (n + 1) (477, L, S, H, cs, ss)) q := by
  subst hgo
  exact res_of s0_477 h
theorem t0_478 {go : Nat → St → Option ORes} (hgo : go = orun code ret E0 0) {n cs ss : Nat} {L : List Slot} {S : List Value} {H : AH} {q : Option ORes → Prop} (h : Rsq (go n (482, L, S, H, cs, ss)) q) : Rsq (go (n + 1) (478, L, S, H, cs, ss)) q := by
  subst hgo
  exact res_of s0_478 h
theorem t0_481 {go : Nat → St → Option ORes} (hgo : go = orun code ret E0 0) {n cs ss : Nat} {L : List Slot} {S : List Value} {H : AH} {q : Option ORes → Prop} (h : Rsq (go n (482, L, (.int 0 :: S), H, cs, ss)) q) : Rsq (go (n + 1) (481, L, S, H, cs, ss)) q := by
  subst hgo
  exact res_of s0_481 h
theorem t0_482 {go : Nat → St → Option ORes} (hgo : go = orun code ret E0 0) {n cs ss : Nat} {l0 l1 l2 l3 l4 l5 l6 l7 l8 l9 l10 l11 l12 l13 l14 l15 l16 l17 l18 l19 l20 l21 l22 l23 l24 l25 l26 l27 l28 l29 : Slot} {S : List Value} {H : AH} {q : Option ORes → Prop} {x : Int32} (hk : so l29 = true) (h : Rsq (go n (484, [l0, l1, l2, l3, l4, l5, l6, l7, l8, l9, l10, l11, l12, l13, l14, l15, l16, l17, l18, l19, l20, l21, l22, l23, l24, l25, l26, l27, l28, .val (.int x)], S, H, cs, ss)) q) : Rsq (go (n + 1) (482, [l0, l1, l2, l3, l4, l5, l6, l7, l8, l9, l10, l11, l12, l13, l14, l15, l16, l17, l18, l19, l20, l21, l22, l23, l24, l25, l26, l27, l28, l29], (.int x :: S), H, cs, ss)) q := by
  subst hgo
  refine res_of s0_482 ?_
  rw [pI_int, st1_so (L := [l0, l1, l2, l3, l4, l5, l6, l7, l8, l9, l10, l11, l12, l13, l14, l15, l16, l17, l18, l19, l20, l21, l22, l23, l24, l25, l26, l27, l28, l29]) (k := 29) (l := l29) rfl hk]
  exact h
theorem t0_484 {go : Nat → St → Option ORes} (hgo : go = orun code ret E0 0) {n cs ss : Nat} {l0 l1 l2 l3 l4 l6 l7 l8 l9 l10 l11 l12 l13 l14 l15 l16 l17 l18 l19 l20 l21 l22 l23 l24 l25 l26 l27 l28 l29 : Slot} {S : List Value} {H : AH} {q : Option ORes → Prop} {v : Int32} (h : Rsq (go n (486, [l0, l1, l2, l3, l4, .val (.int v), l6, l7, l8, l9, l10, l11, l12, l13, l14, l15, l16, l17, l18, l19, l20, l21, l22, l23, l24, l25, l26, l27, l28, l29], (.int v :: S), H, cs, ss)) q) : Rsq (go (n + 1) (484, [l0, l1, l2, l3, l4, .val (.int v), l6, l7, l8, l9, l10, l11, l12, l13, l14, l15, l16, l17, l18, l19, l20, l21, l22, l23, l24, l25, l26, l27, l28, l29], S, H, cs, ss)) q := by
  subst hgo
  exact res_of s0_484 h
theorem t0_486 {go : Nat → St → Option ORes} (hgo : go = orun code ret E0 0) {n cs ss : Nat} {L : List Slot} {S : List Value} {H : AH} {q : Option ORes → Prop} (h : Rsq (go n (487, L, (.int 3 :: S), H, cs, ss)) q) : Rsq (go (n + 1) (486, L, S, H, cs, ss)) q := by
  subst hgo
  exact res_of s0_486 h
theorem t0_487t {go : Nat → St → Option ORes} (hgo : go = orun code ret E0 0) {n cs ss : Nat} {L : List Slot} {S : List Value} {H : AH} {q : Option ORes → Prop} {x y : Int32} (hc : y < x) (h : Rsq (go n (490, L, S, H, cs, ss)) q) : Rsq (go (n + 1) (487, L, (.int y :: .int x :: S), H, cs, ss)) q := by
  subst hgo
  exact res_of s0_487 (res_t hc h)
theorem t0_487f {go : Nat → St → Option ORes} (hgo : go = orun code ret E0 0) {n cs ss : Nat} {L : List Slot} {S : List Value} {H : AH} {q : Option ORes → Prop} {x y : Int32} (hc : ¬ y < x) (h : Rsq (go n (511, L, S, H, cs, ss)) q) : Rsq (go (n + 1) (487, L, (.int y :: .int x :: S), H, cs, ss)) q := by
  subst hgo
  exact res_of s0_487 (res_f hc h)
theorem t0_490 {go : Nat → St → Option ORes} (hgo : go = orun code ret E0 0) {n cs ss : Nat} {l0 l1 l2 l3 l4 l5 l6 l7 l8 l9 l10 l11 l12 l13 l14 l15 l16 l17 l18 l19 l20 l21 l22 l23 l24 l25 l26 l27 l28 : Slot} {S : List Value} {H : AH} {q : Option ORes → Prop} {v : Int32} (h : Rsq (go n (492, [l0, l1, l2, l3, l4, l5, l6, l7, l8, l9, l10, l11, l12, l13, l14, l15, l16, l17, l18, l19, l20, l21, l22, l23, l24, l25, l26, l27, l28, .val (.int v)], (.int v :: S), H, cs, ss)) q) : Rsq (go (n + 1) (490, [l0, l1, l2, l3, l4, l5, l6, l7, l8, l9, l10, l11, l12, l13, l14, l15, l16, l17, l18, l19, l20, l21, l22, l23, l24, l25, l26, l27, l28, .val (.int v)], S, H, cs, ss)) q := by
  subst hgo
  exact res_of s0_490 h
theorem t0_492t {go : Nat → St → Option ORes} (hgo : go = orun code ret E0 0) {n cs ss : Nat} {L : List Slot} {S : List Value} {H : AH} {q : Option ORes → Prop} {x : Int32} (hc : x = 0) (h : Rsq (go n (508, L, S, H, cs, ss)) q) : Rsq (go (n + 1) (492, L, (.int x :: S), H, cs, ss)) q := by
  subst hgo
  exact res_of s0_492 (res_t hc h)
theorem t0_492f {go : Nat → St → Option ORes} (hgo : go = orun code ret E0 0) {n cs ss : Nat} {L : List Slot} {S : List Value} {H : AH} {q : Option ORes → Prop} {x : Int32} (hc : ¬ x = 0) (h : Rsq (go n (495, L, S, H, cs, ss)) q) : Rsq (go (n + 1) (492, L, (.int x :: S), H, cs, ss)) q := by
  subst hgo
  exact res_of s0_492 (res_f hc h)
theorem t0_495 {go : Nat → St → Option ORes} (hgo : go = orun code ret E0 0) {n cs ss : Nat} {l0 l1 l2 l3 l4 l5 l6 l7 l8 l9 l10 l11 l12 l13 l14 l15 l16 l17 l18 l19 l20 l21 l22 l23 l24 l25 l26 l27 l29 : Slot} {S : List Value} {H : AH} {q : Option ORes → Prop} {v : Value} (hv : isA v = true) (h : Rsq (go n (497, [l0, l1, l2, l3, l4, l5, l6, l7, l8, l9, l10, l11, l12, l13, l14, l15, l16, l17, l18, l19, l20, l21, l22, l23, l24, l25, l26, l27, .val v, l29], (v :: S), H, cs, ss)) q) : Rsq (go (n + 1) (495, [l0, l1, l2, l3, l4, l5, l6, l7, l8, l9, l10, l11, l12, l13, l14, l15, l16, l17, l18, l19, l20, l21, l22, l23, l24, l25, l26, l27, .val v, l29], S, H, cs, ss)) q := by
  subst hgo
  refine res_of s0_495 ?_
  rw [gA_isA (L := [l0, l1, l2, l3, l4, l5, l6, l7, l8, l9, l10, l11, l12, l13, l14, l15, l16, l17, l18, l19, l20, l21, l22, l23, l24, l25, l26, l27, .val v, l29]) (k := 28) (v := v) rfl hv]
  exact h
theorem t0_497 {go : Nat → St → Option ORes} (hgo : go = orun code ret E0 0) {n cs ss : Nat} {L : List Slot} {S : List Value} {H : AH} {q : Option ORes → Prop} (h : Rsq (go n (498, L, (.int 3 :: S), H, cs, ss)) q) : Rsq (go (n + 1) (497, L, S, H, cs, ss)) q := by
  subst hgo
  exact res_of s0_497 h
theorem u0_498 {go : Nat → St → Option ORes} (hgo : go = orun code ret E0 0) {n cs ss : Nat} {L : List Slot} {S : List Value} {H : AH} : go (n + 1) (498, L, S, H, cs, ss) = ex ret E0 0 (go n) (.iaload) 498 L S H cs ss := by
  subst hgo
  exact s0_498
theorem t0_499 {go : Nat → St → Option ORes} (hgo : go = orun code ret E0 0) {n cs ss : Nat} {l0 l1 l2 l3 l4 l5 l6 l7 l8 l9 l10 l11 l12 l13 l14 l15 l16 l17 l19 l20 l21 l22 l23 l24 l25 l26 l27 l28 l29 : Slot} {S : List Value} {H : AH} {q : Option ORes → Prop} {v : Int32} (h : Rsq (go n (501, [l0, l1, l2, l3, l4, l5, l6, l7, l8, l9, l10, l11, l12, l13, l14, l15, l16, l17, .val (.int v), l19, l20, l21, l22, l23, l24, l25, l26, l27, l28, l29], (.int v :: S), H, cs, ss)) q) : Rsq (go (n + 1) (499, [l0, l1, l2, l3, l4, l5, l6, l7, l8, l9, l10, l11, l12, l13, l14, l15, l16, l17, .val (.int v), l19, l20, l21, l22, l23, l24, l25, l26, l27, l28, l29], S, H, cs, ss)) q := by
  subst hgo
  exact res_of s0_499 h
theorem t0_501t {go : Nat → St → Option ORes} (hgo : go = orun code ret E0 0) {n cs ss : Nat} {L : List Slot} {S : List Value} {H : AH} {q : Option ORes → Prop} {x y : Int32} (hc : x = y) (h : Rsq (go n (504, L, S, H, cs, ss)) q) : Rsq (go (n + 1) (501, L, (.int y :: .int x :: S), H, cs, ss)) q := by
  subst hgo
  exact res_of s0_501 (res_t hc h)
theorem t0_501f {go : Nat → St → Option ORes} (hgo : go = orun code ret E0 0) {n cs ss : Nat} {L : List Slot} {S : List Value} {H : AH} {q : Option ORes → Prop} {x y : Int32} (hc : ¬ x = y) (h : Rsq (go n (508, L, S, H, cs, ss)) q) : Rsq (go (n + 1) (501, L, (.int y :: .int x :: S), H, cs, ss)) q := by
  subst hgo
  exact res_of s0_501 (res_f hc h)
theorem t0_504 {go : Nat → St → Option ORes} (hgo : go = orun code ret E0 0) {n cs ss : Nat} {L : List Slot} {S : List Value} {H : AH} {q : Option ORes → Prop} (h : Rsq (go n (505, L, (.int 1 :: S), H, cs, ss)) q) : Rsq (go (n + 1) (504, L, S, H, cs, ss)) q := by
  subst hgo
  exact res_of s0_504 h
theorem t0_505 {go : Nat → St → Option ORes} (hgo : go = orun code ret E0 0) {n cs ss : Nat} {L : List Slot} {S : List Value} {H : AH} {q : Option ORes → Prop} (h : Rsq (go n (509, L, S, H, cs, ss)) q) : Rsq (go (n + 1) (505, L, S, H, cs, ss)) q := by
  subst hgo
  exact res_of s0_505 h
theorem t0_508 {go : Nat → St → Option ORes} (hgo : go = orun code ret E0 0) {n cs ss : Nat} {L : List Slot} {S : List Value} {H : AH} {q : Option ORes → Prop} (h : Rsq (go n (509, L, (.int 0 :: S), H, cs, ss)) q) : Rsq (go (n + 1) (508, L, S, H, cs, ss)) q := by
  subst hgo
  exact res_of s0_508 h
theorem t0_509 {go : Nat → St → Option ORes} (hgo : go = orun code ret E0 0) {n cs ss : Nat} {l0 l1 l2 l3 l4 l5 l6 l7 l8 l9 l10 l11 l12 l13 l14 l15 l16 l17 l18 l19 l20 l21 l22 l23 l24 l25 l26 l27 l28 l29 : Slot} {S : List Value} {H : AH} {q : Option ORes → Prop} {x : Int32} (hk : so l29 = true) (h : Rsq (go n (511, [l0, l1, l2, l3, l4, l5, l6, l7, l8, l9, l10, l11, l12, l13, l14, l15, l16, l17, l18, l19, l20, l21, l22, l23, l24, l25, l26, l27, l28, .val (.int x)], S, H, cs, ss)) q) : Rsq (go (n + 1) (509, [l0, l1, l2, l3, l4, l5, l6, l7, l8, l9, l10, l11, l12, l13, l14, l15, l16, l17, l18, l19, l20, l21, l22, l23, l24, l25, l26, l27, l28, l29], (.int x :: S), H, cs, ss)) q := by
  subst hgo
  refine res_of s0_509 ?_
  rw [pI_int, st1_so (L := [l0, l1, l2, l3, l4, l5, l6, l7, l8, l9, l10, l11, l12, l13, l14, l15, l16, l17, l18, l19, l20, l21, l22, l23, l24, l25, l26, l27, l28, l29]) (k := 29) (l := l29) rfl hk]
  exact h
theorem t0_511 {go : Nat → St → Option ORes} (hgo : go = orun code ret E0 0) {n cs ss : Nat} {l0 l1 l2 l3 l4 l5 l6 l7 l8 l9 l10 l11 l12 l13 l14 l15 l16 l17 l18 l19 l20 l21 l22 l23 l24 l25 l26 l27 l28 : Slot} {S : List Value} {H : AH} {q : Option ORes → Prop} {v : Int32} (h : Rsq (go n (513, [l0, l1, l2, l3, l4, l5, l6, l7, l8, l9, l10, l11, l12, l13, l14, l15, l16, l17, l18, l19, l20, l21, l22, l23, l24, l25, l26, l27, l28, .val (.int v)], (.int v :: S), H, cs, ss)) q) : Rsq (go (n + 1) (511, [l0, l1, l2, l3, l4, l5, l6, l7, l8, l9, l10, l11, l12, l13, l14, l15, l16, l17, l18, l19, l20, l21, l22, l23, l24, l25, l26, l27, l28, .val (.int v)], S, H, cs, ss)) q := by
  subst hgo
  exact res_of s0_511 h
theorem t0_513 {go : Nat → St → Option ORes} (hgo : go = orun code ret E0 0) {n cs ss : Nat} {L : List Slot} {S : List Value} {H : AH} {q : Option ORes → Prop} {z : Int32} (h : q (some (some (.int (z &&& 1)), H))) : Rsq (go (n + 1) (513, L, (.int z :: S), H, cs, ss)) q := by
  subst hgo
  exact res_of s0_513 h
theorem qb_8 : (Int8.ofInt 8).toInt32 = 8 := by decide
theorem qc_0 : Int32.ofInt 0 = 0 := by decide
theorem qc_1 : Int32.ofInt 1 = 1 := by decide
theorem qc_2 : Int32.ofInt 2 = 2 := by decide
theorem qc_3 : Int32.ofInt 3 = 3 := by decide
theorem qc_4 : Int32.ofInt 4 = 4 := by decide
theorem qc_5 : Int32.ofInt 5 = 5 := by decide
theorem qs_255 : (Int16.ofInt 255).toInt32 = 255 := by decide
theorem own_lt_trans {a b c : Int32} (h : a < b) (h' : b < c) : a < c := by
  rw [Int32.lt_iff_toInt_lt] at *; omega
theorem own_asym {a b : Int32} (h : a < b) : ¬ b < a := by
  rw [Int32.lt_iff_toInt_lt] at *; omega
def own_min (x y : Int64) : Int64 := if y < x then y else x
theorem F1_eq (x y : Int64) (H : AH) : F1 [.long x, .long y] H = some (some (.long (own_min x y)), H) := by
  unfold own_min
  by_cases h : y < x
  · rw [if_pos h]
    refine is_of f1_in fun go hgo => ?_
    refine t1_0 hgo ?_
    refine t1_1 hgo ?_
    refine t1_2 hgo ?_
    refine t1_3t hgo ((lw_gt _ _).mpr h) ?_
    refine t1_10 hgo ?_
    refine t1_11 hgo ?_
    exact is_r
  · rw [if_neg h]
    refine is_of f1_in fun go hgo => ?_
    refine t1_0 hgo ?_
    refine t1_1 hgo ?_
    refine t1_2 hgo ?_
    refine t1_3f hgo (fun q => h ((lw_gt _ _).mp q)) ?_
    refine t1_6 hgo ?_
    refine t1_7 hgo ?_
    refine t1_11 hgo ?_
    exact is_r
set_option maxRecDepth 65536 in
set_option maxHeartbeats 4000000 in
theorem tA1 {go : Nat → St → Option ORes} (hgo : go = orun prog_120_method_10_code (Option.some (Jvm.ClassFile.FieldType.array Jvm.ClassFile.FieldType.int)) E2 0) {X Y Z : List Value} {i j k x xl yl zl : Int32} {xn yn zn m cs ss : Nat} {q : Option ORes → Prop} (hX : X.length = xn) (hx' : xn.toInt32 = xl) (hY : Y.length = yn) (hy' : yn.toInt32 = yl) (hZ : Z.length = zn) (hz' : zn.toInt32 = zl) (hk : k < zl) (hk0 : ¬ k < 0) (hkl : k.toNatClampNeg < zn) (hj : j = yl) (hi0 : ¬ i < 0) (hx : X[i.toNatClampNeg]? = some (Value.int x)) (h : Rsq (go m (16, [.val (.ref 0), .val (.ref 1), .val (.ref 2), .val (.int (i + 1)), .val (.int j), .val (.int (k + 1))], [], [.inr (.int, X), .inr (.int, Y), .inr (.int, Z.set k.toNatClampNeg (.int x))], cs, ss)) q) : Rsq (go (m + 18) (16, [.val (.ref 0), .val (.ref 1), .val (.ref 2), .val (.int i), .val (.int j), .val (.int k)], [], [.inr (.int, X), .inr (.int, Y), .inr (.int, Z)], cs, ss)) q := by
  refine t2_16 hgo ?_
  refine t2_18 hgo rfl ?_
  refine res_of (u2_19 hgo) ?_
  simp only [eq_self, and_self, true_and, and_true, not_true_eq_false, not_false_eq_true, if_true, if_false, reduceIte, Option.bind_some, List.getElem?_cons_zero, List.getElem?_cons_succ, Nat.reduceAdd, Nat.reduceSub, Nat.reduceLT, Nat.reduceLeDiff, Nat.le_refl, Nat.zero_add, Nat.add_zero, List.length_cons, List.length_nil, Int32.reduceLT, Int32.reduceToNatClampNeg, Int32.reduceAdd, Int32.reduceSub, Int32.reduceMul, decide_true, pR_ref, arr, ln0, ln1, ln2, ln3, ln4, ln5, ln6, ln7, ln8, ln9, ln10, ln11, ln12, ln13, ln14, ln15, ln16, ln17, ln18, ln19, ln20, ln21, ln22, ln23, ln24, ln25, ln26, ln27, ln28, ln29, ln30, ln31, ln32, ln33, ln34, ln35, ln36, ln_of hX hx', ln_of hY hy', ln_of hZ hz', hZ, hk0, hkl, hi0, hx]
  refine t2_20t hgo hk ?_
  refine t2_23 hgo ?_
  refine t2_25 hgo rfl ?_
  refine res_of (u2_26 hgo) ?_
  simp only [eq_self, and_self, true_and, and_true, not_true_eq_false, not_false_eq_true, if_true, if_false, reduceIte, Option.bind_some, List.getElem?_cons_zero, List.getElem?_cons_succ, Nat.reduceAdd, Nat.reduceSub, Nat.reduceLT, Nat.reduceLeDiff, Nat.le_refl, Nat.zero_add, Nat.add_zero, List.length_cons, List.length_nil, Int32.reduceLT, Int32.reduceToNatClampNeg, Int32.reduceAdd, Int32.reduceSub, Int32.reduceMul, decide_true, pR_ref, arr, ln0, ln1, ln2, ln3, ln4, ln5, ln6, ln7, ln8, ln9, ln10, ln11, ln12, ln13, ln14, ln15, ln16, ln17, ln18, ln19, ln20, ln21, ln22, ln23, ln24, ln25, ln26, ln27, ln28, ln29, ln30, ln31, ln32, ln33, ln34, ln35, ln36, ln_of hX hx', ln_of hY hy', ln_of hZ hz', hZ, hk0, hkl, hi0, hx]
  refine t2_27t hgo hj ?_
  refine t2_46 hgo rfl ?_
  refine t2_47 hgo ?_
  refine t2_49 hgo rfl ?_
  refine t2_50 hgo ?_
  refine res_of (u2_51 hgo) ?_
  simp only [eq_self, and_self, true_and, and_true, not_true_eq_false, not_false_eq_true, if_true, if_false, reduceIte, Option.bind_some, List.getElem?_cons_zero, List.getElem?_cons_succ, Nat.reduceAdd, Nat.reduceSub, Nat.reduceLT, Nat.reduceLeDiff, Nat.le_refl, Nat.zero_add, Nat.add_zero, List.length_cons, List.length_nil, Int32.reduceLT, Int32.reduceToNatClampNeg, Int32.reduceAdd, Int32.reduceSub, Int32.reduceMul, decide_true, ex_iaload, ald, pI_int, pR_ref, arr, isT, isBZ, ln_of hX hx', ln_of hY hy', ln_of hZ hz', hZ, hk0, hkl, hi0, hx]
  refine res_of (u2_52 hgo) ?_
  simp only [eq_self, and_self, true_and, and_true, not_true_eq_false, not_false_eq_true, if_true, if_false, reduceIte, Option.bind_some, List.getElem?_cons_zero, List.getElem?_cons_succ, Nat.reduceAdd, Nat.reduceSub, Nat.reduceLT, Nat.reduceLeDiff, Nat.le_refl, Nat.zero_add, Nat.add_zero, List.length_cons, List.length_nil, Int32.reduceLT, Int32.reduceToNatClampNeg, Int32.reduceAdd, Int32.reduceSub, Int32.reduceMul, decide_true, ex_iastore, ast, astL, pI_int, pL_long, pR_ref, arr, isT, isBZ, nar, List.set_cons_zero, List.set_cons_succ, ln_of hX hx', ln_of hY hy', ln_of hZ hz', hZ, hk0, hkl, hi0, hx]
  refine t2_53 hgo ?_
  refine t2_56 hgo ?_
  refine t2_70 hgo ?_
  refine t2_73 hgo ?_
  exact h
set_option maxRecDepth 65536 in
set_option maxHeartbeats 4000000 in
theorem tA2 {go : Nat → St → Option ORes} (hgo : go = orun prog_120_method_10_code (Option.some (Jvm.ClassFile.FieldType.array Jvm.ClassFile.FieldType.int)) E2 0) {X Y Z : List Value} {i j k x y xl yl zl : Int32} {xn yn zn m cs ss : Nat} {q : Option ORes → Prop} (hX : X.length = xn) (hx' : xn.toInt32 = xl) (hY : Y.length = yn) (hy' : yn.toInt32 = yl) (hZ : Z.length = zn) (hz' : zn.toInt32 = zl) (hk : k < zl) (hk0 : ¬ k < 0) (hkl : k.toNatClampNeg < zn) (hj : ¬ j = yl) (hi : i < xl) (hi0 : ¬ i < 0) (hx : X[i.toNatClampNeg]? = some (Value.int x)) (hj0 : ¬ j < 0) (hy : Y[j.toNatClampNeg]? = some (Value.int y)) (hxy : x < y) (h : Rsq (go m (16, [.val (.ref 0), .val (.ref 1), .val (.ref 2), .val (.int (i + 1)), .val (.int j), .val (.int (k + 1))], [], [.inr (.int, X), .inr (.int, Y), .inr (.int, Z.set k.toNatClampNeg (.int x))], cs, ss)) q) : Rsq (go (m + 29) (16, [.val (.ref 0), .val (.ref 1), .val (.ref 2), .val (.int i), .val (.int j), .val (.int k)], [], [.inr (.int, X), .inr (.int, Y), .inr (.int, Z)], cs, ss)) q := by
  refine t2_16 hgo ?_
  refine t2_18 hgo rfl ?_
  refine res_of (u2_19 hgo) ?_
  simp only [eq_self, and_self, true_and, and_true, not_true_eq_false, not_false_eq_true, if_true, if_false, reduceIte, Option.bind_some, List.getElem?_cons_zero, List.getElem?_cons_succ, Nat.reduceAdd, Nat.reduceSub, Nat.reduceLT, Nat.reduceLeDiff, Nat.le_refl, Nat.zero_add, Nat.add_zero, List.length_cons, List.length_nil, Int32.reduceLT, Int32.reduceToNatClampNeg, Int32.reduceAdd, Int32.reduceSub, Int32.reduceMul, decide_true, pR_ref, arr, ln0, ln1, ln2, ln3, ln4, ln5, ln6, ln7, ln8, ln9, ln10, ln11, ln12, ln13, ln14, ln15, ln16, ln17, ln18, ln19, ln20, ln21, ln22, ln23, ln24, ln25, ln26, ln27, ln28, ln29, ln30, ln31, ln32, ln33, ln34, ln35, ln36, ln_of hX hx', ln_of hY hy', ln_of hZ hz', hZ, hk0, hkl, hi0, hx, hj0, hy]
  refine t2_20t hgo hk ?_
  refine t2_23 hgo ?_
  refine t2_25 hgo rfl ?_
  refine res_of (u2_26 hgo) ?_
  simp only [eq_self, and_self, true_and, and_true, not_true_eq_false, not_false_eq_true, if_true, if_false, reduceIte, Option.bind_some, List.getElem?_cons_zero, List.getElem?_cons_succ, Nat.reduceAdd, Nat.reduceSub, Nat.reduceLT, Nat.reduceLeDiff, Nat.le_refl, Nat.zero_add, Nat.add_zero, List.length_cons, List.length_nil, Int32.reduceLT, Int32.reduceToNatClampNeg, Int32.reduceAdd, Int32.reduceSub, Int32.reduceMul, decide_true, pR_ref, arr, ln0, ln1, ln2, ln3, ln4, ln5, ln6, ln7, ln8, ln9, ln10, ln11, ln12, ln13, ln14, ln15, ln16, ln17, ln18, ln19, ln20, ln21, ln22, ln23, ln24, ln25, ln26, ln27, ln28, ln29, ln30, ln31, ln32, ln33, ln34, ln35, ln36, ln_of hX hx', ln_of hY hy', ln_of hZ hz', hZ, hk0, hkl, hi0, hx, hj0, hy]
  refine t2_27f hgo hj ?_
  refine t2_30 hgo ?_
  refine t2_31 hgo rfl ?_
  refine res_of (u2_32 hgo) ?_
  simp only [eq_self, and_self, true_and, and_true, not_true_eq_false, not_false_eq_true, if_true, if_false, reduceIte, Option.bind_some, List.getElem?_cons_zero, List.getElem?_cons_succ, Nat.reduceAdd, Nat.reduceSub, Nat.reduceLT, Nat.reduceLeDiff, Nat.le_refl, Nat.zero_add, Nat.add_zero, List.length_cons, List.length_nil, Int32.reduceLT, Int32.reduceToNatClampNeg, Int32.reduceAdd, Int32.reduceSub, Int32.reduceMul, decide_true, pR_ref, arr, ln0, ln1, ln2, ln3, ln4, ln5, ln6, ln7, ln8, ln9, ln10, ln11, ln12, ln13, ln14, ln15, ln16, ln17, ln18, ln19, ln20, ln21, ln22, ln23, ln24, ln25, ln26, ln27, ln28, ln29, ln30, ln31, ln32, ln33, ln34, ln35, ln36, ln_of hX hx', ln_of hY hy', ln_of hZ hz', hZ, hk0, hkl, hi0, hx, hj0, hy]
  refine t2_33t hgo hi ?_
  refine t2_36 hgo rfl ?_
  refine t2_37 hgo ?_
  refine res_of (u2_38 hgo) ?_
  simp only [eq_self, and_self, true_and, and_true, not_true_eq_false, not_false_eq_true, if_true, if_false, reduceIte, Option.bind_some, List.getElem?_cons_zero, List.getElem?_cons_succ, Nat.reduceAdd, Nat.reduceSub, Nat.reduceLT, Nat.reduceLeDiff, Nat.le_refl, Nat.zero_add, Nat.add_zero, List.length_cons, List.length_nil, Int32.reduceLT, Int32.reduceToNatClampNeg, Int32.reduceAdd, Int32.reduceSub, Int32.reduceMul, decide_true, ex_iaload, ald, pI_int, pR_ref, arr, isT, isBZ, ln_of hX hx', ln_of hY hy', ln_of hZ hz', hZ, hk0, hkl, hi0, hx, hj0, hy]
  refine t2_39 hgo rfl ?_
  refine t2_40 hgo ?_
  refine res_of (u2_42 hgo) ?_
  simp only [eq_self, and_self, true_and, and_true, not_true_eq_false, not_false_eq_true, if_true, if_false, reduceIte, Option.bind_some, List.getElem?_cons_zero, List.getElem?_cons_succ, Nat.reduceAdd, Nat.reduceSub, Nat.reduceLT, Nat.reduceLeDiff, Nat.le_refl, Nat.zero_add, Nat.add_zero, List.length_cons, List.length_nil, Int32.reduceLT, Int32.reduceToNatClampNeg, Int32.reduceAdd, Int32.reduceSub, Int32.reduceMul, decide_true, ex_iaload, ald, pI_int, pR_ref, arr, isT, isBZ, ln_of hX hx', ln_of hY hy', ln_of hZ hz', hZ, hk0, hkl, hi0, hx, hj0, hy]
  refine t2_43t hgo hxy ?_
  refine t2_46 hgo rfl ?_
  refine t2_47 hgo ?_
  refine t2_49 hgo rfl ?_
  refine t2_50 hgo ?_
  refine res_of (u2_51 hgo) ?_
  simp only [eq_self, and_self, true_and, and_true, not_true_eq_false, not_false_eq_true, if_true, if_false, reduceIte, Option.bind_some, List.getElem?_cons_zero, List.getElem?_cons_succ, Nat.reduceAdd, Nat.reduceSub, Nat.reduceLT, Nat.reduceLeDiff, Nat.le_refl, Nat.zero_add, Nat.add_zero, List.length_cons, List.length_nil, Int32.reduceLT, Int32.reduceToNatClampNeg, Int32.reduceAdd, Int32.reduceSub, Int32.reduceMul, decide_true, ex_iaload, ald, pI_int, pR_ref, arr, isT, isBZ, ln_of hX hx', ln_of hY hy', ln_of hZ hz', hZ, hk0, hkl, hi0, hx, hj0, hy]
  refine res_of (u2_52 hgo) ?_
  simp only [eq_self, and_self, true_and, and_true, not_true_eq_false, not_false_eq_true, if_true, if_false, reduceIte, Option.bind_some, List.getElem?_cons_zero, List.getElem?_cons_succ, Nat.reduceAdd, Nat.reduceSub, Nat.reduceLT, Nat.reduceLeDiff, Nat.le_refl, Nat.zero_add, Nat.add_zero, List.length_cons, List.length_nil, Int32.reduceLT, Int32.reduceToNatClampNeg, Int32.reduceAdd, Int32.reduceSub, Int32.reduceMul, decide_true, ex_iastore, ast, astL, pI_int, pL_long, pR_ref, arr, isT, isBZ, nar, List.set_cons_zero, List.set_cons_succ, ln_of hX hx', ln_of hY hy', ln_of hZ hz', hZ, hk0, hkl, hi0, hx, hj0, hy]
  refine t2_53 hgo ?_
  refine t2_56 hgo ?_
  refine t2_70 hgo ?_
  refine t2_73 hgo ?_
  exact h
set_option maxRecDepth 65536 in
set_option maxHeartbeats 4000000 in
theorem tB1 {go : Nat → St → Option ORes} (hgo : go = orun prog_120_method_10_code (Option.some (Jvm.ClassFile.FieldType.array Jvm.ClassFile.FieldType.int)) E2 0) {X Y Z : List Value} {i j k y xl yl zl : Int32} {xn yn zn m cs ss : Nat} {q : Option ORes → Prop} (hX : X.length = xn) (hx' : xn.toInt32 = xl) (hY : Y.length = yn) (hy' : yn.toInt32 = yl) (hZ : Z.length = zn) (hz' : zn.toInt32 = zl) (hk : k < zl) (hk0 : ¬ k < 0) (hkl : k.toNatClampNeg < zn) (hj : ¬ j = yl) (hi : ¬ i < xl) (hj0 : ¬ j < 0) (hy : Y[j.toNatClampNeg]? = some (Value.int y)) (h : Rsq (go m (16, [.val (.ref 0), .val (.ref 1), .val (.ref 2), .val (.int i), .val (.int (j + 1)), .val (.int (k + 1))], [], [.inr (.int, X), .inr (.int, Y), .inr (.int, Z.set k.toNatClampNeg (.int y))], cs, ss)) q) : Rsq (go (m + 21) (16, [.val (.ref 0), .val (.ref 1), .val (.ref 2), .val (.int i), .val (.int j), .val (.int k)], [], [.inr (.int, X), .inr (.int, Y), .inr (.int, Z)], cs, ss)) q := by
  refine t2_16 hgo ?_
  refine t2_18 hgo rfl ?_
  refine res_of (u2_19 hgo) ?_
  simp only [eq_self, and_self, true_and, and_true, not_true_eq_false, not_false_eq_true, if_true, if_false, reduceIte, Option.bind_some, List.getElem?_cons_zero, List.getElem?_cons_succ, Nat.reduceAdd, Nat.reduceSub, Nat.reduceLT, Nat.reduceLeDiff, Nat.le_refl, Nat.zero_add, Nat.add_zero, List.length_cons, List.length_nil, Int32.reduceLT, Int32.reduceToNatClampNeg, Int32.reduceAdd, Int32.reduceSub, Int32.reduceMul, decide_true, pR_ref, arr, ln0, ln1, ln2, ln3, ln4, ln5, ln6, ln7, ln8, ln9, ln10, ln11, ln12, ln13, ln14, ln15, ln16, ln17, ln18, ln19, ln20, ln21, ln22, ln23, ln24, ln25, ln26, ln27, ln28, ln29, ln30, ln31, ln32, ln33, ln34, ln35, ln36, ln_of hX hx', ln_of hY hy', ln_of hZ hz', hZ, hk0, hkl, hj0, hy]
  refine t2_20t hgo hk ?_
  refine t2_23 hgo ?_
  refine t2_25 hgo rfl ?_
  refine res_of (u2_26 hgo) ?_
  simp only [eq_self, and_self, true_and, and_true, not_true_eq_false, not_false_eq_true, if_true, if_false, reduceIte, Option.bind_some, List.getElem?_cons_zero, List.getElem?_cons_succ, Nat.reduceAdd, Nat.reduceSub, Nat.reduceLT, Nat.reduceLeDiff, Nat.le_refl, Nat.zero_add, Nat.add_zero, List.length_cons, List.length_nil, Int32.reduceLT, Int32.reduceToNatClampNeg, Int32.reduceAdd, Int32.reduceSub, Int32.reduceMul, decide_true, pR_ref, arr, ln0, ln1, ln2, ln3, ln4, ln5, ln6, ln7, ln8, ln9, ln10, ln11, ln12, ln13, ln14, ln15, ln16, ln17, ln18, ln19, ln20, ln21, ln22, ln23, ln24, ln25, ln26, ln27, ln28, ln29, ln30, ln31, ln32, ln33, ln34, ln35, ln36, ln_of hX hx', ln_of hY hy', ln_of hZ hz', hZ, hk0, hkl, hj0, hy]
  refine t2_27f hgo hj ?_
  refine t2_30 hgo ?_
  refine t2_31 hgo rfl ?_
  refine res_of (u2_32 hgo) ?_
  simp only [eq_self, and_self, true_and, and_true, not_true_eq_false, not_false_eq_true, if_true, if_false, reduceIte, Option.bind_some, List.getElem?_cons_zero, List.getElem?_cons_succ, Nat.reduceAdd, Nat.reduceSub, Nat.reduceLT, Nat.reduceLeDiff, Nat.le_refl, Nat.zero_add, Nat.add_zero, List.length_cons, List.length_nil, Int32.reduceLT, Int32.reduceToNatClampNeg, Int32.reduceAdd, Int32.reduceSub, Int32.reduceMul, decide_true, pR_ref, arr, ln0, ln1, ln2, ln3, ln4, ln5, ln6, ln7, ln8, ln9, ln10, ln11, ln12, ln13, ln14, ln15, ln16, ln17, ln18, ln19, ln20, ln21, ln22, ln23, ln24, ln25, ln26, ln27, ln28, ln29, ln30, ln31, ln32, ln33, ln34, ln35, ln36, ln_of hX hx', ln_of hY hy', ln_of hZ hz', hZ, hk0, hkl, hj0, hy]
  refine t2_33f hgo hi ?_
  refine t2_59 hgo rfl ?_
  refine t2_60 hgo ?_
  refine t2_62 hgo rfl ?_
  refine t2_63 hgo ?_
  refine res_of (u2_65 hgo) ?_
  simp only [eq_self, and_self, true_and, and_true, not_true_eq_false, not_false_eq_true, if_true, if_false, reduceIte, Option.bind_some, List.getElem?_cons_zero, List.getElem?_cons_succ, Nat.reduceAdd, Nat.reduceSub, Nat.reduceLT, Nat.reduceLeDiff, Nat.le_refl, Nat.zero_add, Nat.add_zero, List.length_cons, List.length_nil, Int32.reduceLT, Int32.reduceToNatClampNeg, Int32.reduceAdd, Int32.reduceSub, Int32.reduceMul, decide_true, ex_iaload, ald, pI_int, pR_ref, arr, isT, isBZ, ln_of hX hx', ln_of hY hy', ln_of hZ hz', hZ, hk0, hkl, hj0, hy]
  refine res_of (u2_66 hgo) ?_
  simp only [eq_self, and_self, true_and, and_true, not_true_eq_false, not_false_eq_true, if_true, if_false, reduceIte, Option.bind_some, List.getElem?_cons_zero, List.getElem?_cons_succ, Nat.reduceAdd, Nat.reduceSub, Nat.reduceLT, Nat.reduceLeDiff, Nat.le_refl, Nat.zero_add, Nat.add_zero, List.length_cons, List.length_nil, Int32.reduceLT, Int32.reduceToNatClampNeg, Int32.reduceAdd, Int32.reduceSub, Int32.reduceMul, decide_true, ex_iastore, ast, astL, pI_int, pL_long, pR_ref, arr, isT, isBZ, nar, List.set_cons_zero, List.set_cons_succ, ln_of hX hx', ln_of hY hy', ln_of hZ hz', hZ, hk0, hkl, hj0, hy]
  refine t2_67 hgo ?_
  refine t2_70 hgo ?_
  refine t2_73 hgo ?_
  exact h
set_option maxRecDepth 65536 in
set_option maxHeartbeats 4000000 in
theorem tB2 {go : Nat → St → Option ORes} (hgo : go = orun prog_120_method_10_code (Option.some (Jvm.ClassFile.FieldType.array Jvm.ClassFile.FieldType.int)) E2 0) {X Y Z : List Value} {i j k x y xl yl zl : Int32} {xn yn zn m cs ss : Nat} {q : Option ORes → Prop} (hX : X.length = xn) (hx' : xn.toInt32 = xl) (hY : Y.length = yn) (hy' : yn.toInt32 = yl) (hZ : Z.length = zn) (hz' : zn.toInt32 = zl) (hk : k < zl) (hk0 : ¬ k < 0) (hkl : k.toNatClampNeg < zn) (hj : ¬ j = yl) (hi : i < xl) (hi0 : ¬ i < 0) (hx : X[i.toNatClampNeg]? = some (Value.int x)) (hj0 : ¬ j < 0) (hy : Y[j.toNatClampNeg]? = some (Value.int y)) (hxy : ¬ x < y) (h : Rsq (go m (16, [.val (.ref 0), .val (.ref 1), .val (.ref 2), .val (.int i), .val (.int (j + 1)), .val (.int (k + 1))], [], [.inr (.int, X), .inr (.int, Y), .inr (.int, Z.set k.toNatClampNeg (.int y))], cs, ss)) q) : Rsq (go (m + 28) (16, [.val (.ref 0), .val (.ref 1), .val (.ref 2), .val (.int i), .val (.int j), .val (.int k)], [], [.inr (.int, X), .inr (.int, Y), .inr (.int, Z)], cs, ss)) q := by
  refine t2_16 hgo ?_
  refine t2_18 hgo rfl ?_
  refine res_of (u2_19 hgo) ?_
  simp only [eq_self, and_self, true_and, and_true, not_true_eq_false, not_false_eq_true, if_true, if_false, reduceIte, Option.bind_some, List.getElem?_cons_zero, List.getElem?_cons_succ, Nat.reduceAdd, Nat.reduceSub, Nat.reduceLT, Nat.reduceLeDiff, Nat.le_refl, Nat.zero_add, Nat.add_zero, List.length_cons, List.length_nil, Int32.reduceLT, Int32.reduceToNatClampNeg, Int32.reduceAdd, Int32.reduceSub, Int32.reduceMul, decide_true, pR_ref, arr, ln0, ln1, ln2, ln3, ln4, ln5, ln6, ln7, ln8, ln9, ln10, ln11, ln12, ln13, ln14, ln15, ln16, ln17, ln18, ln19, ln20, ln21, ln22, ln23, ln24, ln25, ln26, ln27, ln28, ln29, ln30, ln31, ln32, ln33, ln34, ln35, ln36, ln_of hX hx', ln_of hY hy', ln_of hZ hz', hZ, hk0, hkl, hi0, hx, hj0, hy]
  refine t2_20t hgo hk ?_
  refine t2_23 hgo ?_
  refine t2_25 hgo rfl ?_
  refine res_of (u2_26 hgo) ?_
  simp only [eq_self, and_self, true_and, and_true, not_true_eq_false, not_false_eq_true, if_true, if_false, reduceIte, Option.bind_some, List.getElem?_cons_zero, List.getElem?_cons_succ, Nat.reduceAdd, Nat.reduceSub, Nat.reduceLT, Nat.reduceLeDiff, Nat.le_refl, Nat.zero_add, Nat.add_zero, List.length_cons, List.length_nil, Int32.reduceLT, Int32.reduceToNatClampNeg, Int32.reduceAdd, Int32.reduceSub, Int32.reduceMul, decide_true, pR_ref, arr, ln0, ln1, ln2, ln3, ln4, ln5, ln6, ln7, ln8, ln9, ln10, ln11, ln12, ln13, ln14, ln15, ln16, ln17, ln18, ln19, ln20, ln21, ln22, ln23, ln24, ln25, ln26, ln27, ln28, ln29, ln30, ln31, ln32, ln33, ln34, ln35, ln36, ln_of hX hx', ln_of hY hy', ln_of hZ hz', hZ, hk0, hkl, hi0, hx, hj0, hy]
  refine t2_27f hgo hj ?_
  refine t2_30 hgo ?_
  refine t2_31 hgo rfl ?_
  refine res_of (u2_32 hgo) ?_
  simp only [eq_self, and_self, true_and, and_true, not_true_eq_false, not_false_eq_true, if_true, if_false, reduceIte, Option.bind_some, List.getElem?_cons_zero, List.getElem?_cons_succ, Nat.reduceAdd, Nat.reduceSub, Nat.reduceLT, Nat.reduceLeDiff, Nat.le_refl, Nat.zero_add, Nat.add_zero, List.length_cons, List.length_nil, Int32.reduceLT, Int32.reduceToNatClampNeg, Int32.reduceAdd, Int32.reduceSub, Int32.reduceMul, decide_true, pR_ref, arr, ln0, ln1, ln2, ln3, ln4, ln5, ln6, ln7, ln8, ln9, ln10, ln11, ln12, ln13, ln14, ln15, ln16, ln17, ln18, ln19, ln20, ln21, ln22, ln23, ln24, ln25, ln26, ln27, ln28, ln29, ln30, ln31, ln32, ln33, ln34, ln35, ln36, ln_of hX hx', ln_of hY hy', ln_of hZ hz', hZ, hk0, hkl, hi0, hx, hj0, hy]
  refine t2_33t hgo hi ?_
  refine t2_36 hgo rfl ?_
  refine t2_37 hgo ?_
  refine res_of (u2_38 hgo) ?_
  simp only [eq_self, and_self, true_and, and_true, not_true_eq_false, not_false_eq_true, if_true, if_false, reduceIte, Option.bind_some, List.getElem?_cons_zero, List.getElem?_cons_succ, Nat.reduceAdd, Nat.reduceSub, Nat.reduceLT, Nat.reduceLeDiff, Nat.le_refl, Nat.zero_add, Nat.add_zero, List.length_cons, List.length_nil, Int32.reduceLT, Int32.reduceToNatClampNeg, Int32.reduceAdd, Int32.reduceSub, Int32.reduceMul, decide_true, ex_iaload, ald, pI_int, pR_ref, arr, isT, isBZ, ln_of hX hx', ln_of hY hy', ln_of hZ hz', hZ, hk0, hkl, hi0, hx, hj0, hy]
  refine t2_39 hgo rfl ?_
  refine t2_40 hgo ?_
  refine res_of (u2_42 hgo) ?_
  simp only [eq_self, and_self, true_and, and_true, not_true_eq_false, not_false_eq_true, if_true, if_false, reduceIte, Option.bind_some, List.getElem?_cons_zero, List.getElem?_cons_succ, Nat.reduceAdd, Nat.reduceSub, Nat.reduceLT, Nat.reduceLeDiff, Nat.le_refl, Nat.zero_add, Nat.add_zero, List.length_cons, List.length_nil, Int32.reduceLT, Int32.reduceToNatClampNeg, Int32.reduceAdd, Int32.reduceSub, Int32.reduceMul, decide_true, ex_iaload, ald, pI_int, pR_ref, arr, isT, isBZ, ln_of hX hx', ln_of hY hy', ln_of hZ hz', hZ, hk0, hkl, hi0, hx, hj0, hy]
  refine t2_43f hgo hxy ?_
  refine t2_59 hgo rfl ?_
  refine t2_60 hgo ?_
  refine t2_62 hgo rfl ?_
  refine t2_63 hgo ?_
  refine res_of (u2_65 hgo) ?_
  simp only [eq_self, and_self, true_and, and_true, not_true_eq_false, not_false_eq_true, if_true, if_false, reduceIte, Option.bind_some, List.getElem?_cons_zero, List.getElem?_cons_succ, Nat.reduceAdd, Nat.reduceSub, Nat.reduceLT, Nat.reduceLeDiff, Nat.le_refl, Nat.zero_add, Nat.add_zero, List.length_cons, List.length_nil, Int32.reduceLT, Int32.reduceToNatClampNeg, Int32.reduceAdd, Int32.reduceSub, Int32.reduceMul, decide_true, ex_iaload, ald, pI_int, pR_ref, arr, isT, isBZ, ln_of hX hx', ln_of hY hy', ln_of hZ hz', hZ, hk0, hkl, hi0, hx, hj0, hy]
  refine res_of (u2_66 hgo) ?_
  simp only [eq_self, and_self, true_and, and_true, not_true_eq_false, not_false_eq_true, if_true, if_false, reduceIte, Option.bind_some, List.getElem?_cons_zero, List.getElem?_cons_succ, Nat.reduceAdd, Nat.reduceSub, Nat.reduceLT, Nat.reduceLeDiff, Nat.le_refl, Nat.zero_add, Nat.add_zero, List.length_cons, List.length_nil, Int32.reduceLT, Int32.reduceToNatClampNeg, Int32.reduceAdd, Int32.reduceSub, Int32.reduceMul, decide_true, ex_iastore, ast, astL, pI_int, pL_long, pR_ref, arr, isT, isBZ, nar, List.set_cons_zero, List.set_cons_succ, ln_of hX hx', ln_of hY hy', ln_of hZ hz', hZ, hk0, hkl, hi0, hx, hj0, hy]
  refine t2_67 hgo ?_
  refine t2_70 hgo ?_
  refine t2_73 hgo ?_
  exact h
set_option maxRecDepth 65536 in
set_option maxHeartbeats 4000000 in
theorem mg_0_0 {w0 w1 w2 w3 : Int32} (ho : w0 < w1 ∧ w1 < w2 ∧ w2 < w3) : F2 [.ref 0, .ref 1] [.inr (.int, []), .inr (.int, [])] = some (some (.ref 2), [.inr (.int, []), .inr (.int, []), .inr (.int, [])]) := by
  have h_0_1 := ho.1
  have h_1_2 := ho.2.1
  have h_2_3 := ho.2.2
  have h_0_2 := own_lt_trans h_0_1 h_1_2
  have h_1_3 := own_lt_trans h_1_2 h_2_3
  have h_0_3 := own_lt_trans h_0_2 h_2_3
  refine is_of f2_in fun go hgo => ?_
  refine t2_0 hgo rfl ?_
  refine res_of (u2_1 hgo) ?_
  simp only [eq_self, and_self, true_and, and_true, not_true_eq_false, not_false_eq_true, if_true, if_false, reduceIte, Option.bind_some, List.getElem?_cons_zero, List.getElem?_cons_succ, Nat.reduceAdd, Nat.reduceSub, Nat.reduceLT, Nat.reduceLeDiff, Nat.le_refl, Nat.zero_add, Nat.add_zero, List.length_cons, List.length_nil, Int32.reduceLT, Int32.reduceToNatClampNeg, Int32.reduceAdd, Int32.reduceSub, Int32.reduceMul, decide_true, pR_ref, arr, ln0, ln1, ln2, ln3, ln4, ln5, ln6, ln7, ln8, ln9, ln10, ln11, ln12, ln13, ln14, ln15, ln16, ln17, ln18, ln19, ln20, ln21, ln22, ln23, ln24, ln25, ln26, ln27, ln28, ln29, ln30, ln31, ln32, ln33, ln34, ln35, ln36]
  refine t2_2 hgo rfl ?_
  refine res_of (u2_3 hgo) ?_
  simp only [eq_self, and_self, true_and, and_true, not_true_eq_false, not_false_eq_true, if_true, if_false, reduceIte, Option.bind_some, List.getElem?_cons_zero, List.getElem?_cons_succ, Nat.reduceAdd, Nat.reduceSub, Nat.reduceLT, Nat.reduceLeDiff, Nat.le_refl, Nat.zero_add, Nat.add_zero, List.length_cons, List.length_nil, Int32.reduceLT, Int32.reduceToNatClampNeg, Int32.reduceAdd, Int32.reduceSub, Int32.reduceMul, decide_true, pR_ref, arr, ln0, ln1, ln2, ln3, ln4, ln5, ln6, ln7, ln8, ln9, ln10, ln11, ln12, ln13, ln14, ln15, ln16, ln17, ln18, ln19, ln20, ln21, ln22, ln23, ln24, ln25, ln26, ln27, ln28, ln29, ln30, ln31, ln32, ln33, ln34, ln35, ln36]
  refine t2_4 hgo ?_
  refine res_of (u2_5 hgo) ?_
  simp only [eq_self, and_self, true_and, and_true, not_true_eq_false, not_false_eq_true, if_true, if_false, reduceIte, Option.bind_some, List.getElem?_cons_zero, List.getElem?_cons_succ, Nat.reduceAdd, Nat.reduceSub, Nat.reduceLT, Nat.reduceLeDiff, Nat.le_refl, Nat.zero_add, Nat.add_zero, List.length_cons, List.length_nil, Int32.reduceLT, Int32.reduceToNatClampNeg, Int32.reduceAdd, Int32.reduceSub, Int32.reduceMul, decide_true, aArr, List.nil_append, List.cons_append, List.replicate_zero, List.replicate_succ, defaultValue]
  refine t2_7 hgo rfl rfl ?_
  refine t2_8 hgo ?_
  refine t2_9 hgo rfl ?_
  refine t2_10 hgo ?_
  refine t2_11 hgo rfl ?_
  refine t2_13 hgo ?_
  refine t2_14 hgo rfl ?_
  refine t2_16 hgo ?_
  refine t2_18 hgo rfl ?_
  refine res_of (u2_19 hgo) ?_
  simp only [eq_self, and_self, true_and, and_true, not_true_eq_false, not_false_eq_true, if_true, if_false, reduceIte, Option.bind_some, List.getElem?_cons_zero, List.getElem?_cons_succ, Nat.reduceAdd, Nat.reduceSub, Nat.reduceLT, Nat.reduceLeDiff, Nat.le_refl, Nat.zero_add, Nat.add_zero, List.length_cons, List.length_nil, Int32.reduceLT, Int32.reduceToNatClampNeg, Int32.reduceAdd, Int32.reduceSub, Int32.reduceMul, decide_true, pR_ref, arr, ln0, ln1, ln2, ln3, ln4, ln5, ln6, ln7, ln8, ln9, ln10, ln11, ln12, ln13, ln14, ln15, ln16, ln17, ln18, ln19, ln20, ln21, ln22, ln23, ln24, ln25, ln26, ln27, ln28, ln29, ln30, ln31, ln32, ln33, ln34, ln35, ln36]
  refine t2_20f hgo (by decide) ?_
  refine t2_76 hgo rfl ?_
  refine t2_77 hgo rfl ?_
  exact is_r
set_option maxRecDepth 65536 in
set_option maxHeartbeats 4000000 in
theorem mg_1_0 {w0 w1 w2 w3 : Int32} (ho : w0 < w1 ∧ w1 < w2 ∧ w2 < w3) : F2 [.ref 0, .ref 1] [.inr (.int, []), .inr (.int, [.int w0])] = some (some (.ref 2), [.inr (.int, []), .inr (.int, [.int w0]), .inr (.int, [.int w0])]) := by
  have h_0_1 := ho.1
  have h_1_2 := ho.2.1
  have h_2_3 := ho.2.2
  have h_0_2 := own_lt_trans h_0_1 h_1_2
  have h_1_3 := own_lt_trans h_1_2 h_2_3
  have h_0_3 := own_lt_trans h_0_2 h_2_3
  refine is_of f2_in fun go hgo => ?_
  refine t2_0 hgo rfl ?_
  refine res_of (u2_1 hgo) ?_
  simp only [eq_self, and_self, true_and, and_true, not_true_eq_false, not_false_eq_true, if_true, if_false, reduceIte, Option.bind_some, List.getElem?_cons_zero, List.getElem?_cons_succ, Nat.reduceAdd, Nat.reduceSub, Nat.reduceLT, Nat.reduceLeDiff, Nat.le_refl, Nat.zero_add, Nat.add_zero, List.length_cons, List.length_nil, Int32.reduceLT, Int32.reduceToNatClampNeg, Int32.reduceAdd, Int32.reduceSub, Int32.reduceMul, decide_true, pR_ref, arr, ln0, ln1, ln2, ln3, ln4, ln5, ln6, ln7, ln8, ln9, ln10, ln11, ln12, ln13, ln14, ln15, ln16, ln17, ln18, ln19, ln20, ln21, ln22, ln23, ln24, ln25, ln26, ln27, ln28, ln29, ln30, ln31, ln32, ln33, ln34, ln35, ln36]
  refine t2_2 hgo rfl ?_
  refine res_of (u2_3 hgo) ?_
  simp only [eq_self, and_self, true_and, and_true, not_true_eq_false, not_false_eq_true, if_true, if_false, reduceIte, Option.bind_some, List.getElem?_cons_zero, List.getElem?_cons_succ, Nat.reduceAdd, Nat.reduceSub, Nat.reduceLT, Nat.reduceLeDiff, Nat.le_refl, Nat.zero_add, Nat.add_zero, List.length_cons, List.length_nil, Int32.reduceLT, Int32.reduceToNatClampNeg, Int32.reduceAdd, Int32.reduceSub, Int32.reduceMul, decide_true, pR_ref, arr, ln0, ln1, ln2, ln3, ln4, ln5, ln6, ln7, ln8, ln9, ln10, ln11, ln12, ln13, ln14, ln15, ln16, ln17, ln18, ln19, ln20, ln21, ln22, ln23, ln24, ln25, ln26, ln27, ln28, ln29, ln30, ln31, ln32, ln33, ln34, ln35, ln36]
  refine t2_4 hgo ?_
  refine res_of (u2_5 hgo) ?_
  simp only [eq_self, and_self, true_and, and_true, not_true_eq_false, not_false_eq_true, if_true, if_false, reduceIte, Option.bind_some, List.getElem?_cons_zero, List.getElem?_cons_succ, Nat.reduceAdd, Nat.reduceSub, Nat.reduceLT, Nat.reduceLeDiff, Nat.le_refl, Nat.zero_add, Nat.add_zero, List.length_cons, List.length_nil, Int32.reduceLT, Int32.reduceToNatClampNeg, Int32.reduceAdd, Int32.reduceSub, Int32.reduceMul, decide_true, aArr, List.nil_append, List.cons_append, List.replicate_zero, List.replicate_succ, defaultValue]
  refine t2_7 hgo rfl rfl ?_
  refine t2_8 hgo ?_
  refine t2_9 hgo rfl ?_
  refine t2_10 hgo ?_
  refine t2_11 hgo rfl ?_
  refine t2_13 hgo ?_
  refine t2_14 hgo rfl ?_
  refine tB1 hgo (xn := 0) (xl := 0) (yn := 1) (yl := 1) (zn := 1) (zl := 1) rfl rfl rfl rfl rfl rfl (by decide) (by decide) (by decide) (by decide) (by decide) (by decide) rfl ?_
  simp only [Int32.reduceAdd, Int32.reduceToNatClampNeg, List.set_cons_zero, List.set_cons_succ]
  refine t2_16 hgo ?_
  refine t2_18 hgo rfl ?_
  refine res_of (u2_19 hgo) ?_
  simp only [eq_self, and_self, true_and, and_true, not_true_eq_false, not_false_eq_true, if_true, if_false, reduceIte, Option.bind_some, List.getElem?_cons_zero, List.getElem?_cons_succ, Nat.reduceAdd, Nat.reduceSub, Nat.reduceLT, Nat.reduceLeDiff, Nat.le_refl, Nat.zero_add, Nat.add_zero, List.length_cons, List.length_nil, Int32.reduceLT, Int32.reduceToNatClampNeg, Int32.reduceAdd, Int32.reduceSub, Int32.reduceMul, decide_true, pR_ref, arr, ln0, ln1, ln2, ln3, ln4, ln5, ln6, ln7, ln8, ln9, ln10, ln11, ln12, ln13, ln14, ln15, ln16, ln17, ln18, ln19, ln20, ln21, ln22, ln23, ln24, ln25, ln26, ln27, ln28, ln29, ln30, ln31, ln32, ln33, ln34, ln35, ln36]
  refine t2_20f hgo (by decide) ?_
  refine t2_76 hgo rfl ?_
  refine t2_77 hgo rfl ?_
  exact is_r
set_option maxRecDepth 65536 in
set_option maxHeartbeats 4000000 in
theorem mg_1_1 {w0 w1 w2 w3 : Int32} (ho : w0 < w1 ∧ w1 < w2 ∧ w2 < w3) : F2 [.ref 0, .ref 1] [.inr (.int, [.int w0]), .inr (.int, [])] = some (some (.ref 2), [.inr (.int, [.int w0]), .inr (.int, []), .inr (.int, [.int w0])]) := by
  have h_0_1 := ho.1
  have h_1_2 := ho.2.1
  have h_2_3 := ho.2.2
  have h_0_2 := own_lt_trans h_0_1 h_1_2
  have h_1_3 := own_lt_trans h_1_2 h_2_3
  have h_0_3 := own_lt_trans h_0_2 h_2_3
  refine is_of f2_in fun go hgo => ?_
  refine t2_0 hgo rfl ?_
  refine res_of (u2_1 hgo) ?_
  simp only [eq_self, and_self, true_and, and_true, not_true_eq_false, not_false_eq_true, if_true, if_false, reduceIte, Option.bind_some, List.getElem?_cons_zero, List.getElem?_cons_succ, Nat.reduceAdd, Nat.reduceSub, Nat.reduceLT, Nat.reduceLeDiff, Nat.le_refl, Nat.zero_add, Nat.add_zero, List.length_cons, List.length_nil, Int32.reduceLT, Int32.reduceToNatClampNeg, Int32.reduceAdd, Int32.reduceSub, Int32.reduceMul, decide_true, pR_ref, arr, ln0, ln1, ln2, ln3, ln4, ln5, ln6, ln7, ln8, ln9, ln10, ln11, ln12, ln13, ln14, ln15, ln16, ln17, ln18, ln19, ln20, ln21, ln22, ln23, ln24, ln25, ln26, ln27, ln28, ln29, ln30, ln31, ln32, ln33, ln34, ln35, ln36]
  refine t2_2 hgo rfl ?_
  refine res_of (u2_3 hgo) ?_
  simp only [eq_self, and_self, true_and, and_true, not_true_eq_false, not_false_eq_true, if_true, if_false, reduceIte, Option.bind_some, List.getElem?_cons_zero, List.getElem?_cons_succ, Nat.reduceAdd, Nat.reduceSub, Nat.reduceLT, Nat.reduceLeDiff, Nat.le_refl, Nat.zero_add, Nat.add_zero, List.length_cons, List.length_nil, Int32.reduceLT, Int32.reduceToNatClampNeg, Int32.reduceAdd, Int32.reduceSub, Int32.reduceMul, decide_true, pR_ref, arr, ln0, ln1, ln2, ln3, ln4, ln5, ln6, ln7, ln8, ln9, ln10, ln11, ln12, ln13, ln14, ln15, ln16, ln17, ln18, ln19, ln20, ln21, ln22, ln23, ln24, ln25, ln26, ln27, ln28, ln29, ln30, ln31, ln32, ln33, ln34, ln35, ln36]
  refine t2_4 hgo ?_
  refine res_of (u2_5 hgo) ?_
  simp only [eq_self, and_self, true_and, and_true, not_true_eq_false, not_false_eq_true, if_true, if_false, reduceIte, Option.bind_some, List.getElem?_cons_zero, List.getElem?_cons_succ, Nat.reduceAdd, Nat.reduceSub, Nat.reduceLT, Nat.reduceLeDiff, Nat.le_refl, Nat.zero_add, Nat.add_zero, List.length_cons, List.length_nil, Int32.reduceLT, Int32.reduceToNatClampNeg, Int32.reduceAdd, Int32.reduceSub, Int32.reduceMul, decide_true, aArr, List.nil_append, List.cons_append, List.replicate_zero, List.replicate_succ, defaultValue]
  refine t2_7 hgo rfl rfl ?_
  refine t2_8 hgo ?_
  refine t2_9 hgo rfl ?_
  refine t2_10 hgo ?_
  refine t2_11 hgo rfl ?_
  refine t2_13 hgo ?_
  refine t2_14 hgo rfl ?_
  refine tA1 hgo (xn := 1) (xl := 1) (yn := 0) (yl := 0) (zn := 1) (zl := 1) rfl rfl rfl rfl rfl rfl (by decide) (by decide) (by decide) rfl (by decide) rfl ?_
  simp only [Int32.reduceAdd, Int32.reduceToNatClampNeg, List.set_cons_zero, List.set_cons_succ]
  refine t2_16 hgo ?_
  refine t2_18 hgo rfl ?_
  refine res_of (u2_19 hgo) ?_
  simp only [eq_self, and_self, true_and, and_true, not_true_eq_false, not_false_eq_true, if_true, if_false, reduceIte, Option.bind_some, List.getElem?_cons_zero, List.getElem?_cons_succ, Nat.reduceAdd, Nat.reduceSub, Nat.reduceLT, Nat.reduceLeDiff, Nat.le_refl, Nat.zero_add, Nat.add_zero, List.length_cons, List.length_nil, Int32.reduceLT, Int32.reduceToNatClampNeg, Int32.reduceAdd, Int32.reduceSub, Int32.reduceMul, decide_true, pR_ref, arr, ln0, ln1, ln2, ln3, ln4, ln5, ln6, ln7, ln8, ln9, ln10, ln11, ln12, ln13, ln14, ln15, ln16, ln17, ln18, ln19, ln20, ln21, ln22, ln23, ln24, ln25, ln26, ln27, ln28, ln29, ln30, ln31, ln32, ln33, ln34, ln35, ln36]
  refine t2_20f hgo (by decide) ?_
  refine t2_76 hgo rfl ?_
  refine t2_77 hgo rfl ?_
  exact is_r
set_option maxRecDepth 65536 in
set_option maxHeartbeats 4000000 in
theorem mg_2_0 {w0 w1 w2 w3 : Int32} (ho : w0 < w1 ∧ w1 < w2 ∧ w2 < w3) : F2 [.ref 0, .ref 1] [.inr (.int, []), .inr (.int, [.int w0, .int w1])] = some (some (.ref 2), [.inr (.int, []), .inr (.int, [.int w0, .int w1]), .inr (.int, [.int w0, .int w1])]) := by
  have h_0_1 := ho.1
  have h_1_2 := ho.2.1
  have h_2_3 := ho.2.2
  have h_0_2 := own_lt_trans h_0_1 h_1_2
  have h_1_3 := own_lt_trans h_1_2 h_2_3
  have h_0_3 := own_lt_trans h_0_2 h_2_3
  refine is_of f2_in fun go hgo => ?_
  refine t2_0 hgo rfl ?_
  refine res_of (u2_1 hgo) ?_
  simp only [eq_self, and_self, true_and, and_true, not_true_eq_false, not_false_eq_true, if_true, if_false, reduceIte, Option.bind_some, List.getElem?_cons_zero, List.getElem?_cons_succ, Nat.reduceAdd, Nat.reduceSub, Nat.reduceLT, Nat.reduceLeDiff, Nat.le_refl, Nat.zero_add, Nat.add_zero, List.length_cons, List.length_nil, Int32.reduceLT, Int32.reduceToNatClampNeg, Int32.reduceAdd, Int32.reduceSub, Int32.reduceMul, decide_true, pR_ref, arr, ln0, ln1, ln2, ln3, ln4, ln5, ln6, ln7, ln8, ln9, ln10, ln11, ln12, ln13, ln14, ln15, ln16, ln17, ln18, ln19, ln20, ln21, ln22, ln23, ln24, ln25, ln26, ln27, ln28, ln29, ln30, ln31, ln32, ln33, ln34, ln35, ln36]
  refine t2_2 hgo rfl ?_
  refine res_of (u2_3 hgo) ?_
  simp only [eq_self, and_self, true_and, and_true, not_true_eq_false, not_false_eq_true, if_true, if_false, reduceIte, Option.bind_some, List.getElem?_cons_zero, List.getElem?_cons_succ, Nat.reduceAdd, Nat.reduceSub, Nat.reduceLT, Nat.reduceLeDiff, Nat.le_refl, Nat.zero_add, Nat.add_zero, List.length_cons, List.length_nil, Int32.reduceLT, Int32.reduceToNatClampNeg, Int32.reduceAdd, Int32.reduceSub, Int32.reduceMul, decide_true, pR_ref, arr, ln0, ln1, ln2, ln3, ln4, ln5, ln6, ln7, ln8, ln9, ln10, ln11, ln12, ln13, ln14, ln15, ln16, ln17, ln18, ln19, ln20, ln21, ln22, ln23, ln24, ln25, ln26, ln27, ln28, ln29, ln30, ln31, ln32, ln33, ln34, ln35, ln36]
  refine t2_4 hgo ?_
  refine res_of (u2_5 hgo) ?_
  simp only [eq_self, and_self, true_and, and_true, not_true_eq_false, not_false_eq_true, if_true, if_false, reduceIte, Option.bind_some, List.getElem?_cons_zero, List.getElem?_cons_succ, Nat.reduceAdd, Nat.reduceSub, Nat.reduceLT, Nat.reduceLeDiff, Nat.le_refl, Nat.zero_add, Nat.add_zero, List.length_cons, List.length_nil, Int32.reduceLT, Int32.reduceToNatClampNeg, Int32.reduceAdd, Int32.reduceSub, Int32.reduceMul, decide_true, aArr, List.nil_append, List.cons_append, List.replicate_zero, List.replicate_succ, defaultValue]
  refine t2_7 hgo rfl rfl ?_
  refine t2_8 hgo ?_
  refine t2_9 hgo rfl ?_
  refine t2_10 hgo ?_
  refine t2_11 hgo rfl ?_
  refine t2_13 hgo ?_
  refine t2_14 hgo rfl ?_
  refine tB1 hgo (xn := 0) (xl := 0) (yn := 2) (yl := 2) (zn := 2) (zl := 2) rfl rfl rfl rfl rfl rfl (by decide) (by decide) (by decide) (by decide) (by decide) (by decide) rfl ?_
  simp only [Int32.reduceAdd, Int32.reduceToNatClampNeg, List.set_cons_zero, List.set_cons_succ]
  refine tB1 hgo (xn := 0) (xl := 0) (yn := 2) (yl := 2) (zn := 2) (zl := 2) rfl rfl rfl rfl rfl rfl (by decide) (by decide) (by decide) (by decide) (by decide) (by decide) rfl ?_
  simp only [Int32.reduceAdd, Int32.reduceToNatClampNeg, List.set_cons_zero, List.set_cons_succ]
  refine t2_16 hgo ?_
  refine t2_18 hgo rfl ?_
  refine res_of (u2_19 hgo) ?_
  simp only [eq_self, and_self, true_and, and_true, not_true_eq_false, not_false_eq_true, if_true, if_false, reduceIte, Option.bind_some, List.getElem?_cons_zero, List.getElem?_cons_succ, Nat.reduceAdd, Nat.reduceSub, Nat.reduceLT, Nat.reduceLeDiff, Nat.le_refl, Nat.zero_add, Nat.add_zero, List.length_cons, List.length_nil, Int32.reduceLT, Int32.reduceToNatClampNeg, Int32.reduceAdd, Int32.reduceSub, Int32.reduceMul, decide_true, pR_ref, arr, ln0, ln1, ln2, ln3, ln4, ln5, ln6, ln7, ln8, ln9, ln10, ln11, ln12, ln13, ln14, ln15, ln16, ln17, ln18, ln19, ln20, ln21, ln22, ln23, ln24, ln25, ln26, ln27, ln28, ln29, ln30, ln31, ln32, ln33, ln34, ln35, ln36]
  refine t2_20f hgo (by decide) ?_
  refine t2_76 hgo rfl ?_
  refine t2_77 hgo rfl ?_
  exact is_r
set_option maxRecDepth 65536 in
set_option maxHeartbeats 4000000 in
theorem mg_2_1 {w0 w1 w2 w3 : Int32} (ho : w0 < w1 ∧ w1 < w2 ∧ w2 < w3) : F2 [.ref 0, .ref 1] [.inr (.int, [.int w0]), .inr (.int, [.int w1])] = some (some (.ref 2), [.inr (.int, [.int w0]), .inr (.int, [.int w1]), .inr (.int, [.int w0, .int w1])]) := by
  have h_0_1 := ho.1
  have h_1_2 := ho.2.1
  have h_2_3 := ho.2.2
  have h_0_2 := own_lt_trans h_0_1 h_1_2
  have h_1_3 := own_lt_trans h_1_2 h_2_3
  have h_0_3 := own_lt_trans h_0_2 h_2_3
  refine is_of f2_in fun go hgo => ?_
  refine t2_0 hgo rfl ?_
  refine res_of (u2_1 hgo) ?_
  simp only [eq_self, and_self, true_and, and_true, not_true_eq_false, not_false_eq_true, if_true, if_false, reduceIte, Option.bind_some, List.getElem?_cons_zero, List.getElem?_cons_succ, Nat.reduceAdd, Nat.reduceSub, Nat.reduceLT, Nat.reduceLeDiff, Nat.le_refl, Nat.zero_add, Nat.add_zero, List.length_cons, List.length_nil, Int32.reduceLT, Int32.reduceToNatClampNeg, Int32.reduceAdd, Int32.reduceSub, Int32.reduceMul, decide_true, pR_ref, arr, ln0, ln1, ln2, ln3, ln4, ln5, ln6, ln7, ln8, ln9, ln10, ln11, ln12, ln13, ln14, ln15, ln16, ln17, ln18, ln19, ln20, ln21, ln22, ln23, ln24, ln25, ln26, ln27, ln28, ln29, ln30, ln31, ln32, ln33, ln34, ln35, ln36]
  refine t2_2 hgo rfl ?_
  refine res_of (u2_3 hgo) ?_
  simp only [eq_self, and_self, true_and, and_true, not_true_eq_false, not_false_eq_true, if_true, if_false, reduceIte, Option.bind_some, List.getElem?_cons_zero, List.getElem?_cons_succ, Nat.reduceAdd, Nat.reduceSub, Nat.reduceLT, Nat.reduceLeDiff, Nat.le_refl, Nat.zero_add, Nat.add_zero, List.length_cons, List.length_nil, Int32.reduceLT, Int32.reduceToNatClampNeg, Int32.reduceAdd, Int32.reduceSub, Int32.reduceMul, decide_true, pR_ref, arr, ln0, ln1, ln2, ln3, ln4, ln5, ln6, ln7, ln8, ln9, ln10, ln11, ln12, ln13, ln14, ln15, ln16, ln17, ln18, ln19, ln20, ln21, ln22, ln23, ln24, ln25, ln26, ln27, ln28, ln29, ln30, ln31, ln32, ln33, ln34, ln35, ln36]
  refine t2_4 hgo ?_
  refine res_of (u2_5 hgo) ?_
  simp only [eq_self, and_self, true_and, and_true, not_true_eq_false, not_false_eq_true, if_true, if_false, reduceIte, Option.bind_some, List.getElem?_cons_zero, List.getElem?_cons_succ, Nat.reduceAdd, Nat.reduceSub, Nat.reduceLT, Nat.reduceLeDiff, Nat.le_refl, Nat.zero_add, Nat.add_zero, List.length_cons, List.length_nil, Int32.reduceLT, Int32.reduceToNatClampNeg, Int32.reduceAdd, Int32.reduceSub, Int32.reduceMul, decide_true, aArr, List.nil_append, List.cons_append, List.replicate_zero, List.replicate_succ, defaultValue]
  refine t2_7 hgo rfl rfl ?_
  refine t2_8 hgo ?_
  refine t2_9 hgo rfl ?_
  refine t2_10 hgo ?_
  refine t2_11 hgo rfl ?_
  refine t2_13 hgo ?_
  refine t2_14 hgo rfl ?_
  refine tA2 hgo (xn := 1) (xl := 1) (yn := 1) (yl := 1) (zn := 2) (zl := 2) rfl rfl rfl rfl rfl rfl (by decide) (by decide) (by decide) (by decide) (by decide) (by decide) rfl (by decide) rfl h_0_1 ?_
  simp only [Int32.reduceAdd, Int32.reduceToNatClampNeg, List.set_cons_zero, List.set_cons_succ]
  refine tB1 hgo (xn := 1) (xl := 1) (yn := 1) (yl := 1) (zn := 2) (zl := 2) rfl rfl rfl rfl rfl rfl (by decide) (by decide) (by decide) (by decide) (by decide) (by decide) rfl ?_
  simp only [Int32.reduceAdd, Int32.reduceToNatClampNeg, List.set_cons_zero, List.set_cons_succ]
  refine t2_16 hgo ?_
  refine t2_18 hgo rfl ?_
  refine res_of (u2_19 hgo) ?_
  simp only [eq_self, and_self, true_and, and_true, not_true_eq_false, not_false_eq_true, if_true, if_false, reduceIte, Option.bind_some, List.getElem?_cons_zero, List.getElem?_cons_succ, Nat.reduceAdd, Nat.reduceSub, Nat.reduceLT, Nat.reduceLeDiff, Nat.le_refl, Nat.zero_add, Nat.add_zero, List.length_cons, List.length_nil, Int32.reduceLT, Int32.reduceToNatClampNeg, Int32.reduceAdd, Int32.reduceSub, Int32.reduceMul, decide_true, pR_ref, arr, ln0, ln1, ln2, ln3, ln4, ln5, ln6, ln7, ln8, ln9, ln10, ln11, ln12, ln13, ln14, ln15, ln16, ln17, ln18, ln19, ln20, ln21, ln22, ln23, ln24, ln25, ln26, ln27, ln28, ln29, ln30, ln31, ln32, ln33, ln34, ln35, ln36]
  refine t2_20f hgo (by decide) ?_
  refine t2_76 hgo rfl ?_
  refine t2_77 hgo rfl ?_
  exact is_r
set_option maxRecDepth 65536 in
set_option maxHeartbeats 4000000 in
theorem mg_2_2 {w0 w1 w2 w3 : Int32} (ho : w0 < w1 ∧ w1 < w2 ∧ w2 < w3) : F2 [.ref 0, .ref 1] [.inr (.int, [.int w1]), .inr (.int, [.int w0])] = some (some (.ref 2), [.inr (.int, [.int w1]), .inr (.int, [.int w0]), .inr (.int, [.int w0, .int w1])]) := by
  have h_0_1 := ho.1
  have h_1_2 := ho.2.1
  have h_2_3 := ho.2.2
  have h_0_2 := own_lt_trans h_0_1 h_1_2
  have h_1_3 := own_lt_trans h_1_2 h_2_3
  have h_0_3 := own_lt_trans h_0_2 h_2_3
  refine is_of f2_in fun go hgo => ?_
  refine t2_0 hgo rfl ?_
  refine res_of (u2_1 hgo) ?_
  simp only [eq_self, and_self, true_and, and_true, not_true_eq_false, not_false_eq_true, if_true, if_false, reduceIte, Option.bind_some, List.getElem?_cons_zero, List.getElem?_cons_succ, Nat.reduceAdd, Nat.reduceSub, Nat.reduceLT, Nat.reduceLeDiff, Nat.le_refl, Nat.zero_add, Nat.add_zero, List.length_cons, List.length_nil, Int32.reduceLT, Int32.reduceToNatClampNeg, Int32.reduceAdd, Int32.reduceSub, Int32.reduceMul, decide_true, pR_ref, arr, ln0, ln1, ln2, ln3, ln4, ln5, ln6, ln7, ln8, ln9, ln10, ln11, ln12, ln13, ln14, ln15, ln16, ln17, ln18, ln19, ln20, ln21, ln22, ln23, ln24, ln25, ln26, ln27, ln28, ln29, ln30, ln31, ln32, ln33, ln34, ln35, ln36]
  refine t2_2 hgo rfl ?_
  refine res_of (u2_3 hgo) ?_
  simp only [eq_self, and_self, true_and, and_true, not_true_eq_false, not_false_eq_true, if_true, if_false, reduceIte, Option.bind_some, List.getElem?_cons_zero, List.getElem?_cons_succ, Nat.reduceAdd, Nat.reduceSub, Nat.reduceLT, Nat.reduceLeDiff, Nat.le_refl, Nat.zero_add, Nat.add_zero, List.length_cons, List.length_nil, Int32.reduceLT, Int32.reduceToNatClampNeg, Int32.reduceAdd, Int32.reduceSub, Int32.reduceMul, decide_true, pR_ref, arr, ln0, ln1, ln2, ln3, ln4, ln5, ln6, ln7, ln8, ln9, ln10, ln11, ln12, ln13, ln14, ln15, ln16, ln17, ln18, ln19, ln20, ln21, ln22, ln23, ln24, ln25, ln26, ln27, ln28, ln29, ln30, ln31, ln32, ln33, ln34, ln35, ln36]
  refine t2_4 hgo ?_
  refine res_of (u2_5 hgo) ?_
  simp only [eq_self, and_self, true_and, and_true, not_true_eq_false, not_false_eq_true, if_true, if_false, reduceIte, Option.bind_some, List.getElem?_cons_zero, List.getElem?_cons_succ, Nat.reduceAdd, Nat.reduceSub, Nat.reduceLT, Nat.reduceLeDiff, Nat.le_refl, Nat.zero_add, Nat.add_zero, List.length_cons, List.length_nil, Int32.reduceLT, Int32.reduceToNatClampNeg, Int32.reduceAdd, Int32.reduceSub, Int32.reduceMul, decide_true, aArr, List.nil_append, List.cons_append, List.replicate_zero, List.replicate_succ, defaultValue]
  refine t2_7 hgo rfl rfl ?_
  refine t2_8 hgo ?_
  refine t2_9 hgo rfl ?_
  refine t2_10 hgo ?_
  refine t2_11 hgo rfl ?_
  refine t2_13 hgo ?_
  refine t2_14 hgo rfl ?_
  refine tB2 hgo (xn := 1) (xl := 1) (yn := 1) (yl := 1) (zn := 2) (zl := 2) rfl rfl rfl rfl rfl rfl (by decide) (by decide) (by decide) (by decide) (by decide) (by decide) rfl (by decide) rfl (own_asym h_0_1) ?_
  simp only [Int32.reduceAdd, Int32.reduceToNatClampNeg, List.set_cons_zero, List.set_cons_succ]
  refine tA1 hgo (xn := 1) (xl := 1) (yn := 1) (yl := 1) (zn := 2) (zl := 2) rfl rfl rfl rfl rfl rfl (by decide) (by decide) (by decide) rfl (by decide) rfl ?_
  simp only [Int32.reduceAdd, Int32.reduceToNatClampNeg, List.set_cons_zero, List.set_cons_succ]
  refine t2_16 hgo ?_
  refine t2_18 hgo rfl ?_
  refine res_of (u2_19 hgo) ?_
  simp only [eq_self, and_self, true_and, and_true, not_true_eq_false, not_false_eq_true, if_true, if_false, reduceIte, Option.bind_some, List.getElem?_cons_zero, List.getElem?_cons_succ, Nat.reduceAdd, Nat.reduceSub, Nat.reduceLT, Nat.reduceLeDiff, Nat.le_refl, Nat.zero_add, Nat.add_zero, List.length_cons, List.length_nil, Int32.reduceLT, Int32.reduceToNatClampNeg, Int32.reduceAdd, Int32.reduceSub, Int32.reduceMul, decide_true, pR_ref, arr, ln0, ln1, ln2, ln3, ln4, ln5, ln6, ln7, ln8, ln9, ln10, ln11, ln12, ln13, ln14, ln15, ln16, ln17, ln18, ln19, ln20, ln21, ln22, ln23, ln24, ln25, ln26, ln27, ln28, ln29, ln30, ln31, ln32, ln33, ln34, ln35, ln36]
  refine t2_20f hgo (by decide) ?_
  refine t2_76 hgo rfl ?_
  refine t2_77 hgo rfl ?_
  exact is_r
set_option maxRecDepth 65536 in
set_option maxHeartbeats 4000000 in
theorem mg_2_3 {w0 w1 w2 w3 : Int32} (ho : w0 < w1 ∧ w1 < w2 ∧ w2 < w3) : F2 [.ref 0, .ref 1] [.inr (.int, [.int w0, .int w1]), .inr (.int, [])] = some (some (.ref 2), [.inr (.int, [.int w0, .int w1]), .inr (.int, []), .inr (.int, [.int w0, .int w1])]) := by
  have h_0_1 := ho.1
  have h_1_2 := ho.2.1
  have h_2_3 := ho.2.2
  have h_0_2 := own_lt_trans h_0_1 h_1_2
  have h_1_3 := own_lt_trans h_1_2 h_2_3
  have h_0_3 := own_lt_trans h_0_2 h_2_3
  refine is_of f2_in fun go hgo => ?_
  refine t2_0 hgo rfl ?_
  refine res_of (u2_1 hgo) ?_
  simp only [eq_self, and_self, true_and, and_true, not_true_eq_false, not_false_eq_true, if_true, if_false, reduceIte, Option.bind_some, List.getElem?_cons_zero, List.getElem?_cons_succ, Nat.reduceAdd, Nat.reduceSub, Nat.reduceLT, Nat.reduceLeDiff, Nat.le_refl, Nat.zero_add, Nat.add_zero, List.length_cons, List.length_nil, Int32.reduceLT, Int32.reduceToNatClampNeg, Int32.reduceAdd, Int32.reduceSub, Int32.reduceMul, decide_true, pR_ref, arr, ln0, ln1, ln2, ln3, ln4, ln5, ln6, ln7, ln8, ln9, ln10, ln11, ln12, ln13, ln14, ln15, ln16, ln17, ln18, ln19, ln20, ln21, ln22, ln23, ln24, ln25, ln26, ln27, ln28, ln29, ln30, ln31, ln32, ln33, ln34, ln35, ln36]
  refine t2_2 hgo rfl ?_
  refine res_of (u2_3 hgo) ?_
  simp only [eq_self, and_self, true_and, and_true, not_true_eq_false, not_false_eq_true, if_true, if_false, reduceIte, Option.bind_some, List.getElem?_cons_zero, List.getElem?_cons_succ, Nat.reduceAdd, Nat.reduceSub, Nat.reduceLT, Nat.reduceLeDiff, Nat.le_refl, Nat.zero_add, Nat.add_zero, List.length_cons, List.length_nil, Int32.reduceLT, Int32.reduceToNatClampNeg, Int32.reduceAdd, Int32.reduceSub, Int32.reduceMul, decide_true, pR_ref, arr, ln0, ln1, ln2, ln3, ln4, ln5, ln6, ln7, ln8, ln9, ln10, ln11, ln12, ln13, ln14, ln15, ln16, ln17, ln18, ln19, ln20, ln21, ln22, ln23, ln24, ln25, ln26, ln27, ln28, ln29, ln30, ln31, ln32, ln33, ln34, ln35, ln36]
  refine t2_4 hgo ?_
  refine res_of (u2_5 hgo) ?_
  simp only [eq_self, and_self, true_and, and_true, not_true_eq_false, not_false_eq_true, if_true, if_false, reduceIte, Option.bind_some, List.getElem?_cons_zero, List.getElem?_cons_succ, Nat.reduceAdd, Nat.reduceSub, Nat.reduceLT, Nat.reduceLeDiff, Nat.le_refl, Nat.zero_add, Nat.add_zero, List.length_cons, List.length_nil, Int32.reduceLT, Int32.reduceToNatClampNeg, Int32.reduceAdd, Int32.reduceSub, Int32.reduceMul, decide_true, aArr, List.nil_append, List.cons_append, List.replicate_zero, List.replicate_succ, defaultValue]
  refine t2_7 hgo rfl rfl ?_
  refine t2_8 hgo ?_
  refine t2_9 hgo rfl ?_
  refine t2_10 hgo ?_
  refine t2_11 hgo rfl ?_
  refine t2_13 hgo ?_
  refine t2_14 hgo rfl ?_
  refine tA1 hgo (xn := 2) (xl := 2) (yn := 0) (yl := 0) (zn := 2) (zl := 2) rfl rfl rfl rfl rfl rfl (by decide) (by decide) (by decide) rfl (by decide) rfl ?_
  simp only [Int32.reduceAdd, Int32.reduceToNatClampNeg, List.set_cons_zero, List.set_cons_succ]
  refine tA1 hgo (xn := 2) (xl := 2) (yn := 0) (yl := 0) (zn := 2) (zl := 2) rfl rfl rfl rfl rfl rfl (by decide) (by decide) (by decide) rfl (by decide) rfl ?_
  simp only [Int32.reduceAdd, Int32.reduceToNatClampNeg, List.set_cons_zero, List.set_cons_succ]
  refine t2_16 hgo ?_
  refine t2_18 hgo rfl ?_
  refine res_of (u2_19 hgo) ?_
  simp only [eq_self, and_self, true_and, and_true, not_true_eq_false, not_false_eq_true, if_true, if_false, reduceIte, Option.bind_some, List.getElem?_cons_zero, List.getElem?_cons_succ, Nat.reduceAdd, Nat.reduceSub, Nat.reduceLT, Nat.reduceLeDiff, Nat.le_refl, Nat.zero_add, Nat.add_zero, List.length_cons, List.length_nil, Int32.reduceLT, Int32.reduceToNatClampNeg, Int32.reduceAdd, Int32.reduceSub, Int32.reduceMul, decide_true, pR_ref, arr, ln0, ln1, ln2, ln3, ln4, ln5, ln6, ln7, ln8, ln9, ln10, ln11, ln12, ln13, ln14, ln15, ln16, ln17, ln18, ln19, ln20, ln21, ln22, ln23, ln24, ln25, ln26, ln27, ln28, ln29, ln30, ln31, ln32, ln33, ln34, ln35, ln36]
  refine t2_20f hgo (by decide) ?_
  refine t2_76 hgo rfl ?_
  refine t2_77 hgo rfl ?_
  exact is_r
set_option maxRecDepth 65536 in
set_option maxHeartbeats 4000000 in
theorem mg_3_0 {w0 w1 w2 w3 : Int32} (ho : w0 < w1 ∧ w1 < w2 ∧ w2 < w3) : F2 [.ref 0, .ref 1] [.inr (.int, []), .inr (.int, [.int w0, .int w1, .int w2])] = some (some (.ref 2), [.inr (.int, []), .inr (.int, [.int w0, .int w1, .int w2]), .inr (.int, [.int w0, .int w1, .int w2])]) := by
  have h_0_1 := ho.1
  have h_1_2 := ho.2.1
  have h_2_3 := ho.2.2
  have h_0_2 := own_lt_trans h_0_1 h_1_2
  have h_1_3 := own_lt_trans h_1_2 h_2_3
  have h_0_3 := own_lt_trans h_0_2 h_2_3
  refine is_of f2_in fun go hgo => ?_
  refine t2_0 hgo rfl ?_
  refine res_of (u2_1 hgo) ?_
  simp only [eq_self, and_self, true_and, and_true, not_true_eq_false, not_false_eq_true, if_true, if_false, reduceIte, Option.bind_some, List.getElem?_cons_zero, List.getElem?_cons_succ, Nat.reduceAdd, Nat.reduceSub, Nat.reduceLT, Nat.reduceLeDiff, Nat.le_refl, Nat.zero_add, Nat.add_zero, List.length_cons, List.length_nil, Int32.reduceLT, Int32.reduceToNatClampNeg, Int32.reduceAdd, Int32.reduceSub, Int32.reduceMul, decide_true, pR_ref, arr, ln0, ln1, ln2, ln3, ln4, ln5, ln6, ln7, ln8, ln9, ln10, ln11, ln12, ln13, ln14, ln15, ln16, ln17, ln18, ln19, ln20, ln21, ln22, ln23, ln24, ln25, ln26, ln27, ln28, ln29, ln30, ln31, ln32, ln33, ln34, ln35, ln36]
  refine t2_2 hgo rfl ?_
  refine res_of (u2_3 hgo) ?_
  simp only [eq_self, and_self, true_and, and_true, not_true_eq_false, not_false_eq_true, if_true, if_false, reduceIte, Option.bind_some, List.getElem?_cons_zero, List.getElem?_cons_succ, Nat.reduceAdd, Nat.reduceSub, Nat.reduceLT, Nat.reduceLeDiff, Nat.le_refl, Nat.zero_add, Nat.add_zero, List.length_cons, List.length_nil, Int32.reduceLT, Int32.reduceToNatClampNeg, Int32.reduceAdd, Int32.reduceSub, Int32.reduceMul, decide_true, pR_ref, arr, ln0, ln1, ln2, ln3, ln4, ln5, ln6, ln7, ln8, ln9, ln10, ln11, ln12, ln13, ln14, ln15, ln16, ln17, ln18, ln19, ln20, ln21, ln22, ln23, ln24, ln25, ln26, ln27, ln28, ln29, ln30, ln31, ln32, ln33, ln34, ln35, ln36]
  refine t2_4 hgo ?_
  refine res_of (u2_5 hgo) ?_
  simp only [eq_self, and_self, true_and, and_true, not_true_eq_false, not_false_eq_true, if_true, if_false, reduceIte, Option.bind_some, List.getElem?_cons_zero, List.getElem?_cons_succ, Nat.reduceAdd, Nat.reduceSub, Nat.reduceLT, Nat.reduceLeDiff, Nat.le_refl, Nat.zero_add, Nat.add_zero, List.length_cons, List.length_nil, Int32.reduceLT, Int32.reduceToNatClampNeg, Int32.reduceAdd, Int32.reduceSub, Int32.reduceMul, decide_true, aArr, List.nil_append, List.cons_append, List.replicate_zero, List.replicate_succ, defaultValue]
  refine t2_7 hgo rfl rfl ?_
  refine t2_8 hgo ?_
  refine t2_9 hgo rfl ?_
  refine t2_10 hgo ?_
  refine t2_11 hgo rfl ?_
  refine t2_13 hgo ?_
  refine t2_14 hgo rfl ?_
  refine tB1 hgo (xn := 0) (xl := 0) (yn := 3) (yl := 3) (zn := 3) (zl := 3) rfl rfl rfl rfl rfl rfl (by decide) (by decide) (by decide) (by decide) (by decide) (by decide) rfl ?_
  simp only [Int32.reduceAdd, Int32.reduceToNatClampNeg, List.set_cons_zero, List.set_cons_succ]
  refine tB1 hgo (xn := 0) (xl := 0) (yn := 3) (yl := 3) (zn := 3) (zl := 3) rfl rfl rfl rfl rfl rfl (by decide) (by decide) (by decide) (by decide) (by decide) (by decide) rfl ?_
  simp only [Int32.reduceAdd, Int32.reduceToNatClampNeg, List.set_cons_zero, List.set_cons_succ]
  refine tB1 hgo (xn := 0) (xl := 0) (yn := 3) (yl := 3) (zn := 3) (zl := 3) rfl rfl rfl rfl rfl rfl (by decide) (by decide) (by decide) (by decide) (by decide) (by decide) rfl ?_
  simp only [Int32.reduceAdd, Int32.reduceToNatClampNeg, List.set_cons_zero, List.set_cons_succ]
  refine t2_16 hgo ?_
  refine t2_18 hgo rfl ?_
  refine res_of (u2_19 hgo) ?_
  simp only [eq_self, and_self, true_and, and_true, not_true_eq_false, not_false_eq_true, if_true, if_false, reduceIte, Option.bind_some, List.getElem?_cons_zero, List.getElem?_cons_succ, Nat.reduceAdd, Nat.reduceSub, Nat.reduceLT, Nat.reduceLeDiff, Nat.le_refl, Nat.zero_add, Nat.add_zero, List.length_cons, List.length_nil, Int32.reduceLT, Int32.reduceToNatClampNeg, Int32.reduceAdd, Int32.reduceSub, Int32.reduceMul, decide_true, pR_ref, arr, ln0, ln1, ln2, ln3, ln4, ln5, ln6, ln7, ln8, ln9, ln10, ln11, ln12, ln13, ln14, ln15, ln16, ln17, ln18, ln19, ln20, ln21, ln22, ln23, ln24, ln25, ln26, ln27, ln28, ln29, ln30, ln31, ln32, ln33, ln34, ln35, ln36]
  refine t2_20f hgo (by decide) ?_
  refine t2_76 hgo rfl ?_
  refine t2_77 hgo rfl ?_
  exact is_r
set_option maxRecDepth 65536 in
set_option maxHeartbeats 4000000 in
theorem mg_3_1 {w0 w1 w2 w3 : Int32} (ho : w0 < w1 ∧ w1 < w2 ∧ w2 < w3) : F2 [.ref 0, .ref 1] [.inr (.int, [.int w0]), .inr (.int, [.int w1, .int w2])] = some (some (.ref 2), [.inr (.int, [.int w0]), .inr (.int, [.int w1, .int w2]), .inr (.int, [.int w0, .int w1, .int w2])]) := by
  have h_0_1 := ho.1
  have h_1_2 := ho.2.1
  have h_2_3 := ho.2.2
  have h_0_2 := own_lt_trans h_0_1 h_1_2
  have h_1_3 := own_lt_trans h_1_2 h_2_3
  have h_0_3 := own_lt_trans h_0_2 h_2_3
  refine is_of f2_in fun go hgo => ?_
  refine t2_0 hgo rfl ?_
  refine res_of (u2_1 hgo) ?_
  simp only [eq_self, and_self, true_and, and_true, not_true_eq_false, not_false_eq_true, if_true, if_false, reduceIte, Option.bind_some, List.getElem?_cons_zero, List.getElem?_cons_succ, Nat.reduceAdd, Nat.reduceSub, Nat.reduceLT, Nat.reduceLeDiff, Nat.le_refl, Nat.zero_add, Nat.add_zero, List.length_cons, List.length_nil, Int32.reduceLT, Int32.reduceToNatClampNeg, Int32.reduceAdd, Int32.reduceSub, Int32.reduceMul, decide_true, pR_ref, arr, ln0, ln1, ln2, ln3, ln4, ln5, ln6, ln7, ln8, ln9, ln10, ln11, ln12, ln13, ln14, ln15, ln16, ln17, ln18, ln19, ln20, ln21, ln22, ln23, ln24, ln25, ln26, ln27, ln28, ln29, ln30, ln31, ln32, ln33, ln34, ln35, ln36]
  refine t2_2 hgo rfl ?_
  refine res_of (u2_3 hgo) ?_
  simp only [eq_self, and_self, true_and, and_true, not_true_eq_false, not_false_eq_true, if_true, if_false, reduceIte, Option.bind_some, List.getElem?_cons_zero, List.getElem?_cons_succ, Nat.reduceAdd, Nat.reduceSub, Nat.reduceLT, Nat.reduceLeDiff, Nat.le_refl, Nat.zero_add, Nat.add_zero, List.length_cons, List.length_nil, Int32.reduceLT, Int32.reduceToNatClampNeg, Int32.reduceAdd, Int32.reduceSub, Int32.reduceMul, decide_true, pR_ref, arr, ln0, ln1, ln2, ln3, ln4, ln5, ln6, ln7, ln8, ln9, ln10, ln11, ln12, ln13, ln14, ln15, ln16, ln17, ln18, ln19, ln20, ln21, ln22, ln23, ln24, ln25, ln26, ln27, ln28, ln29, ln30, ln31, ln32, ln33, ln34, ln35, ln36]
  refine t2_4 hgo ?_
  refine res_of (u2_5 hgo) ?_
  simp only [eq_self, and_self, true_and, and_true, not_true_eq_false, not_false_eq_true, if_true, if_false, reduceIte, Option.bind_some, List.getElem?_cons_zero, List.getElem?_cons_succ, Nat.reduceAdd, Nat.reduceSub, Nat.reduceLT, Nat.reduceLeDiff, Nat.le_refl, Nat.zero_add, Nat.add_zero, List.length_cons, List.length_nil, Int32.reduceLT, Int32.reduceToNatClampNeg, Int32.reduceAdd, Int32.reduceSub, Int32.reduceMul, decide_true, aArr, List.nil_append, List.cons_append, List.replicate_zero, List.replicate_succ, defaultValue]
  refine t2_7 hgo rfl rfl ?_
  refine t2_8 hgo ?_
  refine t2_9 hgo rfl ?_
  refine t2_10 hgo ?_
  refine t2_11 hgo rfl ?_
  refine t2_13 hgo ?_
  refine t2_14 hgo rfl ?_
  refine tA2 hgo (xn := 1) (xl := 1) (yn := 2) (yl := 2) (zn := 3) (zl := 3) rfl rfl rfl rfl rfl rfl (by decide) (by decide) (by decide) (by decide) (by decide) (by decide) rfl (by decide) rfl h_0_1 ?_
  simp only [Int32.reduceAdd, Int32.reduceToNatClampNeg, List.set_cons_zero, List.set_cons_succ]
  refine tB1 hgo (xn := 1) (xl := 1) (yn := 2) (yl := 2) (zn := 3) (zl := 3) rfl rfl rfl rfl rfl rfl (by decide) (by decide) (by decide) (by decide) (by decide) (by decide) rfl ?_
  simp only [Int32.reduceAdd, Int32.reduceToNatClampNeg, List.set_cons_zero, List.set_cons_succ]
  refine tB1 hgo (xn := 1) (xl := 1) (yn := 2) (yl := 2) (zn := 3) (zl := 3) rfl rfl rfl rfl rfl rfl (by decide) (by decide) (by decide) (by decide) (by decide) (by decide) rfl ?_
  simp only [Int32.reduceAdd, Int32.reduceToNatClampNeg, List.set_cons_zero, List.set_cons_succ]
  refine t2_16 hgo ?_
  refine t2_18 hgo rfl ?_
  refine res_of (u2_19 hgo) ?_
  simp only [eq_self, and_self, true_and, and_true, not_true_eq_false, not_false_eq_true, if_true, if_false, reduceIte, Option.bind_some, List.getElem?_cons_zero, List.getElem?_cons_succ, Nat.reduceAdd, Nat.reduceSub, Nat.reduceLT, Nat.reduceLeDiff, Nat.le_refl, Nat.zero_add, Nat.add_zero, List.length_cons, List.length_nil, Int32.reduceLT, Int32.reduceToNatClampNeg, Int32.reduceAdd, Int32.reduceSub, Int32.reduceMul, decide_true, pR_ref, arr, ln0, ln1, ln2, ln3, ln4, ln5, ln6, ln7, ln8, ln9, ln10, ln11, ln12, ln13, ln14, ln15, ln16, ln17, ln18, ln19, ln20, ln21, ln22, ln23, ln24, ln25, ln26, ln27, ln28, ln29, ln30, ln31, ln32, ln33, ln34, ln35, ln36]
  refine t2_20f hgo (by decide) ?_
  refine t2_76 hgo rfl ?_
  refine t2_77 hgo rfl ?_
  exact is_r
set_option maxRecDepth 65536 in
set_option maxHeartbeats 4000000 in
theorem mg_3_2 {w0 w1 w2 w3 : Int32} (ho : w0 < w1 ∧ w1 < w2 ∧ w2 < w3) : F2 [.ref 0, .ref 1] [.inr (.int, [.int w1]), .inr (.int, [.int w0, .int w2])] = some (some (.ref 2), [.inr (.int, [.int w1]), .inr (.int, [.int w0, .int w2]), .inr (.int, [.int w0, .int w1, .int w2])]) := by
  have h_0_1 := ho.1
  have h_1_2 := ho.2.1
  have h_2_3 := ho.2.2
  have h_0_2 := own_lt_trans h_0_1 h_1_2
  have h_1_3 := own_lt_trans h_1_2 h_2_3
  have h_0_3 := own_lt_trans h_0_2 h_2_3
  refine is_of f2_in fun go hgo => ?_
  refine t2_0 hgo rfl ?_
  refine res_of (u2_1 hgo) ?_
  simp only [eq_self, and_self, true_and, and_true, not_true_eq_false, not_false_eq_true, if_true, if_false, reduceIte, Option.bind_some, List.getElem?_cons_zero, List.getElem?_cons_succ, Nat.reduceAdd, Nat.reduceSub, Nat.reduceLT, Nat.reduceLeDiff, Nat.le_refl, Nat.zero_add, Nat.add_zero, List.length_cons, List.length_nil, Int32.reduceLT, Int32.reduceToNatClampNeg, Int32.reduceAdd, Int32.reduceSub, Int32.reduceMul, decide_true, pR_ref, arr, ln0, ln1, ln2, ln3, ln4, ln5, ln6, ln7, ln8, ln9, ln10, ln11, ln12, ln13, ln14, ln15, ln16, ln17, ln18, ln19, ln20, ln21, ln22, ln23, ln24, ln25, ln26, ln27, ln28, ln29, ln30, ln31, ln32, ln33, ln34, ln35, ln36]
  refine t2_2 hgo rfl ?_
  refine res_of (u2_3 hgo) ?_
  simp only [eq_self, and_self, true_and, and_true, not_true_eq_false, not_false_eq_true, if_true, if_false, reduceIte, Option.bind_some, List.getElem?_cons_zero, List.getElem?_cons_succ, Nat.reduceAdd, Nat.reduceSub, Nat.reduceLT, Nat.reduceLeDiff, Nat.le_refl, Nat.zero_add, Nat.add_zero, List.length_cons, List.length_nil, Int32.reduceLT, Int32.reduceToNatClampNeg, Int32.reduceAdd, Int32.reduceSub, Int32.reduceMul, decide_true, pR_ref, arr, ln0, ln1, ln2, ln3, ln4, ln5, ln6, ln7, ln8, ln9, ln10, ln11, ln12, ln13, ln14, ln15, ln16, ln17, ln18, ln19, ln20, ln21, ln22, ln23, ln24, ln25, ln26, ln27, ln28, ln29, ln30, ln31, ln32, ln33, ln34, ln35, ln36]
  refine t2_4 hgo ?_
  refine res_of (u2_5 hgo) ?_
  simp only [eq_self, and_self, true_and, and_true, not_true_eq_false, not_false_eq_true, if_true, if_false, reduceIte, Option.bind_some, List.getElem?_cons_zero, List.getElem?_cons_succ, Nat.reduceAdd, Nat.reduceSub, Nat.reduceLT, Nat.reduceLeDiff, Nat.le_refl, Nat.zero_add, Nat.add_zero, List.length_cons, List.length_nil, Int32.reduceLT, Int32.reduceToNatClampNeg, Int32.reduceAdd, Int32.reduceSub, Int32.reduceMul, decide_true, aArr, List.nil_append, List.cons_append, List.replicate_zero, List.replicate_succ, defaultValue]
  refine t2_7 hgo rfl rfl ?_
  refine t2_8 hgo ?_
  refine t2_9 hgo rfl ?_
  refine t2_10 hgo ?_
  refine t2_11 hgo rfl ?_
  refine t2_13 hgo ?_
  refine t2_14 hgo rfl ?_
  refine tB2 hgo (xn := 1) (xl := 1) (yn := 2) (yl := 2) (zn := 3) (zl := 3) rfl rfl rfl rfl rfl rfl (by decide) (by decide) (by decide) (by decide) (by decide) (by decide) rfl (by decide) rfl (own_asym h_0_1) ?_
  simp only [Int32.reduceAdd, Int32.reduceToNatClampNeg, List.set_cons_zero, List.set_cons_succ]
  refine tA2 hgo (xn := 1) (xl := 1) (yn := 2) (yl := 2) (zn := 3) (zl := 3) rfl rfl rfl rfl rfl rfl (by decide) (by decide) (by decide) (by decide) (by decide) (by decide) rfl (by decide) rfl h_1_2 ?_
  simp only [Int32.reduceAdd, Int32.reduceToNatClampNeg, List.set_cons_zero, List.set_cons_succ]
  refine tB1 hgo (xn := 1) (xl := 1) (yn := 2) (yl := 2) (zn := 3) (zl := 3) rfl rfl rfl rfl rfl rfl (by decide) (by decide) (by decide) (by decide) (by decide) (by decide) rfl ?_
  simp only [Int32.reduceAdd, Int32.reduceToNatClampNeg, List.set_cons_zero, List.set_cons_succ]
  refine t2_16 hgo ?_
  refine t2_18 hgo rfl ?_
  refine res_of (u2_19 hgo) ?_
  simp only [eq_self, and_self, true_and, and_true, not_true_eq_false, not_false_eq_true, if_true, if_false, reduceIte, Option.bind_some, List.getElem?_cons_zero, List.getElem?_cons_succ, Nat.reduceAdd, Nat.reduceSub, Nat.reduceLT, Nat.reduceLeDiff, Nat.le_refl, Nat.zero_add, Nat.add_zero, List.length_cons, List.length_nil, Int32.reduceLT, Int32.reduceToNatClampNeg, Int32.reduceAdd, Int32.reduceSub, Int32.reduceMul, decide_true, pR_ref, arr, ln0, ln1, ln2, ln3, ln4, ln5, ln6, ln7, ln8, ln9, ln10, ln11, ln12, ln13, ln14, ln15, ln16, ln17, ln18, ln19, ln20, ln21, ln22, ln23, ln24, ln25, ln26, ln27, ln28, ln29, ln30, ln31, ln32, ln33, ln34, ln35, ln36]
  refine t2_20f hgo (by decide) ?_
  refine t2_76 hgo rfl ?_
  refine t2_77 hgo rfl ?_
  exact is_r
set_option maxRecDepth 65536 in
set_option maxHeartbeats 4000000 in
theorem mg_3_3 {w0 w1 w2 w3 : Int32} (ho : w0 < w1 ∧ w1 < w2 ∧ w2 < w3) : F2 [.ref 0, .ref 1] [.inr (.int, [.int w0, .int w1]), .inr (.int, [.int w2])] = some (some (.ref 2), [.inr (.int, [.int w0, .int w1]), .inr (.int, [.int w2]), .inr (.int, [.int w0, .int w1, .int w2])]) := by
  have h_0_1 := ho.1
  have h_1_2 := ho.2.1
  have h_2_3 := ho.2.2
  have h_0_2 := own_lt_trans h_0_1 h_1_2
  have h_1_3 := own_lt_trans h_1_2 h_2_3
  have h_0_3 := own_lt_trans h_0_2 h_2_3
  refine is_of f2_in fun go hgo => ?_
  refine t2_0 hgo rfl ?_
  refine res_of (u2_1 hgo) ?_
  simp only [eq_self, and_self, true_and, and_true, not_true_eq_false, not_false_eq_true, if_true, if_false, reduceIte, Option.bind_some, List.getElem?_cons_zero, List.getElem?_cons_succ, Nat.reduceAdd, Nat.reduceSub, Nat.reduceLT, Nat.reduceLeDiff, Nat.le_refl, Nat.zero_add, Nat.add_zero, List.length_cons, List.length_nil, Int32.reduceLT, Int32.reduceToNatClampNeg, Int32.reduceAdd, Int32.reduceSub, Int32.reduceMul, decide_true, pR_ref, arr, ln0, ln1, ln2, ln3, ln4, ln5, ln6, ln7, ln8, ln9, ln10, ln11, ln12, ln13, ln14, ln15, ln16, ln17, ln18, ln19, ln20, ln21, ln22, ln23, ln24, ln25, ln26, ln27, ln28, ln29, ln30, ln31, ln32, ln33, ln34, ln35, ln36]
  refine t2_2 hgo rfl ?_
  refine res_of (u2_3 hgo) ?_
  simp only [eq_self, and_self, true_and, and_true, not_true_eq_false, not_false_eq_true, if_true, if_false, reduceIte, Option.bind_some, List.getElem?_cons_zero, List.getElem?_cons_succ, Nat.reduceAdd, Nat.reduceSub, Nat.reduceLT, Nat.reduceLeDiff, Nat.le_refl, Nat.zero_add, Nat.add_zero, List.length_cons, List.length_nil, Int32.reduceLT, Int32.reduceToNatClampNeg, Int32.reduceAdd, Int32.reduceSub, Int32.reduceMul, decide_true, pR_ref, arr, ln0, ln1, ln2, ln3, ln4, ln5, ln6, ln7, ln8, ln9, ln10, ln11, ln12, ln13, ln14, ln15, ln16, ln17, ln18, ln19, ln20, ln21, ln22, ln23, ln24, ln25, ln26, ln27, ln28, ln29, ln30, ln31, ln32, ln33, ln34, ln35, ln36]
  refine t2_4 hgo ?_
  refine res_of (u2_5 hgo) ?_
  simp only [eq_self, and_self, true_and, and_true, not_true_eq_false, not_false_eq_true, if_true, if_false, reduceIte, Option.bind_some, List.getElem?_cons_zero, List.getElem?_cons_succ, Nat.reduceAdd, Nat.reduceSub, Nat.reduceLT, Nat.reduceLeDiff, Nat.le_refl, Nat.zero_add, Nat.add_zero, List.length_cons, List.length_nil, Int32.reduceLT, Int32.reduceToNatClampNeg, Int32.reduceAdd, Int32.reduceSub, Int32.reduceMul, decide_true, aArr, List.nil_append, List.cons_append, List.replicate_zero, List.replicate_succ, defaultValue]
  refine t2_7 hgo rfl rfl ?_
  refine t2_8 hgo ?_
  refine t2_9 hgo rfl ?_
  refine t2_10 hgo ?_
  refine t2_11 hgo rfl ?_
  refine t2_13 hgo ?_
  refine t2_14 hgo rfl ?_
  refine tA2 hgo (xn := 2) (xl := 2) (yn := 1) (yl := 1) (zn := 3) (zl := 3) rfl rfl rfl rfl rfl rfl (by decide) (by decide) (by decide) (by decide) (by decide) (by decide) rfl (by decide) rfl h_0_2 ?_
  simp only [Int32.reduceAdd, Int32.reduceToNatClampNeg, List.set_cons_zero, List.set_cons_succ]
  refine tA2 hgo (xn := 2) (xl := 2) (yn := 1) (yl := 1) (zn := 3) (zl := 3) rfl rfl rfl rfl rfl rfl (by decide) (by decide) (by decide) (by decide) (by decide) (by decide) rfl (by decide) rfl h_1_2 ?_
  simp only [Int32.reduceAdd, Int32.reduceToNatClampNeg, List.set_cons_zero, List.set_cons_succ]
  refine tB1 hgo (xn := 2) (xl := 2) (yn := 1) (yl := 1) (zn := 3) (zl := 3) rfl rfl rfl rfl rfl rfl (by decide) (by decide) (by decide) (by decide) (by decide) (by decide) rfl ?_
  simp only [Int32.reduceAdd, Int32.reduceToNatClampNeg, List.set_cons_zero, List.set_cons_succ]
  refine t2_16 hgo ?_
  refine t2_18 hgo rfl ?_
  refine res_of (u2_19 hgo) ?_
  simp only [eq_self, and_self, true_and, and_true, not_true_eq_false, not_false_eq_true, if_true, if_false, reduceIte, Option.bind_some, List.getElem?_cons_zero, List.getElem?_cons_succ, Nat.reduceAdd, Nat.reduceSub, Nat.reduceLT, Nat.reduceLeDiff, Nat.le_refl, Nat.zero_add, Nat.add_zero, List.length_cons, List.length_nil, Int32.reduceLT, Int32.reduceToNatClampNeg, Int32.reduceAdd, Int32.reduceSub, Int32.reduceMul, decide_true, pR_ref, arr, ln0, ln1, ln2, ln3, ln4, ln5, ln6, ln7, ln8, ln9, ln10, ln11, ln12, ln13, ln14, ln15, ln16, ln17, ln18, ln19, ln20, ln21, ln22, ln23, ln24, ln25, ln26, ln27, ln28, ln29, ln30, ln31, ln32, ln33, ln34, ln35, ln36]
  refine t2_20f hgo (by decide) ?_
  refine t2_76 hgo rfl ?_
  refine t2_77 hgo rfl ?_
  exact is_r
set_option maxRecDepth 65536 in
set_option maxHeartbeats 4000000 in
theorem mg_3_4 {w0 w1 w2 w3 : Int32} (ho : w0 < w1 ∧ w1 < w2 ∧ w2 < w3) : F2 [.ref 0, .ref 1] [.inr (.int, [.int w2]), .inr (.int, [.int w0, .int w1])] = some (some (.ref 2), [.inr (.int, [.int w2]), .inr (.int, [.int w0, .int w1]), .inr (.int, [.int w0, .int w1, .int w2])]) := by
  have h_0_1 := ho.1
  have h_1_2 := ho.2.1
  have h_2_3 := ho.2.2
  have h_0_2 := own_lt_trans h_0_1 h_1_2
  have h_1_3 := own_lt_trans h_1_2 h_2_3
  have h_0_3 := own_lt_trans h_0_2 h_2_3
  refine is_of f2_in fun go hgo => ?_
  refine t2_0 hgo rfl ?_
  refine res_of (u2_1 hgo) ?_
  simp only [eq_self, and_self, true_and, and_true, not_true_eq_false, not_false_eq_true, if_true, if_false, reduceIte, Option.bind_some, List.getElem?_cons_zero, List.getElem?_cons_succ, Nat.reduceAdd, Nat.reduceSub, Nat.reduceLT, Nat.reduceLeDiff, Nat.le_refl, Nat.zero_add, Nat.add_zero, List.length_cons, List.length_nil, Int32.reduceLT, Int32.reduceToNatClampNeg, Int32.reduceAdd, Int32.reduceSub, Int32.reduceMul, decide_true, pR_ref, arr, ln0, ln1, ln2, ln3, ln4, ln5, ln6, ln7, ln8, ln9, ln10, ln11, ln12, ln13, ln14, ln15, ln16, ln17, ln18, ln19, ln20, ln21, ln22, ln23, ln24, ln25, ln26, ln27, ln28, ln29, ln30, ln31, ln32, ln33, ln34, ln35, ln36]
  refine t2_2 hgo rfl ?_
  refine res_of (u2_3 hgo) ?_
  simp only [eq_self, and_self, true_and, and_true, not_true_eq_false, not_false_eq_true, if_true, if_false, reduceIte, Option.bind_some, List.getElem?_cons_zero, List.getElem?_cons_succ, Nat.reduceAdd, Nat.reduceSub, Nat.reduceLT, Nat.reduceLeDiff, Nat.le_refl, Nat.zero_add, Nat.add_zero, List.length_cons, List.length_nil, Int32.reduceLT, Int32.reduceToNatClampNeg, Int32.reduceAdd, Int32.reduceSub, Int32.reduceMul, decide_true, pR_ref, arr, ln0, ln1, ln2, ln3, ln4, ln5, ln6, ln7, ln8, ln9, ln10, ln11, ln12, ln13, ln14, ln15, ln16, ln17, ln18, ln19, ln20, ln21, ln22, ln23, ln24, ln25, ln26, ln27, ln28, ln29, ln30, ln31, ln32, ln33, ln34, ln35, ln36]
  refine t2_4 hgo ?_
  refine res_of (u2_5 hgo) ?_
  simp only [eq_self, and_self, true_and, and_true, not_true_eq_false, not_false_eq_true, if_true, if_false, reduceIte, Option.bind_some, List.getElem?_cons_zero, List.getElem?_cons_succ, Nat.reduceAdd, Nat.reduceSub, Nat.reduceLT, Nat.reduceLeDiff, Nat.le_refl, Nat.zero_add, Nat.add_zero, List.length_cons, List.length_nil, Int32.reduceLT, Int32.reduceToNatClampNeg, Int32.reduceAdd, Int32.reduceSub, Int32.reduceMul, decide_true, aArr, List.nil_append, List.cons_append, List.replicate_zero, List.replicate_succ, defaultValue]
  refine t2_7 hgo rfl rfl ?_
  refine t2_8 hgo ?_
  refine t2_9 hgo rfl ?_
  refine t2_10 hgo ?_
  refine t2_11 hgo rfl ?_
  refine t2_13 hgo ?_
  refine t2_14 hgo rfl ?_
  refine tB2 hgo (xn := 1) (xl := 1) (yn := 2) (yl := 2) (zn := 3) (zl := 3) rfl rfl rfl rfl rfl rfl (by decide) (by decide) (by decide) (by decide) (by decide) (by decide) rfl (by decide) rfl (own_asym h_0_2) ?_
  simp only [Int32.reduceAdd, Int32.reduceToNatClampNeg, List.set_cons_zero, List.set_cons_succ]
  refine tB2 hgo (xn := 1) (xl := 1) (yn := 2) (yl := 2) (zn := 3) (zl := 3) rfl rfl rfl rfl rfl rfl (by decide) (by decide) (by decide) (by decide) (by decide) (by decide) rfl (by decide) rfl (own_asym h_1_2) ?_
  simp only [Int32.reduceAdd, Int32.reduceToNatClampNeg, List.set_cons_zero, List.set_cons_succ]
  refine tA1 hgo (xn := 1) (xl := 1) (yn := 2) (yl := 2) (zn := 3) (zl := 3) rfl rfl rfl rfl rfl rfl (by decide) (by decide) (by decide) rfl (by decide) rfl ?_
  simp only [Int32.reduceAdd, Int32.reduceToNatClampNeg, List.set_cons_zero, List.set_cons_succ]
  refine t2_16 hgo ?_
  refine t2_18 hgo rfl ?_
  refine res_of (u2_19 hgo) ?_
  simp only [eq_self, and_self, true_and, and_true, not_true_eq_false, not_false_eq_true, if_true, if_false, reduceIte, Option.bind_some, List.getElem?_cons_zero, List.getElem?_cons_succ, Nat.reduceAdd, Nat.reduceSub, Nat.reduceLT, Nat.reduceLeDiff, Nat.le_refl, Nat.zero_add, Nat.add_zero, List.length_cons, List.length_nil, Int32.reduceLT, Int32.reduceToNatClampNeg, Int32.reduceAdd, Int32.reduceSub, Int32.reduceMul, decide_true, pR_ref, arr, ln0, ln1, ln2, ln3, ln4, ln5, ln6, ln7, ln8, ln9, ln10, ln11, ln12, ln13, ln14, ln15, ln16, ln17, ln18, ln19, ln20, ln21, ln22, ln23, ln24, ln25, ln26, ln27, ln28, ln29, ln30, ln31, ln32, ln33, ln34, ln35, ln36]
  refine t2_20f hgo (by decide) ?_
  refine t2_76 hgo rfl ?_
  refine t2_77 hgo rfl ?_
  exact is_r
set_option maxRecDepth 65536 in
set_option maxHeartbeats 4000000 in
theorem mg_3_5 {w0 w1 w2 w3 : Int32} (ho : w0 < w1 ∧ w1 < w2 ∧ w2 < w3) : F2 [.ref 0, .ref 1] [.inr (.int, [.int w0, .int w2]), .inr (.int, [.int w1])] = some (some (.ref 2), [.inr (.int, [.int w0, .int w2]), .inr (.int, [.int w1]), .inr (.int, [.int w0, .int w1, .int w2])]) := by
  have h_0_1 := ho.1
  have h_1_2 := ho.2.1
  have h_2_3 := ho.2.2
  have h_0_2 := own_lt_trans h_0_1 h_1_2
  have h_1_3 := own_lt_trans h_1_2 h_2_3
  have h_0_3 := own_lt_trans h_0_2 h_2_3
  refine is_of f2_in fun go hgo => ?_
  refine t2_0 hgo rfl ?_
  refine res_of (u2_1 hgo) ?_
  simp only [eq_self, and_self, true_and, and_true, not_true_eq_false, not_false_eq_true, if_true, if_false, reduceIte, Option.bind_some, List.getElem?_cons_zero, List.getElem?_cons_succ, Nat.reduceAdd, Nat.reduceSub, Nat.reduceLT, Nat.reduceLeDiff, Nat.le_refl, Nat.zero_add, Nat.add_zero, List.length_cons, List.length_nil, Int32.reduceLT, Int32.reduceToNatClampNeg, Int32.reduceAdd, Int32.reduceSub, Int32.reduceMul, decide_true, pR_ref, arr, ln0, ln1, ln2, ln3, ln4, ln5, ln6, ln7, ln8, ln9, ln10, ln11, ln12, ln13, ln14, ln15, ln16, ln17, ln18, ln19, ln20, ln21, ln22, ln23, ln24, ln25, ln26, ln27, ln28, ln29, ln30, ln31, ln32, ln33, ln34, ln35, ln36]
  refine t2_2 hgo rfl ?_
  refine res_of (u2_3 hgo) ?_
  simp only [eq_self, and_self, true_and, and_true, not_true_eq_false, not_false_eq_true, if_true, if_false, reduceIte, Option.bind_some, List.getElem?_cons_zero, List.getElem?_cons_succ, Nat.reduceAdd, Nat.reduceSub, Nat.reduceLT, Nat.reduceLeDiff, Nat.le_refl, Nat.zero_add, Nat.add_zero, List.length_cons, List.length_nil, Int32.reduceLT, Int32.reduceToNatClampNeg, Int32.reduceAdd, Int32.reduceSub, Int32.reduceMul, decide_true, pR_ref, arr, ln0, ln1, ln2, ln3, ln4, ln5, ln6, ln7, ln8, ln9, ln10, ln11, ln12, ln13, ln14, ln15, ln16, ln17, ln18, ln19, ln20, ln21, ln22, ln23, ln24, ln25, ln26, ln27, ln28, ln29, ln30, ln31, ln32, ln33, ln34, ln35, ln36]
  refine t2_4 hgo ?_
  refine res_of (u2_5 hgo) ?_
  simp only [eq_self, and_self, true_and, and_true, not_true_eq_false, not_false_eq_true, if_true, if_false, reduceIte, Option.bind_some, List.getElem?_cons_zero, List.getElem?_cons_succ, Nat.reduceAdd, Nat.reduceSub, Nat.reduceLT, Nat.reduceLeDiff, Nat.le_refl, Nat.zero_add, Nat.add_zero, List.length_cons, List.length_nil, Int32.reduceLT, Int32.reduceToNatClampNeg, Int32.reduceAdd, Int32.reduceSub, Int32.reduceMul, decide_true, aArr, List.nil_append, List.cons_append, List.replicate_zero, List.replicate_succ, defaultValue]
  refine t2_7 hgo rfl rfl ?_
  refine t2_8 hgo ?_
  refine t2_9 hgo rfl ?_
  refine t2_10 hgo ?_
  refine t2_11 hgo rfl ?_
  refine t2_13 hgo ?_
  refine t2_14 hgo rfl ?_
  refine tA2 hgo (xn := 2) (xl := 2) (yn := 1) (yl := 1) (zn := 3) (zl := 3) rfl rfl rfl rfl rfl rfl (by decide) (by decide) (by decide) (by decide) (by decide) (by decide) rfl (by decide) rfl h_0_1 ?_
  simp only [Int32.reduceAdd, Int32.reduceToNatClampNeg, List.set_cons_zero, List.set_cons_succ]
  refine tB2 hgo (xn := 2) (xl := 2) (yn := 1) (yl := 1) (zn := 3) (zl := 3) rfl rfl rfl rfl rfl rfl (by decide) (by decide) (by decide) (by decide) (by decide) (by decide) rfl (by decide) rfl (own_asym h_1_2) ?_
  simp only [Int32.reduceAdd, Int32.reduceToNatClampNeg, List.set_cons_zero, List.set_cons_succ]
  refine tA1 hgo (xn := 2) (xl := 2) (yn := 1) (yl := 1) (zn := 3) (zl := 3) rfl rfl rfl rfl rfl rfl (by decide) (by decide) (by decide) rfl (by decide) rfl ?_
  simp only [Int32.reduceAdd, Int32.reduceToNatClampNeg, List.set_cons_zero, List.set_cons_succ]
  refine t2_16 hgo ?_
  refine t2_18 hgo rfl ?_
  refine res_of (u2_19 hgo) ?_
  simp only [eq_self, and_self, true_and, and_true, not_true_eq_false, not_false_eq_true, if_true, if_false, reduceIte, Option.bind_some, List.getElem?_cons_zero, List.getElem?_cons_succ, Nat.reduceAdd, Nat.reduceSub, Nat.reduceLT, Nat.reduceLeDiff, Nat.le_refl, Nat.zero_add, Nat.add_zero, List.length_cons, List.length_nil, Int32.reduceLT, Int32.reduceToNatClampNeg, Int32.reduceAdd, Int32.reduceSub, Int32.reduceMul, decide_true, pR_ref, arr, ln0, ln1, ln2, ln3, ln4, ln5, ln6, ln7, ln8, ln9, ln10, ln11, ln12, ln13, ln14, ln15, ln16, ln17, ln18, ln19, ln20, ln21, ln22, ln23, ln24, ln25, ln26, ln27, ln28, ln29, ln30, ln31, ln32, ln33, ln34, ln35, ln36]
  refine t2_20f hgo (by decide) ?_
  refine t2_76 hgo rfl ?_
  refine t2_77 hgo rfl ?_
  exact is_r
set_option maxRecDepth 65536 in
set_option maxHeartbeats 4000000 in
theorem mg_3_6 {w0 w1 w2 w3 : Int32} (ho : w0 < w1 ∧ w1 < w2 ∧ w2 < w3) : F2 [.ref 0, .ref 1] [.inr (.int, [.int w1, .int w2]), .inr (.int, [.int w0])] = some (some (.ref 2), [.inr (.int, [.int w1, .int w2]), .inr (.int, [.int w0]), .inr (.int, [.int w0, .int w1, .int w2])]) := by
  have h_0_1 := ho.1
  have h_1_2 := ho.2.1
  have h_2_3 := ho.2.2
  have h_0_2 := own_lt_trans h_0_1 h_1_2
  have h_1_3 := own_lt_trans h_1_2 h_2_3
  have h_0_3 := own_lt_trans h_0_2 h_2_3
  refine is_of f2_in fun go hgo => ?_
  refine t2_0 hgo rfl ?_
  refine res_of (u2_1 hgo) ?_
  simp only [eq_self, and_self, true_and, and_true, not_true_eq_false, not_false_eq_true, if_true, if_false, reduceIte, Option.bind_some, List.getElem?_cons_zero, List.getElem?_cons_succ, Nat.reduceAdd, Nat.reduceSub, Nat.reduceLT, Nat.reduceLeDiff, Nat.le_refl, Nat.zero_add, Nat.add_zero, List.length_cons, List.length_nil, Int32.reduceLT, Int32.reduceToNatClampNeg, Int32.reduceAdd, Int32.reduceSub, Int32.reduceMul, decide_true, pR_ref, arr, ln0, ln1, ln2, ln3, ln4, ln5, ln6, ln7, ln8, ln9, ln10, ln11, ln12, ln13, ln14, ln15, ln16, ln17, ln18, ln19, ln20, ln21, ln22, ln23, ln24, ln25, ln26, ln27, ln28, ln29, ln30, ln31, ln32, ln33, ln34, ln35, ln36]
  refine t2_2 hgo rfl ?_
  refine res_of (u2_3 hgo) ?_
  simp only [eq_self, and_self, true_and, and_true, not_true_eq_false, not_false_eq_true, if_true, if_false, reduceIte, Option.bind_some, List.getElem?_cons_zero, List.getElem?_cons_succ, Nat.reduceAdd, Nat.reduceSub, Nat.reduceLT, Nat.reduceLeDiff, Nat.le_refl, Nat.zero_add, Nat.add_zero, List.length_cons, List.length_nil, Int32.reduceLT, Int32.reduceToNatClampNeg, Int32.reduceAdd, Int32.reduceSub, Int32.reduceMul, decide_true, pR_ref, arr, ln0, ln1, ln2, ln3, ln4, ln5, ln6, ln7, ln8, ln9, ln10, ln11, ln12, ln13, ln14, ln15, ln16, ln17, ln18, ln19, ln20, ln21, ln22, ln23, ln24, ln25, ln26, ln27, ln28, ln29, ln30, ln31, ln32, ln33, ln34, ln35, ln36]
  refine t2_4 hgo ?_
  refine res_of (u2_5 hgo) ?_
  simp only [eq_self, and_self, true_and, and_true, not_true_eq_false, not_false_eq_true, if_true, if_false, reduceIte, Option.bind_some, List.getElem?_cons_zero, List.getElem?_cons_succ, Nat.reduceAdd, Nat.reduceSub, Nat.reduceLT, Nat.reduceLeDiff, Nat.le_refl, Nat.zero_add, Nat.add_zero, List.length_cons, List.length_nil, Int32.reduceLT, Int32.reduceToNatClampNeg, Int32.reduceAdd, Int32.reduceSub, Int32.reduceMul, decide_true, aArr, List.nil_append, List.cons_append, List.replicate_zero, List.replicate_succ, defaultValue]
  refine t2_7 hgo rfl rfl ?_
  refine t2_8 hgo ?_
  refine t2_9 hgo rfl ?_
  refine t2_10 hgo ?_
  refine t2_11 hgo rfl ?_
  refine t2_13 hgo ?_
  refine t2_14 hgo rfl ?_
  refine tB2 hgo (xn := 2) (xl := 2) (yn := 1) (yl := 1) (zn := 3) (zl := 3) rfl rfl rfl rfl rfl rfl (by decide) (by decide) (by decide) (by decide) (by decide) (by decide) rfl (by decide) rfl (own_asym h_0_1) ?_
  simp only [Int32.reduceAdd, Int32.reduceToNatClampNeg, List.set_cons_zero, List.set_cons_succ]
  refine tA1 hgo (xn := 2) (xl := 2) (yn := 1) (yl := 1) (zn := 3) (zl := 3) rfl rfl rfl rfl rfl rfl (by decide) (by decide) (by decide) rfl (by decide) rfl ?_
  simp only [Int32.reduceAdd, Int32.reduceToNatClampNeg, List.set_cons_zero, List.set_cons_succ]
  refine tA1 hgo (xn := 2) (xl := 2) (yn := 1) (yl := 1) (zn := 3) (zl := 3) rfl rfl rfl rfl rfl rfl (by decide) (by decide) (by decide) rfl (by decide) rfl ?_
  simp only [Int32.reduceAdd, Int32.reduceToNatClampNeg, List.set_cons_zero, List.set_cons_succ]
  refine t2_16 hgo ?_
  refine t2_18 hgo rfl ?_
  refine res_of (u2_19 hgo) ?_
  simp only [eq_self, and_self, true_and, and_true, not_true_eq_false, not_false_eq_true, if_true, if_false, reduceIte, Option.bind_some, List.getElem?_cons_zero, List.getElem?_cons_succ, Nat.reduceAdd, Nat.reduceSub, Nat.reduceLT, Nat.reduceLeDiff, Nat.le_refl, Nat.zero_add, Nat.add_zero, List.length_cons, List.length_nil, Int32.reduceLT, Int32.reduceToNatClampNeg, Int32.reduceAdd, Int32.reduceSub, Int32.reduceMul, decide_true, pR_ref, arr, ln0, ln1, ln2, ln3, ln4, ln5, ln6, ln7, ln8, ln9, ln10, ln11, ln12, ln13, ln14, ln15, ln16, ln17, ln18, ln19, ln20, ln21, ln22, ln23, ln24, ln25, ln26, ln27, ln28, ln29, ln30, ln31, ln32, ln33, ln34, ln35, ln36]
  refine t2_20f hgo (by decide) ?_
  refine t2_76 hgo rfl ?_
  refine t2_77 hgo rfl ?_
  exact is_r
set_option maxRecDepth 65536 in
set_option maxHeartbeats 4000000 in
theorem mg_3_7 {w0 w1 w2 w3 : Int32} (ho : w0 < w1 ∧ w1 < w2 ∧ w2 < w3) : F2 [.ref 0, .ref 1] [.inr (.int, [.int w0, .int w1, .int w2]), .inr (.int, [])] = some (some (.ref 2), [.inr (.int, [.int w0, .int w1, .int w2]), .inr (.int, []), .inr (.int, [.int w0, .int w1, .int w2])]) := by
  have h_0_1 := ho.1
  have h_1_2 := ho.2.1
  have h_2_3 := ho.2.2
  have h_0_2 := own_lt_trans h_0_1 h_1_2
  have h_1_3 := own_lt_trans h_1_2 h_2_3
  have h_0_3 := own_lt_trans h_0_2 h_2_3
  refine is_of f2_in fun go hgo => ?_
  refine t2_0 hgo rfl ?_
  refine res_of (u2_1 hgo) ?_
  simp only [eq_self, and_self, true_and, and_true, not_true_eq_false, not_false_eq_true, if_true, if_false, reduceIte, Option.bind_some, List.getElem?_cons_zero, List.getElem?_cons_succ, Nat.reduceAdd, Nat.reduceSub, Nat.reduceLT, Nat.reduceLeDiff, Nat.le_refl, Nat.zero_add, Nat.add_zero, List.length_cons, List.length_nil, Int32.reduceLT, Int32.reduceToNatClampNeg, Int32.reduceAdd, Int32.reduceSub, Int32.reduceMul, decide_true, pR_ref, arr, ln0, ln1, ln2, ln3, ln4, ln5, ln6, ln7, ln8, ln9, ln10, ln11, ln12, ln13, ln14, ln15, ln16, ln17, ln18, ln19, ln20, ln21, ln22, ln23, ln24, ln25, ln26, ln27, ln28, ln29, ln30, ln31, ln32, ln33, ln34, ln35, ln36]
  refine t2_2 hgo rfl ?_
  refine res_of (u2_3 hgo) ?_
  simp only [eq_self, and_self, true_and, and_true, not_true_eq_false, not_false_eq_true, if_true, if_false, reduceIte, Option.bind_some, List.getElem?_cons_zero, List.getElem?_cons_succ, Nat.reduceAdd, Nat.reduceSub, Nat.reduceLT, Nat.reduceLeDiff, Nat.le_refl, Nat.zero_add, Nat.add_zero, List.length_cons, List.length_nil, Int32.reduceLT, Int32.reduceToNatClampNeg, Int32.reduceAdd, Int32.reduceSub, Int32.reduceMul, decide_true, pR_ref, arr, ln0, ln1, ln2, ln3, ln4, ln5, ln6, ln7, ln8, ln9, ln10, ln11, ln12, ln13, ln14, ln15, ln16, ln17, ln18, ln19, ln20, ln21, ln22, ln23, ln24, ln25, ln26, ln27, ln28, ln29, ln30, ln31, ln32, ln33, ln34, ln35, ln36]
  refine t2_4 hgo ?_
  refine res_of (u2_5 hgo) ?_
  simp only [eq_self, and_self, true_and, and_true, not_true_eq_false, not_false_eq_true, if_true, if_false, reduceIte, Option.bind_some, List.getElem?_cons_zero, List.getElem?_cons_succ, Nat.reduceAdd, Nat.reduceSub, Nat.reduceLT, Nat.reduceLeDiff, Nat.le_refl, Nat.zero_add, Nat.add_zero, List.length_cons, List.length_nil, Int32.reduceLT, Int32.reduceToNatClampNeg, Int32.reduceAdd, Int32.reduceSub, Int32.reduceMul, decide_true, aArr, List.nil_append, List.cons_append, List.replicate_zero, List.replicate_succ, defaultValue]
  refine t2_7 hgo rfl rfl ?_
  refine t2_8 hgo ?_
  refine t2_9 hgo rfl ?_
  refine t2_10 hgo ?_
  refine t2_11 hgo rfl ?_
  refine t2_13 hgo ?_
  refine t2_14 hgo rfl ?_
  refine tA1 hgo (xn := 3) (xl := 3) (yn := 0) (yl := 0) (zn := 3) (zl := 3) rfl rfl rfl rfl rfl rfl (by decide) (by decide) (by decide) rfl (by decide) rfl ?_
  simp only [Int32.reduceAdd, Int32.reduceToNatClampNeg, List.set_cons_zero, List.set_cons_succ]
  refine tA1 hgo (xn := 3) (xl := 3) (yn := 0) (yl := 0) (zn := 3) (zl := 3) rfl rfl rfl rfl rfl rfl (by decide) (by decide) (by decide) rfl (by decide) rfl ?_
  simp only [Int32.reduceAdd, Int32.reduceToNatClampNeg, List.set_cons_zero, List.set_cons_succ]
  refine tA1 hgo (xn := 3) (xl := 3) (yn := 0) (yl := 0) (zn := 3) (zl := 3) rfl rfl rfl rfl rfl rfl (by decide) (by decide) (by decide) rfl (by decide) rfl ?_
  simp only [Int32.reduceAdd, Int32.reduceToNatClampNeg, List.set_cons_zero, List.set_cons_succ]
  refine t2_16 hgo ?_
  refine t2_18 hgo rfl ?_
  refine res_of (u2_19 hgo) ?_
  simp only [eq_self, and_self, true_and, and_true, not_true_eq_false, not_false_eq_true, if_true, if_false, reduceIte, Option.bind_some, List.getElem?_cons_zero, List.getElem?_cons_succ, Nat.reduceAdd, Nat.reduceSub, Nat.reduceLT, Nat.reduceLeDiff, Nat.le_refl, Nat.zero_add, Nat.add_zero, List.length_cons, List.length_nil, Int32.reduceLT, Int32.reduceToNatClampNeg, Int32.reduceAdd, Int32.reduceSub, Int32.reduceMul, decide_true, pR_ref, arr, ln0, ln1, ln2, ln3, ln4, ln5, ln6, ln7, ln8, ln9, ln10, ln11, ln12, ln13, ln14, ln15, ln16, ln17, ln18, ln19, ln20, ln21, ln22, ln23, ln24, ln25, ln26, ln27, ln28, ln29, ln30, ln31, ln32, ln33, ln34, ln35, ln36]
  refine t2_20f hgo (by decide) ?_
  refine t2_76 hgo rfl ?_
  refine t2_77 hgo rfl ?_
  exact is_r
set_option maxRecDepth 65536 in
set_option maxHeartbeats 4000000 in
theorem mg_4_0 {w0 w1 w2 w3 : Int32} (ho : w0 < w1 ∧ w1 < w2 ∧ w2 < w3) : F2 [.ref 0, .ref 1] [.inr (.int, []), .inr (.int, [.int w0, .int w1, .int w2, .int w3])] = some (some (.ref 2), [.inr (.int, []), .inr (.int, [.int w0, .int w1, .int w2, .int w3]), .inr (.int, [.int w0, .int w1, .int w2, .int w3])]) := by
  have h_0_1 := ho.1
  have h_1_2 := ho.2.1
  have h_2_3 := ho.2.2
  have h_0_2 := own_lt_trans h_0_1 h_1_2
  have h_1_3 := own_lt_trans h_1_2 h_2_3
  have h_0_3 := own_lt_trans h_0_2 h_2_3
  refine is_of f2_in fun go hgo => ?_
  refine t2_0 hgo rfl ?_
  refine res_of (u2_1 hgo) ?_
  simp only [eq_self, and_self, true_and, and_true, not_true_eq_false, not_false_eq_true, if_true, if_false, reduceIte, Option.bind_some, List.getElem?_cons_zero, List.getElem?_cons_succ, Nat.reduceAdd, Nat.reduceSub, Nat.reduceLT, Nat.reduceLeDiff, Nat.le_refl, Nat.zero_add, Nat.add_zero, List.length_cons, List.length_nil, Int32.reduceLT, Int32.reduceToNatClampNeg, Int32.reduceAdd, Int32.reduceSub, Int32.reduceMul, decide_true, pR_ref, arr, ln0, ln1, ln2, ln3, ln4, ln5, ln6, ln7, ln8, ln9, ln10, ln11, ln12, ln13, ln14, ln15, ln16, ln17, ln18, ln19, ln20, ln21, ln22, ln23, ln24, ln25, ln26, ln27, ln28, ln29, ln30, ln31, ln32, ln33, ln34, ln35, ln36]
  refine t2_2 hgo rfl ?_
  refine res_of (u2_3 hgo) ?_
  simp only [eq_self, and_self, true_and, and_true, not_true_eq_false, not_false_eq_true, if_true, if_false, reduceIte, Option.bind_some, List.getElem?_cons_zero, List.getElem?_cons_succ, Nat.reduceAdd, Nat.reduceSub, Nat.reduceLT, Nat.reduceLeDiff, Nat.le_refl, Nat.zero_add, Nat.add_zero, List.length_cons, List.length_nil, Int32.reduceLT, Int32.reduceToNatClampNeg, Int32.reduceAdd, Int32.reduceSub, Int32.reduceMul, decide_true, pR_ref, arr, ln0, ln1, ln2, ln3, ln4, ln5, ln6, ln7, ln8, ln9, ln10, ln11, ln12, ln13, ln14, ln15, ln16, ln17, ln18, ln19, ln20, ln21, ln22, ln23, ln24, ln25, ln26, ln27, ln28, ln29, ln30, ln31, ln32, ln33, ln34, ln35, ln36]
  refine t2_4 hgo ?_
  refine res_of (u2_5 hgo) ?_
  simp only [eq_self, and_self, true_and, and_true, not_true_eq_false, not_false_eq_true, if_true, if_false, reduceIte, Option.bind_some, List.getElem?_cons_zero, List.getElem?_cons_succ, Nat.reduceAdd, Nat.reduceSub, Nat.reduceLT, Nat.reduceLeDiff, Nat.le_refl, Nat.zero_add, Nat.add_zero, List.length_cons, List.length_nil, Int32.reduceLT, Int32.reduceToNatClampNeg, Int32.reduceAdd, Int32.reduceSub, Int32.reduceMul, decide_true, aArr, List.nil_append, List.cons_append, List.replicate_zero, List.replicate_succ, defaultValue]
  refine t2_7 hgo rfl rfl ?_
  refine t2_8 hgo ?_
  refine t2_9 hgo rfl ?_
  refine t2_10 hgo ?_
  refine t2_11 hgo rfl ?_
  refine t2_13 hgo ?_
  refine t2_14 hgo rfl ?_
  refine tB1 hgo (xn := 0) (xl := 0) (yn := 4) (yl := 4) (zn := 4) (zl := 4) rfl rfl rfl rfl rfl rfl (by decide) (by decide) (by decide) (by decide) (by decide) (by decide) rfl ?_
  simp only [Int32.reduceAdd, Int32.reduceToNatClampNeg, List.set_cons_zero, List.set_cons_succ]
  refine tB1 hgo (xn := 0) (xl := 0) (yn := 4) (yl := 4) (zn := 4) (zl := 4) rfl rfl rfl rfl rfl rfl (by decide) (by decide) (by decide) (by decide) (by decide) (by decide) rfl ?_
  simp only [Int32.reduceAdd, Int32.reduceToNatClampNeg, List.set_cons_zero, List.set_cons_succ]
  refine tB1 hgo (xn := 0) (xl := 0) (yn := 4) (yl := 4) (zn := 4) (zl := 4) rfl rfl rfl rfl rfl rfl (by decide) (by decide) (by decide) (by decide) (by decide) (by decide) rfl ?_
  simp only [Int32.reduceAdd, Int32.reduceToNatClampNeg, List.set_cons_zero, List.set_cons_succ]
  refine tB1 hgo (xn := 0) (xl := 0) (yn := 4) (yl := 4) (zn := 4) (zl := 4) rfl rfl rfl rfl rfl rfl (by decide) (by decide) (by decide) (by decide) (by decide) (by decide) rfl ?_
  simp only [Int32.reduceAdd, Int32.reduceToNatClampNeg, List.set_cons_zero, List.set_cons_succ]
  refine t2_16 hgo ?_
  refine t2_18 hgo rfl ?_
  refine res_of (u2_19 hgo) ?_
  simp only [eq_self, and_self, true_and, and_true, not_true_eq_false, not_false_eq_true, if_true, if_false, reduceIte, Option.bind_some, List.getElem?_cons_zero, List.getElem?_cons_succ, Nat.reduceAdd, Nat.reduceSub, Nat.reduceLT, Nat.reduceLeDiff, Nat.le_refl, Nat.zero_add, Nat.add_zero, List.length_cons, List.length_nil, Int32.reduceLT, Int32.reduceToNatClampNeg, Int32.reduceAdd, Int32.reduceSub, Int32.reduceMul, decide_true, pR_ref, arr, ln0, ln1, ln2, ln3, ln4, ln5, ln6, ln7, ln8, ln9, ln10, ln11, ln12, ln13, ln14, ln15, ln16, ln17, ln18, ln19, ln20, ln21, ln22, ln23, ln24, ln25, ln26, ln27, ln28, ln29, ln30, ln31, ln32, ln33, ln34, ln35, ln36]
  refine t2_20f hgo (by decide) ?_
  refine t2_76 hgo rfl ?_
  refine t2_77 hgo rfl ?_
  exact is_r
set_option maxRecDepth 65536 in
set_option maxHeartbeats 4000000 in
theorem mg_4_1 {w0 w1 w2 w3 : Int32} (ho : w0 < w1 ∧ w1 < w2 ∧ w2 < w3) : F2 [.ref 0, .ref 1] [.inr (.int, [.int w0]), .inr (.int, [.int w1, .int w2, .int w3])] = some (some (.ref 2), [.inr (.int, [.int w0]), .inr (.int, [.int w1, .int w2, .int w3]), .inr (.int, [.int w0, .int w1, .int w2, .int w3])]) := by
  have h_0_1 := ho.1
  have h_1_2 := ho.2.1
  have h_2_3 := ho.2.2
  have h_0_2 := own_lt_trans h_0_1 h_1_2
  have h_1_3 := own_lt_trans h_1_2 h_2_3
  have h_0_3 := own_lt_trans h_0_2 h_2_3
  refine is_of f2_in fun go hgo => ?_
  refine t2_0 hgo rfl ?_
  refine res_of (u2_1 hgo) ?_
  simp only [eq_self, and_self, true_and, and_true, not_true_eq_false, not_false_eq_true, if_true, if_false, reduceIte, Option.bind_some, List.getElem?_cons_zero, List.getElem?_cons_succ, Nat.reduceAdd, Nat.reduceSub, Nat.reduceLT, Nat.reduceLeDiff, Nat.le_refl, Nat.zero_add, Nat.add_zero, List.length_cons, List.length_nil, Int32.reduceLT, Int32.reduceToNatClampNeg, Int32.reduceAdd, Int32.reduceSub, Int32.reduceMul, decide_true, pR_ref, arr, ln0, ln1, ln2, ln3, ln4, ln5, ln6, ln7, ln8, ln9, ln10, ln11, ln12, ln13, ln14, ln15, ln16, ln17, ln18, ln19, ln20, ln21, ln22, ln23, ln24, ln25, ln26, ln27, ln28, ln29, ln30, ln31, ln32, ln33, ln34, ln35, ln36]
  refine t2_2 hgo rfl ?_
  refine res_of (u2_3 hgo) ?_
  simp only [eq_self, and_self, true_and, and_true, not_true_eq_false, not_false_eq_true, if_true, if_false, reduceIte, Option.bind_some, List.getElem?_cons_zero, List.getElem?_cons_succ, Nat.reduceAdd, Nat.reduceSub, Nat.reduceLT, Nat.reduceLeDiff, Nat.le_refl, Nat.zero_add, Nat.add_zero, List.length_cons, List.length_nil, Int32.reduceLT, Int32.reduceToNatClampNeg, Int32.reduceAdd, Int32.reduceSub, Int32.reduceMul, decide_true, pR_ref, arr, ln0, ln1, ln2, ln3, ln4, ln5, ln6, ln7, ln8, ln9, ln10, ln11, ln12, ln13, ln14, ln15, ln16, ln17, ln18, ln19, ln20, ln21, ln22, ln23, ln24, ln25, ln26, ln27, ln28, ln29, ln30, ln31, ln32, ln33, ln34, ln35, ln36]
  refine t2_4 hgo ?_
  refine res_of (u2_5 hgo) ?_
  simp only [eq_self, and_self, true_and, and_true, not_true_eq_false, not_false_eq_true, if_true, if_false, reduceIte, Option.bind_some, List.getElem?_cons_zero, List.getElem?_cons_succ, Nat.reduceAdd, Nat.reduceSub, Nat.reduceLT, Nat.reduceLeDiff, Nat.le_refl, Nat.zero_add, Nat.add_zero, List.length_cons, List.length_nil, Int32.reduceLT, Int32.reduceToNatClampNeg, Int32.reduceAdd, Int32.reduceSub, Int32.reduceMul, decide_true, aArr, List.nil_append, List.cons_append, List.replicate_zero, List.replicate_succ, defaultValue]
  refine t2_7 hgo rfl rfl ?_
  refine t2_8 hgo ?_
  refine t2_9 hgo rfl ?_
  refine t2_10 hgo ?_
  refine t2_11 hgo rfl ?_
  refine t2_13 hgo ?_
  refine t2_14 hgo rfl ?_
  refine tA2 hgo (xn := 1) (xl := 1) (yn := 3) (yl := 3) (zn := 4) (zl := 4) rfl rfl rfl rfl rfl rfl (by decide) (by decide) (by decide) (by decide) (by decide) (by decide) rfl (by decide) rfl h_0_1 ?_
  simp only [Int32.reduceAdd, Int32.reduceToNatClampNeg, List.set_cons_zero, List.set_cons_succ]
  refine tB1 hgo (xn := 1) (xl := 1) (yn := 3) (yl := 3) (zn := 4) (zl := 4) rfl rfl rfl rfl rfl rfl (by decide) (by decide) (by decide) (by decide) (by decide) (by decide) rfl ?_
  simp only [Int32.reduceAdd, Int32.reduceToNatClampNeg, List.set_cons_zero, List.set_cons_succ]
  refine tB1 hgo (xn := 1) (xl := 1) (yn := 3) (yl := 3) (zn := 4) (zl := 4) rfl rfl rfl rfl rfl rfl (by decide) (by decide) (by decide) (by decide) (by decide) (by decide) rfl ?_
  simp only [Int32.reduceAdd, Int32.reduceToNatClampNeg, List.set_cons_zero, List.set_cons_succ]
  refine tB1 hgo (xn := 1) (xl := 1) (yn := 3) (yl := 3) (zn := 4) (zl := 4) rfl rfl rfl rfl rfl rfl (by decide) (by decide) (by decide) (by decide) (by decide) (by decide) rfl ?_
  simp only [Int32.reduceAdd, Int32.reduceToNatClampNeg, List.set_cons_zero, List.set_cons_succ]
  refine t2_16 hgo ?_
  refine t2_18 hgo rfl ?_
  refine res_of (u2_19 hgo) ?_
  simp only [eq_self, and_self, true_and, and_true, not_true_eq_false, not_false_eq_true, if_true, if_false, reduceIte, Option.bind_some, List.getElem?_cons_zero, List.getElem?_cons_succ, Nat.reduceAdd, Nat.reduceSub, Nat.reduceLT, Nat.reduceLeDiff, Nat.le_refl, Nat.zero_add, Nat.add_zero, List.length_cons, List.length_nil, Int32.reduceLT, Int32.reduceToNatClampNeg, Int32.reduceAdd, Int32.reduceSub, Int32.reduceMul, decide_true, pR_ref, arr, ln0, ln1, ln2, ln3, ln4, ln5, ln6, ln7, ln8, ln9, ln10, ln11, ln12, ln13, ln14, ln15, ln16, ln17, ln18, ln19, ln20, ln21, ln22, ln23, ln24, ln25, ln26, ln27, ln28, ln29, ln30, ln31, ln32, ln33, ln34, ln35, ln36]
  refine t2_20f hgo (by decide) ?_
  refine t2_76 hgo rfl ?_
  refine t2_77 hgo rfl ?_
  exact is_r
set_option maxRecDepth 65536 in
set_option maxHeartbeats 4000000 in
theorem mg_4_2 {w0 w1 w2 w3 : Int32} (ho : w0 < w1 ∧ w1 < w2 ∧ w2 < w3) : F2 [.ref 0, .ref 1] [.inr (.int, [.int w1]), .inr (.int, [.int w0, .int w2, .int w3])] = some (some (.ref 2), [.inr (.int, [.int w1]), .inr (.int, [.int w0, .int w2, .int w3]), .inr (.int, [.int w0, .int w1, .int w2, .int w3])]) := by
  have h_0_1 := ho.1
  have h_1_2 := ho.2.1
  have h_2_3 := ho.2.2
  have h_0_2 := own_lt_trans h_0_1 h_1_2
  have h_1_3 := own_lt_trans h_1_2 h_2_3
  have h_0_3 := own_lt_trans h_0_2 h_2_3
  refine is_of f2_in fun go hgo => ?_
  refine t2_0 hgo rfl ?_
  refine res_of (u2_1 hgo) ?_
  simp only [eq_self, and_self, true_and, and_true, not_true_eq_false, not_false_eq_true, if_true, if_false, reduceIte, Option.bind_some, List.getElem?_cons_zero, List.getElem?_cons_succ, Nat.reduceAdd, Nat.reduceSub, Nat.reduceLT, Nat.reduceLeDiff, Nat.le_refl, Nat.zero_add, Nat.add_zero, List.length_cons, List.length_nil, Int32.reduceLT, Int32.reduceToNatClampNeg, Int32.reduceAdd, Int32.reduceSub, Int32.reduceMul, decide_true, pR_ref, arr, ln0, ln1, ln2, ln3, ln4, ln5, ln6, ln7, ln8, ln9, ln10, ln11, ln12, ln13, ln14, ln15, ln16, ln17, ln18, ln19, ln20, ln21, ln22, ln23, ln24, ln25, ln26, ln27, ln28, ln29, ln30, ln31, ln32, ln33, ln34, ln35, ln36]
  refine t2_2 hgo rfl ?_
  refine res_of (u2_3 hgo) ?_
  simp only [eq_self, and_self, true_and, and_true, not_true_eq_false, not_false_eq_true, if_true, if_false, reduceIte, Option.bind_some, List.getElem?_cons_zero, List.getElem?_cons_succ, Nat.reduceAdd, Nat.reduceSub, Nat.reduceLT, Nat.reduceLeDiff, Nat.le_refl, Nat.zero_add, Nat.add_zero, List.length_cons, List.length_nil, Int32.reduceLT, Int32.reduceToNatClampNeg, Int32.reduceAdd, Int32.reduceSub, Int32.reduceMul, decide_true, pR_ref, arr, ln0, ln1, ln2, ln3, ln4, ln5, ln6, ln7, ln8, ln9, ln10, ln11, ln12, ln13, ln14, ln15, ln16, ln17, ln18, ln19, ln20, ln21, ln22, ln23, ln24, ln25, ln26, ln27, ln28, ln29, ln30, ln31, ln32, ln33, ln34, ln35, ln36]
  refine t2_4 hgo ?_
  refine res_of (u2_5 hgo) ?_
  simp only [eq_self, and_self, true_and, and_true, not_true_eq_false, not_false_eq_true, if_true, if_false, reduceIte, Option.bind_some, List.getElem?_cons_zero, List.getElem?_cons_succ, Nat.reduceAdd, Nat.reduceSub, Nat.reduceLT, Nat.reduceLeDiff, Nat.le_refl, Nat.zero_add, Nat.add_zero, List.length_cons, List.length_nil, Int32.reduceLT, Int32.reduceToNatClampNeg, Int32.reduceAdd, Int32.reduceSub, Int32.reduceMul, decide_true, aArr, List.nil_append, List.cons_append, List.replicate_zero, List.replicate_succ, defaultValue]
  refine t2_7 hgo rfl rfl ?_
  refine t2_8 hgo ?_
  refine t2_9 hgo rfl ?_
  refine t2_10 hgo ?_
  refine t2_11 hgo rfl ?_
  refine t2_13 hgo ?_
  refine t2_14 hgo rfl ?_
  refine tB2 hgo (xn := 1) (xl := 1) (yn := 3) (yl := 3) (zn := 4) (zl := 4) rfl rfl rfl rfl rfl rfl (by decide) (by decide) (by decide) (by decide) (by decide) (by decide) rfl (by decide) rfl (own_asym h_0_1) ?_
  simp only [Int32.reduceAdd, Int32.reduceToNatClampNeg, List.set_cons_zero, List.set_cons_succ]
  refine tA2 hgo (xn := 1) (xl := 1) (yn := 3) (yl := 3) (zn := 4) (zl := 4) rfl rfl rfl rfl rfl rfl (by decide) (by decide) (by decide) (by decide) (by decide) (by decide) rfl (by decide) rfl h_1_2 ?_
  simp only [Int32.reduceAdd, Int32.reduceToNatClampNeg, List.set_cons_zero, List.set_cons_succ]
  refine tB1 hgo (xn := 1) (xl := 1) (yn := 3) (yl := 3) (zn := 4) (zl := 4) rfl rfl rfl rfl rfl rfl (by decide) (by decide) (by decide) (by decide) (by decide) (by decide) rfl ?_
  simp only [Int32.reduceAdd, Int32.reduceToNatClampNeg, List.set_cons_zero, List.set_cons_succ]
  refine tB1 hgo (xn := 1) (xl := 1) (yn := 3) (yl := 3) (zn := 4) (zl := 4) rfl rfl rfl rfl rfl rfl (by decide) (by decide) (by decide) (by decide) (by decide) (by decide) rfl ?_
  simp only [Int32.reduceAdd, Int32.reduceToNatClampNeg, List.set_cons_zero, List.set_cons_succ]
  refine t2_16 hgo ?_
  refine t2_18 hgo rfl ?_
  refine res_of (u2_19 hgo) ?_
  simp only [eq_self, and_self, true_and, and_true, not_true_eq_false, not_false_eq_true, if_true, if_false, reduceIte, Option.bind_some, List.getElem?_cons_zero, List.getElem?_cons_succ, Nat.reduceAdd, Nat.reduceSub, Nat.reduceLT, Nat.reduceLeDiff, Nat.le_refl, Nat.zero_add, Nat.add_zero, List.length_cons, List.length_nil, Int32.reduceLT, Int32.reduceToNatClampNeg, Int32.reduceAdd, Int32.reduceSub, Int32.reduceMul, decide_true, pR_ref, arr, ln0, ln1, ln2, ln3, ln4, ln5, ln6, ln7, ln8, ln9, ln10, ln11, ln12, ln13, ln14, ln15, ln16, ln17, ln18, ln19, ln20, ln21, ln22, ln23, ln24, ln25, ln26, ln27, ln28, ln29, ln30, ln31, ln32, ln33, ln34, ln35, ln36]
  refine t2_20f hgo (by decide) ?_
  refine t2_76 hgo rfl ?_
  refine t2_77 hgo rfl ?_
  exact is_r
set_option maxRecDepth 65536 in
set_option maxHeartbeats 4000000 in
theorem mg_4_3 {w0 w1 w2 w3 : Int32} (ho : w0 < w1 ∧ w1 < w2 ∧ w2 < w3) : F2 [.ref 0, .ref 1] [.inr (.int, [.int w0, .int w1]), .inr (.int, [.int w2, .int w3])] = some (some (.ref 2), [.inr (.int, [.int w0, .int w1]), .inr (.int, [.int w2, .int w3]), .inr (.int, [.int w0, .int w1, .int w2, .int w3])]) := by
  have h_0_1 := ho.1
  have h_1_2 := ho.2.1
  have h_2_3 := ho.2.2
  have h_0_2 := own_lt_trans h_0_1 h_1_2
  have h_1_3 := own_lt_trans h_1_2 h_2_3
  have h_0_3 := own_lt_trans h_0_2 h_2_3
  refine is_of f2_in fun go hgo => ?_
  refine t2_0 hgo rfl ?_
  refine res_of (u2_1 hgo) ?_
  simp only [eq_self, and_self, true_and, and_true, not_true_eq_false, not_false_eq_true, if_true, if_false, reduceIte, Option.bind_some, List.getElem?_cons_zero, List.getElem?_cons_succ, Nat.reduceAdd, Nat.reduceSub, Nat.reduceLT, Nat.reduceLeDiff, Nat.le_refl, Nat.zero_add, Nat.add_zero, List.length_cons, List.length_nil, Int32.reduceLT, Int32.reduceToNatClampNeg, Int32.reduceAdd, Int32.reduceSub, Int32.reduceMul, decide_true, pR_ref, arr, ln0, ln1, ln2, ln3, ln4, ln5, ln6, ln7, ln8, ln9, ln10, ln11, ln12, ln13, ln14, ln15, ln16, ln17, ln18, ln19, ln20, ln21, ln22, ln23, ln24, ln25, ln26, ln27, ln28, ln29, ln30, ln31, ln32, ln33, ln34, ln35, ln36]
  refine t2_2 hgo rfl ?_
  refine res_of (u2_3 hgo) ?_
  simp only [eq_self, and_self, true_and, and_true, not_true_eq_false, not_false_eq_true, if_true, if_false, reduceIte, Option.bind_some, List.getElem?_cons_zero, List.getElem?_cons_succ, Nat.reduceAdd, Nat.reduceSub, Nat.reduceLT, Nat.reduceLeDiff, Nat.le_refl, Nat.zero_add, Nat.add_zero, List.length_cons, List.length_nil, Int32.reduceLT, Int32.reduceToNatClampNeg, Int32.reduceAdd, Int32.reduceSub, Int32.reduceMul, decide_true, pR_ref, arr, ln0, ln1, ln2, ln3, ln4, ln5, ln6, ln7, ln8, ln9, ln10, ln11, ln12, ln13, ln14, ln15, ln16, ln17, ln18, ln19, ln20, ln21, ln22, ln23, ln24, ln25, ln26, ln27, ln28, ln29, ln30, ln31, ln32, ln33, ln34, ln35, ln36]
  refine t2_4 hgo ?_
  refine res_of (u2_5 hgo) ?_
  simp only [eq_self, and_self, true_and, and_true, not_true_eq_false, not_false_eq_true, if_true, if_false, reduceIte, Option.bind_some, List.getElem?_cons_zero, List.getElem?_cons_succ, Nat.reduceAdd, Nat.reduceSub, Nat.reduceLT, Nat.reduceLeDiff, Nat.le_refl, Nat.zero_add, Nat.add_zero, List.length_cons, List.length_nil, Int32.reduceLT, Int32.reduceToNatClampNeg, Int32.reduceAdd, Int32.reduceSub, Int32.reduceMul, decide_true, aArr, List.nil_append, List.cons_append, List.replicate_zero, List.replicate_succ, defaultValue]
  refine t2_7 hgo rfl rfl ?_
  refine t2_8 hgo ?_
  refine t2_9 hgo rfl ?_
  refine t2_10 hgo ?_
  refine t2_11 hgo rfl ?_
  refine t2_13 hgo ?_
  refine t2_14 hgo rfl ?_
  refine tA2 hgo (xn := 2) (xl := 2) (yn := 2) (yl := 2) (zn := 4) (zl := 4) rfl rfl rfl rfl rfl rfl (by decide) (by decide) (by decide) (by decide) (by decide) (by decide) rfl (by decide) rfl h_0_2 ?_
  simp only [Int32.reduceAdd, Int32.reduceToNatClampNeg, List.set_cons_zero, List.set_cons_succ]
  refine tA2 hgo (xn := 2) (xl := 2) (yn := 2) (yl := 2) (zn := 4) (zl := 4) rfl rfl rfl rfl rfl rfl (by decide) (by decide) (by decide) (by decide) (by decide) (by decide) rfl (by decide) rfl h_1_2 ?_
  simp only [Int32.reduceAdd, Int32.reduceToNatClampNeg, List.set_cons_zero, List.set_cons_succ]
  refine tB1 hgo (xn := 2) (xl := 2) (yn := 2) (yl := 2) (zn := 4) (zl := 4) rfl rfl rfl rfl rfl rfl (by decide) (by decide) (by decide) (by decide) (by decide) (by decide) rfl ?_
  simp only [Int32.reduceAdd, Int32.reduceToNatClampNeg, List.set_cons_zero, List.set_cons_succ]
  refine tB1 hgo (xn := 2) (xl := 2) (yn := 2) (yl := 2) (zn := 4) (zl := 4) rfl rfl rfl rfl rfl rfl (by decide) (by decide) (by decide) (by decide) (by decide) (by decide) rfl ?_
  simp only [Int32.reduceAdd, Int32.reduceToNatClampNeg, List.set_cons_zero, List.set_cons_succ]
  refine t2_16 hgo ?_
  refine t2_18 hgo rfl ?_
  refine res_of (u2_19 hgo) ?_
  simp only [eq_self, and_self, true_and, and_true, not_true_eq_false, not_false_eq_true, if_true, if_false, reduceIte, Option.bind_some, List.getElem?_cons_zero, List.getElem?_cons_succ, Nat.reduceAdd, Nat.reduceSub, Nat.reduceLT, Nat.reduceLeDiff, Nat.le_refl, Nat.zero_add, Nat.add_zero, List.length_cons, List.length_nil, Int32.reduceLT, Int32.reduceToNatClampNeg, Int32.reduceAdd, Int32.reduceSub, Int32.reduceMul, decide_true, pR_ref, arr, ln0, ln1, ln2, ln3, ln4, ln5, ln6, ln7, ln8, ln9, ln10, ln11, ln12, ln13, ln14, ln15, ln16, ln17, ln18, ln19, ln20, ln21, ln22, ln23, ln24, ln25, ln26, ln27, ln28, ln29, ln30, ln31, ln32, ln33, ln34, ln35, ln36]
  refine t2_20f hgo (by decide) ?_
  refine t2_76 hgo rfl ?_
  refine t2_77 hgo rfl ?_
  exact is_r
set_option maxRecDepth 65536 in
set_option maxHeartbeats 4000000 in
theorem mg_4_4 {w0 w1 w2 w3 : Int32} (ho : w0 < w1 ∧ w1 < w2 ∧ w2 < w3) : F2 [.ref 0, .ref 1] [.inr (.int, [.int w2]), .inr (.int, [.int w0, .int w1, .int w3])] = some (some (.ref 2), [.inr (.int, [.int w2]), .inr (.int, [.int w0, .int w1, .int w3]), .inr (.int, [.int w0, .int w1, .int w2, .int w3])]) := by
  have h_0_1 := ho.1
  have h_1_2 := ho.2.1
  have h_2_3 := ho.2.2
  have h_0_2 := own_lt_trans h_0_1 h_1_2
  have h_1_3 := own_lt_trans h_1_2 h_2_3
  have h_0_3 := own_lt_trans h_0_2 h_2_3
  refine is_of f2_in fun go hgo => ?_
  refine t2_0 hgo rfl ?_
  refine res_of (u2_1 hgo) ?_
  simp only [eq_self, and_self, true_and, and_true, not_true_eq_false, not_false_eq_true, if_true, if_false, reduceIte, Option.bind_some, List.getElem?_cons_zero, List.getElem?_cons_succ, Nat.reduceAdd, Nat.reduceSub, Nat.reduceLT, Nat.reduceLeDiff, Nat.le_refl, Nat.zero_add, Nat.add_zero, List.length_cons, List.length_nil, Int32.reduceLT, Int32.reduceToNatClampNeg, Int32.reduceAdd, Int32.reduceSub, Int32.reduceMul, decide_true, pR_ref, arr, ln0, ln1, ln2, ln3, ln4, ln5, ln6, ln7, ln8, ln9, ln10, ln11, ln12, ln13, ln14, ln15, ln16, ln17, ln18, ln19, ln20, ln21, ln22, ln23, ln24, ln25, ln26, ln27, ln28, ln29, ln30, ln31, ln32, ln33, ln34, ln35, ln36]
  refine t2_2 hgo rfl ?_
  refine res_of (u2_3 hgo) ?_
  simp only [eq_self, and_self, true_and, and_true, not_true_eq_false, not_false_eq_true, if_true, if_false, reduceIte, Option.bind_some, List.getElem?_cons_zero, List.getElem?_cons_succ, Nat.reduceAdd, Nat.reduceSub, Nat.reduceLT, Nat.reduceLeDiff, Nat.le_refl, Nat.zero_add, Nat.add_zero, List.length_cons, List.length_nil, Int32.reduceLT, Int32.reduceToNatClampNeg, Int32.reduceAdd, Int32.reduceSub, Int32.reduceMul, decide_true, pR_ref, arr, ln0, ln1, ln2, ln3, ln4, ln5, ln6, ln7, ln8, ln9, ln10, ln11, ln12, ln13, ln14, ln15, ln16, ln17, ln18, ln19, ln20, ln21, ln22, ln23, ln24, ln25, ln26, ln27, ln28, ln29, ln30, ln31, ln32, ln33, ln34, ln35, ln36]
  refine t2_4 hgo ?_
  refine res_of (u2_5 hgo) ?_
  simp only [eq_self, and_self, true_and, and_true, not_true_eq_false, not_false_eq_true, if_true, if_false, reduceIte, Option.bind_some, List.getElem?_cons_zero, List.getElem?_cons_succ, Nat.reduceAdd, Nat.reduceSub, Nat.reduceLT, Nat.reduceLeDiff, Nat.le_refl, Nat.zero_add, Nat.add_zero, List.length_cons, List.length_nil, Int32.reduceLT, Int32.reduceToNatClampNeg, Int32.reduceAdd, Int32.reduceSub, Int32.reduceMul, decide_true, aArr, List.nil_append, List.cons_append, List.replicate_zero, List.replicate_succ, defaultValue]
  refine t2_7 hgo rfl rfl ?_
  refine t2_8 hgo ?_
  refine t2_9 hgo rfl ?_
  refine t2_10 hgo ?_
  refine t2_11 hgo rfl ?_
  refine t2_13 hgo ?_
  refine t2_14 hgo rfl ?_
  refine tB2 hgo (xn := 1) (xl := 1) (yn := 3) (yl := 3) (zn := 4) (zl := 4) rfl rfl rfl rfl rfl rfl (by decide) (by decide) (by decide) (by decide) (by decide) (by decide) rfl (by decide) rfl (own_asym h_0_2) ?_
  simp only [Int32.reduceAdd, Int32.reduceToNatClampNeg, List.set_cons_zero, List.set_cons_succ]
  refine tB2 hgo (xn := 1) (xl := 1) (yn := 3) (yl := 3) (zn := 4) (zl := 4) rfl rfl rfl rfl rfl rfl (by decide) (by decide) (by decide) (by decide) (by decide) (by decide) rfl (by decide) rfl (own_asym h_1_2) ?_
  simp only [Int32.reduceAdd, Int32.reduceToNatClampNeg, List.set_cons_zero, List.set_cons_succ]
  refine tA2 hgo (xn := 1) (xl := 1) (yn := 3) (yl := 3) (zn := 4) (zl := 4) rfl rfl rfl rfl rfl rfl (by decide) (by decide) (by decide) (by decide) (by decide) (by decide) rfl (by decide) rfl h_2_3 ?_
  simp only [Int32.reduceAdd, Int32.reduceToNatClampNeg, List.set_cons_zero, List.set_cons_succ]
  refine tB1 hgo (xn := 1) (xl := 1) (yn := 3) (yl := 3) (zn := 4) (zl := 4) rfl rfl rfl rfl rfl rfl (by decide) (by decide) (by decide) (by decide) (by decide) (by decide) rfl ?_
  simp only [Int32.reduceAdd, Int32.reduceToNatClampNeg, List.set_cons_zero, List.set_cons_succ]
  refine t2_16 hgo ?_
  refine t2_18 hgo rfl ?_
  refine res_of (u2_19 hgo) ?_
  simp only [eq_self, and_self, true_and, and_true, not_true_eq_false, not_false_eq_true, if_true, if_false, reduceIte, Option.bind_some, List.getElem?_cons_zero, List.getElem?_cons_succ, Nat.reduceAdd, Nat.reduceSub, Nat.reduceLT, Nat.reduceLeDiff, Nat.le_refl, Nat.zero_add, Nat.add_zero, List.length_cons, List.length_nil, Int32.reduceLT, Int32.reduceToNatClampNeg, Int32.reduceAdd, Int32.reduceSub, Int32.reduceMul, decide_true, pR_ref, arr, ln0, ln1, ln2, ln3, ln4, ln5, ln6, ln7, ln8, ln9, ln10, ln11, ln12, ln13, ln14, ln15, ln16, ln17, ln18, ln19, ln20, ln21, ln22, ln23, ln24, ln25, ln26, ln27, ln28, ln29, ln30, ln31, ln32, ln33, ln34, ln35, ln36]
  refine t2_20f hgo (by decide) ?_
  refine t2_76 hgo rfl ?_
  refine t2_77 hgo rfl ?_
  exact is_r
set_option maxRecDepth 65536 in
set_option maxHeartbeats 4000000 in
theorem mg_4_5 {w0 w1 w2 w3 : Int32} (ho : w0 < w1 ∧ w1 < w2 ∧ w2 < w3) : F2 [.ref 0, .ref 1] [.inr (.int, [.int w0, .int w2]), .inr (.int, [.int w1, .int w3])] = some (some (.ref 2), [.inr (.int, [.int w0, .int w2]), .inr (.int, [.int w1, .int w3]), .inr (.int, [.int w0, .int w1, .int w2, .int w3])]) := by
  have h_0_1 := ho.1
  have h_1_2 := ho.2.1
  have h_2_3 := ho.2.2
  have h_0_2 := own_lt_trans h_0_1 h_1_2
  have h_1_3 := own_lt_trans h_1_2 h_2_3
  have h_0_3 := own_lt_trans h_0_2 h_2_3
  refine is_of f2_in fun go hgo => ?_
  refine t2_0 hgo rfl ?_
  refine res_of (u2_1 hgo) ?_
  simp only [eq_self, and_self, true_and, and_true, not_true_eq_false, not_false_eq_true, if_true, if_false, reduceIte, Option.bind_some, List.getElem?_cons_zero, List.getElem?_cons_succ, Nat.reduceAdd, Nat.reduceSub, Nat.reduceLT, Nat.reduceLeDiff, Nat.le_refl, Nat.zero_add, Nat.add_zero, List.length_cons, List.length_nil, Int32.reduceLT, Int32.reduceToNatClampNeg, Int32.reduceAdd, Int32.reduceSub, Int32.reduceMul, decide_true, pR_ref, arr, ln0, ln1, ln2, ln3, ln4, ln5, ln6, ln7, ln8, ln9, ln10, ln11, ln12, ln13, ln14, ln15, ln16, ln17, ln18, ln19, ln20, ln21, ln22, ln23, ln24, ln25, ln26, ln27, ln28, ln29, ln30, ln31, ln32, ln33, ln34, ln35, ln36]
  refine t2_2 hgo rfl ?_
  refine res_of (u2_3 hgo) ?_
  simp only [eq_self, and_self, true_and, and_true, not_true_eq_false, not_false_eq_true, if_true, if_false, reduceIte, Option.bind_some, List.getElem?_cons_zero, List.getElem?_cons_succ, Nat.reduceAdd, Nat.reduceSub, Nat.reduceLT, Nat.reduceLeDiff, Nat.le_refl, Nat.zero_add, Nat.add_zero, List.length_cons, List.length_nil, Int32.reduceLT, Int32.reduceToNatClampNeg, Int32.reduceAdd, Int32.reduceSub, Int32.reduceMul, decide_true, pR_ref, arr, ln0, ln1, ln2, ln3, ln4, ln5, ln6, ln7, ln8, ln9, ln10, ln11, ln12, ln13, ln14, ln15, ln16, ln17, ln18, ln19, ln20, ln21, ln22, ln23, ln24, ln25, ln26, ln27, ln28, ln29, ln30, ln31, ln32, ln33, ln34, ln35, ln36]
  refine t2_4 hgo ?_
  refine res_of (u2_5 hgo) ?_
  simp only [eq_self, and_self, true_and, and_true, not_true_eq_false, not_false_eq_true, if_true, if_false, reduceIte, Option.bind_some, List.getElem?_cons_zero, List.getElem?_cons_succ, Nat.reduceAdd, Nat.reduceSub, Nat.reduceLT, Nat.reduceLeDiff, Nat.le_refl, Nat.zero_add, Nat.add_zero, List.length_cons, List.length_nil, Int32.reduceLT, Int32.reduceToNatClampNeg, Int32.reduceAdd, Int32.reduceSub, Int32.reduceMul, decide_true, aArr, List.nil_append, List.cons_append, List.replicate_zero, List.replicate_succ, defaultValue]
  refine t2_7 hgo rfl rfl ?_
  refine t2_8 hgo ?_
  refine t2_9 hgo rfl ?_
  refine t2_10 hgo ?_
  refine t2_11 hgo rfl ?_
  refine t2_13 hgo ?_
  refine t2_14 hgo rfl ?_
  refine tA2 hgo (xn := 2) (xl := 2) (yn := 2) (yl := 2) (zn := 4) (zl := 4) rfl rfl rfl rfl rfl rfl (by decide) (by decide) (by decide) (by decide) (by decide) (by decide) rfl (by decide) rfl h_0_1 ?_
  simp only [Int32.reduceAdd, Int32.reduceToNatClampNeg, List.set_cons_zero, List.set_cons_succ]
  refine tB2 hgo (xn := 2) (xl := 2) (yn := 2) (yl := 2) (zn := 4) (zl := 4) rfl rfl rfl rfl rfl rfl (by decide) (by decide) (by decide) (by decide) (by decide) (by decide) rfl (by decide) rfl (own_asym h_1_2) ?_
  simp only [Int32.reduceAdd, Int32.reduceToNatClampNeg, List.set_cons_zero, List.set_cons_succ]
  refine tA2 hgo (xn := 2) (xl := 2) (yn := 2) (yl := 2) (zn := 4) (zl := 4) rfl rfl rfl rfl rfl rfl (by decide) (by decide) (by decide) (by decide) (by decide) (by decide) rfl (by decide) rfl h_2_3 ?_
  simp only [Int32.reduceAdd, Int32.reduceToNatClampNeg, List.set_cons_zero, List.set_cons_succ]
  refine tB1 hgo (xn := 2) (xl := 2) (yn := 2) (yl := 2) (zn := 4) (zl := 4) rfl rfl rfl rfl rfl rfl (by decide) (by decide) (by decide) (by decide) (by decide) (by decide) rfl ?_
  simp only [Int32.reduceAdd, Int32.reduceToNatClampNeg, List.set_cons_zero, List.set_cons_succ]
  refine t2_16 hgo ?_
  refine t2_18 hgo rfl ?_
  refine res_of (u2_19 hgo) ?_
  simp only [eq_self, and_self, true_and, and_true, not_true_eq_false, not_false_eq_true, if_true, if_false, reduceIte, Option.bind_some, List.getElem?_cons_zero, List.getElem?_cons_succ, Nat.reduceAdd, Nat.reduceSub, Nat.reduceLT, Nat.reduceLeDiff, Nat.le_refl, Nat.zero_add, Nat.add_zero, List.length_cons, List.length_nil, Int32.reduceLT, Int32.reduceToNatClampNeg, Int32.reduceAdd, Int32.reduceSub, Int32.reduceMul, decide_true, pR_ref, arr, ln0, ln1, ln2, ln3, ln4, ln5, ln6, ln7, ln8, ln9, ln10, ln11, ln12, ln13, ln14, ln15, ln16, ln17, ln18, ln19, ln20, ln21, ln22, ln23, ln24, ln25, ln26, ln27, ln28, ln29, ln30, ln31, ln32, ln33, ln34, ln35, ln36]
  refine t2_20f hgo (by decide) ?_
  refine t2_76 hgo rfl ?_
  refine t2_77 hgo rfl ?_
  exact is_r
set_option maxRecDepth 65536 in
set_option maxHeartbeats 4000000 in
theorem mg_4_6 {w0 w1 w2 w3 : Int32} (ho : w0 < w1 ∧ w1 < w2 ∧ w2 < w3) : F2 [.ref 0, .ref 1] [.inr (.int, [.int w1, .int w2]), .inr (.int, [.int w0, .int w3])] = some (some (.ref 2), [.inr (.int, [.int w1, .int w2]), .inr (.int, [.int w0, .int w3]), .inr (.int, [.int w0, .int w1, .int w2, .int w3])]) := by
  have h_0_1 := ho.1
  have h_1_2 := ho.2.1
  have h_2_3 := ho.2.2
  have h_0_2 := own_lt_trans h_0_1 h_1_2
  have h_1_3 := own_lt_trans h_1_2 h_2_3
  have h_0_3 := own_lt_trans h_0_2 h_2_3
  refine is_of f2_in fun go hgo => ?_
  refine t2_0 hgo rfl ?_
  refine res_of (u2_1 hgo) ?_
  simp only [eq_self, and_self, true_and, and_true, not_true_eq_false, not_false_eq_true, if_true, if_false, reduceIte, Option.bind_some, List.getElem?_cons_zero, List.getElem?_cons_succ, Nat.reduceAdd, Nat.reduceSub, Nat.reduceLT, Nat.reduceLeDiff, Nat.le_refl, Nat.zero_add, Nat.add_zero, List.length_cons, List.length_nil, Int32.reduceLT, Int32.reduceToNatClampNeg, Int32.reduceAdd, Int32.reduceSub, Int32.reduceMul, decide_true, pR_ref, arr, ln0, ln1, ln2, ln3, ln4, ln5, ln6, ln7, ln8, ln9, ln10, ln11, ln12, ln13, ln14, ln15, ln16, ln17, ln18, ln19, ln20, ln21, ln22, ln23, ln24, ln25, ln26, ln27, ln28, ln29, ln30, ln31, ln32, ln33, ln34, ln35, ln36]
  refine t2_2 hgo rfl ?_
  refine res_of (u2_3 hgo) ?_
  simp only [eq_self, and_self, true_and, and_true, not_true_eq_false, not_false_eq_true, if_true, if_false, reduceIte, Option.bind_some, List.getElem?_cons_zero, List.getElem?_cons_succ, Nat.reduceAdd, Nat.reduceSub, Nat.reduceLT, Nat.reduceLeDiff, Nat.le_refl, Nat.zero_add, Nat.add_zero, List.length_cons, List.length_nil, Int32.reduceLT, Int32.reduceToNatClampNeg, Int32.reduceAdd, Int32.reduceSub, Int32.reduceMul, decide_true, pR_ref, arr, ln0, ln1, ln2, ln3, ln4, ln5, ln6, ln7, ln8, ln9, ln10, ln11, ln12, ln13, ln14, ln15, ln16, ln17, ln18, ln19, ln20, ln21, ln22, ln23, ln24, ln25, ln26, ln27, ln28, ln29, ln30, ln31, ln32, ln33, ln34, ln35, ln36]
  refine t2_4 hgo ?_
  refine res_of (u2_5 hgo) ?_
  simp only [eq_self, and_self, true_and, and_true, not_true_eq_false, not_false_eq_true, if_true, if_false, reduceIte, Option.bind_some, List.getElem?_cons_zero, List.getElem?_cons_succ, Nat.reduceAdd, Nat.reduceSub, Nat.reduceLT, Nat.reduceLeDiff, Nat.le_refl, Nat.zero_add, Nat.add_zero, List.length_cons, List.length_nil, Int32.reduceLT, Int32.reduceToNatClampNeg, Int32.reduceAdd, Int32.reduceSub, Int32.reduceMul, decide_true, aArr, List.nil_append, List.cons_append, List.replicate_zero, List.replicate_succ, defaultValue]
  refine t2_7 hgo rfl rfl ?_
  refine t2_8 hgo ?_
  refine t2_9 hgo rfl ?_
  refine t2_10 hgo ?_
  refine t2_11 hgo rfl ?_
  refine t2_13 hgo ?_
  refine t2_14 hgo rfl ?_
  refine tB2 hgo (xn := 2) (xl := 2) (yn := 2) (yl := 2) (zn := 4) (zl := 4) rfl rfl rfl rfl rfl rfl (by decide) (by decide) (by decide) (by decide) (by decide) (by decide) rfl (by decide) rfl (own_asym h_0_1) ?_
  simp only [Int32.reduceAdd, Int32.reduceToNatClampNeg, List.set_cons_zero, List.set_cons_succ]
  refine tA2 hgo (xn := 2) (xl := 2) (yn := 2) (yl := 2) (zn := 4) (zl := 4) rfl rfl rfl rfl rfl rfl (by decide) (by decide) (by decide) (by decide) (by decide) (by decide) rfl (by decide) rfl h_1_3 ?_
  simp only [Int32.reduceAdd, Int32.reduceToNatClampNeg, List.set_cons_zero, List.set_cons_succ]
  refine tA2 hgo (xn := 2) (xl := 2) (yn := 2) (yl := 2) (zn := 4) (zl := 4) rfl rfl rfl rfl rfl rfl (by decide) (by decide) (by decide) (by decide) (by decide) (by decide) rfl (by decide) rfl h_2_3 ?_
  simp only [Int32.reduceAdd, Int32.reduceToNatClampNeg, List.set_cons_zero, List.set_cons_succ]
  refine tB1 hgo (xn := 2) (xl := 2) (yn := 2) (yl := 2) (zn := 4) (zl := 4) rfl rfl rfl rfl rfl rfl (by decide) (by decide) (by decide) (by decide) (by decide) (by decide) rfl ?_
  simp only [Int32.reduceAdd, Int32.reduceToNatClampNeg, List.set_cons_zero, List.set_cons_succ]
  refine t2_16 hgo ?_
  refine t2_18 hgo rfl ?_
  refine res_of (u2_19 hgo) ?_
  simp only [eq_self, and_self, true_and, and_true, not_true_eq_false, not_false_eq_true, if_true, if_false, reduceIte, Option.bind_some, List.getElem?_cons_zero, List.getElem?_cons_succ, Nat.reduceAdd, Nat.reduceSub, Nat.reduceLT, Nat.reduceLeDiff, Nat.le_refl, Nat.zero_add, Nat.add_zero, List.length_cons, List.length_nil, Int32.reduceLT, Int32.reduceToNatClampNeg, Int32.reduceAdd, Int32.reduceSub, Int32.reduceMul, decide_true, pR_ref, arr, ln0, ln1, ln2, ln3, ln4, ln5, ln6, ln7, ln8, ln9, ln10, ln11, ln12, ln13, ln14, ln15, ln16, ln17, ln18, ln19, ln20, ln21, ln22, ln23, ln24, ln25, ln26, ln27, ln28, ln29, ln30, ln31, ln32, ln33, ln34, ln35, ln36]
  refine t2_20f hgo (by decide) ?_
  refine t2_76 hgo rfl ?_
  refine t2_77 hgo rfl ?_
  exact is_r
set_option maxRecDepth 65536 in
set_option maxHeartbeats 4000000 in
theorem mg_4_7 {w0 w1 w2 w3 : Int32} (ho : w0 < w1 ∧ w1 < w2 ∧ w2 < w3) : F2 [.ref 0, .ref 1] [.inr (.int, [.int w0, .int w1, .int w2]), .inr (.int, [.int w3])] = some (some (.ref 2), [.inr (.int, [.int w0, .int w1, .int w2]), .inr (.int, [.int w3]), .inr (.int, [.int w0, .int w1, .int w2, .int w3])]) := by
  have h_0_1 := ho.1
  have h_1_2 := ho.2.1
  have h_2_3 := ho.2.2
  have h_0_2 := own_lt_trans h_0_1 h_1_2
  have h_1_3 := own_lt_trans h_1_2 h_2_3
  have h_0_3 := own_lt_trans h_0_2 h_2_3
  refine is_of f2_in fun go hgo => ?_
  refine t2_0 hgo rfl ?_
  refine res_of (u2_1 hgo) ?_
  simp only [eq_self, and_self, true_and, and_true, not_true_eq_false, not_false_eq_true, if_true, if_false, reduceIte, Option.bind_some, List.getElem?_cons_zero, List.getElem?_cons_succ, Nat.reduceAdd, Nat.reduceSub, Nat.reduceLT, Nat.reduceLeDiff, Nat.le_refl, Nat.zero_add, Nat.add_zero, List.length_cons, List.length_nil, Int32.reduceLT, Int32.reduceToNatClampNeg, Int32.reduceAdd, Int32.reduceSub, Int32.reduceMul, decide_true, pR_ref, arr, ln0, ln1, ln2, ln3, ln4, ln5, ln6, ln7, ln8, ln9, ln10, ln11, ln12, ln13, ln14, ln15, ln16, ln17, ln18, ln19, ln20, ln21, ln22, ln23, ln24, ln25, ln26, ln27, ln28, ln29, ln30, ln31, ln32, ln33, ln34, ln35, ln36]
  refine t2_2 hgo rfl ?_
  refine res_of (u2_3 hgo) ?_
  simp only [eq_self, and_self, true_and, and_true, not_true_eq_false, not_false_eq_true, if_true, if_false, reduceIte, Option.bind_some, List.getElem?_cons_zero, List.getElem?_cons_succ, Nat.reduceAdd, Nat.reduceSub, Nat.reduceLT, Nat.reduceLeDiff, Nat.le_refl, Nat.zero_add, Nat.add_zero, List.length_cons, List.length_nil, Int32.reduceLT, Int32.reduceToNatClampNeg, Int32.reduceAdd, Int32.reduceSub, Int32.reduceMul, decide_true, pR_ref, arr, ln0, ln1, ln2, ln3, ln4, ln5, ln6, ln7, ln8, ln9, ln10, ln11, ln12, ln13, ln14, ln15, ln16, ln17, ln18, ln19, ln20, ln21, ln22, ln23, ln24, ln25, ln26, ln27, ln28, ln29, ln30, ln31, ln32, ln33, ln34, ln35, ln36]
  refine t2_4 hgo ?_
  refine res_of (u2_5 hgo) ?_
  simp only [eq_self, and_self, true_and, and_true, not_true_eq_false, not_false_eq_true, if_true, if_false, reduceIte, Option.bind_some, List.getElem?_cons_zero, List.getElem?_cons_succ, Nat.reduceAdd, Nat.reduceSub, Nat.reduceLT, Nat.reduceLeDiff, Nat.le_refl, Nat.zero_add, Nat.add_zero, List.length_cons, List.length_nil, Int32.reduceLT, Int32.reduceToNatClampNeg, Int32.reduceAdd, Int32.reduceSub, Int32.reduceMul, decide_true, aArr, List.nil_append, List.cons_append, List.replicate_zero, List.replicate_succ, defaultValue]
  refine t2_7 hgo rfl rfl ?_
  refine t2_8 hgo ?_
  refine t2_9 hgo rfl ?_
  refine t2_10 hgo ?_
  refine t2_11 hgo rfl ?_
  refine t2_13 hgo ?_
  refine t2_14 hgo rfl ?_
  refine tA2 hgo (xn := 3) (xl := 3) (yn := 1) (yl := 1) (zn := 4) (zl := 4) rfl rfl rfl rfl rfl rfl (by decide) (by decide) (by decide) (by decide) (by decide) (by decide) rfl (by decide) rfl h_0_3 ?_
  simp only [Int32.reduceAdd, Int32.reduceToNatClampNeg, List.set_cons_zero, List.set_cons_succ]
  refine tA2 hgo (xn := 3) (xl := 3) (yn := 1) (yl := 1) (zn := 4) (zl := 4) rfl rfl rfl rfl rfl rfl (by decide) (by decide) (by decide) (by decide) (by decide) (by decide) rfl (by decide) rfl h_1_3 ?_
  simp only [Int32.reduceAdd, Int32.reduceToNatClampNeg, List.set_cons_zero, List.set_cons_succ]
  refine tA2 hgo (xn := 3) (xl := 3) (yn := 1) (yl := 1) (zn := 4) (zl := 4) rfl rfl rfl rfl rfl rfl (by decide) (by decide) (by decide) (by decide) (by decide) (by decide) rfl (by decide) rfl h_2_3 ?_
  simp only [Int32.reduceAdd, Int32.reduceToNatClampNeg, List.set_cons_zero, List.set_cons_succ]
  refine tB1 hgo (xn := 3) (xl := 3) (yn := 1) (yl := 1) (zn := 4) (zl := 4) rfl rfl rfl rfl rfl rfl (by decide) (by decide) (by decide) (by decide) (by decide) (by decide) rfl ?_
  simp only [Int32.reduceAdd, Int32.reduceToNatClampNeg, List.set_cons_zero, List.set_cons_succ]
  refine t2_16 hgo ?_
  refine t2_18 hgo rfl ?_
  refine res_of (u2_19 hgo) ?_
  simp only [eq_self, and_self, true_and, and_true, not_true_eq_false, not_false_eq_true, if_true, if_false, reduceIte, Option.bind_some, List.getElem?_cons_zero, List.getElem?_cons_succ, Nat.reduceAdd, Nat.reduceSub, Nat.reduceLT, Nat.reduceLeDiff, Nat.le_refl, Nat.zero_add, Nat.add_zero, List.length_cons, List.length_nil, Int32.reduceLT, Int32.reduceToNatClampNeg, Int32.reduceAdd, Int32.reduceSub, Int32.reduceMul, decide_true, pR_ref, arr, ln0, ln1, ln2, ln3, ln4, ln5, ln6, ln7, ln8, ln9, ln10, ln11, ln12, ln13, ln14, ln15, ln16, ln17, ln18, ln19, ln20, ln21, ln22, ln23, ln24, ln25, ln26, ln27, ln28, ln29, ln30, ln31, ln32, ln33, ln34, ln35, ln36]
  refine t2_20f hgo (by decide) ?_
  refine t2_76 hgo rfl ?_
  refine t2_77 hgo rfl ?_
  exact is_r
set_option maxRecDepth 65536 in
set_option maxHeartbeats 4000000 in
theorem mg_4_8 {w0 w1 w2 w3 : Int32} (ho : w0 < w1 ∧ w1 < w2 ∧ w2 < w3) : F2 [.ref 0, .ref 1] [.inr (.int, [.int w3]), .inr (.int, [.int w0, .int w1, .int w2])] = some (some (.ref 2), [.inr (.int, [.int w3]), .inr (.int, [.int w0, .int w1, .int w2]), .inr (.int, [.int w0, .int w1, .int w2, .int w3])]) := by
  have h_0_1 := ho.1
  have h_1_2 := ho.2.1
  have h_2_3 := ho.2.2
  have h_0_2 := own_lt_trans h_0_1 h_1_2
  have h_1_3 := own_lt_trans h_1_2 h_2_3
  have h_0_3 := own_lt_trans h_0_2 h_2_3
  refine is_of f2_in fun go hgo => ?_
  refine t2_0 hgo rfl ?_
  refine res_of (u2_1 hgo) ?_
  simp only [eq_self, and_self, true_and, and_true, not_true_eq_false, not_false_eq_true, if_true, if_false, reduceIte, Option.bind_some, List.getElem?_cons_zero, List.getElem?_cons_succ, Nat.reduceAdd, Nat.reduceSub, Nat.reduceLT, Nat.reduceLeDiff, Nat.le_refl, Nat.zero_add, Nat.add_zero, List.length_cons, List.length_nil, Int32.reduceLT, Int32.reduceToNatClampNeg, Int32.reduceAdd, Int32.reduceSub, Int32.reduceMul, decide_true, pR_ref, arr, ln0, ln1, ln2, ln3, ln4, ln5, ln6, ln7, ln8, ln9, ln10, ln11, ln12, ln13, ln14, ln15, ln16, ln17, ln18, ln19, ln20, ln21, ln22, ln23, ln24, ln25, ln26, ln27, ln28, ln29, ln30, ln31, ln32, ln33, ln34, ln35, ln36]
  refine t2_2 hgo rfl ?_
  refine res_of (u2_3 hgo) ?_
  simp only [eq_self, and_self, true_and, and_true, not_true_eq_false, not_false_eq_true, if_true, if_false, reduceIte, Option.bind_some, List.getElem?_cons_zero, List.getElem?_cons_succ, Nat.reduceAdd, Nat.reduceSub, Nat.reduceLT, Nat.reduceLeDiff, Nat.le_refl, Nat.zero_add, Nat.add_zero, List.length_cons, List.length_nil, Int32.reduceLT, Int32.reduceToNatClampNeg, Int32.reduceAdd, Int32.reduceSub, Int32.reduceMul, decide_true, pR_ref, arr, ln0, ln1, ln2, ln3, ln4, ln5, ln6, ln7, ln8, ln9, ln10, ln11, ln12, ln13, ln14, ln15, ln16, ln17, ln18, ln19, ln20, ln21, ln22, ln23, ln24, ln25, ln26, ln27, ln28, ln29, ln30, ln31, ln32, ln33, ln34, ln35, ln36]
  refine t2_4 hgo ?_
  refine res_of (u2_5 hgo) ?_
  simp only [eq_self, and_self, true_and, and_true, not_true_eq_false, not_false_eq_true, if_true, if_false, reduceIte, Option.bind_some, List.getElem?_cons_zero, List.getElem?_cons_succ, Nat.reduceAdd, Nat.reduceSub, Nat.reduceLT, Nat.reduceLeDiff, Nat.le_refl, Nat.zero_add, Nat.add_zero, List.length_cons, List.length_nil, Int32.reduceLT, Int32.reduceToNatClampNeg, Int32.reduceAdd, Int32.reduceSub, Int32.reduceMul, decide_true, aArr, List.nil_append, List.cons_append, List.replicate_zero, List.replicate_succ, defaultValue]
  refine t2_7 hgo rfl rfl ?_
  refine t2_8 hgo ?_
  refine t2_9 hgo rfl ?_
  refine t2_10 hgo ?_
  refine t2_11 hgo rfl ?_
  refine t2_13 hgo ?_
  refine t2_14 hgo rfl ?_
  refine tB2 hgo (xn := 1) (xl := 1) (yn := 3) (yl := 3) (zn := 4) (zl := 4) rfl rfl rfl rfl rfl rfl (by decide) (by decide) (by decide) (by decide) (by decide) (by decide) rfl (by decide) rfl (own_asym h_0_3) ?_
  simp only [Int32.reduceAdd, Int32.reduceToNatClampNeg, List.set_cons_zero, List.set_cons_succ]
  refine tB2 hgo (xn := 1) (xl := 1) (yn := 3) (yl := 3) (zn := 4) (zl := 4) rfl rfl rfl rfl rfl rfl (by decide) (by decide) (by decide) (by decide) (by decide) (by decide) rfl (by decide) rfl (own_asym h_1_3) ?_
  simp only [Int32.reduceAdd, Int32.reduceToNatClampNeg, List.set_cons_zero, List.set_cons_succ]
  refine tB2 hgo (xn := 1) (xl := 1) (yn := 3) (yl := 3) (zn := 4) (zl := 4) rfl rfl rfl rfl rfl rfl (by decide) (by decide) (by decide) (by decide) (by decide) (by decide) rfl (by decide) rfl (own_asym h_2_3) ?_
  simp only [Int32.reduceAdd, Int32.reduceToNatClampNeg, List.set_cons_zero, List.set_cons_succ]
  refine tA1 hgo (xn := 1) (xl := 1) (yn := 3) (yl := 3) (zn := 4) (zl := 4) rfl rfl rfl rfl rfl rfl (by decide) (by decide) (by decide) rfl (by decide) rfl ?_
  simp only [Int32.reduceAdd, Int32.reduceToNatClampNeg, List.set_cons_zero, List.set_cons_succ]
  refine t2_16 hgo ?_
  refine t2_18 hgo rfl ?_
  refine res_of (u2_19 hgo) ?_
  simp only [eq_self, and_self, true_and, and_true, not_true_eq_false, not_false_eq_true, if_true, if_false, reduceIte, Option.bind_some, List.getElem?_cons_zero, List.getElem?_cons_succ, Nat.reduceAdd, Nat.reduceSub, Nat.reduceLT, Nat.reduceLeDiff, Nat.le_refl, Nat.zero_add, Nat.add_zero, List.length_cons, List.length_nil, Int32.reduceLT, Int32.reduceToNatClampNeg, Int32.reduceAdd, Int32.reduceSub, Int32.reduceMul, decide_true, pR_ref, arr, ln0, ln1, ln2, ln3, ln4, ln5, ln6, ln7, ln8, ln9, ln10, ln11, ln12, ln13, ln14, ln15, ln16, ln17, ln18, ln19, ln20, ln21, ln22, ln23, ln24, ln25, ln26, ln27, ln28, ln29, ln30, ln31, ln32, ln33, ln34, ln35, ln36]
  refine t2_20f hgo (by decide) ?_
  refine t2_76 hgo rfl ?_
  refine t2_77 hgo rfl ?_
  exact is_r
set_option maxRecDepth 65536 in
set_option maxHeartbeats 4000000 in
theorem mg_4_9 {w0 w1 w2 w3 : Int32} (ho : w0 < w1 ∧ w1 < w2 ∧ w2 < w3) : F2 [.ref 0, .ref 1] [.inr (.int, [.int w0, .int w3]), .inr (.int, [.int w1, .int w2])] = some (some (.ref 2), [.inr (.int, [.int w0, .int w3]), .inr (.int, [.int w1, .int w2]), .inr (.int, [.int w0, .int w1, .int w2, .int w3])]) := by
  have h_0_1 := ho.1
  have h_1_2 := ho.2.1
  have h_2_3 := ho.2.2
  have h_0_2 := own_lt_trans h_0_1 h_1_2
  have h_1_3 := own_lt_trans h_1_2 h_2_3
  have h_0_3 := own_lt_trans h_0_2 h_2_3
  refine is_of f2_in fun go hgo => ?_
  refine t2_0 hgo rfl ?_
  refine res_of (u2_1 hgo) ?_
  simp only [eq_self, and_self, true_and, and_true, not_true_eq_false, not_false_eq_true, if_true, if_false, reduceIte, Option.bind_some, List.getElem?_cons_zero, List.getElem?_cons_succ, Nat.reduceAdd, Nat.reduceSub, Nat.reduceLT, Nat.reduceLeDiff, Nat.le_refl, Nat.zero_add, Nat.add_zero, List.length_cons, List.length_nil, Int32.reduceLT, Int32.reduceToNatClampNeg, Int32.reduceAdd, Int32.reduceSub, Int32.reduceMul, decide_true, pR_ref, arr, ln0, ln1, ln2, ln3, ln4, ln5, ln6, ln7, ln8, ln9, ln10, ln11, ln12, ln13, ln14, ln15, ln16, ln17, ln18, ln19, ln20, ln21, ln22, ln23, ln24, ln25, ln26, ln27, ln28, ln29, ln30, ln31, ln32, ln33, ln34, ln35, ln36]
  refine t2_2 hgo rfl ?_
  refine res_of (u2_3 hgo) ?_
  simp only [eq_self, and_self, true_and, and_true, not_true_eq_false, not_false_eq_true, if_true, if_false, reduceIte, Option.bind_some, List.getElem?_cons_zero, List.getElem?_cons_succ, Nat.reduceAdd, Nat.reduceSub, Nat.reduceLT, Nat.reduceLeDiff, Nat.le_refl, Nat.zero_add, Nat.add_zero, List.length_cons, List.length_nil, Int32.reduceLT, Int32.reduceToNatClampNeg, Int32.reduceAdd, Int32.reduceSub, Int32.reduceMul, decide_true, pR_ref, arr, ln0, ln1, ln2, ln3, ln4, ln5, ln6, ln7, ln8, ln9, ln10, ln11, ln12, ln13, ln14, ln15, ln16, ln17, ln18, ln19, ln20, ln21, ln22, ln23, ln24, ln25, ln26, ln27, ln28, ln29, ln30, ln31, ln32, ln33, ln34, ln35, ln36]
  refine t2_4 hgo ?_
  refine res_of (u2_5 hgo) ?_
  simp only [eq_self, and_self, true_and, and_true, not_true_eq_false, not_false_eq_true, if_true, if_false, reduceIte, Option.bind_some, List.getElem?_cons_zero, List.getElem?_cons_succ, Nat.reduceAdd, Nat.reduceSub, Nat.reduceLT, Nat.reduceLeDiff, Nat.le_refl, Nat.zero_add, Nat.add_zero, List.length_cons, List.length_nil, Int32.reduceLT, Int32.reduceToNatClampNeg, Int32.reduceAdd, Int32.reduceSub, Int32.reduceMul, decide_true, aArr, List.nil_append, List.cons_append, List.replicate_zero, List.replicate_succ, defaultValue]
  refine t2_7 hgo rfl rfl ?_
  refine t2_8 hgo ?_
  refine t2_9 hgo rfl ?_
  refine t2_10 hgo ?_
  refine t2_11 hgo rfl ?_
  refine t2_13 hgo ?_
  refine t2_14 hgo rfl ?_
  refine tA2 hgo (xn := 2) (xl := 2) (yn := 2) (yl := 2) (zn := 4) (zl := 4) rfl rfl rfl rfl rfl rfl (by decide) (by decide) (by decide) (by decide) (by decide) (by decide) rfl (by decide) rfl h_0_1 ?_
  simp only [Int32.reduceAdd, Int32.reduceToNatClampNeg, List.set_cons_zero, List.set_cons_succ]
  refine tB2 hgo (xn := 2) (xl := 2) (yn := 2) (yl := 2) (zn := 4) (zl := 4) rfl rfl rfl rfl rfl rfl (by decide) (by decide) (by decide) (by decide) (by decide) (by decide) rfl (by decide) rfl (own_asym h_1_3) ?_
  simp only [Int32.reduceAdd, Int32.reduceToNatClampNeg, List.set_cons_zero, List.set_cons_succ]
  refine tB2 hgo (xn := 2) (xl := 2) (yn := 2) (yl := 2) (zn := 4) (zl := 4) rfl rfl rfl rfl rfl rfl (by decide) (by decide) (by decide) (by decide) (by decide) (by decide) rfl (by decide) rfl (own_asym h_2_3) ?_
  simp only [Int32.reduceAdd, Int32.reduceToNatClampNeg, List.set_cons_zero, List.set_cons_succ]
  refine tA1 hgo (xn := 2) (xl := 2) (yn := 2) (yl := 2) (zn := 4) (zl := 4) rfl rfl rfl rfl rfl rfl (by decide) (by decide) (by decide) rfl (by decide) rfl ?_
  simp only [Int32.reduceAdd, Int32.reduceToNatClampNeg, List.set_cons_zero, List.set_cons_succ]
  refine t2_16 hgo ?_
  refine t2_18 hgo rfl ?_
  refine res_of (u2_19 hgo) ?_
  simp only [eq_self, and_self, true_and, and_true, not_true_eq_false, not_false_eq_true, if_true, if_false, reduceIte, Option.bind_some, List.getElem?_cons_zero, List.getElem?_cons_succ, Nat.reduceAdd, Nat.reduceSub, Nat.reduceLT, Nat.reduceLeDiff, Nat.le_refl, Nat.zero_add, Nat.add_zero, List.length_cons, List.length_nil, Int32.reduceLT, Int32.reduceToNatClampNeg, Int32.reduceAdd, Int32.reduceSub, Int32.reduceMul, decide_true, pR_ref, arr, ln0, ln1, ln2, ln3, ln4, ln5, ln6, ln7, ln8, ln9, ln10, ln11, ln12, ln13, ln14, ln15, ln16, ln17, ln18, ln19, ln20, ln21, ln22, ln23, ln24, ln25, ln26, ln27, ln28, ln29, ln30, ln31, ln32, ln33, ln34, ln35, ln36]
  refine t2_20f hgo (by decide) ?_
  refine t2_76 hgo rfl ?_
  refine t2_77 hgo rfl ?_
  exact is_r
set_option maxRecDepth 65536 in
set_option maxHeartbeats 4000000 in
theorem mg_4_10 {w0 w1 w2 w3 : Int32} (ho : w0 < w1 ∧ w1 < w2 ∧ w2 < w3) : F2 [.ref 0, .ref 1] [.inr (.int, [.int w1, .int w3]), .inr (.int, [.int w0, .int w2])] = some (some (.ref 2), [.inr (.int, [.int w1, .int w3]), .inr (.int, [.int w0, .int w2]), .inr (.int, [.int w0, .int w1, .int w2, .int w3])]) := by
  have h_0_1 := ho.1
  have h_1_2 := ho.2.1
  have h_2_3 := ho.2.2
  have h_0_2 := own_lt_trans h_0_1 h_1_2
  have h_1_3 := own_lt_trans h_1_2 h_2_3
  have h_0_3 := own_lt_trans h_0_2 h_2_3
  refine is_of f2_in fun go hgo => ?_
  refine t2_0 hgo rfl ?_
  refine res_of (u2_1 hgo) ?_
  simp only [eq_self, and_self, true_and, and_true, not_true_eq_false, not_false_eq_true, if_true, if_false, reduceIte, Option.bind_some, List.getElem?_cons_zero, List.getElem?_cons_succ, Nat.reduceAdd, Nat.reduceSub, Nat.reduceLT, Nat.reduceLeDiff, Nat.le_refl, Nat.zero_add, Nat.add_zero, List.length_cons, List.length_nil, Int32.reduceLT, Int32.reduceToNatClampNeg, Int32.reduceAdd, Int32.reduceSub, Int32.reduceMul, decide_true, pR_ref, arr, ln0, ln1, ln2, ln3, ln4, ln5, ln6, ln7, ln8, ln9, ln10, ln11, ln12, ln13, ln14, ln15, ln16, ln17, ln18, ln19, ln20, ln21, ln22, ln23, ln24, ln25, ln26, ln27, ln28, ln29, ln30, ln31, ln32, ln33, ln34, ln35, ln36]
  refine t2_2 hgo rfl ?_
  refine res_of (u2_3 hgo) ?_
  simp only [eq_self, and_self, true_and, and_true, not_true_eq_false, not_false_eq_true, if_true, if_false, reduceIte, Option.bind_some, List.getElem?_cons_zero, List.getElem?_cons_succ, Nat.reduceAdd, Nat.reduceSub, Nat.reduceLT, Nat.reduceLeDiff, Nat.le_refl, Nat.zero_add, Nat.add_zero, List.length_cons, List.length_nil, Int32.reduceLT, Int32.reduceToNatClampNeg, Int32.reduceAdd, Int32.reduceSub, Int32.reduceMul, decide_true, pR_ref, arr, ln0, ln1, ln2, ln3, ln4, ln5, ln6, ln7, ln8, ln9, ln10, ln11, ln12, ln13, ln14, ln15, ln16, ln17, ln18, ln19, ln20, ln21, ln22, ln23, ln24, ln25, ln26, ln27, ln28, ln29, ln30, ln31, ln32, ln33, ln34, ln35, ln36]
  refine t2_4 hgo ?_
  refine res_of (u2_5 hgo) ?_
  simp only [eq_self, and_self, true_and, and_true, not_true_eq_false, not_false_eq_true, if_true, if_false, reduceIte, Option.bind_some, List.getElem?_cons_zero, List.getElem?_cons_succ, Nat.reduceAdd, Nat.reduceSub, Nat.reduceLT, Nat.reduceLeDiff, Nat.le_refl, Nat.zero_add, Nat.add_zero, List.length_cons, List.length_nil, Int32.reduceLT, Int32.reduceToNatClampNeg, Int32.reduceAdd, Int32.reduceSub, Int32.reduceMul, decide_true, aArr, List.nil_append, List.cons_append, List.replicate_zero, List.replicate_succ, defaultValue]
  refine t2_7 hgo rfl rfl ?_
  refine t2_8 hgo ?_
  refine t2_9 hgo rfl ?_
  refine t2_10 hgo ?_
  refine t2_11 hgo rfl ?_
  refine t2_13 hgo ?_
  refine t2_14 hgo rfl ?_
  refine tB2 hgo (xn := 2) (xl := 2) (yn := 2) (yl := 2) (zn := 4) (zl := 4) rfl rfl rfl rfl rfl rfl (by decide) (by decide) (by decide) (by decide) (by decide) (by decide) rfl (by decide) rfl (own_asym h_0_1) ?_
  simp only [Int32.reduceAdd, Int32.reduceToNatClampNeg, List.set_cons_zero, List.set_cons_succ]
  refine tA2 hgo (xn := 2) (xl := 2) (yn := 2) (yl := 2) (zn := 4) (zl := 4) rfl rfl rfl rfl rfl rfl (by decide) (by decide) (by decide) (by decide) (by decide) (by decide) rfl (by decide) rfl h_1_2 ?_
  simp only [Int32.reduceAdd, Int32.reduceToNatClampNeg, List.set_cons_zero, List.set_cons_succ]
  refine tB2 hgo (xn := 2) (xl := 2) (yn := 2) (yl := 2) (zn := 4) (zl := 4) rfl rfl rfl rfl rfl rfl (by decide) (by decide) (by decide) (by decide) (by decide) (by decide) rfl (by decide) rfl (own_asym h_2_3) ?_
  simp only [Int32.reduceAdd, Int32.reduceToNatClampNeg, List.set_cons_zero, List.set_cons_succ]
  refine tA1 hgo (xn := 2) (xl := 2) (yn := 2) (yl := 2) (zn := 4) (zl := 4) rfl rfl rfl rfl rfl rfl (by decide) (by decide) (by decide) rfl (by decide) rfl ?_
  simp only [Int32.reduceAdd, Int32.reduceToNatClampNeg, List.set_cons_zero, List.set_cons_succ]
  refine t2_16 hgo ?_
  refine t2_18 hgo rfl ?_
  refine res_of (u2_19 hgo) ?_
  simp only [eq_self, and_self, true_and, and_true, not_true_eq_false, not_false_eq_true, if_true, if_false, reduceIte, Option.bind_some, List.getElem?_cons_zero, List.getElem?_cons_succ, Nat.reduceAdd, Nat.reduceSub, Nat.reduceLT, Nat.reduceLeDiff, Nat.le_refl, Nat.zero_add, Nat.add_zero, List.length_cons, List.length_nil, Int32.reduceLT, Int32.reduceToNatClampNeg, Int32.reduceAdd, Int32.reduceSub, Int32.reduceMul, decide_true, pR_ref, arr, ln0, ln1, ln2, ln3, ln4, ln5, ln6, ln7, ln8, ln9, ln10, ln11, ln12, ln13, ln14, ln15, ln16, ln17, ln18, ln19, ln20, ln21, ln22, ln23, ln24, ln25, ln26, ln27, ln28, ln29, ln30, ln31, ln32, ln33, ln34, ln35, ln36]
  refine t2_20f hgo (by decide) ?_
  refine t2_76 hgo rfl ?_
  refine t2_77 hgo rfl ?_
  exact is_r
set_option maxRecDepth 65536 in
set_option maxHeartbeats 4000000 in
theorem mg_4_11 {w0 w1 w2 w3 : Int32} (ho : w0 < w1 ∧ w1 < w2 ∧ w2 < w3) : F2 [.ref 0, .ref 1] [.inr (.int, [.int w0, .int w1, .int w3]), .inr (.int, [.int w2])] = some (some (.ref 2), [.inr (.int, [.int w0, .int w1, .int w3]), .inr (.int, [.int w2]), .inr (.int, [.int w0, .int w1, .int w2, .int w3])]) := by
  have h_0_1 := ho.1
  have h_1_2 := ho.2.1
  have h_2_3 := ho.2.2
  have h_0_2 := own_lt_trans h_0_1 h_1_2
  have h_1_3 := own_lt_trans h_1_2 h_2_3
  have h_0_3 := own_lt_trans h_0_2 h_2_3
  refine is_of f2_in fun go hgo => ?_
  refine t2_0 hgo rfl ?_
  refine res_of (u2_1 hgo) ?_
  simp only [eq_self, and_self, true_and, and_true, not_true_eq_false, not_false_eq_true, if_true, if_false, reduceIte, Option.bind_some, List.getElem?_cons_zero, List.getElem?_cons_succ, Nat.reduceAdd, Nat.reduceSub, Nat.reduceLT, Nat.reduceLeDiff, Nat.le_refl, Nat.zero_add, Nat.add_zero, List.length_cons, List.length_nil, Int32.reduceLT, Int32.reduceToNatClampNeg, Int32.reduceAdd, Int32.reduceSub, Int32.reduceMul, decide_true, pR_ref, arr, ln0, ln1, ln2, ln3, ln4, ln5, ln6, ln7, ln8, ln9, ln10, ln11, ln12, ln13, ln14, ln15, ln16, ln17, ln18, ln19, ln20, ln21, ln22, ln23, ln24, ln25, ln26, ln27, ln28, ln29, ln30, ln31, ln32, ln33, ln34, ln35, ln36]
  refine t2_2 hgo rfl ?_
  refine res_of (u2_3 hgo) ?_
  simp only [eq_self, and_self, true_and, and_true, not_true_eq_false, not_false_eq_true, if_true, if_false, reduceIte, Option.bind_some, List.getElem?_cons_zero, List.getElem?_cons_succ, Nat.reduceAdd, Nat.reduceSub, Nat.reduceLT, Nat.reduceLeDiff, Nat.le_refl, Nat.zero_add, Nat.add_zero, List.length_cons, List.length_nil, Int32.reduceLT, Int32.reduceToNatClampNeg, Int32.reduceAdd, Int32.reduceSub, Int32.reduceMul, decide_true, pR_ref, arr, ln0, ln1, ln2, ln3, ln4, ln5, ln6, ln7, ln8, ln9, ln10, ln11, ln12, ln13, ln14, ln15, ln16, ln17, ln18, ln19, ln20, ln21, ln22, ln23, ln24, ln25, ln26, ln27, ln28, ln29, ln30, ln31, ln32, ln33, ln34, ln35, ln36]
  refine t2_4 hgo ?_
  refine res_of (u2_5 hgo) ?_
  simp only [eq_self, and_self, true_and, and_true, not_true_eq_false, not_false_eq_true, if_true, if_false, reduceIte, Option.bind_some, List.getElem?_cons_zero, List.getElem?_cons_succ, Nat.reduceAdd, Nat.reduceSub, Nat.reduceLT, Nat.reduceLeDiff, Nat.le_refl, Nat.zero_add, Nat.add_zero, List.length_cons, List.length_nil, Int32.reduceLT, Int32.reduceToNatClampNeg, Int32.reduceAdd, Int32.reduceSub, Int32.reduceMul, decide_true, aArr, List.nil_append, List.cons_append, List.replicate_zero, List.replicate_succ, defaultValue]
  refine t2_7 hgo rfl rfl ?_
  refine t2_8 hgo ?_
  refine t2_9 hgo rfl ?_
  refine t2_10 hgo ?_
  refine t2_11 hgo rfl ?_
  refine t2_13 hgo ?_
  refine t2_14 hgo rfl ?_
  refine tA2 hgo (xn := 3) (xl := 3) (yn := 1) (yl := 1) (zn := 4) (zl := 4) rfl rfl rfl rfl rfl rfl (by decide) (by decide) (by decide) (by decide) (by decide) (by decide) rfl (by decide) rfl h_0_2 ?_
  simp only [Int32.reduceAdd, Int32.reduceToNatClampNeg, List.set_cons_zero, List.set_cons_succ]
  refine tA2 hgo (xn := 3) (xl := 3) (yn := 1) (yl := 1) (zn := 4) (zl := 4) rfl rfl rfl rfl rfl rfl (by decide) (by decide) (by decide) (by decide) (by decide) (by decide) rfl (by decide) rfl h_1_2 ?_
  simp only [Int32.reduceAdd, Int32.reduceToNatClampNeg, List.set_cons_zero, List.set_cons_succ]
  refine tB2 hgo (xn := 3) (xl := 3) (yn := 1) (yl := 1) (zn := 4) (zl := 4) rfl rfl rfl rfl rfl rfl (by decide) (by decide) (by decide) (by decide) (by decide) (by decide) rfl (by decide) rfl (own_asym h_2_3) ?_
  simp only [Int32.reduceAdd, Int32.reduceToNatClampNeg, List.set_cons_zero, List.set_cons_succ]
  refine tA1 hgo (xn := 3) (xl := 3) (yn := 1) (yl := 1) (zn := 4) (zl := 4) rfl rfl rfl rfl rfl rfl (by decide) (by decide) (by decide) rfl (by decide) rfl ?_
  simp only [Int32.reduceAdd, Int32.reduceToNatClampNeg, List.set_cons_zero, List.set_cons_succ]
  refine t2_16 hgo ?_
  refine t2_18 hgo rfl ?_
  refine res_of (u2_19 hgo) ?_
  simp only [eq_self, and_self, true_and, and_true, not_true_eq_false, not_false_eq_true, if_true, if_false, reduceIte, Option.bind_some, List.getElem?_cons_zero, List.getElem?_cons_succ, Nat.reduceAdd, Nat.reduceSub, Nat.reduceLT, Nat.reduceLeDiff, Nat.le_refl, Nat.zero_add, Nat.add_zero, List.length_cons, List.length_nil, Int32.reduceLT, Int32.reduceToNatClampNeg, Int32.reduceAdd, Int32.reduceSub, Int32.reduceMul, decide_true, pR_ref, arr, ln0, ln1, ln2, ln3, ln4, ln5, ln6, ln7, ln8, ln9, ln10, ln11, ln12, ln13, ln14, ln15, ln16, ln17, ln18, ln19, ln20, ln21, ln22, ln23, ln24, ln25, ln26, ln27, ln28, ln29, ln30, ln31, ln32, ln33, ln34, ln35, ln36]
  refine t2_20f hgo (by decide) ?_
  refine t2_76 hgo rfl ?_
  refine t2_77 hgo rfl ?_
  exact is_r
set_option maxRecDepth 65536 in
set_option maxHeartbeats 4000000 in
theorem mg_4_12 {w0 w1 w2 w3 : Int32} (ho : w0 < w1 ∧ w1 < w2 ∧ w2 < w3) : F2 [.ref 0, .ref 1] [.inr (.int, [.int w2, .int w3]), .inr (.int, [.int w0, .int w1])] = some (some (.ref 2), [.inr (.int, [.int w2, .int w3]), .inr (.int, [.int w0, .int w1]), .inr (.int, [.int w0, .int w1, .int w2, .int w3])]) := by
  have h_0_1 := ho.1
  have h_1_2 := ho.2.1
  have h_2_3 := ho.2.2
  have h_0_2 := own_lt_trans h_0_1 h_1_2
  have h_1_3 := own_lt_trans h_1_2 h_2_3
  have h_0_3 := own_lt_trans h_0_2 h_2_3
  refine is_of f2_in fun go hgo => ?_
  refine t2_0 hgo rfl ?_
  refine res_of (u2_1 hgo) ?_
  simp only [eq_self, and_self, true_and, and_true, not_true_eq_false, not_false_eq_true, if_true, if_false, reduceIte, Option.bind_some, List.getElem?_cons_zero, List.getElem?_cons_succ, Nat.reduceAdd, Nat.reduceSub, Nat.reduceLT, Nat.reduceLeDiff, Nat.le_refl, Nat.zero_add, Nat.add_zero, List.length_cons, List.length_nil, Int32.reduceLT, Int32.reduceToNatClampNeg, Int32.reduceAdd, Int32.reduceSub, Int32.reduceMul, decide_true, pR_ref, arr, ln0, ln1, ln2, ln3, ln4, ln5, ln6, ln7, ln8, ln9, ln10, ln11, ln12, ln13, ln14, ln15, ln16, ln17, ln18, ln19, ln20, ln21, ln22, ln23, ln24, ln25, ln26, ln27, ln28, ln29, ln30, ln31, ln32, ln33, ln34, ln35, ln36]
  refine t2_2 hgo rfl ?_
  refine res_of (u2_3 hgo) ?_
  simp only [eq_self, and_self, true_and, and_true, not_true_eq_false, not_false_eq_true, if_true, if_false, reduceIte, Option.bind_some, List.getElem?_cons_zero, List.getElem?_cons_succ, Nat.reduceAdd, Nat.reduceSub, Nat.reduceLT, Nat.reduceLeDiff, Nat.le_refl, Nat.zero_add, Nat.add_zero, List.length_cons, List.length_nil, Int32.reduceLT, Int32.reduceToNatClampNeg, Int32.reduceAdd, Int32.reduceSub, Int32.reduceMul, decide_true, pR_ref, arr, ln0, ln1, ln2, ln3, ln4, ln5, ln6, ln7, ln8, ln9, ln10, ln11, ln12, ln13, ln14, ln15, ln16, ln17, ln18, ln19, ln20, ln21, ln22, ln23, ln24, ln25, ln26, ln27, ln28, ln29, ln30, ln31, ln32, ln33, ln34, ln35, ln36]
  refine t2_4 hgo ?_
  refine res_of (u2_5 hgo) ?_
  simp only [eq_self, and_self, true_and, and_true, not_true_eq_false, not_false_eq_true, if_true, if_false, reduceIte, Option.bind_some, List.getElem?_cons_zero, List.getElem?_cons_succ, Nat.reduceAdd, Nat.reduceSub, Nat.reduceLT, Nat.reduceLeDiff, Nat.le_refl, Nat.zero_add, Nat.add_zero, List.length_cons, List.length_nil, Int32.reduceLT, Int32.reduceToNatClampNeg, Int32.reduceAdd, Int32.reduceSub, Int32.reduceMul, decide_true, aArr, List.nil_append, List.cons_append, List.replicate_zero, List.replicate_succ, defaultValue]
  refine t2_7 hgo rfl rfl ?_
  refine t2_8 hgo ?_
  refine t2_9 hgo rfl ?_
  refine t2_10 hgo ?_
  refine t2_11 hgo rfl ?_
  refine t2_13 hgo ?_
  refine t2_14 hgo rfl ?_
  refine tB2 hgo (xn := 2) (xl := 2) (yn := 2) (yl := 2) (zn := 4) (zl := 4) rfl rfl rfl rfl rfl rfl (by decide) (by decide) (by decide) (by decide) (by decide) (by decide) rfl (by decide) rfl (own_asym h_0_2) ?_
  simp only [Int32.reduceAdd, Int32.reduceToNatClampNeg, List.set_cons_zero, List.set_cons_succ]
  refine tB2 hgo (xn := 2) (xl := 2) (yn := 2) (yl := 2) (zn := 4) (zl := 4) rfl rfl rfl rfl rfl rfl (by decide) (by decide) (by decide) (by decide) (by decide) (by decide) rfl (by decide) rfl (own_asym h_1_2) ?_
  simp only [Int32.reduceAdd, Int32.reduceToNatClampNeg, List.set_cons_zero, List.set_cons_succ]
  refine tA1 hgo (xn := 2) (xl := 2) (yn := 2) (yl := 2) (zn := 4) (zl := 4) rfl rfl rfl rfl rfl rfl (by decide) (by decide) (by decide) rfl (by decide) rfl ?_
  simp only [Int32.reduceAdd, Int32.reduceToNatClampNeg, List.set_cons_zero, List.set_cons_succ]
  refine tA1 hgo (xn := 2) (xl := 2) (yn := 2) (yl := 2) (zn := 4) (zl := 4) rfl rfl rfl rfl rfl rfl (by decide) (by decide) (by decide) rfl (by decide) rfl ?_
  simp only [Int32.reduceAdd, Int32.reduceToNatClampNeg, List.set_cons_zero, List.set_cons_succ]
  refine t2_16 hgo ?_
  refine t2_18 hgo rfl ?_
  refine res_of (u2_19 hgo) ?_
  simp only [eq_self, and_self, true_and, and_true, not_true_eq_false, not_false_eq_true, if_true, if_false, reduceIte, Option.bind_some, List.getElem?_cons_zero, List.getElem?_cons_succ, Nat.reduceAdd, Nat.reduceSub, Nat.reduceLT, Nat.reduceLeDiff, Nat.le_refl, Nat.zero_add, Nat.add_zero, List.length_cons, List.length_nil, Int32.reduceLT, Int32.reduceToNatClampNeg, Int32.reduceAdd, Int32.reduceSub, Int32.reduceMul, decide_true, pR_ref, arr, ln0, ln1, ln2, ln3, ln4, ln5, ln6, ln7, ln8, ln9, ln10, ln11, ln12, ln13, ln14, ln15, ln16, ln17, ln18, ln19, ln20, ln21, ln22, ln23, ln24, ln25, ln26, ln27, ln28, ln29, ln30, ln31, ln32, ln33, ln34, ln35, ln36]
  refine t2_20f hgo (by decide) ?_
  refine t2_76 hgo rfl ?_
  refine t2_77 hgo rfl ?_
  exact is_r
set_option maxRecDepth 65536 in
set_option maxHeartbeats 4000000 in
theorem mg_4_13 {w0 w1 w2 w3 : Int32} (ho : w0 < w1 ∧ w1 < w2 ∧ w2 < w3) : F2 [.ref 0, .ref 1] [.inr (.int, [.int w0, .int w2, .int w3]), .inr (.int, [.int w1])] = some (some (.ref 2), [.inr (.int, [.int w0, .int w2, .int w3]), .inr (.int, [.int w1]), .inr (.int, [.int w0, .int w1, .int w2, .int w3])]) := by
  have h_0_1 := ho.1
  have h_1_2 := ho.2.1
  have h_2_3 := ho.2.2
  have h_0_2 := own_lt_trans h_0_1 h_1_2
  have h_1_3 := own_lt_trans h_1_2 h_2_3
  have h_0_3 := own_lt_trans h_0_2 h_2_3
  refine is_of f2_in fun go hgo => ?_
  refine t2_0 hgo rfl ?_
  refine res_of (u2_1 hgo) ?_
  simp only [eq_self, and_self, true_and, and_true, not_true_eq_false, not_false_eq_true, if_true, if_false, reduceIte, Option.bind_some, List.getElem?_cons_zero, List.getElem?_cons_succ, Nat.reduceAdd, Nat.reduceSub, Nat.reduceLT, Nat.reduceLeDiff, Nat.le_refl, Nat.zero_add, Nat.add_zero, List.length_cons, List.length_nil, Int32.reduceLT, Int32.reduceToNatClampNeg, Int32.reduceAdd, Int32.reduceSub, Int32.reduceMul, decide_true, pR_ref, arr, ln0, ln1, ln2, ln3, ln4, ln5, ln6, ln7, ln8, ln9, ln10, ln11, ln12, ln13, ln14, ln15, ln16, ln17, ln18, ln19, ln20, ln21, ln22, ln23, ln24, ln25, ln26, ln27, ln28, ln29, ln30, ln31, ln32, ln33, ln34, ln35, ln36]
  refine t2_2 hgo rfl ?_
  refine res_of (u2_3 hgo) ?_
  simp only [eq_self, and_self, true_and, and_true, not_true_eq_false, not_false_eq_true, if_true, if_false, reduceIte, Option.bind_some, List.getElem?_cons_zero, List.getElem?_cons_succ, Nat.reduceAdd, Nat.reduceSub, Nat.reduceLT, Nat.reduceLeDiff, Nat.le_refl, Nat.zero_add, Nat.add_zero, List.length_cons, List.length_nil, Int32.reduceLT, Int32.reduceToNatClampNeg, Int32.reduceAdd, Int32.reduceSub, Int32.reduceMul, decide_true, pR_ref, arr, ln0, ln1, ln2, ln3, ln4, ln5, ln6, ln7, ln8, ln9, ln10, ln11, ln12, ln13, ln14, ln15, ln16, ln17, ln18, ln19, ln20, ln21, ln22, ln23, ln24, ln25, ln26, ln27, ln28, ln29, ln30, ln31, ln32, ln33, ln34, ln35, ln36]
  refine t2_4 hgo ?_
  refine res_of (u2_5 hgo) ?_
  simp only [eq_self, and_self, true_and, and_true, not_true_eq_false, not_false_eq_true, if_true, if_false, reduceIte, Option.bind_some, List.getElem?_cons_zero, List.getElem?_cons_succ, Nat.reduceAdd, Nat.reduceSub, Nat.reduceLT, Nat.reduceLeDiff, Nat.le_refl, Nat.zero_add, Nat.add_zero, List.length_cons, List.length_nil, Int32.reduceLT, Int32.reduceToNatClampNeg, Int32.reduceAdd, Int32.reduceSub, Int32.reduceMul, decide_true, aArr, List.nil_append, List.cons_append, List.replicate_zero, List.replicate_succ, defaultValue]
  refine t2_7 hgo rfl rfl ?_
  refine t2_8 hgo ?_
  refine t2_9 hgo rfl ?_
  refine t2_10 hgo ?_
  refine t2_11 hgo rfl ?_
  refine t2_13 hgo ?_
  refine t2_14 hgo rfl ?_
  refine tA2 hgo (xn := 3) (xl := 3) (yn := 1) (yl := 1) (zn := 4) (zl := 4) rfl rfl rfl rfl rfl rfl (by decide) (by decide) (by decide) (by decide) (by decide) (by decide) rfl (by decide) rfl h_0_1 ?_
  simp only [Int32.reduceAdd, Int32.reduceToNatClampNeg, List.set_cons_zero, List.set_cons_succ]
  refine tB2 hgo (xn := 3) (xl := 3) (yn := 1) (yl := 1) (zn := 4) (zl := 4) rfl rfl rfl rfl rfl rfl (by decide) (by decide) (by decide) (by decide) (by decide) (by decide) rfl (by decide) rfl (own_asym h_1_2) ?_
  simp only [Int32.reduceAdd, Int32.reduceToNatClampNeg, List.set_cons_zero, List.set_cons_succ]
  refine tA1 hgo (xn := 3) (xl := 3) (yn := 1) (yl := 1) (zn := 4) (zl := 4) rfl rfl rfl rfl rfl rfl (by decide) (by decide) (by decide) rfl (by decide) rfl ?_
  simp only [Int32.reduceAdd, Int32.reduceToNatClampNeg, List.set_cons_zero, List.set_cons_succ]
  refine tA1 hgo (xn := 3) (xl := 3) (yn := 1) (yl := 1) (zn := 4) (zl := 4) rfl rfl rfl rfl rfl rfl (by decide) (by decide) (by decide) rfl (by decide) rfl ?_
  simp only [Int32.reduceAdd, Int32.reduceToNatClampNeg, List.set_cons_zero, List.set_cons_succ]
  refine t2_16 hgo ?_
  refine t2_18 hgo rfl ?_
  refine res_of (u2_19 hgo) ?_
  simp only [eq_self, and_self, true_and, and_true, not_true_eq_false, not_false_eq_true, if_true, if_false, reduceIte, Option.bind_some, List.getElem?_cons_zero, List.getElem?_cons_succ, Nat.reduceAdd, Nat.reduceSub, Nat.reduceLT, Nat.reduceLeDiff, Nat.le_refl, Nat.zero_add, Nat.add_zero, List.length_cons, List.length_nil, Int32.reduceLT, Int32.reduceToNatClampNeg, Int32.reduceAdd, Int32.reduceSub, Int32.reduceMul, decide_true, pR_ref, arr, ln0, ln1, ln2, ln3, ln4, ln5, ln6, ln7, ln8, ln9, ln10, ln11, ln12, ln13, ln14, ln15, ln16, ln17, ln18, ln19, ln20, ln21, ln22, ln23, ln24, ln25, ln26, ln27, ln28, ln29, ln30, ln31, ln32, ln33, ln34, ln35, ln36]
  refine t2_20f hgo (by decide) ?_
  refine t2_76 hgo rfl ?_
  refine t2_77 hgo rfl ?_
  exact is_r
set_option maxRecDepth 65536 in
set_option maxHeartbeats 4000000 in
theorem mg_4_14 {w0 w1 w2 w3 : Int32} (ho : w0 < w1 ∧ w1 < w2 ∧ w2 < w3) : F2 [.ref 0, .ref 1] [.inr (.int, [.int w1, .int w2, .int w3]), .inr (.int, [.int w0])] = some (some (.ref 2), [.inr (.int, [.int w1, .int w2, .int w3]), .inr (.int, [.int w0]), .inr (.int, [.int w0, .int w1, .int w2, .int w3])]) := by
  have h_0_1 := ho.1
  have h_1_2 := ho.2.1
  have h_2_3 := ho.2.2
  have h_0_2 := own_lt_trans h_0_1 h_1_2
  have h_1_3 := own_lt_trans h_1_2 h_2_3
  have h_0_3 := own_lt_trans h_0_2 h_2_3
  refine is_of f2_in fun go hgo => ?_
  refine t2_0 hgo rfl ?_
  refine res_of (u2_1 hgo) ?_
  simp only [eq_self, and_self, true_and, and_true, not_true_eq_false, not_false_eq_true, if_true, if_false, reduceIte, Option.bind_some, List.getElem?_cons_zero, List.getElem?_cons_succ, Nat.reduceAdd, Nat.reduceSub, Nat.reduceLT, Nat.reduceLeDiff, Nat.le_refl, Nat.zero_add, Nat.add_zero, List.length_cons, List.length_nil, Int32.reduceLT, Int32.reduceToNatClampNeg, Int32.reduceAdd, Int32.reduceSub, Int32.reduceMul, decide_true, pR_ref, arr, ln0, ln1, ln2, ln3, ln4, ln5, ln6, ln7, ln8, ln9, ln10, ln11, ln12, ln13, ln14, ln15, ln16, ln17, ln18, ln19, ln20, ln21, ln22, ln23, ln24, ln25, ln26, ln27, ln28, ln29, ln30, ln31, ln32, ln33, ln34, ln35, ln36]
  refine t2_2 hgo rfl ?_
  refine res_of (u2_3 hgo) ?_
  simp only [eq_self, and_self, true_and, and_true, not_true_eq_false, not_false_eq_true, if_true, if_false, reduceIte, Option.bind_some, List.getElem?_cons_zero, List.getElem?_cons_succ, Nat.reduceAdd, Nat.reduceSub, Nat.reduceLT, Nat.reduceLeDiff, Nat.le_refl, Nat.zero_add, Nat.add_zero, List.length_cons, List.length_nil, Int32.reduceLT, Int32.reduceToNatClampNeg, Int32.reduceAdd, Int32.reduceSub, Int32.reduceMul, decide_true, pR_ref, arr, ln0, ln1, ln2, ln3, ln4, ln5, ln6, ln7, ln8, ln9, ln10, ln11, ln12, ln13, ln14, ln15, ln16, ln17, ln18, ln19, ln20, ln21, ln22, ln23, ln24, ln25, ln26, ln27, ln28, ln29, ln30, ln31, ln32, ln33, ln34, ln35, ln36]
  refine t2_4 hgo ?_
  refine res_of (u2_5 hgo) ?_
  simp only [eq_self, and_self, true_and, and_true, not_true_eq_false, not_false_eq_true, if_true, if_false, reduceIte, Option.bind_some, List.getElem?_cons_zero, List.getElem?_cons_succ, Nat.reduceAdd, Nat.reduceSub, Nat.reduceLT, Nat.reduceLeDiff, Nat.le_refl, Nat.zero_add, Nat.add_zero, List.length_cons, List.length_nil, Int32.reduceLT, Int32.reduceToNatClampNeg, Int32.reduceAdd, Int32.reduceSub, Int32.reduceMul, decide_true, aArr, List.nil_append, List.cons_append, List.replicate_zero, List.replicate_succ, defaultValue]
  refine t2_7 hgo rfl rfl ?_
  refine t2_8 hgo ?_
  refine t2_9 hgo rfl ?_
  refine t2_10 hgo ?_
  refine t2_11 hgo rfl ?_
  refine t2_13 hgo ?_
  refine t2_14 hgo rfl ?_
  refine tB2 hgo (xn := 3) (xl := 3) (yn := 1) (yl := 1) (zn := 4) (zl := 4) rfl rfl rfl rfl rfl rfl (by decide) (by decide) (by decide) (by decide) (by decide) (by decide) rfl (by decide) rfl (own_asym h_0_1) ?_
  simp only [Int32.reduceAdd, Int32.reduceToNatClampNeg, List.set_cons_zero, List.set_cons_succ]
  refine tA1 hgo (xn := 3) (xl := 3) (yn := 1) (yl := 1) (zn := 4) (zl := 4) rfl rfl rfl rfl rfl rfl (by decide) (by decide) (by decide) rfl (by decide) rfl ?_
  simp only [Int32.reduceAdd, Int32.reduceToNatClampNeg, List.set_cons_zero, List.set_cons_succ]
  refine tA1 hgo (xn := 3) (xl := 3) (yn := 1) (yl := 1) (zn := 4) (zl := 4) rfl rfl rfl rfl rfl rfl (by decide) (by decide) (by decide) rfl (by decide) rfl ?_
  simp only [Int32.reduceAdd, Int32.reduceToNatClampNeg, List.set_cons_zero, List.set_cons_succ]
  refine tA1 hgo (xn := 3) (xl := 3) (yn := 1) (yl := 1) (zn := 4) (zl := 4) rfl rfl rfl rfl rfl rfl (by decide) (by decide) (by decide) rfl (by decide) rfl ?_
  simp only [Int32.reduceAdd, Int32.reduceToNatClampNeg, List.set_cons_zero, List.set_cons_succ]
  refine t2_16 hgo ?_
  refine t2_18 hgo rfl ?_
  refine res_of (u2_19 hgo) ?_
  simp only [eq_self, and_self, true_and, and_true, not_true_eq_false, not_false_eq_true, if_true, if_false, reduceIte, Option.bind_some, List.getElem?_cons_zero, List.getElem?_cons_succ, Nat.reduceAdd, Nat.reduceSub, Nat.reduceLT, Nat.reduceLeDiff, Nat.le_refl, Nat.zero_add, Nat.add_zero, List.length_cons, List.length_nil, Int32.reduceLT, Int32.reduceToNatClampNeg, Int32.reduceAdd, Int32.reduceSub, Int32.reduceMul, decide_true, pR_ref, arr, ln0, ln1, ln2, ln3, ln4, ln5, ln6, ln7, ln8, ln9, ln10, ln11, ln12, ln13, ln14, ln15, ln16, ln17, ln18, ln19, ln20, ln21, ln22, ln23, ln24, ln25, ln26, ln27, ln28, ln29, ln30, ln31, ln32, ln33, ln34, ln35, ln36]
  refine t2_20f hgo (by decide) ?_
  refine t2_76 hgo rfl ?_
  refine t2_77 hgo rfl ?_
  exact is_r
set_option maxRecDepth 65536 in
set_option maxHeartbeats 4000000 in
theorem mg_4_15 {w0 w1 w2 w3 : Int32} (ho : w0 < w1 ∧ w1 < w2 ∧ w2 < w3) : F2 [.ref 0, .ref 1] [.inr (.int, [.int w0, .int w1, .int w2, .int w3]), .inr (.int, [])] = some (some (.ref 2), [.inr (.int, [.int w0, .int w1, .int w2, .int w3]), .inr (.int, []), .inr (.int, [.int w0, .int w1, .int w2, .int w3])]) := by
  have h_0_1 := ho.1
  have h_1_2 := ho.2.1
  have h_2_3 := ho.2.2
  have h_0_2 := own_lt_trans h_0_1 h_1_2
  have h_1_3 := own_lt_trans h_1_2 h_2_3
  have h_0_3 := own_lt_trans h_0_2 h_2_3
  refine is_of f2_in fun go hgo => ?_
  refine t2_0 hgo rfl ?_
  refine res_of (u2_1 hgo) ?_
  simp only [eq_self, and_self, true_and, and_true, not_true_eq_false, not_false_eq_true, if_true, if_false, reduceIte, Option.bind_some, List.getElem?_cons_zero, List.getElem?_cons_succ, Nat.reduceAdd, Nat.reduceSub, Nat.reduceLT, Nat.reduceLeDiff, Nat.le_refl, Nat.zero_add, Nat.add_zero, List.length_cons, List.length_nil, Int32.reduceLT, Int32.reduceToNatClampNeg, Int32.reduceAdd, Int32.reduceSub, Int32.reduceMul, decide_true, pR_ref, arr, ln0, ln1, ln2, ln3, ln4, ln5, ln6, ln7, ln8, ln9, ln10, ln11, ln12, ln13, ln14, ln15, ln16, ln17, ln18, ln19, ln20, ln21, ln22, ln23, ln24, ln25, ln26, ln27, ln28, ln29, ln30, ln31, ln32, ln33, ln34, ln35, ln36]
  refine t2_2 hgo rfl ?_
  refine res_of (u2_3 hgo) ?_
  simp only [eq_self, and_self, true_and, and_true, not_true_eq_false, not_false_eq_true, if_true, if_false, reduceIte, Option.bind_some, List.getElem?_cons_zero, List.getElem?_cons_succ, Nat.reduceAdd, Nat.reduceSub, Nat.reduceLT, Nat.reduceLeDiff, Nat.le_refl, Nat.zero_add, Nat.add_zero, List.length_cons, List.length_nil, Int32.reduceLT, Int32.reduceToNatClampNeg, Int32.reduceAdd, Int32.reduceSub, Int32.reduceMul, decide_true, pR_ref, arr, ln0, ln1, ln2, ln3, ln4, ln5, ln6, ln7, ln8, ln9, ln10, ln11, ln12, ln13, ln14, ln15, ln16, ln17, ln18, ln19, ln20, ln21, ln22, ln23, ln24, ln25, ln26, ln27, ln28, ln29, ln30, ln31, ln32, ln33, ln34, ln35, ln36]
  refine t2_4 hgo ?_
  refine res_of (u2_5 hgo) ?_
  simp only [eq_self, and_self, true_and, and_true, not_true_eq_false, not_false_eq_true, if_true, if_false, reduceIte, Option.bind_some, List.getElem?_cons_zero, List.getElem?_cons_succ, Nat.reduceAdd, Nat.reduceSub, Nat.reduceLT, Nat.reduceLeDiff, Nat.le_refl, Nat.zero_add, Nat.add_zero, List.length_cons, List.length_nil, Int32.reduceLT, Int32.reduceToNatClampNeg, Int32.reduceAdd, Int32.reduceSub, Int32.reduceMul, decide_true, aArr, List.nil_append, List.cons_append, List.replicate_zero, List.replicate_succ, defaultValue]
  refine t2_7 hgo rfl rfl ?_
  refine t2_8 hgo ?_
  refine t2_9 hgo rfl ?_
  refine t2_10 hgo ?_
  refine t2_11 hgo rfl ?_
  refine t2_13 hgo ?_
  refine t2_14 hgo rfl ?_
  refine tA1 hgo (xn := 4) (xl := 4) (yn := 0) (yl := 0) (zn := 4) (zl := 4) rfl rfl rfl rfl rfl rfl (by decide) (by decide) (by decide) rfl (by decide) rfl ?_
  simp only [Int32.reduceAdd, Int32.reduceToNatClampNeg, List.set_cons_zero, List.set_cons_succ]
  refine tA1 hgo (xn := 4) (xl := 4) (yn := 0) (yl := 0) (zn := 4) (zl := 4) rfl rfl rfl rfl rfl rfl (by decide) (by decide) (by decide) rfl (by decide) rfl ?_
  simp only [Int32.reduceAdd, Int32.reduceToNatClampNeg, List.set_cons_zero, List.set_cons_succ]
  refine tA1 hgo (xn := 4) (xl := 4) (yn := 0) (yl := 0) (zn := 4) (zl := 4) rfl rfl rfl rfl rfl rfl (by decide) (by decide) (by decide) rfl (by decide) rfl ?_
  simp only [Int32.reduceAdd, Int32.reduceToNatClampNeg, List.set_cons_zero, List.set_cons_succ]
  refine tA1 hgo (xn := 4) (xl := 4) (yn := 0) (yl := 0) (zn := 4) (zl := 4) rfl rfl rfl rfl rfl rfl (by decide) (by decide) (by decide) rfl (by decide) rfl ?_
  simp only [Int32.reduceAdd, Int32.reduceToNatClampNeg, List.set_cons_zero, List.set_cons_succ]
  refine t2_16 hgo ?_
  refine t2_18 hgo rfl ?_
  refine res_of (u2_19 hgo) ?_
  simp only [eq_self, and_self, true_and, and_true, not_true_eq_false, not_false_eq_true, if_true, if_false, reduceIte, Option.bind_some, List.getElem?_cons_zero, List.getElem?_cons_succ, Nat.reduceAdd, Nat.reduceSub, Nat.reduceLT, Nat.reduceLeDiff, Nat.le_refl, Nat.zero_add, Nat.add_zero, List.length_cons, List.length_nil, Int32.reduceLT, Int32.reduceToNatClampNeg, Int32.reduceAdd, Int32.reduceSub, Int32.reduceMul, decide_true, pR_ref, arr, ln0, ln1, ln2, ln3, ln4, ln5, ln6, ln7, ln8, ln9, ln10, ln11, ln12, ln13, ln14, ln15, ln16, ln17, ln18, ln19, ln20, ln21, ln22, ln23, ln24, ln25, ln26, ln27, ln28, ln29, ln30, ln31, ln32, ln33, ln34, ln35, ln36]
  refine t2_20f hgo (by decide) ?_
  refine t2_76 hgo rfl ?_
  refine t2_77 hgo rfl ?_
  exact is_r
set_option maxRecDepth 65536 in
set_option maxHeartbeats 4000000 in
theorem tl_0_0 {go : Nat → St → Option ORes} (hgo : go = orun code ret E0 0) {l0 l1 l2 l3 l4 l6 l7 l8 l9 l10 l11 l12 l13 l14 : Slot} {w0 w1 w2 w3 : Int32} {s0 s1 s2 s3 : Int32} {m : Nat} (ho : w0 < w1 ∧ w1 < w2 ∧ w2 < w3) : Rsq (go (m + 250) (158, [l0, l1, l2, l3, l4, .val (.int 0), l6, l7, l8, l9, l10, l11, l12, l13, l14, .val (.int w0), .val (.int w1), .val (.int w2), .val (.int w3), .val (.int s0), .val (.int s1), .val (.int s2), .val (.int s3), .unset, .unset, .unset, .unset, .unset, .unset, .unset], [], [], 0, 0)) OneI := by
  refine t0_158 hgo ?_
  refine t0_160f hgo (by decide) ?_
  refine t0_172 hgo ?_
  refine t0_173 hgo ?_
  refine t0_175 hgo ?_
  refine t0_176f hgo (by decide) ?_
  refine t0_188 hgo ?_
  refine t0_189 hgo ?_
  refine t0_190 hgo ?_
  refine t0_192 hgo ?_
  refine t0_193f hgo (by decide) ?_
  refine t0_205 hgo ?_
  refine t0_206 hgo ?_
  refine t0_207 hgo ?_
  refine t0_209 hgo ?_
  refine t0_210f hgo (by decide) ?_
  refine t0_222 hgo ?_
  refine t0_223 hgo ?_
  refine t0_224 hgo rfl ?_
  refine t0_226 hgo ?_
  refine res_of (u0_228 hgo) ?_
  simp only [eq_self, and_self, true_and, and_true, not_true_eq_false, not_false_eq_true, if_true, if_false, reduceIte, Option.bind_some, List.getElem?_cons_zero, List.getElem?_cons_succ, Nat.reduceAdd, Nat.reduceSub, Nat.reduceLT, Nat.reduceLeDiff, Nat.le_refl, Nat.zero_add, Nat.add_zero, List.length_cons, List.length_nil, Int32.reduceLT, Int32.reduceToNatClampNeg, Int32.reduceAdd, Int32.reduceSub, Int32.reduceMul, decide_true, aArr, List.nil_append, List.cons_append, List.replicate_zero, List.replicate_succ, defaultValue]
  refine t0_230 hgo rfl rfl ?_
  refine t0_232 hgo ?_
  refine t0_234 hgo ?_
  refine t0_236 hgo ?_
  refine res_of (u0_237 hgo) ?_
  simp only [eq_self, and_self, true_and, and_true, not_true_eq_false, not_false_eq_true, if_true, if_false, reduceIte, Option.bind_some, List.getElem?_cons_zero, List.getElem?_cons_succ, Nat.reduceAdd, Nat.reduceSub, Nat.reduceLT, Nat.reduceLeDiff, Nat.le_refl, Nat.zero_add, Nat.add_zero, List.length_cons, List.length_nil, Int32.reduceLT, Int32.reduceToNatClampNeg, Int32.reduceAdd, Int32.reduceSub, Int32.reduceMul, decide_true, aArr, List.nil_append, List.cons_append, List.replicate_zero, List.replicate_succ, defaultValue]
  refine t0_239 hgo rfl rfl ?_
  refine t0_241 hgo ?_
  refine t0_242 hgo rfl ?_
  refine t0_244 hgo ?_
  refine t0_245 hgo rfl ?_
  refine t0_247 hgo ?_
  refine t0_249f hgo (by decide) ?_
  refine t0_280 hgo ?_
  refine t0_282 hgo ?_
  refine t0_283f hgo (by decide) ?_
  refine t0_314 hgo ?_
  refine t0_316 hgo ?_
  refine t0_317f hgo (by decide) ?_
  refine t0_348 hgo ?_
  refine t0_350 hgo ?_
  refine t0_351f hgo (by decide) ?_
  refine t0_382 hgo rfl ?_
  refine t0_384 hgo rfl ?_
  refine res_of (u0_386 hgo) ?_
  simp only [eq_self, and_self, true_and, and_true, not_true_eq_false, not_false_eq_true, if_true, if_false, reduceIte, Option.bind_some, List.getElem?_cons_zero, List.getElem?_cons_succ, Nat.reduceAdd, Nat.reduceSub, Nat.reduceLT, Nat.reduceLeDiff, Nat.le_refl, Nat.zero_add, Nat.add_zero, List.length_cons, List.length_nil, Int32.reduceLT, Int32.reduceToNatClampNeg, Int32.reduceAdd, Int32.reduceSub, Int32.reduceMul, decide_true, aCall, aRecv, aObj, obj, List.take_succ_cons, List.take_zero, List.drop_succ_cons, List.drop_zero, List.reverse_cons, List.reverse_nil, List.nil_append, List.cons_append, List.append_nil, List.map_cons, List.map_nil, List.sum_cons, List.sum_nil, cat_int, cat_long, cat_ref, cat_null, Option.toList_some, Option.toList_none, mg_0_0 ho]
  refine t0_389 hgo rfl rfl ?_
  refine t0_391 hgo rfl ?_
  refine res_of (u0_393 hgo) ?_
  simp only [eq_self, and_self, true_and, and_true, not_true_eq_false, not_false_eq_true, if_true, if_false, reduceIte, Option.bind_some, List.getElem?_cons_zero, List.getElem?_cons_succ, Nat.reduceAdd, Nat.reduceSub, Nat.reduceLT, Nat.reduceLeDiff, Nat.le_refl, Nat.zero_add, Nat.add_zero, List.length_cons, List.length_nil, Int32.reduceLT, Int32.reduceToNatClampNeg, Int32.reduceAdd, Int32.reduceSub, Int32.reduceMul, decide_true, pR_ref, arr, ln0, ln1, ln2, ln3, ln4, ln5, ln6, ln7, ln8, ln9, ln10, ln11, ln12, ln13, ln14, ln15, ln16, ln17, ln18, ln19, ln20, ln21, ln22, ln23, ln24, ln25, ln26, ln27, ln28, ln29, ln30, ln31, ln32, ln33, ln34, ln35, ln36, mg_0_0 ho]
  refine t0_394 hgo ?_
  refine t0_396t hgo rfl ?_
  refine t0_401 hgo ?_
  refine t0_402 hgo rfl ?_
  refine t0_404 hgo ?_
  refine t0_406f hgo (by decide) ?_
  refine t0_430 hgo ?_
  refine t0_432 hgo ?_
  refine t0_433f hgo (by decide) ?_
  refine t0_457 hgo ?_
  refine t0_459 hgo ?_
  refine t0_460f hgo (by decide) ?_
  refine t0_484 hgo ?_
  refine t0_486 hgo ?_
  refine t0_487f hgo (by decide) ?_
  refine t0_511 hgo ?_
  refine t0_513 hgo ?_
  exact one_b
set_option maxRecDepth 65536 in
set_option maxHeartbeats 4000000 in
theorem tl_1_0 {go : Nat → St → Option ORes} (hgo : go = orun code ret E0 0) {l0 l1 l2 l3 l4 l6 l7 l8 l9 l10 l11 l12 l13 l14 : Slot} {w0 w1 w2 w3 : Int32} {s1 s2 s3 : Int32} {m : Nat} (ho : w0 < w1 ∧ w1 < w2 ∧ w2 < w3) : Rsq (go (m + 250) (158, [l0, l1, l2, l3, l4, .val (.int 1), l6, l7, l8, l9, l10, l11, l12, l13, l14, .val (.int w0), .val (.int w1), .val (.int w2), .val (.int w3), .val (.int 0), .val (.int s1), .val (.int s2), .val (.int s3), .unset, .unset, .unset, .unset, .unset, .unset, .unset], [], [], 0, 0)) OneI := by
  refine t0_158 hgo ?_
  refine t0_160t hgo (by decide) ?_
  refine t0_163 hgo ?_
  refine t0_165t hgo (by decide) ?_
  refine t0_172 hgo ?_
  refine t0_173 hgo ?_
  refine t0_175 hgo ?_
  refine t0_176f hgo (by decide) ?_
  refine t0_188 hgo ?_
  refine t0_189 hgo ?_
  refine t0_190 hgo ?_
  refine t0_192 hgo ?_
  refine t0_193f hgo (by decide) ?_
  refine t0_205 hgo ?_
  refine t0_206 hgo ?_
  refine t0_207 hgo ?_
  refine t0_209 hgo ?_
  refine t0_210f hgo (by decide) ?_
  refine t0_222 hgo ?_
  refine t0_223 hgo ?_
  refine t0_224 hgo rfl ?_
  refine t0_226 hgo ?_
  refine res_of (u0_228 hgo) ?_
  simp only [eq_self, and_self, true_and, and_true, not_true_eq_false, not_false_eq_true, if_true, if_false, reduceIte, Option.bind_some, List.getElem?_cons_zero, List.getElem?_cons_succ, Nat.reduceAdd, Nat.reduceSub, Nat.reduceLT, Nat.reduceLeDiff, Nat.le_refl, Nat.zero_add, Nat.add_zero, List.length_cons, List.length_nil, Int32.reduceLT, Int32.reduceToNatClampNeg, Int32.reduceAdd, Int32.reduceSub, Int32.reduceMul, decide_true, aArr, List.nil_append, List.cons_append, List.replicate_zero, List.replicate_succ, defaultValue]
  refine t0_230 hgo rfl rfl ?_
  refine t0_232 hgo ?_
  refine t0_234 hgo ?_
  refine t0_236 hgo ?_
  refine res_of (u0_237 hgo) ?_
  simp only [eq_self, and_self, true_and, and_true, not_true_eq_false, not_false_eq_true, if_true, if_false, reduceIte, Option.bind_some, List.getElem?_cons_zero, List.getElem?_cons_succ, Nat.reduceAdd, Nat.reduceSub, Nat.reduceLT, Nat.reduceLeDiff, Nat.le_refl, Nat.zero_add, Nat.add_zero, List.length_cons, List.length_nil, Int32.reduceLT, Int32.reduceToNatClampNeg, Int32.reduceAdd, Int32.reduceSub, Int32.reduceMul, decide_true, aArr, List.nil_append, List.cons_append, List.replicate_zero, List.replicate_succ, defaultValue]
  refine t0_239 hgo rfl rfl ?_
  refine t0_241 hgo ?_
  refine t0_242 hgo rfl ?_
  refine t0_244 hgo ?_
  refine t0_245 hgo rfl ?_
  refine t0_247 hgo ?_
  refine t0_249t hgo (by decide) ?_
  refine t0_252 hgo ?_
  refine t0_254t hgo (by decide) ?_
  refine t0_270 hgo rfl ?_
  refine t0_272 hgo ?_
  refine t0_274 hgo ?_
  refine res_of (u0_276 hgo) ?_
  simp only [eq_self, and_self, true_and, and_true, not_true_eq_false, not_false_eq_true, if_true, if_false, reduceIte, Option.bind_some, List.getElem?_cons_zero, List.getElem?_cons_succ, Nat.reduceAdd, Nat.reduceSub, Nat.reduceLT, Nat.reduceLeDiff, Nat.le_refl, Nat.zero_add, Nat.add_zero, List.length_cons, List.length_nil, Int32.reduceLT, Int32.reduceToNatClampNeg, Int32.reduceAdd, Int32.reduceSub, Int32.reduceMul, decide_true, ex_iastore, ast, astL, pI_int, pL_long, pR_ref, arr, isT, isBZ, nar, List.set_cons_zero, List.set_cons_succ]
  refine t0_277 hgo ?_
  refine t0_280 hgo ?_
  refine t0_282 hgo ?_
  refine t0_283f hgo (by decide) ?_
  refine t0_314 hgo ?_
  refine t0_316 hgo ?_
  refine t0_317f hgo (by decide) ?_
  refine t0_348 hgo ?_
  refine t0_350 hgo ?_
  refine t0_351f hgo (by decide) ?_
  refine t0_382 hgo rfl ?_
  refine t0_384 hgo rfl ?_
  refine res_of (u0_386 hgo) ?_
  simp only [eq_self, and_self, true_and, and_true, not_true_eq_false, not_false_eq_true, if_true, if_false, reduceIte, Option.bind_some, List.getElem?_cons_zero, List.getElem?_cons_succ, Nat.reduceAdd, Nat.reduceSub, Nat.reduceLT, Nat.reduceLeDiff, Nat.le_refl, Nat.zero_add, Nat.add_zero, List.length_cons, List.length_nil, Int32.reduceLT, Int32.reduceToNatClampNeg, Int32.reduceAdd, Int32.reduceSub, Int32.reduceMul, decide_true, aCall, aRecv, aObj, obj, List.take_succ_cons, List.take_zero, List.drop_succ_cons, List.drop_zero, List.reverse_cons, List.reverse_nil, List.nil_append, List.cons_append, List.append_nil, List.map_cons, List.map_nil, List.sum_cons, List.sum_nil, cat_int, cat_long, cat_ref, cat_null, Option.toList_some, Option.toList_none, mg_1_0 ho]
  refine t0_389 hgo rfl rfl ?_
  refine t0_391 hgo rfl ?_
  refine res_of (u0_393 hgo) ?_
  simp only [eq_self, and_self, true_and, and_true, not_true_eq_false, not_false_eq_true, if_true, if_false, reduceIte, Option.bind_some, List.getElem?_cons_zero, List.getElem?_cons_succ, Nat.reduceAdd, Nat.reduceSub, Nat.reduceLT, Nat.reduceLeDiff, Nat.le_refl, Nat.zero_add, Nat.add_zero, List.length_cons, List.length_nil, Int32.reduceLT, Int32.reduceToNatClampNeg, Int32.reduceAdd, Int32.reduceSub, Int32.reduceMul, decide_true, pR_ref, arr, ln0, ln1, ln2, ln3, ln4, ln5, ln6, ln7, ln8, ln9, ln10, ln11, ln12, ln13, ln14, ln15, ln16, ln17, ln18, ln19, ln20, ln21, ln22, ln23, ln24, ln25, ln26, ln27, ln28, ln29, ln30, ln31, ln32, ln33, ln34, ln35, ln36, mg_1_0 ho]
  refine t0_394 hgo ?_
  refine t0_396t hgo rfl ?_
  refine t0_401 hgo ?_
  refine t0_402 hgo rfl ?_
  refine t0_404 hgo ?_
  refine t0_406t hgo (by decide) ?_
  refine t0_409 hgo ?_
  refine t0_411f hgo (by decide) ?_
  refine t0_414 hgo rfl ?_
  refine t0_416 hgo ?_
  refine res_of (u0_417 hgo) ?_
  simp only [eq_self, and_self, true_and, and_true, not_true_eq_false, not_false_eq_true, if_true, if_false, reduceIte, Option.bind_some, List.getElem?_cons_zero, List.getElem?_cons_succ, Nat.reduceAdd, Nat.reduceSub, Nat.reduceLT, Nat.reduceLeDiff, Nat.le_refl, Nat.zero_add, Nat.add_zero, List.length_cons, List.length_nil, Int32.reduceLT, Int32.reduceToNatClampNeg, Int32.reduceAdd, Int32.reduceSub, Int32.reduceMul, decide_true, ex_iaload, ald, pI_int, pR_ref, arr, isT, isBZ, mg_1_0 ho]
  refine t0_418 hgo ?_
  refine t0_420t hgo rfl ?_
  refine t0_423 hgo ?_
  refine t0_424 hgo ?_
  refine t0_428 hgo rfl ?_
  refine t0_430 hgo ?_
  refine t0_432 hgo ?_
  refine t0_433f hgo (by decide) ?_
  refine t0_457 hgo ?_
  refine t0_459 hgo ?_
  refine t0_460f hgo (by decide) ?_
  refine t0_484 hgo ?_
  refine t0_486 hgo ?_
  refine t0_487f hgo (by decide) ?_
  refine t0_511 hgo ?_
  refine t0_513 hgo ?_
  exact one_b
set_option maxRecDepth 65536 in
set_option maxHeartbeats 4000000 in
theorem tl_1_1 {go : Nat → St → Option ORes} (hgo : go = orun code ret E0 0) {l0 l1 l2 l3 l4 l6 l7 l8 l9 l10 l11 l12 l13 l14 : Slot} {w0 w1 w2 w3 : Int32} {s1 s2 s3 : Int32} {m : Nat} (ho : w0 < w1 ∧ w1 < w2 ∧ w2 < w3) : Rsq (go (m + 250) (158, [l0, l1, l2, l3, l4, .val (.int 1), l6, l7, l8, l9, l10, l11, l12, l13, l14, .val (.int w0), .val (.int w1), .val (.int w2), .val (.int w3), .val (.int 1), .val (.int s1), .val (.int s2), .val (.int s3), .unset, .unset, .unset, .unset, .unset, .unset, .unset], [], [], 0, 0)) OneI := by
  refine t0_158 hgo ?_
  refine t0_160t hgo (by decide) ?_
  refine t0_163 hgo ?_
  refine t0_165f hgo (by decide) ?_
  refine t0_168 hgo ?_
  refine t0_169 hgo ?_
  refine t0_173 hgo ?_
  refine t0_175 hgo ?_
  refine t0_176f hgo (by decide) ?_
  refine t0_188 hgo ?_
  refine t0_189 hgo ?_
  refine t0_190 hgo ?_
  refine t0_192 hgo ?_
  refine t0_193f hgo (by decide) ?_
  refine t0_205 hgo ?_
  refine t0_206 hgo ?_
  refine t0_207 hgo ?_
  refine t0_209 hgo ?_
  refine t0_210f hgo (by decide) ?_
  refine t0_222 hgo ?_
  refine t0_223 hgo ?_
  refine t0_224 hgo rfl ?_
  refine t0_226 hgo ?_
  refine res_of (u0_228 hgo) ?_
  simp only [eq_self, and_self, true_and, and_true, not_true_eq_false, not_false_eq_true, if_true, if_false, reduceIte, Option.bind_some, List.getElem?_cons_zero, List.getElem?_cons_succ, Nat.reduceAdd, Nat.reduceSub, Nat.reduceLT, Nat.reduceLeDiff, Nat.le_refl, Nat.zero_add, Nat.add_zero, List.length_cons, List.length_nil, Int32.reduceLT, Int32.reduceToNatClampNeg, Int32.reduceAdd, Int32.reduceSub, Int32.reduceMul, decide_true, aArr, List.nil_append, List.cons_append, List.replicate_zero, List.replicate_succ, defaultValue]
  refine t0_230 hgo rfl rfl ?_
  refine t0_232 hgo ?_
  refine t0_234 hgo ?_
  refine t0_236 hgo ?_
  refine res_of (u0_237 hgo) ?_
  simp only [eq_self, and_self, true_and, and_true, not_true_eq_false, not_false_eq_true, if_true, if_false, reduceIte, Option.bind_some, List.getElem?_cons_zero, List.getElem?_cons_succ, Nat.reduceAdd, Nat.reduceSub, Nat.reduceLT, Nat.reduceLeDiff, Nat.le_refl, Nat.zero_add, Nat.add_zero, List.length_cons, List.length_nil, Int32.reduceLT, Int32.reduceToNatClampNeg, Int32.reduceAdd, Int32.reduceSub, Int32.reduceMul, decide_true, aArr, List.nil_append, List.cons_append, List.replicate_zero, List.replicate_succ, defaultValue]
  refine t0_239 hgo rfl rfl ?_
  refine t0_241 hgo ?_
  refine t0_242 hgo rfl ?_
  refine t0_244 hgo ?_
  refine t0_245 hgo rfl ?_
  refine t0_247 hgo ?_
  refine t0_249t hgo (by decide) ?_
  refine t0_252 hgo ?_
  refine t0_254f hgo (by decide) ?_
  refine t0_257 hgo rfl ?_
  refine t0_259 hgo ?_
  refine t0_261 hgo ?_
  refine res_of (u0_263 hgo) ?_
  simp only [eq_self, and_self, true_and, and_true, not_true_eq_false, not_false_eq_true, if_true, if_false, reduceIte, Option.bind_some, List.getElem?_cons_zero, List.getElem?_cons_succ, Nat.reduceAdd, Nat.reduceSub, Nat.reduceLT, Nat.reduceLeDiff, Nat.le_refl, Nat.zero_add, Nat.add_zero, List.length_cons, List.length_nil, Int32.reduceLT, Int32.reduceToNatClampNeg, Int32.reduceAdd, Int32.reduceSub, Int32.reduceMul, decide_true, ex_iastore, ast, astL, pI_int, pL_long, pR_ref, arr, isT, isBZ, nar, List.set_cons_zero, List.set_cons_succ]
  refine t0_264 hgo ?_
  refine t0_267 hgo ?_
  refine t0_280 hgo ?_
  refine t0_282 hgo ?_
  refine t0_283f hgo (by decide) ?_
  refine t0_314 hgo ?_
  refine t0_316 hgo ?_
  refine t0_317f hgo (by decide) ?_
  refine t0_348 hgo ?_
  refine t0_350 hgo ?_
  refine t0_351f hgo (by decide) ?_
  refine t0_382 hgo rfl ?_
  refine t0_384 hgo rfl ?_
  refine res_of (u0_386 hgo) ?_
  simp only [eq_self, and_self, true_and, and_true, not_true_eq_false, not_false_eq_true, if_true, if_false, reduceIte, Option.bind_some, List.getElem?_cons_zero, List.getElem?_cons_succ, Nat.reduceAdd, Nat.reduceSub, Nat.reduceLT, Nat.reduceLeDiff, Nat.le_refl, Nat.zero_add, Nat.add_zero, List.length_cons, List.length_nil, Int32.reduceLT, Int32.reduceToNatClampNeg, Int32.reduceAdd, Int32.reduceSub, Int32.reduceMul, decide_true, aCall, aRecv, aObj, obj, List.take_succ_cons, List.take_zero, List.drop_succ_cons, List.drop_zero, List.reverse_cons, List.reverse_nil, List.nil_append, List.cons_append, List.append_nil, List.map_cons, List.map_nil, List.sum_cons, List.sum_nil, cat_int, cat_long, cat_ref, cat_null, Option.toList_some, Option.toList_none, mg_1_1 ho]
  refine t0_389 hgo rfl rfl ?_
  refine t0_391 hgo rfl ?_
  refine res_of (u0_393 hgo) ?_
  simp only [eq_self, and_self, true_and, and_true, not_true_eq_false, not_false_eq_true, if_true, if_false, reduceIte, Option.bind_some, List.getElem?_cons_zero, List.getElem?_cons_succ, Nat.reduceAdd, Nat.reduceSub, Nat.reduceLT, Nat.reduceLeDiff, Nat.le_refl, Nat.zero_add, Nat.add_zero, List.length_cons, List.length_nil, Int32.reduceLT, Int32.reduceToNatClampNeg, Int32.reduceAdd, Int32.reduceSub, Int32.reduceMul, decide_true, pR_ref, arr, ln0, ln1, ln2, ln3, ln4, ln5, ln6, ln7, ln8, ln9, ln10, ln11, ln12, ln13, ln14, ln15, ln16, ln17, ln18, ln19, ln20, ln21, ln22, ln23, ln24, ln25, ln26, ln27, ln28, ln29, ln30, ln31, ln32, ln33, ln34, ln35, ln36, mg_1_1 ho]
  refine t0_394 hgo ?_
  refine t0_396t hgo rfl ?_
  refine t0_401 hgo ?_
  refine t0_402 hgo rfl ?_
  refine t0_404 hgo ?_
  refine t0_406t hgo (by decide) ?_
  refine t0_409 hgo ?_
  refine t0_411f hgo (by decide) ?_
  refine t0_414 hgo rfl ?_
  refine t0_416 hgo ?_
  refine res_of (u0_417 hgo) ?_
  simp only [eq_self, and_self, true_and, and_true, not_true_eq_false, not_false_eq_true, if_true, if_false, reduceIte, Option.bind_some, List.getElem?_cons_zero, List.getElem?_cons_succ, Nat.reduceAdd, Nat.reduceSub, Nat.reduceLT, Nat.reduceLeDiff, Nat.le_refl, Nat.zero_add, Nat.add_zero, List.length_cons, List.length_nil, Int32.reduceLT, Int32.reduceToNatClampNeg, Int32.reduceAdd, Int32.reduceSub, Int32.reduceMul, decide_true, ex_iaload, ald, pI_int, pR_ref, arr, isT, isBZ, mg_1_1 ho]
  refine t0_418 hgo ?_
  refine t0_420t hgo rfl ?_
  refine t0_423 hgo ?_
  refine t0_424 hgo ?_
  refine t0_428 hgo rfl ?_
  refine t0_430 hgo ?_
  refine t0_432 hgo ?_
  refine t0_433f hgo (by decide) ?_
  refine t0_457 hgo ?_
  refine t0_459 hgo ?_
  refine t0_460f hgo (by decide) ?_
  refine t0_484 hgo ?_
  refine t0_486 hgo ?_
  refine t0_487f hgo (by decide) ?_
  refine t0_511 hgo ?_
  refine t0_513 hgo ?_
  exact one_b
set_option maxRecDepth 65536 in
set_option maxHeartbeats 4000000 in
theorem tl_2_0 {go : Nat → St → Option ORes} (hgo : go = orun code ret E0 0) {l0 l1 l2 l3 l4 l6 l7 l8 l9 l10 l11 l12 l13 l14 : Slot} {w0 w1 w2 w3 : Int32} {s2 s3 : Int32} {m : Nat} (ho : w0 < w1 ∧ w1 < w2 ∧ w2 < w3) : Rsq (go (m + 250) (158, [l0, l1, l2, l3, l4, .val (.int 2), l6, l7, l8, l9, l10, l11, l12, l13, l14, .val (.int w0), .val (.int w1), .val (.int w2), .val (.int w3), .val (.int 0), .val (.int 0), .val (.int s2), .val (.int s3), .unset, .unset, .unset, .unset, .unset, .unset, .unset], [], [], 0, 0)) OneI := by
  refine t0_158 hgo ?_
  refine t0_160t hgo (by decide) ?_
  refine t0_163 hgo ?_
  refine t0_165t hgo (by decide) ?_
  refine t0_172 hgo ?_
  refine t0_173 hgo ?_
  refine t0_175 hgo ?_
  refine t0_176t hgo (by decide) ?_
  refine t0_179 hgo ?_
  refine t0_181t hgo (by decide) ?_
  refine t0_188 hgo ?_
  refine t0_189 hgo ?_
  refine t0_190 hgo ?_
  refine t0_192 hgo ?_
  refine t0_193f hgo (by decide) ?_
  refine t0_205 hgo ?_
  refine t0_206 hgo ?_
  refine t0_207 hgo ?_
  refine t0_209 hgo ?_
  refine t0_210f hgo (by decide) ?_
  refine t0_222 hgo ?_
  refine t0_223 hgo ?_
  refine t0_224 hgo rfl ?_
  refine t0_226 hgo ?_
  refine res_of (u0_228 hgo) ?_
  simp only [eq_self, and_self, true_and, and_true, not_true_eq_false, not_false_eq_true, if_true, if_false, reduceIte, Option.bind_some, List.getElem?_cons_zero, List.getElem?_cons_succ, Nat.reduceAdd, Nat.reduceSub, Nat.reduceLT, Nat.reduceLeDiff, Nat.le_refl, Nat.zero_add, Nat.add_zero, List.length_cons, List.length_nil, Int32.reduceLT, Int32.reduceToNatClampNeg, Int32.reduceAdd, Int32.reduceSub, Int32.reduceMul, decide_true, aArr, List.nil_append, List.cons_append, List.replicate_zero, List.replicate_succ, defaultValue]
  refine t0_230 hgo rfl rfl ?_
  refine t0_232 hgo ?_
  refine t0_234 hgo ?_
  refine t0_236 hgo ?_
  refine res_of (u0_237 hgo) ?_
  simp only [eq_self, and_self, true_and, and_true, not_true_eq_false, not_false_eq_true, if_true, if_false, reduceIte, Option.bind_some, List.getElem?_cons_zero, List.getElem?_cons_succ, Nat.reduceAdd, Nat.reduceSub, Nat.reduceLT, Nat.reduceLeDiff, Nat.le_refl, Nat.zero_add, Nat.add_zero, List.length_cons, List.length_nil, Int32.reduceLT, Int32.reduceToNatClampNeg, Int32.reduceAdd, Int32.reduceSub, Int32.reduceMul, decide_true, aArr, List.nil_append, List.cons_append, List.replicate_zero, List.replicate_succ, defaultValue]
  refine t0_239 hgo rfl rfl ?_
  refine t0_241 hgo ?_
  refine t0_242 hgo rfl ?_
  refine t0_244 hgo ?_
  refine t0_245 hgo rfl ?_
  refine t0_247 hgo ?_
  refine t0_249t hgo (by decide) ?_
  refine t0_252 hgo ?_
  refine t0_254t hgo (by decide) ?_
  refine t0_270 hgo rfl ?_
  refine t0_272 hgo ?_
  refine t0_274 hgo ?_
  refine res_of (u0_276 hgo) ?_
  simp only [eq_self, and_self, true_and, and_true, not_true_eq_false, not_false_eq_true, if_true, if_false, reduceIte, Option.bind_some, List.getElem?_cons_zero, List.getElem?_cons_succ, Nat.reduceAdd, Nat.reduceSub, Nat.reduceLT, Nat.reduceLeDiff, Nat.le_refl, Nat.zero_add, Nat.add_zero, List.length_cons, List.length_nil, Int32.reduceLT, Int32.reduceToNatClampNeg, Int32.reduceAdd, Int32.reduceSub, Int32.reduceMul, decide_true, ex_iastore, ast, astL, pI_int, pL_long, pR_ref, arr, isT, isBZ, nar, List.set_cons_zero, List.set_cons_succ]
  refine t0_277 hgo ?_
  refine t0_280 hgo ?_
  refine t0_282 hgo ?_
  refine t0_283t hgo (by decide) ?_
  refine t0_286 hgo ?_
  refine t0_288t hgo (by decide) ?_
  refine t0_304 hgo rfl ?_
  refine t0_306 hgo ?_
  refine t0_308 hgo ?_
  refine res_of (u0_310 hgo) ?_
  simp only [eq_self, and_self, true_and, and_true, not_true_eq_false, not_false_eq_true, if_true, if_false, reduceIte, Option.bind_some, List.getElem?_cons_zero, List.getElem?_cons_succ, Nat.reduceAdd, Nat.reduceSub, Nat.reduceLT, Nat.reduceLeDiff, Nat.le_refl, Nat.zero_add, Nat.add_zero, List.length_cons, List.length_nil, Int32.reduceLT, Int32.reduceToNatClampNeg, Int32.reduceAdd, Int32.reduceSub, Int32.reduceMul, decide_true, ex_iastore, ast, astL, pI_int, pL_long, pR_ref, arr, isT, isBZ, nar, List.set_cons_zero, List.set_cons_succ]
  refine t0_311 hgo ?_
  refine t0_314 hgo ?_
  refine t0_316 hgo ?_
  refine t0_317f hgo (by decide) ?_
  refine t0_348 hgo ?_
  refine t0_350 hgo ?_
  refine t0_351f hgo (by decide) ?_
  refine t0_382 hgo rfl ?_
  refine t0_384 hgo rfl ?_
  refine res_of (u0_386 hgo) ?_
  simp only [eq_self, and_self, true_and, and_true, not_true_eq_false, not_false_eq_true, if_true, if_false, reduceIte, Option.bind_some, List.getElem?_cons_zero, List.getElem?_cons_succ, Nat.reduceAdd, Nat.reduceSub, Nat.reduceLT, Nat.reduceLeDiff, Nat.le_refl, Nat.zero_add, Nat.add_zero, List.length_cons, List.length_nil, Int32.reduceLT, Int32.reduceToNatClampNeg, Int32.reduceAdd, Int32.reduceSub, Int32.reduceMul, decide_true, aCall, aRecv, aObj, obj, List.take_succ_cons, List.take_zero, List.drop_succ_cons, List.drop_zero, List.reverse_cons, List.reverse_nil, List.nil_append, List.cons_append, List.append_nil, List.map_cons, List.map_nil, List.sum_cons, List.sum_nil, cat_int, cat_long, cat_ref, cat_null, Option.toList_some, Option.toList_none, mg_2_0 ho]
  refine t0_389 hgo rfl rfl ?_
  refine t0_391 hgo rfl ?_
  refine res_of (u0_393 hgo) ?_
  simp only [eq_self, and_self, true_and, and_true, not_true_eq_false, not_false_eq_true, if_true, if_false, reduceIte, Option.bind_some, List.getElem?_cons_zero, List.getElem?_cons_succ, Nat.reduceAdd, Nat.reduceSub, Nat.reduceLT, Nat.reduceLeDiff, Nat.le_refl, Nat.zero_add, Nat.add_zero, List.length_cons, List.length_nil, Int32.reduceLT, Int32.reduceToNatClampNeg, Int32.reduceAdd, Int32.reduceSub, Int32.reduceMul, decide_true, pR_ref, arr, ln0, ln1, ln2, ln3, ln4, ln5, ln6, ln7, ln8, ln9, ln10, ln11, ln12, ln13, ln14, ln15, ln16, ln17, ln18, ln19, ln20, ln21, ln22, ln23, ln24, ln25, ln26, ln27, ln28, ln29, ln30, ln31, ln32, ln33, ln34, ln35, ln36, mg_2_0 ho]
  refine t0_394 hgo ?_
  refine t0_396t hgo rfl ?_
  refine t0_401 hgo ?_
  refine t0_402 hgo rfl ?_
  refine t0_404 hgo ?_
  refine t0_406t hgo (by decide) ?_
  refine t0_409 hgo ?_
  refine t0_411f hgo (by decide) ?_
  refine t0_414 hgo rfl ?_
  refine t0_416 hgo ?_
  refine res_of (u0_417 hgo) ?_
  simp only [eq_self, and_self, true_and, and_true, not_true_eq_false, not_false_eq_true, if_true, if_false, reduceIte, Option.bind_some, List.getElem?_cons_zero, List.getElem?_cons_succ, Nat.reduceAdd, Nat.reduceSub, Nat.reduceLT, Nat.reduceLeDiff, Nat.le_refl, Nat.zero_add, Nat.add_zero, List.length_cons, List.length_nil, Int32.reduceLT, Int32.reduceToNatClampNeg, Int32.reduceAdd, Int32.reduceSub, Int32.reduceMul, decide_true, ex_iaload, ald, pI_int, pR_ref, arr, isT, isBZ, mg_2_0 ho]
  refine t0_418 hgo ?_
  refine t0_420t hgo rfl ?_
  refine t0_423 hgo ?_
  refine t0_424 hgo ?_
  refine t0_428 hgo rfl ?_
  refine t0_430 hgo ?_
  refine t0_432 hgo ?_
  refine t0_433t hgo (by decide) ?_
  refine t0_436 hgo ?_
  refine t0_438f hgo (by decide) ?_
  refine t0_441 hgo rfl ?_
  refine t0_443 hgo ?_
  refine res_of (u0_444 hgo) ?_
  simp only [eq_self, and_self, true_and, and_true, not_true_eq_false, not_false_eq_true, if_true, if_false, reduceIte, Option.bind_some, List.getElem?_cons_zero, List.getElem?_cons_succ, Nat.reduceAdd, Nat.reduceSub, Nat.reduceLT, Nat.reduceLeDiff, Nat.le_refl, Nat.zero_add, Nat.add_zero, List.length_cons, List.length_nil, Int32.reduceLT, Int32.reduceToNatClampNeg, Int32.reduceAdd, Int32.reduceSub, Int32.reduceMul, decide_true, ex_iaload, ald, pI_int, pR_ref, arr, isT, isBZ, mg_2_0 ho]
  refine t0_445 hgo ?_
  refine t0_447t hgo rfl ?_
  refine t0_450 hgo ?_
  refine t0_451 hgo ?_
  refine t0_455 hgo rfl ?_
  refine t0_457 hgo ?_
  refine t0_459 hgo ?_
  refine t0_460f hgo (by decide) ?_
  refine t0_484 hgo ?_
  refine t0_486 hgo ?_
  refine t0_487f hgo (by decide) ?_
  refine t0_511 hgo ?_
  refine t0_513 hgo ?_
  exact one_b
set_option maxRecDepth 65536 in
set_option maxHeartbeats 4000000 in
theorem tl_2_1 {go : Nat → St → Option ORes} (hgo : go = orun code ret E0 0) {l0 l1 l2 l3 l4 l6 l7 l8 l9 l10 l11 l12 l13 l14 : Slot} {w0 w1 w2 w3 : Int32} {s2 s3 : Int32} {m : Nat} (ho : w0 < w1 ∧ w1 < w2 ∧ w2 < w3) : Rsq (go (m + 250) (158, [l0, l1, l2, l3, l4, .val (.int 2), l6, l7, l8, l9, l10, l11, l12, l13, l14, .val (.int w0), .val (.int w1), .val (.int w2), .val (.int w3), .val (.int 1), .val (.int 0), .val (.int s2), .val (.int s3), .unset, .unset, .unset, .unset, .unset, .unset, .unset], [], [], 0, 0)) OneI := by
  refine t0_158 hgo ?_
  refine t0_160t hgo (by decide) ?_
  refine t0_163 hgo ?_
  refine t0_165f hgo (by decide) ?_
  refine t0_168 hgo ?_
  refine t0_169 hgo ?_
  refine t0_173 hgo ?_
  refine t0_175 hgo ?_
  refine t0_176t hgo (by decide) ?_
  refine t0_179 hgo ?_
  refine t0_181t hgo (by decide) ?_
  refine t0_188 hgo ?_
  refine t0_189 hgo ?_
  refine t0_190 hgo ?_
  refine t0_192 hgo ?_
  refine t0_193f hgo (by decide) ?_
  refine t0_205 hgo ?_
  refine t0_206 hgo ?_
  refine t0_207 hgo ?_
  refine t0_209 hgo ?_
  refine t0_210f hgo (by decide) ?_
  refine t0_222 hgo ?_
  refine t0_223 hgo ?_
  refine t0_224 hgo rfl ?_
  refine t0_226 hgo ?_
  refine res_of (u0_228 hgo) ?_
  simp only [eq_self, and_self, true_and, and_true, not_true_eq_false, not_false_eq_true, if_true, if_false, reduceIte, Option.bind_some, List.getElem?_cons_zero, List.getElem?_cons_succ, Nat.reduceAdd, Nat.reduceSub, Nat.reduceLT, Nat.reduceLeDiff, Nat.le_refl, Nat.zero_add, Nat.add_zero, List.length_cons, List.length_nil, Int32.reduceLT, Int32.reduceToNatClampNeg, Int32.reduceAdd, Int32.reduceSub, Int32.reduceMul, decide_true, aArr, List.nil_append, List.cons_append, List.replicate_zero, List.replicate_succ, defaultValue]
  refine t0_230 hgo rfl rfl ?_
  refine t0_232 hgo ?_
  refine t0_234 hgo ?_
  refine t0_236 hgo ?_
  refine res_of (u0_237 hgo) ?_
  simp only [eq_self, and_self, true_and, and_true, not_true_eq_false, not_false_eq_true, if_true, if_false, reduceIte, Option.bind_some, List.getElem?_cons_zero, List.getElem?_cons_succ, Nat.reduceAdd, Nat.reduceSub, Nat.reduceLT, Nat.reduceLeDiff, Nat.le_refl, Nat.zero_add, Nat.add_zero, List.length_cons, List.length_nil, Int32.reduceLT, Int32.reduceToNatClampNeg, Int32.reduceAdd, Int32.reduceSub, Int32.reduceMul, decide_true, aArr, List.nil_append, List.cons_append, List.replicate_zero, List.replicate_succ, defaultValue]
  refine t0_239 hgo rfl rfl ?_
  refine t0_241 hgo ?_
  refine t0_242 hgo rfl ?_
  refine t0_244 hgo ?_
  refine t0_245 hgo rfl ?_
  refine t0_247 hgo ?_
  refine t0_249t hgo (by decide) ?_
  refine t0_252 hgo ?_
  refine t0_254f hgo (by decide) ?_
  refine t0_257 hgo rfl ?_
  refine t0_259 hgo ?_
  refine t0_261 hgo ?_
  refine res_of (u0_263 hgo) ?_
  simp only [eq_self, and_self, true_and, and_true, not_true_eq_false, not_false_eq_true, if_true, if_false, reduceIte, Option.bind_some, List.getElem?_cons_zero, List.getElem?_cons_succ, Nat.reduceAdd, Nat.reduceSub, Nat.reduceLT, Nat.reduceLeDiff, Nat.le_refl, Nat.zero_add, Nat.add_zero, List.length_cons, List.length_nil, Int32.reduceLT, Int32.reduceToNatClampNeg, Int32.reduceAdd, Int32.reduceSub, Int32.reduceMul, decide_true, ex_iastore, ast, astL, pI_int, pL_long, pR_ref, arr, isT, isBZ, nar, List.set_cons_zero, List.set_cons_succ]
  refine t0_264 hgo ?_
  refine t0_267 hgo ?_
  refine t0_280 hgo ?_
  refine t0_282 hgo ?_
  refine t0_283t hgo (by decide) ?_
  refine t0_286 hgo ?_
  refine t0_288t hgo (by decide) ?_
  refine t0_304 hgo rfl ?_
  refine t0_306 hgo ?_
  refine t0_308 hgo ?_
  refine res_of (u0_310 hgo) ?_
  simp only [eq_self, and_self, true_and, and_true, not_true_eq_false, not_false_eq_true, if_true, if_false, reduceIte, Option.bind_some, List.getElem?_cons_zero, List.getElem?_cons_succ, Nat.reduceAdd, Nat.reduceSub, Nat.reduceLT, Nat.reduceLeDiff, Nat.le_refl, Nat.zero_add, Nat.add_zero, List.length_cons, List.length_nil, Int32.reduceLT, Int32.reduceToNatClampNeg, Int32.reduceAdd, Int32.reduceSub, Int32.reduceMul, decide_true, ex_iastore, ast, astL, pI_int, pL_long, pR_ref, arr, isT, isBZ, nar, List.set_cons_zero, List.set_cons_succ]
  refine t0_311 hgo ?_
  refine t0_314 hgo ?_
  refine t0_316 hgo ?_
  refine t0_317f hgo (by decide) ?_
  refine t0_348 hgo ?_
  refine t0_350 hgo ?_
  refine t0_351f hgo (by decide) ?_
  refine t0_382 hgo rfl ?_
  refine t0_384 hgo rfl ?_
  refine res_of (u0_386 hgo) ?_
  simp only [eq_self, and_self, true_and, and_true, not_true_eq_false, not_false_eq_true, if_true, if_false, reduceIte, Option.bind_some, List.getElem?_cons_zero, List.getElem?_cons_succ, Nat.reduceAdd, Nat.reduceSub, Nat.reduceLT, Nat.reduceLeDiff, Nat.le_refl, Nat.zero_add, Nat.add_zero, List.length_cons, List.length_nil, Int32.reduceLT, Int32.reduceToNatClampNeg, Int32.reduceAdd, Int32.reduceSub, Int32.reduceMul, decide_true, aCall, aRecv, aObj, obj, List.take_succ_cons, List.take_zero, List.drop_succ_cons, List.drop_zero, List.reverse_cons, List.reverse_nil, List.nil_append, List.cons_append, List.append_nil, List.map_cons, List.map_nil, List.sum_cons, List.sum_nil, cat_int, cat_long, cat_ref, cat_null, Option.toList_some, Option.toList_none, mg_2_1 ho]
  refine t0_389 hgo rfl rfl ?_
  refine t0_391 hgo rfl ?_
  refine res_of (u0_393 hgo) ?_
  simp only [eq_self, and_self, true_and, and_true, not_true_eq_false, not_false_eq_true, if_true, if_false, reduceIte, Option.bind_some, List.getElem?_cons_zero, List.getElem?_cons_succ, Nat.reduceAdd, Nat.reduceSub, Nat.reduceLT, Nat.reduceLeDiff, Nat.le_refl, Nat.zero_add, Nat.add_zero, List.length_cons, List.length_nil, Int32.reduceLT, Int32.reduceToNatClampNeg, Int32.reduceAdd, Int32.reduceSub, Int32.reduceMul, decide_true, pR_ref, arr, ln0, ln1, ln2, ln3, ln4, ln5, ln6, ln7, ln8, ln9, ln10, ln11, ln12, ln13, ln14, ln15, ln16, ln17, ln18, ln19, ln20, ln21, ln22, ln23, ln24, ln25, ln26, ln27, ln28, ln29, ln30, ln31, ln32, ln33, ln34, ln35, ln36, mg_2_1 ho]
  refine t0_394 hgo ?_
  refine t0_396t hgo rfl ?_
  refine t0_401 hgo ?_
  refine t0_402 hgo rfl ?_
  refine t0_404 hgo ?_
  refine t0_406t hgo (by decide) ?_
  refine t0_409 hgo ?_
  refine t0_411f hgo (by decide) ?_
  refine t0_414 hgo rfl ?_
  refine t0_416 hgo ?_
  refine res_of (u0_417 hgo) ?_
  simp only [eq_self, and_self, true_and, and_true, not_true_eq_false, not_false_eq_true, if_true, if_false, reduceIte, Option.bind_some, List.getElem?_cons_zero, List.getElem?_cons_succ, Nat.reduceAdd, Nat.reduceSub, Nat.reduceLT, Nat.reduceLeDiff, Nat.le_refl, Nat.zero_add, Nat.add_zero, List.length_cons, List.length_nil, Int32.reduceLT, Int32.reduceToNatClampNeg, Int32.reduceAdd, Int32.reduceSub, Int32.reduceMul, decide_true, ex_iaload, ald, pI_int, pR_ref, arr, isT, isBZ, mg_2_1 ho]
  refine t0_418 hgo ?_
  refine t0_420t hgo rfl ?_
  refine t0_423 hgo ?_
  refine t0_424 hgo ?_
  refine t0_428 hgo rfl ?_
  refine t0_430 hgo ?_
  refine t0_432 hgo ?_
  refine t0_433t hgo (by decide) ?_
  refine t0_436 hgo ?_
  refine t0_438f hgo (by decide) ?_
  refine t0_441 hgo rfl ?_
  refine t0_443 hgo ?_
  refine res_of (u0_444 hgo) ?_
  simp only [eq_self, and_self, true_and, and_true, not_true_eq_false, not_false_eq_true, if_true, if_false, reduceIte, Option.bind_some, List.getElem?_cons_zero, List.getElem?_cons_succ, Nat.reduceAdd, Nat.reduceSub, Nat.reduceLT, Nat.reduceLeDiff, Nat.le_refl, Nat.zero_add, Nat.add_zero, List.length_cons, List.length_nil, Int32.reduceLT, Int32.reduceToNatClampNeg, Int32.reduceAdd, Int32.reduceSub, Int32.reduceMul, decide_true, ex_iaload, ald, pI_int, pR_ref, arr, isT, isBZ, mg_2_1 ho]
  refine t0_445 hgo ?_
  refine t0_447t hgo rfl ?_
  refine t0_450 hgo ?_
  refine t0_451 hgo ?_
  refine t0_455 hgo rfl ?_
  refine t0_457 hgo ?_
  refine t0_459 hgo ?_
  refine t0_460f hgo (by decide) ?_
  refine t0_484 hgo ?_
  refine t0_486 hgo ?_
  refine t0_487f hgo (by decide) ?_
  refine t0_511 hgo ?_
  refine t0_513 hgo ?_
  exact one_b
set_option maxRecDepth 65536 in
set_option maxHeartbeats 4000000 in
theorem tl_2_2 {go : Nat → St → Option ORes} (hgo : go = orun code ret E0 0) {l0 l1 l2 l3 l4 l6 l7 l8 l9 l10 l11 l12 l13 l14 : Slot} {w0 w1 w2 w3 : Int32} {s2 s3 : Int32} {m : Nat} (ho : w0 < w1 ∧ w1 < w2 ∧ w2 < w3) : Rsq (go (m + 250) (158, [l0, l1, l2, l3, l4, .val (.int 2), l6, l7, l8, l9, l10, l11, l12, l13, l14, .val (.int w0), .val (.int w1), .val (.int w2), .val (.int w3), .val (.int 0), .val (.int 1), .val (.int s2), .val (.int s3), .unset, .unset, .unset, .unset, .unset, .unset, .unset], [], [], 0, 0)) OneI := by
  refine t0_158 hgo ?_
  refine t0_160t hgo (by decide) ?_
  refine t0_163 hgo ?_
  refine t0_165t hgo (by decide) ?_
  refine t0_172 hgo ?_
  refine t0_173 hgo ?_
  refine t0_175 hgo ?_
  refine t0_176t hgo (by decide) ?_
  refine t0_179 hgo ?_
  refine t0_181f hgo (by decide) ?_
  refine t0_184 hgo ?_
  refine t0_185 hgo ?_
  refine t0_189 hgo ?_
  refine t0_190 hgo ?_
  refine t0_192 hgo ?_
  refine t0_193f hgo (by decide) ?_
  refine t0_205 hgo ?_
  refine t0_206 hgo ?_
  refine t0_207 hgo ?_
  refine t0_209 hgo ?_
  refine t0_210f hgo (by decide) ?_
  refine t0_222 hgo ?_
  refine t0_223 hgo ?_
  refine t0_224 hgo rfl ?_
  refine t0_226 hgo ?_
  refine res_of (u0_228 hgo) ?_
  simp only [eq_self, and_self, true_and, and_true, not_true_eq_false, not_false_eq_true, if_true, if_false, reduceIte, Option.bind_some, List.getElem?_cons_zero, List.getElem?_cons_succ, Nat.reduceAdd, Nat.reduceSub, Nat.reduceLT, Nat.reduceLeDiff, Nat.le_refl, Nat.zero_add, Nat.add_zero, List.length_cons, List.length_nil, Int32.reduceLT, Int32.reduceToNatClampNeg, Int32.reduceAdd, Int32.reduceSub, Int32.reduceMul, decide_true, aArr, List.nil_append, List.cons_append, List.replicate_zero, List.replicate_succ, defaultValue]
  refine t0_230 hgo rfl rfl ?_
  refine t0_232 hgo ?_
  refine t0_234 hgo ?_
  refine t0_236 hgo ?_
  refine res_of (u0_237 hgo) ?_
  simp only [eq_self, and_self, true_and, and_true, not_true_eq_false, not_false_eq_true, if_true, if_false, reduceIte, Option.bind_some, List.getElem?_cons_zero, List.getElem?_cons_succ, Nat.reduceAdd, Nat.reduceSub, Nat.reduceLT, Nat.reduceLeDiff, Nat.le_refl, Nat.zero_add, Nat.add_zero, List.length_cons, List.length_nil, Int32.reduceLT, Int32.reduceToNatClampNeg, Int32.reduceAdd, Int32.reduceSub, Int32.reduceMul, decide_true, aArr, List.nil_append, List.cons_append, List.replicate_zero, List.replicate_succ, defaultValue]
  refine t0_239 hgo rfl rfl ?_
  refine t0_241 hgo ?_
  refine t0_242 hgo rfl ?_
  refine t0_244 hgo ?_
  refine t0_245 hgo rfl ?_
  refine t0_247 hgo ?_
  refine t0_249t hgo (by decide) ?_
  refine t0_252 hgo ?_
  refine t0_254t hgo (by decide) ?_
  refine t0_270 hgo rfl ?_
  refine t0_272 hgo ?_
  refine t0_274 hgo ?_
  refine res_of (u0_276 hgo) ?_
  simp only [eq_self, and_self, true_and, and_true, not_true_eq_false, not_false_eq_true, if_true, if_false, reduceIte, Option.bind_some, List.getElem?_cons_zero, List.getElem?_cons_succ, Nat.reduceAdd, Nat.reduceSub, Nat.reduceLT, Nat.reduceLeDiff, Nat.le_refl, Nat.zero_add, Nat.add_zero, List.length_cons, List.length_nil, Int32.reduceLT, Int32.reduceToNatClampNeg, Int32.reduceAdd, Int32.reduceSub, Int32.reduceMul, decide_true, ex_iastore, ast, astL, pI_int, pL_long, pR_ref, arr, isT, isBZ, nar, List.set_cons_zero, List.set_cons_succ]
  refine t0_277 hgo ?_
  refine t0_280 hgo ?_
  refine t0_282 hgo ?_
  refine t0_283t hgo (by decide) ?_
  refine t0_286 hgo ?_
  refine t0_288f hgo (by decide) ?_
  refine t0_291 hgo rfl ?_
  refine t0_293 hgo ?_
  refine t0_295 hgo ?_
  refine res_of (u0_297 hgo) ?_
  simp only [eq_self, and_self, true_and, and_true, not_true_eq_false, not_false_eq_true, if_true, if_false, reduceIte, Option.bind_some, List.getElem?_cons_zero, List.getElem?_cons_succ, Nat.reduceAdd, Nat.reduceSub, Nat.reduceLT, Nat.reduceLeDiff, Nat.le_refl, Nat.zero_add, Nat.add_zero, List.length_cons, List.length_nil, Int32.reduceLT, Int32.reduceToNatClampNeg, Int32.reduceAdd, Int32.reduceSub, Int32.reduceMul, decide_true, ex_iastore, ast, astL, pI_int, pL_long, pR_ref, arr, isT, isBZ, nar, List.set_cons_zero, List.set_cons_succ]
  refine t0_298 hgo ?_
  refine t0_301 hgo ?_
  refine t0_314 hgo ?_
  refine t0_316 hgo ?_
  refine t0_317f hgo (by decide) ?_
  refine t0_348 hgo ?_
  refine t0_350 hgo ?_
  refine t0_351f hgo (by decide) ?_
  refine t0_382 hgo rfl ?_
  refine t0_384 hgo rfl ?_
  refine res_of (u0_386 hgo) ?_
  simp only [eq_self, and_self, true_and, and_true, not_true_eq_false, not_false_eq_true, if_true, if_false, reduceIte, Option.bind_some, List.getElem?_cons_zero, List.getElem?_cons_succ, Nat.reduceAdd, Nat.reduceSub, Nat.reduceLT, Nat.reduceLeDiff, Nat.le_refl, Nat.zero_add, Nat.add_zero, List.length_cons, List.length_nil, Int32.reduceLT, Int32.reduceToNatClampNeg, Int32.reduceAdd, Int32.reduceSub, Int32.reduceMul, decide_true, aCall, aRecv, aObj, obj, List.take_succ_cons, List.take_zero, List.drop_succ_cons, List.drop_zero, List.reverse_cons, List.reverse_nil, List.nil_append, List.cons_append, List.append_nil, List.map_cons, List.map_nil, List.sum_cons, List.sum_nil, cat_int, cat_long, cat_ref, cat_null, Option.toList_some, Option.toList_none, mg_2_2 ho]
  refine t0_389 hgo rfl rfl ?_
  refine t0_391 hgo rfl ?_
  refine res_of (u0_393 hgo) ?_
  simp only [eq_self, and_self, true_and, and_true, not_true_eq_false, not_false_eq_true, if_true, if_false, reduceIte, Option.bind_some, List.getElem?_cons_zero, List.getElem?_cons_succ, Nat.reduceAdd, Nat.reduceSub, Nat.reduceLT, Nat.reduceLeDiff, Nat.le_refl, Nat.zero_add, Nat.add_zero, List.length_cons, List.length_nil, Int32.reduceLT, Int32.reduceToNatClampNeg, Int32.reduceAdd, Int32.reduceSub, Int32.reduceMul, decide_true, pR_ref, arr, ln0, ln1, ln2, ln3, ln4, ln5, ln6, ln7, ln8, ln9, ln10, ln11, ln12, ln13, ln14, ln15, ln16, ln17, ln18, ln19, ln20, ln21, ln22, ln23, ln24, ln25, ln26, ln27, ln28, ln29, ln30, ln31, ln32, ln33, ln34, ln35, ln36, mg_2_2 ho]
  refine t0_394 hgo ?_
  refine t0_396t hgo rfl ?_
  refine t0_401 hgo ?_
  refine t0_402 hgo rfl ?_
  refine t0_404 hgo ?_
  refine t0_406t hgo (by decide) ?_
  refine t0_409 hgo ?_
  refine t0_411f hgo (by decide) ?_
  refine t0_414 hgo rfl ?_
  refine t0_416 hgo ?_
  refine res_of (u0_417 hgo) ?_
  simp only [eq_self, and_self, true_and, and_true, not_true_eq_false, not_false_eq_true, if_true, if_false, reduceIte, Option.bind_some, List.getElem?_cons_zero, List.getElem?_cons_succ, Nat.reduceAdd, Nat.reduceSub, Nat.reduceLT, Nat.reduceLeDiff, Nat.le_refl, Nat.zero_add, Nat.add_zero, List.length_cons, List.length_nil, Int32.reduceLT, Int32.reduceToNatClampNeg, Int32.reduceAdd, Int32.reduceSub, Int32.reduceMul, decide_true, ex_iaload, ald, pI_int, pR_ref, arr, isT, isBZ, mg_2_2 ho]
  refine t0_418 hgo ?_
  refine t0_420t hgo rfl ?_
  refine t0_423 hgo ?_
  refine t0_424 hgo ?_
  refine t0_428 hgo rfl ?_
  refine t0_430 hgo ?_
  refine t0_432 hgo ?_
  refine t0_433t hgo (by decide) ?_
  refine t0_436 hgo ?_
  refine t0_438f hgo (by decide) ?_
  refine t0_441 hgo rfl ?_
  refine t0_443 hgo ?_
  refine res_of (u0_444 hgo) ?_
  simp only [eq_self, and_self, true_and, and_true, not_true_eq_false, not_false_eq_true, if_true, if_false, reduceIte, Option.bind_some, List.getElem?_cons_zero, List.getElem?_cons_succ, Nat.reduceAdd, Nat.reduceSub, Nat.reduceLT, Nat.reduceLeDiff, Nat.le_refl, Nat.zero_add, Nat.add_zero, List.length_cons, List.length_nil, Int32.reduceLT, Int32.reduceToNatClampNeg, Int32.reduceAdd, Int32.reduceSub, Int32.reduceMul, decide_true, ex_iaload, ald, pI_int, pR_ref, arr, isT, isBZ, mg_2_2 ho]
  refine t0_445 hgo ?_
  refine t0_447t hgo rfl ?_
  refine t0_450 hgo ?_
  refine t0_451 hgo ?_
  refine t0_455 hgo rfl ?_
  refine t0_457 hgo ?_
  refine t0_459 hgo ?_
  refine t0_460f hgo (by decide) ?_
  refine t0_484 hgo ?_
  refine t0_486 hgo ?_
  refine t0_487f hgo (by decide) ?_
  refine t0_511 hgo ?_
  refine t0_513 hgo ?_
  exact one_b
set_option maxRecDepth 65536 in
set_option maxHeartbeats 4000000 in
theorem tl_2_3 {go : Nat → St → Option ORes} (hgo : go = orun code ret E0 0) {l0 l1 l2 l3 l4 l6 l7 l8 l9 l10 l11 l12 l13 l14 : Slot} {w0 w1 w2 w3 : Int32} {s2 s3 : Int32} {m : Nat} (ho : w0 < w1 ∧ w1 < w2 ∧ w2 < w3) : Rsq (go (m + 250) (158, [l0, l1, l2, l3, l4, .val (.int 2), l6, l7, l8, l9, l10, l11, l12, l13, l14, .val (.int w0), .val (.int w1), .val (.int w2), .val (.int w3), .val (.int 1), .val (.int 1), .val (.int s2), .val (.int s3), .unset, .unset, .unset, .unset, .unset, .unset, .unset], [], [], 0, 0)) OneI := by
  refine t0_158 hgo ?_
  refine t0_160t hgo (by decide) ?_
  refine t0_163 hgo ?_
  refine t0_165f hgo (by decide) ?_
  refine t0_168 hgo ?_
  refine t0_169 hgo ?_
  refine t0_173 hgo ?_
  refine t0_175 hgo ?_
  refine t0_176t hgo (by decide) ?_
  refine t0_179 hgo ?_
  refine t0_181f hgo (by decide) ?_
  refine t0_184 hgo ?_
  refine t0_185 hgo ?_
  refine t0_189 hgo ?_
  refine t0_190 hgo ?_
  refine t0_192 hgo ?_
  refine t0_193f hgo (by decide) ?_
  refine t0_205 hgo ?_
  refine t0_206 hgo ?_
  refine t0_207 hgo ?_
  refine t0_209 hgo ?_
  refine t0_210f hgo (by decide) ?_
  refine t0_222 hgo ?_
  refine t0_223 hgo ?_
  refine t0_224 hgo rfl ?_
  refine t0_226 hgo ?_
  refine res_of (u0_228 hgo) ?_
  simp only [eq_self, and_self, true_and, and_true, not_true_eq_false, not_false_eq_true, if_true, if_false, reduceIte, Option.bind_some, List.getElem?_cons_zero, List.getElem?_cons_succ, Nat.reduceAdd, Nat.reduceSub, Nat.reduceLT, Nat.reduceLeDiff, Nat.le_refl, Nat.zero_add, Nat.add_zero, List.length_cons, List.length_nil, Int32.reduceLT, Int32.reduceToNatClampNeg, Int32.reduceAdd, Int32.reduceSub, Int32.reduceMul, decide_true, aArr, List.nil_append, List.cons_append, List.replicate_zero, List.replicate_succ, defaultValue]
  refine t0_230 hgo rfl rfl ?_
  refine t0_232 hgo ?_
  refine t0_234 hgo ?_
  refine t0_236 hgo ?_
  refine res_of (u0_237 hgo) ?_
  simp only [eq_self, and_self, true_and, and_true, not_true_eq_false, not_false_eq_true, if_true, if_false, reduceIte, Option.bind_some, List.getElem?_cons_zero, List.getElem?_cons_succ, Nat.reduceAdd, Nat.reduceSub, Nat.reduceLT, Nat.reduceLeDiff, Nat.le_refl, Nat.zero_add, Nat.add_zero, List.length_cons, List.length_nil, Int32.reduceLT, Int32.reduceToNatClampNeg, Int32.reduceAdd, Int32.reduceSub, Int32.reduceMul, decide_true, aArr, List.nil_append, List.cons_append, List.replicate_zero, List.replicate_succ, defaultValue]
  refine t0_239 hgo rfl rfl ?_
  refine t0_241 hgo ?_
  refine t0_242 hgo rfl ?_
  refine t0_244 hgo ?_
  refine t0_245 hgo rfl ?_
  refine t0_247 hgo ?_
  refine t0_249t hgo (by decide) ?_
  refine t0_252 hgo ?_
  refine t0_254f hgo (by decide) ?_
  refine t0_257 hgo rfl ?_
  refine t0_259 hgo ?_
  refine t0_261 hgo ?_
  refine res_of (u0_263 hgo) ?_
  simp only [eq_self, and_self, true_and, and_true, not_true_eq_false, not_false_eq_true, if_true, if_false, reduceIte, Option.bind_some, List.getElem?_cons_zero, List.getElem?_cons_succ, Nat.reduceAdd, Nat.reduceSub, Nat.reduceLT, Nat.reduceLeDiff, Nat.le_refl, Nat.zero_add, Nat.add_zero, List.length_cons, List.length_nil, Int32.reduceLT, Int32.reduceToNatClampNeg, Int32.reduceAdd, Int32.reduceSub, Int32.reduceMul, decide_true, ex_iastore, ast, astL, pI_int, pL_long, pR_ref, arr, isT, isBZ, nar, List.set_cons_zero, List.set_cons_succ]
  refine t0_264 hgo ?_
  refine t0_267 hgo ?_
  refine t0_280 hgo ?_
  refine t0_282 hgo ?_
  refine t0_283t hgo (by decide) ?_
  refine t0_286 hgo ?_
  refine t0_288f hgo (by decide) ?_
  refine t0_291 hgo rfl ?_
  refine t0_293 hgo ?_
  refine t0_295 hgo ?_
  refine res_of (u0_297 hgo) ?_
  simp only [eq_self, and_self, true_and, and_true, not_true_eq_false, not_false_eq_true, if_true, if_false, reduceIte, Option.bind_some, List.getElem?_cons_zero, List.getElem?_cons_succ, Nat.reduceAdd, Nat.reduceSub, Nat.reduceLT, Nat.reduceLeDiff, Nat.le_refl, Nat.zero_add, Nat.add_zero, List.length_cons, List.length_nil, Int32.reduceLT, Int32.reduceToNatClampNeg, Int32.reduceAdd, Int32.reduceSub, Int32.reduceMul, decide_true, ex_iastore, ast, astL, pI_int, pL_long, pR_ref, arr, isT, isBZ, nar, List.set_cons_zero, List.set_cons_succ]
  refine t0_298 hgo ?_
  refine t0_301 hgo ?_
  refine t0_314 hgo ?_
  refine t0_316 hgo ?_
  refine t0_317f hgo (by decide) ?_
  refine t0_348 hgo ?_
  refine t0_350 hgo ?_
  refine t0_351f hgo (by decide) ?_
  refine t0_382 hgo rfl ?_
  refine t0_384 hgo rfl ?_
  refine res_of (u0_386 hgo) ?_
  simp only [eq_self, and_self, true_and, and_true, not_true_eq_false, not_false_eq_true, if_true, if_false, reduceIte, Option.bind_some, List.getElem?_cons_zero, List.getElem?_cons_succ, Nat.reduceAdd, Nat.reduceSub, Nat.reduceLT, Nat.reduceLeDiff, Nat.le_refl, Nat.zero_add, Nat.add_zero, List.length_cons, List.length_nil, Int32.reduceLT, Int32.reduceToNatClampNeg, Int32.reduceAdd, Int32.reduceSub, Int32.reduceMul, decide_true, aCall, aRecv, aObj, obj, List.take_succ_cons, List.take_zero, List.drop_succ_cons, List.drop_zero, List.reverse_cons, List.reverse_nil, List.nil_append, List.cons_append, List.append_nil, List.map_cons, List.map_nil, List.sum_cons, List.sum_nil, cat_int, cat_long, cat_ref, cat_null, Option.toList_some, Option.toList_none, mg_2_3 ho]
  refine t0_389 hgo rfl rfl ?_
  refine t0_391 hgo rfl ?_
  refine res_of (u0_393 hgo) ?_
  simp only [eq_self, and_self, true_and, and_true, not_true_eq_false, not_false_eq_true, if_true, if_false, reduceIte, Option.bind_some, List.getElem?_cons_zero, List.getElem?_cons_succ, Nat.reduceAdd, Nat.reduceSub, Nat.reduceLT, Nat.reduceLeDiff, Nat.le_refl, Nat.zero_add, Nat.add_zero, List.length_cons, List.length_nil, Int32.reduceLT, Int32.reduceToNatClampNeg, Int32.reduceAdd, Int32.reduceSub, Int32.reduceMul, decide_true, pR_ref, arr, ln0, ln1, ln2, ln3, ln4, ln5, ln6, ln7, ln8, ln9, ln10, ln11, ln12, ln13, ln14, ln15, ln16, ln17, ln18, ln19, ln20, ln21, ln22, ln23, ln24, ln25, ln26, ln27, ln28, ln29, ln30, ln31, ln32, ln33, ln34, ln35, ln36, mg_2_3 ho]
  refine t0_394 hgo ?_
  refine t0_396t hgo rfl ?_
  refine t0_401 hgo ?_
  refine t0_402 hgo rfl ?_
  refine t0_404 hgo ?_
  refine t0_406t hgo (by decide) ?_
  refine t0_409 hgo ?_
  refine t0_411f hgo (by decide) ?_
  refine t0_414 hgo rfl ?_
  refine t0_416 hgo ?_
  refine res_of (u0_417 hgo) ?_
  simp only [eq_self, and_self, true_and, and_true, not_true_eq_false, not_false_eq_true, if_true, if_false, reduceIte, Option.bind_some, List.getElem?_cons_zero, List.getElem?_cons_succ, Nat.reduceAdd, Nat.reduceSub, Nat.reduceLT, Nat.reduceLeDiff, Nat.le_refl, Nat.zero_add, Nat.add_zero, List.length_cons, List.length_nil, Int32.reduceLT, Int32.reduceToNatClampNeg, Int32.reduceAdd, Int32.reduceSub, Int32.reduceMul, decide_true, ex_iaload, ald, pI_int, pR_ref, arr, isT, isBZ, mg_2_3 ho]
  refine t0_418 hgo ?_
  refine t0_420t hgo rfl ?_
  refine t0_423 hgo ?_
  refine t0_424 hgo ?_
  refine t0_428 hgo rfl ?_
  refine t0_430 hgo ?_
  refine t0_432 hgo ?_
  refine t0_433t hgo (by decide) ?_
  refine t0_436 hgo ?_
  refine t0_438f hgo (by decide) ?_
  refine t0_441 hgo rfl ?_
  refine t0_443 hgo ?_
  refine res_of (u0_444 hgo) ?_
  simp only [eq_self, and_self, true_and, and_true, not_true_eq_false, not_false_eq_true, if_true, if_false, reduceIte, Option.bind_some, List.getElem?_cons_zero, List.getElem?_cons_succ, Nat.reduceAdd, Nat.reduceSub, Nat.reduceLT, Nat.reduceLeDiff, Nat.le_refl, Nat.zero_add, Nat.add_zero, List.length_cons, List.length_nil, Int32.reduceLT, Int32.reduceToNatClampNeg, Int32.reduceAdd, Int32.reduceSub, Int32.reduceMul, decide_true, ex_iaload, ald, pI_int, pR_ref, arr, isT, isBZ, mg_2_3 ho]
  refine t0_445 hgo ?_
  refine t0_447t hgo rfl ?_
  refine t0_450 hgo ?_
  refine t0_451 hgo ?_
  refine t0_455 hgo rfl ?_
  refine t0_457 hgo ?_
  refine t0_459 hgo ?_
  refine t0_460f hgo (by decide) ?_
  refine t0_484 hgo ?_
  refine t0_486 hgo ?_
  refine t0_487f hgo (by decide) ?_
  refine t0_511 hgo ?_
  refine t0_513 hgo ?_
  exact one_b
set_option maxRecDepth 65536 in
set_option maxHeartbeats 4000000 in
theorem tl_3_0 {go : Nat → St → Option ORes} (hgo : go = orun code ret E0 0) {l0 l1 l2 l3 l4 l6 l7 l8 l9 l10 l11 l12 l13 l14 : Slot} {w0 w1 w2 w3 : Int32} {s3 : Int32} {m : Nat} (ho : w0 < w1 ∧ w1 < w2 ∧ w2 < w3) : Rsq (go (m + 250) (158, [l0, l1, l2, l3, l4, .val (.int 3), l6, l7, l8, l9, l10, l11, l12, l13, l14, .val (.int w0), .val (.int w1), .val (.int w2), .val (.int w3), .val (.int 0), .val (.int 0), .val (.int 0), .val (.int s3), .unset, .unset, .unset, .unset, .unset, .unset, .unset], [], [], 0, 0)) OneI := by
  refine t0_158 hgo ?_
  refine t0_160t hgo (by decide) ?_
  refine t0_163 hgo ?_
  refine t0_165t hgo (by decide) ?_
  refine t0_172 hgo ?_
  refine t0_173 hgo ?_
  refine t0_175 hgo ?_
  refine t0_176t hgo (by decide) ?_
  refine t0_179 hgo ?_
  refine t0_181t hgo (by decide) ?_
  refine t0_188 hgo ?_
  refine t0_189 hgo ?_
  refine t0_190 hgo ?_
  refine t0_192 hgo ?_
  refine t0_193t hgo (by decide) ?_
  refine t0_196 hgo ?_
  refine t0_198t hgo (by decide) ?_
  refine t0_205 hgo ?_
  refine t0_206 hgo ?_
  refine t0_207 hgo ?_
  refine t0_209 hgo ?_
  refine t0_210f hgo (by decide) ?_
  refine t0_222 hgo ?_
  refine t0_223 hgo ?_
  refine t0_224 hgo rfl ?_
  refine t0_226 hgo ?_
  refine res_of (u0_228 hgo) ?_
  simp only [eq_self, and_self, true_and, and_true, not_true_eq_false, not_false_eq_true, if_true, if_false, reduceIte, Option.bind_some, List.getElem?_cons_zero, List.getElem?_cons_succ, Nat.reduceAdd, Nat.reduceSub, Nat.reduceLT, Nat.reduceLeDiff, Nat.le_refl, Nat.zero_add, Nat.add_zero, List.length_cons, List.length_nil, Int32.reduceLT, Int32.reduceToNatClampNeg, Int32.reduceAdd, Int32.reduceSub, Int32.reduceMul, decide_true, aArr, List.nil_append, List.cons_append, List.replicate_zero, List.replicate_succ, defaultValue]
  refine t0_230 hgo rfl rfl ?_
  refine t0_232 hgo ?_
  refine t0_234 hgo ?_
  refine t0_236 hgo ?_
  refine res_of (u0_237 hgo) ?_
  simp only [eq_self, and_self, true_and, and_true, not_true_eq_false, not_false_eq_true, if_true, if_false, reduceIte, Option.bind_some, List.getElem?_cons_zero, List.getElem?_cons_succ, Nat.reduceAdd, Nat.reduceSub, Nat.reduceLT, Nat.reduceLeDiff, Nat.le_refl, Nat.zero_add, Nat.add_zero, List.length_cons, List.length_nil, Int32.reduceLT, Int32.reduceToNatClampNeg, Int32.reduceAdd, Int32.reduceSub, Int32.reduceMul, decide_true, aArr, List.nil_append, List.cons_append, List.replicate_zero, List.replicate_succ, defaultValue]
  refine t0_239 hgo rfl rfl ?_
  refine t0_241 hgo ?_
  refine t0_242 hgo rfl ?_
  refine t0_244 hgo ?_
  refine t0_245 hgo rfl ?_
  refine t0_247 hgo ?_
  refine t0_249t hgo (by decide) ?_
  refine t0_252 hgo ?_
  refine t0_254t hgo (by decide) ?_
  refine t0_270 hgo rfl ?_
  refine t0_272 hgo ?_
  refine t0_274 hgo ?_
  refine res_of (u0_276 hgo) ?_
  simp only [eq_self, and_self, true_and, and_true, not_true_eq_false, not_false_eq_true, if_true, if_false, reduceIte, Option.bind_some, List.getElem?_cons_zero, List.getElem?_cons_succ, Nat.reduceAdd, Nat.reduceSub, Nat.reduceLT, Nat.reduceLeDiff, Nat.le_refl, Nat.zero_add, Nat.add_zero, List.length_cons, List.length_nil, Int32.reduceLT, Int32.reduceToNatClampNeg, Int32.reduceAdd, Int32.reduceSub, Int32.reduceMul, decide_true, ex_iastore, ast, astL, pI_int, pL_long, pR_ref, arr, isT, isBZ, nar, List.set_cons_zero, List.set_cons_succ]
  refine t0_277 hgo ?_
  refine t0_280 hgo ?_
  refine t0_282 hgo ?_
  refine t0_283t hgo (by decide) ?_
  refine t0_286 hgo ?_
  refine t0_288t hgo (by decide) ?_
  refine t0_304 hgo rfl ?_
  refine t0_306 hgo ?_
  refine t0_308 hgo ?_
  refine res_of (u0_310 hgo) ?_
  simp only [eq_self, and_self, true_and, and_true, not_true_eq_false, not_false_eq_true, if_true, if_false, reduceIte, Option.bind_some, List.getElem?_cons_zero, List.getElem?_cons_succ, Nat.reduceAdd, Nat.reduceSub, Nat.reduceLT, Nat.reduceLeDiff, Nat.le_refl, Nat.zero_add, Nat.add_zero, List.length_cons, List.length_nil, Int32.reduceLT, Int32.reduceToNatClampNeg, Int32.reduceAdd, Int32.reduceSub, Int32.reduceMul, decide_true, ex_iastore, ast, astL, pI_int, pL_long, pR_ref, arr, isT, isBZ, nar, List.set_cons_zero, List.set_cons_succ]
  refine t0_311 hgo ?_
  refine t0_314 hgo ?_
  refine t0_316 hgo ?_
  refine t0_317t hgo (by decide) ?_
  refine t0_320 hgo ?_
  refine t0_322t hgo (by decide) ?_
  refine t0_338 hgo rfl ?_
  refine t0_340 hgo ?_
  refine t0_342 hgo ?_
  refine res_of (u0_344 hgo) ?_
  simp only [eq_self, and_self, true_and, and_true, not_true_eq_false, not_false_eq_true, if_true, if_false, reduceIte, Option.bind_some, List.getElem?_cons_zero, List.getElem?_cons_succ, Nat.reduceAdd, Nat.reduceSub, Nat.reduceLT, Nat.reduceLeDiff, Nat.le_refl, Nat.zero_add, Nat.add_zero, List.length_cons, List.length_nil, Int32.reduceLT, Int32.reduceToNatClampNeg, Int32.reduceAdd, Int32.reduceSub, Int32.reduceMul, decide_true, ex_iastore, ast, astL, pI_int, pL_long, pR_ref, arr, isT, isBZ, nar, List.set_cons_zero, List.set_cons_succ]
  refine t0_345 hgo ?_
  refine t0_348 hgo ?_
  refine t0_350 hgo ?_
  refine t0_351f hgo (by decide) ?_
  refine t0_382 hgo rfl ?_
  refine t0_384 hgo rfl ?_
  refine res_of (u0_386 hgo) ?_
  simp only [eq_self, and_self, true_and, and_true, not_true_eq_false, not_false_eq_true, if_true, if_false, reduceIte, Option.bind_some, List.getElem?_cons_zero, List.getElem?_cons_succ, Nat.reduceAdd, Nat.reduceSub, Nat.reduceLT, Nat.reduceLeDiff, Nat.le_refl, Nat.zero_add, Nat.add_zero, List.length_cons, List.length_nil, Int32.reduceLT, Int32.reduceToNatClampNeg, Int32.reduceAdd, Int32.reduceSub, Int32.reduceMul, decide_true, aCall, aRecv, aObj, obj, List.take_succ_cons, List.take_zero, List.drop_succ_cons, List.drop_zero, List.reverse_cons, List.reverse_nil, List.nil_append, List.cons_append, List.append_nil, List.map_cons, List.map_nil, List.sum_cons, List.sum_nil, cat_int, cat_long, cat_ref, cat_null, Option.toList_some, Option.toList_none, mg_3_0 ho]
  refine t0_389 hgo rfl rfl ?_
  refine t0_391 hgo rfl ?_
  refine res_of (u0_393 hgo) ?_
  simp only [eq_self, and_self, true_and, and_true, not_true_eq_false, not_false_eq_true, if_true, if_false, reduceIte, Option.bind_some, List.getElem?_cons_zero, List.getElem?_cons_succ, Nat.reduceAdd, Nat.reduceSub, Nat.reduceLT, Nat.reduceLeDiff, Nat.le_refl, Nat.zero_add, Nat.add_zero, List.length_cons, List.length_nil, Int32.reduceLT, Int32.reduceToNatClampNeg, Int32.reduceAdd, Int32.reduceSub, Int32.reduceMul, decide_true, pR_ref, arr, ln0, ln1, ln2, ln3, ln4, ln5, ln6, ln7, ln8, ln9, ln10, ln11, ln12, ln13, ln14, ln15, ln16, ln17, ln18, ln19, ln20, ln21, ln22, ln23, ln24, ln25, ln26, ln27, ln28, ln29, ln30, ln31, ln32, ln33, ln34, ln35, ln36, mg_3_0 ho]
  refine t0_394 hgo ?_
  refine t0_396t hgo rfl ?_
  refine t0_401 hgo ?_
  refine t0_402 hgo rfl ?_
  refine t0_404 hgo ?_
  refine t0_406t hgo (by decide) ?_
  refine t0_409 hgo ?_
  refine t0_411f hgo (by decide) ?_
  refine t0_414 hgo rfl ?_
  refine t0_416 hgo ?_
  refine res_of (u0_417 hgo) ?_
  simp only [eq_self, and_self, true_and, and_true, not_true_eq_false, not_false_eq_true, if_true, if_false, reduceIte, Option.bind_some, List.getElem?_cons_zero, List.getElem?_cons_succ, Nat.reduceAdd, Nat.reduceSub, Nat.reduceLT, Nat.reduceLeDiff, Nat.le_refl, Nat.zero_add, Nat.add_zero, List.length_cons, List.length_nil, Int32.reduceLT, Int32.reduceToNatClampNeg, Int32.reduceAdd, Int32.reduceSub, Int32.reduceMul, decide_true, ex_iaload, ald, pI_int, pR_ref, arr, isT, isBZ, mg_3_0 ho]
  refine t0_418 hgo ?_
  refine t0_420t hgo rfl ?_
  refine t0_423 hgo ?_
  refine t0_424 hgo ?_
  refine t0_428 hgo rfl ?_
  refine t0_430 hgo ?_
  refine t0_432 hgo ?_
  refine t0_433t hgo (by decide) ?_
  refine t0_436 hgo ?_
  refine t0_438f hgo (by decide) ?_
  refine t0_441 hgo rfl ?_
  refine t0_443 hgo ?_
  refine res_of (u0_444 hgo) ?_
  simp only [eq_self, and_self, true_and, and_true, not_true_eq_false, not_false_eq_true, if_true, if_false, reduceIte, Option.bind_some, List.getElem?_cons_zero, List.getElem?_cons_succ, Nat.reduceAdd, Nat.reduceSub, Nat.reduceLT, Nat.reduceLeDiff, Nat.le_refl, Nat.zero_add, Nat.add_zero, List.length_cons, List.length_nil, Int32.reduceLT, Int32.reduceToNatClampNeg, Int32.reduceAdd, Int32.reduceSub, Int32.reduceMul, decide_true, ex_iaload, ald, pI_int, pR_ref, arr, isT, isBZ, mg_3_0 ho]
  refine t0_445 hgo ?_
  refine t0_447t hgo rfl ?_
  refine t0_450 hgo ?_
  refine t0_451 hgo ?_
  refine t0_455 hgo rfl ?_
  refine t0_457 hgo ?_
  refine t0_459 hgo ?_
  refine t0_460t hgo (by decide) ?_
  refine t0_463 hgo ?_
  refine t0_465f hgo (by decide) ?_
  refine t0_468 hgo rfl ?_
  refine t0_470 hgo ?_
  refine res_of (u0_471 hgo) ?_
  simp only [eq_self, and_self, true_and, and_true, not_true_eq_false, not_false_eq_true, if_true, if_false, reduceIte, Option.bind_some, List.getElem?_cons_zero, List.getElem?_cons_succ, Nat.reduceAdd, Nat.reduceSub, Nat.reduceLT, Nat.reduceLeDiff, Nat.le_refl, Nat.zero_add, Nat.add_zero, List.length_cons, List.length_nil, Int32.reduceLT, Int32.reduceToNatClampNeg, Int32.reduceAdd, Int32.reduceSub, Int32.reduceMul, decide_true, ex_iaload, ald, pI_int, pR_ref, arr, isT, isBZ, mg_3_0 ho]
  refine t0_472 hgo ?_
  refine t0_474t hgo rfl ?_
  refine t0_477 hgo ?_
  refine t0_478 hgo ?_
  refine t0_482 hgo rfl ?_
  refine t0_484 hgo ?_
  refine t0_486 hgo ?_
  refine t0_487f hgo (by decide) ?_
  refine t0_511 hgo ?_
  refine t0_513 hgo ?_
  exact one_b
set_option maxRecDepth 65536 in
set_option maxHeartbeats 4000000 in
theorem tl_3_1 {go : Nat → St → Option ORes} (hgo : go = orun code ret E0 0) {l0 l1 l2 l3 l4 l6 l7 l8 l9 l10 l11 l12 l13 l14 : Slot} {w0 w1 w2 w3 : Int32} {s3 : Int32} {m : Nat} (ho : w0 < w1 ∧ w1 < w2 ∧ w2 < w3) : Rsq (go (m + 250) (158, [l0, l1, l2, l3, l4, .val (.int 3), l6, l7, l8, l9, l10, l11, l12, l13, l14, .val (.int w0), .val (.int w1), .val (.int w2), .val (.int w3), .val (.int 1), .val (.int 0), .val (.int 0), .val (.int s3), .unset, .unset, .unset, .unset, .unset, .unset, .unset], [], [], 0, 0)) OneI := by
  refine t0_158 hgo ?_
  refine t0_160t hgo (by decide) ?_
  refine t0_163 hgo ?_
  refine t0_165f hgo (by decide) ?_
  refine t0_168 hgo ?_
  refine t0_169 hgo ?_
  refine t0_173 hgo ?_
  refine t0_175 hgo ?_
  refine t0_176t hgo (by decide) ?_
  refine t0_179 hgo ?_
  refine t0_181t hgo (by decide) ?_
  refine t0_188 hgo ?_
  refine t0_189 hgo ?_
  refine t0_190 hgo ?_
  refine t0_192 hgo ?_
  refine t0_193t hgo (by decide) ?_
  refine t0_196 hgo ?_
  refine t0_198t hgo (by decide) ?_
  refine t0_205 hgo ?_
  refine t0_206 hgo ?_
  refine t0_207 hgo ?_
  refine t0_209 hgo ?_
  refine t0_210f hgo (by decide) ?_
  refine t0_222 hgo ?_
  refine t0_223 hgo ?_
  refine t0_224 hgo rfl ?_
  refine t0_226 hgo ?_
  refine res_of (u0_228 hgo) ?_
  simp only [eq_self, and_self, true_and, and_true, not_true_eq_false, not_false_eq_true, if_true, if_false, reduceIte, Option.bind_some, List.getElem?_cons_zero, List.getElem?_cons_succ, Nat.reduceAdd, Nat.reduceSub, Nat.reduceLT, Nat.reduceLeDiff, Nat.le_refl, Nat.zero_add, Nat.add_zero, List.length_cons, List.length_nil, Int32.reduceLT, Int32.reduceToNatClampNeg, Int32.reduceAdd, Int32.reduceSub, Int32.reduceMul, decide_true, aArr, List.nil_append, List.cons_append, List.replicate_zero, List.replicate_succ, defaultValue]
  refine t0_230 hgo rfl rfl ?_
  refine t0_232 hgo ?_
  refine t0_234 hgo ?_
  refine t0_236 hgo ?_
  refine res_of (u0_237 hgo) ?_
  simp only [eq_self, and_self, true_and, and_true, not_true_eq_false, not_false_eq_true, if_true, if_false, reduceIte, Option.bind_some, List.getElem?_cons_zero, List.getElem?_cons_succ, Nat.reduceAdd, Nat.reduceSub, Nat.reduceLT, Nat.reduceLeDiff, Nat.le_refl, Nat.zero_add, Nat.add_zero, List.length_cons, List.length_nil, Int32.reduceLT, Int32.reduceToNatClampNeg, Int32.reduceAdd, Int32.reduceSub, Int32.reduceMul, decide_true, aArr, List.nil_append, List.cons_append, List.replicate_zero, List.replicate_succ, defaultValue]
  refine t0_239 hgo rfl rfl ?_
  refine t0_241 hgo ?_
  refine t0_242 hgo rfl ?_
  refine t0_244 hgo ?_
  refine t0_245 hgo rfl ?_
  refine t0_247 hgo ?_
  refine t0_249t hgo (by decide) ?_
  refine t0_252 hgo ?_
  refine t0_254f hgo (by decide) ?_
  refine t0_257 hgo rfl ?_
  refine t0_259 hgo ?_
  refine t0_261 hgo ?_
  refine res_of (u0_263 hgo) ?_
  simp only [eq_self, and_self, true_and, and_true, not_true_eq_false, not_false_eq_true, if_true, if_false, reduceIte, Option.bind_some, List.getElem?_cons_zero, List.getElem?_cons_succ, Nat.reduceAdd, Nat.reduceSub, Nat.reduceLT, Nat.reduceLeDiff, Nat.le_refl, Nat.zero_add, Nat.add_zero, List.length_cons, List.length_nil, Int32.reduceLT, Int32.reduceToNatClampNeg, Int32.reduceAdd, Int32.reduceSub, Int32.reduceMul, decide_true, ex_iastore, ast, astL, pI_int, pL_long, pR_ref, arr, isT, isBZ, nar, List.set_cons_zero, List.set_cons_succ]
  refine t0_264 hgo ?_
  refine t0_267 hgo ?_
  refine t0_280 hgo ?_
  refine t0_282 hgo ?_
  refine t0_283t hgo (by decide) ?_
  refine t0_286 hgo ?_
  refine t0_288t hgo (by decide) ?_
  refine t0_304 hgo rfl ?_
  refine t0_306 hgo ?_
  refine t0_308 hgo ?_
  refine res_of (u0_310 hgo) ?_
  simp only [eq_self, and_self, true_and, and_true, not_true_eq_false, not_false_eq_true, if_true, if_false, reduceIte, Option.bind_some, List.getElem?_cons_zero, List.getElem?_cons_succ, Nat.reduceAdd, Nat.reduceSub, Nat.reduceLT, Nat.reduceLeDiff, Nat.le_refl, Nat.zero_add, Nat.add_zero, List.length_cons, List.length_nil, Int32.reduceLT, Int32.reduceToNatClampNeg, Int32.reduceAdd, Int32.reduceSub, Int32.reduceMul, decide_true, ex_iastore, ast, astL, pI_int, pL_long, pR_ref, arr, isT, isBZ, nar, List.set_cons_zero, List.set_cons_succ]
  refine t0_311 hgo ?_
  refine t0_314 hgo ?_
  refine t0_316 hgo ?_
  refine t0_317t hgo (by decide) ?_
  refine t0_320 hgo ?_
  refine t0_322t hgo (by decide) ?_
  refine t0_338 hgo rfl ?_
  refine t0_340 hgo ?_
  refine t0_342 hgo ?_
  refine res_of (u0_344 hgo) ?_
  simp only [eq_self, and_self, true_and, and_true, not_true_eq_false, not_false_eq_true, if_true, if_false, reduceIte, Option.bind_some, List.getElem?_cons_zero, List.getElem?_cons_succ, Nat.reduceAdd, Nat.reduceSub, Nat.reduceLT, Nat.reduceLeDiff, Nat.le_refl, Nat.zero_add, Nat.add_zero, List.length_cons, List.length_nil, Int32.reduceLT, Int32.reduceToNatClampNeg, Int32.reduceAdd, Int32.reduceSub, Int32.reduceMul, decide_true, ex_iastore, ast, astL, pI_int, pL_long, pR_ref, arr, isT, isBZ, nar, List.set_cons_zero, List.set_cons_succ]
  refine t0_345 hgo ?_
  refine t0_348 hgo ?_
  refine t0_350 hgo ?_
  refine t0_351f hgo (by decide) ?_
  refine t0_382 hgo rfl ?_
  refine t0_384 hgo rfl ?_
  refine res_of (u0_386 hgo) ?_
  simp only [eq_self, and_self, true_and, and_true, not_true_eq_false, not_false_eq_true, if_true, if_false, reduceIte, Option.bind_some, List.getElem?_cons_zero, List.getElem?_cons_succ, Nat.reduceAdd, Nat.reduceSub, Nat.reduceLT, Nat.reduceLeDiff, Nat.le_refl, Nat.zero_add, Nat.add_zero, List.length_cons, List.length_nil, Int32.reduceLT, Int32.reduceToNatClampNeg, Int32.reduceAdd, Int32.reduceSub, Int32.reduceMul, decide_true, aCall, aRecv, aObj, obj, List.take_succ_cons, List.take_zero, List.drop_succ_cons, List.drop_zero, List.reverse_cons, List.reverse_nil, List.nil_append, List.cons_append, List.append_nil, List.map_cons, List.map_nil, List.sum_cons, List.sum_nil, cat_int, cat_long, cat_ref, cat_null, Option.toList_some, Option.toList_none, mg_3_1 ho]
  refine t0_389 hgo rfl rfl ?_
  refine t0_391 hgo rfl ?_
  refine res_of (u0_393 hgo) ?_
  simp only [eq_self, and_self, true_and, and_true, not_true_eq_false, not_false_eq_true, if_true, if_false, reduceIte, Option.bind_some, List.getElem?_cons_zero, List.getElem?_cons_succ, Nat.reduceAdd, Nat.reduceSub, Nat.reduceLT, Nat.reduceLeDiff, Nat.le_refl, Nat.zero_add, Nat.add_zero, List.length_cons, List.length_nil, Int32.reduceLT, Int32.reduceToNatClampNeg, Int32.reduceAdd, Int32.reduceSub, Int32.reduceMul, decide_true, pR_ref, arr, ln0, ln1, ln2, ln3, ln4, ln5, ln6, ln7, ln8, ln9, ln10, ln11, ln12, ln13, ln14, ln15, ln16, ln17, ln18, ln19, ln20, ln21, ln22, ln23, ln24, ln25, ln26, ln27, ln28, ln29, ln30, ln31, ln32, ln33, ln34, ln35, ln36, mg_3_1 ho]
  refine t0_394 hgo ?_
  refine t0_396t hgo rfl ?_
  refine t0_401 hgo ?_
  refine t0_402 hgo rfl ?_
  refine t0_404 hgo ?_
  refine t0_406t hgo (by decide) ?_
  refine t0_409 hgo ?_
  refine t0_411f hgo (by decide) ?_
  refine t0_414 hgo rfl ?_
  refine t0_416 hgo ?_
  refine res_of (u0_417 hgo) ?_
  simp only [eq_self, and_self, true_and, and_true, not_true_eq_false, not_false_eq_true, if_true, if_false, reduceIte, Option.bind_some, List.getElem?_cons_zero, List.getElem?_cons_succ, Nat.reduceAdd, Nat.reduceSub, Nat.reduceLT, Nat.reduceLeDiff, Nat.le_refl, Nat.zero_add, Nat.add_zero, List.length_cons, List.length_nil, Int32.reduceLT, Int32.reduceToNatClampNeg, Int32.reduceAdd, Int32.reduceSub, Int32.reduceMul, decide_true, ex_iaload, ald, pI_int, pR_ref, arr, isT, isBZ, mg_3_1 ho]
  refine t0_418 hgo ?_
  refine t0_420t hgo rfl ?_
  refine t0_423 hgo ?_
  refine t0_424 hgo ?_
  refine t0_428 hgo rfl ?_
  refine t0_430 hgo ?_
  refine t0_432 hgo ?_
  refine t0_433t hgo (by decide) ?_
  refine t0_436 hgo ?_
  refine t0_438f hgo (by decide) ?_
  refine t0_441 hgo rfl ?_
  refine t0_443 hgo ?_
  refine res_of (u0_444 hgo) ?_
  simp only [eq_self, and_self, true_and, and_true, not_true_eq_false, not_false_eq_true, if_true, if_false, reduceIte, Option.bind_some, List.getElem?_cons_zero, List.getElem?_cons_succ, Nat.reduceAdd, Nat.reduceSub, Nat.reduceLT, Nat.reduceLeDiff, Nat.le_refl, Nat.zero_add, Nat.add_zero, List.length_cons, List.length_nil, Int32.reduceLT, Int32.reduceToNatClampNeg, Int32.reduceAdd, Int32.reduceSub, Int32.reduceMul, decide_true, ex_iaload, ald, pI_int, pR_ref, arr, isT, isBZ, mg_3_1 ho]
  refine t0_445 hgo ?_
  refine t0_447t hgo rfl ?_
  refine t0_450 hgo ?_
  refine t0_451 hgo ?_
  refine t0_455 hgo rfl ?_
  refine t0_457 hgo ?_
  refine t0_459 hgo ?_
  refine t0_460t hgo (by decide) ?_
  refine t0_463 hgo ?_
  refine t0_465f hgo (by decide) ?_
  refine t0_468 hgo rfl ?_
  refine t0_470 hgo ?_
  refine res_of (u0_471 hgo) ?_
  simp only [eq_self, and_self, true_and, and_true, not_true_eq_false, not_false_eq_true, if_true, if_false, reduceIte, Option.bind_some, List.getElem?_cons_zero, List.getElem?_cons_succ, Nat.reduceAdd, Nat.reduceSub, Nat.reduceLT, Nat.reduceLeDiff, Nat.le_refl, Nat.zero_add, Nat.add_zero, List.length_cons, List.length_nil, Int32.reduceLT, Int32.reduceToNatClampNeg, Int32.reduceAdd, Int32.reduceSub, Int32.reduceMul, decide_true, ex_iaload, ald, pI_int, pR_ref, arr, isT, isBZ, mg_3_1 ho]
  refine t0_472 hgo ?_
  refine t0_474t hgo rfl ?_
  refine t0_477 hgo ?_
  refine t0_478 hgo ?_
  refine t0_482 hgo rfl ?_
  refine t0_484 hgo ?_
  refine t0_486 hgo ?_
  refine t0_487f hgo (by decide) ?_
  refine t0_511 hgo ?_
  refine t0_513 hgo ?_
  exact one_b
set_option maxRecDepth 65536 in
set_option maxHeartbeats 4000000 in
theorem tl_3_2 {go : Nat → St → Option ORes} (hgo : go = orun code ret E0 0) {l0 l1 l2 l3 l4 l6 l7 l8 l9 l10 l11 l12 l13 l14 : Slot} {w0 w1 w2 w3 : Int32} {s3 : Int32} {m : Nat} (ho : w0 < w1 ∧ w1 < w2 ∧ w2 < w3) : Rsq (go (m + 250) (158, [l0, l1, l2, l3, l4, .val (.int 3), l6, l7, l8, l9, l10, l11, l12, l13, l14, .val (.int w0), .val (.int w1), .val (.int w2), .val (.int w3), .val (.int 0), .val (.int 1), .val (.int 0), .val (.int s3), .unset, .unset, .unset, .unset, .unset, .unset, .unset], [], [], 0, 0)) OneI := by
  refine t0_158 hgo ?_
  refine t0_160t hgo (by decide) ?_
  refine t0_163 hgo ?_
  refine t0_165t hgo (by decide) ?_
  refine t0_172 hgo ?_
  refine t0_173 hgo ?_
  refine t0_175 hgo ?_
  refine t0_176t hgo (by decide) ?_
  refine t0_179 hgo ?_
  refine t0_181f hgo (by decide) ?_
  refine t0_184 hgo ?_
  refine t0_185 hgo ?_
  refine t0_189 hgo ?_
  refine t0_190 hgo ?_
  refine t0_192 hgo ?_
  refine t0_193t hgo (by decide) ?_
  refine t0_196 hgo ?_
  refine t0_198t hgo (by decide) ?_
  refine t0_205 hgo ?_
  refine t0_206 hgo ?_
  refine t0_207 hgo ?_
  refine t0_209 hgo ?_
  refine t0_210f hgo (by decide) ?_
  refine t0_222 hgo ?_
  refine t0_223 hgo ?_
  refine t0_224 hgo rfl ?_
  refine t0_226 hgo ?_
  refine res_of (u0_228 hgo) ?_
  simp only [eq_self, and_self, true_and, and_true, not_true_eq_false, not_false_eq_true, if_true, if_false, reduceIte, Option.bind_some, List.getElem?_cons_zero, List.getElem?_cons_succ, Nat.reduceAdd, Nat.reduceSub, Nat.reduceLT, Nat.reduceLeDiff, Nat.le_refl, Nat.zero_add, Nat.add_zero, List.length_cons, List.length_nil, Int32.reduceLT, Int32.reduceToNatClampNeg, Int32.reduceAdd, Int32.reduceSub, Int32.reduceMul, decide_true, aArr, List.nil_append, List.cons_append, List.replicate_zero, List.replicate_succ, defaultValue]
  refine t0_230 hgo rfl rfl ?_
  refine t0_232 hgo ?_
  refine t0_234 hgo ?_
  refine t0_236 hgo ?_
  refine res_of (u0_237 hgo) ?_
  simp only [eq_self, and_self, true_and, and_true, not_true_eq_false, not_false_eq_true, if_true, if_false, reduceIte, Option.bind_some, List.getElem?_cons_zero, List.getElem?_cons_succ, Nat.reduceAdd, Nat.reduceSub, Nat.reduceLT, Nat.reduceLeDiff, Nat.le_refl, Nat.zero_add, Nat.add_zero, List.length_cons, List.length_nil, Int32.reduceLT, Int32.reduceToNatClampNeg, Int32.reduceAdd, Int32.reduceSub, Int32.reduceMul, decide_true, aArr, List.nil_append, List.cons_append, List.replicate_zero, List.replicate_succ, defaultValue]
  refine t0_239 hgo rfl rfl ?_
  refine t0_241 hgo ?_
  refine t0_242 hgo rfl ?_
  refine t0_244 hgo ?_
  refine t0_245 hgo rfl ?_
  refine t0_247 hgo ?_
  refine t0_249t hgo (by decide) ?_
  refine t0_252 hgo ?_
  refine t0_254t hgo (by decide) ?_
  refine t0_270 hgo rfl ?_
  refine t0_272 hgo ?_
  refine t0_274 hgo ?_
  refine res_of (u0_276 hgo) ?_
  simp only [eq_self, and_self, true_and, and_true, not_true_eq_false, not_false_eq_true, if_true, if_false, reduceIte, Option.bind_some, List.getElem?_cons_zero, List.getElem?_cons_succ, Nat.reduceAdd, Nat.reduceSub, Nat.reduceLT, Nat.reduceLeDiff, Nat.le_refl, Nat.zero_add, Nat.add_zero, List.length_cons, List.length_nil, Int32.reduceLT, Int32.reduceToNatClampNeg, Int32.reduceAdd, Int32.reduceSub, Int32.reduceMul, decide_true, ex_iastore, ast, astL, pI_int, pL_long, pR_ref, arr, isT, isBZ, nar, List.set_cons_zero, List.set_cons_succ]
  refine t0_277 hgo ?_
  refine t0_280 hgo ?_
  refine t0_282 hgo ?_
  refine t0_283t hgo (by decide) ?_
  refine t0_286 hgo ?_
  refine t0_288f hgo (by decide) ?_
  refine t0_291 hgo rfl ?_
  refine t0_293 hgo ?_
  refine t0_295 hgo ?_
  refine res_of (u0_297 hgo) ?_
  simp only [eq_self, and_self, true_and, and_true, not_true_eq_false, not_false_eq_true, if_true, if_false, reduceIte, Option.bind_some, List.getElem?_cons_zero, List.getElem?_cons_succ, Nat.reduceAdd, Nat.reduceSub, Nat.reduceLT, Nat.reduceLeDiff, Nat.le_refl, Nat.zero_add, Nat.add_zero, List.length_cons, List.length_nil, Int32.reduceLT, Int32.reduceToNatClampNeg, Int32.reduceAdd, Int32.reduceSub, Int32.reduceMul, decide_true, ex_iastore, ast, astL, pI_int, pL_long, pR_ref, arr, isT, isBZ, nar, List.set_cons_zero, List.set_cons_succ]
  refine t0_298 hgo ?_
  refine t0_301 hgo ?_
  refine t0_314 hgo ?_
  refine t0_316 hgo ?_
  refine t0_317t hgo (by decide) ?_
  refine t0_320 hgo ?_
  refine t0_322t hgo (by decide) ?_
  refine t0_338 hgo rfl ?_
  refine t0_340 hgo ?_
  refine t0_342 hgo ?_
  refine res_of (u0_344 hgo) ?_
  simp only [eq_self, and_self, true_and, and_true, not_true_eq_false, not_false_eq_true, if_true, if_false, reduceIte, Option.bind_some, List.getElem?_cons_zero, List.getElem?_cons_succ, Nat.reduceAdd, Nat.reduceSub, Nat.reduceLT, Nat.reduceLeDiff, Nat.le_refl, Nat.zero_add, Nat.add_zero, List.length_cons, List.length_nil, Int32.reduceLT, Int32.reduceToNatClampNeg, Int32.reduceAdd, Int32.reduceSub, Int32.reduceMul, decide_true, ex_iastore, ast, astL, pI_int, pL_long, pR_ref, arr, isT, isBZ, nar, List.set_cons_zero, List.set_cons_succ]
  refine t0_345 hgo ?_
  refine t0_348 hgo ?_
  refine t0_350 hgo ?_
  refine t0_351f hgo (by decide) ?_
  refine t0_382 hgo rfl ?_
  refine t0_384 hgo rfl ?_
  refine res_of (u0_386 hgo) ?_
  simp only [eq_self, and_self, true_and, and_true, not_true_eq_false, not_false_eq_true, if_true, if_false, reduceIte, Option.bind_some, List.getElem?_cons_zero, List.getElem?_cons_succ, Nat.reduceAdd, Nat.reduceSub, Nat.reduceLT, Nat.reduceLeDiff, Nat.le_refl, Nat.zero_add, Nat.add_zero, List.length_cons, List.length_nil, Int32.reduceLT, Int32.reduceToNatClampNeg, Int32.reduceAdd, Int32.reduceSub, Int32.reduceMul, decide_true, aCall, aRecv, aObj, obj, List.take_succ_cons, List.take_zero, List.drop_succ_cons, List.drop_zero, List.reverse_cons, List.reverse_nil, List.nil_append, List.cons_append, List.append_nil, List.map_cons, List.map_nil, List.sum_cons, List.sum_nil, cat_int, cat_long, cat_ref, cat_null, Option.toList_some, Option.toList_none, mg_3_2 ho]
  refine t0_389 hgo rfl rfl ?_
  refine t0_391 hgo rfl ?_
  refine res_of (u0_393 hgo) ?_
  simp only [eq_self, and_self, true_and, and_true, not_true_eq_false, not_false_eq_true, if_true, if_false, reduceIte, Option.bind_some, List.getElem?_cons_zero, List.getElem?_cons_succ, Nat.reduceAdd, Nat.reduceSub, Nat.reduceLT, Nat.reduceLeDiff, Nat.le_refl, Nat.zero_add, Nat.add_zero, List.length_cons, List.length_nil, Int32.reduceLT, Int32.reduceToNatClampNeg, Int32.reduceAdd, Int32.reduceSub, Int32.reduceMul, decide_true, pR_ref, arr, ln0, ln1, ln2, ln3, ln4, ln5, ln6, ln7, ln8, ln9, ln10, ln11, ln12, ln13, ln14, ln15, ln16, ln17, ln18, ln19, ln20, ln21, ln22, ln23, ln24, ln25, ln26, ln27, ln28, ln29, ln30, ln31, ln32, ln33, ln34, ln35, ln36, mg_3_2 ho]
  refine t0_394 hgo ?_
  refine t0_396t hgo rfl ?_
  refine t0_401 hgo ?_
  refine t0_402 hgo rfl ?_
  refine t0_404 hgo ?_
  refine t0_406t hgo (by decide) ?_
  refine t0_409 hgo ?_
  refine t0_411f hgo (by decide) ?_
  refine t0_414 hgo rfl ?_
  refine t0_416 hgo ?_
  refine res_of (u0_417 hgo) ?_
  simp only [eq_self, and_self, true_and, and_true, not_true_eq_false, not_false_eq_true, if_true, if_false, reduceIte, Option.bind_some, List.getElem?_cons_zero, List.getElem?_cons_succ, Nat.reduceAdd, Nat.reduceSub, Nat.reduceLT, Nat.reduceLeDiff, Nat.le_refl, Nat.zero_add, Nat.add_zero, List.length_cons, List.length_nil, Int32.reduceLT, Int32.reduceToNatClampNeg, Int32.reduceAdd, Int32.reduceSub, Int32.reduceMul, decide_true, ex_iaload, ald, pI_int, pR_ref, arr, isT, isBZ, mg_3_2 ho]
  refine t0_418 hgo ?_
  refine t0_420t hgo rfl ?_
  refine t0_423 hgo ?_
  refine t0_424 hgo ?_
  refine t0_428 hgo rfl ?_
  refine t0_430 hgo ?_
  refine t0_432 hgo ?_
  refine t0_433t hgo (by decide) ?_
  refine t0_436 hgo ?_
  refine t0_438f hgo (by decide) ?_
  refine t0_441 hgo rfl ?_
  refine t0_443 hgo ?_
  refine res_of (u0_444 hgo) ?_
  simp only [eq_self, and_self, true_and, and_true, not_true_eq_false, not_false_eq_true, if_true, if_false, reduceIte, Option.bind_some, List.getElem?_cons_zero, List.getElem?_cons_succ, Nat.reduceAdd, Nat.reduceSub, Nat.reduceLT, Nat.reduceLeDiff, Nat.le_refl, Nat.zero_add, Nat.add_zero, List.length_cons, List.length_nil, Int32.reduceLT, Int32.reduceToNatClampNeg, Int32.reduceAdd, Int32.reduceSub, Int32.reduceMul, decide_true, ex_iaload, ald, pI_int, pR_ref, arr, isT, isBZ, mg_3_2 ho]
  refine t0_445 hgo ?_
  refine t0_447t hgo rfl ?_
  refine t0_450 hgo ?_
  refine t0_451 hgo ?_
  refine t0_455 hgo rfl ?_
  refine t0_457 hgo ?_
  refine t0_459 hgo ?_
  refine t0_460t hgo (by decide) ?_
  refine t0_463 hgo ?_
  refine t0_465f hgo (by decide) ?_
  refine t0_468 hgo rfl ?_
  refine t0_470 hgo ?_
  refine res_of (u0_471 hgo) ?_
  simp only [eq_self, and_self, true_and, and_true, not_true_eq_false, not_false_eq_true, if_true, if_false, reduceIte, Option.bind_some, List.getElem?_cons_zero, List.getElem?_cons_succ, Nat.reduceAdd, Nat.reduceSub, Nat.reduceLT, Nat.reduceLeDiff, Nat.le_refl, Nat.zero_add, Nat.add_zero, List.length_cons, List.length_nil, Int32.reduceLT, Int32.reduceToNatClampNeg, Int32.reduceAdd, Int32.reduceSub, Int32.reduceMul, decide_true, ex_iaload, ald, pI_int, pR_ref, arr, isT, isBZ, mg_3_2 ho]
  refine t0_472 hgo ?_
  refine t0_474t hgo rfl ?_
  refine t0_477 hgo ?_
  refine t0_478 hgo ?_
  refine t0_482 hgo rfl ?_
  refine t0_484 hgo ?_
  refine t0_486 hgo ?_
  refine t0_487f hgo (by decide) ?_
  refine t0_511 hgo ?_
  refine t0_513 hgo ?_
  exact one_b
set_option maxRecDepth 65536 in
set_option maxHeartbeats 4000000 in
theorem tl_3_3 {go : Nat → St → Option ORes} (hgo : go = orun code ret E0 0) {l0 l1 l2 l3 l4 l6 l7 l8 l9 l10 l11 l12 l13 l14 : Slot} {w0 w1 w2 w3 : Int32} {s3 : Int32} {m : Nat} (ho : w0 < w1 ∧ w1 < w2 ∧ w2 < w3) : Rsq (go (m + 250) (158, [l0, l1, l2, l3, l4, .val (.int 3), l6, l7, l8, l9, l10, l11, l12, l13, l14, .val (.int w0), .val (.int w1), .val (.int w2), .val (.int w3), .val (.int 1), .val (.int 1), .val (.int 0), .val (.int s3), .unset, .unset, .unset, .unset, .unset, .unset, .unset], [], [], 0, 0)) OneI := by
  refine t0_158 hgo ?_
  refine t0_160t hgo (by decide) ?_
  refine t0_163 hgo ?_
  refine t0_165f hgo (by decide) ?_
  refine t0_168 hgo ?_
  refine t0_169 hgo ?_
  refine t0_173 hgo ?_
  refine t0_175 hgo ?_
  refine t0_176t hgo (by decide) ?_
  refine t0_179 hgo ?_
  refine t0_181f hgo (by decide) ?_
  refine t0_184 hgo ?_
  refine t0_185 hgo ?_
  refine t0_189 hgo ?_
  refine t0_190 hgo ?_
  refine t0_192 hgo ?_
  refine t0_193t hgo (by decide) ?_
  refine t0_196 hgo ?_
  refine t0_198t hgo (by decide) ?_
  refine t0_205 hgo ?_
  refine t0_206 hgo ?_
  refine t0_207 hgo ?_
  refine t0_209 hgo ?_
  refine t0_210f hgo (by decide) ?_
  refine t0_222 hgo ?_
  refine t0_223 hgo ?_
  refine t0_224 hgo rfl ?_
  refine t0_226 hgo ?_
  refine res_of (u0_228 hgo) ?_
  simp only [eq_self, and_self, true_and, and_true, not_true_eq_false, not_false_eq_true, if_true, if_false, reduceIte, Option.bind_some, List.getElem?_cons_zero, List.getElem?_cons_succ, Nat.reduceAdd, Nat.reduceSub, Nat.reduceLT, Nat.reduceLeDiff, Nat.le_refl, Nat.zero_add, Nat.add_zero, List.length_cons, List.length_nil, Int32.reduceLT, Int32.reduceToNatClampNeg, Int32.reduceAdd, Int32.reduceSub, Int32.reduceMul, decide_true, aArr, List.nil_append, List.cons_append, List.replicate_zero, List.replicate_succ, defaultValue]
  refine t0_230 hgo rfl rfl ?_
  refine t0_232 hgo ?_
  refine t0_234 hgo ?_
  refine t0_236 hgo ?_
  refine res_of (u0_237 hgo) ?_
  simp only [eq_self, and_self, true_and, and_true, not_true_eq_false, not_false_eq_true, if_true, if_false, reduceIte, Option.bind_some, List.getElem?_cons_zero, List.getElem?_cons_succ, Nat.reduceAdd, Nat.reduceSub, Nat.reduceLT, Nat.reduceLeDiff, Nat.le_refl, Nat.zero_add, Nat.add_zero, List.length_cons, List.length_nil, Int32.reduceLT, Int32.reduceToNatClampNeg, Int32.reduceAdd, Int32.reduceSub, Int32.reduceMul, decide_true, aArr, List.nil_append, List.cons_append, List.replicate_zero, List.replicate_succ, defaultValue]
  refine t0_239 hgo rfl rfl ?_
  refine t0_241 hgo ?_
  refine t0_242 hgo rfl ?_
  refine t0_244 hgo ?_
  refine t0_245 hgo rfl ?_
  refine t0_247 hgo ?_
  refine t0_249t hgo (by decide) ?_
  refine t0_252 hgo ?_
  refine t0_254f hgo (by decide) ?_
  refine t0_257 hgo rfl ?_
  refine t0_259 hgo ?_
  refine t0_261 hgo ?_
  refine res_of (u0_263 hgo) ?_
  simp only [eq_self, and_self, true_and, and_true, not_true_eq_false, not_false_eq_true, if_true, if_false, reduceIte, Option.bind_some, List.getElem?_cons_zero, List.getElem?_cons_succ, Nat.reduceAdd, Nat.reduceSub, Nat.reduceLT, Nat.reduceLeDiff, Nat.le_refl, Nat.zero_add, Nat.add_zero, List.length_cons, List.length_nil, Int32.reduceLT, Int32.reduceToNatClampNeg, Int32.reduceAdd, Int32.reduceSub, Int32.reduceMul, decide_true, ex_iastore, ast, astL, pI_int, pL_long, pR_ref, arr, isT, isBZ, nar, List.set_cons_zero, List.set_cons_succ]
  refine t0_264 hgo ?_
  refine t0_267 hgo ?_
  refine t0_280 hgo ?_
  refine t0_282 hgo ?_
  refine t0_283t hgo (by decide) ?_
  refine t0_286 hgo ?_
  refine t0_288f hgo (by decide) ?_
  refine t0_291 hgo rfl ?_
  refine t0_293 hgo ?_
  refine t0_295 hgo ?_
  refine res_of (u0_297 hgo) ?_
  simp only [eq_self, and_self, true_and, and_true, not_true_eq_false, not_false_eq_true, if_true, if_false, reduceIte, Option.bind_some, List.getElem?_cons_zero, List.getElem?_cons_succ, Nat.reduceAdd, Nat.reduceSub, Nat.reduceLT, Nat.reduceLeDiff, Nat.le_refl, Nat.zero_add, Nat.add_zero, List.length_cons, List.length_nil, Int32.reduceLT, Int32.reduceToNatClampNeg, Int32.reduceAdd, Int32.reduceSub, Int32.reduceMul, decide_true, ex_iastore, ast, astL, pI_int, pL_long, pR_ref, arr, isT, isBZ, nar, List.set_cons_zero, List.set_cons_succ]
  refine t0_298 hgo ?_
  refine t0_301 hgo ?_
  refine t0_314 hgo ?_
  refine t0_316 hgo ?_
  refine t0_317t hgo (by decide) ?_
  refine t0_320 hgo ?_
  refine t0_322t hgo (by decide) ?_
  refine t0_338 hgo rfl ?_
  refine t0_340 hgo ?_
  refine t0_342 hgo ?_
  refine res_of (u0_344 hgo) ?_
  simp only [eq_self, and_self, true_and, and_true, not_true_eq_false, not_false_eq_true, if_true, if_false, reduceIte, Option.bind_some, List.getElem?_cons_zero, List.getElem?_cons_succ, Nat.reduceAdd, Nat.reduceSub, Nat.reduceLT, Nat.reduceLeDiff, Nat.le_refl, Nat.zero_add, Nat.add_zero, List.length_cons, List.length_nil, Int32.reduceLT, Int32.reduceToNatClampNeg, Int32.reduceAdd, Int32.reduceSub, Int32.reduceMul, decide_true, ex_iastore, ast, astL, pI_int, pL_long, pR_ref, arr, isT, isBZ, nar, List.set_cons_zero, List.set_cons_succ]
  refine t0_345 hgo ?_
  refine t0_348 hgo ?_
  refine t0_350 hgo ?_
  refine t0_351f hgo (by decide) ?_
  refine t0_382 hgo rfl ?_
  refine t0_384 hgo rfl ?_
  refine res_of (u0_386 hgo) ?_
  simp only [eq_self, and_self, true_and, and_true, not_true_eq_false, not_false_eq_true, if_true, if_false, reduceIte, Option.bind_some, List.getElem?_cons_zero, List.getElem?_cons_succ, Nat.reduceAdd, Nat.reduceSub, Nat.reduceLT, Nat.reduceLeDiff, Nat.le_refl, Nat.zero_add, Nat.add_zero, List.length_cons, List.length_nil, Int32.reduceLT, Int32.reduceToNatClampNeg, Int32.reduceAdd, Int32.reduceSub, Int32.reduceMul, decide_true, aCall, aRecv, aObj, obj, List.take_succ_cons, List.take_zero, List.drop_succ_cons, List.drop_zero, List.reverse_cons, List.reverse_nil, List.nil_append, List.cons_append, List.append_nil, List.map_cons, List.map_nil, List.sum_cons, List.sum_nil, cat_int, cat_long, cat_ref, cat_null, Option.toList_some, Option.toList_none, mg_3_3 ho]
  refine t0_389 hgo rfl rfl ?_
  refine t0_391 hgo rfl ?_
  refine res_of (u0_393 hgo) ?_
  simp only [eq_self, and_self, true_and, and_true, not_true_eq_false, not_false_eq_true, if_true, if_false, reduceIte, Option.bind_some, List.getElem?_cons_zero, List.getElem?_cons_succ, Nat.reduceAdd, Nat.reduceSub, Nat.reduceLT, Nat.reduceLeDiff, Nat.le_refl, Nat.zero_add, Nat.add_zero, List.length_cons, List.length_nil, Int32.reduceLT, Int32.reduceToNatClampNeg, Int32.reduceAdd, Int32.reduceSub, Int32.reduceMul, decide_true, pR_ref, arr, ln0, ln1, ln2, ln3, ln4, ln5, ln6, ln7, ln8, ln9, ln10, ln11, ln12, ln13, ln14, ln15, ln16, ln17, ln18, ln19, ln20, ln21, ln22, ln23, ln24, ln25, ln26, ln27, ln28, ln29, ln30, ln31, ln32, ln33, ln34, ln35, ln36, mg_3_3 ho]
  refine t0_394 hgo ?_
  refine t0_396t hgo rfl ?_
  refine t0_401 hgo ?_
  refine t0_402 hgo rfl ?_
  refine t0_404 hgo ?_
  refine t0_406t hgo (by decide) ?_
  refine t0_409 hgo ?_
  refine t0_411f hgo (by decide) ?_
  refine t0_414 hgo rfl ?_
  refine t0_416 hgo ?_
  refine res_of (u0_417 hgo) ?_
  simp only [eq_self, and_self, true_and, and_true, not_true_eq_false, not_false_eq_true, if_true, if_false, reduceIte, Option.bind_some, List.getElem?_cons_zero, List.getElem?_cons_succ, Nat.reduceAdd, Nat.reduceSub, Nat.reduceLT, Nat.reduceLeDiff, Nat.le_refl, Nat.zero_add, Nat.add_zero, List.length_cons, List.length_nil, Int32.reduceLT, Int32.reduceToNatClampNeg, Int32.reduceAdd, Int32.reduceSub, Int32.reduceMul, decide_true, ex_iaload, ald, pI_int, pR_ref, arr, isT, isBZ, mg_3_3 ho]
  refine t0_418 hgo ?_
  refine t0_420t hgo rfl ?_
  refine t0_423 hgo ?_
  refine t0_424 hgo ?_
  refine t0_428 hgo rfl ?_
  refine t0_430 hgo ?_
  refine t0_432 hgo ?_
  refine t0_433t hgo (by decide) ?_
  refine t0_436 hgo ?_
  refine t0_438f hgo (by decide) ?_
  refine t0_441 hgo rfl ?_
  refine t0_443 hgo ?_
  refine res_of (u0_444 hgo) ?_
  simp only [eq_self, and_self, true_and, and_true, not_true_eq_false, not_false_eq_true, if_true, if_false, reduceIte, Option.bind_some, List.getElem?_cons_zero, List.getElem?_cons_succ, Nat.reduceAdd, Nat.reduceSub, Nat.reduceLT, Nat.reduceLeDiff, Nat.le_refl, Nat.zero_add, Nat.add_zero, List.length_cons, List.length_nil, Int32.reduceLT, Int32.reduceToNatClampNeg, Int32.reduceAdd, Int32.reduceSub, Int32.reduceMul, decide_true, ex_iaload, ald, pI_int, pR_ref, arr, isT, isBZ, mg_3_3 ho]
  refine t0_445 hgo ?_
  refine t0_447t hgo rfl ?_
  refine t0_450 hgo ?_
  refine t0_451 hgo ?_
  refine t0_455 hgo rfl ?_
  refine t0_457 hgo ?_
  refine t0_459 hgo ?_
  refine t0_460t hgo (by decide) ?_
  refine t0_463 hgo ?_
  refine t0_465f hgo (by decide) ?_
  refine t0_468 hgo rfl ?_
  refine t0_470 hgo ?_
  refine res_of (u0_471 hgo) ?_
  simp only [eq_self, and_self, true_and, and_true, not_true_eq_false, not_false_eq_true, if_true, if_false, reduceIte, Option.bind_some, List.getElem?_cons_zero, List.getElem?_cons_succ, Nat.reduceAdd, Nat.reduceSub, Nat.reduceLT, Nat.reduceLeDiff, Nat.le_refl, Nat.zero_add, Nat.add_zero, List.length_cons, List.length_nil, Int32.reduceLT, Int32.reduceToNatClampNeg, Int32.reduceAdd, Int32.reduceSub, Int32.reduceMul, decide_true, ex_iaload, ald, pI_int, pR_ref, arr, isT, isBZ, mg_3_3 ho]
  refine t0_472 hgo ?_
  refine t0_474t hgo rfl ?_
  refine t0_477 hgo ?_
  refine t0_478 hgo ?_
  refine t0_482 hgo rfl ?_
  refine t0_484 hgo ?_
  refine t0_486 hgo ?_
  refine t0_487f hgo (by decide) ?_
  refine t0_511 hgo ?_
  refine t0_513 hgo ?_
  exact one_b
set_option maxRecDepth 65536 in
set_option maxHeartbeats 4000000 in
theorem tl_3_4 {go : Nat → St → Option ORes} (hgo : go = orun code ret E0 0) {l0 l1 l2 l3 l4 l6 l7 l8 l9 l10 l11 l12 l13 l14 : Slot} {w0 w1 w2 w3 : Int32} {s3 : Int32} {m : Nat} (ho : w0 < w1 ∧ w1 < w2 ∧ w2 < w3) : Rsq (go (m + 250) (158, [l0, l1, l2, l3, l4, .val (.int 3), l6, l7, l8, l9, l10, l11, l12, l13, l14, .val (.int w0), .val (.int w1), .val (.int w2), .val (.int w3), .val (.int 0), .val (.int 0), .val (.int 1), .val (.int s3), .unset, .unset, .unset, .unset, .unset, .unset, .unset], [], [], 0, 0)) OneI := by
  refine t0_158 hgo ?_
  refine t0_160t hgo (by decide) ?_
  refine t0_163 hgo ?_
  refine t0_165t hgo (by decide) ?_
  refine t0_172 hgo ?_
  refine t0_173 hgo ?_
  refine t0_175 hgo ?_
  refine t0_176t hgo (by decide) ?_
  refine t0_179 hgo ?_
  refine t0_181t hgo (by decide) ?_
  refine t0_188 hgo ?_
  refine t0_189 hgo ?_
  refine t0_190 hgo ?_
  refine t0_192 hgo ?_
  refine t0_193t hgo (by decide) ?_
  refine t0_196 hgo ?_
  refine t0_198f hgo (by decide) ?_
  refine t0_201 hgo ?_
  refine t0_202 hgo ?_
  refine t0_206 hgo ?_
  refine t0_207 hgo ?_
  refine t0_209 hgo ?_
  refine t0_210f hgo (by decide) ?_
  refine t0_222 hgo ?_
  refine t0_223 hgo ?_
  refine t0_224 hgo rfl ?_
  refine t0_226 hgo ?_
  refine res_of (u0_228 hgo) ?_
  simp only [eq_self, and_self, true_and, and_true, not_true_eq_false, not_false_eq_true, if_true, if_false, reduceIte, Option.bind_some, List.getElem?_cons_zero, List.getElem?_cons_succ, Nat.reduceAdd, Nat.reduceSub, Nat.reduceLT, Nat.reduceLeDiff, Nat.le_refl, Nat.zero_add, Nat.add_zero, List.length_cons, List.length_nil, Int32.reduceLT, Int32.reduceToNatClampNeg, Int32.reduceAdd, Int32.reduceSub, Int32.reduceMul, decide_true, aArr, List.nil_append, List.cons_append, List.replicate_zero, List.replicate_succ, defaultValue]
  refine t0_230 hgo rfl rfl ?_
  refine t0_232 hgo ?_
  refine t0_234 hgo ?_
  refine t0_236 hgo ?_
  refine res_of (u0_237 hgo) ?_
  simp only [eq_self, and_self, true_and, and_true, not_true_eq_false, not_false_eq_true, if_true, if_false, reduceIte, Option.bind_some, List.getElem?_cons_zero, List.getElem?_cons_succ, Nat.reduceAdd, Nat.reduceSub, Nat.reduceLT, Nat.reduceLeDiff, Nat.le_refl, Nat.zero_add, Nat.add_zero, List.length_cons, List.length_nil, Int32.reduceLT, Int32.reduceToNatClampNeg, Int32.reduceAdd, Int32.reduceSub, Int32.reduceMul, decide_true, aArr, List.nil_append, List.cons_append, List.replicate_zero, List.replicate_succ, defaultValue]
  refine t0_239 hgo rfl rfl ?_
  refine t0_241 hgo ?_
  refine t0_242 hgo rfl ?_
  refine t0_244 hgo ?_
  refine t0_245 hgo rfl ?_
  refine t0_247 hgo ?_
  refine t0_249t hgo (by decide) ?_
  refine t0_252 hgo ?_
  refine t0_254t hgo (by decide) ?_
  refine t0_270 hgo rfl ?_
  refine t0_272 hgo ?_
  refine t0_274 hgo ?_
  refine res_of (u0_276 hgo) ?_
  simp only [eq_self, and_self, true_and, and_true, not_true_eq_false, not_false_eq_true, if_true, if_false, reduceIte, Option.bind_some, List.getElem?_cons_zero, List.getElem?_cons_succ, Nat.reduceAdd, Nat.reduceSub, Nat.reduceLT, Nat.reduceLeDiff, Nat.le_refl, Nat.zero_add, Nat.add_zero, List.length_cons, List.length_nil, Int32.reduceLT, Int32.reduceToNatClampNeg, Int32.reduceAdd, Int32.reduceSub, Int32.reduceMul, decide_true, ex_iastore, ast, astL, pI_int, pL_long, pR_ref, arr, isT, isBZ, nar, List.set_cons_zero, List.set_cons_succ]
  refine t0_277 hgo ?_
  refine t0_280 hgo ?_
  refine t0_282 hgo ?_
  refine t0_283t hgo (by decide) ?_
  refine t0_286 hgo ?_
  refine t0_288t hgo (by decide) ?_
  refine t0_304 hgo rfl ?_
  refine t0_306 hgo ?_
  refine t0_308 hgo ?_
  refine res_of (u0_310 hgo) ?_
  simp only [eq_self, and_self, true_and, and_true, not_true_eq_false, not_false_eq_true, if_true, if_false, reduceIte, Option.bind_some, List.getElem?_cons_zero, List.getElem?_cons_succ, Nat.reduceAdd, Nat.reduceSub, Nat.reduceLT, Nat.reduceLeDiff, Nat.le_refl, Nat.zero_add, Nat.add_zero, List.length_cons, List.length_nil, Int32.reduceLT, Int32.reduceToNatClampNeg, Int32.reduceAdd, Int32.reduceSub, Int32.reduceMul, decide_true, ex_iastore, ast, astL, pI_int, pL_long, pR_ref, arr, isT, isBZ, nar, List.set_cons_zero, List.set_cons_succ]
  refine t0_311 hgo ?_
  refine t0_314 hgo ?_
  refine t0_316 hgo ?_
  refine t0_317t hgo (by decide) ?_
  refine t0_320 hgo ?_
  refine t0_322f hgo (by decide) ?_
  refine t0_325 hgo rfl ?_
  refine t0_327 hgo ?_
  refine t0_329 hgo ?_
  refine res_of (u0_331 hgo) ?_
  simp only [eq_self, and_self, true_and, and_true, not_true_eq_false, not_false_eq_true, if_true, if_false, reduceIte, Option.bind_some, List.getElem?_cons_zero, List.getElem?_cons_succ, Nat.reduceAdd, Nat.reduceSub, Nat.reduceLT, Nat.reduceLeDiff, Nat.le_refl, Nat.zero_add, Nat.add_zero, List.length_cons, List.length_nil, Int32.reduceLT, Int32.reduceToNatClampNeg, Int32.reduceAdd, Int32.reduceSub, Int32.reduceMul, decide_true, ex_iastore, ast, astL, pI_int, pL_long, pR_ref, arr, isT, isBZ, nar, List.set_cons_zero, List.set_cons_succ]
  refine t0_332 hgo ?_
  refine t0_335 hgo ?_
  refine t0_348 hgo ?_
  refine t0_350 hgo ?_
  refine t0_351f hgo (by decide) ?_
  refine t0_382 hgo rfl ?_
  refine t0_384 hgo rfl ?_
  refine res_of (u0_386 hgo) ?_
  simp only [eq_self, and_self, true_and, and_true, not_true_eq_false, not_false_eq_true, if_true, if_false, reduceIte, Option.bind_some, List.getElem?_cons_zero, List.getElem?_cons_succ, Nat.reduceAdd, Nat.reduceSub, Nat.reduceLT, Nat.reduceLeDiff, Nat.le_refl, Nat.zero_add, Nat.add_zero, List.length_cons, List.length_nil, Int32.reduceLT, Int32.reduceToNatClampNeg, Int32.reduceAdd, Int32.reduceSub, Int32.reduceMul, decide_true, aCall, aRecv, aObj, obj, List.take_succ_cons, List.take_zero, List.drop_succ_cons, List.drop_zero, List.reverse_cons, List.reverse_nil, List.nil_append, List.cons_append, List.append_nil, List.map_cons, List.map_nil, List.sum_cons, List.sum_nil, cat_int, cat_long, cat_ref, cat_null, Option.toList_some, Option.toList_none, mg_3_4 ho]
  refine t0_389 hgo rfl rfl ?_
  refine t0_391 hgo rfl ?_
  refine res_of (u0_393 hgo) ?_
  simp only [eq_self, and_self, true_and, and_true, not_true_eq_false, not_false_eq_true, if_true, if_false, reduceIte, Option.bind_some, List.getElem?_cons_zero, List.getElem?_cons_succ, Nat.reduceAdd, Nat.reduceSub, Nat.reduceLT, Nat.reduceLeDiff, Nat.le_refl, Nat.zero_add, Nat.add_zero, List.length_cons, List.length_nil, Int32.reduceLT, Int32.reduceToNatClampNeg, Int32.reduceAdd, Int32.reduceSub, Int32.reduceMul, decide_true, pR_ref, arr, ln0, ln1, ln2, ln3, ln4, ln5, ln6, ln7, ln8, ln9, ln10, ln11, ln12, ln13, ln14, ln15, ln16, ln17, ln18, ln19, ln20, ln21, ln22, ln23, ln24, ln25, ln26, ln27, ln28, ln29, ln30, ln31, ln32, ln33, ln34, ln35, ln36, mg_3_4 ho]
  refine t0_394 hgo ?_
  refine t0_396t hgo rfl ?_
  refine t0_401 hgo ?_
  refine t0_402 hgo rfl ?_
  refine t0_404 hgo ?_
  refine t0_406t hgo (by decide) ?_
  refine t0_409 hgo ?_
  refine t0_411f hgo (by decide) ?_
  refine t0_414 hgo rfl ?_
  refine t0_416 hgo ?_
  refine res_of (u0_417 hgo) ?_
  simp only [eq_self, and_self, true_and, and_true, not_true_eq_false, not_false_eq_true, if_true, if_false, reduceIte, Option.bind_some, List.getElem?_cons_zero, List.getElem?_cons_succ, Nat.reduceAdd, Nat.reduceSub, Nat.reduceLT, Nat.reduceLeDiff, Nat.le_refl, Nat.zero_add, Nat.add_zero, List.length_cons, List.length_nil, Int32.reduceLT, Int32.reduceToNatClampNeg, Int32.reduceAdd, Int32.reduceSub, Int32.reduceMul, decide_true, ex_iaload, ald, pI_int, pR_ref, arr, isT, isBZ, mg_3_4 ho]
  refine t0_418 hgo ?_
  refine t0_420t hgo rfl ?_
  refine t0_423 hgo ?_
  refine t0_424 hgo ?_
  refine t0_428 hgo rfl ?_
  refine t0_430 hgo ?_
  refine t0_432 hgo ?_
  refine t0_433t hgo (by decide) ?_
  refine t0_436 hgo ?_
  refine t0_438f hgo (by decide) ?_
  refine t0_441 hgo rfl ?_
  refine t0_443 hgo ?_
  refine res_of (u0_444 hgo) ?_
  simp only [eq_self, and_self, true_and, and_true, not_true_eq_false, not_false_eq_true, if_true, if_false, reduceIte, Option.bind_some, List.getElem?_cons_zero, List.getElem?_cons_succ, Nat.reduceAdd, Nat.reduceSub, Nat.reduceLT, Nat.reduceLeDiff, Nat.le_refl, Nat.zero_add, Nat.add_zero, List.length_cons, List.length_nil, Int32.reduceLT, Int32.reduceToNatClampNeg, Int32.reduceAdd, Int32.reduceSub, Int32.reduceMul, decide_true, ex_iaload, ald, pI_int, pR_ref, arr, isT, isBZ, mg_3_4 ho]
  refine t0_445 hgo ?_
  refine t0_447t hgo rfl ?_
  refine t0_450 hgo ?_
  refine t0_451 hgo ?_
  refine t0_455 hgo rfl ?_
  refine t0_457 hgo ?_
  refine t0_459 hgo ?_
  refine t0_460t hgo (by decide) ?_
  refine t0_463 hgo ?_
  refine t0_465f hgo (by decide) ?_
  refine t0_468 hgo rfl ?_
  refine t0_470 hgo ?_
  refine res_of (u0_471 hgo) ?_
  simp only [eq_self, and_self, true_and, and_true, not_true_eq_false, not_false_eq_true, if_true, if_false, reduceIte, Option.bind_some, List.getElem?_cons_zero, List.getElem?_cons_succ, Nat.reduceAdd, Nat.reduceSub, Nat.reduceLT, Nat.reduceLeDiff, Nat.le_refl, Nat.zero_add, Nat.add_zero, List.length_cons, List.length_nil, Int32.reduceLT, Int32.reduceToNatClampNeg, Int32.reduceAdd, Int32.reduceSub, Int32.reduceMul, decide_true, ex_iaload, ald, pI_int, pR_ref, arr, isT, isBZ, mg_3_4 ho]
  refine t0_472 hgo ?_
  refine t0_474t hgo rfl ?_
  refine t0_477 hgo ?_
  refine t0_478 hgo ?_
  refine t0_482 hgo rfl ?_
  refine t0_484 hgo ?_
  refine t0_486 hgo ?_
  refine t0_487f hgo (by decide) ?_
  refine t0_511 hgo ?_
  refine t0_513 hgo ?_
  exact one_b
set_option maxRecDepth 65536 in
set_option maxHeartbeats 4000000 in
theorem tl_3_5 {go : Nat → St → Option ORes} (hgo : go = orun code ret E0 0) {l0 l1 l2 l3 l4 l6 l7 l8 l9 l10 l11 l12 l13 l14 : Slot} {w0 w1 w2 w3 : Int32} {s3 : Int32} {m : Nat} (ho : w0 < w1 ∧ w1 < w2 ∧ w2 < w3) : Rsq (go (m + 250) (158, [l0, l1, l2, l3, l4, .val (.int 3), l6, l7, l8, l9, l10, l11, l12, l13, l14, .val (.int w0), .val (.int w1), .val (.int w2), .val (.int w3), .val (.int 1), .val (.int 0), .val (.int 1), .val (.int s3), .unset, .unset, .unset, .unset, .unset, .unset, .unset], [], [], 0, 0)) OneI := by
  refine t0_158 hgo ?_
  refine t0_160t hgo (by decide) ?_
  refine t0_163 hgo ?_
  refine t0_165f hgo (by decide) ?_
  refine t0_168 hgo ?_
  refine t0_169 hgo ?_
  refine t0_173 hgo ?_
  refine t0_175 hgo ?_
  refine t0_176t hgo (by decide) ?_
  refine t0_179 hgo ?_
  refine t0_181t hgo (by decide) ?_
  refine t0_188 hgo ?_
  refine t0_189 hgo ?_
  refine t0_190 hgo ?_
  refine t0_192 hgo ?_
  refine t0_193t hgo (by decide) ?_
  refine t0_196 hgo ?_
  refine t0_198f hgo (by decide) ?_
  refine t0_201 hgo ?_
  refine t0_202 hgo ?_
  refine t0_206 hgo ?_
  refine t0_207 hgo ?_
  refine t0_209 hgo ?_
  refine t0_210f hgo (by decide) ?_
  refine t0_222 hgo ?_
  refine t0_223 hgo ?_
  refine t0_224 hgo rfl ?_
  refine t0_226 hgo ?_
  refine res_of (u0_228 hgo) ?_
  simp only [eq_self, and_self, true_and, and_true, not_true_eq_false, not_false_eq_true, if_true, if_false, reduceIte, Option.bind_some, List.getElem?_cons_zero, List.getElem?_cons_succ, Nat.reduceAdd, Nat.reduceSub, Nat.reduceLT, Nat.reduceLeDiff, Nat.le_refl, Nat.zero_add, Nat.add_zero, List.length_cons, List.length_nil, Int32.reduceLT, Int32.reduceToNatClampNeg, Int32.reduceAdd, Int32.reduceSub, Int32.reduceMul, decide_true, aArr, List.nil_append, List.cons_append, List.replicate_zero, List.replicate_succ, defaultValue]
  refine t0_230 hgo rfl rfl ?_
  refine t0_232 hgo ?_
  refine t0_234 hgo ?_
  refine t0_236 hgo ?_
  refine res_of (u0_237 hgo) ?_
  simp only [eq_self, and_self, true_and, and_true, not_true_eq_false, not_false_eq_true, if_true, if_false, reduceIte, Option.bind_some, List.getElem?_cons_zero, List.getElem?_cons_succ, Nat.reduceAdd, Nat.reduceSub, Nat.reduceLT, Nat.reduceLeDiff, Nat.le_refl, Nat.zero_add, Nat.add_zero, List.length_cons, List.length_nil, Int32.reduceLT, Int32.reduceToNatClampNeg, Int32.reduceAdd, Int32.reduceSub, Int32.reduceMul, decide_true, aArr, List.nil_append, List.cons_append, List.replicate_zero, List.replicate_succ, defaultValue]
  refine t0_239 hgo rfl rfl ?_
  refine t0_241 hgo ?_
  refine t0_242 hgo rfl ?_
  refine t0_244 hgo ?_
  refine t0_245 hgo rfl ?_
  refine t0_247 hgo ?_
  refine t0_249t hgo (by decide) ?_
  refine t0_252 hgo ?_
  refine t0_254f hgo (by decide) ?_
  refine t0_257 hgo rfl ?_
  refine t0_259 hgo ?_
  refine t0_261 hgo ?_
  refine res_of (u0_263 hgo) ?_
  simp only [eq_self, and_self, true_and, and_true, not_true_eq_false, not_false_eq_true, if_true, if_false, reduceIte, Option.bind_some, List.getElem?_cons_zero, List.getElem?_cons_succ, Nat.reduceAdd, Nat.reduceSub, Nat.reduceLT, Nat.reduceLeDiff, Nat.le_refl, Nat.zero_add, Nat.add_zero, List.length_cons, List.length_nil, Int32.reduceLT, Int32.reduceToNatClampNeg, Int32.reduceAdd, Int32.reduceSub, Int32.reduceMul, decide_true, ex_iastore, ast, astL, pI_int, pL_long, pR_ref, arr, isT, isBZ, nar, List.set_cons_zero, List.set_cons_succ]
  refine t0_264 hgo ?_
  refine t0_267 hgo ?_
  refine t0_280 hgo ?_
  refine t0_282 hgo ?_
  refine t0_283t hgo (by decide) ?_
  refine t0_286 hgo ?_
  refine t0_288t hgo (by decide) ?_
  refine t0_304 hgo rfl ?_
  refine t0_306 hgo ?_
  refine t0_308 hgo ?_
  refine res_of (u0_310 hgo) ?_
  simp only [eq_self, and_self, true_and, and_true, not_true_eq_false, not_false_eq_true, if_true, if_false, reduceIte, Option.bind_some, List.getElem?_cons_zero, List.getElem?_cons_succ, Nat.reduceAdd, Nat.reduceSub, Nat.reduceLT, Nat.reduceLeDiff, Nat.le_refl, Nat.zero_add, Nat.add_zero, List.length_cons, List.length_nil, Int32.reduceLT, Int32.reduceToNatClampNeg, Int32.reduceAdd, Int32.reduceSub, Int32.reduceMul, decide_true, ex_iastore, ast, astL, pI_int, pL_long, pR_ref, arr, isT, isBZ, nar, List.set_cons_zero, List.set_cons_succ]
  refine t0_311 hgo ?_
  refine t0_314 hgo ?_
  refine t0_316 hgo ?_
  refine t0_317t hgo (by decide) ?_
  refine t0_320 hgo ?_
  refine t0_322f hgo (by decide) ?_
  refine t0_325 hgo rfl ?_
  refine t0_327 hgo ?_
  refine t0_329 hgo ?_
  refine res_of (u0_331 hgo) ?_
  simp only [eq_self, and_self, true_and, and_true, not_true_eq_false, not_false_eq_true, if_true, if_false, reduceIte, Option.bind_some, List.getElem?_cons_zero, List.getElem?_cons_succ, Nat.reduceAdd, Nat.reduceSub, Nat.reduceLT, Nat.reduceLeDiff, Nat.le_refl, Nat.zero_add, Nat.add_zero, List.length_cons, List.length_nil, Int32.reduceLT, Int32.reduceToNatClampNeg, Int32.reduceAdd, Int32.reduceSub, Int32.reduceMul, decide_true, ex_iastore, ast, astL, pI_int, pL_long, pR_ref, arr, isT, isBZ, nar, List.set_cons_zero, List.set_cons_succ]
  refine t0_332 hgo ?_
  refine t0_335 hgo ?_
  refine t0_348 hgo ?_
  refine t0_350 hgo ?_
  refine t0_351f hgo (by decide) ?_
  refine t0_382 hgo rfl ?_
  refine t0_384 hgo rfl ?_
  refine res_of (u0_386 hgo) ?_
  simp only [eq_self, and_self, true_and, and_true, not_true_eq_false, not_false_eq_true, if_true, if_false, reduceIte, Option.bind_some, List.getElem?_cons_zero, List.getElem?_cons_succ, Nat.reduceAdd, Nat.reduceSub, Nat.reduceLT, Nat.reduceLeDiff, Nat.le_refl, Nat.zero_add, Nat.add_zero, List.length_cons, List.length_nil, Int32.reduceLT, Int32.reduceToNatClampNeg, Int32.reduceAdd, Int32.reduceSub, Int32.reduceMul, decide_true, aCall, aRecv, aObj, obj, List.take_succ_cons, List.take_zero, List.drop_succ_cons, List.drop_zero, List.reverse_cons, List.reverse_nil, List.nil_append, List.cons_append, List.append_nil, List.map_cons, List.map_nil, List.sum_cons, List.sum_nil, cat_int, cat_long, cat_ref, cat_null, Option.toList_some, Option.toList_none, mg_3_5 ho]
  refine t0_389 hgo rfl rfl ?_
  refine t0_391 hgo rfl ?_
  refine res_of (u0_393 hgo) ?_
  simp only [eq_self, and_self, true_and, and_true, not_true_eq_false, not_false_eq_true, if_true, if_false, reduceIte, Option.bind_some, List.getElem?_cons_zero, List.getElem?_cons_succ, Nat.reduceAdd, Nat.reduceSub, Nat.reduceLT, Nat.reduceLeDiff, Nat.le_refl, Nat.zero_add, Nat.add_zero, List.length_cons, List.length_nil, Int32.reduceLT, Int32.reduceToNatClampNeg, Int32.reduceAdd, Int32.reduceSub, Int32.reduceMul, decide_true, pR_ref, arr, ln0, ln1, ln2, ln3, ln4, ln5, ln6, ln7, ln8, ln9, ln10, ln11, ln12, ln13, ln14, ln15, ln16, ln17, ln18, ln19, ln20, ln21, ln22, ln23, ln24, ln25, ln26, ln27, ln28, ln29, ln30, ln31, ln32, ln33, ln34, ln35, ln36, mg_3_5 ho]
  refine t0_394 hgo ?_
  refine t0_396t hgo rfl ?_
  refine t0_401 hgo ?_
  refine t0_402 hgo rfl ?_
  refine t0_404 hgo ?_
  refine t0_406t hgo (by decide) ?_
  refine t0_409 hgo ?_
  refine t0_411f hgo (by decide) ?_
  refine t0_414 hgo rfl ?_
  refine t0_416 hgo ?_
  refine res_of (u0_417 hgo) ?_
  simp only [eq_self, and_self, true_and, and_true, not_true_eq_false, not_false_eq_true, if_true, if_false, reduceIte, Option.bind_some, List.getElem?_cons_zero, List.getElem?_cons_succ, Nat.reduceAdd, Nat.reduceSub, Nat.reduceLT, Nat.reduceLeDiff, Nat.le_refl, Nat.zero_add, Nat.add_zero, List.length_cons, List.length_nil, Int32.reduceLT, Int32.reduceToNatClampNeg, Int32.reduceAdd, Int32.reduceSub, Int32.reduceMul, decide_true, ex_iaload, ald, pI_int, pR_ref, arr, isT, isBZ, mg_3_5 ho]
  refine t0_418 hgo ?_
  refine t0_420t hgo rfl ?_
  refine t0_423 hgo ?_
  refine t0_424 hgo ?_
  refine t0_428 hgo rfl ?_
  refine t0_430 hgo ?_
  refine t0_432 hgo ?_
  refine t0_433t hgo (by decide) ?_
  refine t0_436 hgo ?_
  refine t0_438f hgo (by decide) ?_
  refine t0_441 hgo rfl ?_
  refine t0_443 hgo ?_
  refine res_of (u0_444 hgo) ?_
  simp only [eq_self, and_self, true_and, and_true, not_true_eq_false, not_false_eq_true, if_true, if_false, reduceIte, Option.bind_some, List.getElem?_cons_zero, List.getElem?_cons_succ, Nat.reduceAdd, Nat.reduceSub, Nat.reduceLT, Nat.reduceLeDiff, Nat.le_refl, Nat.zero_add, Nat.add_zero, List.length_cons, List.length_nil, Int32.reduceLT, Int32.reduceToNatClampNeg, Int32.reduceAdd, Int32.reduceSub, Int32.reduceMul, decide_true, ex_iaload, ald, pI_int, pR_ref, arr, isT, isBZ, mg_3_5 ho]
  refine t0_445 hgo ?_
  refine t0_447t hgo rfl ?_
  refine t0_450 hgo ?_
  refine t0_451 hgo ?_
  refine t0_455 hgo rfl ?_
  refine t0_457 hgo ?_
  refine t0_459 hgo ?_
  refine t0_460t hgo (by decide) ?_
  refine t0_463 hgo ?_
  refine t0_465f hgo (by decide) ?_
  refine t0_468 hgo rfl ?_
  refine t0_470 hgo ?_
  refine res_of (u0_471 hgo) ?_
  simp only [eq_self, and_self, true_and, and_true, not_true_eq_false, not_false_eq_true, if_true, if_false, reduceIte, Option.bind_some, List.getElem?_cons_zero, List.getElem?_cons_succ, Nat.reduceAdd, Nat.reduceSub, Nat.reduceLT, Nat.reduceLeDiff, Nat.le_refl, Nat.zero_add, Nat.add_zero, List.length_cons, List.length_nil, Int32.reduceLT, Int32.reduceToNatClampNeg, Int32.reduceAdd, Int32.reduceSub, Int32.reduceMul, decide_true, ex_iaload, ald, pI_int, pR_ref, arr, isT, isBZ, mg_3_5 ho]
  refine t0_472 hgo ?_
  refine t0_474t hgo rfl ?_
  refine t0_477 hgo ?_
  refine t0_478 hgo ?_
  refine t0_482 hgo rfl ?_
  refine t0_484 hgo ?_
  refine t0_486 hgo ?_
  refine t0_487f hgo (by decide) ?_
  refine t0_511 hgo ?_
  refine t0_513 hgo ?_
  exact one_b
set_option maxRecDepth 65536 in
set_option maxHeartbeats 4000000 in
theorem tl_3_6 {go : Nat → St → Option ORes} (hgo : go = orun code ret E0 0) {l0 l1 l2 l3 l4 l6 l7 l8 l9 l10 l11 l12 l13 l14 : Slot} {w0 w1 w2 w3 : Int32} {s3 : Int32} {m : Nat} (ho : w0 < w1 ∧ w1 < w2 ∧ w2 < w3) : Rsq (go (m + 250) (158, [l0, l1, l2, l3, l4, .val (.int 3), l6, l7, l8, l9, l10, l11, l12, l13, l14, .val (.int w0), .val (.int w1), .val (.int w2), .val (.int w3), .val (.int 0), .val (.int 1), .val (.int 1), .val (.int s3), .unset, .unset, .unset, .unset, .unset, .unset, .unset], [], [], 0, 0)) OneI := by
  refine t0_158 hgo ?_
  refine t0_160t hgo (by decide) ?_
  refine t0_163 hgo ?_
  refine t0_165t hgo (by decide) ?_
  refine t0_172 hgo ?_
  refine t0_173 hgo ?_
  refine t0_175 hgo ?_
  refine t0_176t hgo (by decide) ?_
  refine t0_179 hgo ?_
  refine t0_181f hgo (by decide) ?_
  refine t0_184 hgo ?_
  refine t0_185 hgo ?_
  refine t0_189 hgo ?_
  refine t0_190 hgo ?_
  refine t0_192 hgo ?_
  refine t0_193t hgo (by decide) ?_
  refine t0_196 hgo ?_
  refine t0_198f hgo (by decide) ?_
  refine t0_201 hgo ?_
  refine t0_202 hgo ?_
  refine t0_206 hgo ?_
  refine t0_207 hgo ?_
  refine t0_209 hgo ?_
  refine t0_210f hgo (by decide) ?_
  refine t0_222 hgo ?_
  refine t0_223 hgo ?_
  refine t0_224 hgo rfl ?_
  refine t0_226 hgo ?_
  refine res_of (u0_228 hgo) ?_
  simp only [eq_self, and_self, true_and, and_true, not_true_eq_false, not_false_eq_true, if_true, if_false, reduceIte, Option.bind_some, List.getElem?_cons_zero, List.getElem?_cons_succ, Nat.reduceAdd, Nat.reduceSub, Nat.reduceLT, Nat.reduceLeDiff, Nat.le_refl, Nat.zero_add, Nat.add_zero, List.length_cons, List.length_nil, Int32.reduceLT, Int32.reduceToNatClampNeg, Int32.reduceAdd, Int32.reduceSub, Int32.reduceMul, decide_true, aArr, List.nil_append, List.cons_append, List.replicate_zero, List.replicate_succ, defaultValue]
  refine t0_230 hgo rfl rfl ?_
  refine t0_232 hgo ?_
  refine t0_234 hgo ?_
  refine t0_236 hgo ?_
  refine res_of (u0_237 hgo) ?_
  simp only [eq_self, and_self, true_and, and_true, not_true_eq_false, not_false_eq_true, if_true, if_false, reduceIte, Option.bind_some, List.getElem?_cons_zero, List.getElem?_cons_succ, Nat.reduceAdd, Nat.reduceSub, Nat.reduceLT, Nat.reduceLeDiff, Nat.le_refl, Nat.zero_add, Nat.add_zero, List.length_cons, List.length_nil, Int32.reduceLT, Int32.reduceToNatClampNeg, Int32.reduceAdd, Int32.reduceSub, Int32.reduceMul, decide_true, aArr, List.nil_append, List.cons_append, List.replicate_zero, List.replicate_succ, defaultValue]
  refine t0_239 hgo rfl rfl ?_
  refine t0_241 hgo ?_
  refine t0_242 hgo rfl ?_
  refine t0_244 hgo ?_
  refine t0_245 hgo rfl ?_
  refine t0_247 hgo ?_
  refine t0_249t hgo (by decide) ?_
  refine t0_252 hgo ?_
  refine t0_254t hgo (by decide) ?_
  refine t0_270 hgo rfl ?_
  refine t0_272 hgo ?_
  refine t0_274 hgo ?_
  refine res_of (u0_276 hgo) ?_
  simp only [eq_self, and_self, true_and, and_true, not_true_eq_false, not_false_eq_true, if_true, if_false, reduceIte, Option.bind_some, List.getElem?_cons_zero, List.getElem?_cons_succ, Nat.reduceAdd, Nat.reduceSub, Nat.reduceLT, Nat.reduceLeDiff, Nat.le_refl, Nat.zero_add, Nat.add_zero, List.length_cons, List.length_nil, Int32.reduceLT, Int32.reduceToNatClampNeg, Int32.reduceAdd, Int32.reduceSub, Int32.reduceMul, decide_true, ex_iastore, ast, astL, pI_int, pL_long, pR_ref, arr, isT, isBZ, nar, List.set_cons_zero, List.set_cons_succ]
  refine t0_277 hgo ?_
  refine t0_280 hgo ?_
  refine t0_282 hgo ?_
  refine t0_283t hgo (by decide) ?_
  refine t0_286 hgo ?_
  refine t0_288f hgo (by decide) ?_
  refine t0_291 hgo rfl ?_
  refine t0_293 hgo ?_
  refine t0_295 hgo ?_
  refine res_of (u0_297 hgo) ?_
  simp only [eq_self, and_self, true_and, and_true, not_true_eq_false, not_false_eq_true, if_true, if_false, reduceIte, Option.bind_some, List.getElem?_cons_zero, List.getElem?_cons_succ, Nat.reduceAdd, Nat.reduceSub, Nat.reduceLT, Nat.reduceLeDiff, Nat.le_refl, Nat.zero_add, Nat.add_zero, List.length_cons, List.length_nil, Int32.reduceLT, Int32.reduceToNatClampNeg, Int32.reduceAdd, Int32.reduceSub, Int32.reduceMul, decide_true, ex_iastore, ast, astL, pI_int, pL_long, pR_ref, arr, isT, isBZ, nar, List.set_cons_zero, List.set_cons_succ]
  refine t0_298 hgo ?_
  refine t0_301 hgo ?_
  refine t0_314 hgo ?_
  refine t0_316 hgo ?_
  refine t0_317t hgo (by decide) ?_
  refine t0_320 hgo ?_
  refine t0_322f hgo (by decide) ?_
  refine t0_325 hgo rfl ?_
  refine t0_327 hgo ?_
  refine t0_329 hgo ?_
  refine res_of (u0_331 hgo) ?_
  simp only [eq_self, and_self, true_and, and_true, not_true_eq_false, not_false_eq_true, if_true, if_false, reduceIte, Option.bind_some, List.getElem?_cons_zero, List.getElem?_cons_succ, Nat.reduceAdd, Nat.reduceSub, Nat.reduceLT, Nat.reduceLeDiff, Nat.le_refl, Nat.zero_add, Nat.add_zero, List.length_cons, List.length_nil, Int32.reduceLT, Int32.reduceToNatClampNeg, Int32.reduceAdd, Int32.reduceSub, Int32.reduceMul, decide_true, ex_iastore, ast, astL, pI_int, pL_long, pR_ref, arr, isT, isBZ, nar, List.set_cons_zero, List.set_cons_succ]
  refine t0_332 hgo ?_
  refine t0_335 hgo ?_
  refine t0_348 hgo ?_
  refine t0_350 hgo ?_
  refine t0_351f hgo (by decide) ?_
  refine t0_382 hgo rfl ?_
  refine t0_384 hgo rfl ?_
  refine res_of (u0_386 hgo) ?_
  simp only [eq_self, and_self, true_and, and_true, not_true_eq_false, not_false_eq_true, if_true, if_false, reduceIte, Option.bind_some, List.getElem?_cons_zero, List.getElem?_cons_succ, Nat.reduceAdd, Nat.reduceSub, Nat.reduceLT, Nat.reduceLeDiff, Nat.le_refl, Nat.zero_add, Nat.add_zero, List.length_cons, List.length_nil, Int32.reduceLT, Int32.reduceToNatClampNeg, Int32.reduceAdd, Int32.reduceSub, Int32.reduceMul, decide_true, aCall, aRecv, aObj, obj, List.take_succ_cons, List.take_zero, List.drop_succ_cons, List.drop_zero, List.reverse_cons, List.reverse_nil, List.nil_append, List.cons_append, List.append_nil, List.map_cons, List.map_nil, List.sum_cons, List.sum_nil, cat_int, cat_long, cat_ref, cat_null, Option.toList_some, Option.toList_none, mg_3_6 ho]
  refine t0_389 hgo rfl rfl ?_
  refine t0_391 hgo rfl ?_
  refine res_of (u0_393 hgo) ?_
  simp only [eq_self, and_self, true_and, and_true, not_true_eq_false, not_false_eq_true, if_true, if_false, reduceIte, Option.bind_some, List.getElem?_cons_zero, List.getElem?_cons_succ, Nat.reduceAdd, Nat.reduceSub, Nat.reduceLT, Nat.reduceLeDiff, Nat.le_refl, Nat.zero_add, Nat.add_zero, List.length_cons, List.length_nil, Int32.reduceLT, Int32.reduceToNatClampNeg, Int32.reduceAdd, Int32.reduceSub, Int32.reduceMul, decide_true, pR_ref, arr, ln0, ln1, ln2, ln3, ln4, ln5, ln6, ln7, ln8, ln9, ln10, ln11, ln12, ln13, ln14, ln15, ln16, ln17, ln18, ln19, ln20, ln21, ln22, ln23, ln24, ln25, ln26, ln27, ln28, ln29, ln30, ln31, ln32, ln33, ln34, ln35, ln36, mg_3_6 ho]
  refine t0_394 hgo ?_
  refine t0_396t hgo rfl ?_
  refine t0_401 hgo ?_
  refine t0_402 hgo rfl ?_
  refine t0_404 hgo ?_
  refine t0_406t hgo (by decide) ?_
  refine t0_409 hgo ?_
  refine t0_411f hgo (by decide) ?_
  refine t0_414 hgo rfl ?_
  refine t0_416 hgo ?_
  refine res_of (u0_417 hgo) ?_
  simp only [eq_self, and_self, true_and, and_true, not_true_eq_false, not_false_eq_true, if_true, if_false, reduceIte, Option.bind_some, List.getElem?_cons_zero, List.getElem?_cons_succ, Nat.reduceAdd, Nat.reduceSub, Nat.reduceLT, Nat.reduceLeDiff, Nat.le_refl, Nat.zero_add, Nat.add_zero, List.length_cons, List.length_nil, Int32.reduceLT, Int32.reduceToNatClampNeg, Int32.reduceAdd, Int32.reduceSub, Int32.reduceMul, decide_true, ex_iaload, ald, pI_int, pR_ref, arr, isT, isBZ, mg_3_6 ho]
  refine t0_418 hgo ?_
  refine t0_420t hgo rfl ?_
  refine t0_423 hgo ?_
  refine t0_424 hgo ?_
  refine t0_428 hgo rfl ?_
  refine t0_430 hgo ?_
  refine t0_432 hgo ?_
  refine t0_433t hgo (by decide) ?_
  refine t0_436 hgo ?_
  refine t0_438f hgo (by decide) ?_
  refine t0_441 hgo rfl ?_
  refine t0_443 hgo ?_
  refine res_of (u0_444 hgo) ?_
  simp only [eq_self, and_self, true_and, and_true, not_true_eq_false, not_false_eq_true, if_true, if_false, reduceIte, Option.bind_some, List.getElem?_cons_zero, List.getElem?_cons_succ, Nat.reduceAdd, Nat.reduceSub, Nat.reduceLT, Nat.reduceLeDiff, Nat.le_refl, Nat.zero_add, Nat.add_zero, List.length_cons, List.length_nil, Int32.reduceLT, Int32.reduceToNatClampNeg, Int32.reduceAdd, Int32.reduceSub, Int32.reduceMul, decide_true, ex_iaload, ald, pI_int, pR_ref, arr, isT, isBZ, mg_3_6 ho]
  refine t0_445 hgo ?_
  refine t0_447t hgo rfl ?_
  refine t0_450 hgo ?_
  refine t0_451 hgo ?_
  refine t0_455 hgo rfl ?_
  refine t0_457 hgo ?_
  refine t0_459 hgo ?_
  refine t0_460t hgo (by decide) ?_
  refine t0_463 hgo ?_
  refine t0_465f hgo (by decide) ?_
  refine t0_468 hgo rfl ?_
  refine t0_470 hgo ?_
  refine res_of (u0_471 hgo) ?_
  simp only [eq_self, and_self, true_and, and_true, not_true_eq_false, not_false_eq_true, if_true, if_false, reduceIte, Option.bind_some, List.getElem?_cons_zero, List.getElem?_cons_succ, Nat.reduceAdd, Nat.reduceSub, Nat.reduceLT, Nat.reduceLeDiff, Nat.le_refl, Nat.zero_add, Nat.add_zero, List.length_cons, List.length_nil, Int32.reduceLT, Int32.reduceToNatClampNeg, Int32.reduceAdd, Int32.reduceSub, Int32.reduceMul, decide_true, ex_iaload, ald, pI_int, pR_ref, arr, isT, isBZ, mg_3_6 ho]
  refine t0_472 hgo ?_
  refine t0_474t hgo rfl ?_
  refine t0_477 hgo ?_
  refine t0_478 hgo ?_
  refine t0_482 hgo rfl ?_
  refine t0_484 hgo ?_
  refine t0_486 hgo ?_
  refine t0_487f hgo (by decide) ?_
  refine t0_511 hgo ?_
  refine t0_513 hgo ?_
  exact one_b
set_option maxRecDepth 65536 in
set_option maxHeartbeats 4000000 in
theorem tl_3_7 {go : Nat → St → Option ORes} (hgo : go = orun code ret E0 0) {l0 l1 l2 l3 l4 l6 l7 l8 l9 l10 l11 l12 l13 l14 : Slot} {w0 w1 w2 w3 : Int32} {s3 : Int32} {m : Nat} (ho : w0 < w1 ∧ w1 < w2 ∧ w2 < w3) : Rsq (go (m + 250) (158, [l0, l1, l2, l3, l4, .val (.int 3), l6, l7, l8, l9, l10, l11, l12, l13, l14, .val (.int w0), .val (.int w1), .val (.int w2), .val (.int w3), .val (.int 1), .val (.int 1), .val (.int 1), .val (.int s3), .unset, .unset, .unset, .unset, .unset, .unset, .unset], [], [], 0, 0)) OneI := by
  refine t0_158 hgo ?_
  refine t0_160t hgo (by decide) ?_
  refine t0_163 hgo ?_
  refine t0_165f hgo (by decide) ?_
  refine t0_168 hgo ?_
  refine t0_169 hgo ?_
  refine t0_173 hgo ?_
  refine t0_175 hgo ?_
  refine t0_176t hgo (by decide) ?_
  refine t0_179 hgo ?_
  refine t0_181f hgo (by decide) ?_
  refine t0_184 hgo ?_
  refine t0_185 hgo ?_
  refine t0_189 hgo ?_
  refine t0_190 hgo ?_
  refine t0_192 hgo ?_
  refine t0_193t hgo (by decide) ?_
  refine t0_196 hgo ?_
  refine t0_198f hgo (by decide) ?_
  refine t0_201 hgo ?_
  refine t0_202 hgo ?_
  refine t0_206 hgo ?_
  refine t0_207 hgo ?_
  refine t0_209 hgo ?_
  refine t0_210f hgo (by decide) ?_
  refine t0_222 hgo ?_
  refine t0_223 hgo ?_
  refine t0_224 hgo rfl ?_
  refine t0_226 hgo ?_
  refine res_of (u0_228 hgo) ?_
  simp only [eq_self, and_self, true_and, and_true, not_true_eq_false, not_false_eq_true, if_true, if_false, reduceIte, Option.bind_some, List.getElem?_cons_zero, List.getElem?_cons_succ, Nat.reduceAdd, Nat.reduceSub, Nat.reduceLT, Nat.reduceLeDiff, Nat.le_refl, Nat.zero_add, Nat.add_zero, List.length_cons, List.length_nil, Int32.reduceLT, Int32.reduceToNatClampNeg, Int32.reduceAdd, Int32.reduceSub, Int32.reduceMul, decide_true, aArr, List.nil_append, List.cons_append, List.replicate_zero, List.replicate_succ, defaultValue]
  refine t0_230 hgo rfl rfl ?_
  refine t0_232 hgo ?_
  refine t0_234 hgo ?_
  refine t0_236 hgo ?_
  refine res_of (u0_237 hgo) ?_
  simp only [eq_self, and_self, true_and, and_true, not_true_eq_false, not_false_eq_true, if_true, if_false, reduceIte, Option.bind_some, List.getElem?_cons_zero, List.getElem?_cons_succ, Nat.reduceAdd, Nat.reduceSub, Nat.reduceLT, Nat.reduceLeDiff, Nat.le_refl, Nat.zero_add, Nat.add_zero, List.length_cons, List.length_nil, Int32.reduceLT, Int32.reduceToNatClampNeg, Int32.reduceAdd, Int32.reduceSub, Int32.reduceMul, decide_true, aArr, List.nil_append, List.cons_append, List.replicate_zero, List.replicate_succ, defaultValue]
  refine t0_239 hgo rfl rfl ?_
  refine t0_241 hgo ?_
  refine t0_242 hgo rfl ?_
  refine t0_244 hgo ?_
  refine t0_245 hgo rfl ?_
  refine t0_247 hgo ?_
  refine t0_249t hgo (by decide) ?_
  refine t0_252 hgo ?_
  refine t0_254f hgo (by decide) ?_
  refine t0_257 hgo rfl ?_
  refine t0_259 hgo ?_
  refine t0_261 hgo ?_
  refine res_of (u0_263 hgo) ?_
  simp only [eq_self, and_self, true_and, and_true, not_true_eq_false, not_false_eq_true, if_true, if_false, reduceIte, Option.bind_some, List.getElem?_cons_zero, List.getElem?_cons_succ, Nat.reduceAdd, Nat.reduceSub, Nat.reduceLT, Nat.reduceLeDiff, Nat.le_refl, Nat.zero_add, Nat.add_zero, List.length_cons, List.length_nil, Int32.reduceLT, Int32.reduceToNatClampNeg, Int32.reduceAdd, Int32.reduceSub, Int32.reduceMul, decide_true, ex_iastore, ast, astL, pI_int, pL_long, pR_ref, arr, isT, isBZ, nar, List.set_cons_zero, List.set_cons_succ]
  refine t0_264 hgo ?_
  refine t0_267 hgo ?_
  refine t0_280 hgo ?_
  refine t0_282 hgo ?_
  refine t0_283t hgo (by decide) ?_
  refine t0_286 hgo ?_
  refine t0_288f hgo (by decide) ?_
  refine t0_291 hgo rfl ?_
  refine t0_293 hgo ?_
  refine t0_295 hgo ?_
  refine res_of (u0_297 hgo) ?_
  simp only [eq_self, and_self, true_and, and_true, not_true_eq_false, not_false_eq_true, if_true, if_false, reduceIte, Option.bind_some, List.getElem?_cons_zero, List.getElem?_cons_succ, Nat.reduceAdd, Nat.reduceSub, Nat.reduceLT, Nat.reduceLeDiff, Nat.le_refl, Nat.zero_add, Nat.add_zero, List.length_cons, List.length_nil, Int32.reduceLT, Int32.reduceToNatClampNeg, Int32.reduceAdd, Int32.reduceSub, Int32.reduceMul, decide_true, ex_iastore, ast, astL, pI_int, pL_long, pR_ref, arr, isT, isBZ, nar, List.set_cons_zero, List.set_cons_succ]
  refine t0_298 hgo ?_
  refine t0_301 hgo ?_
  refine t0_314 hgo ?_
  refine t0_316 hgo ?_
  refine t0_317t hgo (by decide) ?_
  refine t0_320 hgo ?_
  refine t0_322f hgo (by decide) ?_
  refine t0_325 hgo rfl ?_
  refine t0_327 hgo ?_
  refine t0_329 hgo ?_
  refine res_of (u0_331 hgo) ?_
  simp only [eq_self, and_self, true_and, and_true, not_true_eq_false, not_false_eq_true, if_true, if_false, reduceIte, Option.bind_some, List.getElem?_cons_zero, List.getElem?_cons_succ, Nat.reduceAdd, Nat.reduceSub, Nat.reduceLT, Nat.reduceLeDiff, Nat.le_refl, Nat.zero_add, Nat.add_zero, List.length_cons, List.length_nil, Int32.reduceLT, Int32.reduceToNatClampNeg, Int32.reduceAdd, Int32.reduceSub, Int32.reduceMul, decide_true, ex_iastore, ast, astL, pI_int, pL_long, pR_ref, arr, isT, isBZ, nar, List.set_cons_zero, List.set_cons_succ]
  refine t0_332 hgo ?_
  refine t0_335 hgo ?_
  refine t0_348 hgo ?_
  refine t0_350 hgo ?_
  refine t0_351f hgo (by decide) ?_
  refine t0_382 hgo rfl ?_
  refine t0_384 hgo rfl ?_
  refine res_of (u0_386 hgo) ?_
  simp only [eq_self, and_self, true_and, and_true, not_true_eq_false, not_false_eq_true, if_true, if_false, reduceIte, Option.bind_some, List.getElem?_cons_zero, List.getElem?_cons_succ, Nat.reduceAdd, Nat.reduceSub, Nat.reduceLT, Nat.reduceLeDiff, Nat.le_refl, Nat.zero_add, Nat.add_zero, List.length_cons, List.length_nil, Int32.reduceLT, Int32.reduceToNatClampNeg, Int32.reduceAdd, Int32.reduceSub, Int32.reduceMul, decide_true, aCall, aRecv, aObj, obj, List.take_succ_cons, List.take_zero, List.drop_succ_cons, List.drop_zero, List.reverse_cons, List.reverse_nil, List.nil_append, List.cons_append, List.append_nil, List.map_cons, List.map_nil, List.sum_cons, List.sum_nil, cat_int, cat_long, cat_ref, cat_null, Option.toList_some, Option.toList_none, mg_3_7 ho]
  refine t0_389 hgo rfl rfl ?_
  refine t0_391 hgo rfl ?_
  refine res_of (u0_393 hgo) ?_
  simp only [eq_self, and_self, true_and, and_true, not_true_eq_false, not_false_eq_true, if_true, if_false, reduceIte, Option.bind_some, List.getElem?_cons_zero, List.getElem?_cons_succ, Nat.reduceAdd, Nat.reduceSub, Nat.reduceLT, Nat.reduceLeDiff, Nat.le_refl, Nat.zero_add, Nat.add_zero, List.length_cons, List.length_nil, Int32.reduceLT, Int32.reduceToNatClampNeg, Int32.reduceAdd, Int32.reduceSub, Int32.reduceMul, decide_true, pR_ref, arr, ln0, ln1, ln2, ln3, ln4, ln5, ln6, ln7, ln8, ln9, ln10, ln11, ln12, ln13, ln14, ln15, ln16, ln17, ln18, ln19, ln20, ln21, ln22, ln23, ln24, ln25, ln26, ln27, ln28, ln29, ln30, ln31, ln32, ln33, ln34, ln35, ln36, mg_3_7 ho]
  refine t0_394 hgo ?_
  refine t0_396t hgo rfl ?_
  refine t0_401 hgo ?_
  refine t0_402 hgo rfl ?_
  refine t0_404 hgo ?_
  refine t0_406t hgo (by decide) ?_
  refine t0_409 hgo ?_
  refine t0_411f hgo (by decide) ?_
  refine t0_414 hgo rfl ?_
  refine t0_416 hgo ?_
  refine res_of (u0_417 hgo) ?_
  simp only [eq_self, and_self, true_and, and_true, not_true_eq_false, not_false_eq_true, if_true, if_false, reduceIte, Option.bind_some, List.getElem?_cons_zero, List.getElem?_cons_succ, Nat.reduceAdd, Nat.reduceSub, Nat.reduceLT, Nat.reduceLeDiff, Nat.le_refl, Nat.zero_add, Nat.add_zero, List.length_cons, List.length_nil, Int32.reduceLT, Int32.reduceToNatClampNeg, Int32.reduceAdd, Int32.reduceSub, Int32.reduceMul, decide_true, ex_iaload, ald, pI_int, pR_ref, arr, isT, isBZ, mg_3_7 ho]
  refine t0_418 hgo ?_
  refine t0_420t hgo rfl ?_
  refine t0_423 hgo ?_
  refine t0_424 hgo ?_
  refine t0_428 hgo rfl ?_
  refine t0_430 hgo ?_
  refine t0_432 hgo ?_
  refine t0_433t hgo (by decide) ?_
  refine t0_436 hgo ?_
  refine t0_438f hgo (by decide) ?_
  refine t0_441 hgo rfl ?_
  refine t0_443 hgo ?_
  refine res_of (u0_444 hgo) ?_
  simp only [eq_self, and_self, true_and, and_true, not_true_eq_false, not_false_eq_true, if_true, if_false, reduceIte, Option.bind_some, List.getElem?_cons_zero, List.getElem?_cons_succ, Nat.reduceAdd, Nat.reduceSub, Nat.reduceLT, Nat.reduceLeDiff, Nat.le_refl, Nat.zero_add, Nat.add_zero, List.length_cons, List.length_nil, Int32.reduceLT, Int32.reduceToNatClampNeg, Int32.reduceAdd, Int32.reduceSub, Int32.reduceMul, decide_true, ex_iaload, ald, pI_int, pR_ref, arr, isT, isBZ, mg_3_7 ho]
  refine t0_445 hgo ?_
  refine t0_447t hgo rfl ?_
  refine t0_450 hgo ?_
  refine t0_451 hgo ?_
  refine t0_455 hgo rfl ?_
  refine t0_457 hgo ?_
  refine t0_459 hgo ?_
  refine t0_460t hgo (by decide) ?_
  refine t0_463 hgo ?_
  refine t0_465f hgo (by decide) ?_
  refine t0_468 hgo rfl ?_
  refine t0_470 hgo ?_
  refine res_of (u0_471 hgo) ?_
  simp only [eq_self, and_self, true_and, and_true, not_true_eq_false, not_false_eq_true, if_true, if_false, reduceIte, Option.bind_some, List.getElem?_cons_zero, List.getElem?_cons_succ, Nat.reduceAdd, Nat.reduceSub, Nat.reduceLT, Nat.reduceLeDiff, Nat.le_refl, Nat.zero_add, Nat.add_zero, List.length_cons, List.length_nil, Int32.reduceLT, Int32.reduceToNatClampNeg, Int32.reduceAdd, Int32.reduceSub, Int32.reduceMul, decide_true, ex_iaload, ald, pI_int, pR_ref, arr, isT, isBZ, mg_3_7 ho]
  refine t0_472 hgo ?_
  refine t0_474t hgo rfl ?_
  refine t0_477 hgo ?_
  refine t0_478 hgo ?_
  refine t0_482 hgo rfl ?_
  refine t0_484 hgo ?_
  refine t0_486 hgo ?_
  refine t0_487f hgo (by decide) ?_
  refine t0_511 hgo ?_
  refine t0_513 hgo ?_
  exact one_b
set_option maxRecDepth 65536 in
set_option maxHeartbeats 4000000 in
theorem tl_4_0 {go : Nat → St → Option ORes} (hgo : go = orun code ret E0 0) {l0 l1 l2 l3 l4 l6 l7 l8 l9 l10 l11 l12 l13 l14 : Slot} {w0 w1 w2 w3 : Int32} {m : Nat} (ho : w0 < w1 ∧ w1 < w2 ∧ w2 < w3) : Rsq (go (m + 250) (158, [l0, l1, l2, l3, l4, .val (.int 4), l6, l7, l8, l9, l10, l11, l12, l13, l14, .val (.int w0), .val (.int w1), .val (.int w2), .val (.int w3), .val (.int 0), .val (.int 0), .val (.int 0), .val (.int 0), .unset, .unset, .unset, .unset, .unset, .unset, .unset], [], [], 0, 0)) OneI := by
  refine t0_158 hgo ?_
  refine t0_160t hgo (by decide) ?_
  refine t0_163 hgo ?_
  refine t0_165t hgo (by decide) ?_
  refine t0_172 hgo ?_
  refine t0_173 hgo ?_
  refine t0_175 hgo ?_
  refine t0_176t hgo (by decide) ?_
  refine t0_179 hgo ?_
  refine t0_181t hgo (by decide) ?_
  refine t0_188 hgo ?_
  refine t0_189 hgo ?_
  refine t0_190 hgo ?_
  refine t0_192 hgo ?_
  refine t0_193t hgo (by decide) ?_
  refine t0_196 hgo ?_
  refine t0_198t hgo (by decide) ?_
  refine t0_205 hgo ?_
  refine t0_206 hgo ?_
  refine t0_207 hgo ?_
  refine t0_209 hgo ?_
  refine t0_210t hgo (by decide) ?_
  refine t0_213 hgo ?_
  refine t0_215t hgo (by decide) ?_
  refine t0_222 hgo ?_
  refine t0_223 hgo ?_
  refine t0_224 hgo rfl ?_
  refine t0_226 hgo ?_
  refine res_of (u0_228 hgo) ?_
  simp only [eq_self, and_self, true_and, and_true, not_true_eq_false, not_false_eq_true, if_true, if_false, reduceIte, Option.bind_some, List.getElem?_cons_zero, List.getElem?_cons_succ, Nat.reduceAdd, Nat.reduceSub, Nat.reduceLT, Nat.reduceLeDiff, Nat.le_refl, Nat.zero_add, Nat.add_zero, List.length_cons, List.length_nil, Int32.reduceLT, Int32.reduceToNatClampNeg, Int32.reduceAdd, Int32.reduceSub, Int32.reduceMul, decide_true, aArr, List.nil_append, List.cons_append, List.replicate_zero, List.replicate_succ, defaultValue]
  refine t0_230 hgo rfl rfl ?_
  refine t0_232 hgo ?_
  refine t0_234 hgo ?_
  refine t0_236 hgo ?_
  refine res_of (u0_237 hgo) ?_
  simp only [eq_self, and_self, true_and, and_true, not_true_eq_false, not_false_eq_true, if_true, if_false, reduceIte, Option.bind_some, List.getElem?_cons_zero, List.getElem?_cons_succ, Nat.reduceAdd, Nat.reduceSub, Nat.reduceLT, Nat.reduceLeDiff, Nat.le_refl, Nat.zero_add, Nat.add_zero, List.length_cons, List.length_nil, Int32.reduceLT, Int32.reduceToNatClampNeg, Int32.reduceAdd, Int32.reduceSub, Int32.reduceMul, decide_true, aArr, List.nil_append, List.cons_append, List.replicate_zero, List.replicate_succ, defaultValue]
  refine t0_239 hgo rfl rfl ?_
  refine t0_241 hgo ?_
  refine t0_242 hgo rfl ?_
  refine t0_244 hgo ?_
  refine t0_245 hgo rfl ?_
  refine t0_247 hgo ?_
  refine t0_249t hgo (by decide) ?_
  refine t0_252 hgo ?_
  refine t0_254t hgo (by decide) ?_
  refine t0_270 hgo rfl ?_
  refine t0_272 hgo ?_
  refine t0_274 hgo ?_
  refine res_of (u0_276 hgo) ?_
  simp only [eq_self, and_self, true_and, and_true, not_true_eq_false, not_false_eq_true, if_true, if_false, reduceIte, Option.bind_some, List.getElem?_cons_zero, List.getElem?_cons_succ, Nat.reduceAdd, Nat.reduceSub, Nat.reduceLT, Nat.reduceLeDiff, Nat.le_refl, Nat.zero_add, Nat.add_zero, List.length_cons, List.length_nil, Int32.reduceLT, Int32.reduceToNatClampNeg, Int32.reduceAdd, Int32.reduceSub, Int32.reduceMul, decide_true, ex_iastore, ast, astL, pI_int, pL_long, pR_ref, arr, isT, isBZ, nar, List.set_cons_zero, List.set_cons_succ]
  refine t0_277 hgo ?_
  refine t0_280 hgo ?_
  refine t0_282 hgo ?_
  refine t0_283t hgo (by decide) ?_
  refine t0_286 hgo ?_
  refine t0_288t hgo (by decide) ?_
  refine t0_304 hgo rfl ?_
  refine t0_306 hgo ?_
  refine t0_308 hgo ?_
  refine res_of (u0_310 hgo) ?_
  simp only [eq_self, and_self, true_and, and_true, not_true_eq_false, not_false_eq_true, if_true, if_false, reduceIte, Option.bind_some, List.getElem?_cons_zero, List.getElem?_cons_succ, Nat.reduceAdd, Nat.reduceSub, Nat.reduceLT, Nat.reduceLeDiff, Nat.le_refl, Nat.zero_add, Nat.add_zero, List.length_cons, List.length_nil, Int32.reduceLT, Int32.reduceToNatClampNeg, Int32.reduceAdd, Int32.reduceSub, Int32.reduceMul, decide_true, ex_iastore, ast, astL, pI_int, pL_long, pR_ref, arr, isT, isBZ, nar, List.set_cons_zero, List.set_cons_succ]
  refine t0_311 hgo ?_
  refine t0_314 hgo ?_
  refine t0_316 hgo ?_
  refine t0_317t hgo (by decide) ?_
  refine t0_320 hgo ?_
  refine t0_322t hgo (by decide) ?_
  refine t0_338 hgo rfl ?_
  refine t0_340 hgo ?_
  refine t0_342 hgo ?_
  refine res_of (u0_344 hgo) ?_
  simp only [eq_self, and_self, true_and, and_true, not_true_eq_false, not_false_eq_true, if_true, if_false, reduceIte, Option.bind_some, List.getElem?_cons_zero, List.getElem?_cons_succ, Nat.reduceAdd, Nat.reduceSub, Nat.reduceLT, Nat.reduceLeDiff, Nat.le_refl, Nat.zero_add, Nat.add_zero, List.length_cons, List.length_nil, Int32.reduceLT, Int32.reduceToNatClampNeg, Int32.reduceAdd, Int32.reduceSub, Int32.reduceMul, decide_true, ex_iastore, ast, astL, pI_int, pL_long, pR_ref, arr, isT, isBZ, nar, List.set_cons_zero, List.set_cons_succ]
  refine t0_345 hgo ?_
  refine t0_348 hgo ?_
  refine t0_350 hgo ?_
  refine t0_351t hgo (by decide) ?_
  refine t0_354 hgo ?_
  refine t0_356t hgo (by decide) ?_
  refine t0_372 hgo rfl ?_
  refine t0_374 hgo ?_
  refine t0_376 hgo ?_
  refine res_of (u0_378 hgo) ?_
  simp only [eq_self, and_self, true_and, and_true, not_true_eq_false, not_false_eq_true, if_true, if_false, reduceIte, Option.bind_some, List.getElem?_cons_zero, List.getElem?_cons_succ, Nat.reduceAdd, Nat.reduceSub, Nat.reduceLT, Nat.reduceLeDiff, Nat.le_refl, Nat.zero_add, Nat.add_zero, List.length_cons, List.length_nil, Int32.reduceLT, Int32.reduceToNatClampNeg, Int32.reduceAdd, Int32.reduceSub, Int32.reduceMul, decide_true, ex_iastore, ast, astL, pI_int, pL_long, pR_ref, arr, isT, isBZ, nar, List.set_cons_zero, List.set_cons_succ]
  refine t0_379 hgo ?_
  refine t0_382 hgo rfl ?_
  refine t0_384 hgo rfl ?_
  refine res_of (u0_386 hgo) ?_
  simp only [eq_self, and_self, true_and, and_true, not_true_eq_false, not_false_eq_true, if_true, if_false, reduceIte, Option.bind_some, List.getElem?_cons_zero, List.getElem?_cons_succ, Nat.reduceAdd, Nat.reduceSub, Nat.reduceLT, Nat.reduceLeDiff, Nat.le_refl, Nat.zero_add, Nat.add_zero, List.length_cons, List.length_nil, Int32.reduceLT, Int32.reduceToNatClampNeg, Int32.reduceAdd, Int32.reduceSub, Int32.reduceMul, decide_true, aCall, aRecv, aObj, obj, List.take_succ_cons, List.take_zero, List.drop_succ_cons, List.drop_zero, List.reverse_cons, List.reverse_nil, List.nil_append, List.cons_append, List.append_nil, List.map_cons, List.map_nil, List.sum_cons, List.sum_nil, cat_int, cat_long, cat_ref, cat_null, Option.toList_some, Option.toList_none, mg_4_0 ho]
  refine t0_389 hgo rfl rfl ?_
  refine t0_391 hgo rfl ?_
  refine res_of (u0_393 hgo) ?_
  simp only [eq_self, and_self, true_and, and_true, not_true_eq_false, not_false_eq_true, if_true, if_false, reduceIte, Option.bind_some, List.getElem?_cons_zero, List.getElem?_cons_succ, Nat.reduceAdd, Nat.reduceSub, Nat.reduceLT, Nat.reduceLeDiff, Nat.le_refl, Nat.zero_add, Nat.add_zero, List.length_cons, List.length_nil, Int32.reduceLT, Int32.reduceToNatClampNeg, Int32.reduceAdd, Int32.reduceSub, Int32.reduceMul, decide_true, pR_ref, arr, ln0, ln1, ln2, ln3, ln4, ln5, ln6, ln7, ln8, ln9, ln10, ln11, ln12, ln13, ln14, ln15, ln16, ln17, ln18, ln19, ln20, ln21, ln22, ln23, ln24, ln25, ln26, ln27, ln28, ln29, ln30, ln31, ln32, ln33, ln34, ln35, ln36, mg_4_0 ho]
  refine t0_394 hgo ?_
  refine t0_396t hgo rfl ?_
  refine t0_401 hgo ?_
  refine t0_402 hgo rfl ?_
  refine t0_404 hgo ?_
  refine t0_406t hgo (by decide) ?_
  refine t0_409 hgo ?_
  refine t0_411f hgo (by decide) ?_
  refine t0_414 hgo rfl ?_
  refine t0_416 hgo ?_
  refine res_of (u0_417 hgo) ?_
  simp only [eq_self, and_self, true_and, and_true, not_true_eq_false, not_false_eq_true, if_true, if_false, reduceIte, Option.bind_some, List.getElem?_cons_zero, List.getElem?_cons_succ, Nat.reduceAdd, Nat.reduceSub, Nat.reduceLT, Nat.reduceLeDiff, Nat.le_refl, Nat.zero_add, Nat.add_zero, List.length_cons, List.length_nil, Int32.reduceLT, Int32.reduceToNatClampNeg, Int32.reduceAdd, Int32.reduceSub, Int32.reduceMul, decide_true, ex_iaload, ald, pI_int, pR_ref, arr, isT, isBZ, mg_4_0 ho]
  refine t0_418 hgo ?_
  refine t0_420t hgo rfl ?_
  refine t0_423 hgo ?_
  refine t0_424 hgo ?_
  refine t0_428 hgo rfl ?_
  refine t0_430 hgo ?_
  refine t0_432 hgo ?_
  refine t0_433t hgo (by decide) ?_
  refine t0_436 hgo ?_
  refine t0_438f hgo (by decide) ?_
  refine t0_441 hgo rfl ?_
  refine t0_443 hgo ?_
  refine res_of (u0_444 hgo) ?_
  simp only [eq_self, and_self, true_and, and_true, not_true_eq_false, not_false_eq_true, if_true, if_false, reduceIte, Option.bind_some, List.getElem?_cons_zero, List.getElem?_cons_succ, Nat.reduceAdd, Nat.reduceSub, Nat.reduceLT, Nat.reduceLeDiff, Nat.le_refl, Nat.zero_add, Nat.add_zero, List.length_cons, List.length_nil, Int32.reduceLT, Int32.reduceToNatClampNeg, Int32.reduceAdd, Int32.reduceSub, Int32.reduceMul, decide_true, ex_iaload, ald, pI_int, pR_ref, arr, isT, isBZ, mg_4_0 ho]
  refine t0_445 hgo ?_
  refine t0_447t hgo rfl ?_
  refine t0_450 hgo ?_
  refine t0_451 hgo ?_
  refine t0_455 hgo rfl ?_
  refine t0_457 hgo ?_
  refine t0_459 hgo ?_
  refine t0_460t hgo (by decide) ?_
  refine t0_463 hgo ?_
  refine t0_465f hgo (by decide) ?_
  refine t0_468 hgo rfl ?_
  refine t0_470 hgo ?_
  refine res_of (u0_471 hgo) ?_
  simp only [eq_self, and_self, true_and, and_true, not_true_eq_false, not_false_eq_true, if_true, if_false, reduceIte, Option.bind_some, List.getElem?_cons_zero, List.getElem?_cons_succ, Nat.reduceAdd, Nat.reduceSub, Nat.reduceLT, Nat.reduceLeDiff, Nat.le_refl, Nat.zero_add, Nat.add_zero, List.length_cons, List.length_nil, Int32.reduceLT, Int32.reduceToNatClampNeg, Int32.reduceAdd, Int32.reduceSub, Int32.reduceMul, decide_true, ex_iaload, ald, pI_int, pR_ref, arr, isT, isBZ, mg_4_0 ho]
  refine t0_472 hgo ?_
  refine t0_474t hgo rfl ?_
  refine t0_477 hgo ?_
  refine t0_478 hgo ?_
  refine t0_482 hgo rfl ?_
  refine t0_484 hgo ?_
  refine t0_486 hgo ?_
  refine t0_487t hgo (by decide) ?_
  refine t0_490 hgo ?_
  refine t0_492f hgo (by decide) ?_
  refine t0_495 hgo rfl ?_
  refine t0_497 hgo ?_
  refine res_of (u0_498 hgo) ?_
  simp only [eq_self, and_self, true_and, and_true, not_true_eq_false, not_false_eq_true, if_true, if_false, reduceIte, Option.bind_some, List.getElem?_cons_zero, List.getElem?_cons_succ, Nat.reduceAdd, Nat.reduceSub, Nat.reduceLT, Nat.reduceLeDiff, Nat.le_refl, Nat.zero_add, Nat.add_zero, List.length_cons, List.length_nil, Int32.reduceLT, Int32.reduceToNatClampNeg, Int32.reduceAdd, Int32.reduceSub, Int32.reduceMul, decide_true, ex_iaload, ald, pI_int, pR_ref, arr, isT, isBZ, mg_4_0 ho]
  refine t0_499 hgo ?_
  refine t0_501t hgo rfl ?_
  refine t0_504 hgo ?_
  refine t0_505 hgo ?_
  refine t0_509 hgo rfl ?_
  refine t0_511 hgo ?_
  refine t0_513 hgo ?_
  exact one_b
set_option maxRecDepth 65536 in
set_option maxHeartbeats 4000000 in
theorem tl_4_1 {go : Nat → St → Option ORes} (hgo : go = orun code ret E0 0) {l0 l1 l2 l3 l4 l6 l7 l8 l9 l10 l11 l12 l13 l14 : Slot} {w0 w1 w2 w3 : Int32} {m : Nat} (ho : w0 < w1 ∧ w1 < w2 ∧ w2 < w3) : Rsq (go (m + 250) (158, [l0, l1, l2, l3, l4, .val (.int 4), l6, l7, l8, l9, l10, l11, l12, l13, l14, .val (.int w0), .val (.int w1), .val (.int w2), .val (.int w3), .val (.int 1), .val (.int 0), .val (.int 0), .val (.int 0), .unset, .unset, .unset, .unset, .unset, .unset, .unset], [], [], 0, 0)) OneI := by
  refine t0_158 hgo ?_
  refine t0_160t hgo (by decide) ?_
  refine t0_163 hgo ?_
  refine t0_165f hgo (by decide) ?_
  refine t0_168 hgo ?_
  refine t0_169 hgo ?_
  refine t0_173 hgo ?_
  refine t0_175 hgo ?_
  refine t0_176t hgo (by decide) ?_
  refine t0_179 hgo ?_
  refine t0_181t hgo (by decide) ?_
  refine t0_188 hgo ?_
  refine t0_189 hgo ?_
  refine t0_190 hgo ?_
  refine t0_192 hgo ?_
  refine t0_193t hgo (by decide) ?_
  refine t0_196 hgo ?_
  refine t0_198t hgo (by decide) ?_
  refine t0_205 hgo ?_
  refine t0_206 hgo ?_
  refine t0_207 hgo ?_
  refine t0_209 hgo ?_
  refine t0_210t hgo (by decide) ?_
  refine t0_213 hgo ?_
  refine t0_215t hgo (by decide) ?_
  refine t0_222 hgo ?_
  refine t0_223 hgo ?_
  refine t0_224 hgo rfl ?_
  refine t0_226 hgo ?_
  refine res_of (u0_228 hgo) ?_
  simp only [eq_self, and_self, true_and, and_true, not_true_eq_false, not_false_eq_true, if_true, if_false, reduceIte, Option.bind_some, List.getElem?_cons_zero, List.getElem?_cons_succ, Nat.reduceAdd, Nat.reduceSub, Nat.reduceLT, Nat.reduceLeDiff, Nat.le_refl, Nat.zero_add, Nat.add_zero, List.length_cons, List.length_nil, Int32.reduceLT, Int32.reduceToNatClampNeg, Int32.reduceAdd, Int32.reduceSub, Int32.reduceMul, decide_true, aArr, List.nil_append, List.cons_append, List.replicate_zero, List.replicate_succ, defaultValue]
  refine t0_230 hgo rfl rfl ?_
  refine t0_232 hgo ?_
  refine t0_234 hgo ?_
  refine t0_236 hgo ?_
  refine res_of (u0_237 hgo) ?_
  simp only [eq_self, and_self, true_and, and_true, not_true_eq_false, not_false_eq_true, if_true, if_false, reduceIte, Option.bind_some, List.getElem?_cons_zero, List.getElem?_cons_succ, Nat.reduceAdd, Nat.reduceSub, Nat.reduceLT, Nat.reduceLeDiff, Nat.le_refl, Nat.zero_add, Nat.add_zero, List.length_cons, List.length_nil, Int32.reduceLT, Int32.reduceToNatClampNeg, Int32.reduceAdd, Int32.reduceSub, Int32.reduceMul, decide_true, aArr, List.nil_append, List.cons_append, List.replicate_zero, List.replicate_succ, defaultValue]
  refine t0_239 hgo rfl rfl ?_
  refine t0_241 hgo ?_
  refine t0_242 hgo rfl ?_
  refine t0_244 hgo ?_
  refine t0_245 hgo rfl ?_
  refine t0_247 hgo ?_
  refine t0_249t hgo (by decide) ?_
  refine t0_252 hgo ?_
  refine t0_254f hgo (by decide) ?_
  refine t0_257 hgo rfl ?_
  refine t0_259 hgo ?_
  refine t0_261 hgo ?_
  refine res_of (u0_263 hgo) ?_
  simp only [eq_self, and_self, true_and, and_true, not_true_eq_false, not_false_eq_true, if_true, if_false, reduceIte, Option.bind_some, List.getElem?_cons_zero, List.getElem?_cons_succ, Nat.reduceAdd, Nat.reduceSub, Nat.reduceLT, Nat.reduceLeDiff, Nat.le_refl, Nat.zero_add, Nat.add_zero, List.length_cons, List.length_nil, Int32.reduceLT, Int32.reduceToNatClampNeg, Int32.reduceAdd, Int32.reduceSub, Int32.reduceMul, decide_true, ex_iastore, ast, astL, pI_int, pL_long, pR_ref, arr, isT, isBZ, nar, List.set_cons_zero, List.set_cons_succ]
  refine t0_264 hgo ?_
  refine t0_267 hgo ?_
  refine t0_280 hgo ?_
  refine t0_282 hgo ?_
  refine t0_283t hgo (by decide) ?_
  refine t0_286 hgo ?_
  refine t0_288t hgo (by decide) ?_
  refine t0_304 hgo rfl ?_
  refine t0_306 hgo ?_
  refine t0_308 hgo ?_
  refine res_of (u0_310 hgo) ?_
  simp only [eq_self, and_self, true_and, and_true, not_true_eq_false, not_false_eq_true, if_true, if_false, reduceIte, Option.bind_some, List.getElem?_cons_zero, List.getElem?_cons_succ, Nat.reduceAdd, Nat.reduceSub, Nat.reduceLT, Nat.reduceLeDiff, Nat.le_refl, Nat.zero_add, Nat.add_zero, List.length_cons, List.length_nil, Int32.reduceLT, Int32.reduceToNatClampNeg, Int32.reduceAdd, Int32.reduceSub, Int32.reduceMul, decide_true, ex_iastore, ast, astL, pI_int, pL_long, pR_ref, arr, isT, isBZ, nar, List.set_cons_zero, List.set_cons_succ]
  refine t0_311 hgo ?_
  refine t0_314 hgo ?_
  refine t0_316 hgo ?_
  refine t0_317t hgo (by decide) ?_
  refine t0_320 hgo ?_
  refine t0_322t hgo (by decide) ?_
  refine t0_338 hgo rfl ?_
  refine t0_340 hgo ?_
  refine t0_342 hgo ?_
  refine res_of (u0_344 hgo) ?_
  simp only [eq_self, and_self, true_and, and_true, not_true_eq_false, not_false_eq_true, if_true, if_false, reduceIte, Option.bind_some, List.getElem?_cons_zero, List.getElem?_cons_succ, Nat.reduceAdd, Nat.reduceSub, Nat.reduceLT, Nat.reduceLeDiff, Nat.le_refl, Nat.zero_add, Nat.add_zero, List.length_cons, List.length_nil, Int32.reduceLT, Int32.reduceToNatClampNeg, Int32.reduceAdd, Int32.reduceSub, Int32.reduceMul, decide_true, ex_iastore, ast, astL, pI_int, pL_long, pR_ref, arr, isT, isBZ, nar, List.set_cons_zero, List.set_cons_succ]
  refine t0_345 hgo ?_
  refine t0_348 hgo ?_
  refine t0_350 hgo ?_
  refine t0_351t hgo (by decide) ?_
  refine t0_354 hgo ?_
  refine t0_356t hgo (by decide) ?_
  refine t0_372 hgo rfl ?_
  refine t0_374 hgo ?_
  refine t0_376 hgo ?_
  refine res_of (u0_378 hgo) ?_
  simp only [eq_self, and_self, true_and, and_true, not_true_eq_false, not_false_eq_true, if_true, if_false, reduceIte, Option.bind_some, List.getElem?_cons_zero, List.getElem?_cons_succ, Nat.reduceAdd, Nat.reduceSub, Nat.reduceLT, Nat.reduceLeDiff, Nat.le_refl, Nat.zero_add, Nat.add_zero, List.length_cons, List.length_nil, Int32.reduceLT, Int32.reduceToNatClampNeg, Int32.reduceAdd, Int32.reduceSub, Int32.reduceMul, decide_true, ex_iastore, ast, astL, pI_int, pL_long, pR_ref, arr, isT, isBZ, nar, List.set_cons_zero, List.set_cons_succ]
  refine t0_379 hgo ?_
  refine t0_382 hgo rfl ?_
  refine t0_384 hgo rfl ?_
  refine res_of (u0_386 hgo) ?_
  simp only [eq_self, and_self, true_and, and_true, not_true_eq_false, not_false_eq_true, if_true, if_false, reduceIte, Option.bind_some, List.getElem?_cons_zero, List.getElem?_cons_succ, Nat.reduceAdd, Nat.reduceSub, Nat.reduceLT, Nat.reduceLeDiff, Nat.le_refl, Nat.zero_add, Nat.add_zero, List.length_cons, List.length_nil, Int32.reduceLT, Int32.reduceToNatClampNeg, Int32.reduceAdd, Int32.reduceSub, Int32.reduceMul, decide_true, aCall, aRecv, aObj, obj, List.take_succ_cons, List.take_zero, List.drop_succ_cons, List.drop_zero, List.reverse_cons, List.reverse_nil, List.nil_append, List.cons_append, List.append_nil, List.map_cons, List.map_nil, List.sum_cons, List.sum_nil, cat_int, cat_long, cat_ref, cat_null, Option.toList_some, Option.toList_none, mg_4_1 ho]
  refine t0_389 hgo rfl rfl ?_
  refine t0_391 hgo rfl ?_
  refine res_of (u0_393 hgo) ?_
  simp only [eq_self, and_self, true_and, and_true, not_true_eq_false, not_false_eq_true, if_true, if_false, reduceIte, Option.bind_some, List.getElem?_cons_zero, List.getElem?_cons_succ, Nat.reduceAdd, Nat.reduceSub, Nat.reduceLT, Nat.reduceLeDiff, Nat.le_refl, Nat.zero_add, Nat.add_zero, List.length_cons, List.length_nil, Int32.reduceLT, Int32.reduceToNatClampNeg, Int32.reduceAdd, Int32.reduceSub, Int32.reduceMul, decide_true, pR_ref, arr, ln0, ln1, ln2, ln3, ln4, ln5, ln6, ln7, ln8, ln9, ln10, ln11, ln12, ln13, ln14, ln15, ln16, ln17, ln18, ln19, ln20, ln21, ln22, ln23, ln24, ln25, ln26, ln27, ln28, ln29, ln30, ln31, ln32, ln33, ln34, ln35, ln36, mg_4_1 ho]
  refine t0_394 hgo ?_
  refine t0_396t hgo rfl ?_
  refine t0_401 hgo ?_
  refine t0_402 hgo rfl ?_
  refine t0_404 hgo ?_
  refine t0_406t hgo (by decide) ?_
  refine t0_409 hgo ?_
  refine t0_411f hgo (by decide) ?_
  refine t0_414 hgo rfl ?_
  refine t0_416 hgo ?_
  refine res_of (u0_417 hgo) ?_
  simp only [eq_self, and_self, true_and, and_true, not_true_eq_false, not_false_eq_true, if_true, if_false, reduceIte, Option.bind_some, List.getElem?_cons_zero, List.getElem?_cons_succ, Nat.reduceAdd, Nat.reduceSub, Nat.reduceLT, Nat.reduceLeDiff, Nat.le_refl, Nat.zero_add, Nat.add_zero, List.length_cons, List.length_nil, Int32.reduceLT, Int32.reduceToNatClampNeg, Int32.reduceAdd, Int32.reduceSub, Int32.reduceMul, decide_true, ex_iaload, ald, pI_int, pR_ref, arr, isT, isBZ, mg_4_1 ho]
  refine t0_418 hgo ?_
  refine t0_420t hgo rfl ?_
  refine t0_423 hgo ?_
  refine t0_424 hgo ?_
  refine t0_428 hgo rfl ?_
  refine t0_430 hgo ?_
  refine t0_432 hgo ?_
  refine t0_433t hgo (by decide) ?_
  refine t0_436 hgo ?_
  refine t0_438f hgo (by decide) ?_
  refine t0_441 hgo rfl ?_
  refine t0_443 hgo ?_
  refine res_of (u0_444 hgo) ?_
  simp only [eq_self, and_self, true_and, and_true, not_true_eq_false, not_false_eq_true, if_true, if_false, reduceIte, Option.bind_some, List.getElem?_cons_zero, List.getElem?_cons_succ, Nat.reduceAdd, Nat.reduceSub, Nat.reduceLT, Nat.reduceLeDiff, Nat.le_refl, Nat.zero_add, Nat.add_zero, List.length_cons, List.length_nil, Int32.reduceLT, Int32.reduceToNatClampNeg, Int32.reduceAdd, Int32.reduceSub, Int32.reduceMul, decide_true, ex_iaload, ald, pI_int, pR_ref, arr, isT, isBZ, mg_4_1 ho]
  refine t0_445 hgo ?_
  refine t0_447t hgo rfl ?_
  refine t0_450 hgo ?_
  refine t0_451 hgo ?_
  refine t0_455 hgo rfl ?_
  refine t0_457 hgo ?_
  refine t0_459 hgo ?_
  refine t0_460t hgo (by decide) ?_
  refine t0_463 hgo ?_
  refine t0_465f hgo (by decide) ?_
  refine t0_468 hgo rfl ?_
  refine t0_470 hgo ?_
  refine res_of (u0_471 hgo) ?_
  simp only [eq_self, and_self, true_and, and_true, not_true_eq_false, not_false_eq_true, if_true, if_false, reduceIte, Option.bind_some, List.getElem?_cons_zero, List.getElem?_cons_succ, Nat.reduceAdd, Nat.reduceSub, Nat.reduceLT, Nat.reduceLeDiff, Nat.le_refl, Nat.zero_add, Nat.add_zero, List.length_cons, List.length_nil, Int32.reduceLT, Int32.reduceToNatClampNeg, Int32.reduceAdd, Int32.reduceSub, Int32.reduceMul, decide_true, ex_iaload, ald, pI_int, pR_ref, arr, isT, isBZ, mg_4_1 ho]
  refine t0_472 hgo ?_
  refine t0_474t hgo rfl ?_
  refine t0_477 hgo ?_
  refine t0_478 hgo ?_
  refine t0_482 hgo rfl ?_
  refine t0_484 hgo ?_
  refine t0_486 hgo ?_
  refine t0_487t hgo (by decide) ?_
  refine t0_490 hgo ?_
  refine t0_492f hgo (by decide) ?_
  refine t0_495 hgo rfl ?_
  refine t0_497 hgo ?_
  refine res_of (u0_498 hgo) ?_
  simp only [eq_self, and_self, true_and, and_true, not_true_eq_false, not_false_eq_true, if_true, if_false, reduceIte, Option.bind_some, List.getElem?_cons_zero, List.getElem?_cons_succ, Nat.reduceAdd, Nat.reduceSub, Nat.reduceLT, Nat.reduceLeDiff, Nat.le_refl, Nat.zero_add, Nat.add_zero, List.length_cons, List.length_nil, Int32.reduceLT, Int32.reduceToNatClampNeg, Int32.reduceAdd, Int32.reduceSub, Int32.reduceMul, decide_true, ex_iaload, ald, pI_int, pR_ref, arr, isT, isBZ, mg_4_1 ho]
  refine t0_499 hgo ?_
  refine t0_501t hgo rfl ?_
  refine t0_504 hgo ?_
  refine t0_505 hgo ?_
  refine t0_509 hgo rfl ?_
  refine t0_511 hgo ?_
  refine t0_513 hgo ?_
  exact one_b
set_option maxRecDepth 65536 in
set_option maxHeartbeats 4000000 in
theorem tl_4_2 {go : Nat → St → Option ORes} (hgo : go = orun code ret E0 0) {l0 l1 l2 l3 l4 l6 l7 l8 l9 l10 l11 l12 l13 l14 : Slot} {w0 w1 w2 w3 : Int32} {m : Nat} (ho : w0 < w1 ∧ w1 < w2 ∧ w2 < w3) : Rsq (go (m + 250) (158, [l0, l1, l2, l3, l4, .val (.int 4), l6, l7, l8, l9, l10, l11, l12, l13, l14, .val (.int w0), .val (.int w1), .val (.int w2), .val (.int w3), .val (.int 0), .val (.int 1), .val (.int 0), .val (.int 0), .unset, .unset, .unset, .unset, .unset, .unset, .unset], [], [], 0, 0)) OneI := by
  refine t0_158 hgo ?_
  refine t0_160t hgo (by decide) ?_
  refine t0_163 hgo ?_
  refine t0_165t hgo (by decide) ?_
  refine t0_172 hgo ?_
  refine t0_173 hgo ?_
  refine t0_175 hgo ?_
  refine t0_176t hgo (by decide) ?_
  refine t0_179 hgo ?_
  refine t0_181f hgo (by decide) ?_
  refine t0_184 hgo ?_
  refine t0_185 hgo ?_
  refine t0_189 hgo ?_
  refine t0_190 hgo ?_
  refine t0_192 hgo ?_
  refine t0_193t hgo (by decide) ?_
  refine t0_196 hgo ?_
  refine t0_198t hgo (by decide) ?_
  refine t0_205 hgo ?_
  refine t0_206 hgo ?_
  refine t0_207 hgo ?_
  refine t0_209 hgo ?_
  refine t0_210t hgo (by decide) ?_
  refine t0_213 hgo ?_
  refine t0_215t hgo (by decide) ?_
  refine t0_222 hgo ?_
  refine t0_223 hgo ?_
  refine t0_224 hgo rfl ?_
  refine t0_226 hgo ?_
  refine res_of (u0_228 hgo) ?_
  simp only [eq_self, and_self, true_and, and_true, not_true_eq_false, not_false_eq_true, if_true, if_false, reduceIte, Option.bind_some, List.getElem?_cons_zero, List.getElem?_cons_succ, Nat.reduceAdd, Nat.reduceSub, Nat.reduceLT, Nat.reduceLeDiff, Nat.le_refl, Nat.zero_add, Nat.add_zero, List.length_cons, List.length_nil, Int32.reduceLT, Int32.reduceToNatClampNeg, Int32.reduceAdd, Int32.reduceSub, Int32.reduceMul, decide_true, aArr, List.nil_append, List.cons_append, List.replicate_zero, List.replicate_succ, defaultValue]
  refine t0_230 hgo rfl rfl ?_
  refine t0_232 hgo ?_
  refine t0_234 hgo ?_
  refine t0_236 hgo ?_
  refine res_of (u0_237 hgo) ?_
  simp only [eq_self, and_self, true_and, and_true, not_true_eq_false, not_false_eq_true, if_true, if_false, reduceIte, Option.bind_some, List.getElem?_cons_zero, List.getElem?_cons_succ, Nat.reduceAdd, Nat.reduceSub, Nat.reduceLT, Nat.reduceLeDiff, Nat.le_refl, Nat.zero_add, Nat.add_zero, List.length_cons, List.length_nil, Int32.reduceLT, Int32.reduceToNatClampNeg, Int32.reduceAdd, Int32.reduceSub, Int32.reduceMul, decide_true, aArr, List.nil_append, List.cons_append, List.replicate_zero, List.replicate_succ, defaultValue]
  refine t0_239 hgo rfl rfl ?_
  refine t0_241 hgo ?_
  refine t0_242 hgo rfl ?_
  refine t0_244 hgo ?_
  refine t0_245 hgo rfl ?_
  refine t0_247 hgo ?_
  refine t0_249t hgo (by decide) ?_
  refine t0_252 hgo ?_
  refine t0_254t hgo (by decide) ?_
  refine t0_270 hgo rfl ?_
  refine t0_272 hgo ?_
  refine t0_274 hgo ?_
  refine res_of (u0_276 hgo) ?_
  simp only [eq_self, and_self, true_and, and_true, not_true_eq_false, not_false_eq_true, if_true, if_false, reduceIte, Option.bind_some, List.getElem?_cons_zero, List.getElem?_cons_succ, Nat.reduceAdd, Nat.reduceSub, Nat.reduceLT, Nat.reduceLeDiff, Nat.le_refl, Nat.zero_add, Nat.add_zero, List.length_cons, List.length_nil, Int32.reduceLT, Int32.reduceToNatClampNeg, Int32.reduceAdd, Int32.reduceSub, Int32.reduceMul, decide_true, ex_iastore, ast, astL, pI_int, pL_long, pR_ref, arr, isT, isBZ, nar, List.set_cons_zero, List.set_cons_succ]
  refine t0_277 hgo ?_
  refine t0_280 hgo ?_
  refine t0_282 hgo ?_
  refine t0_283t hgo (by decide) ?_
  refine t0_286 hgo ?_
  refine t0_288f hgo (by decide) ?_
  refine t0_291 hgo rfl ?_
  refine t0_293 hgo ?_
  refine t0_295 hgo ?_
  refine res_of (u0_297 hgo) ?_
  simp only [eq_self, and_self, true_and, and_true, not_true_eq_false, not_false_eq_true, if_true, if_false, reduceIte, Option.bind_some, List.getElem?_cons_zero, List.getElem?_cons_succ, Nat.reduceAdd, Nat.reduceSub, Nat.reduceLT, Nat.reduceLeDiff, Nat.le_refl, Nat.zero_add, Nat.add_zero, List.length_cons, List.length_nil, Int32.reduceLT, Int32.reduceToNatClampNeg, Int32.reduceAdd, Int32.reduceSub, Int32.reduceMul, decide_true, ex_iastore, ast, astL, pI_int, pL_long, pR_ref, arr, isT, isBZ, nar, List.set_cons_zero, List.set_cons_succ]
  refine t0_298 hgo ?_
  refine t0_301 hgo ?_
  refine t0_314 hgo ?_
  refine t0_316 hgo ?_
  refine t0_317t hgo (by decide) ?_
  refine t0_320 hgo ?_
  refine t0_322t hgo (by decide) ?_
  refine t0_338 hgo rfl ?_
  refine t0_340 hgo ?_
  refine t0_342 hgo ?_
  refine res_of (u0_344 hgo) ?_
  simp only [eq_self, and_self, true_and, and_true, not_true_eq_false, not_false_eq_true, if_true, if_false, reduceIte, Option.bind_some, List.getElem?_cons_zero, List.getElem?_cons_succ, Nat.reduceAdd, Nat.reduceSub, Nat.reduceLT, Nat.reduceLeDiff, Nat.le_refl, Nat.zero_add, Nat.add_zero, List.length_cons, List.length_nil, Int32.reduceLT, Int32.reduceToNatClampNeg, Int32.reduceAdd, Int32.reduceSub, Int32.reduceMul, decide_true, ex_iastore, ast, astL, pI_int, pL_long, pR_ref, arr, isT, isBZ, nar, List.set_cons_zero, List.set_cons_succ]
  refine t0_345 hgo ?_
  refine t0_348 hgo ?_
  refine t0_350 hgo ?_
  refine t0_351t hgo (by decide) ?_
  refine t0_354 hgo ?_
  refine t0_356t hgo (by decide) ?_
  refine t0_372 hgo rfl ?_
  refine t0_374 hgo ?_
  refine t0_376 hgo ?_
  refine res_of (u0_378 hgo) ?_
  simp only [eq_self, and_self, true_and, and_true, not_true_eq_false, not_false_eq_true, if_true, if_false, reduceIte, Option.bind_some, List.getElem?_cons_zero, List.getElem?_cons_succ, Nat.reduceAdd, Nat.reduceSub, Nat.reduceLT, Nat.reduceLeDiff, Nat.le_refl, Nat.zero_add, Nat.add_zero, List.length_cons, List.length_nil, Int32.reduceLT, Int32.reduceToNatClampNeg, Int32.reduceAdd, Int32.reduceSub, Int32.reduceMul, decide_true, ex_iastore, ast, astL, pI_int, pL_long, pR_ref, arr, isT, isBZ, nar, List.set_cons_zero, List.set_cons_succ]
  refine t0_379 hgo ?_
  refine t0_382 hgo rfl ?_
  refine t0_384 hgo rfl ?_
  refine res_of (u0_386 hgo) ?_
  simp only [eq_self, and_self, true_and, and_true, not_true_eq_false, not_false_eq_true, if_true, if_false, reduceIte, Option.bind_some, List.getElem?_cons_zero, List.getElem?_cons_succ, Nat.reduceAdd, Nat.reduceSub, Nat.reduceLT, Nat.reduceLeDiff, Nat.le_refl, Nat.zero_add, Nat.add_zero, List.length_cons, List.length_nil, Int32.reduceLT, Int32.reduceToNatClampNeg, Int32.reduceAdd, Int32.reduceSub, Int32.reduceMul, decide_true, aCall, aRecv, aObj, obj, List.take_succ_cons, List.take_zero, List.drop_succ_cons, List.drop_zero, List.reverse_cons, List.reverse_nil, List.nil_append, List.cons_append, List.append_nil, List.map_cons, List.map_nil, List.sum_cons, List.sum_nil, cat_int, cat_long, cat_ref, cat_null, Option.toList_some, Option.toList_none, mg_4_2 ho]
  refine t0_389 hgo rfl rfl ?_
  refine t0_391 hgo rfl ?_
  refine res_of (u0_393 hgo) ?_
  simp only [eq_self, and_self, true_and, and_true, not_true_eq_false, not_false_eq_true, if_true, if_false, reduceIte, Option.bind_some, List.getElem?_cons_zero, List.getElem?_cons_succ, Nat.reduceAdd, Nat.reduceSub, Nat.reduceLT, Nat.reduceLeDiff, Nat.le_refl, Nat.zero_add, Nat.add_zero, List.length_cons, List.length_nil, Int32.reduceLT, Int32.reduceToNatClampNeg, Int32.reduceAdd, Int32.reduceSub, Int32.reduceMul, decide_true, pR_ref, arr, ln0, ln1, ln2, ln3, ln4, ln5, ln6, ln7, ln8, ln9, ln10, ln11, ln12, ln13, ln14, ln15, ln16, ln17, ln18, ln19, ln20, ln21, ln22, ln23, ln24, ln25, ln26, ln27, ln28, ln29, ln30, ln31, ln32, ln33, ln34, ln35, ln36, mg_4_2 ho]
  refine t0_394 hgo ?_
  refine t0_396t hgo rfl ?_
  refine t0_401 hgo ?_
  refine t0_402 hgo rfl ?_
  refine t0_404 hgo ?_
  refine t0_406t hgo (by decide) ?_
  refine t0_409 hgo ?_
  refine t0_411f hgo (by decide) ?_
  refine t0_414 hgo rfl ?_
  refine t0_416 hgo ?_
  refine res_of (u0_417 hgo) ?_
  simp only [eq_self, and_self, true_and, and_true, not_true_eq_false, not_false_eq_true, if_true, if_false, reduceIte, Option.bind_some, List.getElem?_cons_zero, List.getElem?_cons_succ, Nat.reduceAdd, Nat.reduceSub, Nat.reduceLT, Nat.reduceLeDiff, Nat.le_refl, Nat.zero_add, Nat.add_zero, List.length_cons, List.length_nil, Int32.reduceLT, Int32.reduceToNatClampNeg, Int32.reduceAdd, Int32.reduceSub, Int32.reduceMul, decide_true, ex_iaload, ald, pI_int, pR_ref, arr, isT, isBZ, mg_4_2 ho]
  refine t0_418 hgo ?_
  refine t0_420t hgo rfl ?_
  refine t0_423 hgo ?_
  refine t0_424 hgo ?_
  refine t0_428 hgo rfl ?_
  refine t0_430 hgo ?_
  refine t0_432 hgo ?_
  refine t0_433t hgo (by decide) ?_
  refine t0_436 hgo ?_
  refine t0_438f hgo (by decide) ?_
  refine t0_441 hgo rfl ?_
  refine t0_443 hgo ?_
  refine res_of (u0_444 hgo) ?_
  simp only [eq_self, and_self, true_and, and_true, not_true_eq_false, not_false_eq_true, if_true, if_false, reduceIte, Option.bind_some, List.getElem?_cons_zero, List.getElem?_cons_succ, Nat.reduceAdd, Nat.reduceSub, Nat.reduceLT, Nat.reduceLeDiff, Nat.le_refl, Nat.zero_add, Nat.add_zero, List.length_cons, List.length_nil, Int32.reduceLT, Int32.reduceToNatClampNeg, Int32.reduceAdd, Int32.reduceSub, Int32.reduceMul, decide_true, ex_iaload, ald, pI_int, pR_ref, arr, isT, isBZ, mg_4_2 ho]
  refine t0_445 hgo ?_
  refine t0_447t hgo rfl ?_
  refine t0_450 hgo ?_
  refine t0_451 hgo ?_
  refine t0_455 hgo rfl ?_
  refine t0_457 hgo ?_
  refine t0_459 hgo ?_
  refine t0_460t hgo (by decide) ?_
  refine t0_463 hgo ?_
  refine t0_465f hgo (by decide) ?_
  refine t0_468 hgo rfl ?_
  refine t0_470 hgo ?_
  refine res_of (u0_471 hgo) ?_
  simp only [eq_self, and_self, true_and, and_true, not_true_eq_false, not_false_eq_true, if_true, if_false, reduceIte, Option.bind_some, List.getElem?_cons_zero, List.getElem?_cons_succ, Nat.reduceAdd, Nat.reduceSub, Nat.reduceLT, Nat.reduceLeDiff, Nat.le_refl, Nat.zero_add, Nat.add_zero, List.length_cons, List.length_nil, Int32.reduceLT, Int32.reduceToNatClampNeg, Int32.reduceAdd, Int32.reduceSub, Int32.reduceMul, decide_true, ex_iaload, ald, pI_int, pR_ref, arr, isT, isBZ, mg_4_2 ho]
  refine t0_472 hgo ?_
  refine t0_474t hgo rfl ?_
  refine t0_477 hgo ?_
  refine t0_478 hgo ?_
  refine t0_482 hgo rfl ?_
  refine t0_484 hgo ?_
  refine t0_486 hgo ?_
  refine t0_487t hgo (by decide) ?_
  refine t0_490 hgo ?_
  refine t0_492f hgo (by decide) ?_
  refine t0_495 hgo rfl ?_
  refine t0_497 hgo ?_
  refine res_of (u0_498 hgo) ?_
  simp only [eq_self, and_self, true_and, and_true, not_true_eq_false, not_false_eq_true, if_true, if_false, reduceIte, Option.bind_some, List.getElem?_cons_zero, List.getElem?_cons_succ, Nat.reduceAdd, Nat.reduceSub, Nat.reduceLT, Nat.reduceLeDiff, Nat.le_refl, Nat.zero_add, Nat.add_zero, List.length_cons, List.length_nil, Int32.reduceLT, Int32.reduceToNatClampNeg, Int32.reduceAdd, Int32.reduceSub, Int32.reduceMul, decide_true, ex_iaload, ald, pI_int, pR_ref, arr, isT, isBZ, mg_4_2 ho]
  refine t0_499 hgo ?_
  refine t0_501t hgo rfl ?_
  refine t0_504 hgo ?_
  refine t0_505 hgo ?_
  refine t0_509 hgo rfl ?_
  refine t0_511 hgo ?_
  refine t0_513 hgo ?_
  exact one_b
set_option maxRecDepth 65536 in
set_option maxHeartbeats 4000000 in
theorem tl_4_3 {go : Nat → St → Option ORes} (hgo : go = orun code ret E0 0) {l0 l1 l2 l3 l4 l6 l7 l8 l9 l10 l11 l12 l13 l14 : Slot} {w0 w1 w2 w3 : Int32} {m : Nat} (ho : w0 < w1 ∧ w1 < w2 ∧ w2 < w3) : Rsq (go (m + 250) (158, [l0, l1, l2, l3, l4, .val (.int 4), l6, l7, l8, l9, l10, l11, l12, l13, l14, .val (.int w0), .val (.int w1), .val (.int w2), .val (.int w3), .val (.int 1), .val (.int 1), .val (.int 0), .val (.int 0), .unset, .unset, .unset, .unset, .unset, .unset, .unset], [], [], 0, 0)) OneI := by
  refine t0_158 hgo ?_
  refine t0_160t hgo (by decide) ?_
  refine t0_163 hgo ?_
  refine t0_165f hgo (by decide) ?_
  refine t0_168 hgo ?_
  refine t0_169 hgo ?_
  refine t0_173 hgo ?_
  refine t0_175 hgo ?_
  refine t0_176t hgo (by decide) ?_
  refine t0_179 hgo ?_
  refine t0_181f hgo (by decide) ?_
  refine t0_184 hgo ?_
  refine t0_185 hgo ?_
  refine t0_189 hgo ?_
  refine t0_190 hgo ?_
  refine t0_192 hgo ?_
  refine t0_193t hgo (by decide) ?_
  refine t0_196 hgo ?_
  refine t0_198t hgo (by decide) ?_
  refine t0_205 hgo ?_
  refine t0_206 hgo ?_
  refine t0_207 hgo ?_
  refine t0_209 hgo ?_
  refine t0_210t hgo (by decide) ?_
  refine t0_213 hgo ?_
  refine t0_215t hgo (by decide) ?_
  refine t0_222 hgo ?_
  refine t0_223 hgo ?_
  refine t0_224 hgo rfl ?_
  refine t0_226 hgo ?_
  refine res_of (u0_228 hgo) ?_
  simp only [eq_self, and_self, true_and, and_true, not_true_eq_false, not_false_eq_true, if_true, if_false, reduceIte, Option.bind_some, List.getElem?_cons_zero, List.getElem?_cons_succ, Nat.reduceAdd, Nat.reduceSub, Nat.reduceLT, Nat.reduceLeDiff, Nat.le_refl, Nat.zero_add, Nat.add_zero, List.length_cons, List.length_nil, Int32.reduceLT, Int32.reduceToNatClampNeg, Int32.reduceAdd, Int32.reduceSub, Int32.reduceMul, decide_true, aArr, List.nil_append, List.cons_append, List.replicate_zero, List.replicate_succ, defaultValue]
  refine t0_230 hgo rfl rfl ?_
  refine t0_232 hgo ?_
  refine t0_234 hgo ?_
  refine t0_236 hgo ?_
  refine res_of (u0_237 hgo) ?_
  simp only [eq_self, and_self, true_and, and_true, not_true_eq_false, not_false_eq_true, if_true, if_false, reduceIte, Option.bind_some, List.getElem?_cons_zero, List.getElem?_cons_succ, Nat.reduceAdd, Nat.reduceSub, Nat.reduceLT, Nat.reduceLeDiff, Nat.le_refl, Nat.zero_add, Nat.add_zero, List.length_cons, List.length_nil, Int32.reduceLT, Int32.reduceToNatClampNeg, Int32.reduceAdd, Int32.reduceSub, Int32.reduceMul, decide_true, aArr, List.nil_append, List.cons_append, List.replicate_zero, List.replicate_succ, defaultValue]
  refine t0_239 hgo rfl rfl ?_
  refine t0_241 hgo ?_
  refine t0_242 hgo rfl ?_
  refine t0_244 hgo ?_
  refine t0_245 hgo rfl ?_
  refine t0_247 hgo ?_
  refine t0_249t hgo (by decide) ?_
  refine t0_252 hgo ?_
  refine t0_254f hgo (by decide) ?_
  refine t0_257 hgo rfl ?_
  refine t0_259 hgo ?_
  refine t0_261 hgo ?_
  refine res_of (u0_263 hgo) ?_
  simp only [eq_self, and_self, true_and, and_true, not_true_eq_false, not_false_eq_true, if_true, if_false, reduceIte, Option.bind_some, List.getElem?_cons_zero, List.getElem?_cons_succ, Nat.reduceAdd, Nat.reduceSub, Nat.reduceLT, Nat.reduceLeDiff, Nat.le_refl, Nat.zero_add, Nat.add_zero, List.length_cons, List.length_nil, Int32.reduceLT, Int32.reduceToNatClampNeg, Int32.reduceAdd, Int32.reduceSub, Int32.reduceMul, decide_true, ex_iastore, ast, astL, pI_int, pL_long, pR_ref, arr, isT, isBZ, nar, List.set_cons_zero, List.set_cons_succ]
  refine t0_264 hgo ?_
  refine t0_267 hgo ?_
  refine t0_280 hgo ?_
  refine t0_282 hgo ?_
  refine t0_283t hgo (by decide) ?_
  refine t0_286 hgo ?_
  refine t0_288f hgo (by decide) ?_
  refine t0_291 hgo rfl ?_
  refine t0_293 hgo ?_
  refine t0_295 hgo ?_
  refine res_of (u0_297 hgo) ?_
  simp only [eq_self, and_self, true_and, and_true, not_true_eq_false, not_false_eq_true, if_true, if_false, reduceIte, Option.bind_some, List.getElem?_cons_zero, List.getElem?_cons_succ, Nat.reduceAdd, Nat.reduceSub, Nat.reduceLT, Nat.reduceLeDiff, Nat.le_refl, Nat.zero_add, Nat.add_zero, List.length_cons, List.length_nil, Int32.reduceLT, Int32.reduceToNatClampNeg, Int32.reduceAdd, Int32.reduceSub, Int32.reduceMul, decide_true, ex_iastore, ast, astL, pI_int, pL_long, pR_ref, arr, isT, isBZ, nar, List.set_cons_zero, List.set_cons_succ]
  refine t0_298 hgo ?_
  refine t0_301 hgo ?_
  refine t0_314 hgo ?_
  refine t0_316 hgo ?_
  refine t0_317t hgo (by decide) ?_
  refine t0_320 hgo ?_
  refine t0_322t hgo (by decide) ?_
  refine t0_338 hgo rfl ?_
  refine t0_340 hgo ?_
  refine t0_342 hgo ?_
  refine res_of (u0_344 hgo) ?_
  simp only [eq_self, and_self, true_and, and_true, not_true_eq_false, not_false_eq_true, if_true, if_false, reduceIte, Option.bind_some, List.getElem?_cons_zero, List.getElem?_cons_succ, Nat.reduceAdd, Nat.reduceSub, Nat.reduceLT, Nat.reduceLeDiff, Nat.le_refl, Nat.zero_add, Nat.add_zero, List.length_cons, List.length_nil, Int32.reduceLT, Int32.reduceToNatClampNeg, Int32.reduceAdd, Int32.reduceSub, Int32.reduceMul, decide_true, ex_iastore, ast, astL, pI_int, pL_long, pR_ref, arr, isT, isBZ, nar, List.set_cons_zero, List.set_cons_succ]
  refine t0_345 hgo ?_
  refine t0_348 hgo ?_
  refine t0_350 hgo ?_
  refine t0_351t hgo (by decide) ?_
  refine t0_354 hgo ?_
  refine t0_356t hgo (by decide) ?_
  refine t0_372 hgo rfl ?_
  refine t0_374 hgo ?_
  refine t0_376 hgo ?_
  refine res_of (u0_378 hgo) ?_
  simp only [eq_self, and_self, true_and, and_true, not_true_eq_false, not_false_eq_true, if_true, if_false, reduceIte, Option.bind_some, List.getElem?_cons_zero, List.getElem?_cons_succ, Nat.reduceAdd, Nat.reduceSub, Nat.reduceLT, Nat.reduceLeDiff, Nat.le_refl, Nat.zero_add, Nat.add_zero, List.length_cons, List.length_nil, Int32.reduceLT, Int32.reduceToNatClampNeg, Int32.reduceAdd, Int32.reduceSub, Int32.reduceMul, decide_true, ex_iastore, ast, astL, pI_int, pL_long, pR_ref, arr, isT, isBZ, nar, List.set_cons_zero, List.set_cons_succ]
  refine t0_379 hgo ?_
  refine t0_382 hgo rfl ?_
  refine t0_384 hgo rfl ?_
  refine res_of (u0_386 hgo) ?_
  simp only [eq_self, and_self, true_and, and_true, not_true_eq_false, not_false_eq_true, if_true, if_false, reduceIte, Option.bind_some, List.getElem?_cons_zero, List.getElem?_cons_succ, Nat.reduceAdd, Nat.reduceSub, Nat.reduceLT, Nat.reduceLeDiff, Nat.le_refl, Nat.zero_add, Nat.add_zero, List.length_cons, List.length_nil, Int32.reduceLT, Int32.reduceToNatClampNeg, Int32.reduceAdd, Int32.reduceSub, Int32.reduceMul, decide_true, aCall, aRecv, aObj, obj, List.take_succ_cons, List.take_zero, List.drop_succ_cons, List.drop_zero, List.reverse_cons, List.reverse_nil, List.nil_append, List.cons_append, List.append_nil, List.map_cons, List.map_nil, List.sum_cons, List.sum_nil, cat_int, cat_long, cat_ref, cat_null, Option.toList_some, Option.toList_none, mg_4_3 ho]
  refine t0_389 hgo rfl rfl ?_
  refine t0_391 hgo rfl ?_
  refine res_of (u0_393 hgo) ?_
  simp only [eq_self, and_self, true_and, and_true, not_true_eq_false, not_false_eq_true, if_true, if_false, reduceIte, Option.bind_some, List.getElem?_cons_zero, List.getElem?_cons_succ, Nat.reduceAdd, Nat.reduceSub, Nat.reduceLT, Nat.reduceLeDiff, Nat.le_refl, Nat.zero_add, Nat.add_zero, List.length_cons, List.length_nil, Int32.reduceLT, Int32.reduceToNatClampNeg, Int32.reduceAdd, Int32.reduceSub, Int32.reduceMul, decide_true, pR_ref, arr, ln0, ln1, ln2, ln3, ln4, ln5, ln6, ln7, ln8, ln9, ln10, ln11, ln12, ln13, ln14, ln15, ln16, ln17, ln18, ln19, ln20, ln21, ln22, ln23, ln24, ln25, ln26, ln27, ln28, ln29, ln30, ln31, ln32, ln33, ln34, ln35, ln36, mg_4_3 ho]
  refine t0_394 hgo ?_
  refine t0_396t hgo rfl ?_
  refine t0_401 hgo ?_
  refine t0_402 hgo rfl ?_
  refine t0_404 hgo ?_
  refine t0_406t hgo (by decide) ?_
  refine t0_409 hgo ?_
  refine t0_411f hgo (by decide) ?_
  refine t0_414 hgo rfl ?_
  refine t0_416 hgo ?_
  refine res_of (u0_417 hgo) ?_
  simp only [eq_self, and_self, true_and, and_true, not_true_eq_false, not_false_eq_true, if_true, if_false, reduceIte, Option.bind_some, List.getElem?_cons_zero, List.getElem?_cons_succ, Nat.reduceAdd, Nat.reduceSub, Nat.reduceLT, Nat.reduceLeDiff, Nat.le_refl, Nat.zero_add, Nat.add_zero, List.length_cons, List.length_nil, Int32.reduceLT, Int32.reduceToNatClampNeg, Int32.reduceAdd, Int32.reduceSub, Int32.reduceMul, decide_true, ex_iaload, ald, pI_int, pR_ref, arr, isT, isBZ, mg_4_3 ho]
  refine t0_418 hgo ?_
  refine t0_420t hgo rfl ?_
  refine t0_423 hgo ?_
  refine t0_424 hgo ?_
  refine t0_428 hgo rfl ?_
  refine t0_430 hgo ?_
  refine t0_432 hgo ?_
  refine t0_433t hgo (by decide) ?_
  refine t0_436 hgo ?_
  refine t0_438f hgo (by decide) ?_
  refine t0_441 hgo rfl ?_
  refine t0_443 hgo ?_
  refine res_of (u0_444 hgo) ?_
  simp only [eq_self, and_self, true_and, and_true, not_true_eq_false, not_false_eq_true, if_true, if_false, reduceIte, Option.bind_some, List.getElem?_cons_zero, List.getElem?_cons_succ, Nat.reduceAdd, Nat.reduceSub, Nat.reduceLT, Nat.reduceLeDiff, Nat.le_refl, Nat.zero_add, Nat.add_zero, List.length_cons, List.length_nil, Int32.reduceLT, Int32.reduceToNatClampNeg, Int32.reduceAdd, Int32.reduceSub, Int32.reduceMul, decide_true, ex_iaload, ald, pI_int, pR_ref, arr, isT, isBZ, mg_4_3 ho]
  refine t0_445 hgo ?_
  refine t0_447t hgo rfl ?_
  refine t0_450 hgo ?_
  refine t0_451 hgo ?_
  refine t0_455 hgo rfl ?_
  refine t0_457 hgo ?_
  refine t0_459 hgo ?_
  refine t0_460t hgo (by decide) ?_
  refine t0_463 hgo ?_
  refine t0_465f hgo (by decide) ?_
  refine t0_468 hgo rfl ?_
  refine t0_470 hgo ?_
  refine res_of (u0_471 hgo) ?_
  simp only [eq_self, and_self, true_and, and_true, not_true_eq_false, not_false_eq_true, if_true, if_false, reduceIte, Option.bind_some, List.getElem?_cons_zero, List.getElem?_cons_succ, Nat.reduceAdd, Nat.reduceSub, Nat.reduceLT, Nat.reduceLeDiff, Nat.le_refl, Nat.zero_add, Nat.add_zero, List.length_cons, List.length_nil, Int32.reduceLT, Int32.reduceToNatClampNeg, Int32.reduceAdd, Int32.reduceSub, Int32.reduceMul, decide_true, ex_iaload, ald, pI_int, pR_ref, arr, isT, isBZ, mg_4_3 ho]
  refine t0_472 hgo ?_
  refine t0_474t hgo rfl ?_
  refine t0_477 hgo ?_
  refine t0_478 hgo ?_
  refine t0_482 hgo rfl ?_
  refine t0_484 hgo ?_
  refine t0_486 hgo ?_
  refine t0_487t hgo (by decide) ?_
  refine t0_490 hgo ?_
  refine t0_492f hgo (by decide) ?_
  refine t0_495 hgo rfl ?_
  refine t0_497 hgo ?_
  refine res_of (u0_498 hgo) ?_
  simp only [eq_self, and_self, true_and, and_true, not_true_eq_false, not_false_eq_true, if_true, if_false, reduceIte, Option.bind_some, List.getElem?_cons_zero, List.getElem?_cons_succ, Nat.reduceAdd, Nat.reduceSub, Nat.reduceLT, Nat.reduceLeDiff, Nat.le_refl, Nat.zero_add, Nat.add_zero, List.length_cons, List.length_nil, Int32.reduceLT, Int32.reduceToNatClampNeg, Int32.reduceAdd, Int32.reduceSub, Int32.reduceMul, decide_true, ex_iaload, ald, pI_int, pR_ref, arr, isT, isBZ, mg_4_3 ho]
  refine t0_499 hgo ?_
  refine t0_501t hgo rfl ?_
  refine t0_504 hgo ?_
  refine t0_505 hgo ?_
  refine t0_509 hgo rfl ?_
  refine t0_511 hgo ?_
  refine t0_513 hgo ?_
  exact one_b
set_option maxRecDepth 65536 in
set_option maxHeartbeats 4000000 in
theorem tl_4_4 {go : Nat → St → Option ORes} (hgo : go = orun code ret E0 0) {l0 l1 l2 l3 l4 l6 l7 l8 l9 l10 l11 l12 l13 l14 : Slot} {w0 w1 w2 w3 : Int32} {m : Nat} (ho : w0 < w1 ∧ w1 < w2 ∧ w2 < w3) : Rsq (go (m + 250) (158, [l0, l1, l2, l3, l4, .val (.int 4), l6, l7, l8, l9, l10, l11, l12, l13, l14, .val (.int w0), .val (.int w1), .val (.int w2), .val (.int w3), .val (.int 0), .val (.int 0), .val (.int 1), .val (.int 0), .unset, .unset, .unset, .unset, .unset, .unset, .unset], [], [], 0, 0)) OneI := by
  refine t0_158 hgo ?_
  refine t0_160t hgo (by decide) ?_
  refine t0_163 hgo ?_
  refine t0_165t hgo (by decide) ?_
  refine t0_172 hgo ?_
  refine t0_173 hgo ?_
  refine t0_175 hgo ?_
  refine t0_176t hgo (by decide) ?_
  refine t0_179 hgo ?_
  refine t0_181t hgo (by decide) ?_
  refine t0_188 hgo ?_
  refine t0_189 hgo ?_
  refine t0_190 hgo ?_
  refine t0_192 hgo ?_
  refine t0_193t hgo (by decide) ?_
  refine t0_196 hgo ?_
  refine t0_198f hgo (by decide) ?_
  refine t0_201 hgo ?_
  refine t0_202 hgo ?_
  refine t0_206 hgo ?_
  refine t0_207 hgo ?_
  refine t0_209 hgo ?_
  refine t0_210t hgo (by decide) ?_
  refine t0_213 hgo ?_
  refine t0_215t hgo (by decide) ?_
  refine t0_222 hgo ?_
  refine t0_223 hgo ?_
  refine t0_224 hgo rfl ?_
  refine t0_226 hgo ?_
  refine res_of (u0_228 hgo) ?_
  simp only [eq_self, and_self, true_and, and_true, not_true_eq_false, not_false_eq_true, if_true, if_false, reduceIte, Option.bind_some, List.getElem?_cons_zero, List.getElem?_cons_succ, Nat.reduceAdd, Nat.reduceSub, Nat.reduceLT, Nat.reduceLeDiff, Nat.le_refl, Nat.zero_add, Nat.add_zero, List.length_cons, List.length_nil, Int32.reduceLT, Int32.reduceToNatClampNeg, Int32.reduceAdd, Int32.reduceSub, Int32.reduceMul, decide_true, aArr, List.nil_append, List.cons_append, List.replicate_zero, List.replicate_succ, defaultValue]
  refine t0_230 hgo rfl rfl ?_
  refine t0_232 hgo ?_
  refine t0_234 hgo ?_
  refine t0_236 hgo ?_
  refine res_of (u0_237 hgo) ?_
  simp only [eq_self, and_self, true_and, and_true, not_true_eq_false, not_false_eq_true, if_true, if_false, reduceIte, Option.bind_some, List.getElem?_cons_zero, List.getElem?_cons_succ, Nat.reduceAdd, Nat.reduceSub, Nat.reduceLT, Nat.reduceLeDiff, Nat.le_refl, Nat.zero_add, Nat.add_zero, List.length_cons, List.length_nil, Int32.reduceLT, Int32.reduceToNatClampNeg, Int32.reduceAdd, Int32.reduceSub, Int32.reduceMul, decide_true, aArr, List.nil_append, List.cons_append, List.replicate_zero, List.replicate_succ, defaultValue]
  refine t0_239 hgo rfl rfl ?_
  refine t0_241 hgo ?_
  refine t0_242 hgo rfl ?_
  refine t0_244 hgo ?_
  refine t0_245 hgo rfl ?_
  refine t0_247 hgo ?_
  refine t0_249t hgo (by decide) ?_
  refine t0_252 hgo ?_
  refine t0_254t hgo (by decide) ?_
  refine t0_270 hgo rfl ?_
  refine t0_272 hgo ?_
  refine t0_274 hgo ?_
  refine res_of (u0_276 hgo) ?_
  simp only [eq_self, and_self, true_and, and_true, not_true_eq_false, not_false_eq_true, if_true, if_false, reduceIte, Option.bind_some, List.getElem?_cons_zero, List.getElem?_cons_succ, Nat.reduceAdd, Nat.reduceSub, Nat.reduceLT, Nat.reduceLeDiff, Nat.le_refl, Nat.zero_add, Nat.add_zero, List.length_cons, List.length_nil, Int32.reduceLT, Int32.reduceToNatClampNeg, Int32.reduceAdd, Int32.reduceSub, Int32.reduceMul, decide_true, ex_iastore, ast, astL, pI_int, pL_long, pR_ref, arr, isT, isBZ, nar, List.set_cons_zero, List.set_cons_succ]
  refine t0_277 hgo ?_
  refine t0_280 hgo ?_
  refine t0_282 hgo ?_
  refine t0_283t hgo (by decide) ?_
  refine t0_286 hgo ?_
  refine t0_288t hgo (by decide) ?_
  refine t0_304 hgo rfl ?_
  refine t0_306 hgo ?_
  refine t0_308 hgo ?_
  refine res_of (u0_310 hgo) ?_
  simp only [eq_self, and_self, true_and, and_true, not_true_eq_false, not_false_eq_true, if_true, if_false, reduceIte, Option.bind_some, List.getElem?_cons_zero, List.getElem?_cons_succ, Nat.reduceAdd, Nat.reduceSub, Nat.reduceLT, Nat.reduceLeDiff, Nat.le_refl, Nat.zero_add, Nat.add_zero, List.length_cons, List.length_nil, Int32.reduceLT, Int32.reduceToNatClampNeg, Int32.reduceAdd, Int32.reduceSub, Int32.reduceMul, decide_true, ex_iastore, ast, astL, pI_int, pL_long, pR_ref, arr, isT, isBZ, nar, List.set_cons_zero, List.set_cons_succ]
  refine t0_311 hgo ?_
  refine t0_314 hgo ?_
  refine t0_316 hgo ?_
  refine t0_317t hgo (by decide) ?_
  refine t0_320 hgo ?_
  refine t0_322f hgo (by decide) ?_
  refine t0_325 hgo rfl ?_
  refine t0_327 hgo ?_
  refine t0_329 hgo ?_
  refine res_of (u0_331 hgo) ?_
  simp only [eq_self, and_self, true_and, and_true, not_true_eq_false, not_false_eq_true, if_true, if_false, reduceIte, Option.bind_some, List.getElem?_cons_zero, List.getElem?_cons_succ, Nat.reduceAdd, Nat.reduceSub, Nat.reduceLT, Nat.reduceLeDiff, Nat.le_refl, Nat.zero_add, Nat.add_zero, List.length_cons, List.length_nil, Int32.reduceLT, Int32.reduceToNatClampNeg, Int32.reduceAdd, Int32.reduceSub, Int32.reduceMul, decide_true, ex_iastore, ast, astL, pI_int, pL_long, pR_ref, arr, isT, isBZ, nar, List.set_cons_zero, List.set_cons_succ]
  refine t0_332 hgo ?_
  refine t0_335 hgo ?_
  refine t0_348 hgo ?_
  refine t0_350 hgo ?_
  refine t0_351t hgo (by decide) ?_
  refine t0_354 hgo ?_
  refine t0_356t hgo (by decide) ?_
  refine t0_372 hgo rfl ?_
  refine t0_374 hgo ?_
  refine t0_376 hgo ?_
  refine res_of (u0_378 hgo) ?_
  simp only [eq_self, and_self, true_and, and_true, not_true_eq_false, not_false_eq_true, if_true, if_false, reduceIte, Option.bind_some, List.getElem?_cons_zero, List.getElem?_cons_succ, Nat.reduceAdd, Nat.reduceSub, Nat.reduceLT, Nat.reduceLeDiff, Nat.le_refl, Nat.zero_add, Nat.add_zero, List.length_cons, List.length_nil, Int32.reduceLT, Int32.reduceToNatClampNeg, Int32.reduceAdd, Int32.reduceSub, Int32.reduceMul, decide_true, ex_iastore, ast, astL, pI_int, pL_long, pR_ref, arr, isT, isBZ, nar, List.set_cons_zero, List.set_cons_succ]
  refine t0_379 hgo ?_
  refine t0_382 hgo rfl ?_
  refine t0_384 hgo rfl ?_
  refine res_of (u0_386 hgo) ?_
  simp only [eq_self, and_self, true_and, and_true, not_true_eq_false, not_false_eq_true, if_true, if_false, reduceIte, Option.bind_some, List.getElem?_cons_zero, List.getElem?_cons_succ, Nat.reduceAdd, Nat.reduceSub, Nat.reduceLT, Nat.reduceLeDiff, Nat.le_refl, Nat.zero_add, Nat.add_zero, List.length_cons, List.length_nil, Int32.reduceLT, Int32.reduceToNatClampNeg, Int32.reduceAdd, Int32.reduceSub, Int32.reduceMul, decide_true, aCall, aRecv, aObj, obj, List.take_succ_cons, List.take_zero, List.drop_succ_cons, List.drop_zero, List.reverse_cons, List.reverse_nil, List.nil_append, List.cons_append, List.append_nil, List.map_cons, List.map_nil, List.sum_cons, List.sum_nil, cat_int, cat_long, cat_ref, cat_null, Option.toList_some, Option.toList_none, mg_4_4 ho]
  refine t0_389 hgo rfl rfl ?_
  refine t0_391 hgo rfl ?_
  refine res_of (u0_393 hgo) ?_
  simp only [eq_self, and_self, true_and, and_true, not_true_eq_false, not_false_eq_true, if_true, if_false, reduceIte, Option.bind_some, List.getElem?_cons_zero, List.getElem?_cons_succ, Nat.reduceAdd, Nat.reduceSub, Nat.reduceLT, Nat.reduceLeDiff, Nat.le_refl, Nat.zero_add, Nat.add_zero, List.length_cons, List.length_nil, Int32.reduceLT, Int32.reduceToNatClampNeg, Int32.reduceAdd, Int32.reduceSub, Int32.reduceMul, decide_true, pR_ref, arr, ln0, ln1, ln2, ln3, ln4, ln5, ln6, ln7, ln8, ln9, ln10, ln11, ln12, ln13, ln14, ln15, ln16, ln17, ln18, ln19, ln20, ln21, ln22, ln23, ln24, ln25, ln26, ln27, ln28, ln29, ln30, ln31, ln32, ln33, ln34, ln35, ln36, mg_4_4 ho]
  refine t0_394 hgo ?_
  refine t0_396t hgo rfl ?_
  refine t0_401 hgo ?_
  refine t0_402 hgo rfl ?_
  refine t0_404 hgo ?_
  refine t0_406t hgo (by decide) ?_
  refine t0_409 hgo ?_
  refine t0_411f hgo (by decide) ?_
  refine t0_414 hgo rfl ?_
  refine t0_416 hgo ?_
  refine res_of (u0_417 hgo) ?_
  simp only [eq_self, and_self, true_and, and_true, not_true_eq_false, not_false_eq_true, if_true, if_false, reduceIte, Option.bind_some, List.getElem?_cons_zero, List.getElem?_cons_succ, Nat.reduceAdd, Nat.reduceSub, Nat.reduceLT, Nat.reduceLeDiff, Nat.le_refl, Nat.zero_add, Nat.add_zero, List.length_cons, List.length_nil, Int32.reduceLT, Int32.reduceToNatClampNeg, Int32.reduceAdd, Int32.reduceSub, Int32.reduceMul, decide_true, ex_iaload, ald, pI_int, pR_ref, arr, isT, isBZ, mg_4_4 ho]
  refine t0_418 hgo ?_
  refine t0_420t hgo rfl ?_
  refine t0_423 hgo ?_
  refine t0_424 hgo ?_
  refine t0_428 hgo rfl ?_
  refine t0_430 hgo ?_
  refine t0_432 hgo ?_
  refine t0_433t hgo (by decide) ?_
  refine t0_436 hgo ?_
  refine t0_438f hgo (by decide) ?_
  refine t0_441 hgo rfl ?_
  refine t0_443 hgo ?_
  refine res_of (u0_444 hgo) ?_
  simp only [eq_self, and_self, true_and, and_true, not_true_eq_false, not_false_eq_true, if_true, if_false, reduceIte, Option.bind_some, List.getElem?_cons_zero, List.getElem?_cons_succ, Nat.reduceAdd, Nat.reduceSub, Nat.reduceLT, Nat.reduceLeDiff, Nat.le_refl, Nat.zero_add, Nat.add_zero, List.length_cons, List.length_nil, Int32.reduceLT, Int32.reduceToNatClampNeg, Int32.reduceAdd, Int32.reduceSub, Int32.reduceMul, decide_true, ex_iaload, ald, pI_int, pR_ref, arr, isT, isBZ, mg_4_4 ho]
  refine t0_445 hgo ?_
  refine t0_447t hgo rfl ?_
  refine t0_450 hgo ?_
  refine t0_451 hgo ?_
  refine t0_455 hgo rfl ?_
  refine t0_457 hgo ?_
  refine t0_459 hgo ?_
  refine t0_460t hgo (by decide) ?_
  refine t0_463 hgo ?_
  refine t0_465f hgo (by decide) ?_
  refine t0_468 hgo rfl ?_
  refine t0_470 hgo ?_
  refine res_of (u0_471 hgo) ?_
  simp only [eq_self, and_self, true_and, and_true, not_true_eq_false, not_false_eq_true, if_true, if_false, reduceIte, Option.bind_some, List.getElem?_cons_zero, List.getElem?_cons_succ, Nat.reduceAdd, Nat.reduceSub, Nat.reduceLT, Nat.reduceLeDiff, Nat.le_refl, Nat.zero_add, Nat.add_zero, List.length_cons, List.length_nil, Int32.reduceLT, Int32.reduceToNatClampNeg, Int32.reduceAdd, Int32.reduceSub, Int32.reduceMul, decide_true, ex_iaload, ald, pI_int, pR_ref, arr, isT, isBZ, mg_4_4 ho]
  refine t0_472 hgo ?_
  refine t0_474t hgo rfl ?_
  refine t0_477 hgo ?_
  refine t0_478 hgo ?_
  refine t0_482 hgo rfl ?_
  refine t0_484 hgo ?_
  refine t0_486 hgo ?_
  refine t0_487t hgo (by decide) ?_
  refine t0_490 hgo ?_
  refine t0_492f hgo (by decide) ?_
  refine t0_495 hgo rfl ?_
  refine t0_497 hgo ?_
  refine res_of (u0_498 hgo) ?_
  simp only [eq_self, and_self, true_and, and_true, not_true_eq_false, not_false_eq_true, if_true, if_false, reduceIte, Option.bind_some, List.getElem?_cons_zero, List.getElem?_cons_succ, Nat.reduceAdd, Nat.reduceSub, Nat.reduceLT, Nat.reduceLeDiff, Nat.le_refl, Nat.zero_add, Nat.add_zero, List.length_cons, List.length_nil, Int32.reduceLT, Int32.reduceToNatClampNeg, Int32.reduceAdd, Int32.reduceSub, Int32.reduceMul, decide_true, ex_iaload, ald, pI_int, pR_ref, arr, isT, isBZ, mg_4_4 ho]
  refine t0_499 hgo ?_
  refine t0_501t hgo rfl ?_
  refine t0_504 hgo ?_
  refine t0_505 hgo ?_
  refine t0_509 hgo rfl ?_
  refine t0_511 hgo ?_
  refine t0_513 hgo ?_
  exact one_b
set_option maxRecDepth 65536 in
set_option maxHeartbeats 4000000 in
theorem tl_4_5 {go : Nat → St → Option ORes} (hgo : go = orun code ret E0 0) {l0 l1 l2 l3 l4 l6 l7 l8 l9 l10 l11 l12 l13 l14 : Slot} {w0 w1 w2 w3 : Int32} {m : Nat} (ho : w0 < w1 ∧ w1 < w2 ∧ w2 < w3) : Rsq (go (m + 250) (158, [l0, l1, l2, l3, l4, .val (.int 4), l6, l7, l8, l9, l10, l11, l12, l13, l14, .val (.int w0), .val (.int w1), .val (.int w2), .val (.int w3), .val (.int 1), .val (.int 0), .val (.int 1), .val (.int 0), .unset, .unset, .unset, .unset, .unset, .unset, .unset], [], [], 0, 0)) OneI := by
  refine t0_158 hgo ?_
  refine t0_160t hgo (by decide) ?_
  refine t0_163 hgo ?_
  refine t0_165f hgo (by decide) ?_
  refine t0_168 hgo ?_
  refine t0_169 hgo ?_
  refine t0_173 hgo ?_
  refine t0_175 hgo ?_
  refine t0_176t hgo (by decide) ?_
  refine t0_179 hgo ?_
  refine t0_181t hgo (by decide) ?_
  refine t0_188 hgo ?_
  refine t0_189 hgo ?_
  refine t0_190 hgo ?_
  refine t0_192 hgo ?_
  refine t0_193t hgo (by decide) ?_
  refine t0_196 hgo ?_
  refine t0_198f hgo (by decide) ?_
  refine t0_201 hgo ?_
  refine t0_202 hgo ?_
  refine t0_206 hgo ?_
  refine t0_207 hgo ?_
  refine t0_209 hgo ?_
  refine t0_210t hgo (by decide) ?_
  refine t0_213 hgo ?_
  refine t0_215t hgo (by decide) ?_
  refine t0_222 hgo ?_
  refine t0_223 hgo ?_
  refine t0_224 hgo rfl ?_
  refine t0_226 hgo ?_
  refine res_of (u0_228 hgo) ?_
  simp only [eq_self, and_self, true_and, and_true, not_true_eq_false, not_false_eq_true, if_true, if_false, reduceIte, Option.bind_some, List.getElem?_cons_zero, List.getElem?_cons_succ, Nat.reduceAdd, Nat.reduceSub, Nat.reduceLT, Nat.reduceLeDiff, Nat.le_refl, Nat.zero_add, Nat.add_zero, List.length_cons, List.length_nil, Int32.reduceLT, Int32.reduceToNatClampNeg, Int32.reduceAdd, Int32.reduceSub, Int32.reduceMul, decide_true, aArr, List.nil_append, List.cons_append, List.replicate_zero, List.replicate_succ, defaultValue]
  refine t0_230 hgo rfl rfl ?_
  refine t0_232 hgo ?_
  refine t0_234 hgo ?_
  refine t0_236 hgo ?_
  refine res_of (u0_237 hgo) ?_
  simp only [eq_self, and_self, true_and, and_true, not_true_eq_false, not_false_eq_true, if_true, if_false, reduceIte, Option.bind_some, List.getElem?_cons_zero, List.getElem?_cons_succ, Nat.reduceAdd, Nat.reduceSub, Nat.reduceLT, Nat.reduceLeDiff, Nat.le_refl, Nat.zero_add, Nat.add_zero, List.length_cons, List.length_nil, Int32.reduceLT, Int32.reduceToNatClampNeg, Int32.reduceAdd, Int32.reduceSub, Int32.reduceMul, decide_true, aArr, List.nil_append, List.cons_append, List.replicate_zero, List.replicate_succ, defaultValue]
  refine t0_239 hgo rfl rfl ?_
  refine t0_241 hgo ?_
  refine t0_242 hgo rfl ?_
  refine t0_244 hgo ?_
  refine t0_245 hgo rfl ?_
  refine t0_247 hgo ?_
  refine t0_249t hgo (by decide) ?_
  refine t0_252 hgo ?_
  refine t0_254f hgo (by decide) ?_
  refine t0_257 hgo rfl ?_
  refine t0_259 hgo ?_
  refine t0_261 hgo ?_
  refine res_of (u0_263 hgo) ?_
  simp only [eq_self, and_self, true_and, and_true, not_true_eq_false, not_false_eq_true, if_true, if_false, reduceIte, Option.bind_some, List.getElem?_cons_zero, List.getElem?_cons_succ, Nat.reduceAdd, Nat.reduceSub, Nat.reduceLT, Nat.reduceLeDiff, Nat.le_refl, Nat.zero_add, Nat.add_zero, List.length_cons, List.length_nil, Int32.reduceLT, Int32.reduceToNatClampNeg, Int32.reduceAdd, Int32.reduceSub, Int32.reduceMul, decide_true, ex_iastore, ast, astL, pI_int, pL_long, pR_ref, arr, isT, isBZ, nar, List.set_cons_zero, List.set_cons_succ]
  refine t0_264 hgo ?_
  refine t0_267 hgo ?_
  refine t0_280 hgo ?_
  refine t0_282 hgo ?_
  refine t0_283t hgo (by decide) ?_
  refine t0_286 hgo ?_
  refine t0_288t hgo (by decide) ?_
  refine t0_304 hgo rfl ?_
  refine t0_306 hgo ?_
  refine t0_308 hgo ?_
  refine res_of (u0_310 hgo) ?_
  simp only [eq_self, and_self, true_and, and_true, not_true_eq_false, not_false_eq_true, if_true, if_false, reduceIte, Option.bind_some, List.getElem?_cons_zero, List.getElem?_cons_succ, Nat.reduceAdd, Nat.reduceSub, Nat.reduceLT, Nat.reduceLeDiff, Nat.le_refl, Nat.zero_add, Nat.add_zero, List.length_cons, List.length_nil, Int32.reduceLT, Int32.reduceToNatClampNeg, Int32.reduceAdd, Int32.reduceSub, Int32.reduceMul, decide_true, ex_iastore, ast, astL, pI_int, pL_long, pR_ref, arr, isT, isBZ, nar, List.set_cons_zero, List.set_cons_succ]
  refine t0_311 hgo ?_
  refine t0_314 hgo ?_
  refine t0_316 hgo ?_
  refine t0_317t hgo (by decide) ?_
  refine t0_320 hgo ?_
  refine t0_322f hgo (by decide) ?_
  refine t0_325 hgo rfl ?_
  refine t0_327 hgo ?_
  refine t0_329 hgo ?_
  refine res_of (u0_331 hgo) ?_
  simp only [eq_self, and_self, true_and, and_true, not_true_eq_false, not_false_eq_true, if_true, if_false, reduceIte, Option.bind_some, List.getElem?_cons_zero, List.getElem?_cons_succ, Nat.reduceAdd, Nat.reduceSub, Nat.reduceLT, Nat.reduceLeDiff, Nat.le_refl, Nat.zero_add, Nat.add_zero, List.length_cons, List.length_nil, Int32.reduceLT, Int32.reduceToNatClampNeg, Int32.reduceAdd, Int32.reduceSub, Int32.reduceMul, decide_true, ex_iastore, ast, astL, pI_int, pL_long, pR_ref, arr, isT, isBZ, nar, List.set_cons_zero, List.set_cons_succ]
  refine t0_332 hgo ?_
  refine t0_335 hgo ?_
  refine t0_348 hgo ?_
  refine t0_350 hgo ?_
  refine t0_351t hgo (by decide) ?_
  refine t0_354 hgo ?_
  refine t0_356t hgo (by decide) ?_
  refine t0_372 hgo rfl ?_
  refine t0_374 hgo ?_
  refine t0_376 hgo ?_
  refine res_of (u0_378 hgo) ?_
  simp only [eq_self, and_self, true_and, and_true, not_true_eq_false, not_false_eq_true, if_true, if_false, reduceIte, Option.bind_some, List.getElem?_cons_zero, List.getElem?_cons_succ, Nat.reduceAdd, Nat.reduceSub, Nat.reduceLT, Nat.reduceLeDiff, Nat.le_refl, Nat.zero_add, Nat.add_zero, List.length_cons, List.length_nil, Int32.reduceLT, Int32.reduceToNatClampNeg, Int32.reduceAdd, Int32.reduceSub, Int32.reduceMul, decide_true, ex_iastore, ast, astL, pI_int, pL_long, pR_ref, arr, isT, isBZ, nar, List.set_cons_zero, List.set_cons_succ]
  refine t0_379 hgo ?_
  refine t0_382 hgo rfl ?_
  refine t0_384 hgo rfl ?_
  refine res_of (u0_386 hgo) ?_
  simp only [eq_self, and_self, true_and, and_true, not_true_eq_false, not_false_eq_true, if_true, if_false, reduceIte, Option.bind_some, List.getElem?_cons_zero, List.getElem?_cons_succ, Nat.reduceAdd, Nat.reduceSub, Nat.reduceLT, Nat.reduceLeDiff, Nat.le_refl, Nat.zero_add, Nat.add_zero, List.length_cons, List.length_nil, Int32.reduceLT, Int32.reduceToNatClampNeg, Int32.reduceAdd, Int32.reduceSub, Int32.reduceMul, decide_true, aCall, aRecv, aObj, obj, List.take_succ_cons, List.take_zero, List.drop_succ_cons, List.drop_zero, List.reverse_cons, List.reverse_nil, List.nil_append, List.cons_append, List.append_nil, List.map_cons, List.map_nil, List.sum_cons, List.sum_nil, cat_int, cat_long, cat_ref, cat_null, Option.toList_some, Option.toList_none, mg_4_5 ho]
  refine t0_389 hgo rfl rfl ?_
  refine t0_391 hgo rfl ?_
  refine res_of (u0_393 hgo) ?_
  simp only [eq_self, and_self, true_and, and_true, not_true_eq_false, not_false_eq_true, if_true, if_false, reduceIte, Option.bind_some, List.getElem?_cons_zero, List.getElem?_cons_succ, Nat.reduceAdd, Nat.reduceSub, Nat.reduceLT, Nat.reduceLeDiff, Nat.le_refl, Nat.zero_add, Nat.add_zero, List.length_cons, List.length_nil, Int32.reduceLT, Int32.reduceToNatClampNeg, Int32.reduceAdd, Int32.reduceSub, Int32.reduceMul, decide_true, pR_ref, arr, ln0, ln1, ln2, ln3, ln4, ln5, ln6, ln7, ln8, ln9, ln10, ln11, ln12, ln13, ln14, ln15, ln16, ln17, ln18, ln19, ln20, ln21, ln22, ln23, ln24, ln25, ln26, ln27, ln28, ln29, ln30, ln31, ln32, ln33, ln34, ln35, ln36, mg_4_5 ho]
  refine t0_394 hgo ?_
  refine t0_396t hgo rfl ?_
  refine t0_401 hgo ?_
  refine t0_402 hgo rfl ?_
  refine t0_404 hgo ?_
  refine t0_406t hgo (by decide) ?_
  refine t0_409 hgo ?_
  refine t0_411f hgo (by decide) ?_
  refine t0_414 hgo rfl ?_
  refine t0_416 hgo ?_
  refine res_of (u0_417 hgo) ?_
  simp only [eq_self, and_self, true_and, and_true, not_true_eq_false, not_false_eq_true, if_true, if_false, reduceIte, Option.bind_some, List.getElem?_cons_zero, List.getElem?_cons_succ, Nat.reduceAdd, Nat.reduceSub, Nat.reduceLT, Nat.reduceLeDiff, Nat.le_refl, Nat.zero_add, Nat.add_zero, List.length_cons, List.length_nil, Int32.reduceLT, Int32.reduceToNatClampNeg, Int32.reduceAdd, Int32.reduceSub, Int32.reduceMul, decide_true, ex_iaload, ald, pI_int, pR_ref, arr, isT, isBZ, mg_4_5 ho]
  refine t0_418 hgo ?_
  refine t0_420t hgo rfl ?_
  refine t0_423 hgo ?_
  refine t0_424 hgo ?_
  refine t0_428 hgo rfl ?_
  refine t0_430 hgo ?_
  refine t0_432 hgo ?_
  refine t0_433t hgo (by decide) ?_
  refine t0_436 hgo ?_
  refine t0_438f hgo (by decide) ?_
  refine t0_441 hgo rfl ?_
  refine t0_443 hgo ?_
  refine res_of (u0_444 hgo) ?_
  simp only [eq_self, and_self, true_and, and_true, not_true_eq_false, not_false_eq_true, if_true, if_false, reduceIte, Option.bind_some, List.getElem?_cons_zero, List.getElem?_cons_succ, Nat.reduceAdd, Nat.reduceSub, Nat.reduceLT, Nat.reduceLeDiff, Nat.le_refl, Nat.zero_add, Nat.add_zero, List.length_cons, List.length_nil, Int32.reduceLT, Int32.reduceToNatClampNeg, Int32.reduceAdd, Int32.reduceSub, Int32.reduceMul, decide_true, ex_iaload, ald, pI_int, pR_ref, arr, isT, isBZ, mg_4_5 ho]
  refine t0_445 hgo ?_
  refine t0_447t hgo rfl ?_
  refine t0_450 hgo ?_
  refine t0_451 hgo ?_
  refine t0_455 hgo rfl ?_
  refine t0_457 hgo ?_
  refine t0_459 hgo ?_
  refine t0_460t hgo (by decide) ?_
  refine t0_463 hgo ?_
  refine t0_465f hgo (by decide) ?_
  refine t0_468 hgo rfl ?_
  refine t0_470 hgo ?_
  refine res_of (u0_471 hgo) ?_
  simp only [eq_self, and_self, true_and, and_true, not_true_eq_false, not_false_eq_true, if_true, if_false, reduceIte, Option.bind_some, List.getElem?_cons_zero, List.getElem?_cons_succ, Nat.reduceAdd, Nat.reduceSub, Nat.reduceLT, Nat.reduceLeDiff, Nat.le_refl, Nat.zero_add, Nat.add_zero, List.length_cons, List.length_nil, Int32.reduceLT, Int32.reduceToNatClampNeg, Int32.reduceAdd, Int32.reduceSub, Int32.reduceMul, decide_true, ex_iaload, ald, pI_int, pR_ref, arr, isT, isBZ, mg_4_5 ho]
  refine t0_472 hgo ?_
  refine t0_474t hgo rfl ?_
  refine t0_477 hgo ?_
  refine t0_478 hgo ?_
  refine t0_482 hgo rfl ?_
  refine t0_484 hgo ?_
  refine t0_486 hgo ?_
  refine t0_487t hgo (by decide) ?_
  refine t0_490 hgo ?_
  refine t0_492f hgo (by decide) ?_
  refine t0_495 hgo rfl ?_
  refine t0_497 hgo ?_
  refine res_of (u0_498 hgo) ?_
  simp only [eq_self, and_self, true_and, and_true, not_true_eq_false, not_false_eq_true, if_true, if_false, reduceIte, Option.bind_some, List.getElem?_cons_zero, List.getElem?_cons_succ, Nat.reduceAdd, Nat.reduceSub, Nat.reduceLT, Nat.reduceLeDiff, Nat.le_refl, Nat.zero_add, Nat.add_zero, List.length_cons, List.length_nil, Int32.reduceLT, Int32.reduceToNatClampNeg, Int32.reduceAdd, Int32.reduceSub, Int32.reduceMul, decide_true, ex_iaload, ald, pI_int, pR_ref, arr, isT, isBZ, mg_4_5 ho]
  refine t0_499 hgo ?_
  refine t0_501t hgo rfl ?_
  refine t0_504 hgo ?_
  refine t0_505 hgo ?_
  refine t0_509 hgo rfl ?_
  refine t0_511 hgo ?_
  refine t0_513 hgo ?_
  exact one_b
set_option maxRecDepth 65536 in
set_option maxHeartbeats 4000000 in
theorem tl_4_6 {go : Nat → St → Option ORes} (hgo : go = orun code ret E0 0) {l0 l1 l2 l3 l4 l6 l7 l8 l9 l10 l11 l12 l13 l14 : Slot} {w0 w1 w2 w3 : Int32} {m : Nat} (ho : w0 < w1 ∧ w1 < w2 ∧ w2 < w3) : Rsq (go (m + 250) (158, [l0, l1, l2, l3, l4, .val (.int 4), l6, l7, l8, l9, l10, l11, l12, l13, l14, .val (.int w0), .val (.int w1), .val (.int w2), .val (.int w3), .val (.int 0), .val (.int 1), .val (.int 1), .val (.int 0), .unset, .unset, .unset, .unset, .unset, .unset, .unset], [], [], 0, 0)) OneI := by
  refine t0_158 hgo ?_
  refine t0_160t hgo (by decide) ?_
  refine t0_163 hgo ?_
  refine t0_165t hgo (by decide) ?_
  refine t0_172 hgo ?_
  refine t0_173 hgo ?_
  refine t0_175 hgo ?_
  refine t0_176t hgo (by decide) ?_
  refine t0_179 hgo ?_
  refine t0_181f hgo (by decide) ?_
  refine t0_184 hgo ?_
  refine t0_185 hgo ?_
  refine t0_189 hgo ?_
  refine t0_190 hgo ?_
  refine t0_192 hgo ?_
  refine t0_193t hgo (by decide) ?_
  refine t0_196 hgo ?_
  refine t0_198f hgo (by decide) ?_
  refine t0_201 hgo ?_
  refine t0_202 hgo ?_
  refine t0_206 hgo ?_
  refine t0_207 hgo ?_
  refine t0_209 hgo ?_
  refine t0_210t hgo (by decide) ?_
  refine t0_213 hgo ?_
  refine t0_215t hgo (by decide) ?_
  refine t0_222 hgo ?_
  refine t0_223 hgo ?_
  refine t0_224 hgo rfl ?_
  refine t0_226 hgo ?_
  refine res_of (u0_228 hgo) ?_
  simp only [eq_self, and_self, true_and, and_true, not_true_eq_false, not_false_eq_true, if_true, if_false, reduceIte, Option.bind_some, List.getElem?_cons_zero, List.getElem?_cons_succ, Nat.reduceAdd, Nat.reduceSub, Nat.reduceLT, Nat.reduceLeDiff, Nat.le_refl, Nat.zero_add, Nat.add_zero, List.length_cons, List.length_nil, Int32.reduceLT, Int32.reduceToNatClampNeg, Int32.reduceAdd, Int32.reduceSub, Int32.reduceMul, decide_true, aArr, List.nil_append, List.cons_append, List.replicate_zero, List.replicate_succ, defaultValue]
  refine t0_230 hgo rfl rfl ?_
  refine t0_232 hgo ?_
  refine t0_234 hgo ?_
  refine t0_236 hgo ?_
  refine res_of (u0_237 hgo) ?_
  simp only [eq_self, and_self, true_and, and_true, not_true_eq_false, not_false_eq_true, if_true, if_false, reduceIte, Option.bind_some, List.getElem?_cons_zero, List.getElem?_cons_succ, Nat.reduceAdd, Nat.reduceSub, Nat.reduceLT, Nat.reduceLeDiff, Nat.le_refl, Nat.zero_add, Nat.add_zero, List.length_cons, List.length_nil, Int32.reduceLT, Int32.reduceToNatClampNeg, Int32.reduceAdd, Int32.reduceSub, Int32.reduceMul, decide_true, aArr, List.nil_append, List.cons_append, List.replicate_zero, List.replicate_succ, defaultValue]
  refine t0_239 hgo rfl rfl ?_
  refine t0_241 hgo ?_
  refine t0_242 hgo rfl ?_
  refine t0_244 hgo ?_
  refine t0_245 hgo rfl ?_
  refine t0_247 hgo ?_
  refine t0_249t hgo (by decide) ?_
  refine t0_252 hgo ?_
  refine t0_254t hgo (by decide) ?_
  refine t0_270 hgo rfl ?_
  refine t0_272 hgo ?_
  refine t0_274 hgo ?_
  refine res_of (u0_276 hgo) ?_
  simp only [eq_self, and_self, true_and, and_true, not_true_eq_false, not_false_eq_true, if_true, if_false, reduceIte, Option.bind_some, List.getElem?_cons_zero, List.getElem?_cons_succ, Nat.reduceAdd, Nat.reduceSub, Nat.reduceLT, Nat.reduceLeDiff, Nat.le_refl, Nat.zero_add, Nat.add_zero, List.length_cons, List.length_nil, Int32.reduceLT, Int32.reduceToNatClampNeg, Int32.reduceAdd, Int32.reduceSub, Int32.reduceMul, decide_true, ex_iastore, ast, astL, pI_int, pL_long, pR_ref, arr, isT, isBZ, nar, List.set_cons_zero, List.set_cons_succ]
  refine t0_277 hgo ?_
  refine t0_280 hgo ?_
  refine t0_282 hgo ?_
  refine t0_283t hgo (by decide) ?_
  refine t0_286 hgo ?_
  refine t0_288f hgo (by decide) ?_
  refine t0_291 hgo rfl ?_
  refine t0_293 hgo ?_
  refine t0_295 hgo ?_
  refine res_of (u0_297 hgo) ?_
  simp only [eq_self, and_self, true_and, and_true, not_true_eq_false, not_false_eq_true, if_true, if_false, reduceIte, Option.bind_some, List.getElem?_cons_zero, List.getElem?_cons_succ, Nat.reduceAdd, Nat.reduceSub, Nat.reduceLT, Nat.reduceLeDiff, Nat.le_refl, Nat.zero_add, Nat.add_zero, List.length_cons, List.length_nil, Int32.reduceLT, Int32.reduceToNatClampNeg, Int32.reduceAdd, Int32.reduceSub, Int32.reduceMul, decide_true, ex_iastore, ast, astL, pI_int, pL_long, pR_ref, arr, isT, isBZ, nar, List.set_cons_zero, List.set_cons_succ]
  refine t0_298 hgo ?_
  refine t0_301 hgo ?_
  refine t0_314 hgo ?_
  refine t0_316 hgo ?_
  refine t0_317t hgo (by decide) ?_
  refine t0_320 hgo ?_
  refine t0_322f hgo (by decide) ?_
  refine t0_325 hgo rfl ?_
  refine t0_327 hgo ?_
  refine t0_329 hgo ?_
  refine res_of (u0_331 hgo) ?_
  simp only [eq_self, and_self, true_and, and_true, not_true_eq_false, not_false_eq_true, if_true, if_false, reduceIte, Option.bind_some, List.getElem?_cons_zero, List.getElem?_cons_succ, Nat.reduceAdd, Nat.reduceSub, Nat.reduceLT, Nat.reduceLeDiff, Nat.le_refl, Nat.zero_add, Nat.add_zero, List.length_cons, List.length_nil, Int32.reduceLT, Int32.reduceToNatClampNeg, Int32.reduceAdd, Int32.reduceSub, Int32.reduceMul, decide_true, ex_iastore, ast, astL, pI_int, pL_long, pR_ref, arr, isT, isBZ, nar, List.set_cons_zero, List.set_cons_succ]
  refine t0_332 hgo ?_
  refine t0_335 hgo ?_
  refine t0_348 hgo ?_
  refine t0_350 hgo ?_
  refine t0_351t hgo (by decide) ?_
  refine t0_354 hgo ?_
  refine t0_356t hgo (by decide) ?_
  refine t0_372 hgo rfl ?_
  refine t0_374 hgo ?_
  refine t0_376 hgo ?_
  refine res_of (u0_378 hgo) ?_
  simp only [eq_self, and_self, true_and, and_true, not_true_eq_false, not_false_eq_true, if_true, if_false, reduceIte, Option.bind_some, List.getElem?_cons_zero, List.getElem?_cons_succ, Nat.reduceAdd, Nat.reduceSub, Nat.reduceLT, Nat.reduceLeDiff, Nat.le_refl, Nat.zero_add, Nat.add_zero, List.length_cons, List.length_nil, Int32.reduceLT, Int32.reduceToNatClampNeg, Int32.reduceAdd, Int32.reduceSub, Int32.reduceMul, decide_true, ex_iastore, ast, astL, pI_int, pL_long, pR_ref, arr, isT, isBZ, nar, List.set_cons_zero, List.set_cons_succ]
  refine t0_379 hgo ?_
  refine t0_382 hgo rfl ?_
  refine t0_384 hgo rfl ?_
  refine res_of (u0_386 hgo) ?_
  simp only [eq_self, and_self, true_and, and_true, not_true_eq_false, not_false_eq_true, if_true, if_false, reduceIte, Option.bind_some, List.getElem?_cons_zero, List.getElem?_cons_succ, Nat.reduceAdd, Nat.reduceSub, Nat.reduceLT, Nat.reduceLeDiff, Nat.le_refl, Nat.zero_add, Nat.add_zero, List.length_cons, List.length_nil, Int32.reduceLT, Int32.reduceToNatClampNeg, Int32.reduceAdd, Int32.reduceSub, Int32.reduceMul, decide_true, aCall, aRecv, aObj, obj, List.take_succ_cons, List.take_zero, List.drop_succ_cons, List.drop_zero, List.reverse_cons, List.reverse_nil, List.nil_append, List.cons_append, List.append_nil, List.map_cons, List.map_nil, List.sum_cons, List.sum_nil, cat_int, cat_long, cat_ref, cat_null, Option.toList_some, Option.toList_none, mg_4_6 ho]
  refine t0_389 hgo rfl rfl ?_
  refine t0_391 hgo rfl ?_
  refine res_of (u0_393 hgo) ?_
  simp only [eq_self, and_self, true_and, and_true, not_true_eq_false, not_false_eq_true, if_true, if_false, reduceIte, Option.bind_some, List.getElem?_cons_zero, List.getElem?_cons_succ, Nat.reduceAdd, Nat.reduceSub, Nat.reduceLT, Nat.reduceLeDiff, Nat.le_refl, Nat.zero_add, Nat.add_zero, List.length_cons, List.length_nil, Int32.reduceLT, Int32.reduceToNatClampNeg, Int32.reduceAdd, Int32.reduceSub, Int32.reduceMul, decide_true, pR_ref, arr, ln0, ln1, ln2, ln3, ln4, ln5, ln6, ln7, ln8, ln9, ln10, ln11, ln12, ln13, ln14, ln15, ln16, ln17, ln18, ln19, ln20, ln21, ln22, ln23, ln24, ln25, ln26, ln27, ln28, ln29, ln30, ln31, ln32, ln33, ln34, ln35, ln36, mg_4_6 ho]
  refine t0_394 hgo ?_
  refine t0_396t hgo rfl ?_
  refine t0_401 hgo ?_
  refine t0_402 hgo rfl ?_
  refine t0_404 hgo ?_
  refine t0_406t hgo (by decide) ?_
  refine t0_409 hgo ?_
  refine t0_411f hgo (by decide) ?_
  refine t0_414 hgo rfl ?_
  refine t0_416 hgo ?_
  refine res_of (u0_417 hgo) ?_
  simp only [eq_self, and_self, true_and, and_true, not_true_eq_false, not_false_eq_true, if_true, if_false, reduceIte, Option.bind_some, List.getElem?_cons_zero, List.getElem?_cons_succ, Nat.reduceAdd, Nat.reduceSub, Nat.reduceLT, Nat.reduceLeDiff, Nat.le_refl, Nat.zero_add, Nat.add_zero, List.length_cons, List.length_nil, Int32.reduceLT, Int32.reduceToNatClampNeg, Int32.reduceAdd, Int32.reduceSub, Int32.reduceMul, decide_true, ex_iaload, ald, pI_int, pR_ref, arr, isT, isBZ, mg_4_6 ho]
  refine t0_418 hgo ?_
  refine t0_420t hgo rfl ?_
  refine t0_423 hgo ?_
  refine t0_424 hgo ?_
  refine t0_428 hgo rfl ?_
  refine t0_430 hgo ?_
  refine t0_432 hgo ?_
  refine t0_433t hgo (by decide) ?_
  refine t0_436 hgo ?_
  refine t0_438f hgo (by decide) ?_
  refine t0_441 hgo rfl ?_
  refine t0_443 hgo ?_
  refine res_of (u0_444 hgo) ?_
  simp only [eq_self, and_self, true_and, and_true, not_true_eq_false, not_false_eq_true, if_true, if_false, reduceIte, Option.bind_some, List.getElem?_cons_zero, List.getElem?_cons_succ, Nat.reduceAdd, Nat.reduceSub, Nat.reduceLT, Nat.reduceLeDiff, Nat.le_refl, Nat.zero_add, Nat.add_zero, List.length_cons, List.length_nil, Int32.reduceLT, Int32.reduceToNatClampNeg, Int32.reduceAdd, Int32.reduceSub, Int32.reduceMul, decide_true, ex_iaload, ald, pI_int, pR_ref, arr, isT, isBZ, mg_4_6 ho]
  refine t0_445 hgo ?_
  refine t0_447t hgo rfl ?_
  refine t0_450 hgo ?_
  refine t0_451 hgo ?_
  refine t0_455 hgo rfl ?_
  refine t0_457 hgo ?_
  refine t0_459 hgo ?_
  refine t0_460t hgo (by decide) ?_
  refine t0_463 hgo ?_
  refine t0_465f hgo (by decide) ?_
  refine t0_468 hgo rfl ?_
  refine t0_470 hgo ?_
  refine res_of (u0_471 hgo) ?_
  simp only [eq_self, and_self, true_and, and_true, not_true_eq_false, not_false_eq_true, if_true, if_false, reduceIte, Option.bind_some, List.getElem?_cons_zero, List.getElem?_cons_succ, Nat.reduceAdd, Nat.reduceSub, Nat.reduceLT, Nat.reduceLeDiff, Nat.le_refl, Nat.zero_add, Nat.add_zero, List.length_cons, List.length_nil, Int32.reduceLT, Int32.reduceToNatClampNeg, Int32.reduceAdd, Int32.reduceSub, Int32.reduceMul, decide_true, ex_iaload, ald, pI_int, pR_ref, arr, isT, isBZ, mg_4_6 ho]
  refine t0_472 hgo ?_
  refine t0_474t hgo rfl ?_
  refine t0_477 hgo ?_
  refine t0_478 hgo ?_
  refine t0_482 hgo rfl ?_
  refine t0_484 hgo ?_
  refine t0_486 hgo ?_
  refine t0_487t hgo (by decide) ?_
  refine t0_490 hgo ?_
  refine t0_492f hgo (by decide) ?_
  refine t0_495 hgo rfl ?_
  refine t0_497 hgo ?_
  refine res_of (u0_498 hgo) ?_
  simp only [eq_self, and_self, true_and, and_true, not_true_eq_false, not_false_eq_true, if_true, if_false, reduceIte, Option.bind_some, List.getElem?_cons_zero, List.getElem?_cons_succ, Nat.reduceAdd, Nat.reduceSub, Nat.reduceLT, Nat.reduceLeDiff, Nat.le_refl, Nat.zero_add, Nat.add_zero, List.length_cons, List.length_nil, Int32.reduceLT, Int32.reduceToNatClampNeg, Int32.reduceAdd, Int32.reduceSub, Int32.reduceMul, decide_true, ex_iaload, ald, pI_int, pR_ref, arr, isT, isBZ, mg_4_6 ho]
  refine t0_499 hgo ?_
  refine t0_501t hgo rfl ?_
  refine t0_504 hgo ?_
  refine t0_505 hgo ?_
  refine t0_509 hgo rfl ?_
  refine t0_511 hgo ?_
  refine t0_513 hgo ?_
  exact one_b
set_option maxRecDepth 65536 in
set_option maxHeartbeats 4000000 in
theorem tl_4_7 {go : Nat → St → Option ORes} (hgo : go = orun code ret E0 0) {l0 l1 l2 l3 l4 l6 l7 l8 l9 l10 l11 l12 l13 l14 : Slot} {w0 w1 w2 w3 : Int32} {m : Nat} (ho : w0 < w1 ∧ w1 < w2 ∧ w2 < w3) : Rsq (go (m + 250) (158, [l0, l1, l2, l3, l4, .val (.int 4), l6, l7, l8, l9, l10, l11, l12, l13, l14, .val (.int w0), .val (.int w1), .val (.int w2), .val (.int w3), .val (.int 1), .val (.int 1), .val (.int 1), .val (.int 0), .unset, .unset, .unset, .unset, .unset, .unset, .unset], [], [], 0, 0)) OneI := by
  refine t0_158 hgo ?_
  refine t0_160t hgo (by decide) ?_
  refine t0_163 hgo ?_
  refine t0_165f hgo (by decide) ?_
  refine t0_168 hgo ?_
  refine t0_169 hgo ?_
  refine t0_173 hgo ?_
  refine t0_175 hgo ?_
  refine t0_176t hgo (by decide) ?_
  refine t0_179 hgo ?_
  refine t0_181f hgo (by decide) ?_
  refine t0_184 hgo ?_
  refine t0_185 hgo ?_
  refine t0_189 hgo ?_
  refine t0_190 hgo ?_
  refine t0_192 hgo ?_
  refine t0_193t hgo (by decide) ?_
  refine t0_196 hgo ?_
  refine t0_198f hgo (by decide) ?_
  refine t0_201 hgo ?_
  refine t0_202 hgo ?_
  refine t0_206 hgo ?_
  refine t0_207 hgo ?_
  refine t0_209 hgo ?_
  refine t0_210t hgo (by decide) ?_
  refine t0_213 hgo ?_
  refine t0_215t hgo (by decide) ?_
  refine t0_222 hgo ?_
  refine t0_223 hgo ?_
  refine t0_224 hgo rfl ?_
  refine t0_226 hgo ?_
  refine res_of (u0_228 hgo) ?_
  simp only [eq_self, and_self, true_and, and_true, not_true_eq_false, not_false_eq_true, if_true, if_false, reduceIte, Option.bind_some, List.getElem?_cons_zero, List.getElem?_cons_succ, Nat.reduceAdd, Nat.reduceSub, Nat.reduceLT, Nat.reduceLeDiff, Nat.le_refl, Nat.zero_add, Nat.add_zero, List.length_cons, List.length_nil, Int32.reduceLT, Int32.reduceToNatClampNeg, Int32.reduceAdd, Int32.reduceSub, Int32.reduceMul, decide_true, aArr, List.nil_append, List.cons_append, List.replicate_zero, List.replicate_succ, defaultValue]
  refine t0_230 hgo rfl rfl ?_
  refine t0_232 hgo ?_
  refine t0_234 hgo ?_
  refine t0_236 hgo ?_
  refine res_of (u0_237 hgo) ?_
  simp only [eq_self, and_self, true_and, and_true, not_true_eq_false, not_false_eq_true, if_true, if_false, reduceIte, Option.bind_some, List.getElem?_cons_zero, List.getElem?_cons_succ, Nat.reduceAdd, Nat.reduceSub, Nat.reduceLT, Nat.reduceLeDiff, Nat.le_refl, Nat.zero_add, Nat.add_zero, List.length_cons, List.length_nil, Int32.reduceLT, Int32.reduceToNatClampNeg, Int32.reduceAdd, Int32.reduceSub, Int32.reduceMul, decide_true, aArr, List.nil_append, List.cons_append, List.replicate_zero, List.replicate_succ, defaultValue]
  refine t0_239 hgo rfl rfl ?_
  refine t0_241 hgo ?_
  refine t0_242 hgo rfl ?_
  refine t0_244 hgo ?_
  refine t0_245 hgo rfl ?_
  refine t0_247 hgo ?_
  refine t0_249t hgo (by decide) ?_
  refine t0_252 hgo ?_
  refine t0_254f hgo (by decide) ?_
  refine t0_257 hgo rfl ?_
  refine t0_259 hgo ?_
  refine t0_261 hgo ?_
  refine res_of (u0_263 hgo) ?_
  simp only [eq_self, and_self, true_and, and_true, not_true_eq_false, not_false_eq_true, if_true, if_false, reduceIte, Option.bind_some, List.getElem?_cons_zero, List.getElem?_cons_succ, Nat.reduceAdd, Nat.reduceSub, Nat.reduceLT, Nat.reduceLeDiff, Nat.le_refl, Nat.zero_add, Nat.add_zero, List.length_cons, List.length_nil, Int32.reduceLT, Int32.reduceToNatClampNeg, Int32.reduceAdd, Int32.reduceSub, Int32.reduceMul, decide_true, ex_iastore, ast, astL, pI_int, pL_long, pR_ref, arr, isT, isBZ, nar, List.set_cons_zero, List.set_cons_succ]
  refine t0_264 hgo ?_
  refine t0_267 hgo ?_
  refine t0_280 hgo ?_
  refine t0_282 hgo ?_
  refine t0_283t hgo (by decide) ?_
  refine t0_286 hgo ?_
  refine t0_288f hgo (by decide) ?_
  refine t0_291 hgo rfl ?_
  refine t0_293 hgo ?_
  refine t0_295 hgo ?_
  refine res_of (u0_297 hgo) ?_
  simp only [eq_self, and_self, true_and, and_true, not_true_eq_false, not_false_eq_true, if_true, if_false, reduceIte, Option.bind_some, List.getElem?_cons_zero, List.getElem?_cons_succ, Nat.reduceAdd, Nat.reduceSub, Nat.reduceLT, Nat.reduceLeDiff, Nat.le_refl, Nat.zero_add, Nat.add_zero, List.length_cons, List.length_nil, Int32.reduceLT, Int32.reduceToNatClampNeg, Int32.reduceAdd, Int32.reduceSub, Int32.reduceMul, decide_true, ex_iastore, ast, astL, pI_int, pL_long, pR_ref, arr, isT, isBZ, nar, List.set_cons_zero, List.set_cons_succ]
  refine t0_298 hgo ?_
  refine t0_301 hgo ?_
  refine t0_314 hgo ?_
  refine t0_316 hgo ?_
  refine t0_317t hgo (by decide) ?_
  refine t0_320 hgo ?_
  refine t0_322f hgo (by decide) ?_
  refine t0_325 hgo rfl ?_
  refine t0_327 hgo ?_
  refine t0_329 hgo ?_
  refine res_of (u0_331 hgo) ?_
  simp only [eq_self, and_self, true_and, and_true, not_true_eq_false, not_false_eq_true, if_true, if_false, reduceIte, Option.bind_some, List.getElem?_cons_zero, List.getElem?_cons_succ, Nat.reduceAdd, Nat.reduceSub, Nat.reduceLT, Nat.reduceLeDiff, Nat.le_refl, Nat.zero_add, Nat.add_zero, List.length_cons, List.length_nil, Int32.reduceLT, Int32.reduceToNatClampNeg, Int32.reduceAdd, Int32.reduceSub, Int32.reduceMul, decide_true, ex_iastore, ast, astL, pI_int, pL_long, pR_ref, arr, isT, isBZ, nar, List.set_cons_zero, List.set_cons_succ]
  refine t0_332 hgo ?_
  refine t0_335 hgo ?_
  refine t0_348 hgo ?_
  refine t0_350 hgo ?_
  refine t0_351t hgo (by decide) ?_
  refine t0_354 hgo ?_
  refine t0_356t hgo (by decide) ?_
  refine t0_372 hgo rfl ?_
  refine t0_374 hgo ?_
  refine t0_376 hgo ?_
  refine res_of (u0_378 hgo) ?_
  simp only [eq_self, and_self, true_and, and_true, not_true_eq_false, not_false_eq_true, if_true, if_false, reduceIte, Option.bind_some, List.getElem?_cons_zero, List.getElem?_cons_succ, Nat.reduceAdd, Nat.reduceSub, Nat.reduceLT, Nat.reduceLeDiff, Nat.le_refl, Nat.zero_add, Nat.add_zero, List.length_cons, List.length_nil, Int32.reduceLT, Int32.reduceToNatClampNeg, Int32.reduceAdd, Int32.reduceSub, Int32.reduceMul, decide_true, ex_iastore, ast, astL, pI_int, pL_long, pR_ref, arr, isT, isBZ, nar, List.set_cons_zero, List.set_cons_succ]
  refine t0_379 hgo ?_
  refine t0_382 hgo rfl ?_
  refine t0_384 hgo rfl ?_
  refine res_of (u0_386 hgo) ?_
  simp only [eq_self, and_self, true_and, and_true, not_true_eq_false, not_false_eq_true, if_true, if_false, reduceIte, Option.bind_some, List.getElem?_cons_zero, List.getElem?_cons_succ, Nat.reduceAdd, Nat.reduceSub, Nat.reduceLT, Nat.reduceLeDiff, Nat.le_refl, Nat.zero_add, Nat.add_zero, List.length_cons, List.length_nil, Int32.reduceLT, Int32.reduceToNatClampNeg, Int32.reduceAdd, Int32.reduceSub, Int32.reduceMul, decide_true, aCall, aRecv, aObj, obj, List.take_succ_cons, List.take_zero, List.drop_succ_cons, List.drop_zero, List.reverse_cons, List.reverse_nil, List.nil_append, List.cons_append, List.append_nil, List.map_cons, List.map_nil, List.sum_cons, List.sum_nil, cat_int, cat_long, cat_ref, cat_null, Option.toList_some, Option.toList_none, mg_4_7 ho]
  refine t0_389 hgo rfl rfl ?_
  refine t0_391 hgo rfl ?_
  refine res_of (u0_393 hgo) ?_
  simp only [eq_self, and_self, true_and, and_true, not_true_eq_false, not_false_eq_true, if_true, if_false, reduceIte, Option.bind_some, List.getElem?_cons_zero, List.getElem?_cons_succ, Nat.reduceAdd, Nat.reduceSub, Nat.reduceLT, Nat.reduceLeDiff, Nat.le_refl, Nat.zero_add, Nat.add_zero, List.length_cons, List.length_nil, Int32.reduceLT, Int32.reduceToNatClampNeg, Int32.reduceAdd, Int32.reduceSub, Int32.reduceMul, decide_true, pR_ref, arr, ln0, ln1, ln2, ln3, ln4, ln5, ln6, ln7, ln8, ln9, ln10, ln11, ln12, ln13, ln14, ln15, ln16, ln17, ln18, ln19, ln20, ln21, ln22, ln23, ln24, ln25, ln26, ln27, ln28, ln29, ln30, ln31, ln32, ln33, ln34, ln35, ln36, mg_4_7 ho]
  refine t0_394 hgo ?_
  refine t0_396t hgo rfl ?_
  refine t0_401 hgo ?_
  refine t0_402 hgo rfl ?_
  refine t0_404 hgo ?_
  refine t0_406t hgo (by decide) ?_
  refine t0_409 hgo ?_
  refine t0_411f hgo (by decide) ?_
  refine t0_414 hgo rfl ?_
  refine t0_416 hgo ?_
  refine res_of (u0_417 hgo) ?_
  simp only [eq_self, and_self, true_and, and_true, not_true_eq_false, not_false_eq_true, if_true, if_false, reduceIte, Option.bind_some, List.getElem?_cons_zero, List.getElem?_cons_succ, Nat.reduceAdd, Nat.reduceSub, Nat.reduceLT, Nat.reduceLeDiff, Nat.le_refl, Nat.zero_add, Nat.add_zero, List.length_cons, List.length_nil, Int32.reduceLT, Int32.reduceToNatClampNeg, Int32.reduceAdd, Int32.reduceSub, Int32.reduceMul, decide_true, ex_iaload, ald, pI_int, pR_ref, arr, isT, isBZ, mg_4_7 ho]
  refine t0_418 hgo ?_
  refine t0_420t hgo rfl ?_
  refine t0_423 hgo ?_
  refine t0_424 hgo ?_
  refine t0_428 hgo rfl ?_
  refine t0_430 hgo ?_
  refine t0_432 hgo ?_
  refine t0_433t hgo (by decide) ?_
  refine t0_436 hgo ?_
  refine t0_438f hgo (by decide) ?_
  refine t0_441 hgo rfl ?_
  refine t0_443 hgo ?_
  refine res_of (u0_444 hgo) ?_
  simp only [eq_self, and_self, true_and, and_true, not_true_eq_false, not_false_eq_true, if_true, if_false, reduceIte, Option.bind_some, List.getElem?_cons_zero, List.getElem?_cons_succ, Nat.reduceAdd, Nat.reduceSub, Nat.reduceLT, Nat.reduceLeDiff, Nat.le_refl, Nat.zero_add, Nat.add_zero, List.length_cons, List.length_nil, Int32.reduceLT, Int32.reduceToNatClampNeg, Int32.reduceAdd, Int32.reduceSub, Int32.reduceMul, decide_true, ex_iaload, ald, pI_int, pR_ref, arr, isT, isBZ, mg_4_7 ho]
  refine t0_445 hgo ?_
  refine t0_447t hgo rfl ?_
  refine t0_450 hgo ?_
  refine t0_451 hgo ?_
  refine t0_455 hgo rfl ?_
  refine t0_457 hgo ?_
  refine t0_459 hgo ?_
  refine t0_460t hgo (by decide) ?_
  refine t0_463 hgo ?_
  refine t0_465f hgo (by decide) ?_
  refine t0_468 hgo rfl ?_
  refine t0_470 hgo ?_
  refine res_of (u0_471 hgo) ?_
  simp only [eq_self, and_self, true_and, and_true, not_true_eq_false, not_false_eq_true, if_true, if_false, reduceIte, Option.bind_some, List.getElem?_cons_zero, List.getElem?_cons_succ, Nat.reduceAdd, Nat.reduceSub, Nat.reduceLT, Nat.reduceLeDiff, Nat.le_refl, Nat.zero_add, Nat.add_zero, List.length_cons, List.length_nil, Int32.reduceLT, Int32.reduceToNatClampNeg, Int32.reduceAdd, Int32.reduceSub, Int32.reduceMul, decide_true, ex_iaload, ald, pI_int, pR_ref, arr, isT, isBZ, mg_4_7 ho]
  refine t0_472 hgo ?_
  refine t0_474t hgo rfl ?_
  refine t0_477 hgo ?_
  refine t0_478 hgo ?_
  refine t0_482 hgo rfl ?_
  refine t0_484 hgo ?_
  refine t0_486 hgo ?_
  refine t0_487t hgo (by decide) ?_
  refine t0_490 hgo ?_
  refine t0_492f hgo (by decide) ?_
  refine t0_495 hgo rfl ?_
  refine t0_497 hgo ?_
  refine res_of (u0_498 hgo) ?_
  simp only [eq_self, and_self, true_and, and_true, not_true_eq_false, not_false_eq_true, if_true, if_false, reduceIte, Option.bind_some, List.getElem?_cons_zero, List.getElem?_cons_succ, Nat.reduceAdd, Nat.reduceSub, Nat.reduceLT, Nat.reduceLeDiff, Nat.le_refl, Nat.zero_add, Nat.add_zero, List.length_cons, List.length_nil, Int32.reduceLT, Int32.reduceToNatClampNeg, Int32.reduceAdd, Int32.reduceSub, Int32.reduceMul, decide_true, ex_iaload, ald, pI_int, pR_ref, arr, isT, isBZ, mg_4_7 ho]
  refine t0_499 hgo ?_
  refine t0_501t hgo rfl ?_
  refine t0_504 hgo ?_
  refine t0_505 hgo ?_
  refine t0_509 hgo rfl ?_
  refine t0_511 hgo ?_
  refine t0_513 hgo ?_
  exact one_b
set_option maxRecDepth 65536 in
set_option maxHeartbeats 4000000 in
theorem tl_4_8 {go : Nat → St → Option ORes} (hgo : go = orun code ret E0 0) {l0 l1 l2 l3 l4 l6 l7 l8 l9 l10 l11 l12 l13 l14 : Slot} {w0 w1 w2 w3 : Int32} {m : Nat} (ho : w0 < w1 ∧ w1 < w2 ∧ w2 < w3) : Rsq (go (m + 250) (158, [l0, l1, l2, l3, l4, .val (.int 4), l6, l7, l8, l9, l10, l11, l12, l13, l14, .val (.int w0), .val (.int w1), .val (.int w2), .val (.int w3), .val (.int 0), .val (.int 0), .val (.int 0), .val (.int 1), .unset, .unset, .unset, .unset, .unset, .unset, .unset], [], [], 0, 0)) OneI := by
  refine t0_158 hgo ?_
  refine t0_160t hgo (by decide) ?_
  refine t0_163 hgo ?_
  refine t0_165t hgo (by decide) ?_
  refine t0_172 hgo ?_
  refine t0_173 hgo ?_
  refine t0_175 hgo ?_
  refine t0_176t hgo (by decide) ?_
  refine t0_179 hgo ?_
  refine t0_181t hgo (by decide) ?_
  refine t0_188 hgo ?_
  refine t0_189 hgo ?_
  refine t0_190 hgo ?_
  refine t0_192 hgo ?_
  refine t0_193t hgo (by decide) ?_
  refine t0_196 hgo ?_
  refine t0_198t hgo (by decide) ?_
  refine t0_205 hgo ?_
  refine t0_206 hgo ?_
  refine t0_207 hgo ?_
  refine t0_209 hgo ?_
  refine t0_210t hgo (by decide) ?_
  refine t0_213 hgo ?_
  refine t0_215f hgo (by decide) ?_
  refine t0_218 hgo ?_
  refine t0_219 hgo ?_
  refine t0_223 hgo ?_
  refine t0_224 hgo rfl ?_
  refine t0_226 hgo ?_
  refine res_of (u0_228 hgo) ?_
  simp only [eq_self, and_self, true_and, and_true, not_true_eq_false, not_false_eq_true, if_true, if_false, reduceIte, Option.bind_some, List.getElem?_cons_zero, List.getElem?_cons_succ, Nat.reduceAdd, Nat.reduceSub, Nat.reduceLT, Nat.reduceLeDiff, Nat.le_refl, Nat.zero_add, Nat.add_zero, List.length_cons, List.length_nil, Int32.reduceLT, Int32.reduceToNatClampNeg, Int32.reduceAdd, Int32.reduceSub, Int32.reduceMul, decide_true, aArr, List.nil_append, List.cons_append, List.replicate_zero, List.replicate_succ, defaultValue]
  refine t0_230 hgo rfl rfl ?_
  refine t0_232 hgo ?_
  refine t0_234 hgo ?_
  refine t0_236 hgo ?_
  refine res_of (u0_237 hgo) ?_
  simp only [eq_self, and_self, true_and, and_true, not_true_eq_false, not_false_eq_true, if_true, if_false, reduceIte, Option.bind_some, List.getElem?_cons_zero, List.getElem?_cons_succ, Nat.reduceAdd, Nat.reduceSub, Nat.reduceLT, Nat.reduceLeDiff, Nat.le_refl, Nat.zero_add, Nat.add_zero, List.length_cons, List.length_nil, Int32.reduceLT, Int32.reduceToNatClampNeg, Int32.reduceAdd, Int32.reduceSub, Int32.reduceMul, decide_true, aArr, List.nil_append, List.cons_append, List.replicate_zero, List.replicate_succ, defaultValue]
  refine t0_239 hgo rfl rfl ?_
  refine t0_241 hgo ?_
  refine t0_242 hgo rfl ?_
  refine t0_244 hgo ?_
  refine t0_245 hgo rfl ?_
  refine t0_247 hgo ?_
  refine t0_249t hgo (by decide) ?_
  refine t0_252 hgo ?_
  refine t0_254t hgo (by decide) ?_
  refine t0_270 hgo rfl ?_
  refine t0_272 hgo ?_
  refine t0_274 hgo ?_
  refine res_of (u0_276 hgo) ?_
  simp only [eq_self, and_self, true_and, and_true, not_true_eq_false, not_false_eq_true, if_true, if_false, reduceIte, Option.bind_some, List.getElem?_cons_zero, List.getElem?_cons_succ, Nat.reduceAdd, Nat.reduceSub, Nat.reduceLT, Nat.reduceLeDiff, Nat.le_refl, Nat.zero_add, Nat.add_zero, List.length_cons, List.length_nil, Int32.reduceLT, Int32.reduceToNatClampNeg, Int32.reduceAdd, Int32.reduceSub, Int32.reduceMul, decide_true, ex_iastore, ast, astL, pI_int, pL_long, pR_ref, arr, isT, isBZ, nar, List.set_cons_zero, List.set_cons_succ]
  refine t0_277 hgo ?_
  refine t0_280 hgo ?_
  refine t0_282 hgo ?_
  refine t0_283t hgo (by decide) ?_
  refine t0_286 hgo ?_
  refine t0_288t hgo (by decide) ?_
  refine t0_304 hgo rfl ?_
  refine t0_306 hgo ?_
  refine t0_308 hgo ?_
  refine res_of (u0_310 hgo) ?_
  simp only [eq_self, and_self, true_and, and_true, not_true_eq_false, not_false_eq_true, if_true, if_false, reduceIte, Option.bind_some, List.getElem?_cons_zero, List.getElem?_cons_succ, Nat.reduceAdd, Nat.reduceSub, Nat.reduceLT, Nat.reduceLeDiff, Nat.le_refl, Nat.zero_add, Nat.add_zero, List.length_cons, List.length_nil, Int32.reduceLT, Int32.reduceToNatClampNeg, Int32.reduceAdd, Int32.reduceSub, Int32.reduceMul, decide_true, ex_iastore, ast, astL, pI_int, pL_long, pR_ref, arr, isT, isBZ, nar, List.set_cons_zero, List.set_cons_succ]
  refine t0_311 hgo ?_
  refine t0_314 hgo ?_
  refine t0_316 hgo ?_
  refine t0_317t hgo (by decide) ?_
  refine t0_320 hgo ?_
  refine t0_322t hgo (by decide) ?_
  refine t0_338 hgo rfl ?_
  refine t0_340 hgo ?_
  refine t0_342 hgo ?_
  refine res_of (u0_344 hgo) ?_
  simp only [eq_self, and_self, true_and, and_true, not_true_eq_false, not_false_eq_true, if_true, if_false, reduceIte, Option.bind_some, List.getElem?_cons_zero, List.getElem?_cons_succ, Nat.reduceAdd, Nat.reduceSub, Nat.reduceLT, Nat.reduceLeDiff, Nat.le_refl, Nat.zero_add, Nat.add_zero, List.length_cons, List.length_nil, Int32.reduceLT, Int32.reduceToNatClampNeg, Int32.reduceAdd, Int32.reduceSub, Int32.reduceMul, decide_true, ex_iastore, ast, astL, pI_int, pL_long, pR_ref, arr, isT, isBZ, nar, List.set_cons_zero, List.set_cons_succ]
  refine t0_345 hgo ?_
  refine t0_348 hgo ?_
  refine t0_350 hgo ?_
  refine t0_351t hgo (by decide) ?_
  refine t0_354 hgo ?_
  refine t0_356f hgo (by decide) ?_
  refine t0_359 hgo rfl ?_
  refine t0_361 hgo ?_
  refine t0_363 hgo ?_
  refine res_of (u0_365 hgo) ?_
  simp only [eq_self, and_self, true_and, and_true, not_true_eq_false, not_false_eq_true, if_true, if_false, reduceIte, Option.bind_some, List.getElem?_cons_zero, List.getElem?_cons_succ, Nat.reduceAdd, Nat.reduceSub, Nat.reduceLT, Nat.reduceLeDiff, Nat.le_refl, Nat.zero_add, Nat.add_zero, List.length_cons, List.length_nil, Int32.reduceLT, Int32.reduceToNatClampNeg, Int32.reduceAdd, Int32.reduceSub, Int32.reduceMul, decide_true, ex_iastore, ast, astL, pI_int, pL_long, pR_ref, arr, isT, isBZ, nar, List.set_cons_zero, List.set_cons_succ]
  refine t0_366 hgo ?_
  refine t0_369 hgo ?_
  refine t0_382 hgo rfl ?_
  refine t0_384 hgo rfl ?_
  refine res_of (u0_386 hgo) ?_
  simp only [eq_self, and_self, true_and, and_true, not_true_eq_false, not_false_eq_true, if_true, if_false, reduceIte, Option.bind_some, List.getElem?_cons_zero, List.getElem?_cons_succ, Nat.reduceAdd, Nat.reduceSub, Nat.reduceLT, Nat.reduceLeDiff, Nat.le_refl, Nat.zero_add, Nat.add_zero, List.length_cons, List.length_nil, Int32.reduceLT, Int32.reduceToNatClampNeg, Int32.reduceAdd, Int32.reduceSub, Int32.reduceMul, decide_true, aCall, aRecv, aObj, obj, List.take_succ_cons, List.take_zero, List.drop_succ_cons, List.drop_zero, List.reverse_cons, List.reverse_nil, List.nil_append, List.cons_append, List.append_nil, List.map_cons, List.map_nil, List.sum_cons, List.sum_nil, cat_int, cat_long, cat_ref, cat_null, Option.toList_some, Option.toList_none, mg_4_8 ho]
  refine t0_389 hgo rfl rfl ?_
  refine t0_391 hgo rfl ?_
  refine res_of (u0_393 hgo) ?_
  simp only [eq_self, and_self, true_and, and_true, not_true_eq_false, not_false_eq_true, if_true, if_false, reduceIte, Option.bind_some, List.getElem?_cons_zero, List.getElem?_cons_succ, Nat.reduceAdd, Nat.reduceSub, Nat.reduceLT, Nat.reduceLeDiff, Nat.le_refl, Nat.zero_add, Nat.add_zero, List.length_cons, List.length_nil, Int32.reduceLT, Int32.reduceToNatClampNeg, Int32.reduceAdd, Int32.reduceSub, Int32.reduceMul, decide_true, pR_ref, arr, ln0, ln1, ln2, ln3, ln4, ln5, ln6, ln7, ln8, ln9, ln10, ln11, ln12, ln13, ln14, ln15, ln16, ln17, ln18, ln19, ln20, ln21, ln22, ln23, ln24, ln25, ln26, ln27, ln28, ln29, ln30, ln31, ln32, ln33, ln34, ln35, ln36, mg_4_8 ho]
  refine t0_394 hgo ?_
  refine t0_396t hgo rfl ?_
  refine t0_401 hgo ?_
  refine t0_402 hgo rfl ?_
  refine t0_404 hgo ?_
  refine t0_406t hgo (by decide) ?_
  refine t0_409 hgo ?_
  refine t0_411f hgo (by decide) ?_
  refine t0_414 hgo rfl ?_
  refine t0_416 hgo ?_
  refine res_of (u0_417 hgo) ?_
  simp only [eq_self, and_self, true_and, and_true, not_true_eq_false, not_false_eq_true, if_true, if_false, reduceIte, Option.bind_some, List.getElem?_cons_zero, List.getElem?_cons_succ, Nat.reduceAdd, Nat.reduceSub, Nat.reduceLT, Nat.reduceLeDiff, Nat.le_refl, Nat.zero_add, Nat.add_zero, List.length_cons, List.length_nil, Int32.reduceLT, Int32.reduceToNatClampNeg, Int32.reduceAdd, Int32.reduceSub, Int32.reduceMul, decide_true, ex_iaload, ald, pI_int, pR_ref, arr, isT, isBZ, mg_4_8 ho]
  refine t0_418 hgo ?_
  refine t0_420t hgo rfl ?_
  refine t0_423 hgo ?_
  refine t0_424 hgo ?_
  refine t0_428 hgo rfl ?_
  refine t0_430 hgo ?_
  refine t0_432 hgo ?_
  refine t0_433t hgo (by decide) ?_
  refine t0_436 hgo ?_
  refine t0_438f hgo (by decide) ?_
  refine t0_441 hgo rfl ?_
  refine t0_443 hgo ?_
  refine res_of (u0_444 hgo) ?_
  simp only [eq_self, and_self, true_and, and_true, not_true_eq_false, not_false_eq_true, if_true, if_false, reduceIte, Option.bind_some, List.getElem?_cons_zero, List.getElem?_cons_succ, Nat.reduceAdd, Nat.reduceSub, Nat.reduceLT, Nat.reduceLeDiff, Nat.le_refl, Nat.zero_add, Nat.add_zero, List.length_cons, List.length_nil, Int32.reduceLT, Int32.reduceToNatClampNeg, Int32.reduceAdd, Int32.reduceSub, Int32.reduceMul, decide_true, ex_iaload, ald, pI_int, pR_ref, arr, isT, isBZ, mg_4_8 ho]
  refine t0_445 hgo ?_
  refine t0_447t hgo rfl ?_
  refine t0_450 hgo ?_
  refine t0_451 hgo ?_
  refine t0_455 hgo rfl ?_
  refine t0_457 hgo ?_
  refine t0_459 hgo ?_
  refine t0_460t hgo (by decide) ?_
  refine t0_463 hgo ?_
  refine t0_465f hgo (by decide) ?_
  refine t0_468 hgo rfl ?_
  refine t0_470 hgo ?_
  refine res_of (u0_471 hgo) ?_
  simp only [eq_self, and_self, true_and, and_true, not_true_eq_false, not_false_eq_true, if_true, if_false, reduceIte, Option.bind_some, List.getElem?_cons_zero, List.getElem?_cons_succ, Nat.reduceAdd, Nat.reduceSub, Nat.reduceLT, Nat.reduceLeDiff, Nat.le_refl, Nat.zero_add, Nat.add_zero, List.length_cons, List.length_nil, Int32.reduceLT, Int32.reduceToNatClampNeg, Int32.reduceAdd, Int32.reduceSub, Int32.reduceMul, decide_true, ex_iaload, ald, pI_int, pR_ref, arr, isT, isBZ, mg_4_8 ho]
  refine t0_472 hgo ?_
  refine t0_474t hgo rfl ?_
  refine t0_477 hgo ?_
  refine t0_478 hgo ?_
  refine t0_482 hgo rfl ?_
  refine t0_484 hgo ?_
  refine t0_486 hgo ?_
  refine t0_487t hgo (by decide) ?_
  refine t0_490 hgo ?_
  refine t0_492f hgo (by decide) ?_
  refine t0_495 hgo rfl ?_
  refine t0_497 hgo ?_
  refine res_of (u0_498 hgo) ?_
  simp only [eq_self, and_self, true_and, and_true, not_true_eq_false, not_false_eq_true, if_true, if_false, reduceIte, Option.bind_some, List.getElem?_cons_zero, List.getElem?_cons_succ, Nat.reduceAdd, Nat.reduceSub, Nat.reduceLT, Nat.reduceLeDiff, Nat.le_refl, Nat.zero_add, Nat.add_zero, List.length_cons, List.length_nil, Int32.reduceLT, Int32.reduceToNatClampNeg, Int32.reduceAdd, Int32.reduceSub, Int32.reduceMul, decide_true, ex_iaload, ald, pI_int, pR_ref, arr, isT, isBZ, mg_4_8 ho]
  refine t0_499 hgo ?_
  refine t0_501t hgo rfl ?_
  refine t0_504 hgo ?_
  refine t0_505 hgo ?_
  refine t0_509 hgo rfl ?_
  refine t0_511 hgo ?_
  refine t0_513 hgo ?_
  exact one_b
set_option maxRecDepth 65536 in
set_option maxHeartbeats 4000000 in
theorem tl_4_9 {go : Nat → St → Option ORes} (hgo : go = orun code ret E0 0) {l0 l1 l2 l3 l4 l6 l7 l8 l9 l10 l11 l12 l13 l14 : Slot} {w0 w1 w2 w3 : Int32} {m : Nat} (ho : w0 < w1 ∧ w1 < w2 ∧ w2 < w3) : Rsq (go (m + 250) (158, [l0, l1, l2, l3, l4, .val (.int 4), l6, l7, l8, l9, l10, l11, l12, l13, l14, .val (.int w0), .val (.int w1), .val (.int w2), .val (.int w3), .val (.int 1), .val (.int 0), .val (.int 0), .val (.int 1), .unset, .unset, .unset, .unset, .unset, .unset, .unset], [], [], 0, 0)) OneI := by
  refine t0_158 hgo ?_
  refine t0_160t hgo (by decide) ?_
  refine t0_163 hgo ?_
  refine t0_165f hgo (by decide) ?_
  refine t0_168 hgo ?_
  refine t0_169 hgo ?_
  refine t0_173 hgo ?_
  refine t0_175 hgo ?_
  refine t0_176t hgo (by decide) ?_
  refine t0_179 hgo ?_
  refine t0_181t hgo (by decide) ?_
  refine t0_188 hgo ?_
  refine t0_189 hgo ?_
  refine t0_190 hgo ?_
  refine t0_192 hgo ?_
  refine t0_193t hgo (by decide) ?_
  refine t0_196 hgo ?_
  refine t0_198t hgo (by decide) ?_
  refine t0_205 hgo ?_
  refine t0_206 hgo ?_
  refine t0_207 hgo ?_
  refine t0_209 hgo ?_
  refine t0_210t hgo (by decide) ?_
  refine t0_213 hgo ?_
  refine t0_215f hgo (by decide) ?_
  refine t0_218 hgo ?_
  refine t0_219 hgo ?_
  refine t0_223 hgo ?_
  refine t0_224 hgo rfl ?_
  refine t0_226 hgo ?_
  refine res_of (u0_228 hgo) ?_
  simp only [eq_self, and_self, true_and, and_true, not_true_eq_false, not_false_eq_true, if_true, if_false, reduceIte, Option.bind_some, List.getElem?_cons_zero, List.getElem?_cons_succ, Nat.reduceAdd, Nat.reduceSub, Nat.reduceLT, Nat.reduceLeDiff, Nat.le_refl, Nat.zero_add, Nat.add_zero, List.length_cons, List.length_nil, Int32.reduceLT, Int32.reduceToNatClampNeg, Int32.reduceAdd, Int32.reduceSub, Int32.reduceMul, decide_true, aArr, List.nil_append, List.cons_append, List.replicate_zero, List.replicate_succ, defaultValue]
  refine t0_230 hgo rfl rfl ?_
  refine t0_232 hgo ?_
  refine t0_234 hgo ?_
  refine t0_236 hgo ?_
  refine res_of (u0_237 hgo) ?_
  simp only [eq_self, and_self, true_and, and_true, not_true_eq_false, not_false_eq_true, if_true, if_false, reduceIte, Option.bind_some, List.getElem?_cons_zero, List.getElem?_cons_succ, Nat.reduceAdd, Nat.reduceSub, Nat.reduceLT, Nat.reduceLeDiff, Nat.le_refl, Nat.zero_add, Nat.add_zero, List.length_cons, List.length_nil, Int32.reduceLT, Int32.reduceToNatClampNeg, Int32.reduceAdd, Int32.reduceSub, Int32.reduceMul, decide_true, aArr, List.nil_append, List.cons_append, List.replicate_zero, List.replicate_succ, defaultValue]
  refine t0_239 hgo rfl rfl ?_
  refine t0_241 hgo ?_
  refine t0_242 hgo rfl ?_
  refine t0_244 hgo ?_
  refine t0_245 hgo rfl ?_
  refine t0_247 hgo ?_
  refine t0_249t hgo (by decide) ?_
  refine t0_252 hgo ?_
  refine t0_254f hgo (by decide) ?_
  refine t0_257 hgo rfl ?_
  refine t0_259 hgo ?_
  refine t0_261 hgo ?_
  refine res_of (u0_263 hgo) ?_
  simp only [eq_self, and_self, true_and, and_true, not_true_eq_false, not_false_eq_true, if_true, if_false, reduceIte, Option.bind_some, List.getElem?_cons_zero, List.getElem?_cons_succ, Nat.reduceAdd, Nat.reduceSub, Nat.reduceLT, Nat.reduceLeDiff, Nat.le_refl, Nat.zero_add, Nat.add_zero, List.length_cons, List.length_nil, Int32.reduceLT, Int32.reduceToNatClampNeg, Int32.reduceAdd, Int32.reduceSub, Int32.reduceMul, decide_true, ex_iastore, ast, astL, pI_int, pL_long, pR_ref, arr, isT, isBZ, nar, List.set_cons_zero, List.set_cons_succ]
  refine t0_264 hgo ?_
  refine t0_267 hgo ?_
  refine t0_280 hgo ?_
  refine t0_282 hgo ?_
  refine t0_283t hgo (by decide) ?_
  refine t0_286 hgo ?_
  refine t0_288t hgo (by decide) ?_
  refine t0_304 hgo rfl ?_
  refine t0_306 hgo ?_
  refine t0_308 hgo ?_
  refine res_of (u0_310 hgo) ?_
  simp only [eq_self, and_self, true_and, and_true, not_true_eq_false, not_false_eq_true, if_true, if_false, reduceIte, Option.bind_some, List.getElem?_cons_zero, List.getElem?_cons_succ, Nat.reduceAdd, Nat.reduceSub, Nat.reduceLT, Nat.reduceLeDiff, Nat.le_refl, Nat.zero_add, Nat.add_zero, List.length_cons, List.length_nil, Int32.reduceLT, Int32.reduceToNatClampNeg, Int32.reduceAdd, Int32.reduceSub, Int32.reduceMul, decide_true, ex_iastore, ast, astL, pI_int, pL_long, pR_ref, arr, isT, isBZ, nar, List.set_cons_zero, List.set_cons_succ]
  refine t0_311 hgo ?_
  refine t0_314 hgo ?_
  refine t0_316 hgo ?_
  refine t0_317t hgo (by decide) ?_
  refine t0_320 hgo ?_
  refine t0_322t hgo (by decide) ?_
  refine t0_338 hgo rfl ?_
  refine t0_340 hgo ?_
  refine t0_342 hgo ?_
  refine res_of (u0_344 hgo) ?_
  simp only [eq_self, and_self, true_and, and_true, not_true_eq_false, not_false_eq_true, if_true, if_false, reduceIte, Option.bind_some, List.getElem?_cons_zero, List.getElem?_cons_succ, Nat.reduceAdd, Nat.reduceSub, Nat.reduceLT, Nat.reduceLeDiff, Nat.le_refl, Nat.zero_add, Nat.add_zero, List.length_cons, List.length_nil, Int32.reduceLT, Int32.reduceToNatClampNeg, Int32.reduceAdd, Int32.reduceSub, Int32.reduceMul, decide_true, ex_iastore, ast, astL, pI_int, pL_long, pR_ref, arr, isT, isBZ, nar, List.set_cons_zero, List.set_cons_succ]
  refine t0_345 hgo ?_
  refine t0_348 hgo ?_
  refine t0_350 hgo ?_
  refine t0_351t hgo (by decide) ?_
  refine t0_354 hgo ?_
  refine t0_356f hgo (by decide) ?_
  refine t0_359 hgo rfl ?_
  refine t0_361 hgo ?_
  refine t0_363 hgo ?_
  refine res_of (u0_365 hgo) ?_
  simp only [eq_self, and_self, true_and, and_true, not_true_eq_false, not_false_eq_true, if_true, if_false, reduceIte, Option.bind_some, List.getElem?_cons_zero, List.getElem?_cons_succ, Nat.reduceAdd, Nat.reduceSub, Nat.reduceLT, Nat.reduceLeDiff, Nat.le_refl, Nat.zero_add, Nat.add_zero, List.length_cons, List.length_nil, Int32.reduceLT, Int32.reduceToNatClampNeg, Int32.reduceAdd, Int32.reduceSub, Int32.reduceMul, decide_true, ex_iastore, ast, astL, pI_int, pL_long, pR_ref, arr, isT, isBZ, nar, List.set_cons_zero, List.set_cons_succ]
  refine t0_366 hgo ?_
  refine t0_369 hgo ?_
  refine t0_382 hgo rfl ?_
  refine t0_384 hgo rfl ?_
  refine res_of (u0_386 hgo) ?_
  simp only [eq_self, and_self, true_and, and_true, not_true_eq_false, not_false_eq_true, if_true, if_false, reduceIte, Option.bind_some, List.getElem?_cons_zero, List.getElem?_cons_succ, Nat.reduceAdd, Nat.reduceSub, Nat.reduceLT, Nat.reduceLeDiff, Nat.le_refl, Nat.zero_add, Nat.add_zero, List.length_cons, List.length_nil, Int32.reduceLT, Int32.reduceToNatClampNeg, Int32.reduceAdd, Int32.reduceSub, Int32.reduceMul, decide_true, aCall, aRecv, aObj, obj, List.take_succ_cons, List.take_zero, List.drop_succ_cons, List.drop_zero, List.reverse_cons, List.reverse_nil, List.nil_append, List.cons_append, List.append_nil, List.map_cons, List.map_nil, List.sum_cons, List.sum_nil, cat_int, cat_long, cat_ref, cat_null, Option.toList_some, Option.toList_none, mg_4_9 ho]
  refine t0_389 hgo rfl rfl ?_
  refine t0_391 hgo rfl ?_
  refine res_of (u0_393 hgo) ?_
  simp only [eq_self, and_self, true_and, and_true, not_true_eq_false, not_false_eq_true, if_true, if_false, reduceIte, Option.bind_some, List.getElem?_cons_zero, List.getElem?_cons_succ, Nat.reduceAdd, Nat.reduceSub, Nat.reduceLT, Nat.reduceLeDiff, Nat.le_refl, Nat.zero_add, Nat.add_zero, List.length_cons, List.length_nil, Int32.reduceLT, Int32.reduceToNatClampNeg, Int32.reduceAdd, Int32.reduceSub, Int32.reduceMul, decide_true, pR_ref, arr, ln0, ln1, ln2, ln3, ln4, ln5, ln6, ln7, ln8, ln9, ln10, ln11, ln12, ln13, ln14, ln15, ln16, ln17, ln18, ln19, ln20, ln21, ln22, ln23, ln24, ln25, ln26, ln27, ln28, ln29, ln30, ln31, ln32, ln33, ln34, ln35, ln36, mg_4_9 ho]
  refine t0_394 hgo ?_
  refine t0_396t hgo rfl ?_
  refine t0_401 hgo ?_
  refine t0_402 hgo rfl ?_
  refine t0_404 hgo ?_
  refine t0_406t hgo (by decide) ?_
  refine t0_409 hgo ?_
  refine t0_411f hgo (by decide) ?_
  refine t0_414 hgo rfl ?_
  refine t0_416 hgo ?_
  refine res_of (u0_417 hgo) ?_
  simp only [eq_self, and_self, true_and, and_true, not_true_eq_false, not_false_eq_true, if_true, if_false, reduceIte, Option.bind_some, List.getElem?_cons_zero, List.getElem?_cons_succ, Nat.reduceAdd, Nat.reduceSub, Nat.reduceLT, Nat.reduceLeDiff, Nat.le_refl, Nat.zero_add, Nat.add_zero, List.length_cons, List.length_nil, Int32.reduceLT, Int32.reduceToNatClampNeg, Int32.reduceAdd, Int32.reduceSub, Int32.reduceMul, decide_true, ex_iaload, ald, pI_int, pR_ref, arr, isT, isBZ, mg_4_9 ho]
  refine t0_418 hgo ?_
  refine t0_420t hgo rfl ?_
  refine t0_423 hgo ?_
  refine t0_424 hgo ?_
  refine t0_428 hgo rfl ?_
  refine t0_430 hgo ?_
  refine t0_432 hgo ?_
  refine t0_433t hgo (by decide) ?_
  refine t0_436 hgo ?_
  refine t0_438f hgo (by decide) ?_
  refine t0_441 hgo rfl ?_
  refine t0_443 hgo ?_
  refine res_of (u0_444 hgo) ?_
  simp only [eq_self, and_self, true_and, and_true, not_true_eq_false, not_false_eq_true, if_true, if_false, reduceIte, Option.bind_some, List.getElem?_cons_zero, List.getElem?_cons_succ, Nat.reduceAdd, Nat.reduceSub, Nat.reduceLT, Nat.reduceLeDiff, Nat.le_refl, Nat.zero_add, Nat.add_zero, List.length_cons, List.length_nil, Int32.reduceLT, Int32.reduceToNatClampNeg, Int32.reduceAdd, Int32.reduceSub, Int32.reduceMul, decide_true, ex_iaload, ald, pI_int, pR_ref, arr, isT, isBZ, mg_4_9 ho]
  refine t0_445 hgo ?_
  refine t0_447t hgo rfl ?_
  refine t0_450 hgo ?_
  refine t0_451 hgo ?_
  refine t0_455 hgo rfl ?_
  refine t0_457 hgo ?_
  refine t0_459 hgo ?_
  refine t0_460t hgo (by decide) ?_
  refine t0_463 hgo ?_
  refine t0_465f hgo (by decide) ?_
  refine t0_468 hgo rfl ?_
  refine t0_470 hgo ?_
  refine res_of (u0_471 hgo) ?_
  simp only [eq_self, and_self, true_and, and_true, not_true_eq_false, not_false_eq_true, if_true, if_false, reduceIte, Option.bind_some, List.getElem?_cons_zero, List.getElem?_cons_succ, Nat.reduceAdd, Nat.reduceSub, Nat.reduceLT, Nat.reduceLeDiff, Nat.le_refl, Nat.zero_add, Nat.add_zero, List.length_cons, List.length_nil, Int32.reduceLT, Int32.reduceToNatClampNeg, Int32.reduceAdd, Int32.reduceSub, Int32.reduceMul, decide_true, ex_iaload, ald, pI_int, pR_ref, arr, isT, isBZ, mg_4_9 ho]
  refine t0_472 hgo ?_
  refine t0_474t hgo rfl ?_
  refine t0_477 hgo ?_
  refine t0_478 hgo ?_
  refine t0_482 hgo rfl ?_
  refine t0_484 hgo ?_
  refine t0_486 hgo ?_
  refine t0_487t hgo (by decide) ?_
  refine t0_490 hgo ?_
  refine t0_492f hgo (by decide) ?_
  refine t0_495 hgo rfl ?_
  refine t0_497 hgo ?_
  refine res_of (u0_498 hgo) ?_
  simp only [eq_self, and_self, true_and, and_true, not_true_eq_false, not_false_eq_true, if_true, if_false, reduceIte, Option.bind_some, List.getElem?_cons_zero, List.getElem?_cons_succ, Nat.reduceAdd, Nat.reduceSub, Nat.reduceLT, Nat.reduceLeDiff, Nat.le_refl, Nat.zero_add, Nat.add_zero, List.length_cons, List.length_nil, Int32.reduceLT, Int32.reduceToNatClampNeg, Int32.reduceAdd, Int32.reduceSub, Int32.reduceMul, decide_true, ex_iaload, ald, pI_int, pR_ref, arr, isT, isBZ, mg_4_9 ho]
  refine t0_499 hgo ?_
  refine t0_501t hgo rfl ?_
  refine t0_504 hgo ?_
  refine t0_505 hgo ?_
  refine t0_509 hgo rfl ?_
  refine t0_511 hgo ?_
  refine t0_513 hgo ?_
  exact one_b
set_option maxRecDepth 65536 in
set_option maxHeartbeats 4000000 in
theorem tl_4_10 {go : Nat → St → Option ORes} (hgo : go = orun code ret E0 0) {l0 l1 l2 l3 l4 l6 l7 l8 l9 l10 l11 l12 l13 l14 : Slot} {w0 w1 w2 w3 : Int32} {m : Nat} (ho : w0 < w1 ∧ w1 < w2 ∧ w2 < w3) : Rsq (go (m + 250) (158, [l0, l1, l2, l3, l4, .val (.int 4), l6, l7, l8, l9, l10, l11, l12, l13, l14, .val (.int w0), .val (.int w1), .val (.int w2), .val (.int w3), .val (.int 0), .val (.int 1), .val (.int 0), .val (.int 1), .unset, .unset, .unset, .unset, .unset, .unset, .unset], [], [], 0, 0)) OneI := by
  refine t0_158 hgo ?_
  refine t0_160t hgo (by decide) ?_
  refine t0_163 hgo ?_
  refine t0_165t hgo (by decide) ?_
  refine t0_172 hgo ?_
  refine t0_173 hgo ?_
  refine t0_175 hgo ?_
  refine t0_176t hgo (by decide) ?_
  refine t0_179 hgo ?_
  refine t0_181f hgo (by decide) ?_
  refine t0_184 hgo ?_
  refine t0_185 hgo ?_
  refine t0_189 hgo ?_
  refine t0_190 hgo ?_
  refine t0_192 hgo ?_
  refine t0_193t hgo (by decide) ?_
  refine t0_196 hgo ?_
  refine t0_198t hgo (by decide) ?_
  refine t0_205 hgo ?_
  refine t0_206 hgo ?_
  refine t0_207 hgo ?_
  refine t0_209 hgo ?_
  refine t0_210t hgo (by decide) ?_
  refine t0_213 hgo ?_
  refine t0_215f hgo (by decide) ?_
  refine t0_218 hgo ?_
  refine t0_219 hgo ?_
  refine t0_223 hgo ?_
  refine t0_224 hgo rfl ?_
  refine t0_226 hgo ?_
  refine res_of (u0_228 hgo) ?_
  simp only [eq_self, and_self, true_and, and_true, not_true_eq_false, not_false_eq_true, if_true, if_false, reduceIte, Option.bind_some, List.getElem?_cons_zero, List.getElem?_cons_succ, Nat.reduceAdd, Nat.reduceSub, Nat.reduceLT, Nat.reduceLeDiff, Nat.le_refl, Nat.zero_add, Nat.add_zero, List.length_cons, List.length_nil, Int32.reduceLT, Int32.reduceToNatClampNeg, Int32.reduceAdd, Int32.reduceSub, Int32.reduceMul, decide_true, aArr, List.nil_append, List.cons_append, List.replicate_zero, List.replicate_succ, defaultValue]
  refine t0_230 hgo rfl rfl ?_
  refine t0_232 hgo ?_
  refine t0_234 hgo ?_
  refine t0_236 hgo ?_
  refine res_of (u0_237 hgo) ?_
  simp only [eq_self, and_self, true_and, and_true, not_true_eq_false, not_false_eq_true, if_true, if_false, reduceIte, Option.bind_some, List.getElem?_cons_zero, List.getElem?_cons_succ, Nat.reduceAdd, Nat.reduceSub, Nat.reduceLT, Nat.reduceLeDiff, Nat.le_refl, Nat.zero_add, Nat.add_zero, List.length_cons, List.length_nil, Int32.reduceLT, Int32.reduceToNatClampNeg, Int32.reduceAdd, Int32.reduceSub, Int32.reduceMul, decide_true, aArr, List.nil_append, List.cons_append, List.replicate_zero, List.replicate_succ, defaultValue]
  refine t0_239 hgo rfl rfl ?_
  refine t0_241 hgo ?_
  refine t0_242 hgo rfl ?_
  refine t0_244 hgo ?_
  refine t0_245 hgo rfl ?_
  refine t0_247 hgo ?_
  refine t0_249t hgo (by decide) ?_
  refine t0_252 hgo ?_
  refine t0_254t hgo (by decide) ?_
  refine t0_270 hgo rfl ?_
  refine t0_272 hgo ?_
  refine t0_274 hgo ?_
  refine res_of (u0_276 hgo) ?_
  simp only [eq_self, and_self, true_and, and_true, not_true_eq_false, not_false_eq_true, if_true, if_false, reduceIte, Option.bind_some, List.getElem?_cons_zero, List.getElem?_cons_succ, Nat.reduceAdd, Nat.reduceSub, Nat.reduceLT, Nat.reduceLeDiff, Nat.le_refl, Nat.zero_add, Nat.add_zero, List.length_cons, List.length_nil, Int32.reduceLT, Int32.reduceToNatClampNeg, Int32.reduceAdd, Int32.reduceSub, Int32.reduceMul, decide_true, ex_iastore, ast, astL, pI_int, pL_long, pR_ref, arr, isT, isBZ, nar, List.set_cons_zero, List.set_cons_succ]
  refine t0_277 hgo ?_
  refine t0_280 hgo ?_
  refine t0_282 hgo ?_
  refine t0_283t hgo (by decide) ?_
  refine t0_286 hgo ?_
  refine t0_288f hgo (by decide) ?_
  refine t0_291 hgo rfl ?_
  refine t0_293 hgo ?_
  refine t0_295 hgo ?_
  refine res_of (u0_297 hgo) ?_
  simp only [eq_self, and_self, true_and, and_true, not_true_eq_false, not_false_eq_true, if_true, if_false, reduceIte, Option.bind_some, List.getElem?_cons_zero, List.getElem?_cons_succ, Nat.reduceAdd, Nat.reduceSub, Nat.reduceLT, Nat.reduceLeDiff, Nat.le_refl, Nat.zero_add, Nat.add_zero, List.length_cons, List.length_nil, Int32.reduceLT, Int32.reduceToNatClampNeg, Int32.reduceAdd, Int32.reduceSub, Int32.reduceMul, decide_true, ex_iastore, ast, astL, pI_int, pL_long, pR_ref, arr, isT, isBZ, nar, List.set_cons_zero, List.set_cons_succ]
  refine t0_298 hgo ?_
  refine t0_301 hgo ?_
  refine t0_314 hgo ?_
  refine t0_316 hgo ?_
  refine t0_317t hgo (by decide) ?_
  refine t0_320 hgo ?_
  refine t0_322t hgo (by decide) ?_
  refine t0_338 hgo rfl ?_
  refine t0_340 hgo ?_
  refine t0_342 hgo ?_
  refine res_of (u0_344 hgo) ?_
  simp only [eq_self, and_self, true_and, and_true, not_true_eq_false, not_false_eq_true, if_true, if_false, reduceIte, Option.bind_some, List.getElem?_cons_zero, List.getElem?_cons_succ, Nat.reduceAdd, Nat.reduceSub, Nat.reduceLT, Nat.reduceLeDiff, Nat.le_refl, Nat.zero_add, Nat.add_zero, List.length_cons, List.length_nil, Int32.reduceLT, Int32.reduceToNatClampNeg, Int32.reduceAdd, Int32.reduceSub, Int32.reduceMul, decide_true, ex_iastore, ast, astL, pI_int, pL_long, pR_ref, arr, isT, isBZ, nar, List.set_cons_zero, List.set_cons_succ]
  refine t0_345 hgo ?_
  refine t0_348 hgo ?_
  refine t0_350 hgo ?_
  refine t0_351t hgo (by decide) ?_
  refine t0_354 hgo ?_
  refine t0_356f hgo (by decide) ?_
  refine t0_359 hgo rfl ?_
  refine t0_361 hgo ?_
  refine t0_363 hgo ?_
  refine res_of (u0_365 hgo) ?_
  simp only [eq_self, and_self, true_and, and_true, not_true_eq_false, not_false_eq_true, if_true, if_false, reduceIte, Option.bind_some, List.getElem?_cons_zero, List.getElem?_cons_succ, Nat.reduceAdd, Nat.reduceSub, Nat.reduceLT, Nat.reduceLeDiff, Nat.le_refl, Nat.zero_add, Nat.add_zero, List.length_cons, List.length_nil, Int32.reduceLT, Int32.reduceToNatClampNeg, Int32.reduceAdd, Int32.reduceSub, Int32.reduceMul, decide_true, ex_iastore, ast, astL, pI_int, pL_long, pR_ref, arr, isT, isBZ, nar, List.set_cons_zero, List.set_cons_succ]
  refine t0_366 hgo ?_
  refine t0_369 hgo ?_
  refine t0_382 hgo rfl ?_
  refine t0_384 hgo rfl ?_
  refine res_of (u0_386 hgo) ?_
  simp only [eq_self, and_self, true_and, and_true, not_true_eq_false, not_false_eq_true, if_true, if_false, reduceIte, Option.bind_some, List.getElem?_cons_zero, List.getElem?_cons_succ, Nat.reduceAdd, Nat.reduceSub, Nat.reduceLT, Nat.reduceLeDiff, Nat.le_refl, Nat.zero_add, Nat.add_zero, List.length_cons, List.length_nil, Int32.reduceLT, Int32.reduceToNatClampNeg, Int32.reduceAdd, Int32.reduceSub, Int32.reduceMul, decide_true, aCall, aRecv, aObj, obj, List.take_succ_cons, List.take_zero, List.drop_succ_cons, List.drop_zero, List.reverse_cons, List.reverse_nil, List.nil_append, List.cons_append, List.append_nil, List.map_cons, List.map_nil, List.sum_cons, List.sum_nil, cat_int, cat_long, cat_ref, cat_null, Option.toList_some, Option.toList_none, mg_4_10 ho]
  refine t0_389 hgo rfl rfl ?_
  refine t0_391 hgo rfl ?_
  refine res_of (u0_393 hgo) ?_
  simp only [eq_self, and_self, true_and, and_true, not_true_eq_false, not_false_eq_true, if_true, if_false, reduceIte, Option.bind_some, List.getElem?_cons_zero, List.getElem?_cons_succ, Nat.reduceAdd, Nat.reduceSub, Nat.reduceLT, Nat.reduceLeDiff, Nat.le_refl, Nat.zero_add, Nat.add_zero, List.length_cons, List.length_nil, Int32.reduceLT, Int32.reduceToNatClampNeg, Int32.reduceAdd, Int32.reduceSub, Int32.reduceMul, decide_true, pR_ref, arr, ln0, ln1, ln2, ln3, ln4, ln5, ln6, ln7, ln8, ln9, ln10, ln11, ln12, ln13, ln14, ln15, ln16, ln17, ln18, ln19, ln20, ln21, ln22, ln23, ln24, ln25, ln26, ln27, ln28, ln29, ln30, ln31, ln32, ln33, ln34, ln35, ln36, mg_4_10 ho]
  refine t0_394 hgo ?_
  refine t0_396t hgo rfl ?_
  refine t0_401 hgo ?_
  refine t0_402 hgo rfl ?_
  refine t0_404 hgo ?_
  refine t0_406t hgo (by decide) ?_
  refine t0_409 hgo ?_
  refine t0_411f hgo (by decide) ?_
  refine t0_414 hgo rfl ?_
  refine t0_416 hgo ?_
  refine res_of (u0_417 hgo) ?_
  simp only [eq_self, and_self, true_and, and_true, not_true_eq_false, not_false_eq_true, if_true, if_false, reduceIte, Option.bind_some, List.getElem?_cons_zero, List.getElem?_cons_succ, Nat.reduceAdd, Nat.reduceSub, Nat.reduceLT, Nat.reduceLeDiff, Nat.le_refl, Nat.zero_add, Nat.add_zero, List.length_cons, List.length_nil, Int32.reduceLT, Int32.reduceToNatClampNeg, Int32.reduceAdd, Int32.reduceSub, Int32.reduceMul, decide_true, ex_iaload, ald, pI_int, pR_ref, arr, isT, isBZ, mg_4_10 ho]
  refine t0_418 hgo ?_
  refine t0_420t hgo rfl ?_
  refine t0_423 hgo ?_
  refine t0_424 hgo ?_
  refine t0_428 hgo rfl ?_
  refine t0_430 hgo ?_
  refine t0_432 hgo ?_
  refine t0_433t hgo (by decide) ?_
  refine t0_436 hgo ?_
  refine t0_438f hgo (by decide) ?_
  refine t0_441 hgo rfl ?_
  refine t0_443 hgo ?_
  refine res_of (u0_444 hgo) ?_
  simp only [eq_self, and_self, true_and, and_true, not_true_eq_false, not_false_eq_true, if_true, if_false, reduceIte, Option.bind_some, List.getElem?_cons_zero, List.getElem?_cons_succ, Nat.reduceAdd, Nat.reduceSub, Nat.reduceLT, Nat.reduceLeDiff, Nat.le_refl, Nat.zero_add, Nat.add_zero, List.length_cons, List.length_nil, Int32.reduceLT, Int32.reduceToNatClampNeg, Int32.reduceAdd, Int32.reduceSub, Int32.reduceMul, decide_true, ex_iaload, ald, pI_int, pR_ref, arr, isT, isBZ, mg_4_10 ho]
  refine t0_445 hgo ?_
  refine t0_447t hgo rfl ?_
  refine t0_450 hgo ?_
  refine t0_451 hgo ?_
  refine t0_455 hgo rfl ?_
  refine t0_457 hgo ?_
  refine t0_459 hgo ?_
  refine t0_460t hgo (by decide) ?_
  refine t0_463 hgo ?_
  refine t0_465f hgo (by decide) ?_
  refine t0_468 hgo rfl ?_
  refine t0_470 hgo ?_
  refine res_of (u0_471 hgo) ?_
  simp only [eq_self, and_self, true_and, and_true, not_true_eq_false, not_false_eq_true, if_true, if_false, reduceIte, Option.bind_some, List.getElem?_cons_zero, List.getElem?_cons_succ, Nat.reduceAdd, Nat.reduceSub, Nat.reduceLT, Nat.reduceLeDiff, Nat.le_refl, Nat.zero_add, Nat.add_zero, List.length_cons, List.length_nil, Int32.reduceLT, Int32.reduceToNatClampNeg, Int32.reduceAdd, Int32.reduceSub, Int32.reduceMul, decide_true, ex_iaload, ald, pI_int, pR_ref, arr, isT, isBZ, mg_4_10 ho]
  refine t0_472 hgo ?_
  refine t0_474t hgo rfl ?_
  refine t0_477 hgo ?_
  refine t0_478 hgo ?_
  refine t0_482 hgo rfl ?_
  refine t0_484 hgo ?_
  refine t0_486 hgo ?_
  refine t0_487t hgo (by decide) ?_
  refine t0_490 hgo ?_
  refine t0_492f hgo (by decide) ?_
  refine t0_495 hgo rfl ?_
  refine t0_497 hgo ?_
  refine res_of (u0_498 hgo) ?_
  simp only [eq_self, and_self, true_and, and_true, not_true_eq_false, not_false_eq_true, if_true, if_false, reduceIte, Option.bind_some, List.getElem?_cons_zero, List.getElem?_cons_succ, Nat.reduceAdd, Nat.reduceSub, Nat.reduceLT, Nat.reduceLeDiff, Nat.le_refl, Nat.zero_add, Nat.add_zero, List.length_cons, List.length_nil, Int32.reduceLT, Int32.reduceToNatClampNeg, Int32.reduceAdd, Int32.reduceSub, Int32.reduceMul, decide_true, ex_iaload, ald, pI_int, pR_ref, arr, isT, isBZ, mg_4_10 ho]
  refine t0_499 hgo ?_
  refine t0_501t hgo rfl ?_
  refine t0_504 hgo ?_
  refine t0_505 hgo ?_
  refine t0_509 hgo rfl ?_
  refine t0_511 hgo ?_
  refine t0_513 hgo ?_
  exact one_b
set_option maxRecDepth 65536 in
set_option maxHeartbeats 4000000 in
theorem tl_4_11 {go : Nat → St → Option ORes} (hgo : go = orun code ret E0 0) {l0 l1 l2 l3 l4 l6 l7 l8 l9 l10 l11 l12 l13 l14 : Slot} {w0 w1 w2 w3 : Int32} {m : Nat} (ho : w0 < w1 ∧ w1 < w2 ∧ w2 < w3) : Rsq (go (m + 250) (158, [l0, l1, l2, l3, l4, .val (.int 4), l6, l7, l8, l9, l10, l11, l12, l13, l14, .val (.int w0), .val (.int w1), .val (.int w2), .val (.int w3), .val (.int 1), .val (.int 1), .val (.int 0), .val (.int 1), .unset, .unset, .unset, .unset, .unset, .unset, .unset], [], [], 0, 0)) OneI := by
  refine t0_158 hgo ?_
  refine t0_160t hgo (by decide) ?_
  refine t0_163 hgo ?_
  refine t0_165f hgo (by decide) ?_
  refine t0_168 hgo ?_
  refine t0_169 hgo ?_
  refine t0_173 hgo ?_
  refine t0_175 hgo ?_
  refine t0_176t hgo (by decide) ?_
  refine t0_179 hgo ?_
  refine t0_181f hgo (by decide) ?_
  refine t0_184 hgo ?_
  refine t0_185 hgo ?_
  refine t0_189 hgo ?_
  refine t0_190 hgo ?_
  refine t0_192 hgo ?_
  refine t0_193t hgo (by decide) ?_
  refine t0_196 hgo ?_
  refine t0_198t hgo (by decide) ?_
  refine t0_205 hgo ?_
  refine t0_206 hgo ?_
  refine t0_207 hgo ?_
  refine t0_209 hgo ?_
  refine t0_210t hgo (by decide) ?_
  refine t0_213 hgo ?_
  refine t0_215f hgo (by decide) ?_
  refine t0_218 hgo ?_
  refine t0_219 hgo ?_
  refine t0_223 hgo ?_
  refine t0_224 hgo rfl ?_
  refine t0_226 hgo ?_
  refine res_of (u0_228 hgo) ?_
  simp only [eq_self, and_self, true_and, and_true, not_true_eq_false, not_false_eq_true, if_true, if_false, reduceIte, Option.bind_some, List.getElem?_cons_zero, List.getElem?_cons_succ, Nat.reduceAdd, Nat.reduceSub, Nat.reduceLT, Nat.reduceLeDiff, Nat.le_refl, Nat.zero_add, Nat.add_zero, List.length_cons, List.length_nil, Int32.reduceLT, Int32.reduceToNatClampNeg, Int32.reduceAdd, Int32.reduceSub, Int32.reduceMul, decide_true, aArr, List.nil_append, List.cons_append, List.replicate_zero, List.replicate_succ, defaultValue]
  refine t0_230 hgo rfl rfl ?_
  refine t0_232 hgo ?_
  refine t0_234 hgo ?_
  refine t0_236 hgo ?_
  refine res_of (u0_237 hgo) ?_
  simp only [eq_self, and_self, true_and, and_true, not_true_eq_false, not_false_eq_true, if_true, if_false, reduceIte, Option.bind_some, List.getElem?_cons_zero, List.getElem?_cons_succ, Nat.reduceAdd, Nat.reduceSub, Nat.reduceLT, Nat.reduceLeDiff, Nat.le_refl, Nat.zero_add, Nat.add_zero, List.length_cons, List.length_nil, Int32.reduceLT, Int32.reduceToNatClampNeg, Int32.reduceAdd, Int32.reduceSub, Int32.reduceMul, decide_true, aArr, List.nil_append, List.cons_append, List.replicate_zero, List.replicate_succ, defaultValue]
  refine t0_239 hgo rfl rfl ?_
  refine t0_241 hgo ?_
  refine t0_242 hgo rfl ?_
  refine t0_244 hgo ?_
  refine t0_245 hgo rfl ?_
  refine t0_247 hgo ?_
  refine t0_249t hgo (by decide) ?_
  refine t0_252 hgo ?_
  refine t0_254f hgo (by decide) ?_
  refine t0_257 hgo rfl ?_
  refine t0_259 hgo ?_
  refine t0_261 hgo ?_
  refine res_of (u0_263 hgo) ?_
  simp only [eq_self, and_self, true_and, and_true, not_true_eq_false, not_false_eq_true, if_true, if_false, reduceIte, Option.bind_some, List.getElem?_cons_zero, List.getElem?_cons_succ, Nat.reduceAdd, Nat.reduceSub, Nat.reduceLT, Nat.reduceLeDiff, Nat.le_refl, Nat.zero_add, Nat.add_zero, List.length_cons, List.length_nil, Int32.reduceLT, Int32.reduceToNatClampNeg, Int32.reduceAdd, Int32.reduceSub, Int32.reduceMul, decide_true, ex_iastore, ast, astL, pI_int, pL_long, pR_ref, arr, isT, isBZ, nar, List.set_cons_zero, List.set_cons_succ]
  refine t0_264 hgo ?_
  refine t0_267 hgo ?_
  refine t0_280 hgo ?_
  refine t0_282 hgo ?_
  refine t0_283t hgo (by decide) ?_
  refine t0_286 hgo ?_
  refine t0_288f hgo (by decide) ?_
  refine t0_291 hgo rfl ?_
  refine t0_293 hgo ?_
  refine t0_295 hgo ?_
  refine res_of (u0_297 hgo) ?_
  simp only [eq_self, and_self, true_and, and_true, not_true_eq_false, not_false_eq_true, if_true, if_false, reduceIte, Option.bind_some, List.getElem?_cons_zero, List.getElem?_cons_succ, Nat.reduceAdd, Nat.reduceSub, Nat.reduceLT, Nat.reduceLeDiff, Nat.le_refl, Nat.zero_add, Nat.add_zero, List.length_cons, List.length_nil, Int32.reduceLT, Int32.reduceToNatClampNeg, Int32.reduceAdd, Int32.reduceSub, Int32.reduceMul, decide_true, ex_iastore, ast, astL, pI_int, pL_long, pR_ref, arr, isT, isBZ, nar, List.set_cons_zero, List.set_cons_succ]
  refine t0_298 hgo ?_
  refine t0_301 hgo ?_
  refine t0_314 hgo ?_
  refine t0_316 hgo ?_
  refine t0_317t hgo (by decide) ?_
  refine t0_320 hgo ?_
  refine t0_322t hgo (by decide) ?_
  refine t0_338 hgo rfl ?_
  refine t0_340 hgo ?_
  refine t0_342 hgo ?_
  refine res_of (u0_344 hgo) ?_
  simp only [eq_self, and_self, true_and, and_true, not_true_eq_false, not_false_eq_true, if_true, if_false, reduceIte, Option.bind_some, List.getElem?_cons_zero, List.getElem?_cons_succ, Nat.reduceAdd, Nat.reduceSub, Nat.reduceLT, Nat.reduceLeDiff, Nat.le_refl, Nat.zero_add, Nat.add_zero, List.length_cons, List.length_nil, Int32.reduceLT, Int32.reduceToNatClampNeg, Int32.reduceAdd, Int32.reduceSub, Int32.reduceMul, decide_true, ex_iastore, ast, astL, pI_int, pL_long, pR_ref, arr, isT, isBZ, nar, List.set_cons_zero, List.set_cons_succ]
  refine t0_345 hgo ?_
  refine t0_348 hgo ?_
  refine t0_350 hgo ?_
  refine t0_351t hgo (by decide) ?_
  refine t0_354 hgo ?_
  refine t0_356f hgo (by decide) ?_
  refine t0_359 hgo rfl ?_
  refine t0_361 hgo ?_
  refine t0_363 hgo ?_
  refine res_of (u0_365 hgo) ?_
  simp only [eq_self, and_self, true_and, and_true, not_true_eq_false, not_false_eq_true, if_true, if_false, reduceIte, Option.bind_some, List.getElem?_cons_zero, List.getElem?_cons_succ, Nat.reduceAdd, Nat.reduceSub, Nat.reduceLT, Nat.reduceLeDiff, Nat.le_refl, Nat.zero_add, Nat.add_zero, List.length_cons, List.length_nil, Int32.reduceLT, Int32.reduceToNatClampNeg, Int32.reduceAdd, Int32.reduceSub, Int32.reduceMul, decide_true, ex_iastore, ast, astL, pI_int, pL_long, pR_ref, arr, isT, isBZ, nar, List.set_cons_zero, List.set_cons_succ]
  refine t0_366 hgo ?_
  refine t0_369 hgo ?_
  refine t0_382 hgo rfl ?_
  refine t0_384 hgo rfl ?_
  refine res_of (u0_386 hgo) ?_
  simp only [eq_self, and_self, true_and, and_true, not_true_eq_false, not_false_eq_true, if_true, if_false, reduceIte, Option.bind_some, List.getElem?_cons_zero, List.getElem?_cons_succ, Nat.reduceAdd, Nat.reduceSub, Nat.reduceLT, Nat.reduceLeDiff, Nat.le_refl, Nat.zero_add, Nat.add_zero, List.length_cons, List.length_nil, Int32.reduceLT, Int32.reduceToNatClampNeg, Int32.reduceAdd, Int32.reduceSub, Int32.reduceMul, decide_true, aCall, aRecv, aObj, obj, List.take_succ_cons, List.take_zero, List.drop_succ_cons, List.drop_zero, List.reverse_cons, List.reverse_nil, List.nil_append, List.cons_append, List.append_nil, List.map_cons, List.map_nil, List.sum_cons, List.sum_nil, cat_int, cat_long, cat_ref, cat_null, Option.toList_some, Option.toList_none, mg_4_11 ho]
  refine t0_389 hgo rfl rfl ?_
  refine t0_391 hgo rfl ?_
  refine res_of (u0_393 hgo) ?_
  simp only [eq_self, and_self, true_and, and_true, not_true_eq_false, not_false_eq_true, if_true, if_false, reduceIte, Option.bind_some, List.getElem?_cons_zero, List.getElem?_cons_succ, Nat.reduceAdd, Nat.reduceSub, Nat.reduceLT, Nat.reduceLeDiff, Nat.le_refl, Nat.zero_add, Nat.add_zero, List.length_cons, List.length_nil, Int32.reduceLT, Int32.reduceToNatClampNeg, Int32.reduceAdd, Int32.reduceSub, Int32.reduceMul, decide_true, pR_ref, arr, ln0, ln1, ln2, ln3, ln4, ln5, ln6, ln7, ln8, ln9, ln10, ln11, ln12, ln13, ln14, ln15, ln16, ln17, ln18, ln19, ln20, ln21, ln22, ln23, ln24, ln25, ln26, ln27, ln28, ln29, ln30, ln31, ln32, ln33, ln34, ln35, ln36, mg_4_11 ho]
  refine t0_394 hgo ?_
  refine t0_396t hgo rfl ?_
  refine t0_401 hgo ?_
  refine t0_402 hgo rfl ?_
  refine t0_404 hgo ?_
  refine t0_406t hgo (by decide) ?_
  refine t0_409 hgo ?_
  refine t0_411f hgo (by decide) ?_
  refine t0_414 hgo rfl ?_
  refine t0_416 hgo ?_
  refine res_of (u0_417 hgo) ?_
  simp only [eq_self, and_self, true_and, and_true, not_true_eq_false, not_false_eq_true, if_true, if_false, reduceIte, Option.bind_some, List.getElem?_cons_zero, List.getElem?_cons_succ, Nat.reduceAdd, Nat.reduceSub, Nat.reduceLT, Nat.reduceLeDiff, Nat.le_refl, Nat.zero_add, Nat.add_zero, List.length_cons, List.length_nil, Int32.reduceLT, Int32.reduceToNatClampNeg, Int32.reduceAdd, Int32.reduceSub, Int32.reduceMul, decide_true, ex_iaload, ald, pI_int, pR_ref, arr, isT, isBZ, mg_4_11 ho]
  refine t0_418 hgo ?_
  refine t0_420t hgo rfl ?_
  refine t0_423 hgo ?_
  refine t0_424 hgo ?_
  refine t0_428 hgo rfl ?_
  refine t0_430 hgo ?_
  refine t0_432 hgo ?_
  refine t0_433t hgo (by decide) ?_
  refine t0_436 hgo ?_
  refine t0_438f hgo (by decide) ?_
  refine t0_441 hgo rfl ?_
  refine t0_443 hgo ?_
  refine res_of (u0_444 hgo) ?_
  simp only [eq_self, and_self, true_and, and_true, not_true_eq_false, not_false_eq_true, if_true, if_false, reduceIte, Option.bind_some, List.getElem?_cons_zero, List.getElem?_cons_succ, Nat.reduceAdd, Nat.reduceSub, Nat.reduceLT, Nat.reduceLeDiff, Nat.le_refl, Nat.zero_add, Nat.add_zero, List.length_cons, List.length_nil, Int32.reduceLT, Int32.reduceToNatClampNeg, Int32.reduceAdd, Int32.reduceSub, Int32.reduceMul, decide_true, ex_iaload, ald, pI_int, pR_ref, arr, isT, isBZ, mg_4_11 ho]
  refine t0_445 hgo ?_
  refine t0_447t hgo rfl ?_
  refine t0_450 hgo ?_
  refine t0_451 hgo ?_
  refine t0_455 hgo rfl ?_
  refine t0_457 hgo ?_
  refine t0_459 hgo ?_
  refine t0_460t hgo (by decide) ?_
  refine t0_463 hgo ?_
  refine t0_465f hgo (by decide) ?_
  refine t0_468 hgo rfl ?_
  refine t0_470 hgo ?_
  refine res_of (u0_471 hgo) ?_
  simp only [eq_self, and_self, true_and, and_true, not_true_eq_false, not_false_eq_true, if_true, if_false, reduceIte, Option.bind_some, List.getElem?_cons_zero, List.getElem?_cons_succ, Nat.reduceAdd, Nat.reduceSub, Nat.reduceLT, Nat.reduceLeDiff, Nat.le_refl, Nat.zero_add, Nat.add_zero, List.length_cons, List.length_nil, Int32.reduceLT, Int32.reduceToNatClampNeg, Int32.reduceAdd, Int32.reduceSub, Int32.reduceMul, decide_true, ex_iaload, ald, pI_int, pR_ref, arr, isT, isBZ, mg_4_11 ho]
  refine t0_472 hgo ?_
  refine t0_474t hgo rfl ?_
  refine t0_477 hgo ?_
  refine t0_478 hgo ?_
  refine t0_482 hgo rfl ?_
  refine t0_484 hgo ?_
  refine t0_486 hgo ?_
  refine t0_487t hgo (by decide) ?_
  refine t0_490 hgo ?_
  refine t0_492f hgo (by decide) ?_
  refine t0_495 hgo rfl ?_
  refine t0_497 hgo ?_
  refine res_of (u0_498 hgo) ?_
  simp only [eq_self, and_self, true_and, and_true, not_true_eq_false, not_false_eq_true, if_true, if_false, reduceIte, Option.bind_some, List.getElem?_cons_zero, List.getElem?_cons_succ, Nat.reduceAdd, Nat.reduceSub, Nat.reduceLT, Nat.reduceLeDiff, Nat.le_refl, Nat.zero_add, Nat.add_zero, List.length_cons, List.length_nil, Int32.reduceLT, Int32.reduceToNatClampNeg, Int32.reduceAdd, Int32.reduceSub, Int32.reduceMul, decide_true, ex_iaload, ald, pI_int, pR_ref, arr, isT, isBZ, mg_4_11 ho]
  refine t0_499 hgo ?_
  refine t0_501t hgo rfl ?_
  refine t0_504 hgo ?_
  refine t0_505 hgo ?_
  refine t0_509 hgo rfl ?_
  refine t0_511 hgo ?_
  refine t0_513 hgo ?_
  exact one_b
set_option maxRecDepth 65536 in
set_option maxHeartbeats 4000000 in
theorem tl_4_12 {go : Nat → St → Option ORes} (hgo : go = orun code ret E0 0) {l0 l1 l2 l3 l4 l6 l7 l8 l9 l10 l11 l12 l13 l14 : Slot} {w0 w1 w2 w3 : Int32} {m : Nat} (ho : w0 < w1 ∧ w1 < w2 ∧ w2 < w3) : Rsq (go (m + 250) (158, [l0, l1, l2, l3, l4, .val (.int 4), l6, l7, l8, l9, l10, l11, l12, l13, l14, .val (.int w0), .val (.int w1), .val (.int w2), .val (.int w3), .val (.int 0), .val (.int 0), .val (.int 1), .val (.int 1), .unset, .unset, .unset, .unset, .unset, .unset, .unset], [], [], 0, 0)) OneI := by
  refine t0_158 hgo ?_
  refine t0_160t hgo (by decide) ?_
  refine t0_163 hgo ?_
  refine t0_165t hgo (by decide) ?_
  refine t0_172 hgo ?_
  refine t0_173 hgo ?_
  refine t0_175 hgo ?_
  refine t0_176t hgo (by decide) ?_
  refine t0_179 hgo ?_
  refine t0_181t hgo (by decide) ?_
  refine t0_188 hgo ?_
  refine t0_189 hgo ?_
  refine t0_190 hgo ?_
  refine t0_192 hgo ?_
  refine t0_193t hgo (by decide) ?_
  refine t0_196 hgo ?_
  refine t0_198f hgo (by decide) ?_
  refine t0_201 hgo ?_
  refine t0_202 hgo ?_
  refine t0_206 hgo ?_
  refine t0_207 hgo ?_
  refine t0_209 hgo ?_
  refine t0_210t hgo (by decide) ?_
  refine t0_213 hgo ?_
  refine t0_215f hgo (by decide) ?_
  refine t0_218 hgo ?_
  refine t0_219 hgo ?_
  refine t0_223 hgo ?_
  refine t0_224 hgo rfl ?_
  refine t0_226 hgo ?_
  refine res_of (u0_228 hgo) ?_
  simp only [eq_self, and_self, true_and, and_true, not_true_eq_false, not_false_eq_true, if_true, if_false, reduceIte, Option.bind_some, List.getElem?_cons_zero, List.getElem?_cons_succ, Nat.reduceAdd, Nat.reduceSub, Nat.reduceLT, Nat.reduceLeDiff, Nat.le_refl, Nat.zero_add, Nat.add_zero, List.length_cons, List.length_nil, Int32.reduceLT, Int32.reduceToNatClampNeg, Int32.reduceAdd, Int32.reduceSub, Int32.reduceMul, decide_true, aArr, List.nil_append, List.cons_append, List.replicate_zero, List.replicate_succ, defaultValue]
  refine t0_230 hgo rfl rfl ?_
  refine t0_232 hgo ?_
  refine t0_234 hgo ?_
  refine t0_236 hgo ?_
  refine res_of (u0_237 hgo) ?_
  simp only [eq_self, and_self, true_and, and_true, not_true_eq_false, not_false_eq_true, if_true, if_false, reduceIte, Option.bind_some, List.getElem?_cons_zero, List.getElem?_cons_succ, Nat.reduceAdd, Nat.reduceSub, Nat.reduceLT, Nat.reduceLeDiff, Nat.le_refl, Nat.zero_add, Nat.add_zero, List.length_cons, List.length_nil, Int32.reduceLT, Int32.reduceToNatClampNeg, Int32.reduceAdd, Int32.reduceSub, Int32.reduceMul, decide_true, aArr, List.nil_append, List.cons_append, List.replicate_zero, List.replicate_succ, defaultValue]
  refine t0_239 hgo rfl rfl ?_
  refine t0_241 hgo ?_
  refine t0_242 hgo rfl ?_
  refine t0_244 hgo ?_
  refine t0_245 hgo rfl ?_
  refine t0_247 hgo ?_
  refine t0_249t hgo (by decide) ?_
  refine t0_252 hgo ?_
  refine t0_254t hgo (by decide) ?_
  refine t0_270 hgo rfl ?_
  refine t0_272 hgo ?_
  refine t0_274 hgo ?_
  refine res_of (u0_276 hgo) ?_
  simp only [eq_self, and_self, true_and, and_true, not_true_eq_false, not_false_eq_true, if_true, if_false, reduceIte, Option.bind_some, List.getElem?_cons_zero, List.getElem?_cons_succ, Nat.reduceAdd, Nat.reduceSub, Nat.reduceLT, Nat.reduceLeDiff, Nat.le_refl, Nat.zero_add, Nat.add_zero, List.length_cons, List.length_nil, Int32.reduceLT, Int32.reduceToNatClampNeg, Int32.reduceAdd, Int32.reduceSub, Int32.reduceMul, decide_true, ex_iastore, ast, astL, pI_int, pL_long, pR_ref, arr, isT, isBZ, nar, List.set_cons_zero, List.set_cons_succ]
  refine t0_277 hgo ?_
  refine t0_280 hgo ?_
  refine t0_282 hgo ?_
  refine t0_283t hgo (by decide) ?_
  refine t0_286 hgo ?_
  refine t0_288t hgo (by decide) ?_
  refine t0_304 hgo rfl ?_
  refine t0_306 hgo ?_
  refine t0_308 hgo ?_
  refine res_of (u0_310 hgo) ?_
  simp only [eq_self, and_self, true_and, and_true, not_true_eq_false, not_false_eq_true, if_true, if_false, reduceIte, Option.bind_some, List.getElem?_cons_zero, List.getElem?_cons_succ, Nat.reduceAdd, Nat.reduceSub, Nat.reduceLT, Nat.reduceLeDiff, Nat.le_refl, Nat.zero_add, Nat.add_zero, List.length_cons, List.length_nil, Int32.reduceLT, Int32.reduceToNatClampNeg, Int32.reduceAdd, Int32.reduceSub, Int32.reduceMul, decide_true, ex_iastore, ast, astL, pI_int, pL_long, pR_ref, arr, isT, isBZ, nar, List.set_cons_zero, List.set_cons_succ]
  refine t0_311 hgo ?_
  refine t0_314 hgo ?_
  refine t0_316 hgo ?_
  refine t0_317t hgo (by decide) ?_
  refine t0_320 hgo ?_
  refine t0_322f hgo (by decide) ?_
  refine t0_325 hgo rfl ?_
  refine t0_327 hgo ?_
  refine t0_329 hgo ?_
  refine res_of (u0_331 hgo) ?_
  simp only [eq_self, and_self, true_and, and_true, not_true_eq_false, not_false_eq_true, if_true, if_false, reduceIte, Option.bind_some, List.getElem?_cons_zero, List.getElem?_cons_succ, Nat.reduceAdd, Nat.reduceSub, Nat.reduceLT, Nat.reduceLeDiff, Nat.le_refl, Nat.zero_add, Nat.add_zero, List.length_cons, List.length_nil, Int32.reduceLT, Int32.reduceToNatClampNeg, Int32.reduceAdd, Int32.reduceSub, Int32.reduceMul, decide_true, ex_iastore, ast, astL, pI_int, pL_long, pR_ref, arr, isT, isBZ, nar, List.set_cons_zero, List.set_cons_succ]
  refine t0_332 hgo ?_
  refine t0_335 hgo ?_
  refine t0_348 hgo ?_
  refine t0_350 hgo ?_
  refine t0_351t hgo (by decide) ?_
  refine t0_354 hgo ?_
  refine t0_356f hgo (by decide) ?_
  refine t0_359 hgo rfl ?_
  refine t0_361 hgo ?_
  refine t0_363 hgo ?_
  refine res_of (u0_365 hgo) ?_
  simp only [eq_self, and_self, true_and, and_true, not_true_eq_false, not_false_eq_true, if_true, if_false, reduceIte, Option.bind_some, List.getElem?_cons_zero, List.getElem?_cons_succ, Nat.reduceAdd, Nat.reduceSub, Nat.reduceLT, Nat.reduceLeDiff, Nat.le_refl, Nat.zero_add, Nat.add_zero, List.length_cons, List.length_nil, Int32.reduceLT, Int32.reduceToNatClampNeg, Int32.reduceAdd, Int32.reduceSub, Int32.reduceMul, decide_true, ex_iastore, ast, astL, pI_int, pL_long, pR_ref, arr, isT, isBZ, nar, List.set_cons_zero, List.set_cons_succ]
  refine t0_366 hgo ?_
  refine t0_369 hgo ?_
  refine t0_382 hgo rfl ?_
  refine t0_384 hgo rfl ?_
  refine res_of (u0_386 hgo) ?_
  simp only [eq_self, and_self, true_and, and_true, not_true_eq_false, not_false_eq_true, if_true, if_false, reduceIte, Option.bind_some, List.getElem?_cons_zero, List.getElem?_cons_succ, Nat.reduceAdd, Nat.reduceSub, Nat.reduceLT, Nat.reduceLeDiff, Nat.le_refl, Nat.zero_add, Nat.add_zero, List.length_cons, List.length_nil, Int32.reduceLT, Int32.reduceToNatClampNeg, Int32.reduceAdd, Int32.reduceSub, Int32.reduceMul, decide_true, aCall, aRecv, aObj, obj, List.take_succ_cons, List.take_zero, List.drop_succ_cons, List.drop_zero, List.reverse_cons, List.reverse_nil, List.nil_append, List.cons_append, List.append_nil, List.map_cons, List.map_nil, List.sum_cons, List.sum_nil, cat_int, cat_long, cat_ref, cat_null, Option.toList_some, Option.toList_none, mg_4_12 ho]
  refine t0_389 hgo rfl rfl ?_
  refine t0_391 hgo rfl ?_
  refine res_of (u0_393 hgo) ?_
  simp only [eq_self, and_self, true_and, and_true, not_true_eq_false, not_false_eq_true, if_true, if_false, reduceIte, Option.bind_some, List.getElem?_cons_zero, List.getElem?_cons_succ, Nat.reduceAdd, Nat.reduceSub, Nat.reduceLT, Nat.reduceLeDiff, Nat.le_refl, Nat.zero_add, Nat.add_zero, List.length_cons, List.length_nil, Int32.reduceLT, Int32.reduceToNatClampNeg, Int32.reduceAdd, Int32.reduceSub, Int32.reduceMul, decide_true, pR_ref, arr, ln0, ln1, ln2, ln3, ln4, ln5, ln6, ln7, ln8, ln9, ln10, ln11, ln12, ln13, ln14, ln15, ln16, ln17, ln18, ln19, ln20, ln21, ln22, ln23, ln24, ln25, ln26, ln27, ln28, ln29, ln30, ln31, ln32, ln33, ln34, ln35, ln36, mg_4_12 ho]
  refine t0_394 hgo ?_
  refine t0_396t hgo rfl ?_
  refine t0_401 hgo ?_
  refine t0_402 hgo rfl ?_
  refine t0_404 hgo ?_
  refine t0_406t hgo (by decide) ?_
  refine t0_409 hgo ?_
  refine t0_411f hgo (by decide) ?_
  refine t0_414 hgo rfl ?_
  refine t0_416 hgo ?_
  refine res_of (u0_417 hgo) ?_
  simp only [eq_self, and_self, true_and, and_true, not_true_eq_false, not_false_eq_true, if_true, if_false, reduceIte, Option.bind_some, List.getElem?_cons_zero, List.getElem?_cons_succ, Nat.reduceAdd, Nat.reduceSub, Nat.reduceLT, Nat.reduceLeDiff, Nat.le_refl, Nat.zero_add, Nat.add_zero, List.length_cons, List.length_nil, Int32.reduceLT, Int32.reduceToNatClampNeg, Int32.reduceAdd, Int32.reduceSub, Int32.reduceMul, decide_true, ex_iaload, ald, pI_int, pR_ref, arr, isT, isBZ, mg_4_12 ho]
  refine t0_418 hgo ?_
  refine t0_420t hgo rfl ?_
  refine t0_423 hgo ?_
  refine t0_424 hgo ?_
  refine t0_428 hgo rfl ?_
  refine t0_430 hgo ?_
  refine t0_432 hgo ?_
  refine t0_433t hgo (by decide) ?_
  refine t0_436 hgo ?_
  refine t0_438f hgo (by decide) ?_
  refine t0_441 hgo rfl ?_
  refine t0_443 hgo ?_
  refine res_of (u0_444 hgo) ?_
  simp only [eq_self, and_self, true_and, and_true, not_true_eq_false, not_false_eq_true, if_true, if_false, reduceIte, Option.bind_some, List.getElem?_cons_zero, List.getElem?_cons_succ, Nat.reduceAdd, Nat.reduceSub, Nat.reduceLT, Nat.reduceLeDiff, Nat.le_refl, Nat.zero_add, Nat.add_zero, List.length_cons, List.length_nil, Int32.reduceLT, Int32.reduceToNatClampNeg, Int32.reduceAdd, Int32.reduceSub, Int32.reduceMul, decide_true, ex_iaload, ald, pI_int, pR_ref, arr, isT, isBZ, mg_4_12 ho]
  refine t0_445 hgo ?_
  refine t0_447t hgo rfl ?_
  refine t0_450 hgo ?_
  refine t0_451 hgo ?_
  refine t0_455 hgo rfl ?_
  refine t0_457 hgo ?_
  refine t0_459 hgo ?_
  refine t0_460t hgo (by decide) ?_
  refine t0_463 hgo ?_
  refine t0_465f hgo (by decide) ?_
  refine t0_468 hgo rfl ?_
  refine t0_470 hgo ?_
  refine res_of (u0_471 hgo) ?_
  simp only [eq_self, and_self, true_and, and_true, not_true_eq_false, not_false_eq_true, if_true, if_false, reduceIte, Option.bind_some, List.getElem?_cons_zero, List.getElem?_cons_succ, Nat.reduceAdd, Nat.reduceSub, Nat.reduceLT, Nat.reduceLeDiff, Nat.le_refl, Nat.zero_add, Nat.add_zero, List.length_cons, List.length_nil, Int32.reduceLT, Int32.reduceToNatClampNeg, Int32.reduceAdd, Int32.reduceSub, Int32.reduceMul, decide_true, ex_iaload, ald, pI_int, pR_ref, arr, isT, isBZ, mg_4_12 ho]
  refine t0_472 hgo ?_
  refine t0_474t hgo rfl ?_
  refine t0_477 hgo ?_
  refine t0_478 hgo ?_
  refine t0_482 hgo rfl ?_
  refine t0_484 hgo ?_
  refine t0_486 hgo ?_
  refine t0_487t hgo (by decide) ?_
  refine t0_490 hgo ?_
  refine t0_492f hgo (by decide) ?_
  refine t0_495 hgo rfl ?_
  refine t0_497 hgo ?_
  refine res_of (u0_498 hgo) ?_
  simp only [eq_self, and_self, true_and, and_true, not_true_eq_false, not_false_eq_true, if_true, if_false, reduceIte, Option.bind_some, List.getElem?_cons_zero, List.getElem?_cons_succ, Nat.reduceAdd, Nat.reduceSub, Nat.reduceLT, Nat.reduceLeDiff, Nat.le_refl, Nat.zero_add, Nat.add_zero, List.length_cons, List.length_nil, Int32.reduceLT, Int32.reduceToNatClampNeg, Int32.reduceAdd, Int32.reduceSub, Int32.reduceMul, decide_true, ex_iaload, ald, pI_int, pR_ref, arr, isT, isBZ, mg_4_12 ho]
  refine t0_499 hgo ?_
  refine t0_501t hgo rfl ?_
  refine t0_504 hgo ?_
  refine t0_505 hgo ?_
  refine t0_509 hgo rfl ?_
  refine t0_511 hgo ?_
  refine t0_513 hgo ?_
  exact one_b
set_option maxRecDepth 65536 in
set_option maxHeartbeats 4000000 in
theorem tl_4_13 {go : Nat → St → Option ORes} (hgo : go = orun code ret E0 0) {l0 l1 l2 l3 l4 l6 l7 l8 l9 l10 l11 l12 l13 l14 : Slot} {w0 w1 w2 w3 : Int32} {m : Nat} (ho : w0 < w1 ∧ w1 < w2 ∧ w2 < w3) : Rsq (go (m + 250) (158, [l0, l1, l2, l3, l4, .val (.int 4), l6, l7, l8, l9, l10, l11, l12, l13, l14, .val (.int w0), .val (.int w1), .val (.int w2), .val (.int w3), .val (.int 1), .val (.int 0), .val (.int 1), .val (.int 1), .unset, .unset, .unset, .unset, .unset, .unset, .unset], [], [], 0, 0)) OneI := by
  refine t0_158 hgo ?_
  refine t0_160t hgo (by decide) ?_
  refine t0_163 hgo ?_
  refine t0_165f hgo (by decide) ?_
  refine t0_168 hgo ?_
  refine t0_169 hgo ?_
  refine t0_173 hgo ?_
  refine t0_175 hgo ?_
  refine t0_176t hgo (by decide) ?_
  refine t0_179 hgo ?_
  refine t0_181t hgo (by decide) ?_
  refine t0_188 hgo ?_
  refine t0_189 hgo ?_
  refine t0_190 hgo ?_
  refine t0_192 hgo ?_
  refine t0_193t hgo (by decide) ?_
  refine t0_196 hgo ?_
  refine t0_198f hgo (by decide) ?_
  refine t0_201 hgo ?_
  refine t0_202 hgo ?_
  refine t0_206 hgo ?_
  refine t0_207 hgo ?_
  refine t0_209 hgo ?_
  refine t0_210t hgo (by decide) ?_
  refine t0_213 hgo ?_
  refine t0_215f hgo (by decide) ?_
  refine t0_218 hgo ?_
  refine t0_219 hgo ?_
  refine t0_223 hgo ?_
  refine t0_224 hgo rfl ?_
  refine t0_226 hgo ?_
  refine res_of (u0_228 hgo) ?_
  simp only [eq_self, and_self, true_and, and_true, not_true_eq_false, not_false_eq_true, if_true, if_false, reduceIte, Option.bind_some, List.getElem?_cons_zero, List.getElem?_cons_succ, Nat.reduceAdd, Nat.reduceSub, Nat.reduceLT, Nat.reduceLeDiff, Nat.le_refl, Nat.zero_add, Nat.add_zero, List.length_cons, List.length_nil, Int32.reduceLT, Int32.reduceToNatClampNeg, Int32.reduceAdd, Int32.reduceSub, Int32.reduceMul, decide_true, aArr, List.nil_append, List.cons_append, List.replicate_zero, List.replicate_succ, defaultValue]
  refine t0_230 hgo rfl rfl ?_
  refine t0_232 hgo ?_
  refine t0_234 hgo ?_
  refine t0_236 hgo ?_
  refine res_of (u0_237 hgo) ?_
  simp only [eq_self, and_self, true_and, and_true, not_true_eq_false, not_false_eq_true, if_true, if_false, reduceIte, Option.bind_some, List.getElem?_cons_zero, List.getElem?_cons_succ, Nat.reduceAdd, Nat.reduceSub, Nat.reduceLT, Nat.reduceLeDiff, Nat.le_refl, Nat.zero_add, Nat.add_zero, List.length_cons, List.length_nil, Int32.reduceLT, Int32.reduceToNatClampNeg, Int32.reduceAdd, Int32.reduceSub, Int32.reduceMul, decide_true, aArr, List.nil_append, List.cons_append, List.replicate_zero, List.replicate_succ, defaultValue]
  refine t0_239 hgo rfl rfl ?_
  refine t0_241 hgo ?_
  refine t0_242 hgo rfl ?_
  refine t0_244 hgo ?_
  refine t0_245 hgo rfl ?_
  refine t0_247 hgo ?_
  refine t0_249t hgo (by decide) ?_
  refine t0_252 hgo ?_
  refine t0_254f hgo (by decide) ?_
  refine t0_257 hgo rfl ?_
  refine t0_259 hgo ?_
  refine t0_261 hgo ?_
  refine res_of (u0_263 hgo) ?_
  simp only [eq_self, and_self, true_and, and_true, not_true_eq_false, not_false_eq_true, if_true, if_false, reduceIte, Option.bind_some, List.getElem?_cons_zero, List.getElem?_cons_succ, Nat.reduceAdd, Nat.reduceSub, Nat.reduceLT, Nat.reduceLeDiff, Nat.le_refl, Nat.zero_add, Nat.add_zero, List.length_cons, List.length_nil, Int32.reduceLT, Int32.reduceToNatClampNeg, Int32.reduceAdd, Int32.reduceSub, Int32.reduceMul, decide_true, ex_iastore, ast, astL, pI_int, pL_long, pR_ref, arr, isT, isBZ, nar, List.set_cons_zero, List.set_cons_succ]
  refine t0_264 hgo ?_
  refine t0_267 hgo ?_
  refine t0_280 hgo ?_
  refine t0_282 hgo ?_
  refine t0_283t hgo (by decide) ?_
  refine t0_286 hgo ?_
  refine t0_288t hgo (by decide) ?_
  refine t0_304 hgo rfl ?_
  refine t0_306 hgo ?_
  refine t0_308 hgo ?_
  refine res_of (u0_310 hgo) ?_
  simp only [eq_self, and_self, true_and, and_true, not_true_eq_false, not_false_eq_true, if_true, if_false, reduceIte, Option.bind_some, List.getElem?_cons_zero, List.getElem?_cons_succ, Nat.reduceAdd, Nat.reduceSub, Nat.reduceLT, Nat.reduceLeDiff, Nat.le_refl, Nat.zero_add, Nat.add_zero, List.length_cons, List.length_nil, Int32.reduceLT, Int32.reduceToNatClampNeg, Int32.reduceAdd, Int32.reduceSub, Int32.reduceMul, decide_true, ex_iastore, ast, astL, pI_int, pL_long, pR_ref, arr, isT, isBZ, nar, List.set_cons_zero, List.set_cons_succ]
  refine t0_311 hgo ?_
  refine t0_314 hgo ?_
  refine t0_316 hgo ?_
  refine t0_317t hgo (by decide) ?_
  refine t0_320 hgo ?_
  refine t0_322f hgo (by decide) ?_
  refine t0_325 hgo rfl ?_
  refine t0_327 hgo ?_
  refine t0_329 hgo ?_
  refine res_of (u0_331 hgo) ?_
  simp only [eq_self, and_self, true_and, and_true, not_true_eq_false, not_false_eq_true, if_true, if_false, reduceIte, Option.bind_some, List.getElem?_cons_zero, List.getElem?_cons_succ, Nat.reduceAdd, Nat.reduceSub, Nat.reduceLT, Nat.reduceLeDiff, Nat.le_refl, Nat.zero_add, Nat.add_zero, List.length_cons, List.length_nil, Int32.reduceLT, Int32.reduceToNatClampNeg, Int32.reduceAdd, Int32.reduceSub, Int32.reduceMul, decide_true, ex_iastore, ast, astL, pI_int, pL_long, pR_ref, arr, isT, isBZ, nar, List.set_cons_zero, List.set_cons_succ]
  refine t0_332 hgo ?_
  refine t0_335 hgo ?_
  refine t0_348 hgo ?_
  refine t0_350 hgo ?_
  refine t0_351t hgo (by decide) ?_
  refine t0_354 hgo ?_
  refine t0_356f hgo (by decide) ?_
  refine t0_359 hgo rfl ?_
  refine t0_361 hgo ?_
  refine t0_363 hgo ?_
  refine res_of (u0_365 hgo) ?_
  simp only [eq_self, and_self, true_and, and_true, not_true_eq_false, not_false_eq_true, if_true, if_false, reduceIte, Option.bind_some, List.getElem?_cons_zero, List.getElem?_cons_succ, Nat.reduceAdd, Nat.reduceSub, Nat.reduceLT, Nat.reduceLeDiff, Nat.le_refl, Nat.zero_add, Nat.add_zero, List.length_cons, List.length_nil, Int32.reduceLT, Int32.reduceToNatClampNeg, Int32.reduceAdd, Int32.reduceSub, Int32.reduceMul, decide_true, ex_iastore, ast, astL, pI_int, pL_long, pR_ref, arr, isT, isBZ, nar, List.set_cons_zero, List.set_cons_succ]
  refine t0_366 hgo ?_
  refine t0_369 hgo ?_
  refine t0_382 hgo rfl ?_
  refine t0_384 hgo rfl ?_
  refine res_of (u0_386 hgo) ?_
  simp only [eq_self, and_self, true_and, and_true, not_true_eq_false, not_false_eq_true, if_true, if_false, reduceIte, Option.bind_some, List.getElem?_cons_zero, List.getElem?_cons_succ, Nat.reduceAdd, Nat.reduceSub, Nat.reduceLT, Nat.reduceLeDiff, Nat.le_refl, Nat.zero_add, Nat.add_zero, List.length_cons, List.length_nil, Int32.reduceLT, Int32.reduceToNatClampNeg, Int32.reduceAdd, Int32.reduceSub, Int32.reduceMul, decide_true, aCall, aRecv, aObj, obj, List.take_succ_cons, List.take_zero, List.drop_succ_cons, List.drop_zero, List.reverse_cons, List.reverse_nil, List.nil_append, List.cons_append, List.append_nil, List.map_cons, List.map_nil, List.sum_cons, List.sum_nil, cat_int, cat_long, cat_ref, cat_null, Option.toList_some, Option.toList_none, mg_4_13 ho]
  refine t0_389 hgo rfl rfl ?_
  refine t0_391 hgo rfl ?_
  refine res_of (u0_393 hgo) ?_
  simp only [eq_self, and_self, true_and, and_true, not_true_eq_false, not_false_eq_true, if_true, if_false, reduceIte, Option.bind_some, List.getElem?_cons_zero, List.getElem?_cons_succ, Nat.reduceAdd, Nat.reduceSub, Nat.reduceLT, Nat.reduceLeDiff, Nat.le_refl, Nat.zero_add, Nat.add_zero, List.length_cons, List.length_nil, Int32.reduceLT, Int32.reduceToNatClampNeg, Int32.reduceAdd, Int32.reduceSub, Int32.reduceMul, decide_true, pR_ref, arr, ln0, ln1, ln2, ln3, ln4, ln5, ln6, ln7, ln8, ln9, ln10, ln11, ln12, ln13, ln14, ln15, ln16, ln17, ln18, ln19, ln20, ln21, ln22, ln23, ln24, ln25, ln26, ln27, ln28, ln29, ln30, ln31, ln32, ln33, ln34, ln35, ln36, mg_4_13 ho]
  refine t0_394 hgo ?_
  refine t0_396t hgo rfl ?_
  refine t0_401 hgo ?_
  refine t0_402 hgo rfl ?_
  refine t0_404 hgo ?_
  refine t0_406t hgo (by decide) ?_
  refine t0_409 hgo ?_
  refine t0_411f hgo (by decide) ?_
  refine t0_414 hgo rfl ?_
  refine t0_416 hgo ?_
  refine res_of (u0_417 hgo) ?_
  simp only [eq_self, and_self, true_and, and_true, not_true_eq_false, not_false_eq_true, if_true, if_false, reduceIte, Option.bind_some, List.getElem?_cons_zero, List.getElem?_cons_succ, Nat.reduceAdd, Nat.reduceSub, Nat.reduceLT, Nat.reduceLeDiff, Nat.le_refl, Nat.zero_add, Nat.add_zero, List.length_cons, List.length_nil, Int32.reduceLT, Int32.reduceToNatClampNeg, Int32.reduceAdd, Int32.reduceSub, Int32.reduceMul, decide_true, ex_iaload, ald, pI_int, pR_ref, arr, isT, isBZ, mg_4_13 ho]
  refine t0_418 hgo ?_
  refine t0_420t hgo rfl ?_
  refine t0_423 hgo ?_
  refine t0_424 hgo ?_
  refine t0_428 hgo rfl ?_
  refine t0_430 hgo ?_
  refine t0_432 hgo ?_
  refine t0_433t hgo (by decide) ?_
  refine t0_436 hgo ?_
  refine t0_438f hgo (by decide) ?_
  refine t0_441 hgo rfl ?_
  refine t0_443 hgo ?_
  refine res_of (u0_444 hgo) ?_
  simp only [eq_self, and_self, true_and, and_true, not_true_eq_false, not_false_eq_true, if_true, if_false, reduceIte, Option.bind_some, List.getElem?_cons_zero, List.getElem?_cons_succ, Nat.reduceAdd, Nat.reduceSub, Nat.reduceLT, Nat.reduceLeDiff, Nat.le_refl, Nat.zero_add, Nat.add_zero, List.length_cons, List.length_nil, Int32.reduceLT, Int32.reduceToNatClampNeg, Int32.reduceAdd, Int32.reduceSub, Int32.reduceMul, decide_true, ex_iaload, ald, pI_int, pR_ref, arr, isT, isBZ, mg_4_13 ho]
  refine t0_445 hgo ?_
  refine t0_447t hgo rfl ?_
  refine t0_450 hgo ?_
  refine t0_451 hgo ?_
  refine t0_455 hgo rfl ?_
  refine t0_457 hgo ?_
  refine t0_459 hgo ?_
  refine t0_460t hgo (by decide) ?_
  refine t0_463 hgo ?_
  refine t0_465f hgo (by decide) ?_
  refine t0_468 hgo rfl ?_
  refine t0_470 hgo ?_
  refine res_of (u0_471 hgo) ?_
  simp only [eq_self, and_self, true_and, and_true, not_true_eq_false, not_false_eq_true, if_true, if_false, reduceIte, Option.bind_some, List.getElem?_cons_zero, List.getElem?_cons_succ, Nat.reduceAdd, Nat.reduceSub, Nat.reduceLT, Nat.reduceLeDiff, Nat.le_refl, Nat.zero_add, Nat.add_zero, List.length_cons, List.length_nil, Int32.reduceLT, Int32.reduceToNatClampNeg, Int32.reduceAdd, Int32.reduceSub, Int32.reduceMul, decide_true, ex_iaload, ald, pI_int, pR_ref, arr, isT, isBZ, mg_4_13 ho]
  refine t0_472 hgo ?_
  refine t0_474t hgo rfl ?_
  refine t0_477 hgo ?_
  refine t0_478 hgo ?_
  refine t0_482 hgo rfl ?_
  refine t0_484 hgo ?_
  refine t0_486 hgo ?_
  refine t0_487t hgo (by decide) ?_
  refine t0_490 hgo ?_
  refine t0_492f hgo (by decide) ?_
  refine t0_495 hgo rfl ?_
  refine t0_497 hgo ?_
  refine res_of (u0_498 hgo) ?_
  simp only [eq_self, and_self, true_and, and_true, not_true_eq_false, not_false_eq_true, if_true, if_false, reduceIte, Option.bind_some, List.getElem?_cons_zero, List.getElem?_cons_succ, Nat.reduceAdd, Nat.reduceSub, Nat.reduceLT, Nat.reduceLeDiff, Nat.le_refl, Nat.zero_add, Nat.add_zero, List.length_cons, List.length_nil, Int32.reduceLT, Int32.reduceToNatClampNeg, Int32.reduceAdd, Int32.reduceSub, Int32.reduceMul, decide_true, ex_iaload, ald, pI_int, pR_ref, arr, isT, isBZ, mg_4_13 ho]
  refine t0_499 hgo ?_
  refine t0_501t hgo rfl ?_
  refine t0_504 hgo ?_
  refine t0_505 hgo ?_
  refine t0_509 hgo rfl ?_
  refine t0_511 hgo ?_
  refine t0_513 hgo ?_
  exact one_b
set_option maxRecDepth 65536 in
set_option maxHeartbeats 4000000 in
theorem tl_4_14 {go : Nat → St → Option ORes} (hgo : go = orun code ret E0 0) {l0 l1 l2 l3 l4 l6 l7 l8 l9 l10 l11 l12 l13 l14 : Slot} {w0 w1 w2 w3 : Int32} {m : Nat} (ho : w0 < w1 ∧ w1 < w2 ∧ w2 < w3) : Rsq (go (m + 250) (158, [l0, l1, l2, l3, l4, .val (.int 4), l6, l7, l8, l9, l10, l11, l12, l13, l14, .val (.int w0), .val (.int w1), .val (.int w2), .val (.int w3), .val (.int 0), .val (.int 1), .val (.int 1), .val (.int 1), .unset, .unset, .unset, .unset, .unset, .unset, .unset], [], [], 0, 0)) OneI := by
  refine t0_158 hgo ?_
  refine t0_160t hgo (by decide) ?_
  refine t0_163 hgo ?_
  refine t0_165t hgo (by decide) ?_
  refine t0_172 hgo ?_
  refine t0_173 hgo ?_
  refine t0_175 hgo ?_
  refine t0_176t hgo (by decide) ?_
  refine t0_179 hgo ?_
  refine t0_181f hgo (by decide) ?_
  refine t0_184 hgo ?_
  refine t0_185 hgo ?_
  refine t0_189 hgo ?_
  refine t0_190 hgo ?_
  refine t0_192 hgo ?_
  refine t0_193t hgo (by decide) ?_
  refine t0_196 hgo ?_
  refine t0_198f hgo (by decide) ?_
  refine t0_201 hgo ?_
  refine t0_202 hgo ?_
  refine t0_206 hgo ?_
  refine t0_207 hgo ?_
  refine t0_209 hgo ?_
  refine t0_210t hgo (by decide) ?_
  refine t0_213 hgo ?_
  refine t0_215f hgo (by decide) ?_
  refine t0_218 hgo ?_
  refine t0_219 hgo ?_
  refine t0_223 hgo ?_
  refine t0_224 hgo rfl ?_
  refine t0_226 hgo ?_
  refine res_of (u0_228 hgo) ?_
  simp only [eq_self, and_self, true_and, and_true, not_true_eq_false, not_false_eq_true, if_true, if_false, reduceIte, Option.bind_some, List.getElem?_cons_zero, List.getElem?_cons_succ, Nat.reduceAdd, Nat.reduceSub, Nat.reduceLT, Nat.reduceLeDiff, Nat.le_refl, Nat.zero_add, Nat.add_zero, List.length_cons, List.length_nil, Int32.reduceLT, Int32.reduceToNatClampNeg, Int32.reduceAdd, Int32.reduceSub, Int32.reduceMul, decide_true, aArr, List.nil_append, List.cons_append, List.replicate_zero, List.replicate_succ, defaultValue]
  refine t0_230 hgo rfl rfl ?_
  refine t0_232 hgo ?_
  refine t0_234 hgo ?_
  refine t0_236 hgo ?_
  refine res_of (u0_237 hgo) ?_
  simp only [eq_self, and_self, true_and, and_true, not_true_eq_false, not_false_eq_true, if_true, if_false, reduceIte, Option.bind_some, List.getElem?_cons_zero, List.getElem?_cons_succ, Nat.reduceAdd, Nat.reduceSub, Nat.reduceLT, Nat.reduceLeDiff, Nat.le_refl, Nat.zero_add, Nat.add_zero, List.length_cons, List.length_nil, Int32.reduceLT, Int32.reduceToNatClampNeg, Int32.reduceAdd, Int32.reduceSub, Int32.reduceMul, decide_true, aArr, List.nil_append, List.cons_append, List.replicate_zero, List.replicate_succ, defaultValue]
  refine t0_239 hgo rfl rfl ?_
  refine t0_241 hgo ?_
  refine t0_242 hgo rfl ?_
  refine t0_244 hgo ?_
  refine t0_245 hgo rfl ?_
  refine t0_247 hgo ?_
  refine t0_249t hgo (by decide) ?_
  refine t0_252 hgo ?_
  refine t0_254t hgo (by decide) ?_
  refine t0_270 hgo rfl ?_
  refine t0_272 hgo ?_
  refine t0_274 hgo ?_
  refine res_of (u0_276 hgo) ?_
  simp only [eq_self, and_self, true_and, and_true, not_true_eq_false, not_false_eq_true, if_true, if_false, reduceIte, Option.bind_some, List.getElem?_cons_zero, List.getElem?_cons_succ, Nat.reduceAdd, Nat.reduceSub, Nat.reduceLT, Nat.reduceLeDiff, Nat.le_refl, Nat.zero_add, Nat.add_zero, List.length_cons, List.length_nil, Int32.reduceLT, Int32.reduceToNatClampNeg, Int32.reduceAdd, Int32.reduceSub, Int32.reduceMul, decide_true, ex_iastore, ast, astL, pI_int, pL_long, pR_ref, arr, isT, isBZ, nar, List.set_cons_zero, List.set_cons_succ]
  refine t0_277 hgo ?_
  refine t0_280 hgo ?_
  refine t0_282 hgo ?_
  refine t0_283t hgo (by decide) ?_
  refine t0_286 hgo ?_
  refine t0_288f hgo (by decide) ?_
  refine t0_291 hgo rfl ?_
  refine t0_293 hgo ?_
  refine t0_295 hgo ?_
  refine res_of (u0_297 hgo) ?_
  simp only [eq_self, and_self, true_and, and_true, not_true_eq_false, not_false_eq_true, if_true, if_false, reduceIte, Option.bind_some, List.getElem?_cons_zero, List.getElem?_cons_succ, Nat.reduceAdd, Nat.reduceSub, Nat.reduceLT, Nat.reduceLeDiff, Nat.le_refl, Nat.zero_add, Nat.add_zero, List.length_cons, List.length_nil, Int32.reduceLT, Int32.reduceToNatClampNeg, Int32.reduceAdd, Int32.reduceSub, Int32.reduceMul, decide_true, ex_iastore, ast, astL, pI_int, pL_long, pR_ref, arr, isT, isBZ, nar, List.set_cons_zero, List.set_cons_succ]
  refine t0_298 hgo ?_
  refine t0_301 hgo ?_
  refine t0_314 hgo ?_
  refine t0_316 hgo ?_
  refine t0_317t hgo (by decide) ?_
  refine t0_320 hgo ?_
  refine t0_322f hgo (by decide) ?_
  refine t0_325 hgo rfl ?_
  refine t0_327 hgo ?_
  refine t0_329 hgo ?_
  refine res_of (u0_331 hgo) ?_
  simp only [eq_self, and_self, true_and, and_true, not_true_eq_false, not_false_eq_true, if_true, if_false, reduceIte, Option.bind_some, List.getElem?_cons_zero, List.getElem?_cons_succ, Nat.reduceAdd, Nat.reduceSub, Nat.reduceLT, Nat.reduceLeDiff, Nat.le_refl, Nat.zero_add, Nat.add_zero, List.length_cons, List.length_nil, Int32.reduceLT, Int32.reduceToNatClampNeg, Int32.reduceAdd, Int32.reduceSub, Int32.reduceMul, decide_true, ex_iastore, ast, astL, pI_int, pL_long, pR_ref, arr, isT, isBZ, nar, List.set_cons_zero, List.set_cons_succ]
  refine t0_332 hgo ?_
  refine t0_335 hgo ?_
  refine t0_348 hgo ?_
  refine t0_350 hgo ?_
  refine t0_351t hgo (by decide) ?_
  refine t0_354 hgo ?_
  refine t0_356f hgo (by decide) ?_
  refine t0_359 hgo rfl ?_
  refine t0_361 hgo ?_
  refine t0_363 hgo ?_
  refine res_of (u0_365 hgo) ?_
  simp only [eq_self, and_self, true_and, and_true, not_true_eq_false, not_false_eq_true, if_true, if_false, reduceIte, Option.bind_some, List.getElem?_cons_zero, List.getElem?_cons_succ, Nat.reduceAdd, Nat.reduceSub, Nat.reduceLT, Nat.reduceLeDiff, Nat.le_refl, Nat.zero_add, Nat.add_zero, List.length_cons, List.length_nil, Int32.reduceLT, Int32.reduceToNatClampNeg, Int32.reduceAdd, Int32.reduceSub, Int32.reduceMul, decide_true, ex_iastore, ast, astL, pI_int, pL_long, pR_ref, arr, isT, isBZ, nar, List.set_cons_zero, List.set_cons_succ]
  refine t0_366 hgo ?_
  refine t0_369 hgo ?_
  refine t0_382 hgo rfl ?_
  refine t0_384 hgo rfl ?_
  refine res_of (u0_386 hgo) ?_
  simp only [eq_self, and_self, true_and, and_true, not_true_eq_false, not_false_eq_true, if_true, if_false, reduceIte, Option.bind_some, List.getElem?_cons_zero, List.getElem?_cons_succ, Nat.reduceAdd, Nat.reduceSub, Nat.reduceLT, Nat.reduceLeDiff, Nat.le_refl, Nat.zero_add, Nat.add_zero, List.length_cons, List.length_nil, Int32.reduceLT, Int32.reduceToNatClampNeg, Int32.reduceAdd, Int32.reduceSub, Int32.reduceMul, decide_true, aCall, aRecv, aObj, obj, List.take_succ_cons, List.take_zero, List.drop_succ_cons, List.drop_zero, List.reverse_cons, List.reverse_nil, List.nil_append, List.cons_append, List.append_nil, List.map_cons, List.map_nil, List.sum_cons, List.sum_nil, cat_int, cat_long, cat_ref, cat_null, Option.toList_some, Option.toList_none, mg_4_14 ho]
  refine t0_389 hgo rfl rfl ?_
  refine t0_391 hgo rfl ?_
  refine res_of (u0_393 hgo) ?_
  simp only [eq_self, and_self, true_and, and_true, not_true_eq_false, not_false_eq_true, if_true, if_false, reduceIte, Option.bind_some, List.getElem?_cons_zero, List.getElem?_cons_succ, Nat.reduceAdd, Nat.reduceSub, Nat.reduceLT, Nat.reduceLeDiff, Nat.le_refl, Nat.zero_add, Nat.add_zero, List.length_cons, List.length_nil, Int32.reduceLT, Int32.reduceToNatClampNeg, Int32.reduceAdd, Int32.reduceSub, Int32.reduceMul, decide_true, pR_ref, arr, ln0, ln1, ln2, ln3, ln4, ln5, ln6, ln7, ln8, ln9, ln10, ln11, ln12, ln13, ln14, ln15, ln16, ln17, ln18, ln19, ln20, ln21, ln22, ln23, ln24, ln25, ln26, ln27, ln28, ln29, ln30, ln31, ln32, ln33, ln34, ln35, ln36, mg_4_14 ho]
  refine t0_394 hgo ?_
  refine t0_396t hgo rfl ?_
  refine t0_401 hgo ?_
  refine t0_402 hgo rfl ?_
  refine t0_404 hgo ?_
  refine t0_406t hgo (by decide) ?_
  refine t0_409 hgo ?_
  refine t0_411f hgo (by decide) ?_
  refine t0_414 hgo rfl ?_
  refine t0_416 hgo ?_
  refine res_of (u0_417 hgo) ?_
  simp only [eq_self, and_self, true_and, and_true, not_true_eq_false, not_false_eq_true, if_true, if_false, reduceIte, Option.bind_some, List.getElem?_cons_zero, List.getElem?_cons_succ, Nat.reduceAdd, Nat.reduceSub, Nat.reduceLT, Nat.reduceLeDiff, Nat.le_refl, Nat.zero_add, Nat.add_zero, List.length_cons, List.length_nil, Int32.reduceLT, Int32.reduceToNatClampNeg, Int32.reduceAdd, Int32.reduceSub, Int32.reduceMul, decide_true, ex_iaload, ald, pI_int, pR_ref, arr, isT, isBZ, mg_4_14 ho]
  refine t0_418 hgo ?_
  refine t0_420t hgo rfl ?_
  refine t0_423 hgo ?_
  refine t0_424 hgo ?_
  refine t0_428 hgo rfl ?_
  refine t0_430 hgo ?_
  refine t0_432 hgo ?_
  refine t0_433t hgo (by decide) ?_
  refine t0_436 hgo ?_
  refine t0_438f hgo (by decide) ?_
  refine t0_441 hgo rfl ?_
  refine t0_443 hgo ?_
  refine res_of (u0_444 hgo) ?_
  simp only [eq_self, and_self, true_and, and_true, not_true_eq_false, not_false_eq_true, if_true, if_false, reduceIte, Option.bind_some, List.getElem?_cons_zero, List.getElem?_cons_succ, Nat.reduceAdd, Nat.reduceSub, Nat.reduceLT, Nat.reduceLeDiff, Nat.le_refl, Nat.zero_add, Nat.add_zero, List.length_cons, List.length_nil, Int32.reduceLT, Int32.reduceToNatClampNeg, Int32.reduceAdd, Int32.reduceSub, Int32.reduceMul, decide_true, ex_iaload, ald, pI_int, pR_ref, arr, isT, isBZ, mg_4_14 ho]
  refine t0_445 hgo ?_
  refine t0_447t hgo rfl ?_
  refine t0_450 hgo ?_
  refine t0_451 hgo ?_
  refine t0_455 hgo rfl ?_
  refine t0_457 hgo ?_
  refine t0_459 hgo ?_
  refine t0_460t hgo (by decide) ?_
  refine t0_463 hgo ?_
  refine t0_465f hgo (by decide) ?_
  refine t0_468 hgo rfl ?_
  refine t0_470 hgo ?_
  refine res_of (u0_471 hgo) ?_
  simp only [eq_self, and_self, true_and, and_true, not_true_eq_false, not_false_eq_true, if_true, if_false, reduceIte, Option.bind_some, List.getElem?_cons_zero, List.getElem?_cons_succ, Nat.reduceAdd, Nat.reduceSub, Nat.reduceLT, Nat.reduceLeDiff, Nat.le_refl, Nat.zero_add, Nat.add_zero, List.length_cons, List.length_nil, Int32.reduceLT, Int32.reduceToNatClampNeg, Int32.reduceAdd, Int32.reduceSub, Int32.reduceMul, decide_true, ex_iaload, ald, pI_int, pR_ref, arr, isT, isBZ, mg_4_14 ho]
  refine t0_472 hgo ?_
  refine t0_474t hgo rfl ?_
  refine t0_477 hgo ?_
  refine t0_478 hgo ?_
  refine t0_482 hgo rfl ?_
  refine t0_484 hgo ?_
  refine t0_486 hgo ?_
  refine t0_487t hgo (by decide) ?_
  refine t0_490 hgo ?_
  refine t0_492f hgo (by decide) ?_
  refine t0_495 hgo rfl ?_
  refine t0_497 hgo ?_
  refine res_of (u0_498 hgo) ?_
  simp only [eq_self, and_self, true_and, and_true, not_true_eq_false, not_false_eq_true, if_true, if_false, reduceIte, Option.bind_some, List.getElem?_cons_zero, List.getElem?_cons_succ, Nat.reduceAdd, Nat.reduceSub, Nat.reduceLT, Nat.reduceLeDiff, Nat.le_refl, Nat.zero_add, Nat.add_zero, List.length_cons, List.length_nil, Int32.reduceLT, Int32.reduceToNatClampNeg, Int32.reduceAdd, Int32.reduceSub, Int32.reduceMul, decide_true, ex_iaload, ald, pI_int, pR_ref, arr, isT, isBZ, mg_4_14 ho]
  refine t0_499 hgo ?_
  refine t0_501t hgo rfl ?_
  refine t0_504 hgo ?_
  refine t0_505 hgo ?_
  refine t0_509 hgo rfl ?_
  refine t0_511 hgo ?_
  refine t0_513 hgo ?_
  exact one_b
set_option maxRecDepth 65536 in
set_option maxHeartbeats 4000000 in
theorem tl_4_15 {go : Nat → St → Option ORes} (hgo : go = orun code ret E0 0) {l0 l1 l2 l3 l4 l6 l7 l8 l9 l10 l11 l12 l13 l14 : Slot} {w0 w1 w2 w3 : Int32} {m : Nat} (ho : w0 < w1 ∧ w1 < w2 ∧ w2 < w3) : Rsq (go (m + 250) (158, [l0, l1, l2, l3, l4, .val (.int 4), l6, l7, l8, l9, l10, l11, l12, l13, l14, .val (.int w0), .val (.int w1), .val (.int w2), .val (.int w3), .val (.int 1), .val (.int 1), .val (.int 1), .val (.int 1), .unset, .unset, .unset, .unset, .unset, .unset, .unset], [], [], 0, 0)) OneI := by
  refine t0_158 hgo ?_
  refine t0_160t hgo (by decide) ?_
  refine t0_163 hgo ?_
  refine t0_165f hgo (by decide) ?_
  refine t0_168 hgo ?_
  refine t0_169 hgo ?_
  refine t0_173 hgo ?_
  refine t0_175 hgo ?_
  refine t0_176t hgo (by decide) ?_
  refine t0_179 hgo ?_
  refine t0_181f hgo (by decide) ?_
  refine t0_184 hgo ?_
  refine t0_185 hgo ?_
  refine t0_189 hgo ?_
  refine t0_190 hgo ?_
  refine t0_192 hgo ?_
  refine t0_193t hgo (by decide) ?_
  refine t0_196 hgo ?_
  refine t0_198f hgo (by decide) ?_
  refine t0_201 hgo ?_
  refine t0_202 hgo ?_
  refine t0_206 hgo ?_
  refine t0_207 hgo ?_
  refine t0_209 hgo ?_
  refine t0_210t hgo (by decide) ?_
  refine t0_213 hgo ?_
  refine t0_215f hgo (by decide) ?_
  refine t0_218 hgo ?_
  refine t0_219 hgo ?_
  refine t0_223 hgo ?_
  refine t0_224 hgo rfl ?_
  refine t0_226 hgo ?_
  refine res_of (u0_228 hgo) ?_
  simp only [eq_self, and_self, true_and, and_true, not_true_eq_false, not_false_eq_true, if_true, if_false, reduceIte, Option.bind_some, List.getElem?_cons_zero, List.getElem?_cons_succ, Nat.reduceAdd, Nat.reduceSub, Nat.reduceLT, Nat.reduceLeDiff, Nat.le_refl, Nat.zero_add, Nat.add_zero, List.length_cons, List.length_nil, Int32.reduceLT, Int32.reduceToNatClampNeg, Int32.reduceAdd, Int32.reduceSub, Int32.reduceMul, decide_true, aArr, List.nil_append, List.cons_append, List.replicate_zero, List.replicate_succ, defaultValue]
  refine t0_230 hgo rfl rfl ?_
  refine t0_232 hgo ?_
  refine t0_234 hgo ?_
  refine t0_236 hgo ?_
  refine res_of (u0_237 hgo) ?_
  simp only [eq_self, and_self, true_and, and_true, not_true_eq_false, not_false_eq_true, if_true, if_false, reduceIte, Option.bind_some, List.getElem?_cons_zero, List.getElem?_cons_succ, Nat.reduceAdd, Nat.reduceSub, Nat.reduceLT, Nat.reduceLeDiff, Nat.le_refl, Nat.zero_add, Nat.add_zero, List.length_cons, List.length_nil, Int32.reduceLT, Int32.reduceToNatClampNeg, Int32.reduceAdd, Int32.reduceSub, Int32.reduceMul, decide_true, aArr, List.nil_append, List.cons_append, List.replicate_zero, List.replicate_succ, defaultValue]
  refine t0_239 hgo rfl rfl ?_
  refine t0_241 hgo ?_
  refine t0_242 hgo rfl ?_
  refine t0_244 hgo ?_
  refine t0_245 hgo rfl ?_
  refine t0_247 hgo ?_
  refine t0_249t hgo (by decide) ?_
  refine t0_252 hgo ?_
  refine t0_254f hgo (by decide) ?_
  refine t0_257 hgo rfl ?_
  refine t0_259 hgo ?_
  refine t0_261 hgo ?_
  refine res_of (u0_263 hgo) ?_
  simp only [eq_self, and_self, true_and, and_true, not_true_eq_false, not_false_eq_true, if_true, if_false, reduceIte, Option.bind_some, List.getElem?_cons_zero, List.getElem?_cons_succ, Nat.reduceAdd, Nat.reduceSub, Nat.reduceLT, Nat.reduceLeDiff, Nat.le_refl, Nat.zero_add, Nat.add_zero, List.length_cons, List.length_nil, Int32.reduceLT, Int32.reduceToNatClampNeg, Int32.reduceAdd, Int32.reduceSub, Int32.reduceMul, decide_true, ex_iastore, ast, astL, pI_int, pL_long, pR_ref, arr, isT, isBZ, nar, List.set_cons_zero, List.set_cons_succ]
  refine t0_264 hgo ?_
  refine t0_267 hgo ?_
  refine t0_280 hgo ?_
  refine t0_282 hgo ?_
  refine t0_283t hgo (by decide) ?_
  refine t0_286 hgo ?_
  refine t0_288f hgo (by decide) ?_
  refine t0_291 hgo rfl ?_
  refine t0_293 hgo ?_
  refine t0_295 hgo ?_
  refine res_of (u0_297 hgo) ?_
  simp only [eq_self, and_self, true_and, and_true, not_true_eq_false, not_false_eq_true, if_true, if_false, reduceIte, Option.bind_some, List.getElem?_cons_zero, List.getElem?_cons_succ, Nat.reduceAdd, Nat.reduceSub, Nat.reduceLT, Nat.reduceLeDiff, Nat.le_refl, Nat.zero_add, Nat.add_zero, List.length_cons, List.length_nil, Int32.reduceLT, Int32.reduceToNatClampNeg, Int32.reduceAdd, Int32.reduceSub, Int32.reduceMul, decide_true, ex_iastore, ast, astL, pI_int, pL_long, pR_ref, arr, isT, isBZ, nar, List.set_cons_zero, List.set_cons_succ]
  refine t0_298 hgo ?_
  refine t0_301 hgo ?_
  refine t0_314 hgo ?_
  refine t0_316 hgo ?_
  refine t0_317t hgo (by decide) ?_
  refine t0_320 hgo ?_
  refine t0_322f hgo (by decide) ?_
  refine t0_325 hgo rfl ?_
  refine t0_327 hgo ?_
  refine t0_329 hgo ?_
  refine res_of (u0_331 hgo) ?_
  simp only [eq_self, and_self, true_and, and_true, not_true_eq_false, not_false_eq_true, if_true, if_false, reduceIte, Option.bind_some, List.getElem?_cons_zero, List.getElem?_cons_succ, Nat.reduceAdd, Nat.reduceSub, Nat.reduceLT, Nat.reduceLeDiff, Nat.le_refl, Nat.zero_add, Nat.add_zero, List.length_cons, List.length_nil, Int32.reduceLT, Int32.reduceToNatClampNeg, Int32.reduceAdd, Int32.reduceSub, Int32.reduceMul, decide_true, ex_iastore, ast, astL, pI_int, pL_long, pR_ref, arr, isT, isBZ, nar, List.set_cons_zero, List.set_cons_succ]
  refine t0_332 hgo ?_
  refine t0_335 hgo ?_
  refine t0_348 hgo ?_
  refine t0_350 hgo ?_
  refine t0_351t hgo (by decide) ?_
  refine t0_354 hgo ?_
  refine t0_356f hgo (by decide) ?_
  refine t0_359 hgo rfl ?_
  refine t0_361 hgo ?_
  refine t0_363 hgo ?_
  refine res_of (u0_365 hgo) ?_
  simp only [eq_self, and_self, true_and, and_true, not_true_eq_false, not_false_eq_true, if_true, if_false, reduceIte, Option.bind_some, List.getElem?_cons_zero, List.getElem?_cons_succ, Nat.reduceAdd, Nat.reduceSub, Nat.reduceLT, Nat.reduceLeDiff, Nat.le_refl, Nat.zero_add, Nat.add_zero, List.length_cons, List.length_nil, Int32.reduceLT, Int32.reduceToNatClampNeg, Int32.reduceAdd, Int32.reduceSub, Int32.reduceMul, decide_true, ex_iastore, ast, astL, pI_int, pL_long, pR_ref, arr, isT, isBZ, nar, List.set_cons_zero, List.set_cons_succ]
  refine t0_366 hgo ?_
  refine t0_369 hgo ?_
  refine t0_382 hgo rfl ?_
  refine t0_384 hgo rfl ?_
  refine res_of (u0_386 hgo) ?_
  simp only [eq_self, and_self, true_and, and_true, not_true_eq_false, not_false_eq_true, if_true, if_false, reduceIte, Option.bind_some, List.getElem?_cons_zero, List.getElem?_cons_succ, Nat.reduceAdd, Nat.reduceSub, Nat.reduceLT, Nat.reduceLeDiff, Nat.le_refl, Nat.zero_add, Nat.add_zero, List.length_cons, List.length_nil, Int32.reduceLT, Int32.reduceToNatClampNeg, Int32.reduceAdd, Int32.reduceSub, Int32.reduceMul, decide_true, aCall, aRecv, aObj, obj, List.take_succ_cons, List.take_zero, List.drop_succ_cons, List.drop_zero, List.reverse_cons, List.reverse_nil, List.nil_append, List.cons_append, List.append_nil, List.map_cons, List.map_nil, List.sum_cons, List.sum_nil, cat_int, cat_long, cat_ref, cat_null, Option.toList_some, Option.toList_none, mg_4_15 ho]
  refine t0_389 hgo rfl rfl ?_
  refine t0_391 hgo rfl ?_
  refine res_of (u0_393 hgo) ?_
  simp only [eq_self, and_self, true_and, and_true, not_true_eq_false, not_false_eq_true, if_true, if_false, reduceIte, Option.bind_some, List.getElem?_cons_zero, List.getElem?_cons_succ, Nat.reduceAdd, Nat.reduceSub, Nat.reduceLT, Nat.reduceLeDiff, Nat.le_refl, Nat.zero_add, Nat.add_zero, List.length_cons, List.length_nil, Int32.reduceLT, Int32.reduceToNatClampNeg, Int32.reduceAdd, Int32.reduceSub, Int32.reduceMul, decide_true, pR_ref, arr, ln0, ln1, ln2, ln3, ln4, ln5, ln6, ln7, ln8, ln9, ln10, ln11, ln12, ln13, ln14, ln15, ln16, ln17, ln18, ln19, ln20, ln21, ln22, ln23, ln24, ln25, ln26, ln27, ln28, ln29, ln30, ln31, ln32, ln33, ln34, ln35, ln36, mg_4_15 ho]
  refine t0_394 hgo ?_
  refine t0_396t hgo rfl ?_
  refine t0_401 hgo ?_
  refine t0_402 hgo rfl ?_
  refine t0_404 hgo ?_
  refine t0_406t hgo (by decide) ?_
  refine t0_409 hgo ?_
  refine t0_411f hgo (by decide) ?_
  refine t0_414 hgo rfl ?_
  refine t0_416 hgo ?_
  refine res_of (u0_417 hgo) ?_
  simp only [eq_self, and_self, true_and, and_true, not_true_eq_false, not_false_eq_true, if_true, if_false, reduceIte, Option.bind_some, List.getElem?_cons_zero, List.getElem?_cons_succ, Nat.reduceAdd, Nat.reduceSub, Nat.reduceLT, Nat.reduceLeDiff, Nat.le_refl, Nat.zero_add, Nat.add_zero, List.length_cons, List.length_nil, Int32.reduceLT, Int32.reduceToNatClampNeg, Int32.reduceAdd, Int32.reduceSub, Int32.reduceMul, decide_true, ex_iaload, ald, pI_int, pR_ref, arr, isT, isBZ, mg_4_15 ho]
  refine t0_418 hgo ?_
  refine t0_420t hgo rfl ?_
  refine t0_423 hgo ?_
  refine t0_424 hgo ?_
  refine t0_428 hgo rfl ?_
  refine t0_430 hgo ?_
  refine t0_432 hgo ?_
  refine t0_433t hgo (by decide) ?_
  refine t0_436 hgo ?_
  refine t0_438f hgo (by decide) ?_
  refine t0_441 hgo rfl ?_
  refine t0_443 hgo ?_
  refine res_of (u0_444 hgo) ?_
  simp only [eq_self, and_self, true_and, and_true, not_true_eq_false, not_false_eq_true, if_true, if_false, reduceIte, Option.bind_some, List.getElem?_cons_zero, List.getElem?_cons_succ, Nat.reduceAdd, Nat.reduceSub, Nat.reduceLT, Nat.reduceLeDiff, Nat.le_refl, Nat.zero_add, Nat.add_zero, List.length_cons, List.length_nil, Int32.reduceLT, Int32.reduceToNatClampNeg, Int32.reduceAdd, Int32.reduceSub, Int32.reduceMul, decide_true, ex_iaload, ald, pI_int, pR_ref, arr, isT, isBZ, mg_4_15 ho]
  refine t0_445 hgo ?_
  refine t0_447t hgo rfl ?_
  refine t0_450 hgo ?_
  refine t0_451 hgo ?_
  refine t0_455 hgo rfl ?_
  refine t0_457 hgo ?_
  refine t0_459 hgo ?_
  refine t0_460t hgo (by decide) ?_
  refine t0_463 hgo ?_
  refine t0_465f hgo (by decide) ?_
  refine t0_468 hgo rfl ?_
  refine t0_470 hgo ?_
  refine res_of (u0_471 hgo) ?_
  simp only [eq_self, and_self, true_and, and_true, not_true_eq_false, not_false_eq_true, if_true, if_false, reduceIte, Option.bind_some, List.getElem?_cons_zero, List.getElem?_cons_succ, Nat.reduceAdd, Nat.reduceSub, Nat.reduceLT, Nat.reduceLeDiff, Nat.le_refl, Nat.zero_add, Nat.add_zero, List.length_cons, List.length_nil, Int32.reduceLT, Int32.reduceToNatClampNeg, Int32.reduceAdd, Int32.reduceSub, Int32.reduceMul, decide_true, ex_iaload, ald, pI_int, pR_ref, arr, isT, isBZ, mg_4_15 ho]
  refine t0_472 hgo ?_
  refine t0_474t hgo rfl ?_
  refine t0_477 hgo ?_
  refine t0_478 hgo ?_
  refine t0_482 hgo rfl ?_
  refine t0_484 hgo ?_
  refine t0_486 hgo ?_
  refine t0_487t hgo (by decide) ?_
  refine t0_490 hgo ?_
  refine t0_492f hgo (by decide) ?_
  refine t0_495 hgo rfl ?_
  refine t0_497 hgo ?_
  refine res_of (u0_498 hgo) ?_
  simp only [eq_self, and_self, true_and, and_true, not_true_eq_false, not_false_eq_true, if_true, if_false, reduceIte, Option.bind_some, List.getElem?_cons_zero, List.getElem?_cons_succ, Nat.reduceAdd, Nat.reduceSub, Nat.reduceLT, Nat.reduceLeDiff, Nat.le_refl, Nat.zero_add, Nat.add_zero, List.length_cons, List.length_nil, Int32.reduceLT, Int32.reduceToNatClampNeg, Int32.reduceAdd, Int32.reduceSub, Int32.reduceMul, decide_true, ex_iaload, ald, pI_int, pR_ref, arr, isT, isBZ, mg_4_15 ho]
  refine t0_499 hgo ?_
  refine t0_501t hgo rfl ?_
  refine t0_504 hgo ?_
  refine t0_505 hgo ?_
  refine t0_509 hgo rfl ?_
  refine t0_511 hgo ?_
  refine t0_513 hgo ?_
  exact one_b
set_option maxRecDepth 65536 in
set_option maxHeartbeats 4000000 in
theorem mid {go : Nat → St → Option ORes} (hgo : go = orun code ret E0 0) {l0 l1 l2 l3 l4 l7 l8 l9 l10 l11 l12 l13 l14 : Slot} {x sel : Int32} {w0 w1 w2 w3 : Int32} {m : Nat} (ho : w0 < w1 ∧ w1 < w2 ∧ w2 < w3) (hx : x = 0 ∨ x = 1 ∨ x = 2 ∨ x = 3 ∨ x = 4) : Rsq (go (m + 280) (101, [l0, l1, l2, l3, l4, .val (.int x), .val (.int sel), l7, l8, l9, l10, l11, l12, l13, l14, .val (.int w0), .val (.int w1), .val (.int w2), .val (.int w3), .unset, .unset, .unset, .unset, .unset, .unset, .unset, .unset, .unset, .unset, .unset], [], [], 0, 0)) OneI := by
  by_cases b0 : sel &&& 1 = 0
  · skip
    refine t0_101 hgo ?_
    refine t0_103 hgo ?_
    refine t0_104 hgo ?_
    refine t0_105t hgo b0 ?_
    refine t0_112 hgo ?_
    refine t0_113 hgo rfl ?_
    by_cases b1 : sel &&& 2 = 0
    · skip
      refine t0_115 hgo ?_
      refine t0_117 hgo ?_
      refine t0_118 hgo ?_
      refine t0_119t hgo b1 ?_
      refine t0_126 hgo ?_
      refine t0_127 hgo rfl ?_
      by_cases b2 : sel &&& 4 = 0
      · skip
        refine t0_129 hgo ?_
        refine t0_131 hgo ?_
        refine t0_132 hgo ?_
        refine t0_133t hgo b2 ?_
        refine t0_140 hgo ?_
        refine t0_141 hgo rfl ?_
        by_cases b3 : sel &&& 8 = 0
        · skip
          refine t0_143 hgo ?_
          refine t0_145 hgo ?_
          refine t0_147 hgo ?_
          refine t0_148t hgo b3 ?_
          refine t0_155 hgo ?_
          refine t0_156 hgo rfl ?_
          rcases hx with rfl | rfl | rfl | rfl | rfl
          · exact tl_0_0 hgo ho
          · exact tl_1_0 hgo ho
          · exact tl_2_0 hgo ho
          · exact tl_3_0 hgo ho
          · exact tl_4_0 hgo ho
        · skip
          refine t0_143 hgo ?_
          refine t0_145 hgo ?_
          refine t0_147 hgo ?_
          refine t0_148f hgo b3 ?_
          refine t0_151 hgo ?_
          refine t0_152 hgo ?_
          refine t0_156 hgo rfl ?_
          rcases hx with rfl | rfl | rfl | rfl | rfl
          · exact tl_0_0 hgo ho
          · exact tl_1_0 hgo ho
          · exact tl_2_0 hgo ho
          · exact tl_3_0 hgo ho
          · exact tl_4_8 hgo ho
      · skip
        refine t0_129 hgo ?_
        refine t0_131 hgo ?_
        refine t0_132 hgo ?_
        refine t0_133f hgo b2 ?_
        refine t0_136 hgo ?_
        refine t0_137 hgo ?_
        refine t0_141 hgo rfl ?_
        by_cases b3 : sel &&& 8 = 0
        · skip
          refine t0_143 hgo ?_
          refine t0_145 hgo ?_
          refine t0_147 hgo ?_
          refine t0_148t hgo b3 ?_
          refine t0_155 hgo ?_
          refine t0_156 hgo rfl ?_
          rcases hx with rfl | rfl | rfl | rfl | rfl
          · exact tl_0_0 hgo ho
          · exact tl_1_0 hgo ho
          · exact tl_2_0 hgo ho
          · exact tl_3_4 hgo ho
          · exact tl_4_4 hgo ho
        · skip
          refine t0_143 hgo ?_
          refine t0_145 hgo ?_
          refine t0_147 hgo ?_
          refine t0_148f hgo b3 ?_
          refine t0_151 hgo ?_
          refine t0_152 hgo ?_
          refine t0_156 hgo rfl ?_
          rcases hx with rfl | rfl | rfl | rfl | rfl
          · exact tl_0_0 hgo ho
          · exact tl_1_0 hgo ho
          · exact tl_2_0 hgo ho
          · exact tl_3_4 hgo ho
          · exact tl_4_12 hgo ho
    · skip
      refine t0_115 hgo ?_
      refine t0_117 hgo ?_
      refine t0_118 hgo ?_
      refine t0_119f hgo b1 ?_
      refine t0_122 hgo ?_
      refine t0_123 hgo ?_
      refine t0_127 hgo rfl ?_
      by_cases b2 : sel &&& 4 = 0
      · skip
        refine t0_129 hgo ?_
        refine t0_131 hgo ?_
        refine t0_132 hgo ?_
        refine t0_133t hgo b2 ?_
        refine t0_140 hgo ?_
        refine t0_141 hgo rfl ?_
        by_cases b3 : sel &&& 8 = 0
        · skip
          refine t0_143 hgo ?_
          refine t0_145 hgo ?_
          refine t0_147 hgo ?_
          refine t0_148t hgo b3 ?_
          refine t0_155 hgo ?_
          refine t0_156 hgo rfl ?_
          rcases hx with rfl | rfl | rfl | rfl | rfl
          · exact tl_0_0 hgo ho
          · exact tl_1_0 hgo ho
          · exact tl_2_2 hgo ho
          · exact tl_3_2 hgo ho
          · exact tl_4_2 hgo ho
        · skip
          refine t0_143 hgo ?_
          refine t0_145 hgo ?_
          refine t0_147 hgo ?_
          refine t0_148f hgo b3 ?_
          refine t0_151 hgo ?_
          refine t0_152 hgo ?_
          refine t0_156 hgo rfl ?_
          rcases hx with rfl | rfl | rfl | rfl | rfl
          · exact tl_0_0 hgo ho
          · exact tl_1_0 hgo ho
          · exact tl_2_2 hgo ho
          · exact tl_3_2 hgo ho
          · exact tl_4_10 hgo ho
      · skip
        refine t0_129 hgo ?_
        refine t0_131 hgo ?_
        refine t0_132 hgo ?_
        refine t0_133f hgo b2 ?_
        refine t0_136 hgo ?_
        refine t0_137 hgo ?_
        refine t0_141 hgo rfl ?_
        by_cases b3 : sel &&& 8 = 0
        · skip
          refine t0_143 hgo ?_
          refine t0_145 hgo ?_
          refine t0_147 hgo ?_
          refine t0_148t hgo b3 ?_
          refine t0_155 hgo ?_
          refine t0_156 hgo rfl ?_
          rcases hx with rfl | rfl | rfl | rfl | rfl
          · exact tl_0_0 hgo ho
          · exact tl_1_0 hgo ho
          · exact tl_2_2 hgo ho
          · exact tl_3_6 hgo ho
          · exact tl_4_6 hgo ho
        · skip
          refine t0_143 hgo ?_
          refine t0_145 hgo ?_
          refine t0_147 hgo ?_
          refine t0_148f hgo b3 ?_
          refine t0_151 hgo ?_
          refine t0_152 hgo ?_
          refine t0_156 hgo rfl ?_
          rcases hx with rfl | rfl | rfl | rfl | rfl
          · exact tl_0_0 hgo ho
          · exact tl_1_0 hgo ho
          · exact tl_2_2 hgo ho
          · exact tl_3_6 hgo ho
          · exact tl_4_14 hgo ho
  · skip
    refine t0_101 hgo ?_
    refine t0_103 hgo ?_
    refine t0_104 hgo ?_
    refine t0_105f hgo b0 ?_
    refine t0_108 hgo ?_
    refine t0_109 hgo ?_
    refine t0_113 hgo rfl ?_
    by_cases b1 : sel &&& 2 = 0
    · skip
      refine t0_115 hgo ?_
      refine t0_117 hgo ?_
      refine t0_118 hgo ?_
      refine t0_119t hgo b1 ?_
      refine t0_126 hgo ?_
      refine t0_127 hgo rfl ?_
      by_cases b2 : sel &&& 4 = 0
      · skip
        refine t0_129 hgo ?_
        refine t0_131 hgo ?_
        refine t0_132 hgo ?_
        refine t0_133t hgo b2 ?_
        refine t0_140 hgo ?_
        refine t0_141 hgo rfl ?_
        by_cases b3 : sel &&& 8 = 0
        · skip
          refine t0_143 hgo ?_
          refine t0_145 hgo ?_
          refine t0_147 hgo ?_
          refine t0_148t hgo b3 ?_
          refine t0_155 hgo ?_
          refine t0_156 hgo rfl ?_
          rcases hx with rfl | rfl | rfl | rfl | rfl
          · exact tl_0_0 hgo ho
          · exact tl_1_1 hgo ho
          · exact tl_2_1 hgo ho
          · exact tl_3_1 hgo ho
          · exact tl_4_1 hgo ho
        · skip
          refine t0_143 hgo ?_
          refine t0_145 hgo ?_
          refine t0_147 hgo ?_
          refine t0_148f hgo b3 ?_
          refine t0_151 hgo ?_
          refine t0_152 hgo ?_
          refine t0_156 hgo rfl ?_
          rcases hx with rfl | rfl | rfl | rfl | rfl
          · exact tl_0_0 hgo ho
          · exact tl_1_1 hgo ho
          · exact tl_2_1 hgo ho
          · exact tl_3_1 hgo ho
          · exact tl_4_9 hgo ho
      · skip
        refine t0_129 hgo ?_
        refine t0_131 hgo ?_
        refine t0_132 hgo ?_
        refine t0_133f hgo b2 ?_
        refine t0_136 hgo ?_
        refine t0_137 hgo ?_
        refine t0_141 hgo rfl ?_
        by_cases b3 : sel &&& 8 = 0
        · skip
          refine t0_143 hgo ?_
          refine t0_145 hgo ?_
          refine t0_147 hgo ?_
          refine t0_148t hgo b3 ?_
          refine t0_155 hgo ?_
          refine t0_156 hgo rfl ?_
          rcases hx with rfl | rfl | rfl | rfl | rfl
          · exact tl_0_0 hgo ho
          · exact tl_1_1 hgo ho
          · exact tl_2_1 hgo ho
          · exact tl_3_5 hgo ho
          · exact tl_4_5 hgo ho
        · skip
          refine t0_143 hgo ?_
          refine t0_145 hgo ?_
          refine t0_147 hgo ?_
          refine t0_148f hgo b3 ?_
          refine t0_151 hgo ?_
          refine t0_152 hgo ?_
          refine t0_156 hgo rfl ?_
          rcases hx with rfl | rfl | rfl | rfl | rfl
          · exact tl_0_0 hgo ho
          · exact tl_1_1 hgo ho
          · exact tl_2_1 hgo ho
          · exact tl_3_5 hgo ho
          · exact tl_4_13 hgo ho
    · skip
      refine t0_115 hgo ?_
      refine t0_117 hgo ?_
      refine t0_118 hgo ?_
      refine t0_119f hgo b1 ?_
      refine t0_122 hgo ?_
      refine t0_123 hgo ?_
      refine t0_127 hgo rfl ?_
      by_cases b2 : sel &&& 4 = 0
      · skip
        refine t0_129 hgo ?_
        refine t0_131 hgo ?_
        refine t0_132 hgo ?_
        refine t0_133t hgo b2 ?_
        refine t0_140 hgo ?_
        refine t0_141 hgo rfl ?_
        by_cases b3 : sel &&& 8 = 0
        · skip
          refine t0_143 hgo ?_
          refine t0_145 hgo ?_
          refine t0_147 hgo ?_
          refine t0_148t hgo b3 ?_
          refine t0_155 hgo ?_
          refine t0_156 hgo rfl ?_
          rcases hx with rfl | rfl | rfl | rfl | rfl
          · exact tl_0_0 hgo ho
          · exact tl_1_1 hgo ho
          · exact tl_2_3 hgo ho
          · exact tl_3_3 hgo ho
          · exact tl_4_3 hgo ho
        · skip
          refine t0_143 hgo ?_
          refine t0_145 hgo ?_
          refine t0_147 hgo ?_
          refine t0_148f hgo b3 ?_
          refine t0_151 hgo ?_
          refine t0_152 hgo ?_
          refine t0_156 hgo rfl ?_
          rcases hx with rfl | rfl | rfl | rfl | rfl
          · exact tl_0_0 hgo ho
          · exact tl_1_1 hgo ho
          · exact tl_2_3 hgo ho
          · exact tl_3_3 hgo ho
          · exact tl_4_11 hgo ho
      · skip
        refine t0_129 hgo ?_
        refine t0_131 hgo ?_
        refine t0_132 hgo ?_
        refine t0_133f hgo b2 ?_
        refine t0_136 hgo ?_
        refine t0_137 hgo ?_
        refine t0_141 hgo rfl ?_
        by_cases b3 : sel &&& 8 = 0
        · skip
          refine t0_143 hgo ?_
          refine t0_145 hgo ?_
          refine t0_147 hgo ?_
          refine t0_148t hgo b3 ?_
          refine t0_155 hgo ?_
          refine t0_156 hgo rfl ?_
          rcases hx with rfl | rfl | rfl | rfl | rfl
          · exact tl_0_0 hgo ho
          · exact tl_1_1 hgo ho
          · exact tl_2_3 hgo ho
          · exact tl_3_7 hgo ho
          · exact tl_4_7 hgo ho
        · skip
          refine t0_143 hgo ?_
          refine t0_145 hgo ?_
          refine t0_147 hgo ?_
          refine t0_148f hgo b3 ?_
          refine t0_151 hgo ?_
          refine t0_152 hgo ?_
          refine t0_156 hgo rfl ?_
          rcases hx with rfl | rfl | rfl | rfl | rfl
          · exact tl_0_0 hgo ho
          · exact tl_1_1 hgo ho
          · exact tl_2_3 hgo ho
          · exact tl_3_7 hgo ho
          · exact tl_4_15 hgo ho
theorem own_five (x : Int32) : (x &&& 255) % 5 = 0 ∨ (x &&& 255) % 5 = 1 ∨ (x &&& 255) % 5 = 2 ∨ (x &&& 255) % 5 = 3 ∨ (x &&& 255) % 5 = 4 := by
  have h1 := c_and x 255 (by decide)
  have h2 := (c_irem (x &&& 255) 5 5 (by decide)).1 h1.1
  simp only [← Int32.toInt_inj, Int32.reduceToInt]; omega
theorem own_d (x : Int32) : 1 ≤ (1 + (x &&& 1073741823).toInt64).toInt ∧ (1 + (x &&& 1073741823).toInt64).toInt ≤ 1073741824 := by
  have h1 := c_and x 1073741823 (by decide)
  have e1 : (1073741823 : Int32).toInt = 1073741823 := by decide
  have e2 : (1 : Int64).toInt = 1 := by decide
  have h2 := c_i2l (x &&& 1073741823)
  have h3 := c_ladd 1 (x &&& 1073741823).toInt64
  have h4 := rng64 (1 + (x &&& 1073741823).toInt64)
  omega
theorem own_add (a b : Int64) (h : -9000000000 ≤ a.toInt ∧ a.toInt ≤ 9000000000) (h' : -9000000000 ≤ b.toInt ∧ b.toInt ≤ 9000000000) : (a + b).toInt = a.toInt + b.toInt := by
  have h3 := c_ladd a b
  have h4 := rng64 (a + b)
  omega
theorem own_sub (a b : Int64) (h : -9000000000 ≤ a.toInt ∧ a.toInt ≤ 9000000000) (h' : -9000000000 ≤ b.toInt ∧ b.toInt ≤ 9000000000) : (a - b).toInt = a.toInt - b.toInt := by
  have h3 := c_lsub a b
  have h4 := rng64 (a - b)
  omega
theorem own_i (a : Int64) (h : -2147483648 ≤ a.toInt ∧ a.toInt ≤ 2147483647) : a.toInt32.toInt = a.toInt := by
  have h3 := c_l2i a
  have h4 := rng32 a.toInt32
  omega
theorem own_ord0 (a : Int32) (d1 d2 d3 : Int64) (h1 : 1 ≤ d1.toInt ∧ d1.toInt ≤ 1073741824) (h2 : 1 ≤ d2.toInt ∧ d2.toInt ≤ 1073741824) (h3 : 1 ≤ d3.toInt ∧ d3.toInt ≤ 1073741824) : (own_min a.toInt64 (2147483647 - d1 - d2 - d3)).toInt32 < (own_min a.toInt64 (2147483647 - d1 - d2 - d3) + d1).toInt32 ∧ (own_min a.toInt64 (2147483647 - d1 - d2 - d3) + d1).toInt32 < (own_min a.toInt64 (2147483647 - d1 - d2 - d3) + d1 + d2).toInt32 ∧ (own_min a.toInt64 (2147483647 - d1 - d2 - d3) + d1 + d2).toInt32 < (own_min a.toInt64 (2147483647 - d1 - d2 - d3) + d1 + d2 + d3).toInt32 := by
  have ha := c_i2l a
  have hr := rng32 a
  have eM : (2147483647 : Int64).toInt = 2147483647 := by decide
  have s1 := own_sub 2147483647 d1 (by omega) (by omega)
  have s2 := own_sub (2147483647 - d1) d2 (by omega) (by omega)
  have s3 := own_sub (2147483647 - d1 - d2) d3 (by omega) (by omega)
  have hm : -2147483648 ≤ (own_min a.toInt64 (2147483647 - d1 - d2 - d3)).toInt ∧ (own_min a.toInt64 (2147483647 - d1 - d2 - d3)).toInt ≤ 2147483647 - d1.toInt - d2.toInt - d3.toInt := by
    unfold own_min
    split
    · omega
    · rename_i h
      rw [Int64.lt_iff_toInt_lt] at h
      omega
  generalize own_min a.toInt64 (2147483647 - d1 - d2 - d3) = b at *
  have a1 := own_add b d1 (by omega) (by omega)
  have a2 := own_add (b + d1) d2 (by omega) (by omega)
  have a3 := own_add (b + d1 + d2) d3 (by omega) (by omega)
  have i0 := own_i b (by omega)
  have i1 := own_i (b + d1) (by omega)
  have i2 := own_i (b + d1 + d2) (by omega)
  have i3 := own_i (b + d1 + d2 + d3) (by omega)
  simp only [Int32.lt_iff_toInt_lt]
  omega
set_option maxRecDepth 65536 in
set_option maxHeartbeats 4000000 in
theorem law_val (v0 v1 v2 v3 v4 : Int32) : ∃ H', F0 [.int v0, .int v1, .int v2, .int v3, .int v4] [] = some (some (.int 1), H') := by
  refine one_of f0_in fun go hgo => ?_
  refine t0_0 hgo ?_
  refine t0_2 hgo ?_
  refine t0_5 hgo ?_
  refine t0_6 hgo ?_
  refine t0_7 hgo (by decide) ?_
  refine t0_8 hgo rfl ?_
  refine t0_10 hgo ?_
  refine t0_12 hgo ?_
  refine t0_14 hgo ?_
  refine t0_15 hgo rfl ?_
  refine t0_17 hgo ?_
  refine t0_18 hgo ?_
  refine t0_19 hgo ?_
  refine t0_21 hgo ?_
  refine t0_22 hgo ?_
  refine t0_23 hgo ?_
  refine t0_24 hgo rfl ?_
  refine t0_26 hgo ?_
  refine t0_27 hgo ?_
  refine t0_28 hgo ?_
  refine t0_30 hgo ?_
  refine t0_31 hgo ?_
  refine t0_32 hgo ?_
  refine t0_33 hgo rfl ?_
  refine t0_35 hgo ?_
  refine t0_36 hgo ?_
  refine t0_37 hgo ?_
  refine t0_39 hgo ?_
  refine t0_40 hgo ?_
  refine t0_41 hgo ?_
  refine t0_42 hgo rfl ?_
  refine t0_44 hgo ?_
  refine t0_45 hgo ?_
  refine t0_46 hgo ?_
  refine t0_49 hgo ?_
  refine t0_51 hgo ?_
  refine t0_52 hgo ?_
  refine t0_54 hgo ?_
  refine t0_55 hgo ?_
  refine t0_57 hgo ?_
  refine res_of (u0_58 hgo) ?_
  simp only [eq_self, and_self, true_and, and_true, not_true_eq_false, not_false_eq_true, if_true, if_false, reduceIte, Option.bind_some, List.getElem?_cons_zero, List.getElem?_cons_succ, Nat.reduceAdd, Nat.reduceSub, Nat.reduceLT, Nat.reduceLeDiff, Nat.le_refl, Nat.zero_add, Nat.add_zero, List.length_cons, List.length_nil, Int32.reduceLT, Int32.reduceToNatClampNeg, Int32.reduceAdd, Int32.reduceSub, Int32.reduceMul, decide_true, aCall, aRecv, aObj, obj, List.take_succ_cons, List.take_zero, List.drop_succ_cons, List.drop_zero, List.reverse_cons, List.reverse_nil, List.nil_append, List.cons_append, List.append_nil, List.map_cons, List.map_nil, List.sum_cons, List.sum_nil, cat_int, cat_long, cat_ref, cat_null, Option.toList_some, Option.toList_none, F1_eq]
  refine t0_61 hgo rfl ?_
  refine t0_63 hgo ?_
  refine t0_65 hgo ?_
  refine t0_66 hgo rfl ?_
  refine t0_68 hgo ?_
  refine t0_70 hgo ?_
  refine t0_72 hgo ?_
  refine t0_73 hgo ?_
  refine t0_74 hgo rfl ?_
  refine t0_76 hgo ?_
  refine t0_78 hgo ?_
  refine t0_80 hgo ?_
  refine t0_81 hgo ?_
  refine t0_83 hgo ?_
  refine t0_84 hgo ?_
  refine t0_85 hgo rfl ?_
  refine t0_87 hgo ?_
  refine t0_89 hgo ?_
  refine t0_91 hgo ?_
  refine t0_92 hgo ?_
  refine t0_94 hgo ?_
  refine t0_95 hgo ?_
  refine t0_97 hgo ?_
  refine t0_98 hgo ?_
  refine t0_99 hgo rfl ?_
  exact mid hgo (own_ord0 v0 _ _ _ (own_d v1) (own_d v2) (own_d v3)) (own_five v4)
set_option maxRecDepth 65536 in
set_option maxHeartbeats 40000000 in
theorem comes_1 {Post : Tables → Env → Array Value → State → Outcome → State → Prop} (hpost : ∀ tb e args s v u, (limb_1_1.after args s (.returned v) u = true ∧ limb_1_2.after args s (.returned v) u = true ∧ True) → FrameEnd s (.returned v) u (Jvm.fieldLocs frame_1_writes args s ++ Jvm.arrayLocs frame_1_arrays args s ++ Jvm.staticLocs frame_1_statics s) 16 128 → Post tb e args s (.returned v) u) :
    ArmFor flags0 classFile x code maxLocals ret World_1 tables_1 room_1 Calls_1 rest_1 Pre_1 Post := by
  intro l hfl _ _ p e ha hc hk s m args below hf hA hF happ hP
  obtain ⟨hcalls, hrest, hpre⟩ := hP
  obtain ⟨-, -, -, hnamed, -, -, -, hat⟩ := (Spec.applies_iff hf).mp happ
  obtain ⟨hg, hn⟩ := and_e (Cond.before_iff.mp (show (Jvm.Cond.and given_1 narrow_1).before args s = true from hpre))
  obtain ⟨g0, g1⟩ := and_e hg
  obtain ⟨i1, g2⟩ := and_e g1
  obtain ⟨i2, g3⟩ := and_e g2
  obtain ⟨i3, g4⟩ := and_e g3
  obtain ⟨i4, g5⟩ := and_e g4
  obtain ⟨w0, w1, w2, w3, w4, rfl⟩ : ∃ w0 w1 w2 w3 w4 : Value, args = #[w0, w1, w2, w3, w4] := by
    have hs : args.size = 5 := by simpa [Cond.value, given_1] using g0
    obtain ⟨L⟩ := args
    match L, hs with
    | [w0, w1, w2, w3, w4], _ => exact ⟨w0, w1, w2, w3, w4, rfl⟩
  have hw := fun d (hd : d ∈ tables_1) => atoms_spec (ws := Jvm.Cond.code x code maxLocals ret :: tables_1) hat d (List.mem_cons_of_mem _ hd)
  obtain ⟨v0, e0⟩ := is_v i1
  obtain rfl : w0 = (.int v0) := Option.some.inj e0
  obtain ⟨v1, e1⟩ := is_v i2
  obtain rfl : w1 = (.int v1) := Option.some.inj e1
  obtain ⟨v2, e2⟩ := is_v i3
  obtain rfl : w2 = (.int v2) := Option.some.inj e2
  obtain ⟨v3, e3⟩ := is_v i4
  obtain rfl : w3 = (.int v3) := Option.some.inj e3
  obtain ⟨v4, e4⟩ := is_v g5
  obtain rfl : w4 = (.int v4) := Option.some.inj e4
  obtain ⟨H', hv⟩ := law_val v0 v1 v2 v3 v4
  obtain ⟨n, o, h1, h2, h3, _, L, rfl, ⟨rfl, -, N⟩, hq⟩ := says0 l (Z := s) (σ := fun k => s.heap.size + k) (n0 := s.heap.size) sg_start hw _ _ _ s.heap hv rep_start p e ha hc hk s m _ below hf ((Spec.applies_iff_loose hf).mp happ).1 ⟨rfl, State.Warmed39.refl s, rfl⟩ trivial
  refine ⟨n, _, h1, h2, h3, hpost _ _ _ _ _ _ ⟨Cond.after_iff.mpr rfl, Cond.after_iff.mpr (eq_i res_at (Term.int_eval (1)) rfl), trivial⟩ ⟨hq.1, hq.2.1, (hq.2.2.sift fun y hy => Or.inr (N y hy)).mono (by decide) (by decide)⟩⟩
theorem main_1_1 : Claimed_1_1 := comes_1 fun _ _ _ _ _ _ h hF => ⟨h.1, hF⟩
theorem main_1_2 : Claimed_1_2 := comes_1 fun _ _ _ _ _ _ h hF => ⟨h.2.1, hF⟩
end Jvm.Pilot.@@N@@
namespace Jvm.Pilot.@@N@@
open Jvm Jvm.ClassFile Sem Op Lib Jvm.Free Jvm.Stand Jvm.Pilot.@@N@@.Jvm.D
/-! MADE BY PROGRAM (witnessworld.py) out of the Statement's table words and the real class files: 11 classes; the members and pool entries that the words name. The judged class is class 1, her method 1. -/
namespace start1
open Jvm.ClassFile
def u (s : String) : CpInfo := .utf8 (stringToUtf16 s)
/-- a pool by its gaps: so many unusable entries, then the entry; so many at the end -/
def gap : Nat → List CpInfo → List CpInfo
  | 0, r => r
  | n + 1, r => .unusable :: gap n r
def poolList (es : List (Nat × CpInfo)) (last : Nat) : List CpInfo := es.foldr (fun e r => gap e.1 (e.2 :: r)) (gap last [])
def pool (es : List (Nat × CpInfo)) (last : Nat) : Array CpInfo := ⟨poolList es last⟩
def fileOf (pool : Array CpInfo) (this : Nat) (attrs : Array Attribute := #[]) (ms : Array MethodInfo := #[]) (fl : Nat := 33) (sup : Nat := 0) (ifs : Array Nat := #[]) (fds : Array FieldInfo := #[]) : ClassFile where
  minorVersion := 0
  majorVersion := 65
  constantPool := pool
  accessFlags := fl
  thisClass := this
  superClass := sup
  interfaces := ifs
  fields := fds
  methods := ms
  attributes := attrs
def plain (name : String) (sup : Option ClassId) : Class where
  name := name
  kind := .ordinary
  loader := none
  accessFlags := 33
  super := sup
  interfaces := #[]
  cf := none
  fields := #[]
  methods := #[]
  instanceTypes := #[]
  staticTypes := #[]
  resolved := #[]
  callSites := []
  init := .initialized
  statics := none
  mirror := none

def pool0 : Array CpInfo := pool [(5, u "<init>"), (0, u "()V"), (1, .class_ 10), (1, u "java/lang/Object")] 113

def k0m0 : Method := { name := "<init>", desc := "()V", sig := { parameters := [], returnType := none }, accessFlags := 1, code := none }
/-- java/lang/Object -/
def k0 : Class := { plain "java/lang/Object" none with
  accessFlags := 33
  interfaces := #[]
  cf := some (fileOf pool0 8 #[] #[{ accessFlags := 1, nameIndex := 5, descriptorIndex := 6, attributes := #[] }] 33 0 #[] #[])
  fields := #[]
  methods := #[k0m0]
  instanceTypes := #[]
  staticTypes := #[]
  resolved := Array.replicate 124 none
  statics := none }

def pool1 : Array CpInfo := pool [(2, .class_ 4), (1, u "java/lang/Object"), (0, u "<init>"), (0, u "()V"), (0, .integer 1073741823), (2, .long 2147483647), (1, .methodref 13 14), (0, .class_ 15), (0, .nameAndType 16 17), (0, u "java/lang/Math"), (0, u "min"), (0, u "(JJ)J"), (0, .methodref 19 20), (0, .class_ 21), (0, .nameAndType 22 23), (0, u "com/example/fronda/fronda/model/WordIndex"), (0, u "merged"), (0, u "([I[I)[I"), (0, .class_ 25), (0, u "com/example/fronda/fronda/model/WordIndexMergedPinLaw"), (2, u "law"), (0, u "(IIIII)Z")] 5

def k1m0 : Method := { name := "<init>", desc := "()V", sig := { parameters := [], returnType := none }, accessFlags := 2, code := none }
def k1c1 : Code := { maxStack := 6, maxLocals := 30, code := code, exceptionTable := #[], attributes := #[] }
def k1m1 : Method := { name := "law", desc := "(IIIII)Z", sig := { parameters := [.int, .int, .int, .int, .int], returnType := some .boolean }, accessFlags := 9, code := some k1c1 }
/-- com/example/fronda/fronda/model/WordIndexMergedPinLaw -/
def k1 : Class := { plain "com/example/fronda/fronda/model/WordIndexMergedPinLaw" (some 0) with
  accessFlags := 49
  interfaces := #[]
  cf := some (fileOf pool1 24 #[] #[{ accessFlags := 2, nameIndex := 5, descriptorIndex := 6, attributes := #[] }, { accessFlags := 9, nameIndex := 28, descriptorIndex := 29, attributes := #[] }] 49 2 #[] #[])
  fields := #[]
  methods := #[k1m0, k1m1]
  instanceTypes := #[]
  staticTypes := #[]
  resolved := Array.replicate 35 none
  statics := none }

def pool2 : Array CpInfo := pool [(1, .class_ 2), (0, u "java/lang/Math"), (1, .class_ 6), (1, u "java/lang/Object"), (0, u "<init>"), (0, u "()V"), (89, .class_ 100), (1, u "java/lang/Math$RandomNumberGeneratorHolder"), (20, u "(JJ)J"), (50, u "negativeZeroFloatBits"), (0, u "J"), (2, u "negativeZeroDoubleBits"), (24, u "min"), (43, u "$assertionsDisabled"), (0, u "Z"), (91, u "twoToTheDoubleScaleDown"), (0, u "D"), (4, u "twoToTheDoubleScaleUp"), (9, u "E"), (3, u "PI"), (2, u "TAU"), (2, u "DEGREES_TO_RADIANS"), (0, u "RADIANS_TO_DEGREES")] 94

def k2m0 : Method := { name := "<init>", desc := "()V", sig := { parameters := [], returnType := none }, accessFlags := 2, code := none }
def k2c1 : Code := { maxStack := 4, maxLocals := 4, code := jdk_29_method_70_code, exceptionTable := #[], attributes := #[] }
def k2m1 : Method := { name := "min", desc := "(JJ)J", sig := { parameters := [.long, .long], returnType := some .long }, accessFlags := 9, code := some k2c1 }
/-- java/lang/Math -/
def k2 : Class := { plain "java/lang/Math" (some 0) with
  accessFlags := 49
  interfaces := #[]
  cf := some (fileOf pool2 1 #[.nestMembers #[98]] #[{ accessFlags := 2, nameIndex := 7, descriptorIndex := 8, attributes := #[] }, { accessFlags := 9, nameIndex := 201, descriptorIndex := 121, attributes := #[] }] 49 4 #[] #[{ accessFlags := 25, nameIndex := 354, descriptorIndex := 339, attributes := #[] }, { accessFlags := 25, nameIndex := 358, descriptorIndex := 339, attributes := #[] }, { accessFlags := 25, nameIndex := 361, descriptorIndex := 339, attributes := #[] }, { accessFlags := 26, nameIndex := 364, descriptorIndex := 339, attributes := #[] }, { accessFlags := 26, nameIndex := 365, descriptorIndex := 339, attributes := #[] }, { accessFlags := 26, nameIndex := 172, descriptorIndex := 173, attributes := #[] }, { accessFlags := 26, nameIndex := 176, descriptorIndex := 173, attributes := #[] }, { accessFlags := 8, nameIndex := 344, descriptorIndex := 339, attributes := #[] }, { accessFlags := 8, nameIndex := 338, descriptorIndex := 339, attributes := #[] }, { accessFlags := 4120, nameIndex := 245, descriptorIndex := 246, attributes := #[] }])
  fields := #[{ name := "E", type := .double, accessFlags := 25, slot := 0, constantValue := 0 }, { name := "PI", type := .double, accessFlags := 25, slot := 1, constantValue := 0 }, { name := "TAU", type := .double, accessFlags := 25, slot := 2, constantValue := 0 }, { name := "DEGREES_TO_RADIANS", type := .double, accessFlags := 26, slot := 3, constantValue := 0 }, { name := "RADIANS_TO_DEGREES", type := .double, accessFlags := 26, slot := 4, constantValue := 0 }, { name := "negativeZeroFloatBits", type := .long, accessFlags := 26, slot := 5, constantValue := 0 }, { name := "negativeZeroDoubleBits", type := .long, accessFlags := 26, slot := 6, constantValue := 0 }, { name := "twoToTheDoubleScaleUp", type := .double, accessFlags := 8, slot := 7, constantValue := 0 }, { name := "twoToTheDoubleScaleDown", type := .double, accessFlags := 8, slot := 8, constantValue := 0 }, { name := "$assertionsDisabled", type := .boolean, accessFlags := 4120, slot := 9, constantValue := 0 }]
  methods := #[k2m0, k2m1]
  instanceTypes := #[]
  staticTypes := #[.double, .double, .double, .double, .double, .long, .long, .double, .double, .boolean]
  resolved := Array.replicate 460 none
  statics := none }

def pool3 : Array CpInfo := pool [(1, .class_ 2), (0, u "com/example/fronda/fronda/model/WordLists"), (0, .class_ 4), (0, u "java/lang/Object")] 4

/-- com/example/fronda/fronda/model/WordLists -/
def k3 : Class := { plain "com/example/fronda/fronda/model/WordLists" (some 0) with
  accessFlags := 1537
  interfaces := #[]
  cf := some (fileOf pool3 1 #[] #[] 1537 3 #[] #[])
  fields := #[]
  methods := #[]
  instanceTypes := #[]
  staticTypes := #[]
  resolved := Array.replicate 9 none
  statics := none }

def pool4 : Array CpInfo := pool [(2, .class_ 4), (1, u "java/lang/Object"), (8, .class_ 14), (0, u "com/example/fronda/fronda/model/WordIndex"), (11, .class_ 27), (0, u "com/example/fronda/fronda/model/WordIndex$EntryReader"), (36, u "entries"), (0, u "Lcom/example/fronda/fronda/model/ByteRun;"), (2, u "offsets"), (0, u "[J"), (8, .class_ 79), (0, u "com/example/fronda/fronda/model/WordIndex$Builder"), (1, .class_ 82), (0, u "com/example/fronda/fronda/model/WordIndex$Collector"), (20, .class_ 104), (0, u "com/example/fronda/fronda/model/WordIndex$Splitter"), (35, .class_ 141), (0, u "com/example/fronda/fronda/model/WordIndex$EntryWriter"), (22, u "merged"), (0, u "([I[I)[I"), (30, .class_ 197), (0, u "com/example/fronda/fronda/model/WordIndex$RunHeads"), (43, .class_ 242), (0, u "com/example/fronda/fronda/model/WordIndex$ElementList"), (13, u "I"), (37, .class_ 295), (0, u "com/example/fronda/fronda/model/WordIndex$ElementMerge"), (67, .class_ 364), (0, u "com/example/fronda/fronda/model/WordLists"), (0, u "MAX_WORD"), (2, u "GROUP"), (1, u "MORE"), (1, u "MAX_GROUPS"), (1, u "MIN_ENTRY"), (1, u "RESTART"), (1, u "NIBBLE"), (1, u "ENTRY_CHUNK"), (41, .class_ 423), (0, u "com/example/fronda/fronda/model/WordIndex$Decoding"), (0, .class_ 425), (0, u "com/example/fronda/fronda/model/WordIndex$WordAction")] 46

def k4c0 : Code := { maxStack := 4, maxLocals := 6, code := prog_120_method_10_code, exceptionTable := #[], attributes := #[] }
def k4m0 : Method := { name := "merged", desc := "([I[I)[I", sig := { parameters := [(.array .int), (.array .int)], returnType := some (.array .int) }, accessFlags := 8, code := some k4c0 }
/-- com/example/fronda/fronda/model/WordIndex -/
def k4 : Class := { plain "com/example/fronda/fronda/model/WordIndex" (some 0) with
  accessFlags := 49
  interfaces := #[3]
  cf := some (fileOf pool4 13 #[.nestMembers #[294, 241, 26, 196, 140, 422, 81, 103, 424, 78]] #[{ accessFlags := 8, nameIndex := 164, descriptorIndex := 165, attributes := #[] }] 49 2 #[363] #[{ accessFlags := 25, nameIndex := 365, descriptorIndex := 256, attributes := #[] }, { accessFlags := 26, nameIndex := 368, descriptorIndex := 256, attributes := #[] }, { accessFlags := 26, nameIndex := 370, descriptorIndex := 256, attributes := #[] }, { accessFlags := 26, nameIndex := 372, descriptorIndex := 256, attributes := #[] }, { accessFlags := 26, nameIndex := 374, descriptorIndex := 256, attributes := #[] }, { accessFlags := 26, nameIndex := 376, descriptorIndex := 256, attributes := #[] }, { accessFlags := 26, nameIndex := 378, descriptorIndex := 256, attributes := #[] }, { accessFlags := 26, nameIndex := 380, descriptorIndex := 256, attributes := #[] }, { accessFlags := 18, nameIndex := 64, descriptorIndex := 65, attributes := #[] }, { accessFlags := 18, nameIndex := 68, descriptorIndex := 69, attributes := #[] }])
  fields := #[{ name := "MAX_WORD", type := .int, accessFlags := 25, slot := 0, constantValue := 0 }, { name := "GROUP", type := .int, accessFlags := 26, slot := 1, constantValue := 0 }, { name := "MORE", type := .int, accessFlags := 26, slot := 2, constantValue := 0 }, { name := "MAX_GROUPS", type := .int, accessFlags := 26, slot := 3, constantValue := 0 }, { name := "MIN_ENTRY", type := .int, accessFlags := 26, slot := 4, constantValue := 0 }, { name := "RESTART", type := .int, accessFlags := 26, slot := 5, constantValue := 0 }, { name := "NIBBLE", type := .int, accessFlags := 26, slot := 6, constantValue := 0 }, { name := "ENTRY_CHUNK", type := .int, accessFlags := 26, slot := 7, constantValue := 0 }, { name := "entries", type := (.object "com/example/fronda/fronda/model/ByteRun"), accessFlags := 18, slot := 0, constantValue := 0 }, { name := "offsets", type := (.array .long), accessFlags := 18, slot := 1, constantValue := 0 }]
  methods := #[k4m0]
  instanceTypes := #[(.object "com/example/fronda/fronda/model/ByteRun"), (.array .long)]
  staticTypes := #[.int, .int, .int, .int, .int, .int, .int, .int]
  resolved := Array.replicate 472 none
  statics := none }

def pool5 : Array CpInfo := pool [(1, u "java/lang/Cloneable"), (0, .class_ 1), (0, u "java/lang/Object"), (0, .class_ 3)] 3

/-- java/lang/Cloneable -/
def k5 : Class := { plain "java/lang/Cloneable" (some 0) with
  accessFlags := 1537
  interfaces := #[]
  cf := some (fileOf pool5 2 #[] #[] 1537 4 #[] #[])
  fields := #[]
  methods := #[]
  instanceTypes := #[]
  staticTypes := #[]
  resolved := Array.replicate 8 none
  statics := none }

def pool6 : Array CpInfo := pool [(1, u "java/io/Serializable"), (0, .class_ 1), (0, u "java/lang/Object"), (0, .class_ 3)] 3

/-- java/io/Serializable -/
def k6 : Class := { plain "java/io/Serializable" (some 0) with
  accessFlags := 1537
  interfaces := #[]
  cf := some (fileOf pool6 2 #[] #[] 1537 4 #[] #[])
  fields := #[]
  methods := #[]
  instanceTypes := #[]
  staticTypes := #[]
  resolved := Array.replicate 8 none
  statics := none }

/-- the primitive byte -/
def k7 : Class := { plain "byte" none with kind := .primitive 'B', accessFlags := 0x411 }
/-- [B -/
def k8 : Class := { plain "[B" (some 0) with kind := .array 7 .byte, interfaces := #[5, 6], accessFlags := 1041 }

/-- the primitive int -/
def k9 : Class := { plain "int" none with kind := .primitive 'I', accessFlags := 0x411 }
/-- [I -/
def k10 : Class := { plain "[I" (some 0) with kind := .array 9 .int, interfaces := #[5, 6], accessFlags := 1041 }

def heap : Heap := #[]
def classes : Array Class := #[k0, k1, k2, k3, k4, k5, k6, k7, k8, k9, k10]
def interned : List (Array UInt16 × Addr) := []
def slotsUsed : Nat := 0
def theMethod : MethodId := ⟨1, 1⟩
def args0 : Array Value := #[.int 5, .int 3, .int 2, .int 1, .int 7]
def aboutOver (below : List Frame) : State where
  vm := { classes := classes, interned := interned.toArray }
  heap := heap
  slotsUsed := slotsUsed
  threads := #[{ frames := .invoking theMethod args0 :: below }]
def below0 : List Frame := [.native { method := ⟨0, 0⟩, args := #[] }]
def about1 : State := aboutOver below0
def p0 : Program := .bare "" "" ""
def e0 : Env := launch0.env 0 0 0
theorem w_frames : about1.frames = Frame.invoking theMethod args0 :: below0 := rfl
set_option maxRecDepth 65536 in
theorem w_args : argsFit about1.vm theMethod args0 = true := by decide +kernel
set_option maxRecDepth 65536 in
theorem w_heap : heapFits about1 = true := by decide +kernel
set_option maxRecDepth 65536 in
theorem w_runnable : about1.curStatus? = some .runnable := by decide +kernel
set_option maxRecDepth 65536 in
theorem w_alone : about1.alone = true := by decide +kernel
set_option maxRecDepth 65536 in
theorem w_named : about1.methodNamed? x = some theMethod := by decide +kernel
set_option maxRecDepth 65536 in
theorem w_hears : about1.hears theMethod below0 = true := by decide +kernel
set_option maxRecDepth 65536 in
theorem w_ripe : about1.ripe theMethod args0 below0 = true := by decide +kernel
theorem w_running : about1.status = .running := rfl
set_option maxRecDepth 65536 in
theorem w_room : about1.hasRoom e0.platform room_1 = true :=
  launch0.hasRoom_least _ room_1 (by decide +kernel) (by decide +kernel) (by decide +kernel) (by decide +kernel) (by decide +kernel) (by decide +kernel)
theorem allAtoms_all (ts : List Jvm.Cond) (a : Array Jvm.Value) (st : Jvm.State) : (allAtoms ts).before a st = ts.all (fun c => c.before a st) := by
  induction ts with
  | nil => rfl
  | cons c t ih =>
    show (Jvm.Cond.and c (allAtoms t)).before a st = _
    rw [Jvm.Cond.before_and, ih, List.all_cons]
def words1 : List Jvm.Cond := Jvm.Cond.code x code maxLocals ret :: tables_1
/-- a 'code' word, met by the world's own term for the bytes: nothing is compared byte by byte -/
theorem code_word {y : MethodName} {bytes : ByteArray} {mx : Nat} {rt : Option FieldType} {a : Array Value} {s : State} {m : MethodId} {meth : Method} {c : Code} (h1 : s.methodNamed? y = some m) (h2 : s.vm.method? m = some meth) (h3 : meth.code = some c) (h4 : c.code = bytes)
    (h5 : (c.maxLocals == mx && c.exceptionTable.isEmpty && decide (c.maxStack ≤ mostOperands) && decide (meth.sig.returnType = rt) && !meth.locks && decide (parseMethodDescriptor y.desc = some meth.sig)) = true) : (Jvm.Cond.code y bytes mx rt).before a s = true := by
  simp only [Bool.and_eq_true, beq_iff_eq, Bool.not_eq_true', decide_eq_true_eq] at h5
  obtain ⟨⟨⟨⟨⟨g1, g2⟩, g3⟩, g4⟩, g5⟩, g6⟩ := h5
  simp [Cond.before, Cond.holds, Cond.value, h1, h2, h3, h4, g1, g2, g3, g4, g5, g6]
def isCode : Jvm.Cond → Bool
  | .code _ _ _ _ => true
  | _ => false
theorem all_split {L : List Jvm.Cond} {P : Jvm.Cond → Bool} (h1 : L.all (fun c => isCode c || P c) = true) (h2 : ∀ c ∈ L.filter isCode, P c = true) : L.all P = true := by
  refine List.all_eq_true.mpr fun c hc => ?_
  have h := List.all_eq_true.mp h1 c hc
  rcases Bool.eq_false_or_eq_true (isCode c) with hi | hi
  · exact h2 c (List.mem_filter.mpr ⟨hc, hi⟩)
  · simpa [hi] using h
set_option maxRecDepth 65536 in
theorem w_c0 : (Jvm.Cond.code x code maxLocals ret).before args0 about1 = true := code_word (m := ⟨1, 1⟩) (meth := k1m1) (c := k1c1) (by decide +kernel) rfl rfl rfl (by decide +kernel)
set_option maxRecDepth 65536 in
theorem w_c1 : (Jvm.Cond.code ({ cls := "java/lang/Math", name := "min", desc := "(JJ)J" } : Jvm.MethodName) jdk_29_method_70_code (4 : Nat) (Option.some Jvm.ClassFile.FieldType.long)).before args0 about1 = true := code_word (m := ⟨2, 1⟩) (meth := k2m1) (c := k2c1) (by decide +kernel) rfl rfl rfl (by decide +kernel)
set_option maxRecDepth 65536 in
theorem w_c2 : (Jvm.Cond.code ({ cls := "com/example/fronda/fronda/model/WordIndex", name := "merged", desc := "([I[I)[I" } : Jvm.MethodName) prog_120_method_10_code (6 : Nat) (Option.some (Jvm.ClassFile.FieldType.array Jvm.ClassFile.FieldType.int))).before args0 about1 = true := code_word (m := ⟨4, 0⟩) (meth := k4m0) (c := k4c0) (by decide +kernel) rfl rfl rfl (by decide +kernel)
def codes1 : List Jvm.Cond := [Jvm.Cond.code x code maxLocals ret, Jvm.Cond.code ({ cls := "java/lang/Math", name := "min", desc := "(JJ)J" } : Jvm.MethodName) jdk_29_method_70_code (4 : Nat) (Option.some Jvm.ClassFile.FieldType.long), Jvm.Cond.code ({ cls := "com/example/fronda/fronda/model/WordIndex", name := "merged", desc := "([I[I)[I" } : Jvm.MethodName) prog_120_method_10_code (6 : Nat) (Option.some (Jvm.ClassFile.FieldType.array Jvm.ClassFile.FieldType.int))]
set_option maxRecDepth 65536 in
theorem codes_eq : words1.filter isCode = codes1 := rfl
theorem w_codes : ∀ c ∈ words1.filter isCode, c.before args0 about1 = true := by
  rw [codes_eq]
  intro c hc
  simp only [codes1, List.mem_cons, List.not_mem_nil, or_false] at hc
  rcases hc with rfl | rfl | rfl
  · exact w_c0
  · exact w_c1
  · exact w_c2
set_option maxRecDepth 65536 in
theorem w_t1 : words1.all (fun c => isCode c || c.before args0 about1) = true := by decide +kernel
theorem w_tables : (allAtoms (Jvm.Cond.code x code maxLocals ret :: tables_1)).before args0 about1 = true := by
  rw [allAtoms_all]
  show words1.all (fun c => c.before args0 about1) = true
  refine all_split ?_ w_codes
  rw [w_t1]
set_option maxRecDepth 65536 in
theorem w_case : (Jvm.Cond.and given_1 narrow_1).before args0 about1 = true := by decide +kernel
theorem w_applies : (headSpec (Jvm.Cond.code x code maxLocals ret :: tables_1) room_1).applies x e0.platform about1 = true :=
  (Spec.applies_iff w_frames).mpr ⟨w_running, w_runnable, w_alone, w_named, w_hears, w_ripe, w_room, w_tables⟩
theorem atStart : AtStart classFile x code maxLocals ret World_1 tables_1 room_1 Calls_1 rest_1 Pre_1 launch0 p0 e0 about1 theMethod args0 below0 :=
  ⟨lists_1, trivial, launch0.admits_env _ _ _, launch0.least_env, fairChoices_fair.cas, fairChoices_fair.clock, w_frames, w_args, w_heap, w_applies, trivial, trivial, w_case⟩
end start1
theorem witness_1 : WitnessClaimed_1 := ⟨start1.p0, start1.e0, start1.about1, start1.theMethod, start1.args0, start1.below0, start1.atStart⟩
end Jvm.Pilot.@@N@@
