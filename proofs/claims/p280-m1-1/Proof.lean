import JvmDerived
import JvmDerived.Pilot.@@N@@Statement
import JvmDerived.Pilot.@@N@@Code
set_option linter.unusedVariables false
set_option linter.unusedSimpArgs false
namespace Jvm.Own
open Sem ClassFile Op Lib Jvm.Stand Jvm.Free Jvm.LawKit Jvm.RoadKit
/-! ## 1. A machine over abstract states: refs are numbers of objects -/
abbrev Ob := Sum (Nat × List Value) (FieldType × List Value)
abbrev AH := List Ob
abbrev Act := List Value → AH → Nat → Nat → Option (List Value × AH × Nat × Nat)
abbrev St := Nat × List Slot × List Value × AH × Nat × Nat
abbrev ORes := Option Value × AH
def il : Instr → Nat
  | .aload _ | .astore _ | .iload _ | .istore _ | .lload _ | .lstore _ | .bipush _ | .ldc _ | .newarray _ => 2
  | .sipush _ | .iinc _ _ | .goto _ | .if_icmp _ _ | .ifCond _ _ | .if_acmp _ _ | .ifnull _ | .ifnonnull _ | .ldc_w _ | .ldc2_w _ | .getfield _ | .putfield _ | .getstatic _ | .putstatic _ | .new _ | .anewarray _ | .checkcast _ | .instanceof _ | .invokestatic _ | .invokespecial _ | .invokevirtual _ => 3
  | .invokeinterface _ _ => 5
  | _ => 1
def dec (code : ByteArray) (pc : Nat) : Option Instr :=
  match decode code pc with
  | .ok (i, len) => if len = il i then some i else none
  | .error _ => none
theorem dec_spec {code : ByteArray} {pc : Nat} {i : Instr} (h : dec code pc = some i) : decode code pc = .ok (i, il i) := by
  unfold dec at h
  split at h
  · rename_i j len hd
    split at h
    · rename_i hl; cases h; rw [hd, hl]
    · cases h
  · cases h
def gI (L : List Slot) (k : Nat) : Option Int32 := match L[k]? with | some (.val (.int v)) => some v | _ => none
def gL (L : List Slot) (k : Nat) : Option Int64 := match L[k]? with | some (.val (.long v)) => some v | _ => none
def gA (L : List Slot) (k : Nat) : Option Value := match L[k]? with | some (.val (.ref a)) => some (.ref a) | some (.val .null) => some .null | _ => none
def st1 (L : List Slot) (k : Nat) (v : Value) : Option (List Slot) := match L[k]? with
  | some .unset => some (L.set k (.val v))
  | some (.val (.int _)) => some (L.set k (.val v))
  | some (.val (.ref _)) => some (L.set k (.val v))
  | some (.val .null) => some (L.set k (.val v))
  | _ => none
def st2 (L : List Slot) (k : Nat) (x : Int64) : Option (List Slot) := match L[k]?, L[k + 1]? with
  | some .unset, some .unset => some ((L.set k (.val (.long x))).set (k + 1) .second)
  | some (.val (.long _)), some .second => some ((L.set k (.val (.long x))).set (k + 1) .second)
  | _, _ => none
def pI : List Value → (Int32 → List Value → Option ORes) → Option ORes | .int x :: r, f => f x r | _, _ => none
def pL : List Value → (Int64 → List Value → Option ORes) → Option ORes | .long x :: r, f => f x r | _, _ => none
def pA : List Value → (Value → List Value → Option ORes) → Option ORes | .ref a :: r, f => f (.ref a) r | .null :: r, f => f .null r | _, _ => none
def pR : List Value → (Nat → List Value → Option ORes) → Option ORes | .ref a :: r, f => f a r | _, _ => none
def p1 : List Value → (Value → List Value → Option ORes) → Option ORes | .int a :: r, f => f (.int a) r | .ref a :: r, f => f (.ref a) r | .null :: r, f => f .null r | _, _ => none
def br (b : Bool) (pc : Nat) (o : Int) (f : Nat → Option ORes) : Option ORes := if 0 ≤ (pc : Int) + o then (bif b then f ((pc : Int) + o).toNat else f (pc + 3)) else none
def arr (H : AH) (k : Nat) : Option (FieldType × List Value) := match H[k]? with | some (.inr q) => some q | _ => none
def ald (ok : FieldType → Bool) (S : List Value) (H : AH) (f : Value → List Value → Option ORes) : Option ORes :=
  pI S fun j S => pR S fun a r => (arr H a).bind fun q => if ok q.1 = true ∧ ¬ j < 0 then (q.2[j.toNatClampNeg]?).bind fun v => f v r else none
def ast (ok : FieldType → Bool) (x0 : Nat) (S : List Value) (H : AH) (f : List Value → AH → Option ORes) : Option ORes :=
  pI S fun x S => pI S fun j S => pR S fun a r => (arr H a).bind fun q => if ok q.1 = true ∧ ¬ j < 0 ∧ j.toNatClampNeg < q.2.length ∧ x0 ≤ a then f r (H.set a (.inr (q.1, q.2.set j.toNatClampNeg (.int (nar q.1 x))))) else none
def astL (x0 : Nat) (S : List Value) (H : AH) (f : List Value → AH → Option ORes) : Option ORes :=
  pL S fun x S => pI S fun j S => pR S fun a r => (arr H a).bind fun q => if q.1 = .long ∧ ¬ j < 0 ∧ j.toNatClampNeg < q.2.length ∧ x0 ≤ a then f r (H.set a (.inr (q.1, q.2.set j.toNatClampNeg (.long x)))) else none
def isT (t u : FieldType) : Bool := decide (u = t)
def isBZ : FieldType → Bool | .byte => true | .boolean => true | _ => false
def rI (rt : Option FieldType) (S : List Value) (H : AH) : Option ORes := pI S fun z _ => match rt with
  | some .int => some (some (.int z), H)
  | some .boolean => some (some (.int (z &&& 1)), H)
  | some .byte => some (some (.int z.toInt8.toInt32), H)
  | some .char => some (some (.int z.toUInt32.toUInt16.toUInt32.toInt32), H)
  | some .short => some (some (.int z.toInt16.toInt32), H)
  | _ => none
def rL (rt : Option FieldType) (S : List Value) (H : AH) : Option ORes := pL S fun z _ => match rt with | some .long => some (some (.long z), H) | _ => none
def rA (rt : Option FieldType) (S : List Value) (H : AH) : Option ORes := pA S fun z _ => match rt with | some (.object _) => some (some z, H) | some (.array _) => some (some z, H) | _ => none
def rV (rt : Option FieldType) (S : List Value) (H : AH) : Option ORes := match rt, S with | none, [] => some (none, H) | _, _ => none
def look (q i : Nat) : List (Nat × Nat × Act) → Option Act
  | [] => none
  | x :: r => if x.1 = q ∧ x.2.1 = i then some x.2.2 else look q i r
def spc (E : List (Nat × Nat × Act)) (q i : Nat) (S : List Value) (H : AH) (cs ss : Nat) (f : List Value → AH → Nat → Nat → Option ORes) : Option ORes :=
  (look q i E).bind fun act => (act S H cs ss).bind fun r => f r.1 r.2.1 r.2.2.1 r.2.2.2
def atn : ArrayType → Nat | .boolean => 0 | .char => 1 | .float => 2 | .double => 3 | .byte => 4 | .short => 5 | .int => 6 | .long => 7
def aty : Nat → ArrayType | 0 => .boolean | 1 => .char | 2 => .float | 3 => .double | 4 => .byte | 5 => .short | 6 => .int | _ => .long
def insOf (q i : Nat) : Instr := match q with
  | 0 => .ldc i | 1 => .ldc_w i | 2 => .ldc2_w i | 3 => .getfield i | 4 => .putfield i | 5 => .getstatic i | 6 => .new i | 7 => .invokestatic i | 8 => .invokespecial i | 9 => .invokevirtual i
  | 10 => .checkcast i | 11 => .instanceof i | 12 => .anewarray i | 13 => .newarray (aty i) | _ => .putstatic i
def refEq : Value → Value → Bool | .ref a, .ref b => decide (a = b) | .null, .null => true | _, _ => false
def ex (rt : Option FieldType) (E : List (Nat × Nat × Act)) (x0 : Nat) (k : St → Option ORes) (i : Instr) (pc : Nat) (L : List Slot) (S : List Value) (H : AH) (cs ss : Nat) : Option ORes := match i with
  | .iload n => (gI L n).bind fun v => k (pc + 2, L, .int v :: S, H, cs, ss)
  | .iload_n n => (gI L n.val).bind fun v => k (pc + 1, L, .int v :: S, H, cs, ss)
  | .lload n => (gL L n).bind fun v => k (pc + 2, L, .long v :: S, H, cs, ss)
  | .lload_n n => (gL L n.val).bind fun v => k (pc + 1, L, .long v :: S, H, cs, ss)
  | .aload n => (gA L n).bind fun v => k (pc + 2, L, v :: S, H, cs, ss)
  | .aload_n n => (gA L n.val).bind fun v => k (pc + 1, L, v :: S, H, cs, ss)
  | .istore n => pI S fun x r => (st1 L n (.int x)).bind fun L' => k (pc + 2, L', r, H, cs, ss)
  | .istore_n n => pI S fun x r => (st1 L n.val (.int x)).bind fun L' => k (pc + 1, L', r, H, cs, ss)
  | .lstore n => pL S fun x r => (st2 L n x).bind fun L' => k (pc + 2, L', r, H, cs, ss)
  | .lstore_n n => pL S fun x r => (st2 L n.val x).bind fun L' => k (pc + 1, L', r, H, cs, ss)
  | .astore n => pA S fun x r => (st1 L n x).bind fun L' => k (pc + 2, L', r, H, cs, ss)
  | .astore_n n => pA S fun x r => (st1 L n.val x).bind fun L' => k (pc + 1, L', r, H, cs, ss)
  | .iinc n c => (gI L n).bind fun v => (st1 L n (.int (v + Int32.ofInt c))).bind fun L' => k (pc + 3, L', S, H, cs, ss)
  | .iconst c => k (pc + 1, L, .int (Int32.ofInt c) :: S, H, cs, ss)
  | .bipush c => k (pc + 2, L, .int (Int8.ofInt c).toInt32 :: S, H, cs, ss)
  | .sipush c => k (pc + 3, L, .int (Int16.ofInt c).toInt32 :: S, H, cs, ss)
  | .lconst c => k (pc + 1, L, .long (Int64.ofNat c) :: S, H, cs, ss)
  | .aconst_null => k (pc + 1, L, .null :: S, H, cs, ss)
  | .iadd => pI S fun y S => pI S fun x r => k (pc + 1, L, .int (x + y) :: r, H, cs, ss)
  | .isub => pI S fun y S => pI S fun x r => k (pc + 1, L, .int (x - y) :: r, H, cs, ss)
  | .imul => pI S fun y S => pI S fun x r => k (pc + 1, L, .int (x * y) :: r, H, cs, ss)
  | .iand => pI S fun y S => pI S fun x r => k (pc + 1, L, .int (x &&& y) :: r, H, cs, ss)
  | .ior => pI S fun y S => pI S fun x r => k (pc + 1, L, .int (x ||| y) :: r, H, cs, ss)
  | .ixor => pI S fun y S => pI S fun x r => k (pc + 1, L, .int (x ^^^ y) :: r, H, cs, ss)
  | .ishl => pI S fun y S => pI S fun x r => k (pc + 1, L, .int (x <<< (y &&& 31)) :: r, H, cs, ss)
  | .ishr => pI S fun y S => pI S fun x r => k (pc + 1, L, .int (x >>> (y &&& 31)) :: r, H, cs, ss)
  | .iushr => pI S fun y S => pI S fun x r => k (pc + 1, L, .int ((x.toUInt32 >>> (y &&& 31).toUInt32).toInt32) :: r, H, cs, ss)
  | .idiv => pI S fun y S => pI S fun x r => if y = 0 then none else k (pc + 1, L, .int (x / y) :: r, H, cs, ss)
  | .irem => pI S fun y S => pI S fun x r => if y = 0 then none else k (pc + 1, L, .int (x % y) :: r, H, cs, ss)
  | .ineg => pI S fun x r => k (pc + 1, L, .int (-x) :: r, H, cs, ss)
  | .i2b => pI S fun x r => k (pc + 1, L, .int x.toInt8.toInt32 :: r, H, cs, ss)
  | .i2c => pI S fun x r => k (pc + 1, L, .int x.toUInt32.toUInt16.toUInt32.toInt32 :: r, H, cs, ss)
  | .i2s => pI S fun x r => k (pc + 1, L, .int x.toInt16.toInt32 :: r, H, cs, ss)
  | .i2l => pI S fun x r => k (pc + 1, L, .long x.toInt64 :: r, H, cs, ss)
  | .l2i => pL S fun x r => k (pc + 1, L, .int x.toInt32 :: r, H, cs, ss)
  | .lneg => pL S fun x r => k (pc + 1, L, .long (-x) :: r, H, cs, ss)
  | .ladd => pL S fun y S => pL S fun x r => k (pc + 1, L, .long (x + y) :: r, H, cs, ss)
  | .lsub => pL S fun y S => pL S fun x r => k (pc + 1, L, .long (x - y) :: r, H, cs, ss)
  | .lmul => pL S fun y S => pL S fun x r => k (pc + 1, L, .long (x * y) :: r, H, cs, ss)
  | .land => pL S fun y S => pL S fun x r => k (pc + 1, L, .long (x &&& y) :: r, H, cs, ss)
  | .lor => pL S fun y S => pL S fun x r => k (pc + 1, L, .long (x ||| y) :: r, H, cs, ss)
  | .lxor => pL S fun y S => pL S fun x r => k (pc + 1, L, .long (x ^^^ y) :: r, H, cs, ss)
  | .lshl => pI S fun y S => pL S fun x r => k (pc + 1, L, .long (x <<< (y &&& 0x3f).toInt64) :: r, H, cs, ss)
  | .lshr => pI S fun y S => pL S fun x r => k (pc + 1, L, .long (x >>> (y &&& 0x3f).toInt64) :: r, H, cs, ss)
  | .lushr => pI S fun y S => pL S fun x r => k (pc + 1, L, .long ((x.toUInt64 >>> (y &&& 0x3f).toInt64.toUInt64).toInt64) :: r, H, cs, ss)
  | .ldiv => pL S fun y S => pL S fun x r => if y = 0 then none else k (pc + 1, L, .long (x / y) :: r, H, cs, ss)
  | .lrem => pL S fun y S => pL S fun x r => if y = 0 then none else k (pc + 1, L, .long (x % y) :: r, H, cs, ss)
  | .lcmp => pL S fun y S => pL S fun x r => k (pc + 1, L, .int (lcmpW x y) :: r, H, cs, ss)
  | .dup => p1 S fun v r => k (pc + 1, L, v :: v :: r, H, cs, ss)
  | .pop => p1 S fun _ r => k (pc + 1, L, r, H, cs, ss)
  | .dup_x1 => p1 S fun x S => p1 S fun y r => k (pc + 1, L, x :: y :: x :: r, H, cs, ss)
  | .dup2 => p1 S fun x S => p1 S fun y r => k (pc + 1, L, x :: y :: x :: y :: r, H, cs, ss)
  | .goto o => if 0 ≤ (pc : Int) + o then k (((pc : Int) + o).toNat, L, S, H, cs, ss) else none
  | .ifCond cd o => pI S fun x r => br (ifCond.holds cd x) pc o fun q => k (q, L, r, H, cs, ss)
  | .if_icmp cd o => pI S fun y S => pI S fun x r => br (if_icmp.holds cd x y) pc o fun q => k (q, L, r, H, cs, ss)
  | .ifnull o => pA S fun v r => br (refEq v .null) pc o fun q => k (q, L, r, H, cs, ss)
  | .ifnonnull o => pA S fun v r => br (!refEq v .null) pc o fun q => k (q, L, r, H, cs, ss)
  | .if_acmp cd o => pA S fun y S => pA S fun x r => br (acV cd (refEq x y)) pc o fun q => k (q, L, r, H, cs, ss)
  | .arraylength => pR S fun a r => (arr H a).bind fun q => k (pc + 1, L, .int q.2.length.toInt32 :: r, H, cs, ss)
  | .iaload => ald (isT .int) S H fun v r => k (pc + 1, L, v :: r, H, cs, ss)
  | .baload => ald isBZ S H fun v r => k (pc + 1, L, v :: r, H, cs, ss)
  | .caload => ald (isT .char) S H fun v r => k (pc + 1, L, v :: r, H, cs, ss)
  | .laload => ald (isT .long) S H fun v r => k (pc + 1, L, v :: r, H, cs, ss)
  | .aaload => ald FieldType.isReference S H fun v r => k (pc + 1, L, v :: r, H, cs, ss)
  | .iastore => ast (isT .int) x0 S H fun r H' => k (pc + 1, L, r, H', cs, ss)
  | .bastore => ast (isT .byte) x0 S H fun r H' => k (pc + 1, L, r, H', cs, ss)
  | .castore => ast (isT .char) x0 S H fun r H' => k (pc + 1, L, r, H', cs, ss)
  | .lastore => astL x0 S H fun r H' => k (pc + 1, L, r, H', cs, ss)
  | .ldc i => spc E 0 i S H cs ss fun S' H' cs' ss' => k (pc + 2, L, S', H', cs', ss')
  | .ldc_w i => spc E 1 i S H cs ss fun S' H' cs' ss' => k (pc + 3, L, S', H', cs', ss')
  | .ldc2_w i => spc E 2 i S H cs ss fun S' H' cs' ss' => k (pc + 3, L, S', H', cs', ss')
  | .getfield i => spc E 3 i S H cs ss fun S' H' cs' ss' => k (pc + 3, L, S', H', cs', ss')
  | .putfield i => spc E 4 i S H cs ss fun S' H' cs' ss' => k (pc + 3, L, S', H', cs', ss')
  | .getstatic i => spc E 5 i S H cs ss fun S' H' cs' ss' => k (pc + 3, L, S', H', cs', ss')
  | .new i => spc E 6 i S H cs ss fun S' H' cs' ss' => k (pc + 3, L, S', H', cs', ss')
  | .invokestatic i => spc E 7 i S H cs ss fun S' H' cs' ss' => k (pc + 3, L, S', H', cs', ss')
  | .invokespecial i => spc E 8 i S H cs ss fun S' H' cs' ss' => k (pc + 3, L, S', H', cs', ss')
  | .invokevirtual i => spc E 9 i S H cs ss fun S' H' cs' ss' => k (pc + 3, L, S', H', cs', ss')
  | .checkcast i => spc E 10 i S H cs ss fun S' H' cs' ss' => k (pc + 3, L, S', H', cs', ss')
  | .instanceof i => spc E 11 i S H cs ss fun S' H' cs' ss' => k (pc + 3, L, S', H', cs', ss')
  | .anewarray i => spc E 12 i S H cs ss fun S' H' cs' ss' => k (pc + 3, L, S', H', cs', ss')
  | .newarray t => spc E 13 (atn t) S H cs ss fun S' H' cs' ss' => k (pc + 2, L, S', H', cs', ss')
  | .ireturn => rI rt S H
  | .lreturn => rL rt S H
  | .areturn => rA rt S H
  | .return_ => rV rt S H
  | _ => none
def orun (code : ByteArray) (rt : Option FieldType) (E : List (Nat × Nat × Act)) (x0 : Nat) : Nat → St → Option ORes
  | 0, _ => none
  | n + 1, s => (dec code s.1).bind fun i => ex rt E x0 (orun code rt E x0 n) i s.1 s.2.1 s.2.2.1 s.2.2.2.1 s.2.2.2.2.1 s.2.2.2.2.2
theorem orun_succ {code : ByteArray} {rt : Option FieldType} {E : List (Nat × Nat × Act)} {x0 n pc : Nat} {L : List Slot} {S : List Value} {H : AH} {cs ss : Nat} :
    orun code rt E x0 (n + 1) (pc, L, S, H, cs, ss) = (dec code pc).bind fun i => ex rt E x0 (orun code rt E x0 n) i pc L S H cs ss := rfl
/-! ## 2. What an abstract state stands for -/
def cv (σ : Nat → Nat) : Value → Value | .ref k => .ref (σ k) | v => v
def csl (σ : Nat → Nat) : Slot → Slot | .val v => .val (cv σ v) | x => x
def cL (σ : Nat → Nat) (L : List Slot) : Array Slot := (L.map (csl σ)).toArray
abbrev CD := String × List (String × String × String)
def RepO (Z : State) (σ : Nat → Nat) (K : List CD) (h : Heap) (a : Addr) : Ob → Prop
  | .inl (c, vs) => ∃ C fs, K[c]? = some (C, fs) ∧ Exa Z h a C ∧ ∀ (j : Nat) (v : Value), vs[j]? = some v → ∃ O n d, fs[j]? = some (O, n, d) ∧ Fld Z h a O n d (cv σ v)
  | .inr (ty, vs) => ∃ cell : Cell, Arr Z h a cell ty ∧ cell.slots = (vs.map (cv σ)).toArray ∧ vs.length < 2 ^ 31 ∧ (∀ v ∈ vs, fits ty v = true) ∧ (Z.heap.size ≤ a → Exa Z h a ("[" ++ ty.toString))
def Rep (Z : State) (σ : Nat → Nat) (x0 n0 : Nat) (K : List CD) (h : Heap) (H : AH) : Prop :=
  h.size + x0 = n0 + H.length ∧ x0 ≤ H.length ∧ Old Z n0 h ∧ ∀ (k : Nat) (o : Ob), H[k]? = some o → RepO Z σ K h (σ k) o
def Sg (σ : Nat → Nat) (x0 n0 : Nat) : Prop := (∀ k, x0 ≤ k → σ k + x0 = n0 + k) ∧ (∀ i, i < x0 → σ i < n0) ∧ ∀ i j, i < x0 → j < x0 → σ i = σ j → i = j
theorem Sg.inj {σ : Nat → Nat} {x0 n0 i j : Nat} (h : Sg σ x0 n0) (e : σ i = σ j) : i = j := by
  obtain ⟨h1, h2, h3⟩ := h
  rcases Nat.lt_or_ge i x0 with a | a <;> rcases Nat.lt_or_ge j x0 with b | b
  · exact h3 i j a b e
  · have := h2 i a; have := h1 j b; omega
  · have := h2 j b; have := h1 i a; omega
  · have := h1 i a; have := h1 j b; omega
theorem Sg.new {σ : Nat → Nat} {x0 n0 k : Nat} (h : Sg σ x0 n0) (q : x0 ≤ k) : n0 ≤ σ k := by have := h.1 k q; omega
def KOk (Z : State) (a0 : Array Value) (K : List CD) : Prop := ∀ (c : Nat) (C : String) (fs : List (String × String × String)), K[c]? = some (C, fs) →
  (∃ kk, (Jvm.Cond.instantiable C kk).before a0 Z = true) ∧ (∀ (i : Nat) (f : String × String × String), fs[i]? = some f → Laid Z a0 C f.1 f.2.1 f.2.2 ∧ ∃ ty, parseFieldDescriptor f.2.2 = some ty) ∧
  ∀ (i j : Nat) (f g : String × String × String), fs[i]? = some f → fs[j]? = some g → f.2.1 = g.2.1 → i = j
section Reps
variable {Z : State} {σ : Nat → Nat} {x0 n0 : Nat} {K : List CD} {h h' : Heap} {H : AH} {a0 : Array Value}
theorem RepO.ext {a : Addr} {o : Ob} (E : Ext h h') (R : RepO Z σ K h a o) : RepO Z σ K h' a o := by
  rcases o with ⟨c, vs⟩ | ⟨ty, vs⟩
  · obtain ⟨C, fs, h1, h2, h3⟩ := R
    exact ⟨C, fs, h1, h2.ext E, fun j v q => by obtain ⟨O, n, d, q1, q2⟩ := h3 j v q; exact ⟨O, n, d, q1, q2.ext E⟩⟩
  · obtain ⟨cell, h1, h2, h3, h4, h5⟩ := R
    exact ⟨cell, h1.ext E, h2, h3, h4, fun q => (h5 q).ext E⟩
theorem RepO.other {a b : Addr} {o : Ob} {sl : Nat} {v : Value} (W : Wr h h' a sl v) (R : RepO Z σ K h b o) (ne : b ≠ a) : RepO Z σ K h' b o := by
  rcases o with ⟨c, vs⟩ | ⟨ty, vs⟩
  · obtain ⟨C, fs, h1, h2, h3⟩ := R
    exact ⟨C, fs, h1, h2.wr W, fun j v q => by obtain ⟨O, n, d, q1, q2⟩ := h3 j v q; exact ⟨O, n, d, q1, q2.other W (Or.inl ne)⟩⟩
  · obtain ⟨cell, h1, h2, h3, h4, h5⟩ := R
    exact ⟨cell, h1.other W ne, h2, h3, h4, fun q => (h5 q).wr W⟩
theorem Rep.push (R : Rep Z σ x0 n0 K h H) (E : Ext h h') (hs : h'.size = h.size + 1) {o : Ob} (ho : RepO Z σ K h' (σ H.length) o) : Rep Z σ x0 n0 K h' (H ++ [o]) := by
  obtain ⟨r1, r2, r3, r4⟩ := R
  refine ⟨by rw [hs]; simp; omega, by simp; omega, r3.ext E, fun k o' q => ?_⟩
  rcases Nat.lt_trichotomy k H.length with a | a | a
  · rw [List.getElem?_append_left a] at q; exact (r4 k o' q).ext E
  · subst a; simp at q; subst q; exact ho
  · rw [List.getElem?_append_right (Nat.le_of_lt a), List.getElem?_eq_none (by simp; omega)] at q; cases q
theorem Rep.addr (S : Sg σ x0 n0) (R : Rep Z σ x0 n0 K h H) : σ H.length = h.size := by have := S.1 H.length R.2.1; have := R.1; omega
theorem Rep.write (S : Sg σ x0 n0) (R : Rep Z σ x0 n0 K h H) {k sl : Nat} {v : Value} {o : Ob} (hk : x0 ≤ k) (W : Wr h h' (σ k) sl v) (ho : RepO Z σ K h' (σ k) o) : Rep Z σ x0 n0 K h' (H.set k o) := by
  obtain ⟨r1, r2, r3, r4⟩ := R
  refine ⟨by rw [W.size]; simpa using r1, by simpa using r2, r3.wr W (S.new hk), fun j o' q => ?_⟩
  by_cases e : k = j
  · subst e
    by_cases hl : k < H.length
    · rw [List.getElem?_set_self hl] at q; cases q; exact ho
    · rw [List.getElem?_eq_none (by simp; omega)] at q; cases q
  · rw [List.getElem?_set_ne e] at q
    exact (r4 j o' q).other W fun u => e (S.inj u).symm
theorem cv_fits (ty : FieldType) (v : Value) : fits ty (cv σ v) = fits ty v := by cases v <;> first | rfl | (cases ty <;> rfl)
theorem RepO.fld (KO : KOk Z a0 K) {a : Addr} {c j : Nat} {vs : List Value} {v : Value} {C O n d : String} {fs : List (String × String × String)} (hC : K[c]? = some (C, fs)) (hj : fs[j]? = some (O, n, d)) (R : RepO Z σ K h a (.inl (c, vs))) (W : Wr h h' a (Jvm.RoadKit.slotOf Z O n d) (cv σ v)) : RepO Z σ K h' a (.inl (c, vs.set j v)) := by
  obtain ⟨C', fs', h1, h2, h3⟩ := R
  cases hC.symm.trans h1
  obtain ⟨-, k2, k3⟩ := KO c C fs hC
  refine ⟨C, fs, hC, h2.wr W, fun i w q => ?_⟩
  by_cases e : j = i
  · subst e
    by_cases hl : j < vs.length
    · rw [List.getElem?_set_self hl] at q; cases q
      obtain ⟨O', n', d', q1, q2⟩ := h3 j _ (List.getElem?_eq_getElem hl)
      cases hj.symm.trans q1
      exact ⟨O, n, d, hj, q2.same W⟩
    · rw [List.getElem?_eq_none (by simp; omega)] at q; cases q
  · rw [List.getElem?_set_ne e] at q
    obtain ⟨O', n', d', q1, q2⟩ := h3 i w q
    obtain ⟨l1, t1, p1⟩ := k2 j _ hj
    obtain ⟨l2, t2, p2⟩ := k2 i _ q1
    exact ⟨O', n', d', q1, q2.other W (Or.inr (slot_ne l2 l1 (fun u => e (k3 j i _ _ hj q1 u.symm)) p2 p1))⟩
theorem RepO.arr {a : Addr} {i : Nat} {ty : FieldType} {vs : List Value} {v : Value} (R : RepO Z σ K h a (.inr (ty, vs))) (hf : fits ty v = true) (W : Wr h h' a i (cv σ v)) : RepO Z σ K h' a (.inr (ty, vs.set i v)) := by
  obtain ⟨cell, h1, h2, h3, h4, h5⟩ := R
  refine ⟨_, h1.same W, ?_, by simpa using h3, fun w hw => ?_, fun q => (h5 q).wr W⟩
  · simp [Cell.setSlot, h2]
  · rcases List.mem_or_eq_of_mem_set hw with q | rfl
    · exact h4 w q
    · exact hf
theorem arr_some {H : AH} {k : Nat} {q : FieldType × List Value} (e : arr H k = some q) : H[k]? = some (.inr q) := by
  unfold arr at e; split at e
  · rename_i q' hq; cases e; exact hq
  · cases e
end Reps
/-! ## 3. One step of the machine is a orun of the JVM -/
section Sound
def Good (p : Program) (l : Launch) (e : Env) (R : Room) (s : State) (m : MethodId) (args : Array Value) (below : List Frame) (meth : Method) (c : Code) (Z : State) (σ : Nat → Nat) (x0 n0 : Nat) (K : List CD) (i : Instr) (act : Act) : Prop :=
  ∀ (T : State) (locs : List Loc) (cs ss pc : Nat) (L : List Slot) (S : List Value) (H : AH) (S' : List Value) (H' : AH) (cs' ss' : Nat), Stand p l e R s m args below meth c T locs cs ss → decode c.code pc = .ok (i, il i) → L.length = c.maxLocals → Rep Z σ x0 n0 K T.heap H → Fr n0 locs → cs ≤ R.cells ∧ ss ≤ R.slots → act S H cs ss = some (S', H', cs', ss') →
    ∃ T' locs', Stand p l e R s m args below meth c T' locs' cs' ss' ∧ Rep Z σ x0 n0 K T'.heap H' ∧ Fr n0 locs' ∧ (cs' ≤ R.cells ∧ ss' ≤ R.slots) ∧ ∀ target, Steps p.tables e below (T'.setTop (mkF m (pc + il i) (cL σ L) (S'.map (cv σ)))) target → Steps p.tables e below (T.setTop (mkF m pc (cL σ L) (S.map (cv σ)))) target
def AllGood (p : Program) (l : Launch) (e : Env) (R : Room) (s : State) (m : MethodId) (args : Array Value) (below : List Frame) (meth : Method) (c : Code) (Z : State) (σ : Nat → Nat) (x0 n0 : Nat) (K : List CD) : List (Nat × Nat × Act) → Prop
  | [] => True
  | x :: r => Good p l e R s m args below meth c Z σ x0 n0 K (insOf x.1 x.2.1) x.2.2 ∧ AllGood p l e R s m args below meth c Z σ x0 n0 K r
/-- the end: it has returned v, over the heap H' -/
def Done (p : Program) (e : Env) (R : Room) (s : State) (below : List Frame) (Z : State) (σ : Nat → Nat) (x0 n0 : Nat) (K : List CD) (r : ORes) (T : State) (g : JFrame) : Prop :=
  ∃ t, Steps p.tables e below (T.setTop g) t ∧ t.status = .running ∧ Ended t below (.returned (r.1.map (cv σ))) ∧ Rep Z σ x0 n0 K t.heap r.2 ∧ ∃ L, Fr n0 L ∧ s.WarmedH t.vm ∧ s.sameButNew ({ t with vm := s.vm } : State) L R.cells R.slots
variable {p : Program} {l : Launch} {e : Env} {R : Room} {s : State} {m : MethodId} {args : Array Value} {below : List Frame} {meth : Method} {c : Code} {Z : State} {σ : Nat → Nat} {x0 n0 : Nat} {K : List CD}
theorem look_good {E : List (Nat × Nat × Act)} {q i : Nat} {act : Act} (h : AllGood p l e R s m args below meth c Z σ x0 n0 K E) (hl : look q i E = some act) : Good p l e R s m args below meth c Z σ x0 n0 K (insOf q i) act := by
  induction E with
  | nil => cases hl
  | cons x r ih =>
    unfold look at hl
    split at hl
    · rename_i hq; cases hl; obtain ⟨rfl, rfl⟩ := hq; exact h.1
    · exact ih h.2 hl
theorem Done.step {r : ORes} {T T' : State} {g g' : JFrame} (D : Done p e R s below Z σ x0 n0 K r T' g') (st : ∀ target, Steps p.tables e below (T'.setTop g') target → Steps p.tables e below (T.setTop g) target) : Done p e R s below Z σ x0 n0 K r T g := by
  obtain ⟨t, h1, h2⟩ := D; exact ⟨t, st _ h1, h2⟩
theorem gI_ok {L : List Slot} {k : Nat} {v : Int32} (h : gI L k = some v) : (cL σ L)[k]? = some (.val (.int v)) := by
  unfold gI at h; split at h
  · rename_i w hw; cases h; simp [cL, hw, csl, cv]
  · cases h
theorem gL_ok {L : List Slot} {k : Nat} {v : Int64} (h : gL L k = some v) : (cL σ L)[k]? = some (.val (.long v)) := by
  unfold gL at h; split at h
  · rename_i w hw; cases h; simp [cL, hw, csl, cv]
  · cases h
theorem gA_ok {L : List Slot} {k : Nat} {v : Value} (h : gA L k = some v) : (cL σ L)[k]? = some (.val (cv σ v)) ∧ (cv σ v).isRef = true := by
  unfold gA at h; split at h
  · rename_i w hw; cases h; simp [cL, hw, csl, cv, Value.isRef]
  · rename_i hw; cases h; simp [cL, hw, csl, cv, Value.isRef]
  · cases h
theorem st1_ok {L L' : List Slot} {k : Nat} {v : Value} (h : st1 L k v = some L') (hv : v.category = 1) : storeLocals (cL σ L) k (cv σ v) = some (cL σ L') ∧ L'.length = L.length := by
  have hv' : (cv σ v).category = 1 := by cases v <;> first | rfl | exact hv
  have key : ∀ o : Slot, L[k]? = some o → One (csl σ o) → L' = L.set k (.val v) → storeLocals (cL σ L) k (cv σ v) = some (cL σ L') ∧ L'.length = L.length := by
    intro o ho h1 e
    subst e
    refine ⟨?_, by simp⟩
    rw [XS.store1 (o := csl σ o) (by simp [cL, ho]) h1 hv']
    simp [cL, csl, List.map_set]
  unfold st1 at h; split at h <;> first | cases h | skip
  all_goals (rename_i ho; exact key _ ho (by first | exact One.u | exact One.val rfl) rfl)
theorem st2_ok {L L' : List Slot} {k : Nat} {x : Int64} (h : st2 L k x = some L') : storeLocals (cL σ L) k (.long x) = some (cL σ L') ∧ L'.length = L.length := by
  unfold st2 at h; split at h
  · rename_i h1 h2
    cases h
    refine ⟨?_, by simp⟩
    obtain ⟨b1, g1⟩ := List.getElem?_eq_some_iff.mp h1
    obtain ⟨b2, g2⟩ := List.getElem?_eq_some_iff.mp h2
    simp [storeLocals, storeSelf, setAt, cL, csl, cv, h1, h2, b1, b2, g1, g2, Value.category, List.map_set, List.getElem?_set]
  · rename_i y h1 h2
    cases h
    refine ⟨?_, by simp⟩
    obtain ⟨b1, g1⟩ := List.getElem?_eq_some_iff.mp h1
    obtain ⟨b2, g2⟩ := List.getElem?_eq_some_iff.mp h2
    simp [storeLocals, storeSelf, setAt, cL, csl, cv, h1, h2, b1, b2, g1, g2, Value.category, List.map_set, List.getElem?_set]
    rw [List.set_comm _ _ (show k + 1 ≠ k by omega), List.set_set]
  · cases h
theorem pI_ok {S : List Value} {f : Int32 → List Value → Option ORes} {r : ORes} (h : pI S f = some r) : ∃ x S', S = .int x :: S' ∧ f x S' = some r := by
  unfold pI at h; split at h
  · exact ⟨_, _, rfl, h⟩
  · cases h
theorem pL_ok {S : List Value} {f : Int64 → List Value → Option ORes} {r : ORes} (h : pL S f = some r) : ∃ x S', S = .long x :: S' ∧ f x S' = some r := by
  unfold pL at h; split at h
  · exact ⟨_, _, rfl, h⟩
  · cases h
theorem pR_ok {S : List Value} {f : Nat → List Value → Option ORes} {r : ORes} (h : pR S f = some r) : ∃ x S', S = .ref x :: S' ∧ f x S' = some r := by
  unfold pR at h; split at h
  · exact ⟨_, _, rfl, h⟩
  · cases h
theorem pA_ok {S : List Value} {f : Value → List Value → Option ORes} {r : ORes} (h : pA S f = some r) : ∃ x S', S = x :: S' ∧ f x S' = some r ∧ (x = .null ∨ ∃ a, x = .ref a) := by
  unfold pA at h; split at h
  · exact ⟨_, _, rfl, h, Or.inr ⟨_, rfl⟩⟩
  · exact ⟨_, _, rfl, h, Or.inl rfl⟩
  · cases h
theorem p1_ok {S : List Value} {f : Value → List Value → Option ORes} {r : ORes} (h : p1 S f = some r) : ∃ x S', S = x :: S' ∧ f x S' = some r ∧ (cv σ x).category = 1 := by
  unfold p1 at h; split at h
  · exact ⟨_, _, rfl, h, rfl⟩
  · exact ⟨_, _, rfl, h, rfl⟩
  · exact ⟨_, _, rfl, h, rfl⟩
  · cases h
theorem bind_ok {α : Type} {o : Option α} {f : α → Option ORes} {r : ORes} (h : o.bind f = some r) : ∃ x, o = some x ∧ f x = some r := Option.bind_eq_some_iff.mp h
theorem br_ok {b : Bool} {pc : Nat} {o : Int} {f : Nat → Option ORes} {r : ORes} (h : br b pc o f = some r) : 0 ≤ (pc : Int) + o ∧ ((b = true ∧ f ((pc : Int) + o).toNat = some r) ∨ (b = false ∧ f (pc + 3) = some r)) := by
  unfold br at h; split at h
  · rename_i q; cases b
    · exact ⟨q, Or.inr ⟨rfl, h⟩⟩
    · exact ⟨q, Or.inl ⟨rfl, h⟩⟩
  · cases h
theorem ref_of {x : Value} (h : x = .null ∨ ∃ a, x = .ref a) : (cv σ x).isRef = true ∧ x.category = 1 := by rcases h with rfl | ⟨a, rfl⟩ <;> exact ⟨rfl, rfl⟩
theorem refEq_ok (hsg : Sg σ x0 n0) {x y : Value} (hx : x = .null ∨ ∃ a, x = .ref a) (hy : y = .null ∨ ∃ a, y = .ref a) : decide (cv σ x = cv σ y) = refEq x y := by
  rcases hx with rfl | ⟨a, rfl⟩ <;> rcases hy with rfl | ⟨b, rfl⟩ <;> simp [cv, refEq]
  exact ⟨fun h => hsg.inj h, fun h => by rw [h]⟩
theorem size_cL {L : List Slot} : (cL σ L).size = L.length := by simp [cL]
theorem inB {cell : Cell} {j : Int32} {v : Value} (h : ¬ j < 0) (hv : cell.slots[j.toNatClampNeg]? = some v) : ¬ (j < 0 ∨ cell.slots.size ≤ j.toNatClampNeg) := fun q => q.elim h fun q => by rw [Array.getElem?_eq_none q] at hv; cases hv
set_option maxHeartbeats 4000000 in
theorem ex_sound {rt : Option FieldType} {E : List (Nat × Nat × Act)} {k : St → Option ORes} {res : ORes} (hx : p.tables.exec = Jvm.exec) (hZ : Z.Warmed39 s.vm) (hsg : Sg σ x0 n0) (hrt : meth.sig.returnType = rt) (hlk : meth.locks = false) (hE : AllGood p l e R s m args below meth c Z σ x0 n0 K E)
    (hk : ∀ (T : State) (locs : List Loc) (cs ss pc : Nat) (L : List Slot) (S : List Value) (H : AH), Stand p l e R s m args below meth c T locs cs ss → L.length = c.maxLocals → Rep Z σ x0 n0 K T.heap H → Fr n0 locs → cs ≤ R.cells ∧ ss ≤ R.slots → k (pc, L, S, H, cs, ss) = some res → Done p e R s below Z σ x0 n0 K res T (mkF m pc (cL σ L) (S.map (cv σ))))
    {T : State} {locs : List Loc} {cs ss pc : Nat} {i : Instr} {L : List Slot} {S : List Value} {H : AH} (X : Stand p l e R s m args below meth c T locs cs ss) (hd : decode c.code pc = .ok (i, il i)) (hL : L.length = c.maxLocals) (hR : Rep Z σ x0 n0 K T.heap H) (hF : Fr n0 locs) (hB : cs ≤ R.cells ∧ ss ≤ R.slots)
    (h : ex rt E x0 k i pc L S H cs ss = some res) : Done p e R s below Z σ x0 n0 K res T (mkF m pc (cL σ L) (S.map (cv σ))) := by
  cases i with
  | iload n =>
    dsimp only [ex] at h
    replace h := bind_ok h
    obtain ⟨v, h1, h⟩ := h
    exact (hk _ _ _ _ _ _ _ _ X hL hR hF hB h).step fun t q => XS.iload X.here hx rfl hd (gI_ok h1) q
  | iload_n n =>
    dsimp only [ex] at h
    replace h := bind_ok h
    obtain ⟨v, h1, h⟩ := h
    exact (hk _ _ _ _ _ _ _ _ X hL hR hF hB h).step fun t q => XS.iloadN X.here hx rfl hd (gI_ok h1) q
  | lload n =>
    dsimp only [ex] at h
    replace h := bind_ok h
    obtain ⟨v, h1, h⟩ := h
    exact (hk _ _ _ _ _ _ _ _ X hL hR hF hB h).step fun t q => XS.lload X.here hx rfl hd (gL_ok h1) q
  | lload_n n =>
    dsimp only [ex] at h
    replace h := bind_ok h
    obtain ⟨v, h1, h⟩ := h
    exact (hk _ _ _ _ _ _ _ _ X hL hR hF hB h).step fun t q => XS.lloadN X.here hx rfl hd (gL_ok h1) q
  | aload n =>
    dsimp only [ex] at h
    replace h := bind_ok h
    obtain ⟨v, h1, h⟩ := h
    exact (hk _ _ _ _ _ _ _ _ X hL hR hF hB h).step fun t q => XS.aload X.here hx rfl hd (gA_ok h1).1 (gA_ok (σ := σ) h1).2 q
  | aload_n n =>
    dsimp only [ex] at h
    replace h := bind_ok h
    obtain ⟨v, h1, h⟩ := h
    exact (hk _ _ _ _ _ _ _ _ X hL hR hF hB h).step fun t q => XS.aloadN X.here hx rfl hd (gA_ok h1).1 (gA_ok (σ := σ) h1).2 q
  | istore n =>
    dsimp only [ex] at h
    replace h := pI_ok h
    obtain ⟨x, S1, rfl, h⟩ := h
    replace h := bind_ok h
    obtain ⟨L1, h1, h⟩ := h
    have h2 := st1_ok (σ := σ) h1 rfl
    exact (hk _ _ _ _ _ _ _ _ X (h2.2.trans hL) hR hF hB h).step fun t q => XS.istore X.here hx rfl hd rfl h2.1 q
  | istore_n n =>
    dsimp only [ex] at h
    replace h := pI_ok h
    obtain ⟨x, S1, rfl, h⟩ := h
    replace h := bind_ok h
    obtain ⟨L1, h1, h⟩ := h
    have h2 := st1_ok (σ := σ) h1 rfl
    exact (hk _ _ _ _ _ _ _ _ X (h2.2.trans hL) hR hF hB h).step fun t q => XS.istoreN X.here hx rfl hd rfl h2.1 q
  | lstore n =>
    dsimp only [ex] at h
    replace h := pL_ok h
    obtain ⟨x, S1, rfl, h⟩ := h
    replace h := bind_ok h
    obtain ⟨L1, h1, h⟩ := h
    have h2 := st2_ok (σ := σ) h1
    exact (hk _ _ _ _ _ _ _ _ X (h2.2.trans hL) hR hF hB h).step fun t q => XS.lstore X.here hx rfl hd rfl h2.1 q
  | lstore_n n =>
    dsimp only [ex] at h
    replace h := pL_ok h
    obtain ⟨x, S1, rfl, h⟩ := h
    replace h := bind_ok h
    obtain ⟨L1, h1, h⟩ := h
    have h2 := st2_ok (σ := σ) h1
    exact (hk _ _ _ _ _ _ _ _ X (h2.2.trans hL) hR hF hB h).step fun t q => XS.lstoreN X.here hx rfl hd rfl h2.1 q
  | astore n =>
    dsimp only [ex] at h
    replace h := pA_ok h
    obtain ⟨x, S1, rfl, h, hr⟩ := h
    replace h := bind_ok h
    obtain ⟨L1, h1, h⟩ := h
    have h2 := st1_ok (σ := σ) h1 (ref_of (σ := σ) hr).2
    exact (hk _ _ _ _ _ _ _ _ X (h2.2.trans hL) hR hF hB h).step fun t q => XS.astore X.here hx rfl hd rfl (ref_of hr).1 h2.1 q
  | astore_n n =>
    dsimp only [ex] at h
    replace h := pA_ok h
    obtain ⟨x, S1, rfl, h, hr⟩ := h
    replace h := bind_ok h
    obtain ⟨L1, h1, h⟩ := h
    have h2 := st1_ok (σ := σ) h1 (ref_of (σ := σ) hr).2
    exact (hk _ _ _ _ _ _ _ _ X (h2.2.trans hL) hR hF hB h).step fun t q => XS.astoreN X.here hx rfl hd rfl (ref_of hr).1 h2.1 q
  | iinc n cst =>
    dsimp only [ex] at h
    replace h := bind_ok h
    obtain ⟨v, h1, h⟩ := h
    replace h := bind_ok h
    obtain ⟨L1, h2, h⟩ := h
    have h2 := st1_ok (σ := σ) h2 rfl
    exact (hk _ _ _ _ _ _ _ _ X (h2.2.trans hL) hR hF hB h).step fun t q => XS.iinc X.here hx rfl hd (gI_ok h1) h2.1 q
  | iconst cst =>
    dsimp only [ex] at h
    exact (hk _ _ _ _ _ _ _ _ X hL hR hF hB h).step fun t q => XS.iconst X.here hx rfl hd q
  | bipush cst =>
    dsimp only [ex] at h
    exact (hk _ _ _ _ _ _ _ _ X hL hR hF hB h).step fun t q => XS.bipush X.here hx rfl hd q
  | sipush cst =>
    dsimp only [ex] at h
    exact (hk _ _ _ _ _ _ _ _ X hL hR hF hB h).step fun t q => XS.sipush X.here hx rfl hd q
  | lconst cst =>
    dsimp only [ex] at h
    exact (hk _ _ _ _ _ _ _ _ X hL hR hF hB h).step fun t q => XS.lconst X.here hx rfl hd q
  | aconst_null =>
    dsimp only [ex] at h
    exact (hk _ _ _ _ _ _ _ _ X hL hR hF hB h).step fun t q => XS.aconstNull X.here hx rfl hd q
  | iadd =>
    dsimp only [ex] at h
    replace h := pI_ok h
    obtain ⟨y, S1, rfl, h⟩ := h
    replace h := pI_ok h
    obtain ⟨x, S2, rfl, h⟩ := h
    exact (hk _ _ _ _ _ _ _ _ X hL hR hF hB h).step fun t q => XS.iadd X.here hx rfl hd rfl q
  | isub =>
    dsimp only [ex] at h
    replace h := pI_ok h
    obtain ⟨y, S1, rfl, h⟩ := h
    replace h := pI_ok h
    obtain ⟨x, S2, rfl, h⟩ := h
    exact (hk _ _ _ _ _ _ _ _ X hL hR hF hB h).step fun t q => XS.isub X.here hx rfl hd rfl q
  | imul =>
    dsimp only [ex] at h
    replace h := pI_ok h
    obtain ⟨y, S1, rfl, h⟩ := h
    replace h := pI_ok h
    obtain ⟨x, S2, rfl, h⟩ := h
    exact (hk _ _ _ _ _ _ _ _ X hL hR hF hB h).step fun t q => XS.imul X.here hx rfl hd rfl q
  | iand =>
    dsimp only [ex] at h
    replace h := pI_ok h
    obtain ⟨y, S1, rfl, h⟩ := h
    replace h := pI_ok h
    obtain ⟨x, S2, rfl, h⟩ := h
    exact (hk _ _ _ _ _ _ _ _ X hL hR hF hB h).step fun t q => XS.iand X.here hx rfl hd rfl q
  | ior =>
    dsimp only [ex] at h
    replace h := pI_ok h
    obtain ⟨y, S1, rfl, h⟩ := h
    replace h := pI_ok h
    obtain ⟨x, S2, rfl, h⟩ := h
    exact (hk _ _ _ _ _ _ _ _ X hL hR hF hB h).step fun t q => XS.ior X.here hx rfl hd rfl q
  | ixor =>
    dsimp only [ex] at h
    replace h := pI_ok h
    obtain ⟨y, S1, rfl, h⟩ := h
    replace h := pI_ok h
    obtain ⟨x, S2, rfl, h⟩ := h
    exact (hk _ _ _ _ _ _ _ _ X hL hR hF hB h).step fun t q => XS.ixor X.here hx rfl hd rfl q
  | ishl =>
    dsimp only [ex] at h
    replace h := pI_ok h
    obtain ⟨y, S1, rfl, h⟩ := h
    replace h := pI_ok h
    obtain ⟨x, S2, rfl, h⟩ := h
    exact (hk _ _ _ _ _ _ _ _ X hL hR hF hB h).step fun t q => XS.ishl X.here hx rfl hd rfl q
  | ishr =>
    dsimp only [ex] at h
    replace h := pI_ok h
    obtain ⟨y, S1, rfl, h⟩ := h
    replace h := pI_ok h
    obtain ⟨x, S2, rfl, h⟩ := h
    exact (hk _ _ _ _ _ _ _ _ X hL hR hF hB h).step fun t q => XS.ishr X.here hx rfl hd rfl q
  | iushr =>
    dsimp only [ex] at h
    replace h := pI_ok h
    obtain ⟨y, S1, rfl, h⟩ := h
    replace h := pI_ok h
    obtain ⟨x, S2, rfl, h⟩ := h
    exact (hk _ _ _ _ _ _ _ _ X hL hR hF hB h).step fun t q => XS.iushr X.here hx rfl hd rfl q
  | ladd =>
    dsimp only [ex] at h
    replace h := pL_ok h
    obtain ⟨y, S1, rfl, h⟩ := h
    replace h := pL_ok h
    obtain ⟨x, S2, rfl, h⟩ := h
    exact (hk _ _ _ _ _ _ _ _ X hL hR hF hB h).step fun t q => XS.ladd X.here hx rfl hd rfl q
  | lsub =>
    dsimp only [ex] at h
    replace h := pL_ok h
    obtain ⟨y, S1, rfl, h⟩ := h
    replace h := pL_ok h
    obtain ⟨x, S2, rfl, h⟩ := h
    exact (hk _ _ _ _ _ _ _ _ X hL hR hF hB h).step fun t q => XS.lsub X.here hx rfl hd rfl q
  | lmul =>
    dsimp only [ex] at h
    replace h := pL_ok h
    obtain ⟨y, S1, rfl, h⟩ := h
    replace h := pL_ok h
    obtain ⟨x, S2, rfl, h⟩ := h
    exact (hk _ _ _ _ _ _ _ _ X hL hR hF hB h).step fun t q => XS.lmul X.here hx rfl hd rfl q
  | land =>
    dsimp only [ex] at h
    replace h := pL_ok h
    obtain ⟨y, S1, rfl, h⟩ := h
    replace h := pL_ok h
    obtain ⟨x, S2, rfl, h⟩ := h
    exact (hk _ _ _ _ _ _ _ _ X hL hR hF hB h).step fun t q => XS.land X.here hx rfl hd rfl q
  | lor =>
    dsimp only [ex] at h
    replace h := pL_ok h
    obtain ⟨y, S1, rfl, h⟩ := h
    replace h := pL_ok h
    obtain ⟨x, S2, rfl, h⟩ := h
    exact (hk _ _ _ _ _ _ _ _ X hL hR hF hB h).step fun t q => XS.lor X.here hx rfl hd rfl q
  | lxor =>
    dsimp only [ex] at h
    replace h := pL_ok h
    obtain ⟨y, S1, rfl, h⟩ := h
    replace h := pL_ok h
    obtain ⟨x, S2, rfl, h⟩ := h
    exact (hk _ _ _ _ _ _ _ _ X hL hR hF hB h).step fun t q => XS.lxor X.here hx rfl hd rfl q
  | lcmp =>
    dsimp only [ex] at h
    replace h := pL_ok h
    obtain ⟨y, S1, rfl, h⟩ := h
    replace h := pL_ok h
    obtain ⟨x, S2, rfl, h⟩ := h
    exact (hk _ _ _ _ _ _ _ _ X hL hR hF hB h).step fun t q => XS.lcmp X.here hx rfl hd rfl q
  | lshl =>
    dsimp only [ex] at h
    replace h := pI_ok h
    obtain ⟨y, S1, rfl, h⟩ := h
    replace h := pL_ok h
    obtain ⟨x, S2, rfl, h⟩ := h
    exact (hk _ _ _ _ _ _ _ _ X hL hR hF hB h).step fun t q => XS.lshl X.here hx rfl hd rfl q
  | lshr =>
    dsimp only [ex] at h
    replace h := pI_ok h
    obtain ⟨y, S1, rfl, h⟩ := h
    replace h := pL_ok h
    obtain ⟨x, S2, rfl, h⟩ := h
    exact (hk _ _ _ _ _ _ _ _ X hL hR hF hB h).step fun t q => XS.lshr X.here hx rfl hd rfl q
  | lushr =>
    dsimp only [ex] at h
    replace h := pI_ok h
    obtain ⟨y, S1, rfl, h⟩ := h
    replace h := pL_ok h
    obtain ⟨x, S2, rfl, h⟩ := h
    exact (hk _ _ _ _ _ _ _ _ X hL hR hF hB h).step fun t q => XS.lushr X.here hx rfl hd rfl q
  | idiv =>
    dsimp only [ex] at h
    replace h := pI_ok h
    obtain ⟨y, S1, rfl, h⟩ := h
    replace h := pI_ok h
    obtain ⟨x, S2, rfl, h⟩ := h
    split at h
    · cases h
    · rename_i hy
      exact (hk _ _ _ _ _ _ _ _ X hL hR hF hB h).step fun t q => XS.idiv X.here hx rfl hd rfl hy q
  | irem =>
    dsimp only [ex] at h
    replace h := pI_ok h
    obtain ⟨y, S1, rfl, h⟩ := h
    replace h := pI_ok h
    obtain ⟨x, S2, rfl, h⟩ := h
    split at h
    · cases h
    · rename_i hy
      exact (hk _ _ _ _ _ _ _ _ X hL hR hF hB h).step fun t q => iremM X hx rfl hd rfl hy q
  | ldiv =>
    dsimp only [ex] at h
    replace h := pL_ok h
    obtain ⟨y, S1, rfl, h⟩ := h
    replace h := pL_ok h
    obtain ⟨x, S2, rfl, h⟩ := h
    split at h
    · cases h
    · rename_i hy
      exact (hk _ _ _ _ _ _ _ _ X hL hR hF hB h).step fun t q => XS.ldiv X.here hx rfl hd rfl hy q
  | lrem =>
    dsimp only [ex] at h
    replace h := pL_ok h
    obtain ⟨y, S1, rfl, h⟩ := h
    replace h := pL_ok h
    obtain ⟨x, S2, rfl, h⟩ := h
    split at h
    · cases h
    · rename_i hy
      exact (hk _ _ _ _ _ _ _ _ X hL hR hF hB h).step fun t q => XS.lrem X.here hx rfl hd rfl hy (by rw [lrem_mod]; exact q)
  | ineg =>
    dsimp only [ex] at h
    replace h := pI_ok h
    obtain ⟨x, S1, rfl, h⟩ := h
    exact (hk _ _ _ _ _ _ _ _ X hL hR hF hB h).step fun t q => XS.ineg X.here hx rfl hd rfl q
  | i2b =>
    dsimp only [ex] at h
    replace h := pI_ok h
    obtain ⟨x, S1, rfl, h⟩ := h
    exact (hk _ _ _ _ _ _ _ _ X hL hR hF hB h).step fun t q => XS.i2b X.here hx rfl hd rfl q
  | i2c =>
    dsimp only [ex] at h
    replace h := pI_ok h
    obtain ⟨x, S1, rfl, h⟩ := h
    exact (hk _ _ _ _ _ _ _ _ X hL hR hF hB h).step fun t q => XS.i2c X.here hx rfl hd rfl q
  | i2s =>
    dsimp only [ex] at h
    replace h := pI_ok h
    obtain ⟨x, S1, rfl, h⟩ := h
    exact (hk _ _ _ _ _ _ _ _ X hL hR hF hB h).step fun t q => XS.i2s X.here hx rfl hd rfl q
  | i2l =>
    dsimp only [ex] at h
    replace h := pI_ok h
    obtain ⟨x, S1, rfl, h⟩ := h
    exact (hk _ _ _ _ _ _ _ _ X hL hR hF hB h).step fun t q => XS.i2l X.here hx rfl hd rfl q
  | l2i =>
    dsimp only [ex] at h
    replace h := pL_ok h
    obtain ⟨x, S1, rfl, h⟩ := h
    exact (hk _ _ _ _ _ _ _ _ X hL hR hF hB h).step fun t q => XS.l2i X.here hx rfl hd rfl q
  | lneg =>
    dsimp only [ex] at h
    replace h := pL_ok h
    obtain ⟨x, S1, rfl, h⟩ := h
    exact (hk _ _ _ _ _ _ _ _ X hL hR hF hB h).step fun t q => XS.lneg X.here hx rfl hd rfl q
  | dup =>
    dsimp only [ex] at h
    replace h := p1_ok (σ := σ) h
    obtain ⟨x, S1, rfl, h, h1⟩ := h
    exact (hk _ _ _ _ _ _ _ _ X hL hR hF hB h).step fun t q => XS.dup X.here hx rfl hd rfl h1 q
  | pop =>
    dsimp only [ex] at h
    replace h := p1_ok (σ := σ) h
    obtain ⟨x, S1, rfl, h, h1⟩ := h
    exact (hk _ _ _ _ _ _ _ _ X hL hR hF hB h).step fun t q => XS.pop X.here hx rfl hd rfl h1 q
  | dup_x1 =>
    dsimp only [ex] at h
    replace h := p1_ok (σ := σ) h
    obtain ⟨x, S1, rfl, h, h1⟩ := h
    replace h := p1_ok (σ := σ) h
    obtain ⟨y, S2, rfl, h, h2⟩ := h
    exact (hk _ _ _ _ _ _ _ _ X hL hR hF hB h).step fun t q => XS.dupX1 X.here hx rfl hd rfl h1 h2 q
  | dup2 =>
    dsimp only [ex] at h
    replace h := p1_ok (σ := σ) h
    obtain ⟨x, S1, rfl, h, h1⟩ := h
    replace h := p1_ok (σ := σ) h
    obtain ⟨y, S2, rfl, h, h2⟩ := h
    exact (hk _ _ _ _ _ _ _ _ X hL hR hF hB h).step fun t q => XT.dup2 X.here hx rfl hd rfl h1 h2 q
  | goto o =>
    dsimp only [ex] at h
    split at h
    · rename_i ho
      exact (hk _ _ _ _ _ _ _ _ X hL hR hF hB h).step fun t q => XS.goto X.here hx rfl rfl hd ho rfl q
    · cases h
  | ifCond cd o =>
    dsimp only [ex] at h
    replace h := pI_ok h
    obtain ⟨x, S1, rfl, h⟩ := h
    replace h := br_ok h
    obtain ⟨ho, ⟨hc, h⟩ | ⟨hc, h⟩⟩ := h
    · exact (hk _ _ _ _ _ _ _ _ X hL hR hF hB h).step fun t q => XS.ifYes X.here hx rfl rfl hd rfl hc ho rfl q
    · exact (hk _ _ _ _ _ _ _ _ X hL hR hF hB h).step fun t q => XS.ifNo X.here hx rfl hd rfl hc q
  | if_icmp cd o =>
    dsimp only [ex] at h
    replace h := pI_ok h
    obtain ⟨y, S1, rfl, h⟩ := h
    replace h := pI_ok h
    obtain ⟨x, S2, rfl, h⟩ := h
    replace h := br_ok h
    obtain ⟨ho, ⟨hc, h⟩ | ⟨hc, h⟩⟩ := h
    · exact (hk _ _ _ _ _ _ _ _ X hL hR hF hB h).step fun t q => XS.icmpYes X.here hx rfl rfl hd rfl hc ho rfl q
    · exact (hk _ _ _ _ _ _ _ _ X hL hR hF hB h).step fun t q => XS.icmpNo X.here hx rfl hd rfl hc q
  | ifnull o =>
    dsimp only [ex] at h
    replace h := pA_ok h
    obtain ⟨x, S1, rfl, h, hr⟩ := h
    replace h := br_ok h
    obtain ⟨ho, ⟨hc, h⟩ | ⟨hc, h⟩⟩ := h
    · rcases hr with rfl | ⟨a, rfl⟩
      · exact (hk _ _ _ _ _ _ _ _ X hL hR hF hB h).step fun t q => XS.ifnullYes X.here hx rfl rfl hd rfl ho rfl q
      · cases hc
    · rcases hr with rfl | ⟨a, rfl⟩
      · cases hc
      · exact (hk _ _ _ _ _ _ _ _ X hL hR hF hB h).step fun t q => XS.ifnullNo X.here hx rfl hd rfl q
  | ifnonnull o =>
    dsimp only [ex] at h
    replace h := pA_ok h
    obtain ⟨x, S1, rfl, h, hr⟩ := h
    replace h := br_ok h
    obtain ⟨ho, ⟨hc, h⟩ | ⟨hc, h⟩⟩ := h
    · rcases hr with rfl | ⟨a, rfl⟩
      · cases hc
      · exact (hk _ _ _ _ _ _ _ _ X hL hR hF hB h).step fun t q => XS.ifnonnullYes X.here hx rfl rfl hd rfl ho rfl q
    · rcases hr with rfl | ⟨a, rfl⟩
      · exact (hk _ _ _ _ _ _ _ _ X hL hR hF hB h).step fun t q => XS.ifnonnullNo X.here hx rfl hd rfl q
      · cases hc
  | if_acmp cd o =>
    dsimp only [ex] at h
    replace h := pA_ok h
    obtain ⟨y, S1, rfl, h, hr⟩ := h
    replace h := pA_ok h
    obtain ⟨x, S2, rfl, h, hr'⟩ := h
    replace h := br_ok h
    obtain ⟨ho, ⟨hc, h⟩ | ⟨hc, h⟩⟩ := h
    · exact (hk _ _ _ _ _ _ _ _ X hL hR hF hB h).step fun t q => acmp X hx rfl (ref_of hr').1 (ref_of hr).1 (same := refEq x y) rfl hd rfl (refEq_ok hsg hr' hr) ho (by rw [if_pos hc]) q
    · exact (hk _ _ _ _ _ _ _ _ X hL hR hF hB h).step fun t q => acmp X hx rfl (ref_of hr').1 (ref_of hr).1 (same := refEq x y) rfl hd rfl (refEq_ok hsg hr' hr) ho (by rw [if_neg (by simp [hc])]) q
  | arraylength =>
    dsimp only [ex] at h
    replace h := pR_ok h
    obtain ⟨a, S1, rfl, h⟩ := h
    replace h := bind_ok h
    obtain ⟨⟨ty, vs⟩, h1, h⟩ := h
    obtain ⟨cell, A, hs, hl, hfi, -⟩ := hR.2.2.2 _ _ (arr_some h1)
    have hz : cell.slots.size.toInt32 = vs.length.toInt32 := by rw [hs]; simp
    have D := hk _ _ _ _ _ _ _ _ X hL hR hF hB h
    refine D.step fun t q => ?_
    refine X.arraylength hx (cell := cell) A.1 (State.isArrayOf_alike hZ.alike A.2.1) (g := mkF m pc (cL σ L) (.ref (σ a) :: S1.map (cv σ))) rfl rfl hd t ?_
    rw [hz]
    exact q
  | iaload =>
    dsimp only [ex, ald] at h
    replace h := pI_ok h
    obtain ⟨j, S1, rfl, h⟩ := h
    replace h := pR_ok h
    obtain ⟨a, S2, rfl, h⟩ := h
    replace h := bind_ok h
    obtain ⟨⟨ty, vs⟩, h1, h⟩ := h
    split at h
    · rename_i hq
      replace h := bind_ok h
      obtain ⟨v, h2, h⟩ := h
      obtain ⟨cell, A, hs, hl, hfi, -⟩ := hR.2.2.2 _ _ (arr_some h1)
      obtain rfl : ty = .int := of_decide_eq_true hq.1
      have hv : cell.slots[j.toNatClampNeg]? = some (cv σ v) := by rw [hs, List.getElem?_toArray, List.getElem?_map, h2]; rfl
      exact (hk _ _ _ _ _ _ _ _ X hL hR hF hB h).step fun t q => X.iaload hx (cell := cell) (j := j) (v := cv σ v) A.1 (State.isArrayOf_alike hZ.alike A.2.1) A.2.2 (inB hq.2 hv) hv (g := mkF m pc (cL σ L) (.int j :: .ref (σ a) :: S2.map (cv σ))) rfl rfl hd t q
    · cases h
  | baload =>
    dsimp only [ex, ald] at h
    replace h := pI_ok h
    obtain ⟨j, S1, rfl, h⟩ := h
    replace h := pR_ok h
    obtain ⟨a, S2, rfl, h⟩ := h
    replace h := bind_ok h
    obtain ⟨⟨ty, vs⟩, h1, h⟩ := h
    split at h
    · rename_i hq
      replace h := bind_ok h
      obtain ⟨v, h2, h⟩ := h
      obtain ⟨cell, A, hs, hl, hfi, -⟩ := hR.2.2.2 _ _ (arr_some h1)
      have hv : cell.slots[j.toNatClampNeg]? = some (cv σ v) := by rw [hs, List.getElem?_toArray, List.getElem?_map, h2]; rfl
      cases ty with
      | byte => exact (hk _ _ _ _ _ _ _ _ X hL hR hF hB h).step fun t q => X.baloadBytes hx (cell := cell) (j := j) (v := cv σ v) A.1 (State.isArrayOf_alike hZ.alike A.2.1) A.2.2 (inB hq.2 hv) hv (g := mkF m pc (cL σ L) (.int j :: .ref (σ a) :: S2.map (cv σ))) rfl rfl hd t q
      | boolean => exact (hk _ _ _ _ _ _ _ _ X hL hR hF hB h).step fun t q => X.baloadBooleans hx (cell := cell) (j := j) (v := cv σ v) A.1 (State.isArrayOf_alike hZ.alike A.2.1) A.2.2 (inB hq.2 hv) hv (g := mkF m pc (cL σ L) (.int j :: .ref (σ a) :: S2.map (cv σ))) rfl rfl hd t q
      | _ => exact nomatch (show false = true from hq.1)
    · cases h
  | caload =>
    dsimp only [ex, ald] at h
    replace h := pI_ok h
    obtain ⟨j, S1, rfl, h⟩ := h
    replace h := pR_ok h
    obtain ⟨a, S2, rfl, h⟩ := h
    replace h := bind_ok h
    obtain ⟨⟨ty, vs⟩, h1, h⟩ := h
    split at h
    · rename_i hq
      replace h := bind_ok h
      obtain ⟨v, h2, h⟩ := h
      obtain ⟨cell, A, hs, hl, hfi, -⟩ := hR.2.2.2 _ _ (arr_some h1)
      obtain rfl : ty = .char := of_decide_eq_true hq.1
      have hv : cell.slots[j.toNatClampNeg]? = some (cv σ v) := by rw [hs, List.getElem?_toArray, List.getElem?_map, h2]; rfl
      exact (hk _ _ _ _ _ _ _ _ X hL hR hF hB h).step fun t q => X.caload hx (cell := cell) (j := j) (v := cv σ v) A.1 (State.isArrayOf_alike hZ.alike A.2.1) A.2.2 (inB hq.2 hv) hv (g := mkF m pc (cL σ L) (.int j :: .ref (σ a) :: S2.map (cv σ))) rfl rfl hd t q
    · cases h
  | laload =>
    dsimp only [ex, ald] at h
    replace h := pI_ok h
    obtain ⟨j, S1, rfl, h⟩ := h
    replace h := pR_ok h
    obtain ⟨a, S2, rfl, h⟩ := h
    replace h := bind_ok h
    obtain ⟨⟨ty, vs⟩, h1, h⟩ := h
    split at h
    · rename_i hq
      replace h := bind_ok h
      obtain ⟨v, h2, h⟩ := h
      obtain ⟨cell, A, hs, hl, hfi, -⟩ := hR.2.2.2 _ _ (arr_some h1)
      obtain rfl : ty = .long := of_decide_eq_true hq.1
      have hv : cell.slots[j.toNatClampNeg]? = some (cv σ v) := by rw [hs, List.getElem?_toArray, List.getElem?_map, h2]; rfl
      exact (hk _ _ _ _ _ _ _ _ X hL hR hF hB h).step fun t q => X.laload hx (cell := cell) (j := j) (v := cv σ v) A.1 (State.isArrayOf_alike hZ.alike A.2.1) A.2.2 (inB hq.2 hv) hv (g := mkF m pc (cL σ L) (.int j :: .ref (σ a) :: S2.map (cv σ))) rfl rfl hd t q
    · cases h
  | aaload =>
    dsimp only [ex, ald] at h
    replace h := pI_ok h
    obtain ⟨j, S1, rfl, h⟩ := h
    replace h := pR_ok h
    obtain ⟨a, S2, rfl, h⟩ := h
    replace h := bind_ok h
    obtain ⟨⟨ty, vs⟩, h1, h⟩ := h
    split at h
    · rename_i hq
      replace h := bind_ok h
      obtain ⟨v, h2, h⟩ := h
      obtain ⟨cell, A, hs, hl, hfi, -⟩ := hR.2.2.2 _ _ (arr_some h1)
      have hv : cell.slots[j.toNatClampNeg]? = some (cv σ v) := by rw [hs, List.getElem?_toArray, List.getElem?_map, h2]; rfl
      exact (hk _ _ _ _ _ _ _ _ X hL hR hF hB h).step fun t q => X.aaload hx (cell := cell) (j := j) (v := cv σ v) A.1 (State.isArrayOf_alike hZ.alike A.2.1) hq.1 A.2.2 (inB hq.2 hv) hv (g := mkF m pc (cL σ L) (.int j :: .ref (σ a) :: S2.map (cv σ))) rfl rfl hd t q
    · cases h
  | iastore =>
    dsimp only [ex, ast] at h
    replace h := pI_ok h
    obtain ⟨x, S0, rfl, h⟩ := h
    replace h := pI_ok h
    obtain ⟨j, S1, rfl, h⟩ := h
    replace h := pR_ok h
    obtain ⟨a, S2, rfl, h⟩ := h
    replace h := bind_ok h
    obtain ⟨⟨ty, vs⟩, h1, h⟩ := h
    split at h
    · rename_i hq
      obtain rfl : ty = .int := of_decide_eq_true hq.1
      obtain ⟨cell, A, hs, hl, hfi, -⟩ := hR.2.2.2 _ _ (arr_some h1)
      obtain ⟨T', h', X', e', W, st⟩ := stI X hx hZ rfl A (j := j) (x := x) (by rw [hs]; simpa using And.intro hq.2.1 hq.2.2.1) (g := mkF m pc (cL σ L) _) rfl rfl hd
      refine (hk _ _ _ _ _ _ _ _ X' hL (e' ▸ hR.write hsg hq.2.2.2 W (RepO.arr (hR.2.2.2 _ _ (arr_some h1)) (v := .int _) (rfl) W)) (Fr.snoc X' hF (hsg.new hq.2.2.2)) hB h).step st
    · cases h
  | bastore =>
    dsimp only [ex, ast] at h
    replace h := pI_ok h
    obtain ⟨x, S0, rfl, h⟩ := h
    replace h := pI_ok h
    obtain ⟨j, S1, rfl, h⟩ := h
    replace h := pR_ok h
    obtain ⟨a, S2, rfl, h⟩ := h
    replace h := bind_ok h
    obtain ⟨⟨ty, vs⟩, h1, h⟩ := h
    split at h
    · rename_i hq
      obtain rfl : ty = .byte := of_decide_eq_true hq.1
      obtain ⟨cell, A, hs, hl, hfi, -⟩ := hR.2.2.2 _ _ (arr_some h1)
      obtain ⟨T', h', X', e', W, st⟩ := stB X hx hZ rfl A (j := j) (x := x) (by rw [hs]; simpa using And.intro hq.2.1 hq.2.2.1) (g := mkF m pc (cL σ L) _) rfl rfl hd
      refine (hk _ _ _ _ _ _ _ _ X' hL (e' ▸ hR.write hsg hq.2.2.2 W (RepO.arr (hR.2.2.2 _ _ (arr_some h1)) (v := .int _) (fits_nar_byte _) W)) (Fr.snoc X' hF (hsg.new hq.2.2.2)) hB h).step st
    · cases h
  | castore =>
    dsimp only [ex, ast] at h
    replace h := pI_ok h
    obtain ⟨x, S0, rfl, h⟩ := h
    replace h := pI_ok h
    obtain ⟨j, S1, rfl, h⟩ := h
    replace h := pR_ok h
    obtain ⟨a, S2, rfl, h⟩ := h
    replace h := bind_ok h
    obtain ⟨⟨ty, vs⟩, h1, h⟩ := h
    split at h
    · rename_i hq
      obtain rfl : ty = .char := of_decide_eq_true hq.1
      obtain ⟨cell, A, hs, hl, hfi, -⟩ := hR.2.2.2 _ _ (arr_some h1)
      obtain ⟨T', h', X', e', W, st⟩ := stC X hx hZ rfl A (j := j) (x := x) (by rw [hs]; simpa using And.intro hq.2.1 hq.2.2.1) (g := mkF m pc (cL σ L) _) rfl rfl hd
      refine (hk _ _ _ _ _ _ _ _ X' hL (e' ▸ hR.write hsg hq.2.2.2 W (RepO.arr (hR.2.2.2 _ _ (arr_some h1)) (v := .int _) (fits_nar_char _) W)) (Fr.snoc X' hF (hsg.new hq.2.2.2)) hB h).step st
    · cases h
  | lastore =>
    dsimp only [ex, astL] at h
    replace h := pL_ok h
    obtain ⟨x, S0, rfl, h⟩ := h
    replace h := pI_ok h
    obtain ⟨j, S1, rfl, h⟩ := h
    replace h := pR_ok h
    obtain ⟨a, S2, rfl, h⟩ := h
    replace h := bind_ok h
    obtain ⟨⟨ty, vs⟩, h1, h⟩ := h
    split at h
    · rename_i hq
      obtain rfl : ty = .long := hq.1
      obtain ⟨cell, A, hs, hl, hfi, -⟩ := hR.2.2.2 _ _ (arr_some h1)
      obtain ⟨T', h', X', e', W, st⟩ := stJ X hx hZ rfl A (j := j) (x := x) (by rw [hs]; simpa using And.intro hq.2.1 hq.2.2.1) (g := mkF m pc (cL σ L) _) rfl rfl hd
      refine (hk _ _ _ _ _ _ _ _ X' hL (e' ▸ hR.write hsg hq.2.2.2 W (RepO.arr (hR.2.2.2 _ _ (arr_some h1)) (v := .long _) rfl W)) (Fr.snoc X' hF (hsg.new hq.2.2.2)) hB h).step st
    · cases h
  | ldc i =>
    dsimp only [ex, spc] at h
    replace h := bind_ok h
    obtain ⟨act, h1, h⟩ := h
    replace h := bind_ok h
    obtain ⟨⟨S', H', cs', ss'⟩, h2, h⟩ := h
    obtain ⟨T', locs', X', hR', hF', hB', st⟩ := look_good (q := 0) hE h1 T locs cs ss pc L S H S' H' cs' ss' X hd hL hR hF hB h2
    exact (hk _ _ _ _ _ _ _ _ X' hL hR' hF' hB' h).step st
  | ldc_w i =>
    dsimp only [ex, spc] at h
    replace h := bind_ok h
    obtain ⟨act, h1, h⟩ := h
    replace h := bind_ok h
    obtain ⟨⟨S', H', cs', ss'⟩, h2, h⟩ := h
    obtain ⟨T', locs', X', hR', hF', hB', st⟩ := look_good (q := 1) hE h1 T locs cs ss pc L S H S' H' cs' ss' X hd hL hR hF hB h2
    exact (hk _ _ _ _ _ _ _ _ X' hL hR' hF' hB' h).step st
  | ldc2_w i =>
    dsimp only [ex, spc] at h
    replace h := bind_ok h
    obtain ⟨act, h1, h⟩ := h
    replace h := bind_ok h
    obtain ⟨⟨S', H', cs', ss'⟩, h2, h⟩ := h
    obtain ⟨T', locs', X', hR', hF', hB', st⟩ := look_good (q := 2) hE h1 T locs cs ss pc L S H S' H' cs' ss' X hd hL hR hF hB h2
    exact (hk _ _ _ _ _ _ _ _ X' hL hR' hF' hB' h).step st
  | getfield i =>
    dsimp only [ex, spc] at h
    replace h := bind_ok h
    obtain ⟨act, h1, h⟩ := h
    replace h := bind_ok h
    obtain ⟨⟨S', H', cs', ss'⟩, h2, h⟩ := h
    obtain ⟨T', locs', X', hR', hF', hB', st⟩ := look_good (q := 3) hE h1 T locs cs ss pc L S H S' H' cs' ss' X hd hL hR hF hB h2
    exact (hk _ _ _ _ _ _ _ _ X' hL hR' hF' hB' h).step st
  | putfield i =>
    dsimp only [ex, spc] at h
    replace h := bind_ok h
    obtain ⟨act, h1, h⟩ := h
    replace h := bind_ok h
    obtain ⟨⟨S', H', cs', ss'⟩, h2, h⟩ := h
    obtain ⟨T', locs', X', hR', hF', hB', st⟩ := look_good (q := 4) hE h1 T locs cs ss pc L S H S' H' cs' ss' X hd hL hR hF hB h2
    exact (hk _ _ _ _ _ _ _ _ X' hL hR' hF' hB' h).step st
  | getstatic i =>
    dsimp only [ex, spc] at h
    replace h := bind_ok h
    obtain ⟨act, h1, h⟩ := h
    replace h := bind_ok h
    obtain ⟨⟨S', H', cs', ss'⟩, h2, h⟩ := h
    obtain ⟨T', locs', X', hR', hF', hB', st⟩ := look_good (q := 5) hE h1 T locs cs ss pc L S H S' H' cs' ss' X hd hL hR hF hB h2
    exact (hk _ _ _ _ _ _ _ _ X' hL hR' hF' hB' h).step st
  | new i =>
    dsimp only [ex, spc] at h
    replace h := bind_ok h
    obtain ⟨act, h1, h⟩ := h
    replace h := bind_ok h
    obtain ⟨⟨S', H', cs', ss'⟩, h2, h⟩ := h
    obtain ⟨T', locs', X', hR', hF', hB', st⟩ := look_good (q := 6) hE h1 T locs cs ss pc L S H S' H' cs' ss' X hd hL hR hF hB h2
    exact (hk _ _ _ _ _ _ _ _ X' hL hR' hF' hB' h).step st
  | invokestatic i =>
    dsimp only [ex, spc] at h
    replace h := bind_ok h
    obtain ⟨act, h1, h⟩ := h
    replace h := bind_ok h
    obtain ⟨⟨S', H', cs', ss'⟩, h2, h⟩ := h
    obtain ⟨T', locs', X', hR', hF', hB', st⟩ := look_good (q := 7) hE h1 T locs cs ss pc L S H S' H' cs' ss' X hd hL hR hF hB h2
    exact (hk _ _ _ _ _ _ _ _ X' hL hR' hF' hB' h).step st
  | invokespecial i =>
    dsimp only [ex, spc] at h
    replace h := bind_ok h
    obtain ⟨act, h1, h⟩ := h
    replace h := bind_ok h
    obtain ⟨⟨S', H', cs', ss'⟩, h2, h⟩ := h
    obtain ⟨T', locs', X', hR', hF', hB', st⟩ := look_good (q := 8) hE h1 T locs cs ss pc L S H S' H' cs' ss' X hd hL hR hF hB h2
    exact (hk _ _ _ _ _ _ _ _ X' hL hR' hF' hB' h).step st
  | invokevirtual i =>
    dsimp only [ex, spc] at h
    replace h := bind_ok h
    obtain ⟨act, h1, h⟩ := h
    replace h := bind_ok h
    obtain ⟨⟨S', H', cs', ss'⟩, h2, h⟩ := h
    obtain ⟨T', locs', X', hR', hF', hB', st⟩ := look_good (q := 9) hE h1 T locs cs ss pc L S H S' H' cs' ss' X hd hL hR hF hB h2
    exact (hk _ _ _ _ _ _ _ _ X' hL hR' hF' hB' h).step st
  | checkcast i =>
    dsimp only [ex, spc] at h
    replace h := bind_ok h
    obtain ⟨act, h1, h⟩ := h
    replace h := bind_ok h
    obtain ⟨⟨S', H', cs', ss'⟩, h2, h⟩ := h
    obtain ⟨T', locs', X', hR', hF', hB', st⟩ := look_good (q := 10) hE h1 T locs cs ss pc L S H S' H' cs' ss' X hd hL hR hF hB h2
    exact (hk _ _ _ _ _ _ _ _ X' hL hR' hF' hB' h).step st
  | instanceof i =>
    dsimp only [ex, spc] at h
    replace h := bind_ok h
    obtain ⟨act, h1, h⟩ := h
    replace h := bind_ok h
    obtain ⟨⟨S', H', cs', ss'⟩, h2, h⟩ := h
    obtain ⟨T', locs', X', hR', hF', hB', st⟩ := look_good (q := 11) hE h1 T locs cs ss pc L S H S' H' cs' ss' X hd hL hR hF hB h2
    exact (hk _ _ _ _ _ _ _ _ X' hL hR' hF' hB' h).step st
  | anewarray i =>
    dsimp only [ex, spc] at h
    replace h := bind_ok h
    obtain ⟨act, h1, h⟩ := h
    replace h := bind_ok h
    obtain ⟨⟨S', H', cs', ss'⟩, h2, h⟩ := h
    obtain ⟨T', locs', X', hR', hF', hB', st⟩ := look_good (q := 12) hE h1 T locs cs ss pc L S H S' H' cs' ss' X hd hL hR hF hB h2
    exact (hk _ _ _ _ _ _ _ _ X' hL hR' hF' hB' h).step st
  | newarray ty =>
    dsimp only [ex, spc] at h
    replace h := bind_ok h
    obtain ⟨act, h1, h⟩ := h
    replace h := bind_ok h
    obtain ⟨⟨S', H', cs', ss'⟩, h2, h⟩ := h
    have g1 := look_good (q := 13) hE h1
    rw [show insOf 13 (atn ty) = .newarray ty from by cases ty <;> rfl] at g1
    obtain ⟨T', locs', X', hR', hF', hB', st⟩ := g1 T locs cs ss pc L S H S' H' cs' ss' X hd hL hR hF hB h2
    exact (hk _ _ _ _ _ _ _ _ X' hL hR' hF' hB' h).step st
  | ireturn =>
    dsimp only [ex, rI] at h
    replace h := pI_ok h
    obtain ⟨z, S1, rfl, h⟩ := h
    split at h
    · cases h
      obtain ⟨fs, hr, hrun, hended, hW, hsame⟩ := X.leave (v := some (.int z)) (fun q => by rw [hrt] at q; cases q) hlk
      exact ⟨_, retOut X hx hrt rfl (Or.inl ⟨rfl, Or.inl rfl, z, rfl⟩) hd hr, hrun, hended, hR, locs, hF, hW, hsame.mono hB.1 hB.2⟩
    · cases h
      obtain ⟨fs, hr, hrun, hended, hW, hsame⟩ := X.leave (v := some (.int (z &&& 1))) (fun q => by rw [hrt] at q; cases q) hlk
      exact ⟨_, retN X hx (t := .boolean) (z := z) hrt (by simp) hd hr, hrun, hended, hR, locs, hF, hW, hsame.mono hB.1 hB.2⟩
    · cases h
      obtain ⟨fs, hr, hrun, hended, hW, hsame⟩ := X.leave (v := some (.int z.toInt8.toInt32)) (fun q => by rw [hrt] at q; cases q) hlk
      exact ⟨_, retN X hx (t := .byte) (z := z) hrt (by simp) hd hr, hrun, hended, hR, locs, hF, hW, hsame.mono hB.1 hB.2⟩
    · cases h
      obtain ⟨fs, hr, hrun, hended, hW, hsame⟩ := X.leave (v := some (.int z.toUInt32.toUInt16.toUInt32.toInt32)) (fun q => by rw [hrt] at q; cases q) hlk
      exact ⟨_, retN X hx (t := .char) (z := z) hrt (by simp) hd hr, hrun, hended, hR, locs, hF, hW, hsame.mono hB.1 hB.2⟩
    · cases h
      obtain ⟨fs, hr, hrun, hended, hW, hsame⟩ := X.leave (v := some (.int z.toInt16.toInt32)) (fun q => by rw [hrt] at q; cases q) hlk
      exact ⟨_, retN X hx (t := .short) (z := z) hrt (by simp) hd hr, hrun, hended, hR, locs, hF, hW, hsame.mono hB.1 hB.2⟩
    · cases h
  | lreturn =>
    dsimp only [ex, rL] at h
    replace h := pL_ok h
    obtain ⟨z, S1, rfl, h⟩ := h
    split at h
    · cases h
      obtain ⟨fs, hr, hrun, hended, hW, hsame⟩ := X.leave (v := some (.long z)) (fun q => by rw [hrt] at q; cases q) hlk
      exact ⟨_, retOut X hx hrt rfl (Or.inr (Or.inl ⟨rfl, rfl, z, rfl⟩)) hd hr, hrun, hended, hR, locs, hF, hW, hsame.mono hB.1 hB.2⟩
    · cases h
  | areturn =>
    dsimp only [ex, rA] at h
    replace h := pA_ok h
    obtain ⟨z, S1, rfl, h, hq⟩ := h
    split at h
    · cases h
      obtain ⟨fs, hr, hrun, hended, hW, hsame⟩ := X.leave (v := some (cv σ z)) (fun q => by rw [hrt] at q; cases q) hlk
      exact ⟨_, retOut X hx hrt (by cases z <;> rfl) (Or.inr (Or.inr (Or.inr (Or.inr ⟨rfl, rfl, (ref_of hq).1⟩)))) hd hr, hrun, hended, hR, locs, hF, hW, hsame.mono hB.1 hB.2⟩
    · cases h
      obtain ⟨fs, hr, hrun, hended, hW, hsame⟩ := X.leave (v := some (cv σ z)) (fun q => by rw [hrt] at q; cases q) hlk
      exact ⟨_, retOut X hx hrt (by cases z <;> rfl) (Or.inr (Or.inr (Or.inr (Or.inr ⟨rfl, rfl, (ref_of hq).1⟩)))) hd hr, hrun, hended, hR, locs, hF, hW, hsame.mono hB.1 hB.2⟩
    · cases h
  | return_ =>
    dsimp only [ex, rV] at h
    split at h
    · cases h
      obtain ⟨fs, hr, hrun, hended, hW, hsame⟩ := X.leave (v := none) (fun _ => rfl) hlk
      exact ⟨_, X.returnOut hx hrt hd hr, hrun, hended, hR, locs, hF, hW, hsame.mono hB.1 hB.2⟩
    · cases h
  | _ => exact nomatch (show (none : Option ORes) = some res from h)
theorem run_sound {rt : Option FieldType} {E : List (Nat × Nat × Act)} {res : ORes} (hx : p.tables.exec = Jvm.exec) (hZ : Z.Warmed39 s.vm) (hsg : Sg σ x0 n0) (hrt : meth.sig.returnType = rt) (hlk : meth.locks = false) (hE : AllGood p l e R s m args below meth c Z σ x0 n0 K E) :
    ∀ (n : Nat) (T : State) (locs : List Loc) (cs ss pc : Nat) (L : List Slot) (S : List Value) (H : AH), Stand p l e R s m args below meth c T locs cs ss → L.length = c.maxLocals → Rep Z σ x0 n0 K T.heap H → Fr n0 locs → cs ≤ R.cells ∧ ss ≤ R.slots → orun c.code rt E x0 n (pc, L, S, H, cs, ss) = some res → Done p e R s below Z σ x0 n0 K res T (mkF m pc (cL σ L) (S.map (cv σ)))
  | 0, _, _, _, _, _, _, _, _, _, _, _, _, _, h => nomatch (show (none : Option ORes) = some res from h)
  | n + 1, T, locs, cs, ss, pc, L, S, H, X, hL, hR, hF, hB, h => by
    rw [orun_succ] at h
    replace h := bind_ok h
    obtain ⟨i, hi, h⟩ := h
    exact ex_sound hx hZ hsg hrt hlk hE (run_sound hx hZ hsg hrt hlk hE n) X (dec_spec hi) hL hR hF hB h
/-! ## 4. A method's contract off its orun -/
def oflat : List Value → List Slot
  | [] => []
  | v :: r => if v.category = 2 then .val v :: .second :: oflat r else .val v :: oflat r
def ent (as : List Value) (n : Nat) : List Slot := oflat as ++ List.replicate (n - (oflat as).length) .unset
theorem cat_cv (v : Value) : (cv σ v).category = v.category := by cases v <;> rfl
theorem oflat_ok (as : List Value) : ∀ acc : Array Slot, (as.map (cv σ)).foldl (fun acc v => if v.category = 2 then (acc.push (.val v)).push .second else acc.push (.val v)) acc = acc ++ ((oflat as).map (csl σ)).toArray := by
  induction as with
  | nil => intro acc; simp [oflat]
  | cons v r ih =>
    intro acc
    simp only [List.map_cons, List.foldl_cons, cat_cv, oflat]
    rw [ih]
    split <;> simp [csl]
theorem ent_ok (as : List Value) (n : Nat) : argsToLocals (as.map (cv σ)).toArray n = cL σ (ent as n) := by
  have h := oflat_ok (σ := σ) as #[]
  simp only [argsToLocals, List.foldl_toArray]
  rw [h]
  simp [cL, ent, csl]
/-- what a callee's function says of it -/
def Says (l : Launch) (Z : State) (σ : Nat → Nat) (x0 n0 : Nat) (K : List CD) (y : MethodName) (bytes : ByteArray) (maxL : Nat) (ret : Option FieldType) (ws : List Jvm.Cond) (rm : Room) (F : List Value → AH → Option ORes) : Prop :=
  ∀ (as : List Value) (H : AH) (r : ORes) (h : Heap), F as H = some r → Rep Z σ x0 n0 K h H →
    MetFree l y (head1 (Jvm.Cond.code y bytes maxL ret :: ws) rm) (fun a U => a = (as.map (cv σ)).toArray ∧ Z.Warmed39 U.vm ∧ U.heap = h) (fun _ _ _ _ _ => True) (fun _ U o U' => ∃ v L, o = .returned v ∧ (v = r.1.map (cv σ) ∧ Rep Z σ x0 n0 K U'.heap r.2 ∧ Fr n0 L) ∧ FrameEnd U o U' L rm.cells rm.slots)
def fn (bytes : ByteArray) (maxL : Nat) (ret : Option FieldType) (E : List (Nat × Nat × Act)) (x0 fuel : Nat) (as : List Value) (H : AH) : Option ORes :=
  if (ent as maxL).length = maxL then orun bytes ret E x0 fuel (0, ent as maxL, [], H, 0, 0) else none
theorem says_fn {l : Launch} {Z : State} {σ : Nat → Nat} {x0 n0 : Nat} {K : List CD} {y : MethodName} {bytes : ByteArray} {maxL : Nat} {ret : Option FieldType} {ws : List Jvm.Cond} {rm : Room} {E : List (Nat × Nat × Act)} {fuel : Nat} (hsg : Sg σ x0 n0) (hpl : plainFor y = true)
    (hE : ∀ (p : Program) (e : Env) (s : State) (m : MethodId) (args : Array Value) (below : List Frame) (meth : Method) (c : Code), p.tables.exec = Jvm.exec → c.code = bytes → c.maxLocals = maxL → Z.Warmed39 s.vm → s.vm.findClass y.cls = some m.cls → meth.name = y.name → AllGood p l e rm s m args below meth c Z σ x0 n0 K E) :
    Says l Z σ x0 n0 K y bytes maxL ret ws rm (fn bytes maxL ret E x0 fuel) := by
  intro as H r h hf hR
  unfold fn at hf
  split at hf
  · rename_i hlen
    refine MetFree.of_bodySF hpl hisR ?_
    intro p e s m args below meth c s₁ Bd hml0 hP hK
    obtain ⟨rfl, hZ, hh⟩ := hP
    have hx := Bd.exec
    have hby := Bd.bytes
    have hown : s.vm.findClass y.cls = some m.cls := findClass_of_methodNamed Bd.named
    have hnm := (name_of_methodNamed Bd.named Bd.method).1
    have X0 : Stand p l e rm s m (as.map (cv σ)).toArray below meth c s₁ [] 0 0 := Stand.of_body Bd
    have e0 : s₁.heap = h := by rw [← hh, Bd.state]; rfl
    have D := run_sound hx hZ hsg Bd.returns (BodyLoose.notSynchronized Bd) (hE p e s m _ below meth c hx hby hml0 hZ hown hnm) fuel s₁ [] 0 0 0 (ent as maxL) [] H X0 (hlen.trans hml0.symm) (e0 ▸ hR) (Fr.nil n0) ⟨Nat.zero_le _, Nat.zero_le _⟩ (by rw [hby]; exact hf)
    obtain ⟨t, h1, h2, h3, h4, L, h5, h6, h7⟩ := D
    refine ⟨t, _, castTop (g' := mkF m 0 (cL σ (ent as maxL)) []) ?_ h1, h2, h3, _, L, rfl, ⟨rfl, h4, h5⟩, ⟨_, rfl⟩, h6, h7⟩
    simp only [entryFrame, ent_ok]
  · cases hf
end Sound
/-! ## 5. The steps that ask the sheet's words -/
def obj (H : AH) (k : Nat) : Option (Nat × List Value) := match H[k]? with | some (.inl q) => some q | _ => none
theorem obj_some {H : AH} {k : Nat} {q : Nat × List Value} (e : obj H k = some q) : H[k]? = some (.inl q) := by
  unfold obj at e; split at e
  · rename_i q' hq; cases e; exact hq
  · cases e
def aI (v : Int32) : Act := fun S H cs ss => some (.int v :: S, H, cs, ss)
def aJ (v : Int64) : Act := fun S H cs ss => some (.long v :: S, H, cs, ss)
def aGet (c j : Nat) : Act := fun S H cs ss => match S with
  | .ref a :: r => (obj H a).bind fun q => if q.1 = c then (q.2[j]?).bind fun v => some (v :: r, H, cs, ss) else none
  | _ => none
def aPut (x0 c j : Nat) (ty : FieldType) : Act := fun S H cs ss => match S with
  | v :: .ref a :: r => (obj H a).bind fun q => if q.1 = c ∧ narrow ty v = v ∧ fits ty v = true ∧ x0 ≤ a ∧ j < q.2.length then some (r, H.set a (.inl (c, q.2.set j v)), cs, ss) else none
  | _ => none
def aNew (c n Rc Rs : Nat) (ds : List Value) : Act := fun S H cs ss => if cs + 1 ≤ Rc ∧ ss + n ≤ Rs then some (.ref H.length :: S, H ++ [.inl (c, ds)], cs + 1, ss + n) else none
def aArr (ty : FieldType) (Rc Rs : Nat) : Act := fun S H cs ss => match S with
  | .int n :: r => if ¬ n < 0 ∧ cs + 1 ≤ Rc ∧ ss + n.toNatClampNeg ≤ Rs ∧ n.toNatClampNeg ≤ 67108864 then some (.ref H.length :: r, H ++ [.inr (ty, List.replicate n.toNatClampNeg (defaultValue ty))], cs + 1, ss + n.toNatClampNeg) else none
  | _ => none
def aObj (W : Nat) : Act := fun S H cs ss => match S with
  | .ref _ :: r => if (r.map Value.category).sum ≤ W then some (r, H, cs, ss) else none
  | _ => none
def aCall (na W Rc Rs mc ms : Nat) (F : List Value → AH → Option ORes) : Act := fun S H cs ss =>
  if na ≤ S.length ∧ ((S.drop na).map Value.category).sum ≤ W ∧ cs + mc ≤ Rc ∧ ss + ms ≤ Rs then (F (S.take na).reverse H).bind fun r => some (r.1.toList ++ S.drop na, r.2, cs + mc, ss + ms) else none
def aRecv (na cl W Rc Rs mc ms : Nat) (F : List Value → AH → Option ORes) : Act := fun S H cs ss => match S.drop na with
  | .ref a :: r => (obj H a).bind fun q => if q.1 = cl ∧ na ≤ S.length ∧ (r.map Value.category).sum ≤ W ∧ cs + mc ≤ Rc ∧ ss + ms ≤ Rs then (F (.ref a :: (S.take na).reverse) H).bind fun v => some (v.1.toList ++ r, v.2, cs + mc, ss + ms) else none
  | _ => none
section Acts
variable {p : Program} {l : Launch} {e : Env} {R : Room} {s : State} {m : MethodId} {args : Array Value} {below : List Frame} {meth : Method} {c : Code} {Z : State} {σ : Nat → Nat} {x0 n0 : Nat} {K : List CD} {a0 : Array Value}
theorem okI (hx : p.tables.exec = Jvm.exec) (hZ : Z.Warmed39 s.vm) {own : String} {idx : Nat} {v : Int32} (hown : s.vm.findClass own = some m.cls) (w : (Jvm.Cond.constant own idx v).before a0 Z = true) : Good p l e R s m args below meth c Z σ x0 n0 K (.ldc idx) (aI v) := by
  intro T locs cs ss pc L S H S' H' cs' ss' X hd hL hR hF hB h
  cases h
  exact ⟨T, locs, X, hR, hF, hB, fun t q => X.ldcInt hx hown (mvT hZ w) (g := mkF m pc (cL σ L) _) rfl hd t q⟩
theorem okIW (hx : p.tables.exec = Jvm.exec) (hZ : Z.Warmed39 s.vm) {own : String} {idx : Nat} {v : Int32} (hown : s.vm.findClass own = some m.cls) (w : (Jvm.Cond.constant own idx v).before a0 Z = true) : Good p l e R s m args below meth c Z σ x0 n0 K (.ldc_w idx) (aI v) := by
  intro T locs cs ss pc L S H S' H' cs' ss' X hd hL hR hF hB h
  cases h
  exact ⟨T, locs, X, hR, hF, hB, fun t q => X.ldcwInt hx hown (mvT hZ w) (g := mkF m pc (cL σ L) _) rfl hd t q⟩
theorem okJ (hx : p.tables.exec = Jvm.exec) (hZ : Z.Warmed39 s.vm) {own : String} {idx : Nat} {v : Int64} (hown : s.vm.findClass own = some m.cls) (w : (Jvm.Cond.constantLong own idx v).before a0 Z = true) : Good p l e R s m args below meth c Z σ x0 n0 K (.ldc2_w idx) (aJ v) := by
  intro T locs cs ss pc L S H S' H' cs' ss' X hd hL hR hF hB h
  cases h
  exact ⟨T, locs, X, hR, hF, hB, fun t q => X.ldc2Long hx hown (mvT hZ w) (g := mkF m pc (cL σ L) _) rfl hd t q⟩
theorem okGet (hx : p.tables.exec = Jvm.exec) (hZ : Z.Warmed39 s.vm) {own R0 O n d host C : String} {idx cn j : Nat} {fs : List (String × String × String)} (hown : s.vm.findClass own = some m.cls) (w : (Jvm.Cond.fieldLink own idx R0 n d).before a0 Z = true ∨ (Jvm.Cond.fieldLinkNest own idx R0 n d host).before a0 Z = true) (via : Via Z R0 O n d)
    (hC : K[cn]? = some (C, fs)) (hj : fs[j]? = some (O, n, d)) : Good p l e R s m args below meth c Z σ x0 n0 K (.getfield idx) (aGet cn j) := by
  intro T locs cs ss pc L S H S' H' cs' ss' X hd hL hR hF hB h
  unfold aGet at h
  split at h
  · rename_i a r
    replace h := Option.bind_eq_some_iff.mp h
    obtain ⟨⟨cn', vs⟩, h1, h⟩ := h
    dsimp only at h
    split at h
    · rename_i hcn; subst hcn
      replace h := Option.bind_eq_some_iff.mp h
      obtain ⟨v, h2, h⟩ := h
      cases h
      obtain ⟨C', fs', q1, q2, q3⟩ := hR.2.2.2 _ _ (obj_some h1)
      cases hC.symm.trans q1
      obtain ⟨O', n', d', q4, q5⟩ := q3 j v h2
      cases hj.symm.trans q4
      obtain ⟨T', X', e', st⟩ := getF X hx hZ hown w via rfl q5 (g := mkF m pc (cL σ L) (List.map (cv σ) (.ref a :: r))) rfl rfl hd
      exact ⟨T', locs, X', e' ▸ hR, hF, hB, st⟩
    · cases h
  · cases h
theorem cv_narrow {ty : FieldType} {v : Value} (h : narrow ty v = v) : narrow ty (cv σ v) = cv σ v := by cases v <;> first | exact h | (cases ty <;> rfl)
theorem okPut (hx : p.tables.exec = Jvm.exec) (hZ : Z.Warmed39 s.vm) (hsg : Sg σ x0 n0) (KO : KOk Z a0 K) {own R0 O n d host C : String} {idx cn j : Nat} {ty : FieldType} {fs : List (String × String × String)} (hown : s.vm.findClass own = some m.cls) (w : (Jvm.Cond.fieldLink own idx R0 n d).before a0 Z = true ∨ (Jvm.Cond.fieldLinkNest own idx R0 n d host).before a0 Z = true) (via : Via Z R0 O n d)
    (hC : K[cn]? = some (C, fs)) (hj : fs[j]? = some (O, n, d)) (hty : parseFieldDescriptor d = some ty) (hLay : (Jvm.Cond.lays C O n d).before a0 Z = true ∨ ((Jvm.Cond.laysFinal C O n d).before a0 Z = true ∧ own = O ∧ meth.name = "<init>")) : Good p l e R s m args below meth c Z σ x0 n0 K (.putfield idx) (aPut x0 cn j ty) := by
  intro T locs cs ss pc L S H S' H' cs' ss' X hd hL hR hF hB h
  unfold aPut at h
  split at h
  · rename_i v a r
    replace h := Option.bind_eq_some_iff.mp h
    obtain ⟨⟨cn', vs⟩, h1, h⟩ := h
    dsimp only at h
    split at h
    · rename_i hq
      obtain ⟨rfl, hn, hf, hx0, hjl⟩ := hq
      cases h
      have hRO := hR.2.2.2 _ _ (obj_some h1)
      obtain ⟨C', fs', q1, q2, q3⟩ := hRO
      cases hC.symm.trans q1
      obtain ⟨O', n', d', q4, q5⟩ := q3 j _ (List.getElem?_eq_getElem hjl)
      cases hj.symm.trans q4
      obtain ⟨⟨kk, wi⟩, -⟩ := KO cn' C fs hC
      obtain ⟨T', h', X', e', W, st⟩ := putF X hx hZ hown w via rfl q5 q2 hLay wi hty (cv_narrow hn) ((cv_fits ty v).trans hf) (g := mkF m pc (cL σ L) (List.map (cv σ) (v :: .ref a :: S'))) rfl rfl hd
      exact ⟨T', _, X', e' ▸ hR.write hsg hx0 W (RepO.fld KO hC hj (hR.2.2.2 _ _ (obj_some h1)) W), Fr.snoc X' hF (hsg.new hx0), hB, st⟩
    · cases h
  · cases h
theorem ext_push (h : Heap) (c : Cell) : Ext h (h.push c) := ext_of fun a q => (Array.getElem?_push_lt q).trans (Array.getElem?_eq_getElem q).symm
theorem okNew (hx : p.tables.exec = Jvm.exec) (hZ : Z.Warmed39 s.vm) (hsg : Sg σ x0 n0) (KO : KOk Z a0 K) {own C : String} {idx n cn Rc Rs : Nat} {ds : List Value} {fs : List (String × String × String)} (hown : s.vm.findClass own = some m.cls) (w : (Jvm.Cond.classLink own idx C).before a0 Z = true) (wi : (Jvm.Cond.instantiable C n).before a0 Z = true) (wz : (Jvm.Cond.initialized C).before a0 Z = true)
    (hC : K[cn]? = some (C, fs)) (hds : ds = fs.map fun f => ((parseFieldDescriptor f.2.2).map defaultValue).getD .null) (hRc : Rc ≤ R.cells) (hRs : Rs ≤ R.slots) : Good p l e R s m args below meth c Z σ x0 n0 K (.new idx) (aNew cn n Rc Rs ds) := by
  intro T locs cs ss pc L S H S' H' cs' ss' X hd hL hR hF hB h
  unfold aNew at h
  split at h
  · rename_i hq
    cases h
    obtain ⟨vm', cC, kC, h1, h2, h3, h4, X', st⟩ := X.newCold hx hown (mv hZ w) (mv hZ wi) (mv hZ wz) (g := mkF m pc (cL σ L) (S.map (cv σ))) rfl hd (Nat.le_trans hq.1 hRc) (Nat.le_trans hq.2 hRs)
    have ea : σ H.length = T.heap.size := hR.addr hsg
    have h1' : Z.vm.findClass C = some cC := by rw [← hZ.alike.findClass]; exact h1
    obtain ⟨kZ, z1, -⟩ := Vm.findClass_spec h1'
    obtain ⟨k', z2, z3⟩ := hZ.alike.2.2 _ _ z1
    cases h2.symm.trans z2
    have ei : kC.instanceTypes = kZ.instanceTypes := by rw [z3]
    have hN : (T.heap.push { cls := cC, slots := kC.instanceTypes.map defaultValue, vm := .none })[T.heap.size]? = some { cls := cC, slots := kC.instanceTypes.map defaultValue, vm := .none } := by simp
    refine ⟨_, locs, X', hR.push (ext_push _ _) (by show (T.heap.push _).size = _; simp) ?_, hF, ⟨Nat.le_trans hq.1 hRc, Nat.le_trans hq.2 hRs⟩, ?_⟩
    · rw [ea]
      refine ⟨C, fs, hC, ⟨_, kZ, hN, h1', z1, rfl, fun _ => by simp [ei]⟩, fun j v hj => ?_⟩
      subst hds
      rw [List.getElem?_map, Option.map_eq_some_iff] at hj
      obtain ⟨⟨O, nm, d⟩, q1, q2⟩ := hj
      obtain ⟨-, k2, -⟩ := KO cn C fs hC
      obtain ⟨Ld, ty, ht⟩ := k2 j _ q1
      obtain ⟨c1, k1, cf, kf, i, f, a1, a2, a3, a4, a5, a6, -⟩ := Ld.spec
      cases h1'.symm.trans a1
      cases z1.symm.trans a2
      refine ⟨O, nm, d, q1, _, cf, kf, i, f, hN, a3, a4, by simp, rfl, a5, ?_⟩
      have ht' : parseFieldDescriptor d = some ty := ht
      simp only [ht', Option.map_some, Option.getD_some] at q2
      subst q2
      have hcv : cv σ (defaultValue ty) = defaultValue ty := by cases ty <;> rfl
      simp [ei, a6, (State.fieldFound?_type a3 ht).2, hcv]
    · intro t q
      refine st t ?_
      have q' := q
      simp only [List.map_cons, cv, ea] at q'
      exact q'
  · cases h
theorem okArr (hx : p.tables.exec = Jvm.exec) (hZ : Z.Warmed39 s.vm) (hsg : Sg σ x0 n0) {t : ArrayType} {Rc Rs : Nat} (w : (Jvm.Cond.arrayClass (newarray.typeOf t)).before a0 Z = true) (hRc : Rc ≤ R.cells) (hRs : Rs ≤ R.slots) : Good p l e R s m args below meth c Z σ x0 n0 K (.newarray t) (aArr (newarray.typeOf t) Rc Rs) := by
  intro T locs cs ss pc L S H S' H' cs' ss' X hd hL hR hF hB h
  unfold aArr at h
  split at h
  · rename_i n r
    split at h
    · rename_i hq
      cases h
      have hcb : componentBytes (newarray.typeOf t) ≤ 8 := by cases t <;> decide
      obtain ⟨cA, kA, comp, h1, h2, h3, X', st⟩ := X.newarrayPrim hx (mvA hZ w) (g := mkF m pc (cL σ L) (List.map (cv σ) (.int n :: r))) rfl hd rfl hq.1 (Nat.le_trans (Nat.mul_le_mul hq.2.2.2 hcb) (by decide)) (Nat.le_trans hq.2.1 hRc) (Nat.le_trans hq.2.2.1 hRs)
      have ea : σ H.length = T.heap.size := hR.addr hsg
      have h1' : Z.vm.findClass ("[" ++ (newarray.typeOf t).toString) = some cA := by rw [← hZ.alike.findClass]; exact h1
      obtain ⟨kZ, z1, -⟩ := Vm.findClass_spec h1'
      obtain ⟨k', z2, z3⟩ := hZ.alike.2.2 _ _ z1
      cases h2.symm.trans z2
      have kk : kZ.kind = .array comp (newarray.typeOf t) := by rw [← h3, z3]
      have hcv : cv σ (defaultValue (newarray.typeOf t)) = defaultValue (newarray.typeOf t) := by cases t <;> rfl
      refine ⟨_, locs, X', hR.push (ext_push _ _) (by show (T.heap.push _).size = _; simp) ?_, hF, ⟨Nat.le_trans hq.2.1 hRc, Nat.le_trans hq.2.2.1 hRs⟩, ?_⟩
      · rw [ea]
        refine ⟨newA cA (newarray.typeOf t) n, ⟨by show (T.heap.push _)[T.heap.size]? = _; simp [newA], ⟨by simp [newA], kZ, z1, comp, kk⟩, by simp [newA]⟩, by simp [newA, hcv], ?_, fun v hv => ?_, fun _ => ⟨newA cA (newarray.typeOf t) n, kZ, by show (T.heap.push _)[T.heap.size]? = _; simp [newA], h1', z1, rfl, fun q => by rw [kk] at q; cases q⟩⟩
        · rw [List.length_replicate]; have := hq.2.2.2; omega
        · rw [(List.mem_replicate.mp hv).2]; cases t <;> rfl
      · intro t q
        refine st t ?_
        have q' := q
        simp only [List.map_cons, cv, ea] at q'
        exact q'
    · cases h
  · cases h
theorem cat_sum (r : List Value) : ((r.map (cv σ)).map fun v => v.category).sum = (r.map Value.category).sum := by
  rw [List.map_map]; congr 1; exact List.map_congr_left fun v _ => cat_cv v
theorem okObj (hx : p.tables.exec = Jvm.exec) (hZ : Z.Warmed39 s.vm) {own : String} {idx W : Nat} (hown : s.vm.findClass own = some m.cls) (w1 : (Jvm.Cond.methodLink own idx Lib.objectInit).before a0 Z = true) (w2 : (Jvm.Cond.instanceMethod Lib.objectInit).before a0 Z = true)
    (w3 : (Jvm.Cond.code Lib.objectInit ⟨#[0xb1]⟩ 1 none).before a0 Z = true) (hf : 1 ≤ R.frames) (hl : W + 12 ≤ R.locals) : Good p l e R s m args below meth c Z σ x0 n0 K (.invokespecial idx) (aObj W) := by
  intro T locs cs ss pc L S H S' H' cs' ss' X hd hL hR hF hB h
  unfold aObj at h
  split at h
  · rename_i a r
    split at h
    · rename_i hq
      cases h
      obtain ⟨T', X', e', st⟩ := initO X hx hZ hown w1 w2 w3 rfl (g := mkF m pc (cL σ L) (List.map (cv σ) (.ref a :: S'))) rfl (size_cL.trans hL) rfl hd hf (W := W) (by show 2 * 0 + _ ≤ _; rw [cat_sum]; omega) hl
      exact ⟨T', locs, X', e' ▸ hR, hF, hB, st⟩
    · cases h
  · cases h
theorem args_rev (S : List Value) (na : Nat) : S.map (cv σ) = (((S.take na).reverse).map (cv σ)).reverse ++ (S.drop na).map (cv σ) := by
  rw [List.map_reverse, List.reverse_reverse, ← List.map_append, List.take_append_drop]
theorem toList_map (v : Option Value) (r : List Value) : (v.map (cv σ)).toList ++ r.map (cv σ) = (v.toList ++ r).map (cv σ) := by cases v <;> simp
theorem okStat (hx : p.tables.exec = Jvm.exec) (hZ : Z.Warmed39 s.vm) {own : String} {idx na W Rc Rs maxL : Nat} {y : MethodName} {bytes : ByteArray} {ret rr : Option FieldType} {ps : List FieldType} {rm : Room} {F : List Value → AH → Option ORes} (hF0 : Says l Z σ x0 n0 K y bytes maxL ret [] rm F)
    (hown : s.vm.findClass own = some m.cls) (w1 : (Jvm.Cond.methodLink own idx y).before a0 Z = true) (w2 : (Jvm.Cond.static y).before a0 Z = true) (w3 : (Jvm.Cond.initialized y.cls).before a0 Z = true) (w4 : (Jvm.Cond.code y bytes maxL ret).before a0 Z = true)
    (hy : y.cls ≠ "java/lang/invoke/MethodHandle" ∧ y.cls ≠ "java/lang/invoke/VarHandle") (hd0 : parseMethodDescriptor y.desc = some ⟨ps, rr⟩) (hna : ps.length = na) (hRc : Rc ≤ R.cells) (hRs : Rs ≤ R.slots) (hfr : rm.frames + 1 ≤ R.frames) (hlo : W + (maxL + 11) + rm.locals ≤ R.locals) :
    Good p l e R s m args below meth c Z σ x0 n0 K (.invokestatic idx) (aCall na W Rc Rs rm.cells rm.slots F) := by
  intro T locs cs ss pc L S H S' H' cs' ss' X hd hL hR hF hB h
  unfold aCall at h
  split at h
  · rename_i hq
    replace h := Option.bind_eq_some_iff.mp h
    obtain ⟨⟨v, H1⟩, h1, h⟩ := h
    cases h
    obtain ⟨v', vm1, ⟨T', L', k', n'⟩, -, X', ⟨Lc, ⟨hv, hR', hN⟩, l1, y1, z1⟩, st⟩ := Jvm.LawKit.callS X hx (y := y) hown (mvT hZ w1) (mvT hZ w2) (mvT hZ w3) (mvT hZ w4) hy (backOf (h := T.heap) (W := W) (Q := fun w h' L => w = v.map (cv σ) ∧ Rep Z σ x0 n0 K h' H1 ∧ Fr n0 L) (hF0 _ H _ T.heap h1 hR) hZ w4 w3 hfr hlo) (g := mkF m pc (cL σ L) (S.map (cv σ))) rfl (size_cL.trans hL) (argsL := ((S.take na).reverse).map (cv σ)) (rest := (S.drop na).map (cv σ)) (lenOf hd0 (by rw [hna]; simp; omega)) (args_rev S na) (by show 2 * 0 + _ ≤ _; rw [cat_sum]; omega) hd (fun _ _ => ⟨rfl, rfl, Nat.le_trans hq.2.2.1 hRc, Nat.le_trans hq.2.2.2 hRs⟩)
    dsimp only [Pt.U, Pt.locs, Pt.cells, Pt.slots] at X' l1 y1 z1 st hR'
    subst l1 y1 z1 hv
    refine ⟨T', _, X', hR', hF.app hN, ⟨Nat.le_trans hq.2.2.1 hRc, Nat.le_trans hq.2.2.2 hRs⟩, fun t q => st t ?_⟩
    show Steps p.tables e below (T'.setTop (mkF m (pc + 3) (cL σ L) ((v.map (cv σ)).toList ++ (S.drop na).map (cv σ)))) t
    rw [toList_map]; exact q
  · cases h
theorem okCtor (hx : p.tables.exec = Jvm.exec) (hZ : Z.Warmed39 s.vm) {own : String} {idx na cl W Rc Rs maxL : Nat} {y : MethodName} {bytes : ByteArray} {rr : Option FieldType} {ps : List FieldType} {rm : Room} {F : List Value → AH → Option ORes} (hF0 : Says l Z σ x0 n0 K y bytes maxL none [] rm F) (hy1 : y.name = "<init>")
    (hown : s.vm.findClass own = some m.cls) (w1 : (Jvm.Cond.methodLink own idx y).before a0 Z = true) (w2 : (Jvm.Cond.instanceMethod y).before a0 Z = true) (w3 : (Jvm.Cond.initialized y.cls).before a0 Z = true) (w4 : (Jvm.Cond.code y bytes maxL none).before a0 Z = true)
    (hy : y.cls ≠ "java/lang/invoke/MethodHandle" ∧ y.cls ≠ "java/lang/invoke/VarHandle") (hd0 : parseMethodDescriptor y.desc = some ⟨ps, rr⟩) (hna : ps.length = na) (hRc : Rc ≤ R.cells) (hRs : Rs ≤ R.slots) (hfr : rm.frames + 1 ≤ R.frames) (hlo : W + (maxL + 11) + rm.locals ≤ R.locals) :
    Good p l e R s m args below meth c Z σ x0 n0 K (.invokespecial idx) (aRecv na cl W Rc Rs rm.cells rm.slots F) := by
  intro T locs cs ss pc L S H S' H' cs' ss' X hd hL hR hF hB h
  unfold aRecv at h
  split at h
  · rename_i a r hdr
    replace h := Option.bind_eq_some_iff.mp h
    obtain ⟨q0, h0, h⟩ := h
    split at h
    · rename_i hq
      replace h := Option.bind_eq_some_iff.mp h
      obtain ⟨⟨v, H1⟩, h1, h⟩ := h
      cases h
      have hst : S.map (cv σ) = (((S.take na).reverse).map (cv σ)).reverse ++ .ref (σ a) :: r.map (cv σ) := by rw [args_rev S na, hdr]; rfl
      obtain ⟨v', vm1, ⟨T', L', k', n'⟩, -, X', ⟨Lc, ⟨hv, hR', hN⟩, l1, y1, z1⟩, st⟩ := X.specialBack hx (y := y) hy1 hown (mvT hZ w1) (mvT hZ w2) (mvT hZ w4) hy (backOf (h := T.heap) (W := W) (Q := fun w h' L => w = v.map (cv σ) ∧ Rep Z σ x0 n0 K h' H1 ∧ Fr n0 L) (hF0 _ H _ T.heap h1 hR) hZ w4 w3 hfr hlo) (g := mkF m pc (cL σ L) (S.map (cv σ))) rfl (size_cL.trans hL) (Steps.refl _) (a := σ a) (argsL := ((S.take na).reverse).map (cv σ)) (rest := r.map (cv σ)) (lenOf hd0 (by rw [hna]; simp; omega)) hst (by show 2 * 0 + _ ≤ _; rw [cat_sum]; omega) hd (fun _ _ => ⟨rfl, rfl, Nat.le_trans hq.2.2.2.1 hRc, Nat.le_trans hq.2.2.2.2 hRs⟩)
      dsimp only [Pt.U, Pt.locs, Pt.cells, Pt.slots] at X' l1 y1 z1 st hR'
      subst l1 y1 z1 hv
      refine ⟨T', _, X', hR', hF.app hN, ⟨Nat.le_trans hq.2.2.2.1 hRc, Nat.le_trans hq.2.2.2.2 hRs⟩, fun t q => st.trans ?_⟩
      show Steps p.tables e below (T'.setTop (mkF m (pc + 3) (cL σ L) ((v.map (cv σ)).toList ++ r.map (cv σ)))) t
      rw [toList_map]; exact q
    · cases h
  · cases h
theorem okVirt (hx : p.tables.exec = Jvm.exec) (hZ : Z.Warmed39 s.vm) {own C : String} {idx na cl W Rc Rs maxL : Nat} {y z : MethodName} {bytes : ByteArray} {ret rr : Option FieldType} {ps : List FieldType} {rm : Room} {fs : List (String × String × String)} {F : List Value → AH → Option ORes} (hF0 : Says l Z σ x0 n0 K z bytes maxL ret [] rm F) (hC : K[cl]? = some (C, fs))
    (hown : s.vm.findClass own = some m.cls) (w1 : (Jvm.Cond.methodLink own idx y).before a0 Z = true) (w2 : (Jvm.Cond.declares y).before a0 Z = true) (w5 : (Jvm.Cond.selects C y z).before a0 Z = true) (w6 : (Jvm.Cond.instanceMethod z).before a0 Z = true) (w3 : (Jvm.Cond.initialized z.cls).before a0 Z = true) (w4 : (Jvm.Cond.code z bytes maxL ret).before a0 Z = true)
    (nf : ∀ (s' : State) (ar : Array Value), (Jvm.Cond.selects C y z).before ar s' = true → NotFace s' y) (hy : y.cls ≠ "java/lang/invoke/MethodHandle" ∧ y.cls ≠ "java/lang/invoke/VarHandle") (hd0 : parseMethodDescriptor y.desc = some ⟨ps, rr⟩) (hna : ps.length = na) (hRc : Rc ≤ R.cells) (hRs : Rs ≤ R.slots) (hfr : rm.frames + 1 ≤ R.frames) (hlo : W + (maxL + 11) + rm.locals ≤ R.locals) :
    Good p l e R s m args below meth c Z σ x0 n0 K (.invokevirtual idx) (aRecv na cl W Rc Rs rm.cells rm.slots F) := by
  intro T locs cs ss pc L S H S' H' cs' ss' X hd hL hR hF hB h
  unfold aRecv at h
  split at h
  · rename_i a r hdr
    replace h := Option.bind_eq_some_iff.mp h
    obtain ⟨⟨cn, vs⟩, h0, h⟩ := h
    dsimp only at h
    split at h
    · rename_i hq
      replace h := Option.bind_eq_some_iff.mp h
      obtain ⟨⟨v, H1⟩, h1, h⟩ := h
      cases h
      obtain ⟨rfl, hq⟩ := hq
      obtain ⟨C', fs', q1, q2, -⟩ := hR.2.2.2 _ _ (obj_some h0)
      cases hC.symm.trans q1
      obtain ⟨cB, kB, i1, i2, i3⟩ := isOf (T := T) hZ rfl q2
      have hst : S.map (cv σ) = (((S.take na).reverse).map (cv σ)).reverse ++ .ref (σ a) :: r.map (cv σ) := by rw [args_rev S na, hdr]; rfl
      obtain ⟨v', vm1, ⟨T', L', k', n'⟩, -, X', ⟨Lc, ⟨hv, hR', hN⟩, l1, y1, z1⟩, st⟩ := X.virtualBack hx (y := y) (z := z) hown (mvT hZ w1) (mvT hZ w2) (nf s #[] (mvT hZ w5)) (mvT hZ w5) (mvT hZ w6) hy (backOf (h := T.heap) (W := W) (Q := fun w h' L => w = v.map (cv σ) ∧ Rep Z σ x0 n0 K h' H1 ∧ Fr n0 L) (hF0 _ H _ T.heap h1 hR) hZ w4 w3 hfr hlo) i1 i3 (g := mkF m pc (cL σ L) (S.map (cv σ))) rfl (size_cL.trans hL) (Steps.refl _) (argsL := ((S.take na).reverse).map (cv σ)) (rest := r.map (cv σ)) (lenOf hd0 (by rw [hna]; simp; omega)) hst (by show 2 * 0 + _ ≤ _; rw [cat_sum]; omega) hd (fun _ _ => ⟨rfl, rfl, Nat.le_trans hq.2.2.1 hRc, Nat.le_trans hq.2.2.2 hRs⟩)
      dsimp only [Pt.U, Pt.locs, Pt.cells, Pt.slots] at X' l1 y1 z1 st hR'
      subst l1 y1 z1 hv
      refine ⟨T', _, X', hR', hF.app hN, ⟨Nat.le_trans hq.2.2.1 hRc, Nat.le_trans hq.2.2.2 hRs⟩, fun t q => st.trans ?_⟩
      show Steps p.tables e below (T'.setTop (mkF m (pc + 3) (cL σ L) ((v.map (cv σ)).toList ++ r.map (cv σ)))) t
      rw [toList_map]; exact q
    · cases h
  · cases h
theorem ag_nil : AllGood p l e R s m args below meth c Z σ x0 n0 K [] := trivial
theorem ag_cons {q i : Nat} {act : Act} {E : List (Nat × Nat × Act)} (h : Good p l e R s m args below meth c Z σ x0 n0 K (insOf q i) act) (t : AllGood p l e R s m args below meth c Z σ x0 n0 K E) : AllGood p l e R s m args below meth c Z σ x0 n0 K ((q, i, act) :: E) := ⟨h, t⟩
end Acts
theorem names_inj {fs : List (String × String × String)} (h : (fs.map fun f => f.2.1).Nodup) : ∀ (i j : Nat) (f g : String × String × String), fs[i]? = some f → fs[j]? = some g → f.2.1 = g.2.1 → i = j := by
  intro i j f g hf hg e
  refine (List.getElem?_inj (l := fs.map fun f => f.2.1) (by simpa using (List.getElem?_eq_some_iff.mp hf).1) h).mp ?_
  simp [hf, hg, e]
theorem sg_start {n : Nat} : Sg (fun k => n + k) 0 n := ⟨fun k _ => rfl, fun i h => absurd h (Nat.not_lt_zero _), fun i j h => absurd h (Nat.not_lt_zero _)⟩
theorem rep_start {s : State} {σ : Nat → Nat} {K : List CD} : Rep s σ 0 s.heap.size K s.heap [] := ⟨rfl, Nat.le_refl _, Old.start s, fun k o h => by cases h⟩
end Jvm.Own
namespace Jvm.Own
open Sem ClassFile Op Lib Jvm.RoadKit
/-! ## 6. Rows for evaluating a orun -/
section Ev
variable {x y : Int32} {pc : Nat} {o : Int} {f : Nat → Option ORes} {P : Prop} [Decidable P]
theorem h_eq : if_icmp.holds .eq x y = decide (x = y) := by by_cases h : x = y <;> simp [if_icmp.holds, h]
theorem h_ne : if_icmp.holds .ne x y = !decide (x = y) := by by_cases h : x = y <;> simp [if_icmp.holds, h]
theorem h_lt : if_icmp.holds .lt x y = decide (x < y) := rfl
theorem h_ge : if_icmp.holds .ge x y = !decide (x < y) := by
  by_cases h : x < y
  · simp [if_icmp.holds, h, Int32.not_le.mpr h]
  · simp [if_icmp.holds, h, Int32.not_lt.mp h]
theorem h_gt : if_icmp.holds .gt x y = decide (y < x) := rfl
theorem h_le : if_icmp.holds .le x y = !decide (y < x) := by
  by_cases h : y < x
  · simp [if_icmp.holds, h, Int32.not_le.mpr h]
  · simp [if_icmp.holds, h, Int32.not_lt.mp h]
theorem z_eq : ifCond.holds .eq x = decide (x = 0) := h_eq (y := 0)
theorem z_ne : ifCond.holds .ne x = !decide (x = 0) := h_ne (y := 0)
theorem z_lt : ifCond.holds .lt x = decide (x < 0) := rfl
theorem z_ge : ifCond.holds .ge x = !decide (x < 0) := h_ge (y := 0)
theorem z_gt : ifCond.holds .gt x = decide (0 < x) := rfl
theorem z_le : ifCond.holds .le x = !decide (0 < x) := h_le (y := 0)
theorem br_d : br (decide P) pc o f = if 0 ≤ (pc : Int) + o then (if P then f ((pc : Int) + o).toNat else f (pc + 3)) else none := by unfold br; by_cases h : P <;> simp [h]
theorem br_n : br (!decide P) pc o f = if 0 ≤ (pc : Int) + o then (if P then f (pc + 3) else f ((pc : Int) + o).toNat) else none := by unfold br; by_cases h : P <;> simp [h]
theorem br_t : br true pc o f = if 0 ≤ (pc : Int) + o then f ((pc : Int) + o).toNat else none := rfl
theorem br_f : br false pc o f = if 0 ≤ (pc : Int) + o then f (pc + 3) else none := rfl
theorem b_1 : ((if P then (1 : Int32) else 0) = 1) = P := by by_cases h : P <;> simp [h]
theorem b_0 : ((if P then (1 : Int32) else 0) = 0) = ¬ P := by by_cases h : P <;> simp [h]
theorem b_1r : ((1 : Int32) = (if P then (1 : Int32) else 0)) = P := by by_cases h : P <;> simp [h]
theorem b_0r : ((0 : Int32) = (if P then (1 : Int32) else 0)) = ¬ P := by by_cases h : P <;> simp [h]
theorem b_bb {Q : Prop} [Decidable Q] : ((if P then (1 : Int32) else 0) = (if Q then (1 : Int32) else 0)) = (P ↔ Q) := by by_cases h : P <;> by_cases h' : Q <;> simp [h, h']
theorem b_and : (if P then (1 : Int32) else 0) &&& 1 = if P then 1 else 0 := by by_cases h : P <;> simp [h]
theorem i_10 : ((1 : Int32) = 0) = False := by simp
theorem i_01 : ((0 : Int32) = 1) = False := by simp
theorem nr_i {x : Int32} : narrow .int (.int x) = .int x := rfl
theorem nr_j {x : Int64} : narrow .long (.long x) = .long x := rfl
theorem nr_a {t : FieldType} {v : Value} : narrow (.array t) v = v := by cases v <;> rfl
theorem nr_o {t : String} {v : Value} : narrow (.object t) v = v := by cases v <;> rfl
theorem nr_b : narrow .boolean (.int (if P then (1 : Int32) else 0)) = .int (if P then (1 : Int32) else 0) := by by_cases h : P <;> simp [h] <;> rfl
theorem nr_b1 : narrow .boolean (.int 1) = .int 1 := rfl
theorem nr_b0 : narrow .boolean (.int 0) = .int 0 := rfl
theorem ft_i {x : Int32} : fits .int (.int x) = true := rfl
theorem ft_j {x : Int64} : fits .long (.long x) = true := rfl
theorem ft_a {t : FieldType} {a : Nat} : fits (.array t) (.ref a) = true := rfl
theorem ft_o {t : String} {a : Nat} : fits (.object t) (.ref a) = true := rfl
theorem ft_b : fits .boolean (.int (if P then (1 : Int32) else 0)) = true := by by_cases h : P <;> simp [h] <;> rfl
theorem ft_b1 : fits .boolean (.int 1) = true := rfl
theorem ft_b0 : fits .boolean (.int 0) = true := rfl
theorem rV_nil {H : AH} : rV none [] H = some (none, H) := rfl
theorem cat_int {x : Int32} : Value.category (.int x) = 1 := rfl
theorem cat_long {x : Int64} : Value.category (.long x) = 2 := rfl
theorem cat_ref {a : Nat} : Value.category (.ref a) = 1 := rfl
theorem cat_null : Value.category .null = 1 := rfl
theorem and11 : (1 : Int32) &&& 1 = 1 := rfl
theorem and01 : (0 : Int32) &&& 1 = 0 := rfl
theorem pI_int {x : Int32} {r : List Value} {f : Int32 → List Value → Option ORes} : pI (.int x :: r) f = f x r := rfl
theorem pL_long {x : Int64} {r : List Value} {f : Int64 → List Value → Option ORes} : pL (.long x :: r) f = f x r := rfl
theorem pA_ref {a : Nat} {r : List Value} {f : Value → List Value → Option ORes} : pA (.ref a :: r) f = f (.ref a) r := rfl
theorem pA_null {r : List Value} {f : Value → List Value → Option ORes} : pA (.null :: r) f = f .null r := rfl
theorem pR_ref {a : Nat} {r : List Value} {f : Nat → List Value → Option ORes} : pR (.ref a :: r) f = f a r := rfl
theorem p1_int {x : Int32} {r : List Value} {f : Value → List Value → Option ORes} : p1 (.int x :: r) f = f (.int x) r := rfl
theorem p1_ref {a : Nat} {r : List Value} {f : Value → List Value → Option ORes} : p1 (.ref a :: r) f = f (.ref a) r := rfl
theorem p1_null {r : List Value} {f : Value → List Value → Option ORes} : p1 (.null :: r) f = f .null r := rfl
variable {code : ByteArray} {rt : Option FieldType} {E : List (Nat × Nat × Act)} {x0 n q cs ss : Nat} {L : List Slot} {S : List Value} {H : AH}
theorem s_icmp {cd : ClassFile.Cond} {Q : Int32 → Int32 → Prop} [∀ x y, Decidable (Q x y)] (hP : ∀ x y, if_icmp.holds cd x y = decide (Q x y)) (h : dec code pc = some (.if_icmp cd o)) (ho : 0 ≤ (pc : Int) + o) (hq : ((pc : Int) + o).toNat = q) :
    orun code rt E x0 (n + 1) (pc, L, S, H, cs, ss) = pI S fun y S => pI S fun x r => if Q x y then orun code rt E x0 n (q, L, r, H, cs, ss) else orun code rt E x0 n (pc + 3, L, r, H, cs, ss) := by
  subst hq; rw [orun_succ, h]
  refine congrArg (pI S) (funext fun y => funext fun S' => congrArg (pI S') (funext fun x => funext fun r => ?_))
  rw [hP, br_d, if_pos ho]
theorem s_icmpN {cd : ClassFile.Cond} {Q : Int32 → Int32 → Prop} [∀ x y, Decidable (Q x y)] (hP : ∀ x y, if_icmp.holds cd x y = !decide (Q x y)) (h : dec code pc = some (.if_icmp cd o)) (ho : 0 ≤ (pc : Int) + o) (hq : ((pc : Int) + o).toNat = q) :
    orun code rt E x0 (n + 1) (pc, L, S, H, cs, ss) = pI S fun y S => pI S fun x r => if Q x y then orun code rt E x0 n (pc + 3, L, r, H, cs, ss) else orun code rt E x0 n (q, L, r, H, cs, ss) := by
  subst hq; rw [orun_succ, h]
  refine congrArg (pI S) (funext fun y => funext fun S' => congrArg (pI S') (funext fun x => funext fun r => ?_))
  rw [hP, br_n, if_pos ho]
theorem s_if {cd : ClassFile.Cond} {Q : Int32 → Prop} [∀ x, Decidable (Q x)] (hP : ∀ x, ifCond.holds cd x = decide (Q x)) (h : dec code pc = some (.ifCond cd o)) (ho : 0 ≤ (pc : Int) + o) (hq : ((pc : Int) + o).toNat = q) :
    orun code rt E x0 (n + 1) (pc, L, S, H, cs, ss) = pI S fun x r => if Q x then orun code rt E x0 n (q, L, r, H, cs, ss) else orun code rt E x0 n (pc + 3, L, r, H, cs, ss) := by
  subst hq; rw [orun_succ, h]
  refine congrArg (pI S) (funext fun x => funext fun r => ?_)
  rw [hP, br_d, if_pos ho]
theorem s_ifN {cd : ClassFile.Cond} {Q : Int32 → Prop} [∀ x, Decidable (Q x)] (hP : ∀ x, ifCond.holds cd x = !decide (Q x)) (h : dec code pc = some (.ifCond cd o)) (ho : 0 ≤ (pc : Int) + o) (hq : ((pc : Int) + o).toNat = q) :
    orun code rt E x0 (n + 1) (pc, L, S, H, cs, ss) = pI S fun x r => if Q x then orun code rt E x0 n (pc + 3, L, r, H, cs, ss) else orun code rt E x0 n (q, L, r, H, cs, ss) := by
  subst hq; rw [orun_succ, h]
  refine congrArg (pI S) (funext fun x => funext fun r => ?_)
  rw [hP, br_n, if_pos ho]
theorem s_goto (h : dec code pc = some (.goto o)) (ho : 0 ≤ (pc : Int) + o) (hq : ((pc : Int) + o).toNat = q) : orun code rt E x0 (n + 1) (pc, L, S, H, cs, ss) = orun code rt E x0 n (q, L, S, H, cs, ss) := by
  subst hq; rw [orun_succ, h]; exact if_pos ho
theorem s_any {i : Instr} (h : dec code pc = some i) : orun code rt E x0 (n + 1) (pc, L, S, H, cs, ss) = ex rt E x0 (orun code rt E x0 n) i pc L S H cs ss := by rw [orun_succ, h]; rfl
end Ev
theorem ex_ishl {rt : Option FieldType} {E : List (Nat × Nat × Act)} {x0 pc cs ss : Nat} {k : St → Option ORes} {L : List Slot} {S : List Value} {H : AH}  : ex rt E x0 k (.ishl) pc L S H cs ss = pI S fun y S => pI S fun x r => k (pc + 1, L, .int (x <<< (y &&& 31)) :: r, H, cs, ss) := rfl
theorem ex_ishr {rt : Option FieldType} {E : List (Nat × Nat × Act)} {x0 pc cs ss : Nat} {k : St → Option ORes} {L : List Slot} {S : List Value} {H : AH}  : ex rt E x0 k (.ishr) pc L S H cs ss = pI S fun y S => pI S fun x r => k (pc + 1, L, .int (x >>> (y &&& 31)) :: r, H, cs, ss) := rfl
theorem ex_iushr {rt : Option FieldType} {E : List (Nat × Nat × Act)} {x0 pc cs ss : Nat} {k : St → Option ORes} {L : List Slot} {S : List Value} {H : AH}  : ex rt E x0 k (.iushr) pc L S H cs ss = pI S fun y S => pI S fun x r => k (pc + 1, L, .int ((x.toUInt32 >>> (y &&& 31).toUInt32).toInt32) :: r, H, cs, ss) := rfl
theorem ex_idiv {rt : Option FieldType} {E : List (Nat × Nat × Act)} {x0 pc cs ss : Nat} {k : St → Option ORes} {L : List Slot} {S : List Value} {H : AH}  : ex rt E x0 k (.idiv) pc L S H cs ss = pI S fun y S => pI S fun x r => if y = 0 then none else k (pc + 1, L, .int (x / y) :: r, H, cs, ss) := rfl
theorem ex_irem {rt : Option FieldType} {E : List (Nat × Nat × Act)} {x0 pc cs ss : Nat} {k : St → Option ORes} {L : List Slot} {S : List Value} {H : AH}  : ex rt E x0 k (.irem) pc L S H cs ss = pI S fun y S => pI S fun x r => if y = 0 then none else k (pc + 1, L, .int (x % y) :: r, H, cs, ss) := rfl
theorem ex_ineg {rt : Option FieldType} {E : List (Nat × Nat × Act)} {x0 pc cs ss : Nat} {k : St → Option ORes} {L : List Slot} {S : List Value} {H : AH}  : ex rt E x0 k (.ineg) pc L S H cs ss = pI S fun x r => k (pc + 1, L, .int (-x) :: r, H, cs, ss) := rfl
theorem ex_i2b {rt : Option FieldType} {E : List (Nat × Nat × Act)} {x0 pc cs ss : Nat} {k : St → Option ORes} {L : List Slot} {S : List Value} {H : AH}  : ex rt E x0 k (.i2b) pc L S H cs ss = pI S fun x r => k (pc + 1, L, .int x.toInt8.toInt32 :: r, H, cs, ss) := rfl
theorem ex_i2c {rt : Option FieldType} {E : List (Nat × Nat × Act)} {x0 pc cs ss : Nat} {k : St → Option ORes} {L : List Slot} {S : List Value} {H : AH}  : ex rt E x0 k (.i2c) pc L S H cs ss = pI S fun x r => k (pc + 1, L, .int x.toUInt32.toUInt16.toUInt32.toInt32 :: r, H, cs, ss) := rfl
theorem ex_i2s {rt : Option FieldType} {E : List (Nat × Nat × Act)} {x0 pc cs ss : Nat} {k : St → Option ORes} {L : List Slot} {S : List Value} {H : AH}  : ex rt E x0 k (.i2s) pc L S H cs ss = pI S fun x r => k (pc + 1, L, .int x.toInt16.toInt32 :: r, H, cs, ss) := rfl
theorem ex_i2l {rt : Option FieldType} {E : List (Nat × Nat × Act)} {x0 pc cs ss : Nat} {k : St → Option ORes} {L : List Slot} {S : List Value} {H : AH}  : ex rt E x0 k (.i2l) pc L S H cs ss = pI S fun x r => k (pc + 1, L, .long x.toInt64 :: r, H, cs, ss) := rfl
theorem ex_l2i {rt : Option FieldType} {E : List (Nat × Nat × Act)} {x0 pc cs ss : Nat} {k : St → Option ORes} {L : List Slot} {S : List Value} {H : AH}  : ex rt E x0 k (.l2i) pc L S H cs ss = pL S fun x r => k (pc + 1, L, .int x.toInt32 :: r, H, cs, ss) := rfl
theorem ex_lneg {rt : Option FieldType} {E : List (Nat × Nat × Act)} {x0 pc cs ss : Nat} {k : St → Option ORes} {L : List Slot} {S : List Value} {H : AH}  : ex rt E x0 k (.lneg) pc L S H cs ss = pL S fun x r => k (pc + 1, L, .long (-x) :: r, H, cs, ss) := rfl
theorem ex_lshl {rt : Option FieldType} {E : List (Nat × Nat × Act)} {x0 pc cs ss : Nat} {k : St → Option ORes} {L : List Slot} {S : List Value} {H : AH}  : ex rt E x0 k (.lshl) pc L S H cs ss = pI S fun y S => pL S fun x r => k (pc + 1, L, .long (x <<< (y &&& 0x3f).toInt64) :: r, H, cs, ss) := rfl
theorem ex_lshr {rt : Option FieldType} {E : List (Nat × Nat × Act)} {x0 pc cs ss : Nat} {k : St → Option ORes} {L : List Slot} {S : List Value} {H : AH}  : ex rt E x0 k (.lshr) pc L S H cs ss = pI S fun y S => pL S fun x r => k (pc + 1, L, .long (x >>> (y &&& 0x3f).toInt64) :: r, H, cs, ss) := rfl
theorem ex_lushr {rt : Option FieldType} {E : List (Nat × Nat × Act)} {x0 pc cs ss : Nat} {k : St → Option ORes} {L : List Slot} {S : List Value} {H : AH}  : ex rt E x0 k (.lushr) pc L S H cs ss = pI S fun y S => pL S fun x r => k (pc + 1, L, .long ((x.toUInt64 >>> (y &&& 0x3f).toInt64.toUInt64).toInt64) :: r, H, cs, ss) := rfl
theorem ex_ldiv {rt : Option FieldType} {E : List (Nat × Nat × Act)} {x0 pc cs ss : Nat} {k : St → Option ORes} {L : List Slot} {S : List Value} {H : AH}  : ex rt E x0 k (.ldiv) pc L S H cs ss = pL S fun y S => pL S fun x r => if y = 0 then none else k (pc + 1, L, .long (x / y) :: r, H, cs, ss) := rfl
theorem ex_lrem {rt : Option FieldType} {E : List (Nat × Nat × Act)} {x0 pc cs ss : Nat} {k : St → Option ORes} {L : List Slot} {S : List Value} {H : AH}  : ex rt E x0 k (.lrem) pc L S H cs ss = pL S fun y S => pL S fun x r => if y = 0 then none else k (pc + 1, L, .long (x % y) :: r, H, cs, ss) := rfl
theorem ex_lcmp {rt : Option FieldType} {E : List (Nat × Nat × Act)} {x0 pc cs ss : Nat} {k : St → Option ORes} {L : List Slot} {S : List Value} {H : AH}  : ex rt E x0 k (.lcmp) pc L S H cs ss = pL S fun y S => pL S fun x r => k (pc + 1, L, .int (lcmpW x y) :: r, H, cs, ss) := rfl
theorem ex_dup {rt : Option FieldType} {E : List (Nat × Nat × Act)} {x0 pc cs ss : Nat} {k : St → Option ORes} {L : List Slot} {S : List Value} {H : AH}  : ex rt E x0 k (.dup) pc L S H cs ss = p1 S fun v r => k (pc + 1, L, v :: v :: r, H, cs, ss) := rfl
theorem ex_pop {rt : Option FieldType} {E : List (Nat × Nat × Act)} {x0 pc cs ss : Nat} {k : St → Option ORes} {L : List Slot} {S : List Value} {H : AH}  : ex rt E x0 k (.pop) pc L S H cs ss = p1 S fun _ r => k (pc + 1, L, r, H, cs, ss) := rfl
theorem ex_dup_x1 {rt : Option FieldType} {E : List (Nat × Nat × Act)} {x0 pc cs ss : Nat} {k : St → Option ORes} {L : List Slot} {S : List Value} {H : AH}  : ex rt E x0 k (.dup_x1) pc L S H cs ss = p1 S fun x S => p1 S fun y r => k (pc + 1, L, x :: y :: x :: r, H, cs, ss) := rfl
theorem ex_dup2 {rt : Option FieldType} {E : List (Nat × Nat × Act)} {x0 pc cs ss : Nat} {k : St → Option ORes} {L : List Slot} {S : List Value} {H : AH}  : ex rt E x0 k (.dup2) pc L S H cs ss = p1 S fun x S => p1 S fun y r => k (pc + 1, L, x :: y :: x :: y :: r, H, cs, ss) := rfl
theorem ex_ifnull {rt : Option FieldType} {E : List (Nat × Nat × Act)} {x0 pc cs ss : Nat} {k : St → Option ORes} {L : List Slot} {S : List Value} {H : AH} {o : Int} : ex rt E x0 k (.ifnull o) pc L S H cs ss = pA S fun v r => br (refEq v .null) pc o fun q => k (q, L, r, H, cs, ss) := rfl
theorem ex_ifnonnull {rt : Option FieldType} {E : List (Nat × Nat × Act)} {x0 pc cs ss : Nat} {k : St → Option ORes} {L : List Slot} {S : List Value} {H : AH} {o : Int} : ex rt E x0 k (.ifnonnull o) pc L S H cs ss = pA S fun v r => br (!refEq v .null) pc o fun q => k (q, L, r, H, cs, ss) := rfl
theorem ex_if_acmp {rt : Option FieldType} {E : List (Nat × Nat × Act)} {x0 pc cs ss : Nat} {k : St → Option ORes} {L : List Slot} {S : List Value} {H : AH} {cd : ACond} {o : Int} : ex rt E x0 k (.if_acmp cd o) pc L S H cs ss = pA S fun y S => pA S fun x r => br (acV cd (refEq x y)) pc o fun q => k (q, L, r, H, cs, ss) := rfl
theorem ex_arraylength {rt : Option FieldType} {E : List (Nat × Nat × Act)} {x0 pc cs ss : Nat} {k : St → Option ORes} {L : List Slot} {S : List Value} {H : AH}  : ex rt E x0 k (.arraylength) pc L S H cs ss = pR S fun a r => (arr H a).bind fun q => k (pc + 1, L, .int q.2.length.toInt32 :: r, H, cs, ss) := rfl
theorem ex_iaload {rt : Option FieldType} {E : List (Nat × Nat × Act)} {x0 pc cs ss : Nat} {k : St → Option ORes} {L : List Slot} {S : List Value} {H : AH}  : ex rt E x0 k (.iaload) pc L S H cs ss = ald (isT .int) S H fun v r => k (pc + 1, L, v :: r, H, cs, ss) := rfl
theorem ex_baload {rt : Option FieldType} {E : List (Nat × Nat × Act)} {x0 pc cs ss : Nat} {k : St → Option ORes} {L : List Slot} {S : List Value} {H : AH}  : ex rt E x0 k (.baload) pc L S H cs ss = ald isBZ S H fun v r => k (pc + 1, L, v :: r, H, cs, ss) := rfl
theorem ex_caload {rt : Option FieldType} {E : List (Nat × Nat × Act)} {x0 pc cs ss : Nat} {k : St → Option ORes} {L : List Slot} {S : List Value} {H : AH}  : ex rt E x0 k (.caload) pc L S H cs ss = ald (isT .char) S H fun v r => k (pc + 1, L, v :: r, H, cs, ss) := rfl
theorem ex_laload {rt : Option FieldType} {E : List (Nat × Nat × Act)} {x0 pc cs ss : Nat} {k : St → Option ORes} {L : List Slot} {S : List Value} {H : AH}  : ex rt E x0 k (.laload) pc L S H cs ss = ald (isT .long) S H fun v r => k (pc + 1, L, v :: r, H, cs, ss) := rfl
theorem ex_aaload {rt : Option FieldType} {E : List (Nat × Nat × Act)} {x0 pc cs ss : Nat} {k : St → Option ORes} {L : List Slot} {S : List Value} {H : AH}  : ex rt E x0 k (.aaload) pc L S H cs ss = ald FieldType.isReference S H fun v r => k (pc + 1, L, v :: r, H, cs, ss) := rfl
theorem ex_iastore {rt : Option FieldType} {E : List (Nat × Nat × Act)} {x0 pc cs ss : Nat} {k : St → Option ORes} {L : List Slot} {S : List Value} {H : AH}  : ex rt E x0 k (.iastore) pc L S H cs ss = ast (isT .int) x0 S H fun r H' => k (pc + 1, L, r, H', cs, ss) := rfl
theorem ex_bastore {rt : Option FieldType} {E : List (Nat × Nat × Act)} {x0 pc cs ss : Nat} {k : St → Option ORes} {L : List Slot} {S : List Value} {H : AH}  : ex rt E x0 k (.bastore) pc L S H cs ss = ast (isT .byte) x0 S H fun r H' => k (pc + 1, L, r, H', cs, ss) := rfl
theorem ex_castore {rt : Option FieldType} {E : List (Nat × Nat × Act)} {x0 pc cs ss : Nat} {k : St → Option ORes} {L : List Slot} {S : List Value} {H : AH}  : ex rt E x0 k (.castore) pc L S H cs ss = ast (isT .char) x0 S H fun r H' => k (pc + 1, L, r, H', cs, ss) := rfl
theorem ex_lastore {rt : Option FieldType} {E : List (Nat × Nat × Act)} {x0 pc cs ss : Nat} {k : St → Option ORes} {L : List Slot} {S : List Value} {H : AH}  : ex rt E x0 k (.lastore) pc L S H cs ss = astL x0 S H fun r H' => k (pc + 1, L, r, H', cs, ss) := rfl
theorem ex_ldc {rt : Option FieldType} {E : List (Nat × Nat × Act)} {x0 pc cs ss : Nat} {k : St → Option ORes} {L : List Slot} {S : List Value} {H : AH} {i : Nat} : ex rt E x0 k (.ldc i) pc L S H cs ss = spc E 0 i S H cs ss fun S' H' cs' ss' => k (pc + 2, L, S', H', cs', ss') := rfl
theorem ex_ldc_w {rt : Option FieldType} {E : List (Nat × Nat × Act)} {x0 pc cs ss : Nat} {k : St → Option ORes} {L : List Slot} {S : List Value} {H : AH} {i : Nat} : ex rt E x0 k (.ldc_w i) pc L S H cs ss = spc E 1 i S H cs ss fun S' H' cs' ss' => k (pc + 3, L, S', H', cs', ss') := rfl
theorem ex_ldc2_w {rt : Option FieldType} {E : List (Nat × Nat × Act)} {x0 pc cs ss : Nat} {k : St → Option ORes} {L : List Slot} {S : List Value} {H : AH} {i : Nat} : ex rt E x0 k (.ldc2_w i) pc L S H cs ss = spc E 2 i S H cs ss fun S' H' cs' ss' => k (pc + 3, L, S', H', cs', ss') := rfl
theorem ex_getfield {rt : Option FieldType} {E : List (Nat × Nat × Act)} {x0 pc cs ss : Nat} {k : St → Option ORes} {L : List Slot} {S : List Value} {H : AH} {i : Nat} : ex rt E x0 k (.getfield i) pc L S H cs ss = spc E 3 i S H cs ss fun S' H' cs' ss' => k (pc + 3, L, S', H', cs', ss') := rfl
theorem ex_putfield {rt : Option FieldType} {E : List (Nat × Nat × Act)} {x0 pc cs ss : Nat} {k : St → Option ORes} {L : List Slot} {S : List Value} {H : AH} {i : Nat} : ex rt E x0 k (.putfield i) pc L S H cs ss = spc E 4 i S H cs ss fun S' H' cs' ss' => k (pc + 3, L, S', H', cs', ss') := rfl
theorem ex_getstatic {rt : Option FieldType} {E : List (Nat × Nat × Act)} {x0 pc cs ss : Nat} {k : St → Option ORes} {L : List Slot} {S : List Value} {H : AH} {i : Nat} : ex rt E x0 k (.getstatic i) pc L S H cs ss = spc E 5 i S H cs ss fun S' H' cs' ss' => k (pc + 3, L, S', H', cs', ss') := rfl
theorem ex_new {rt : Option FieldType} {E : List (Nat × Nat × Act)} {x0 pc cs ss : Nat} {k : St → Option ORes} {L : List Slot} {S : List Value} {H : AH} {i : Nat} : ex rt E x0 k (.new i) pc L S H cs ss = spc E 6 i S H cs ss fun S' H' cs' ss' => k (pc + 3, L, S', H', cs', ss') := rfl
theorem ex_invokestatic {rt : Option FieldType} {E : List (Nat × Nat × Act)} {x0 pc cs ss : Nat} {k : St → Option ORes} {L : List Slot} {S : List Value} {H : AH} {i : Nat} : ex rt E x0 k (.invokestatic i) pc L S H cs ss = spc E 7 i S H cs ss fun S' H' cs' ss' => k (pc + 3, L, S', H', cs', ss') := rfl
theorem ex_invokespecial {rt : Option FieldType} {E : List (Nat × Nat × Act)} {x0 pc cs ss : Nat} {k : St → Option ORes} {L : List Slot} {S : List Value} {H : AH} {i : Nat} : ex rt E x0 k (.invokespecial i) pc L S H cs ss = spc E 8 i S H cs ss fun S' H' cs' ss' => k (pc + 3, L, S', H', cs', ss') := rfl
theorem ex_invokevirtual {rt : Option FieldType} {E : List (Nat × Nat × Act)} {x0 pc cs ss : Nat} {k : St → Option ORes} {L : List Slot} {S : List Value} {H : AH} {i : Nat} : ex rt E x0 k (.invokevirtual i) pc L S H cs ss = spc E 9 i S H cs ss fun S' H' cs' ss' => k (pc + 3, L, S', H', cs', ss') := rfl
theorem ex_checkcast {rt : Option FieldType} {E : List (Nat × Nat × Act)} {x0 pc cs ss : Nat} {k : St → Option ORes} {L : List Slot} {S : List Value} {H : AH} {i : Nat} : ex rt E x0 k (.checkcast i) pc L S H cs ss = spc E 10 i S H cs ss fun S' H' cs' ss' => k (pc + 3, L, S', H', cs', ss') := rfl
theorem ex_instanceof {rt : Option FieldType} {E : List (Nat × Nat × Act)} {x0 pc cs ss : Nat} {k : St → Option ORes} {L : List Slot} {S : List Value} {H : AH} {i : Nat} : ex rt E x0 k (.instanceof i) pc L S H cs ss = spc E 11 i S H cs ss fun S' H' cs' ss' => k (pc + 3, L, S', H', cs', ss') := rfl
theorem ex_anewarray {rt : Option FieldType} {E : List (Nat × Nat × Act)} {x0 pc cs ss : Nat} {k : St → Option ORes} {L : List Slot} {S : List Value} {H : AH} {i : Nat} : ex rt E x0 k (.anewarray i) pc L S H cs ss = spc E 12 i S H cs ss fun S' H' cs' ss' => k (pc + 3, L, S', H', cs', ss') := rfl
theorem ex_newarray {rt : Option FieldType} {E : List (Nat × Nat × Act)} {x0 pc cs ss : Nat} {k : St → Option ORes} {L : List Slot} {S : List Value} {H : AH} {t : ArrayType} : ex rt E x0 k (.newarray t) pc L S H cs ss = spc E 13 (atn t) S H cs ss fun S' H' cs' ss' => k (pc + 2, L, S', H', cs', ss') := rfl
theorem ex_ireturn {rt : Option FieldType} {E : List (Nat × Nat × Act)} {x0 pc cs ss : Nat} {k : St → Option ORes} {L : List Slot} {S : List Value} {H : AH}  : ex rt E x0 k (.ireturn) pc L S H cs ss = rI rt S H := rfl
theorem ex_lreturn {rt : Option FieldType} {E : List (Nat × Nat × Act)} {x0 pc cs ss : Nat} {k : St → Option ORes} {L : List Slot} {S : List Value} {H : AH}  : ex rt E x0 k (.lreturn) pc L S H cs ss = rL rt S H := rfl
theorem ex_areturn {rt : Option FieldType} {E : List (Nat × Nat × Act)} {x0 pc cs ss : Nat} {k : St → Option ORes} {L : List Slot} {S : List Value} {H : AH}  : ex rt E x0 k (.areturn) pc L S H cs ss = rA rt S H := rfl
theorem ex_return {rt : Option FieldType} {E : List (Nat × Nat × Act)} {x0 pc cs ss : Nat} {k : St → Option ORes} {L : List Slot} {S : List Value} {H : AH}  : ex rt E x0 k (.return_) pc L S H cs ss = rV rt S H := rfl
end Jvm.Own
namespace Jvm.Own
open Sem ClassFile Op Lib Jvm.RoadKit
/-! ## 7. Walking: one row a step, the answer's property kept apart -/
def Rsq (r : Option ORes) (q : Option ORes → Prop) : Prop := q r
theorem res_of {a b : Option ORes} {q : Option ORes → Prop} (e : a = b) (h : Rsq b q) : Rsq a q := by subst e; exact h
theorem res_t {P : Prop} [Decidable P] {A B : Option ORes} {q : Option ORes → Prop} (hc : P) (h : Rsq A q) : Rsq (if P then A else B) q := by rw [if_pos hc]; exact h
theorem res_f {P : Prop} [Decidable P] {A B : Option ORes} {q : Option ORes → Prop} (hc : ¬ P) (h : Rsq B q) : Rsq (if P then A else B) q := by rw [if_neg hc]; exact h
def OneI (r : Option ORes) : Prop := ∃ H', r = some (some (.int 1), H')
def Is (v : Option ORes) (r : Option ORes) : Prop := r = v
section Ofs
variable {code : ByteArray} {rt : Option FieldType} {E : List (Nat × Nat × Act)} {x0 N : Nat} {st : St} {a v : Option ORes} {q : Option ORes → Prop}
theorem rsq_of (e : a = orun code rt E x0 N st) (h : ∀ go, go = orun code rt E x0 → Rsq (go N st) q) : q a := by subst e; exact h _ rfl
theorem one_of (e : a = orun code rt E x0 N st) (h : ∀ go, go = orun code rt E x0 → Rsq (go N st) OneI) : ∃ H', a = some (some (.int 1), H') := by subst e; exact h _ rfl
theorem is_of (e : a = orun code rt E x0 N st) (h : ∀ go, go = orun code rt E x0 → Rsq (go N st) (Is v)) : a = v := by subst e; exact h _ rfl
end Ofs
theorem one_1 {H : AH} : OneI (some (some (.int 1), H)) := ⟨H, rfl⟩
theorem one_b {H : AH} : OneI (some (some (.int (1 &&& 1)), H)) := ⟨H, by rw [and11]⟩
theorem is_i {z w : Int32} {H H' : AH} (e : z = w) (e' : H = H') : Is (some (some (.int w), H')) (some (some (.int z), H)) := by subst e; subst e'; rfl
theorem is_r {v : Option ORes} : Is v v := rfl
theorem is_1 {H : AH} : Is (some (some (.int 1), H)) (some (some (.int (1 &&& 1)), H)) := by unfold Is; rw [and11]
theorem is_0 {H : AH} : Is (some (some (.int 0), H)) (some (some (.int (0 &&& 1)), H)) := by unfold Is; rw [and01]
def so : Slot → Bool | .unset => true | .val (.int _) => true | .val (.ref _) => true | .val .null => true | _ => false
def so2 : Slot → Slot → Bool | .unset, .unset => true | .val (.long _), .second => true | _, _ => false
def isA : Value → Bool | .ref _ => true | .null => true | _ => false
def isS : Value → Bool | .int _ => true | .ref _ => true | .null => true | _ => false
theorem st1_so {L : List Slot} {k : Nat} {v : Value} {l : Slot} (hL : L[k]? = some l) (hk : so l = true) : st1 L k v = some (L.set k (.val v)) := by
  unfold st1; rw [hL]
  cases l with
  | unset => rfl
  | second => simp [so] at hk
  | val w => cases w <;> first | rfl | (simp [so] at hk)
theorem st2_so {L : List Slot} {k : Nat} {x : Int64} {l l' : Slot} (h1 : L[k]? = some l) (h2 : L[k + 1]? = some l') (hk : so2 l l' = true) : st2 L k x = some ((L.set k (.val (.long x))).set (k + 1) .second) := by
  unfold st2; rw [h1, h2]
  cases l with
  | unset => cases l' with
    | unset => rfl
    | second => simp [so2] at hk
    | val w => simp [so2] at hk
  | second => cases l' <;> simp [so2] at hk
  | val w => cases w <;> cases l' <;> first | rfl | (simp [so2] at hk)
theorem gA_isA {L : List Slot} {k : Nat} {v : Value} (hL : L[k]? = some (.val v)) (hv : isA v = true) : gA L k = some v := by
  unfold gA; rw [hL]; cases v <;> first | rfl | (simp [isA] at hv)
theorem pA_isA {v : Value} {r : List Value} {f : Value → List Value → Option ORes} (hv : isA v = true) : pA (v :: r) f = f v r := by
  cases v <;> first | rfl | (simp [isA] at hv)
theorem p1_isS {v : Value} {r : List Value} {f : Value → List Value → Option ORes} (hv : isS v = true) : p1 (v :: r) f = f v r := by
  cases v <;> first | rfl | (simp [isS] at hv)
def ln (l : List Value) : Int32 := l.length.toInt32
theorem ln_of {l : List Value} {n : Nat} {z : Int32} (h : l.length = n) (h' : n.toInt32 = z) : ln l = z := by unfold ln; rw [h, h']
theorem ln0 : ln [] = 0 := rfl
theorem ln1 {a0 : Value} : ln [a0] = 1 := rfl
theorem ln2 {a0 a1 : Value} : ln [a0, a1] = 2 := rfl
theorem ln3 {a0 a1 a2 : Value} : ln [a0, a1, a2] = 3 := rfl
theorem ln4 {a0 a1 a2 a3 : Value} : ln [a0, a1, a2, a3] = 4 := rfl
theorem ln5 {a0 a1 a2 a3 a4 : Value} : ln [a0, a1, a2, a3, a4] = 5 := rfl
theorem ln6 {a0 a1 a2 a3 a4 a5 : Value} : ln [a0, a1, a2, a3, a4, a5] = 6 := rfl
theorem ln7 {a0 a1 a2 a3 a4 a5 a6 : Value} : ln [a0, a1, a2, a3, a4, a5, a6] = 7 := rfl
theorem ln8 {a0 a1 a2 a3 a4 a5 a6 a7 : Value} : ln [a0, a1, a2, a3, a4, a5, a6, a7] = 8 := rfl
theorem ln9 {a0 a1 a2 a3 a4 a5 a6 a7 a8 : Value} : ln [a0, a1, a2, a3, a4, a5, a6, a7, a8] = 9 := rfl
theorem ln10 {a0 a1 a2 a3 a4 a5 a6 a7 a8 a9 : Value} : ln [a0, a1, a2, a3, a4, a5, a6, a7, a8, a9] = 10 := rfl
theorem ln11 {a0 a1 a2 a3 a4 a5 a6 a7 a8 a9 a10 : Value} : ln [a0, a1, a2, a3, a4, a5, a6, a7, a8, a9, a10] = 11 := rfl
theorem ln12 {a0 a1 a2 a3 a4 a5 a6 a7 a8 a9 a10 a11 : Value} : ln [a0, a1, a2, a3, a4, a5, a6, a7, a8, a9, a10, a11] = 12 := rfl
theorem ln13 {a0 a1 a2 a3 a4 a5 a6 a7 a8 a9 a10 a11 a12 : Value} : ln [a0, a1, a2, a3, a4, a5, a6, a7, a8, a9, a10, a11, a12] = 13 := rfl
theorem ln14 {a0 a1 a2 a3 a4 a5 a6 a7 a8 a9 a10 a11 a12 a13 : Value} : ln [a0, a1, a2, a3, a4, a5, a6, a7, a8, a9, a10, a11, a12, a13] = 14 := rfl
theorem ln15 {a0 a1 a2 a3 a4 a5 a6 a7 a8 a9 a10 a11 a12 a13 a14 : Value} : ln [a0, a1, a2, a3, a4, a5, a6, a7, a8, a9, a10, a11, a12, a13, a14] = 15 := rfl
theorem ln16 {a0 a1 a2 a3 a4 a5 a6 a7 a8 a9 a10 a11 a12 a13 a14 a15 : Value} : ln [a0, a1, a2, a3, a4, a5, a6, a7, a8, a9, a10, a11, a12, a13, a14, a15] = 16 := rfl
theorem ln17 {a0 a1 a2 a3 a4 a5 a6 a7 a8 a9 a10 a11 a12 a13 a14 a15 a16 : Value} : ln [a0, a1, a2, a3, a4, a5, a6, a7, a8, a9, a10, a11, a12, a13, a14, a15, a16] = 17 := rfl
theorem ln18 {a0 a1 a2 a3 a4 a5 a6 a7 a8 a9 a10 a11 a12 a13 a14 a15 a16 a17 : Value} : ln [a0, a1, a2, a3, a4, a5, a6, a7, a8, a9, a10, a11, a12, a13, a14, a15, a16, a17] = 18 := rfl
theorem ln19 {a0 a1 a2 a3 a4 a5 a6 a7 a8 a9 a10 a11 a12 a13 a14 a15 a16 a17 a18 : Value} : ln [a0, a1, a2, a3, a4, a5, a6, a7, a8, a9, a10, a11, a12, a13, a14, a15, a16, a17, a18] = 19 := rfl
theorem ln20 {a0 a1 a2 a3 a4 a5 a6 a7 a8 a9 a10 a11 a12 a13 a14 a15 a16 a17 a18 a19 : Value} : ln [a0, a1, a2, a3, a4, a5, a6, a7, a8, a9, a10, a11, a12, a13, a14, a15, a16, a17, a18, a19] = 20 := rfl
theorem ln21 {a0 a1 a2 a3 a4 a5 a6 a7 a8 a9 a10 a11 a12 a13 a14 a15 a16 a17 a18 a19 a20 : Value} : ln [a0, a1, a2, a3, a4, a5, a6, a7, a8, a9, a10, a11, a12, a13, a14, a15, a16, a17, a18, a19, a20] = 21 := rfl
theorem ln22 {a0 a1 a2 a3 a4 a5 a6 a7 a8 a9 a10 a11 a12 a13 a14 a15 a16 a17 a18 a19 a20 a21 : Value} : ln [a0, a1, a2, a3, a4, a5, a6, a7, a8, a9, a10, a11, a12, a13, a14, a15, a16, a17, a18, a19, a20, a21] = 22 := rfl
theorem ln23 {a0 a1 a2 a3 a4 a5 a6 a7 a8 a9 a10 a11 a12 a13 a14 a15 a16 a17 a18 a19 a20 a21 a22 : Value} : ln [a0, a1, a2, a3, a4, a5, a6, a7, a8, a9, a10, a11, a12, a13, a14, a15, a16, a17, a18, a19, a20, a21, a22] = 23 := rfl
theorem ln24 {a0 a1 a2 a3 a4 a5 a6 a7 a8 a9 a10 a11 a12 a13 a14 a15 a16 a17 a18 a19 a20 a21 a22 a23 : Value} : ln [a0, a1, a2, a3, a4, a5, a6, a7, a8, a9, a10, a11, a12, a13, a14, a15, a16, a17, a18, a19, a20, a21, a22, a23] = 24 := rfl
theorem ln25 {a0 a1 a2 a3 a4 a5 a6 a7 a8 a9 a10 a11 a12 a13 a14 a15 a16 a17 a18 a19 a20 a21 a22 a23 a24 : Value} : ln [a0, a1, a2, a3, a4, a5, a6, a7, a8, a9, a10, a11, a12, a13, a14, a15, a16, a17, a18, a19, a20, a21, a22, a23, a24] = 25 := rfl
theorem ln26 {a0 a1 a2 a3 a4 a5 a6 a7 a8 a9 a10 a11 a12 a13 a14 a15 a16 a17 a18 a19 a20 a21 a22 a23 a24 a25 : Value} : ln [a0, a1, a2, a3, a4, a5, a6, a7, a8, a9, a10, a11, a12, a13, a14, a15, a16, a17, a18, a19, a20, a21, a22, a23, a24, a25] = 26 := rfl
theorem ln27 {a0 a1 a2 a3 a4 a5 a6 a7 a8 a9 a10 a11 a12 a13 a14 a15 a16 a17 a18 a19 a20 a21 a22 a23 a24 a25 a26 : Value} : ln [a0, a1, a2, a3, a4, a5, a6, a7, a8, a9, a10, a11, a12, a13, a14, a15, a16, a17, a18, a19, a20, a21, a22, a23, a24, a25, a26] = 27 := rfl
theorem ln28 {a0 a1 a2 a3 a4 a5 a6 a7 a8 a9 a10 a11 a12 a13 a14 a15 a16 a17 a18 a19 a20 a21 a22 a23 a24 a25 a26 a27 : Value} : ln [a0, a1, a2, a3, a4, a5, a6, a7, a8, a9, a10, a11, a12, a13, a14, a15, a16, a17, a18, a19, a20, a21, a22, a23, a24, a25, a26, a27] = 28 := rfl
theorem ln29 {a0 a1 a2 a3 a4 a5 a6 a7 a8 a9 a10 a11 a12 a13 a14 a15 a16 a17 a18 a19 a20 a21 a22 a23 a24 a25 a26 a27 a28 : Value} : ln [a0, a1, a2, a3, a4, a5, a6, a7, a8, a9, a10, a11, a12, a13, a14, a15, a16, a17, a18, a19, a20, a21, a22, a23, a24, a25, a26, a27, a28] = 29 := rfl
theorem ln30 {a0 a1 a2 a3 a4 a5 a6 a7 a8 a9 a10 a11 a12 a13 a14 a15 a16 a17 a18 a19 a20 a21 a22 a23 a24 a25 a26 a27 a28 a29 : Value} : ln [a0, a1, a2, a3, a4, a5, a6, a7, a8, a9, a10, a11, a12, a13, a14, a15, a16, a17, a18, a19, a20, a21, a22, a23, a24, a25, a26, a27, a28, a29] = 30 := rfl
theorem ln31 {a0 a1 a2 a3 a4 a5 a6 a7 a8 a9 a10 a11 a12 a13 a14 a15 a16 a17 a18 a19 a20 a21 a22 a23 a24 a25 a26 a27 a28 a29 a30 : Value} : ln [a0, a1, a2, a3, a4, a5, a6, a7, a8, a9, a10, a11, a12, a13, a14, a15, a16, a17, a18, a19, a20, a21, a22, a23, a24, a25, a26, a27, a28, a29, a30] = 31 := rfl
theorem ln32 {a0 a1 a2 a3 a4 a5 a6 a7 a8 a9 a10 a11 a12 a13 a14 a15 a16 a17 a18 a19 a20 a21 a22 a23 a24 a25 a26 a27 a28 a29 a30 a31 : Value} : ln [a0, a1, a2, a3, a4, a5, a6, a7, a8, a9, a10, a11, a12, a13, a14, a15, a16, a17, a18, a19, a20, a21, a22, a23, a24, a25, a26, a27, a28, a29, a30, a31] = 32 := rfl
theorem ln33 {a0 a1 a2 a3 a4 a5 a6 a7 a8 a9 a10 a11 a12 a13 a14 a15 a16 a17 a18 a19 a20 a21 a22 a23 a24 a25 a26 a27 a28 a29 a30 a31 a32 : Value} : ln [a0, a1, a2, a3, a4, a5, a6, a7, a8, a9, a10, a11, a12, a13, a14, a15, a16, a17, a18, a19, a20, a21, a22, a23, a24, a25, a26, a27, a28, a29, a30, a31, a32] = 33 := rfl
theorem ln34 {a0 a1 a2 a3 a4 a5 a6 a7 a8 a9 a10 a11 a12 a13 a14 a15 a16 a17 a18 a19 a20 a21 a22 a23 a24 a25 a26 a27 a28 a29 a30 a31 a32 a33 : Value} : ln [a0, a1, a2, a3, a4, a5, a6, a7, a8, a9, a10, a11, a12, a13, a14, a15, a16, a17, a18, a19, a20, a21, a22, a23, a24, a25, a26, a27, a28, a29, a30, a31, a32, a33] = 34 := rfl
theorem ln35 {a0 a1 a2 a3 a4 a5 a6 a7 a8 a9 a10 a11 a12 a13 a14 a15 a16 a17 a18 a19 a20 a21 a22 a23 a24 a25 a26 a27 a28 a29 a30 a31 a32 a33 a34 : Value} : ln [a0, a1, a2, a3, a4, a5, a6, a7, a8, a9, a10, a11, a12, a13, a14, a15, a16, a17, a18, a19, a20, a21, a22, a23, a24, a25, a26, a27, a28, a29, a30, a31, a32, a33, a34] = 35 := rfl
theorem ln36 {a0 a1 a2 a3 a4 a5 a6 a7 a8 a9 a10 a11 a12 a13 a14 a15 a16 a17 a18 a19 a20 a21 a22 a23 a24 a25 a26 a27 a28 a29 a30 a31 a32 a33 a34 a35 : Value} : ln [a0, a1, a2, a3, a4, a5, a6, a7, a8, a9, a10, a11, a12, a13, a14, a15, a16, a17, a18, a19, a20, a21, a22, a23, a24, a25, a26, a27, a28, a29, a30, a31, a32, a33, a34, a35] = 36 := rfl
end Jvm.Own
namespace Jvm.Own
open Sem ClassFile Op Lib Jvm.Stand Jvm.Free Jvm.LawKit Jvm.RoadKit
/-! ## 7. Statics, casts, copies of arrays -/
def aSta (v : Value) : Act := fun S H cs ss => some (v :: S, H, cs, ss)
def aCast (x0 : Nat) (ty : FieldType) : Act := fun S H cs ss => match S with
  | .ref a :: r => (arr H a).bind fun q => if q.1 = ty ∧ x0 ≤ a then some (.ref a :: r, H, cs, ss) else none
  | _ => none
def aClone (x0 : Nat) (ty : FieldType) (W Rc Rs : Nat) : Act := fun S H cs ss => match S with
  | .ref a :: r => (arr H a).bind fun q => if q.1 = ty ∧ x0 ≤ a ∧ (r.map Value.category).sum ≤ W ∧ cs + 1 ≤ Rc ∧ ss + q.2.length ≤ Rs then some (.ref H.length :: r, H ++ [.inr q], cs + 1, ss + q.2.length) else none
  | _ => none
def aCopy (x0 : Nat) (ty : FieldType) (W : Nat) : Act := fun S H cs ss => match S with
  | .int nn :: .int dp :: .ref b :: .int sp :: .ref a :: r => (arr H a).bind fun qa => (arr H b).bind fun qb =>
      if qa.1 = ty ∧ qb.1 = ty ∧ x0 ≤ b ∧ (r.map Value.category).sum ≤ W ∧ ¬ sp < 0 ∧ ¬ dp < 0 ∧ ¬ nn < 0 ∧ sp.toNatClampNeg + nn.toNatClampNeg ≤ qa.2.length ∧ dp.toNatClampNeg + nn.toNatClampNeg ≤ qb.2.length then
        some (r, H.set b (.inr (ty, qb.2.take dp.toNatClampNeg ++ (qa.2.drop sp.toNatClampNeg).take nn.toNatClampNeg ++ qb.2.drop (dp.toNatClampNeg + nn.toNatClampNeg))), cs, ss) else none
  | _ => none
section Acts2
variable {p : Program} {l : Launch} {e : Env} {R : Room} {s : State} {m : MethodId} {args : Array Value} {below : List Frame} {meth : Method} {c : Code} {Z : State} {σ : Nat → Nat} {x0 n0 : Nat} {K : List CD} {a0 : Array Value} {h h' : Heap}
theorem okSta (hx : p.tables.exec = Jvm.exec) (hZ : Z.Warmed39 s.vm) {own R0 O n d : String} {idx : Nat} {v : Value} (hown : s.vm.findClass own = some m.cls) (w : (Jvm.Cond.fieldLink own idx R0 n d).before a0 Z = true) (via : Via Z R0 O n d) (F : Sta Z Z.heap O n d (cv σ v)) : Good p l e R s m args below meth c Z σ x0 n0 K (.getstatic idx) (aSta v) := by
  intro T locs cs ss pc L S H S' H' cs' ss' X hd hL hR hF hB h
  cases h
  obtain ⟨T', X', e', st⟩ := getS (host := "") X hx hZ hown w via rfl (F.ext hR.2.2.1.2) (g := mkF m pc (cL σ L) (S.map (cv σ))) rfl hd
  exact ⟨T', locs, X', e' ▸ hR, hF, hB, st⟩
theorem okCast (hx : p.tables.exec = Jvm.exec) (hZ : Z.Warmed39 s.vm) (hsg : Sg σ x0 n0) {own C ad : String} {idx : Nat} {ty : FieldType} (hown : s.vm.findClass own = some m.cls) (had : "[" ++ ty.toString = ad) (w : (Jvm.Cond.classLink own idx C).before a0 Z = true) (wc : (Jvm.Cond.castable ad C).before a0 Z = true) : Good p l e R s m args below meth c Z σ x0 n0 K (.checkcast idx) (aCast x0 ty) := by
  intro T locs cs ss pc L S H S' H' cs' ss' X hd hL hR hF hB h
  subst had
  unfold aCast at h
  split at h
  · rename_i a r
    replace h := Option.bind_eq_some_iff.mp h
    obtain ⟨⟨t, vs⟩, h1, h⟩ := h
    dsimp only at h
    split at h
    · rename_i hq
      obtain ⟨rfl, hx0⟩ := hq
      cases h
      obtain ⟨cell, A, hs, hl, hfi, hex⟩ := hR.2.2.2 _ _ (arr_some h1)
      obtain ⟨T', X', e', st⟩ := castY X hx hZ hown w rfl (Ins.of_exa (hex (hR.2.2.1.1.symm ▸ hsg.new hx0)) wc) (g := mkF m pc (cL σ L) (List.map (cv σ) (.ref a :: r))) rfl rfl hd
      exact ⟨T', locs, X', e' ▸ hR, hF, hB, st⟩
    · cases h
  · cases h
theorem okClone (hx : p.tables.exec = Jvm.exec) (hZ : Z.Warmed39 s.vm) (hsg : Sg σ x0 n0) {own ad : String} {idx W Rc Rs : Nat} {ty : FieldType} (hown : s.vm.findClass own = some m.cls) (had : "[" ++ ty.toString = ad)
    (w1 : (Jvm.Cond.methodLink own idx ⟨ad, "clone", "()Ljava/lang/Object;"⟩).before a0 Z = true) (w2 : (Jvm.Cond.sameMethod ad "java/lang/Object" "clone" "()Ljava/lang/Object;").before a0 Z = true) (w3 : (Jvm.Cond.native ⟨"java/lang/Object", "clone", "()Ljava/lang/Object;"⟩).before a0 Z = true)
    (w4 : (Jvm.Cond.instanceMethod ⟨"java/lang/Object", "clone", "()Ljava/lang/Object;"⟩).before a0 Z = true) (w5 : (Jvm.Cond.selects ad ⟨ad, "clone", "()Ljava/lang/Object;"⟩ ⟨"java/lang/Object", "clone", "()Ljava/lang/Object;"⟩).before a0 Z = true) (w6 : (Jvm.Cond.castable ad "java/lang/Cloneable").before a0 Z = true)
    (hf : 1 ≤ R.frames) (hlo : W + 14 ≤ R.locals) (hRc : Rc ≤ R.cells) (hRs : Rs ≤ R.slots) : Good p l e R s m args below meth c Z σ x0 n0 K (.invokevirtual idx) (aClone x0 ty W Rc Rs) := by
  intro T locs cs ss pc L S H S' H' cs' ss' X hd hL hR hF hB h
  subst had
  unfold aClone at h
  split at h
  · rename_i a r
    replace h := Option.bind_eq_some_iff.mp h
    obtain ⟨⟨t, vs⟩, h1, h⟩ := h
    dsimp only at h
    split at h
    · rename_i hq
      obtain ⟨rfl, hx0, hW, hc1, hs1⟩ := hq
      cases h
      obtain ⟨cell, A, hs, hl, hfi, hex⟩ := hR.2.2.2 _ _ (arr_some h1)
      obtain ⟨c2, k, e1, e2, e3, -, e5⟩ := hex (hR.2.2.1.1.symm ▸ hsg.new hx0)
      cases A.1.symm.trans e1
      obtain ⟨c1, cC, g1, g2, g3⟩ := Cond.castable_spec w6
      cases e2.symm.trans g1
      have hal : Z.vm.Alike T.vm := hZ.alike.trans X.warmed.alike
      have FC : FitC Z cell := fitC_of A fun i hi v hv => by
        rw [hs] at hv
        simp only [List.getElem?_toArray, List.getElem?_map, Option.map_eq_some_iff] at hv
        obtain ⟨w, hw, rfl⟩ := hv
        rw [cv_fits]; exact hfi w (List.mem_of_getElem? hw)
      have ea : σ H.length = T.heap.size := hR.addr hsg
      have hsz : cell.slots.size = vs.length := by rw [hs]; simp
      obtain ⟨vm', X', st⟩ := X.cloneArray hx hown (mv hZ w1) (mv hZ w2) (mv hZ w3) (mv hZ w4) (mv hZ w5) (a := σ a) A.1 A.2.1.1 A.2.2 (by rw [hZ.alike.findClass]; exact e2) (by rw [hZ.alike.findClass]; exact g2) (by rw [hZ.alike.assignable]; exact g3)
        (fun i v hv => by have q := FC i v hv; rw [← State.fitsSlot_setVm hal] at q; exact q) (g := mkF m pc (cL σ L) (List.map (cv σ) (.ref a :: r))) rfl (size_cL.trans hL) rfl hd hf (by show 2 * 0 + _ + _ ≤ _; rw [cat_sum]; omega) (Nat.le_trans hc1 hRc) (by rw [hsz]; exact Nat.le_trans hs1 hRs)
        (by obtain ⟨-, k2, hk2, comp, hkind⟩ := A.2.1; rw [hZ.alike.clonesLoader]; exact Vm.clonesLoader_of_array hk2 hkind)
      rw [hsz] at X'
      refine ⟨_, locs, X', hR.push (ext_push _ _) (by show (T.heap.push _).size = _; simp) ?_, hF, ⟨Nat.le_trans hc1 hRc, Nat.le_trans hs1 hRs⟩, ?_⟩
      · rw [ea]
        have hN : (T.heap.push { cls := cell.cls, slots := cell.slots })[T.heap.size]? = some { cls := cell.cls, slots := cell.slots } := by simp
        exact ⟨_, ⟨hN, ⟨fun _ z => (by cases z), A.2.1.2⟩, fun z => (by cases z)⟩, hs, hl, hfi, fun _ => ⟨_, k, hN, e2, e3, rfl, e5⟩⟩
      · intro t q
        refine st t ?_
        have q' := q
        simp only [List.map_cons, cv, ea] at q'
        exact q'
    · cases h
  · cases h
theorem RepO.keep {a b : Addr} {o : Ob} (W : Keep h h' [b]) (R : RepO Z σ K h a o) (ne : a ≠ b) : RepO Z σ K h' a o := by
  have nm : a ∉ [b] := ninS ne nin0
  rcases o with ⟨c, vs⟩ | ⟨ty, vs⟩
  · obtain ⟨C, fs, h1, h2, h3⟩ := R
    exact ⟨C, fs, h1, h2.keep W, fun j v q => by obtain ⟨O, n, d, q1, q2⟩ := h3 j v q; exact ⟨O, n, d, q1, q2.keep W nm⟩⟩
  · obtain ⟨cell, h1, h2, h3, h4, h5⟩ := R
    exact ⟨cell, ⟨W.2.1 a cell h1.1 nm, h1.2⟩, h2, h3, h4, fun q => (h5 q).keep W⟩
theorem Rep.writeK {H : AH} (S : Sg σ x0 n0) (R : Rep Z σ x0 n0 K h H) {k : Nat} {o : Ob} (hk : x0 ≤ k) (W : Keep h h' [σ k]) (hsz : h'.size = h.size) (ho : RepO Z σ K h' (σ k) o) : Rep Z σ x0 n0 K h' (H.set k o) := by
  obtain ⟨r1, r2, r3, r4⟩ := R
  refine ⟨by rw [hsz]; simpa using r1, by simpa using r2, r3.keep W (allS (S.new hk) all0), fun j o' q => ?_⟩
  by_cases e : k = j
  · subst e
    by_cases hl : k < H.length
    · rw [List.getElem?_set_self hl] at q; cases q; exact ho
    · rw [List.getElem?_eq_none (by simp; omega)] at q; cases q
  · rw [List.getElem?_set_ne e] at q
    exact (r4 j o' q).keep W fun u => e (S.inj u).symm
theorem stretch_eq {cell : Cell} {vs : List Value} (hs : cell.slots = (vs.map (cv σ)).toArray) {i n : Nat} (hl : i + n ≤ vs.length) : cell.stretch i n = ((vs.drop i).take n).map (cv σ) := by
  apply List.ext_getElem?
  intro j
  simp only [Cell.stretch, List.getElem?_map, List.getElem?_range', List.getElem?_take, List.getElem?_drop]
  by_cases q : j < n
  · have : i + j < vs.length := by omega
    simp [q, hs, this, Array.getD_eq_getD_getElem?]
  · simp [q]
theorem okCopy (hx : p.tables.exec = Jvm.exec) (hZ : Z.Warmed39 s.vm) (hsg : Sg σ x0 n0) {own : String} {idx W : Nat} {ty : FieldType} (hown : s.vm.findClass own = some m.cls) (hty : refKind ty = false)
    (w1 : (Jvm.Cond.methodLink own idx Jvm.Stand.acN).before a0 Z = true) (w2 : (Jvm.Cond.native Jvm.Stand.acN).before a0 Z = true) (w3 : (Jvm.Cond.static Jvm.Stand.acN).before a0 Z = true) (w4 : (Jvm.Cond.initialized "java/lang/System").before a0 Z = true)
    (hf : 1 ≤ R.frames) (hlo : W + (nativeFrameWords "java/lang/System" "arraycopy" 5 + 11) ≤ R.locals) : Good p l e R s m args below meth c Z σ x0 n0 K (.invokestatic idx) (aCopy x0 ty W) := by
  intro T locs cs ss pc L S H S' H' cs' ss' X hd hL hR hF hB h
  unfold aCopy at h
  split at h
  · rename_i nn dp b sp a r
    replace h := Option.bind_eq_some_iff.mp h
    obtain ⟨⟨ta, vs⟩, ha, h⟩ := h
    replace h := Option.bind_eq_some_iff.mp h
    obtain ⟨⟨tb, vd⟩, hb, h⟩ := h
    dsimp only at h
    split at h
    · rename_i hq
      obtain ⟨rfl, rfl, hx0, hW, h1, h2, h3, h4, h5⟩ := hq
      cases h
      obtain ⟨ca, A, hsa, hla, hfa, hea⟩ := hR.2.2.2 _ _ (arr_some ha)
      obtain ⟨cb, B, hsb, hlb, hfb, heb⟩ := hR.2.2.2 _ _ (arr_some hb)
      obtain ⟨oa, ka, hka, sa, hska⟩ := State.isArrayOf_alike hZ.alike A.2.1
      obtain ⟨ob, kb, hkb, sb, hskb⟩ := State.isArrayOf_alike hZ.alike B.2.1
      have nat : ∀ {x : Int32}, ¬ x < 0 → x.toInt = x.toNatClampNeg := fun {x} q => nat_of q
      have za : ca.slots.size = vs.length := by rw [hsa]; simp
      have zb : cb.slots.size = vd.length := by rw [hsb]; simp
      have gv : ∀ i, i < nn.toNatClampNeg → ∃ v ∈ vs, ca.slots.getD (sp.toNatClampNeg + i) .null = cv σ v := fun i hi => by
        have q : sp.toNatClampNeg + i < vs.length := by omega
        exact ⟨vs[sp.toNatClampNeg + i], List.getElem_mem q, by rw [hsa]; simp [Array.getD_eq_getD_getElem?, q]⟩
      obtain ⟨vm₁, hW₁, X', st⟩ := X.arraycopyK hx hown (mvT hZ w1) (mvT hZ w2) (mvT hZ w3) (mvT hZ w4) (src := σ a) (dst := σ b) A.1 B.1 oa ob A.2.2 B.2.2 hka hkb hska hskb (by simp [hty]) h1 h2 h3 (by rw [nat h1, nat h3, za]; omega) (by rw [nat h2, nat h3, zb]; omega)
        (fun vm₁ hw i hi => by
          obtain ⟨v, hv, hg⟩ := gv i hi
          rw [hg, cv_fits]
          refine ⟨hfa v hv, ?_⟩
          have q := hfa v hv
          cases v <;> first | trivial | exact (prim_no_ref hty q).elim) (g := mkF m pc (cL σ L) (List.map (cv σ) (.int nn :: .int dp :: .ref b :: .int sp :: .ref a :: S'))) rfl (size_cL.trans hL) rfl hd hf (by show 2 * 0 + _ + _ ≤ _; rw [cat_sum]; omega)
      have cf := cb.storeRun_facts dp.toNatClampNeg (ca.stretch sp.toNatClampNeg nn.toNatClampNeg)
      have hlt : σ b < T.heap.size := B.lt
      have hKp : Keep T.heap (T.heap.setIfInBounds (σ b) (copied ca cb sp dp nn)) [σ b] := by
        refine ⟨by simp, fun x c q r => ?_, fun x c q => ?_⟩
        · rw [Array.getElem?_setIfInBounds_ne (fun z => r (by simp [z]))]; exact q
        · by_cases z : σ b = x
          · subst z; cases B.1.symm.trans q
            exact ⟨_, by rw [Array.getElem?_setIfInBounds_self_of_lt hlt], cf.1, cf.2.1, cf.2.2.1⟩
          · exact ⟨c, by rw [Array.getElem?_setIfInBounds_ne z]; exact q, rfl, rfl, rfl⟩
      refine ⟨_, _, X', hR.writeK hsg hx0 hKp (by show (T.heap.setIfInBounds _ _).size = _; simp) ?_, hF.app fun y hy => ?_, hB, st⟩
      · have hN : (T.heap.setIfInBounds (σ b) (copied ca cb sp dp nn))[σ b]? = some (copied ca cb sp dp nn) := by rw [Array.getElem?_setIfInBounds_self_of_lt hlt]
        refine ⟨copied ca cb sp dp nn, ⟨hN, ⟨fun k z => B.2.1.1 k (cf.2.1 ▸ z), ?_⟩, fun z => B.2.2 (cf.2.1 ▸ z)⟩, ?_, ?_, ?_, fun q => (heb q).keep hKp⟩
        · obtain ⟨kk, z1, z2⟩ := B.2.1.2
          exact ⟨kk, by rw [show (copied ca cb sp dp nn).cls = cb.cls from cf.1]; exact z1, z2⟩
        · apply Array.ext_getElem?
          intro j
          show (cb.storeRun _ (ca.stretch _ _)).slots[j]? = _
          have hst := stretch_eq (σ := σ) hsa h4
          have hln : (ca.stretch sp.toNatClampNeg nn.toNatClampNeg).length = nn.toNatClampNeg := by simp [Cell.stretch]
          rw [Cell.storeRun_get _ _ _ _ (by rw [hln, zb]; exact h5), hln, hst, hsb]
          have l1 : (vd.take dp.toNatClampNeg).length = dp.toNatClampNeg := by rw [List.length_take]; omega
          have l2 : ((vs.drop sp.toNatClampNeg).take nn.toNatClampNeg).length = nn.toNatClampNeg := by rw [List.length_take, List.length_drop]; omega
          simp only [List.getElem?_toArray, List.map_append, List.append_assoc]
          by_cases c1 : j < dp.toNatClampNeg
          · rw [if_neg (by omega), List.getElem?_append_left (by rw [List.length_map]; omega)]
            simp [List.getElem?_take, c1]
          · rw [List.getElem?_append_right (by rw [List.length_map]; omega), List.length_map, l1]
            by_cases c2 : j < dp.toNatClampNeg + nn.toNatClampNeg
            · rw [if_pos ⟨by omega, c2⟩, List.getElem?_append_left (by rw [List.length_map, l2]; omega)]
            · rw [if_neg (by omega), List.getElem?_append_right (by rw [List.length_map, l2]; omega), List.length_map, l2]
              simp only [List.getElem?_map, List.getElem?_drop]
              congr 2; omega
        · simp only [List.length_append, List.length_take, List.length_drop]; omega
        · intro v hv
          simp only [List.mem_append] at hv
          rcases hv with (q | q) | q
          · exact hfb v (List.mem_of_mem_take q)
          · exact hfa v (List.mem_of_mem_drop (List.mem_of_mem_take q))
          · exact hfb v (List.mem_of_mem_drop q)
      · simp only [copyLocs, List.mem_map] at hy
        obtain ⟨i, -, rfl⟩ := hy
        exact hsg.new hx0
    · cases h
  · cases h
end Acts2
end Jvm.Own
namespace Jvm.Pilot.@@N@@
open Jvm Jvm.ClassFile Sem Op Lib Jvm.Free Jvm.Stand Jvm.LawKit Jvm.RoadKit Bundle Jvm.Own Jvm.Pilot.@@N@@.Jvm.D
theorem k0_0 : dec code 0 = some (.bipush 8) := by decide +kernel
theorem k0_2 : dec code 2 = some (.newarray .byte) := by decide +kernel
theorem k0_4 : dec code 4 = some (.astore_n 3) := by decide +kernel
theorem k0_5 : dec code 5 = some (.aload_n 3) := by decide +kernel
theorem k0_6 : dec code 6 = some (.iconst 0) := by decide +kernel
theorem k0_7 : dec code 7 = some (.lload_n 0) := by decide +kernel
theorem k0_8 : dec code 8 = some (.l2i) := by decide +kernel
theorem k0_9 : dec code 9 = some (.i2b) := by decide +kernel
theorem k0_10 : dec code 10 = some (.bastore) := by decide +kernel
theorem k0_11 : dec code 11 = some (.aload_n 3) := by decide +kernel
theorem k0_12 : dec code 12 = some (.iconst 1) := by decide +kernel
theorem k0_13 : dec code 13 = some (.lload_n 0) := by decide +kernel
theorem k0_14 : dec code 14 = some (.bipush 8) := by decide +kernel
theorem k0_16 : dec code 16 = some (.lushr) := by decide +kernel
theorem k0_17 : dec code 17 = some (.l2i) := by decide +kernel
theorem k0_18 : dec code 18 = some (.i2b) := by decide +kernel
theorem k0_19 : dec code 19 = some (.bastore) := by decide +kernel
theorem k0_20 : dec code 20 = some (.aload_n 3) := by decide +kernel
theorem k0_21 : dec code 21 = some (.iconst 2) := by decide +kernel
theorem k0_22 : dec code 22 = some (.lload_n 0) := by decide +kernel
theorem k0_23 : dec code 23 = some (.bipush 16) := by decide +kernel
theorem k0_25 : dec code 25 = some (.lushr) := by decide +kernel
theorem k0_26 : dec code 26 = some (.l2i) := by decide +kernel
theorem k0_27 : dec code 27 = some (.i2b) := by decide +kernel
theorem k0_28 : dec code 28 = some (.bastore) := by decide +kernel
theorem k0_29 : dec code 29 = some (.aload_n 3) := by decide +kernel
theorem k0_30 : dec code 30 = some (.iconst 3) := by decide +kernel
theorem k0_31 : dec code 31 = some (.lload_n 0) := by decide +kernel
theorem k0_32 : dec code 32 = some (.bipush 24) := by decide +kernel
theorem k0_34 : dec code 34 = some (.lushr) := by decide +kernel
theorem k0_35 : dec code 35 = some (.l2i) := by decide +kernel
theorem k0_36 : dec code 36 = some (.i2b) := by decide +kernel
theorem k0_37 : dec code 37 = some (.bastore) := by decide +kernel
theorem k0_38 : dec code 38 = some (.aload_n 3) := by decide +kernel
theorem k0_39 : dec code 39 = some (.iconst 4) := by decide +kernel
theorem k0_40 : dec code 40 = some (.lload_n 0) := by decide +kernel
theorem k0_41 : dec code 41 = some (.bipush 32) := by decide +kernel
theorem k0_43 : dec code 43 = some (.lushr) := by decide +kernel
theorem k0_44 : dec code 44 = some (.l2i) := by decide +kernel
theorem k0_45 : dec code 45 = some (.i2b) := by decide +kernel
theorem k0_46 : dec code 46 = some (.bastore) := by decide +kernel
theorem k0_47 : dec code 47 = some (.aload_n 3) := by decide +kernel
theorem k0_48 : dec code 48 = some (.iconst 5) := by decide +kernel
theorem k0_49 : dec code 49 = some (.lload_n 0) := by decide +kernel
theorem k0_50 : dec code 50 = some (.bipush 40) := by decide +kernel
theorem k0_52 : dec code 52 = some (.lushr) := by decide +kernel
theorem k0_53 : dec code 53 = some (.l2i) := by decide +kernel
theorem k0_54 : dec code 54 = some (.i2b) := by decide +kernel
theorem k0_55 : dec code 55 = some (.bastore) := by decide +kernel
theorem k0_56 : dec code 56 = some (.aload_n 3) := by decide +kernel
theorem k0_57 : dec code 57 = some (.bipush 6) := by decide +kernel
theorem k0_59 : dec code 59 = some (.lload_n 0) := by decide +kernel
theorem k0_60 : dec code 60 = some (.bipush 48) := by decide +kernel
theorem k0_62 : dec code 62 = some (.lushr) := by decide +kernel
theorem k0_63 : dec code 63 = some (.l2i) := by decide +kernel
theorem k0_64 : dec code 64 = some (.i2b) := by decide +kernel
theorem k0_65 : dec code 65 = some (.bastore) := by decide +kernel
theorem k0_66 : dec code 66 = some (.aload_n 3) := by decide +kernel
theorem k0_67 : dec code 67 = some (.bipush 7) := by decide +kernel
theorem k0_69 : dec code 69 = some (.lload_n 0) := by decide +kernel
theorem k0_70 : dec code 70 = some (.bipush 56) := by decide +kernel
theorem k0_72 : dec code 72 = some (.lushr) := by decide +kernel
theorem k0_73 : dec code 73 = some (.l2i) := by decide +kernel
theorem k0_74 : dec code 74 = some (.i2b) := by decide +kernel
theorem k0_75 : dec code 75 = some (.bastore) := by decide +kernel
theorem k0_76 : dec code 76 = some (.iload_n 2) := by decide +kernel
theorem k0_77 : dec code 77 = some (.ldc 7) := by decide +kernel
theorem k0_79 : dec code 79 = some (.iand) := by decide +kernel
theorem k0_80 : dec code 80 = some (.bipush 9) := by decide +kernel
theorem k0_82 : dec code 82 = some (.irem) := by decide +kernel
theorem k0_83 : dec code 83 = some (.istore 4) := by decide +kernel
theorem k0_85 : dec code 85 = some (.iconst 0) := by decide +kernel
theorem k0_86 : dec code 86 = some (.istore 5) := by decide +kernel
theorem k0_88 : dec code 88 = some (.aload_n 3) := by decide +kernel
theorem k0_89 : dec code 89 = some (.iload 4) := by decide +kernel
theorem k0_91 : dec code 91 = some (.iload 5) := by decide +kernel
theorem k0_93 : dec code 93 = some (.invokestatic 8) := by decide +kernel
theorem k0_96 : dec code 96 = some (.istore 5) := by decide +kernel
theorem k0_98 : dec code 98 = some (.aload_n 3) := by decide +kernel
theorem k0_99 : dec code 99 = some (.iload 4) := by decide +kernel
theorem k0_101 : dec code 101 = some (.iload 5) := by decide +kernel
theorem k0_103 : dec code 103 = some (.invokestatic 8) := by decide +kernel
theorem k0_106 : dec code 106 = some (.istore 5) := by decide +kernel
theorem k0_108 : dec code 108 = some (.aload_n 3) := by decide +kernel
theorem k0_109 : dec code 109 = some (.iload 4) := by decide +kernel
theorem k0_111 : dec code 111 = some (.iload 5) := by decide +kernel
theorem k0_113 : dec code 113 = some (.invokestatic 8) := by decide +kernel
theorem k0_116 : dec code 116 = some (.istore 5) := by decide +kernel
theorem k0_118 : dec code 118 = some (.aload_n 3) := by decide +kernel
theorem k0_119 : dec code 119 = some (.iload 4) := by decide +kernel
theorem k0_121 : dec code 121 = some (.iload 5) := by decide +kernel
theorem k0_123 : dec code 123 = some (.invokestatic 8) := by decide +kernel
theorem k0_126 : dec code 126 = some (.istore 5) := by decide +kernel
theorem k0_128 : dec code 128 = some (.aload_n 3) := by decide +kernel
theorem k0_129 : dec code 129 = some (.iload 4) := by decide +kernel
theorem k0_131 : dec code 131 = some (.iload 5) := by decide +kernel
theorem k0_133 : dec code 133 = some (.invokestatic 8) := by decide +kernel
theorem k0_136 : dec code 136 = some (.istore 5) := by decide +kernel
theorem k0_138 : dec code 138 = some (.aload_n 3) := by decide +kernel
theorem k0_139 : dec code 139 = some (.iload 4) := by decide +kernel
theorem k0_141 : dec code 141 = some (.iload 5) := by decide +kernel
theorem k0_143 : dec code 143 = some (.invokestatic 8) := by decide +kernel
theorem k0_146 : dec code 146 = some (.istore 5) := by decide +kernel
theorem k0_148 : dec code 148 = some (.aload_n 3) := by decide +kernel
theorem k0_149 : dec code 149 = some (.iload 4) := by decide +kernel
theorem k0_151 : dec code 151 = some (.iload 5) := by decide +kernel
theorem k0_153 : dec code 153 = some (.invokestatic 8) := by decide +kernel
theorem k0_156 : dec code 156 = some (.istore 5) := by decide +kernel
theorem k0_158 : dec code 158 = some (.aload_n 3) := by decide +kernel
theorem k0_159 : dec code 159 = some (.iload 4) := by decide +kernel
theorem k0_161 : dec code 161 = some (.iload 5) := by decide +kernel
theorem k0_163 : dec code 163 = some (.invokestatic 8) := by decide +kernel
theorem k0_166 : dec code 166 = some (.istore 5) := by decide +kernel
theorem k0_168 : dec code 168 = some (.iload 5) := by decide +kernel
theorem k0_170 : dec code 170 = some (.iload 4) := by decide +kernel
theorem k0_172 : dec code 172 = some (.if_icmp .ne 7) := by decide +kernel
theorem k0_175 : dec code 175 = some (.iconst 1) := by decide +kernel
theorem k0_176 : dec code 176 = some (.goto 4) := by decide +kernel
theorem k0_179 : dec code 179 = some (.iconst 0) := by decide +kernel
theorem k0_180 : dec code 180 = some (.istore 6) := by decide +kernel
theorem k0_182 : dec code 182 = some (.aload_n 3) := by decide +kernel
theorem k0_183 : dec code 183 = some (.iload 4) := by decide +kernel
theorem k0_185 : dec code 185 = some (.invokestatic 14) := by decide +kernel
theorem k0_188 : dec code 188 = some (.iload 6) := by decide +kernel
theorem k0_190 : dec code 190 = some (.if_icmp .ne 7) := by decide +kernel
theorem k0_193 : dec code 193 = some (.iconst 1) := by decide +kernel
theorem k0_194 : dec code 194 = some (.goto 4) := by decide +kernel
theorem k0_197 : dec code 197 = some (.iconst 0) := by decide +kernel
theorem k0_198 : dec code 198 = some (.ireturn) := by decide +kernel
theorem k1_0 : dec method_3_code 0 = some (.iload_n 2) := by decide +kernel
theorem k1_1 : dec method_3_code 1 = some (.ifCond .lt 8) := by decide +kernel
theorem k1_4 : dec method_3_code 4 = some (.iload_n 2) := by decide +kernel
theorem k1_5 : dec method_3_code 5 = some (.iload_n 1) := by decide +kernel
theorem k1_6 : dec method_3_code 6 = some (.if_icmp .lt 5) := by decide +kernel
theorem k1_9 : dec method_3_code 9 = some (.iload_n 2) := by decide +kernel
theorem k1_10 : dec method_3_code 10 = some (.ireturn) := by decide +kernel
theorem k1_11 : dec method_3_code 11 = some (.aload_n 0) := by decide +kernel
theorem k1_12 : dec method_3_code 12 = some (.iload_n 1) := by decide +kernel
theorem k1_13 : dec method_3_code 13 = some (.iload_n 2) := by decide +kernel
theorem k1_14 : dec method_3_code 14 = some (.invokestatic 20) := by decide +kernel
theorem k1_17 : dec method_3_code 17 = some (.istore_n 3) := by decide +kernel
theorem k1_18 : dec method_3_code 18 = some (.iload_n 3) := by decide +kernel
theorem k1_19 : dec method_3_code 19 = some (.ifCond .ge 5) := by decide +kernel
theorem k1_22 : dec method_3_code 22 = some (.iconst (-1)) := by decide +kernel
theorem k1_23 : dec method_3_code 23 = some (.ireturn) := by decide +kernel
theorem k1_24 : dec method_3_code 24 = some (.iload_n 2) := by decide +kernel
theorem k1_25 : dec method_3_code 25 = some (.iload_n 3) := by decide +kernel
theorem k1_26 : dec method_3_code 26 = some (.iadd) := by decide +kernel
theorem k1_27 : dec method_3_code 27 = some (.ireturn) := by decide +kernel
theorem k2_0 : dec method_4_code 0 = some (.aload_n 0) := by decide +kernel
theorem k2_1 : dec method_4_code 1 = some (.iload_n 2) := by decide +kernel
theorem k2_2 : dec method_4_code 2 = some (.baload) := by decide +kernel
theorem k2_3 : dec method_4_code 3 = some (.sipush 255) := by decide +kernel
theorem k2_6 : dec method_4_code 6 = some (.iand) := by decide +kernel
theorem k2_7 : dec method_4_code 7 = some (.istore_n 3) := by decide +kernel
theorem k2_8 : dec method_4_code 8 = some (.iload_n 3) := by decide +kernel
theorem k2_9 : dec method_4_code 9 = some (.sipush 128) := by decide +kernel
theorem k2_12 : dec method_4_code 12 = some (.iand) := by decide +kernel
theorem k2_13 : dec method_4_code 13 = some (.ifCond .ne 5) := by decide +kernel
theorem k2_16 : dec method_4_code 16 = some (.iconst 1) := by decide +kernel
theorem k2_17 : dec method_4_code 17 = some (.ireturn) := by decide +kernel
theorem k2_18 : dec method_4_code 18 = some (.iload_n 3) := by decide +kernel
theorem k2_19 : dec method_4_code 19 = some (.sipush 224) := by decide +kernel
theorem k2_22 : dec method_4_code 22 = some (.iand) := by decide +kernel
theorem k2_23 : dec method_4_code 23 = some (.sipush 192) := by decide +kernel
theorem k2_26 : dec method_4_code 26 = some (.if_icmp .ne 15) := by decide +kernel
theorem k2_29 : dec method_4_code 29 = some (.iconst 2) := by decide +kernel
theorem k2_30 : dec method_4_code 30 = some (.istore 4) := by decide +kernel
theorem k2_32 : dec method_4_code 32 = some (.iload_n 3) := by decide +kernel
theorem k2_33 : dec method_4_code 33 = some (.bipush 31) := by decide +kernel
theorem k2_35 : dec method_4_code 35 = some (.iand) := by decide +kernel
theorem k2_36 : dec method_4_code 36 = some (.istore 5) := by decide +kernel
theorem k2_38 : dec method_4_code 38 = some (.goto 51) := by decide +kernel
theorem k2_41 : dec method_4_code 41 = some (.iload_n 3) := by decide +kernel
theorem k2_42 : dec method_4_code 42 = some (.sipush 240) := by decide +kernel
theorem k2_45 : dec method_4_code 45 = some (.iand) := by decide +kernel
theorem k2_46 : dec method_4_code 46 = some (.sipush 224) := by decide +kernel
theorem k2_49 : dec method_4_code 49 = some (.if_icmp .ne 15) := by decide +kernel
theorem k2_52 : dec method_4_code 52 = some (.iconst 3) := by decide +kernel
theorem k2_53 : dec method_4_code 53 = some (.istore 4) := by decide +kernel
theorem k2_55 : dec method_4_code 55 = some (.iload_n 3) := by decide +kernel
theorem k2_56 : dec method_4_code 56 = some (.bipush 15) := by decide +kernel
theorem k2_58 : dec method_4_code 58 = some (.iand) := by decide +kernel
theorem k2_59 : dec method_4_code 59 = some (.istore 5) := by decide +kernel
theorem k2_61 : dec method_4_code 61 = some (.goto 28) := by decide +kernel
theorem k2_64 : dec method_4_code 64 = some (.iload_n 3) := by decide +kernel
theorem k2_65 : dec method_4_code 65 = some (.sipush 248) := by decide +kernel
theorem k2_68 : dec method_4_code 68 = some (.iand) := by decide +kernel
theorem k2_69 : dec method_4_code 69 = some (.sipush 240) := by decide +kernel
theorem k2_72 : dec method_4_code 72 = some (.if_icmp .ne 15) := by decide +kernel
theorem k2_75 : dec method_4_code 75 = some (.iconst 4) := by decide +kernel
theorem k2_76 : dec method_4_code 76 = some (.istore 4) := by decide +kernel
theorem k2_78 : dec method_4_code 78 = some (.iload_n 3) := by decide +kernel
theorem k2_79 : dec method_4_code 79 = some (.bipush 7) := by decide +kernel
theorem k2_81 : dec method_4_code 81 = some (.iand) := by decide +kernel
theorem k2_82 : dec method_4_code 82 = some (.istore 5) := by decide +kernel
theorem k2_84 : dec method_4_code 84 = some (.goto 5) := by decide +kernel
theorem k2_87 : dec method_4_code 87 = some (.iconst (-1)) := by decide +kernel
theorem k2_88 : dec method_4_code 88 = some (.ireturn) := by decide +kernel
theorem k2_89 : dec method_4_code 89 = some (.iload_n 1) := by decide +kernel
theorem k2_90 : dec method_4_code 90 = some (.iload_n 2) := by decide +kernel
theorem k2_91 : dec method_4_code 91 = some (.isub) := by decide +kernel
theorem k2_92 : dec method_4_code 92 = some (.iload 4) := by decide +kernel
theorem k2_94 : dec method_4_code 94 = some (.if_icmp .ge 5) := by decide +kernel
theorem k2_97 : dec method_4_code 97 = some (.iconst (-1)) := by decide +kernel
theorem k2_98 : dec method_4_code 98 = some (.ireturn) := by decide +kernel
theorem k2_99 : dec method_4_code 99 = some (.aload_n 0) := by decide +kernel
theorem k2_100 : dec method_4_code 100 = some (.iload_n 2) := by decide +kernel
theorem k2_101 : dec method_4_code 101 = some (.iconst 1) := by decide +kernel
theorem k2_102 : dec method_4_code 102 = some (.iadd) := by decide +kernel
theorem k2_103 : dec method_4_code 103 = some (.baload) := by decide +kernel
theorem k2_104 : dec method_4_code 104 = some (.sipush 255) := by decide +kernel
theorem k2_107 : dec method_4_code 107 = some (.iand) := by decide +kernel
theorem k2_108 : dec method_4_code 108 = some (.istore 6) := by decide +kernel
theorem k2_110 : dec method_4_code 110 = some (.iload 6) := by decide +kernel
theorem k2_112 : dec method_4_code 112 = some (.sipush 192) := by decide +kernel
theorem k2_115 : dec method_4_code 115 = some (.iand) := by decide +kernel
theorem k2_116 : dec method_4_code 116 = some (.sipush 128) := by decide +kernel
theorem k2_119 : dec method_4_code 119 = some (.if_icmp .eq 5) := by decide +kernel
theorem k2_122 : dec method_4_code 122 = some (.iconst (-1)) := by decide +kernel
theorem k2_123 : dec method_4_code 123 = some (.ireturn) := by decide +kernel
theorem k2_124 : dec method_4_code 124 = some (.iload 5) := by decide +kernel
theorem k2_126 : dec method_4_code 126 = some (.bipush 6) := by decide +kernel
theorem k2_128 : dec method_4_code 128 = some (.ishl) := by decide +kernel
theorem k2_129 : dec method_4_code 129 = some (.iload 6) := by decide +kernel
theorem k2_131 : dec method_4_code 131 = some (.bipush 63) := by decide +kernel
theorem k2_133 : dec method_4_code 133 = some (.iand) := by decide +kernel
theorem k2_134 : dec method_4_code 134 = some (.ior) := by decide +kernel
theorem k2_135 : dec method_4_code 135 = some (.istore 5) := by decide +kernel
theorem k2_137 : dec method_4_code 137 = some (.iload 4) := by decide +kernel
theorem k2_139 : dec method_4_code 139 = some (.iconst 3) := by decide +kernel
theorem k2_140 : dec method_4_code 140 = some (.if_icmp .lt 41) := by decide +kernel
theorem k2_143 : dec method_4_code 143 = some (.aload_n 0) := by decide +kernel
theorem k2_144 : dec method_4_code 144 = some (.iload_n 2) := by decide +kernel
theorem k2_145 : dec method_4_code 145 = some (.iconst 2) := by decide +kernel
theorem k2_146 : dec method_4_code 146 = some (.iadd) := by decide +kernel
theorem k2_147 : dec method_4_code 147 = some (.baload) := by decide +kernel
theorem k2_148 : dec method_4_code 148 = some (.sipush 255) := by decide +kernel
theorem k2_151 : dec method_4_code 151 = some (.iand) := by decide +kernel
theorem k2_152 : dec method_4_code 152 = some (.istore 7) := by decide +kernel
theorem k2_154 : dec method_4_code 154 = some (.iload 7) := by decide +kernel
theorem k2_156 : dec method_4_code 156 = some (.sipush 192) := by decide +kernel
theorem k2_159 : dec method_4_code 159 = some (.iand) := by decide +kernel
theorem k2_160 : dec method_4_code 160 = some (.sipush 128) := by decide +kernel
theorem k2_163 : dec method_4_code 163 = some (.if_icmp .eq 5) := by decide +kernel
theorem k2_166 : dec method_4_code 166 = some (.iconst (-1)) := by decide +kernel
theorem k2_167 : dec method_4_code 167 = some (.ireturn) := by decide +kernel
theorem k2_168 : dec method_4_code 168 = some (.iload 5) := by decide +kernel
theorem k2_170 : dec method_4_code 170 = some (.bipush 6) := by decide +kernel
theorem k2_172 : dec method_4_code 172 = some (.ishl) := by decide +kernel
theorem k2_173 : dec method_4_code 173 = some (.iload 7) := by decide +kernel
theorem k2_175 : dec method_4_code 175 = some (.bipush 63) := by decide +kernel
theorem k2_177 : dec method_4_code 177 = some (.iand) := by decide +kernel
theorem k2_178 : dec method_4_code 178 = some (.ior) := by decide +kernel
theorem k2_179 : dec method_4_code 179 = some (.istore 5) := by decide +kernel
theorem k2_181 : dec method_4_code 181 = some (.iload 4) := by decide +kernel
theorem k2_183 : dec method_4_code 183 = some (.iconst 4) := by decide +kernel
theorem k2_184 : dec method_4_code 184 = some (.if_icmp .ne 41) := by decide +kernel
theorem k2_187 : dec method_4_code 187 = some (.aload_n 0) := by decide +kernel
theorem k2_188 : dec method_4_code 188 = some (.iload_n 2) := by decide +kernel
theorem k2_189 : dec method_4_code 189 = some (.iconst 3) := by decide +kernel
theorem k2_190 : dec method_4_code 190 = some (.iadd) := by decide +kernel
theorem k2_191 : dec method_4_code 191 = some (.baload) := by decide +kernel
theorem k2_192 : dec method_4_code 192 = some (.sipush 255) := by decide +kernel
theorem k2_195 : dec method_4_code 195 = some (.iand) := by decide +kernel
theorem k2_196 : dec method_4_code 196 = some (.istore 7) := by decide +kernel
theorem k2_198 : dec method_4_code 198 = some (.iload 7) := by decide +kernel
theorem k2_200 : dec method_4_code 200 = some (.sipush 192) := by decide +kernel
theorem k2_203 : dec method_4_code 203 = some (.iand) := by decide +kernel
theorem k2_204 : dec method_4_code 204 = some (.sipush 128) := by decide +kernel
theorem k2_207 : dec method_4_code 207 = some (.if_icmp .eq 5) := by decide +kernel
theorem k2_210 : dec method_4_code 210 = some (.iconst (-1)) := by decide +kernel
theorem k2_211 : dec method_4_code 211 = some (.ireturn) := by decide +kernel
theorem k2_212 : dec method_4_code 212 = some (.iload 5) := by decide +kernel
theorem k2_214 : dec method_4_code 214 = some (.bipush 6) := by decide +kernel
theorem k2_216 : dec method_4_code 216 = some (.ishl) := by decide +kernel
theorem k2_217 : dec method_4_code 217 = some (.iload 7) := by decide +kernel
theorem k2_219 : dec method_4_code 219 = some (.bipush 63) := by decide +kernel
theorem k2_221 : dec method_4_code 221 = some (.iand) := by decide +kernel
theorem k2_222 : dec method_4_code 222 = some (.ior) := by decide +kernel
theorem k2_223 : dec method_4_code 223 = some (.istore 5) := by decide +kernel
theorem k2_225 : dec method_4_code 225 = some (.iload 4) := by decide +kernel
theorem k2_227 : dec method_4_code 227 = some (.iconst 2) := by decide +kernel
theorem k2_228 : dec method_4_code 228 = some (.if_icmp .ne 9) := by decide +kernel
theorem k2_231 : dec method_4_code 231 = some (.sipush 128) := by decide +kernel
theorem k2_234 : dec method_4_code 234 = some (.goto 17) := by decide +kernel
theorem k2_237 : dec method_4_code 237 = some (.iload 4) := by decide +kernel
theorem k2_239 : dec method_4_code 239 = some (.iconst 3) := by decide +kernel
theorem k2_240 : dec method_4_code 240 = some (.if_icmp .ne 9) := by decide +kernel
theorem k2_243 : dec method_4_code 243 = some (.sipush 2048) := by decide +kernel
theorem k2_246 : dec method_4_code 246 = some (.goto 5) := by decide +kernel
theorem k2_249 : dec method_4_code 249 = some (.ldc 23) := by decide +kernel
theorem k2_251 : dec method_4_code 251 = some (.istore 7) := by decide +kernel
theorem k2_253 : dec method_4_code 253 = some (.iload 5) := by decide +kernel
theorem k2_255 : dec method_4_code 255 = some (.iload 7) := by decide +kernel
theorem k2_257 : dec method_4_code 257 = some (.if_icmp .lt 10) := by decide +kernel
theorem k2_260 : dec method_4_code 260 = some (.iload 5) := by decide +kernel
theorem k2_262 : dec method_4_code 262 = some (.ldc 24) := by decide +kernel
theorem k2_264 : dec method_4_code 264 = some (.if_icmp .le 5) := by decide +kernel
theorem k2_267 : dec method_4_code 267 = some (.iconst (-1)) := by decide +kernel
theorem k2_268 : dec method_4_code 268 = some (.ireturn) := by decide +kernel
theorem k2_269 : dec method_4_code 269 = some (.iload 5) := by decide +kernel
theorem k2_271 : dec method_4_code 271 = some (.ldc 25) := by decide +kernel
theorem k2_273 : dec method_4_code 273 = some (.if_icmp .lt 12) := by decide +kernel
theorem k2_276 : dec method_4_code 276 = some (.iload 5) := by decide +kernel
theorem k2_278 : dec method_4_code 278 = some (.ldc 26) := by decide +kernel
theorem k2_280 : dec method_4_code 280 = some (.if_icmp .gt 5) := by decide +kernel
theorem k2_283 : dec method_4_code 283 = some (.iconst (-1)) := by decide +kernel
theorem k2_284 : dec method_4_code 284 = some (.ireturn) := by decide +kernel
theorem k2_285 : dec method_4_code 285 = some (.iload 4) := by decide +kernel
theorem k2_287 : dec method_4_code 287 = some (.ireturn) := by decide +kernel
theorem k3_0 : dec prog_64_method_2_code 0 = some (.iconst 0) := by decide +kernel
theorem k3_1 : dec prog_64_method_2_code 1 = some (.istore_n 2) := by decide +kernel
theorem k3_2 : dec prog_64_method_2_code 2 = some (.iload_n 2) := by decide +kernel
theorem k3_3 : dec prog_64_method_2_code 3 = some (.iload_n 1) := by decide +kernel
theorem k3_4 : dec prog_64_method_2_code 4 = some (.if_icmp .ge 254) := by decide +kernel
theorem k3_7 : dec prog_64_method_2_code 7 = some (.aload_n 0) := by decide +kernel
theorem k3_8 : dec prog_64_method_2_code 8 = some (.iload_n 2) := by decide +kernel
theorem k3_9 : dec prog_64_method_2_code 9 = some (.baload) := by decide +kernel
theorem k3_10 : dec prog_64_method_2_code 10 = some (.sipush 255) := by decide +kernel
theorem k3_13 : dec prog_64_method_2_code 13 = some (.iand) := by decide +kernel
theorem k3_14 : dec prog_64_method_2_code 14 = some (.istore_n 3) := by decide +kernel
theorem k3_15 : dec prog_64_method_2_code 15 = some (.sipush 128) := by decide +kernel
theorem k3_18 : dec prog_64_method_2_code 18 = some (.istore 5) := by decide +kernel
theorem k3_20 : dec prog_64_method_2_code 20 = some (.sipush 191) := by decide +kernel
theorem k3_23 : dec prog_64_method_2_code 23 = some (.istore 6) := by decide +kernel
theorem k3_25 : dec prog_64_method_2_code 25 = some (.iload_n 3) := by decide +kernel
theorem k3_26 : dec prog_64_method_2_code 26 = some (.sipush 128) := by decide +kernel
theorem k3_29 : dec prog_64_method_2_code 29 = some (.if_icmp .ge 9) := by decide +kernel
theorem k3_32 : dec prog_64_method_2_code 32 = some (.iconst 1) := by decide +kernel
theorem k3_33 : dec prog_64_method_2_code 33 = some (.istore 4) := by decide +kernel
theorem k3_35 : dec prog_64_method_2_code 35 = some (.goto 137) := by decide +kernel
theorem k3_38 : dec prog_64_method_2_code 38 = some (.iload_n 3) := by decide +kernel
theorem k3_39 : dec prog_64_method_2_code 39 = some (.sipush 194) := by decide +kernel
theorem k3_42 : dec prog_64_method_2_code 42 = some (.if_icmp .lt 16) := by decide +kernel
theorem k3_45 : dec prog_64_method_2_code 45 = some (.iload_n 3) := by decide +kernel
theorem k3_46 : dec prog_64_method_2_code 46 = some (.sipush 223) := by decide +kernel
theorem k3_49 : dec prog_64_method_2_code 49 = some (.if_icmp .gt 9) := by decide +kernel
theorem k3_52 : dec prog_64_method_2_code 52 = some (.iconst 2) := by decide +kernel
theorem k3_53 : dec prog_64_method_2_code 53 = some (.istore 4) := by decide +kernel
theorem k3_55 : dec prog_64_method_2_code 55 = some (.goto 117) := by decide +kernel
theorem k3_58 : dec prog_64_method_2_code 58 = some (.iload_n 3) := by decide +kernel
theorem k3_59 : dec prog_64_method_2_code 59 = some (.sipush 224) := by decide +kernel
theorem k3_62 : dec prog_64_method_2_code 62 = some (.if_icmp .ne 14) := by decide +kernel
theorem k3_65 : dec prog_64_method_2_code 65 = some (.iconst 3) := by decide +kernel
theorem k3_66 : dec prog_64_method_2_code 66 = some (.istore 4) := by decide +kernel
theorem k3_68 : dec prog_64_method_2_code 68 = some (.sipush 160) := by decide +kernel
theorem k3_71 : dec prog_64_method_2_code 71 = some (.istore 5) := by decide +kernel
theorem k3_73 : dec prog_64_method_2_code 73 = some (.goto 99) := by decide +kernel
theorem k3_76 : dec prog_64_method_2_code 76 = some (.iload_n 3) := by decide +kernel
theorem k3_77 : dec prog_64_method_2_code 77 = some (.sipush 237) := by decide +kernel
theorem k3_80 : dec prog_64_method_2_code 80 = some (.if_icmp .ne 14) := by decide +kernel
theorem k3_83 : dec prog_64_method_2_code 83 = some (.iconst 3) := by decide +kernel
theorem k3_84 : dec prog_64_method_2_code 84 = some (.istore 4) := by decide +kernel
theorem k3_86 : dec prog_64_method_2_code 86 = some (.sipush 159) := by decide +kernel
theorem k3_89 : dec prog_64_method_2_code 89 = some (.istore 6) := by decide +kernel
theorem k3_91 : dec prog_64_method_2_code 91 = some (.goto 81) := by decide +kernel
theorem k3_94 : dec prog_64_method_2_code 94 = some (.iload_n 3) := by decide +kernel
theorem k3_95 : dec prog_64_method_2_code 95 = some (.sipush 225) := by decide +kernel
theorem k3_98 : dec prog_64_method_2_code 98 = some (.if_icmp .lt 16) := by decide +kernel
theorem k3_101 : dec prog_64_method_2_code 101 = some (.iload_n 3) := by decide +kernel
theorem k3_102 : dec prog_64_method_2_code 102 = some (.sipush 239) := by decide +kernel
theorem k3_105 : dec prog_64_method_2_code 105 = some (.if_icmp .gt 9) := by decide +kernel
theorem k3_108 : dec prog_64_method_2_code 108 = some (.iconst 3) := by decide +kernel
theorem k3_109 : dec prog_64_method_2_code 109 = some (.istore 4) := by decide +kernel
theorem k3_111 : dec prog_64_method_2_code 111 = some (.goto 61) := by decide +kernel
theorem k3_114 : dec prog_64_method_2_code 114 = some (.iload_n 3) := by decide +kernel
theorem k3_115 : dec prog_64_method_2_code 115 = some (.sipush 240) := by decide +kernel
theorem k3_118 : dec prog_64_method_2_code 118 = some (.if_icmp .ne 14) := by decide +kernel
theorem k3_121 : dec prog_64_method_2_code 121 = some (.iconst 4) := by decide +kernel
theorem k3_122 : dec prog_64_method_2_code 122 = some (.istore 4) := by decide +kernel
theorem k3_124 : dec prog_64_method_2_code 124 = some (.sipush 144) := by decide +kernel
theorem k3_127 : dec prog_64_method_2_code 127 = some (.istore 5) := by decide +kernel
theorem k3_129 : dec prog_64_method_2_code 129 = some (.goto 43) := by decide +kernel
theorem k3_132 : dec prog_64_method_2_code 132 = some (.iload_n 3) := by decide +kernel
theorem k3_133 : dec prog_64_method_2_code 133 = some (.sipush 244) := by decide +kernel
theorem k3_136 : dec prog_64_method_2_code 136 = some (.if_icmp .ne 14) := by decide +kernel
theorem k3_139 : dec prog_64_method_2_code 139 = some (.iconst 4) := by decide +kernel
theorem k3_140 : dec prog_64_method_2_code 140 = some (.istore 4) := by decide +kernel
theorem k3_142 : dec prog_64_method_2_code 142 = some (.sipush 143) := by decide +kernel
theorem k3_145 : dec prog_64_method_2_code 145 = some (.istore 6) := by decide +kernel
theorem k3_147 : dec prog_64_method_2_code 147 = some (.goto 25) := by decide +kernel
theorem k3_150 : dec prog_64_method_2_code 150 = some (.iload_n 3) := by decide +kernel
theorem k3_151 : dec prog_64_method_2_code 151 = some (.sipush 241) := by decide +kernel
theorem k3_154 : dec prog_64_method_2_code 154 = some (.if_icmp .lt 16) := by decide +kernel
theorem k3_157 : dec prog_64_method_2_code 157 = some (.iload_n 3) := by decide +kernel
theorem k3_158 : dec prog_64_method_2_code 158 = some (.sipush 243) := by decide +kernel
theorem k3_161 : dec prog_64_method_2_code 161 = some (.if_icmp .gt 9) := by decide +kernel
theorem k3_164 : dec prog_64_method_2_code 164 = some (.iconst 4) := by decide +kernel
theorem k3_165 : dec prog_64_method_2_code 165 = some (.istore 4) := by decide +kernel
theorem k3_167 : dec prog_64_method_2_code 167 = some (.goto 5) := by decide +kernel
theorem k3_170 : dec prog_64_method_2_code 170 = some (.iconst 0) := by decide +kernel
theorem k3_171 : dec prog_64_method_2_code 171 = some (.ireturn) := by decide +kernel
theorem k3_172 : dec prog_64_method_2_code 172 = some (.iload_n 1) := by decide +kernel
theorem k3_173 : dec prog_64_method_2_code 173 = some (.iload_n 2) := by decide +kernel
theorem k3_174 : dec prog_64_method_2_code 174 = some (.isub) := by decide +kernel
theorem k3_175 : dec prog_64_method_2_code 175 = some (.iload 4) := by decide +kernel
theorem k3_177 : dec prog_64_method_2_code 177 = some (.if_icmp .ge 5) := by decide +kernel
theorem k3_180 : dec prog_64_method_2_code 180 = some (.iconst 0) := by decide +kernel
theorem k3_181 : dec prog_64_method_2_code 181 = some (.ireturn) := by decide +kernel
theorem k3_182 : dec prog_64_method_2_code 182 = some (.iconst 1) := by decide +kernel
theorem k3_183 : dec prog_64_method_2_code 183 = some (.istore 7) := by decide +kernel
theorem k3_185 : dec prog_64_method_2_code 185 = some (.iload 7) := by decide +kernel
theorem k3_187 : dec prog_64_method_2_code 187 = some (.iload 4) := by decide +kernel
theorem k3_189 : dec prog_64_method_2_code 189 = some (.if_icmp .ge 61) := by decide +kernel
theorem k3_192 : dec prog_64_method_2_code 192 = some (.aload_n 0) := by decide +kernel
theorem k3_193 : dec prog_64_method_2_code 193 = some (.iload_n 2) := by decide +kernel
theorem k3_194 : dec prog_64_method_2_code 194 = some (.iload 7) := by decide +kernel
theorem k3_196 : dec prog_64_method_2_code 196 = some (.iadd) := by decide +kernel
theorem k3_197 : dec prog_64_method_2_code 197 = some (.baload) := by decide +kernel
theorem k3_198 : dec prog_64_method_2_code 198 = some (.sipush 255) := by decide +kernel
theorem k3_201 : dec prog_64_method_2_code 201 = some (.iand) := by decide +kernel
theorem k3_202 : dec prog_64_method_2_code 202 = some (.istore 8) := by decide +kernel
theorem k3_204 : dec prog_64_method_2_code 204 = some (.iload 8) := by decide +kernel
theorem k3_206 : dec prog_64_method_2_code 206 = some (.iload 7) := by decide +kernel
theorem k3_208 : dec prog_64_method_2_code 208 = some (.iconst 1) := by decide +kernel
theorem k3_209 : dec prog_64_method_2_code 209 = some (.if_icmp .ne 8) := by decide +kernel
theorem k3_212 : dec prog_64_method_2_code 212 = some (.iload 5) := by decide +kernel
theorem k3_214 : dec prog_64_method_2_code 214 = some (.goto 6) := by decide +kernel
theorem k3_217 : dec prog_64_method_2_code 217 = some (.sipush 128) := by decide +kernel
theorem k3_220 : dec prog_64_method_2_code 220 = some (.if_icmp .lt 22) := by decide +kernel
theorem k3_223 : dec prog_64_method_2_code 223 = some (.iload 8) := by decide +kernel
theorem k3_225 : dec prog_64_method_2_code 225 = some (.iload 7) := by decide +kernel
theorem k3_227 : dec prog_64_method_2_code 227 = some (.iconst 1) := by decide +kernel
theorem k3_228 : dec prog_64_method_2_code 228 = some (.if_icmp .ne 8) := by decide +kernel
theorem k3_231 : dec prog_64_method_2_code 231 = some (.iload 6) := by decide +kernel
theorem k3_233 : dec prog_64_method_2_code 233 = some (.goto 6) := by decide +kernel
theorem k3_236 : dec prog_64_method_2_code 236 = some (.sipush 191) := by decide +kernel
theorem k3_239 : dec prog_64_method_2_code 239 = some (.if_icmp .le 5) := by decide +kernel
theorem k3_242 : dec prog_64_method_2_code 242 = some (.iconst 0) := by decide +kernel
theorem k3_243 : dec prog_64_method_2_code 243 = some (.ireturn) := by decide +kernel
theorem k3_244 : dec prog_64_method_2_code 244 = some (.iinc 7 1) := by decide +kernel
theorem k3_247 : dec prog_64_method_2_code 247 = some (.goto (-62)) := by decide +kernel
theorem k3_250 : dec prog_64_method_2_code 250 = some (.iload_n 2) := by decide +kernel
theorem k3_251 : dec prog_64_method_2_code 251 = some (.iload 4) := by decide +kernel
theorem k3_253 : dec prog_64_method_2_code 253 = some (.iadd) := by decide +kernel
theorem k3_254 : dec prog_64_method_2_code 254 = some (.istore_n 2) := by decide +kernel
theorem k3_255 : dec prog_64_method_2_code 255 = some (.goto (-253)) := by decide +kernel
theorem k3_258 : dec prog_64_method_2_code 258 = some (.iconst 1) := by decide +kernel
theorem k3_259 : dec prog_64_method_2_code 259 = some (.ireturn) := by decide +kernel
def K : List CD := []
theorem kok {Z : State} {a0 : Array Value} (hw : ∀ d ∈ tables_1, d.before a0 Z = true) : KOk Z a0 K := by
  intro c C fs h
  cases h
/-! body 2: Utf8IsValidPinLaw.charSize([BII)I -/
def E2 : List (Nat × Nat × Act) := [(0, 23, aI (65536)), (0, 24, aI (1114111)), (0, 25, aI (55296)), (0, 26, aI (57343))]
def F2 : List Value → AH → Option ORes := fn method_4_code 8 (Option.some Jvm.ClassFile.FieldType.int) E2 0 320
def r2 : Room := { frames := 0, cells := 0, slots := 0, locals := 0 }
theorem says2 (l : Launch) {Z : State} {a0 : Array Value} {σ : Nat → Nat} {n0 : Nat} (hsg : Sg σ 0 n0) (hw : ∀ d ∈ tables_1, d.before a0 Z = true) : Says l Z σ 0 n0 K (⟨"com/example/keeplast/keeplast/cli/Utf8IsValidPinLaw", "charSize", "([BII)I"⟩ : MethodName) method_4_code 8 (Option.some Jvm.ClassFile.FieldType.int) [] r2 F2 :=
  says_fn hsg (plainFor_of_name (by first | (simp [plainName, overriddenIn]; done) | decide +kernel)) fun p e s m args below meth c hx hby hml hZ hown hnm => ag_cons (okI hx hZ hown (hw _ (List.mem_of_getElem? (i := 15) rfl))) <| ag_cons (okI hx hZ hown (hw _ (List.mem_of_getElem? (i := 13) rfl))) <| ag_cons (okI hx hZ hown (hw _ (List.mem_of_getElem? (i := 14) rfl))) <| ag_cons (okI hx hZ hown (hw _ (List.mem_of_getElem? (i := 16) rfl))) <| ag_nil
/-! body 1: Utf8IsValidPinLaw.step([BII)I -/
def E1 : List (Nat × Nat × Act) := [(7, 20, aCall 3 6 0 0 0 0 F2)]
def F1 : List Value → AH → Option ORes := fn method_3_code 4 (Option.some Jvm.ClassFile.FieldType.int) E1 0 80
def r1 : Room := { frames := 1, cells := 0, slots := 0, locals := 25 }
theorem says1 (l : Launch) {Z : State} {a0 : Array Value} {σ : Nat → Nat} {n0 : Nat} (hsg : Sg σ 0 n0) (hw : ∀ d ∈ tables_1, d.before a0 Z = true) : Says l Z σ 0 n0 K (⟨"com/example/keeplast/keeplast/cli/Utf8IsValidPinLaw", "step", "([BII)I"⟩ : MethodName) method_3_code 4 (Option.some Jvm.ClassFile.FieldType.int) [] r1 F1 :=
  says_fn hsg (plainFor_of_name (by first | (simp [plainName, overriddenIn]; done) | decide +kernel)) fun p e s m args below meth c hx hby hml hZ hown hnm => ag_cons (okStat (W := 6) hx hZ (says2 l hsg hw) hown (hw _ (List.mem_of_getElem? (i := 6) rfl)) (hw _ (List.mem_of_getElem? (i := 7) rfl)) (hw _ (List.mem_of_getElem? (i := 4) rfl)) (hw _ (List.mem_of_getElem? (i := 8) rfl)) (by decide) (by decide +kernel : parseMethodDescriptor "([BII)I" = some ⟨[(.array .byte), .int, .int], some .int⟩) rfl (by decide) (by decide) (by decide) (by decide)) <| ag_nil
/-! body 3: Utf8.isValid([BI)Z -/
def E3 : List (Nat × Nat × Act) := []
def F3 : List Value → AH → Option ORes := fn prog_64_method_2_code 9 (Option.some Jvm.ClassFile.FieldType.boolean) E3 0 2000
def r3 : Room := { frames := 0, cells := 0, slots := 0, locals := 0 }
theorem says3 (l : Launch) {Z : State} {a0 : Array Value} {σ : Nat → Nat} {n0 : Nat} (hsg : Sg σ 0 n0) (hw : ∀ d ∈ tables_1, d.before a0 Z = true) : Says l Z σ 0 n0 K (⟨"com/example/keeplast/keeplast/cli/Utf8", "isValid", "([BI)Z"⟩ : MethodName) prog_64_method_2_code 9 (Option.some Jvm.ClassFile.FieldType.boolean) [] r3 F3 :=
  says_fn hsg (plainFor_of_name (by first | (simp [plainName, overriddenIn]; done) | decide +kernel)) fun p e s m args below meth c hx hby hml hZ hown hnm => ag_nil
/-! body 0: Utf8IsValidPinLaw.law(JI)Z -/
def E0 : List (Nat × Nat × Act) := [(13, 4, aArr .byte 16 128), (0, 7, aI (2147483647)), (7, 8, aCall 3 6 16 128 0 0 F1), (7, 14, aCall 2 6 16 128 0 0 F3)]
def F0 : List Value → AH → Option ORes := fn code maxLocals ret E0 0 298
theorem says0 (l : Launch) {Z : State} {a0 : Array Value} {σ : Nat → Nat} {n0 : Nat} (hsg : Sg σ 0 n0) (hw : ∀ d ∈ tables_1, d.before a0 Z = true) : Says l Z σ 0 n0 K x code maxLocals ret tables_1 room_1 F0 :=
  says_fn hsg (plainFor_of_name (by first | (simp [x, plainName, overriddenIn]; done) | decide +kernel)) fun p e s m args below meth c hx hby hml hZ hown hnm => ag_cons (okArr (t := .byte) hx hZ hsg (hw _ (List.mem_of_getElem? (i := 0) rfl)) (by decide) (by decide)) <| ag_cons (okI hx hZ hown (hw _ (List.mem_of_getElem? (i := 1) rfl))) <| ag_cons (okStat (W := 6) hx hZ (says1 l hsg hw) hown (hw _ (List.mem_of_getElem? (i := 2) rfl)) (hw _ (List.mem_of_getElem? (i := 3) rfl)) (hw _ (List.mem_of_getElem? (i := 4) rfl)) (hw _ (List.mem_of_getElem? (i := 5) rfl)) (by decide) (by decide +kernel : parseMethodDescriptor "([BII)I" = some ⟨[(.array .byte), .int, .int], some .int⟩) rfl (by decide) (by decide) (by decide) (by decide)) <| ag_cons (okStat (W := 6) hx hZ (says3 l hsg hw) hown (hw _ (List.mem_of_getElem? (i := 9) rfl)) (hw _ (List.mem_of_getElem? (i := 10) rfl)) (hw _ (List.mem_of_getElem? (i := 11) rfl)) (hw _ (List.mem_of_getElem? (i := 12) rfl)) (by decide) (by decide +kernel : parseMethodDescriptor "([BI)Z" = some ⟨[(.array .byte), .int], some .boolean⟩) rfl (by decide) (by decide) (by decide) (by decide)) <| ag_nil
theorem f2_in {x0 : Nat} {x1 : Int32} {x2 : Int32} {H : AH} : F2 [.ref x0, .int x1, .int x2] H = orun method_4_code (Option.some Jvm.ClassFile.FieldType.int) E2 0 320 (0, [.val (.ref x0), .val (.int x1), .val (.int x2), .unset, .unset, .unset, .unset, .unset], [], H, 0, 0) := rfl
theorem s2_0 {n cs ss : Nat} {L : List Slot} {S : List Value} {H : AH} : orun method_4_code (Option.some Jvm.ClassFile.FieldType.int) E2 0 (n + 1) (0, L, S, H, cs, ss) = (gA L 0).bind fun v => orun method_4_code (Option.some Jvm.ClassFile.FieldType.int) E2 0 n (1, L, v :: S, H, cs, ss) := s_any k2_0
theorem s2_1 {n cs ss : Nat} {L : List Slot} {S : List Value} {H : AH} : orun method_4_code (Option.some Jvm.ClassFile.FieldType.int) E2 0 (n + 1) (1, L, S, H, cs, ss) = (gI L 2).bind fun v => orun method_4_code (Option.some Jvm.ClassFile.FieldType.int) E2 0 n (2, L, .int v :: S, H, cs, ss) := s_any k2_1
theorem s2_2 {n cs ss : Nat} {L : List Slot} {S : List Value} {H : AH} : orun method_4_code (Option.some Jvm.ClassFile.FieldType.int) E2 0 (n + 1) (2, L, S, H, cs, ss) = ex (Option.some Jvm.ClassFile.FieldType.int) E2 0 (orun method_4_code (Option.some Jvm.ClassFile.FieldType.int) E2 0 n) (.baload) 2 L S H cs ss := s_any k2_2
theorem s2_3 {n cs ss : Nat} {L : List Slot} {S : List Value} {H : AH} : orun method_4_code (Option.some Jvm.ClassFile.FieldType.int) E2 0 (n + 1) (3, L, S, H, cs, ss) = orun method_4_code (Option.some Jvm.ClassFile.FieldType.int) E2 0 n (6, L, (.int 255 :: S), H, cs, ss) := s_any k2_3
theorem s2_6 {n cs ss : Nat} {L : List Slot} {S : List Value} {H : AH} : orun method_4_code (Option.some Jvm.ClassFile.FieldType.int) E2 0 (n + 1) (6, L, S, H, cs, ss) = pI S fun y S => pI S fun x r => orun method_4_code (Option.some Jvm.ClassFile.FieldType.int) E2 0 n (7, L, .int (x &&& y) :: r, H, cs, ss) := s_any k2_6
theorem s2_7 {n cs ss : Nat} {L : List Slot} {S : List Value} {H : AH} : orun method_4_code (Option.some Jvm.ClassFile.FieldType.int) E2 0 (n + 1) (7, L, S, H, cs, ss) = pI S fun x r => (st1 L 3 (.int x)).bind fun L' => orun method_4_code (Option.some Jvm.ClassFile.FieldType.int) E2 0 n (8, L', r, H, cs, ss) := s_any k2_7
theorem s2_8 {n cs ss : Nat} {L : List Slot} {S : List Value} {H : AH} : orun method_4_code (Option.some Jvm.ClassFile.FieldType.int) E2 0 (n + 1) (8, L, S, H, cs, ss) = (gI L 3).bind fun v => orun method_4_code (Option.some Jvm.ClassFile.FieldType.int) E2 0 n (9, L, .int v :: S, H, cs, ss) := s_any k2_8
theorem s2_9 {n cs ss : Nat} {L : List Slot} {S : List Value} {H : AH} : orun method_4_code (Option.some Jvm.ClassFile.FieldType.int) E2 0 (n + 1) (9, L, S, H, cs, ss) = orun method_4_code (Option.some Jvm.ClassFile.FieldType.int) E2 0 n (12, L, (.int 128 :: S), H, cs, ss) := s_any k2_9
theorem s2_12 {n cs ss : Nat} {L : List Slot} {S : List Value} {H : AH} : orun method_4_code (Option.some Jvm.ClassFile.FieldType.int) E2 0 (n + 1) (12, L, S, H, cs, ss) = pI S fun y S => pI S fun x r => orun method_4_code (Option.some Jvm.ClassFile.FieldType.int) E2 0 n (13, L, .int (x &&& y) :: r, H, cs, ss) := s_any k2_12
theorem s2_13 {n cs ss : Nat} {L : List Slot} {S : List Value} {H : AH} : orun method_4_code (Option.some Jvm.ClassFile.FieldType.int) E2 0 (n + 1) (13, L, S, H, cs, ss) = pI S fun x r => if x = 0 then orun method_4_code (Option.some Jvm.ClassFile.FieldType.int) E2 0 n (16, L, r, H, cs, ss) else orun method_4_code (Option.some Jvm.ClassFile.FieldType.int) E2 0 n (18, L, r, H, cs, ss) := s_ifN (Q := fun x => x = 0) (fun _ => z_ne) k2_13 (by decide) (by decide)
theorem s2_16 {n cs ss : Nat} {L : List Slot} {S : List Value} {H : AH} : orun method_4_code (Option.some Jvm.ClassFile.FieldType.int) E2 0 (n + 1) (16, L, S, H, cs, ss) = orun method_4_code (Option.some Jvm.ClassFile.FieldType.int) E2 0 n (17, L, (.int 1 :: S), H, cs, ss) := s_any k2_16
theorem s2_17 {n cs ss : Nat} {L : List Slot} {S : List Value} {H : AH} : orun method_4_code (Option.some Jvm.ClassFile.FieldType.int) E2 0 (n + 1) (17, L, S, H, cs, ss) = pI S fun z _ => some (some (.int z), H) := s_any k2_17
theorem s2_18 {n cs ss : Nat} {L : List Slot} {S : List Value} {H : AH} : orun method_4_code (Option.some Jvm.ClassFile.FieldType.int) E2 0 (n + 1) (18, L, S, H, cs, ss) = (gI L 3).bind fun v => orun method_4_code (Option.some Jvm.ClassFile.FieldType.int) E2 0 n (19, L, .int v :: S, H, cs, ss) := s_any k2_18
theorem s2_19 {n cs ss : Nat} {L : List Slot} {S : List Value} {H : AH} : orun method_4_code (Option.some Jvm.ClassFile.FieldType.int) E2 0 (n + 1) (19, L, S, H, cs, ss) = orun method_4_code (Option.some Jvm.ClassFile.FieldType.int) E2 0 n (22, L, (.int 224 :: S), H, cs, ss) := s_any k2_19
theorem s2_22 {n cs ss : Nat} {L : List Slot} {S : List Value} {H : AH} : orun method_4_code (Option.some Jvm.ClassFile.FieldType.int) E2 0 (n + 1) (22, L, S, H, cs, ss) = pI S fun y S => pI S fun x r => orun method_4_code (Option.some Jvm.ClassFile.FieldType.int) E2 0 n (23, L, .int (x &&& y) :: r, H, cs, ss) := s_any k2_22
theorem s2_23 {n cs ss : Nat} {L : List Slot} {S : List Value} {H : AH} : orun method_4_code (Option.some Jvm.ClassFile.FieldType.int) E2 0 (n + 1) (23, L, S, H, cs, ss) = orun method_4_code (Option.some Jvm.ClassFile.FieldType.int) E2 0 n (26, L, (.int 192 :: S), H, cs, ss) := s_any k2_23
theorem s2_26 {n cs ss : Nat} {L : List Slot} {S : List Value} {H : AH} : orun method_4_code (Option.some Jvm.ClassFile.FieldType.int) E2 0 (n + 1) (26, L, S, H, cs, ss) = pI S fun y S => pI S fun x r => if x = y then orun method_4_code (Option.some Jvm.ClassFile.FieldType.int) E2 0 n (29, L, r, H, cs, ss) else orun method_4_code (Option.some Jvm.ClassFile.FieldType.int) E2 0 n (41, L, r, H, cs, ss) := s_icmpN (Q := fun x y => x = y) (fun _ _ => h_ne) k2_26 (by decide) (by decide)
theorem s2_29 {n cs ss : Nat} {L : List Slot} {S : List Value} {H : AH} : orun method_4_code (Option.some Jvm.ClassFile.FieldType.int) E2 0 (n + 1) (29, L, S, H, cs, ss) = orun method_4_code (Option.some Jvm.ClassFile.FieldType.int) E2 0 n (30, L, (.int 2 :: S), H, cs, ss) := s_any k2_29
theorem s2_30 {n cs ss : Nat} {L : List Slot} {S : List Value} {H : AH} : orun method_4_code (Option.some Jvm.ClassFile.FieldType.int) E2 0 (n + 1) (30, L, S, H, cs, ss) = pI S fun x r => (st1 L 4 (.int x)).bind fun L' => orun method_4_code (Option.some Jvm.ClassFile.FieldType.int) E2 0 n (32, L', r, H, cs, ss) := s_any k2_30
theorem s2_32 {n cs ss : Nat} {L : List Slot} {S : List Value} {H : AH} : orun method_4_code (Option.some Jvm.ClassFile.FieldType.int) E2 0 (n + 1) (32, L, S, H, cs, ss) = (gI L 3).bind fun v => orun method_4_code (Option.some Jvm.ClassFile.FieldType.int) E2 0 n (33, L, .int v :: S, H, cs, ss) := s_any k2_32
theorem s2_33 {n cs ss : Nat} {L : List Slot} {S : List Value} {H : AH} : orun method_4_code (Option.some Jvm.ClassFile.FieldType.int) E2 0 (n + 1) (33, L, S, H, cs, ss) = orun method_4_code (Option.some Jvm.ClassFile.FieldType.int) E2 0 n (35, L, (.int 31 :: S), H, cs, ss) := s_any k2_33
theorem s2_35 {n cs ss : Nat} {L : List Slot} {S : List Value} {H : AH} : orun method_4_code (Option.some Jvm.ClassFile.FieldType.int) E2 0 (n + 1) (35, L, S, H, cs, ss) = pI S fun y S => pI S fun x r => orun method_4_code (Option.some Jvm.ClassFile.FieldType.int) E2 0 n (36, L, .int (x &&& y) :: r, H, cs, ss) := s_any k2_35
theorem s2_36 {n cs ss : Nat} {L : List Slot} {S : List Value} {H : AH} : orun method_4_code (Option.some Jvm.ClassFile.FieldType.int) E2 0 (n + 1) (36, L, S, H, cs, ss) = pI S fun x r => (st1 L 5 (.int x)).bind fun L' => orun method_4_code (Option.some Jvm.ClassFile.FieldType.int) E2 0 n (38, L', r, H, cs, ss) := s_any k2_36
theorem s2_38 {n cs ss : Nat} {L : List Slot} {S : List Value} {H : AH} : orun method_4_code (Option.some Jvm.ClassFile.FieldType.int) E2 0 (n + 1) (38, L, S, H, cs, ss) = orun method_4_code (Option.some Jvm.ClassFile.FieldType.int) E2 0 n (89, L, S, H, cs, ss) := s_goto k2_38 (by decide) (by decide)
theorem s2_41 {n cs ss : Nat} {L : List Slot} {S : List Value} {H : AH} : orun method_4_code (Option.some Jvm.ClassFile.FieldType.int) E2 0 (n + 1) (41, L, S, H, cs, ss) = (gI L 3).bind fun v => orun method_4_code (Option.some Jvm.ClassFile.FieldType.int) E2 0 n (42, L, .int v :: S, H, cs, ss) := s_any k2_41
theorem s2_42 {n cs ss : Nat} {L : List Slot} {S : List Value} {H : AH} : orun method_4_code (Option.some Jvm.ClassFile.FieldType.int) E2 0 (n + 1) (42, L, S, H, cs, ss) = orun method_4_code (Option.some Jvm.ClassFile.FieldType.int) E2 0 n (45, L, (.int 240 :: S), H, cs, ss) := s_any k2_42
theorem s2_45 {n cs ss : Nat} {L : List Slot} {S : List Value} {H : AH} : orun method_4_code (Option.some Jvm.ClassFile.FieldType.int) E2 0 (n + 1) (45, L, S, H, cs, ss) = pI S fun y S => pI S fun x r => orun method_4_code (Option.some Jvm.ClassFile.FieldType.int) E2 0 n (46, L, .int (x &&& y) :: r, H, cs, ss) := s_any k2_45
theorem s2_46 {n cs ss : Nat} {L : List Slot} {S : List Value} {H : AH} : orun method_4_code (Option.some Jvm.ClassFile.FieldType.int) E2 0 (n + 1) (46, L, S, H, cs, ss) = orun method_4_code (Option.some Jvm.ClassFile.FieldType.int) E2 0 n (49, L, (.int 224 :: S), H, cs, ss) := s_any k2_46
theorem s2_49 {n cs ss : Nat} {L : List Slot} {S : List Value} {H : AH} : orun method_4_code (Option.some Jvm.ClassFile.FieldType.int) E2 0 (n + 1) (49, L, S, H, cs, ss) = pI S fun y S => pI S fun x r => if x = y then orun method_4_code (Option.some Jvm.ClassFile.FieldType.int) E2 0 n (52, L, r, H, cs, ss) else orun method_4_code (Option.some Jvm.ClassFile.FieldType.int) E2 0 n (64, L, r, H, cs, ss) := s_icmpN (Q := fun x y => x = y) (fun _ _ => h_ne) k2_49 (by decide) (by decide)
theorem s2_52 {n cs ss : Nat} {L : List Slot} {S : List Value} {H : AH} : orun method_4_code (Option.some Jvm.ClassFile.FieldType.int) E2 0 (n + 1) (52, L, S, H, cs, ss) = orun method_4_code (Option.some Jvm.ClassFile.FieldType.int) E2 0 n (53, L, (.int 3 :: S), H, cs, ss) := s_any k2_52
theorem s2_53 {n cs ss : Nat} {L : List Slot} {S : List Value} {H : AH} : orun method_4_code (Option.some Jvm.ClassFile.FieldType.int) E2 0 (n + 1) (53, L, S, H, cs, ss) = pI S fun x r => (st1 L 4 (.int x)).bind fun L' => orun method_4_code (Option.some Jvm.ClassFile.FieldType.int) E2 0 n (55, L', r, H, cs, ss) := s_any k2_53
theorem s2_55 {n cs ss : Nat} {L : List Slot} {S : List Value} {H : AH} : orun method_4_code (Option.some Jvm.ClassFile.FieldType.int) E2 0 (n + 1) (55, L, S, H, cs, ss) = (gI L 3).bind fun v => orun method_4_code (Option.some Jvm.ClassFile.FieldType.int) E2 0 n (56, L, .int v :: S, H, cs, ss) := s_any k2_55
theorem s2_56 {n cs ss : Nat} {L : List Slot} {S : List Value} {H : AH} : orun method_4_code (Option.some Jvm.ClassFile.FieldType.int) E2 0 (n + 1) (56, L, S, H, cs, ss) = orun method_4_code (Option.some Jvm.ClassFile.FieldType.int) E2 0 n (58, L, (.int 15 :: S), H, cs, ss) := s_any k2_56
theorem s2_58 {n cs ss : Nat} {L : List Slot} {S : List Value} {H : AH} : orun method_4_code (Option.some Jvm.ClassFile.FieldType.int) E2 0 (n + 1) (58, L, S, H, cs, ss) = pI S fun y S => pI S fun x r => orun method_4_code (Option.some Jvm.ClassFile.FieldType.int) E2 0 n (59, L, .int (x &&& y) :: r, H, cs, ss) := s_any k2_58
theorem s2_59 {n cs ss : Nat} {L : List Slot} {S : List Value} {H : AH} : orun method_4_code (Option.some Jvm.ClassFile.FieldType.int) E2 0 (n + 1) (59, L, S, H, cs, ss) = pI S fun x r => (st1 L 5 (.int x)).bind fun L' => orun method_4_code (Option.some Jvm.ClassFile.FieldType.int) E2 0 n (61, L', r, H, cs, ss) := s_any k2_59
theorem s2_61 {n cs ss : Nat} {L : List Slot} {S : List Value} {H : AH} : orun method_4_code (Option.some Jvm.ClassFile.FieldType.int) E2 0 (n + 1) (61, L, S, H, cs, ss) = orun method_4_code (Option.some Jvm.ClassFile.FieldType.int) E2 0 n (89, L, S, H, cs, ss) := s_goto k2_61 (by decide) (by decide)
theorem s2_64 {n cs ss : Nat} {L : List Slot} {S : List Value} {H : AH} : orun method_4_code (Option.some Jvm.ClassFile.FieldType.int) E2 0 (n + 1) (64, L, S, H, cs, ss) = (gI L 3).bind fun v => orun method_4_code (Option.some Jvm.ClassFile.FieldType.int) E2 0 n (65, L, .int v :: S, H, cs, ss) := s_any k2_64
theorem s2_65 {n cs ss : Nat} {L : List Slot} {S : List Value} {H : AH} : orun method_4_code (Option.some Jvm.ClassFile.FieldType.int) E2 0 (n + 1) (65, L, S, H, cs, ss) = orun method_4_code (Option.some Jvm.ClassFile.FieldType.int) E2 0 n (68, L, (.int 248 :: S), H, cs, ss) := s_any k2_65
theorem s2_68 {n cs ss : Nat} {L : List Slot} {S : List Value} {H : AH} : orun method_4_code (Option.some Jvm.ClassFile.FieldType.int) E2 0 (n + 1) (68, L, S, H, cs, ss) = pI S fun y S => pI S fun x r => orun method_4_code (Option.some Jvm.ClassFile.FieldType.int) E2 0 n (69, L, .int (x &&& y) :: r, H, cs, ss) := s_any k2_68
theorem s2_69 {n cs ss : Nat} {L : List Slot} {S : List Value} {H : AH} : orun method_4_code (Option.some Jvm.ClassFile.FieldType.int) E2 0 (n + 1) (69, L, S, H, cs, ss) = orun method_4_code (Option.some Jvm.ClassFile.FieldType.int) E2 0 n (72, L, (.int 240 :: S), H, cs, ss) := s_any k2_69
theorem s2_72 {n cs ss : Nat} {L : List Slot} {S : List Value} {H : AH} : orun method_4_code (Option.some Jvm.ClassFile.FieldType.int) E2 0 (n + 1) (72, L, S, H, cs, ss) = pI S fun y S => pI S fun x r => if x = y then orun method_4_code (Option.some Jvm.ClassFile.FieldType.int) E2 0 n (75, L, r, H, cs, ss) else orun method_4_code (Option.some Jvm.ClassFile.FieldType.int) E2 0 n (87, L, r, H, cs, ss) := s_icmpN (Q := fun x y => x = y) (fun _ _ => h_ne) k2_72 (by decide) (by decide)
theorem s2_75 {n cs ss : Nat} {L : List Slot} {S : List Value} {H : AH} : orun method_4_code (Option.some Jvm.ClassFile.FieldType.int) E2 0 (n + 1) (75, L, S, H, cs, ss) = orun method_4_code (Option.some Jvm.ClassFile.FieldType.int) E2 0 n (76, L, (.int 4 :: S), H, cs, ss) := s_any k2_75
theorem s2_76 {n cs ss : Nat} {L : List Slot} {S : List Value} {H : AH} : orun method_4_code (Option.some Jvm.ClassFile.FieldType.int) E2 0 (n + 1) (76, L, S, H, cs, ss) = pI S fun x r => (st1 L 4 (.int x)).bind fun L' => orun method_4_code (Option.some Jvm.ClassFile.FieldType.int) E2 0 n (78, L', r, H, cs, ss) := s_any k2_76
theorem s2_78 {n cs ss : Nat} {L : List Slot} {S : List Value} {H : AH} : orun method_4_code (Option.some Jvm.ClassFile.FieldType.int) E2 0 (n + 1) (78, L, S, H, cs, ss) = (gI L 3).bind fun v => orun method_4_code (Option.some Jvm.ClassFile.FieldType.int) E2 0 n (79, L, .int v :: S, H, cs, ss) := s_any k2_78
theorem s2_79 {n cs ss : Nat} {L : List Slot} {S : List Value} {H : AH} : orun method_4_code (Option.some Jvm.ClassFile.FieldType.int) E2 0 (n + 1) (79, L, S, H, cs, ss) = orun method_4_code (Option.some Jvm.ClassFile.FieldType.int) E2 0 n (81, L, (.int 7 :: S), H, cs, ss) := s_any k2_79
theorem s2_81 {n cs ss : Nat} {L : List Slot} {S : List Value} {H : AH} : orun method_4_code (Option.some Jvm.ClassFile.FieldType.int) E2 0 (n + 1) (81, L, S, H, cs, ss) = pI S fun y S => pI S fun x r => orun method_4_code (Option.some Jvm.ClassFile.FieldType.int) E2 0 n (82, L, .int (x &&& y) :: r, H, cs, ss) := s_any k2_81
theorem s2_82 {n cs ss : Nat} {L : List Slot} {S : List Value} {H : AH} : orun method_4_code (Option.some Jvm.ClassFile.FieldType.int) E2 0 (n + 1) (82, L, S, H, cs, ss) = pI S fun x r => (st1 L 5 (.int x)).bind fun L' => orun method_4_code (Option.some Jvm.ClassFile.FieldType.int) E2 0 n (84, L', r, H, cs, ss) := s_any k2_82
theorem s2_84 {n cs ss : Nat} {L : List Slot} {S : List Value} {H : AH} : orun method_4_code (Option.some Jvm.ClassFile.FieldType.int) E2 0 (n + 1) (84, L, S, H, cs, ss) = orun method_4_code (Option.some Jvm.ClassFile.FieldType.int) E2 0 n (89, L, S, H, cs, ss) := s_goto k2_84 (by decide) (by decide)
theorem s2_87 {n cs ss : Nat} {L : List Slot} {S : List Value} {H : AH} : orun method_4_code (Option.some Jvm.ClassFile.FieldType.int) E2 0 (n + 1) (87, L, S, H, cs, ss) = orun method_4_code (Option.some Jvm.ClassFile.FieldType.int) E2 0 n (88, L, (.int (-1) :: S), H, cs, ss) := s_any k2_87
theorem s2_88 {n cs ss : Nat} {L : List Slot} {S : List Value} {H : AH} : orun method_4_code (Option.some Jvm.ClassFile.FieldType.int) E2 0 (n + 1) (88, L, S, H, cs, ss) = pI S fun z _ => some (some (.int z), H) := s_any k2_88
theorem s2_89 {n cs ss : Nat} {L : List Slot} {S : List Value} {H : AH} : orun method_4_code (Option.some Jvm.ClassFile.FieldType.int) E2 0 (n + 1) (89, L, S, H, cs, ss) = (gI L 1).bind fun v => orun method_4_code (Option.some Jvm.ClassFile.FieldType.int) E2 0 n (90, L, .int v :: S, H, cs, ss) := s_any k2_89
theorem s2_90 {n cs ss : Nat} {L : List Slot} {S : List Value} {H : AH} : orun method_4_code (Option.some Jvm.ClassFile.FieldType.int) E2 0 (n + 1) (90, L, S, H, cs, ss) = (gI L 2).bind fun v => orun method_4_code (Option.some Jvm.ClassFile.FieldType.int) E2 0 n (91, L, .int v :: S, H, cs, ss) := s_any k2_90
theorem s2_91 {n cs ss : Nat} {L : List Slot} {S : List Value} {H : AH} : orun method_4_code (Option.some Jvm.ClassFile.FieldType.int) E2 0 (n + 1) (91, L, S, H, cs, ss) = pI S fun y S => pI S fun x r => orun method_4_code (Option.some Jvm.ClassFile.FieldType.int) E2 0 n (92, L, .int (x - y) :: r, H, cs, ss) := s_any k2_91
theorem s2_92 {n cs ss : Nat} {L : List Slot} {S : List Value} {H : AH} : orun method_4_code (Option.some Jvm.ClassFile.FieldType.int) E2 0 (n + 1) (92, L, S, H, cs, ss) = (gI L 4).bind fun v => orun method_4_code (Option.some Jvm.ClassFile.FieldType.int) E2 0 n (94, L, .int v :: S, H, cs, ss) := s_any k2_92
theorem s2_94 {n cs ss : Nat} {L : List Slot} {S : List Value} {H : AH} : orun method_4_code (Option.some Jvm.ClassFile.FieldType.int) E2 0 (n + 1) (94, L, S, H, cs, ss) = pI S fun y S => pI S fun x r => if x < y then orun method_4_code (Option.some Jvm.ClassFile.FieldType.int) E2 0 n (97, L, r, H, cs, ss) else orun method_4_code (Option.some Jvm.ClassFile.FieldType.int) E2 0 n (99, L, r, H, cs, ss) := s_icmpN (Q := fun x y => x < y) (fun _ _ => h_ge) k2_94 (by decide) (by decide)
theorem s2_97 {n cs ss : Nat} {L : List Slot} {S : List Value} {H : AH} : orun method_4_code (Option.some Jvm.ClassFile.FieldType.int) E2 0 (n + 1) (97, L, S, H, cs, ss) = orun method_4_code (Option.some Jvm.ClassFile.FieldType.int) E2 0 n (98, L, (.int (-1) :: S), H, cs, ss) := s_any k2_97
theorem s2_98 {n cs ss : Nat} {L : List Slot} {S : List Value} {H : AH} : orun method_4_code (Option.some Jvm.ClassFile.FieldType.int) E2 0 (n + 1) (98, L, S, H, cs, ss) = pI S fun z _ => some (some (.int z), H) := s_any k2_98
theorem s2_99 {n cs ss : Nat} {L : List Slot} {S : List Value} {H : AH} : orun method_4_code (Option.some Jvm.ClassFile.FieldType.int) E2 0 (n + 1) (99, L, S, H, cs, ss) = (gA L 0).bind fun v => orun method_4_code (Option.some Jvm.ClassFile.FieldType.int) E2 0 n (100, L, v :: S, H, cs, ss) := s_any k2_99
theorem s2_100 {n cs ss : Nat} {L : List Slot} {S : List Value} {H : AH} : orun method_4_code (Option.some Jvm.ClassFile.FieldType.int) E2 0 (n + 1) (100, L, S, H, cs, ss) = (gI L 2).bind fun v => orun method_4_code (Option.some Jvm.ClassFile.FieldType.int) E2 0 n (101, L, .int v :: S, H, cs, ss) := s_any k2_100
theorem s2_101 {n cs ss : Nat} {L : List Slot} {S : List Value} {H : AH} : orun method_4_code (Option.some Jvm.ClassFile.FieldType.int) E2 0 (n + 1) (101, L, S, H, cs, ss) = orun method_4_code (Option.some Jvm.ClassFile.FieldType.int) E2 0 n (102, L, (.int 1 :: S), H, cs, ss) := s_any k2_101
theorem s2_102 {n cs ss : Nat} {L : List Slot} {S : List Value} {H : AH} : orun method_4_code (Option.some Jvm.ClassFile.FieldType.int) E2 0 (n + 1) (102, L, S, H, cs, ss) = pI S fun y S => pI S fun x r => orun method_4_code (Option.some Jvm.ClassFile.FieldType.int) E2 0 n (103, L, .int (x + y) :: r, H, cs, ss) := s_any k2_102
theorem s2_103 {n cs ss : Nat} {L : List Slot} {S : List Value} {H : AH} : orun method_4_code (Option.some Jvm.ClassFile.FieldType.int) E2 0 (n + 1) (103, L, S, H, cs, ss) = ex (Option.some Jvm.ClassFile.FieldType.int) E2 0 (orun method_4_code (Option.some Jvm.ClassFile.FieldType.int) E2 0 n) (.baload) 103 L S H cs ss := s_any k2_103
theorem s2_104 {n cs ss : Nat} {L : List Slot} {S : List Value} {H : AH} : orun method_4_code (Option.some Jvm.ClassFile.FieldType.int) E2 0 (n + 1) (104, L, S, H, cs, ss) = orun method_4_code (Option.some Jvm.ClassFile.FieldType.int) E2 0 n (107, L, (.int 255 :: S), H, cs, ss) := s_any k2_104
theorem s2_107 {n cs ss : Nat} {L : List Slot} {S : List Value} {H : AH} : orun method_4_code (Option.some Jvm.ClassFile.FieldType.int) E2 0 (n + 1) (107, L, S, H, cs, ss) = pI S fun y S => pI S fun x r => orun method_4_code (Option.some Jvm.ClassFile.FieldType.int) E2 0 n (108, L, .int (x &&& y) :: r, H, cs, ss) := s_any k2_107
theorem s2_108 {n cs ss : Nat} {L : List Slot} {S : List Value} {H : AH} : orun method_4_code (Option.some Jvm.ClassFile.FieldType.int) E2 0 (n + 1) (108, L, S, H, cs, ss) = pI S fun x r => (st1 L 6 (.int x)).bind fun L' => orun method_4_code (Option.some Jvm.ClassFile.FieldType.int) E2 0 n (110, L', r, H, cs, ss) := s_any k2_108
theorem s2_110 {n cs ss : Nat} {L : List Slot} {S : List Value} {H : AH} : orun method_4_code (Option.some Jvm.ClassFile.FieldType.int) E2 0 (n + 1) (110, L, S, H, cs, ss) = (gI L 6).bind fun v => orun method_4_code (Option.some Jvm.ClassFile.FieldType.int) E2 0 n (112, L, .int v :: S, H, cs, ss) := s_any k2_110
theorem s2_112 {n cs ss : Nat} {L : List Slot} {S : List Value} {H : AH} : orun method_4_code (Option.some Jvm.ClassFile.FieldType.int) E2 0 (n + 1) (112, L, S, H, cs, ss) = orun method_4_code (Option.some Jvm.ClassFile.FieldType.int) E2 0 n (115, L, (.int 192 :: S), H, cs, ss) := s_any k2_112
theorem s2_115 {n cs ss : Nat} {L : List Slot} {S : List Value} {H : AH} : orun method_4_code (Option.some Jvm.ClassFile.FieldType.int) E2 0 (n + 1) (115, L, S, H, cs, ss) = pI S fun y S => pI S fun x r => orun method_4_code (Option.some Jvm.ClassFile.FieldType.int) E2 0 n (116, L, .int (x &&& y) :: r, H, cs, ss) := s_any k2_115
theorem s2_116 {n cs ss : Nat} {L : List Slot} {S : List Value} {H : AH} : orun method_4_code (Option.some Jvm.ClassFile.FieldType.int) E2 0 (n + 1) (116, L, S, H, cs, ss) = orun method_4_code (Option.some Jvm.ClassFile.FieldType.int) E2 0 n (119, L, (.int 128 :: S), H, cs, ss) := s_any k2_116
theorem s2_119 {n cs ss : Nat} {L : List Slot} {S : List Value} {H : AH} : orun method_4_code (Option.some Jvm.ClassFile.FieldType.int) E2 0 (n + 1) (119, L, S, H, cs, ss) = pI S fun y S => pI S fun x r => if x = y then orun method_4_code (Option.some Jvm.ClassFile.FieldType.int) E2 0 n (124, L, r, H, cs, ss) else orun method_4_code (Option.some Jvm.ClassFile.FieldType.int) E2 0 n (122, L, r, H, cs, ss) := s_icmp (Q := fun x y => x = y) (fun _ _ => h_eq) k2_119 (by decide) (by decide)
theorem s2_122 {n cs ss : Nat} {L : List Slot} {S : List Value} {H : AH} : orun method_4_code (Option.some Jvm.ClassFile.FieldType.int) E2 0 (n + 1) (122, L, S, H, cs, ss) = orun method_4_code (Option.some Jvm.ClassFile.FieldType.int) E2 0 n (123, L, (.int (-1) :: S), H, cs, ss) := s_any k2_122
theorem s2_123 {n cs ss : Nat} {L : List Slot} {S : List Value} {H : AH} : orun method_4_code (Option.some Jvm.ClassFile.FieldType.int) E2 0 (n + 1) (123, L, S, H, cs, ss) = pI S fun z _ => some (some (.int z), H) := s_any k2_123
theorem s2_124 {n cs ss : Nat} {L : List Slot} {S : List Value} {H : AH} : orun method_4_code (Option.some Jvm.ClassFile.FieldType.int) E2 0 (n + 1) (124, L, S, H, cs, ss) = (gI L 5).bind fun v => orun method_4_code (Option.some Jvm.ClassFile.FieldType.int) E2 0 n (126, L, .int v :: S, H, cs, ss) := s_any k2_124
theorem s2_126 {n cs ss : Nat} {L : List Slot} {S : List Value} {H : AH} : orun method_4_code (Option.some Jvm.ClassFile.FieldType.int) E2 0 (n + 1) (126, L, S, H, cs, ss) = orun method_4_code (Option.some Jvm.ClassFile.FieldType.int) E2 0 n (128, L, (.int 6 :: S), H, cs, ss) := s_any k2_126
theorem s2_128 {n cs ss : Nat} {L : List Slot} {S : List Value} {H : AH} : orun method_4_code (Option.some Jvm.ClassFile.FieldType.int) E2 0 (n + 1) (128, L, S, H, cs, ss) = ex (Option.some Jvm.ClassFile.FieldType.int) E2 0 (orun method_4_code (Option.some Jvm.ClassFile.FieldType.int) E2 0 n) (.ishl) 128 L S H cs ss := s_any k2_128
theorem s2_129 {n cs ss : Nat} {L : List Slot} {S : List Value} {H : AH} : orun method_4_code (Option.some Jvm.ClassFile.FieldType.int) E2 0 (n + 1) (129, L, S, H, cs, ss) = (gI L 6).bind fun v => orun method_4_code (Option.some Jvm.ClassFile.FieldType.int) E2 0 n (131, L, .int v :: S, H, cs, ss) := s_any k2_129
theorem s2_131 {n cs ss : Nat} {L : List Slot} {S : List Value} {H : AH} : orun method_4_code (Option.some Jvm.ClassFile.FieldType.int) E2 0 (n + 1) (131, L, S, H, cs, ss) = orun method_4_code (Option.some Jvm.ClassFile.FieldType.int) E2 0 n (133, L, (.int 63 :: S), H, cs, ss) := s_any k2_131
theorem s2_133 {n cs ss : Nat} {L : List Slot} {S : List Value} {H : AH} : orun method_4_code (Option.some Jvm.ClassFile.FieldType.int) E2 0 (n + 1) (133, L, S, H, cs, ss) = pI S fun y S => pI S fun x r => orun method_4_code (Option.some Jvm.ClassFile.FieldType.int) E2 0 n (134, L, .int (x &&& y) :: r, H, cs, ss) := s_any k2_133
theorem s2_134 {n cs ss : Nat} {L : List Slot} {S : List Value} {H : AH} : orun method_4_code (Option.some Jvm.ClassFile.FieldType.int) E2 0 (n + 1) (134, L, S, H, cs, ss) = pI S fun y S => pI S fun x r => orun method_4_code (Option.some Jvm.ClassFile.FieldType.int) E2 0 n (135, L, .int (x ||| y) :: r, H, cs, ss) := s_any k2_134
theorem s2_135 {n cs ss : Nat} {L : List Slot} {S : List Value} {H : AH} : orun method_4_code (Option.some Jvm.ClassFile.FieldType.int) E2 0 (n + 1) (135, L, S, H, cs, ss) = pI S fun x r => (st1 L 5 (.int x)).bind fun L' => orun method_4_code (Option.some Jvm.ClassFile.FieldType.int) E2 0 n (137, L', r, H, cs, ss) := s_any k2_135
theorem s2_137 {n cs ss : Nat} {L : List Slot} {S : List Value} {H : AH} : orun method_4_code (Option.some Jvm.ClassFile.FieldType.int) E2 0 (n + 1) (137, L, S, H, cs, ss) = (gI L 4).bind fun v => orun method_4_code (Option.some Jvm.ClassFile.FieldType.int) E2 0 n (139, L, .int v :: S, H, cs, ss) := s_any k2_137
theorem s2_139 {n cs ss : Nat} {L : List Slot} {S : List Value} {H : AH} : orun method_4_code (Option.some Jvm.ClassFile.FieldType.int) E2 0 (n + 1) (139, L, S, H, cs, ss) = orun method_4_code (Option.some Jvm.ClassFile.FieldType.int) E2 0 n (140, L, (.int 3 :: S), H, cs, ss) := s_any k2_139
theorem s2_140 {n cs ss : Nat} {L : List Slot} {S : List Value} {H : AH} : orun method_4_code (Option.some Jvm.ClassFile.FieldType.int) E2 0 (n + 1) (140, L, S, H, cs, ss) = pI S fun y S => pI S fun x r => if x < y then orun method_4_code (Option.some Jvm.ClassFile.FieldType.int) E2 0 n (181, L, r, H, cs, ss) else orun method_4_code (Option.some Jvm.ClassFile.FieldType.int) E2 0 n (143, L, r, H, cs, ss) := s_icmp (Q := fun x y => x < y) (fun _ _ => h_lt) k2_140 (by decide) (by decide)
theorem s2_143 {n cs ss : Nat} {L : List Slot} {S : List Value} {H : AH} : orun method_4_code (Option.some Jvm.ClassFile.FieldType.int) E2 0 (n + 1) (143, L, S, H, cs, ss) = (gA L 0).bind fun v => orun method_4_code (Option.some Jvm.ClassFile.FieldType.int) E2 0 n (144, L, v :: S, H, cs, ss) := s_any k2_143
theorem s2_144 {n cs ss : Nat} {L : List Slot} {S : List Value} {H : AH} : orun method_4_code (Option.some Jvm.ClassFile.FieldType.int) E2 0 (n + 1) (144, L, S, H, cs, ss) = (gI L 2).bind fun v => orun method_4_code (Option.some Jvm.ClassFile.FieldType.int) E2 0 n (145, L, .int v :: S, H, cs, ss) := s_any k2_144
theorem s2_145 {n cs ss : Nat} {L : List Slot} {S : List Value} {H : AH} : orun method_4_code (Option.some Jvm.ClassFile.FieldType.int) E2 0 (n + 1) (145, L, S, H, cs, ss) = orun method_4_code (Option.some Jvm.ClassFile.FieldType.int) E2 0 n (146, L, (.int 2 :: S), H, cs, ss) := s_any k2_145
theorem s2_146 {n cs ss : Nat} {L : List Slot} {S : List Value} {H : AH} : orun method_4_code (Option.some Jvm.ClassFile.FieldType.int) E2 0 (n + 1) (146, L, S, H, cs, ss) = pI S fun y S => pI S fun x r => orun method_4_code (Option.some Jvm.ClassFile.FieldType.int) E2 0 n (147, L, .int (x + y) :: r, H, cs, ss) := s_any k2_146
theorem s2_147 {n cs ss : Nat} {L : List Slot} {S : List Value} {H : AH} : orun method_4_code (Option.some Jvm.ClassFile.FieldType.int) E2 0 (n + 1) (147, L, S, H, cs, ss) = ex (Option.some Jvm.ClassFile.FieldType.int) E2 0 (orun method_4_code (Option.some Jvm.ClassFile.FieldType.int) E2 0 n) (.baload) 147 L S H cs ss := s_any k2_147
theorem s2_148 {n cs ss : Nat} {L : List Slot} {S : List Value} {H : AH} : orun method_4_code (Option.some Jvm.ClassFile.FieldType.int) E2 0 (n + 1) (148, L, S, H, cs, ss) = orun method_4_code (Option.some Jvm.ClassFile.FieldType.int) E2 0 n (151, L, (.int 255 :: S), H, cs, ss) := s_any k2_148
theorem s2_151 {n cs ss : Nat} {L : List Slot} {S : List Value} {H : AH} : orun method_4_code (Option.some Jvm.ClassFile.FieldType.int) E2 0 (n + 1) (151, L, S, H, cs, ss) = pI S fun y S => pI S fun x r => orun method_4_code (Option.some Jvm.ClassFile.FieldType.int) E2 0 n (152, L, .int (x &&& y) :: r, H, cs, ss) := s_any k2_151
theorem s2_152 {n cs ss : Nat} {L : List Slot} {S : List Value} {H : AH} : orun method_4_code (Option.some Jvm.ClassFile.FieldType.int) E2 0 (n + 1) (152, L, S, H, cs, ss) = pI S fun x r => (st1 L 7 (.int x)).bind fun L' => orun method_4_code (Option.some Jvm.ClassFile.FieldType.int) E2 0 n (154, L', r, H, cs, ss) := s_any k2_152
theorem s2_154 {n cs ss : Nat} {L : List Slot} {S : List Value} {H : AH} : orun method_4_code (Option.some Jvm.ClassFile.FieldType.int) E2 0 (n + 1) (154, L, S, H, cs, ss) = (gI L 7).bind fun v => orun method_4_code (Option.some Jvm.ClassFile.FieldType.int) E2 0 n (156, L, .int v :: S, H, cs, ss) := s_any k2_154
theorem s2_156 {n cs ss : Nat} {L : List Slot} {S : List Value} {H : AH} : orun method_4_code (Option.some Jvm.ClassFile.FieldType.int) E2 0 (n + 1) (156, L, S, H, cs, ss) = orun method_4_code (Option.some Jvm.ClassFile.FieldType.int) E2 0 n (159, L, (.int 192 :: S), H, cs, ss) := s_any k2_156
theorem s2_159 {n cs ss : Nat} {L : List Slot} {S : List Value} {H : AH} : orun method_4_code (Option.some Jvm.ClassFile.FieldType.int) E2 0 (n + 1) (159, L, S, H, cs, ss) = pI S fun y S => pI S fun x r => orun method_4_code (Option.some Jvm.ClassFile.FieldType.int) E2 0 n (160, L, .int (x &&& y) :: r, H, cs, ss) := s_any k2_159
theorem s2_160 {n cs ss : Nat} {L : List Slot} {S : List Value} {H : AH} : orun method_4_code (Option.some Jvm.ClassFile.FieldType.int) E2 0 (n + 1) (160, L, S, H, cs, ss) = orun method_4_code (Option.some Jvm.ClassFile.FieldType.int) E2 0 n (163, L, (.int 128 :: S), H, cs, ss) := s_any k2_160
theorem s2_163 {n cs ss : Nat} {L : List Slot} {S : List Value} {H : AH} : orun method_4_code (Option.some Jvm.ClassFile.FieldType.int) E2 0 (n + 1) (163, L, S, H, cs, ss) = pI S fun y S => pI S fun x r => if x = y then orun method_4_code (Option.some Jvm.ClassFile.FieldType.int) E2 0 n (168, L, r, H, cs, ss) else orun method_4_code (Option.some Jvm.ClassFile.FieldType.int) E2 0 n (166, L, r, H, cs, ss) := s_icmp (Q := fun x y => x = y) (fun _ _ => h_eq) k2_163 (by decide) (by decide)
theorem s2_166 {n cs ss : Nat} {L : List Slot} {S : List Value} {H : AH} : orun method_4_code (Option.some Jvm.ClassFile.FieldType.int) E2 0 (n + 1) (166, L, S, H, cs, ss) = orun method_4_code (Option.some Jvm.ClassFile.FieldType.int) E2 0 n (167, L, (.int (-1) :: S), H, cs, ss) := s_any k2_166
theorem s2_167 {n cs ss : Nat} {L : List Slot} {S : List Value} {H : AH} : orun method_4_code (Option.some Jvm.ClassFile.FieldType.int) E2 0 (n + 1) (167, L, S, H, cs, ss) = pI S fun z _ => some (some (.int z), H) := s_any k2_167
theorem s2_168 {n cs ss : Nat} {L : List Slot} {S : List Value} {H : AH} : orun method_4_code (Option.some Jvm.ClassFile.FieldType.int) E2 0 (n + 1) (168, L, S, H, cs, ss) = (gI L 5).bind fun v => orun method_4_code (Option.some Jvm.ClassFile.FieldType.int) E2 0 n (170, L, .int v :: S, H, cs, ss) := s_any k2_168
theorem s2_170 {n cs ss : Nat} {L : List Slot} {S : List Value} {H : AH} : orun method_4_code (Option.some Jvm.ClassFile.FieldType.int) E2 0 (n + 1) (170, L, S, H, cs, ss) = orun method_4_code (Option.some Jvm.ClassFile.FieldType.int) E2 0 n (172, L, (.int 6 :: S), H, cs, ss) := s_any k2_170
theorem s2_172 {n cs ss : Nat} {L : List Slot} {S : List Value} {H : AH} : orun method_4_code (Option.some Jvm.ClassFile.FieldType.int) E2 0 (n + 1) (172, L, S, H, cs, ss) = ex (Option.some Jvm.ClassFile.FieldType.int) E2 0 (orun method_4_code (Option.some Jvm.ClassFile.FieldType.int) E2 0 n) (.ishl) 172 L S H cs ss := s_any k2_172
theorem s2_173 {n cs ss : Nat} {L : List Slot} {S : List Value} {H : AH} : orun method_4_code (Option.some Jvm.ClassFile.FieldType.int) E2 0 (n + 1) (173, L, S, H, cs, ss) = (gI L 7).bind fun v => orun method_4_code (Option.some Jvm.ClassFile.FieldType.int) E2 0 n (175, L, .int v :: S, H, cs, ss) := s_any k2_173
theorem s2_175 {n cs ss : Nat} {L : List Slot} {S : List Value} {H : AH} : orun method_4_code (Option.some Jvm.ClassFile.FieldType.int) E2 0 (n + 1) (175, L, S, H, cs, ss) = orun method_4_code (Option.some Jvm.ClassFile.FieldType.int) E2 0 n (177, L, (.int 63 :: S), H, cs, ss) := s_any k2_175
theorem s2_177 {n cs ss : Nat} {L : List Slot} {S : List Value} {H : AH} : orun method_4_code (Option.some Jvm.ClassFile.FieldType.int) E2 0 (n + 1) (177, L, S, H, cs, ss) = pI S fun y S => pI S fun x r => orun method_4_code (Option.some Jvm.ClassFile.FieldType.int) E2 0 n (178, L, .int (x &&& y) :: r, H, cs, ss) := s_any k2_177
theorem s2_178 {n cs ss : Nat} {L : List Slot} {S : List Value} {H : AH} : orun method_4_code (Option.some Jvm.ClassFile.FieldType.int) E2 0 (n + 1) (178, L, S, H, cs, ss) = pI S fun y S => pI S fun x r => orun method_4_code (Option.some Jvm.ClassFile.FieldType.int) E2 0 n (179, L, .int (x ||| y) :: r, H, cs, ss) := s_any k2_178
theorem s2_179 {n cs ss : Nat} {L : List Slot} {S : List Value} {H : AH} : orun method_4_code (Option.some Jvm.ClassFile.FieldType.int) E2 0 (n + 1) (179, L, S, H, cs, ss) = pI S fun x r => (st1 L 5 (.int x)).bind fun L' => orun method_4_code (Option.some Jvm.ClassFile.FieldType.int) E2 0 n (181, L', r, H, cs, ss) := s_any k2_179
theorem s2_181 {n cs ss : Nat} {L : List Slot} {S : List Value} {H : AH} : orun method_4_code (Option.some Jvm.ClassFile.FieldType.int) E2 0 (n + 1) (181, L, S, H, cs, ss) = (gI L 4).bind fun v => orun method_4_code (Option.some Jvm.ClassFile.FieldType.int) E2 0 n (183, L, .int v :: S, H, cs, ss) := s_any k2_181
theorem s2_183 {n cs ss : Nat} {L : List Slot} {S : List Value} {H : AH} : orun method_4_code (Option.some Jvm.ClassFile.FieldType.int) E2 0 (n + 1) (183, L, S, H, cs, ss) = orun method_4_code (Option.some Jvm.ClassFile.FieldType.int) E2 0 n (184, L, (.int 4 :: S), H, cs, ss) := s_any k2_183
theorem s2_184 {n cs ss : Nat} {L : List Slot} {S : List Value} {H : AH} : orun method_4_code (Option.some Jvm.ClassFile.FieldType.int) E2 0 (n + 1) (184, L, S, H, cs, ss) = pI S fun y S => pI S fun x r => if x = y then orun method_4_code (Option.some Jvm.ClassFile.FieldType.int) E2 0 n (187, L, r, H, cs, ss) else orun method_4_code (Option.some Jvm.ClassFile.FieldType.int) E2 0 n (225, L, r, H, cs, ss) := s_icmpN (Q := fun x y => x = y) (fun _ _ => h_ne) k2_184 (by decide) (by decide)
theorem s2_187 {n cs ss : Nat} {L : List Slot} {S : List Value} {H : AH} : orun method_4_code (Option.some Jvm.ClassFile.FieldType.int) E2 0 (n + 1) (187, L, S, H, cs, ss) = (gA L 0).bind fun v => orun method_4_code (Option.some Jvm.ClassFile.FieldType.int) E2 0 n (188, L, v :: S, H, cs, ss) := s_any k2_187
theorem s2_188 {n cs ss : Nat} {L : List Slot} {S : List Value} {H : AH} : orun method_4_code (Option.some Jvm.ClassFile.FieldType.int) E2 0 (n + 1) (188, L, S, H, cs, ss) = (gI L 2).bind fun v => orun method_4_code (Option.some Jvm.ClassFile.FieldType.int) E2 0 n (189, L, .int v :: S, H, cs, ss) := s_any k2_188
theorem s2_189 {n cs ss : Nat} {L : List Slot} {S : List Value} {H : AH} : orun method_4_code (Option.some Jvm.ClassFile.FieldType.int) E2 0 (n + 1) (189, L, S, H, cs, ss) = orun method_4_code (Option.some Jvm.ClassFile.FieldType.int) E2 0 n (190, L, (.int 3 :: S), H, cs, ss) := s_any k2_189
theorem s2_190 {n cs ss : Nat} {L : List Slot} {S : List Value} {H : AH} : orun method_4_code (Option.some Jvm.ClassFile.FieldType.int) E2 0 (n + 1) (190, L, S, H, cs, ss) = pI S fun y S => pI S fun x r => orun method_4_code (Option.some Jvm.ClassFile.FieldType.int) E2 0 n (191, L, .int (x + y) :: r, H, cs, ss) := s_any k2_190
theorem s2_191 {n cs ss : Nat} {L : List Slot} {S : List Value} {H : AH} : orun method_4_code (Option.some Jvm.ClassFile.FieldType.int) E2 0 (n + 1) (191, L, S, H, cs, ss) = ex (Option.some Jvm.ClassFile.FieldType.int) E2 0 (orun method_4_code (Option.some Jvm.ClassFile.FieldType.int) E2 0 n) (.baload) 191 L S H cs ss := s_any k2_191
theorem s2_192 {n cs ss : Nat} {L : List Slot} {S : List Value} {H : AH} : orun method_4_code (Option.some Jvm.ClassFile.FieldType.int) E2 0 (n + 1) (192, L, S, H, cs, ss) = orun method_4_code (Option.some Jvm.ClassFile.FieldType.int) E2 0 n (195, L, (.int 255 :: S), H, cs, ss) := s_any k2_192
theorem s2_195 {n cs ss : Nat} {L : List Slot} {S : List Value} {H : AH} : orun method_4_code (Option.some Jvm.ClassFile.FieldType.int) E2 0 (n + 1) (195, L, S, H, cs, ss) = pI S fun y S => pI S fun x r => orun method_4_code (Option.some Jvm.ClassFile.FieldType.int) E2 0 n (196, L, .int (x &&& y) :: r, H, cs, ss) := s_any k2_195
theorem s2_196 {n cs ss : Nat} {L : List Slot} {S : List Value} {H : AH} : orun method_4_code (Option.some Jvm.ClassFile.FieldType.int) E2 0 (n + 1) (196, L, S, H, cs, ss) = pI S fun x r => (st1 L 7 (.int x)).bind fun L' => orun method_4_code (Option.some Jvm.ClassFile.FieldType.int) E2 0 n (198, L', r, H, cs, ss) := s_any k2_196
theorem s2_198 {n cs ss : Nat} {L : List Slot} {S : List Value} {H : AH} : orun method_4_code (Option.some Jvm.ClassFile.FieldType.int) E2 0 (n + 1) (198, L, S, H, cs, ss) = (gI L 7).bind fun v => orun method_4_code (Option.some Jvm.ClassFile.FieldType.int) E2 0 n (200, L, .int v :: S, H, cs, ss) := s_any k2_198
theorem s2_200 {n cs ss : Nat} {L : List Slot} {S : List Value} {H : AH} : orun method_4_code (Option.some Jvm.ClassFile.FieldType.int) E2 0 (n + 1) (200, L, S, H, cs, ss) = orun method_4_code (Option.some Jvm.ClassFile.FieldType.int) E2 0 n (203, L, (.int 192 :: S), H, cs, ss) := s_any k2_200
theorem s2_203 {n cs ss : Nat} {L : List Slot} {S : List Value} {H : AH} : orun method_4_code (Option.some Jvm.ClassFile.FieldType.int) E2 0 (n + 1) (203, L, S, H, cs, ss) = pI S fun y S => pI S fun x r => orun method_4_code (Option.some Jvm.ClassFile.FieldType.int) E2 0 n (204, L, .int (x &&& y) :: r, H, cs, ss) := s_any k2_203
theorem s2_204 {n cs ss : Nat} {L : List Slot} {S : List Value} {H : AH} : orun method_4_code (Option.some Jvm.ClassFile.FieldType.int) E2 0 (n + 1) (204, L, S, H, cs, ss) = orun method_4_code (Option.some Jvm.ClassFile.FieldType.int) E2 0 n (207, L, (.int 128 :: S), H, cs, ss) := s_any k2_204
theorem s2_207 {n cs ss : Nat} {L : List Slot} {S : List Value} {H : AH} : orun method_4_code (Option.some Jvm.ClassFile.FieldType.int) E2 0 (n + 1) (207, L, S, H, cs, ss) = pI S fun y S => pI S fun x r => if x = y then orun method_4_code (Option.some Jvm.ClassFile.FieldType.int) E2 0 n (212, L, r, H, cs, ss) else orun method_4_code (Option.some Jvm.ClassFile.FieldType.int) E2 0 n (210, L, r, H, cs, ss) := s_icmp (Q := fun x y => x = y) (fun _ _ => h_eq) k2_207 (by decide) (by decide)
theorem s2_210 {n cs ss : Nat} {L : List Slot} {S : List Value} {H : AH} : orun method_4_code (Option.some Jvm.ClassFile.FieldType.int) E2 0 (n + 1) (210, L, S, H, cs, ss) = orun method_4_code (Option.some Jvm.ClassFile.FieldType.int) E2 0 n (211, L, (.int (-1) :: S), H, cs, ss) := s_any k2_210
theorem s2_211 {n cs ss : Nat} {L : List Slot} {S : List Value} {H : AH} : orun method_4_code (Option.some Jvm.ClassFile.FieldType.int) E2 0 (n + 1) (211, L, S, H, cs, ss) = pI S fun z _ => some (some (.int z), H) := s_any k2_211
theorem s2_212 {n cs ss : Nat} {L : List Slot} {S : List Value} {H : AH} : orun method_4_code (Option.some Jvm.ClassFile.FieldType.int) E2 0 (n + 1) (212, L, S, H, cs, ss) = (gI L 5).bind fun v => orun method_4_code (Option.some Jvm.ClassFile.FieldType.int) E2 0 n (214, L, .int v :: S, H, cs, ss) := s_any k2_212
theorem s2_214 {n cs ss : Nat} {L : List Slot} {S : List Value} {H : AH} : orun method_4_code (Option.some Jvm.ClassFile.FieldType.int) E2 0 (n + 1) (214, L, S, H, cs, ss) = orun method_4_code (Option.some Jvm.ClassFile.FieldType.int) E2 0 n (216, L, (.int 6 :: S), H, cs, ss) := s_any k2_214
theorem s2_216 {n cs ss : Nat} {L : List Slot} {S : List Value} {H : AH} : orun method_4_code (Option.some Jvm.ClassFile.FieldType.int) E2 0 (n + 1) (216, L, S, H, cs, ss) = ex (Option.some Jvm.ClassFile.FieldType.int) E2 0 (orun method_4_code (Option.some Jvm.ClassFile.FieldType.int) E2 0 n) (.ishl) 216 L S H cs ss := s_any k2_216
theorem s2_217 {n cs ss : Nat} {L : List Slot} {S : List Value} {H : AH} : orun method_4_code (Option.some Jvm.ClassFile.FieldType.int) E2 0 (n + 1) (217, L, S, H, cs, ss) = (gI L 7).bind fun v => orun method_4_code (Option.some Jvm.ClassFile.FieldType.int) E2 0 n (219, L, .int v :: S, H, cs, ss) := s_any k2_217
theorem s2_219 {n cs ss : Nat} {L : List Slot} {S : List Value} {H : AH} : orun method_4_code (Option.some Jvm.ClassFile.FieldType.int) E2 0 (n + 1) (219, L, S, H, cs, ss) = orun method_4_code (Option.some Jvm.ClassFile.FieldType.int) E2 0 n (221, L, (.int 63 :: S), H, cs, ss) := s_any k2_219
theorem s2_221 {n cs ss : Nat} {L : List Slot} {S : List Value} {H : AH} : orun method_4_code (Option.some Jvm.ClassFile.FieldType.int) E2 0 (n + 1) (221, L, S, H, cs, ss) = pI S fun y S => pI S fun x r => orun method_4_code (Option.some Jvm.ClassFile.FieldType.int) E2 0 n (222, L, .int (x &&& y) :: r, H, cs, ss) := s_any k2_221
theorem s2_222 {n cs ss : Nat} {L : List Slot} {S : List Value} {H : AH} : orun method_4_code (Option.some Jvm.ClassFile.FieldType.int) E2 0 (n + 1) (222, L, S, H, cs, ss) = pI S fun y S => pI S fun x r => orun method_4_code (Option.some Jvm.ClassFile.FieldType.int) E2 0 n (223, L, .int (x ||| y) :: r, H, cs, ss) := s_any k2_222
theorem s2_223 {n cs ss : Nat} {L : List Slot} {S : List Value} {H : AH} : orun method_4_code (Option.some Jvm.ClassFile.FieldType.int) E2 0 (n + 1) (223, L, S, H, cs, ss) = pI S fun x r => (st1 L 5 (.int x)).bind fun L' => orun method_4_code (Option.some Jvm.ClassFile.FieldType.int) E2 0 n (225, L', r, H, cs, ss) := s_any k2_223
theorem s2_225 {n cs ss : Nat} {L : List Slot} {S : List Value} {H : AH} : orun method_4_code (Option.some Jvm.ClassFile.FieldType.int) E2 0 (n + 1) (225, L, S, H, cs, ss) = (gI L 4).bind fun v => orun method_4_code (Option.some Jvm.ClassFile.FieldType.int) E2 0 n (227, L, .int v :: S, H, cs, ss) := s_any k2_225
theorem s2_227 {n cs ss : Nat} {L : List Slot} {S : List Value} {H : AH} : orun method_4_code (Option.some Jvm.ClassFile.FieldType.int) E2 0 (n + 1) (227, L, S, H, cs, ss) = orun method_4_code (Option.some Jvm.ClassFile.FieldType.int) E2 0 n (228, L, (.int 2 :: S), H, cs, ss) := s_any k2_227
theorem s2_228 {n cs ss : Nat} {L : List Slot} {S : List Value} {H : AH} : orun method_4_code (Option.some Jvm.ClassFile.FieldType.int) E2 0 (n + 1) (228, L, S, H, cs, ss) = pI S fun y S => pI S fun x r => if x = y then orun method_4_code (Option.some Jvm.ClassFile.FieldType.int) E2 0 n (231, L, r, H, cs, ss) else orun method_4_code (Option.some Jvm.ClassFile.FieldType.int) E2 0 n (237, L, r, H, cs, ss) := s_icmpN (Q := fun x y => x = y) (fun _ _ => h_ne) k2_228 (by decide) (by decide)
theorem s2_231 {n cs ss : Nat} {L : List Slot} {S : List Value} {H : AH} : orun method_4_code (Option.some Jvm.ClassFile.FieldType.int) E2 0 (n + 1) (231, L, S, H, cs, ss) = orun method_4_code (Option.some Jvm.ClassFile.FieldType.int) E2 0 n (234, L, (.int 128 :: S), H, cs, ss) := s_any k2_231
theorem s2_234 {n cs ss : Nat} {L : List Slot} {S : List Value} {H : AH} : orun method_4_code (Option.some Jvm.ClassFile.FieldType.int) E2 0 (n + 1) (234, L, S, H, cs, ss) = orun method_4_code (Option.some Jvm.ClassFile.FieldType.int) E2 0 n (251, L, S, H, cs, ss) := s_goto k2_234 (by decide) (by decide)
theorem s2_237 {n cs ss : Nat} {L : List Slot} {S : List Value} {H : AH} : orun method_4_code (Option.some Jvm.ClassFile.FieldType.int) E2 0 (n + 1) (237, L, S, H, cs, ss) = (gI L 4).bind fun v => orun method_4_code (Option.some Jvm.ClassFile.FieldType.int) E2 0 n (239, L, .int v :: S, H, cs, ss) := s_any k2_237
theorem s2_239 {n cs ss : Nat} {L : List Slot} {S : List Value} {H : AH} : orun method_4_code (Option.some Jvm.ClassFile.FieldType.int) E2 0 (n + 1) (239, L, S, H, cs, ss) = orun method_4_code (Option.some Jvm.ClassFile.FieldType.int) E2 0 n (240, L, (.int 3 :: S), H, cs, ss) := s_any k2_239
theorem s2_240 {n cs ss : Nat} {L : List Slot} {S : List Value} {H : AH} : orun method_4_code (Option.some Jvm.ClassFile.FieldType.int) E2 0 (n + 1) (240, L, S, H, cs, ss) = pI S fun y S => pI S fun x r => if x = y then orun method_4_code (Option.some Jvm.ClassFile.FieldType.int) E2 0 n (243, L, r, H, cs, ss) else orun method_4_code (Option.some Jvm.ClassFile.FieldType.int) E2 0 n (249, L, r, H, cs, ss) := s_icmpN (Q := fun x y => x = y) (fun _ _ => h_ne) k2_240 (by decide) (by decide)
theorem s2_243 {n cs ss : Nat} {L : List Slot} {S : List Value} {H : AH} : orun method_4_code (Option.some Jvm.ClassFile.FieldType.int) E2 0 (n + 1) (243, L, S, H, cs, ss) = orun method_4_code (Option.some Jvm.ClassFile.FieldType.int) E2 0 n (246, L, (.int 2048 :: S), H, cs, ss) := s_any k2_243
theorem s2_246 {n cs ss : Nat} {L : List Slot} {S : List Value} {H : AH} : orun method_4_code (Option.some Jvm.ClassFile.FieldType.int) E2 0 (n + 1) (246, L, S, H, cs, ss) = orun method_4_code (Option.some Jvm.ClassFile.FieldType.int) E2 0 n (251, L, S, H, cs, ss) := s_goto k2_246 (by decide) (by decide)
theorem s2_249 {n cs ss : Nat} {L : List Slot} {S : List Value} {H : AH} : orun method_4_code (Option.some Jvm.ClassFile.FieldType.int) E2 0 (n + 1) (249, L, S, H, cs, ss) = (aI (65536) S H cs ss).bind fun r => orun method_4_code (Option.some Jvm.ClassFile.FieldType.int) E2 0 n (251, L, r.1, r.2.1, r.2.2.1, r.2.2.2) := s_any k2_249
theorem s2_251 {n cs ss : Nat} {L : List Slot} {S : List Value} {H : AH} : orun method_4_code (Option.some Jvm.ClassFile.FieldType.int) E2 0 (n + 1) (251, L, S, H, cs, ss) = pI S fun x r => (st1 L 7 (.int x)).bind fun L' => orun method_4_code (Option.some Jvm.ClassFile.FieldType.int) E2 0 n (253, L', r, H, cs, ss) := s_any k2_251
theorem s2_253 {n cs ss : Nat} {L : List Slot} {S : List Value} {H : AH} : orun method_4_code (Option.some Jvm.ClassFile.FieldType.int) E2 0 (n + 1) (253, L, S, H, cs, ss) = (gI L 5).bind fun v => orun method_4_code (Option.some Jvm.ClassFile.FieldType.int) E2 0 n (255, L, .int v :: S, H, cs, ss) := s_any k2_253
theorem s2_255 {n cs ss : Nat} {L : List Slot} {S : List Value} {H : AH} : orun method_4_code (Option.some Jvm.ClassFile.FieldType.int) E2 0 (n + 1) (255, L, S, H, cs, ss) = (gI L 7).bind fun v => orun method_4_code (Option.some Jvm.ClassFile.FieldType.int) E2 0 n (257, L, .int v :: S, H, cs, ss) := s_any k2_255
theorem s2_257 {n cs ss : Nat} {L : List Slot} {S : List Value} {H : AH} : orun method_4_code (Option.some Jvm.ClassFile.FieldType.int) E2 0 (n + 1) (257, L, S, H, cs, ss) = pI S fun y S => pI S fun x r => if x < y then orun method_4_code (Option.some Jvm.ClassFile.FieldType.int) E2 0 n (267, L, r, H, cs, ss) else orun method_4_code (Option.some Jvm.ClassFile.FieldType.int) E2 0 n (260, L, r, H, cs, ss) := s_icmp (Q := fun x y => x < y) (fun _ _ => h_lt) k2_257 (by decide) (by decide)
theorem s2_260 {n cs ss : Nat} {L : List Slot} {S : List Value} {H : AH} : orun method_4_code (Option.some Jvm.ClassFile.FieldType.int) E2 0 (n + 1) (260, L, S, H, cs, ss) = (gI L 5).bind fun v => orun method_4_code (Option.some Jvm.ClassFile.FieldType.int) E2 0 n (262, L, .int v :: S, H, cs, ss) := s_any k2_260
theorem s2_262 {n cs ss : Nat} {L : List Slot} {S : List Value} {H : AH} : orun method_4_code (Option.some Jvm.ClassFile.FieldType.int) E2 0 (n + 1) (262, L, S, H, cs, ss) = (aI (1114111) S H cs ss).bind fun r => orun method_4_code (Option.some Jvm.ClassFile.FieldType.int) E2 0 n (264, L, r.1, r.2.1, r.2.2.1, r.2.2.2) := s_any k2_262
theorem s2_264 {n cs ss : Nat} {L : List Slot} {S : List Value} {H : AH} : orun method_4_code (Option.some Jvm.ClassFile.FieldType.int) E2 0 (n + 1) (264, L, S, H, cs, ss) = pI S fun y S => pI S fun x r => if y < x then orun method_4_code (Option.some Jvm.ClassFile.FieldType.int) E2 0 n (267, L, r, H, cs, ss) else orun method_4_code (Option.some Jvm.ClassFile.FieldType.int) E2 0 n (269, L, r, H, cs, ss) := s_icmpN (Q := fun x y => y < x) (fun _ _ => h_le) k2_264 (by decide) (by decide)
theorem s2_267 {n cs ss : Nat} {L : List Slot} {S : List Value} {H : AH} : orun method_4_code (Option.some Jvm.ClassFile.FieldType.int) E2 0 (n + 1) (267, L, S, H, cs, ss) = orun method_4_code (Option.some Jvm.ClassFile.FieldType.int) E2 0 n (268, L, (.int (-1) :: S), H, cs, ss) := s_any k2_267
theorem s2_268 {n cs ss : Nat} {L : List Slot} {S : List Value} {H : AH} : orun method_4_code (Option.some Jvm.ClassFile.FieldType.int) E2 0 (n + 1) (268, L, S, H, cs, ss) = pI S fun z _ => some (some (.int z), H) := s_any k2_268
theorem s2_269 {n cs ss : Nat} {L : List Slot} {S : List Value} {H : AH} : orun method_4_code (Option.some Jvm.ClassFile.FieldType.int) E2 0 (n + 1) (269, L, S, H, cs, ss) = (gI L 5).bind fun v => orun method_4_code (Option.some Jvm.ClassFile.FieldType.int) E2 0 n (271, L, .int v :: S, H, cs, ss) := s_any k2_269
theorem s2_271 {n cs ss : Nat} {L : List Slot} {S : List Value} {H : AH} : orun method_4_code (Option.some Jvm.ClassFile.FieldType.int) E2 0 (n + 1) (271, L, S, H, cs, ss) = (aI (55296) S H cs ss).bind fun r => orun method_4_code (Option.some Jvm.ClassFile.FieldType.int) E2 0 n (273, L, r.1, r.2.1, r.2.2.1, r.2.2.2) := s_any k2_271
theorem s2_273 {n cs ss : Nat} {L : List Slot} {S : List Value} {H : AH} : orun method_4_code (Option.some Jvm.ClassFile.FieldType.int) E2 0 (n + 1) (273, L, S, H, cs, ss) = pI S fun y S => pI S fun x r => if x < y then orun method_4_code (Option.some Jvm.ClassFile.FieldType.int) E2 0 n (285, L, r, H, cs, ss) else orun method_4_code (Option.some Jvm.ClassFile.FieldType.int) E2 0 n (276, L, r, H, cs, ss) := s_icmp (Q := fun x y => x < y) (fun _ _ => h_lt) k2_273 (by decide) (by decide)
theorem s2_276 {n cs ss : Nat} {L : List Slot} {S : List Value} {H : AH} : orun method_4_code (Option.some Jvm.ClassFile.FieldType.int) E2 0 (n + 1) (276, L, S, H, cs, ss) = (gI L 5).bind fun v => orun method_4_code (Option.some Jvm.ClassFile.FieldType.int) E2 0 n (278, L, .int v :: S, H, cs, ss) := s_any k2_276
theorem s2_278 {n cs ss : Nat} {L : List Slot} {S : List Value} {H : AH} : orun method_4_code (Option.some Jvm.ClassFile.FieldType.int) E2 0 (n + 1) (278, L, S, H, cs, ss) = (aI (57343) S H cs ss).bind fun r => orun method_4_code (Option.some Jvm.ClassFile.FieldType.int) E2 0 n (280, L, r.1, r.2.1, r.2.2.1, r.2.2.2) := s_any k2_278
theorem s2_280 {n cs ss : Nat} {L : List Slot} {S : List Value} {H : AH} : orun method_4_code (Option.some Jvm.ClassFile.FieldType.int) E2 0 (n + 1) (280, L, S, H, cs, ss) = pI S fun y S => pI S fun x r => if y < x then orun method_4_code (Option.some Jvm.ClassFile.FieldType.int) E2 0 n (285, L, r, H, cs, ss) else orun method_4_code (Option.some Jvm.ClassFile.FieldType.int) E2 0 n (283, L, r, H, cs, ss) := s_icmp (Q := fun x y => y < x) (fun _ _ => h_gt) k2_280 (by decide) (by decide)
theorem s2_283 {n cs ss : Nat} {L : List Slot} {S : List Value} {H : AH} : orun method_4_code (Option.some Jvm.ClassFile.FieldType.int) E2 0 (n + 1) (283, L, S, H, cs, ss) = orun method_4_code (Option.some Jvm.ClassFile.FieldType.int) E2 0 n (284, L, (.int (-1) :: S), H, cs, ss) := s_any k2_283
theorem s2_284 {n cs ss : Nat} {L : List Slot} {S : List Value} {H : AH} : orun method_4_code (Option.some Jvm.ClassFile.FieldType.int) E2 0 (n + 1) (284, L, S, H, cs, ss) = pI S fun z _ => some (some (.int z), H) := s_any k2_284
theorem s2_285 {n cs ss : Nat} {L : List Slot} {S : List Value} {H : AH} : orun method_4_code (Option.some Jvm.ClassFile.FieldType.int) E2 0 (n + 1) (285, L, S, H, cs, ss) = (gI L 4).bind fun v => orun method_4_code (Option.some Jvm.ClassFile.FieldType.int) E2 0 n (287, L, .int v :: S, H, cs, ss) := s_any k2_285
theorem s2_287 {n cs ss : Nat} {L : List Slot} {S : List Value} {H : AH} : orun method_4_code (Option.some Jvm.ClassFile.FieldType.int) E2 0 (n + 1) (287, L, S, H, cs, ss) = pI S fun z _ => some (some (.int z), H) := s_any k2_287
theorem t2_0 {go : Nat → St → Option ORes} (hgo : go = orun method_4_code (Option.some Jvm.ClassFile.FieldType.int) E2 0) {n cs ss : Nat} {l1 l2 l3 l4 l5 l6 l7 : Slot} {S : List Value} {H : AH} {q : Option ORes → Prop} {v : Value} (hv : isA v = true) (h : Rsq (go n (1, [.val v, l1, l2, l3, l4, l5, l6, l7], (v :: S), H, cs, ss)) q) : Rsq (go (n + 1) (0, [.val v, l1, l2, l3, l4, l5, l6, l7], S, H, cs, ss)) q := by
  subst hgo
  refine res_of s2_0 ?_
  rw [gA_isA (L := [.val v, l1, l2, l3, l4, l5, l6, l7]) (k := 0) (v := v) rfl hv]
  exact h
theorem t2_1 {go : Nat → St → Option ORes} (hgo : go = orun method_4_code (Option.some Jvm.ClassFile.FieldType.int) E2 0) {n cs ss : Nat} {l0 l1 l3 l4 l5 l6 l7 : Slot} {S : List Value} {H : AH} {q : Option ORes → Prop} {v : Int32} (h : Rsq (go n (2, [l0, l1, .val (.int v), l3, l4, l5, l6, l7], (.int v :: S), H, cs, ss)) q) : Rsq (go (n + 1) (1, [l0, l1, .val (.int v), l3, l4, l5, l6, l7], S, H, cs, ss)) q := by
  subst hgo
  exact res_of s2_1 h
theorem u2_2 {go : Nat → St → Option ORes} (hgo : go = orun method_4_code (Option.some Jvm.ClassFile.FieldType.int) E2 0) {n cs ss : Nat} {L : List Slot} {S : List Value} {H : AH} : go (n + 1) (2, L, S, H, cs, ss) = ex (Option.some Jvm.ClassFile.FieldType.int) E2 0 (go n) (.baload) 2 L S H cs ss := by
  subst hgo
  exact s2_2
theorem t2_3 {go : Nat → St → Option ORes} (hgo : go = orun method_4_code (Option.some Jvm.ClassFile.FieldType.int) E2 0) {n cs ss : Nat} {L : List Slot} {S : List Value} {H : AH} {q : Option ORes → Prop} (h : Rsq (go n (6, L, (.int 255 :: S), H, cs, ss)) q) : Rsq (go (n + 1) (3, L, S, H, cs, ss)) q := by
  subst hgo
  exact res_of s2_3 h
theorem t2_6 {go : Nat → St → Option ORes} (hgo : go = orun method_4_code (Option.some Jvm.ClassFile.FieldType.int) E2 0) {n cs ss : Nat} {L : List Slot} {S : List Value} {H : AH} {q : Option ORes → Prop} {x y : Int32} (h : Rsq (go n (7, L, (.int (x &&& y) :: S), H, cs, ss)) q) : Rsq (go (n + 1) (6, L, (.int y :: .int x :: S), H, cs, ss)) q := by
  subst hgo
  exact res_of s2_6 h
theorem t2_7 {go : Nat → St → Option ORes} (hgo : go = orun method_4_code (Option.some Jvm.ClassFile.FieldType.int) E2 0) {n cs ss : Nat} {l0 l1 l2 l3 l4 l5 l6 l7 : Slot} {S : List Value} {H : AH} {q : Option ORes → Prop} {x : Int32} (hk : so l3 = true) (h : Rsq (go n (8, [l0, l1, l2, .val (.int x), l4, l5, l6, l7], S, H, cs, ss)) q) : Rsq (go (n + 1) (7, [l0, l1, l2, l3, l4, l5, l6, l7], (.int x :: S), H, cs, ss)) q := by
  subst hgo
  refine res_of s2_7 ?_
  rw [pI_int, st1_so (L := [l0, l1, l2, l3, l4, l5, l6, l7]) (k := 3) (l := l3) rfl hk]
  exact h
theorem t2_8 {go : Nat → St → Option ORes} (hgo : go = orun method_4_code (Option.some Jvm.ClassFile.FieldType.int) E2 0) {n cs ss : Nat} {l0 l1 l2 l4 l5 l6 l7 : Slot} {S : List Value} {H : AH} {q : Option ORes → Prop} {v : Int32} (h : Rsq (go n (9, [l0, l1, l2, .val (.int v), l4, l5, l6, l7], (.int v :: S), H, cs, ss)) q) : Rsq (go (n + 1) (8, [l0, l1, l2, .val (.int v), l4, l5, l6, l7], S, H, cs, ss)) q := by
  subst hgo
  exact res_of s2_8 h
theorem t2_9 {go : Nat → St → Option ORes} (hgo : go = orun method_4_code (Option.some Jvm.ClassFile.FieldType.int) E2 0) {n cs ss : Nat} {L : List Slot} {S : List Value} {H : AH} {q : Option ORes → Prop} (h : Rsq (go n (12, L, (.int 128 :: S), H, cs, ss)) q) : Rsq (go (n + 1) (9, L, S, H, cs, ss)) q := by
  subst hgo
  exact res_of s2_9 h
theorem t2_12 {go : Nat → St → Option ORes} (hgo : go = orun method_4_code (Option.some Jvm.ClassFile.FieldType.int) E2 0) {n cs ss : Nat} {L : List Slot} {S : List Value} {H : AH} {q : Option ORes → Prop} {x y : Int32} (h : Rsq (go n (13, L, (.int (x &&& y) :: S), H, cs, ss)) q) : Rsq (go (n + 1) (12, L, (.int y :: .int x :: S), H, cs, ss)) q := by
  subst hgo
  exact res_of s2_12 h
theorem t2_13t {go : Nat → St → Option ORes} (hgo : go = orun method_4_code (Option.some Jvm.ClassFile.FieldType.int) E2 0) {n cs ss : Nat} {L : List Slot} {S : List Value} {H : AH} {q : Option ORes → Prop} {x : Int32} (hc : x = 0) (h : Rsq (go n (16, L, S, H, cs, ss)) q) : Rsq (go (n + 1) (13, L, (.int x :: S), H, cs, ss)) q := by
  subst hgo
  exact res_of s2_13 (res_t hc h)
theorem t2_13f {go : Nat → St → Option ORes} (hgo : go = orun method_4_code (Option.some Jvm.ClassFile.FieldType.int) E2 0) {n cs ss : Nat} {L : List Slot} {S : List Value} {H : AH} {q : Option ORes → Prop} {x : Int32} (hc : ¬ x = 0) (h : Rsq (go n (18, L, S, H, cs, ss)) q) : Rsq (go (n + 1) (13, L, (.int x :: S), H, cs, ss)) q := by
  subst hgo
  exact res_of s2_13 (res_f hc h)
theorem t2_16 {go : Nat → St → Option ORes} (hgo : go = orun method_4_code (Option.some Jvm.ClassFile.FieldType.int) E2 0) {n cs ss : Nat} {L : List Slot} {S : List Value} {H : AH} {q : Option ORes → Prop} (h : Rsq (go n (17, L, (.int 1 :: S), H, cs, ss)) q) : Rsq (go (n + 1) (16, L, S, H, cs, ss)) q := by
  subst hgo
  exact res_of s2_16 h
theorem t2_17 {go : Nat → St → Option ORes} (hgo : go = orun method_4_code (Option.some Jvm.ClassFile.FieldType.int) E2 0) {n cs ss : Nat} {L : List Slot} {S : List Value} {H : AH} {q : Option ORes → Prop} {z : Int32} (h : q (some (some (.int z), H))) : Rsq (go (n + 1) (17, L, (.int z :: S), H, cs, ss)) q := by
  subst hgo
  exact res_of s2_17 h
theorem t2_18 {go : Nat → St → Option ORes} (hgo : go = orun method_4_code (Option.some Jvm.ClassFile.FieldType.int) E2 0) {n cs ss : Nat} {l0 l1 l2 l4 l5 l6 l7 : Slot} {S : List Value} {H : AH} {q : Option ORes → Prop} {v : Int32} (h : Rsq (go n (19, [l0, l1, l2, .val (.int v), l4, l5, l6, l7], (.int v :: S), H, cs, ss)) q) : Rsq (go (n + 1) (18, [l0, l1, l2, .val (.int v), l4, l5, l6, l7], S, H, cs, ss)) q := by
  subst hgo
  exact res_of s2_18 h
theorem t2_19 {go : Nat → St → Option ORes} (hgo : go = orun method_4_code (Option.some Jvm.ClassFile.FieldType.int) E2 0) {n cs ss : Nat} {L : List Slot} {S : List Value} {H : AH} {q : Option ORes → Prop} (h : Rsq (go n (22, L, (.int 224 :: S), H, cs, ss)) q) : Rsq (go (n + 1) (19, L, S, H, cs, ss)) q := by
  subst hgo
  exact res_of s2_19 h
theorem t2_22 {go : Nat → St → Option ORes} (hgo : go = orun method_4_code (Option.some Jvm.ClassFile.FieldType.int) E2 0) {n cs ss : Nat} {L : List Slot} {S : List Value} {H : AH} {q : Option ORes → Prop} {x y : Int32} (h : Rsq (go n (23, L, (.int (x &&& y) :: S), H, cs, ss)) q) : Rsq (go (n + 1) (22, L, (.int y :: .int x :: S), H, cs, ss)) q := by
  subst hgo
  exact res_of s2_22 h
theorem t2_23 {go : Nat → St → Option ORes} (hgo : go = orun method_4_code (Option.some Jvm.ClassFile.FieldType.int) E2 0) {n cs ss : Nat} {L : List Slot} {S : List Value} {H : AH} {q : Option ORes → Prop} (h : Rsq (go n (26, L, (.int 192 :: S), H, cs, ss)) q) : Rsq (go (n + 1) (23, L, S, H, cs, ss)) q := by
  subst hgo
  exact res_of s2_23 h
theorem t2_26t {go : Nat → St → Option ORes} (hgo : go = orun method_4_code (Option.some Jvm.ClassFile.FieldType.int) E2 0) {n cs ss : Nat} {L : List Slot} {S : List Value} {H : AH} {q : Option ORes → Prop} {x y : Int32} (hc : x = y) (h : Rsq (go n (29, L, S, H, cs, ss)) q) : Rsq (go (n + 1) (26, L, (.int y :: .int x :: S), H, cs, ss)) q := by
  subst hgo
  exact res_of s2_26 (res_t hc h)
theorem t2_26f {go : Nat → St → Option ORes} (hgo : go = orun method_4_code (Option.some Jvm.ClassFile.FieldType.int) E2 0) {n cs ss : Nat} {L : List Slot} {S : List Value} {H : AH} {q : Option ORes → Prop} {x y : Int32} (hc : ¬ x = y) (h : Rsq (go n (41, L, S, H, cs, ss)) q) : Rsq (go (n + 1) (26, L, (.int y :: .int x :: S), H, cs, ss)) q := by
  subst hgo
  exact res_of s2_26 (res_f hc h)
theorem t2_29 {go : Nat → St → Option ORes} (hgo : go = orun method_4_code (Option.some Jvm.ClassFile.FieldType.int) E2 0) {n cs ss : Nat} {L : List Slot} {S : List Value} {H : AH} {q : Option ORes → Prop} (h : Rsq (go n (30, L, (.int 2 :: S), H, cs, ss)) q) : Rsq (go (n + 1) (29, L, S, H, cs, ss)) q := by
  subst hgo
  exact res_of s2_29 h
theorem t2_30 {go : Nat → St → Option ORes} (hgo : go = orun method_4_code (Option.some Jvm.ClassFile.FieldType.int) E2 0) {n cs ss : Nat} {l0 l1 l2 l3 l4 l5 l6 l7 : Slot} {S : List Value} {H : AH} {q : Option ORes → Prop} {x : Int32} (hk : so l4 = true) (h : Rsq (go n (32, [l0, l1, l2, l3, .val (.int x), l5, l6, l7], S, H, cs, ss)) q) : Rsq (go (n + 1) (30, [l0, l1, l2, l3, l4, l5, l6, l7], (.int x :: S), H, cs, ss)) q := by
  subst hgo
  refine res_of s2_30 ?_
  rw [pI_int, st1_so (L := [l0, l1, l2, l3, l4, l5, l6, l7]) (k := 4) (l := l4) rfl hk]
  exact h
theorem t2_32 {go : Nat → St → Option ORes} (hgo : go = orun method_4_code (Option.some Jvm.ClassFile.FieldType.int) E2 0) {n cs ss : Nat} {l0 l1 l2 l4 l5 l6 l7 : Slot} {S : List Value} {H : AH} {q : Option ORes → Prop} {v : Int32} (h : Rsq (go n (33, [l0, l1, l2, .val (.int v), l4, l5, l6, l7], (.int v :: S), H, cs, ss)) q) : Rsq (go (n + 1) (32, [l0, l1, l2, .val (.int v), l4, l5, l6, l7], S, H, cs, ss)) q := by
  subst hgo
  exact res_of s2_32 h
theorem t2_33 {go : Nat → St → Option ORes} (hgo : go = orun method_4_code (Option.some Jvm.ClassFile.FieldType.int) E2 0) {n cs ss : Nat} {L : List Slot} {S : List Value} {H : AH} {q : Option ORes → Prop} (h : Rsq (go n (35, L, (.int 31 :: S), H, cs, ss)) q) : Rsq (go (n + 1) (33, L, S, H, cs, ss)) q := by
  subst hgo
  exact res_of s2_33 h
theorem t2_35 {go : Nat → St → Option ORes} (hgo : go = orun method_4_code (Option.some Jvm.ClassFile.FieldType.int) E2 0) {n cs ss : Nat} {L : List Slot} {S : List Value} {H : AH} {q : Option ORes → Prop} {x y : Int32} (h : Rsq (go n (36, L, (.int (x &&& y) :: S), H, cs, ss)) q) : Rsq (go (n + 1) (35, L, (.int y :: .int x :: S), H, cs, ss)) q := by
  subst hgo
  exact res_of s2_35 h
theorem t2_36 {go : Nat → St → Option ORes} (hgo : go = orun method_4_code (Option.some Jvm.ClassFile.FieldType.int) E2 0) {n cs ss : Nat} {l0 l1 l2 l3 l4 l5 l6 l7 : Slot} {S : List Value} {H : AH} {q : Option ORes → Prop} {x : Int32} (hk : so l5 = true) (h : Rsq (go n (38, [l0, l1, l2, l3, l4, .val (.int x), l6, l7], S, H, cs, ss)) q) : Rsq (go (n + 1) (36, [l0, l1, l2, l3, l4, l5, l6, l7], (.int x :: S), H, cs, ss)) q := by
  subst hgo
  refine res_of s2_36 ?_
  rw [pI_int, st1_so (L := [l0, l1, l2, l3, l4, l5, l6, l7]) (k := 5) (l := l5) rfl hk]
  exact h
theorem t2_38 {go : Nat → St → Option ORes} (hgo : go = orun method_4_code (Option.some Jvm.ClassFile.FieldType.int) E2 0) {n cs ss : Nat} {L : List Slot} {S : List Value} {H : AH} {q : Option ORes → Prop} (h : Rsq (go n (89, L, S, H, cs, ss)) q) : Rsq (go (n + 1) (38, L, S, H, cs, ss)) q := by
  subst hgo
  exact res_of s2_38 h
theorem t2_41 {go : Nat → St → Option ORes} (hgo : go = orun method_4_code (Option.some Jvm.ClassFile.FieldType.int) E2 0) {n cs ss : Nat} {l0 l1 l2 l4 l5 l6 l7 : Slot} {S : List Value} {H : AH} {q : Option ORes → Prop} {v : Int32} (h : Rsq (go n (42, [l0, l1, l2, .val (.int v), l4, l5, l6, l7], (.int v :: S), H, cs, ss)) q) : Rsq (go (n + 1) (41, [l0, l1, l2, .val (.int v), l4, l5, l6, l7], S, H, cs, ss)) q := by
  subst hgo
  exact res_of s2_41 h
theorem t2_42 {go : Nat → St → Option ORes} (hgo : go = orun method_4_code (Option.some Jvm.ClassFile.FieldType.int) E2 0) {n cs ss : Nat} {L : List Slot} {S : List Value} {H : AH} {q : Option ORes → Prop} (h : Rsq (go n (45, L, (.int 240 :: S), H, cs, ss)) q) : Rsq (go (n + 1) (42, L, S, H, cs, ss)) q := by
  subst hgo
  exact res_of s2_42 h
theorem t2_45 {go : Nat → St → Option ORes} (hgo : go = orun method_4_code (Option.some Jvm.ClassFile.FieldType.int) E2 0) {n cs ss : Nat} {L : List Slot} {S : List Value} {H : AH} {q : Option ORes → Prop} {x y : Int32} (h : Rsq (go n (46, L, (.int (x &&& y) :: S), H, cs, ss)) q) : Rsq (go (n + 1) (45, L, (.int y :: .int x :: S), H, cs, ss)) q := by
  subst hgo
  exact res_of s2_45 h
theorem t2_46 {go : Nat → St → Option ORes} (hgo : go = orun method_4_code (Option.some Jvm.ClassFile.FieldType.int) E2 0) {n cs ss : Nat} {L : List Slot} {S : List Value} {H : AH} {q : Option ORes → Prop} (h : Rsq (go n (49, L, (.int 224 :: S), H, cs, ss)) q) : Rsq (go (n + 1) (46, L, S, H, cs, ss)) q := by
  subst hgo
  exact res_of s2_46 h
theorem t2_49t {go : Nat → St → Option ORes} (hgo : go = orun method_4_code (Option.some Jvm.ClassFile.FieldType.int) E2 0) {n cs ss : Nat} {L : List Slot} {S : List Value} {H : AH} {q : Option ORes → Prop} {x y : Int32} (hc : x = y) (h : Rsq (go n (52, L, S, H, cs, ss)) q) : Rsq (go (n + 1) (49, L, (.int y :: .int x :: S), H, cs, ss)) q := by
  subst hgo
  exact res_of s2_49 (res_t hc h)
theorem t2_49f {go : Nat → St → Option ORes} (hgo : go = orun method_4_code (Option.some Jvm.ClassFile.FieldType.int) E2 0) {n cs ss : Nat} {L : List Slot} {S : List Value} {H : AH} {q : Option ORes → Prop} {x y : Int32} (hc : ¬ x = y) (h : Rsq (go n (64, L, S, H, cs, ss)) q) : Rsq (go (n + 1) (49, L, (.int y :: .int x :: S), H, cs, ss)) q := by
  subst hgo
  exact res_of s2_49 (res_f hc h)
theorem t2_52 {go : Nat → St → Option ORes} (hgo : go = orun method_4_code (Option.some Jvm.ClassFile.FieldType.int) E2 0) {n cs ss : Nat} {L : List Slot} {S : List Value} {H : AH} {q : Option ORes → Prop} (h : Rsq (go n (53, L, (.int 3 :: S), H, cs, ss)) q) : Rsq (go (n + 1) (52, L, S, H, cs, ss)) q := by
  subst hgo
  exact res_of s2_52 h
theorem t2_53 {go : Nat → St → Option ORes} (hgo : go = orun method_4_code (Option.some Jvm.ClassFile.FieldType.int) E2 0) {n cs ss : Nat} {l0 l1 l2 l3 l4 l5 l6 l7 : Slot} {S : List Value} {H : AH} {q : Option ORes → Prop} {x : Int32} (hk : so l4 = true) (h : Rsq (go n (55, [l0, l1, l2, l3, .val (.int x), l5, l6, l7], S, H, cs, ss)) q) : Rsq (go (n + 1) (53, [l0, l1, l2, l3, l4, l5, l6, l7], (.int x :: S), H, cs, ss)) q := by
  subst hgo
  refine res_of s2_53 ?_
  rw [pI_int, st1_so (L := [l0, l1, l2, l3, l4, l5, l6, l7]) (k := 4) (l := l4) rfl hk]
  exact h
theorem t2_55 {go : Nat → St → Option ORes} (hgo : go = orun method_4_code (Option.some Jvm.ClassFile.FieldType.int) E2 0) {n cs ss : Nat} {l0 l1 l2 l4 l5 l6 l7 : Slot} {S : List Value} {H : AH} {q : Option ORes → Prop} {v : Int32} (h : Rsq (go n (56, [l0, l1, l2, .val (.int v), l4, l5, l6, l7], (.int v :: S), H, cs, ss)) q) : Rsq (go (n + 1) (55, [l0, l1, l2, .val (.int v), l4, l5, l6, l7], S, H, cs, ss)) q := by
  subst hgo
  exact res_of s2_55 h
theorem t2_56 {go : Nat → St → Option ORes} (hgo : go = orun method_4_code (Option.some Jvm.ClassFile.FieldType.int) E2 0) {n cs ss : Nat} {L : List Slot} {S : List Value} {H : AH} {q : Option ORes → Prop} (h : Rsq (go n (58, L, (.int 15 :: S), H, cs, ss)) q) : Rsq (go (n + 1) (56, L, S, H, cs, ss)) q := by
  subst hgo
  exact res_of s2_56 h
theorem t2_58 {go : Nat → St → Option ORes} (hgo : go = orun method_4_code (Option.some Jvm.ClassFile.FieldType.int) E2 0) {n cs ss : Nat} {L : List Slot} {S : List Value} {H : AH} {q : Option ORes → Prop} {x y : Int32} (h : Rsq (go n (59, L, (.int (x &&& y) :: S), H, cs, ss)) q) : Rsq (go (n + 1) (58, L, (.int y :: .int x :: S), H, cs, ss)) q := by
  subst hgo
  exact res_of s2_58 h
theorem t2_59 {go : Nat → St → Option ORes} (hgo : go = orun method_4_code (Option.some Jvm.ClassFile.FieldType.int) E2 0) {n cs ss : Nat} {l0 l1 l2 l3 l4 l5 l6 l7 : Slot} {S : List Value} {H : AH} {q : Option ORes → Prop} {x : Int32} (hk : so l5 = true) (h : Rsq (go n (61, [l0, l1, l2, l3, l4, .val (.int x), l6, l7], S, H, cs, ss)) q) : Rsq (go (n + 1) (59, [l0, l1, l2, l3, l4, l5, l6, l7], (.int x :: S), H, cs, ss)) q := by
  subst hgo
  refine res_of s2_59 ?_
  rw [pI_int, st1_so (L := [l0, l1, l2, l3, l4, l5, l6, l7]) (k := 5) (l := l5) rfl hk]
  exact h
theorem t2_61 {go : Nat → St → Option ORes} (hgo : go = orun method_4_code (Option.some Jvm.ClassFile.FieldType.int) E2 0) {n cs ss : Nat} {L : List Slot} {S : List Value} {H : AH} {q : Option ORes → Prop} (h : Rsq (go n (89, L, S, H, cs, ss)) q) : Rsq (go (n + 1) (61, L, S, H, cs, ss)) q := by
  subst hgo
  exact res_of s2_61 h
theorem t2_64 {go : Nat → St → Option ORes} (hgo : go = orun method_4_code (Option.some Jvm.ClassFile.FieldType.int) E2 0) {n cs ss : Nat} {l0 l1 l2 l4 l5 l6 l7 : Slot} {S : List Value} {H : AH} {q : Option ORes → Prop} {v : Int32} (h : Rsq (go n (65, [l0, l1, l2, .val (.int v), l4, l5, l6, l7], (.int v :: S), H, cs, ss)) q) : Rsq (go (n + 1) (64, [l0, l1, l2, .val (.int v), l4, l5, l6, l7], S, H, cs, ss)) q := by
  subst hgo
  exact res_of s2_64 h
theorem t2_65 {go : Nat → St → Option ORes} (hgo : go = orun method_4_code (Option.some Jvm.ClassFile.FieldType.int) E2 0) {n cs ss : Nat} {L : List Slot} {S : List Value} {H : AH} {q : Option ORes → Prop} (h : Rsq (go n (68, L, (.int 248 :: S), H, cs, ss)) q) : Rsq (go (n + 1) (65, L, S, H, cs, ss)) q := by
  subst hgo
  exact res_of s2_65 h
theorem t2_68 {go : Nat → St → Option ORes} (hgo : go = orun method_4_code (Option.some Jvm.ClassFile.FieldType.int) E2 0) {n cs ss : Nat} {L : List Slot} {S : List Value} {H : AH} {q : Option ORes → Prop} {x y : Int32} (h : Rsq (go n (69, L, (.int (x &&& y) :: S), H, cs, ss)) q) : Rsq (go (n + 1) (68, L, (.int y :: .int x :: S), H, cs, ss)) q := by
  subst hgo
  exact res_of s2_68 h
theorem t2_69 {go : Nat → St → Option ORes} (hgo : go = orun method_4_code (Option.some Jvm.ClassFile.FieldType.int) E2 0) {n cs ss : Nat} {L : List Slot} {S : List Value} {H : AH} {q : Option ORes → Prop} (h : Rsq (go n (72, L, (.int 240 :: S), H, cs, ss)) q) : Rsq (go (n + 1) (69, L, S, H, cs, ss)) q := by
  subst hgo
  exact res_of s2_69 h
theorem t2_72t {go : Nat → St → Option ORes} (hgo : go = orun method_4_code (Option.some Jvm.ClassFile.FieldType.int) E2 0) {n cs ss : Nat} {L : List Slot} {S : List Value} {H : AH} {q : Option ORes → Prop} {x y : Int32} (hc : x = y) (h : Rsq (go n (75, L, S, H, cs, ss)) q) : Rsq (go (n + 1) (72, L, (.int y :: .int x :: S), H, cs, ss)) q := by
  subst hgo
  exact res_of s2_72 (res_t hc h)
theorem t2_72f {go : Nat → St → Option ORes} (hgo : go = orun method_4_code (Option.some Jvm.ClassFile.FieldType.int) E2 0) {n cs ss : Nat} {L : List Slot} {S : List Value} {H : AH} {q : Option ORes → Prop} {x y : Int32} (hc : ¬ x = y) (h : Rsq (go n (87, L, S, H, cs, ss)) q) : Rsq (go (n + 1) (72, L, (.int y :: .int x :: S), H, cs, ss)) q := by
  subst hgo
  exact res_of s2_72 (res_f hc h)
theorem t2_75 {go : Nat → St → Option ORes} (hgo : go = orun method_4_code (Option.some Jvm.ClassFile.FieldType.int) E2 0) {n cs ss : Nat} {L : List Slot} {S : List Value} {H : AH} {q : Option ORes → Prop} (h : Rsq (go n (76, L, (.int 4 :: S), H, cs, ss)) q) : Rsq (go (n + 1) (75, L, S, H, cs, ss)) q := by
  subst hgo
  exact res_of s2_75 h
theorem t2_76 {go : Nat → St → Option ORes} (hgo : go = orun method_4_code (Option.some Jvm.ClassFile.FieldType.int) E2 0) {n cs ss : Nat} {l0 l1 l2 l3 l4 l5 l6 l7 : Slot} {S : List Value} {H : AH} {q : Option ORes → Prop} {x : Int32} (hk : so l4 = true) (h : Rsq (go n (78, [l0, l1, l2, l3, .val (.int x), l5, l6, l7], S, H, cs, ss)) q) : Rsq (go (n + 1) (76, [l0, l1, l2, l3, l4, l5, l6, l7], (.int x :: S), H, cs, ss)) q := by
  subst hgo
  refine res_of s2_76 ?_
  rw [pI_int, st1_so (L := [l0, l1, l2, l3, l4, l5, l6, l7]) (k := 4) (l := l4) rfl hk]
  exact h
theorem t2_78 {go : Nat → St → Option ORes} (hgo : go = orun method_4_code (Option.some Jvm.ClassFile.FieldType.int) E2 0) {n cs ss : Nat} {l0 l1 l2 l4 l5 l6 l7 : Slot} {S : List Value} {H : AH} {q : Option ORes → Prop} {v : Int32} (h : Rsq (go n (79, [l0, l1, l2, .val (.int v), l4, l5, l6, l7], (.int v :: S), H, cs, ss)) q) : Rsq (go (n + 1) (78, [l0, l1, l2, .val (.int v), l4, l5, l6, l7], S, H, cs, ss)) q := by
  subst hgo
  exact res_of s2_78 h
theorem t2_79 {go : Nat → St → Option ORes} (hgo : go = orun method_4_code (Option.some Jvm.ClassFile.FieldType.int) E2 0) {n cs ss : Nat} {L : List Slot} {S : List Value} {H : AH} {q : Option ORes → Prop} (h : Rsq (go n (81, L, (.int 7 :: S), H, cs, ss)) q) : Rsq (go (n + 1) (79, L, S, H, cs, ss)) q := by
  subst hgo
  exact res_of s2_79 h
theorem t2_81 {go : Nat → St → Option ORes} (hgo : go = orun method_4_code (Option.some Jvm.ClassFile.FieldType.int) E2 0) {n cs ss : Nat} {L : List Slot} {S : List Value} {H : AH} {q : Option ORes → Prop} {x y : Int32} (h : Rsq (go n (82, L, (.int (x &&& y) :: S), H, cs, ss)) q) : Rsq (go (n + 1) (81, L, (.int y :: .int x :: S), H, cs, ss)) q := by
  subst hgo
  exact res_of s2_81 h
theorem t2_82 {go : Nat → St → Option ORes} (hgo : go = orun method_4_code (Option.some Jvm.ClassFile.FieldType.int) E2 0) {n cs ss : Nat} {l0 l1 l2 l3 l4 l5 l6 l7 : Slot} {S : List Value} {H : AH} {q : Option ORes → Prop} {x : Int32} (hk : so l5 = true) (h : Rsq (go n (84, [l0, l1, l2, l3, l4, .val (.int x), l6, l7], S, H, cs, ss)) q) : Rsq (go (n + 1) (82, [l0, l1, l2, l3, l4, l5, l6, l7], (.int x :: S), H, cs, ss)) q := by
  subst hgo
  refine res_of s2_82 ?_
  rw [pI_int, st1_so (L := [l0, l1, l2, l3, l4, l5, l6, l7]) (k := 5) (l := l5) rfl hk]
  exact h
theorem t2_84 {go : Nat → St → Option ORes} (hgo : go = orun method_4_code (Option.some Jvm.ClassFile.FieldType.int) E2 0) {n cs ss : Nat} {L : List Slot} {S : List Value} {H : AH} {q : Option ORes → Prop} (h : Rsq (go n (89, L, S, H, cs, ss)) q) : Rsq (go (n + 1) (84, L, S, H, cs, ss)) q := by
  subst hgo
  exact res_of s2_84 h
theorem t2_87 {go : Nat → St → Option ORes} (hgo : go = orun method_4_code (Option.some Jvm.ClassFile.FieldType.int) E2 0) {n cs ss : Nat} {L : List Slot} {S : List Value} {H : AH} {q : Option ORes → Prop} (h : Rsq (go n (88, L, (.int (-1) :: S), H, cs, ss)) q) : Rsq (go (n + 1) (87, L, S, H, cs, ss)) q := by
  subst hgo
  exact res_of s2_87 h
theorem t2_88 {go : Nat → St → Option ORes} (hgo : go = orun method_4_code (Option.some Jvm.ClassFile.FieldType.int) E2 0) {n cs ss : Nat} {L : List Slot} {S : List Value} {H : AH} {q : Option ORes → Prop} {z : Int32} (h : q (some (some (.int z), H))) : Rsq (go (n + 1) (88, L, (.int z :: S), H, cs, ss)) q := by
  subst hgo
  exact res_of s2_88 h
theorem t2_89 {go : Nat → St → Option ORes} (hgo : go = orun method_4_code (Option.some Jvm.ClassFile.FieldType.int) E2 0) {n cs ss : Nat} {l0 l2 l3 l4 l5 l6 l7 : Slot} {S : List Value} {H : AH} {q : Option ORes → Prop} {v : Int32} (h : Rsq (go n (90, [l0, .val (.int v), l2, l3, l4, l5, l6, l7], (.int v :: S), H, cs, ss)) q) : Rsq (go (n + 1) (89, [l0, .val (.int v), l2, l3, l4, l5, l6, l7], S, H, cs, ss)) q := by
  subst hgo
  exact res_of s2_89 h
theorem t2_90 {go : Nat → St → Option ORes} (hgo : go = orun method_4_code (Option.some Jvm.ClassFile.FieldType.int) E2 0) {n cs ss : Nat} {l0 l1 l3 l4 l5 l6 l7 : Slot} {S : List Value} {H : AH} {q : Option ORes → Prop} {v : Int32} (h : Rsq (go n (91, [l0, l1, .val (.int v), l3, l4, l5, l6, l7], (.int v :: S), H, cs, ss)) q) : Rsq (go (n + 1) (90, [l0, l1, .val (.int v), l3, l4, l5, l6, l7], S, H, cs, ss)) q := by
  subst hgo
  exact res_of s2_90 h
theorem t2_91 {go : Nat → St → Option ORes} (hgo : go = orun method_4_code (Option.some Jvm.ClassFile.FieldType.int) E2 0) {n cs ss : Nat} {L : List Slot} {S : List Value} {H : AH} {q : Option ORes → Prop} {x y : Int32} (h : Rsq (go n (92, L, (.int (x - y) :: S), H, cs, ss)) q) : Rsq (go (n + 1) (91, L, (.int y :: .int x :: S), H, cs, ss)) q := by
  subst hgo
  exact res_of s2_91 h
theorem t2_92 {go : Nat → St → Option ORes} (hgo : go = orun method_4_code (Option.some Jvm.ClassFile.FieldType.int) E2 0) {n cs ss : Nat} {l0 l1 l2 l3 l5 l6 l7 : Slot} {S : List Value} {H : AH} {q : Option ORes → Prop} {v : Int32} (h : Rsq (go n (94, [l0, l1, l2, l3, .val (.int v), l5, l6, l7], (.int v :: S), H, cs, ss)) q) : Rsq (go (n + 1) (92, [l0, l1, l2, l3, .val (.int v), l5, l6, l7], S, H, cs, ss)) q := by
  subst hgo
  exact res_of s2_92 h
theorem t2_94t {go : Nat → St → Option ORes} (hgo : go = orun method_4_code (Option.some Jvm.ClassFile.FieldType.int) E2 0) {n cs ss : Nat} {L : List Slot} {S : List Value} {H : AH} {q : Option ORes → Prop} {x y : Int32} (hc : x < y) (h : Rsq (go n (97, L, S, H, cs, ss)) q) : Rsq (go (n + 1) (94, L, (.int y :: .int x :: S), H, cs, ss)) q := by
  subst hgo
  exact res_of s2_94 (res_t hc h)
theorem t2_94f {go : Nat → St → Option ORes} (hgo : go = orun method_4_code (Option.some Jvm.ClassFile.FieldType.int) E2 0) {n cs ss : Nat} {L : List Slot} {S : List Value} {H : AH} {q : Option ORes → Prop} {x y : Int32} (hc : ¬ x < y) (h : Rsq (go n (99, L, S, H, cs, ss)) q) : Rsq (go (n + 1) (94, L, (.int y :: .int x :: S), H, cs, ss)) q := by
  subst hgo
  exact res_of s2_94 (res_f hc h)
theorem t2_97 {go : Nat → St → Option ORes} (hgo : go = orun method_4_code (Option.some Jvm.ClassFile.FieldType.int) E2 0) {n cs ss : Nat} {L : List Slot} {S : List Value} {H : AH} {q : Option ORes → Prop} (h : Rsq (go n (98, L, (.int (-1) :: S), H, cs, ss)) q) : Rsq (go (n + 1) (97, L, S, H, cs, ss)) q := by
  subst hgo
  exact res_of s2_97 h
theorem t2_98 {go : Nat → St → Option ORes} (hgo : go = orun method_4_code (Option.some Jvm.ClassFile.FieldType.int) E2 0) {n cs ss : Nat} {L : List Slot} {S : List Value} {H : AH} {q : Option ORes → Prop} {z : Int32} (h : q (some (some (.int z), H))) : Rsq (go (n + 1) (98, L, (.int z :: S), H, cs, ss)) q := by
  subst hgo
  exact res_of s2_98 h
theorem t2_99 {go : Nat → St → Option ORes} (hgo : go = orun method_4_code (Option.some Jvm.ClassFile.FieldType.int) E2 0) {n cs ss : Nat} {l1 l2 l3 l4 l5 l6 l7 : Slot} {S : List Value} {H : AH} {q : Option ORes → Prop} {v : Value} (hv : isA v = true) (h : Rsq (go n (100, [.val v, l1, l2, l3, l4, l5, l6, l7], (v :: S), H, cs, ss)) q) : Rsq (go (n + 1) (99, [.val v, l1, l2, l3, l4, l5, l6, l7], S, H, cs, ss)) q := by
  subst hgo
  refine res_of s2_99 ?_
  rw [gA_isA (L := [.val v, l1, l2, l3, l4, l5, l6, l7]) (k := 0) (v := v) rfl hv]
  exact h
theorem t2_100 {go : Nat → St → Option ORes} (hgo : go = orun method_4_code (Option.some Jvm.ClassFile.FieldType.int) E2 0) {n cs ss : Nat} {l0 l1 l3 l4 l5 l6 l7 : Slot} {S : List Value} {H : AH} {q : Option ORes → Prop} {v : Int32} (h : Rsq (go n (101, [l0, l1, .val (.int v), l3, l4, l5, l6, l7], (.int v :: S), H, cs, ss)) q) : Rsq (go (n + 1) (100, [l0, l1, .val (.int v), l3, l4, l5, l6, l7], S, H, cs, ss)) q := by
  subst hgo
  exact res_of s2_100 h
theorem t2_101 {go : Nat → St → Option ORes} (hgo : go = orun method_4_code (Option.some Jvm.ClassFile.FieldType.int) E2 0) {n cs ss : Nat} {L : List Slot} {S : List Value} {H : AH} {q : Option ORes → Prop} (h : Rsq (go n (102, L, (.int 1 :: S), H, cs, ss)) q) : Rsq (go (n + 1) (101, L, S, H, cs, ss)) q := by
  subst hgo
  exact res_of s2_101 h
theorem t2_102 {go : Nat → St → Option ORes} (hgo : go = orun method_4_code (Option.some Jvm.ClassFile.FieldType.int) E2 0) {n cs ss : Nat} {L : List Slot} {S : List Value} {H : AH} {q : Option ORes → Prop} {x y : Int32} (h : Rsq (go n (103, L, (.int (x + y) :: S), H, cs, ss)) q) : Rsq (go (n + 1) (102, L, (.int y :: .int x :: S), H, cs, ss)) q := by
  subst hgo
  exact res_of s2_102 h
theorem u2_103 {go : Nat → St → Option ORes} (hgo : go = orun method_4_code (Option.some Jvm.ClassFile.FieldType.int) E2 0) {n cs ss : Nat} {L : List Slot} {S : List Value} {H : AH} : go (n + 1) (103, L, S, H, cs, ss) = ex (Option.some Jvm.ClassFile.FieldType.int) E2 0 (go n) (.baload) 103 L S H cs ss := by
  subst hgo
  exact s2_103
theorem t2_104 {go : Nat → St → Option ORes} (hgo : go = orun method_4_code (Option.some Jvm.ClassFile.FieldType.int) E2 0) {n cs ss : Nat} {L : List Slot} {S : List Value} {H : AH} {q : Option ORes → Prop} (h : Rsq (go n (107, L, (.int 255 :: S), H, cs, ss)) q) : Rsq (go (n + 1) (104, L, S, H, cs, ss)) q := by
  subst hgo
  exact res_of s2_104 h
theorem t2_107 {go : Nat → St → Option ORes} (hgo : go = orun method_4_code (Option.some Jvm.ClassFile.FieldType.int) E2 0) {n cs ss : Nat} {L : List Slot} {S : List Value} {H : AH} {q : Option ORes → Prop} {x y : Int32} (h : Rsq (go n (108, L, (.int (x &&& y) :: S), H, cs, ss)) q) : Rsq (go (n + 1) (107, L, (.int y :: .int x :: S), H, cs, ss)) q := by
  subst hgo
  exact res_of s2_107 h
theorem t2_108 {go : Nat → St → Option ORes} (hgo : go = orun method_4_code (Option.some Jvm.ClassFile.FieldType.int) E2 0) {n cs ss : Nat} {l0 l1 l2 l3 l4 l5 l6 l7 : Slot} {S : List Value} {H : AH} {q : Option ORes → Prop} {x : Int32} (hk : so l6 = true) (h : Rsq (go n (110, [l0, l1, l2, l3, l4, l5, .val (.int x), l7], S, H, cs, ss)) q) : Rsq (go (n + 1) (108, [l0, l1, l2, l3, l4, l5, l6, l7], (.int x :: S), H, cs, ss)) q := by
  subst hgo
  refine res_of s2_108 ?_
  rw [pI_int, st1_so (L := [l0, l1, l2, l3, l4, l5, l6, l7]) (k := 6) (l := l6) rfl hk]
  exact h
theorem t2_110 {go : Nat → St → Option ORes} (hgo : go = orun method_4_code (Option.some Jvm.ClassFile.FieldType.int) E2 0) {n cs ss : Nat} {l0 l1 l2 l3 l4 l5 l7 : Slot} {S : List Value} {H : AH} {q : Option ORes → Prop} {v : Int32} (h : Rsq (go n (112, [l0, l1, l2, l3, l4, l5, .val (.int v), l7], (.int v :: S), H, cs, ss)) q) : Rsq (go (n + 1) (110, [l0, l1, l2, l3, l4, l5, .val (.int v), l7], S, H, cs, ss)) q := by
  subst hgo
  exact res_of s2_110 h
theorem t2_112 {go : Nat → St → Option ORes} (hgo : go = orun method_4_code (Option.some Jvm.ClassFile.FieldType.int) E2 0) {n cs ss : Nat} {L : List Slot} {S : List Value} {H : AH} {q : Option ORes → Prop} (h : Rsq (go n (115, L, (.int 192 :: S), H, cs, ss)) q) : Rsq (go (n + 1) (112, L, S, H, cs, ss)) q := by
  subst hgo
  exact res_of s2_112 h
theorem t2_115 {go : Nat → St → Option ORes} (hgo : go = orun method_4_code (Option.some Jvm.ClassFile.FieldType.int) E2 0) {n cs ss : Nat} {L : List Slot} {S : List Value} {H : AH} {q : Option ORes → Prop} {x y : Int32} (h : Rsq (go n (116, L, (.int (x &&& y) :: S), H, cs, ss)) q) : Rsq (go (n + 1) (115, L, (.int y :: .int x :: S), H, cs, ss)) q := by
  subst hgo
  exact res_of s2_115 h
theorem t2_116 {go : Nat → St → Option ORes} (hgo : go = orun method_4_code (Option.some Jvm.ClassFile.FieldType.int) E2 0) {n cs ss : Nat} {L : List Slot} {S : List Value} {H : AH} {q : Option ORes → Prop} (h : Rsq (go n (119, L, (.int 128 :: S), H, cs, ss)) q) : Rsq (go (n + 1) (116, L, S, H, cs, ss)) q := by
  subst hgo
  exact res_of s2_116 h
theorem t2_119t {go : Nat → St → Option ORes} (hgo : go = orun method_4_code (Option.some Jvm.ClassFile.FieldType.int) E2 0) {n cs ss : Nat} {L : List Slot} {S : List Value} {H : AH} {q : Option ORes → Prop} {x y : Int32} (hc : x = y) (h : Rsq (go n (124, L, S, H, cs, ss)) q) : Rsq (go (n + 1) (119, L, (.int y :: .int x :: S), H, cs, ss)) q := by
  subst hgo
  exact res_of s2_119 (res_t hc h)
theorem t2_119f {go : Nat → St → Option ORes} (hgo : go = orun method_4_code (Option.some Jvm.ClassFile.FieldType.int) E2 0) {n cs ss : Nat} {L : List Slot} {S : List Value} {H : AH} {q : Option ORes → Prop} {x y : Int32} (hc : ¬ x = y) (h : Rsq (go n (122, L, S, H, cs, ss)) q) : Rsq (go (n + 1) (119, L, (.int y :: .int x :: S), H, cs, ss)) q := by
  subst hgo
  exact res_of s2_119 (res_f hc h)
theorem t2_122 {go : Nat → St → Option ORes} (hgo : go = orun method_4_code (Option.some Jvm.ClassFile.FieldType.int) E2 0) {n cs ss : Nat} {L : List Slot} {S : List Value} {H : AH} {q : Option ORes → Prop} (h : Rsq (go n (123, L, (.int (-1) :: S), H, cs, ss)) q) : Rsq (go (n + 1) (122, L, S, H, cs, ss)) q := by
  subst hgo
  exact res_of s2_122 h
theorem t2_123 {go : Nat → St → Option ORes} (hgo : go = orun method_4_code (Option.some Jvm.ClassFile.FieldType.int) E2 0) {n cs ss : Nat} {L : List Slot} {S : List Value} {H : AH} {q : Option ORes → Prop} {z : Int32} (h : q (some (some (.int z), H))) : Rsq (go (n + 1) (123, L, (.int z :: S), H, cs, ss)) q := by
  subst hgo
  exact res_of s2_123 h
theorem t2_124 {go : Nat → St → Option ORes} (hgo : go = orun method_4_code (Option.some Jvm.ClassFile.FieldType.int) E2 0) {n cs ss : Nat} {l0 l1 l2 l3 l4 l6 l7 : Slot} {S : List Value} {H : AH} {q : Option ORes → Prop} {v : Int32} (h : Rsq (go n (126, [l0, l1, l2, l3, l4, .val (.int v), l6, l7], (.int v :: S), H, cs, ss)) q) : Rsq (go (n + 1) (124, [l0, l1, l2, l3, l4, .val (.int v), l6, l7], S, H, cs, ss)) q := by
  subst hgo
  exact res_of s2_124 h
theorem t2_126 {go : Nat → St → Option ORes} (hgo : go = orun method_4_code (Option.some Jvm.ClassFile.FieldType.int) E2 0) {n cs ss : Nat} {L : List Slot} {S : List Value} {H : AH} {q : Option ORes → Prop} (h : Rsq (go n (128, L, (.int 6 :: S), H, cs, ss)) q) : Rsq (go (n + 1) (126, L, S, H, cs, ss)) q := by
  subst hgo
  exact res_of s2_126 h
theorem t2_128 {go : Nat → St → Option ORes} (hgo : go = orun method_4_code (Option.some Jvm.ClassFile.FieldType.int) E2 0) {n cs ss : Nat} {L : List Slot} {S : List Value} {H : AH} {q : Option ORes → Prop} {x y : Int32} (h : Rsq (go n (129, L, (.int (x <<< (y &&& 31)) :: S), H, cs, ss)) q) : Rsq (go (n + 1) (128, L, (.int y :: .int x :: S), H, cs, ss)) q := by
  subst hgo
  exact res_of s2_128 h
theorem t2_129 {go : Nat → St → Option ORes} (hgo : go = orun method_4_code (Option.some Jvm.ClassFile.FieldType.int) E2 0) {n cs ss : Nat} {l0 l1 l2 l3 l4 l5 l7 : Slot} {S : List Value} {H : AH} {q : Option ORes → Prop} {v : Int32} (h : Rsq (go n (131, [l0, l1, l2, l3, l4, l5, .val (.int v), l7], (.int v :: S), H, cs, ss)) q) : Rsq (go (n + 1) (129, [l0, l1, l2, l3, l4, l5, .val (.int v), l7], S, H, cs, ss)) q := by
  subst hgo
  exact res_of s2_129 h
theorem t2_131 {go : Nat → St → Option ORes} (hgo : go = orun method_4_code (Option.some Jvm.ClassFile.FieldType.int) E2 0) {n cs ss : Nat} {L : List Slot} {S : List Value} {H : AH} {q : Option ORes → Prop} (h : Rsq (go n (133, L, (.int 63 :: S), H, cs, ss)) q) : Rsq (go (n + 1) (131, L, S, H, cs, ss)) q := by
  subst hgo
  exact res_of s2_131 h
theorem t2_133 {go : Nat → St → Option ORes} (hgo : go = orun method_4_code (Option.some Jvm.ClassFile.FieldType.int) E2 0) {n cs ss : Nat} {L : List Slot} {S : List Value} {H : AH} {q : Option ORes → Prop} {x y : Int32} (h : Rsq (go n (134, L, (.int (x &&& y) :: S), H, cs, ss)) q) : Rsq (go (n + 1) (133, L, (.int y :: .int x :: S), H, cs, ss)) q := by
  subst hgo
  exact res_of s2_133 h
theorem t2_134 {go : Nat → St → Option ORes} (hgo : go = orun method_4_code (Option.some Jvm.ClassFile.FieldType.int) E2 0) {n cs ss : Nat} {L : List Slot} {S : List Value} {H : AH} {q : Option ORes → Prop} {x y : Int32} (h : Rsq (go n (135, L, (.int (x ||| y) :: S), H, cs, ss)) q) : Rsq (go (n + 1) (134, L, (.int y :: .int x :: S), H, cs, ss)) q := by
  subst hgo
  exact res_of s2_134 h
theorem t2_135 {go : Nat → St → Option ORes} (hgo : go = orun method_4_code (Option.some Jvm.ClassFile.FieldType.int) E2 0) {n cs ss : Nat} {l0 l1 l2 l3 l4 l5 l6 l7 : Slot} {S : List Value} {H : AH} {q : Option ORes → Prop} {x : Int32} (hk : so l5 = true) (h : Rsq (go n (137, [l0, l1, l2, l3, l4, .val (.int x), l6, l7], S, H, cs, ss)) q) : Rsq (go (n + 1) (135, [l0, l1, l2, l3, l4, l5, l6, l7], (.int x :: S), H, cs, ss)) q := by
  subst hgo
  refine res_of s2_135 ?_
  rw [pI_int, st1_so (L := [l0, l1, l2, l3, l4, l5, l6, l7]) (k := 5) (l := l5) rfl hk]
  exact h
theorem t2_137 {go : Nat → St → Option ORes} (hgo : go = orun method_4_code (Option.some Jvm.ClassFile.FieldType.int) E2 0) {n cs ss : Nat} {l0 l1 l2 l3 l5 l6 l7 : Slot} {S : List Value} {H : AH} {q : Option ORes → Prop} {v : Int32} (h : Rsq (go n (139, [l0, l1, l2, l3, .val (.int v), l5, l6, l7], (.int v :: S), H, cs, ss)) q) : Rsq (go (n + 1) (137, [l0, l1, l2, l3, .val (.int v), l5, l6, l7], S, H, cs, ss)) q := by
  subst hgo
  exact res_of s2_137 h
theorem t2_139 {go : Nat → St → Option ORes} (hgo : go = orun method_4_code (Option.some Jvm.ClassFile.FieldType.int) E2 0) {n cs ss : Nat} {L : List Slot} {S : List Value} {H : AH} {q : Option ORes → Prop} (h : Rsq (go n (140, L, (.int 3 :: S), H, cs, ss)) q) : Rsq (go (n + 1) (139, L, S, H, cs, ss)) q := by
  subst hgo
  exact res_of s2_139 h
theorem t2_140t {go : Nat → St → Option ORes} (hgo : go = orun method_4_code (Option.some Jvm.ClassFile.FieldType.int) E2 0) {n cs ss : Nat} {L : List Slot} {S : List Value} {H : AH} {q : Option ORes → Prop} {x y : Int32} (hc : x < y) (h : Rsq (go n (181, L, S, H, cs, ss)) q) : Rsq (go (n + 1) (140, L, (.int y :: .int x :: S), H, cs, ss)) q := by
  subst hgo
  exact res_of s2_140 (res_t hc h)
theorem t2_140f {go : Nat → St → Option ORes} (hgo : go = orun method_4_code (Option.some Jvm.ClassFile.FieldType.int) E2 0) {n cs ss : Nat} {L : List Slot} {S : List Value} {H : AH} {q : Option ORes → Prop} {x y : Int32} (hc : ¬ x < y) (h : Rsq (go n (143, L, S, H, cs, ss)) q) : Rsq (go (n + 1) (140, L, (.int y :: .int x :: S), H, cs, ss)) q := by
  subst hgo
  exact res_of s2_140 (res_f hc h)
theorem t2_143 {go : Nat → St → Option ORes} (hgo : go = orun method_4_code (Option.some Jvm.ClassFile.FieldType.int) E2 0) {n cs ss : Nat} {l1 l2 l3 l4 l5 l6 l7 : Slot} {S : List Value} {H : AH} {q : Option ORes → Prop} {v : Value} (hv : isA v = true) (h : Rsq (go n (144, [.val v, l1, l2, l3, l4, l5, l6, l7], (v :: S), H, cs, ss)) q) : Rsq (go (n + 1) (143, [.val v, l1, l2, l3, l4, l5, l6, l7], S, H, cs, ss)) q := by
  subst hgo
  refine res_of s2_143 ?_
  rw [gA_isA (L := [.val v, l1, l2, l3, l4, l5, l6, l7]) (k := 0) (v := v) rfl hv]
  exact h
theorem t2_144 {go : Nat → St → Option ORes} (hgo : go = orun method_4_code (Option.some Jvm.ClassFile.FieldType.int) E2 0) {n cs ss : Nat} {l0 l1 l3 l4 l5 l6 l7 : Slot} {S : List Value} {H : AH} {q : Option ORes → Prop} {v : Int32} (h : Rsq (go n (145, [l0, l1, .val (.int v), l3, l4, l5, l6, l7], (.int v :: S), H, cs, ss)) q) : Rsq (go (n + 1) (144, [l0, l1, .val (.int v), l3, l4, l5, l6, l7], S, H, cs, ss)) q := by
  subst hgo
  exact res_of s2_144 h
theorem t2_145 {go : Nat → St → Option ORes} (hgo : go = orun method_4_code (Option.some Jvm.ClassFile.FieldType.int) E2 0) {n cs ss : Nat} {L : List Slot} {S : List Value} {H : AH} {q : Option ORes → Prop} (h : Rsq (go n (146, L, (.int 2 :: S), H, cs, ss)) q) : Rsq (go (n + 1) (145, L, S, H, cs, ss)) q := by
  subst hgo
  exact res_of s2_145 h
theorem t2_146 {go : Nat → St → Option ORes} (hgo : go = orun method_4_code (Option.some Jvm.ClassFile.FieldType.int) E2 0) {n cs ss : Nat} {L : List Slot} {S : List Value} {H : AH} {q : Option ORes → Prop} {x y : Int32} (h : Rsq (go n (147, L, (.int (x + y) :: S), H, cs, ss)) q) : Rsq (go (n + 1) (146, L, (.int y :: .int x :: S), H, cs, ss)) q := by
  subst hgo
  exact res_of s2_146 h
theorem u2_147 {go : Nat → St → Option ORes} (hgo : go = orun method_4_code (Option.some Jvm.ClassFile.FieldType.int) E2 0) {n cs ss : Nat} {L : List Slot} {S : List Value} {H : AH} : go (n + 1) (147, L, S, H, cs, ss) = ex (Option.some Jvm.ClassFile.FieldType.int) E2 0 (go n) (.baload) 147 L S H cs ss := by
  subst hgo
  exact s2_147
theorem t2_148 {go : Nat → St → Option ORes} (hgo : go = orun method_4_code (Option.some Jvm.ClassFile.FieldType.int) E2 0) {n cs ss : Nat} {L : List Slot} {S : List Value} {H : AH} {q : Option ORes → Prop} (h : Rsq (go n (151, L, (.int 255 :: S), H, cs, ss)) q) : Rsq (go (n + 1) (148, L, S, H, cs, ss)) q := by
  subst hgo
  exact res_of s2_148 h
theorem t2_151 {go : Nat → St → Option ORes} (hgo : go = orun method_4_code (Option.some Jvm.ClassFile.FieldType.int) E2 0) {n cs ss : Nat} {L : List Slot} {S : List Value} {H : AH} {q : Option ORes → Prop} {x y : Int32} (h : Rsq (go n (152, L, (.int (x &&& y) :: S), H, cs, ss)) q) : Rsq (go (n + 1) (151, L, (.int y :: .int x :: S), H, cs, ss)) q := by
  subst hgo
  exact res_of s2_151 h
theorem t2_152 {go : Nat → St → Option ORes} (hgo : go = orun method_4_code (Option.some Jvm.ClassFile.FieldType.int) E2 0) {n cs ss : Nat} {l0 l1 l2 l3 l4 l5 l6 l7 : Slot} {S : List Value} {H : AH} {q : Option ORes → Prop} {x : Int32} (hk : so l7 = true) (h : Rsq (go n (154, [l0, l1, l2, l3, l4, l5, l6, .val (.int x)], S, H, cs, ss)) q) : Rsq (go (n + 1) (152, [l0, l1, l2, l3, l4, l5, l6, l7], (.int x :: S), H, cs, ss)) q := by
  subst hgo
  refine res_of s2_152 ?_
  rw [pI_int, st1_so (L := [l0, l1, l2, l3, l4, l5, l6, l7]) (k := 7) (l := l7) rfl hk]
  exact h
theorem t2_154 {go : Nat → St → Option ORes} (hgo : go = orun method_4_code (Option.some Jvm.ClassFile.FieldType.int) E2 0) {n cs ss : Nat} {l0 l1 l2 l3 l4 l5 l6 : Slot} {S : List Value} {H : AH} {q : Option ORes → Prop} {v : Int32} (h : Rsq (go n (156, [l0, l1, l2, l3, l4, l5, l6, .val (.int v)], (.int v :: S), H, cs, ss)) q) : Rsq (go (n + 1) (154, [l0, l1, l2, l3, l4, l5, l6, .val (.int v)], S, H, cs, ss)) q := by
  subst hgo
  exact res_of s2_154 h
theorem t2_156 {go : Nat → St → Option ORes} (hgo : go = orun method_4_code (Option.some Jvm.ClassFile.FieldType.int) E2 0) {n cs ss : Nat} {L : List Slot} {S : List Value} {H : AH} {q : Option ORes → Prop} (h : Rsq (go n (159, L, (.int 192 :: S), H, cs, ss)) q) : Rsq (go (n + 1) (156, L, S, H, cs, ss)) q := by
  subst hgo
  exact res_of s2_156 h
theorem t2_159 {go : Nat → St → Option ORes} (hgo : go = orun method_4_code (Option.some Jvm.ClassFile.FieldType.int) E2 0) {n cs ss : Nat} {L : List Slot} {S : List Value} {H : AH} {q : Option ORes → Prop} {x y : Int32} (h : Rsq (go n (160, L, (.int (x &&& y) :: S), H, cs, ss)) q) : Rsq (go (n + 1) (159, L, (.int y :: .int x :: S), H, cs, ss)) q := by
  subst hgo
  exact res_of s2_159 h
theorem t2_160 {go : Nat → St → Option ORes} (hgo : go = orun method_4_code (Option.some Jvm.ClassFile.FieldType.int) E2 0) {n cs ss : Nat} {L : List Slot} {S : List Value} {H : AH} {q : Option ORes → Prop} (h : Rsq (go n (163, L, (.int 128 :: S), H, cs, ss)) q) : Rsq (go (n + 1) (160, L, S, H, cs, ss)) q := by
  subst hgo
  exact res_of s2_160 h
theorem t2_163t {go : Nat → St → Option ORes} (hgo : go = orun method_4_code (Option.some Jvm.ClassFile.FieldType.int) E2 0) {n cs ss : Nat} {L : List Slot} {S : List Value} {H : AH} {q : Option ORes → Prop} {x y : Int32} (hc : x = y) (h : Rsq (go n (168, L, S, H, cs, ss)) q) : Rsq (go (n + 1) (163, L, (.int y :: .int x :: S), H, cs, ss)) q := by
  subst hgo
  exact res_of s2_163 (res_t hc h)
theorem t2_163f {go : Nat → St → Option ORes} (hgo : go = orun method_4_code (Option.some Jvm.ClassFile.FieldType.int) E2 0) {n cs ss : Nat} {L : List Slot} {S : List Value} {H : AH} {q : Option ORes → Prop} {x y : Int32} (hc : ¬ x = y) (h : Rsq (go n (166, L, S, H, cs, ss)) q) : Rsq (go (n + 1) (163, L, (.int y :: .int x :: S), H, cs, ss)) q := by
  subst hgo
  exact res_of s2_163 (res_f hc h)
theorem t2_166 {go : Nat → St → Option ORes} (hgo : go = orun method_4_code (Option.some Jvm.ClassFile.FieldType.int) E2 0) {n cs ss : Nat} {L : List Slot} {S : List Value} {H : AH} {q : Option ORes → Prop} (h : Rsq (go n (167, L, (.int (-1) :: S), H, cs, ss)) q) : Rsq (go (n + 1) (166, L, S, H, cs, ss)) q := by
  subst hgo
  exact res_of s2_166 h
theorem t2_167 {go : Nat → St → Option ORes} (hgo : go = orun method_4_code (Option.some Jvm.ClassFile.FieldType.int) E2 0) {n cs ss : Nat} {L : List Slot} {S : List Value} {H : AH} {q : Option ORes → Prop} {z : Int32} (h : q (some (some (.int z), H))) : Rsq (go (n + 1) (167, L, (.int z :: S), H, cs, ss)) q := by
  subst hgo
  exact res_of s2_167 h
theorem t2_168 {go : Nat → St → Option ORes} (hgo : go = orun method_4_code (Option.some Jvm.ClassFile.FieldType.int) E2 0) {n cs ss : Nat} {l0 l1 l2 l3 l4 l6 l7 : Slot} {S : List Value} {H : AH} {q : Option ORes → Prop} {v : Int32} (h : Rsq (go n (170, [l0, l1, l2, l3, l4, .val (.int v), l6, l7], (.int v :: S), H, cs, ss)) q) : Rsq (go (n + 1) (168, [l0, l1, l2, l3, l4, .val (.int v), l6, l7], S, H, cs, ss)) q := by
  subst hgo
  exact res_of s2_168 h
theorem t2_170 {go : Nat → St → Option ORes} (hgo : go = orun method_4_code (Option.some Jvm.ClassFile.FieldType.int) E2 0) {n cs ss : Nat} {L : List Slot} {S : List Value} {H : AH} {q : Option ORes → Prop} (h : Rsq (go n (172, L, (.int 6 :: S), H, cs, ss)) q) : Rsq (go (n + 1) (170, L, S, H, cs, ss)) q := by
  subst hgo
  exact res_of s2_170 h
theorem t2_172 {go : Nat → St → Option ORes} (hgo : go = orun method_4_code (Option.some Jvm.ClassFile.FieldType.int) E2 0) {n cs ss : Nat} {L : List Slot} {S : List Value} {H : AH} {q : Option ORes → Prop} {x y : Int32} (h : Rsq (go n (173, L, (.int (x <<< (y &&& 31)) :: S), H, cs, ss)) q) : Rsq (go (n + 1) (172, L, (.int y :: .int x :: S), H, cs, ss)) q := by
  subst hgo
  exact res_of s2_172 h
theorem t2_173 {go : Nat → St → Option ORes} (hgo : go = orun method_4_code (Option.some Jvm.ClassFile.FieldType.int) E2 0) {n cs ss : Nat} {l0 l1 l2 l3 l4 l5 l6 : Slot} {S : List Value} {H : AH} {q : Option ORes → Prop} {v : Int32} (h : Rsq (go n (175, [l0, l1, l2, l3, l4, l5, l6, .val (.int v)], (.int v :: S), H, cs, ss)) q) : Rsq (go (n + 1) (173, [l0, l1, l2, l3, l4, l5, l6, .val (.int v)], S, H, cs, ss)) q := by
  subst hgo
  exact res_of s2_173 h
theorem t2_175 {go : Nat → St → Option ORes} (hgo : go = orun method_4_code (Option.some Jvm.ClassFile.FieldType.int) E2 0) {n cs ss : Nat} {L : List Slot} {S : List Value} {H : AH} {q : Option ORes → Prop} (h : Rsq (go n (177, L, (.int 63 :: S), H, cs, ss)) q) : Rsq (go (n + 1) (175, L, S, H, cs, ss)) q := by
  subst hgo
  exact res_of s2_175 h
theorem t2_177 {go : Nat → St → Option ORes} (hgo : go = orun method_4_code (Option.some Jvm.ClassFile.FieldType.int) E2 0) {n cs ss : Nat} {L : List Slot} {S : List Value} {H : AH} {q : Option ORes → Prop} {x y : Int32} (h : Rsq (go n (178, L, (.int (x &&& y) :: S), H, cs, ss)) q) : Rsq (go (n + 1) (177, L, (.int y :: .int x :: S), H, cs, ss)) q := by
  subst hgo
  exact res_of s2_177 h
theorem t2_178 {go : Nat → St → Option ORes} (hgo : go = orun method_4_code (Option.some Jvm.ClassFile.FieldType.int) E2 0) {n cs ss : Nat} {L : List Slot} {S : List Value} {H : AH} {q : Option ORes → Prop} {x y : Int32} (h : Rsq (go n (179, L, (.int (x ||| y) :: S), H, cs, ss)) q) : Rsq (go (n + 1) (178, L, (.int y :: .int x :: S), H, cs, ss)) q := by
  subst hgo
  exact res_of s2_178 h
theorem t2_179 {go : Nat → St → Option ORes} (hgo : go = orun method_4_code (Option.some Jvm.ClassFile.FieldType.int) E2 0) {n cs ss : Nat} {l0 l1 l2 l3 l4 l5 l6 l7 : Slot} {S : List Value} {H : AH} {q : Option ORes → Prop} {x : Int32} (hk : so l5 = true) (h : Rsq (go n (181, [l0, l1, l2, l3, l4, .val (.int x), l6, l7], S, H, cs, ss)) q) : Rsq (go (n + 1) (179, [l0, l1, l2, l3, l4, l5, l6, l7], (.int x :: S), H, cs, ss)) q := by
  subst hgo
  refine res_of s2_179 ?_
  rw [pI_int, st1_so (L := [l0, l1, l2, l3, l4, l5, l6, l7]) (k := 5) (l := l5) rfl hk]
  exact h
theorem t2_181 {go : Nat → St → Option ORes} (hgo : go = orun method_4_code (Option.some Jvm.ClassFile.FieldType.int) E2 0) {n cs ss : Nat} {l0 l1 l2 l3 l5 l6 l7 : Slot} {S : List Value} {H : AH} {q : Option ORes → Prop} {v : Int32} (h : Rsq (go n (183, [l0, l1, l2, l3, .val (.int v), l5, l6, l7], (.int v :: S), H, cs, ss)) q) : Rsq (go (n + 1) (181, [l0, l1, l2, l3, .val (.int v), l5, l6, l7], S, H, cs, ss)) q := by
  subst hgo
  exact res_of s2_181 h
theorem t2_183 {go : Nat → St → Option ORes} (hgo : go = orun method_4_code (Option.some Jvm.ClassFile.FieldType.int) E2 0) {n cs ss : Nat} {L : List Slot} {S : List Value} {H : AH} {q : Option ORes → Prop} (h : Rsq (go n (184, L, (.int 4 :: S), H, cs, ss)) q) : Rsq (go (n + 1) (183, L, S, H, cs, ss)) q := by
  subst hgo
  exact res_of s2_183 h
theorem t2_184t {go : Nat → St → Option ORes} (hgo : go = orun method_4_code (Option.some Jvm.ClassFile.FieldType.int) E2 0) {n cs ss : Nat} {L : List Slot} {S : List Value} {H : AH} {q : Option ORes → Prop} {x y : Int32} (hc : x = y) (h : Rsq (go n (187, L, S, H, cs, ss)) q) : Rsq (go (n + 1) (184, L, (.int y :: .int x :: S), H, cs, ss)) q := by
  subst hgo
  exact res_of s2_184 (res_t hc h)
theorem t2_184f {go : Nat → St → Option ORes} (hgo : go = orun method_4_code (Option.some Jvm.ClassFile.FieldType.int) E2 0) {n cs ss : Nat} {L : List Slot} {S : List Value} {H : AH} {q : Option ORes → Prop} {x y : Int32} (hc : ¬ x = y) (h : Rsq (go n (225, L, S, H, cs, ss)) q) : Rsq (go (n + 1) (184, L, (.int y :: .int x :: S), H, cs, ss)) q := by
  subst hgo
  exact res_of s2_184 (res_f hc h)
theorem t2_187 {go : Nat → St → Option ORes} (hgo : go = orun method_4_code (Option.some Jvm.ClassFile.FieldType.int) E2 0) {n cs ss : Nat} {l1 l2 l3 l4 l5 l6 l7 : Slot} {S : List Value} {H : AH} {q : Option ORes → Prop} {v : Value} (hv : isA v = true) (h : Rsq (go n (188, [.val v, l1, l2, l3, l4, l5, l6, l7], (v :: S), H, cs, ss)) q) : Rsq (go (n + 1) (187, [.val v, l1, l2, l3, l4, l5, l6, l7], S, H, cs, ss)) q := by
  subst hgo
  refine res_of s2_187 ?_
  rw [gA_isA (L := [.val v, l1, l2, l3, l4, l5, l6, l7]) (k := 0) (v := v) rfl hv]
  exact h
theorem t2_188 {go : Nat → St → Option ORes} (hgo : go = orun method_4_code (Option.some Jvm.ClassFile.FieldType.int) E2 0) {n cs ss : Nat} {l0 l1 l3 l4 l5 l6 l7 : Slot} {S : List Value} {H : AH} {q : Option ORes → Prop} {v : Int32} (h : Rsq (go n (189, [l0, l1, .val (.int v), l3, l4, l5, l6, l7], (.int v :: S), H, cs, ss)) q) : Rsq (go (n + 1) (188, [l0, l1, .val (.int v), l3, l4, l5, l6, l7], S, H, cs, ss)) q := by
  subst hgo
  exact res_of s2_188 h
theorem t2_189 {go : Nat → St → Option ORes} (hgo : go = orun method_4_code (Option.some Jvm.ClassFile.FieldType.int) E2 0) {n cs ss : Nat} {L : List Slot} {S : List Value} {H : AH} {q : Option ORes → Prop} (h : Rsq (go n (190, L, (.int 3 :: S), H, cs, ss)) q) : Rsq (go (n + 1) (189, L, S, H, cs, ss)) q := by
  subst hgo
  exact res_of s2_189 h
theorem t2_190 {go : Nat → St → Option ORes} (hgo : go = orun method_4_code (Option.some Jvm.ClassFile.FieldType.int) E2 0) {n cs ss : Nat} {L : List Slot} {S : List Value} {H : AH} {q : Option ORes → Prop} {x y : Int32} (h : Rsq (go n (191, L, (.int (x + y) :: S), H, cs, ss)) q) : Rsq (go (n + 1) (190, L, (.int y :: .int x :: S), H, cs, ss)) q := by
  subst hgo
  exact res_of s2_190 h
theorem u2_191 {go : Nat → St → Option ORes} (hgo : go = orun method_4_code (Option.some Jvm.ClassFile.FieldType.int) E2 0) {n cs ss : Nat} {L : List Slot} {S : List Value} {H : AH} : go (n + 1) (191, L, S, H, cs, ss) = ex (Option.some Jvm.ClassFile.FieldType.int) E2 0 (go n) (.baload) 191 L S H cs ss := by
  subst hgo
  exact s2_191
theorem t2_192 {go : Nat → St → Option ORes} (hgo : go = orun method_4_code (Option.some Jvm.ClassFile.FieldType.int) E2 0) {n cs ss : Nat} {L : List Slot} {S : List Value} {H : AH} {q : Option ORes → Prop} (h : Rsq (go n (195, L, (.int 255 :: S), H, cs, ss)) q) : Rsq (go (n + 1) (192, L, S, H, cs, ss)) q := by
  subst hgo
  exact res_of s2_192 h
theorem t2_195 {go : Nat → St → Option ORes} (hgo : go = orun method_4_code (Option.some Jvm.ClassFile.FieldType.int) E2 0) {n cs ss : Nat} {L : List Slot} {S : List Value} {H : AH} {q : Option ORes → Prop} {x y : Int32} (h : Rsq (go n (196, L, (.int (x &&& y) :: S), H, cs, ss)) q) : Rsq (go (n + 1) (195, L, (.int y :: .int x :: S), H, cs, ss)) q := by
  subst hgo
  exact res_of s2_195 h
theorem t2_196 {go : Nat → St → Option ORes} (hgo : go = orun method_4_code (Option.some Jvm.ClassFile.FieldType.int) E2 0) {n cs ss : Nat} {l0 l1 l2 l3 l4 l5 l6 l7 : Slot} {S : List Value} {H : AH} {q : Option ORes → Prop} {x : Int32} (hk : so l7 = true) (h : Rsq (go n (198, [l0, l1, l2, l3, l4, l5, l6, .val (.int x)], S, H, cs, ss)) q) : Rsq (go (n + 1) (196, [l0, l1, l2, l3, l4, l5, l6, l7], (.int x :: S), H, cs, ss)) q := by
  subst hgo
  refine res_of s2_196 ?_
  rw [pI_int, st1_so (L := [l0, l1, l2, l3, l4, l5, l6, l7]) (k := 7) (l := l7) rfl hk]
  exact h
theorem t2_198 {go : Nat → St → Option ORes} (hgo : go = orun method_4_code (Option.some Jvm.ClassFile.FieldType.int) E2 0) {n cs ss : Nat} {l0 l1 l2 l3 l4 l5 l6 : Slot} {S : List Value} {H : AH} {q : Option ORes → Prop} {v : Int32} (h : Rsq (go n (200, [l0, l1, l2, l3, l4, l5, l6, .val (.int v)], (.int v :: S), H, cs, ss)) q) : Rsq (go (n + 1) (198, [l0, l1, l2, l3, l4, l5, l6, .val (.int v)], S, H, cs, ss)) q := by
  subst hgo
  exact res_of s2_198 h
theorem t2_200 {go : Nat → St → Option ORes} (hgo : go = orun method_4_code (Option.some Jvm.ClassFile.FieldType.int) E2 0) {n cs ss : Nat} {L : List Slot} {S : List Value} {H : AH} {q : Option ORes → Prop} (h : Rsq (go n (203, L, (.int 192 :: S), H, cs, ss)) q) : Rsq (go (n + 1) (200, L, S, H, cs, ss)) q := by
  subst hgo
  exact res_of s2_200 h
theorem t2_203 {go : Nat → St → Option ORes} (hgo : go = orun method_4_code (Option.some Jvm.ClassFile.FieldType.int) E2 0) {n cs ss : Nat} {L : List Slot} {S : List Value} {H : AH} {q : Option ORes → Prop} {x y : Int32} (h : Rsq (go n (204, L, (.int (x &&& y) :: S), H, cs, ss)) q) : Rsq (go (n + 1) (203, L, (.int y :: .int x :: S), H, cs, ss)) q := by
  subst hgo
  exact res_of s2_203 h
theorem t2_204 {go : Nat → St → Option ORes} (hgo : go = orun method_4_code (Option.some Jvm.ClassFile.FieldType.int) E2 0) {n cs ss : Nat} {L : List Slot} {S : List Value} {H : AH} {q : Option ORes → Prop} (h : Rsq (go n (207, L, (.int 128 :: S), H, cs, ss)) q) : Rsq (go (n + 1) (204, L, S, H, cs, ss)) q := by
  subst hgo
  exact res_of s2_204 h
theorem t2_207t {go : Nat → St → Option ORes} (hgo : go = orun method_4_code (Option.some Jvm.ClassFile.FieldType.int) E2 0) {n cs ss : Nat} {L : List Slot} {S : List Value} {H : AH} {q : Option ORes → Prop} {x y : Int32} (hc : x = y) (h : Rsq (go n (212, L, S, H, cs, ss)) q) : Rsq (go (n + 1) (207, L, (.int y :: .int x :: S), H, cs, ss)) q := by
  subst hgo
  exact res_of s2_207 (res_t hc h)
theorem t2_207f {go : Nat → St → Option ORes} (hgo : go = orun method_4_code (Option.some Jvm.ClassFile.FieldType.int) E2 0) {n cs ss : Nat} {L : List Slot} {S : List Value} {H : AH} {q : Option ORes → Prop} {x y : Int32} (hc : ¬ x = y) (h : Rsq (go n (210, L, S, H, cs, ss)) q) : Rsq (go (n + 1) (207, L, (.int y :: .int x :: S), H, cs, ss)) q := by
  subst hgo
  exact res_of s2_207 (res_f hc h)
theorem t2_210 {go : Nat → St → Option ORes} (hgo : go = orun method_4_code (Option.some Jvm.ClassFile.FieldType.int) E2 0) {n cs ss : Nat} {L : List Slot} {S : List Value} {H : AH} {q : Option ORes → Prop} (h : Rsq (go n (211, L, (.int (-1) :: S), H, cs, ss)) q) : Rsq (go (n + 1) (210, L, S, H, cs, ss)) q := by
  subst hgo
  exact res_of s2_210 h
theorem t2_211 {go : Nat → St → Option ORes} (hgo : go = orun method_4_code (Option.some Jvm.ClassFile.FieldType.int) E2 0) {n cs ss : Nat} {L : List Slot} {S : List Value} {H : AH} {q : Option ORes → Prop} {z : Int32} (h : q (some (some (.int z), H))) : Rsq (go (n + 1) (211, L, (.int z :: S), H, cs, ss)) q := by
  subst hgo
  exact res_of s2_211 h
theorem t2_212 {go : Nat → St → Option ORes} (hgo : go = orun method_4_code (Option.some Jvm.ClassFile.FieldType.int) E2 0) {n cs ss : Nat} {l0 l1 l2 l3 l4 l6 l7 : Slot} {S : List Value} {H : AH} {q : Option ORes → Prop} {v : Int32} (h : Rsq (go n (214, [l0, l1, l2, l3, l4, .val (.int v), l6, l7], (.int v :: S), H, cs, ss)) q) : Rsq (go (n + 1) (212, [l0, l1, l2, l3, l4, .val (.int v), l6, l7], S, H, cs, ss)) q := by
  subst hgo
  exact res_of s2_212 h
theorem t2_214 {go : Nat → St → Option ORes} (hgo : go = orun method_4_code (Option.some Jvm.ClassFile.FieldType.int) E2 0) {n cs ss : Nat} {L : List Slot} {S : List Value} {H : AH} {q : Option ORes → Prop} (h : Rsq (go n (216, L, (.int 6 :: S), H, cs, ss)) q) : Rsq (go (n + 1) (214, L, S, H, cs, ss)) q := by
  subst hgo
  exact res_of s2_214 h
theorem t2_216 {go : Nat → St → Option ORes} (hgo : go = orun method_4_code (Option.some Jvm.ClassFile.FieldType.int) E2 0) {n cs ss : Nat} {L : List Slot} {S : List Value} {H : AH} {q : Option ORes → Prop} {x y : Int32} (h : Rsq (go n (217, L, (.int (x <<< (y &&& 31)) :: S), H, cs, ss)) q) : Rsq (go (n + 1) (216, L, (.int y :: .int x :: S), H, cs, ss)) q := by
  subst hgo
  exact res_of s2_216 h
theorem t2_217 {go : Nat → St → Option ORes} (hgo : go = orun method_4_code (Option.some Jvm.ClassFile.FieldType.int) E2 0) {n cs ss : Nat} {l0 l1 l2 l3 l4 l5 l6 : Slot} {S : List Value} {H : AH} {q : Option ORes → Prop} {v : Int32} (h : Rsq (go n (219, [l0, l1, l2, l3, l4, l5, l6, .val (.int v)], (.int v :: S), H, cs, ss)) q) : Rsq (go (n + 1) (217, [l0, l1, l2, l3, l4, l5, l6, .val (.int v)], S, H, cs, ss)) q := by
  subst hgo
  exact res_of s2_217 h
theorem t2_219 {go : Nat → St → Option ORes} (hgo : go = orun method_4_code (Option.some Jvm.ClassFile.FieldType.int) E2 0) {n cs ss : Nat} {L : List Slot} {S : List Value} {H : AH} {q : Option ORes → Prop} (h : Rsq (go n (221, L, (.int 63 :: S), H, cs, ss)) q) : Rsq (go (n + 1) (219, L, S, H, cs, ss)) q := by
  subst hgo
  exact res_of s2_219 h
theorem t2_221 {go : Nat → St → Option ORes} (hgo : go = orun method_4_code (Option.some Jvm.ClassFile.FieldType.int) E2 0) {n cs ss : Nat} {L : List Slot} {S : List Value} {H : AH} {q : Option ORes → Prop} {x y : Int32} (h : Rsq (go n (222, L, (.int (x &&& y) :: S), H, cs, ss)) q) : Rsq (go (n + 1) (221, L, (.int y :: .int x :: S), H, cs, ss)) q := by
  subst hgo
  exact res_of s2_221 h
theorem t2_222 {go : Nat → St → Option ORes} (hgo : go = orun method_4_code (Option.some Jvm.ClassFile.FieldType.int) E2 0) {n cs ss : Nat} {L : List Slot} {S : List Value} {H : AH} {q : Option ORes → Prop} {x y : Int32} (h : Rsq (go n (223, L, (.int (x ||| y) :: S), H, cs, ss)) q) : Rsq (go (n + 1) (222, L, (.int y :: .int x :: S), H, cs, ss)) q := by
  subst hgo
  exact res_of s2_222 h
theorem t2_223 {go : Nat → St → Option ORes} (hgo : go = orun method_4_code (Option.some Jvm.ClassFile.FieldType.int) E2 0) {n cs ss : Nat} {l0 l1 l2 l3 l4 l5 l6 l7 : Slot} {S : List Value} {H : AH} {q : Option ORes → Prop} {x : Int32} (hk : so l5 = true) (h : Rsq (go n (225, [l0, l1, l2, l3, l4, .val (.int x), l6, l7], S, H, cs, ss)) q) : Rsq (go (n + 1) (223, [l0, l1, l2, l3, l4, l5, l6, l7], (.int x :: S), H, cs, ss)) q := by
  subst hgo
  refine res_of s2_223 ?_
  rw [pI_int, st1_so (L := [l0, l1, l2, l3, l4, l5, l6, l7]) (k := 5) (l := l5) rfl hk]
  exact h
theorem t2_225 {go : Nat → St → Option ORes} (hgo : go = orun method_4_code (Option.some Jvm.ClassFile.FieldType.int) E2 0) {n cs ss : Nat} {l0 l1 l2 l3 l5 l6 l7 : Slot} {S : List Value} {H : AH} {q : Option ORes → Prop} {v : Int32} (h : Rsq (go n (227, [l0, l1, l2, l3, .val (.int v), l5, l6, l7], (.int v :: S), H, cs, ss)) q) : Rsq (go (n + 1) (225, [l0, l1, l2, l3, .val (.int v), l5, l6, l7], S, H, cs, ss)) q := by
  subst hgo
  exact res_of s2_225 h
theorem t2_227 {go : Nat → St → Option ORes} (hgo : go = orun method_4_code (Option.some Jvm.ClassFile.FieldType.int) E2 0) {n cs ss : Nat} {L : List Slot} {S : List Value} {H : AH} {q : Option ORes → Prop} (h : Rsq (go n (228, L, (.int 2 :: S), H, cs, ss)) q) : Rsq (go (n + 1) (227, L, S, H, cs, ss)) q := by
  subst hgo
  exact res_of s2_227 h
theorem t2_228t {go : Nat → St → Option ORes} (hgo : go = orun method_4_code (Option.some Jvm.ClassFile.FieldType.int) E2 0) {n cs ss : Nat} {L : List Slot} {S : List Value} {H : AH} {q : Option ORes → Prop} {x y : Int32} (hc : x = y) (h : Rsq (go n (231, L, S, H, cs, ss)) q) : Rsq (go (n + 1) (228, L, (.int y :: .int x :: S), H, cs, ss)) q := by
  subst hgo
  exact res_of s2_228 (res_t hc h)
theorem t2_228f {go : Nat → St → Option ORes} (hgo : go = orun method_4_code (Option.some Jvm.ClassFile.FieldType.int) E2 0) {n cs ss : Nat} {L : List Slot} {S : List Value} {H : AH} {q : Option ORes → Prop} {x y : Int32} (hc : ¬ x = y) (h : Rsq (go n (237, L, S, H, cs, ss)) q) : Rsq (go (n + 1) (228, L, (.int y :: .int x :: S), H, cs, ss)) q := by
  subst hgo
  exact res_of s2_228 (res_f hc h)
theorem t2_231 {go : Nat → St → Option ORes} (hgo : go = orun method_4_code (Option.some Jvm.ClassFile.FieldType.int) E2 0) {n cs ss : Nat} {L : List Slot} {S : List Value} {H : AH} {q : Option ORes → Prop} (h : Rsq (go n (234, L, (.int 128 :: S), H, cs, ss)) q) : Rsq (go (n + 1) (231, L, S, H, cs, ss)) q := by
  subst hgo
  exact res_of s2_231 h
theorem t2_234 {go : Nat → St → Option ORes} (hgo : go = orun method_4_code (Option.some Jvm.ClassFile.FieldType.int) E2 0) {n cs ss : Nat} {L : List Slot} {S : List Value} {H : AH} {q : Option ORes → Prop} (h : Rsq (go n (251, L, S, H, cs, ss)) q) : Rsq (go (n + 1) (234, L, S, H, cs, ss)) q := by
  subst hgo
  exact res_of s2_234 h
theorem t2_237 {go : Nat → St → Option ORes} (hgo : go = orun method_4_code (Option.some Jvm.ClassFile.FieldType.int) E2 0) {n cs ss : Nat} {l0 l1 l2 l3 l5 l6 l7 : Slot} {S : List Value} {H : AH} {q : Option ORes → Prop} {v : Int32} (h : Rsq (go n (239, [l0, l1, l2, l3, .val (.int v), l5, l6, l7], (.int v :: S), H, cs, ss)) q) : Rsq (go (n + 1) (237, [l0, l1, l2, l3, .val (.int v), l5, l6, l7], S, H, cs, ss)) q := by
  subst hgo
  exact res_of s2_237 h
theorem t2_239 {go : Nat → St → Option ORes} (hgo : go = orun method_4_code (Option.some Jvm.ClassFile.FieldType.int) E2 0) {n cs ss : Nat} {L : List Slot} {S : List Value} {H : AH} {q : Option ORes → Prop} (h : Rsq (go n (240, L, (.int 3 :: S), H, cs, ss)) q) : Rsq (go (n + 1) (239, L, S, H, cs, ss)) q := by
  subst hgo
  exact res_of s2_239 h
theorem t2_240t {go : Nat → St → Option ORes} (hgo : go = orun method_4_code (Option.some Jvm.ClassFile.FieldType.int) E2 0) {n cs ss : Nat} {L : List Slot} {S : List Value} {H : AH} {q : Option ORes → Prop} {x y : Int32} (hc : x = y) (h : Rsq (go n (243, L, S, H, cs, ss)) q) : Rsq (go (n + 1) (240, L, (.int y :: .int x :: S), H, cs, ss)) q := by
  subst hgo
  exact res_of s2_240 (res_t hc h)
theorem t2_240f {go : Nat → St → Option ORes} (hgo : go = orun method_4_code (Option.some Jvm.ClassFile.FieldType.int) E2 0) {n cs ss : Nat} {L : List Slot} {S : List Value} {H : AH} {q : Option ORes → Prop} {x y : Int32} (hc : ¬ x = y) (h : Rsq (go n (249, L, S, H, cs, ss)) q) : Rsq (go (n + 1) (240, L, (.int y :: .int x :: S), H, cs, ss)) q := by
  subst hgo
  exact res_of s2_240 (res_f hc h)
theorem t2_243 {go : Nat → St → Option ORes} (hgo : go = orun method_4_code (Option.some Jvm.ClassFile.FieldType.int) E2 0) {n cs ss : Nat} {L : List Slot} {S : List Value} {H : AH} {q : Option ORes → Prop} (h : Rsq (go n (246, L, (.int 2048 :: S), H, cs, ss)) q) : Rsq (go (n + 1) (243, L, S, H, cs, ss)) q := by
  subst hgo
  exact res_of s2_243 h
theorem t2_246 {go : Nat → St → Option ORes} (hgo : go = orun method_4_code (Option.some Jvm.ClassFile.FieldType.int) E2 0) {n cs ss : Nat} {L : List Slot} {S : List Value} {H : AH} {q : Option ORes → Prop} (h : Rsq (go n (251, L, S, H, cs, ss)) q) : Rsq (go (n + 1) (246, L, S, H, cs, ss)) q := by
  subst hgo
  exact res_of s2_246 h
theorem t2_249 {go : Nat → St → Option ORes} (hgo : go = orun method_4_code (Option.some Jvm.ClassFile.FieldType.int) E2 0) {n cs ss : Nat} {L : List Slot} {S : List Value} {H : AH} {q : Option ORes → Prop} (h : Rsq (go n (251, L, (.int (65536) :: S), H, cs, ss)) q) : Rsq (go (n + 1) (249, L, S, H, cs, ss)) q := by
  subst hgo
  exact res_of s2_249 h
theorem t2_251 {go : Nat → St → Option ORes} (hgo : go = orun method_4_code (Option.some Jvm.ClassFile.FieldType.int) E2 0) {n cs ss : Nat} {l0 l1 l2 l3 l4 l5 l6 l7 : Slot} {S : List Value} {H : AH} {q : Option ORes → Prop} {x : Int32} (hk : so l7 = true) (h : Rsq (go n (253, [l0, l1, l2, l3, l4, l5, l6, .val (.int x)], S, H, cs, ss)) q) : Rsq (go (n + 1) (251, [l0, l1, l2, l3, l4, l5, l6, l7], (.int x :: S), H, cs, ss)) q := by
  subst hgo
  refine res_of s2_251 ?_
  rw [pI_int, st1_so (L := [l0, l1, l2, l3, l4, l5, l6, l7]) (k := 7) (l := l7) rfl hk]
  exact h
theorem t2_253 {go : Nat → St → Option ORes} (hgo : go = orun method_4_code (Option.some Jvm.ClassFile.FieldType.int) E2 0) {n cs ss : Nat} {l0 l1 l2 l3 l4 l6 l7 : Slot} {S : List Value} {H : AH} {q : Option ORes → Prop} {v : Int32} (h : Rsq (go n (255, [l0, l1, l2, l3, l4, .val (.int v), l6, l7], (.int v :: S), H, cs, ss)) q) : Rsq (go (n + 1) (253, [l0, l1, l2, l3, l4, .val (.int v), l6, l7], S, H, cs, ss)) q := by
  subst hgo
  exact res_of s2_253 h
theorem t2_255 {go : Nat → St → Option ORes} (hgo : go = orun method_4_code (Option.some Jvm.ClassFile.FieldType.int) E2 0) {n cs ss : Nat} {l0 l1 l2 l3 l4 l5 l6 : Slot} {S : List Value} {H : AH} {q : Option ORes → Prop} {v : Int32} (h : Rsq (go n (257, [l0, l1, l2, l3, l4, l5, l6, .val (.int v)], (.int v :: S), H, cs, ss)) q) : Rsq (go (n + 1) (255, [l0, l1, l2, l3, l4, l5, l6, .val (.int v)], S, H, cs, ss)) q := by
  subst hgo
  exact res_of s2_255 h
theorem t2_257t {go : Nat → St → Option ORes} (hgo : go = orun method_4_code (Option.some Jvm.ClassFile.FieldType.int) E2 0) {n cs ss : Nat} {L : List Slot} {S : List Value} {H : AH} {q : Option ORes → Prop} {x y : Int32} (hc : x < y) (h : Rsq (go n (267, L, S, H, cs, ss)) q) : Rsq (go (n + 1) (257, L, (.int y :: .int x :: S), H, cs, ss)) q := by
  subst hgo
  exact res_of s2_257 (res_t hc h)
theorem t2_257f {go : Nat → St → Option ORes} (hgo : go = orun method_4_code (Option.some Jvm.ClassFile.FieldType.int) E2 0) {n cs ss : Nat} {L : List Slot} {S : List Value} {H : AH} {q : Option ORes → Prop} {x y : Int32} (hc : ¬ x < y) (h : Rsq (go n (260, L, S, H, cs, ss)) q) : Rsq (go (n + 1) (257, L, (.int y :: .int x :: S), H, cs, ss)) q := by
  subst hgo
  exact res_of s2_257 (res_f hc h)
theorem t2_260 {go : Nat → St → Option ORes} (hgo : go = orun method_4_code (Option.some Jvm.ClassFile.FieldType.int) E2 0) {n cs ss : Nat} {l0 l1 l2 l3 l4 l6 l7 : Slot} {S : List Value} {H : AH} {q : Option ORes → Prop} {v : Int32} (h : Rsq (go n (262, [l0, l1, l2, l3, l4, .val (.int v), l6, l7], (.int v :: S), H, cs, ss)) q) : Rsq (go (n + 1) (260, [l0, l1, l2, l3, l4, .val (.int v), l6, l7], S, H, cs, ss)) q := by
  subst hgo
  exact res_of s2_260 h
theorem t2_262 {go : Nat → St → Option ORes} (hgo : go = orun method_4_code (Option.some Jvm.ClassFile.FieldType.int) E2 0) {n cs ss : Nat} {L : List Slot} {S : List Value} {H : AH} {q : Option ORes → Prop} (h : Rsq (go n (264, L, (.int (1114111) :: S), H, cs, ss)) q) : Rsq (go (n + 1) (262, L, S, H, cs, ss)) q := by
  subst hgo
  exact res_of s2_262 h
theorem t2_264t {go : Nat → St → Option ORes} (hgo : go = orun method_4_code (Option.some Jvm.ClassFile.FieldType.int) E2 0) {n cs ss : Nat} {L : List Slot} {S : List Value} {H : AH} {q : Option ORes → Prop} {x y : Int32} (hc : y < x) (h : Rsq (go n (267, L, S, H, cs, ss)) q) : Rsq (go (n + 1) (264, L, (.int y :: .int x :: S), H, cs, ss)) q := by
  subst hgo
  exact res_of s2_264 (res_t hc h)
theorem t2_264f {go : Nat → St → Option ORes} (hgo : go = orun method_4_code (Option.some Jvm.ClassFile.FieldType.int) E2 0) {n cs ss : Nat} {L : List Slot} {S : List Value} {H : AH} {q : Option ORes → Prop} {x y : Int32} (hc : ¬ y < x) (h : Rsq (go n (269, L, S, H, cs, ss)) q) : Rsq (go (n + 1) (264, L, (.int y :: .int x :: S), H, cs, ss)) q := by
  subst hgo
  exact res_of s2_264 (res_f hc h)
theorem t2_267 {go : Nat → St → Option ORes} (hgo : go = orun method_4_code (Option.some Jvm.ClassFile.FieldType.int) E2 0) {n cs ss : Nat} {L : List Slot} {S : List Value} {H : AH} {q : Option ORes → Prop} (h : Rsq (go n (268, L, (.int (-1) :: S), H, cs, ss)) q) : Rsq (go (n + 1) (267, L, S, H, cs, ss)) q := by
  subst hgo
  exact res_of s2_267 h
theorem t2_268 {go : Nat → St → Option ORes} (hgo : go = orun method_4_code (Option.some Jvm.ClassFile.FieldType.int) E2 0) {n cs ss : Nat} {L : List Slot} {S : List Value} {H : AH} {q : Option ORes → Prop} {z : Int32} (h : q (some (some (.int z), H))) : Rsq (go (n + 1) (268, L, (.int z :: S), H, cs, ss)) q := by
  subst hgo
  exact res_of s2_268 h
theorem t2_269 {go : Nat → St → Option ORes} (hgo : go = orun method_4_code (Option.some Jvm.ClassFile.FieldType.int) E2 0) {n cs ss : Nat} {l0 l1 l2 l3 l4 l6 l7 : Slot} {S : List Value} {H : AH} {q : Option ORes → Prop} {v : Int32} (h : Rsq (go n (271, [l0, l1, l2, l3, l4, .val (.int v), l6, l7], (.int v :: S), H, cs, ss)) q) : Rsq (go (n + 1) (269, [l0, l1, l2, l3, l4, .val (.int v), l6, l7], S, H, cs, ss)) q := by
  subst hgo
  exact res_of s2_269 h
theorem t2_271 {go : Nat → St → Option ORes} (hgo : go = orun method_4_code (Option.some Jvm.ClassFile.FieldType.int) E2 0) {n cs ss : Nat} {L : List Slot} {S : List Value} {H : AH} {q : Option ORes → Prop} (h : Rsq (go n (273, L, (.int (55296) :: S), H, cs, ss)) q) : Rsq (go (n + 1) (271, L, S, H, cs, ss)) q := by
  subst hgo
  exact res_of s2_271 h
theorem t2_273t {go : Nat → St → Option ORes} (hgo : go = orun method_4_code (Option.some Jvm.ClassFile.FieldType.int) E2 0) {n cs ss : Nat} {L : List Slot} {S : List Value} {H : AH} {q : Option ORes → Prop} {x y : Int32} (hc : x < y) (h : Rsq (go n (285, L, S, H, cs, ss)) q) : Rsq (go (n + 1) (273, L, (.int y :: .int x :: S), H, cs, ss)) q := by
  subst hgo
  exact res_of s2_273 (res_t hc h)
theorem t2_273f {go : Nat → St → Option ORes} (hgo : go = orun method_4_code (Option.some Jvm.ClassFile.FieldType.int) E2 0) {n cs ss : Nat} {L : List Slot} {S : List Value} {H : AH} {q : Option ORes → Prop} {x y : Int32} (hc : ¬ x < y) (h : Rsq (go n (276, L, S, H, cs, ss)) q) : Rsq (go (n + 1) (273, L, (.int y :: .int x :: S), H, cs, ss)) q := by
  subst hgo
  exact res_of s2_273 (res_f hc h)
theorem t2_276 {go : Nat → St → Option ORes} (hgo : go = orun method_4_code (Option.some Jvm.ClassFile.FieldType.int) E2 0) {n cs ss : Nat} {l0 l1 l2 l3 l4 l6 l7 : Slot} {S : List Value} {H : AH} {q : Option ORes → Prop} {v : Int32} (h : Rsq (go n (278, [l0, l1, l2, l3, l4, .val (.int v), l6, l7], (.int v :: S), H, cs, ss)) q) : Rsq (go (n + 1) (276, [l0, l1, l2, l3, l4, .val (.int v), l6, l7], S, H, cs, ss)) q := by
  subst hgo
  exact res_of s2_276 h
theorem t2_278 {go : Nat → St → Option ORes} (hgo : go = orun method_4_code (Option.some Jvm.ClassFile.FieldType.int) E2 0) {n cs ss : Nat} {L : List Slot} {S : List Value} {H : AH} {q : Option ORes → Prop} (h : Rsq (go n (280, L, (.int (57343) :: S), H, cs, ss)) q) : Rsq (go (n + 1) (278, L, S, H, cs, ss)) q := by
  subst hgo
  exact res_of s2_278 h
theorem t2_280t {go : Nat → St → Option ORes} (hgo : go = orun method_4_code (Option.some Jvm.ClassFile.FieldType.int) E2 0) {n cs ss : Nat} {L : List Slot} {S : List Value} {H : AH} {q : Option ORes → Prop} {x y : Int32} (hc : y < x) (h : Rsq (go n (285, L, S, H, cs, ss)) q) : Rsq (go (n + 1) (280, L, (.int y :: .int x :: S), H, cs, ss)) q := by
  subst hgo
  exact res_of s2_280 (res_t hc h)
theorem t2_280f {go : Nat → St → Option ORes} (hgo : go = orun method_4_code (Option.some Jvm.ClassFile.FieldType.int) E2 0) {n cs ss : Nat} {L : List Slot} {S : List Value} {H : AH} {q : Option ORes → Prop} {x y : Int32} (hc : ¬ y < x) (h : Rsq (go n (283, L, S, H, cs, ss)) q) : Rsq (go (n + 1) (280, L, (.int y :: .int x :: S), H, cs, ss)) q := by
  subst hgo
  exact res_of s2_280 (res_f hc h)
theorem t2_283 {go : Nat → St → Option ORes} (hgo : go = orun method_4_code (Option.some Jvm.ClassFile.FieldType.int) E2 0) {n cs ss : Nat} {L : List Slot} {S : List Value} {H : AH} {q : Option ORes → Prop} (h : Rsq (go n (284, L, (.int (-1) :: S), H, cs, ss)) q) : Rsq (go (n + 1) (283, L, S, H, cs, ss)) q := by
  subst hgo
  exact res_of s2_283 h
theorem t2_284 {go : Nat → St → Option ORes} (hgo : go = orun method_4_code (Option.some Jvm.ClassFile.FieldType.int) E2 0) {n cs ss : Nat} {L : List Slot} {S : List Value} {H : AH} {q : Option ORes → Prop} {z : Int32} (h : q (some (some (.int z), H))) : Rsq (go (n + 1) (284, L, (.int z :: S), H, cs, ss)) q := by
  subst hgo
  exact res_of s2_284 h
theorem t2_285 {go : Nat → St → Option ORes} (hgo : go = orun method_4_code (Option.some Jvm.ClassFile.FieldType.int) E2 0) {n cs ss : Nat} {l0 l1 l2 l3 l5 l6 l7 : Slot} {S : List Value} {H : AH} {q : Option ORes → Prop} {v : Int32} (h : Rsq (go n (287, [l0, l1, l2, l3, .val (.int v), l5, l6, l7], (.int v :: S), H, cs, ss)) q) : Rsq (go (n + 1) (285, [l0, l1, l2, l3, .val (.int v), l5, l6, l7], S, H, cs, ss)) q := by
  subst hgo
  exact res_of s2_285 h
theorem t2_287 {go : Nat → St → Option ORes} (hgo : go = orun method_4_code (Option.some Jvm.ClassFile.FieldType.int) E2 0) {n cs ss : Nat} {L : List Slot} {S : List Value} {H : AH} {q : Option ORes → Prop} {z : Int32} (h : q (some (some (.int z), H))) : Rsq (go (n + 1) (287, L, (.int z :: S), H, cs, ss)) q := by
  subst hgo
  exact res_of s2_287 h
theorem f1_in {x0 : Nat} {x1 : Int32} {x2 : Int32} {H : AH} : F1 [.ref x0, .int x1, .int x2] H = orun method_3_code (Option.some Jvm.ClassFile.FieldType.int) E1 0 80 (0, [.val (.ref x0), .val (.int x1), .val (.int x2), .unset], [], H, 0, 0) := rfl
theorem s1_0 {n cs ss : Nat} {L : List Slot} {S : List Value} {H : AH} : orun method_3_code (Option.some Jvm.ClassFile.FieldType.int) E1 0 (n + 1) (0, L, S, H, cs, ss) = (gI L 2).bind fun v => orun method_3_code (Option.some Jvm.ClassFile.FieldType.int) E1 0 n (1, L, .int v :: S, H, cs, ss) := s_any k1_0
theorem s1_1 {n cs ss : Nat} {L : List Slot} {S : List Value} {H : AH} : orun method_3_code (Option.some Jvm.ClassFile.FieldType.int) E1 0 (n + 1) (1, L, S, H, cs, ss) = pI S fun x r => if x < 0 then orun method_3_code (Option.some Jvm.ClassFile.FieldType.int) E1 0 n (9, L, r, H, cs, ss) else orun method_3_code (Option.some Jvm.ClassFile.FieldType.int) E1 0 n (4, L, r, H, cs, ss) := s_if (Q := fun x => x < 0) (fun _ => z_lt) k1_1 (by decide) (by decide)
theorem s1_4 {n cs ss : Nat} {L : List Slot} {S : List Value} {H : AH} : orun method_3_code (Option.some Jvm.ClassFile.FieldType.int) E1 0 (n + 1) (4, L, S, H, cs, ss) = (gI L 2).bind fun v => orun method_3_code (Option.some Jvm.ClassFile.FieldType.int) E1 0 n (5, L, .int v :: S, H, cs, ss) := s_any k1_4
theorem s1_5 {n cs ss : Nat} {L : List Slot} {S : List Value} {H : AH} : orun method_3_code (Option.some Jvm.ClassFile.FieldType.int) E1 0 (n + 1) (5, L, S, H, cs, ss) = (gI L 1).bind fun v => orun method_3_code (Option.some Jvm.ClassFile.FieldType.int) E1 0 n (6, L, .int v :: S, H, cs, ss) := s_any k1_5
theorem s1_6 {n cs ss : Nat} {L : List Slot} {S : List Value} {H : AH} : orun method_3_code (Option.some Jvm.ClassFile.FieldType.int) E1 0 (n + 1) (6, L, S, H, cs, ss) = pI S fun y S => pI S fun x r => if x < y then orun method_3_code (Option.some Jvm.ClassFile.FieldType.int) E1 0 n (11, L, r, H, cs, ss) else orun method_3_code (Option.some Jvm.ClassFile.FieldType.int) E1 0 n (9, L, r, H, cs, ss) := s_icmp (Q := fun x y => x < y) (fun _ _ => h_lt) k1_6 (by decide) (by decide)
theorem s1_9 {n cs ss : Nat} {L : List Slot} {S : List Value} {H : AH} : orun method_3_code (Option.some Jvm.ClassFile.FieldType.int) E1 0 (n + 1) (9, L, S, H, cs, ss) = (gI L 2).bind fun v => orun method_3_code (Option.some Jvm.ClassFile.FieldType.int) E1 0 n (10, L, .int v :: S, H, cs, ss) := s_any k1_9
theorem s1_10 {n cs ss : Nat} {L : List Slot} {S : List Value} {H : AH} : orun method_3_code (Option.some Jvm.ClassFile.FieldType.int) E1 0 (n + 1) (10, L, S, H, cs, ss) = pI S fun z _ => some (some (.int z), H) := s_any k1_10
theorem s1_11 {n cs ss : Nat} {L : List Slot} {S : List Value} {H : AH} : orun method_3_code (Option.some Jvm.ClassFile.FieldType.int) E1 0 (n + 1) (11, L, S, H, cs, ss) = (gA L 0).bind fun v => orun method_3_code (Option.some Jvm.ClassFile.FieldType.int) E1 0 n (12, L, v :: S, H, cs, ss) := s_any k1_11
theorem s1_12 {n cs ss : Nat} {L : List Slot} {S : List Value} {H : AH} : orun method_3_code (Option.some Jvm.ClassFile.FieldType.int) E1 0 (n + 1) (12, L, S, H, cs, ss) = (gI L 1).bind fun v => orun method_3_code (Option.some Jvm.ClassFile.FieldType.int) E1 0 n (13, L, .int v :: S, H, cs, ss) := s_any k1_12
theorem s1_13 {n cs ss : Nat} {L : List Slot} {S : List Value} {H : AH} : orun method_3_code (Option.some Jvm.ClassFile.FieldType.int) E1 0 (n + 1) (13, L, S, H, cs, ss) = (gI L 2).bind fun v => orun method_3_code (Option.some Jvm.ClassFile.FieldType.int) E1 0 n (14, L, .int v :: S, H, cs, ss) := s_any k1_13
theorem s1_14 {n cs ss : Nat} {L : List Slot} {S : List Value} {H : AH} : orun method_3_code (Option.some Jvm.ClassFile.FieldType.int) E1 0 (n + 1) (14, L, S, H, cs, ss) = (aCall 3 6 0 0 0 0 F2 S H cs ss).bind fun r => orun method_3_code (Option.some Jvm.ClassFile.FieldType.int) E1 0 n (17, L, r.1, r.2.1, r.2.2.1, r.2.2.2) := s_any k1_14
theorem s1_17 {n cs ss : Nat} {L : List Slot} {S : List Value} {H : AH} : orun method_3_code (Option.some Jvm.ClassFile.FieldType.int) E1 0 (n + 1) (17, L, S, H, cs, ss) = pI S fun x r => (st1 L 3 (.int x)).bind fun L' => orun method_3_code (Option.some Jvm.ClassFile.FieldType.int) E1 0 n (18, L', r, H, cs, ss) := s_any k1_17
theorem s1_18 {n cs ss : Nat} {L : List Slot} {S : List Value} {H : AH} : orun method_3_code (Option.some Jvm.ClassFile.FieldType.int) E1 0 (n + 1) (18, L, S, H, cs, ss) = (gI L 3).bind fun v => orun method_3_code (Option.some Jvm.ClassFile.FieldType.int) E1 0 n (19, L, .int v :: S, H, cs, ss) := s_any k1_18
theorem s1_19 {n cs ss : Nat} {L : List Slot} {S : List Value} {H : AH} : orun method_3_code (Option.some Jvm.ClassFile.FieldType.int) E1 0 (n + 1) (19, L, S, H, cs, ss) = pI S fun x r => if x < 0 then orun method_3_code (Option.some Jvm.ClassFile.FieldType.int) E1 0 n (22, L, r, H, cs, ss) else orun method_3_code (Option.some Jvm.ClassFile.FieldType.int) E1 0 n (24, L, r, H, cs, ss) := s_ifN (Q := fun x => x < 0) (fun _ => z_ge) k1_19 (by decide) (by decide)
theorem s1_22 {n cs ss : Nat} {L : List Slot} {S : List Value} {H : AH} : orun method_3_code (Option.some Jvm.ClassFile.FieldType.int) E1 0 (n + 1) (22, L, S, H, cs, ss) = orun method_3_code (Option.some Jvm.ClassFile.FieldType.int) E1 0 n (23, L, (.int (-1) :: S), H, cs, ss) := s_any k1_22
theorem s1_23 {n cs ss : Nat} {L : List Slot} {S : List Value} {H : AH} : orun method_3_code (Option.some Jvm.ClassFile.FieldType.int) E1 0 (n + 1) (23, L, S, H, cs, ss) = pI S fun z _ => some (some (.int z), H) := s_any k1_23
theorem s1_24 {n cs ss : Nat} {L : List Slot} {S : List Value} {H : AH} : orun method_3_code (Option.some Jvm.ClassFile.FieldType.int) E1 0 (n + 1) (24, L, S, H, cs, ss) = (gI L 2).bind fun v => orun method_3_code (Option.some Jvm.ClassFile.FieldType.int) E1 0 n (25, L, .int v :: S, H, cs, ss) := s_any k1_24
theorem s1_25 {n cs ss : Nat} {L : List Slot} {S : List Value} {H : AH} : orun method_3_code (Option.some Jvm.ClassFile.FieldType.int) E1 0 (n + 1) (25, L, S, H, cs, ss) = (gI L 3).bind fun v => orun method_3_code (Option.some Jvm.ClassFile.FieldType.int) E1 0 n (26, L, .int v :: S, H, cs, ss) := s_any k1_25
theorem s1_26 {n cs ss : Nat} {L : List Slot} {S : List Value} {H : AH} : orun method_3_code (Option.some Jvm.ClassFile.FieldType.int) E1 0 (n + 1) (26, L, S, H, cs, ss) = pI S fun y S => pI S fun x r => orun method_3_code (Option.some Jvm.ClassFile.FieldType.int) E1 0 n (27, L, .int (x + y) :: r, H, cs, ss) := s_any k1_26
theorem s1_27 {n cs ss : Nat} {L : List Slot} {S : List Value} {H : AH} : orun method_3_code (Option.some Jvm.ClassFile.FieldType.int) E1 0 (n + 1) (27, L, S, H, cs, ss) = pI S fun z _ => some (some (.int z), H) := s_any k1_27
theorem t1_0 {go : Nat → St → Option ORes} (hgo : go = orun method_3_code (Option.some Jvm.ClassFile.FieldType.int) E1 0) {n cs ss : Nat} {l0 l1 l3 : Slot} {S : List Value} {H : AH} {q : Option ORes → Prop} {v : Int32} (h : Rsq (go n (1, [l0, l1, .val (.int v), l3], (.int v :: S), H, cs, ss)) q) : Rsq (go (n + 1) (0, [l0, l1, .val (.int v), l3], S, H, cs, ss)) q := by
  subst hgo
  exact res_of s1_0 h
theorem t1_1t {go : Nat → St → Option ORes} (hgo : go = orun method_3_code (Option.some Jvm.ClassFile.FieldType.int) E1 0) {n cs ss : Nat} {L : List Slot} {S : List Value} {H : AH} {q : Option ORes → Prop} {x : Int32} (hc : x < 0) (h : Rsq (go n (9, L, S, H, cs, ss)) q) : Rsq (go (n + 1) (1, L, (.int x :: S), H, cs, ss)) q := by
  subst hgo
  exact res_of s1_1 (res_t hc h)
theorem t1_1f {go : Nat → St → Option ORes} (hgo : go = orun method_3_code (Option.some Jvm.ClassFile.FieldType.int) E1 0) {n cs ss : Nat} {L : List Slot} {S : List Value} {H : AH} {q : Option ORes → Prop} {x : Int32} (hc : ¬ x < 0) (h : Rsq (go n (4, L, S, H, cs, ss)) q) : Rsq (go (n + 1) (1, L, (.int x :: S), H, cs, ss)) q := by
  subst hgo
  exact res_of s1_1 (res_f hc h)
theorem t1_4 {go : Nat → St → Option ORes} (hgo : go = orun method_3_code (Option.some Jvm.ClassFile.FieldType.int) E1 0) {n cs ss : Nat} {l0 l1 l3 : Slot} {S : List Value} {H : AH} {q : Option ORes → Prop} {v : Int32} (h : Rsq (go n (5, [l0, l1, .val (.int v), l3], (.int v :: S), H, cs, ss)) q) : Rsq (go (n + 1) (4, [l0, l1, .val (.int v), l3], S, H, cs, ss)) q := by
  subst hgo
  exact res_of s1_4 h
theorem t1_5 {go : Nat → St → Option ORes} (hgo : go = orun method_3_code (Option.some Jvm.ClassFile.FieldType.int) E1 0) {n cs ss : Nat} {l0 l2 l3 : Slot} {S : List Value} {H : AH} {q : Option ORes → Prop} {v : Int32} (h : Rsq (go n (6, [l0, .val (.int v), l2, l3], (.int v :: S), H, cs, ss)) q) : Rsq (go (n + 1) (5, [l0, .val (.int v), l2, l3], S, H, cs, ss)) q := by
  subst hgo
  exact res_of s1_5 h
theorem t1_6t {go : Nat → St → Option ORes} (hgo : go = orun method_3_code (Option.some Jvm.ClassFile.FieldType.int) E1 0) {n cs ss : Nat} {L : List Slot} {S : List Value} {H : AH} {q : Option ORes → Prop} {x y : Int32} (hc : x < y) (h : Rsq (go n (11, L, S, H, cs, ss)) q) : Rsq (go (n + 1) (6, L, (.int y :: .int x :: S), H, cs, ss)) q := by
  subst hgo
  exact res_of s1_6 (res_t hc h)
theorem t1_6f {go : Nat → St → Option ORes} (hgo : go = orun method_3_code (Option.some Jvm.ClassFile.FieldType.int) E1 0) {n cs ss : Nat} {L : List Slot} {S : List Value} {H : AH} {q : Option ORes → Prop} {x y : Int32} (hc : ¬ x < y) (h : Rsq (go n (9, L, S, H, cs, ss)) q) : Rsq (go (n + 1) (6, L, (.int y :: .int x :: S), H, cs, ss)) q := by
  subst hgo
  exact res_of s1_6 (res_f hc h)
theorem t1_9 {go : Nat → St → Option ORes} (hgo : go = orun method_3_code (Option.some Jvm.ClassFile.FieldType.int) E1 0) {n cs ss : Nat} {l0 l1 l3 : Slot} {S : List Value} {H : AH} {q : Option ORes → Prop} {v : Int32} (h : Rsq (go n (10, [l0, l1, .val (.int v), l3], (.int v :: S), H, cs, ss)) q) : Rsq (go (n + 1) (9, [l0, l1, .val (.int v), l3], S, H, cs, ss)) q := by
  subst hgo
  exact res_of s1_9 h
theorem t1_10 {go : Nat → St → Option ORes} (hgo : go = orun method_3_code (Option.some Jvm.ClassFile.FieldType.int) E1 0) {n cs ss : Nat} {L : List Slot} {S : List Value} {H : AH} {q : Option ORes → Prop} {z : Int32} (h : q (some (some (.int z), H))) : Rsq (go (n + 1) (10, L, (.int z :: S), H, cs, ss)) q := by
  subst hgo
  exact res_of s1_10 h
theorem t1_11 {go : Nat → St → Option ORes} (hgo : go = orun method_3_code (Option.some Jvm.ClassFile.FieldType.int) E1 0) {n cs ss : Nat} {l1 l2 l3 : Slot} {S : List Value} {H : AH} {q : Option ORes → Prop} {v : Value} (hv : isA v = true) (h : Rsq (go n (12, [.val v, l1, l2, l3], (v :: S), H, cs, ss)) q) : Rsq (go (n + 1) (11, [.val v, l1, l2, l3], S, H, cs, ss)) q := by
  subst hgo
  refine res_of s1_11 ?_
  rw [gA_isA (L := [.val v, l1, l2, l3]) (k := 0) (v := v) rfl hv]
  exact h
theorem t1_12 {go : Nat → St → Option ORes} (hgo : go = orun method_3_code (Option.some Jvm.ClassFile.FieldType.int) E1 0) {n cs ss : Nat} {l0 l2 l3 : Slot} {S : List Value} {H : AH} {q : Option ORes → Prop} {v : Int32} (h : Rsq (go n (13, [l0, .val (.int v), l2, l3], (.int v :: S), H, cs, ss)) q) : Rsq (go (n + 1) (12, [l0, .val (.int v), l2, l3], S, H, cs, ss)) q := by
  subst hgo
  exact res_of s1_12 h
theorem t1_13 {go : Nat → St → Option ORes} (hgo : go = orun method_3_code (Option.some Jvm.ClassFile.FieldType.int) E1 0) {n cs ss : Nat} {l0 l1 l3 : Slot} {S : List Value} {H : AH} {q : Option ORes → Prop} {v : Int32} (h : Rsq (go n (14, [l0, l1, .val (.int v), l3], (.int v :: S), H, cs, ss)) q) : Rsq (go (n + 1) (13, [l0, l1, .val (.int v), l3], S, H, cs, ss)) q := by
  subst hgo
  exact res_of s1_13 h
theorem u1_14 {go : Nat → St → Option ORes} (hgo : go = orun method_3_code (Option.some Jvm.ClassFile.FieldType.int) E1 0) {n cs ss : Nat} {L : List Slot} {S : List Value} {H : AH} : go (n + 1) (14, L, S, H, cs, ss) = (aCall 3 6 0 0 0 0 F2 S H cs ss).bind fun r => go n (17, L, r.1, r.2.1, r.2.2.1, r.2.2.2) := by
  subst hgo
  exact s1_14
theorem t1_17 {go : Nat → St → Option ORes} (hgo : go = orun method_3_code (Option.some Jvm.ClassFile.FieldType.int) E1 0) {n cs ss : Nat} {l0 l1 l2 l3 : Slot} {S : List Value} {H : AH} {q : Option ORes → Prop} {x : Int32} (hk : so l3 = true) (h : Rsq (go n (18, [l0, l1, l2, .val (.int x)], S, H, cs, ss)) q) : Rsq (go (n + 1) (17, [l0, l1, l2, l3], (.int x :: S), H, cs, ss)) q := by
  subst hgo
  refine res_of s1_17 ?_
  rw [pI_int, st1_so (L := [l0, l1, l2, l3]) (k := 3) (l := l3) rfl hk]
  exact h
theorem t1_18 {go : Nat → St → Option ORes} (hgo : go = orun method_3_code (Option.some Jvm.ClassFile.FieldType.int) E1 0) {n cs ss : Nat} {l0 l1 l2 : Slot} {S : List Value} {H : AH} {q : Option ORes → Prop} {v : Int32} (h : Rsq (go n (19, [l0, l1, l2, .val (.int v)], (.int v :: S), H, cs, ss)) q) : Rsq (go (n + 1) (18, [l0, l1, l2, .val (.int v)], S, H, cs, ss)) q := by
  subst hgo
  exact res_of s1_18 h
theorem t1_19t {go : Nat → St → Option ORes} (hgo : go = orun method_3_code (Option.some Jvm.ClassFile.FieldType.int) E1 0) {n cs ss : Nat} {L : List Slot} {S : List Value} {H : AH} {q : Option ORes → Prop} {x : Int32} (hc : x < 0) (h : Rsq (go n (22, L, S, H, cs, ss)) q) : Rsq (go (n + 1) (19, L, (.int x :: S), H, cs, ss)) q := by
  subst hgo
  exact res_of s1_19 (res_t hc h)
theorem t1_19f {go : Nat → St → Option ORes} (hgo : go = orun method_3_code (Option.some Jvm.ClassFile.FieldType.int) E1 0) {n cs ss : Nat} {L : List Slot} {S : List Value} {H : AH} {q : Option ORes → Prop} {x : Int32} (hc : ¬ x < 0) (h : Rsq (go n (24, L, S, H, cs, ss)) q) : Rsq (go (n + 1) (19, L, (.int x :: S), H, cs, ss)) q := by
  subst hgo
  exact res_of s1_19 (res_f hc h)
theorem t1_22 {go : Nat → St → Option ORes} (hgo : go = orun method_3_code (Option.some Jvm.ClassFile.FieldType.int) E1 0) {n cs ss : Nat} {L : List Slot} {S : List Value} {H : AH} {q : Option ORes → Prop} (h : Rsq (go n (23, L, (.int (-1) :: S), H, cs, ss)) q) : Rsq (go (n + 1) (22, L, S, H, cs, ss)) q := by
  subst hgo
  exact res_of s1_22 h
theorem t1_23 {go : Nat → St → Option ORes} (hgo : go = orun method_3_code (Option.some Jvm.ClassFile.FieldType.int) E1 0) {n cs ss : Nat} {L : List Slot} {S : List Value} {H : AH} {q : Option ORes → Prop} {z : Int32} (h : q (some (some (.int z), H))) : Rsq (go (n + 1) (23, L, (.int z :: S), H, cs, ss)) q := by
  subst hgo
  exact res_of s1_23 h
theorem t1_24 {go : Nat → St → Option ORes} (hgo : go = orun method_3_code (Option.some Jvm.ClassFile.FieldType.int) E1 0) {n cs ss : Nat} {l0 l1 l3 : Slot} {S : List Value} {H : AH} {q : Option ORes → Prop} {v : Int32} (h : Rsq (go n (25, [l0, l1, .val (.int v), l3], (.int v :: S), H, cs, ss)) q) : Rsq (go (n + 1) (24, [l0, l1, .val (.int v), l3], S, H, cs, ss)) q := by
  subst hgo
  exact res_of s1_24 h
theorem t1_25 {go : Nat → St → Option ORes} (hgo : go = orun method_3_code (Option.some Jvm.ClassFile.FieldType.int) E1 0) {n cs ss : Nat} {l0 l1 l2 : Slot} {S : List Value} {H : AH} {q : Option ORes → Prop} {v : Int32} (h : Rsq (go n (26, [l0, l1, l2, .val (.int v)], (.int v :: S), H, cs, ss)) q) : Rsq (go (n + 1) (25, [l0, l1, l2, .val (.int v)], S, H, cs, ss)) q := by
  subst hgo
  exact res_of s1_25 h
theorem t1_26 {go : Nat → St → Option ORes} (hgo : go = orun method_3_code (Option.some Jvm.ClassFile.FieldType.int) E1 0) {n cs ss : Nat} {L : List Slot} {S : List Value} {H : AH} {q : Option ORes → Prop} {x y : Int32} (h : Rsq (go n (27, L, (.int (x + y) :: S), H, cs, ss)) q) : Rsq (go (n + 1) (26, L, (.int y :: .int x :: S), H, cs, ss)) q := by
  subst hgo
  exact res_of s1_26 h
theorem t1_27 {go : Nat → St → Option ORes} (hgo : go = orun method_3_code (Option.some Jvm.ClassFile.FieldType.int) E1 0) {n cs ss : Nat} {L : List Slot} {S : List Value} {H : AH} {q : Option ORes → Prop} {z : Int32} (h : q (some (some (.int z), H))) : Rsq (go (n + 1) (27, L, (.int z :: S), H, cs, ss)) q := by
  subst hgo
  exact res_of s1_27 h
theorem f3_in {x0 : Nat} {x1 : Int32} {H : AH} : F3 [.ref x0, .int x1] H = orun prog_64_method_2_code (Option.some Jvm.ClassFile.FieldType.boolean) E3 0 2000 (0, [.val (.ref x0), .val (.int x1), .unset, .unset, .unset, .unset, .unset, .unset, .unset], [], H, 0, 0) := rfl
theorem s3_0 {n cs ss : Nat} {L : List Slot} {S : List Value} {H : AH} : orun prog_64_method_2_code (Option.some Jvm.ClassFile.FieldType.boolean) E3 0 (n + 1) (0, L, S, H, cs, ss) = orun prog_64_method_2_code (Option.some Jvm.ClassFile.FieldType.boolean) E3 0 n (1, L, (.int 0 :: S), H, cs, ss) := s_any k3_0
theorem s3_1 {n cs ss : Nat} {L : List Slot} {S : List Value} {H : AH} : orun prog_64_method_2_code (Option.some Jvm.ClassFile.FieldType.boolean) E3 0 (n + 1) (1, L, S, H, cs, ss) = pI S fun x r => (st1 L 2 (.int x)).bind fun L' => orun prog_64_method_2_code (Option.some Jvm.ClassFile.FieldType.boolean) E3 0 n (2, L', r, H, cs, ss) := s_any k3_1
theorem s3_2 {n cs ss : Nat} {L : List Slot} {S : List Value} {H : AH} : orun prog_64_method_2_code (Option.some Jvm.ClassFile.FieldType.boolean) E3 0 (n + 1) (2, L, S, H, cs, ss) = (gI L 2).bind fun v => orun prog_64_method_2_code (Option.some Jvm.ClassFile.FieldType.boolean) E3 0 n (3, L, .int v :: S, H, cs, ss) := s_any k3_2
theorem s3_3 {n cs ss : Nat} {L : List Slot} {S : List Value} {H : AH} : orun prog_64_method_2_code (Option.some Jvm.ClassFile.FieldType.boolean) E3 0 (n + 1) (3, L, S, H, cs, ss) = (gI L 1).bind fun v => orun prog_64_method_2_code (Option.some Jvm.ClassFile.FieldType.boolean) E3 0 n (4, L, .int v :: S, H, cs, ss) := s_any k3_3
theorem s3_4 {n cs ss : Nat} {L : List Slot} {S : List Value} {H : AH} : orun prog_64_method_2_code (Option.some Jvm.ClassFile.FieldType.boolean) E3 0 (n + 1) (4, L, S, H, cs, ss) = pI S fun y S => pI S fun x r => if x < y then orun prog_64_method_2_code (Option.some Jvm.ClassFile.FieldType.boolean) E3 0 n (7, L, r, H, cs, ss) else orun prog_64_method_2_code (Option.some Jvm.ClassFile.FieldType.boolean) E3 0 n (258, L, r, H, cs, ss) := s_icmpN (Q := fun x y => x < y) (fun _ _ => h_ge) k3_4 (by decide) (by decide)
theorem s3_7 {n cs ss : Nat} {L : List Slot} {S : List Value} {H : AH} : orun prog_64_method_2_code (Option.some Jvm.ClassFile.FieldType.boolean) E3 0 (n + 1) (7, L, S, H, cs, ss) = (gA L 0).bind fun v => orun prog_64_method_2_code (Option.some Jvm.ClassFile.FieldType.boolean) E3 0 n (8, L, v :: S, H, cs, ss) := s_any k3_7
theorem s3_8 {n cs ss : Nat} {L : List Slot} {S : List Value} {H : AH} : orun prog_64_method_2_code (Option.some Jvm.ClassFile.FieldType.boolean) E3 0 (n + 1) (8, L, S, H, cs, ss) = (gI L 2).bind fun v => orun prog_64_method_2_code (Option.some Jvm.ClassFile.FieldType.boolean) E3 0 n (9, L, .int v :: S, H, cs, ss) := s_any k3_8
theorem s3_9 {n cs ss : Nat} {L : List Slot} {S : List Value} {H : AH} : orun prog_64_method_2_code (Option.some Jvm.ClassFile.FieldType.boolean) E3 0 (n + 1) (9, L, S, H, cs, ss) = ex (Option.some Jvm.ClassFile.FieldType.boolean) E3 0 (orun prog_64_method_2_code (Option.some Jvm.ClassFile.FieldType.boolean) E3 0 n) (.baload) 9 L S H cs ss := s_any k3_9
theorem s3_10 {n cs ss : Nat} {L : List Slot} {S : List Value} {H : AH} : orun prog_64_method_2_code (Option.some Jvm.ClassFile.FieldType.boolean) E3 0 (n + 1) (10, L, S, H, cs, ss) = orun prog_64_method_2_code (Option.some Jvm.ClassFile.FieldType.boolean) E3 0 n (13, L, (.int 255 :: S), H, cs, ss) := s_any k3_10
theorem s3_13 {n cs ss : Nat} {L : List Slot} {S : List Value} {H : AH} : orun prog_64_method_2_code (Option.some Jvm.ClassFile.FieldType.boolean) E3 0 (n + 1) (13, L, S, H, cs, ss) = pI S fun y S => pI S fun x r => orun prog_64_method_2_code (Option.some Jvm.ClassFile.FieldType.boolean) E3 0 n (14, L, .int (x &&& y) :: r, H, cs, ss) := s_any k3_13
theorem s3_14 {n cs ss : Nat} {L : List Slot} {S : List Value} {H : AH} : orun prog_64_method_2_code (Option.some Jvm.ClassFile.FieldType.boolean) E3 0 (n + 1) (14, L, S, H, cs, ss) = pI S fun x r => (st1 L 3 (.int x)).bind fun L' => orun prog_64_method_2_code (Option.some Jvm.ClassFile.FieldType.boolean) E3 0 n (15, L', r, H, cs, ss) := s_any k3_14
theorem s3_15 {n cs ss : Nat} {L : List Slot} {S : List Value} {H : AH} : orun prog_64_method_2_code (Option.some Jvm.ClassFile.FieldType.boolean) E3 0 (n + 1) (15, L, S, H, cs, ss) = orun prog_64_method_2_code (Option.some Jvm.ClassFile.FieldType.boolean) E3 0 n (18, L, (.int 128 :: S), H, cs, ss) := s_any k3_15
theorem s3_18 {n cs ss : Nat} {L : List Slot} {S : List Value} {H : AH} : orun prog_64_method_2_code (Option.some Jvm.ClassFile.FieldType.boolean) E3 0 (n + 1) (18, L, S, H, cs, ss) = pI S fun x r => (st1 L 5 (.int x)).bind fun L' => orun prog_64_method_2_code (Option.some Jvm.ClassFile.FieldType.boolean) E3 0 n (20, L', r, H, cs, ss) := s_any k3_18
theorem s3_20 {n cs ss : Nat} {L : List Slot} {S : List Value} {H : AH} : orun prog_64_method_2_code (Option.some Jvm.ClassFile.FieldType.boolean) E3 0 (n + 1) (20, L, S, H, cs, ss) = orun prog_64_method_2_code (Option.some Jvm.ClassFile.FieldType.boolean) E3 0 n (23, L, (.int 191 :: S), H, cs, ss) := s_any k3_20
theorem s3_23 {n cs ss : Nat} {L : List Slot} {S : List Value} {H : AH} : orun prog_64_method_2_code (Option.some Jvm.ClassFile.FieldType.boolean) E3 0 (n + 1) (23, L, S, H, cs, ss) = pI S fun x r => (st1 L 6 (.int x)).bind fun L' => orun prog_64_method_2_code (Option.some Jvm.ClassFile.FieldType.boolean) E3 0 n (25, L', r, H, cs, ss) := s_any k3_23
theorem s3_25 {n cs ss : Nat} {L : List Slot} {S : List Value} {H : AH} : orun prog_64_method_2_code (Option.some Jvm.ClassFile.FieldType.boolean) E3 0 (n + 1) (25, L, S, H, cs, ss) = (gI L 3).bind fun v => orun prog_64_method_2_code (Option.some Jvm.ClassFile.FieldType.boolean) E3 0 n (26, L, .int v :: S, H, cs, ss) := s_any k3_25
theorem s3_26 {n cs ss : Nat} {L : List Slot} {S : List Value} {H : AH} : orun prog_64_method_2_code (Option.some Jvm.ClassFile.FieldType.boolean) E3 0 (n + 1) (26, L, S, H, cs, ss) = orun prog_64_method_2_code (Option.some Jvm.ClassFile.FieldType.boolean) E3 0 n (29, L, (.int 128 :: S), H, cs, ss) := s_any k3_26
theorem s3_29 {n cs ss : Nat} {L : List Slot} {S : List Value} {H : AH} : orun prog_64_method_2_code (Option.some Jvm.ClassFile.FieldType.boolean) E3 0 (n + 1) (29, L, S, H, cs, ss) = pI S fun y S => pI S fun x r => if x < y then orun prog_64_method_2_code (Option.some Jvm.ClassFile.FieldType.boolean) E3 0 n (32, L, r, H, cs, ss) else orun prog_64_method_2_code (Option.some Jvm.ClassFile.FieldType.boolean) E3 0 n (38, L, r, H, cs, ss) := s_icmpN (Q := fun x y => x < y) (fun _ _ => h_ge) k3_29 (by decide) (by decide)
theorem s3_32 {n cs ss : Nat} {L : List Slot} {S : List Value} {H : AH} : orun prog_64_method_2_code (Option.some Jvm.ClassFile.FieldType.boolean) E3 0 (n + 1) (32, L, S, H, cs, ss) = orun prog_64_method_2_code (Option.some Jvm.ClassFile.FieldType.boolean) E3 0 n (33, L, (.int 1 :: S), H, cs, ss) := s_any k3_32
theorem s3_33 {n cs ss : Nat} {L : List Slot} {S : List Value} {H : AH} : orun prog_64_method_2_code (Option.some Jvm.ClassFile.FieldType.boolean) E3 0 (n + 1) (33, L, S, H, cs, ss) = pI S fun x r => (st1 L 4 (.int x)).bind fun L' => orun prog_64_method_2_code (Option.some Jvm.ClassFile.FieldType.boolean) E3 0 n (35, L', r, H, cs, ss) := s_any k3_33
theorem s3_35 {n cs ss : Nat} {L : List Slot} {S : List Value} {H : AH} : orun prog_64_method_2_code (Option.some Jvm.ClassFile.FieldType.boolean) E3 0 (n + 1) (35, L, S, H, cs, ss) = orun prog_64_method_2_code (Option.some Jvm.ClassFile.FieldType.boolean) E3 0 n (172, L, S, H, cs, ss) := s_goto k3_35 (by decide) (by decide)
theorem s3_38 {n cs ss : Nat} {L : List Slot} {S : List Value} {H : AH} : orun prog_64_method_2_code (Option.some Jvm.ClassFile.FieldType.boolean) E3 0 (n + 1) (38, L, S, H, cs, ss) = (gI L 3).bind fun v => orun prog_64_method_2_code (Option.some Jvm.ClassFile.FieldType.boolean) E3 0 n (39, L, .int v :: S, H, cs, ss) := s_any k3_38
theorem s3_39 {n cs ss : Nat} {L : List Slot} {S : List Value} {H : AH} : orun prog_64_method_2_code (Option.some Jvm.ClassFile.FieldType.boolean) E3 0 (n + 1) (39, L, S, H, cs, ss) = orun prog_64_method_2_code (Option.some Jvm.ClassFile.FieldType.boolean) E3 0 n (42, L, (.int 194 :: S), H, cs, ss) := s_any k3_39
theorem s3_42 {n cs ss : Nat} {L : List Slot} {S : List Value} {H : AH} : orun prog_64_method_2_code (Option.some Jvm.ClassFile.FieldType.boolean) E3 0 (n + 1) (42, L, S, H, cs, ss) = pI S fun y S => pI S fun x r => if x < y then orun prog_64_method_2_code (Option.some Jvm.ClassFile.FieldType.boolean) E3 0 n (58, L, r, H, cs, ss) else orun prog_64_method_2_code (Option.some Jvm.ClassFile.FieldType.boolean) E3 0 n (45, L, r, H, cs, ss) := s_icmp (Q := fun x y => x < y) (fun _ _ => h_lt) k3_42 (by decide) (by decide)
theorem s3_45 {n cs ss : Nat} {L : List Slot} {S : List Value} {H : AH} : orun prog_64_method_2_code (Option.some Jvm.ClassFile.FieldType.boolean) E3 0 (n + 1) (45, L, S, H, cs, ss) = (gI L 3).bind fun v => orun prog_64_method_2_code (Option.some Jvm.ClassFile.FieldType.boolean) E3 0 n (46, L, .int v :: S, H, cs, ss) := s_any k3_45
theorem s3_46 {n cs ss : Nat} {L : List Slot} {S : List Value} {H : AH} : orun prog_64_method_2_code (Option.some Jvm.ClassFile.FieldType.boolean) E3 0 (n + 1) (46, L, S, H, cs, ss) = orun prog_64_method_2_code (Option.some Jvm.ClassFile.FieldType.boolean) E3 0 n (49, L, (.int 223 :: S), H, cs, ss) := s_any k3_46
theorem s3_49 {n cs ss : Nat} {L : List Slot} {S : List Value} {H : AH} : orun prog_64_method_2_code (Option.some Jvm.ClassFile.FieldType.boolean) E3 0 (n + 1) (49, L, S, H, cs, ss) = pI S fun y S => pI S fun x r => if y < x then orun prog_64_method_2_code (Option.some Jvm.ClassFile.FieldType.boolean) E3 0 n (58, L, r, H, cs, ss) else orun prog_64_method_2_code (Option.some Jvm.ClassFile.FieldType.boolean) E3 0 n (52, L, r, H, cs, ss) := s_icmp (Q := fun x y => y < x) (fun _ _ => h_gt) k3_49 (by decide) (by decide)
theorem s3_52 {n cs ss : Nat} {L : List Slot} {S : List Value} {H : AH} : orun prog_64_method_2_code (Option.some Jvm.ClassFile.FieldType.boolean) E3 0 (n + 1) (52, L, S, H, cs, ss) = orun prog_64_method_2_code (Option.some Jvm.ClassFile.FieldType.boolean) E3 0 n (53, L, (.int 2 :: S), H, cs, ss) := s_any k3_52
theorem s3_53 {n cs ss : Nat} {L : List Slot} {S : List Value} {H : AH} : orun prog_64_method_2_code (Option.some Jvm.ClassFile.FieldType.boolean) E3 0 (n + 1) (53, L, S, H, cs, ss) = pI S fun x r => (st1 L 4 (.int x)).bind fun L' => orun prog_64_method_2_code (Option.some Jvm.ClassFile.FieldType.boolean) E3 0 n (55, L', r, H, cs, ss) := s_any k3_53
theorem s3_55 {n cs ss : Nat} {L : List Slot} {S : List Value} {H : AH} : orun prog_64_method_2_code (Option.some Jvm.ClassFile.FieldType.boolean) E3 0 (n + 1) (55, L, S, H, cs, ss) = orun prog_64_method_2_code (Option.some Jvm.ClassFile.FieldType.boolean) E3 0 n (172, L, S, H, cs, ss) := s_goto k3_55 (by decide) (by decide)
theorem s3_58 {n cs ss : Nat} {L : List Slot} {S : List Value} {H : AH} : orun prog_64_method_2_code (Option.some Jvm.ClassFile.FieldType.boolean) E3 0 (n + 1) (58, L, S, H, cs, ss) = (gI L 3).bind fun v => orun prog_64_method_2_code (Option.some Jvm.ClassFile.FieldType.boolean) E3 0 n (59, L, .int v :: S, H, cs, ss) := s_any k3_58
theorem s3_59 {n cs ss : Nat} {L : List Slot} {S : List Value} {H : AH} : orun prog_64_method_2_code (Option.some Jvm.ClassFile.FieldType.boolean) E3 0 (n + 1) (59, L, S, H, cs, ss) = orun prog_64_method_2_code (Option.some Jvm.ClassFile.FieldType.boolean) E3 0 n (62, L, (.int 224 :: S), H, cs, ss) := s_any k3_59
theorem s3_62 {n cs ss : Nat} {L : List Slot} {S : List Value} {H : AH} : orun prog_64_method_2_code (Option.some Jvm.ClassFile.FieldType.boolean) E3 0 (n + 1) (62, L, S, H, cs, ss) = pI S fun y S => pI S fun x r => if x = y then orun prog_64_method_2_code (Option.some Jvm.ClassFile.FieldType.boolean) E3 0 n (65, L, r, H, cs, ss) else orun prog_64_method_2_code (Option.some Jvm.ClassFile.FieldType.boolean) E3 0 n (76, L, r, H, cs, ss) := s_icmpN (Q := fun x y => x = y) (fun _ _ => h_ne) k3_62 (by decide) (by decide)
theorem s3_65 {n cs ss : Nat} {L : List Slot} {S : List Value} {H : AH} : orun prog_64_method_2_code (Option.some Jvm.ClassFile.FieldType.boolean) E3 0 (n + 1) (65, L, S, H, cs, ss) = orun prog_64_method_2_code (Option.some Jvm.ClassFile.FieldType.boolean) E3 0 n (66, L, (.int 3 :: S), H, cs, ss) := s_any k3_65
theorem s3_66 {n cs ss : Nat} {L : List Slot} {S : List Value} {H : AH} : orun prog_64_method_2_code (Option.some Jvm.ClassFile.FieldType.boolean) E3 0 (n + 1) (66, L, S, H, cs, ss) = pI S fun x r => (st1 L 4 (.int x)).bind fun L' => orun prog_64_method_2_code (Option.some Jvm.ClassFile.FieldType.boolean) E3 0 n (68, L', r, H, cs, ss) := s_any k3_66
theorem s3_68 {n cs ss : Nat} {L : List Slot} {S : List Value} {H : AH} : orun prog_64_method_2_code (Option.some Jvm.ClassFile.FieldType.boolean) E3 0 (n + 1) (68, L, S, H, cs, ss) = orun prog_64_method_2_code (Option.some Jvm.ClassFile.FieldType.boolean) E3 0 n (71, L, (.int 160 :: S), H, cs, ss) := s_any k3_68
theorem s3_71 {n cs ss : Nat} {L : List Slot} {S : List Value} {H : AH} : orun prog_64_method_2_code (Option.some Jvm.ClassFile.FieldType.boolean) E3 0 (n + 1) (71, L, S, H, cs, ss) = pI S fun x r => (st1 L 5 (.int x)).bind fun L' => orun prog_64_method_2_code (Option.some Jvm.ClassFile.FieldType.boolean) E3 0 n (73, L', r, H, cs, ss) := s_any k3_71
theorem s3_73 {n cs ss : Nat} {L : List Slot} {S : List Value} {H : AH} : orun prog_64_method_2_code (Option.some Jvm.ClassFile.FieldType.boolean) E3 0 (n + 1) (73, L, S, H, cs, ss) = orun prog_64_method_2_code (Option.some Jvm.ClassFile.FieldType.boolean) E3 0 n (172, L, S, H, cs, ss) := s_goto k3_73 (by decide) (by decide)
theorem s3_76 {n cs ss : Nat} {L : List Slot} {S : List Value} {H : AH} : orun prog_64_method_2_code (Option.some Jvm.ClassFile.FieldType.boolean) E3 0 (n + 1) (76, L, S, H, cs, ss) = (gI L 3).bind fun v => orun prog_64_method_2_code (Option.some Jvm.ClassFile.FieldType.boolean) E3 0 n (77, L, .int v :: S, H, cs, ss) := s_any k3_76
theorem s3_77 {n cs ss : Nat} {L : List Slot} {S : List Value} {H : AH} : orun prog_64_method_2_code (Option.some Jvm.ClassFile.FieldType.boolean) E3 0 (n + 1) (77, L, S, H, cs, ss) = orun prog_64_method_2_code (Option.some Jvm.ClassFile.FieldType.boolean) E3 0 n (80, L, (.int 237 :: S), H, cs, ss) := s_any k3_77
theorem s3_80 {n cs ss : Nat} {L : List Slot} {S : List Value} {H : AH} : orun prog_64_method_2_code (Option.some Jvm.ClassFile.FieldType.boolean) E3 0 (n + 1) (80, L, S, H, cs, ss) = pI S fun y S => pI S fun x r => if x = y then orun prog_64_method_2_code (Option.some Jvm.ClassFile.FieldType.boolean) E3 0 n (83, L, r, H, cs, ss) else orun prog_64_method_2_code (Option.some Jvm.ClassFile.FieldType.boolean) E3 0 n (94, L, r, H, cs, ss) := s_icmpN (Q := fun x y => x = y) (fun _ _ => h_ne) k3_80 (by decide) (by decide)
theorem s3_83 {n cs ss : Nat} {L : List Slot} {S : List Value} {H : AH} : orun prog_64_method_2_code (Option.some Jvm.ClassFile.FieldType.boolean) E3 0 (n + 1) (83, L, S, H, cs, ss) = orun prog_64_method_2_code (Option.some Jvm.ClassFile.FieldType.boolean) E3 0 n (84, L, (.int 3 :: S), H, cs, ss) := s_any k3_83
theorem s3_84 {n cs ss : Nat} {L : List Slot} {S : List Value} {H : AH} : orun prog_64_method_2_code (Option.some Jvm.ClassFile.FieldType.boolean) E3 0 (n + 1) (84, L, S, H, cs, ss) = pI S fun x r => (st1 L 4 (.int x)).bind fun L' => orun prog_64_method_2_code (Option.some Jvm.ClassFile.FieldType.boolean) E3 0 n (86, L', r, H, cs, ss) := s_any k3_84
theorem s3_86 {n cs ss : Nat} {L : List Slot} {S : List Value} {H : AH} : orun prog_64_method_2_code (Option.some Jvm.ClassFile.FieldType.boolean) E3 0 (n + 1) (86, L, S, H, cs, ss) = orun prog_64_method_2_code (Option.some Jvm.ClassFile.FieldType.boolean) E3 0 n (89, L, (.int 159 :: S), H, cs, ss) := s_any k3_86
theorem s3_89 {n cs ss : Nat} {L : List Slot} {S : List Value} {H : AH} : orun prog_64_method_2_code (Option.some Jvm.ClassFile.FieldType.boolean) E3 0 (n + 1) (89, L, S, H, cs, ss) = pI S fun x r => (st1 L 6 (.int x)).bind fun L' => orun prog_64_method_2_code (Option.some Jvm.ClassFile.FieldType.boolean) E3 0 n (91, L', r, H, cs, ss) := s_any k3_89
theorem s3_91 {n cs ss : Nat} {L : List Slot} {S : List Value} {H : AH} : orun prog_64_method_2_code (Option.some Jvm.ClassFile.FieldType.boolean) E3 0 (n + 1) (91, L, S, H, cs, ss) = orun prog_64_method_2_code (Option.some Jvm.ClassFile.FieldType.boolean) E3 0 n (172, L, S, H, cs, ss) := s_goto k3_91 (by decide) (by decide)
theorem s3_94 {n cs ss : Nat} {L : List Slot} {S : List Value} {H : AH} : orun prog_64_method_2_code (Option.some Jvm.ClassFile.FieldType.boolean) E3 0 (n + 1) (94, L, S, H, cs, ss) = (gI L 3).bind fun v => orun prog_64_method_2_code (Option.some Jvm.ClassFile.FieldType.boolean) E3 0 n (95, L, .int v :: S, H, cs, ss) := s_any k3_94
theorem s3_95 {n cs ss : Nat} {L : List Slot} {S : List Value} {H : AH} : orun prog_64_method_2_code (Option.some Jvm.ClassFile.FieldType.boolean) E3 0 (n + 1) (95, L, S, H, cs, ss) = orun prog_64_method_2_code (Option.some Jvm.ClassFile.FieldType.boolean) E3 0 n (98, L, (.int 225 :: S), H, cs, ss) := s_any k3_95
theorem s3_98 {n cs ss : Nat} {L : List Slot} {S : List Value} {H : AH} : orun prog_64_method_2_code (Option.some Jvm.ClassFile.FieldType.boolean) E3 0 (n + 1) (98, L, S, H, cs, ss) = pI S fun y S => pI S fun x r => if x < y then orun prog_64_method_2_code (Option.some Jvm.ClassFile.FieldType.boolean) E3 0 n (114, L, r, H, cs, ss) else orun prog_64_method_2_code (Option.some Jvm.ClassFile.FieldType.boolean) E3 0 n (101, L, r, H, cs, ss) := s_icmp (Q := fun x y => x < y) (fun _ _ => h_lt) k3_98 (by decide) (by decide)
theorem s3_101 {n cs ss : Nat} {L : List Slot} {S : List Value} {H : AH} : orun prog_64_method_2_code (Option.some Jvm.ClassFile.FieldType.boolean) E3 0 (n + 1) (101, L, S, H, cs, ss) = (gI L 3).bind fun v => orun prog_64_method_2_code (Option.some Jvm.ClassFile.FieldType.boolean) E3 0 n (102, L, .int v :: S, H, cs, ss) := s_any k3_101
theorem s3_102 {n cs ss : Nat} {L : List Slot} {S : List Value} {H : AH} : orun prog_64_method_2_code (Option.some Jvm.ClassFile.FieldType.boolean) E3 0 (n + 1) (102, L, S, H, cs, ss) = orun prog_64_method_2_code (Option.some Jvm.ClassFile.FieldType.boolean) E3 0 n (105, L, (.int 239 :: S), H, cs, ss) := s_any k3_102
theorem s3_105 {n cs ss : Nat} {L : List Slot} {S : List Value} {H : AH} : orun prog_64_method_2_code (Option.some Jvm.ClassFile.FieldType.boolean) E3 0 (n + 1) (105, L, S, H, cs, ss) = pI S fun y S => pI S fun x r => if y < x then orun prog_64_method_2_code (Option.some Jvm.ClassFile.FieldType.boolean) E3 0 n (114, L, r, H, cs, ss) else orun prog_64_method_2_code (Option.some Jvm.ClassFile.FieldType.boolean) E3 0 n (108, L, r, H, cs, ss) := s_icmp (Q := fun x y => y < x) (fun _ _ => h_gt) k3_105 (by decide) (by decide)
theorem s3_108 {n cs ss : Nat} {L : List Slot} {S : List Value} {H : AH} : orun prog_64_method_2_code (Option.some Jvm.ClassFile.FieldType.boolean) E3 0 (n + 1) (108, L, S, H, cs, ss) = orun prog_64_method_2_code (Option.some Jvm.ClassFile.FieldType.boolean) E3 0 n (109, L, (.int 3 :: S), H, cs, ss) := s_any k3_108
theorem s3_109 {n cs ss : Nat} {L : List Slot} {S : List Value} {H : AH} : orun prog_64_method_2_code (Option.some Jvm.ClassFile.FieldType.boolean) E3 0 (n + 1) (109, L, S, H, cs, ss) = pI S fun x r => (st1 L 4 (.int x)).bind fun L' => orun prog_64_method_2_code (Option.some Jvm.ClassFile.FieldType.boolean) E3 0 n (111, L', r, H, cs, ss) := s_any k3_109
theorem s3_111 {n cs ss : Nat} {L : List Slot} {S : List Value} {H : AH} : orun prog_64_method_2_code (Option.some Jvm.ClassFile.FieldType.boolean) E3 0 (n + 1) (111, L, S, H, cs, ss) = orun prog_64_method_2_code (Option.some Jvm.ClassFile.FieldType.boolean) E3 0 n (172, L, S, H, cs, ss) := s_goto k3_111 (by decide) (by decide)
theorem s3_114 {n cs ss : Nat} {L : List Slot} {S : List Value} {H : AH} : orun prog_64_method_2_code (Option.some Jvm.ClassFile.FieldType.boolean) E3 0 (n + 1) (114, L, S, H, cs, ss) = (gI L 3).bind fun v => orun prog_64_method_2_code (Option.some Jvm.ClassFile.FieldType.boolean) E3 0 n (115, L, .int v :: S, H, cs, ss) := s_any k3_114
theorem s3_115 {n cs ss : Nat} {L : List Slot} {S : List Value} {H : AH} : orun prog_64_method_2_code (Option.some Jvm.ClassFile.FieldType.boolean) E3 0 (n + 1) (115, L, S, H, cs, ss) = orun prog_64_method_2_code (Option.some Jvm.ClassFile.FieldType.boolean) E3 0 n (118, L, (.int 240 :: S), H, cs, ss) := s_any k3_115
theorem s3_118 {n cs ss : Nat} {L : List Slot} {S : List Value} {H : AH} : orun prog_64_method_2_code (Option.some Jvm.ClassFile.FieldType.boolean) E3 0 (n + 1) (118, L, S, H, cs, ss) = pI S fun y S => pI S fun x r => if x = y then orun prog_64_method_2_code (Option.some Jvm.ClassFile.FieldType.boolean) E3 0 n (121, L, r, H, cs, ss) else orun prog_64_method_2_code (Option.some Jvm.ClassFile.FieldType.boolean) E3 0 n (132, L, r, H, cs, ss) := s_icmpN (Q := fun x y => x = y) (fun _ _ => h_ne) k3_118 (by decide) (by decide)
theorem s3_121 {n cs ss : Nat} {L : List Slot} {S : List Value} {H : AH} : orun prog_64_method_2_code (Option.some Jvm.ClassFile.FieldType.boolean) E3 0 (n + 1) (121, L, S, H, cs, ss) = orun prog_64_method_2_code (Option.some Jvm.ClassFile.FieldType.boolean) E3 0 n (122, L, (.int 4 :: S), H, cs, ss) := s_any k3_121
theorem s3_122 {n cs ss : Nat} {L : List Slot} {S : List Value} {H : AH} : orun prog_64_method_2_code (Option.some Jvm.ClassFile.FieldType.boolean) E3 0 (n + 1) (122, L, S, H, cs, ss) = pI S fun x r => (st1 L 4 (.int x)).bind fun L' => orun prog_64_method_2_code (Option.some Jvm.ClassFile.FieldType.boolean) E3 0 n (124, L', r, H, cs, ss) := s_any k3_122
theorem s3_124 {n cs ss : Nat} {L : List Slot} {S : List Value} {H : AH} : orun prog_64_method_2_code (Option.some Jvm.ClassFile.FieldType.boolean) E3 0 (n + 1) (124, L, S, H, cs, ss) = orun prog_64_method_2_code (Option.some Jvm.ClassFile.FieldType.boolean) E3 0 n (127, L, (.int 144 :: S), H, cs, ss) := s_any k3_124
theorem s3_127 {n cs ss : Nat} {L : List Slot} {S : List Value} {H : AH} : orun prog_64_method_2_code (Option.some Jvm.ClassFile.FieldType.boolean) E3 0 (n + 1) (127, L, S, H, cs, ss) = pI S fun x r => (st1 L 5 (.int x)).bind fun L' => orun prog_64_method_2_code (Option.some Jvm.ClassFile.FieldType.boolean) E3 0 n (129, L', r, H, cs, ss) := s_any k3_127
theorem s3_129 {n cs ss : Nat} {L : List Slot} {S : List Value} {H : AH} : orun prog_64_method_2_code (Option.some Jvm.ClassFile.FieldType.boolean) E3 0 (n + 1) (129, L, S, H, cs, ss) = orun prog_64_method_2_code (Option.some Jvm.ClassFile.FieldType.boolean) E3 0 n (172, L, S, H, cs, ss) := s_goto k3_129 (by decide) (by decide)
theorem s3_132 {n cs ss : Nat} {L : List Slot} {S : List Value} {H : AH} : orun prog_64_method_2_code (Option.some Jvm.ClassFile.FieldType.boolean) E3 0 (n + 1) (132, L, S, H, cs, ss) = (gI L 3).bind fun v => orun prog_64_method_2_code (Option.some Jvm.ClassFile.FieldType.boolean) E3 0 n (133, L, .int v :: S, H, cs, ss) := s_any k3_132
theorem s3_133 {n cs ss : Nat} {L : List Slot} {S : List Value} {H : AH} : orun prog_64_method_2_code (Option.some Jvm.ClassFile.FieldType.boolean) E3 0 (n + 1) (133, L, S, H, cs, ss) = orun prog_64_method_2_code (Option.some Jvm.ClassFile.FieldType.boolean) E3 0 n (136, L, (.int 244 :: S), H, cs, ss) := s_any k3_133
theorem s3_136 {n cs ss : Nat} {L : List Slot} {S : List Value} {H : AH} : orun prog_64_method_2_code (Option.some Jvm.ClassFile.FieldType.boolean) E3 0 (n + 1) (136, L, S, H, cs, ss) = pI S fun y S => pI S fun x r => if x = y then orun prog_64_method_2_code (Option.some Jvm.ClassFile.FieldType.boolean) E3 0 n (139, L, r, H, cs, ss) else orun prog_64_method_2_code (Option.some Jvm.ClassFile.FieldType.boolean) E3 0 n (150, L, r, H, cs, ss) := s_icmpN (Q := fun x y => x = y) (fun _ _ => h_ne) k3_136 (by decide) (by decide)
theorem s3_139 {n cs ss : Nat} {L : List Slot} {S : List Value} {H : AH} : orun prog_64_method_2_code (Option.some Jvm.ClassFile.FieldType.boolean) E3 0 (n + 1) (139, L, S, H, cs, ss) = orun prog_64_method_2_code (Option.some Jvm.ClassFile.FieldType.boolean) E3 0 n (140, L, (.int 4 :: S), H, cs, ss) := s_any k3_139
theorem s3_140 {n cs ss : Nat} {L : List Slot} {S : List Value} {H : AH} : orun prog_64_method_2_code (Option.some Jvm.ClassFile.FieldType.boolean) E3 0 (n + 1) (140, L, S, H, cs, ss) = pI S fun x r => (st1 L 4 (.int x)).bind fun L' => orun prog_64_method_2_code (Option.some Jvm.ClassFile.FieldType.boolean) E3 0 n (142, L', r, H, cs, ss) := s_any k3_140
theorem s3_142 {n cs ss : Nat} {L : List Slot} {S : List Value} {H : AH} : orun prog_64_method_2_code (Option.some Jvm.ClassFile.FieldType.boolean) E3 0 (n + 1) (142, L, S, H, cs, ss) = orun prog_64_method_2_code (Option.some Jvm.ClassFile.FieldType.boolean) E3 0 n (145, L, (.int 143 :: S), H, cs, ss) := s_any k3_142
theorem s3_145 {n cs ss : Nat} {L : List Slot} {S : List Value} {H : AH} : orun prog_64_method_2_code (Option.some Jvm.ClassFile.FieldType.boolean) E3 0 (n + 1) (145, L, S, H, cs, ss) = pI S fun x r => (st1 L 6 (.int x)).bind fun L' => orun prog_64_method_2_code (Option.some Jvm.ClassFile.FieldType.boolean) E3 0 n (147, L', r, H, cs, ss) := s_any k3_145
theorem s3_147 {n cs ss : Nat} {L : List Slot} {S : List Value} {H : AH} : orun prog_64_method_2_code (Option.some Jvm.ClassFile.FieldType.boolean) E3 0 (n + 1) (147, L, S, H, cs, ss) = orun prog_64_method_2_code (Option.some Jvm.ClassFile.FieldType.boolean) E3 0 n (172, L, S, H, cs, ss) := s_goto k3_147 (by decide) (by decide)
theorem s3_150 {n cs ss : Nat} {L : List Slot} {S : List Value} {H : AH} : orun prog_64_method_2_code (Option.some Jvm.ClassFile.FieldType.boolean) E3 0 (n + 1) (150, L, S, H, cs, ss) = (gI L 3).bind fun v => orun prog_64_method_2_code (Option.some Jvm.ClassFile.FieldType.boolean) E3 0 n (151, L, .int v :: S, H, cs, ss) := s_any k3_150
theorem s3_151 {n cs ss : Nat} {L : List Slot} {S : List Value} {H : AH} : orun prog_64_method_2_code (Option.some Jvm.ClassFile.FieldType.boolean) E3 0 (n + 1) (151, L, S, H, cs, ss) = orun prog_64_method_2_code (Option.some Jvm.ClassFile.FieldType.boolean) E3 0 n (154, L, (.int 241 :: S), H, cs, ss) := s_any k3_151
theorem s3_154 {n cs ss : Nat} {L : List Slot} {S : List Value} {H : AH} : orun prog_64_method_2_code (Option.some Jvm.ClassFile.FieldType.boolean) E3 0 (n + 1) (154, L, S, H, cs, ss) = pI S fun y S => pI S fun x r => if x < y then orun prog_64_method_2_code (Option.some Jvm.ClassFile.FieldType.boolean) E3 0 n (170, L, r, H, cs, ss) else orun prog_64_method_2_code (Option.some Jvm.ClassFile.FieldType.boolean) E3 0 n (157, L, r, H, cs, ss) := s_icmp (Q := fun x y => x < y) (fun _ _ => h_lt) k3_154 (by decide) (by decide)
theorem s3_157 {n cs ss : Nat} {L : List Slot} {S : List Value} {H : AH} : orun prog_64_method_2_code (Option.some Jvm.ClassFile.FieldType.boolean) E3 0 (n + 1) (157, L, S, H, cs, ss) = (gI L 3).bind fun v => orun prog_64_method_2_code (Option.some Jvm.ClassFile.FieldType.boolean) E3 0 n (158, L, .int v :: S, H, cs, ss) := s_any k3_157
theorem s3_158 {n cs ss : Nat} {L : List Slot} {S : List Value} {H : AH} : orun prog_64_method_2_code (Option.some Jvm.ClassFile.FieldType.boolean) E3 0 (n + 1) (158, L, S, H, cs, ss) = orun prog_64_method_2_code (Option.some Jvm.ClassFile.FieldType.boolean) E3 0 n (161, L, (.int 243 :: S), H, cs, ss) := s_any k3_158
theorem s3_161 {n cs ss : Nat} {L : List Slot} {S : List Value} {H : AH} : orun prog_64_method_2_code (Option.some Jvm.ClassFile.FieldType.boolean) E3 0 (n + 1) (161, L, S, H, cs, ss) = pI S fun y S => pI S fun x r => if y < x then orun prog_64_method_2_code (Option.some Jvm.ClassFile.FieldType.boolean) E3 0 n (170, L, r, H, cs, ss) else orun prog_64_method_2_code (Option.some Jvm.ClassFile.FieldType.boolean) E3 0 n (164, L, r, H, cs, ss) := s_icmp (Q := fun x y => y < x) (fun _ _ => h_gt) k3_161 (by decide) (by decide)
theorem s3_164 {n cs ss : Nat} {L : List Slot} {S : List Value} {H : AH} : orun prog_64_method_2_code (Option.some Jvm.ClassFile.FieldType.boolean) E3 0 (n + 1) (164, L, S, H, cs, ss) = orun prog_64_method_2_code (Option.some Jvm.ClassFile.FieldType.boolean) E3 0 n (165, L, (.int 4 :: S), H, cs, ss) := s_any k3_164
theorem s3_165 {n cs ss : Nat} {L : List Slot} {S : List Value} {H : AH} : orun prog_64_method_2_code (Option.some Jvm.ClassFile.FieldType.boolean) E3 0 (n + 1) (165, L, S, H, cs, ss) = pI S fun x r => (st1 L 4 (.int x)).bind fun L' => orun prog_64_method_2_code (Option.some Jvm.ClassFile.FieldType.boolean) E3 0 n (167, L', r, H, cs, ss) := s_any k3_165
theorem s3_167 {n cs ss : Nat} {L : List Slot} {S : List Value} {H : AH} : orun prog_64_method_2_code (Option.some Jvm.ClassFile.FieldType.boolean) E3 0 (n + 1) (167, L, S, H, cs, ss) = orun prog_64_method_2_code (Option.some Jvm.ClassFile.FieldType.boolean) E3 0 n (172, L, S, H, cs, ss) := s_goto k3_167 (by decide) (by decide)
theorem s3_170 {n cs ss : Nat} {L : List Slot} {S : List Value} {H : AH} : orun prog_64_method_2_code (Option.some Jvm.ClassFile.FieldType.boolean) E3 0 (n + 1) (170, L, S, H, cs, ss) = orun prog_64_method_2_code (Option.some Jvm.ClassFile.FieldType.boolean) E3 0 n (171, L, (.int 0 :: S), H, cs, ss) := s_any k3_170
theorem s3_171 {n cs ss : Nat} {L : List Slot} {S : List Value} {H : AH} : orun prog_64_method_2_code (Option.some Jvm.ClassFile.FieldType.boolean) E3 0 (n + 1) (171, L, S, H, cs, ss) = pI S fun z _ => some (some (.int (z &&& 1)), H) := s_any k3_171
theorem s3_172 {n cs ss : Nat} {L : List Slot} {S : List Value} {H : AH} : orun prog_64_method_2_code (Option.some Jvm.ClassFile.FieldType.boolean) E3 0 (n + 1) (172, L, S, H, cs, ss) = (gI L 1).bind fun v => orun prog_64_method_2_code (Option.some Jvm.ClassFile.FieldType.boolean) E3 0 n (173, L, .int v :: S, H, cs, ss) := s_any k3_172
theorem s3_173 {n cs ss : Nat} {L : List Slot} {S : List Value} {H : AH} : orun prog_64_method_2_code (Option.some Jvm.ClassFile.FieldType.boolean) E3 0 (n + 1) (173, L, S, H, cs, ss) = (gI L 2).bind fun v => orun prog_64_method_2_code (Option.some Jvm.ClassFile.FieldType.boolean) E3 0 n (174, L, .int v :: S, H, cs, ss) := s_any k3_173
theorem s3_174 {n cs ss : Nat} {L : List Slot} {S : List Value} {H : AH} : orun prog_64_method_2_code (Option.some Jvm.ClassFile.FieldType.boolean) E3 0 (n + 1) (174, L, S, H, cs, ss) = pI S fun y S => pI S fun x r => orun prog_64_method_2_code (Option.some Jvm.ClassFile.FieldType.boolean) E3 0 n (175, L, .int (x - y) :: r, H, cs, ss) := s_any k3_174
theorem s3_175 {n cs ss : Nat} {L : List Slot} {S : List Value} {H : AH} : orun prog_64_method_2_code (Option.some Jvm.ClassFile.FieldType.boolean) E3 0 (n + 1) (175, L, S, H, cs, ss) = (gI L 4).bind fun v => orun prog_64_method_2_code (Option.some Jvm.ClassFile.FieldType.boolean) E3 0 n (177, L, .int v :: S, H, cs, ss) := s_any k3_175
theorem s3_177 {n cs ss : Nat} {L : List Slot} {S : List Value} {H : AH} : orun prog_64_method_2_code (Option.some Jvm.ClassFile.FieldType.boolean) E3 0 (n + 1) (177, L, S, H, cs, ss) = pI S fun y S => pI S fun x r => if x < y then orun prog_64_method_2_code (Option.some Jvm.ClassFile.FieldType.boolean) E3 0 n (180, L, r, H, cs, ss) else orun prog_64_method_2_code (Option.some Jvm.ClassFile.FieldType.boolean) E3 0 n (182, L, r, H, cs, ss) := s_icmpN (Q := fun x y => x < y) (fun _ _ => h_ge) k3_177 (by decide) (by decide)
theorem s3_180 {n cs ss : Nat} {L : List Slot} {S : List Value} {H : AH} : orun prog_64_method_2_code (Option.some Jvm.ClassFile.FieldType.boolean) E3 0 (n + 1) (180, L, S, H, cs, ss) = orun prog_64_method_2_code (Option.some Jvm.ClassFile.FieldType.boolean) E3 0 n (181, L, (.int 0 :: S), H, cs, ss) := s_any k3_180
theorem s3_181 {n cs ss : Nat} {L : List Slot} {S : List Value} {H : AH} : orun prog_64_method_2_code (Option.some Jvm.ClassFile.FieldType.boolean) E3 0 (n + 1) (181, L, S, H, cs, ss) = pI S fun z _ => some (some (.int (z &&& 1)), H) := s_any k3_181
theorem s3_182 {n cs ss : Nat} {L : List Slot} {S : List Value} {H : AH} : orun prog_64_method_2_code (Option.some Jvm.ClassFile.FieldType.boolean) E3 0 (n + 1) (182, L, S, H, cs, ss) = orun prog_64_method_2_code (Option.some Jvm.ClassFile.FieldType.boolean) E3 0 n (183, L, (.int 1 :: S), H, cs, ss) := s_any k3_182
theorem s3_183 {n cs ss : Nat} {L : List Slot} {S : List Value} {H : AH} : orun prog_64_method_2_code (Option.some Jvm.ClassFile.FieldType.boolean) E3 0 (n + 1) (183, L, S, H, cs, ss) = pI S fun x r => (st1 L 7 (.int x)).bind fun L' => orun prog_64_method_2_code (Option.some Jvm.ClassFile.FieldType.boolean) E3 0 n (185, L', r, H, cs, ss) := s_any k3_183
theorem s3_185 {n cs ss : Nat} {L : List Slot} {S : List Value} {H : AH} : orun prog_64_method_2_code (Option.some Jvm.ClassFile.FieldType.boolean) E3 0 (n + 1) (185, L, S, H, cs, ss) = (gI L 7).bind fun v => orun prog_64_method_2_code (Option.some Jvm.ClassFile.FieldType.boolean) E3 0 n (187, L, .int v :: S, H, cs, ss) := s_any k3_185
theorem s3_187 {n cs ss : Nat} {L : List Slot} {S : List Value} {H : AH} : orun prog_64_method_2_code (Option.some Jvm.ClassFile.FieldType.boolean) E3 0 (n + 1) (187, L, S, H, cs, ss) = (gI L 4).bind fun v => orun prog_64_method_2_code (Option.some Jvm.ClassFile.FieldType.boolean) E3 0 n (189, L, .int v :: S, H, cs, ss) := s_any k3_187
theorem s3_189 {n cs ss : Nat} {L : List Slot} {S : List Value} {H : AH} : orun prog_64_method_2_code (Option.some Jvm.ClassFile.FieldType.boolean) E3 0 (n + 1) (189, L, S, H, cs, ss) = pI S fun y S => pI S fun x r => if x < y then orun prog_64_method_2_code (Option.some Jvm.ClassFile.FieldType.boolean) E3 0 n (192, L, r, H, cs, ss) else orun prog_64_method_2_code (Option.some Jvm.ClassFile.FieldType.boolean) E3 0 n (250, L, r, H, cs, ss) := s_icmpN (Q := fun x y => x < y) (fun _ _ => h_ge) k3_189 (by decide) (by decide)
theorem s3_192 {n cs ss : Nat} {L : List Slot} {S : List Value} {H : AH} : orun prog_64_method_2_code (Option.some Jvm.ClassFile.FieldType.boolean) E3 0 (n + 1) (192, L, S, H, cs, ss) = (gA L 0).bind fun v => orun prog_64_method_2_code (Option.some Jvm.ClassFile.FieldType.boolean) E3 0 n (193, L, v :: S, H, cs, ss) := s_any k3_192
theorem s3_193 {n cs ss : Nat} {L : List Slot} {S : List Value} {H : AH} : orun prog_64_method_2_code (Option.some Jvm.ClassFile.FieldType.boolean) E3 0 (n + 1) (193, L, S, H, cs, ss) = (gI L 2).bind fun v => orun prog_64_method_2_code (Option.some Jvm.ClassFile.FieldType.boolean) E3 0 n (194, L, .int v :: S, H, cs, ss) := s_any k3_193
theorem s3_194 {n cs ss : Nat} {L : List Slot} {S : List Value} {H : AH} : orun prog_64_method_2_code (Option.some Jvm.ClassFile.FieldType.boolean) E3 0 (n + 1) (194, L, S, H, cs, ss) = (gI L 7).bind fun v => orun prog_64_method_2_code (Option.some Jvm.ClassFile.FieldType.boolean) E3 0 n (196, L, .int v :: S, H, cs, ss) := s_any k3_194
theorem s3_196 {n cs ss : Nat} {L : List Slot} {S : List Value} {H : AH} : orun prog_64_method_2_code (Option.some Jvm.ClassFile.FieldType.boolean) E3 0 (n + 1) (196, L, S, H, cs, ss) = pI S fun y S => pI S fun x r => orun prog_64_method_2_code (Option.some Jvm.ClassFile.FieldType.boolean) E3 0 n (197, L, .int (x + y) :: r, H, cs, ss) := s_any k3_196
theorem s3_197 {n cs ss : Nat} {L : List Slot} {S : List Value} {H : AH} : orun prog_64_method_2_code (Option.some Jvm.ClassFile.FieldType.boolean) E3 0 (n + 1) (197, L, S, H, cs, ss) = ex (Option.some Jvm.ClassFile.FieldType.boolean) E3 0 (orun prog_64_method_2_code (Option.some Jvm.ClassFile.FieldType.boolean) E3 0 n) (.baload) 197 L S H cs ss := s_any k3_197
theorem s3_198 {n cs ss : Nat} {L : List Slot} {S : List Value} {H : AH} : orun prog_64_method_2_code (Option.some Jvm.ClassFile.FieldType.boolean) E3 0 (n + 1) (198, L, S, H, cs, ss) = orun prog_64_method_2_code (Option.some Jvm.ClassFile.FieldType.boolean) E3 0 n (201, L, (.int 255 :: S), H, cs, ss) := s_any k3_198
theorem s3_201 {n cs ss : Nat} {L : List Slot} {S : List Value} {H : AH} : orun prog_64_method_2_code (Option.some Jvm.ClassFile.FieldType.boolean) E3 0 (n + 1) (201, L, S, H, cs, ss) = pI S fun y S => pI S fun x r => orun prog_64_method_2_code (Option.some Jvm.ClassFile.FieldType.boolean) E3 0 n (202, L, .int (x &&& y) :: r, H, cs, ss) := s_any k3_201
theorem s3_202 {n cs ss : Nat} {L : List Slot} {S : List Value} {H : AH} : orun prog_64_method_2_code (Option.some Jvm.ClassFile.FieldType.boolean) E3 0 (n + 1) (202, L, S, H, cs, ss) = pI S fun x r => (st1 L 8 (.int x)).bind fun L' => orun prog_64_method_2_code (Option.some Jvm.ClassFile.FieldType.boolean) E3 0 n (204, L', r, H, cs, ss) := s_any k3_202
theorem s3_204 {n cs ss : Nat} {L : List Slot} {S : List Value} {H : AH} : orun prog_64_method_2_code (Option.some Jvm.ClassFile.FieldType.boolean) E3 0 (n + 1) (204, L, S, H, cs, ss) = (gI L 8).bind fun v => orun prog_64_method_2_code (Option.some Jvm.ClassFile.FieldType.boolean) E3 0 n (206, L, .int v :: S, H, cs, ss) := s_any k3_204
theorem s3_206 {n cs ss : Nat} {L : List Slot} {S : List Value} {H : AH} : orun prog_64_method_2_code (Option.some Jvm.ClassFile.FieldType.boolean) E3 0 (n + 1) (206, L, S, H, cs, ss) = (gI L 7).bind fun v => orun prog_64_method_2_code (Option.some Jvm.ClassFile.FieldType.boolean) E3 0 n (208, L, .int v :: S, H, cs, ss) := s_any k3_206
theorem s3_208 {n cs ss : Nat} {L : List Slot} {S : List Value} {H : AH} : orun prog_64_method_2_code (Option.some Jvm.ClassFile.FieldType.boolean) E3 0 (n + 1) (208, L, S, H, cs, ss) = orun prog_64_method_2_code (Option.some Jvm.ClassFile.FieldType.boolean) E3 0 n (209, L, (.int 1 :: S), H, cs, ss) := s_any k3_208
theorem s3_209 {n cs ss : Nat} {L : List Slot} {S : List Value} {H : AH} : orun prog_64_method_2_code (Option.some Jvm.ClassFile.FieldType.boolean) E3 0 (n + 1) (209, L, S, H, cs, ss) = pI S fun y S => pI S fun x r => if x = y then orun prog_64_method_2_code (Option.some Jvm.ClassFile.FieldType.boolean) E3 0 n (212, L, r, H, cs, ss) else orun prog_64_method_2_code (Option.some Jvm.ClassFile.FieldType.boolean) E3 0 n (217, L, r, H, cs, ss) := s_icmpN (Q := fun x y => x = y) (fun _ _ => h_ne) k3_209 (by decide) (by decide)
theorem s3_212 {n cs ss : Nat} {L : List Slot} {S : List Value} {H : AH} : orun prog_64_method_2_code (Option.some Jvm.ClassFile.FieldType.boolean) E3 0 (n + 1) (212, L, S, H, cs, ss) = (gI L 5).bind fun v => orun prog_64_method_2_code (Option.some Jvm.ClassFile.FieldType.boolean) E3 0 n (214, L, .int v :: S, H, cs, ss) := s_any k3_212
theorem s3_214 {n cs ss : Nat} {L : List Slot} {S : List Value} {H : AH} : orun prog_64_method_2_code (Option.some Jvm.ClassFile.FieldType.boolean) E3 0 (n + 1) (214, L, S, H, cs, ss) = orun prog_64_method_2_code (Option.some Jvm.ClassFile.FieldType.boolean) E3 0 n (220, L, S, H, cs, ss) := s_goto k3_214 (by decide) (by decide)
theorem s3_217 {n cs ss : Nat} {L : List Slot} {S : List Value} {H : AH} : orun prog_64_method_2_code (Option.some Jvm.ClassFile.FieldType.boolean) E3 0 (n + 1) (217, L, S, H, cs, ss) = orun prog_64_method_2_code (Option.some Jvm.ClassFile.FieldType.boolean) E3 0 n (220, L, (.int 128 :: S), H, cs, ss) := s_any k3_217
theorem s3_220 {n cs ss : Nat} {L : List Slot} {S : List Value} {H : AH} : orun prog_64_method_2_code (Option.some Jvm.ClassFile.FieldType.boolean) E3 0 (n + 1) (220, L, S, H, cs, ss) = pI S fun y S => pI S fun x r => if x < y then orun prog_64_method_2_code (Option.some Jvm.ClassFile.FieldType.boolean) E3 0 n (242, L, r, H, cs, ss) else orun prog_64_method_2_code (Option.some Jvm.ClassFile.FieldType.boolean) E3 0 n (223, L, r, H, cs, ss) := s_icmp (Q := fun x y => x < y) (fun _ _ => h_lt) k3_220 (by decide) (by decide)
theorem s3_223 {n cs ss : Nat} {L : List Slot} {S : List Value} {H : AH} : orun prog_64_method_2_code (Option.some Jvm.ClassFile.FieldType.boolean) E3 0 (n + 1) (223, L, S, H, cs, ss) = (gI L 8).bind fun v => orun prog_64_method_2_code (Option.some Jvm.ClassFile.FieldType.boolean) E3 0 n (225, L, .int v :: S, H, cs, ss) := s_any k3_223
theorem s3_225 {n cs ss : Nat} {L : List Slot} {S : List Value} {H : AH} : orun prog_64_method_2_code (Option.some Jvm.ClassFile.FieldType.boolean) E3 0 (n + 1) (225, L, S, H, cs, ss) = (gI L 7).bind fun v => orun prog_64_method_2_code (Option.some Jvm.ClassFile.FieldType.boolean) E3 0 n (227, L, .int v :: S, H, cs, ss) := s_any k3_225
theorem s3_227 {n cs ss : Nat} {L : List Slot} {S : List Value} {H : AH} : orun prog_64_method_2_code (Option.some Jvm.ClassFile.FieldType.boolean) E3 0 (n + 1) (227, L, S, H, cs, ss) = orun prog_64_method_2_code (Option.some Jvm.ClassFile.FieldType.boolean) E3 0 n (228, L, (.int 1 :: S), H, cs, ss) := s_any k3_227
theorem s3_228 {n cs ss : Nat} {L : List Slot} {S : List Value} {H : AH} : orun prog_64_method_2_code (Option.some Jvm.ClassFile.FieldType.boolean) E3 0 (n + 1) (228, L, S, H, cs, ss) = pI S fun y S => pI S fun x r => if x = y then orun prog_64_method_2_code (Option.some Jvm.ClassFile.FieldType.boolean) E3 0 n (231, L, r, H, cs, ss) else orun prog_64_method_2_code (Option.some Jvm.ClassFile.FieldType.boolean) E3 0 n (236, L, r, H, cs, ss) := s_icmpN (Q := fun x y => x = y) (fun _ _ => h_ne) k3_228 (by decide) (by decide)
theorem s3_231 {n cs ss : Nat} {L : List Slot} {S : List Value} {H : AH} : orun prog_64_method_2_code (Option.some Jvm.ClassFile.FieldType.boolean) E3 0 (n + 1) (231, L, S, H, cs, ss) = (gI L 6).bind fun v => orun prog_64_method_2_code (Option.some Jvm.ClassFile.FieldType.boolean) E3 0 n (233, L, .int v :: S, H, cs, ss) := s_any k3_231
theorem s3_233 {n cs ss : Nat} {L : List Slot} {S : List Value} {H : AH} : orun prog_64_method_2_code (Option.some Jvm.ClassFile.FieldType.boolean) E3 0 (n + 1) (233, L, S, H, cs, ss) = orun prog_64_method_2_code (Option.some Jvm.ClassFile.FieldType.boolean) E3 0 n (239, L, S, H, cs, ss) := s_goto k3_233 (by decide) (by decide)
theorem s3_236 {n cs ss : Nat} {L : List Slot} {S : List Value} {H : AH} : orun prog_64_method_2_code (Option.some Jvm.ClassFile.FieldType.boolean) E3 0 (n + 1) (236, L, S, H, cs, ss) = orun prog_64_method_2_code (Option.some Jvm.ClassFile.FieldType.boolean) E3 0 n (239, L, (.int 191 :: S), H, cs, ss) := s_any k3_236
theorem s3_239 {n cs ss : Nat} {L : List Slot} {S : List Value} {H : AH} : orun prog_64_method_2_code (Option.some Jvm.ClassFile.FieldType.boolean) E3 0 (n + 1) (239, L, S, H, cs, ss) = pI S fun y S => pI S fun x r => if y < x then orun prog_64_method_2_code (Option.some Jvm.ClassFile.FieldType.boolean) E3 0 n (242, L, r, H, cs, ss) else orun prog_64_method_2_code (Option.some Jvm.ClassFile.FieldType.boolean) E3 0 n (244, L, r, H, cs, ss) := s_icmpN (Q := fun x y => y < x) (fun _ _ => h_le) k3_239 (by decide) (by decide)
theorem s3_242 {n cs ss : Nat} {L : List Slot} {S : List Value} {H : AH} : orun prog_64_method_2_code (Option.some Jvm.ClassFile.FieldType.boolean) E3 0 (n + 1) (242, L, S, H, cs, ss) = orun prog_64_method_2_code (Option.some Jvm.ClassFile.FieldType.boolean) E3 0 n (243, L, (.int 0 :: S), H, cs, ss) := s_any k3_242
theorem s3_243 {n cs ss : Nat} {L : List Slot} {S : List Value} {H : AH} : orun prog_64_method_2_code (Option.some Jvm.ClassFile.FieldType.boolean) E3 0 (n + 1) (243, L, S, H, cs, ss) = pI S fun z _ => some (some (.int (z &&& 1)), H) := s_any k3_243
theorem s3_244 {n cs ss : Nat} {L : List Slot} {S : List Value} {H : AH} : orun prog_64_method_2_code (Option.some Jvm.ClassFile.FieldType.boolean) E3 0 (n + 1) (244, L, S, H, cs, ss) = (gI L 7).bind fun v => (st1 L 7 (.int (v + 1))).bind fun L' => orun prog_64_method_2_code (Option.some Jvm.ClassFile.FieldType.boolean) E3 0 n (247, L', S, H, cs, ss) := s_any k3_244
theorem s3_247 {n cs ss : Nat} {L : List Slot} {S : List Value} {H : AH} : orun prog_64_method_2_code (Option.some Jvm.ClassFile.FieldType.boolean) E3 0 (n + 1) (247, L, S, H, cs, ss) = orun prog_64_method_2_code (Option.some Jvm.ClassFile.FieldType.boolean) E3 0 n (185, L, S, H, cs, ss) := s_goto k3_247 (by decide) (by decide)
theorem s3_250 {n cs ss : Nat} {L : List Slot} {S : List Value} {H : AH} : orun prog_64_method_2_code (Option.some Jvm.ClassFile.FieldType.boolean) E3 0 (n + 1) (250, L, S, H, cs, ss) = (gI L 2).bind fun v => orun prog_64_method_2_code (Option.some Jvm.ClassFile.FieldType.boolean) E3 0 n (251, L, .int v :: S, H, cs, ss) := s_any k3_250
theorem s3_251 {n cs ss : Nat} {L : List Slot} {S : List Value} {H : AH} : orun prog_64_method_2_code (Option.some Jvm.ClassFile.FieldType.boolean) E3 0 (n + 1) (251, L, S, H, cs, ss) = (gI L 4).bind fun v => orun prog_64_method_2_code (Option.some Jvm.ClassFile.FieldType.boolean) E3 0 n (253, L, .int v :: S, H, cs, ss) := s_any k3_251
theorem s3_253 {n cs ss : Nat} {L : List Slot} {S : List Value} {H : AH} : orun prog_64_method_2_code (Option.some Jvm.ClassFile.FieldType.boolean) E3 0 (n + 1) (253, L, S, H, cs, ss) = pI S fun y S => pI S fun x r => orun prog_64_method_2_code (Option.some Jvm.ClassFile.FieldType.boolean) E3 0 n (254, L, .int (x + y) :: r, H, cs, ss) := s_any k3_253
theorem s3_254 {n cs ss : Nat} {L : List Slot} {S : List Value} {H : AH} : orun prog_64_method_2_code (Option.some Jvm.ClassFile.FieldType.boolean) E3 0 (n + 1) (254, L, S, H, cs, ss) = pI S fun x r => (st1 L 2 (.int x)).bind fun L' => orun prog_64_method_2_code (Option.some Jvm.ClassFile.FieldType.boolean) E3 0 n (255, L', r, H, cs, ss) := s_any k3_254
theorem s3_255 {n cs ss : Nat} {L : List Slot} {S : List Value} {H : AH} : orun prog_64_method_2_code (Option.some Jvm.ClassFile.FieldType.boolean) E3 0 (n + 1) (255, L, S, H, cs, ss) = orun prog_64_method_2_code (Option.some Jvm.ClassFile.FieldType.boolean) E3 0 n (2, L, S, H, cs, ss) := s_goto k3_255 (by decide) (by decide)
theorem s3_258 {n cs ss : Nat} {L : List Slot} {S : List Value} {H : AH} : orun prog_64_method_2_code (Option.some Jvm.ClassFile.FieldType.boolean) E3 0 (n + 1) (258, L, S, H, cs, ss) = orun prog_64_method_2_code (Option.some Jvm.ClassFile.FieldType.boolean) E3 0 n (259, L, (.int 1 :: S), H, cs, ss) := s_any k3_258
theorem s3_259 {n cs ss : Nat} {L : List Slot} {S : List Value} {H : AH} : orun prog_64_method_2_code (Option.some Jvm.ClassFile.FieldType.boolean) E3 0 (n + 1) (259, L, S, H, cs, ss) = pI S fun z _ => some (some (.int (z &&& 1)), H) := s_any k3_259
theorem t3_0 {go : Nat → St → Option ORes} (hgo : go = orun prog_64_method_2_code (Option.some Jvm.ClassFile.FieldType.boolean) E3 0) {n cs ss : Nat} {L : List Slot} {S : List Value} {H : AH} {q : Option ORes → Prop} (h : Rsq (go n (1, L, (.int 0 :: S), H, cs, ss)) q) : Rsq (go (n + 1) (0, L, S, H, cs, ss)) q := by
  subst hgo
  exact res_of s3_0 h
theorem t3_1 {go : Nat → St → Option ORes} (hgo : go = orun prog_64_method_2_code (Option.some Jvm.ClassFile.FieldType.boolean) E3 0) {n cs ss : Nat} {l0 l1 l2 l3 l4 l5 l6 l7 l8 : Slot} {S : List Value} {H : AH} {q : Option ORes → Prop} {x : Int32} (hk : so l2 = true) (h : Rsq (go n (2, [l0, l1, .val (.int x), l3, l4, l5, l6, l7, l8], S, H, cs, ss)) q) : Rsq (go (n + 1) (1, [l0, l1, l2, l3, l4, l5, l6, l7, l8], (.int x :: S), H, cs, ss)) q := by
  subst hgo
  refine res_of s3_1 ?_
  rw [pI_int, st1_so (L := [l0, l1, l2, l3, l4, l5, l6, l7, l8]) (k := 2) (l := l2) rfl hk]
  exact h
theorem t3_2 {go : Nat → St → Option ORes} (hgo : go = orun prog_64_method_2_code (Option.some Jvm.ClassFile.FieldType.boolean) E3 0) {n cs ss : Nat} {l0 l1 l3 l4 l5 l6 l7 l8 : Slot} {S : List Value} {H : AH} {q : Option ORes → Prop} {v : Int32} (h : Rsq (go n (3, [l0, l1, .val (.int v), l3, l4, l5, l6, l7, l8], (.int v :: S), H, cs, ss)) q) : Rsq (go (n + 1) (2, [l0, l1, .val (.int v), l3, l4, l5, l6, l7, l8], S, H, cs, ss)) q := by
  subst hgo
  exact res_of s3_2 h
theorem t3_3 {go : Nat → St → Option ORes} (hgo : go = orun prog_64_method_2_code (Option.some Jvm.ClassFile.FieldType.boolean) E3 0) {n cs ss : Nat} {l0 l2 l3 l4 l5 l6 l7 l8 : Slot} {S : List Value} {H : AH} {q : Option ORes → Prop} {v : Int32} (h : Rsq (go n (4, [l0, .val (.int v), l2, l3, l4, l5, l6, l7, l8], (.int v :: S), H, cs, ss)) q) : Rsq (go (n + 1) (3, [l0, .val (.int v), l2, l3, l4, l5, l6, l7, l8], S, H, cs, ss)) q := by
  subst hgo
  exact res_of s3_3 h
theorem t3_4t {go : Nat → St → Option ORes} (hgo : go = orun prog_64_method_2_code (Option.some Jvm.ClassFile.FieldType.boolean) E3 0) {n cs ss : Nat} {L : List Slot} {S : List Value} {H : AH} {q : Option ORes → Prop} {x y : Int32} (hc : x < y) (h : Rsq (go n (7, L, S, H, cs, ss)) q) : Rsq (go (n + 1) (4, L, (.int y :: .int x :: S), H, cs, ss)) q := by
  subst hgo
  exact res_of s3_4 (res_t hc h)
theorem t3_4f {go : Nat → St → Option ORes} (hgo : go = orun prog_64_method_2_code (Option.some Jvm.ClassFile.FieldType.boolean) E3 0) {n cs ss : Nat} {L : List Slot} {S : List Value} {H : AH} {q : Option ORes → Prop} {x y : Int32} (hc : ¬ x < y) (h : Rsq (go n (258, L, S, H, cs, ss)) q) : Rsq (go (n + 1) (4, L, (.int y :: .int x :: S), H, cs, ss)) q := by
  subst hgo
  exact res_of s3_4 (res_f hc h)
theorem t3_7 {go : Nat → St → Option ORes} (hgo : go = orun prog_64_method_2_code (Option.some Jvm.ClassFile.FieldType.boolean) E3 0) {n cs ss : Nat} {l1 l2 l3 l4 l5 l6 l7 l8 : Slot} {S : List Value} {H : AH} {q : Option ORes → Prop} {v : Value} (hv : isA v = true) (h : Rsq (go n (8, [.val v, l1, l2, l3, l4, l5, l6, l7, l8], (v :: S), H, cs, ss)) q) : Rsq (go (n + 1) (7, [.val v, l1, l2, l3, l4, l5, l6, l7, l8], S, H, cs, ss)) q := by
  subst hgo
  refine res_of s3_7 ?_
  rw [gA_isA (L := [.val v, l1, l2, l3, l4, l5, l6, l7, l8]) (k := 0) (v := v) rfl hv]
  exact h
theorem t3_8 {go : Nat → St → Option ORes} (hgo : go = orun prog_64_method_2_code (Option.some Jvm.ClassFile.FieldType.boolean) E3 0) {n cs ss : Nat} {l0 l1 l3 l4 l5 l6 l7 l8 : Slot} {S : List Value} {H : AH} {q : Option ORes → Prop} {v : Int32} (h : Rsq (go n (9, [l0, l1, .val (.int v), l3, l4, l5, l6, l7, l8], (.int v :: S), H, cs, ss)) q) : Rsq (go (n + 1) (8, [l0, l1, .val (.int v), l3, l4, l5, l6, l7, l8], S, H, cs, ss)) q := by
  subst hgo
  exact res_of s3_8 h
theorem u3_9 {go : Nat → St → Option ORes} (hgo : go = orun prog_64_method_2_code (Option.some Jvm.ClassFile.FieldType.boolean) E3 0) {n cs ss : Nat} {L : List Slot} {S : List Value} {H : AH} : go (n + 1) (9, L, S, H, cs, ss) = ex (Option.some Jvm.ClassFile.FieldType.boolean) E3 0 (go n) (.baload) 9 L S H cs ss := by
  subst hgo
  exact s3_9
theorem t3_10 {go : Nat → St → Option ORes} (hgo : go = orun prog_64_method_2_code (Option.some Jvm.ClassFile.FieldType.boolean) E3 0) {n cs ss : Nat} {L : List Slot} {S : List Value} {H : AH} {q : Option ORes → Prop} (h : Rsq (go n (13, L, (.int 255 :: S), H, cs, ss)) q) : Rsq (go (n + 1) (10, L, S, H, cs, ss)) q := by
  subst hgo
  exact res_of s3_10 h
theorem t3_13 {go : Nat → St → Option ORes} (hgo : go = orun prog_64_method_2_code (Option.some Jvm.ClassFile.FieldType.boolean) E3 0) {n cs ss : Nat} {L : List Slot} {S : List Value} {H : AH} {q : Option ORes → Prop} {x y : Int32} (h : Rsq (go n (14, L, (.int (x &&& y) :: S), H, cs, ss)) q) : Rsq (go (n + 1) (13, L, (.int y :: .int x :: S), H, cs, ss)) q := by
  subst hgo
  exact res_of s3_13 h
theorem t3_14 {go : Nat → St → Option ORes} (hgo : go = orun prog_64_method_2_code (Option.some Jvm.ClassFile.FieldType.boolean) E3 0) {n cs ss : Nat} {l0 l1 l2 l3 l4 l5 l6 l7 l8 : Slot} {S : List Value} {H : AH} {q : Option ORes → Prop} {x : Int32} (hk : so l3 = true) (h : Rsq (go n (15, [l0, l1, l2, .val (.int x), l4, l5, l6, l7, l8], S, H, cs, ss)) q) : Rsq (go (n + 1) (14, [l0, l1, l2, l3, l4, l5, l6, l7, l8], (.int x :: S), H, cs, ss)) q := by
  subst hgo
  refine res_of s3_14 ?_
  rw [pI_int, st1_so (L := [l0, l1, l2, l3, l4, l5, l6, l7, l8]) (k := 3) (l := l3) rfl hk]
  exact h
theorem t3_15 {go : Nat → St → Option ORes} (hgo : go = orun prog_64_method_2_code (Option.some Jvm.ClassFile.FieldType.boolean) E3 0) {n cs ss : Nat} {L : List Slot} {S : List Value} {H : AH} {q : Option ORes → Prop} (h : Rsq (go n (18, L, (.int 128 :: S), H, cs, ss)) q) : Rsq (go (n + 1) (15, L, S, H, cs, ss)) q := by
  subst hgo
  exact res_of s3_15 h
theorem t3_18 {go : Nat → St → Option ORes} (hgo : go = orun prog_64_method_2_code (Option.some Jvm.ClassFile.FieldType.boolean) E3 0) {n cs ss : Nat} {l0 l1 l2 l3 l4 l5 l6 l7 l8 : Slot} {S : List Value} {H : AH} {q : Option ORes → Prop} {x : Int32} (hk : so l5 = true) (h : Rsq (go n (20, [l0, l1, l2, l3, l4, .val (.int x), l6, l7, l8], S, H, cs, ss)) q) : Rsq (go (n + 1) (18, [l0, l1, l2, l3, l4, l5, l6, l7, l8], (.int x :: S), H, cs, ss)) q := by
  subst hgo
  refine res_of s3_18 ?_
  rw [pI_int, st1_so (L := [l0, l1, l2, l3, l4, l5, l6, l7, l8]) (k := 5) (l := l5) rfl hk]
  exact h
theorem t3_20 {go : Nat → St → Option ORes} (hgo : go = orun prog_64_method_2_code (Option.some Jvm.ClassFile.FieldType.boolean) E3 0) {n cs ss : Nat} {L : List Slot} {S : List Value} {H : AH} {q : Option ORes → Prop} (h : Rsq (go n (23, L, (.int 191 :: S), H, cs, ss)) q) : Rsq (go (n + 1) (20, L, S, H, cs, ss)) q := by
  subst hgo
  exact res_of s3_20 h
theorem t3_23 {go : Nat → St → Option ORes} (hgo : go = orun prog_64_method_2_code (Option.some Jvm.ClassFile.FieldType.boolean) E3 0) {n cs ss : Nat} {l0 l1 l2 l3 l4 l5 l6 l7 l8 : Slot} {S : List Value} {H : AH} {q : Option ORes → Prop} {x : Int32} (hk : so l6 = true) (h : Rsq (go n (25, [l0, l1, l2, l3, l4, l5, .val (.int x), l7, l8], S, H, cs, ss)) q) : Rsq (go (n + 1) (23, [l0, l1, l2, l3, l4, l5, l6, l7, l8], (.int x :: S), H, cs, ss)) q := by
  subst hgo
  refine res_of s3_23 ?_
  rw [pI_int, st1_so (L := [l0, l1, l2, l3, l4, l5, l6, l7, l8]) (k := 6) (l := l6) rfl hk]
  exact h
theorem t3_25 {go : Nat → St → Option ORes} (hgo : go = orun prog_64_method_2_code (Option.some Jvm.ClassFile.FieldType.boolean) E3 0) {n cs ss : Nat} {l0 l1 l2 l4 l5 l6 l7 l8 : Slot} {S : List Value} {H : AH} {q : Option ORes → Prop} {v : Int32} (h : Rsq (go n (26, [l0, l1, l2, .val (.int v), l4, l5, l6, l7, l8], (.int v :: S), H, cs, ss)) q) : Rsq (go (n + 1) (25, [l0, l1, l2, .val (.int v), l4, l5, l6, l7, l8], S, H, cs, ss)) q := by
  subst hgo
  exact res_of s3_25 h
theorem t3_26 {go : Nat → St → Option ORes} (hgo : go = orun prog_64_method_2_code (Option.some Jvm.ClassFile.FieldType.boolean) E3 0) {n cs ss : Nat} {L : List Slot} {S : List Value} {H : AH} {q : Option ORes → Prop} (h : Rsq (go n (29, L, (.int 128 :: S), H, cs, ss)) q) : Rsq (go (n + 1) (26, L, S, H, cs, ss)) q := by
  subst hgo
  exact res_of s3_26 h
theorem t3_29t {go : Nat → St → Option ORes} (hgo : go = orun prog_64_method_2_code (Option.some Jvm.ClassFile.FieldType.boolean) E3 0) {n cs ss : Nat} {L : List Slot} {S : List Value} {H : AH} {q : Option ORes → Prop} {x y : Int32} (hc : x < y) (h : Rsq (go n (32, L, S, H, cs, ss)) q) : Rsq (go (n + 1) (29, L, (.int y :: .int x :: S), H, cs, ss)) q := by
  subst hgo
  exact res_of s3_29 (res_t hc h)
theorem t3_29f {go : Nat → St → Option ORes} (hgo : go = orun prog_64_method_2_code (Option.some Jvm.ClassFile.FieldType.boolean) E3 0) {n cs ss : Nat} {L : List Slot} {S : List Value} {H : AH} {q : Option ORes → Prop} {x y : Int32} (hc : ¬ x < y) (h : Rsq (go n (38, L, S, H, cs, ss)) q) : Rsq (go (n + 1) (29, L, (.int y :: .int x :: S), H, cs, ss)) q := by
  subst hgo
  exact res_of s3_29 (res_f hc h)
theorem t3_32 {go : Nat → St → Option ORes} (hgo : go = orun prog_64_method_2_code (Option.some Jvm.ClassFile.FieldType.boolean) E3 0) {n cs ss : Nat} {L : List Slot} {S : List Value} {H : AH} {q : Option ORes → Prop} (h : Rsq (go n (33, L, (.int 1 :: S), H, cs, ss)) q) : Rsq (go (n + 1) (32, L, S, H, cs, ss)) q := by
  subst hgo
  exact res_of s3_32 h
theorem t3_33 {go : Nat → St → Option ORes} (hgo : go = orun prog_64_method_2_code (Option.some Jvm.ClassFile.FieldType.boolean) E3 0) {n cs ss : Nat} {l0 l1 l2 l3 l4 l5 l6 l7 l8 : Slot} {S : List Value} {H : AH} {q : Option ORes → Prop} {x : Int32} (hk : so l4 = true) (h : Rsq (go n (35, [l0, l1, l2, l3, .val (.int x), l5, l6, l7, l8], S, H, cs, ss)) q) : Rsq (go (n + 1) (33, [l0, l1, l2, l3, l4, l5, l6, l7, l8], (.int x :: S), H, cs, ss)) q := by
  subst hgo
  refine res_of s3_33 ?_
  rw [pI_int, st1_so (L := [l0, l1, l2, l3, l4, l5, l6, l7, l8]) (k := 4) (l := l4) rfl hk]
  exact h
theorem t3_35 {go : Nat → St → Option ORes} (hgo : go = orun prog_64_method_2_code (Option.some Jvm.ClassFile.FieldType.boolean) E3 0) {n cs ss : Nat} {L : List Slot} {S : List Value} {H : AH} {q : Option ORes → Prop} (h : Rsq (go n (172, L, S, H, cs, ss)) q) : Rsq (go (n + 1) (35, L, S, H, cs, ss)) q := by
  subst hgo
  exact res_of s3_35 h
theorem t3_38 {go : Nat → St → Option ORes} (hgo : go = orun prog_64_method_2_code (Option.some Jvm.ClassFile.FieldType.boolean) E3 0) {n cs ss : Nat} {l0 l1 l2 l4 l5 l6 l7 l8 : Slot} {S : List Value} {H : AH} {q : Option ORes → Prop} {v : Int32} (h : Rsq (go n (39, [l0, l1, l2, .val (.int v), l4, l5, l6, l7, l8], (.int v :: S), H, cs, ss)) q) : Rsq (go (n + 1) (38, [l0, l1, l2, .val (.int v), l4, l5, l6, l7, l8], S, H, cs, ss)) q := by
  subst hgo
  exact res_of s3_38 h
theorem t3_39 {go : Nat → St → Option ORes} (hgo : go = orun prog_64_method_2_code (Option.some Jvm.ClassFile.FieldType.boolean) E3 0) {n cs ss : Nat} {L : List Slot} {S : List Value} {H : AH} {q : Option ORes → Prop} (h : Rsq (go n (42, L, (.int 194 :: S), H, cs, ss)) q) : Rsq (go (n + 1) (39, L, S, H, cs, ss)) q := by
  subst hgo
  exact res_of s3_39 h
theorem t3_42t {go : Nat → St → Option ORes} (hgo : go = orun prog_64_method_2_code (Option.some Jvm.ClassFile.FieldType.boolean) E3 0) {n cs ss : Nat} {L : List Slot} {S : List Value} {H : AH} {q : Option ORes → Prop} {x y : Int32} (hc : x < y) (h : Rsq (go n (58, L, S, H, cs, ss)) q) : Rsq (go (n + 1) (42, L, (.int y :: .int x :: S), H, cs, ss)) q := by
  subst hgo
  exact res_of s3_42 (res_t hc h)
theorem t3_42f {go : Nat → St → Option ORes} (hgo : go = orun prog_64_method_2_code (Option.some Jvm.ClassFile.FieldType.boolean) E3 0) {n cs ss : Nat} {L : List Slot} {S : List Value} {H : AH} {q : Option ORes → Prop} {x y : Int32} (hc : ¬ x < y) (h : Rsq (go n (45, L, S, H, cs, ss)) q) : Rsq (go (n + 1) (42, L, (.int y :: .int x :: S), H, cs, ss)) q := by
  subst hgo
  exact res_of s3_42 (res_f hc h)
theorem t3_45 {go : Nat → St → Option ORes} (hgo : go = orun prog_64_method_2_code (Option.some Jvm.ClassFile.FieldType.boolean) E3 0) {n cs ss : Nat} {l0 l1 l2 l4 l5 l6 l7 l8 : Slot} {S : List Value} {H : AH} {q : Option ORes → Prop} {v : Int32} (h : Rsq (go n (46, [l0, l1, l2, .val (.int v), l4, l5, l6, l7, l8], (.int v :: S), H, cs, ss)) q) : Rsq (go (n + 1) (45, [l0, l1, l2, .val (.int v), l4, l5, l6, l7, l8], S, H, cs, ss)) q := by
  subst hgo
  exact res_of s3_45 h
theorem t3_46 {go : Nat → St → Option ORes} (hgo : go = orun prog_64_method_2_code (Option.some Jvm.ClassFile.FieldType.boolean) E3 0) {n cs ss : Nat} {L : List Slot} {S : List Value} {H : AH} {q : Option ORes → Prop} (h : Rsq (go n (49, L, (.int 223 :: S), H, cs, ss)) q) : Rsq (go (n + 1) (46, L, S, H, cs, ss)) q := by
  subst hgo
  exact res_of s3_46 h
theorem t3_49t {go : Nat → St → Option ORes} (hgo : go = orun prog_64_method_2_code (Option.some Jvm.ClassFile.FieldType.boolean) E3 0) {n cs ss : Nat} {L : List Slot} {S : List Value} {H : AH} {q : Option ORes → Prop} {x y : Int32} (hc : y < x) (h : Rsq (go n (58, L, S, H, cs, ss)) q) : Rsq (go (n + 1) (49, L, (.int y :: .int x :: S), H, cs, ss)) q := by
  subst hgo
  exact res_of s3_49 (res_t hc h)
theorem t3_49f {go : Nat → St → Option ORes} (hgo : go = orun prog_64_method_2_code (Option.some Jvm.ClassFile.FieldType.boolean) E3 0) {n cs ss : Nat} {L : List Slot} {S : List Value} {H : AH} {q : Option ORes → Prop} {x y : Int32} (hc : ¬ y < x) (h : Rsq (go n (52, L, S, H, cs, ss)) q) : Rsq (go (n + 1) (49, L, (.int y :: .int x :: S), H, cs, ss)) q := by
  subst hgo
  exact res_of s3_49 (res_f hc h)
theorem t3_52 {go : Nat → St → Option ORes} (hgo : go = orun prog_64_method_2_code (Option.some Jvm.ClassFile.FieldType.boolean) E3 0) {n cs ss : Nat} {L : List Slot} {S : List Value} {H : AH} {q : Option ORes → Prop} (h : Rsq (go n (53, L, (.int 2 :: S), H, cs, ss)) q) : Rsq (go (n + 1) (52, L, S, H, cs, ss)) q := by
  subst hgo
  exact res_of s3_52 h
theorem t3_53 {go : Nat → St → Option ORes} (hgo : go = orun prog_64_method_2_code (Option.some Jvm.ClassFile.FieldType.boolean) E3 0) {n cs ss : Nat} {l0 l1 l2 l3 l4 l5 l6 l7 l8 : Slot} {S : List Value} {H : AH} {q : Option ORes → Prop} {x : Int32} (hk : so l4 = true) (h : Rsq (go n (55, [l0, l1, l2, l3, .val (.int x), l5, l6, l7, l8], S, H, cs, ss)) q) : Rsq (go (n + 1) (53, [l0, l1, l2, l3, l4, l5, l6, l7, l8], (.int x :: S), H, cs, ss)) q := by
  subst hgo
  refine res_of s3_53 ?_
  rw [pI_int, st1_so (L := [l0, l1, l2, l3, l4, l5, l6, l7, l8]) (k := 4) (l := l4) rfl hk]
  exact h
theorem t3_55 {go : Nat → St → Option ORes} (hgo : go = orun prog_64_method_2_code (Option.some Jvm.ClassFile.FieldType.boolean) E3 0) {n cs ss : Nat} {L : List Slot} {S : List Value} {H : AH} {q : Option ORes → Prop} (h : Rsq (go n (172, L, S, H, cs, ss)) q) : Rsq (go (n + 1) (55, L, S, H, cs, ss)) q := by
  subst hgo
  exact res_of s3_55 h
theorem t3_58 {go : Nat → St → Option ORes} (hgo : go = orun prog_64_method_2_code (Option.some Jvm.ClassFile.FieldType.boolean) E3 0) {n cs ss : Nat} {l0 l1 l2 l4 l5 l6 l7 l8 : Slot} {S : List Value} {H : AH} {q : Option ORes → Prop} {v : Int32} (h : Rsq (go n (59, [l0, l1, l2, .val (.int v), l4, l5, l6, l7, l8], (.int v :: S), H, cs, ss)) q) : Rsq (go (n + 1) (58, [l0, l1, l2, .val (.int v), l4, l5, l6, l7, l8], S, H, cs, ss)) q := by
  subst hgo
  exact res_of s3_58 h
theorem t3_59 {go : Nat → St → Option ORes} (hgo : go = orun prog_64_method_2_code (Option.some Jvm.ClassFile.FieldType.boolean) E3 0) {n cs ss : Nat} {L : List Slot} {S : List Value} {H : AH} {q : Option ORes → Prop} (h : Rsq (go n (62, L, (.int 224 :: S), H, cs, ss)) q) : Rsq (go (n + 1) (59, L, S, H, cs, ss)) q := by
  subst hgo
  exact res_of s3_59 h
theorem t3_62t {go : Nat → St → Option ORes} (hgo : go = orun prog_64_method_2_code (Option.some Jvm.ClassFile.FieldType.boolean) E3 0) {n cs ss : Nat} {L : List Slot} {S : List Value} {H : AH} {q : Option ORes → Prop} {x y : Int32} (hc : x = y) (h : Rsq (go n (65, L, S, H, cs, ss)) q) : Rsq (go (n + 1) (62, L, (.int y :: .int x :: S), H, cs, ss)) q := by
  subst hgo
  exact res_of s3_62 (res_t hc h)
theorem t3_62f {go : Nat → St → Option ORes} (hgo : go = orun prog_64_method_2_code (Option.some Jvm.ClassFile.FieldType.boolean) E3 0) {n cs ss : Nat} {L : List Slot} {S : List Value} {H : AH} {q : Option ORes → Prop} {x y : Int32} (hc : ¬ x = y) (h : Rsq (go n (76, L, S, H, cs, ss)) q) : Rsq (go (n + 1) (62, L, (.int y :: .int x :: S), H, cs, ss)) q := by
  subst hgo
  exact res_of s3_62 (res_f hc h)
theorem t3_65 {go : Nat → St → Option ORes} (hgo : go = orun prog_64_method_2_code (Option.some Jvm.ClassFile.FieldType.boolean) E3 0) {n cs ss : Nat} {L : List Slot} {S : List Value} {H : AH} {q : Option ORes → Prop} (h : Rsq (go n (66, L, (.int 3 :: S), H, cs, ss)) q) : Rsq (go (n + 1) (65, L, S, H, cs, ss)) q := by
  subst hgo
  exact res_of s3_65 h
theorem t3_66 {go : Nat → St → Option ORes} (hgo : go = orun prog_64_method_2_code (Option.some Jvm.ClassFile.FieldType.boolean) E3 0) {n cs ss : Nat} {l0 l1 l2 l3 l4 l5 l6 l7 l8 : Slot} {S : List Value} {H : AH} {q : Option ORes → Prop} {x : Int32} (hk : so l4 = true) (h : Rsq (go n (68, [l0, l1, l2, l3, .val (.int x), l5, l6, l7, l8], S, H, cs, ss)) q) : Rsq (go (n + 1) (66, [l0, l1, l2, l3, l4, l5, l6, l7, l8], (.int x :: S), H, cs, ss)) q := by
  subst hgo
  refine res_of s3_66 ?_
  rw [pI_int, st1_so (L := [l0, l1, l2, l3, l4, l5, l6, l7, l8]) (k := 4) (l := l4) rfl hk]
  exact h
theorem t3_68 {go : Nat → St → Option ORes} (hgo : go = orun prog_64_method_2_code (Option.some Jvm.ClassFile.FieldType.boolean) E3 0) {n cs ss : Nat} {L : List Slot} {S : List Value} {H : AH} {q : Option ORes → Prop} (h : Rsq (go n (71, L, (.int 160 :: S), H, cs, ss)) q) : Rsq (go (n + 1) (68, L, S, H, cs, ss)) q := by
  subst hgo
  exact res_of s3_68 h
theorem t3_71 {go : Nat → St → Option ORes} (hgo : go = orun prog_64_method_2_code (Option.some Jvm.ClassFile.FieldType.boolean) E3 0) {n cs ss : Nat} {l0 l1 l2 l3 l4 l5 l6 l7 l8 : Slot} {S : List Value} {H : AH} {q : Option ORes → Prop} {x : Int32} (hk : so l5 = true) (h : Rsq (go n (73, [l0, l1, l2, l3, l4, .val (.int x), l6, l7, l8], S, H, cs, ss)) q) : Rsq (go (n + 1) (71, [l0, l1, l2, l3, l4, l5, l6, l7, l8], (.int x :: S), H, cs, ss)) q := by
  subst hgo
  refine res_of s3_71 ?_
  rw [pI_int, st1_so (L := [l0, l1, l2, l3, l4, l5, l6, l7, l8]) (k := 5) (l := l5) rfl hk]
  exact h
theorem t3_73 {go : Nat → St → Option ORes} (hgo : go = orun prog_64_method_2_code (Option.some Jvm.ClassFile.FieldType.boolean) E3 0) {n cs ss : Nat} {L : List Slot} {S : List Value} {H : AH} {q : Option ORes → Prop} (h : Rsq (go n (172, L, S, H, cs, ss)) q) : Rsq (go (n + 1) (73, L, S, H, cs, ss)) q := by
  subst hgo
  exact res_of s3_73 h
theorem t3_76 {go : Nat → St → Option ORes} (hgo : go = orun prog_64_method_2_code (Option.some Jvm.ClassFile.FieldType.boolean) E3 0) {n cs ss : Nat} {l0 l1 l2 l4 l5 l6 l7 l8 : Slot} {S : List Value} {H : AH} {q : Option ORes → Prop} {v : Int32} (h : Rsq (go n (77, [l0, l1, l2, .val (.int v), l4, l5, l6, l7, l8], (.int v :: S), H, cs, ss)) q) : Rsq (go (n + 1) (76, [l0, l1, l2, .val (.int v), l4, l5, l6, l7, l8], S, H, cs, ss)) q := by
  subst hgo
  exact res_of s3_76 h
theorem t3_77 {go : Nat → St → Option ORes} (hgo : go = orun prog_64_method_2_code (Option.some Jvm.ClassFile.FieldType.boolean) E3 0) {n cs ss : Nat} {L : List Slot} {S : List Value} {H : AH} {q : Option ORes → Prop} (h : Rsq (go n (80, L, (.int 237 :: S), H, cs, ss)) q) : Rsq (go (n + 1) (77, L, S, H, cs, ss)) q := by
  subst hgo
  exact res_of s3_77 h
theorem t3_80t {go : Nat → St → Option ORes} (hgo : go = orun prog_64_method_2_code (Option.some Jvm.ClassFile.FieldType.boolean) E3 0) {n cs ss : Nat} {L : List Slot} {S : List Value} {H : AH} {q : Option ORes → Prop} {x y : Int32} (hc : x = y) (h : Rsq (go n (83, L, S, H, cs, ss)) q) : Rsq (go (n + 1) (80, L, (.int y :: .int x :: S), H, cs, ss)) q := by
  subst hgo
  exact res_of s3_80 (res_t hc h)
theorem t3_80f {go : Nat → St → Option ORes} (hgo : go = orun prog_64_method_2_code (Option.some Jvm.ClassFile.FieldType.boolean) E3 0) {n cs ss : Nat} {L : List Slot} {S : List Value} {H : AH} {q : Option ORes → Prop} {x y : Int32} (hc : ¬ x = y) (h : Rsq (go n (94, L, S, H, cs, ss)) q) : Rsq (go (n + 1) (80, L, (.int y :: .int x :: S), H, cs, ss)) q := by
  subst hgo
  exact res_of s3_80 (res_f hc h)
theorem t3_83 {go : Nat → St → Option ORes} (hgo : go = orun prog_64_method_2_code (Option.some Jvm.ClassFile.FieldType.boolean) E3 0) {n cs ss : Nat} {L : List Slot} {S : List Value} {H : AH} {q : Option ORes → Prop} (h : Rsq (go n (84, L, (.int 3 :: S), H, cs, ss)) q) : Rsq (go (n + 1) (83, L, S, H, cs, ss)) q := by
  subst hgo
  exact res_of s3_83 h
theorem t3_84 {go : Nat → St → Option ORes} (hgo : go = orun prog_64_method_2_code (Option.some Jvm.ClassFile.FieldType.boolean) E3 0) {n cs ss : Nat} {l0 l1 l2 l3 l4 l5 l6 l7 l8 : Slot} {S : List Value} {H : AH} {q : Option ORes → Prop} {x : Int32} (hk : so l4 = true) (h : Rsq (go n (86, [l0, l1, l2, l3, .val (.int x), l5, l6, l7, l8], S, H, cs, ss)) q) : Rsq (go (n + 1) (84, [l0, l1, l2, l3, l4, l5, l6, l7, l8], (.int x :: S), H, cs, ss)) q := by
  subst hgo
  refine res_of s3_84 ?_
  rw [pI_int, st1_so (L := [l0, l1, l2, l3, l4, l5, l6, l7, l8]) (k := 4) (l := l4) rfl hk]
  exact h
theorem t3_86 {go : Nat → St → Option ORes} (hgo : go = orun prog_64_method_2_code (Option.some Jvm.ClassFile.FieldType.boolean) E3 0) {n cs ss : Nat} {L : List Slot} {S : List Value} {H : AH} {q : Option ORes → Prop} (h : Rsq (go n (89, L, (.int 159 :: S), H, cs, ss)) q) : Rsq (go (n + 1) (86, L, S, H, cs, ss)) q := by
  subst hgo
  exact res_of s3_86 h
theorem t3_89 {go : Nat → St → Option ORes} (hgo : go = orun prog_64_method_2_code (Option.some Jvm.ClassFile.FieldType.boolean) E3 0) {n cs ss : Nat} {l0 l1 l2 l3 l4 l5 l6 l7 l8 : Slot} {S : List Value} {H : AH} {q : Option ORes → Prop} {x : Int32} (hk : so l6 = true) (h : Rsq (go n (91, [l0, l1, l2, l3, l4, l5, .val (.int x), l7, l8], S, H, cs, ss)) q) : Rsq (go (n + 1) (89, [l0, l1, l2, l3, l4, l5, l6, l7, l8], (.int x :: S), H, cs, ss)) q := by
  subst hgo
  refine res_of s3_89 ?_
  rw [pI_int, st1_so (L := [l0, l1, l2, l3, l4, l5, l6, l7, l8]) (k := 6) (l := l6) rfl hk]
  exact h
theorem t3_91 {go : Nat → St → Option ORes} (hgo : go = orun prog_64_method_2_code (Option.some Jvm.ClassFile.FieldType.boolean) E3 0) {n cs ss : Nat} {L : List Slot} {S : List Value} {H : AH} {q : Option ORes → Prop} (h : Rsq (go n (172, L, S, H, cs, ss)) q) : Rsq (go (n + 1) (91, L, S, H, cs, ss)) q := by
  subst hgo
  exact res_of s3_91 h
theorem t3_94 {go : Nat → St → Option ORes} (hgo : go = orun prog_64_method_2_code (Option.some Jvm.ClassFile.FieldType.boolean) E3 0) {n cs ss : Nat} {l0 l1 l2 l4 l5 l6 l7 l8 : Slot} {S : List Value} {H : AH} {q : Option ORes → Prop} {v : Int32} (h : Rsq (go n (95, [l0, l1, l2, .val (.int v), l4, l5, l6, l7, l8], (.int v :: S), H, cs, ss)) q) : Rsq (go (n + 1) (94, [l0, l1, l2, .val (.int v), l4, l5, l6, l7, l8], S, H, cs, ss)) q := by
  subst hgo
  exact res_of s3_94 h
theorem t3_95 {go : Nat → St → Option ORes} (hgo : go = orun prog_64_method_2_code (Option.some Jvm.ClassFile.FieldType.boolean) E3 0) {n cs ss : Nat} {L : List Slot} {S : List Value} {H : AH} {q : Option ORes → Prop} (h : Rsq (go n (98, L, (.int 225 :: S), H, cs, ss)) q) : Rsq (go (n + 1) (95, L, S, H, cs, ss)) q := by
  subst hgo
  exact res_of s3_95 h
theorem t3_98t {go : Nat → St → Option ORes} (hgo : go = orun prog_64_method_2_code (Option.some Jvm.ClassFile.FieldType.boolean) E3 0) {n cs ss : Nat} {L : List Slot} {S : List Value} {H : AH} {q : Option ORes → Prop} {x y : Int32} (hc : x < y) (h : Rsq (go n (114, L, S, H, cs, ss)) q) : Rsq (go (n + 1) (98, L, (.int y :: .int x :: S), H, cs, ss)) q := by
  subst hgo
  exact res_of s3_98 (res_t hc h)
theorem t3_98f {go : Nat → St → Option ORes} (hgo : go = orun prog_64_method_2_code (Option.some Jvm.ClassFile.FieldType.boolean) E3 0) {n cs ss : Nat} {L : List Slot} {S : List Value} {H : AH} {q : Option ORes → Prop} {x y : Int32} (hc : ¬ x < y) (h : Rsq (go n (101, L, S, H, cs, ss)) q) : Rsq (go (n + 1) (98, L, (.int y :: .int x :: S), H, cs, ss)) q := by
  subst hgo
  exact res_of s3_98 (res_f hc h)
theorem t3_101 {go : Nat → St → Option ORes} (hgo : go = orun prog_64_method_2_code (Option.some Jvm.ClassFile.FieldType.boolean) E3 0) {n cs ss : Nat} {l0 l1 l2 l4 l5 l6 l7 l8 : Slot} {S : List Value} {H : AH} {q : Option ORes → Prop} {v : Int32} (h : Rsq (go n (102, [l0, l1, l2, .val (.int v), l4, l5, l6, l7, l8], (.int v :: S), H, cs, ss)) q) : Rsq (go (n + 1) (101, [l0, l1, l2, .val (.int v), l4, l5, l6, l7, l8], S, H, cs, ss)) q := by
  subst hgo
  exact res_of s3_101 h
theorem t3_102 {go : Nat → St → Option ORes} (hgo : go = orun prog_64_method_2_code (Option.some Jvm.ClassFile.FieldType.boolean) E3 0) {n cs ss : Nat} {L : List Slot} {S : List Value} {H : AH} {q : Option ORes → Prop} (h : Rsq (go n (105, L, (.int 239 :: S), H, cs, ss)) q) : Rsq (go (n + 1) (102, L, S, H, cs, ss)) q := by
  subst hgo
  exact res_of s3_102 h
theorem t3_105t {go : Nat → St → Option ORes} (hgo : go = orun prog_64_method_2_code (Option.some Jvm.ClassFile.FieldType.boolean) E3 0) {n cs ss : Nat} {L : List Slot} {S : List Value} {H : AH} {q : Option ORes → Prop} {x y : Int32} (hc : y < x) (h : Rsq (go n (114, L, S, H, cs, ss)) q) : Rsq (go (n + 1) (105, L, (.int y :: .int x :: S), H, cs, ss)) q := by
  subst hgo
  exact res_of s3_105 (res_t hc h)
theorem t3_105f {go : Nat → St → Option ORes} (hgo : go = orun prog_64_method_2_code (Option.some Jvm.ClassFile.FieldType.boolean) E3 0) {n cs ss : Nat} {L : List Slot} {S : List Value} {H : AH} {q : Option ORes → Prop} {x y : Int32} (hc : ¬ y < x) (h : Rsq (go n (108, L, S, H, cs, ss)) q) : Rsq (go (n + 1) (105, L, (.int y :: .int x :: S), H, cs, ss)) q := by
  subst hgo
  exact res_of s3_105 (res_f hc h)
theorem t3_108 {go : Nat → St → Option ORes} (hgo : go = orun prog_64_method_2_code (Option.some Jvm.ClassFile.FieldType.boolean) E3 0) {n cs ss : Nat} {L : List Slot} {S : List Value} {H : AH} {q : Option ORes → Prop} (h : Rsq (go n (109, L, (.int 3 :: S), H, cs, ss)) q) : Rsq (go (n + 1) (108, L, S, H, cs, ss)) q := by
  subst hgo
  exact res_of s3_108 h
theorem t3_109 {go : Nat → St → Option ORes} (hgo : go = orun prog_64_method_2_code (Option.some Jvm.ClassFile.FieldType.boolean) E3 0) {n cs ss : Nat} {l0 l1 l2 l3 l4 l5 l6 l7 l8 : Slot} {S : List Value} {H : AH} {q : Option ORes → Prop} {x : Int32} (hk : so l4 = true) (h : Rsq (go n (111, [l0, l1, l2, l3, .val (.int x), l5, l6, l7, l8], S, H, cs, ss)) q) : Rsq (go (n + 1) (109, [l0, l1, l2, l3, l4, l5, l6, l7, l8], (.int x :: S), H, cs, ss)) q := by
  subst hgo
  refine res_of s3_109 ?_
  rw [pI_int, st1_so (L := [l0, l1, l2, l3, l4, l5, l6, l7, l8]) (k := 4) (l := l4) rfl hk]
  exact h
theorem t3_111 {go : Nat → St → Option ORes} (hgo : go = orun prog_64_method_2_code (Option.some Jvm.ClassFile.FieldType.boolean) E3 0) {n cs ss : Nat} {L : List Slot} {S : List Value} {H : AH} {q : Option ORes → Prop} (h : Rsq (go n (172, L, S, H, cs, ss)) q) : Rsq (go (n + 1) (111, L, S, H, cs, ss)) q := by
  subst hgo
  exact res_of s3_111 h
theorem t3_114 {go : Nat → St → Option ORes} (hgo : go = orun prog_64_method_2_code (Option.some Jvm.ClassFile.FieldType.boolean) E3 0) {n cs ss : Nat} {l0 l1 l2 l4 l5 l6 l7 l8 : Slot} {S : List Value} {H : AH} {q : Option ORes → Prop} {v : Int32} (h : Rsq (go n (115, [l0, l1, l2, .val (.int v), l4, l5, l6, l7, l8], (.int v :: S), H, cs, ss)) q) : Rsq (go (n + 1) (114, [l0, l1, l2, .val (.int v), l4, l5, l6, l7, l8], S, H, cs, ss)) q := by
  subst hgo
  exact res_of s3_114 h
theorem t3_115 {go : Nat → St → Option ORes} (hgo : go = orun prog_64_method_2_code (Option.some Jvm.ClassFile.FieldType.boolean) E3 0) {n cs ss : Nat} {L : List Slot} {S : List Value} {H : AH} {q : Option ORes → Prop} (h : Rsq (go n (118, L, (.int 240 :: S), H, cs, ss)) q) : Rsq (go (n + 1) (115, L, S, H, cs, ss)) q := by
  subst hgo
  exact res_of s3_115 h
theorem t3_118t {go : Nat → St → Option ORes} (hgo : go = orun prog_64_method_2_code (Option.some Jvm.ClassFile.FieldType.boolean) E3 0) {n cs ss : Nat} {L : List Slot} {S : List Value} {H : AH} {q : Option ORes → Prop} {x y : Int32} (hc : x = y) (h : Rsq (go n (121, L, S, H, cs, ss)) q) : Rsq (go (n + 1) (118, L, (.int y :: .int x :: S), H, cs, ss)) q := by
  subst hgo
  exact res_of s3_118 (res_t hc h)
theorem t3_118f {go : Nat → St → Option ORes} (hgo : go = orun prog_64_method_2_code (Option.some Jvm.ClassFile.FieldType.boolean) E3 0) {n cs ss : Nat} {L : List Slot} {S : List Value} {H : AH} {q : Option ORes → Prop} {x y : Int32} (hc : ¬ x = y) (h : Rsq (go n (132, L, S, H, cs, ss)) q) : Rsq (go (n + 1) (118, L, (.int y :: .int x :: S), H, cs, ss)) q := by
  subst hgo
  exact res_of s3_118 (res_f hc h)
theorem t3_121 {go : Nat → St → Option ORes} (hgo : go = orun prog_64_method_2_code (Option.some Jvm.ClassFile.FieldType.boolean) E3 0) {n cs ss : Nat} {L : List Slot} {S : List Value} {H : AH} {q : Option ORes → Prop} (h : Rsq (go n (122, L, (.int 4 :: S), H, cs, ss)) q) : Rsq (go (n + 1) (121, L, S, H, cs, ss)) q := by
  subst hgo
  exact res_of s3_121 h
theorem t3_122 {go : Nat → St → Option ORes} (hgo : go = orun prog_64_method_2_code (Option.some Jvm.ClassFile.FieldType.boolean) E3 0) {n cs ss : Nat} {l0 l1 l2 l3 l4 l5 l6 l7 l8 : Slot} {S : List Value} {H : AH} {q : Option ORes → Prop} {x : Int32} (hk : so l4 = true) (h : Rsq (go n (124, [l0, l1, l2, l3, .val (.int x), l5, l6, l7, l8], S, H, cs, ss)) q) : Rsq (go (n + 1) (122, [l0, l1, l2, l3, l4, l5, l6, l7, l8], (.int x :: S), H, cs, ss)) q := by
  subst hgo
  refine res_of s3_122 ?_
  rw [pI_int, st1_so (L := [l0, l1, l2, l3, l4, l5, l6, l7, l8]) (k := 4) (l := l4) rfl hk]
  exact h
theorem t3_124 {go : Nat → St → Option ORes} (hgo : go = orun prog_64_method_2_code (Option.some Jvm.ClassFile.FieldType.boolean) E3 0) {n cs ss : Nat} {L : List Slot} {S : List Value} {H : AH} {q : Option ORes → Prop} (h : Rsq (go n (127, L, (.int 144 :: S), H, cs, ss)) q) : Rsq (go (n + 1) (124, L, S, H, cs, ss)) q := by
  subst hgo
  exact res_of s3_124 h
theorem t3_127 {go : Nat → St → Option ORes} (hgo : go = orun prog_64_method_2_code (Option.some Jvm.ClassFile.FieldType.boolean) E3 0) {n cs ss : Nat} {l0 l1 l2 l3 l4 l5 l6 l7 l8 : Slot} {S : List Value} {H : AH} {q : Option ORes → Prop} {x : Int32} (hk : so l5 = true) (h : Rsq (go n (129, [l0, l1, l2, l3, l4, .val (.int x), l6, l7, l8], S, H, cs, ss)) q) : Rsq (go (n + 1) (127, [l0, l1, l2, l3, l4, l5, l6, l7, l8], (.int x :: S), H, cs, ss)) q := by
  subst hgo
  refine res_of s3_127 ?_
  rw [pI_int, st1_so (L := [l0, l1, l2, l3, l4, l5, l6, l7, l8]) (k := 5) (l := l5) rfl hk]
  exact h
theorem t3_129 {go : Nat → St → Option ORes} (hgo : go = orun prog_64_method_2_code (Option.some Jvm.ClassFile.FieldType.boolean) E3 0) {n cs ss : Nat} {L : List Slot} {S : List Value} {H : AH} {q : Option ORes → Prop} (h : Rsq (go n (172, L, S, H, cs, ss)) q) : Rsq (go (n + 1) (129, L, S, H, cs, ss)) q := by
  subst hgo
  exact res_of s3_129 h
theorem t3_132 {go : Nat → St → Option ORes} (hgo : go = orun prog_64_method_2_code (Option.some Jvm.ClassFile.FieldType.boolean) E3 0) {n cs ss : Nat} {l0 l1 l2 l4 l5 l6 l7 l8 : Slot} {S : List Value} {H : AH} {q : Option ORes → Prop} {v : Int32} (h : Rsq (go n (133, [l0, l1, l2, .val (.int v), l4, l5, l6, l7, l8], (.int v :: S), H, cs, ss)) q) : Rsq (go (n + 1) (132, [l0, l1, l2, .val (.int v), l4, l5, l6, l7, l8], S, H, cs, ss)) q := by
  subst hgo
  exact res_of s3_132 h
theorem t3_133 {go : Nat → St → Option ORes} (hgo : go = orun prog_64_method_2_code (Option.some Jvm.ClassFile.FieldType.boolean) E3 0) {n cs ss : Nat} {L : List Slot} {S : List Value} {H : AH} {q : Option ORes → Prop} (h : Rsq (go n (136, L, (.int 244 :: S), H, cs, ss)) q) : Rsq (go (n + 1) (133, L, S, H, cs, ss)) q := by
  subst hgo
  exact res_of s3_133 h
theorem t3_136t {go : Nat → St → Option ORes} (hgo : go = orun prog_64_method_2_code (Option.some Jvm.ClassFile.FieldType.boolean) E3 0) {n cs ss : Nat} {L : List Slot} {S : List Value} {H : AH} {q : Option ORes → Prop} {x y : Int32} (hc : x = y) (h : Rsq (go n (139, L, S, H, cs, ss)) q) : Rsq (go (n + 1) (136, L, (.int y :: .int x :: S), H, cs, ss)) q := by
  subst hgo
  exact res_of s3_136 (res_t hc h)
theorem t3_136f {go : Nat → St → Option ORes} (hgo : go = orun prog_64_method_2_code (Option.some Jvm.ClassFile.FieldType.boolean) E3 0) {n cs ss : Nat} {L : List Slot} {S : List Value} {H : AH} {q : Option ORes → Prop} {x y : Int32} (hc : ¬ x = y) (h : Rsq (go n (150, L, S, H, cs, ss)) q) : Rsq (go (n + 1) (136, L, (.int y :: .int x :: S), H, cs, ss)) q := by
  subst hgo
  exact res_of s3_136 (res_f hc h)
theorem t3_139 {go : Nat → St → Option ORes} (hgo : go = orun prog_64_method_2_code (Option.some Jvm.ClassFile.FieldType.boolean) E3 0) {n cs ss : Nat} {L : List Slot} {S : List Value} {H : AH} {q : Option ORes → Prop} (h : Rsq (go n (140, L, (.int 4 :: S), H, cs, ss)) q) : Rsq (go (n + 1) (139, L, S, H, cs, ss)) q := by
  subst hgo
  exact res_of s3_139 h
theorem t3_140 {go : Nat → St → Option ORes} (hgo : go = orun prog_64_method_2_code (Option.some Jvm.ClassFile.FieldType.boolean) E3 0) {n cs ss : Nat} {l0 l1 l2 l3 l4 l5 l6 l7 l8 : Slot} {S : List Value} {H : AH} {q : Option ORes → Prop} {x : Int32} (hk : so l4 = true) (h : Rsq (go n (142, [l0, l1, l2, l3, .val (.int x), l5, l6, l7, l8], S, H, cs, ss)) q) : Rsq (go (n + 1) (140, [l0, l1, l2, l3, l4, l5, l6, l7, l8], (.int x :: S), H, cs, ss)) q := by
  subst hgo
  refine res_of s3_140 ?_
  rw [pI_int, st1_so (L := [l0, l1, l2, l3, l4, l5, l6, l7, l8]) (k := 4) (l := l4) rfl hk]
  exact h
theorem t3_142 {go : Nat → St → Option ORes} (hgo : go = orun prog_64_method_2_code (Option.some Jvm.ClassFile.FieldType.boolean) E3 0) {n cs ss : Nat} {L : List Slot} {S : List Value} {H : AH} {q : Option ORes → Prop} (h : Rsq (go n (145, L, (.int 143 :: S), H, cs, ss)) q) : Rsq (go (n + 1) (142, L, S, H, cs, ss)) q := by
  subst hgo
  exact res_of s3_142 h
theorem t3_145 {go : Nat → St → Option ORes} (hgo : go = orun prog_64_method_2_code (Option.some Jvm.ClassFile.FieldType.boolean) E3 0) {n cs ss : Nat} {l0 l1 l2 l3 l4 l5 l6 l7 l8 : Slot} {S : List Value} {H : AH} {q : Option ORes → Prop} {x : Int32} (hk : so l6 = true) (h : Rsq (go n (147, [l0, l1, l2, l3, l4, l5, .val (.int x), l7, l8], S, H, cs, ss)) q) : Rsq (go (n + 1) (145, [l0, l1, l2, l3, l4, l5, l6, l7, l8], (.int x :: S), H, cs, ss)) q := by
  subst hgo
  refine res_of s3_145 ?_
  rw [pI_int, st1_so (L := [l0, l1, l2, l3, l4, l5, l6, l7, l8]) (k := 6) (l := l6) rfl hk]
  exact h
theorem t3_147 {go : Nat → St → Option ORes} (hgo : go = orun prog_64_method_2_code (Option.some Jvm.ClassFile.FieldType.boolean) E3 0) {n cs ss : Nat} {L : List Slot} {S : List Value} {H : AH} {q : Option ORes → Prop} (h : Rsq (go n (172, L, S, H, cs, ss)) q) : Rsq (go (n + 1) (147, L, S, H, cs, ss)) q := by
  subst hgo
  exact res_of s3_147 h
theorem t3_150 {go : Nat → St → Option ORes} (hgo : go = orun prog_64_method_2_code (Option.some Jvm.ClassFile.FieldType.boolean) E3 0) {n cs ss : Nat} {l0 l1 l2 l4 l5 l6 l7 l8 : Slot} {S : List Value} {H : AH} {q : Option ORes → Prop} {v : Int32} (h : Rsq (go n (151, [l0, l1, l2, .val (.int v), l4, l5, l6, l7, l8], (.int v :: S), H, cs, ss)) q) : Rsq (go (n + 1) (150, [l0, l1, l2, .val (.int v), l4, l5, l6, l7, l8], S, H, cs, ss)) q := by
  subst hgo
  exact res_of s3_150 h
theorem t3_151 {go : Nat → St → Option ORes} (hgo : go = orun prog_64_method_2_code (Option.some Jvm.ClassFile.FieldType.boolean) E3 0) {n cs ss : Nat} {L : List Slot} {S : List Value} {H : AH} {q : Option ORes → Prop} (h : Rsq (go n (154, L, (.int 241 :: S), H, cs, ss)) q) : Rsq (go (n + 1) (151, L, S, H, cs, ss)) q := by
  subst hgo
  exact res_of s3_151 h
theorem t3_154t {go : Nat → St → Option ORes} (hgo : go = orun prog_64_method_2_code (Option.some Jvm.ClassFile.FieldType.boolean) E3 0) {n cs ss : Nat} {L : List Slot} {S : List Value} {H : AH} {q : Option ORes → Prop} {x y : Int32} (hc : x < y) (h : Rsq (go n (170, L, S, H, cs, ss)) q) : Rsq (go (n + 1) (154, L, (.int y :: .int x :: S), H, cs, ss)) q := by
  subst hgo
  exact res_of s3_154 (res_t hc h)
theorem t3_154f {go : Nat → St → Option ORes} (hgo : go = orun prog_64_method_2_code (Option.some Jvm.ClassFile.FieldType.boolean) E3 0) {n cs ss : Nat} {L : List Slot} {S : List Value} {H : AH} {q : Option ORes → Prop} {x y : Int32} (hc : ¬ x < y) (h : Rsq (go n (157, L, S, H, cs, ss)) q) : Rsq (go (n + 1) (154, L, (.int y :: .int x :: S), H, cs, ss)) q := by
  subst hgo
  exact res_of s3_154 (res_f hc h)
theorem t3_157 {go : Nat → St → Option ORes} (hgo : go = orun prog_64_method_2_code (Option.some Jvm.ClassFile.FieldType.boolean) E3 0) {n cs ss : Nat} {l0 l1 l2 l4 l5 l6 l7 l8 : Slot} {S : List Value} {H : AH} {q : Option ORes → Prop} {v : Int32} (h : Rsq (go n (158, [l0, l1, l2, .val (.int v), l4, l5, l6, l7, l8], (.int v :: S), H, cs, ss)) q) : Rsq (go (n + 1) (157, [l0, l1, l2, .val (.int v), l4, l5, l6, l7, l8], S, H, cs, ss)) q := by
  subst hgo
  exact res_of s3_157 h
theorem t3_158 {go : Nat → St → Option ORes} (hgo : go = orun prog_64_method_2_code (Option.some Jvm.ClassFile.FieldType.boolean) E3 0) {n cs ss : Nat} {L : List Slot} {S : List Value} {H : AH} {q : Option ORes → Prop} (h : Rsq (go n (161, L, (.int 243 :: S), H, cs, ss)) q) : Rsq (go (n + 1) (158, L, S, H, cs, ss)) q := by
  subst hgo
  exact res_of s3_158 h
theorem t3_161t {go : Nat → St → Option ORes} (hgo : go = orun prog_64_method_2_code (Option.some Jvm.ClassFile.FieldType.boolean) E3 0) {n cs ss : Nat} {L : List Slot} {S : List Value} {H : AH} {q : Option ORes → Prop} {x y : Int32} (hc : y < x) (h : Rsq (go n (170, L, S, H, cs, ss)) q) : Rsq (go (n + 1) (161, L, (.int y :: .int x :: S), H, cs, ss)) q := by
  subst hgo
  exact res_of s3_161 (res_t hc h)
theorem t3_161f {go : Nat → St → Option ORes} (hgo : go = orun prog_64_method_2_code (Option.some Jvm.ClassFile.FieldType.boolean) E3 0) {n cs ss : Nat} {L : List Slot} {S : List Value} {H : AH} {q : Option ORes → Prop} {x y : Int32} (hc : ¬ y < x) (h : Rsq (go n (164, L, S, H, cs, ss)) q) : Rsq (go (n + 1) (161, L, (.int y :: .int x :: S), H, cs, ss)) q := by
  subst hgo
  exact res_of s3_161 (res_f hc h)
theorem t3_164 {go : Nat → St → Option ORes} (hgo : go = orun prog_64_method_2_code (Option.some Jvm.ClassFile.FieldType.boolean) E3 0) {n cs ss : Nat} {L : List Slot} {S : List Value} {H : AH} {q : Option ORes → Prop} (h : Rsq (go n (165, L, (.int 4 :: S), H, cs, ss)) q) : Rsq (go (n + 1) (164, L, S, H, cs, ss)) q := by
  subst hgo
  exact res_of s3_164 h
theorem t3_165 {go : Nat → St → Option ORes} (hgo : go = orun prog_64_method_2_code (Option.some Jvm.ClassFile.FieldType.boolean) E3 0) {n cs ss : Nat} {l0 l1 l2 l3 l4 l5 l6 l7 l8 : Slot} {S : List Value} {H : AH} {q : Option ORes → Prop} {x : Int32} (hk : so l4 = true) (h : Rsq (go n (167, [l0, l1, l2, l3, .val (.int x), l5, l6, l7, l8], S, H, cs, ss)) q) : Rsq (go (n + 1) (165, [l0, l1, l2, l3, l4, l5, l6, l7, l8], (.int x :: S), H, cs, ss)) q := by
  subst hgo
  refine res_of s3_165 ?_
  rw [pI_int, st1_so (L := [l0, l1, l2, l3, l4, l5, l6, l7, l8]) (k := 4) (l := l4) rfl hk]
  exact h
theorem t3_167 {go : Nat → St → Option ORes} (hgo : go = orun prog_64_method_2_code (Option.some Jvm.ClassFile.FieldType.boolean) E3 0) {n cs ss : Nat} {L : List Slot} {S : List Value} {H : AH} {q : Option ORes → Prop} (h : Rsq (go n (172, L, S, H, cs, ss)) q) : Rsq (go (n + 1) (167, L, S, H, cs, ss)) q := by
  subst hgo
  exact res_of s3_167 h
theorem t3_170 {go : Nat → St → Option ORes} (hgo : go = orun prog_64_method_2_code (Option.some Jvm.ClassFile.FieldType.boolean) E3 0) {n cs ss : Nat} {L : List Slot} {S : List Value} {H : AH} {q : Option ORes → Prop} (h : Rsq (go n (171, L, (.int 0 :: S), H, cs, ss)) q) : Rsq (go (n + 1) (170, L, S, H, cs, ss)) q := by
  subst hgo
  exact res_of s3_170 h
theorem t3_171 {go : Nat → St → Option ORes} (hgo : go = orun prog_64_method_2_code (Option.some Jvm.ClassFile.FieldType.boolean) E3 0) {n cs ss : Nat} {L : List Slot} {S : List Value} {H : AH} {q : Option ORes → Prop} {z : Int32} (h : q (some (some (.int (z &&& 1)), H))) : Rsq (go (n + 1) (171, L, (.int z :: S), H, cs, ss)) q := by
  subst hgo
  exact res_of s3_171 h
theorem t3_172 {go : Nat → St → Option ORes} (hgo : go = orun prog_64_method_2_code (Option.some Jvm.ClassFile.FieldType.boolean) E3 0) {n cs ss : Nat} {l0 l2 l3 l4 l5 l6 l7 l8 : Slot} {S : List Value} {H : AH} {q : Option ORes → Prop} {v : Int32} (h : Rsq (go n (173, [l0, .val (.int v), l2, l3, l4, l5, l6, l7, l8], (.int v :: S), H, cs, ss)) q) : Rsq (go (n + 1) (172, [l0, .val (.int v), l2, l3, l4, l5, l6, l7, l8], S, H, cs, ss)) q := by
  subst hgo
  exact res_of s3_172 h
theorem t3_173 {go : Nat → St → Option ORes} (hgo : go = orun prog_64_method_2_code (Option.some Jvm.ClassFile.FieldType.boolean) E3 0) {n cs ss : Nat} {l0 l1 l3 l4 l5 l6 l7 l8 : Slot} {S : List Value} {H : AH} {q : Option ORes → Prop} {v : Int32} (h : Rsq (go n (174, [l0, l1, .val (.int v), l3, l4, l5, l6, l7, l8], (.int v :: S), H, cs, ss)) q) : Rsq (go (n + 1) (173, [l0, l1, .val (.int v), l3, l4, l5, l6, l7, l8], S, H, cs, ss)) q := by
  subst hgo
  exact res_of s3_173 h
theorem t3_174 {go : Nat → St → Option ORes} (hgo : go = orun prog_64_method_2_code (Option.some Jvm.ClassFile.FieldType.boolean) E3 0) {n cs ss : Nat} {L : List Slot} {S : List Value} {H : AH} {q : Option ORes → Prop} {x y : Int32} (h : Rsq (go n (175, L, (.int (x - y) :: S), H, cs, ss)) q) : Rsq (go (n + 1) (174, L, (.int y :: .int x :: S), H, cs, ss)) q := by
  subst hgo
  exact res_of s3_174 h
theorem t3_175 {go : Nat → St → Option ORes} (hgo : go = orun prog_64_method_2_code (Option.some Jvm.ClassFile.FieldType.boolean) E3 0) {n cs ss : Nat} {l0 l1 l2 l3 l5 l6 l7 l8 : Slot} {S : List Value} {H : AH} {q : Option ORes → Prop} {v : Int32} (h : Rsq (go n (177, [l0, l1, l2, l3, .val (.int v), l5, l6, l7, l8], (.int v :: S), H, cs, ss)) q) : Rsq (go (n + 1) (175, [l0, l1, l2, l3, .val (.int v), l5, l6, l7, l8], S, H, cs, ss)) q := by
  subst hgo
  exact res_of s3_175 h
theorem t3_177t {go : Nat → St → Option ORes} (hgo : go = orun prog_64_method_2_code (Option.some Jvm.ClassFile.FieldType.boolean) E3 0) {n cs ss : Nat} {L : List Slot} {S : List Value} {H : AH} {q : Option ORes → Prop} {x y : Int32} (hc : x < y) (h : Rsq (go n (180, L, S, H, cs, ss)) q) : Rsq (go (n + 1) (177, L, (.int y :: .int x :: S), H, cs, ss)) q := by
  subst hgo
  exact res_of s3_177 (res_t hc h)
theorem t3_177f {go : Nat → St → Option ORes} (hgo : go = orun prog_64_method_2_code (Option.some Jvm.ClassFile.FieldType.boolean) E3 0) {n cs ss : Nat} {L : List Slot} {S : List Value} {H : AH} {q : Option ORes → Prop} {x y : Int32} (hc : ¬ x < y) (h : Rsq (go n (182, L, S, H, cs, ss)) q) : Rsq (go (n + 1) (177, L, (.int y :: .int x :: S), H, cs, ss)) q := by
  subst hgo
  exact res_of s3_177 (res_f hc h)
theorem t3_180 {go : Nat → St → Option ORes} (hgo : go = orun prog_64_method_2_code (Option.some Jvm.ClassFile.FieldType.boolean) E3 0) {n cs ss : Nat} {L : List Slot} {S : List Value} {H : AH} {q : Option ORes → Prop} (h : Rsq (go n (181, L, (.int 0 :: S), H, cs, ss)) q) : Rsq (go (n + 1) (180, L, S, H, cs, ss)) q := by
  subst hgo
  exact res_of s3_180 h
theorem t3_181 {go : Nat → St → Option ORes} (hgo : go = orun prog_64_method_2_code (Option.some Jvm.ClassFile.FieldType.boolean) E3 0) {n cs ss : Nat} {L : List Slot} {S : List Value} {H : AH} {q : Option ORes → Prop} {z : Int32} (h : q (some (some (.int (z &&& 1)), H))) : Rsq (go (n + 1) (181, L, (.int z :: S), H, cs, ss)) q := by
  subst hgo
  exact res_of s3_181 h
theorem t3_182 {go : Nat → St → Option ORes} (hgo : go = orun prog_64_method_2_code (Option.some Jvm.ClassFile.FieldType.boolean) E3 0) {n cs ss : Nat} {L : List Slot} {S : List Value} {H : AH} {q : Option ORes → Prop} (h : Rsq (go n (183, L, (.int 1 :: S), H, cs, ss)) q) : Rsq (go (n + 1) (182, L, S, H, cs, ss)) q := by
  subst hgo
  exact res_of s3_182 h
theorem t3_183 {go : Nat → St → Option ORes} (hgo : go = orun prog_64_method_2_code (Option.some Jvm.ClassFile.FieldType.boolean) E3 0) {n cs ss : Nat} {l0 l1 l2 l3 l4 l5 l6 l7 l8 : Slot} {S : List Value} {H : AH} {q : Option ORes → Prop} {x : Int32} (hk : so l7 = true) (h : Rsq (go n (185, [l0, l1, l2, l3, l4, l5, l6, .val (.int x), l8], S, H, cs, ss)) q) : Rsq (go (n + 1) (183, [l0, l1, l2, l3, l4, l5, l6, l7, l8], (.int x :: S), H, cs, ss)) q := by
  subst hgo
  refine res_of s3_183 ?_
  rw [pI_int, st1_so (L := [l0, l1, l2, l3, l4, l5, l6, l7, l8]) (k := 7) (l := l7) rfl hk]
  exact h
theorem t3_185 {go : Nat → St → Option ORes} (hgo : go = orun prog_64_method_2_code (Option.some Jvm.ClassFile.FieldType.boolean) E3 0) {n cs ss : Nat} {l0 l1 l2 l3 l4 l5 l6 l8 : Slot} {S : List Value} {H : AH} {q : Option ORes → Prop} {v : Int32} (h : Rsq (go n (187, [l0, l1, l2, l3, l4, l5, l6, .val (.int v), l8], (.int v :: S), H, cs, ss)) q) : Rsq (go (n + 1) (185, [l0, l1, l2, l3, l4, l5, l6, .val (.int v), l8], S, H, cs, ss)) q := by
  subst hgo
  exact res_of s3_185 h
theorem t3_187 {go : Nat → St → Option ORes} (hgo : go = orun prog_64_method_2_code (Option.some Jvm.ClassFile.FieldType.boolean) E3 0) {n cs ss : Nat} {l0 l1 l2 l3 l5 l6 l7 l8 : Slot} {S : List Value} {H : AH} {q : Option ORes → Prop} {v : Int32} (h : Rsq (go n (189, [l0, l1, l2, l3, .val (.int v), l5, l6, l7, l8], (.int v :: S), H, cs, ss)) q) : Rsq (go (n + 1) (187, [l0, l1, l2, l3, .val (.int v), l5, l6, l7, l8], S, H, cs, ss)) q := by
  subst hgo
  exact res_of s3_187 h
theorem t3_189t {go : Nat → St → Option ORes} (hgo : go = orun prog_64_method_2_code (Option.some Jvm.ClassFile.FieldType.boolean) E3 0) {n cs ss : Nat} {L : List Slot} {S : List Value} {H : AH} {q : Option ORes → Prop} {x y : Int32} (hc : x < y) (h : Rsq (go n (192, L, S, H, cs, ss)) q) : Rsq (go (n + 1) (189, L, (.int y :: .int x :: S), H, cs, ss)) q := by
  subst hgo
  exact res_of s3_189 (res_t hc h)
theorem t3_189f {go : Nat → St → Option ORes} (hgo : go = orun prog_64_method_2_code (Option.some Jvm.ClassFile.FieldType.boolean) E3 0) {n cs ss : Nat} {L : List Slot} {S : List Value} {H : AH} {q : Option ORes → Prop} {x y : Int32} (hc : ¬ x < y) (h : Rsq (go n (250, L, S, H, cs, ss)) q) : Rsq (go (n + 1) (189, L, (.int y :: .int x :: S), H, cs, ss)) q := by
  subst hgo
  exact res_of s3_189 (res_f hc h)
theorem t3_192 {go : Nat → St → Option ORes} (hgo : go = orun prog_64_method_2_code (Option.some Jvm.ClassFile.FieldType.boolean) E3 0) {n cs ss : Nat} {l1 l2 l3 l4 l5 l6 l7 l8 : Slot} {S : List Value} {H : AH} {q : Option ORes → Prop} {v : Value} (hv : isA v = true) (h : Rsq (go n (193, [.val v, l1, l2, l3, l4, l5, l6, l7, l8], (v :: S), H, cs, ss)) q) : Rsq (go (n + 1) (192, [.val v, l1, l2, l3, l4, l5, l6, l7, l8], S, H, cs, ss)) q := by
  subst hgo
  refine res_of s3_192 ?_
  rw [gA_isA (L := [.val v, l1, l2, l3, l4, l5, l6, l7, l8]) (k := 0) (v := v) rfl hv]
  exact h
theorem t3_193 {go : Nat → St → Option ORes} (hgo : go = orun prog_64_method_2_code (Option.some Jvm.ClassFile.FieldType.boolean) E3 0) {n cs ss : Nat} {l0 l1 l3 l4 l5 l6 l7 l8 : Slot} {S : List Value} {H : AH} {q : Option ORes → Prop} {v : Int32} (h : Rsq (go n (194, [l0, l1, .val (.int v), l3, l4, l5, l6, l7, l8], (.int v :: S), H, cs, ss)) q) : Rsq (go (n + 1) (193, [l0, l1, .val (.int v), l3, l4, l5, l6, l7, l8], S, H, cs, ss)) q := by
  subst hgo
  exact res_of s3_193 h
theorem t3_194 {go : Nat → St → Option ORes} (hgo : go = orun prog_64_method_2_code (Option.some Jvm.ClassFile.FieldType.boolean) E3 0) {n cs ss : Nat} {l0 l1 l2 l3 l4 l5 l6 l8 : Slot} {S : List Value} {H : AH} {q : Option ORes → Prop} {v : Int32} (h : Rsq (go n (196, [l0, l1, l2, l3, l4, l5, l6, .val (.int v), l8], (.int v :: S), H, cs, ss)) q) : Rsq (go (n + 1) (194, [l0, l1, l2, l3, l4, l5, l6, .val (.int v), l8], S, H, cs, ss)) q := by
  subst hgo
  exact res_of s3_194 h
theorem t3_196 {go : Nat → St → Option ORes} (hgo : go = orun prog_64_method_2_code (Option.some Jvm.ClassFile.FieldType.boolean) E3 0) {n cs ss : Nat} {L : List Slot} {S : List Value} {H : AH} {q : Option ORes → Prop} {x y : Int32} (h : Rsq (go n (197, L, (.int (x + y) :: S), H, cs, ss)) q) : Rsq (go (n + 1) (196, L, (.int y :: .int x :: S), H, cs, ss)) q := by
  subst hgo
  exact res_of s3_196 h
theorem u3_197 {go : Nat → St → Option ORes} (hgo : go = orun prog_64_method_2_code (Option.some Jvm.ClassFile.FieldType.boolean) E3 0) {n cs ss : Nat} {L : List Slot} {S : List Value} {H : AH} : go (n + 1) (197, L, S, H, cs, ss) = ex (Option.some Jvm.ClassFile.FieldType.boolean) E3 0 (go n) (.baload) 197 L S H cs ss := by
  subst hgo
  exact s3_197
theorem t3_198 {go : Nat → St → Option ORes} (hgo : go = orun prog_64_method_2_code (Option.some Jvm.ClassFile.FieldType.boolean) E3 0) {n cs ss : Nat} {L : List Slot} {S : List Value} {H : AH} {q : Option ORes → Prop} (h : Rsq (go n (201, L, (.int 255 :: S), H, cs, ss)) q) : Rsq (go (n + 1) (198, L, S, H, cs, ss)) q := by
  subst hgo
  exact res_of s3_198 h
theorem t3_201 {go : Nat → St → Option ORes} (hgo : go = orun prog_64_method_2_code (Option.some Jvm.ClassFile.FieldType.boolean) E3 0) {n cs ss : Nat} {L : List Slot} {S : List Value} {H : AH} {q : Option ORes → Prop} {x y : Int32} (h : Rsq (go n (202, L, (.int (x &&& y) :: S), H, cs, ss)) q) : Rsq (go (n + 1) (201, L, (.int y :: .int x :: S), H, cs, ss)) q := by
  subst hgo
  exact res_of s3_201 h
theorem t3_202 {go : Nat → St → Option ORes} (hgo : go = orun prog_64_method_2_code (Option.some Jvm.ClassFile.FieldType.boolean) E3 0) {n cs ss : Nat} {l0 l1 l2 l3 l4 l5 l6 l7 l8 : Slot} {S : List Value} {H : AH} {q : Option ORes → Prop} {x : Int32} (hk : so l8 = true) (h : Rsq (go n (204, [l0, l1, l2, l3, l4, l5, l6, l7, .val (.int x)], S, H, cs, ss)) q) : Rsq (go (n + 1) (202, [l0, l1, l2, l3, l4, l5, l6, l7, l8], (.int x :: S), H, cs, ss)) q := by
  subst hgo
  refine res_of s3_202 ?_
  rw [pI_int, st1_so (L := [l0, l1, l2, l3, l4, l5, l6, l7, l8]) (k := 8) (l := l8) rfl hk]
  exact h
theorem t3_204 {go : Nat → St → Option ORes} (hgo : go = orun prog_64_method_2_code (Option.some Jvm.ClassFile.FieldType.boolean) E3 0) {n cs ss : Nat} {l0 l1 l2 l3 l4 l5 l6 l7 : Slot} {S : List Value} {H : AH} {q : Option ORes → Prop} {v : Int32} (h : Rsq (go n (206, [l0, l1, l2, l3, l4, l5, l6, l7, .val (.int v)], (.int v :: S), H, cs, ss)) q) : Rsq (go (n + 1) (204, [l0, l1, l2, l3, l4, l5, l6, l7, .val (.int v)], S, H, cs, ss)) q := by
  subst hgo
  exact res_of s3_204 h
theorem t3_206 {go : Nat → St → Option ORes} (hgo : go = orun prog_64_method_2_code (Option.some Jvm.ClassFile.FieldType.boolean) E3 0) {n cs ss : Nat} {l0 l1 l2 l3 l4 l5 l6 l8 : Slot} {S : List Value} {H : AH} {q : Option ORes → Prop} {v : Int32} (h : Rsq (go n (208, [l0, l1, l2, l3, l4, l5, l6, .val (.int v), l8], (.int v :: S), H, cs, ss)) q) : Rsq (go (n + 1) (206, [l0, l1, l2, l3, l4, l5, l6, .val (.int v), l8], S, H, cs, ss)) q := by
  subst hgo
  exact res_of s3_206 h
theorem t3_208 {go : Nat → St → Option ORes} (hgo : go = orun prog_64_method_2_code (Option.some Jvm.ClassFile.FieldType.boolean) E3 0) {n cs ss : Nat} {L : List Slot} {S : List Value} {H : AH} {q : Option ORes → Prop} (h : Rsq (go n (209, L, (.int 1 :: S), H, cs, ss)) q) : Rsq (go (n + 1) (208, L, S, H, cs, ss)) q := by
  subst hgo
  exact res_of s3_208 h
theorem t3_209t {go : Nat → St → Option ORes} (hgo : go = orun prog_64_method_2_code (Option.some Jvm.ClassFile.FieldType.boolean) E3 0) {n cs ss : Nat} {L : List Slot} {S : List Value} {H : AH} {q : Option ORes → Prop} {x y : Int32} (hc : x = y) (h : Rsq (go n (212, L, S, H, cs, ss)) q) : Rsq (go (n + 1) (209, L, (.int y :: .int x :: S), H, cs, ss)) q := by
  subst hgo
  exact res_of s3_209 (res_t hc h)
theorem t3_209f {go : Nat → St → Option ORes} (hgo : go = orun prog_64_method_2_code (Option.some Jvm.ClassFile.FieldType.boolean) E3 0) {n cs ss : Nat} {L : List Slot} {S : List Value} {H : AH} {q : Option ORes → Prop} {x y : Int32} (hc : ¬ x = y) (h : Rsq (go n (217, L, S, H, cs, ss)) q) : Rsq (go (n + 1) (209, L, (.int y :: .int x :: S), H, cs, ss)) q := by
  subst hgo
  exact res_of s3_209 (res_f hc h)
theorem t3_212 {go : Nat → St → Option ORes} (hgo : go = orun prog_64_method_2_code (Option.some Jvm.ClassFile.FieldType.boolean) E3 0) {n cs ss : Nat} {l0 l1 l2 l3 l4 l6 l7 l8 : Slot} {S : List Value} {H : AH} {q : Option ORes → Prop} {v : Int32} (h : Rsq (go n (214, [l0, l1, l2, l3, l4, .val (.int v), l6, l7, l8], (.int v :: S), H, cs, ss)) q) : Rsq (go (n + 1) (212, [l0, l1, l2, l3, l4, .val (.int v), l6, l7, l8], S, H, cs, ss)) q := by
  subst hgo
  exact res_of s3_212 h
theorem t3_214 {go : Nat → St → Option ORes} (hgo : go = orun prog_64_method_2_code (Option.some Jvm.ClassFile.FieldType.boolean) E3 0) {n cs ss : Nat} {L : List Slot} {S : List Value} {H : AH} {q : Option ORes → Prop} (h : Rsq (go n (220, L, S, H, cs, ss)) q) : Rsq (go (n + 1) (214, L, S, H, cs, ss)) q := by
  subst hgo
  exact res_of s3_214 h
theorem t3_217 {go : Nat → St → Option ORes} (hgo : go = orun prog_64_method_2_code (Option.some Jvm.ClassFile.FieldType.boolean) E3 0) {n cs ss : Nat} {L : List Slot} {S : List Value} {H : AH} {q : Option ORes → Prop} (h : Rsq (go n (220, L, (.int 128 :: S), H, cs, ss)) q) : Rsq (go (n + 1) (217, L, S, H, cs, ss)) q := by
  subst hgo
  exact res_of s3_217 h
theorem t3_220t {go : Nat → St → Option ORes} (hgo : go = orun prog_64_method_2_code (Option.some Jvm.ClassFile.FieldType.boolean) E3 0) {n cs ss : Nat} {L : List Slot} {S : List Value} {H : AH} {q : Option ORes → Prop} {x y : Int32} (hc : x < y) (h : Rsq (go n (242, L, S, H, cs, ss)) q) : Rsq (go (n + 1) (220, L, (.int y :: .int x :: S), H, cs, ss)) q := by
  subst hgo
  exact res_of s3_220 (res_t hc h)
theorem t3_220f {go : Nat → St → Option ORes} (hgo : go = orun prog_64_method_2_code (Option.some Jvm.ClassFile.FieldType.boolean) E3 0) {n cs ss : Nat} {L : List Slot} {S : List Value} {H : AH} {q : Option ORes → Prop} {x y : Int32} (hc : ¬ x < y) (h : Rsq (go n (223, L, S, H, cs, ss)) q) : Rsq (go (n + 1) (220, L, (.int y :: .int x :: S), H, cs, ss)) q := by
  subst hgo
  exact res_of s3_220 (res_f hc h)
theorem t3_223 {go : Nat → St → Option ORes} (hgo : go = orun prog_64_method_2_code (Option.some Jvm.ClassFile.FieldType.boolean) E3 0) {n cs ss : Nat} {l0 l1 l2 l3 l4 l5 l6 l7 : Slot} {S : List Value} {H : AH} {q : Option ORes → Prop} {v : Int32} (h : Rsq (go n (225, [l0, l1, l2, l3, l4, l5, l6, l7, .val (.int v)], (.int v :: S), H, cs, ss)) q) : Rsq (go (n + 1) (223, [l0, l1, l2, l3, l4, l5, l6, l7, .val (.int v)], S, H, cs, ss)) q := by
  subst hgo
  exact res_of s3_223 h
theorem t3_225 {go : Nat → St → Option ORes} (hgo : go = orun prog_64_method_2_code (Option.some Jvm.ClassFile.FieldType.boolean) E3 0) {n cs ss : Nat} {l0 l1 l2 l3 l4 l5 l6 l8 : Slot} {S : List Value} {H : AH} {q : Option ORes → Prop} {v : Int32} (h : Rsq (go n (227, [l0, l1, l2, l3, l4, l5, l6, .val (.int v), l8], (.int v :: S), H, cs, ss)) q) : Rsq (go (n + 1) (225, [l0, l1, l2, l3, l4, l5, l6, .val (.int v), l8], S, H, cs, ss)) q := by
  subst hgo
  exact res_of s3_225 h
theorem t3_227 {go : Nat → St → Option ORes} (hgo : go = orun prog_64_method_2_code (Option.some Jvm.ClassFile.FieldType.boolean) E3 0) {n cs ss : Nat} {L : List Slot} {S : List Value} {H : AH} {q : Option ORes → Prop} (h : Rsq (go n (228, L, (.int 1 :: S), H, cs, ss)) q) : Rsq (go (n + 1) (227, L, S, H, cs, ss)) q := by
  subst hgo
  exact res_of s3_227 h
theorem t3_228t {go : Nat → St → Option ORes} (hgo : go = orun prog_64_method_2_code (Option.some Jvm.ClassFile.FieldType.boolean) E3 0) {n cs ss : Nat} {L : List Slot} {S : List Value} {H : AH} {q : Option ORes → Prop} {x y : Int32} (hc : x = y) (h : Rsq (go n (231, L, S, H, cs, ss)) q) : Rsq (go (n + 1) (228, L, (.int y :: .int x :: S), H, cs, ss)) q := by
  subst hgo
  exact res_of s3_228 (res_t hc h)
theorem t3_228f {go : Nat → St → Option ORes} (hgo : go = orun prog_64_method_2_code (Option.some Jvm.ClassFile.FieldType.boolean) E3 0) {n cs ss : Nat} {L : List Slot} {S : List Value} {H : AH} {q : Option ORes → Prop} {x y : Int32} (hc : ¬ x = y) (h : Rsq (go n (236, L, S, H, cs, ss)) q) : Rsq (go (n + 1) (228, L, (.int y :: .int x :: S), H, cs, ss)) q := by
  subst hgo
  exact res_of s3_228 (res_f hc h)
theorem t3_231 {go : Nat → St → Option ORes} (hgo : go = orun prog_64_method_2_code (Option.some Jvm.ClassFile.FieldType.boolean) E3 0) {n cs ss : Nat} {l0 l1 l2 l3 l4 l5 l7 l8 : Slot} {S : List Value} {H : AH} {q : Option ORes → Prop} {v : Int32} (h : Rsq (go n (233, [l0, l1, l2, l3, l4, l5, .val (.int v), l7, l8], (.int v :: S), H, cs, ss)) q) : Rsq (go (n + 1) (231, [l0, l1, l2, l3, l4, l5, .val (.int v), l7, l8], S, H, cs, ss)) q := by
  subst hgo
  exact res_of s3_231 h
theorem t3_233 {go : Nat → St → Option ORes} (hgo : go = orun prog_64_method_2_code (Option.some Jvm.ClassFile.FieldType.boolean) E3 0) {n cs ss : Nat} {L : List Slot} {S : List Value} {H : AH} {q : Option ORes → Prop} (h : Rsq (go n (239, L, S, H, cs, ss)) q) : Rsq (go (n + 1) (233, L, S, H, cs, ss)) q := by
  subst hgo
  exact res_of s3_233 h
theorem t3_236 {go : Nat → St → Option ORes} (hgo : go = orun prog_64_method_2_code (Option.some Jvm.ClassFile.FieldType.boolean) E3 0) {n cs ss : Nat} {L : List Slot} {S : List Value} {H : AH} {q : Option ORes → Prop} (h : Rsq (go n (239, L, (.int 191 :: S), H, cs, ss)) q) : Rsq (go (n + 1) (236, L, S, H, cs, ss)) q := by
  subst hgo
  exact res_of s3_236 h
theorem t3_239t {go : Nat → St → Option ORes} (hgo : go = orun prog_64_method_2_code (Option.some Jvm.ClassFile.FieldType.boolean) E3 0) {n cs ss : Nat} {L : List Slot} {S : List Value} {H : AH} {q : Option ORes → Prop} {x y : Int32} (hc : y < x) (h : Rsq (go n (242, L, S, H, cs, ss)) q) : Rsq (go (n + 1) (239, L, (.int y :: .int x :: S), H, cs, ss)) q := by
  subst hgo
  exact res_of s3_239 (res_t hc h)
theorem t3_239f {go : Nat → St → Option ORes} (hgo : go = orun prog_64_method_2_code (Option.some Jvm.ClassFile.FieldType.boolean) E3 0) {n cs ss : Nat} {L : List Slot} {S : List Value} {H : AH} {q : Option ORes → Prop} {x y : Int32} (hc : ¬ y < x) (h : Rsq (go n (244, L, S, H, cs, ss)) q) : Rsq (go (n + 1) (239, L, (.int y :: .int x :: S), H, cs, ss)) q := by
  subst hgo
  exact res_of s3_239 (res_f hc h)
theorem t3_242 {go : Nat → St → Option ORes} (hgo : go = orun prog_64_method_2_code (Option.some Jvm.ClassFile.FieldType.boolean) E3 0) {n cs ss : Nat} {L : List Slot} {S : List Value} {H : AH} {q : Option ORes → Prop} (h : Rsq (go n (243, L, (.int 0 :: S), H, cs, ss)) q) : Rsq (go (n + 1) (242, L, S, H, cs, ss)) q := by
  subst hgo
  exact res_of s3_242 h
theorem t3_243 {go : Nat → St → Option ORes} (hgo : go = orun prog_64_method_2_code (Option.some Jvm.ClassFile.FieldType.boolean) E3 0) {n cs ss : Nat} {L : List Slot} {S : List Value} {H : AH} {q : Option ORes → Prop} {z : Int32} (h : q (some (some (.int (z &&& 1)), H))) : Rsq (go (n + 1) (243, L, (.int z :: S), H, cs, ss)) q := by
  subst hgo
  exact res_of s3_243 h
theorem t3_244 {go : Nat → St → Option ORes} (hgo : go = orun prog_64_method_2_code (Option.some Jvm.ClassFile.FieldType.boolean) E3 0) {n cs ss : Nat} {l0 l1 l2 l3 l4 l5 l6 l8 : Slot} {S : List Value} {H : AH} {q : Option ORes → Prop} {v : Int32} (h : Rsq (go n (247, [l0, l1, l2, l3, l4, l5, l6, .val (.int (v + 1)), l8], S, H, cs, ss)) q) : Rsq (go (n + 1) (244, [l0, l1, l2, l3, l4, l5, l6, .val (.int v), l8], S, H, cs, ss)) q := by
  subst hgo
  exact res_of s3_244 h
theorem t3_247 {go : Nat → St → Option ORes} (hgo : go = orun prog_64_method_2_code (Option.some Jvm.ClassFile.FieldType.boolean) E3 0) {n cs ss : Nat} {L : List Slot} {S : List Value} {H : AH} {q : Option ORes → Prop} (h : Rsq (go n (185, L, S, H, cs, ss)) q) : Rsq (go (n + 1) (247, L, S, H, cs, ss)) q := by
  subst hgo
  exact res_of s3_247 h
theorem t3_250 {go : Nat → St → Option ORes} (hgo : go = orun prog_64_method_2_code (Option.some Jvm.ClassFile.FieldType.boolean) E3 0) {n cs ss : Nat} {l0 l1 l3 l4 l5 l6 l7 l8 : Slot} {S : List Value} {H : AH} {q : Option ORes → Prop} {v : Int32} (h : Rsq (go n (251, [l0, l1, .val (.int v), l3, l4, l5, l6, l7, l8], (.int v :: S), H, cs, ss)) q) : Rsq (go (n + 1) (250, [l0, l1, .val (.int v), l3, l4, l5, l6, l7, l8], S, H, cs, ss)) q := by
  subst hgo
  exact res_of s3_250 h
theorem t3_251 {go : Nat → St → Option ORes} (hgo : go = orun prog_64_method_2_code (Option.some Jvm.ClassFile.FieldType.boolean) E3 0) {n cs ss : Nat} {l0 l1 l2 l3 l5 l6 l7 l8 : Slot} {S : List Value} {H : AH} {q : Option ORes → Prop} {v : Int32} (h : Rsq (go n (253, [l0, l1, l2, l3, .val (.int v), l5, l6, l7, l8], (.int v :: S), H, cs, ss)) q) : Rsq (go (n + 1) (251, [l0, l1, l2, l3, .val (.int v), l5, l6, l7, l8], S, H, cs, ss)) q := by
  subst hgo
  exact res_of s3_251 h
theorem t3_253 {go : Nat → St → Option ORes} (hgo : go = orun prog_64_method_2_code (Option.some Jvm.ClassFile.FieldType.boolean) E3 0) {n cs ss : Nat} {L : List Slot} {S : List Value} {H : AH} {q : Option ORes → Prop} {x y : Int32} (h : Rsq (go n (254, L, (.int (x + y) :: S), H, cs, ss)) q) : Rsq (go (n + 1) (253, L, (.int y :: .int x :: S), H, cs, ss)) q := by
  subst hgo
  exact res_of s3_253 h
theorem t3_254 {go : Nat → St → Option ORes} (hgo : go = orun prog_64_method_2_code (Option.some Jvm.ClassFile.FieldType.boolean) E3 0) {n cs ss : Nat} {l0 l1 l2 l3 l4 l5 l6 l7 l8 : Slot} {S : List Value} {H : AH} {q : Option ORes → Prop} {x : Int32} (hk : so l2 = true) (h : Rsq (go n (255, [l0, l1, .val (.int x), l3, l4, l5, l6, l7, l8], S, H, cs, ss)) q) : Rsq (go (n + 1) (254, [l0, l1, l2, l3, l4, l5, l6, l7, l8], (.int x :: S), H, cs, ss)) q := by
  subst hgo
  refine res_of s3_254 ?_
  rw [pI_int, st1_so (L := [l0, l1, l2, l3, l4, l5, l6, l7, l8]) (k := 2) (l := l2) rfl hk]
  exact h
theorem t3_255 {go : Nat → St → Option ORes} (hgo : go = orun prog_64_method_2_code (Option.some Jvm.ClassFile.FieldType.boolean) E3 0) {n cs ss : Nat} {L : List Slot} {S : List Value} {H : AH} {q : Option ORes → Prop} (h : Rsq (go n (2, L, S, H, cs, ss)) q) : Rsq (go (n + 1) (255, L, S, H, cs, ss)) q := by
  subst hgo
  exact res_of s3_255 h
theorem t3_258 {go : Nat → St → Option ORes} (hgo : go = orun prog_64_method_2_code (Option.some Jvm.ClassFile.FieldType.boolean) E3 0) {n cs ss : Nat} {L : List Slot} {S : List Value} {H : AH} {q : Option ORes → Prop} (h : Rsq (go n (259, L, (.int 1 :: S), H, cs, ss)) q) : Rsq (go (n + 1) (258, L, S, H, cs, ss)) q := by
  subst hgo
  exact res_of s3_258 h
theorem t3_259 {go : Nat → St → Option ORes} (hgo : go = orun prog_64_method_2_code (Option.some Jvm.ClassFile.FieldType.boolean) E3 0) {n cs ss : Nat} {L : List Slot} {S : List Value} {H : AH} {q : Option ORes → Prop} {z : Int32} (h : q (some (some (.int (z &&& 1)), H))) : Rsq (go (n + 1) (259, L, (.int z :: S), H, cs, ss)) q := by
  subst hgo
  exact res_of s3_259 h
theorem f0_in {x0 : Int64} {x1 : Int32} {H : AH} : F0 [.long x0, .int x1] H = orun code ret E0 0 298 (0, [.val (.long x0), .second, .val (.int x1), .unset, .unset, .unset, .unset], [], H, 0, 0) := rfl
theorem s0_0 {n cs ss : Nat} {L : List Slot} {S : List Value} {H : AH} : orun code ret E0 0 (n + 1) (0, L, S, H, cs, ss) = orun code ret E0 0 n (2, L, (.int 8 :: S), H, cs, ss) := s_any k0_0
theorem s0_2 {n cs ss : Nat} {L : List Slot} {S : List Value} {H : AH} : orun code ret E0 0 (n + 1) (2, L, S, H, cs, ss) = (aArr .byte 16 128 S H cs ss).bind fun r => orun code ret E0 0 n (4, L, r.1, r.2.1, r.2.2.1, r.2.2.2) := s_any k0_2
theorem s0_4 {n cs ss : Nat} {L : List Slot} {S : List Value} {H : AH} : orun code ret E0 0 (n + 1) (4, L, S, H, cs, ss) = pA S fun x r => (st1 L 3 x).bind fun L' => orun code ret E0 0 n (5, L', r, H, cs, ss) := s_any k0_4
theorem s0_5 {n cs ss : Nat} {L : List Slot} {S : List Value} {H : AH} : orun code ret E0 0 (n + 1) (5, L, S, H, cs, ss) = (gA L 3).bind fun v => orun code ret E0 0 n (6, L, v :: S, H, cs, ss) := s_any k0_5
theorem s0_6 {n cs ss : Nat} {L : List Slot} {S : List Value} {H : AH} : orun code ret E0 0 (n + 1) (6, L, S, H, cs, ss) = orun code ret E0 0 n (7, L, (.int 0 :: S), H, cs, ss) := s_any k0_6
theorem s0_7 {n cs ss : Nat} {L : List Slot} {S : List Value} {H : AH} : orun code ret E0 0 (n + 1) (7, L, S, H, cs, ss) = (gL L 0).bind fun v => orun code ret E0 0 n (8, L, .long v :: S, H, cs, ss) := s_any k0_7
theorem s0_8 {n cs ss : Nat} {L : List Slot} {S : List Value} {H : AH} : orun code ret E0 0 (n + 1) (8, L, S, H, cs, ss) = ex ret E0 0 (orun code ret E0 0 n) (.l2i) 8 L S H cs ss := s_any k0_8
theorem s0_9 {n cs ss : Nat} {L : List Slot} {S : List Value} {H : AH} : orun code ret E0 0 (n + 1) (9, L, S, H, cs, ss) = ex ret E0 0 (orun code ret E0 0 n) (.i2b) 9 L S H cs ss := s_any k0_9
theorem s0_10 {n cs ss : Nat} {L : List Slot} {S : List Value} {H : AH} : orun code ret E0 0 (n + 1) (10, L, S, H, cs, ss) = ex ret E0 0 (orun code ret E0 0 n) (.bastore) 10 L S H cs ss := s_any k0_10
theorem s0_11 {n cs ss : Nat} {L : List Slot} {S : List Value} {H : AH} : orun code ret E0 0 (n + 1) (11, L, S, H, cs, ss) = (gA L 3).bind fun v => orun code ret E0 0 n (12, L, v :: S, H, cs, ss) := s_any k0_11
theorem s0_12 {n cs ss : Nat} {L : List Slot} {S : List Value} {H : AH} : orun code ret E0 0 (n + 1) (12, L, S, H, cs, ss) = orun code ret E0 0 n (13, L, (.int 1 :: S), H, cs, ss) := s_any k0_12
theorem s0_13 {n cs ss : Nat} {L : List Slot} {S : List Value} {H : AH} : orun code ret E0 0 (n + 1) (13, L, S, H, cs, ss) = (gL L 0).bind fun v => orun code ret E0 0 n (14, L, .long v :: S, H, cs, ss) := s_any k0_13
theorem s0_14 {n cs ss : Nat} {L : List Slot} {S : List Value} {H : AH} : orun code ret E0 0 (n + 1) (14, L, S, H, cs, ss) = orun code ret E0 0 n (16, L, (.int 8 :: S), H, cs, ss) := s_any k0_14
theorem s0_16 {n cs ss : Nat} {L : List Slot} {S : List Value} {H : AH} : orun code ret E0 0 (n + 1) (16, L, S, H, cs, ss) = ex ret E0 0 (orun code ret E0 0 n) (.lushr) 16 L S H cs ss := s_any k0_16
theorem s0_17 {n cs ss : Nat} {L : List Slot} {S : List Value} {H : AH} : orun code ret E0 0 (n + 1) (17, L, S, H, cs, ss) = ex ret E0 0 (orun code ret E0 0 n) (.l2i) 17 L S H cs ss := s_any k0_17
theorem s0_18 {n cs ss : Nat} {L : List Slot} {S : List Value} {H : AH} : orun code ret E0 0 (n + 1) (18, L, S, H, cs, ss) = ex ret E0 0 (orun code ret E0 0 n) (.i2b) 18 L S H cs ss := s_any k0_18
theorem s0_19 {n cs ss : Nat} {L : List Slot} {S : List Value} {H : AH} : orun code ret E0 0 (n + 1) (19, L, S, H, cs, ss) = ex ret E0 0 (orun code ret E0 0 n) (.bastore) 19 L S H cs ss := s_any k0_19
theorem s0_20 {n cs ss : Nat} {L : List Slot} {S : List Value} {H : AH} : orun code ret E0 0 (n + 1) (20, L, S, H, cs, ss) = (gA L 3).bind fun v => orun code ret E0 0 n (21, L, v :: S, H, cs, ss) := s_any k0_20
theorem s0_21 {n cs ss : Nat} {L : List Slot} {S : List Value} {H : AH} : orun code ret E0 0 (n + 1) (21, L, S, H, cs, ss) = orun code ret E0 0 n (22, L, (.int 2 :: S), H, cs, ss) := s_any k0_21
theorem s0_22 {n cs ss : Nat} {L : List Slot} {S : List Value} {H : AH} : orun code ret E0 0 (n + 1) (22, L, S, H, cs, ss) = (gL L 0).bind fun v => orun code ret E0 0 n (23, L, .long v :: S, H, cs, ss) := s_any k0_22
theorem s0_23 {n cs ss : Nat} {L : List Slot} {S : List Value} {H : AH} : orun code ret E0 0 (n + 1) (23, L, S, H, cs, ss) = orun code ret E0 0 n (25, L, (.int 16 :: S), H, cs, ss) := s_any k0_23
theorem s0_25 {n cs ss : Nat} {L : List Slot} {S : List Value} {H : AH} : orun code ret E0 0 (n + 1) (25, L, S, H, cs, ss) = ex ret E0 0 (orun code ret E0 0 n) (.lushr) 25 L S H cs ss := s_any k0_25
theorem s0_26 {n cs ss : Nat} {L : List Slot} {S : List Value} {H : AH} : orun code ret E0 0 (n + 1) (26, L, S, H, cs, ss) = ex ret E0 0 (orun code ret E0 0 n) (.l2i) 26 L S H cs ss := s_any k0_26
theorem s0_27 {n cs ss : Nat} {L : List Slot} {S : List Value} {H : AH} : orun code ret E0 0 (n + 1) (27, L, S, H, cs, ss) = ex ret E0 0 (orun code ret E0 0 n) (.i2b) 27 L S H cs ss := s_any k0_27
theorem s0_28 {n cs ss : Nat} {L : List Slot} {S : List Value} {H : AH} : orun code ret E0 0 (n + 1) (28, L, S, H, cs, ss) = ex ret E0 0 (orun code ret E0 0 n) (.bastore) 28 L S H cs ss := s_any k0_28
theorem s0_29 {n cs ss : Nat} {L : List Slot} {S : List Value} {H : AH} : orun code ret E0 0 (n + 1) (29, L, S, H, cs, ss) = (gA L 3).bind fun v => orun code ret E0 0 n (30, L, v :: S, H, cs, ss) := s_any k0_29
theorem s0_30 {n cs ss : Nat} {L : List Slot} {S : List Value} {H : AH} : orun code ret E0 0 (n + 1) (30, L, S, H, cs, ss) = orun code ret E0 0 n (31, L, (.int 3 :: S), H, cs, ss) := s_any k0_30
theorem s0_31 {n cs ss : Nat} {L : List Slot} {S : List Value} {H : AH} : orun code ret E0 0 (n + 1) (31, L, S, H, cs, ss) = (gL L 0).bind fun v => orun code ret E0 0 n (32, L, .long v :: S, H, cs, ss) := s_any k0_31
theorem s0_32 {n cs ss : Nat} {L : List Slot} {S : List Value} {H : AH} : orun code ret E0 0 (n + 1) (32, L, S, H, cs, ss) = orun code ret E0 0 n (34, L, (.int 24 :: S), H, cs, ss) := s_any k0_32
theorem s0_34 {n cs ss : Nat} {L : List Slot} {S : List Value} {H : AH} : orun code ret E0 0 (n + 1) (34, L, S, H, cs, ss) = ex ret E0 0 (orun code ret E0 0 n) (.lushr) 34 L S H cs ss := s_any k0_34
theorem s0_35 {n cs ss : Nat} {L : List Slot} {S : List Value} {H : AH} : orun code ret E0 0 (n + 1) (35, L, S, H, cs, ss) = ex ret E0 0 (orun code ret E0 0 n) (.l2i) 35 L S H cs ss := s_any k0_35
theorem s0_36 {n cs ss : Nat} {L : List Slot} {S : List Value} {H : AH} : orun code ret E0 0 (n + 1) (36, L, S, H, cs, ss) = ex ret E0 0 (orun code ret E0 0 n) (.i2b) 36 L S H cs ss := s_any k0_36
theorem s0_37 {n cs ss : Nat} {L : List Slot} {S : List Value} {H : AH} : orun code ret E0 0 (n + 1) (37, L, S, H, cs, ss) = ex ret E0 0 (orun code ret E0 0 n) (.bastore) 37 L S H cs ss := s_any k0_37
theorem s0_38 {n cs ss : Nat} {L : List Slot} {S : List Value} {H : AH} : orun code ret E0 0 (n + 1) (38, L, S, H, cs, ss) = (gA L 3).bind fun v => orun code ret E0 0 n (39, L, v :: S, H, cs, ss) := s_any k0_38
theorem s0_39 {n cs ss : Nat} {L : List Slot} {S : List Value} {H : AH} : orun code ret E0 0 (n + 1) (39, L, S, H, cs, ss) = orun code ret E0 0 n (40, L, (.int 4 :: S), H, cs, ss) := s_any k0_39
theorem s0_40 {n cs ss : Nat} {L : List Slot} {S : List Value} {H : AH} : orun code ret E0 0 (n + 1) (40, L, S, H, cs, ss) = (gL L 0).bind fun v => orun code ret E0 0 n (41, L, .long v :: S, H, cs, ss) := s_any k0_40
theorem s0_41 {n cs ss : Nat} {L : List Slot} {S : List Value} {H : AH} : orun code ret E0 0 (n + 1) (41, L, S, H, cs, ss) = orun code ret E0 0 n (43, L, (.int 32 :: S), H, cs, ss) := s_any k0_41
theorem s0_43 {n cs ss : Nat} {L : List Slot} {S : List Value} {H : AH} : orun code ret E0 0 (n + 1) (43, L, S, H, cs, ss) = ex ret E0 0 (orun code ret E0 0 n) (.lushr) 43 L S H cs ss := s_any k0_43
theorem s0_44 {n cs ss : Nat} {L : List Slot} {S : List Value} {H : AH} : orun code ret E0 0 (n + 1) (44, L, S, H, cs, ss) = ex ret E0 0 (orun code ret E0 0 n) (.l2i) 44 L S H cs ss := s_any k0_44
theorem s0_45 {n cs ss : Nat} {L : List Slot} {S : List Value} {H : AH} : orun code ret E0 0 (n + 1) (45, L, S, H, cs, ss) = ex ret E0 0 (orun code ret E0 0 n) (.i2b) 45 L S H cs ss := s_any k0_45
theorem s0_46 {n cs ss : Nat} {L : List Slot} {S : List Value} {H : AH} : orun code ret E0 0 (n + 1) (46, L, S, H, cs, ss) = ex ret E0 0 (orun code ret E0 0 n) (.bastore) 46 L S H cs ss := s_any k0_46
theorem s0_47 {n cs ss : Nat} {L : List Slot} {S : List Value} {H : AH} : orun code ret E0 0 (n + 1) (47, L, S, H, cs, ss) = (gA L 3).bind fun v => orun code ret E0 0 n (48, L, v :: S, H, cs, ss) := s_any k0_47
theorem s0_48 {n cs ss : Nat} {L : List Slot} {S : List Value} {H : AH} : orun code ret E0 0 (n + 1) (48, L, S, H, cs, ss) = orun code ret E0 0 n (49, L, (.int 5 :: S), H, cs, ss) := s_any k0_48
theorem s0_49 {n cs ss : Nat} {L : List Slot} {S : List Value} {H : AH} : orun code ret E0 0 (n + 1) (49, L, S, H, cs, ss) = (gL L 0).bind fun v => orun code ret E0 0 n (50, L, .long v :: S, H, cs, ss) := s_any k0_49
theorem s0_50 {n cs ss : Nat} {L : List Slot} {S : List Value} {H : AH} : orun code ret E0 0 (n + 1) (50, L, S, H, cs, ss) = orun code ret E0 0 n (52, L, (.int 40 :: S), H, cs, ss) := s_any k0_50
theorem s0_52 {n cs ss : Nat} {L : List Slot} {S : List Value} {H : AH} : orun code ret E0 0 (n + 1) (52, L, S, H, cs, ss) = ex ret E0 0 (orun code ret E0 0 n) (.lushr) 52 L S H cs ss := s_any k0_52
theorem s0_53 {n cs ss : Nat} {L : List Slot} {S : List Value} {H : AH} : orun code ret E0 0 (n + 1) (53, L, S, H, cs, ss) = ex ret E0 0 (orun code ret E0 0 n) (.l2i) 53 L S H cs ss := s_any k0_53
theorem s0_54 {n cs ss : Nat} {L : List Slot} {S : List Value} {H : AH} : orun code ret E0 0 (n + 1) (54, L, S, H, cs, ss) = ex ret E0 0 (orun code ret E0 0 n) (.i2b) 54 L S H cs ss := s_any k0_54
theorem s0_55 {n cs ss : Nat} {L : List Slot} {S : List Value} {H : AH} : orun code ret E0 0 (n + 1) (55, L, S, H, cs, ss) = ex ret E0 0 (orun code ret E0 0 n) (.bastore) 55 L S H cs ss := s_any k0_55
theorem s0_56 {n cs ss : Nat} {L : List Slot} {S : List Value} {H : AH} : orun code ret E0 0 (n + 1) (56, L, S, H, cs, ss) = (gA L 3).bind fun v => orun code ret E0 0 n (57, L, v :: S, H, cs, ss) := s_any k0_56
theorem s0_57 {n cs ss : Nat} {L : List Slot} {S : List Value} {H : AH} : orun code ret E0 0 (n + 1) (57, L, S, H, cs, ss) = orun code ret E0 0 n (59, L, (.int 6 :: S), H, cs, ss) := s_any k0_57
theorem s0_59 {n cs ss : Nat} {L : List Slot} {S : List Value} {H : AH} : orun code ret E0 0 (n + 1) (59, L, S, H, cs, ss) = (gL L 0).bind fun v => orun code ret E0 0 n (60, L, .long v :: S, H, cs, ss) := s_any k0_59
theorem s0_60 {n cs ss : Nat} {L : List Slot} {S : List Value} {H : AH} : orun code ret E0 0 (n + 1) (60, L, S, H, cs, ss) = orun code ret E0 0 n (62, L, (.int 48 :: S), H, cs, ss) := s_any k0_60
theorem s0_62 {n cs ss : Nat} {L : List Slot} {S : List Value} {H : AH} : orun code ret E0 0 (n + 1) (62, L, S, H, cs, ss) = ex ret E0 0 (orun code ret E0 0 n) (.lushr) 62 L S H cs ss := s_any k0_62
theorem s0_63 {n cs ss : Nat} {L : List Slot} {S : List Value} {H : AH} : orun code ret E0 0 (n + 1) (63, L, S, H, cs, ss) = ex ret E0 0 (orun code ret E0 0 n) (.l2i) 63 L S H cs ss := s_any k0_63
theorem s0_64 {n cs ss : Nat} {L : List Slot} {S : List Value} {H : AH} : orun code ret E0 0 (n + 1) (64, L, S, H, cs, ss) = ex ret E0 0 (orun code ret E0 0 n) (.i2b) 64 L S H cs ss := s_any k0_64
theorem s0_65 {n cs ss : Nat} {L : List Slot} {S : List Value} {H : AH} : orun code ret E0 0 (n + 1) (65, L, S, H, cs, ss) = ex ret E0 0 (orun code ret E0 0 n) (.bastore) 65 L S H cs ss := s_any k0_65
theorem s0_66 {n cs ss : Nat} {L : List Slot} {S : List Value} {H : AH} : orun code ret E0 0 (n + 1) (66, L, S, H, cs, ss) = (gA L 3).bind fun v => orun code ret E0 0 n (67, L, v :: S, H, cs, ss) := s_any k0_66
theorem s0_67 {n cs ss : Nat} {L : List Slot} {S : List Value} {H : AH} : orun code ret E0 0 (n + 1) (67, L, S, H, cs, ss) = orun code ret E0 0 n (69, L, (.int 7 :: S), H, cs, ss) := s_any k0_67
theorem s0_69 {n cs ss : Nat} {L : List Slot} {S : List Value} {H : AH} : orun code ret E0 0 (n + 1) (69, L, S, H, cs, ss) = (gL L 0).bind fun v => orun code ret E0 0 n (70, L, .long v :: S, H, cs, ss) := s_any k0_69
theorem s0_70 {n cs ss : Nat} {L : List Slot} {S : List Value} {H : AH} : orun code ret E0 0 (n + 1) (70, L, S, H, cs, ss) = orun code ret E0 0 n (72, L, (.int 56 :: S), H, cs, ss) := s_any k0_70
theorem s0_72 {n cs ss : Nat} {L : List Slot} {S : List Value} {H : AH} : orun code ret E0 0 (n + 1) (72, L, S, H, cs, ss) = ex ret E0 0 (orun code ret E0 0 n) (.lushr) 72 L S H cs ss := s_any k0_72
theorem s0_73 {n cs ss : Nat} {L : List Slot} {S : List Value} {H : AH} : orun code ret E0 0 (n + 1) (73, L, S, H, cs, ss) = ex ret E0 0 (orun code ret E0 0 n) (.l2i) 73 L S H cs ss := s_any k0_73
theorem s0_74 {n cs ss : Nat} {L : List Slot} {S : List Value} {H : AH} : orun code ret E0 0 (n + 1) (74, L, S, H, cs, ss) = ex ret E0 0 (orun code ret E0 0 n) (.i2b) 74 L S H cs ss := s_any k0_74
theorem s0_75 {n cs ss : Nat} {L : List Slot} {S : List Value} {H : AH} : orun code ret E0 0 (n + 1) (75, L, S, H, cs, ss) = ex ret E0 0 (orun code ret E0 0 n) (.bastore) 75 L S H cs ss := s_any k0_75
theorem s0_76 {n cs ss : Nat} {L : List Slot} {S : List Value} {H : AH} : orun code ret E0 0 (n + 1) (76, L, S, H, cs, ss) = (gI L 2).bind fun v => orun code ret E0 0 n (77, L, .int v :: S, H, cs, ss) := s_any k0_76
theorem s0_77 {n cs ss : Nat} {L : List Slot} {S : List Value} {H : AH} : orun code ret E0 0 (n + 1) (77, L, S, H, cs, ss) = (aI (2147483647) S H cs ss).bind fun r => orun code ret E0 0 n (79, L, r.1, r.2.1, r.2.2.1, r.2.2.2) := s_any k0_77
theorem s0_79 {n cs ss : Nat} {L : List Slot} {S : List Value} {H : AH} : orun code ret E0 0 (n + 1) (79, L, S, H, cs, ss) = pI S fun y S => pI S fun x r => orun code ret E0 0 n (80, L, .int (x &&& y) :: r, H, cs, ss) := s_any k0_79
theorem s0_80 {n cs ss : Nat} {L : List Slot} {S : List Value} {H : AH} : orun code ret E0 0 (n + 1) (80, L, S, H, cs, ss) = orun code ret E0 0 n (82, L, (.int 9 :: S), H, cs, ss) := s_any k0_80
theorem s0_82 {n cs ss : Nat} {L : List Slot} {S : List Value} {H : AH} : orun code ret E0 0 (n + 1) (82, L, S, H, cs, ss) = ex ret E0 0 (orun code ret E0 0 n) (.irem) 82 L S H cs ss := s_any k0_82
theorem s0_83 {n cs ss : Nat} {L : List Slot} {S : List Value} {H : AH} : orun code ret E0 0 (n + 1) (83, L, S, H, cs, ss) = pI S fun x r => (st1 L 4 (.int x)).bind fun L' => orun code ret E0 0 n (85, L', r, H, cs, ss) := s_any k0_83
theorem s0_85 {n cs ss : Nat} {L : List Slot} {S : List Value} {H : AH} : orun code ret E0 0 (n + 1) (85, L, S, H, cs, ss) = orun code ret E0 0 n (86, L, (.int 0 :: S), H, cs, ss) := s_any k0_85
theorem s0_86 {n cs ss : Nat} {L : List Slot} {S : List Value} {H : AH} : orun code ret E0 0 (n + 1) (86, L, S, H, cs, ss) = pI S fun x r => (st1 L 5 (.int x)).bind fun L' => orun code ret E0 0 n (88, L', r, H, cs, ss) := s_any k0_86
theorem s0_88 {n cs ss : Nat} {L : List Slot} {S : List Value} {H : AH} : orun code ret E0 0 (n + 1) (88, L, S, H, cs, ss) = (gA L 3).bind fun v => orun code ret E0 0 n (89, L, v :: S, H, cs, ss) := s_any k0_88
theorem s0_89 {n cs ss : Nat} {L : List Slot} {S : List Value} {H : AH} : orun code ret E0 0 (n + 1) (89, L, S, H, cs, ss) = (gI L 4).bind fun v => orun code ret E0 0 n (91, L, .int v :: S, H, cs, ss) := s_any k0_89
theorem s0_91 {n cs ss : Nat} {L : List Slot} {S : List Value} {H : AH} : orun code ret E0 0 (n + 1) (91, L, S, H, cs, ss) = (gI L 5).bind fun v => orun code ret E0 0 n (93, L, .int v :: S, H, cs, ss) := s_any k0_91
theorem s0_93 {n cs ss : Nat} {L : List Slot} {S : List Value} {H : AH} : orun code ret E0 0 (n + 1) (93, L, S, H, cs, ss) = (aCall 3 6 16 128 0 0 F1 S H cs ss).bind fun r => orun code ret E0 0 n (96, L, r.1, r.2.1, r.2.2.1, r.2.2.2) := s_any k0_93
theorem s0_96 {n cs ss : Nat} {L : List Slot} {S : List Value} {H : AH} : orun code ret E0 0 (n + 1) (96, L, S, H, cs, ss) = pI S fun x r => (st1 L 5 (.int x)).bind fun L' => orun code ret E0 0 n (98, L', r, H, cs, ss) := s_any k0_96
theorem s0_98 {n cs ss : Nat} {L : List Slot} {S : List Value} {H : AH} : orun code ret E0 0 (n + 1) (98, L, S, H, cs, ss) = (gA L 3).bind fun v => orun code ret E0 0 n (99, L, v :: S, H, cs, ss) := s_any k0_98
theorem s0_99 {n cs ss : Nat} {L : List Slot} {S : List Value} {H : AH} : orun code ret E0 0 (n + 1) (99, L, S, H, cs, ss) = (gI L 4).bind fun v => orun code ret E0 0 n (101, L, .int v :: S, H, cs, ss) := s_any k0_99
theorem s0_101 {n cs ss : Nat} {L : List Slot} {S : List Value} {H : AH} : orun code ret E0 0 (n + 1) (101, L, S, H, cs, ss) = (gI L 5).bind fun v => orun code ret E0 0 n (103, L, .int v :: S, H, cs, ss) := s_any k0_101
theorem s0_103 {n cs ss : Nat} {L : List Slot} {S : List Value} {H : AH} : orun code ret E0 0 (n + 1) (103, L, S, H, cs, ss) = (aCall 3 6 16 128 0 0 F1 S H cs ss).bind fun r => orun code ret E0 0 n (106, L, r.1, r.2.1, r.2.2.1, r.2.2.2) := s_any k0_103
theorem s0_106 {n cs ss : Nat} {L : List Slot} {S : List Value} {H : AH} : orun code ret E0 0 (n + 1) (106, L, S, H, cs, ss) = pI S fun x r => (st1 L 5 (.int x)).bind fun L' => orun code ret E0 0 n (108, L', r, H, cs, ss) := s_any k0_106
theorem s0_108 {n cs ss : Nat} {L : List Slot} {S : List Value} {H : AH} : orun code ret E0 0 (n + 1) (108, L, S, H, cs, ss) = (gA L 3).bind fun v => orun code ret E0 0 n (109, L, v :: S, H, cs, ss) := s_any k0_108
theorem s0_109 {n cs ss : Nat} {L : List Slot} {S : List Value} {H : AH} : orun code ret E0 0 (n + 1) (109, L, S, H, cs, ss) = (gI L 4).bind fun v => orun code ret E0 0 n (111, L, .int v :: S, H, cs, ss) := s_any k0_109
theorem s0_111 {n cs ss : Nat} {L : List Slot} {S : List Value} {H : AH} : orun code ret E0 0 (n + 1) (111, L, S, H, cs, ss) = (gI L 5).bind fun v => orun code ret E0 0 n (113, L, .int v :: S, H, cs, ss) := s_any k0_111
theorem s0_113 {n cs ss : Nat} {L : List Slot} {S : List Value} {H : AH} : orun code ret E0 0 (n + 1) (113, L, S, H, cs, ss) = (aCall 3 6 16 128 0 0 F1 S H cs ss).bind fun r => orun code ret E0 0 n (116, L, r.1, r.2.1, r.2.2.1, r.2.2.2) := s_any k0_113
theorem s0_116 {n cs ss : Nat} {L : List Slot} {S : List Value} {H : AH} : orun code ret E0 0 (n + 1) (116, L, S, H, cs, ss) = pI S fun x r => (st1 L 5 (.int x)).bind fun L' => orun code ret E0 0 n (118, L', r, H, cs, ss) := s_any k0_116
theorem s0_118 {n cs ss : Nat} {L : List Slot} {S : List Value} {H : AH} : orun code ret E0 0 (n + 1) (118, L, S, H, cs, ss) = (gA L 3).bind fun v => orun code ret E0 0 n (119, L, v :: S, H, cs, ss) := s_any k0_118
theorem s0_119 {n cs ss : Nat} {L : List Slot} {S : List Value} {H : AH} : orun code ret E0 0 (n + 1) (119, L, S, H, cs, ss) = (gI L 4).bind fun v => orun code ret E0 0 n (121, L, .int v :: S, H, cs, ss) := s_any k0_119
theorem s0_121 {n cs ss : Nat} {L : List Slot} {S : List Value} {H : AH} : orun code ret E0 0 (n + 1) (121, L, S, H, cs, ss) = (gI L 5).bind fun v => orun code ret E0 0 n (123, L, .int v :: S, H, cs, ss) := s_any k0_121
theorem s0_123 {n cs ss : Nat} {L : List Slot} {S : List Value} {H : AH} : orun code ret E0 0 (n + 1) (123, L, S, H, cs, ss) = (aCall 3 6 16 128 0 0 F1 S H cs ss).bind fun r => orun code ret E0 0 n (126, L, r.1, r.2.1, r.2.2.1, r.2.2.2) := s_any k0_123
theorem s0_126 {n cs ss : Nat} {L : List Slot} {S : List Value} {H : AH} : orun code ret E0 0 (n + 1) (126, L, S, H, cs, ss) = pI S fun x r => (st1 L 5 (.int x)).bind fun L' => orun code ret E0 0 n (128, L', r, H, cs, ss) := s_any k0_126
theorem s0_128 {n cs ss : Nat} {L : List Slot} {S : List Value} {H : AH} : orun code ret E0 0 (n + 1) (128, L, S, H, cs, ss) = (gA L 3).bind fun v => orun code ret E0 0 n (129, L, v :: S, H, cs, ss) := s_any k0_128
theorem s0_129 {n cs ss : Nat} {L : List Slot} {S : List Value} {H : AH} : orun code ret E0 0 (n + 1) (129, L, S, H, cs, ss) = (gI L 4).bind fun v => orun code ret E0 0 n (131, L, .int v :: S, H, cs, ss) := s_any k0_129
theorem s0_131 {n cs ss : Nat} {L : List Slot} {S : List Value} {H : AH} : orun code ret E0 0 (n + 1) (131, L, S, H, cs, ss) = (gI L 5).bind fun v => orun code ret E0 0 n (133, L, .int v :: S, H, cs, ss) := s_any k0_131
theorem s0_133 {n cs ss : Nat} {L : List Slot} {S : List Value} {H : AH} : orun code ret E0 0 (n + 1) (133, L, S, H, cs, ss) = (aCall 3 6 16 128 0 0 F1 S H cs ss).bind fun r => orun code ret E0 0 n (136, L, r.1, r.2.1, r.2.2.1, r.2.2.2) := s_any k0_133
theorem s0_136 {n cs ss : Nat} {L : List Slot} {S : List Value} {H : AH} : orun code ret E0 0 (n + 1) (136, L, S, H, cs, ss) = pI S fun x r => (st1 L 5 (.int x)).bind fun L' => orun code ret E0 0 n (138, L', r, H, cs, ss) := s_any k0_136
theorem s0_138 {n cs ss : Nat} {L : List Slot} {S : List Value} {H : AH} : orun code ret E0 0 (n + 1) (138, L, S, H, cs, ss) = (gA L 3).bind fun v => orun code ret E0 0 n (139, L, v :: S, H, cs, ss) := s_any k0_138
theorem s0_139 {n cs ss : Nat} {L : List Slot} {S : List Value} {H : AH} : orun code ret E0 0 (n + 1) (139, L, S, H, cs, ss) = (gI L 4).bind fun v => orun code ret E0 0 n (141, L, .int v :: S, H, cs, ss) := s_any k0_139
theorem s0_141 {n cs ss : Nat} {L : List Slot} {S : List Value} {H : AH} : orun code ret E0 0 (n + 1) (141, L, S, H, cs, ss) = (gI L 5).bind fun v => orun code ret E0 0 n (143, L, .int v :: S, H, cs, ss) := s_any k0_141
theorem s0_143 {n cs ss : Nat} {L : List Slot} {S : List Value} {H : AH} : orun code ret E0 0 (n + 1) (143, L, S, H, cs, ss) = (aCall 3 6 16 128 0 0 F1 S H cs ss).bind fun r => orun code ret E0 0 n (146, L, r.1, r.2.1, r.2.2.1, r.2.2.2) := s_any k0_143
theorem s0_146 {n cs ss : Nat} {L : List Slot} {S : List Value} {H : AH} : orun code ret E0 0 (n + 1) (146, L, S, H, cs, ss) = pI S fun x r => (st1 L 5 (.int x)).bind fun L' => orun code ret E0 0 n (148, L', r, H, cs, ss) := s_any k0_146
theorem s0_148 {n cs ss : Nat} {L : List Slot} {S : List Value} {H : AH} : orun code ret E0 0 (n + 1) (148, L, S, H, cs, ss) = (gA L 3).bind fun v => orun code ret E0 0 n (149, L, v :: S, H, cs, ss) := s_any k0_148
theorem s0_149 {n cs ss : Nat} {L : List Slot} {S : List Value} {H : AH} : orun code ret E0 0 (n + 1) (149, L, S, H, cs, ss) = (gI L 4).bind fun v => orun code ret E0 0 n (151, L, .int v :: S, H, cs, ss) := s_any k0_149
theorem s0_151 {n cs ss : Nat} {L : List Slot} {S : List Value} {H : AH} : orun code ret E0 0 (n + 1) (151, L, S, H, cs, ss) = (gI L 5).bind fun v => orun code ret E0 0 n (153, L, .int v :: S, H, cs, ss) := s_any k0_151
theorem s0_153 {n cs ss : Nat} {L : List Slot} {S : List Value} {H : AH} : orun code ret E0 0 (n + 1) (153, L, S, H, cs, ss) = (aCall 3 6 16 128 0 0 F1 S H cs ss).bind fun r => orun code ret E0 0 n (156, L, r.1, r.2.1, r.2.2.1, r.2.2.2) := s_any k0_153
theorem s0_156 {n cs ss : Nat} {L : List Slot} {S : List Value} {H : AH} : orun code ret E0 0 (n + 1) (156, L, S, H, cs, ss) = pI S fun x r => (st1 L 5 (.int x)).bind fun L' => orun code ret E0 0 n (158, L', r, H, cs, ss) := s_any k0_156
theorem s0_158 {n cs ss : Nat} {L : List Slot} {S : List Value} {H : AH} : orun code ret E0 0 (n + 1) (158, L, S, H, cs, ss) = (gA L 3).bind fun v => orun code ret E0 0 n (159, L, v :: S, H, cs, ss) := s_any k0_158
theorem s0_159 {n cs ss : Nat} {L : List Slot} {S : List Value} {H : AH} : orun code ret E0 0 (n + 1) (159, L, S, H, cs, ss) = (gI L 4).bind fun v => orun code ret E0 0 n (161, L, .int v :: S, H, cs, ss) := s_any k0_159
theorem s0_161 {n cs ss : Nat} {L : List Slot} {S : List Value} {H : AH} : orun code ret E0 0 (n + 1) (161, L, S, H, cs, ss) = (gI L 5).bind fun v => orun code ret E0 0 n (163, L, .int v :: S, H, cs, ss) := s_any k0_161
theorem s0_163 {n cs ss : Nat} {L : List Slot} {S : List Value} {H : AH} : orun code ret E0 0 (n + 1) (163, L, S, H, cs, ss) = (aCall 3 6 16 128 0 0 F1 S H cs ss).bind fun r => orun code ret E0 0 n (166, L, r.1, r.2.1, r.2.2.1, r.2.2.2) := s_any k0_163
theorem s0_166 {n cs ss : Nat} {L : List Slot} {S : List Value} {H : AH} : orun code ret E0 0 (n + 1) (166, L, S, H, cs, ss) = pI S fun x r => (st1 L 5 (.int x)).bind fun L' => orun code ret E0 0 n (168, L', r, H, cs, ss) := s_any k0_166
theorem s0_168 {n cs ss : Nat} {L : List Slot} {S : List Value} {H : AH} : orun code ret E0 0 (n + 1) (168, L, S, H, cs, ss) = (gI L 5).bind fun v => orun code ret E0 0 n (170, L, .int v :: S, H, cs, ss) := s_any k0_168
theorem s0_170 {n cs ss : Nat} {L : List Slot} {S : List Value} {H : AH} : orun code ret E0 0 (n + 1) (170, L, S, H, cs, ss) = (gI L 4).bind fun v => orun code ret E0 0 n (172, L, .int v :: S, H, cs, ss) := s_any k0_170
theorem s0_172 {n cs ss : Nat} {L : List Slot} {S : List Value} {H : AH} : orun code ret E0 0 (n + 1) (172, L, S, H, cs, ss) = pI S fun y S => pI S fun x r => if x = y then orun code ret E0 0 n (175, L, r, H, cs, ss) else orun code ret E0 0 n (179, L, r, H, cs, ss) := s_icmpN (Q := fun x y => x = y) (fun _ _ => h_ne) k0_172 (by decide) (by decide)
theorem s0_175 {n cs ss : Nat} {L : List Slot} {S : List Value} {H : AH} : orun code ret E0 0 (n + 1) (175, L, S, H, cs, ss) = orun code ret E0 0 n (176, L, (.int 1 :: S), H, cs, ss) := s_any k0_175
theorem s0_176 {n cs ss : Nat} {L : List Slot} {S : List Value} {H : AH} : orun code ret E0 0 (n + 1) (176, L, S, H, cs, ss) = orun code ret E0 0 n (180, L, S, H, cs, ss) := s_goto k0_176 (by decide) (by decide)
theorem s0_179 {n cs ss : Nat} {L : List Slot} {S : List Value} {H : AH} : orun code ret E0 0 (n + 1) (179, L, S, H, cs, ss) = orun code ret E0 0 n (180, L, (.int 0 :: S), H, cs, ss) := s_any k0_179
theorem s0_180 {n cs ss : Nat} {L : List Slot} {S : List Value} {H : AH} : orun code ret E0 0 (n + 1) (180, L, S, H, cs, ss) = pI S fun x r => (st1 L 6 (.int x)).bind fun L' => orun code ret E0 0 n (182, L', r, H, cs, ss) := s_any k0_180
theorem s0_182 {n cs ss : Nat} {L : List Slot} {S : List Value} {H : AH} : orun code ret E0 0 (n + 1) (182, L, S, H, cs, ss) = (gA L 3).bind fun v => orun code ret E0 0 n (183, L, v :: S, H, cs, ss) := s_any k0_182
theorem s0_183 {n cs ss : Nat} {L : List Slot} {S : List Value} {H : AH} : orun code ret E0 0 (n + 1) (183, L, S, H, cs, ss) = (gI L 4).bind fun v => orun code ret E0 0 n (185, L, .int v :: S, H, cs, ss) := s_any k0_183
theorem s0_185 {n cs ss : Nat} {L : List Slot} {S : List Value} {H : AH} : orun code ret E0 0 (n + 1) (185, L, S, H, cs, ss) = (aCall 2 6 16 128 0 0 F3 S H cs ss).bind fun r => orun code ret E0 0 n (188, L, r.1, r.2.1, r.2.2.1, r.2.2.2) := s_any k0_185
theorem s0_188 {n cs ss : Nat} {L : List Slot} {S : List Value} {H : AH} : orun code ret E0 0 (n + 1) (188, L, S, H, cs, ss) = (gI L 6).bind fun v => orun code ret E0 0 n (190, L, .int v :: S, H, cs, ss) := s_any k0_188
theorem s0_190 {n cs ss : Nat} {L : List Slot} {S : List Value} {H : AH} : orun code ret E0 0 (n + 1) (190, L, S, H, cs, ss) = pI S fun y S => pI S fun x r => if x = y then orun code ret E0 0 n (193, L, r, H, cs, ss) else orun code ret E0 0 n (197, L, r, H, cs, ss) := s_icmpN (Q := fun x y => x = y) (fun _ _ => h_ne) k0_190 (by decide) (by decide)
theorem s0_193 {n cs ss : Nat} {L : List Slot} {S : List Value} {H : AH} : orun code ret E0 0 (n + 1) (193, L, S, H, cs, ss) = orun code ret E0 0 n (194, L, (.int 1 :: S), H, cs, ss) := s_any k0_193
theorem s0_194 {n cs ss : Nat} {L : List Slot} {S : List Value} {H : AH} : orun code ret E0 0 (n + 1) (194, L, S, H, cs, ss) = orun code ret E0 0 n (198, L, S, H, cs, ss) := s_goto k0_194 (by decide) (by decide)
theorem s0_197 {n cs ss : Nat} {L : List Slot} {S : List Value} {H : AH} : orun code ret E0 0 (n + 1) (197, L, S, H, cs, ss) = orun code ret E0 0 n (198, L, (.int 0 :: S), H, cs, ss) := s_any k0_197
theorem s0_198 {n cs ss : Nat} {L : List Slot} {S : List Value} {H : AH} : orun code ret E0 0 (n + 1) (198, L, S, H, cs, ss) = pI S fun z _ => some (some (.int (z &&& 1)), H) := s_any k0_198
theorem t0_0 {go : Nat → St → Option ORes} (hgo : go = orun code ret E0 0) {n cs ss : Nat} {L : List Slot} {S : List Value} {H : AH} {q : Option ORes → Prop} (h : Rsq (go n (2, L, (.int 8 :: S), H, cs, ss)) q) : Rsq (go (n + 1) (0, L, S, H, cs, ss)) q := by
  subst hgo
  exact res_of s0_0 h
theorem u0_2 {go : Nat → St → Option ORes} (hgo : go = orun code ret E0 0) {n cs ss : Nat} {L : List Slot} {S : List Value} {H : AH} : go (n + 1) (2, L, S, H, cs, ss) = (aArr .byte 16 128 S H cs ss).bind fun r => go n (4, L, r.1, r.2.1, r.2.2.1, r.2.2.2) := by
  subst hgo
  exact s0_2
theorem t0_4 {go : Nat → St → Option ORes} (hgo : go = orun code ret E0 0) {n cs ss : Nat} {l0 l1 l2 l3 l4 l5 l6 : Slot} {S : List Value} {H : AH} {q : Option ORes → Prop} {v : Value} (hv : isA v = true) (hk : so l3 = true) (h : Rsq (go n (5, [l0, l1, l2, .val v, l4, l5, l6], S, H, cs, ss)) q) : Rsq (go (n + 1) (4, [l0, l1, l2, l3, l4, l5, l6], (v :: S), H, cs, ss)) q := by
  subst hgo
  refine res_of s0_4 ?_
  rw [pA_isA hv, st1_so (L := [l0, l1, l2, l3, l4, l5, l6]) (k := 3) (l := l3) rfl hk]
  exact h
theorem t0_5 {go : Nat → St → Option ORes} (hgo : go = orun code ret E0 0) {n cs ss : Nat} {l0 l1 l2 l4 l5 l6 : Slot} {S : List Value} {H : AH} {q : Option ORes → Prop} {v : Value} (hv : isA v = true) (h : Rsq (go n (6, [l0, l1, l2, .val v, l4, l5, l6], (v :: S), H, cs, ss)) q) : Rsq (go (n + 1) (5, [l0, l1, l2, .val v, l4, l5, l6], S, H, cs, ss)) q := by
  subst hgo
  refine res_of s0_5 ?_
  rw [gA_isA (L := [l0, l1, l2, .val v, l4, l5, l6]) (k := 3) (v := v) rfl hv]
  exact h
theorem t0_6 {go : Nat → St → Option ORes} (hgo : go = orun code ret E0 0) {n cs ss : Nat} {L : List Slot} {S : List Value} {H : AH} {q : Option ORes → Prop} (h : Rsq (go n (7, L, (.int 0 :: S), H, cs, ss)) q) : Rsq (go (n + 1) (6, L, S, H, cs, ss)) q := by
  subst hgo
  exact res_of s0_6 h
theorem t0_7 {go : Nat → St → Option ORes} (hgo : go = orun code ret E0 0) {n cs ss : Nat} {l1 l2 l3 l4 l5 l6 : Slot} {S : List Value} {H : AH} {q : Option ORes → Prop} {v : Int64} (h : Rsq (go n (8, [.val (.long v), l1, l2, l3, l4, l5, l6], (.long v :: S), H, cs, ss)) q) : Rsq (go (n + 1) (7, [.val (.long v), l1, l2, l3, l4, l5, l6], S, H, cs, ss)) q := by
  subst hgo
  exact res_of s0_7 h
theorem t0_8 {go : Nat → St → Option ORes} (hgo : go = orun code ret E0 0) {n cs ss : Nat} {L : List Slot} {S : List Value} {H : AH} {q : Option ORes → Prop} {x : Int64} (h : Rsq (go n (9, L, (.int x.toInt32 :: S), H, cs, ss)) q) : Rsq (go (n + 1) (8, L, (.long x :: S), H, cs, ss)) q := by
  subst hgo
  exact res_of s0_8 h
theorem t0_9 {go : Nat → St → Option ORes} (hgo : go = orun code ret E0 0) {n cs ss : Nat} {L : List Slot} {S : List Value} {H : AH} {q : Option ORes → Prop} {x : Int32} (h : Rsq (go n (10, L, (.int (x.toInt8.toInt32) :: S), H, cs, ss)) q) : Rsq (go (n + 1) (9, L, (.int x :: S), H, cs, ss)) q := by
  subst hgo
  exact res_of s0_9 h
theorem u0_10 {go : Nat → St → Option ORes} (hgo : go = orun code ret E0 0) {n cs ss : Nat} {L : List Slot} {S : List Value} {H : AH} : go (n + 1) (10, L, S, H, cs, ss) = ex ret E0 0 (go n) (.bastore) 10 L S H cs ss := by
  subst hgo
  exact s0_10
theorem t0_11 {go : Nat → St → Option ORes} (hgo : go = orun code ret E0 0) {n cs ss : Nat} {l0 l1 l2 l4 l5 l6 : Slot} {S : List Value} {H : AH} {q : Option ORes → Prop} {v : Value} (hv : isA v = true) (h : Rsq (go n (12, [l0, l1, l2, .val v, l4, l5, l6], (v :: S), H, cs, ss)) q) : Rsq (go (n + 1) (11, [l0, l1, l2, .val v, l4, l5, l6], S, H, cs, ss)) q := by
  subst hgo
  refine res_of s0_11 ?_
  rw [gA_isA (L := [l0, l1, l2, .val v, l4, l5, l6]) (k := 3) (v := v) rfl hv]
  exact h
theorem t0_12 {go : Nat → St → Option ORes} (hgo : go = orun code ret E0 0) {n cs ss : Nat} {L : List Slot} {S : List Value} {H : AH} {q : Option ORes → Prop} (h : Rsq (go n (13, L, (.int 1 :: S), H, cs, ss)) q) : Rsq (go (n + 1) (12, L, S, H, cs, ss)) q := by
  subst hgo
  exact res_of s0_12 h
theorem t0_13 {go : Nat → St → Option ORes} (hgo : go = orun code ret E0 0) {n cs ss : Nat} {l1 l2 l3 l4 l5 l6 : Slot} {S : List Value} {H : AH} {q : Option ORes → Prop} {v : Int64} (h : Rsq (go n (14, [.val (.long v), l1, l2, l3, l4, l5, l6], (.long v :: S), H, cs, ss)) q) : Rsq (go (n + 1) (13, [.val (.long v), l1, l2, l3, l4, l5, l6], S, H, cs, ss)) q := by
  subst hgo
  exact res_of s0_13 h
theorem t0_14 {go : Nat → St → Option ORes} (hgo : go = orun code ret E0 0) {n cs ss : Nat} {L : List Slot} {S : List Value} {H : AH} {q : Option ORes → Prop} (h : Rsq (go n (16, L, (.int 8 :: S), H, cs, ss)) q) : Rsq (go (n + 1) (14, L, S, H, cs, ss)) q := by
  subst hgo
  exact res_of s0_14 h
theorem t0_16 {go : Nat → St → Option ORes} (hgo : go = orun code ret E0 0) {n cs ss : Nat} {L : List Slot} {S : List Value} {H : AH} {q : Option ORes → Prop} {x : Int64} {y : Int32} (h : Rsq (go n (17, L, (.long ((x.toUInt64 >>> (y &&& 0x3f).toInt64.toUInt64).toInt64) :: S), H, cs, ss)) q) : Rsq (go (n + 1) (16, L, (.int y :: .long x :: S), H, cs, ss)) q := by
  subst hgo
  exact res_of s0_16 h
theorem t0_17 {go : Nat → St → Option ORes} (hgo : go = orun code ret E0 0) {n cs ss : Nat} {L : List Slot} {S : List Value} {H : AH} {q : Option ORes → Prop} {x : Int64} (h : Rsq (go n (18, L, (.int x.toInt32 :: S), H, cs, ss)) q) : Rsq (go (n + 1) (17, L, (.long x :: S), H, cs, ss)) q := by
  subst hgo
  exact res_of s0_17 h
theorem t0_18 {go : Nat → St → Option ORes} (hgo : go = orun code ret E0 0) {n cs ss : Nat} {L : List Slot} {S : List Value} {H : AH} {q : Option ORes → Prop} {x : Int32} (h : Rsq (go n (19, L, (.int (x.toInt8.toInt32) :: S), H, cs, ss)) q) : Rsq (go (n + 1) (18, L, (.int x :: S), H, cs, ss)) q := by
  subst hgo
  exact res_of s0_18 h
theorem u0_19 {go : Nat → St → Option ORes} (hgo : go = orun code ret E0 0) {n cs ss : Nat} {L : List Slot} {S : List Value} {H : AH} : go (n + 1) (19, L, S, H, cs, ss) = ex ret E0 0 (go n) (.bastore) 19 L S H cs ss := by
  subst hgo
  exact s0_19
theorem t0_20 {go : Nat → St → Option ORes} (hgo : go = orun code ret E0 0) {n cs ss : Nat} {l0 l1 l2 l4 l5 l6 : Slot} {S : List Value} {H : AH} {q : Option ORes → Prop} {v : Value} (hv : isA v = true) (h : Rsq (go n (21, [l0, l1, l2, .val v, l4, l5, l6], (v :: S), H, cs, ss)) q) : Rsq (go (n + 1) (20, [l0, l1, l2, .val v, l4, l5, l6], S, H, cs, ss)) q := by
  subst hgo
  refine res_of s0_20 ?_
  rw [gA_isA (L := [l0, l1, l2, .val v, l4, l5, l6]) (k := 3) (v := v) rfl hv]
  exact h
theorem t0_21 {go : Nat → St → Option ORes} (hgo : go = orun code ret E0 0) {n cs ss : Nat} {L : List Slot} {S : List Value} {H : AH} {q : Option ORes → Prop} (h : Rsq (go n (22, L, (.int 2 :: S), H, cs, ss)) q) : Rsq (go (n + 1) (21, L, S, H, cs, ss)) q := by
  subst hgo
  exact res_of s0_21 h
theorem t0_22 {go : Nat → St → Option ORes} (hgo : go = orun code ret E0 0) {n cs ss : Nat} {l1 l2 l3 l4 l5 l6 : Slot} {S : List Value} {H : AH} {q : Option ORes → Prop} {v : Int64} (h : Rsq (go n (23, [.val (.long v), l1, l2, l3, l4, l5, l6], (.long v :: S), H, cs, ss)) q) : Rsq (go (n + 1) (22, [.val (.long v), l1, l2, l3, l4, l5, l6], S, H, cs, ss)) q := by
  subst hgo
  exact res_of s0_22 h
theorem t0_23 {go : Nat → St → Option ORes} (hgo : go = orun code ret E0 0) {n cs ss : Nat} {L : List Slot} {S : List Value} {H : AH} {q : Option ORes → Prop} (h : Rsq (go n (25, L, (.int 16 :: S), H, cs, ss)) q) : Rsq (go (n + 1) (23, L, S, H, cs, ss)) q := by
  subst hgo
  exact res_of s0_23 h
theorem t0_25 {go : Nat → St → Option ORes} (hgo : go = orun code ret E0 0) {n cs ss : Nat} {L : List Slot} {S : List Value} {H : AH} {q : Option ORes → Prop} {x : Int64} {y : Int32} (h : Rsq (go n (26, L, (.long ((x.toUInt64 >>> (y &&& 0x3f).toInt64.toUInt64).toInt64) :: S), H, cs, ss)) q) : Rsq (go (n + 1) (25, L, (.int y :: .long x :: S), H, cs, ss)) q := by
  subst hgo
  exact res_of s0_25 h
theorem t0_26 {go : Nat → St → Option ORes} (hgo : go = orun code ret E0 0) {n cs ss : Nat} {L : List Slot} {S : List Value} {H : AH} {q : Option ORes → Prop} {x : Int64} (h : Rsq (go n (27, L, (.int x.toInt32 :: S), H, cs, ss)) q) : Rsq (go (n + 1) (26, L, (.long x :: S), H, cs, ss)) q := by
  subst hgo
  exact res_of s0_26 h
theorem t0_27 {go : Nat → St → Option ORes} (hgo : go = orun code ret E0 0) {n cs ss : Nat} {L : List Slot} {S : List Value} {H : AH} {q : Option ORes → Prop} {x : Int32} (h : Rsq (go n (28, L, (.int (x.toInt8.toInt32) :: S), H, cs, ss)) q) : Rsq (go (n + 1) (27, L, (.int x :: S), H, cs, ss)) q := by
  subst hgo
  exact res_of s0_27 h
theorem u0_28 {go : Nat → St → Option ORes} (hgo : go = orun code ret E0 0) {n cs ss : Nat} {L : List Slot} {S : List Value} {H : AH} : go (n + 1) (28, L, S, H, cs, ss) = ex ret E0 0 (go n) (.bastore) 28 L S H cs ss := by
  subst hgo
  exact s0_28
theorem t0_29 {go : Nat → St → Option ORes} (hgo : go = orun code ret E0 0) {n cs ss : Nat} {l0 l1 l2 l4 l5 l6 : Slot} {S : List Value} {H : AH} {q : Option ORes → Prop} {v : Value} (hv : isA v = true) (h : Rsq (go n (30, [l0, l1, l2, .val v, l4, l5, l6], (v :: S), H, cs, ss)) q) : Rsq (go (n + 1) (29, [l0, l1, l2, .val v, l4, l5, l6], S, H, cs, ss)) q := by
  subst hgo
  refine res_of s0_29 ?_
  rw [gA_isA (L := [l0, l1, l2, .val v, l4, l5, l6]) (k := 3) (v := v) rfl hv]
  exact h
theorem t0_30 {go : Nat → St → Option ORes} (hgo : go = orun code ret E0 0) {n cs ss : Nat} {L : List Slot} {S : List Value} {H : AH} {q : Option ORes → Prop} (h : Rsq (go n (31, L, (.int 3 :: S), H, cs, ss)) q) : Rsq (go (n + 1) (30, L, S, H, cs, ss)) q := by
  subst hgo
  exact res_of s0_30 h
theorem t0_31 {go : Nat → St → Option ORes} (hgo : go = orun code ret E0 0) {n cs ss : Nat} {l1 l2 l3 l4 l5 l6 : Slot} {S : List Value} {H : AH} {q : Option ORes → Prop} {v : Int64} (h : Rsq (go n (32, [.val (.long v), l1, l2, l3, l4, l5, l6], (.long v :: S), H, cs, ss)) q) : Rsq (go (n + 1) (31, [.val (.long v), l1, l2, l3, l4, l5, l6], S, H, cs, ss)) q := by
  subst hgo
  exact res_of s0_31 h
theorem t0_32 {go : Nat → St → Option ORes} (hgo : go = orun code ret E0 0) {n cs ss : Nat} {L : List Slot} {S : List Value} {H : AH} {q : Option ORes → Prop} (h : Rsq (go n (34, L, (.int 24 :: S), H, cs, ss)) q) : Rsq (go (n + 1) (32, L, S, H, cs, ss)) q := by
  subst hgo
  exact res_of s0_32 h
theorem t0_34 {go : Nat → St → Option ORes} (hgo : go = orun code ret E0 0) {n cs ss : Nat} {L : List Slot} {S : List Value} {H : AH} {q : Option ORes → Prop} {x : Int64} {y : Int32} (h : Rsq (go n (35, L, (.long ((x.toUInt64 >>> (y &&& 0x3f).toInt64.toUInt64).toInt64) :: S), H, cs, ss)) q) : Rsq (go (n + 1) (34, L, (.int y :: .long x :: S), H, cs, ss)) q := by
  subst hgo
  exact res_of s0_34 h
theorem t0_35 {go : Nat → St → Option ORes} (hgo : go = orun code ret E0 0) {n cs ss : Nat} {L : List Slot} {S : List Value} {H : AH} {q : Option ORes → Prop} {x : Int64} (h : Rsq (go n (36, L, (.int x.toInt32 :: S), H, cs, ss)) q) : Rsq (go (n + 1) (35, L, (.long x :: S), H, cs, ss)) q := by
  subst hgo
  exact res_of s0_35 h
theorem t0_36 {go : Nat → St → Option ORes} (hgo : go = orun code ret E0 0) {n cs ss : Nat} {L : List Slot} {S : List Value} {H : AH} {q : Option ORes → Prop} {x : Int32} (h : Rsq (go n (37, L, (.int (x.toInt8.toInt32) :: S), H, cs, ss)) q) : Rsq (go (n + 1) (36, L, (.int x :: S), H, cs, ss)) q := by
  subst hgo
  exact res_of s0_36 h
theorem u0_37 {go : Nat → St → Option ORes} (hgo : go = orun code ret E0 0) {n cs ss : Nat} {L : List Slot} {S : List Value} {H : AH} : go (n + 1) (37, L, S, H, cs, ss) = ex ret E0 0 (go n) (.bastore) 37 L S H cs ss := by
  subst hgo
  exact s0_37
theorem t0_38 {go : Nat → St → Option ORes} (hgo : go = orun code ret E0 0) {n cs ss : Nat} {l0 l1 l2 l4 l5 l6 : Slot} {S : List Value} {H : AH} {q : Option ORes → Prop} {v : Value} (hv : isA v = true) (h : Rsq (go n (39, [l0, l1, l2, .val v, l4, l5, l6], (v :: S), H, cs, ss)) q) : Rsq (go (n + 1) (38, [l0, l1, l2, .val v, l4, l5, l6], S, H, cs, ss)) q := by
  subst hgo
  refine res_of s0_38 ?_
  rw [gA_isA (L := [l0, l1, l2, .val v, l4, l5, l6]) (k := 3) (v := v) rfl hv]
  exact h
theorem t0_39 {go : Nat → St → Option ORes} (hgo : go = orun code ret E0 0) {n cs ss : Nat} {L : List Slot} {S : List Value} {H : AH} {q : Option ORes → Prop} (h : Rsq (go n (40, L, (.int 4 :: S), H, cs, ss)) q) : Rsq (go (n + 1) (39, L, S, H, cs, ss)) q := by
  subst hgo
  exact res_of s0_39 h
theorem t0_40 {go : Nat → St → Option ORes} (hgo : go = orun code ret E0 0) {n cs ss : Nat} {l1 l2 l3 l4 l5 l6 : Slot} {S : List Value} {H : AH} {q : Option ORes → Prop} {v : Int64} (h : Rsq (go n (41, [.val (.long v), l1, l2, l3, l4, l5, l6], (.long v :: S), H, cs, ss)) q) : Rsq (go (n + 1) (40, [.val (.long v), l1, l2, l3, l4, l5, l6], S, H, cs, ss)) q := by
  subst hgo
  exact res_of s0_40 h
theorem t0_41 {go : Nat → St → Option ORes} (hgo : go = orun code ret E0 0) {n cs ss : Nat} {L : List Slot} {S : List Value} {H : AH} {q : Option ORes → Prop} (h : Rsq (go n (43, L, (.int 32 :: S), H, cs, ss)) q) : Rsq (go (n + 1) (41, L, S, H, cs, ss)) q := by
  subst hgo
  exact res_of s0_41 h
theorem t0_43 {go : Nat → St → Option ORes} (hgo : go = orun code ret E0 0) {n cs ss : Nat} {L : List Slot} {S : List Value} {H : AH} {q : Option ORes → Prop} {x : Int64} {y : Int32} (h : Rsq (go n (44, L, (.long ((x.toUInt64 >>> (y &&& 0x3f).toInt64.toUInt64).toInt64) :: S), H, cs, ss)) q) : Rsq (go (n + 1) (43, L, (.int y :: .long x :: S), H, cs, ss)) q := by
  subst hgo
  exact res_of s0_43 h
theorem t0_44 {go : Nat → St → Option ORes} (hgo : go = orun code ret E0 0) {n cs ss : Nat} {L : List Slot} {S : List Value} {H : AH} {q : Option ORes → Prop} {x : Int64} (h : Rsq (go n (45, L, (.int x.toInt32 :: S), H, cs, ss)) q) : Rsq (go (n + 1) (44, L, (.long x :: S), H, cs, ss)) q := by
  subst hgo
  exact res_of s0_44 h
theorem t0_45 {go : Nat → St → Option ORes} (hgo : go = orun code ret E0 0) {n cs ss : Nat} {L : List Slot} {S : List Value} {H : AH} {q : Option ORes → Prop} {x : Int32} (h : Rsq (go n (46, L, (.int (x.toInt8.toInt32) :: S), H, cs, ss)) q) : Rsq (go (n + 1) (45, L, (.int x :: S), H, cs, ss)) q := by
  subst hgo
  exact res_of s0_45 h
theorem u0_46 {go : Nat → St → Option ORes} (hgo : go = orun code ret E0 0) {n cs ss : Nat} {L : List Slot} {S : List Value} {H : AH} : go (n + 1) (46, L, S, H, cs, ss) = ex ret E0 0 (go n) (.bastore) 46 L S H cs ss := by
  subst hgo
  exact s0_46
theorem t0_47 {go : Nat → St → Option ORes} (hgo : go = orun code ret E0 0) {n cs ss : Nat} {l0 l1 l2 l4 l5 l6 : Slot} {S : List Value} {H : AH} {q : Option ORes → Prop} {v : Value} (hv : isA v = true) (h : Rsq (go n (48, [l0, l1, l2, .val v, l4, l5, l6], (v :: S), H, cs, ss)) q) : Rsq (go (n + 1) (47, [l0, l1, l2, .val v, l4, l5, l6], S, H, cs, ss)) q := by
  subst hgo
  refine res_of s0_47 ?_
  rw [gA_isA (L := [l0, l1, l2, .val v, l4, l5, l6]) (k := 3) (v := v) rfl hv]
  exact h
theorem t0_48 {go : Nat → St → Option ORes} (hgo : go = orun code ret E0 0) {n cs ss : Nat} {L : List Slot} {S : List Value} {H : AH} {q : Option ORes → Prop} (h : Rsq (go n (49, L, (.int 5 :: S), H, cs, ss)) q) : Rsq (go (n + 1) (48, L, S, H, cs, ss)) q := by
  subst hgo
  exact res_of s0_48 h
theorem t0_49 {go : Nat → St → Option ORes} (hgo : go = orun code ret E0 0) {n cs ss : Nat} {l1 l2 l3 l4 l5 l6 : Slot} {S : List Value} {H : AH} {q : Option ORes → Prop} {v : Int64} (h : Rsq (go n (50, [.val (.long v), l1, l2, l3, l4, l5, l6], (.long v :: S), H, cs, ss)) q) : Rsq (go (n + 1) (49, [.val (.long v), l1, l2, l3, l4, l5, l6], S, H, cs, ss)) q := by
  subst hgo
  exact res_of s0_49 h
theorem t0_50 {go : Nat → St → Option ORes} (hgo : go = orun code ret E0 0) {n cs ss : Nat} {L : List Slot} {S : List Value} {H : AH} {q : Option ORes → Prop} (h : Rsq (go n (52, L, (.int 40 :: S), H, cs, ss)) q) : Rsq (go (n + 1) (50, L, S, H, cs, ss)) q := by
  subst hgo
  exact res_of s0_50 h
theorem t0_52 {go : Nat → St → Option ORes} (hgo : go = orun code ret E0 0) {n cs ss : Nat} {L : List Slot} {S : List Value} {H : AH} {q : Option ORes → Prop} {x : Int64} {y : Int32} (h : Rsq (go n (53, L, (.long ((x.toUInt64 >>> (y &&& 0x3f).toInt64.toUInt64).toInt64) :: S), H, cs, ss)) q) : Rsq (go (n + 1) (52, L, (.int y :: .long x :: S), H, cs, ss)) q := by
  subst hgo
  exact res_of s0_52 h
theorem t0_53 {go : Nat → St → Option ORes} (hgo : go = orun code ret E0 0) {n cs ss : Nat} {L : List Slot} {S : List Value} {H : AH} {q : Option ORes → Prop} {x : Int64} (h : Rsq (go n (54, L, (.int x.toInt32 :: S), H, cs, ss)) q) : Rsq (go (n + 1) (53, L, (.long x :: S), H, cs, ss)) q := by
  subst hgo
  exact res_of s0_53 h
theorem t0_54 {go : Nat → St → Option ORes} (hgo : go = orun code ret E0 0) {n cs ss : Nat} {L : List Slot} {S : List Value} {H : AH} {q : Option ORes → Prop} {x : Int32} (h : Rsq (go n (55, L, (.int (x.toInt8.toInt32) :: S), H, cs, ss)) q) : Rsq (go (n + 1) (54, L, (.int x :: S), H, cs, ss)) q := by
  subst hgo
  exact res_of s0_54 h
theorem u0_55 {go : Nat → St → Option ORes} (hgo : go = orun code ret E0 0) {n cs ss : Nat} {L : List Slot} {S : List Value} {H : AH} : go (n + 1) (55, L, S, H, cs, ss) = ex ret E0 0 (go n) (.bastore) 55 L S H cs ss := by
  subst hgo
  exact s0_55
theorem t0_56 {go : Nat → St → Option ORes} (hgo : go = orun code ret E0 0) {n cs ss : Nat} {l0 l1 l2 l4 l5 l6 : Slot} {S : List Value} {H : AH} {q : Option ORes → Prop} {v : Value} (hv : isA v = true) (h : Rsq (go n (57, [l0, l1, l2, .val v, l4, l5, l6], (v :: S), H, cs, ss)) q) : Rsq (go (n + 1) (56, [l0, l1, l2, .val v, l4, l5, l6], S, H, cs, ss)) q := by
  subst hgo
  refine res_of s0_56 ?_
  rw [gA_isA (L := [l0, l1, l2, .val v, l4, l5, l6]) (k := 3) (v := v) rfl hv]
  exact h
theorem t0_57 {go : Nat → St → Option ORes} (hgo : go = orun code ret E0 0) {n cs ss : Nat} {L : List Slot} {S : List Value} {H : AH} {q : Option ORes → Prop} (h : Rsq (go n (59, L, (.int 6 :: S), H, cs, ss)) q) : Rsq (go (n + 1) (57, L, S, H, cs, ss)) q := by
  subst hgo
  exact res_of s0_57 h
theorem t0_59 {go : Nat → St → Option ORes} (hgo : go = orun code ret E0 0) {n cs ss : Nat} {l1 l2 l3 l4 l5 l6 : Slot} {S : List Value} {H : AH} {q : Option ORes → Prop} {v : Int64} (h : Rsq (go n (60, [.val (.long v), l1, l2, l3, l4, l5, l6], (.long v :: S), H, cs, ss)) q) : Rsq (go (n + 1) (59, [.val (.long v), l1, l2, l3, l4, l5, l6], S, H, cs, ss)) q := by
  subst hgo
  exact res_of s0_59 h
theorem t0_60 {go : Nat → St → Option ORes} (hgo : go = orun code ret E0 0) {n cs ss : Nat} {L : List Slot} {S : List Value} {H : AH} {q : Option ORes → Prop} (h : Rsq (go n (62, L, (.int 48 :: S), H, cs, ss)) q) : Rsq (go (n + 1) (60, L, S, H, cs, ss)) q := by
  subst hgo
  exact res_of s0_60 h
theorem t0_62 {go : Nat → St → Option ORes} (hgo : go = orun code ret E0 0) {n cs ss : Nat} {L : List Slot} {S : List Value} {H : AH} {q : Option ORes → Prop} {x : Int64} {y : Int32} (h : Rsq (go n (63, L, (.long ((x.toUInt64 >>> (y &&& 0x3f).toInt64.toUInt64).toInt64) :: S), H, cs, ss)) q) : Rsq (go (n + 1) (62, L, (.int y :: .long x :: S), H, cs, ss)) q := by
  subst hgo
  exact res_of s0_62 h
theorem t0_63 {go : Nat → St → Option ORes} (hgo : go = orun code ret E0 0) {n cs ss : Nat} {L : List Slot} {S : List Value} {H : AH} {q : Option ORes → Prop} {x : Int64} (h : Rsq (go n (64, L, (.int x.toInt32 :: S), H, cs, ss)) q) : Rsq (go (n + 1) (63, L, (.long x :: S), H, cs, ss)) q := by
  subst hgo
  exact res_of s0_63 h
theorem t0_64 {go : Nat → St → Option ORes} (hgo : go = orun code ret E0 0) {n cs ss : Nat} {L : List Slot} {S : List Value} {H : AH} {q : Option ORes → Prop} {x : Int32} (h : Rsq (go n (65, L, (.int (x.toInt8.toInt32) :: S), H, cs, ss)) q) : Rsq (go (n + 1) (64, L, (.int x :: S), H, cs, ss)) q := by
  subst hgo
  exact res_of s0_64 h
theorem u0_65 {go : Nat → St → Option ORes} (hgo : go = orun code ret E0 0) {n cs ss : Nat} {L : List Slot} {S : List Value} {H : AH} : go (n + 1) (65, L, S, H, cs, ss) = ex ret E0 0 (go n) (.bastore) 65 L S H cs ss := by
  subst hgo
  exact s0_65
theorem t0_66 {go : Nat → St → Option ORes} (hgo : go = orun code ret E0 0) {n cs ss : Nat} {l0 l1 l2 l4 l5 l6 : Slot} {S : List Value} {H : AH} {q : Option ORes → Prop} {v : Value} (hv : isA v = true) (h : Rsq (go n (67, [l0, l1, l2, .val v, l4, l5, l6], (v :: S), H, cs, ss)) q) : Rsq (go (n + 1) (66, [l0, l1, l2, .val v, l4, l5, l6], S, H, cs, ss)) q := by
  subst hgo
  refine res_of s0_66 ?_
  rw [gA_isA (L := [l0, l1, l2, .val v, l4, l5, l6]) (k := 3) (v := v) rfl hv]
  exact h
theorem t0_67 {go : Nat → St → Option ORes} (hgo : go = orun code ret E0 0) {n cs ss : Nat} {L : List Slot} {S : List Value} {H : AH} {q : Option ORes → Prop} (h : Rsq (go n (69, L, (.int 7 :: S), H, cs, ss)) q) : Rsq (go (n + 1) (67, L, S, H, cs, ss)) q := by
  subst hgo
  exact res_of s0_67 h
theorem t0_69 {go : Nat → St → Option ORes} (hgo : go = orun code ret E0 0) {n cs ss : Nat} {l1 l2 l3 l4 l5 l6 : Slot} {S : List Value} {H : AH} {q : Option ORes → Prop} {v : Int64} (h : Rsq (go n (70, [.val (.long v), l1, l2, l3, l4, l5, l6], (.long v :: S), H, cs, ss)) q) : Rsq (go (n + 1) (69, [.val (.long v), l1, l2, l3, l4, l5, l6], S, H, cs, ss)) q := by
  subst hgo
  exact res_of s0_69 h
theorem t0_70 {go : Nat → St → Option ORes} (hgo : go = orun code ret E0 0) {n cs ss : Nat} {L : List Slot} {S : List Value} {H : AH} {q : Option ORes → Prop} (h : Rsq (go n (72, L, (.int 56 :: S), H, cs, ss)) q) : Rsq (go (n + 1) (70, L, S, H, cs, ss)) q := by
  subst hgo
  exact res_of s0_70 h
theorem t0_72 {go : Nat → St → Option ORes} (hgo : go = orun code ret E0 0) {n cs ss : Nat} {L : List Slot} {S : List Value} {H : AH} {q : Option ORes → Prop} {x : Int64} {y : Int32} (h : Rsq (go n (73, L, (.long ((x.toUInt64 >>> (y &&& 0x3f).toInt64.toUInt64).toInt64) :: S), H, cs, ss)) q) : Rsq (go (n + 1) (72, L, (.int y :: .long x :: S), H, cs, ss)) q := by
  subst hgo
  exact res_of s0_72 h
theorem t0_73 {go : Nat → St → Option ORes} (hgo : go = orun code ret E0 0) {n cs ss : Nat} {L : List Slot} {S : List Value} {H : AH} {q : Option ORes → Prop} {x : Int64} (h : Rsq (go n (74, L, (.int x.toInt32 :: S), H, cs, ss)) q) : Rsq (go (n + 1) (73, L, (.long x :: S), H, cs, ss)) q := by
  subst hgo
  exact res_of s0_73 h
theorem t0_74 {go : Nat → St → Option ORes} (hgo : go = orun code ret E0 0) {n cs ss : Nat} {L : List Slot} {S : List Value} {H : AH} {q : Option ORes → Prop} {x : Int32} (h : Rsq (go n (75, L, (.int (x.toInt8.toInt32) :: S), H, cs, ss)) q) : Rsq (go (n + 1) (74, L, (.int x :: S), H, cs, ss)) q := by
  subst hgo
  exact res_of s0_74 h
theorem u0_75 {go : Nat → St → Option ORes} (hgo : go = orun code ret E0 0) {n cs ss : Nat} {L : List Slot} {S : List Value} {H : AH} : go (n + 1) (75, L, S, H, cs, ss) = ex ret E0 0 (go n) (.bastore) 75 L S H cs ss := by
  subst hgo
  exact s0_75
theorem t0_76 {go : Nat → St → Option ORes} (hgo : go = orun code ret E0 0) {n cs ss : Nat} {l0 l1 l3 l4 l5 l6 : Slot} {S : List Value} {H : AH} {q : Option ORes → Prop} {v : Int32} (h : Rsq (go n (77, [l0, l1, .val (.int v), l3, l4, l5, l6], (.int v :: S), H, cs, ss)) q) : Rsq (go (n + 1) (76, [l0, l1, .val (.int v), l3, l4, l5, l6], S, H, cs, ss)) q := by
  subst hgo
  exact res_of s0_76 h
theorem t0_77 {go : Nat → St → Option ORes} (hgo : go = orun code ret E0 0) {n cs ss : Nat} {L : List Slot} {S : List Value} {H : AH} {q : Option ORes → Prop} (h : Rsq (go n (79, L, (.int (2147483647) :: S), H, cs, ss)) q) : Rsq (go (n + 1) (77, L, S, H, cs, ss)) q := by
  subst hgo
  exact res_of s0_77 h
theorem t0_79 {go : Nat → St → Option ORes} (hgo : go = orun code ret E0 0) {n cs ss : Nat} {L : List Slot} {S : List Value} {H : AH} {q : Option ORes → Prop} {x y : Int32} (h : Rsq (go n (80, L, (.int (x &&& y) :: S), H, cs, ss)) q) : Rsq (go (n + 1) (79, L, (.int y :: .int x :: S), H, cs, ss)) q := by
  subst hgo
  exact res_of s0_79 h
theorem t0_80 {go : Nat → St → Option ORes} (hgo : go = orun code ret E0 0) {n cs ss : Nat} {L : List Slot} {S : List Value} {H : AH} {q : Option ORes → Prop} (h : Rsq (go n (82, L, (.int 9 :: S), H, cs, ss)) q) : Rsq (go (n + 1) (80, L, S, H, cs, ss)) q := by
  subst hgo
  exact res_of s0_80 h
theorem t0_82 {go : Nat → St → Option ORes} (hgo : go = orun code ret E0 0) {n cs ss : Nat} {L : List Slot} {S : List Value} {H : AH} {q : Option ORes → Prop} {x y : Int32} (hz : ¬ y = 0) (h : Rsq (go n (83, L, (.int (x % y) :: S), H, cs, ss)) q) : Rsq (go (n + 1) (82, L, (.int y :: .int x :: S), H, cs, ss)) q := by
  subst hgo
  exact res_of s0_82 (res_f hz h)
theorem t0_83 {go : Nat → St → Option ORes} (hgo : go = orun code ret E0 0) {n cs ss : Nat} {l0 l1 l2 l3 l4 l5 l6 : Slot} {S : List Value} {H : AH} {q : Option ORes → Prop} {x : Int32} (hk : so l4 = true) (h : Rsq (go n (85, [l0, l1, l2, l3, .val (.int x), l5, l6], S, H, cs, ss)) q) : Rsq (go (n + 1) (83, [l0, l1, l2, l3, l4, l5, l6], (.int x :: S), H, cs, ss)) q := by
  subst hgo
  refine res_of s0_83 ?_
  rw [pI_int, st1_so (L := [l0, l1, l2, l3, l4, l5, l6]) (k := 4) (l := l4) rfl hk]
  exact h
theorem t0_85 {go : Nat → St → Option ORes} (hgo : go = orun code ret E0 0) {n cs ss : Nat} {L : List Slot} {S : List Value} {H : AH} {q : Option ORes → Prop} (h : Rsq (go n (86, L, (.int 0 :: S), H, cs, ss)) q) : Rsq (go (n + 1) (85, L, S, H, cs, ss)) q := by
  subst hgo
  exact res_of s0_85 h
theorem t0_86 {go : Nat → St → Option ORes} (hgo : go = orun code ret E0 0) {n cs ss : Nat} {l0 l1 l2 l3 l4 l5 l6 : Slot} {S : List Value} {H : AH} {q : Option ORes → Prop} {x : Int32} (hk : so l5 = true) (h : Rsq (go n (88, [l0, l1, l2, l3, l4, .val (.int x), l6], S, H, cs, ss)) q) : Rsq (go (n + 1) (86, [l0, l1, l2, l3, l4, l5, l6], (.int x :: S), H, cs, ss)) q := by
  subst hgo
  refine res_of s0_86 ?_
  rw [pI_int, st1_so (L := [l0, l1, l2, l3, l4, l5, l6]) (k := 5) (l := l5) rfl hk]
  exact h
theorem t0_88 {go : Nat → St → Option ORes} (hgo : go = orun code ret E0 0) {n cs ss : Nat} {l0 l1 l2 l4 l5 l6 : Slot} {S : List Value} {H : AH} {q : Option ORes → Prop} {v : Value} (hv : isA v = true) (h : Rsq (go n (89, [l0, l1, l2, .val v, l4, l5, l6], (v :: S), H, cs, ss)) q) : Rsq (go (n + 1) (88, [l0, l1, l2, .val v, l4, l5, l6], S, H, cs, ss)) q := by
  subst hgo
  refine res_of s0_88 ?_
  rw [gA_isA (L := [l0, l1, l2, .val v, l4, l5, l6]) (k := 3) (v := v) rfl hv]
  exact h
theorem t0_89 {go : Nat → St → Option ORes} (hgo : go = orun code ret E0 0) {n cs ss : Nat} {l0 l1 l2 l3 l5 l6 : Slot} {S : List Value} {H : AH} {q : Option ORes → Prop} {v : Int32} (h : Rsq (go n (91, [l0, l1, l2, l3, .val (.int v), l5, l6], (.int v :: S), H, cs, ss)) q) : Rsq (go (n + 1) (89, [l0, l1, l2, l3, .val (.int v), l5, l6], S, H, cs, ss)) q := by
  subst hgo
  exact res_of s0_89 h
theorem t0_91 {go : Nat → St → Option ORes} (hgo : go = orun code ret E0 0) {n cs ss : Nat} {l0 l1 l2 l3 l4 l6 : Slot} {S : List Value} {H : AH} {q : Option ORes → Prop} {v : Int32} (h : Rsq (go n (93, [l0, l1, l2, l3, l4, .val (.int v), l6], (.int v :: S), H, cs, ss)) q) : Rsq (go (n + 1) (91, [l0, l1, l2, l3, l4, .val (.int v), l6], S, H, cs, ss)) q := by
  subst hgo
  exact res_of s0_91 h
theorem u0_93 {go : Nat → St → Option ORes} (hgo : go = orun code ret E0 0) {n cs ss : Nat} {L : List Slot} {S : List Value} {H : AH} : go (n + 1) (93, L, S, H, cs, ss) = (aCall 3 6 16 128 0 0 F1 S H cs ss).bind fun r => go n (96, L, r.1, r.2.1, r.2.2.1, r.2.2.2) := by
  subst hgo
  exact s0_93
theorem t0_96 {go : Nat → St → Option ORes} (hgo : go = orun code ret E0 0) {n cs ss : Nat} {l0 l1 l2 l3 l4 l5 l6 : Slot} {S : List Value} {H : AH} {q : Option ORes → Prop} {x : Int32} (hk : so l5 = true) (h : Rsq (go n (98, [l0, l1, l2, l3, l4, .val (.int x), l6], S, H, cs, ss)) q) : Rsq (go (n + 1) (96, [l0, l1, l2, l3, l4, l5, l6], (.int x :: S), H, cs, ss)) q := by
  subst hgo
  refine res_of s0_96 ?_
  rw [pI_int, st1_so (L := [l0, l1, l2, l3, l4, l5, l6]) (k := 5) (l := l5) rfl hk]
  exact h
theorem t0_98 {go : Nat → St → Option ORes} (hgo : go = orun code ret E0 0) {n cs ss : Nat} {l0 l1 l2 l4 l5 l6 : Slot} {S : List Value} {H : AH} {q : Option ORes → Prop} {v : Value} (hv : isA v = true) (h : Rsq (go n (99, [l0, l1, l2, .val v, l4, l5, l6], (v :: S), H, cs, ss)) q) : Rsq (go (n + 1) (98, [l0, l1, l2, .val v, l4, l5, l6], S, H, cs, ss)) q := by
  subst hgo
  refine res_of s0_98 ?_
  rw [gA_isA (L := [l0, l1, l2, .val v, l4, l5, l6]) (k := 3) (v := v) rfl hv]
  exact h
theorem t0_99 {go : Nat → St → Option ORes} (hgo : go = orun code ret E0 0) {n cs ss : Nat} {l0 l1 l2 l3 l5 l6 : Slot} {S : List Value} {H : AH} {q : Option ORes → Prop} {v : Int32} (h : Rsq (go n (101, [l0, l1, l2, l3, .val (.int v), l5, l6], (.int v :: S), H, cs, ss)) q) : Rsq (go (n + 1) (99, [l0, l1, l2, l3, .val (.int v), l5, l6], S, H, cs, ss)) q := by
  subst hgo
  exact res_of s0_99 h
theorem t0_101 {go : Nat → St → Option ORes} (hgo : go = orun code ret E0 0) {n cs ss : Nat} {l0 l1 l2 l3 l4 l6 : Slot} {S : List Value} {H : AH} {q : Option ORes → Prop} {v : Int32} (h : Rsq (go n (103, [l0, l1, l2, l3, l4, .val (.int v), l6], (.int v :: S), H, cs, ss)) q) : Rsq (go (n + 1) (101, [l0, l1, l2, l3, l4, .val (.int v), l6], S, H, cs, ss)) q := by
  subst hgo
  exact res_of s0_101 h
theorem u0_103 {go : Nat → St → Option ORes} (hgo : go = orun code ret E0 0) {n cs ss : Nat} {L : List Slot} {S : List Value} {H : AH} : go (n + 1) (103, L, S, H, cs, ss) = (aCall 3 6 16 128 0 0 F1 S H cs ss).bind fun r => go n (106, L, r.1, r.2.1, r.2.2.1, r.2.2.2) := by
  subst hgo
  exact s0_103
theorem t0_106 {go : Nat → St → Option ORes} (hgo : go = orun code ret E0 0) {n cs ss : Nat} {l0 l1 l2 l3 l4 l5 l6 : Slot} {S : List Value} {H : AH} {q : Option ORes → Prop} {x : Int32} (hk : so l5 = true) (h : Rsq (go n (108, [l0, l1, l2, l3, l4, .val (.int x), l6], S, H, cs, ss)) q) : Rsq (go (n + 1) (106, [l0, l1, l2, l3, l4, l5, l6], (.int x :: S), H, cs, ss)) q := by
  subst hgo
  refine res_of s0_106 ?_
  rw [pI_int, st1_so (L := [l0, l1, l2, l3, l4, l5, l6]) (k := 5) (l := l5) rfl hk]
  exact h
theorem t0_108 {go : Nat → St → Option ORes} (hgo : go = orun code ret E0 0) {n cs ss : Nat} {l0 l1 l2 l4 l5 l6 : Slot} {S : List Value} {H : AH} {q : Option ORes → Prop} {v : Value} (hv : isA v = true) (h : Rsq (go n (109, [l0, l1, l2, .val v, l4, l5, l6], (v :: S), H, cs, ss)) q) : Rsq (go (n + 1) (108, [l0, l1, l2, .val v, l4, l5, l6], S, H, cs, ss)) q := by
  subst hgo
  refine res_of s0_108 ?_
  rw [gA_isA (L := [l0, l1, l2, .val v, l4, l5, l6]) (k := 3) (v := v) rfl hv]
  exact h
theorem t0_109 {go : Nat → St → Option ORes} (hgo : go = orun code ret E0 0) {n cs ss : Nat} {l0 l1 l2 l3 l5 l6 : Slot} {S : List Value} {H : AH} {q : Option ORes → Prop} {v : Int32} (h : Rsq (go n (111, [l0, l1, l2, l3, .val (.int v), l5, l6], (.int v :: S), H, cs, ss)) q) : Rsq (go (n + 1) (109, [l0, l1, l2, l3, .val (.int v), l5, l6], S, H, cs, ss)) q := by
  subst hgo
  exact res_of s0_109 h
theorem t0_111 {go : Nat → St → Option ORes} (hgo : go = orun code ret E0 0) {n cs ss : Nat} {l0 l1 l2 l3 l4 l6 : Slot} {S : List Value} {H : AH} {q : Option ORes → Prop} {v : Int32} (h : Rsq (go n (113, [l0, l1, l2, l3, l4, .val (.int v), l6], (.int v :: S), H, cs, ss)) q) : Rsq (go (n + 1) (111, [l0, l1, l2, l3, l4, .val (.int v), l6], S, H, cs, ss)) q := by
  subst hgo
  exact res_of s0_111 h
theorem u0_113 {go : Nat → St → Option ORes} (hgo : go = orun code ret E0 0) {n cs ss : Nat} {L : List Slot} {S : List Value} {H : AH} : go (n + 1) (113, L, S, H, cs, ss) = (aCall 3 6 16 128 0 0 F1 S H cs ss).bind fun r => go n (116, L, r.1, r.2.1, r.2.2.1, r.2.2.2) := by
  subst hgo
  exact s0_113
theorem t0_116 {go : Nat → St → Option ORes} (hgo : go = orun code ret E0 0) {n cs ss : Nat} {l0 l1 l2 l3 l4 l5 l6 : Slot} {S : List Value} {H : AH} {q : Option ORes → Prop} {x : Int32} (hk : so l5 = true) (h : Rsq (go n (118, [l0, l1, l2, l3, l4, .val (.int x), l6], S, H, cs, ss)) q) : Rsq (go (n + 1) (116, [l0, l1, l2, l3, l4, l5, l6], (.int x :: S), H, cs, ss)) q := by
  subst hgo
  refine res_of s0_116 ?_
  rw [pI_int, st1_so (L := [l0, l1, l2, l3, l4, l5, l6]) (k := 5) (l := l5) rfl hk]
  exact h
theorem t0_118 {go : Nat → St → Option ORes} (hgo : go = orun code ret E0 0) {n cs ss : Nat} {l0 l1 l2 l4 l5 l6 : Slot} {S : List Value} {H : AH} {q : Option ORes → Prop} {v : Value} (hv : isA v = true) (h : Rsq (go n (119, [l0, l1, l2, .val v, l4, l5, l6], (v :: S), H, cs, ss)) q) : Rsq (go (n + 1) (118, [l0, l1, l2, .val v, l4, l5, l6], S, H, cs, ss)) q := by
  subst hgo
  refine res_of s0_118 ?_
  rw [gA_isA (L := [l0, l1, l2, .val v, l4, l5, l6]) (k := 3) (v := v) rfl hv]
  exact h
theorem t0_119 {go : Nat → St → Option ORes} (hgo : go = orun code ret E0 0) {n cs ss : Nat} {l0 l1 l2 l3 l5 l6 : Slot} {S : List Value} {H : AH} {q : Option ORes → Prop} {v : Int32} (h : Rsq (go n (121, [l0, l1, l2, l3, .val (.int v), l5, l6], (.int v :: S), H, cs, ss)) q) : Rsq (go (n + 1) (119, [l0, l1, l2, l3, .val (.int v), l5, l6], S, H, cs, ss)) q := by
  subst hgo
  exact res_of s0_119 h
theorem t0_121 {go : Nat → St → Option ORes} (hgo : go = orun code ret E0 0) {n cs ss : Nat} {l0 l1 l2 l3 l4 l6 : Slot} {S : List Value} {H : AH} {q : Option ORes → Prop} {v : Int32} (h : Rsq (go n (123, [l0, l1, l2, l3, l4, .val (.int v), l6], (.int v :: S), H, cs, ss)) q) : Rsq (go (n + 1) (121, [l0, l1, l2, l3, l4, .val (.int v), l6], S, H, cs, ss)) q := by
  subst hgo
  exact res_of s0_121 h
theorem u0_123 {go : Nat → St → Option ORes} (hgo : go = orun code ret E0 0) {n cs ss : Nat} {L : List Slot} {S : List Value} {H : AH} : go (n + 1) (123, L, S, H, cs, ss) = (aCall 3 6 16 128 0 0 F1 S H cs ss).bind fun r => go n (126, L, r.1, r.2.1, r.2.2.1, r.2.2.2) := by
  subst hgo
  exact s0_123
theorem t0_126 {go : Nat → St → Option ORes} (hgo : go = orun code ret E0 0) {n cs ss : Nat} {l0 l1 l2 l3 l4 l5 l6 : Slot} {S : List Value} {H : AH} {q : Option ORes → Prop} {x : Int32} (hk : so l5 = true) (h : Rsq (go n (128, [l0, l1, l2, l3, l4, .val (.int x), l6], S, H, cs, ss)) q) : Rsq (go (n + 1) (126, [l0, l1, l2, l3, l4, l5, l6], (.int x :: S), H, cs, ss)) q := by
  subst hgo
  refine res_of s0_126 ?_
  rw [pI_int, st1_so (L := [l0, l1, l2, l3, l4, l5, l6]) (k := 5) (l := l5) rfl hk]
  exact h
theorem t0_128 {go : Nat → St → Option ORes} (hgo : go = orun code ret E0 0) {n cs ss : Nat} {l0 l1 l2 l4 l5 l6 : Slot} {S : List Value} {H : AH} {q : Option ORes → Prop} {v : Value} (hv : isA v = true) (h : Rsq (go n (129, [l0, l1, l2, .val v, l4, l5, l6], (v :: S), H, cs, ss)) q) : Rsq (go (n + 1) (128, [l0, l1, l2, .val v, l4, l5, l6], S, H, cs, ss)) q := by
  subst hgo
  refine res_of s0_128 ?_
  rw [gA_isA (L := [l0, l1, l2, .val v, l4, l5, l6]) (k := 3) (v := v) rfl hv]
  exact h
theorem t0_129 {go : Nat → St → Option ORes} (hgo : go = orun code ret E0 0) {n cs ss : Nat} {l0 l1 l2 l3 l5 l6 : Slot} {S : List Value} {H : AH} {q : Option ORes → Prop} {v : Int32} (h : Rsq (go n (131, [l0, l1, l2, l3, .val (.int v), l5, l6], (.int v :: S), H, cs, ss)) q) : Rsq (go (n + 1) (129, [l0, l1, l2, l3, .val (.int v), l5, l6], S, H, cs, ss)) q := by
  subst hgo
  exact res_of s0_129 h
theorem t0_131 {go : Nat → St → Option ORes} (hgo : go = orun code ret E0 0) {n cs ss : Nat} {l0 l1 l2 l3 l4 l6 : Slot} {S : List Value} {H : AH} {q : Option ORes → Prop} {v : Int32} (h : Rsq (go n (133, [l0, l1, l2, l3, l4, .val (.int v), l6], (.int v :: S), H, cs, ss)) q) : Rsq (go (n + 1) (131, [l0, l1, l2, l3, l4, .val (.int v), l6], S, H, cs, ss)) q := by
  subst hgo
  exact res_of s0_131 h
theorem u0_133 {go : Nat → St → Option ORes} (hgo : go = orun code ret E0 0) {n cs ss : Nat} {L : List Slot} {S : List Value} {H : AH} : go (n + 1) (133, L, S, H, cs, ss) = (aCall 3 6 16 128 0 0 F1 S H cs ss).bind fun r => go n (136, L, r.1, r.2.1, r.2.2.1, r.2.2.2) := by
  subst hgo
  exact s0_133
theorem t0_136 {go : Nat → St → Option ORes} (hgo : go = orun code ret E0 0) {n cs ss : Nat} {l0 l1 l2 l3 l4 l5 l6 : Slot} {S : List Value} {H : AH} {q : Option ORes → Prop} {x : Int32} (hk : so l5 = true) (h : Rsq (go n (138, [l0, l1, l2, l3, l4, .val (.int x), l6], S, H, cs, ss)) q) : Rsq (go (n + 1) (136, [l0, l1, l2, l3, l4, l5, l6], (.int x :: S), H, cs, ss)) q := by
  subst hgo
  refine res_of s0_136 ?_
  rw [pI_int, st1_so (L := [l0, l1, l2, l3, l4, l5, l6]) (k := 5) (l := l5) rfl hk]
  exact h
theorem t0_138 {go : Nat → St → Option ORes} (hgo : go = orun code ret E0 0) {n cs ss : Nat} {l0 l1 l2 l4 l5 l6 : Slot} {S : List Value} {H : AH} {q : Option ORes → Prop} {v : Value} (hv : isA v = true) (h : Rsq (go n (139, [l0, l1, l2, .val v, l4, l5, l6], (v :: S), H, cs, ss)) q) : Rsq (go (n + 1) (138, [l0, l1, l2, .val v, l4, l5, l6], S, H, cs, ss)) q := by
  subst hgo
  refine res_of s0_138 ?_
  rw [gA_isA (L := [l0, l1, l2, .val v, l4, l5, l6]) (k := 3) (v := v) rfl hv]
  exact h
theorem t0_139 {go : Nat → St → Option ORes} (hgo : go = orun code ret E0 0) {n cs ss : Nat} {l0 l1 l2 l3 l5 l6 : Slot} {S : List Value} {H : AH} {q : Option ORes → Prop} {v : Int32} (h : Rsq (go n (141, [l0, l1, l2, l3, .val (.int v), l5, l6], (.int v :: S), H, cs, ss)) q) : Rsq (go (n + 1) (139, [l0, l1, l2, l3, .val (.int v), l5, l6], S, H, cs, ss)) q := by
  subst hgo
  exact res_of s0_139 h
theorem t0_141 {go : Nat → St → Option ORes} (hgo : go = orun code ret E0 0) {n cs ss : Nat} {l0 l1 l2 l3 l4 l6 : Slot} {S : List Value} {H : AH} {q : Option ORes → Prop} {v : Int32} (h : Rsq (go n (143, [l0, l1, l2, l3, l4, .val (.int v), l6], (.int v :: S), H, cs, ss)) q) : Rsq (go (n + 1) (141, [l0, l1, l2, l3, l4, .val (.int v), l6], S, H, cs, ss)) q := by
  subst hgo
  exact res_of s0_141 h
theorem u0_143 {go : Nat → St → Option ORes} (hgo : go = orun code ret E0 0) {n cs ss : Nat} {L : List Slot} {S : List Value} {H : AH} : go (n + 1) (143, L, S, H, cs, ss) = (aCall 3 6 16 128 0 0 F1 S H cs ss).bind fun r => go n (146, L, r.1, r.2.1, r.2.2.1, r.2.2.2) := by
  subst hgo
  exact s0_143
theorem t0_146 {go : Nat → St → Option ORes} (hgo : go = orun code ret E0 0) {n cs ss : Nat} {l0 l1 l2 l3 l4 l5 l6 : Slot} {S : List Value} {H : AH} {q : Option ORes → Prop} {x : Int32} (hk : so l5 = true) (h : Rsq (go n (148, [l0, l1, l2, l3, l4, .val (.int x), l6], S, H, cs, ss)) q) : Rsq (go (n + 1) (146, [l0, l1, l2, l3, l4, l5, l6], (.int x :: S), H, cs, ss)) q := by
  subst hgo
  refine res_of s0_146 ?_
  rw [pI_int, st1_so (L := [l0, l1, l2, l3, l4, l5, l6]) (k := 5) (l := l5) rfl hk]
  exact h
theorem t0_148 {go : Nat → St → Option ORes} (hgo : go = orun code ret E0 0) {n cs ss : Nat} {l0 l1 l2 l4 l5 l6 : Slot} {S : List Value} {H : AH} {q : Option ORes → Prop} {v : Value} (hv : isA v = true) (h : Rsq (go n (149, [l0, l1, l2, .val v, l4, l5, l6], (v :: S), H, cs, ss)) q) : Rsq (go (n + 1) (148, [l0, l1, l2, .val v, l4, l5, l6], S, H, cs, ss)) q := by
  subst hgo
  refine res_of s0_148 ?_
  rw [gA_isA (L := [l0, l1, l2, .val v, l4, l5, l6]) (k := 3) (v := v) rfl hv]
  exact h
theorem t0_149 {go : Nat → St → Option ORes} (hgo : go = orun code ret E0 0) {n cs ss : Nat} {l0 l1 l2 l3 l5 l6 : Slot} {S : List Value} {H : AH} {q : Option ORes → Prop} {v : Int32} (h : Rsq (go n (151, [l0, l1, l2, l3, .val (.int v), l5, l6], (.int v :: S), H, cs, ss)) q) : Rsq (go (n + 1) (149, [l0, l1, l2, l3, .val (.int v), l5, l6], S, H, cs, ss)) q := by
  subst hgo
  exact res_of s0_149 h
theorem t0_151 {go : Nat → St → Option ORes} (hgo : go = orun code ret E0 0) {n cs ss : Nat} {l0 l1 l2 l3 l4 l6 : Slot} {S : List Value} {H : AH} {q : Option ORes → Prop} {v : Int32} (h : Rsq (go n (153, [l0, l1, l2, l3, l4, .val (.int v), l6], (.int v :: S), H, cs, ss)) q) : Rsq (go (n + 1) (151, [l0, l1, l2, l3, l4, .val (.int v), l6], S, H, cs, ss)) q := by
  subst hgo
  exact res_of s0_151 h
theorem u0_153 {go : Nat → St → Option ORes} (hgo : go = orun code ret E0 0) {n cs ss : Nat} {L : List Slot} {S : List Value} {H : AH} : go (n + 1) (153, L, S, H, cs, ss) = (aCall 3 6 16 128 0 0 F1 S H cs ss).bind fun r => go n (156, L, r.1, r.2.1, r.2.2.1, r.2.2.2) := by
  subst hgo
  exact s0_153
theorem t0_156 {go : Nat → St → Option ORes} (hgo : go = orun code ret E0 0) {n cs ss : Nat} {l0 l1 l2 l3 l4 l5 l6 : Slot} {S : List Value} {H : AH} {q : Option ORes → Prop} {x : Int32} (hk : so l5 = true) (h : Rsq (go n (158, [l0, l1, l2, l3, l4, .val (.int x), l6], S, H, cs, ss)) q) : Rsq (go (n + 1) (156, [l0, l1, l2, l3, l4, l5, l6], (.int x :: S), H, cs, ss)) q := by
  subst hgo
  refine res_of s0_156 ?_
  rw [pI_int, st1_so (L := [l0, l1, l2, l3, l4, l5, l6]) (k := 5) (l := l5) rfl hk]
  exact h
theorem t0_158 {go : Nat → St → Option ORes} (hgo : go = orun code ret E0 0) {n cs ss : Nat} {l0 l1 l2 l4 l5 l6 : Slot} {S : List Value} {H : AH} {q : Option ORes → Prop} {v : Value} (hv : isA v = true) (h : Rsq (go n (159, [l0, l1, l2, .val v, l4, l5, l6], (v :: S), H, cs, ss)) q) : Rsq (go (n + 1) (158, [l0, l1, l2, .val v, l4, l5, l6], S, H, cs, ss)) q := by
  subst hgo
  refine res_of s0_158 ?_
  rw [gA_isA (L := [l0, l1, l2, .val v, l4, l5, l6]) (k := 3) (v := v) rfl hv]
  exact h
theorem t0_159 {go : Nat → St → Option ORes} (hgo : go = orun code ret E0 0) {n cs ss : Nat} {l0 l1 l2 l3 l5 l6 : Slot} {S : List Value} {H : AH} {q : Option ORes → Prop} {v : Int32} (h : Rsq (go n (161, [l0, l1, l2, l3, .val (.int v), l5, l6], (.int v :: S), H, cs, ss)) q) : Rsq (go (n + 1) (159, [l0, l1, l2, l3, .val (.int v), l5, l6], S, H, cs, ss)) q := by
  subst hgo
  exact res_of s0_159 h
theorem t0_161 {go : Nat → St → Option ORes} (hgo : go = orun code ret E0 0) {n cs ss : Nat} {l0 l1 l2 l3 l4 l6 : Slot} {S : List Value} {H : AH} {q : Option ORes → Prop} {v : Int32} (h : Rsq (go n (163, [l0, l1, l2, l3, l4, .val (.int v), l6], (.int v :: S), H, cs, ss)) q) : Rsq (go (n + 1) (161, [l0, l1, l2, l3, l4, .val (.int v), l6], S, H, cs, ss)) q := by
  subst hgo
  exact res_of s0_161 h
theorem u0_163 {go : Nat → St → Option ORes} (hgo : go = orun code ret E0 0) {n cs ss : Nat} {L : List Slot} {S : List Value} {H : AH} : go (n + 1) (163, L, S, H, cs, ss) = (aCall 3 6 16 128 0 0 F1 S H cs ss).bind fun r => go n (166, L, r.1, r.2.1, r.2.2.1, r.2.2.2) := by
  subst hgo
  exact s0_163
theorem t0_166 {go : Nat → St → Option ORes} (hgo : go = orun code ret E0 0) {n cs ss : Nat} {l0 l1 l2 l3 l4 l5 l6 : Slot} {S : List Value} {H : AH} {q : Option ORes → Prop} {x : Int32} (hk : so l5 = true) (h : Rsq (go n (168, [l0, l1, l2, l3, l4, .val (.int x), l6], S, H, cs, ss)) q) : Rsq (go (n + 1) (166, [l0, l1, l2, l3, l4, l5, l6], (.int x :: S), H, cs, ss)) q := by
  subst hgo
  refine res_of s0_166 ?_
  rw [pI_int, st1_so (L := [l0, l1, l2, l3, l4, l5, l6]) (k := 5) (l := l5) rfl hk]
  exact h
theorem t0_168 {go : Nat → St → Option ORes} (hgo : go = orun code ret E0 0) {n cs ss : Nat} {l0 l1 l2 l3 l4 l6 : Slot} {S : List Value} {H : AH} {q : Option ORes → Prop} {v : Int32} (h : Rsq (go n (170, [l0, l1, l2, l3, l4, .val (.int v), l6], (.int v :: S), H, cs, ss)) q) : Rsq (go (n + 1) (168, [l0, l1, l2, l3, l4, .val (.int v), l6], S, H, cs, ss)) q := by
  subst hgo
  exact res_of s0_168 h
theorem t0_170 {go : Nat → St → Option ORes} (hgo : go = orun code ret E0 0) {n cs ss : Nat} {l0 l1 l2 l3 l5 l6 : Slot} {S : List Value} {H : AH} {q : Option ORes → Prop} {v : Int32} (h : Rsq (go n (172, [l0, l1, l2, l3, .val (.int v), l5, l6], (.int v :: S), H, cs, ss)) q) : Rsq (go (n + 1) (170, [l0, l1, l2, l3, .val (.int v), l5, l6], S, H, cs, ss)) q := by
  subst hgo
  exact res_of s0_170 h
theorem t0_172t {go : Nat → St → Option ORes} (hgo : go = orun code ret E0 0) {n cs ss : Nat} {L : List Slot} {S : List Value} {H : AH} {q : Option ORes → Prop} {x y : Int32} (hc : x = y) (h : Rsq (go n (175, L, S, H, cs, ss)) q) : Rsq (go (n + 1) (172, L, (.int y :: .int x :: S), H, cs, ss)) q := by
  subst hgo
  exact res_of s0_172 (res_t hc h)
theorem t0_172f {go : Nat → St → Option ORes} (hgo : go = orun code ret E0 0) {n cs ss : Nat} {L : List Slot} {S : List Value} {H : AH} {q : Option ORes → Prop} {x y : Int32} (hc : ¬ x = y) (h : Rsq (go n (179, L, S, H, cs, ss)) q) : Rsq (go (n + 1) (172, L, (.int y :: .int x :: S), H, cs, ss)) q := by
  subst hgo
  exact res_of s0_172 (res_f hc h)
theorem t0_175 {go : Nat → St → Option ORes} (hgo : go = orun code ret E0 0) {n cs ss : Nat} {L : List Slot} {S : List Value} {H : AH} {q : Option ORes → Prop} (h : Rsq (go n (176, L, (.int 1 :: S), H, cs, ss)) q) : Rsq (go (n + 1) (175, L, S, H, cs, ss)) q := by
  subst hgo
  exact res_of s0_175 h
theorem t0_176 {go : Nat → St → Option ORes} (hgo : go = orun code ret E0 0) {n cs ss : Nat} {L : List Slot} {S : List Value} {H : AH} {q : Option ORes → Prop} (h : Rsq (go n (180, L, S, H, cs, ss)) q) : Rsq (go (n + 1) (176, L, S, H, cs, ss)) q := by
  subst hgo
  exact res_of s0_176 h
theorem t0_179 {go : Nat → St → Option ORes} (hgo : go = orun code ret E0 0) {n cs ss : Nat} {L : List Slot} {S : List Value} {H : AH} {q : Option ORes → Prop} (h : Rsq (go n (180, L, (.int 0 :: S), H, cs, ss)) q) : Rsq (go (n + 1) (179, L, S, H, cs, ss)) q := by
  subst hgo
  exact res_of s0_179 h
theorem t0_180 {go : Nat → St → Option ORes} (hgo : go = orun code ret E0 0) {n cs ss : Nat} {l0 l1 l2 l3 l4 l5 l6 : Slot} {S : List Value} {H : AH} {q : Option ORes → Prop} {x : Int32} (hk : so l6 = true) (h : Rsq (go n (182, [l0, l1, l2, l3, l4, l5, .val (.int x)], S, H, cs, ss)) q) : Rsq (go (n + 1) (180, [l0, l1, l2, l3, l4, l5, l6], (.int x :: S), H, cs, ss)) q := by
  subst hgo
  refine res_of s0_180 ?_
  rw [pI_int, st1_so (L := [l0, l1, l2, l3, l4, l5, l6]) (k := 6) (l := l6) rfl hk]
  exact h
theorem t0_182 {go : Nat → St → Option ORes} (hgo : go = orun code ret E0 0) {n cs ss : Nat} {l0 l1 l2 l4 l5 l6 : Slot} {S : List Value} {H : AH} {q : Option ORes → Prop} {v : Value} (hv : isA v = true) (h : Rsq (go n (183, [l0, l1, l2, .val v, l4, l5, l6], (v :: S), H, cs, ss)) q) : Rsq (go (n + 1) (182, [l0, l1, l2, .val v, l4, l5, l6], S, H, cs, ss)) q := by
  subst hgo
  refine res_of s0_182 ?_
  rw [gA_isA (L := [l0, l1, l2, .val v, l4, l5, l6]) (k := 3) (v := v) rfl hv]
  exact h
theorem t0_183 {go : Nat → St → Option ORes} (hgo : go = orun code ret E0 0) {n cs ss : Nat} {l0 l1 l2 l3 l5 l6 : Slot} {S : List Value} {H : AH} {q : Option ORes → Prop} {v : Int32} (h : Rsq (go n (185, [l0, l1, l2, l3, .val (.int v), l5, l6], (.int v :: S), H, cs, ss)) q) : Rsq (go (n + 1) (183, [l0, l1, l2, l3, .val (.int v), l5, l6], S, H, cs, ss)) q := by
  subst hgo
  exact res_of s0_183 h
theorem u0_185 {go : Nat → St → Option ORes} (hgo : go = orun code ret E0 0) {n cs ss : Nat} {L : List Slot} {S : List Value} {H : AH} : go (n + 1) (185, L, S, H, cs, ss) = (aCall 2 6 16 128 0 0 F3 S H cs ss).bind fun r => go n (188, L, r.1, r.2.1, r.2.2.1, r.2.2.2) := by
  subst hgo
  exact s0_185
theorem t0_188 {go : Nat → St → Option ORes} (hgo : go = orun code ret E0 0) {n cs ss : Nat} {l0 l1 l2 l3 l4 l5 : Slot} {S : List Value} {H : AH} {q : Option ORes → Prop} {v : Int32} (h : Rsq (go n (190, [l0, l1, l2, l3, l4, l5, .val (.int v)], (.int v :: S), H, cs, ss)) q) : Rsq (go (n + 1) (188, [l0, l1, l2, l3, l4, l5, .val (.int v)], S, H, cs, ss)) q := by
  subst hgo
  exact res_of s0_188 h
theorem t0_190t {go : Nat → St → Option ORes} (hgo : go = orun code ret E0 0) {n cs ss : Nat} {L : List Slot} {S : List Value} {H : AH} {q : Option ORes → Prop} {x y : Int32} (hc : x = y) (h : Rsq (go n (193, L, S, H, cs, ss)) q) : Rsq (go (n + 1) (190, L, (.int y :: .int x :: S), H, cs, ss)) q := by
  subst hgo
  exact res_of s0_190 (res_t hc h)
theorem t0_190f {go : Nat → St → Option ORes} (hgo : go = orun code ret E0 0) {n cs ss : Nat} {L : List Slot} {S : List Value} {H : AH} {q : Option ORes → Prop} {x y : Int32} (hc : ¬ x = y) (h : Rsq (go n (197, L, S, H, cs, ss)) q) : Rsq (go (n + 1) (190, L, (.int y :: .int x :: S), H, cs, ss)) q := by
  subst hgo
  exact res_of s0_190 (res_f hc h)
theorem t0_193 {go : Nat → St → Option ORes} (hgo : go = orun code ret E0 0) {n cs ss : Nat} {L : List Slot} {S : List Value} {H : AH} {q : Option ORes → Prop} (h : Rsq (go n (194, L, (.int 1 :: S), H, cs, ss)) q) : Rsq (go (n + 1) (193, L, S, H, cs, ss)) q := by
  subst hgo
  exact res_of s0_193 h
theorem t0_194 {go : Nat → St → Option ORes} (hgo : go = orun code ret E0 0) {n cs ss : Nat} {L : List Slot} {S : List Value} {H : AH} {q : Option ORes → Prop} (h : Rsq (go n (198, L, S, H, cs, ss)) q) : Rsq (go (n + 1) (194, L, S, H, cs, ss)) q := by
  subst hgo
  exact res_of s0_194 h
theorem t0_197 {go : Nat → St → Option ORes} (hgo : go = orun code ret E0 0) {n cs ss : Nat} {L : List Slot} {S : List Value} {H : AH} {q : Option ORes → Prop} (h : Rsq (go n (198, L, (.int 0 :: S), H, cs, ss)) q) : Rsq (go (n + 1) (197, L, S, H, cs, ss)) q := by
  subst hgo
  exact res_of s0_197 h
theorem t0_198 {go : Nat → St → Option ORes} (hgo : go = orun code ret E0 0) {n cs ss : Nat} {L : List Slot} {S : List Value} {H : AH} {q : Option ORes → Prop} {z : Int32} (h : q (some (some (.int (z &&& 1)), H))) : Rsq (go (n + 1) (198, L, (.int z :: S), H, cs, ss)) q := by
  subst hgo
  exact res_of s0_198 h
theorem qb_6 : (Int8.ofInt 6).toInt32 = 6 := by decide
theorem qb_7 : (Int8.ofInt 7).toInt32 = 7 := by decide
theorem qb_8 : (Int8.ofInt 8).toInt32 = 8 := by decide
theorem qb_9 : (Int8.ofInt 9).toInt32 = 9 := by decide
theorem qb_15 : (Int8.ofInt 15).toInt32 = 15 := by decide
theorem qb_16 : (Int8.ofInt 16).toInt32 = 16 := by decide
theorem qb_24 : (Int8.ofInt 24).toInt32 = 24 := by decide
theorem qb_31 : (Int8.ofInt 31).toInt32 = 31 := by decide
theorem qb_32 : (Int8.ofInt 32).toInt32 = 32 := by decide
theorem qb_40 : (Int8.ofInt 40).toInt32 = 40 := by decide
theorem qb_48 : (Int8.ofInt 48).toInt32 = 48 := by decide
theorem qb_56 : (Int8.ofInt 56).toInt32 = 56 := by decide
theorem qb_63 : (Int8.ofInt 63).toInt32 = 63 := by decide
theorem qc_m1 : Int32.ofInt (-1) = (-1) := by decide
theorem qc_0 : Int32.ofInt 0 = 0 := by decide
theorem qc_1 : Int32.ofInt 1 = 1 := by decide
theorem qc_2 : Int32.ofInt 2 = 2 := by decide
theorem qc_3 : Int32.ofInt 3 = 3 := by decide
theorem qc_4 : Int32.ofInt 4 = 4 := by decide
theorem qc_5 : Int32.ofInt 5 = 5 := by decide
theorem qs_128 : (Int16.ofInt 128).toInt32 = 128 := by decide
theorem qs_143 : (Int16.ofInt 143).toInt32 = 143 := by decide
theorem qs_144 : (Int16.ofInt 144).toInt32 = 144 := by decide
theorem qs_159 : (Int16.ofInt 159).toInt32 = 159 := by decide
theorem qs_160 : (Int16.ofInt 160).toInt32 = 160 := by decide
theorem qs_191 : (Int16.ofInt 191).toInt32 = 191 := by decide
theorem qs_192 : (Int16.ofInt 192).toInt32 = 192 := by decide
theorem qs_194 : (Int16.ofInt 194).toInt32 = 194 := by decide
theorem qs_223 : (Int16.ofInt 223).toInt32 = 223 := by decide
theorem qs_224 : (Int16.ofInt 224).toInt32 = 224 := by decide
theorem qs_225 : (Int16.ofInt 225).toInt32 = 225 := by decide
theorem qs_237 : (Int16.ofInt 237).toInt32 = 237 := by decide
theorem qs_239 : (Int16.ofInt 239).toInt32 = 239 := by decide
theorem qs_240 : (Int16.ofInt 240).toInt32 = 240 := by decide
theorem qs_241 : (Int16.ofInt 241).toInt32 = 241 := by decide
theorem qs_243 : (Int16.ofInt 243).toInt32 = 243 := by decide
theorem qs_244 : (Int16.ofInt 244).toInt32 = 244 := by decide
theorem qs_248 : (Int16.ofInt 248).toInt32 = 248 := by decide
theorem qs_255 : (Int16.ofInt 255).toInt32 = 255 := by decide
theorem qs_2048 : (Int16.ofInt 2048).toInt32 = 2048 := by decide
theorem lt_of {x y : Int32} {a b : Int} (hx : x.toInt = a) (hy : y.toInt = b) (h : a < b) : x < y := by
  rw [Int32.lt_iff_toInt_lt]; omega
theorem nlt_of {x y : Int32} {a b : Int} (hx : x.toInt = a) (hy : y.toInt = b) (h : ¬ a < b) : ¬ x < y := by
  rw [Int32.lt_iff_toInt_lt]; omega
theorem eq_of {x y : Int32} {a b : Int} (hx : x.toInt = a) (hy : y.toInt = b) (h : a = b) : x = y := by
  rw [← Int32.toInt_inj]; omega
theorem neq_of {x y : Int32} {a b : Int} (hx : x.toInt = a) (hy : y.toInt = b) (h : ¬ a = b) : ¬ x = y := by
  rw [← Int32.toInt_inj]; omega
theorem own_fin {u : Int32} (h : 0 ≤ u.toInt ∧ u.toInt ≤ 255) : ∃ k : Fin 256, u = Int32.ofNat k.1 ∧ u.toInt = (k.1 : Int) := by
  refine ⟨⟨u.toInt.toNat, by omega⟩, ?_, by show u.toInt = ((u.toInt.toNat : Nat) : Int); omega⟩
  show u = Int32.ofNat u.toInt.toNat
  rw [← Int32.toInt_inj, Int32.toInt_ofNat_small (by omega)]; omega
theorem m128_k : ∀ k : Fin 256, (Int32.ofNat k.1 &&& 128 = 0) ↔ (0 ≤ k.1 ∧ k.1 ≤ 127) := by decide +kernel
theorem m128 {u : Int32} (h : 0 ≤ u.toInt ∧ u.toInt ≤ 255) : (u &&& 128 = 0) ↔ (0 ≤ u.toInt ∧ u.toInt ≤ 127) := by
  obtain ⟨k, rfl, e⟩ := own_fin h
  rw [m128_k k, e]; omega
theorem m224_k : ∀ k : Fin 256, (Int32.ofNat k.1 &&& 224 = 192) ↔ (192 ≤ k.1 ∧ k.1 ≤ 223) := by decide +kernel
theorem m224 {u : Int32} (h : 0 ≤ u.toInt ∧ u.toInt ≤ 255) : (u &&& 224 = 192) ↔ (192 ≤ u.toInt ∧ u.toInt ≤ 223) := by
  obtain ⟨k, rfl, e⟩ := own_fin h
  rw [m224_k k, e]; omega
theorem m240_k : ∀ k : Fin 256, (Int32.ofNat k.1 &&& 240 = 224) ↔ (224 ≤ k.1 ∧ k.1 ≤ 239) := by decide +kernel
theorem m240 {u : Int32} (h : 0 ≤ u.toInt ∧ u.toInt ≤ 255) : (u &&& 240 = 224) ↔ (224 ≤ u.toInt ∧ u.toInt ≤ 239) := by
  obtain ⟨k, rfl, e⟩ := own_fin h
  rw [m240_k k, e]; omega
theorem m248_k : ∀ k : Fin 256, (Int32.ofNat k.1 &&& 248 = 240) ↔ (240 ≤ k.1 ∧ k.1 ≤ 247) := by decide +kernel
theorem m248 {u : Int32} (h : 0 ≤ u.toInt ∧ u.toInt ≤ 255) : (u &&& 248 = 240) ↔ (240 ≤ u.toInt ∧ u.toInt ≤ 247) := by
  obtain ⟨k, rfl, e⟩ := own_fin h
  rw [m248_k k, e]; omega
theorem m192_k : ∀ k : Fin 256, (Int32.ofNat k.1 &&& 192 = 128) ↔ (128 ≤ k.1 ∧ k.1 ≤ 191) := by decide +kernel
theorem m192 {u : Int32} (h : 0 ≤ u.toInt ∧ u.toInt ≤ 255) : (u &&& 192 = 128) ↔ (128 ≤ u.toInt ∧ u.toInt ≤ 191) := by
  obtain ⟨k, rfl, e⟩ := own_fin h
  rw [m192_k k, e]; omega
theorem own_cp {c u : Int32} {C : Int} (hc : c.toInt = C) (h1 : 0 ≤ C ∧ C < 1048576) (hu : 0 ≤ u.toInt ∧ u.toInt ≤ 255) : ((c <<< ((6 : Int32) &&& 31)) ||| (u &&& 63)).toInt = C * 64 + u.toInt % 64 := by
  have e1 := c_ishl c 6 6 (by decide)
  have r1 := rng32 (c <<< ((6 : Int32) &&& 31))
  have e2 := c_mask u 63 6 (by decide) (by decide)
  generalize c <<< ((6 : Int32) &&& 31) = d at *
  generalize u &&& 63 = w at *
  have hd : d.toInt = C * 64 := by omega
  have e3 := c_or d w 6 (by decide) 64 (by decide) (by omega) (by omega) (by omega)
  have r3 := rng32 (d ||| w)
  omega
def own_at (X : List Value) (j : Nat) : Int32 := match X[j]? with | some (.int x) => x | _ => 0
def csz (d u0 u1 u2 u3 : Int) : Int32 :=
  if u0 < 128 then 1
  else if 194 ≤ u0 ∧ u0 ≤ 223 ∧ 2 ≤ d ∧ 128 ≤ u1 ∧ u1 ≤ 191 then 2
  else if 224 ≤ u0 ∧ u0 ≤ 239 ∧ 3 ≤ d ∧ 128 ≤ u1 ∧ u1 ≤ 191 ∧ (u0 ≠ 224 ∨ 160 ≤ u1) ∧ (u0 ≠ 237 ∨ u1 ≤ 159) ∧ 128 ≤ u2 ∧ u2 ≤ 191 then 3
  else if 240 ≤ u0 ∧ u0 ≤ 244 ∧ 4 ≤ d ∧ 128 ≤ u1 ∧ u1 ≤ 191 ∧ (u0 ≠ 240 ∨ 144 ≤ u1) ∧ (u0 ≠ 244 ∨ u1 ≤ 143) ∧ 128 ≤ u2 ∧ u2 ≤ 191 ∧ 128 ≤ u3 ∧ u3 ≤ 191 then 4
  else -1
theorem csz_cases (d u0 u1 u2 u3 : Int) : csz d u0 u1 u2 u3 = -1 ∨ (csz d u0 u1 u2 u3 = 1) ∨ (csz d u0 u1 u2 u3 = 2 ∧ 2 ≤ d) ∨ (csz d u0 u1 u2 u3 = 3 ∧ 3 ≤ d) ∨ (csz d u0 u1 u2 u3 = 4 ∧ 4 ≤ d) := by
  unfold csz
  repeat' split
  · exact Or.inr (Or.inl rfl)
  · exact Or.inr (Or.inr (Or.inl ⟨rfl, by omega⟩))
  · exact Or.inr (Or.inr (Or.inr (Or.inl ⟨rfl, by omega⟩)))
  · exact Or.inr (Or.inr (Or.inr (Or.inr ⟨rfl, by omega⟩)))
  · exact Or.inl rfl
theorem own_idx {i : Int32} {a : Nat} (hi : i.toInt = (a : Int)) (k : Int32) (c : Nat) (hk : k.toInt = (c : Int)) (h : a + c < 100) : ¬ i + k < 0 ∧ (i + k).toNatClampNeg = a + c := by
  have h1 := c_iadd i k
  have h2 := rng32 (i + k)
  have e0 : (0 : Int32).toInt = 0 := by decide
  refine ⟨?_, ?_⟩
  · rw [Int32.lt_iff_toInt_lt]; omega
  · show (i + k).toInt.toNat = a + c
    omega
theorem own_idx0 {i : Int32} {a : Nat} (hi : i.toInt = (a : Int)) : ¬ i < 0 ∧ i.toNatClampNeg = a := by
  have e0 : (0 : Int32).toInt = 0 := by decide
  refine ⟨?_, ?_⟩
  · rw [Int32.lt_iff_toInt_lt]; omega
  · show i.toInt.toNat = a
    omega
theorem own_sub {n i : Int32} {a b : Nat} (hi : i.toInt = (a : Int)) (hn : n.toInt = (b : Int)) (h1 : a < 100) (h2 : b < 100) : (n - i).toInt = (b : Int) - (a : Int) := by
  have h3 := c_isub n i
  have h4 := rng32 (n - i)
  omega
set_option maxRecDepth 65536 in
set_option maxHeartbeats 4000000 in
theorem F2_eq {X : List Value} {n i : Int32} {a b : Nat} (hX : ∀ j, j < 8 → X[j]? = some (Value.int (own_at X j))) (hi : i.toInt = (a : Int)) (hn : n.toInt = (b : Int)) (hab : a < b) (hb : b ≤ 8) : F2 [.ref 0, .int n, .int i] [.inr (.byte, X)] = some (some (.int (csz ((b : Int) - (a : Int)) (own_at X a &&& 255).toInt (own_at X (a + 1) &&& 255).toInt (own_at X (a + 2) &&& 255).toInt (own_at X (a + 3) &&& 255).toInt)), [.inr (.byte, X)]) := by
  have b0 := c_and (own_at X a) 255 (by decide)
  have b1 := c_and (own_at X (a + 1)) 255 (by decide)
  have b2 := c_and (own_at X (a + 2)) 255 (by decide)
  have b3 := c_and (own_at X (a + 3)) 255 (by decide)
  have e255 : (255 : Int32).toInt = 255 := by decide
  rw [e255] at b0 b1 b2 b3
  obtain ⟨in0, ix0⟩ := own_idx0 hi
  obtain ⟨in1, ix1⟩ := own_idx hi 1 1 (by decide) (by omega)
  obtain ⟨in2, ix2⟩ := own_idx hi 2 2 (by decide) (by omega)
  obtain ⟨in3, ix3⟩ := own_idx hi 3 3 (by decide) (by omega)
  have hx0 := hX a (by omega)
  have hd := own_sub hi hn (by omega) (by omega)
  refine is_of f2_in fun go hgo => ?_
  refine t2_0 hgo rfl ?_
  refine t2_1 hgo ?_
  refine res_of (u2_2 hgo) ?_
  simp only [eq_self, and_self, true_and, and_true, not_true_eq_false, not_false_eq_true, if_true, if_false, reduceIte, Option.bind_some, List.getElem?_cons_zero, List.getElem?_cons_succ, Nat.reduceAdd, Nat.reduceSub, Nat.reduceLT, Nat.reduceLeDiff, Nat.le_refl, Nat.zero_add, Nat.add_zero, List.length_cons, List.length_nil, Int32.reduceLT, Int32.reduceToNatClampNeg, Int32.reduceAdd, Int32.reduceSub, Int32.reduceMul, decide_true, ex_baload, ald, pI_int, pR_ref, arr, isT, isBZ, in0, ix0, hx0]
  refine t2_3 hgo ?_
  refine t2_6 hgo ?_
  refine t2_7 hgo rfl ?_
  refine t2_8 hgo ?_
  refine t2_9 hgo ?_
  refine t2_12 hgo ?_
  by_cases h0 : 0 ≤ (own_at X a &&& 255).toInt ∧ (own_at X a &&& 255).toInt ≤ 127
  · skip
    refine t2_13t hgo ((m128 b0).mpr h0) ?_
    refine t2_16 hgo ?_
    refine t2_17 hgo ?_
    exact is_i (by unfold csz; (repeat' split); all_goals first | rfl | (exfalso; omega)) rfl
  by_cases h1 : 192 ≤ (own_at X a &&& 255).toInt ∧ (own_at X a &&& 255).toInt ≤ 223
  · skip
    refine t2_13f hgo (fun q => h0 ((m128 b0).mp q)) ?_
    refine t2_18 hgo ?_
    refine t2_19 hgo ?_
    refine t2_22 hgo ?_
    refine t2_23 hgo ?_
    refine t2_26t hgo ((m224 b0).mpr h1) ?_
    refine t2_29 hgo ?_
    refine t2_30 hgo rfl ?_
    refine t2_32 hgo ?_
    refine t2_33 hgo ?_
    refine t2_35 hgo ?_
    refine t2_36 hgo rfl ?_
    refine t2_38 hgo ?_
    refine t2_89 hgo ?_
    refine t2_90 hgo ?_
    refine t2_91 hgo ?_
    refine t2_92 hgo ?_
    by_cases hs : (b : Int) - (a : Int) < 2
    · skip
      refine t2_94t hgo (lt_of hd (by decide : (2 : Int32).toInt = 2) hs) ?_
      refine t2_97 hgo ?_
      refine t2_98 hgo ?_
      exact is_i (by unfold csz; (repeat' split); all_goals first | rfl | (exfalso; omega)) rfl
    · have hx1 := hX (a + 1) (by omega)
      have z0 := c_mask (own_at X a &&& 255) 31 5 (by decide) (by decide)
      have z0' : ((own_at X a &&& 255) &&& 31).toInt = (own_at X a &&& 255).toInt % 32 := by rw [z0]; omega
      refine t2_94f hgo (nlt_of hd (by decide : (2 : Int32).toInt = 2) hs) ?_
      refine t2_99 hgo rfl ?_
      refine t2_100 hgo ?_
      refine t2_101 hgo ?_
      refine t2_102 hgo ?_
      refine res_of (u2_103 hgo) ?_
      simp only [eq_self, and_self, true_and, and_true, not_true_eq_false, not_false_eq_true, if_true, if_false, reduceIte, Option.bind_some, List.getElem?_cons_zero, List.getElem?_cons_succ, Nat.reduceAdd, Nat.reduceSub, Nat.reduceLT, Nat.reduceLeDiff, Nat.le_refl, Nat.zero_add, Nat.add_zero, List.length_cons, List.length_nil, Int32.reduceLT, Int32.reduceToNatClampNeg, Int32.reduceAdd, Int32.reduceSub, Int32.reduceMul, decide_true, ex_baload, ald, pI_int, pR_ref, arr, isT, isBZ, in1, ix1, hx1]
      refine t2_104 hgo ?_
      refine t2_107 hgo ?_
      refine t2_108 hgo rfl ?_
      refine t2_110 hgo ?_
      refine t2_112 hgo ?_
      refine t2_115 hgo ?_
      refine t2_116 hgo ?_
      by_cases c1 : 128 ≤ (own_at X (a + 1) &&& 255).toInt ∧ (own_at X (a + 1) &&& 255).toInt ≤ 191
      rotate_left
      · skip
        refine t2_119f hgo (fun q => c1 ((m192 b1).mp q)) ?_
        refine t2_122 hgo ?_
        refine t2_123 hgo ?_
        exact is_i (by unfold csz; (repeat' split); all_goals first | rfl | (exfalso; omega)) rfl
      have z1 := own_cp z0' (by omega) b1
      refine t2_119t hgo ((m192 b1).mpr c1) ?_
      refine t2_124 hgo ?_
      refine t2_126 hgo ?_
      refine t2_128 hgo ?_
      refine t2_129 hgo ?_
      refine t2_131 hgo ?_
      refine t2_133 hgo ?_
      refine t2_134 hgo ?_
      refine t2_135 hgo rfl ?_
      refine t2_137 hgo ?_
      refine t2_139 hgo ?_
      refine t2_140t hgo (by decide) ?_
      refine t2_181 hgo ?_
      refine t2_183 hgo ?_
      refine t2_184f hgo (by decide) ?_
      refine t2_225 hgo ?_
      refine t2_227 hgo ?_
      refine t2_228t hgo rfl ?_
      refine t2_231 hgo ?_
      refine t2_234 hgo ?_
      refine t2_251 hgo rfl ?_
      refine t2_253 hgo ?_
      refine t2_255 hgo ?_
      by_cases k1 : ((own_at X a &&& 255).toInt % 32) * 64 + (own_at X (a + 1) &&& 255).toInt % 64 < 128
      · skip
        refine t2_257t hgo (lt_of z1 (by decide : (128 : Int32).toInt = 128) k1) ?_
        refine t2_267 hgo ?_
        refine t2_268 hgo ?_
        exact is_i (by unfold csz; (repeat' split); all_goals first | rfl | (exfalso; omega)) rfl
      by_cases k2 : 1114111 < ((own_at X a &&& 255).toInt % 32) * 64 + (own_at X (a + 1) &&& 255).toInt % 64
      · skip
        refine t2_257f hgo (nlt_of z1 (by decide : (128 : Int32).toInt = 128) k1) ?_
        refine t2_260 hgo ?_
        refine t2_262 hgo ?_
        refine t2_264t hgo (lt_of (by decide : (1114111 : Int32).toInt = 1114111) z1 k2) ?_
        refine t2_267 hgo ?_
        refine t2_268 hgo ?_
        exact is_i (by unfold csz; (repeat' split); all_goals first | rfl | (exfalso; omega)) rfl
      by_cases k3 : ((own_at X a &&& 255).toInt % 32) * 64 + (own_at X (a + 1) &&& 255).toInt % 64 < 55296
      · skip
        refine t2_257f hgo (nlt_of z1 (by decide : (128 : Int32).toInt = 128) k1) ?_
        refine t2_260 hgo ?_
        refine t2_262 hgo ?_
        refine t2_264f hgo (nlt_of (by decide : (1114111 : Int32).toInt = 1114111) z1 k2) ?_
        refine t2_269 hgo ?_
        refine t2_271 hgo ?_
        refine t2_273t hgo (lt_of z1 (by decide : (55296 : Int32).toInt = 55296) k3) ?_
        refine t2_285 hgo ?_
        refine t2_287 hgo ?_
        exact is_i (by unfold csz; (repeat' split); all_goals first | rfl | (exfalso; omega)) rfl
      by_cases k4 : 57343 < ((own_at X a &&& 255).toInt % 32) * 64 + (own_at X (a + 1) &&& 255).toInt % 64
      · skip
        refine t2_257f hgo (nlt_of z1 (by decide : (128 : Int32).toInt = 128) k1) ?_
        refine t2_260 hgo ?_
        refine t2_262 hgo ?_
        refine t2_264f hgo (nlt_of (by decide : (1114111 : Int32).toInt = 1114111) z1 k2) ?_
        refine t2_269 hgo ?_
        refine t2_271 hgo ?_
        refine t2_273f hgo (nlt_of z1 (by decide : (55296 : Int32).toInt = 55296) k3) ?_
        refine t2_276 hgo ?_
        refine t2_278 hgo ?_
        refine t2_280t hgo (lt_of (by decide : (57343 : Int32).toInt = 57343) z1 k4) ?_
        refine t2_285 hgo ?_
        refine t2_287 hgo ?_
        exact is_i (by unfold csz; (repeat' split); all_goals first | rfl | (exfalso; omega)) rfl
      · skip
        refine t2_257f hgo (nlt_of z1 (by decide : (128 : Int32).toInt = 128) k1) ?_
        refine t2_260 hgo ?_
        refine t2_262 hgo ?_
        refine t2_264f hgo (nlt_of (by decide : (1114111 : Int32).toInt = 1114111) z1 k2) ?_
        refine t2_269 hgo ?_
        refine t2_271 hgo ?_
        refine t2_273f hgo (nlt_of z1 (by decide : (55296 : Int32).toInt = 55296) k3) ?_
        refine t2_276 hgo ?_
        refine t2_278 hgo ?_
        refine t2_280f hgo (nlt_of (by decide : (57343 : Int32).toInt = 57343) z1 k4) ?_
        refine t2_283 hgo ?_
        refine t2_284 hgo ?_
        exact is_i (by unfold csz; (repeat' split); all_goals first | rfl | (exfalso; omega)) rfl
  by_cases h2 : 224 ≤ (own_at X a &&& 255).toInt ∧ (own_at X a &&& 255).toInt ≤ 239
  · skip
    refine t2_13f hgo (fun q => h0 ((m128 b0).mp q)) ?_
    refine t2_18 hgo ?_
    refine t2_19 hgo ?_
    refine t2_22 hgo ?_
    refine t2_23 hgo ?_
    refine t2_26f hgo (fun q => h1 ((m224 b0).mp q)) ?_
    refine t2_41 hgo ?_
    refine t2_42 hgo ?_
    refine t2_45 hgo ?_
    refine t2_46 hgo ?_
    refine t2_49t hgo ((m240 b0).mpr h2) ?_
    refine t2_52 hgo ?_
    refine t2_53 hgo rfl ?_
    refine t2_55 hgo ?_
    refine t2_56 hgo ?_
    refine t2_58 hgo ?_
    refine t2_59 hgo rfl ?_
    refine t2_61 hgo ?_
    refine t2_89 hgo ?_
    refine t2_90 hgo ?_
    refine t2_91 hgo ?_
    refine t2_92 hgo ?_
    by_cases hs : (b : Int) - (a : Int) < 3
    · skip
      refine t2_94t hgo (lt_of hd (by decide : (3 : Int32).toInt = 3) hs) ?_
      refine t2_97 hgo ?_
      refine t2_98 hgo ?_
      exact is_i (by unfold csz; (repeat' split); all_goals first | rfl | (exfalso; omega)) rfl
    · have hx1 := hX (a + 1) (by omega)
      have hx2 := hX (a + 2) (by omega)
      have z0 := c_mask (own_at X a &&& 255) 15 4 (by decide) (by decide)
      have z0' : ((own_at X a &&& 255) &&& 15).toInt = (own_at X a &&& 255).toInt % 16 := by rw [z0]; omega
      refine t2_94f hgo (nlt_of hd (by decide : (3 : Int32).toInt = 3) hs) ?_
      refine t2_99 hgo rfl ?_
      refine t2_100 hgo ?_
      refine t2_101 hgo ?_
      refine t2_102 hgo ?_
      refine res_of (u2_103 hgo) ?_
      simp only [eq_self, and_self, true_and, and_true, not_true_eq_false, not_false_eq_true, if_true, if_false, reduceIte, Option.bind_some, List.getElem?_cons_zero, List.getElem?_cons_succ, Nat.reduceAdd, Nat.reduceSub, Nat.reduceLT, Nat.reduceLeDiff, Nat.le_refl, Nat.zero_add, Nat.add_zero, List.length_cons, List.length_nil, Int32.reduceLT, Int32.reduceToNatClampNeg, Int32.reduceAdd, Int32.reduceSub, Int32.reduceMul, decide_true, ex_baload, ald, pI_int, pR_ref, arr, isT, isBZ, in1, ix1, hx1]
      refine t2_104 hgo ?_
      refine t2_107 hgo ?_
      refine t2_108 hgo rfl ?_
      refine t2_110 hgo ?_
      refine t2_112 hgo ?_
      refine t2_115 hgo ?_
      refine t2_116 hgo ?_
      by_cases c1 : 128 ≤ (own_at X (a + 1) &&& 255).toInt ∧ (own_at X (a + 1) &&& 255).toInt ≤ 191
      rotate_left
      · skip
        refine t2_119f hgo (fun q => c1 ((m192 b1).mp q)) ?_
        refine t2_122 hgo ?_
        refine t2_123 hgo ?_
        exact is_i (by unfold csz; (repeat' split); all_goals first | rfl | (exfalso; omega)) rfl
      have z1 := own_cp z0' (by omega) b1
      refine t2_119t hgo ((m192 b1).mpr c1) ?_
      refine t2_124 hgo ?_
      refine t2_126 hgo ?_
      refine t2_128 hgo ?_
      refine t2_129 hgo ?_
      refine t2_131 hgo ?_
      refine t2_133 hgo ?_
      refine t2_134 hgo ?_
      refine t2_135 hgo rfl ?_
      refine t2_137 hgo ?_
      refine t2_139 hgo ?_
      refine t2_140f hgo (by decide) ?_
      refine t2_143 hgo rfl ?_
      refine t2_144 hgo ?_
      refine t2_145 hgo ?_
      refine t2_146 hgo ?_
      refine res_of (u2_147 hgo) ?_
      simp only [eq_self, and_self, true_and, and_true, not_true_eq_false, not_false_eq_true, if_true, if_false, reduceIte, Option.bind_some, List.getElem?_cons_zero, List.getElem?_cons_succ, Nat.reduceAdd, Nat.reduceSub, Nat.reduceLT, Nat.reduceLeDiff, Nat.le_refl, Nat.zero_add, Nat.add_zero, List.length_cons, List.length_nil, Int32.reduceLT, Int32.reduceToNatClampNeg, Int32.reduceAdd, Int32.reduceSub, Int32.reduceMul, decide_true, ex_baload, ald, pI_int, pR_ref, arr, isT, isBZ, in2, ix2, hx2]
      refine t2_148 hgo ?_
      refine t2_151 hgo ?_
      refine t2_152 hgo rfl ?_
      refine t2_154 hgo ?_
      refine t2_156 hgo ?_
      refine t2_159 hgo ?_
      refine t2_160 hgo ?_
      by_cases c2 : 128 ≤ (own_at X (a + 2) &&& 255).toInt ∧ (own_at X (a + 2) &&& 255).toInt ≤ 191
      rotate_left
      · skip
        refine t2_163f hgo (fun q => c2 ((m192 b2).mp q)) ?_
        refine t2_166 hgo ?_
        refine t2_167 hgo ?_
        exact is_i (by unfold csz; (repeat' split); all_goals first | rfl | (exfalso; omega)) rfl
      have z2 := own_cp z1 (by omega) b2
      refine t2_163t hgo ((m192 b2).mpr c2) ?_
      refine t2_168 hgo ?_
      refine t2_170 hgo ?_
      refine t2_172 hgo ?_
      refine t2_173 hgo ?_
      refine t2_175 hgo ?_
      refine t2_177 hgo ?_
      refine t2_178 hgo ?_
      refine t2_179 hgo rfl ?_
      refine t2_181 hgo ?_
      refine t2_183 hgo ?_
      refine t2_184f hgo (by decide) ?_
      refine t2_225 hgo ?_
      refine t2_227 hgo ?_
      refine t2_228f hgo (by decide) ?_
      refine t2_237 hgo ?_
      refine t2_239 hgo ?_
      refine t2_240t hgo rfl ?_
      refine t2_243 hgo ?_
      refine t2_246 hgo ?_
      refine t2_251 hgo rfl ?_
      refine t2_253 hgo ?_
      refine t2_255 hgo ?_
      by_cases k1 : (((own_at X a &&& 255).toInt % 16) * 64 + (own_at X (a + 1) &&& 255).toInt % 64) * 64 + (own_at X (a + 2) &&& 255).toInt % 64 < 2048
      · skip
        refine t2_257t hgo (lt_of z2 (by decide : (2048 : Int32).toInt = 2048) k1) ?_
        refine t2_267 hgo ?_
        refine t2_268 hgo ?_
        exact is_i (by unfold csz; (repeat' split); all_goals first | rfl | (exfalso; omega)) rfl
      by_cases k2 : 1114111 < (((own_at X a &&& 255).toInt % 16) * 64 + (own_at X (a + 1) &&& 255).toInt % 64) * 64 + (own_at X (a + 2) &&& 255).toInt % 64
      · skip
        refine t2_257f hgo (nlt_of z2 (by decide : (2048 : Int32).toInt = 2048) k1) ?_
        refine t2_260 hgo ?_
        refine t2_262 hgo ?_
        refine t2_264t hgo (lt_of (by decide : (1114111 : Int32).toInt = 1114111) z2 k2) ?_
        refine t2_267 hgo ?_
        refine t2_268 hgo ?_
        exact is_i (by unfold csz; (repeat' split); all_goals first | rfl | (exfalso; omega)) rfl
      by_cases k3 : (((own_at X a &&& 255).toInt % 16) * 64 + (own_at X (a + 1) &&& 255).toInt % 64) * 64 + (own_at X (a + 2) &&& 255).toInt % 64 < 55296
      · skip
        refine t2_257f hgo (nlt_of z2 (by decide : (2048 : Int32).toInt = 2048) k1) ?_
        refine t2_260 hgo ?_
        refine t2_262 hgo ?_
        refine t2_264f hgo (nlt_of (by decide : (1114111 : Int32).toInt = 1114111) z2 k2) ?_
        refine t2_269 hgo ?_
        refine t2_271 hgo ?_
        refine t2_273t hgo (lt_of z2 (by decide : (55296 : Int32).toInt = 55296) k3) ?_
        refine t2_285 hgo ?_
        refine t2_287 hgo ?_
        exact is_i (by unfold csz; (repeat' split); all_goals first | rfl | (exfalso; omega)) rfl
      by_cases k4 : 57343 < (((own_at X a &&& 255).toInt % 16) * 64 + (own_at X (a + 1) &&& 255).toInt % 64) * 64 + (own_at X (a + 2) &&& 255).toInt % 64
      · skip
        refine t2_257f hgo (nlt_of z2 (by decide : (2048 : Int32).toInt = 2048) k1) ?_
        refine t2_260 hgo ?_
        refine t2_262 hgo ?_
        refine t2_264f hgo (nlt_of (by decide : (1114111 : Int32).toInt = 1114111) z2 k2) ?_
        refine t2_269 hgo ?_
        refine t2_271 hgo ?_
        refine t2_273f hgo (nlt_of z2 (by decide : (55296 : Int32).toInt = 55296) k3) ?_
        refine t2_276 hgo ?_
        refine t2_278 hgo ?_
        refine t2_280t hgo (lt_of (by decide : (57343 : Int32).toInt = 57343) z2 k4) ?_
        refine t2_285 hgo ?_
        refine t2_287 hgo ?_
        exact is_i (by unfold csz; (repeat' split); all_goals first | rfl | (exfalso; omega)) rfl
      · skip
        refine t2_257f hgo (nlt_of z2 (by decide : (2048 : Int32).toInt = 2048) k1) ?_
        refine t2_260 hgo ?_
        refine t2_262 hgo ?_
        refine t2_264f hgo (nlt_of (by decide : (1114111 : Int32).toInt = 1114111) z2 k2) ?_
        refine t2_269 hgo ?_
        refine t2_271 hgo ?_
        refine t2_273f hgo (nlt_of z2 (by decide : (55296 : Int32).toInt = 55296) k3) ?_
        refine t2_276 hgo ?_
        refine t2_278 hgo ?_
        refine t2_280f hgo (nlt_of (by decide : (57343 : Int32).toInt = 57343) z2 k4) ?_
        refine t2_283 hgo ?_
        refine t2_284 hgo ?_
        exact is_i (by unfold csz; (repeat' split); all_goals first | rfl | (exfalso; omega)) rfl
  by_cases h3 : 240 ≤ (own_at X a &&& 255).toInt ∧ (own_at X a &&& 255).toInt ≤ 247
  · skip
    refine t2_13f hgo (fun q => h0 ((m128 b0).mp q)) ?_
    refine t2_18 hgo ?_
    refine t2_19 hgo ?_
    refine t2_22 hgo ?_
    refine t2_23 hgo ?_
    refine t2_26f hgo (fun q => h1 ((m224 b0).mp q)) ?_
    refine t2_41 hgo ?_
    refine t2_42 hgo ?_
    refine t2_45 hgo ?_
    refine t2_46 hgo ?_
    refine t2_49f hgo (fun q => h2 ((m240 b0).mp q)) ?_
    refine t2_64 hgo ?_
    refine t2_65 hgo ?_
    refine t2_68 hgo ?_
    refine t2_69 hgo ?_
    refine t2_72t hgo ((m248 b0).mpr h3) ?_
    refine t2_75 hgo ?_
    refine t2_76 hgo rfl ?_
    refine t2_78 hgo ?_
    refine t2_79 hgo ?_
    refine t2_81 hgo ?_
    refine t2_82 hgo rfl ?_
    refine t2_84 hgo ?_
    refine t2_89 hgo ?_
    refine t2_90 hgo ?_
    refine t2_91 hgo ?_
    refine t2_92 hgo ?_
    by_cases hs : (b : Int) - (a : Int) < 4
    · skip
      refine t2_94t hgo (lt_of hd (by decide : (4 : Int32).toInt = 4) hs) ?_
      refine t2_97 hgo ?_
      refine t2_98 hgo ?_
      exact is_i (by unfold csz; (repeat' split); all_goals first | rfl | (exfalso; omega)) rfl
    · have hx1 := hX (a + 1) (by omega)
      have hx2 := hX (a + 2) (by omega)
      have hx3 := hX (a + 3) (by omega)
      have z0 := c_mask (own_at X a &&& 255) 7 3 (by decide) (by decide)
      have z0' : ((own_at X a &&& 255) &&& 7).toInt = (own_at X a &&& 255).toInt % 8 := by rw [z0]; omega
      refine t2_94f hgo (nlt_of hd (by decide : (4 : Int32).toInt = 4) hs) ?_
      refine t2_99 hgo rfl ?_
      refine t2_100 hgo ?_
      refine t2_101 hgo ?_
      refine t2_102 hgo ?_
      refine res_of (u2_103 hgo) ?_
      simp only [eq_self, and_self, true_and, and_true, not_true_eq_false, not_false_eq_true, if_true, if_false, reduceIte, Option.bind_some, List.getElem?_cons_zero, List.getElem?_cons_succ, Nat.reduceAdd, Nat.reduceSub, Nat.reduceLT, Nat.reduceLeDiff, Nat.le_refl, Nat.zero_add, Nat.add_zero, List.length_cons, List.length_nil, Int32.reduceLT, Int32.reduceToNatClampNeg, Int32.reduceAdd, Int32.reduceSub, Int32.reduceMul, decide_true, ex_baload, ald, pI_int, pR_ref, arr, isT, isBZ, in1, ix1, hx1]
      refine t2_104 hgo ?_
      refine t2_107 hgo ?_
      refine t2_108 hgo rfl ?_
      refine t2_110 hgo ?_
      refine t2_112 hgo ?_
      refine t2_115 hgo ?_
      refine t2_116 hgo ?_
      by_cases c1 : 128 ≤ (own_at X (a + 1) &&& 255).toInt ∧ (own_at X (a + 1) &&& 255).toInt ≤ 191
      rotate_left
      · skip
        refine t2_119f hgo (fun q => c1 ((m192 b1).mp q)) ?_
        refine t2_122 hgo ?_
        refine t2_123 hgo ?_
        exact is_i (by unfold csz; (repeat' split); all_goals first | rfl | (exfalso; omega)) rfl
      have z1 := own_cp z0' (by omega) b1
      refine t2_119t hgo ((m192 b1).mpr c1) ?_
      refine t2_124 hgo ?_
      refine t2_126 hgo ?_
      refine t2_128 hgo ?_
      refine t2_129 hgo ?_
      refine t2_131 hgo ?_
      refine t2_133 hgo ?_
      refine t2_134 hgo ?_
      refine t2_135 hgo rfl ?_
      refine t2_137 hgo ?_
      refine t2_139 hgo ?_
      refine t2_140f hgo (by decide) ?_
      refine t2_143 hgo rfl ?_
      refine t2_144 hgo ?_
      refine t2_145 hgo ?_
      refine t2_146 hgo ?_
      refine res_of (u2_147 hgo) ?_
      simp only [eq_self, and_self, true_and, and_true, not_true_eq_false, not_false_eq_true, if_true, if_false, reduceIte, Option.bind_some, List.getElem?_cons_zero, List.getElem?_cons_succ, Nat.reduceAdd, Nat.reduceSub, Nat.reduceLT, Nat.reduceLeDiff, Nat.le_refl, Nat.zero_add, Nat.add_zero, List.length_cons, List.length_nil, Int32.reduceLT, Int32.reduceToNatClampNeg, Int32.reduceAdd, Int32.reduceSub, Int32.reduceMul, decide_true, ex_baload, ald, pI_int, pR_ref, arr, isT, isBZ, in2, ix2, hx2]
      refine t2_148 hgo ?_
      refine t2_151 hgo ?_
      refine t2_152 hgo rfl ?_
      refine t2_154 hgo ?_
      refine t2_156 hgo ?_
      refine t2_159 hgo ?_
      refine t2_160 hgo ?_
      by_cases c2 : 128 ≤ (own_at X (a + 2) &&& 255).toInt ∧ (own_at X (a + 2) &&& 255).toInt ≤ 191
      rotate_left
      · skip
        refine t2_163f hgo (fun q => c2 ((m192 b2).mp q)) ?_
        refine t2_166 hgo ?_
        refine t2_167 hgo ?_
        exact is_i (by unfold csz; (repeat' split); all_goals first | rfl | (exfalso; omega)) rfl
      have z2 := own_cp z1 (by omega) b2
      refine t2_163t hgo ((m192 b2).mpr c2) ?_
      refine t2_168 hgo ?_
      refine t2_170 hgo ?_
      refine t2_172 hgo ?_
      refine t2_173 hgo ?_
      refine t2_175 hgo ?_
      refine t2_177 hgo ?_
      refine t2_178 hgo ?_
      refine t2_179 hgo rfl ?_
      refine t2_181 hgo ?_
      refine t2_183 hgo ?_
      refine t2_184t hgo rfl ?_
      refine t2_187 hgo rfl ?_
      refine t2_188 hgo ?_
      refine t2_189 hgo ?_
      refine t2_190 hgo ?_
      refine res_of (u2_191 hgo) ?_
      simp only [eq_self, and_self, true_and, and_true, not_true_eq_false, not_false_eq_true, if_true, if_false, reduceIte, Option.bind_some, List.getElem?_cons_zero, List.getElem?_cons_succ, Nat.reduceAdd, Nat.reduceSub, Nat.reduceLT, Nat.reduceLeDiff, Nat.le_refl, Nat.zero_add, Nat.add_zero, List.length_cons, List.length_nil, Int32.reduceLT, Int32.reduceToNatClampNeg, Int32.reduceAdd, Int32.reduceSub, Int32.reduceMul, decide_true, ex_baload, ald, pI_int, pR_ref, arr, isT, isBZ, in3, ix3, hx3]
      refine t2_192 hgo ?_
      refine t2_195 hgo ?_
      refine t2_196 hgo rfl ?_
      refine t2_198 hgo ?_
      refine t2_200 hgo ?_
      refine t2_203 hgo ?_
      refine t2_204 hgo ?_
      by_cases c3 : 128 ≤ (own_at X (a + 3) &&& 255).toInt ∧ (own_at X (a + 3) &&& 255).toInt ≤ 191
      rotate_left
      · skip
        refine t2_207f hgo (fun q => c3 ((m192 b3).mp q)) ?_
        refine t2_210 hgo ?_
        refine t2_211 hgo ?_
        exact is_i (by unfold csz; (repeat' split); all_goals first | rfl | (exfalso; omega)) rfl
      have z3 := own_cp z2 (by omega) b3
      refine t2_207t hgo ((m192 b3).mpr c3) ?_
      refine t2_212 hgo ?_
      refine t2_214 hgo ?_
      refine t2_216 hgo ?_
      refine t2_217 hgo ?_
      refine t2_219 hgo ?_
      refine t2_221 hgo ?_
      refine t2_222 hgo ?_
      refine t2_223 hgo rfl ?_
      refine t2_225 hgo ?_
      refine t2_227 hgo ?_
      refine t2_228f hgo (by decide) ?_
      refine t2_237 hgo ?_
      refine t2_239 hgo ?_
      refine t2_240f hgo (by decide) ?_
      refine t2_249 hgo ?_
      refine t2_251 hgo rfl ?_
      refine t2_253 hgo ?_
      refine t2_255 hgo ?_
      by_cases k1 : ((((own_at X a &&& 255).toInt % 8) * 64 + (own_at X (a + 1) &&& 255).toInt % 64) * 64 + (own_at X (a + 2) &&& 255).toInt % 64) * 64 + (own_at X (a + 3) &&& 255).toInt % 64 < 65536
      · skip
        refine t2_257t hgo (lt_of z3 (by decide : (65536 : Int32).toInt = 65536) k1) ?_
        refine t2_267 hgo ?_
        refine t2_268 hgo ?_
        exact is_i (by unfold csz; (repeat' split); all_goals first | rfl | (exfalso; omega)) rfl
      by_cases k2 : 1114111 < ((((own_at X a &&& 255).toInt % 8) * 64 + (own_at X (a + 1) &&& 255).toInt % 64) * 64 + (own_at X (a + 2) &&& 255).toInt % 64) * 64 + (own_at X (a + 3) &&& 255).toInt % 64
      · skip
        refine t2_257f hgo (nlt_of z3 (by decide : (65536 : Int32).toInt = 65536) k1) ?_
        refine t2_260 hgo ?_
        refine t2_262 hgo ?_
        refine t2_264t hgo (lt_of (by decide : (1114111 : Int32).toInt = 1114111) z3 k2) ?_
        refine t2_267 hgo ?_
        refine t2_268 hgo ?_
        exact is_i (by unfold csz; (repeat' split); all_goals first | rfl | (exfalso; omega)) rfl
      by_cases k3 : ((((own_at X a &&& 255).toInt % 8) * 64 + (own_at X (a + 1) &&& 255).toInt % 64) * 64 + (own_at X (a + 2) &&& 255).toInt % 64) * 64 + (own_at X (a + 3) &&& 255).toInt % 64 < 55296
      · skip
        refine t2_257f hgo (nlt_of z3 (by decide : (65536 : Int32).toInt = 65536) k1) ?_
        refine t2_260 hgo ?_
        refine t2_262 hgo ?_
        refine t2_264f hgo (nlt_of (by decide : (1114111 : Int32).toInt = 1114111) z3 k2) ?_
        refine t2_269 hgo ?_
        refine t2_271 hgo ?_
        refine t2_273t hgo (lt_of z3 (by decide : (55296 : Int32).toInt = 55296) k3) ?_
        refine t2_285 hgo ?_
        refine t2_287 hgo ?_
        exact is_i (by unfold csz; (repeat' split); all_goals first | rfl | (exfalso; omega)) rfl
      by_cases k4 : 57343 < ((((own_at X a &&& 255).toInt % 8) * 64 + (own_at X (a + 1) &&& 255).toInt % 64) * 64 + (own_at X (a + 2) &&& 255).toInt % 64) * 64 + (own_at X (a + 3) &&& 255).toInt % 64
      · skip
        refine t2_257f hgo (nlt_of z3 (by decide : (65536 : Int32).toInt = 65536) k1) ?_
        refine t2_260 hgo ?_
        refine t2_262 hgo ?_
        refine t2_264f hgo (nlt_of (by decide : (1114111 : Int32).toInt = 1114111) z3 k2) ?_
        refine t2_269 hgo ?_
        refine t2_271 hgo ?_
        refine t2_273f hgo (nlt_of z3 (by decide : (55296 : Int32).toInt = 55296) k3) ?_
        refine t2_276 hgo ?_
        refine t2_278 hgo ?_
        refine t2_280t hgo (lt_of (by decide : (57343 : Int32).toInt = 57343) z3 k4) ?_
        refine t2_285 hgo ?_
        refine t2_287 hgo ?_
        exact is_i (by unfold csz; (repeat' split); all_goals first | rfl | (exfalso; omega)) rfl
      · skip
        refine t2_257f hgo (nlt_of z3 (by decide : (65536 : Int32).toInt = 65536) k1) ?_
        refine t2_260 hgo ?_
        refine t2_262 hgo ?_
        refine t2_264f hgo (nlt_of (by decide : (1114111 : Int32).toInt = 1114111) z3 k2) ?_
        refine t2_269 hgo ?_
        refine t2_271 hgo ?_
        refine t2_273f hgo (nlt_of z3 (by decide : (55296 : Int32).toInt = 55296) k3) ?_
        refine t2_276 hgo ?_
        refine t2_278 hgo ?_
        refine t2_280f hgo (nlt_of (by decide : (57343 : Int32).toInt = 57343) z3 k4) ?_
        refine t2_283 hgo ?_
        refine t2_284 hgo ?_
        exact is_i (by unfold csz; (repeat' split); all_goals first | rfl | (exfalso; omega)) rfl
  · skip
    refine t2_13f hgo (fun q => h0 ((m128 b0).mp q)) ?_
    refine t2_18 hgo ?_
    refine t2_19 hgo ?_
    refine t2_22 hgo ?_
    refine t2_23 hgo ?_
    refine t2_26f hgo (fun q => h1 ((m224 b0).mp q)) ?_
    refine t2_41 hgo ?_
    refine t2_42 hgo ?_
    refine t2_45 hgo ?_
    refine t2_46 hgo ?_
    refine t2_49f hgo (fun q => h2 ((m240 b0).mp q)) ?_
    refine t2_64 hgo ?_
    refine t2_65 hgo ?_
    refine t2_68 hgo ?_
    refine t2_69 hgo ?_
    refine t2_72f hgo (fun q => h3 ((m248 b0).mp q)) ?_
    refine t2_87 hgo ?_
    refine t2_88 hgo ?_
    exact is_i (by unfold csz; (repeat' split); all_goals first | rfl | (exfalso; omega)) rfl
set_option maxRecDepth 65536 in
set_option maxHeartbeats 4000000 in
theorem turn {go : Nat → St → Option ORes} (hgo : go = orun prog_64_method_2_code (Option.some Jvm.ClassFile.FieldType.boolean) E3 0) {X : List Value} {n i : Int32} {a b : Nat} (hX : ∀ j, j < 8 → X[j]? = some (Value.int (own_at X j))) (hi : i.toInt = (a : Int)) (hn : n.toInt = (b : Int)) (hab : a < b) (hb : b ≤ 8) {N cs ss : Nat} {l3 l4 l5 l6 l7 l8 : Slot} {q : Option ORes → Prop} (s3 : so l3 = true) (s4 : so l4 = true) (s5 : so l5 = true) (s6 : so l6 = true) (s7 : so l7 = true) (s8 : so l8 = true) (hN : 200 ≤ N) (hbad : csz ((b : Int) - (a : Int)) (own_at X a &&& 255).toInt (own_at X (a + 1) &&& 255).toInt (own_at X (a + 2) &&& 255).toInt (own_at X (a + 3) &&& 255).toInt = -1 → q (some (some (.int (0 &&& 1)), [.inr (.byte, X)]))) (hgood : ¬ csz ((b : Int) - (a : Int)) (own_at X a &&& 255).toInt (own_at X (a + 1) &&& 255).toInt (own_at X (a + 2) &&& 255).toInt (own_at X (a + 3) &&& 255).toInt = -1 → ∀ (N' : Nat) (l3 l4 l5 l6 l7 l8 : Slot), N ≤ N' + 200 → so l3 = true → so l4 = true → so l5 = true → so l6 = true → so l7 = true → so l8 = true → Rsq (go (N') (2, [.val (.ref 0), .val (.int n), .val (.int (i + csz ((b : Int) - (a : Int)) (own_at X a &&& 255).toInt (own_at X (a + 1) &&& 255).toInt (own_at X (a + 2) &&& 255).toInt (own_at X (a + 3) &&& 255).toInt)), l3, l4, l5, l6, l7, l8], [], [.inr (.byte, X)], cs, ss)) q) : Rsq (go (N) (2, [.val (.ref 0), .val (.int n), .val (.int i), l3, l4, l5, l6, l7, l8], [], [.inr (.byte, X)], cs, ss)) q := by
  have b0 := c_and (own_at X a) 255 (by decide)
  have b1 := c_and (own_at X (a + 1)) 255 (by decide)
  have b2 := c_and (own_at X (a + 2)) 255 (by decide)
  have b3 := c_and (own_at X (a + 3)) 255 (by decide)
  have e255 : (255 : Int32).toInt = 255 := by decide
  rw [e255] at b0 b1 b2 b3
  obtain ⟨in0, ix0⟩ := own_idx0 hi
  obtain ⟨in1, ix1⟩ := own_idx hi 1 1 (by decide) (by omega)
  obtain ⟨in2, ix2⟩ := own_idx hi 2 2 (by decide) (by omega)
  obtain ⟨in3, ix3⟩ := own_idx hi 3 3 (by decide) (by omega)
  have hx0 := hX a (by omega)
  have hd := own_sub hi hn (by omega) (by omega)
  obtain ⟨m, rfl⟩ : ∃ m, N = m + 200 := ⟨N - 200, by omega⟩
  have hlt : i < n := lt_of hi hn (by omega)
  refine t3_2 hgo ?_
  refine t3_3 hgo ?_
  refine t3_4t hgo hlt ?_
  refine t3_7 hgo rfl ?_
  refine t3_8 hgo ?_
  refine res_of (u3_9 hgo) ?_
  simp only [eq_self, and_self, true_and, and_true, not_true_eq_false, not_false_eq_true, if_true, if_false, reduceIte, Option.bind_some, List.getElem?_cons_zero, List.getElem?_cons_succ, Nat.reduceAdd, Nat.reduceSub, Nat.reduceLT, Nat.reduceLeDiff, Nat.le_refl, Nat.zero_add, Nat.add_zero, List.length_cons, List.length_nil, Int32.reduceLT, Int32.reduceToNatClampNeg, Int32.reduceAdd, Int32.reduceSub, Int32.reduceMul, decide_true, ex_baload, ald, pI_int, pR_ref, arr, isT, isBZ, in0, ix0, hx0]
  refine t3_10 hgo ?_
  refine t3_13 hgo ?_
  refine t3_14 hgo (by first | rfl | assumption) ?_
  refine t3_15 hgo ?_
  refine t3_18 hgo (by first | rfl | assumption) ?_
  refine t3_20 hgo ?_
  refine t3_23 hgo (by first | rfl | assumption) ?_
  refine t3_25 hgo ?_
  refine t3_26 hgo ?_
  by_cases h0 : (own_at X a &&& 255).toInt < 128
  · skip
    refine t3_29t hgo (lt_of rfl (by decide : (128 : Int32).toInt = 128) h0) ?_
    refine t3_32 hgo ?_
    refine t3_33 hgo (by first | rfl | assumption) ?_
    refine t3_35 hgo ?_
    by_cases hs : (b : Int) - (a : Int) < 1
    · skip
      refine t3_172 hgo ?_
      refine t3_173 hgo ?_
      refine t3_174 hgo ?_
      refine t3_175 hgo ?_
      refine t3_177t hgo (lt_of hd (by decide : (1 : Int32).toInt = 1) hs) ?_
      refine t3_180 hgo ?_
      refine t3_181 hgo ?_
      exact hbad (by unfold csz; (repeat' split); all_goals first | rfl | (exfalso; omega))
    · skip
      refine t3_172 hgo ?_
      refine t3_173 hgo ?_
      refine t3_174 hgo ?_
      refine t3_175 hgo ?_
      refine t3_177f hgo (nlt_of hd (by decide : (1 : Int32).toInt = 1) hs) ?_
      refine t3_182 hgo ?_
      refine t3_183 hgo (by first | rfl | assumption) ?_
      refine t3_185 hgo ?_
      refine t3_187 hgo ?_
      refine t3_189f hgo (by decide) ?_
      refine t3_250 hgo ?_
      refine t3_251 hgo ?_
      refine t3_253 hgo ?_
      refine t3_254 hgo (by first | rfl | assumption) ?_
      refine t3_255 hgo ?_
      have e : csz ((b : Int) - (a : Int)) (own_at X a &&& 255).toInt (own_at X (a + 1) &&& 255).toInt (own_at X (a + 2) &&& 255).toInt (own_at X (a + 3) &&& 255).toInt = 1 := (by unfold csz; (repeat' split); all_goals first | rfl | (exfalso; omega))
      have hg := hgood (by rw [e]; decide)
      rw [e] at hg
      exact hg _ _ _ _ _ _ _ (by omega) rfl rfl rfl rfl rfl s8
  by_cases h1 : 194 ≤ (own_at X a &&& 255).toInt ∧ (own_at X a &&& 255).toInt ≤ 223
  · skip
    refine t3_29f hgo (nlt_of rfl (by decide : (128 : Int32).toInt = 128) h0) ?_
    refine t3_38 hgo ?_
    refine t3_39 hgo ?_
    refine t3_42f hgo (nlt_of rfl (by decide : (194 : Int32).toInt = 194) (by omega)) ?_
    refine t3_45 hgo ?_
    refine t3_46 hgo ?_
    refine t3_49f hgo (nlt_of (by decide : (223 : Int32).toInt = 223) rfl (by omega)) ?_
    refine t3_52 hgo ?_
    refine t3_53 hgo (by first | rfl | assumption) ?_
    refine t3_55 hgo ?_
    by_cases hs : (b : Int) - (a : Int) < 2
    · skip
      refine t3_172 hgo ?_
      refine t3_173 hgo ?_
      refine t3_174 hgo ?_
      refine t3_175 hgo ?_
      refine t3_177t hgo (lt_of hd (by decide : (2 : Int32).toInt = 2) hs) ?_
      refine t3_180 hgo ?_
      refine t3_181 hgo ?_
      exact hbad (by unfold csz; (repeat' split); all_goals first | rfl | (exfalso; omega))
    · have hx1 := hX (a + 1) (by omega)
      refine t3_172 hgo ?_
      refine t3_173 hgo ?_
      refine t3_174 hgo ?_
      refine t3_175 hgo ?_
      refine t3_177f hgo (nlt_of hd (by decide : (2 : Int32).toInt = 2) hs) ?_
      refine t3_182 hgo ?_
      refine t3_183 hgo (by first | rfl | assumption) ?_
      refine t3_185 hgo ?_
      refine t3_187 hgo ?_
      refine t3_189t hgo (by decide) ?_
      refine t3_192 hgo rfl ?_
      refine t3_193 hgo ?_
      refine t3_194 hgo ?_
      refine t3_196 hgo ?_
      refine res_of (u3_197 hgo) ?_
      simp only [eq_self, and_self, true_and, and_true, not_true_eq_false, not_false_eq_true, if_true, if_false, reduceIte, Option.bind_some, List.getElem?_cons_zero, List.getElem?_cons_succ, Nat.reduceAdd, Nat.reduceSub, Nat.reduceLT, Nat.reduceLeDiff, Nat.le_refl, Nat.zero_add, Nat.add_zero, List.length_cons, List.length_nil, Int32.reduceLT, Int32.reduceToNatClampNeg, Int32.reduceAdd, Int32.reduceSub, Int32.reduceMul, decide_true, ex_baload, ald, pI_int, pR_ref, arr, isT, isBZ, in1, ix1, hx1]
      refine t3_198 hgo ?_
      refine t3_201 hgo ?_
      refine t3_202 hgo (by first | rfl | assumption) ?_
      refine t3_204 hgo ?_
      refine t3_206 hgo ?_
      refine t3_208 hgo ?_
      by_cases x1 : (own_at X (a + 1) &&& 255).toInt < 128
      · skip
        refine t3_209t hgo rfl ?_
        refine t3_212 hgo ?_
        refine t3_214 hgo ?_
        refine t3_220t hgo (lt_of rfl (by decide : (128 : Int32).toInt = 128) x1) ?_
        refine t3_242 hgo ?_
        refine t3_243 hgo ?_
        exact hbad (by unfold csz; (repeat' split); all_goals first | rfl | (exfalso; omega))
      by_cases y1 : 191 < (own_at X (a + 1) &&& 255).toInt
      · skip
        refine t3_209t hgo rfl ?_
        refine t3_212 hgo ?_
        refine t3_214 hgo ?_
        refine t3_220f hgo (nlt_of rfl (by decide : (128 : Int32).toInt = 128) x1) ?_
        refine t3_223 hgo ?_
        refine t3_225 hgo ?_
        refine t3_227 hgo ?_
        refine t3_228t hgo rfl ?_
        refine t3_231 hgo ?_
        refine t3_233 hgo ?_
        refine t3_239t hgo (lt_of (by decide : (191 : Int32).toInt = 191) rfl y1) ?_
        refine t3_242 hgo ?_
        refine t3_243 hgo ?_
        exact hbad (by unfold csz; (repeat' split); all_goals first | rfl | (exfalso; omega))
      refine t3_209t hgo rfl ?_
      refine t3_212 hgo ?_
      refine t3_214 hgo ?_
      refine t3_220f hgo (nlt_of rfl (by decide : (128 : Int32).toInt = 128) x1) ?_
      refine t3_223 hgo ?_
      refine t3_225 hgo ?_
      refine t3_227 hgo ?_
      refine t3_228t hgo rfl ?_
      refine t3_231 hgo ?_
      refine t3_233 hgo ?_
      refine t3_239f hgo (nlt_of (by decide : (191 : Int32).toInt = 191) rfl y1) ?_
      refine t3_244 hgo ?_
      refine t3_247 hgo ?_
      refine t3_185 hgo ?_
      refine t3_187 hgo ?_
      refine t3_189f hgo (by decide) ?_
      refine t3_250 hgo ?_
      refine t3_251 hgo ?_
      refine t3_253 hgo ?_
      refine t3_254 hgo (by first | rfl | assumption) ?_
      refine t3_255 hgo ?_
      have e : csz ((b : Int) - (a : Int)) (own_at X a &&& 255).toInt (own_at X (a + 1) &&& 255).toInt (own_at X (a + 2) &&& 255).toInt (own_at X (a + 3) &&& 255).toInt = 2 := (by unfold csz; (repeat' split); all_goals first | rfl | (exfalso; omega))
      have hg := hgood (by rw [e]; decide)
      rw [e] at hg
      exact hg _ _ _ _ _ _ _ (by omega) rfl rfl rfl rfl rfl rfl
  by_cases g : (own_at X a &&& 255).toInt < 194
  · skip
    refine t3_29f hgo (nlt_of rfl (by decide : (128 : Int32).toInt = 128) h0) ?_
    refine t3_38 hgo ?_
    refine t3_39 hgo ?_
    refine t3_42t hgo (lt_of rfl (by decide : (194 : Int32).toInt = 194) g) ?_
    refine t3_58 hgo ?_
    refine t3_59 hgo ?_
    refine t3_62f hgo (neq_of rfl (by decide : (224 : Int32).toInt = 224) (by omega)) ?_
    refine t3_76 hgo ?_
    refine t3_77 hgo ?_
    refine t3_80f hgo (neq_of rfl (by decide : (237 : Int32).toInt = 237) (by omega)) ?_
    refine t3_94 hgo ?_
    refine t3_95 hgo ?_
    refine t3_98t hgo (lt_of rfl (by decide : (225 : Int32).toInt = 225) (by omega)) ?_
    refine t3_114 hgo ?_
    refine t3_115 hgo ?_
    refine t3_118f hgo (neq_of rfl (by decide : (240 : Int32).toInt = 240) (by omega)) ?_
    refine t3_132 hgo ?_
    refine t3_133 hgo ?_
    refine t3_136f hgo (neq_of rfl (by decide : (244 : Int32).toInt = 244) (by omega)) ?_
    refine t3_150 hgo ?_
    refine t3_151 hgo ?_
    refine t3_154t hgo (lt_of rfl (by decide : (241 : Int32).toInt = 241) (by omega)) ?_
    refine t3_170 hgo ?_
    refine t3_171 hgo ?_
    exact hbad (by unfold csz; (repeat' split); all_goals first | rfl | (exfalso; omega))
  by_cases e1 : (own_at X a &&& 255).toInt = 224
  · skip
    refine t3_29f hgo (nlt_of rfl (by decide : (128 : Int32).toInt = 128) h0) ?_
    refine t3_38 hgo ?_
    refine t3_39 hgo ?_
    refine t3_42f hgo (nlt_of rfl (by decide : (194 : Int32).toInt = 194) g) ?_
    refine t3_45 hgo ?_
    refine t3_46 hgo ?_
    refine t3_49t hgo (lt_of (by decide : (223 : Int32).toInt = 223) rfl (by omega)) ?_
    refine t3_58 hgo ?_
    refine t3_59 hgo ?_
    refine t3_62t hgo (eq_of rfl (by decide : (224 : Int32).toInt = 224) e1) ?_
    refine t3_65 hgo ?_
    refine t3_66 hgo (by first | rfl | assumption) ?_
    refine t3_68 hgo ?_
    refine t3_71 hgo (by first | rfl | assumption) ?_
    refine t3_73 hgo ?_
    by_cases hs : (b : Int) - (a : Int) < 3
    · skip
      refine t3_172 hgo ?_
      refine t3_173 hgo ?_
      refine t3_174 hgo ?_
      refine t3_175 hgo ?_
      refine t3_177t hgo (lt_of hd (by decide : (3 : Int32).toInt = 3) hs) ?_
      refine t3_180 hgo ?_
      refine t3_181 hgo ?_
      exact hbad (by unfold csz; (repeat' split); all_goals first | rfl | (exfalso; omega))
    · have hx1 := hX (a + 1) (by omega)
      have hx2 := hX (a + 2) (by omega)
      refine t3_172 hgo ?_
      refine t3_173 hgo ?_
      refine t3_174 hgo ?_
      refine t3_175 hgo ?_
      refine t3_177f hgo (nlt_of hd (by decide : (3 : Int32).toInt = 3) hs) ?_
      refine t3_182 hgo ?_
      refine t3_183 hgo (by first | rfl | assumption) ?_
      refine t3_185 hgo ?_
      refine t3_187 hgo ?_
      refine t3_189t hgo (by decide) ?_
      refine t3_192 hgo rfl ?_
      refine t3_193 hgo ?_
      refine t3_194 hgo ?_
      refine t3_196 hgo ?_
      refine res_of (u3_197 hgo) ?_
      simp only [eq_self, and_self, true_and, and_true, not_true_eq_false, not_false_eq_true, if_true, if_false, reduceIte, Option.bind_some, List.getElem?_cons_zero, List.getElem?_cons_succ, Nat.reduceAdd, Nat.reduceSub, Nat.reduceLT, Nat.reduceLeDiff, Nat.le_refl, Nat.zero_add, Nat.add_zero, List.length_cons, List.length_nil, Int32.reduceLT, Int32.reduceToNatClampNeg, Int32.reduceAdd, Int32.reduceSub, Int32.reduceMul, decide_true, ex_baload, ald, pI_int, pR_ref, arr, isT, isBZ, in1, ix1, hx1]
      refine t3_198 hgo ?_
      refine t3_201 hgo ?_
      refine t3_202 hgo (by first | rfl | assumption) ?_
      refine t3_204 hgo ?_
      refine t3_206 hgo ?_
      refine t3_208 hgo ?_
      by_cases x1 : (own_at X (a + 1) &&& 255).toInt < 160
      · skip
        refine t3_209t hgo rfl ?_
        refine t3_212 hgo ?_
        refine t3_214 hgo ?_
        refine t3_220t hgo (lt_of rfl (by decide : (160 : Int32).toInt = 160) x1) ?_
        refine t3_242 hgo ?_
        refine t3_243 hgo ?_
        exact hbad (by unfold csz; (repeat' split); all_goals first | rfl | (exfalso; omega))
      by_cases y1 : 191 < (own_at X (a + 1) &&& 255).toInt
      · skip
        refine t3_209t hgo rfl ?_
        refine t3_212 hgo ?_
        refine t3_214 hgo ?_
        refine t3_220f hgo (nlt_of rfl (by decide : (160 : Int32).toInt = 160) x1) ?_
        refine t3_223 hgo ?_
        refine t3_225 hgo ?_
        refine t3_227 hgo ?_
        refine t3_228t hgo rfl ?_
        refine t3_231 hgo ?_
        refine t3_233 hgo ?_
        refine t3_239t hgo (lt_of (by decide : (191 : Int32).toInt = 191) rfl y1) ?_
        refine t3_242 hgo ?_
        refine t3_243 hgo ?_
        exact hbad (by unfold csz; (repeat' split); all_goals first | rfl | (exfalso; omega))
      refine t3_209t hgo rfl ?_
      refine t3_212 hgo ?_
      refine t3_214 hgo ?_
      refine t3_220f hgo (nlt_of rfl (by decide : (160 : Int32).toInt = 160) x1) ?_
      refine t3_223 hgo ?_
      refine t3_225 hgo ?_
      refine t3_227 hgo ?_
      refine t3_228t hgo rfl ?_
      refine t3_231 hgo ?_
      refine t3_233 hgo ?_
      refine t3_239f hgo (nlt_of (by decide : (191 : Int32).toInt = 191) rfl y1) ?_
      refine t3_244 hgo ?_
      refine t3_247 hgo ?_
      refine t3_185 hgo ?_
      refine t3_187 hgo ?_
      refine t3_189t hgo (by decide) ?_
      refine t3_192 hgo rfl ?_
      refine t3_193 hgo ?_
      refine t3_194 hgo ?_
      refine t3_196 hgo ?_
      refine res_of (u3_197 hgo) ?_
      simp only [eq_self, and_self, true_and, and_true, not_true_eq_false, not_false_eq_true, if_true, if_false, reduceIte, Option.bind_some, List.getElem?_cons_zero, List.getElem?_cons_succ, Nat.reduceAdd, Nat.reduceSub, Nat.reduceLT, Nat.reduceLeDiff, Nat.le_refl, Nat.zero_add, Nat.add_zero, List.length_cons, List.length_nil, Int32.reduceLT, Int32.reduceToNatClampNeg, Int32.reduceAdd, Int32.reduceSub, Int32.reduceMul, decide_true, ex_baload, ald, pI_int, pR_ref, arr, isT, isBZ, in2, ix2, hx2]
      refine t3_198 hgo ?_
      refine t3_201 hgo ?_
      refine t3_202 hgo (by first | rfl | assumption) ?_
      refine t3_204 hgo ?_
      refine t3_206 hgo ?_
      refine t3_208 hgo ?_
      by_cases x2 : (own_at X (a + 2) &&& 255).toInt < 128
      · skip
        refine t3_209f hgo (by decide) ?_
        refine t3_217 hgo ?_
        refine t3_220t hgo (lt_of rfl (by decide : (128 : Int32).toInt = 128) x2) ?_
        refine t3_242 hgo ?_
        refine t3_243 hgo ?_
        exact hbad (by unfold csz; (repeat' split); all_goals first | rfl | (exfalso; omega))
      by_cases y2 : 191 < (own_at X (a + 2) &&& 255).toInt
      · skip
        refine t3_209f hgo (by decide) ?_
        refine t3_217 hgo ?_
        refine t3_220f hgo (nlt_of rfl (by decide : (128 : Int32).toInt = 128) x2) ?_
        refine t3_223 hgo ?_
        refine t3_225 hgo ?_
        refine t3_227 hgo ?_
        refine t3_228f hgo (by decide) ?_
        refine t3_236 hgo ?_
        refine t3_239t hgo (lt_of (by decide : (191 : Int32).toInt = 191) rfl y2) ?_
        refine t3_242 hgo ?_
        refine t3_243 hgo ?_
        exact hbad (by unfold csz; (repeat' split); all_goals first | rfl | (exfalso; omega))
      refine t3_209f hgo (by decide) ?_
      refine t3_217 hgo ?_
      refine t3_220f hgo (nlt_of rfl (by decide : (128 : Int32).toInt = 128) x2) ?_
      refine t3_223 hgo ?_
      refine t3_225 hgo ?_
      refine t3_227 hgo ?_
      refine t3_228f hgo (by decide) ?_
      refine t3_236 hgo ?_
      refine t3_239f hgo (nlt_of (by decide : (191 : Int32).toInt = 191) rfl y2) ?_
      refine t3_244 hgo ?_
      refine t3_247 hgo ?_
      refine t3_185 hgo ?_
      refine t3_187 hgo ?_
      refine t3_189f hgo (by decide) ?_
      refine t3_250 hgo ?_
      refine t3_251 hgo ?_
      refine t3_253 hgo ?_
      refine t3_254 hgo (by first | rfl | assumption) ?_
      refine t3_255 hgo ?_
      have e : csz ((b : Int) - (a : Int)) (own_at X a &&& 255).toInt (own_at X (a + 1) &&& 255).toInt (own_at X (a + 2) &&& 255).toInt (own_at X (a + 3) &&& 255).toInt = 3 := (by unfold csz; (repeat' split); all_goals first | rfl | (exfalso; omega))
      have hg := hgood (by rw [e]; decide)
      rw [e] at hg
      exact hg _ _ _ _ _ _ _ (by omega) rfl rfl rfl rfl rfl rfl
  by_cases e2 : (own_at X a &&& 255).toInt = 237
  · skip
    refine t3_29f hgo (nlt_of rfl (by decide : (128 : Int32).toInt = 128) h0) ?_
    refine t3_38 hgo ?_
    refine t3_39 hgo ?_
    refine t3_42f hgo (nlt_of rfl (by decide : (194 : Int32).toInt = 194) g) ?_
    refine t3_45 hgo ?_
    refine t3_46 hgo ?_
    refine t3_49t hgo (lt_of (by decide : (223 : Int32).toInt = 223) rfl (by omega)) ?_
    refine t3_58 hgo ?_
    refine t3_59 hgo ?_
    refine t3_62f hgo (neq_of rfl (by decide : (224 : Int32).toInt = 224) e1) ?_
    refine t3_76 hgo ?_
    refine t3_77 hgo ?_
    refine t3_80t hgo (eq_of rfl (by decide : (237 : Int32).toInt = 237) e2) ?_
    refine t3_83 hgo ?_
    refine t3_84 hgo (by first | rfl | assumption) ?_
    refine t3_86 hgo ?_
    refine t3_89 hgo (by first | rfl | assumption) ?_
    refine t3_91 hgo ?_
    by_cases hs : (b : Int) - (a : Int) < 3
    · skip
      refine t3_172 hgo ?_
      refine t3_173 hgo ?_
      refine t3_174 hgo ?_
      refine t3_175 hgo ?_
      refine t3_177t hgo (lt_of hd (by decide : (3 : Int32).toInt = 3) hs) ?_
      refine t3_180 hgo ?_
      refine t3_181 hgo ?_
      exact hbad (by unfold csz; (repeat' split); all_goals first | rfl | (exfalso; omega))
    · have hx1 := hX (a + 1) (by omega)
      have hx2 := hX (a + 2) (by omega)
      refine t3_172 hgo ?_
      refine t3_173 hgo ?_
      refine t3_174 hgo ?_
      refine t3_175 hgo ?_
      refine t3_177f hgo (nlt_of hd (by decide : (3 : Int32).toInt = 3) hs) ?_
      refine t3_182 hgo ?_
      refine t3_183 hgo (by first | rfl | assumption) ?_
      refine t3_185 hgo ?_
      refine t3_187 hgo ?_
      refine t3_189t hgo (by decide) ?_
      refine t3_192 hgo rfl ?_
      refine t3_193 hgo ?_
      refine t3_194 hgo ?_
      refine t3_196 hgo ?_
      refine res_of (u3_197 hgo) ?_
      simp only [eq_self, and_self, true_and, and_true, not_true_eq_false, not_false_eq_true, if_true, if_false, reduceIte, Option.bind_some, List.getElem?_cons_zero, List.getElem?_cons_succ, Nat.reduceAdd, Nat.reduceSub, Nat.reduceLT, Nat.reduceLeDiff, Nat.le_refl, Nat.zero_add, Nat.add_zero, List.length_cons, List.length_nil, Int32.reduceLT, Int32.reduceToNatClampNeg, Int32.reduceAdd, Int32.reduceSub, Int32.reduceMul, decide_true, ex_baload, ald, pI_int, pR_ref, arr, isT, isBZ, in1, ix1, hx1]
      refine t3_198 hgo ?_
      refine t3_201 hgo ?_
      refine t3_202 hgo (by first | rfl | assumption) ?_
      refine t3_204 hgo ?_
      refine t3_206 hgo ?_
      refine t3_208 hgo ?_
      by_cases x1 : (own_at X (a + 1) &&& 255).toInt < 128
      · skip
        refine t3_209t hgo rfl ?_
        refine t3_212 hgo ?_
        refine t3_214 hgo ?_
        refine t3_220t hgo (lt_of rfl (by decide : (128 : Int32).toInt = 128) x1) ?_
        refine t3_242 hgo ?_
        refine t3_243 hgo ?_
        exact hbad (by unfold csz; (repeat' split); all_goals first | rfl | (exfalso; omega))
      by_cases y1 : 159 < (own_at X (a + 1) &&& 255).toInt
      · skip
        refine t3_209t hgo rfl ?_
        refine t3_212 hgo ?_
        refine t3_214 hgo ?_
        refine t3_220f hgo (nlt_of rfl (by decide : (128 : Int32).toInt = 128) x1) ?_
        refine t3_223 hgo ?_
        refine t3_225 hgo ?_
        refine t3_227 hgo ?_
        refine t3_228t hgo rfl ?_
        refine t3_231 hgo ?_
        refine t3_233 hgo ?_
        refine t3_239t hgo (lt_of (by decide : (159 : Int32).toInt = 159) rfl y1) ?_
        refine t3_242 hgo ?_
        refine t3_243 hgo ?_
        exact hbad (by unfold csz; (repeat' split); all_goals first | rfl | (exfalso; omega))
      refine t3_209t hgo rfl ?_
      refine t3_212 hgo ?_
      refine t3_214 hgo ?_
      refine t3_220f hgo (nlt_of rfl (by decide : (128 : Int32).toInt = 128) x1) ?_
      refine t3_223 hgo ?_
      refine t3_225 hgo ?_
      refine t3_227 hgo ?_
      refine t3_228t hgo rfl ?_
      refine t3_231 hgo ?_
      refine t3_233 hgo ?_
      refine t3_239f hgo (nlt_of (by decide : (159 : Int32).toInt = 159) rfl y1) ?_
      refine t3_244 hgo ?_
      refine t3_247 hgo ?_
      refine t3_185 hgo ?_
      refine t3_187 hgo ?_
      refine t3_189t hgo (by decide) ?_
      refine t3_192 hgo rfl ?_
      refine t3_193 hgo ?_
      refine t3_194 hgo ?_
      refine t3_196 hgo ?_
      refine res_of (u3_197 hgo) ?_
      simp only [eq_self, and_self, true_and, and_true, not_true_eq_false, not_false_eq_true, if_true, if_false, reduceIte, Option.bind_some, List.getElem?_cons_zero, List.getElem?_cons_succ, Nat.reduceAdd, Nat.reduceSub, Nat.reduceLT, Nat.reduceLeDiff, Nat.le_refl, Nat.zero_add, Nat.add_zero, List.length_cons, List.length_nil, Int32.reduceLT, Int32.reduceToNatClampNeg, Int32.reduceAdd, Int32.reduceSub, Int32.reduceMul, decide_true, ex_baload, ald, pI_int, pR_ref, arr, isT, isBZ, in2, ix2, hx2]
      refine t3_198 hgo ?_
      refine t3_201 hgo ?_
      refine t3_202 hgo (by first | rfl | assumption) ?_
      refine t3_204 hgo ?_
      refine t3_206 hgo ?_
      refine t3_208 hgo ?_
      by_cases x2 : (own_at X (a + 2) &&& 255).toInt < 128
      · skip
        refine t3_209f hgo (by decide) ?_
        refine t3_217 hgo ?_
        refine t3_220t hgo (lt_of rfl (by decide : (128 : Int32).toInt = 128) x2) ?_
        refine t3_242 hgo ?_
        refine t3_243 hgo ?_
        exact hbad (by unfold csz; (repeat' split); all_goals first | rfl | (exfalso; omega))
      by_cases y2 : 191 < (own_at X (a + 2) &&& 255).toInt
      · skip
        refine t3_209f hgo (by decide) ?_
        refine t3_217 hgo ?_
        refine t3_220f hgo (nlt_of rfl (by decide : (128 : Int32).toInt = 128) x2) ?_
        refine t3_223 hgo ?_
        refine t3_225 hgo ?_
        refine t3_227 hgo ?_
        refine t3_228f hgo (by decide) ?_
        refine t3_236 hgo ?_
        refine t3_239t hgo (lt_of (by decide : (191 : Int32).toInt = 191) rfl y2) ?_
        refine t3_242 hgo ?_
        refine t3_243 hgo ?_
        exact hbad (by unfold csz; (repeat' split); all_goals first | rfl | (exfalso; omega))
      refine t3_209f hgo (by decide) ?_
      refine t3_217 hgo ?_
      refine t3_220f hgo (nlt_of rfl (by decide : (128 : Int32).toInt = 128) x2) ?_
      refine t3_223 hgo ?_
      refine t3_225 hgo ?_
      refine t3_227 hgo ?_
      refine t3_228f hgo (by decide) ?_
      refine t3_236 hgo ?_
      refine t3_239f hgo (nlt_of (by decide : (191 : Int32).toInt = 191) rfl y2) ?_
      refine t3_244 hgo ?_
      refine t3_247 hgo ?_
      refine t3_185 hgo ?_
      refine t3_187 hgo ?_
      refine t3_189f hgo (by decide) ?_
      refine t3_250 hgo ?_
      refine t3_251 hgo ?_
      refine t3_253 hgo ?_
      refine t3_254 hgo (by first | rfl | assumption) ?_
      refine t3_255 hgo ?_
      have e : csz ((b : Int) - (a : Int)) (own_at X a &&& 255).toInt (own_at X (a + 1) &&& 255).toInt (own_at X (a + 2) &&& 255).toInt (own_at X (a + 3) &&& 255).toInt = 3 := (by unfold csz; (repeat' split); all_goals first | rfl | (exfalso; omega))
      have hg := hgood (by rw [e]; decide)
      rw [e] at hg
      exact hg _ _ _ _ _ _ _ (by omega) rfl rfl rfl rfl rfl rfl
  by_cases e3 : (own_at X a &&& 255).toInt ≤ 239
  · skip
    refine t3_29f hgo (nlt_of rfl (by decide : (128 : Int32).toInt = 128) h0) ?_
    refine t3_38 hgo ?_
    refine t3_39 hgo ?_
    refine t3_42f hgo (nlt_of rfl (by decide : (194 : Int32).toInt = 194) g) ?_
    refine t3_45 hgo ?_
    refine t3_46 hgo ?_
    refine t3_49t hgo (lt_of (by decide : (223 : Int32).toInt = 223) rfl (by omega)) ?_
    refine t3_58 hgo ?_
    refine t3_59 hgo ?_
    refine t3_62f hgo (neq_of rfl (by decide : (224 : Int32).toInt = 224) e1) ?_
    refine t3_76 hgo ?_
    refine t3_77 hgo ?_
    refine t3_80f hgo (neq_of rfl (by decide : (237 : Int32).toInt = 237) e2) ?_
    refine t3_94 hgo ?_
    refine t3_95 hgo ?_
    refine t3_98f hgo (nlt_of rfl (by decide : (225 : Int32).toInt = 225) (by omega)) ?_
    refine t3_101 hgo ?_
    refine t3_102 hgo ?_
    refine t3_105f hgo (nlt_of (by decide : (239 : Int32).toInt = 239) rfl (by omega)) ?_
    refine t3_108 hgo ?_
    refine t3_109 hgo (by first | rfl | assumption) ?_
    refine t3_111 hgo ?_
    by_cases hs : (b : Int) - (a : Int) < 3
    · skip
      refine t3_172 hgo ?_
      refine t3_173 hgo ?_
      refine t3_174 hgo ?_
      refine t3_175 hgo ?_
      refine t3_177t hgo (lt_of hd (by decide : (3 : Int32).toInt = 3) hs) ?_
      refine t3_180 hgo ?_
      refine t3_181 hgo ?_
      exact hbad (by unfold csz; (repeat' split); all_goals first | rfl | (exfalso; omega))
    · have hx1 := hX (a + 1) (by omega)
      have hx2 := hX (a + 2) (by omega)
      refine t3_172 hgo ?_
      refine t3_173 hgo ?_
      refine t3_174 hgo ?_
      refine t3_175 hgo ?_
      refine t3_177f hgo (nlt_of hd (by decide : (3 : Int32).toInt = 3) hs) ?_
      refine t3_182 hgo ?_
      refine t3_183 hgo (by first | rfl | assumption) ?_
      refine t3_185 hgo ?_
      refine t3_187 hgo ?_
      refine t3_189t hgo (by decide) ?_
      refine t3_192 hgo rfl ?_
      refine t3_193 hgo ?_
      refine t3_194 hgo ?_
      refine t3_196 hgo ?_
      refine res_of (u3_197 hgo) ?_
      simp only [eq_self, and_self, true_and, and_true, not_true_eq_false, not_false_eq_true, if_true, if_false, reduceIte, Option.bind_some, List.getElem?_cons_zero, List.getElem?_cons_succ, Nat.reduceAdd, Nat.reduceSub, Nat.reduceLT, Nat.reduceLeDiff, Nat.le_refl, Nat.zero_add, Nat.add_zero, List.length_cons, List.length_nil, Int32.reduceLT, Int32.reduceToNatClampNeg, Int32.reduceAdd, Int32.reduceSub, Int32.reduceMul, decide_true, ex_baload, ald, pI_int, pR_ref, arr, isT, isBZ, in1, ix1, hx1]
      refine t3_198 hgo ?_
      refine t3_201 hgo ?_
      refine t3_202 hgo (by first | rfl | assumption) ?_
      refine t3_204 hgo ?_
      refine t3_206 hgo ?_
      refine t3_208 hgo ?_
      by_cases x1 : (own_at X (a + 1) &&& 255).toInt < 128
      · skip
        refine t3_209t hgo rfl ?_
        refine t3_212 hgo ?_
        refine t3_214 hgo ?_
        refine t3_220t hgo (lt_of rfl (by decide : (128 : Int32).toInt = 128) x1) ?_
        refine t3_242 hgo ?_
        refine t3_243 hgo ?_
        exact hbad (by unfold csz; (repeat' split); all_goals first | rfl | (exfalso; omega))
      by_cases y1 : 191 < (own_at X (a + 1) &&& 255).toInt
      · skip
        refine t3_209t hgo rfl ?_
        refine t3_212 hgo ?_
        refine t3_214 hgo ?_
        refine t3_220f hgo (nlt_of rfl (by decide : (128 : Int32).toInt = 128) x1) ?_
        refine t3_223 hgo ?_
        refine t3_225 hgo ?_
        refine t3_227 hgo ?_
        refine t3_228t hgo rfl ?_
        refine t3_231 hgo ?_
        refine t3_233 hgo ?_
        refine t3_239t hgo (lt_of (by decide : (191 : Int32).toInt = 191) rfl y1) ?_
        refine t3_242 hgo ?_
        refine t3_243 hgo ?_
        exact hbad (by unfold csz; (repeat' split); all_goals first | rfl | (exfalso; omega))
      refine t3_209t hgo rfl ?_
      refine t3_212 hgo ?_
      refine t3_214 hgo ?_
      refine t3_220f hgo (nlt_of rfl (by decide : (128 : Int32).toInt = 128) x1) ?_
      refine t3_223 hgo ?_
      refine t3_225 hgo ?_
      refine t3_227 hgo ?_
      refine t3_228t hgo rfl ?_
      refine t3_231 hgo ?_
      refine t3_233 hgo ?_
      refine t3_239f hgo (nlt_of (by decide : (191 : Int32).toInt = 191) rfl y1) ?_
      refine t3_244 hgo ?_
      refine t3_247 hgo ?_
      refine t3_185 hgo ?_
      refine t3_187 hgo ?_
      refine t3_189t hgo (by decide) ?_
      refine t3_192 hgo rfl ?_
      refine t3_193 hgo ?_
      refine t3_194 hgo ?_
      refine t3_196 hgo ?_
      refine res_of (u3_197 hgo) ?_
      simp only [eq_self, and_self, true_and, and_true, not_true_eq_false, not_false_eq_true, if_true, if_false, reduceIte, Option.bind_some, List.getElem?_cons_zero, List.getElem?_cons_succ, Nat.reduceAdd, Nat.reduceSub, Nat.reduceLT, Nat.reduceLeDiff, Nat.le_refl, Nat.zero_add, Nat.add_zero, List.length_cons, List.length_nil, Int32.reduceLT, Int32.reduceToNatClampNeg, Int32.reduceAdd, Int32.reduceSub, Int32.reduceMul, decide_true, ex_baload, ald, pI_int, pR_ref, arr, isT, isBZ, in2, ix2, hx2]
      refine t3_198 hgo ?_
      refine t3_201 hgo ?_
      refine t3_202 hgo (by first | rfl | assumption) ?_
      refine t3_204 hgo ?_
      refine t3_206 hgo ?_
      refine t3_208 hgo ?_
      by_cases x2 : (own_at X (a + 2) &&& 255).toInt < 128
      · skip
        refine t3_209f hgo (by decide) ?_
        refine t3_217 hgo ?_
        refine t3_220t hgo (lt_of rfl (by decide : (128 : Int32).toInt = 128) x2) ?_
        refine t3_242 hgo ?_
        refine t3_243 hgo ?_
        exact hbad (by unfold csz; (repeat' split); all_goals first | rfl | (exfalso; omega))
      by_cases y2 : 191 < (own_at X (a + 2) &&& 255).toInt
      · skip
        refine t3_209f hgo (by decide) ?_
        refine t3_217 hgo ?_
        refine t3_220f hgo (nlt_of rfl (by decide : (128 : Int32).toInt = 128) x2) ?_
        refine t3_223 hgo ?_
        refine t3_225 hgo ?_
        refine t3_227 hgo ?_
        refine t3_228f hgo (by decide) ?_
        refine t3_236 hgo ?_
        refine t3_239t hgo (lt_of (by decide : (191 : Int32).toInt = 191) rfl y2) ?_
        refine t3_242 hgo ?_
        refine t3_243 hgo ?_
        exact hbad (by unfold csz; (repeat' split); all_goals first | rfl | (exfalso; omega))
      refine t3_209f hgo (by decide) ?_
      refine t3_217 hgo ?_
      refine t3_220f hgo (nlt_of rfl (by decide : (128 : Int32).toInt = 128) x2) ?_
      refine t3_223 hgo ?_
      refine t3_225 hgo ?_
      refine t3_227 hgo ?_
      refine t3_228f hgo (by decide) ?_
      refine t3_236 hgo ?_
      refine t3_239f hgo (nlt_of (by decide : (191 : Int32).toInt = 191) rfl y2) ?_
      refine t3_244 hgo ?_
      refine t3_247 hgo ?_
      refine t3_185 hgo ?_
      refine t3_187 hgo ?_
      refine t3_189f hgo (by decide) ?_
      refine t3_250 hgo ?_
      refine t3_251 hgo ?_
      refine t3_253 hgo ?_
      refine t3_254 hgo (by first | rfl | assumption) ?_
      refine t3_255 hgo ?_
      have e : csz ((b : Int) - (a : Int)) (own_at X a &&& 255).toInt (own_at X (a + 1) &&& 255).toInt (own_at X (a + 2) &&& 255).toInt (own_at X (a + 3) &&& 255).toInt = 3 := (by unfold csz; (repeat' split); all_goals first | rfl | (exfalso; omega))
      have hg := hgood (by rw [e]; decide)
      rw [e] at hg
      exact hg _ _ _ _ _ _ _ (by omega) rfl rfl rfl rfl rfl rfl
  by_cases e4 : (own_at X a &&& 255).toInt = 240
  · skip
    refine t3_29f hgo (nlt_of rfl (by decide : (128 : Int32).toInt = 128) h0) ?_
    refine t3_38 hgo ?_
    refine t3_39 hgo ?_
    refine t3_42f hgo (nlt_of rfl (by decide : (194 : Int32).toInt = 194) g) ?_
    refine t3_45 hgo ?_
    refine t3_46 hgo ?_
    refine t3_49t hgo (lt_of (by decide : (223 : Int32).toInt = 223) rfl (by omega)) ?_
    refine t3_58 hgo ?_
    refine t3_59 hgo ?_
    refine t3_62f hgo (neq_of rfl (by decide : (224 : Int32).toInt = 224) e1) ?_
    refine t3_76 hgo ?_
    refine t3_77 hgo ?_
    refine t3_80f hgo (neq_of rfl (by decide : (237 : Int32).toInt = 237) e2) ?_
    refine t3_94 hgo ?_
    refine t3_95 hgo ?_
    refine t3_98f hgo (nlt_of rfl (by decide : (225 : Int32).toInt = 225) (by omega)) ?_
    refine t3_101 hgo ?_
    refine t3_102 hgo ?_
    refine t3_105t hgo (lt_of (by decide : (239 : Int32).toInt = 239) rfl (by omega)) ?_
    refine t3_114 hgo ?_
    refine t3_115 hgo ?_
    refine t3_118t hgo (eq_of rfl (by decide : (240 : Int32).toInt = 240) e4) ?_
    refine t3_121 hgo ?_
    refine t3_122 hgo (by first | rfl | assumption) ?_
    refine t3_124 hgo ?_
    refine t3_127 hgo (by first | rfl | assumption) ?_
    refine t3_129 hgo ?_
    by_cases hs : (b : Int) - (a : Int) < 4
    · skip
      refine t3_172 hgo ?_
      refine t3_173 hgo ?_
      refine t3_174 hgo ?_
      refine t3_175 hgo ?_
      refine t3_177t hgo (lt_of hd (by decide : (4 : Int32).toInt = 4) hs) ?_
      refine t3_180 hgo ?_
      refine t3_181 hgo ?_
      exact hbad (by unfold csz; (repeat' split); all_goals first | rfl | (exfalso; omega))
    · have hx1 := hX (a + 1) (by omega)
      have hx2 := hX (a + 2) (by omega)
      have hx3 := hX (a + 3) (by omega)
      refine t3_172 hgo ?_
      refine t3_173 hgo ?_
      refine t3_174 hgo ?_
      refine t3_175 hgo ?_
      refine t3_177f hgo (nlt_of hd (by decide : (4 : Int32).toInt = 4) hs) ?_
      refine t3_182 hgo ?_
      refine t3_183 hgo (by first | rfl | assumption) ?_
      refine t3_185 hgo ?_
      refine t3_187 hgo ?_
      refine t3_189t hgo (by decide) ?_
      refine t3_192 hgo rfl ?_
      refine t3_193 hgo ?_
      refine t3_194 hgo ?_
      refine t3_196 hgo ?_
      refine res_of (u3_197 hgo) ?_
      simp only [eq_self, and_self, true_and, and_true, not_true_eq_false, not_false_eq_true, if_true, if_false, reduceIte, Option.bind_some, List.getElem?_cons_zero, List.getElem?_cons_succ, Nat.reduceAdd, Nat.reduceSub, Nat.reduceLT, Nat.reduceLeDiff, Nat.le_refl, Nat.zero_add, Nat.add_zero, List.length_cons, List.length_nil, Int32.reduceLT, Int32.reduceToNatClampNeg, Int32.reduceAdd, Int32.reduceSub, Int32.reduceMul, decide_true, ex_baload, ald, pI_int, pR_ref, arr, isT, isBZ, in1, ix1, hx1]
      refine t3_198 hgo ?_
      refine t3_201 hgo ?_
      refine t3_202 hgo (by first | rfl | assumption) ?_
      refine t3_204 hgo ?_
      refine t3_206 hgo ?_
      refine t3_208 hgo ?_
      by_cases x1 : (own_at X (a + 1) &&& 255).toInt < 144
      · skip
        refine t3_209t hgo rfl ?_
        refine t3_212 hgo ?_
        refine t3_214 hgo ?_
        refine t3_220t hgo (lt_of rfl (by decide : (144 : Int32).toInt = 144) x1) ?_
        refine t3_242 hgo ?_
        refine t3_243 hgo ?_
        exact hbad (by unfold csz; (repeat' split); all_goals first | rfl | (exfalso; omega))
      by_cases y1 : 191 < (own_at X (a + 1) &&& 255).toInt
      · skip
        refine t3_209t hgo rfl ?_
        refine t3_212 hgo ?_
        refine t3_214 hgo ?_
        refine t3_220f hgo (nlt_of rfl (by decide : (144 : Int32).toInt = 144) x1) ?_
        refine t3_223 hgo ?_
        refine t3_225 hgo ?_
        refine t3_227 hgo ?_
        refine t3_228t hgo rfl ?_
        refine t3_231 hgo ?_
        refine t3_233 hgo ?_
        refine t3_239t hgo (lt_of (by decide : (191 : Int32).toInt = 191) rfl y1) ?_
        refine t3_242 hgo ?_
        refine t3_243 hgo ?_
        exact hbad (by unfold csz; (repeat' split); all_goals first | rfl | (exfalso; omega))
      refine t3_209t hgo rfl ?_
      refine t3_212 hgo ?_
      refine t3_214 hgo ?_
      refine t3_220f hgo (nlt_of rfl (by decide : (144 : Int32).toInt = 144) x1) ?_
      refine t3_223 hgo ?_
      refine t3_225 hgo ?_
      refine t3_227 hgo ?_
      refine t3_228t hgo rfl ?_
      refine t3_231 hgo ?_
      refine t3_233 hgo ?_
      refine t3_239f hgo (nlt_of (by decide : (191 : Int32).toInt = 191) rfl y1) ?_
      refine t3_244 hgo ?_
      refine t3_247 hgo ?_
      refine t3_185 hgo ?_
      refine t3_187 hgo ?_
      refine t3_189t hgo (by decide) ?_
      refine t3_192 hgo rfl ?_
      refine t3_193 hgo ?_
      refine t3_194 hgo ?_
      refine t3_196 hgo ?_
      refine res_of (u3_197 hgo) ?_
      simp only [eq_self, and_self, true_and, and_true, not_true_eq_false, not_false_eq_true, if_true, if_false, reduceIte, Option.bind_some, List.getElem?_cons_zero, List.getElem?_cons_succ, Nat.reduceAdd, Nat.reduceSub, Nat.reduceLT, Nat.reduceLeDiff, Nat.le_refl, Nat.zero_add, Nat.add_zero, List.length_cons, List.length_nil, Int32.reduceLT, Int32.reduceToNatClampNeg, Int32.reduceAdd, Int32.reduceSub, Int32.reduceMul, decide_true, ex_baload, ald, pI_int, pR_ref, arr, isT, isBZ, in2, ix2, hx2]
      refine t3_198 hgo ?_
      refine t3_201 hgo ?_
      refine t3_202 hgo (by first | rfl | assumption) ?_
      refine t3_204 hgo ?_
      refine t3_206 hgo ?_
      refine t3_208 hgo ?_
      by_cases x2 : (own_at X (a + 2) &&& 255).toInt < 128
      · skip
        refine t3_209f hgo (by decide) ?_
        refine t3_217 hgo ?_
        refine t3_220t hgo (lt_of rfl (by decide : (128 : Int32).toInt = 128) x2) ?_
        refine t3_242 hgo ?_
        refine t3_243 hgo ?_
        exact hbad (by unfold csz; (repeat' split); all_goals first | rfl | (exfalso; omega))
      by_cases y2 : 191 < (own_at X (a + 2) &&& 255).toInt
      · skip
        refine t3_209f hgo (by decide) ?_
        refine t3_217 hgo ?_
        refine t3_220f hgo (nlt_of rfl (by decide : (128 : Int32).toInt = 128) x2) ?_
        refine t3_223 hgo ?_
        refine t3_225 hgo ?_
        refine t3_227 hgo ?_
        refine t3_228f hgo (by decide) ?_
        refine t3_236 hgo ?_
        refine t3_239t hgo (lt_of (by decide : (191 : Int32).toInt = 191) rfl y2) ?_
        refine t3_242 hgo ?_
        refine t3_243 hgo ?_
        exact hbad (by unfold csz; (repeat' split); all_goals first | rfl | (exfalso; omega))
      refine t3_209f hgo (by decide) ?_
      refine t3_217 hgo ?_
      refine t3_220f hgo (nlt_of rfl (by decide : (128 : Int32).toInt = 128) x2) ?_
      refine t3_223 hgo ?_
      refine t3_225 hgo ?_
      refine t3_227 hgo ?_
      refine t3_228f hgo (by decide) ?_
      refine t3_236 hgo ?_
      refine t3_239f hgo (nlt_of (by decide : (191 : Int32).toInt = 191) rfl y2) ?_
      refine t3_244 hgo ?_
      refine t3_247 hgo ?_
      refine t3_185 hgo ?_
      refine t3_187 hgo ?_
      refine t3_189t hgo (by decide) ?_
      refine t3_192 hgo rfl ?_
      refine t3_193 hgo ?_
      refine t3_194 hgo ?_
      refine t3_196 hgo ?_
      refine res_of (u3_197 hgo) ?_
      simp only [eq_self, and_self, true_and, and_true, not_true_eq_false, not_false_eq_true, if_true, if_false, reduceIte, Option.bind_some, List.getElem?_cons_zero, List.getElem?_cons_succ, Nat.reduceAdd, Nat.reduceSub, Nat.reduceLT, Nat.reduceLeDiff, Nat.le_refl, Nat.zero_add, Nat.add_zero, List.length_cons, List.length_nil, Int32.reduceLT, Int32.reduceToNatClampNeg, Int32.reduceAdd, Int32.reduceSub, Int32.reduceMul, decide_true, ex_baload, ald, pI_int, pR_ref, arr, isT, isBZ, in3, ix3, hx3]
      refine t3_198 hgo ?_
      refine t3_201 hgo ?_
      refine t3_202 hgo (by first | rfl | assumption) ?_
      refine t3_204 hgo ?_
      refine t3_206 hgo ?_
      refine t3_208 hgo ?_
      by_cases x3 : (own_at X (a + 3) &&& 255).toInt < 128
      · skip
        refine t3_209f hgo (by decide) ?_
        refine t3_217 hgo ?_
        refine t3_220t hgo (lt_of rfl (by decide : (128 : Int32).toInt = 128) x3) ?_
        refine t3_242 hgo ?_
        refine t3_243 hgo ?_
        exact hbad (by unfold csz; (repeat' split); all_goals first | rfl | (exfalso; omega))
      by_cases y3 : 191 < (own_at X (a + 3) &&& 255).toInt
      · skip
        refine t3_209f hgo (by decide) ?_
        refine t3_217 hgo ?_
        refine t3_220f hgo (nlt_of rfl (by decide : (128 : Int32).toInt = 128) x3) ?_
        refine t3_223 hgo ?_
        refine t3_225 hgo ?_
        refine t3_227 hgo ?_
        refine t3_228f hgo (by decide) ?_
        refine t3_236 hgo ?_
        refine t3_239t hgo (lt_of (by decide : (191 : Int32).toInt = 191) rfl y3) ?_
        refine t3_242 hgo ?_
        refine t3_243 hgo ?_
        exact hbad (by unfold csz; (repeat' split); all_goals first | rfl | (exfalso; omega))
      refine t3_209f hgo (by decide) ?_
      refine t3_217 hgo ?_
      refine t3_220f hgo (nlt_of rfl (by decide : (128 : Int32).toInt = 128) x3) ?_
      refine t3_223 hgo ?_
      refine t3_225 hgo ?_
      refine t3_227 hgo ?_
      refine t3_228f hgo (by decide) ?_
      refine t3_236 hgo ?_
      refine t3_239f hgo (nlt_of (by decide : (191 : Int32).toInt = 191) rfl y3) ?_
      refine t3_244 hgo ?_
      refine t3_247 hgo ?_
      refine t3_185 hgo ?_
      refine t3_187 hgo ?_
      refine t3_189f hgo (by decide) ?_
      refine t3_250 hgo ?_
      refine t3_251 hgo ?_
      refine t3_253 hgo ?_
      refine t3_254 hgo (by first | rfl | assumption) ?_
      refine t3_255 hgo ?_
      have e : csz ((b : Int) - (a : Int)) (own_at X a &&& 255).toInt (own_at X (a + 1) &&& 255).toInt (own_at X (a + 2) &&& 255).toInt (own_at X (a + 3) &&& 255).toInt = 4 := (by unfold csz; (repeat' split); all_goals first | rfl | (exfalso; omega))
      have hg := hgood (by rw [e]; decide)
      rw [e] at hg
      exact hg _ _ _ _ _ _ _ (by omega) rfl rfl rfl rfl rfl rfl
  by_cases e5 : (own_at X a &&& 255).toInt = 244
  · skip
    refine t3_29f hgo (nlt_of rfl (by decide : (128 : Int32).toInt = 128) h0) ?_
    refine t3_38 hgo ?_
    refine t3_39 hgo ?_
    refine t3_42f hgo (nlt_of rfl (by decide : (194 : Int32).toInt = 194) g) ?_
    refine t3_45 hgo ?_
    refine t3_46 hgo ?_
    refine t3_49t hgo (lt_of (by decide : (223 : Int32).toInt = 223) rfl (by omega)) ?_
    refine t3_58 hgo ?_
    refine t3_59 hgo ?_
    refine t3_62f hgo (neq_of rfl (by decide : (224 : Int32).toInt = 224) e1) ?_
    refine t3_76 hgo ?_
    refine t3_77 hgo ?_
    refine t3_80f hgo (neq_of rfl (by decide : (237 : Int32).toInt = 237) e2) ?_
    refine t3_94 hgo ?_
    refine t3_95 hgo ?_
    refine t3_98f hgo (nlt_of rfl (by decide : (225 : Int32).toInt = 225) (by omega)) ?_
    refine t3_101 hgo ?_
    refine t3_102 hgo ?_
    refine t3_105t hgo (lt_of (by decide : (239 : Int32).toInt = 239) rfl (by omega)) ?_
    refine t3_114 hgo ?_
    refine t3_115 hgo ?_
    refine t3_118f hgo (neq_of rfl (by decide : (240 : Int32).toInt = 240) e4) ?_
    refine t3_132 hgo ?_
    refine t3_133 hgo ?_
    refine t3_136t hgo (eq_of rfl (by decide : (244 : Int32).toInt = 244) e5) ?_
    refine t3_139 hgo ?_
    refine t3_140 hgo (by first | rfl | assumption) ?_
    refine t3_142 hgo ?_
    refine t3_145 hgo (by first | rfl | assumption) ?_
    refine t3_147 hgo ?_
    by_cases hs : (b : Int) - (a : Int) < 4
    · skip
      refine t3_172 hgo ?_
      refine t3_173 hgo ?_
      refine t3_174 hgo ?_
      refine t3_175 hgo ?_
      refine t3_177t hgo (lt_of hd (by decide : (4 : Int32).toInt = 4) hs) ?_
      refine t3_180 hgo ?_
      refine t3_181 hgo ?_
      exact hbad (by unfold csz; (repeat' split); all_goals first | rfl | (exfalso; omega))
    · have hx1 := hX (a + 1) (by omega)
      have hx2 := hX (a + 2) (by omega)
      have hx3 := hX (a + 3) (by omega)
      refine t3_172 hgo ?_
      refine t3_173 hgo ?_
      refine t3_174 hgo ?_
      refine t3_175 hgo ?_
      refine t3_177f hgo (nlt_of hd (by decide : (4 : Int32).toInt = 4) hs) ?_
      refine t3_182 hgo ?_
      refine t3_183 hgo (by first | rfl | assumption) ?_
      refine t3_185 hgo ?_
      refine t3_187 hgo ?_
      refine t3_189t hgo (by decide) ?_
      refine t3_192 hgo rfl ?_
      refine t3_193 hgo ?_
      refine t3_194 hgo ?_
      refine t3_196 hgo ?_
      refine res_of (u3_197 hgo) ?_
      simp only [eq_self, and_self, true_and, and_true, not_true_eq_false, not_false_eq_true, if_true, if_false, reduceIte, Option.bind_some, List.getElem?_cons_zero, List.getElem?_cons_succ, Nat.reduceAdd, Nat.reduceSub, Nat.reduceLT, Nat.reduceLeDiff, Nat.le_refl, Nat.zero_add, Nat.add_zero, List.length_cons, List.length_nil, Int32.reduceLT, Int32.reduceToNatClampNeg, Int32.reduceAdd, Int32.reduceSub, Int32.reduceMul, decide_true, ex_baload, ald, pI_int, pR_ref, arr, isT, isBZ, in1, ix1, hx1]
      refine t3_198 hgo ?_
      refine t3_201 hgo ?_
      refine t3_202 hgo (by first | rfl | assumption) ?_
      refine t3_204 hgo ?_
      refine t3_206 hgo ?_
      refine t3_208 hgo ?_
      by_cases x1 : (own_at X (a + 1) &&& 255).toInt < 128
      · skip
        refine t3_209t hgo rfl ?_
        refine t3_212 hgo ?_
        refine t3_214 hgo ?_
        refine t3_220t hgo (lt_of rfl (by decide : (128 : Int32).toInt = 128) x1) ?_
        refine t3_242 hgo ?_
        refine t3_243 hgo ?_
        exact hbad (by unfold csz; (repeat' split); all_goals first | rfl | (exfalso; omega))
      by_cases y1 : 143 < (own_at X (a + 1) &&& 255).toInt
      · skip
        refine t3_209t hgo rfl ?_
        refine t3_212 hgo ?_
        refine t3_214 hgo ?_
        refine t3_220f hgo (nlt_of rfl (by decide : (128 : Int32).toInt = 128) x1) ?_
        refine t3_223 hgo ?_
        refine t3_225 hgo ?_
        refine t3_227 hgo ?_
        refine t3_228t hgo rfl ?_
        refine t3_231 hgo ?_
        refine t3_233 hgo ?_
        refine t3_239t hgo (lt_of (by decide : (143 : Int32).toInt = 143) rfl y1) ?_
        refine t3_242 hgo ?_
        refine t3_243 hgo ?_
        exact hbad (by unfold csz; (repeat' split); all_goals first | rfl | (exfalso; omega))
      refine t3_209t hgo rfl ?_
      refine t3_212 hgo ?_
      refine t3_214 hgo ?_
      refine t3_220f hgo (nlt_of rfl (by decide : (128 : Int32).toInt = 128) x1) ?_
      refine t3_223 hgo ?_
      refine t3_225 hgo ?_
      refine t3_227 hgo ?_
      refine t3_228t hgo rfl ?_
      refine t3_231 hgo ?_
      refine t3_233 hgo ?_
      refine t3_239f hgo (nlt_of (by decide : (143 : Int32).toInt = 143) rfl y1) ?_
      refine t3_244 hgo ?_
      refine t3_247 hgo ?_
      refine t3_185 hgo ?_
      refine t3_187 hgo ?_
      refine t3_189t hgo (by decide) ?_
      refine t3_192 hgo rfl ?_
      refine t3_193 hgo ?_
      refine t3_194 hgo ?_
      refine t3_196 hgo ?_
      refine res_of (u3_197 hgo) ?_
      simp only [eq_self, and_self, true_and, and_true, not_true_eq_false, not_false_eq_true, if_true, if_false, reduceIte, Option.bind_some, List.getElem?_cons_zero, List.getElem?_cons_succ, Nat.reduceAdd, Nat.reduceSub, Nat.reduceLT, Nat.reduceLeDiff, Nat.le_refl, Nat.zero_add, Nat.add_zero, List.length_cons, List.length_nil, Int32.reduceLT, Int32.reduceToNatClampNeg, Int32.reduceAdd, Int32.reduceSub, Int32.reduceMul, decide_true, ex_baload, ald, pI_int, pR_ref, arr, isT, isBZ, in2, ix2, hx2]
      refine t3_198 hgo ?_
      refine t3_201 hgo ?_
      refine t3_202 hgo (by first | rfl | assumption) ?_
      refine t3_204 hgo ?_
      refine t3_206 hgo ?_
      refine t3_208 hgo ?_
      by_cases x2 : (own_at X (a + 2) &&& 255).toInt < 128
      · skip
        refine t3_209f hgo (by decide) ?_
        refine t3_217 hgo ?_
        refine t3_220t hgo (lt_of rfl (by decide : (128 : Int32).toInt = 128) x2) ?_
        refine t3_242 hgo ?_
        refine t3_243 hgo ?_
        exact hbad (by unfold csz; (repeat' split); all_goals first | rfl | (exfalso; omega))
      by_cases y2 : 191 < (own_at X (a + 2) &&& 255).toInt
      · skip
        refine t3_209f hgo (by decide) ?_
        refine t3_217 hgo ?_
        refine t3_220f hgo (nlt_of rfl (by decide : (128 : Int32).toInt = 128) x2) ?_
        refine t3_223 hgo ?_
        refine t3_225 hgo ?_
        refine t3_227 hgo ?_
        refine t3_228f hgo (by decide) ?_
        refine t3_236 hgo ?_
        refine t3_239t hgo (lt_of (by decide : (191 : Int32).toInt = 191) rfl y2) ?_
        refine t3_242 hgo ?_
        refine t3_243 hgo ?_
        exact hbad (by unfold csz; (repeat' split); all_goals first | rfl | (exfalso; omega))
      refine t3_209f hgo (by decide) ?_
      refine t3_217 hgo ?_
      refine t3_220f hgo (nlt_of rfl (by decide : (128 : Int32).toInt = 128) x2) ?_
      refine t3_223 hgo ?_
      refine t3_225 hgo ?_
      refine t3_227 hgo ?_
      refine t3_228f hgo (by decide) ?_
      refine t3_236 hgo ?_
      refine t3_239f hgo (nlt_of (by decide : (191 : Int32).toInt = 191) rfl y2) ?_
      refine t3_244 hgo ?_
      refine t3_247 hgo ?_
      refine t3_185 hgo ?_
      refine t3_187 hgo ?_
      refine t3_189t hgo (by decide) ?_
      refine t3_192 hgo rfl ?_
      refine t3_193 hgo ?_
      refine t3_194 hgo ?_
      refine t3_196 hgo ?_
      refine res_of (u3_197 hgo) ?_
      simp only [eq_self, and_self, true_and, and_true, not_true_eq_false, not_false_eq_true, if_true, if_false, reduceIte, Option.bind_some, List.getElem?_cons_zero, List.getElem?_cons_succ, Nat.reduceAdd, Nat.reduceSub, Nat.reduceLT, Nat.reduceLeDiff, Nat.le_refl, Nat.zero_add, Nat.add_zero, List.length_cons, List.length_nil, Int32.reduceLT, Int32.reduceToNatClampNeg, Int32.reduceAdd, Int32.reduceSub, Int32.reduceMul, decide_true, ex_baload, ald, pI_int, pR_ref, arr, isT, isBZ, in3, ix3, hx3]
      refine t3_198 hgo ?_
      refine t3_201 hgo ?_
      refine t3_202 hgo (by first | rfl | assumption) ?_
      refine t3_204 hgo ?_
      refine t3_206 hgo ?_
      refine t3_208 hgo ?_
      by_cases x3 : (own_at X (a + 3) &&& 255).toInt < 128
      · skip
        refine t3_209f hgo (by decide) ?_
        refine t3_217 hgo ?_
        refine t3_220t hgo (lt_of rfl (by decide : (128 : Int32).toInt = 128) x3) ?_
        refine t3_242 hgo ?_
        refine t3_243 hgo ?_
        exact hbad (by unfold csz; (repeat' split); all_goals first | rfl | (exfalso; omega))
      by_cases y3 : 191 < (own_at X (a + 3) &&& 255).toInt
      · skip
        refine t3_209f hgo (by decide) ?_
        refine t3_217 hgo ?_
        refine t3_220f hgo (nlt_of rfl (by decide : (128 : Int32).toInt = 128) x3) ?_
        refine t3_223 hgo ?_
        refine t3_225 hgo ?_
        refine t3_227 hgo ?_
        refine t3_228f hgo (by decide) ?_
        refine t3_236 hgo ?_
        refine t3_239t hgo (lt_of (by decide : (191 : Int32).toInt = 191) rfl y3) ?_
        refine t3_242 hgo ?_
        refine t3_243 hgo ?_
        exact hbad (by unfold csz; (repeat' split); all_goals first | rfl | (exfalso; omega))
      refine t3_209f hgo (by decide) ?_
      refine t3_217 hgo ?_
      refine t3_220f hgo (nlt_of rfl (by decide : (128 : Int32).toInt = 128) x3) ?_
      refine t3_223 hgo ?_
      refine t3_225 hgo ?_
      refine t3_227 hgo ?_
      refine t3_228f hgo (by decide) ?_
      refine t3_236 hgo ?_
      refine t3_239f hgo (nlt_of (by decide : (191 : Int32).toInt = 191) rfl y3) ?_
      refine t3_244 hgo ?_
      refine t3_247 hgo ?_
      refine t3_185 hgo ?_
      refine t3_187 hgo ?_
      refine t3_189f hgo (by decide) ?_
      refine t3_250 hgo ?_
      refine t3_251 hgo ?_
      refine t3_253 hgo ?_
      refine t3_254 hgo (by first | rfl | assumption) ?_
      refine t3_255 hgo ?_
      have e : csz ((b : Int) - (a : Int)) (own_at X a &&& 255).toInt (own_at X (a + 1) &&& 255).toInt (own_at X (a + 2) &&& 255).toInt (own_at X (a + 3) &&& 255).toInt = 4 := (by unfold csz; (repeat' split); all_goals first | rfl | (exfalso; omega))
      have hg := hgood (by rw [e]; decide)
      rw [e] at hg
      exact hg _ _ _ _ _ _ _ (by omega) rfl rfl rfl rfl rfl rfl
  by_cases e6 : (own_at X a &&& 255).toInt ≤ 243
  · skip
    refine t3_29f hgo (nlt_of rfl (by decide : (128 : Int32).toInt = 128) h0) ?_
    refine t3_38 hgo ?_
    refine t3_39 hgo ?_
    refine t3_42f hgo (nlt_of rfl (by decide : (194 : Int32).toInt = 194) g) ?_
    refine t3_45 hgo ?_
    refine t3_46 hgo ?_
    refine t3_49t hgo (lt_of (by decide : (223 : Int32).toInt = 223) rfl (by omega)) ?_
    refine t3_58 hgo ?_
    refine t3_59 hgo ?_
    refine t3_62f hgo (neq_of rfl (by decide : (224 : Int32).toInt = 224) e1) ?_
    refine t3_76 hgo ?_
    refine t3_77 hgo ?_
    refine t3_80f hgo (neq_of rfl (by decide : (237 : Int32).toInt = 237) e2) ?_
    refine t3_94 hgo ?_
    refine t3_95 hgo ?_
    refine t3_98f hgo (nlt_of rfl (by decide : (225 : Int32).toInt = 225) (by omega)) ?_
    refine t3_101 hgo ?_
    refine t3_102 hgo ?_
    refine t3_105t hgo (lt_of (by decide : (239 : Int32).toInt = 239) rfl (by omega)) ?_
    refine t3_114 hgo ?_
    refine t3_115 hgo ?_
    refine t3_118f hgo (neq_of rfl (by decide : (240 : Int32).toInt = 240) e4) ?_
    refine t3_132 hgo ?_
    refine t3_133 hgo ?_
    refine t3_136f hgo (neq_of rfl (by decide : (244 : Int32).toInt = 244) e5) ?_
    refine t3_150 hgo ?_
    refine t3_151 hgo ?_
    refine t3_154f hgo (nlt_of rfl (by decide : (241 : Int32).toInt = 241) (by omega)) ?_
    refine t3_157 hgo ?_
    refine t3_158 hgo ?_
    refine t3_161f hgo (nlt_of (by decide : (243 : Int32).toInt = 243) rfl (by omega)) ?_
    refine t3_164 hgo ?_
    refine t3_165 hgo (by first | rfl | assumption) ?_
    refine t3_167 hgo ?_
    by_cases hs : (b : Int) - (a : Int) < 4
    · skip
      refine t3_172 hgo ?_
      refine t3_173 hgo ?_
      refine t3_174 hgo ?_
      refine t3_175 hgo ?_
      refine t3_177t hgo (lt_of hd (by decide : (4 : Int32).toInt = 4) hs) ?_
      refine t3_180 hgo ?_
      refine t3_181 hgo ?_
      exact hbad (by unfold csz; (repeat' split); all_goals first | rfl | (exfalso; omega))
    · have hx1 := hX (a + 1) (by omega)
      have hx2 := hX (a + 2) (by omega)
      have hx3 := hX (a + 3) (by omega)
      refine t3_172 hgo ?_
      refine t3_173 hgo ?_
      refine t3_174 hgo ?_
      refine t3_175 hgo ?_
      refine t3_177f hgo (nlt_of hd (by decide : (4 : Int32).toInt = 4) hs) ?_
      refine t3_182 hgo ?_
      refine t3_183 hgo (by first | rfl | assumption) ?_
      refine t3_185 hgo ?_
      refine t3_187 hgo ?_
      refine t3_189t hgo (by decide) ?_
      refine t3_192 hgo rfl ?_
      refine t3_193 hgo ?_
      refine t3_194 hgo ?_
      refine t3_196 hgo ?_
      refine res_of (u3_197 hgo) ?_
      simp only [eq_self, and_self, true_and, and_true, not_true_eq_false, not_false_eq_true, if_true, if_false, reduceIte, Option.bind_some, List.getElem?_cons_zero, List.getElem?_cons_succ, Nat.reduceAdd, Nat.reduceSub, Nat.reduceLT, Nat.reduceLeDiff, Nat.le_refl, Nat.zero_add, Nat.add_zero, List.length_cons, List.length_nil, Int32.reduceLT, Int32.reduceToNatClampNeg, Int32.reduceAdd, Int32.reduceSub, Int32.reduceMul, decide_true, ex_baload, ald, pI_int, pR_ref, arr, isT, isBZ, in1, ix1, hx1]
      refine t3_198 hgo ?_
      refine t3_201 hgo ?_
      refine t3_202 hgo (by first | rfl | assumption) ?_
      refine t3_204 hgo ?_
      refine t3_206 hgo ?_
      refine t3_208 hgo ?_
      by_cases x1 : (own_at X (a + 1) &&& 255).toInt < 128
      · skip
        refine t3_209t hgo rfl ?_
        refine t3_212 hgo ?_
        refine t3_214 hgo ?_
        refine t3_220t hgo (lt_of rfl (by decide : (128 : Int32).toInt = 128) x1) ?_
        refine t3_242 hgo ?_
        refine t3_243 hgo ?_
        exact hbad (by unfold csz; (repeat' split); all_goals first | rfl | (exfalso; omega))
      by_cases y1 : 191 < (own_at X (a + 1) &&& 255).toInt
      · skip
        refine t3_209t hgo rfl ?_
        refine t3_212 hgo ?_
        refine t3_214 hgo ?_
        refine t3_220f hgo (nlt_of rfl (by decide : (128 : Int32).toInt = 128) x1) ?_
        refine t3_223 hgo ?_
        refine t3_225 hgo ?_
        refine t3_227 hgo ?_
        refine t3_228t hgo rfl ?_
        refine t3_231 hgo ?_
        refine t3_233 hgo ?_
        refine t3_239t hgo (lt_of (by decide : (191 : Int32).toInt = 191) rfl y1) ?_
        refine t3_242 hgo ?_
        refine t3_243 hgo ?_
        exact hbad (by unfold csz; (repeat' split); all_goals first | rfl | (exfalso; omega))
      refine t3_209t hgo rfl ?_
      refine t3_212 hgo ?_
      refine t3_214 hgo ?_
      refine t3_220f hgo (nlt_of rfl (by decide : (128 : Int32).toInt = 128) x1) ?_
      refine t3_223 hgo ?_
      refine t3_225 hgo ?_
      refine t3_227 hgo ?_
      refine t3_228t hgo rfl ?_
      refine t3_231 hgo ?_
      refine t3_233 hgo ?_
      refine t3_239f hgo (nlt_of (by decide : (191 : Int32).toInt = 191) rfl y1) ?_
      refine t3_244 hgo ?_
      refine t3_247 hgo ?_
      refine t3_185 hgo ?_
      refine t3_187 hgo ?_
      refine t3_189t hgo (by decide) ?_
      refine t3_192 hgo rfl ?_
      refine t3_193 hgo ?_
      refine t3_194 hgo ?_
      refine t3_196 hgo ?_
      refine res_of (u3_197 hgo) ?_
      simp only [eq_self, and_self, true_and, and_true, not_true_eq_false, not_false_eq_true, if_true, if_false, reduceIte, Option.bind_some, List.getElem?_cons_zero, List.getElem?_cons_succ, Nat.reduceAdd, Nat.reduceSub, Nat.reduceLT, Nat.reduceLeDiff, Nat.le_refl, Nat.zero_add, Nat.add_zero, List.length_cons, List.length_nil, Int32.reduceLT, Int32.reduceToNatClampNeg, Int32.reduceAdd, Int32.reduceSub, Int32.reduceMul, decide_true, ex_baload, ald, pI_int, pR_ref, arr, isT, isBZ, in2, ix2, hx2]
      refine t3_198 hgo ?_
      refine t3_201 hgo ?_
      refine t3_202 hgo (by first | rfl | assumption) ?_
      refine t3_204 hgo ?_
      refine t3_206 hgo ?_
      refine t3_208 hgo ?_
      by_cases x2 : (own_at X (a + 2) &&& 255).toInt < 128
      · skip
        refine t3_209f hgo (by decide) ?_
        refine t3_217 hgo ?_
        refine t3_220t hgo (lt_of rfl (by decide : (128 : Int32).toInt = 128) x2) ?_
        refine t3_242 hgo ?_
        refine t3_243 hgo ?_
        exact hbad (by unfold csz; (repeat' split); all_goals first | rfl | (exfalso; omega))
      by_cases y2 : 191 < (own_at X (a + 2) &&& 255).toInt
      · skip
        refine t3_209f hgo (by decide) ?_
        refine t3_217 hgo ?_
        refine t3_220f hgo (nlt_of rfl (by decide : (128 : Int32).toInt = 128) x2) ?_
        refine t3_223 hgo ?_
        refine t3_225 hgo ?_
        refine t3_227 hgo ?_
        refine t3_228f hgo (by decide) ?_
        refine t3_236 hgo ?_
        refine t3_239t hgo (lt_of (by decide : (191 : Int32).toInt = 191) rfl y2) ?_
        refine t3_242 hgo ?_
        refine t3_243 hgo ?_
        exact hbad (by unfold csz; (repeat' split); all_goals first | rfl | (exfalso; omega))
      refine t3_209f hgo (by decide) ?_
      refine t3_217 hgo ?_
      refine t3_220f hgo (nlt_of rfl (by decide : (128 : Int32).toInt = 128) x2) ?_
      refine t3_223 hgo ?_
      refine t3_225 hgo ?_
      refine t3_227 hgo ?_
      refine t3_228f hgo (by decide) ?_
      refine t3_236 hgo ?_
      refine t3_239f hgo (nlt_of (by decide : (191 : Int32).toInt = 191) rfl y2) ?_
      refine t3_244 hgo ?_
      refine t3_247 hgo ?_
      refine t3_185 hgo ?_
      refine t3_187 hgo ?_
      refine t3_189t hgo (by decide) ?_
      refine t3_192 hgo rfl ?_
      refine t3_193 hgo ?_
      refine t3_194 hgo ?_
      refine t3_196 hgo ?_
      refine res_of (u3_197 hgo) ?_
      simp only [eq_self, and_self, true_and, and_true, not_true_eq_false, not_false_eq_true, if_true, if_false, reduceIte, Option.bind_some, List.getElem?_cons_zero, List.getElem?_cons_succ, Nat.reduceAdd, Nat.reduceSub, Nat.reduceLT, Nat.reduceLeDiff, Nat.le_refl, Nat.zero_add, Nat.add_zero, List.length_cons, List.length_nil, Int32.reduceLT, Int32.reduceToNatClampNeg, Int32.reduceAdd, Int32.reduceSub, Int32.reduceMul, decide_true, ex_baload, ald, pI_int, pR_ref, arr, isT, isBZ, in3, ix3, hx3]
      refine t3_198 hgo ?_
      refine t3_201 hgo ?_
      refine t3_202 hgo (by first | rfl | assumption) ?_
      refine t3_204 hgo ?_
      refine t3_206 hgo ?_
      refine t3_208 hgo ?_
      by_cases x3 : (own_at X (a + 3) &&& 255).toInt < 128
      · skip
        refine t3_209f hgo (by decide) ?_
        refine t3_217 hgo ?_
        refine t3_220t hgo (lt_of rfl (by decide : (128 : Int32).toInt = 128) x3) ?_
        refine t3_242 hgo ?_
        refine t3_243 hgo ?_
        exact hbad (by unfold csz; (repeat' split); all_goals first | rfl | (exfalso; omega))
      by_cases y3 : 191 < (own_at X (a + 3) &&& 255).toInt
      · skip
        refine t3_209f hgo (by decide) ?_
        refine t3_217 hgo ?_
        refine t3_220f hgo (nlt_of rfl (by decide : (128 : Int32).toInt = 128) x3) ?_
        refine t3_223 hgo ?_
        refine t3_225 hgo ?_
        refine t3_227 hgo ?_
        refine t3_228f hgo (by decide) ?_
        refine t3_236 hgo ?_
        refine t3_239t hgo (lt_of (by decide : (191 : Int32).toInt = 191) rfl y3) ?_
        refine t3_242 hgo ?_
        refine t3_243 hgo ?_
        exact hbad (by unfold csz; (repeat' split); all_goals first | rfl | (exfalso; omega))
      refine t3_209f hgo (by decide) ?_
      refine t3_217 hgo ?_
      refine t3_220f hgo (nlt_of rfl (by decide : (128 : Int32).toInt = 128) x3) ?_
      refine t3_223 hgo ?_
      refine t3_225 hgo ?_
      refine t3_227 hgo ?_
      refine t3_228f hgo (by decide) ?_
      refine t3_236 hgo ?_
      refine t3_239f hgo (nlt_of (by decide : (191 : Int32).toInt = 191) rfl y3) ?_
      refine t3_244 hgo ?_
      refine t3_247 hgo ?_
      refine t3_185 hgo ?_
      refine t3_187 hgo ?_
      refine t3_189f hgo (by decide) ?_
      refine t3_250 hgo ?_
      refine t3_251 hgo ?_
      refine t3_253 hgo ?_
      refine t3_254 hgo (by first | rfl | assumption) ?_
      refine t3_255 hgo ?_
      have e : csz ((b : Int) - (a : Int)) (own_at X a &&& 255).toInt (own_at X (a + 1) &&& 255).toInt (own_at X (a + 2) &&& 255).toInt (own_at X (a + 3) &&& 255).toInt = 4 := (by unfold csz; (repeat' split); all_goals first | rfl | (exfalso; omega))
      have hg := hgood (by rw [e]; decide)
      rw [e] at hg
      exact hg _ _ _ _ _ _ _ (by omega) rfl rfl rfl rfl rfl rfl
  · skip
    refine t3_29f hgo (nlt_of rfl (by decide : (128 : Int32).toInt = 128) h0) ?_
    refine t3_38 hgo ?_
    refine t3_39 hgo ?_
    refine t3_42f hgo (nlt_of rfl (by decide : (194 : Int32).toInt = 194) g) ?_
    refine t3_45 hgo ?_
    refine t3_46 hgo ?_
    refine t3_49t hgo (lt_of (by decide : (223 : Int32).toInt = 223) rfl (by omega)) ?_
    refine t3_58 hgo ?_
    refine t3_59 hgo ?_
    refine t3_62f hgo (neq_of rfl (by decide : (224 : Int32).toInt = 224) e1) ?_
    refine t3_76 hgo ?_
    refine t3_77 hgo ?_
    refine t3_80f hgo (neq_of rfl (by decide : (237 : Int32).toInt = 237) e2) ?_
    refine t3_94 hgo ?_
    refine t3_95 hgo ?_
    refine t3_98f hgo (nlt_of rfl (by decide : (225 : Int32).toInt = 225) (by omega)) ?_
    refine t3_101 hgo ?_
    refine t3_102 hgo ?_
    refine t3_105t hgo (lt_of (by decide : (239 : Int32).toInt = 239) rfl (by omega)) ?_
    refine t3_114 hgo ?_
    refine t3_115 hgo ?_
    refine t3_118f hgo (neq_of rfl (by decide : (240 : Int32).toInt = 240) e4) ?_
    refine t3_132 hgo ?_
    refine t3_133 hgo ?_
    refine t3_136f hgo (neq_of rfl (by decide : (244 : Int32).toInt = 244) e5) ?_
    refine t3_150 hgo ?_
    refine t3_151 hgo ?_
    refine t3_154f hgo (nlt_of rfl (by decide : (241 : Int32).toInt = 241) (by omega)) ?_
    refine t3_157 hgo ?_
    refine t3_158 hgo ?_
    refine t3_161t hgo (lt_of (by decide : (243 : Int32).toInt = 243) rfl (by omega)) ?_
    refine t3_170 hgo ?_
    refine t3_171 hgo ?_
    exact hbad (by unfold csz; (repeat' split); all_goals first | rfl | (exfalso; omega))
def cszI (X : List Value) (n i : Int32) : Int32 := csz ((n.toInt.toNat : Int) - (i.toInt.toNat : Int)) (own_at X i.toInt.toNat &&& 255).toInt (own_at X (i.toInt.toNat + 1) &&& 255).toInt (own_at X (i.toInt.toNat + 2) &&& 255).toInt (own_at X (i.toInt.toNat + 3) &&& 255).toInt
def stp (X : List Value) (n i : Int32) : Int32 := if i < 0 then i else if i < n then (if cszI X n i < 0 then -1 else i + cszI X n i) else i
def own_it (X : List Value) (n : Int32) : Nat → Int32 → Int32 | 0, i => i | r + 1, i => own_it X n r (stp X n i)
theorem own_0 : (0 : Int32).toInt = 0 := by decide
theorem F2_I {X : List Value} {n i : Int32} (hX : ∀ j, j < 8 → X[j]? = some (Value.int (own_at X j))) (hi : ¬ i < 0) (hlt : i < n) (hn : n.toInt ≤ 8) : F2 [.ref 0, .int n, .int i] [.inr (.byte, X)] = some (some (.int (cszI X n i)), [.inr (.byte, X)]) := by
  rw [Int32.lt_iff_toInt_lt, own_0] at hi
  rw [Int32.lt_iff_toInt_lt] at hlt
  exact F2_eq (a := i.toInt.toNat) (b := n.toInt.toNat) hX (by omega) (by omega) (by omega) (by omega)
set_option maxRecDepth 65536 in
theorem F1_eq {X : List Value} {n : Int32} (hX : ∀ j, j < 8 → X[j]? = some (Value.int (own_at X j))) (hn : n.toInt ≤ 8) (i : Int32) : F1 [.ref 0, .int n, .int i] [.inr (.byte, X)] = some (some (.int (stp X n i)), [.inr (.byte, X)]) := by
  unfold stp
  by_cases h1 : i < 0
  · rw [if_pos h1]
    refine is_of f1_in fun go hgo => ?_
    refine t1_0 hgo ?_
    refine t1_1t hgo h1 ?_
    refine t1_9 hgo ?_
    refine t1_10 hgo ?_
    exact is_r
  · rw [if_neg h1]
    by_cases h2 : i < n
    · rw [if_pos h2]
      by_cases h3 : cszI X n i < 0
      · rw [if_pos h3]
        refine is_of f1_in fun go hgo => ?_
        refine t1_0 hgo ?_
        refine t1_1f hgo h1 ?_
        refine t1_4 hgo ?_
        refine t1_5 hgo ?_
        refine t1_6t hgo h2 ?_
        refine t1_11 hgo rfl ?_
        refine t1_12 hgo ?_
        refine t1_13 hgo ?_
        refine res_of (u1_14 hgo) ?_
        simp only [eq_self, and_self, true_and, and_true, not_true_eq_false, not_false_eq_true, if_true, if_false, reduceIte, Option.bind_some, List.getElem?_cons_zero, List.getElem?_cons_succ, Nat.reduceAdd, Nat.reduceSub, Nat.reduceLT, Nat.reduceLeDiff, Nat.le_refl, Nat.zero_add, Nat.add_zero, List.length_cons, List.length_nil, Int32.reduceLT, Int32.reduceToNatClampNeg, Int32.reduceAdd, Int32.reduceSub, Int32.reduceMul, decide_true, aCall, aRecv, aObj, obj, List.take_succ_cons, List.take_zero, List.drop_succ_cons, List.drop_zero, List.reverse_cons, List.reverse_nil, List.nil_append, List.cons_append, List.append_nil, List.map_cons, List.map_nil, List.sum_cons, List.sum_nil, cat_int, cat_long, cat_ref, cat_null, Option.toList_some, Option.toList_none, F2_I hX h1 h2 hn]
        refine t1_17 hgo rfl ?_
        refine t1_18 hgo ?_
        refine t1_19t hgo h3 ?_
        refine t1_22 hgo ?_
        refine t1_23 hgo ?_
        exact is_r
      · rw [if_neg h3]
        refine is_of f1_in fun go hgo => ?_
        refine t1_0 hgo ?_
        refine t1_1f hgo h1 ?_
        refine t1_4 hgo ?_
        refine t1_5 hgo ?_
        refine t1_6t hgo h2 ?_
        refine t1_11 hgo rfl ?_
        refine t1_12 hgo ?_
        refine t1_13 hgo ?_
        refine res_of (u1_14 hgo) ?_
        simp only [eq_self, and_self, true_and, and_true, not_true_eq_false, not_false_eq_true, if_true, if_false, reduceIte, Option.bind_some, List.getElem?_cons_zero, List.getElem?_cons_succ, Nat.reduceAdd, Nat.reduceSub, Nat.reduceLT, Nat.reduceLeDiff, Nat.le_refl, Nat.zero_add, Nat.add_zero, List.length_cons, List.length_nil, Int32.reduceLT, Int32.reduceToNatClampNeg, Int32.reduceAdd, Int32.reduceSub, Int32.reduceMul, decide_true, aCall, aRecv, aObj, obj, List.take_succ_cons, List.take_zero, List.drop_succ_cons, List.drop_zero, List.reverse_cons, List.reverse_nil, List.nil_append, List.cons_append, List.append_nil, List.map_cons, List.map_nil, List.sum_cons, List.sum_nil, cat_int, cat_long, cat_ref, cat_null, Option.toList_some, Option.toList_none, F2_I hX h1 h2 hn]
        refine t1_17 hgo rfl ?_
        refine t1_18 hgo ?_
        refine t1_19f hgo h3 ?_
        refine t1_24 hgo ?_
        refine t1_25 hgo ?_
        refine t1_26 hgo ?_
        refine t1_27 hgo ?_
        exact is_r
    · rw [if_neg h2]
      refine is_of f1_in fun go hgo => ?_
      refine t1_0 hgo ?_
      refine t1_1f hgo h1 ?_
      refine t1_4 hgo ?_
      refine t1_5 hgo ?_
      refine t1_6f hgo h2 ?_
      refine t1_9 hgo ?_
      refine t1_10 hgo ?_
      exact is_r
theorem it_neg {X : List Value} {n : Int32} : ∀ r : Nat, own_it X n r (-1) = -1 := by
  intro r
  induction r with
  | zero => rfl
  | succ r ih =>
    show own_it X n r (stp X n (-1)) = -1
    have e : stp X n (-1) = -1 := by unfold stp; rw [if_pos (by decide)]
    rw [e]; exact ih
theorem it_n {X : List Value} {n : Int32} (h0 : 0 ≤ n.toInt) : ∀ r : Nat, own_it X n r n = n := by
  intro r
  induction r with
  | zero => rfl
  | succ r ih =>
    show own_it X n r (stp X n n) = n
    have e : stp X n n = n := by
      unfold stp
      rw [if_neg (by rw [Int32.lt_iff_toInt_lt, own_0]; omega), if_neg (by rw [Int32.lt_iff_toInt_lt]; omega)]
    rw [e]; exact ih
set_option maxRecDepth 65536 in
set_option maxHeartbeats 4000000 in
theorem valid {go : Nat → St → Option ORes} (hgo : go = orun prog_64_method_2_code (Option.some Jvm.ClassFile.FieldType.boolean) E3 0) {X : List Value} {n : Int32} (hX : ∀ j, j < 8 → X[j]? = some (Value.int (own_at X j))) (h0 : 0 ≤ n.toInt) (hn : n.toInt ≤ 8) {cs ss : Nat} : ∀ (r : Nat) (i : Int32), 0 ≤ i.toInt → i.toInt ≤ n.toInt → n.toInt - i.toInt ≤ r → ∀ (N : Nat) (l3 l4 l5 l6 l7 l8 : Slot), 200 * (r + 1) ≤ N → so l3 = true → so l4 = true → so l5 = true → so l6 = true → so l7 = true → so l8 = true → Rsq (go N (2, [.val (.ref 0), .val (.int n), .val (.int i), l3, l4, l5, l6, l7, l8], [], [.inr (.byte, X)], cs, ss)) (Is (some (some (.int (if own_it X n r i = n then 1 else 0)), [.inr (.byte, X)]))) := by
  intro r
  induction r with
  | zero =>
    intro i h1 h2 h3 N l3 l4 l5 l6 l7 l8 hN s3 s4 s5 s6 s7 s8
    have e : i = n := by rw [← Int32.toInt_inj]; omega
    obtain ⟨m, rfl⟩ : ∃ m, N = m + 5 := ⟨N - 5, by omega⟩
    subst e
    rw [if_pos (it_n h0 0)]
    refine t3_2 hgo ?_
    refine t3_3 hgo ?_
    refine t3_4f hgo (by rw [Int32.lt_iff_toInt_lt]; omega) ?_
    refine t3_258 hgo ?_
    refine t3_259 hgo ?_
    exact is_1
  | succ r ih =>
    intro i h1 h2 h3 N l3 l4 l5 l6 l7 l8 hN s3 s4 s5 s6 s7 s8
    by_cases e : i = n
    · obtain ⟨m, rfl⟩ : ∃ m, N = m + 5 := ⟨N - 5, by omega⟩
      subst e
      rw [if_pos (it_n h0 _)]
      refine t3_2 hgo ?_
      refine t3_3 hgo ?_
      refine t3_4f hgo (by rw [Int32.lt_iff_toInt_lt]; omega) ?_
      refine t3_258 hgo ?_
      refine t3_259 hgo ?_
      exact is_1
    · have hlt : i.toInt < n.toInt := by
        have : ¬ i.toInt = n.toInt := fun q => e (Int32.toInt_inj.mp q)
        omega
      have g1 : ¬ i < 0 := by rw [Int32.lt_iff_toInt_lt, own_0]; omega
      have g2 : i < n := by rw [Int32.lt_iff_toInt_lt]; exact hlt
      have hcz := csz_cases ((n.toInt.toNat : Int) - (i.toInt.toNat : Int)) (own_at X i.toInt.toNat &&& 255).toInt (own_at X (i.toInt.toNat + 1) &&& 255).toInt (own_at X (i.toInt.toNat + 2) &&& 255).toInt (own_at X (i.toInt.toNat + 3) &&& 255).toInt
      change cszI X n i = -1 ∨ cszI X n i = 1 ∨ (cszI X n i = 2 ∧ _) ∨ (cszI X n i = 3 ∧ _) ∨ (cszI X n i = 4 ∧ _) at hcz
      refine turn hgo (a := i.toInt.toNat) (b := n.toInt.toNat) hX (by omega) (by omega) (by omega) (by omega) s3 s4 s5 s6 s7 s8 (by omega) (fun hb => ?_) (fun hg => ?_)
      · change cszI X n i = -1 at hb
        have es : stp X n i = -1 := by
          unfold stp; rw [if_neg g1, if_pos g2, hb, if_pos (by decide)]
        have ei : ¬ own_it X n (r + 1) i = n := by
          show ¬ own_it X n r (stp X n i) = n
          rw [es, it_neg, ← Int32.toInt_inj]
          have : (-1 : Int32).toInt = -1 := by decide
          omega
        rw [if_neg ei]
        exact is_0
      · change ¬ cszI X n i = -1 at hg
        intro N' l3 l4 l5 l6 l7 l8 hN' t3 t4 t5 t6 t7 t8
        change Rsq (go N' (2, [.val (.ref 0), .val (.int n), .val (.int (i + cszI X n i)), l3, l4, l5, l6, l7, l8], [], [.inr (.byte, X)], cs, ss)) _
        have hc : 1 ≤ (cszI X n i).toInt ∧ (cszI X n i).toInt ≤ 4 ∧ (cszI X n i).toInt ≤ n.toInt - i.toInt := by
          have e1 : (1 : Int32).toInt = 1 := by decide
          have e2 : (2 : Int32).toInt = 2 := by decide
          have e3 : (3 : Int32).toInt = 3 := by decide
          have e4 : (4 : Int32).toInt = 4 := by decide
          rcases hcz with h | h | h | h | h
          · exact absurd h hg
          · rw [h]; omega
          · rw [h.1]; omega
          · rw [h.1]; omega
          · rw [h.1]; omega
        have ha := c_iadd i (cszI X n i)
        have hr := rng32 (i + cszI X n i)
        have es : stp X n i = i + cszI X n i := by
          unfold stp
          rw [if_neg g1, if_pos g2, if_neg (by rw [Int32.lt_iff_toInt_lt, own_0]; omega)]
        have hh := ih (i + cszI X n i) (by omega) (by omega) (by omega) N' l3 l4 l5 l6 l7 l8 (by omega) t3 t4 t5 t6 t7 t8
        have ei : own_it X n (r + 1) i = own_it X n r (i + cszI X n i) := by
          show own_it X n r (stp X n i) = _
          rw [es]
        rw [ei]
        exact hh
set_option maxRecDepth 65536 in
theorem F3_eq {X : List Value} {n : Int32} (hX : ∀ j, j < 8 → X[j]? = some (Value.int (own_at X j))) (h0 : 0 ≤ n.toInt) (hn : n.toInt ≤ 8) : F3 [.ref 0, .int n] [.inr (.byte, X)] = some (some (.int (if own_it X n 8 0 = n then 1 else 0)), [.inr (.byte, X)]) := by
  refine is_of f3_in fun go hgo => ?_
  refine t3_0 hgo ?_
  refine t3_1 hgo rfl ?_
  exact valid hgo hX h0 hn 8 0 (by decide) (by rw [own_0]; omega) (by rw [own_0]; omega) _ _ _ _ _ _ _ (by omega) rfl rfl rfl rfl rfl rfl
set_option maxRecDepth 65536 in
set_option maxHeartbeats 4000000 in
theorem tail {go : Nat → St → Option ORes} (hgo : go = orun code ret E0 0) {l0 l1 : Slot} {w : Int32} {x0 x1 x2 x3 x4 x5 x6 x7 : Int32} {m : Nat} : Rsq (go (m + 120) (76, [l0, l1, .val (.int w), .val (.ref 0), .unset, .unset, .unset], [], [.inr (.byte, [.int x0, .int x1, .int x2, .int x3, .int x4, .int x5, .int x6, .int x7])], 1, 8)) OneI := by
  have hX : ∀ j, j < 8 → ([.int x0, .int x1, .int x2, .int x3, .int x4, .int x5, .int x6, .int x7] : List Value)[j]? = some (Value.int (own_at [.int x0, .int x1, .int x2, .int x3, .int x4, .int x5, .int x6, .int x7] j)) := by
    intro j hj
    match j, hj with
    | 0, _ => rfl
    | 1, _ => rfl
    | 2, _ => rfl
    | 3, _ => rfl
    | 4, _ => rfl
    | 5, _ => rfl
    | 6, _ => rfl
    | 7, _ => rfl
    | k + 8, h => exact absurd h (by omega)
  generalize ([.int x0, .int x1, .int x2, .int x3, .int x4, .int x5, .int x6, .int x7] : List Value) = X at *
  have h1 := c_and w 2147483647 (by decide)
  have h2 := (c_irem (w &&& 2147483647) 9 9 (by decide)).1 h1.1
  have h3 : 0 ≤ ((w &&& 2147483647) % 9).toInt ∧ ((w &&& 2147483647) % 9).toInt ≤ 8 := by omega
  refine t0_76 hgo ?_
  refine t0_77 hgo ?_
  refine t0_79 hgo ?_
  refine t0_80 hgo ?_
  refine t0_82 hgo (by decide) ?_
  refine t0_83 hgo rfl ?_
  refine t0_85 hgo ?_
  refine t0_86 hgo rfl ?_
  generalize (w &&& 2147483647) % 9 = n at *
  have hF := F1_eq hX h3.2
  refine t0_88 hgo rfl ?_
  refine t0_89 hgo ?_
  refine t0_91 hgo ?_
  refine res_of (u0_93 hgo) ?_
  simp only [eq_self, and_self, true_and, and_true, not_true_eq_false, not_false_eq_true, if_true, if_false, reduceIte, Option.bind_some, List.getElem?_cons_zero, List.getElem?_cons_succ, Nat.reduceAdd, Nat.reduceSub, Nat.reduceLT, Nat.reduceLeDiff, Nat.le_refl, Nat.zero_add, Nat.add_zero, List.length_cons, List.length_nil, Int32.reduceLT, Int32.reduceToNatClampNeg, Int32.reduceAdd, Int32.reduceSub, Int32.reduceMul, decide_true, aCall, aRecv, aObj, obj, List.take_succ_cons, List.take_zero, List.drop_succ_cons, List.drop_zero, List.reverse_cons, List.reverse_nil, List.nil_append, List.cons_append, List.append_nil, List.map_cons, List.map_nil, List.sum_cons, List.sum_nil, cat_int, cat_long, cat_ref, cat_null, Option.toList_some, Option.toList_none, hF]
  refine t0_96 hgo rfl ?_
  refine t0_98 hgo rfl ?_
  refine t0_99 hgo ?_
  refine t0_101 hgo ?_
  refine res_of (u0_103 hgo) ?_
  simp only [eq_self, and_self, true_and, and_true, not_true_eq_false, not_false_eq_true, if_true, if_false, reduceIte, Option.bind_some, List.getElem?_cons_zero, List.getElem?_cons_succ, Nat.reduceAdd, Nat.reduceSub, Nat.reduceLT, Nat.reduceLeDiff, Nat.le_refl, Nat.zero_add, Nat.add_zero, List.length_cons, List.length_nil, Int32.reduceLT, Int32.reduceToNatClampNeg, Int32.reduceAdd, Int32.reduceSub, Int32.reduceMul, decide_true, aCall, aRecv, aObj, obj, List.take_succ_cons, List.take_zero, List.drop_succ_cons, List.drop_zero, List.reverse_cons, List.reverse_nil, List.nil_append, List.cons_append, List.append_nil, List.map_cons, List.map_nil, List.sum_cons, List.sum_nil, cat_int, cat_long, cat_ref, cat_null, Option.toList_some, Option.toList_none, hF]
  refine t0_106 hgo rfl ?_
  refine t0_108 hgo rfl ?_
  refine t0_109 hgo ?_
  refine t0_111 hgo ?_
  refine res_of (u0_113 hgo) ?_
  simp only [eq_self, and_self, true_and, and_true, not_true_eq_false, not_false_eq_true, if_true, if_false, reduceIte, Option.bind_some, List.getElem?_cons_zero, List.getElem?_cons_succ, Nat.reduceAdd, Nat.reduceSub, Nat.reduceLT, Nat.reduceLeDiff, Nat.le_refl, Nat.zero_add, Nat.add_zero, List.length_cons, List.length_nil, Int32.reduceLT, Int32.reduceToNatClampNeg, Int32.reduceAdd, Int32.reduceSub, Int32.reduceMul, decide_true, aCall, aRecv, aObj, obj, List.take_succ_cons, List.take_zero, List.drop_succ_cons, List.drop_zero, List.reverse_cons, List.reverse_nil, List.nil_append, List.cons_append, List.append_nil, List.map_cons, List.map_nil, List.sum_cons, List.sum_nil, cat_int, cat_long, cat_ref, cat_null, Option.toList_some, Option.toList_none, hF]
  refine t0_116 hgo rfl ?_
  refine t0_118 hgo rfl ?_
  refine t0_119 hgo ?_
  refine t0_121 hgo ?_
  refine res_of (u0_123 hgo) ?_
  simp only [eq_self, and_self, true_and, and_true, not_true_eq_false, not_false_eq_true, if_true, if_false, reduceIte, Option.bind_some, List.getElem?_cons_zero, List.getElem?_cons_succ, Nat.reduceAdd, Nat.reduceSub, Nat.reduceLT, Nat.reduceLeDiff, Nat.le_refl, Nat.zero_add, Nat.add_zero, List.length_cons, List.length_nil, Int32.reduceLT, Int32.reduceToNatClampNeg, Int32.reduceAdd, Int32.reduceSub, Int32.reduceMul, decide_true, aCall, aRecv, aObj, obj, List.take_succ_cons, List.take_zero, List.drop_succ_cons, List.drop_zero, List.reverse_cons, List.reverse_nil, List.nil_append, List.cons_append, List.append_nil, List.map_cons, List.map_nil, List.sum_cons, List.sum_nil, cat_int, cat_long, cat_ref, cat_null, Option.toList_some, Option.toList_none, hF]
  refine t0_126 hgo rfl ?_
  refine t0_128 hgo rfl ?_
  refine t0_129 hgo ?_
  refine t0_131 hgo ?_
  refine res_of (u0_133 hgo) ?_
  simp only [eq_self, and_self, true_and, and_true, not_true_eq_false, not_false_eq_true, if_true, if_false, reduceIte, Option.bind_some, List.getElem?_cons_zero, List.getElem?_cons_succ, Nat.reduceAdd, Nat.reduceSub, Nat.reduceLT, Nat.reduceLeDiff, Nat.le_refl, Nat.zero_add, Nat.add_zero, List.length_cons, List.length_nil, Int32.reduceLT, Int32.reduceToNatClampNeg, Int32.reduceAdd, Int32.reduceSub, Int32.reduceMul, decide_true, aCall, aRecv, aObj, obj, List.take_succ_cons, List.take_zero, List.drop_succ_cons, List.drop_zero, List.reverse_cons, List.reverse_nil, List.nil_append, List.cons_append, List.append_nil, List.map_cons, List.map_nil, List.sum_cons, List.sum_nil, cat_int, cat_long, cat_ref, cat_null, Option.toList_some, Option.toList_none, hF]
  refine t0_136 hgo rfl ?_
  refine t0_138 hgo rfl ?_
  refine t0_139 hgo ?_
  refine t0_141 hgo ?_
  refine res_of (u0_143 hgo) ?_
  simp only [eq_self, and_self, true_and, and_true, not_true_eq_false, not_false_eq_true, if_true, if_false, reduceIte, Option.bind_some, List.getElem?_cons_zero, List.getElem?_cons_succ, Nat.reduceAdd, Nat.reduceSub, Nat.reduceLT, Nat.reduceLeDiff, Nat.le_refl, Nat.zero_add, Nat.add_zero, List.length_cons, List.length_nil, Int32.reduceLT, Int32.reduceToNatClampNeg, Int32.reduceAdd, Int32.reduceSub, Int32.reduceMul, decide_true, aCall, aRecv, aObj, obj, List.take_succ_cons, List.take_zero, List.drop_succ_cons, List.drop_zero, List.reverse_cons, List.reverse_nil, List.nil_append, List.cons_append, List.append_nil, List.map_cons, List.map_nil, List.sum_cons, List.sum_nil, cat_int, cat_long, cat_ref, cat_null, Option.toList_some, Option.toList_none, hF]
  refine t0_146 hgo rfl ?_
  refine t0_148 hgo rfl ?_
  refine t0_149 hgo ?_
  refine t0_151 hgo ?_
  refine res_of (u0_153 hgo) ?_
  simp only [eq_self, and_self, true_and, and_true, not_true_eq_false, not_false_eq_true, if_true, if_false, reduceIte, Option.bind_some, List.getElem?_cons_zero, List.getElem?_cons_succ, Nat.reduceAdd, Nat.reduceSub, Nat.reduceLT, Nat.reduceLeDiff, Nat.le_refl, Nat.zero_add, Nat.add_zero, List.length_cons, List.length_nil, Int32.reduceLT, Int32.reduceToNatClampNeg, Int32.reduceAdd, Int32.reduceSub, Int32.reduceMul, decide_true, aCall, aRecv, aObj, obj, List.take_succ_cons, List.take_zero, List.drop_succ_cons, List.drop_zero, List.reverse_cons, List.reverse_nil, List.nil_append, List.cons_append, List.append_nil, List.map_cons, List.map_nil, List.sum_cons, List.sum_nil, cat_int, cat_long, cat_ref, cat_null, Option.toList_some, Option.toList_none, hF]
  refine t0_156 hgo rfl ?_
  refine t0_158 hgo rfl ?_
  refine t0_159 hgo ?_
  refine t0_161 hgo ?_
  refine res_of (u0_163 hgo) ?_
  simp only [eq_self, and_self, true_and, and_true, not_true_eq_false, not_false_eq_true, if_true, if_false, reduceIte, Option.bind_some, List.getElem?_cons_zero, List.getElem?_cons_succ, Nat.reduceAdd, Nat.reduceSub, Nat.reduceLT, Nat.reduceLeDiff, Nat.le_refl, Nat.zero_add, Nat.add_zero, List.length_cons, List.length_nil, Int32.reduceLT, Int32.reduceToNatClampNeg, Int32.reduceAdd, Int32.reduceSub, Int32.reduceMul, decide_true, aCall, aRecv, aObj, obj, List.take_succ_cons, List.take_zero, List.drop_succ_cons, List.drop_zero, List.reverse_cons, List.reverse_nil, List.nil_append, List.cons_append, List.append_nil, List.map_cons, List.map_nil, List.sum_cons, List.sum_nil, cat_int, cat_long, cat_ref, cat_null, Option.toList_some, Option.toList_none, hF]
  refine t0_166 hgo rfl ?_
  refine t0_168 hgo ?_
  refine t0_170 hgo ?_
  have e8 : stp X n (stp X n (stp X n (stp X n (stp X n (stp X n (stp X n (stp X n 0))))))) = own_it X n 8 0 := rfl
  rw [e8]
  have hV := F3_eq hX h3.1 h3.2
  by_cases hE : own_it X n 8 0 = n
  · rw [if_pos hE] at hV
    refine t0_172t hgo hE ?_
    refine t0_175 hgo ?_
    refine t0_176 hgo ?_
    refine t0_180 hgo rfl ?_
    refine t0_182 hgo rfl ?_
    refine t0_183 hgo ?_
    refine res_of (u0_185 hgo) ?_
    simp only [eq_self, and_self, true_and, and_true, not_true_eq_false, not_false_eq_true, if_true, if_false, reduceIte, Option.bind_some, List.getElem?_cons_zero, List.getElem?_cons_succ, Nat.reduceAdd, Nat.reduceSub, Nat.reduceLT, Nat.reduceLeDiff, Nat.le_refl, Nat.zero_add, Nat.add_zero, List.length_cons, List.length_nil, Int32.reduceLT, Int32.reduceToNatClampNeg, Int32.reduceAdd, Int32.reduceSub, Int32.reduceMul, decide_true, aCall, aRecv, aObj, obj, List.take_succ_cons, List.take_zero, List.drop_succ_cons, List.drop_zero, List.reverse_cons, List.reverse_nil, List.nil_append, List.cons_append, List.append_nil, List.map_cons, List.map_nil, List.sum_cons, List.sum_nil, cat_int, cat_long, cat_ref, cat_null, Option.toList_some, Option.toList_none, hV]
    refine t0_188 hgo ?_
    refine t0_190t hgo rfl ?_
    refine t0_193 hgo ?_
    refine t0_194 hgo ?_
    refine t0_198 hgo ?_
    exact one_b
  · rw [if_neg hE] at hV
    refine t0_172f hgo hE ?_
    refine t0_179 hgo ?_
    refine t0_180 hgo rfl ?_
    refine t0_182 hgo rfl ?_
    refine t0_183 hgo ?_
    refine res_of (u0_185 hgo) ?_
    simp only [eq_self, and_self, true_and, and_true, not_true_eq_false, not_false_eq_true, if_true, if_false, reduceIte, Option.bind_some, List.getElem?_cons_zero, List.getElem?_cons_succ, Nat.reduceAdd, Nat.reduceSub, Nat.reduceLT, Nat.reduceLeDiff, Nat.le_refl, Nat.zero_add, Nat.add_zero, List.length_cons, List.length_nil, Int32.reduceLT, Int32.reduceToNatClampNeg, Int32.reduceAdd, Int32.reduceSub, Int32.reduceMul, decide_true, aCall, aRecv, aObj, obj, List.take_succ_cons, List.take_zero, List.drop_succ_cons, List.drop_zero, List.reverse_cons, List.reverse_nil, List.nil_append, List.cons_append, List.append_nil, List.map_cons, List.map_nil, List.sum_cons, List.sum_nil, cat_int, cat_long, cat_ref, cat_null, Option.toList_some, Option.toList_none, hV]
    refine t0_188 hgo ?_
    refine t0_190t hgo rfl ?_
    refine t0_193 hgo ?_
    refine t0_194 hgo ?_
    refine t0_198 hgo ?_
    exact one_b
set_option maxRecDepth 65536 in
set_option maxHeartbeats 4000000 in
theorem law_val (v0 : Int64) (v1 : Int32) : ∃ H', F0 [.long v0, .int v1] [] = some (some (.int 1), H') := by
  refine one_of f0_in fun go hgo => ?_
  refine t0_0 hgo ?_
  refine res_of (u0_2 hgo) ?_
  simp only [eq_self, and_self, true_and, and_true, not_true_eq_false, not_false_eq_true, if_true, if_false, reduceIte, Option.bind_some, List.getElem?_cons_zero, List.getElem?_cons_succ, Nat.reduceAdd, Nat.reduceSub, Nat.reduceLT, Nat.reduceLeDiff, Nat.le_refl, Nat.zero_add, Nat.add_zero, List.length_cons, List.length_nil, Int32.reduceLT, Int32.reduceToNatClampNeg, Int32.reduceAdd, Int32.reduceSub, Int32.reduceMul, decide_true, aArr, List.nil_append, List.cons_append, List.replicate_zero, List.replicate_succ, defaultValue]
  refine t0_4 hgo rfl rfl ?_
  refine t0_5 hgo rfl ?_
  refine t0_6 hgo ?_
  refine t0_7 hgo ?_
  refine t0_8 hgo ?_
  refine t0_9 hgo ?_
  refine res_of (u0_10 hgo) ?_
  simp only [eq_self, and_self, true_and, and_true, not_true_eq_false, not_false_eq_true, if_true, if_false, reduceIte, Option.bind_some, List.getElem?_cons_zero, List.getElem?_cons_succ, Nat.reduceAdd, Nat.reduceSub, Nat.reduceLT, Nat.reduceLeDiff, Nat.le_refl, Nat.zero_add, Nat.add_zero, List.length_cons, List.length_nil, Int32.reduceLT, Int32.reduceToNatClampNeg, Int32.reduceAdd, Int32.reduceSub, Int32.reduceMul, decide_true, ex_bastore, ast, astL, pI_int, pL_long, pR_ref, arr, isT, isBZ, nar, List.set_cons_zero, List.set_cons_succ]
  refine t0_11 hgo rfl ?_
  refine t0_12 hgo ?_
  refine t0_13 hgo ?_
  refine t0_14 hgo ?_
  refine t0_16 hgo ?_
  refine t0_17 hgo ?_
  refine t0_18 hgo ?_
  refine res_of (u0_19 hgo) ?_
  simp only [eq_self, and_self, true_and, and_true, not_true_eq_false, not_false_eq_true, if_true, if_false, reduceIte, Option.bind_some, List.getElem?_cons_zero, List.getElem?_cons_succ, Nat.reduceAdd, Nat.reduceSub, Nat.reduceLT, Nat.reduceLeDiff, Nat.le_refl, Nat.zero_add, Nat.add_zero, List.length_cons, List.length_nil, Int32.reduceLT, Int32.reduceToNatClampNeg, Int32.reduceAdd, Int32.reduceSub, Int32.reduceMul, decide_true, ex_bastore, ast, astL, pI_int, pL_long, pR_ref, arr, isT, isBZ, nar, List.set_cons_zero, List.set_cons_succ]
  refine t0_20 hgo rfl ?_
  refine t0_21 hgo ?_
  refine t0_22 hgo ?_
  refine t0_23 hgo ?_
  refine t0_25 hgo ?_
  refine t0_26 hgo ?_
  refine t0_27 hgo ?_
  refine res_of (u0_28 hgo) ?_
  simp only [eq_self, and_self, true_and, and_true, not_true_eq_false, not_false_eq_true, if_true, if_false, reduceIte, Option.bind_some, List.getElem?_cons_zero, List.getElem?_cons_succ, Nat.reduceAdd, Nat.reduceSub, Nat.reduceLT, Nat.reduceLeDiff, Nat.le_refl, Nat.zero_add, Nat.add_zero, List.length_cons, List.length_nil, Int32.reduceLT, Int32.reduceToNatClampNeg, Int32.reduceAdd, Int32.reduceSub, Int32.reduceMul, decide_true, ex_bastore, ast, astL, pI_int, pL_long, pR_ref, arr, isT, isBZ, nar, List.set_cons_zero, List.set_cons_succ]
  refine t0_29 hgo rfl ?_
  refine t0_30 hgo ?_
  refine t0_31 hgo ?_
  refine t0_32 hgo ?_
  refine t0_34 hgo ?_
  refine t0_35 hgo ?_
  refine t0_36 hgo ?_
  refine res_of (u0_37 hgo) ?_
  simp only [eq_self, and_self, true_and, and_true, not_true_eq_false, not_false_eq_true, if_true, if_false, reduceIte, Option.bind_some, List.getElem?_cons_zero, List.getElem?_cons_succ, Nat.reduceAdd, Nat.reduceSub, Nat.reduceLT, Nat.reduceLeDiff, Nat.le_refl, Nat.zero_add, Nat.add_zero, List.length_cons, List.length_nil, Int32.reduceLT, Int32.reduceToNatClampNeg, Int32.reduceAdd, Int32.reduceSub, Int32.reduceMul, decide_true, ex_bastore, ast, astL, pI_int, pL_long, pR_ref, arr, isT, isBZ, nar, List.set_cons_zero, List.set_cons_succ]
  refine t0_38 hgo rfl ?_
  refine t0_39 hgo ?_
  refine t0_40 hgo ?_
  refine t0_41 hgo ?_
  refine t0_43 hgo ?_
  refine t0_44 hgo ?_
  refine t0_45 hgo ?_
  refine res_of (u0_46 hgo) ?_
  simp only [eq_self, and_self, true_and, and_true, not_true_eq_false, not_false_eq_true, if_true, if_false, reduceIte, Option.bind_some, List.getElem?_cons_zero, List.getElem?_cons_succ, Nat.reduceAdd, Nat.reduceSub, Nat.reduceLT, Nat.reduceLeDiff, Nat.le_refl, Nat.zero_add, Nat.add_zero, List.length_cons, List.length_nil, Int32.reduceLT, Int32.reduceToNatClampNeg, Int32.reduceAdd, Int32.reduceSub, Int32.reduceMul, decide_true, ex_bastore, ast, astL, pI_int, pL_long, pR_ref, arr, isT, isBZ, nar, List.set_cons_zero, List.set_cons_succ]
  refine t0_47 hgo rfl ?_
  refine t0_48 hgo ?_
  refine t0_49 hgo ?_
  refine t0_50 hgo ?_
  refine t0_52 hgo ?_
  refine t0_53 hgo ?_
  refine t0_54 hgo ?_
  refine res_of (u0_55 hgo) ?_
  simp only [eq_self, and_self, true_and, and_true, not_true_eq_false, not_false_eq_true, if_true, if_false, reduceIte, Option.bind_some, List.getElem?_cons_zero, List.getElem?_cons_succ, Nat.reduceAdd, Nat.reduceSub, Nat.reduceLT, Nat.reduceLeDiff, Nat.le_refl, Nat.zero_add, Nat.add_zero, List.length_cons, List.length_nil, Int32.reduceLT, Int32.reduceToNatClampNeg, Int32.reduceAdd, Int32.reduceSub, Int32.reduceMul, decide_true, ex_bastore, ast, astL, pI_int, pL_long, pR_ref, arr, isT, isBZ, nar, List.set_cons_zero, List.set_cons_succ]
  refine t0_56 hgo rfl ?_
  refine t0_57 hgo ?_
  refine t0_59 hgo ?_
  refine t0_60 hgo ?_
  refine t0_62 hgo ?_
  refine t0_63 hgo ?_
  refine t0_64 hgo ?_
  refine res_of (u0_65 hgo) ?_
  simp only [eq_self, and_self, true_and, and_true, not_true_eq_false, not_false_eq_true, if_true, if_false, reduceIte, Option.bind_some, List.getElem?_cons_zero, List.getElem?_cons_succ, Nat.reduceAdd, Nat.reduceSub, Nat.reduceLT, Nat.reduceLeDiff, Nat.le_refl, Nat.zero_add, Nat.add_zero, List.length_cons, List.length_nil, Int32.reduceLT, Int32.reduceToNatClampNeg, Int32.reduceAdd, Int32.reduceSub, Int32.reduceMul, decide_true, ex_bastore, ast, astL, pI_int, pL_long, pR_ref, arr, isT, isBZ, nar, List.set_cons_zero, List.set_cons_succ]
  refine t0_66 hgo rfl ?_
  refine t0_67 hgo ?_
  refine t0_69 hgo ?_
  refine t0_70 hgo ?_
  refine t0_72 hgo ?_
  refine t0_73 hgo ?_
  refine t0_74 hgo ?_
  refine res_of (u0_75 hgo) ?_
  simp only [eq_self, and_self, true_and, and_true, not_true_eq_false, not_false_eq_true, if_true, if_false, reduceIte, Option.bind_some, List.getElem?_cons_zero, List.getElem?_cons_succ, Nat.reduceAdd, Nat.reduceSub, Nat.reduceLT, Nat.reduceLeDiff, Nat.le_refl, Nat.zero_add, Nat.add_zero, List.length_cons, List.length_nil, Int32.reduceLT, Int32.reduceToNatClampNeg, Int32.reduceAdd, Int32.reduceSub, Int32.reduceMul, decide_true, ex_bastore, ast, astL, pI_int, pL_long, pR_ref, arr, isT, isBZ, nar, List.set_cons_zero, List.set_cons_succ]
  exact tail hgo
set_option maxRecDepth 65536 in
set_option maxHeartbeats 40000000 in
theorem comes_1 {Post : Tables → Env → Array Value → State → Outcome → State → Prop} (hpost : ∀ tb e args s v u, (limb_1_1.after args s (.returned v) u = true ∧ limb_1_2.after args s (.returned v) u = true ∧ True) → FrameEnd s (.returned v) u (Jvm.fieldLocs frame_1_writes args s ++ Jvm.arrayLocs frame_1_arrays args s ++ Jvm.staticLocs frame_1_statics s) 16 128 → Post tb e args s (.returned v) u) :
    ArmFor flags0 classFile x code maxLocals ret World_1 tables_1 room_1 Calls_1 rest_1 Pre_1 Post := by
  intro l hfl _ _ p e ha hc hk s m args below hf hA hF happ hP
  obtain ⟨hcalls, hrest, hpre⟩ := hP
  obtain ⟨-, -, -, hnamed, -, -, -, hat⟩ := (Spec.applies_iff hf).mp happ
  obtain ⟨hg, hn⟩ := and_e (Cond.before_iff.mp (show (Jvm.Cond.and given_1 narrow_1).before args s = true from hpre))
  obtain ⟨g0, g1⟩ := and_e hg
  obtain ⟨i1, g2⟩ := and_e g1
  obtain ⟨w0, w1, rfl⟩ : ∃ w0 w1 : Value, args = #[w0, w1] := by
    have hs : args.size = 2 := by simpa [Cond.value, given_1] using g0
    obtain ⟨L⟩ := args
    match L, hs with
    | [w0, w1], _ => exact ⟨w0, w1, rfl⟩
  have hw := fun d (hd : d ∈ tables_1) => atoms_spec (ws := Jvm.Cond.code x code maxLocals ret :: tables_1) hat d (List.mem_cons_of_mem _ hd)
  obtain ⟨v0, e0⟩ := isL_v i1
  obtain rfl : w0 = (.long v0) := Option.some.inj e0
  obtain ⟨v1, e1⟩ := is_v g2
  obtain rfl : w1 = (.int v1) := Option.some.inj e1
  obtain ⟨H', hv⟩ := law_val v0 v1
  obtain ⟨n, o, h1, h2, h3, _, L, rfl, ⟨rfl, -, N⟩, hq⟩ := says0 l (Z := s) (σ := fun k => s.heap.size + k) (n0 := s.heap.size) sg_start hw _ _ _ s.heap hv rep_start p e ha hc hk s m _ below hf ((Spec.applies_iff_loose hf).mp happ).1 ⟨rfl, State.Warmed39.refl s, rfl⟩ trivial
  refine ⟨n, _, h1, h2, h3, hpost _ _ _ _ _ _ ⟨Cond.after_iff.mpr rfl, Cond.after_iff.mpr (eq_i res_at (Term.int_eval (1)) rfl), trivial⟩ ⟨hq.1, hq.2.1, (hq.2.2.sift fun y hy => Or.inr (N y hy)).mono (by decide) (by decide)⟩⟩
theorem main_1_1 : Claimed_1_1 := comes_1 fun _ _ _ _ _ _ h hF => ⟨h.1, hF⟩
theorem main_1_2 : Claimed_1_2 := comes_1 fun _ _ _ _ _ _ h hF => ⟨h.2.1, hF⟩
end Jvm.Pilot.@@N@@
namespace Jvm.Pilot.@@N@@
open Jvm Jvm.ClassFile Sem Op Lib Jvm.Free Jvm.Stand Jvm.Pilot.@@N@@.Jvm.D
/-! MADE BY PROGRAM (witnessworld.py) out of the Statement's table words and the real class files: 9 classes; the members and pool entries that the words name. The judged class is class 1, her method 1. -/
namespace start1
open Jvm.ClassFile
def u (s : String) : CpInfo := .utf8 (stringToUtf16 s)
/-- a pool by its gaps: so many unusable entries, then the entry; so many at the end -/
def gap : Nat → List CpInfo → List CpInfo
  | 0, r => r
  | n + 1, r => .unusable :: gap n r
def poolList (es : List (Nat × CpInfo)) (last : Nat) : List CpInfo := es.foldr (fun e r => gap e.1 (e.2 :: r)) (gap last [])
def pool (es : List (Nat × CpInfo)) (last : Nat) : Array CpInfo := ⟨poolList es last⟩
def fileOf (pool : Array CpInfo) (this : Nat) (attrs : Array Attribute := #[]) (ms : Array MethodInfo := #[]) (fl : Nat := 33) (sup : Nat := 0) (ifs : Array Nat := #[]) (fds : Array FieldInfo := #[]) : ClassFile where
  minorVersion := 0
  majorVersion := 65
  constantPool := pool
  accessFlags := fl
  thisClass := this
  superClass := sup
  interfaces := ifs
  fields := fds
  methods := ms
  attributes := attrs
def plain (name : String) (sup : Option ClassId) : Class where
  name := name
  kind := .ordinary
  loader := none
  accessFlags := 33
  super := sup
  interfaces := #[]
  cf := none
  fields := #[]
  methods := #[]
  instanceTypes := #[]
  staticTypes := #[]
  resolved := #[]
  callSites := []
  init := .initialized
  statics := none
  mirror := none

def pool0 : Array CpInfo := pool [(5, u "<init>"), (0, u "()V"), (1, .class_ 10), (1, u "java/lang/Object")] 113

def k0m0 : Method := { name := "<init>", desc := "()V", sig := { parameters := [], returnType := none }, accessFlags := 1, code := none }
/-- java/lang/Object -/
def k0 : Class := { plain "java/lang/Object" none with
  accessFlags := 33
  interfaces := #[]
  cf := some (fileOf pool0 8 #[] #[{ accessFlags := 1, nameIndex := 5, descriptorIndex := 6, attributes := #[] }] 33 0 #[] #[])
  fields := #[]
  methods := #[k0m0]
  instanceTypes := #[]
  staticTypes := #[]
  resolved := Array.replicate 124 none
  statics := none }

def pool1 : Array CpInfo := pool [(2, .class_ 4), (1, u "java/lang/Object"), (0, u "<init>"), (0, u "()V"), (0, .integer 2147483647), (0, .methodref 9 10), (0, .class_ 11), (0, .nameAndType 12 13), (0, u "com/example/keeplast/keeplast/cli/Utf8IsValidPinLaw"), (0, u "step"), (0, u "([BII)I"), (0, .methodref 15 16), (0, .class_ 17), (0, .nameAndType 18 19), (0, u "com/example/keeplast/keeplast/cli/Utf8"), (0, u "isValid"), (0, u "([BI)Z"), (0, .methodref 9 21), (0, .nameAndType 22 13), (0, u "charSize"), (0, .integer 65536), (0, .integer 1114111), (0, .integer 55296), (0, .integer 57343), (2, u "law"), (0, u "(JI)Z")] 5

def k1m0 : Method := { name := "<init>", desc := "()V", sig := { parameters := [], returnType := none }, accessFlags := 2, code := none }
def k1c1 : Code := { maxStack := 5, maxLocals := 7, code := code, exceptionTable := #[], attributes := #[] }
def k1m1 : Method := { name := "law", desc := "(JI)Z", sig := { parameters := [.long, .int], returnType := some .boolean }, accessFlags := 9, code := some k1c1 }
def k1c2 : Code := { maxStack := 3, maxLocals := 4, code := method_3_code, exceptionTable := #[], attributes := #[] }
def k1m2 : Method := { name := "step", desc := "([BII)I", sig := { parameters := [(.array .byte), .int, .int], returnType := some .int }, accessFlags := 10, code := some k1c2 }
def k1c3 : Code := { maxStack := 3, maxLocals := 8, code := method_4_code, exceptionTable := #[], attributes := #[] }
def k1m3 : Method := { name := "charSize", desc := "([BII)I", sig := { parameters := [(.array .byte), .int, .int], returnType := some .int }, accessFlags := 10, code := some k1c3 }
/-- com/example/keeplast/keeplast/cli/Utf8IsValidPinLaw -/
def k1 : Class := { plain "com/example/keeplast/keeplast/cli/Utf8IsValidPinLaw" (some 0) with
  accessFlags := 49
  interfaces := #[]
  cf := some (fileOf pool1 9 #[] #[{ accessFlags := 2, nameIndex := 5, descriptorIndex := 6, attributes := #[] }, { accessFlags := 9, nameIndex := 29, descriptorIndex := 30, attributes := #[] }, { accessFlags := 10, nameIndex := 12, descriptorIndex := 13, attributes := #[] }, { accessFlags := 10, nameIndex := 22, descriptorIndex := 13, attributes := #[] }] 49 2 #[] #[])
  fields := #[]
  methods := #[k1m0, k1m1, k1m2, k1m3]
  instanceTypes := #[]
  staticTypes := #[]
  resolved := Array.replicate 36 none
  statics := none }

def pool2 : Array CpInfo := pool [(2, .class_ 4), (1, u "java/lang/Object"), (0, u "<init>"), (0, u "()V"), (0, .class_ 8), (0, u "com/example/keeplast/keeplast/cli/Utf8"), (2, u "isValid"), (0, u "([BI)Z")] 5

def k2m0 : Method := { name := "<init>", desc := "()V", sig := { parameters := [], returnType := none }, accessFlags := 2, code := none }
def k2c1 : Code := { maxStack := 3, maxLocals := 9, code := prog_64_method_2_code, exceptionTable := #[], attributes := #[] }
def k2m1 : Method := { name := "isValid", desc := "([BI)Z", sig := { parameters := [(.array .byte), .int], returnType := some .boolean }, accessFlags := 8, code := some k2c1 }
/-- com/example/keeplast/keeplast/cli/Utf8 -/
def k2 : Class := { plain "com/example/keeplast/keeplast/cli/Utf8" (some 0) with
  accessFlags := 48
  interfaces := #[]
  cf := some (fileOf pool2 7 #[] #[{ accessFlags := 2, nameIndex := 5, descriptorIndex := 6, attributes := #[] }, { accessFlags := 8, nameIndex := 11, descriptorIndex := 12, attributes := #[] }] 48 2 #[] #[])
  fields := #[]
  methods := #[k2m0, k2m1]
  instanceTypes := #[]
  staticTypes := #[]
  resolved := Array.replicate 18 none
  statics := none }

def pool3 : Array CpInfo := pool [(1, u "java/lang/Cloneable"), (0, .class_ 1), (0, u "java/lang/Object"), (0, .class_ 3)] 3

/-- java/lang/Cloneable -/
def k3 : Class := { plain "java/lang/Cloneable" (some 0) with
  accessFlags := 1537
  interfaces := #[]
  cf := some (fileOf pool3 2 #[] #[] 1537 4 #[] #[])
  fields := #[]
  methods := #[]
  instanceTypes := #[]
  staticTypes := #[]
  resolved := Array.replicate 8 none
  statics := none }

def pool4 : Array CpInfo := pool [(1, u "java/io/Serializable"), (0, .class_ 1), (0, u "java/lang/Object"), (0, .class_ 3)] 3

/-- java/io/Serializable -/
def k4 : Class := { plain "java/io/Serializable" (some 0) with
  accessFlags := 1537
  interfaces := #[]
  cf := some (fileOf pool4 2 #[] #[] 1537 4 #[] #[])
  fields := #[]
  methods := #[]
  instanceTypes := #[]
  staticTypes := #[]
  resolved := Array.replicate 8 none
  statics := none }

/-- the primitive byte -/
def k5 : Class := { plain "byte" none with kind := .primitive 'B', accessFlags := 0x411 }
/-- [B -/
def k6 : Class := { plain "[B" (some 0) with kind := .array 5 .byte, interfaces := #[3, 4], accessFlags := 1041 }

/-- the primitive int -/
def k7 : Class := { plain "int" none with kind := .primitive 'I', accessFlags := 0x411 }
/-- [I -/
def k8 : Class := { plain "[I" (some 0) with kind := .array 7 .int, interfaces := #[3, 4], accessFlags := 1041 }

def heap : Heap := #[]
def classes : Array Class := #[k0, k1, k2, k3, k4, k5, k6, k7, k8]
def interned : List (Array UInt16 × Addr) := []
def slotsUsed : Nat := 0
def theMethod : MethodId := ⟨1, 1⟩
def args0 : Array Value := #[.long 5, .int 3]
def aboutOver (below : List Frame) : State where
  vm := { classes := classes, interned := interned.toArray }
  heap := heap
  slotsUsed := slotsUsed
  threads := #[{ frames := .invoking theMethod args0 :: below }]
def below0 : List Frame := [.native { method := ⟨0, 0⟩, args := #[] }]
def about1 : State := aboutOver below0
def p0 : Program := .bare "" "" ""
def e0 : Env := launch0.env 0 0 0
theorem w_frames : about1.frames = Frame.invoking theMethod args0 :: below0 := rfl
set_option maxRecDepth 65536 in
theorem w_args : argsFit about1.vm theMethod args0 = true := by decide +kernel
set_option maxRecDepth 65536 in
theorem w_heap : heapFits about1 = true := by decide +kernel
set_option maxRecDepth 65536 in
theorem w_runnable : about1.curStatus? = some .runnable := by decide +kernel
set_option maxRecDepth 65536 in
theorem w_alone : about1.alone = true := by decide +kernel
set_option maxRecDepth 65536 in
theorem w_named : about1.methodNamed? x = some theMethod := by decide +kernel
set_option maxRecDepth 65536 in
theorem w_hears : about1.hears theMethod below0 = true := by decide +kernel
set_option maxRecDepth 65536 in
theorem w_ripe : about1.ripe theMethod args0 below0 = true := by decide +kernel
theorem w_running : about1.status = .running := rfl
set_option maxRecDepth 65536 in
theorem w_room : about1.hasRoom e0.platform room_1 = true :=
  launch0.hasRoom_least _ room_1 (by decide +kernel) (by decide +kernel) (by decide +kernel) (by decide +kernel) (by decide +kernel) (by decide +kernel)
theorem allAtoms_all (ts : List Jvm.Cond) (a : Array Jvm.Value) (st : Jvm.State) : (allAtoms ts).before a st = ts.all (fun c => c.before a st) := by
  induction ts with
  | nil => rfl
  | cons c t ih =>
    show (Jvm.Cond.and c (allAtoms t)).before a st = _
    rw [Jvm.Cond.before_and, ih, List.all_cons]
def words1 : List Jvm.Cond := Jvm.Cond.code x code maxLocals ret :: tables_1
/-- a 'code' word, met by the world's own term for the bytes: nothing is compared byte by byte -/
theorem code_word {y : MethodName} {bytes : ByteArray} {mx : Nat} {rt : Option FieldType} {a : Array Value} {s : State} {m : MethodId} {meth : Method} {c : Code} (h1 : s.methodNamed? y = some m) (h2 : s.vm.method? m = some meth) (h3 : meth.code = some c) (h4 : c.code = bytes)
    (h5 : (c.maxLocals == mx && c.exceptionTable.isEmpty && decide (c.maxStack ≤ mostOperands) && decide (meth.sig.returnType = rt) && !meth.locks && decide (parseMethodDescriptor y.desc = some meth.sig)) = true) : (Jvm.Cond.code y bytes mx rt).before a s = true := by
  simp only [Bool.and_eq_true, beq_iff_eq, Bool.not_eq_true', decide_eq_true_eq] at h5
  obtain ⟨⟨⟨⟨⟨g1, g2⟩, g3⟩, g4⟩, g5⟩, g6⟩ := h5
  simp [Cond.before, Cond.holds, Cond.value, h1, h2, h3, h4, g1, g2, g3, g4, g5, g6]
def isCode : Jvm.Cond → Bool
  | .code _ _ _ _ => true
  | _ => false
theorem all_split {L : List Jvm.Cond} {P : Jvm.Cond → Bool} (h1 : L.all (fun c => isCode c || P c) = true) (h2 : ∀ c ∈ L.filter isCode, P c = true) : L.all P = true := by
  refine List.all_eq_true.mpr fun c hc => ?_
  have h := List.all_eq_true.mp h1 c hc
  rcases Bool.eq_false_or_eq_true (isCode c) with hi | hi
  · exact h2 c (List.mem_filter.mpr ⟨hc, hi⟩)
  · simpa [hi] using h
set_option maxRecDepth 65536 in
theorem w_c0 : (Jvm.Cond.code x code maxLocals ret).before args0 about1 = true := code_word (m := ⟨1, 1⟩) (meth := k1m1) (c := k1c1) (by decide +kernel) rfl rfl rfl (by decide +kernel)
set_option maxRecDepth 65536 in
theorem w_c1 : (Jvm.Cond.code ({ cls := "com/example/keeplast/keeplast/cli/Utf8IsValidPinLaw", name := "step", desc := "([BII)I" } : Jvm.MethodName) method_3_code (4 : Nat) (Option.some Jvm.ClassFile.FieldType.int)).before args0 about1 = true := code_word (m := ⟨1, 2⟩) (meth := k1m2) (c := k1c2) (by decide +kernel) rfl rfl rfl (by decide +kernel)
set_option maxRecDepth 65536 in
theorem w_c2 : (Jvm.Cond.code ({ cls := "com/example/keeplast/keeplast/cli/Utf8IsValidPinLaw", name := "charSize", desc := "([BII)I" } : Jvm.MethodName) method_4_code (8 : Nat) (Option.some Jvm.ClassFile.FieldType.int)).before args0 about1 = true := code_word (m := ⟨1, 3⟩) (meth := k1m3) (c := k1c3) (by decide +kernel) rfl rfl rfl (by decide +kernel)
set_option maxRecDepth 65536 in
theorem w_c3 : (Jvm.Cond.code ({ cls := "com/example/keeplast/keeplast/cli/Utf8", name := "isValid", desc := "([BI)Z" } : Jvm.MethodName) prog_64_method_2_code (9 : Nat) (Option.some Jvm.ClassFile.FieldType.boolean)).before args0 about1 = true := code_word (m := ⟨2, 1⟩) (meth := k2m1) (c := k2c1) (by decide +kernel) rfl rfl rfl (by decide +kernel)
def codes1 : List Jvm.Cond := [Jvm.Cond.code x code maxLocals ret, Jvm.Cond.code ({ cls := "com/example/keeplast/keeplast/cli/Utf8IsValidPinLaw", name := "step", desc := "([BII)I" } : Jvm.MethodName) method_3_code (4 : Nat) (Option.some Jvm.ClassFile.FieldType.int), Jvm.Cond.code ({ cls := "com/example/keeplast/keeplast/cli/Utf8IsValidPinLaw", name := "charSize", desc := "([BII)I" } : Jvm.MethodName) method_4_code (8 : Nat) (Option.some Jvm.ClassFile.FieldType.int), Jvm.Cond.code ({ cls := "com/example/keeplast/keeplast/cli/Utf8", name := "isValid", desc := "([BI)Z" } : Jvm.MethodName) prog_64_method_2_code (9 : Nat) (Option.some Jvm.ClassFile.FieldType.boolean)]
set_option maxRecDepth 65536 in
theorem codes_eq : words1.filter isCode = codes1 := rfl
theorem w_codes : ∀ c ∈ words1.filter isCode, c.before args0 about1 = true := by
  rw [codes_eq]
  intro c hc
  simp only [codes1, List.mem_cons, List.not_mem_nil, or_false] at hc
  rcases hc with rfl | rfl | rfl | rfl
  · exact w_c0
  · exact w_c1
  · exact w_c2
  · exact w_c3
set_option maxRecDepth 65536 in
theorem w_t1 : words1.all (fun c => isCode c || c.before args0 about1) = true := by decide +kernel
theorem w_tables : (allAtoms (Jvm.Cond.code x code maxLocals ret :: tables_1)).before args0 about1 = true := by
  rw [allAtoms_all]
  show words1.all (fun c => c.before args0 about1) = true
  refine all_split ?_ w_codes
  rw [w_t1]
set_option maxRecDepth 65536 in
theorem w_case : (Jvm.Cond.and given_1 narrow_1).before args0 about1 = true := by decide +kernel
theorem w_applies : (headSpec (Jvm.Cond.code x code maxLocals ret :: tables_1) room_1).applies x e0.platform about1 = true :=
  (Spec.applies_iff w_frames).mpr ⟨w_running, w_runnable, w_alone, w_named, w_hears, w_ripe, w_room, w_tables⟩
theorem atStart : AtStart classFile x code maxLocals ret World_1 tables_1 room_1 Calls_1 rest_1 Pre_1 launch0 p0 e0 about1 theMethod args0 below0 :=
  ⟨lists_1, trivial, launch0.admits_env _ _ _, launch0.least_env, fairChoices_fair.cas, fairChoices_fair.clock, w_frames, w_args, w_heap, w_applies, trivial, trivial, w_case⟩
end start1
theorem witness_1 : WitnessClaimed_1 := ⟨start1.p0, start1.e0, start1.about1, start1.theMethod, start1.args0, start1.below0, start1.atStart⟩
end Jvm.Pilot.@@N@@
