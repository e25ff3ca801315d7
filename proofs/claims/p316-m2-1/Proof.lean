import JvmDerived
import JvmDerived.Pilot.@@N@@Statement
import JvmDerived.Pilot.@@N@@Code
set_option linter.unusedVariables false
set_option linter.unusedSimpArgs false
namespace Jvm.Own
open Sem ClassFile Op Lib Jvm.Stand Jvm.Free Jvm.LawKit Jvm.RoadKit
/-! ## 1. A machine over abstract states: refs are numbers of objects -/
abbrev Ob := Sum (Nat × List Value) (FieldType × List Value)
abbrev AH := List Ob
abbrev Act := List Value → AH → Nat → Nat → Option (List Value × AH × Nat × Nat)
abbrev St := Nat × List Slot × List Value × AH × Nat × Nat
abbrev ORes := Option Value × AH
def il : Instr → Nat
  | .aload _ | .astore _ | .iload _ | .istore _ | .lload _ | .lstore _ | .bipush _ | .ldc _ | .newarray _ => 2
  | .sipush _ | .iinc _ _ | .goto _ | .if_icmp _ _ | .ifCond _ _ | .if_acmp _ _ | .ifnull _ | .ifnonnull _ | .ldc_w _ | .ldc2_w _ | .getfield _ | .putfield _ | .getstatic _ | .putstatic _ | .new _ | .anewarray _ | .checkcast _ | .instanceof _ | .invokestatic _ | .invokespecial _ | .invokevirtual _ => 3
  | .invokeinterface _ _ => 5
  | _ => 1
def dec (code : ByteArray) (pc : Nat) : Option Instr :=
  match decode code pc with
  | .ok (i, len) => if len = il i then some i else none
  | .error _ => none
theorem dec_spec {code : ByteArray} {pc : Nat} {i : Instr} (h : dec code pc = some i) : decode code pc = .ok (i, il i) := by
  unfold dec at h
  split at h
  · rename_i j len hd
    split at h
    · rename_i hl; cases h; rw [hd, hl]
    · cases h
  · cases h
def gI (L : List Slot) (k : Nat) : Option Int32 := match L[k]? with | some (.val (.int v)) => some v | _ => none
def gL (L : List Slot) (k : Nat) : Option Int64 := match L[k]? with | some (.val (.long v)) => some v | _ => none
def gA (L : List Slot) (k : Nat) : Option Value := match L[k]? with | some (.val (.ref a)) => some (.ref a) | some (.val .null) => some .null | _ => none
def st1 (L : List Slot) (k : Nat) (v : Value) : Option (List Slot) := match L[k]? with
  | some .unset => some (L.set k (.val v))
  | some (.val (.int _)) => some (L.set k (.val v))
  | some (.val (.ref _)) => some (L.set k (.val v))
  | some (.val .null) => some (L.set k (.val v))
  | _ => none
def st2 (L : List Slot) (k : Nat) (x : Int64) : Option (List Slot) := match L[k]?, L[k + 1]? with
  | some .unset, some .unset => some ((L.set k (.val (.long x))).set (k + 1) .second)
  | some (.val (.long _)), some .second => some ((L.set k (.val (.long x))).set (k + 1) .second)
  | _, _ => none
def pI : List Value → (Int32 → List Value → Option ORes) → Option ORes | .int x :: r, f => f x r | _, _ => none
def pL : List Value → (Int64 → List Value → Option ORes) → Option ORes | .long x :: r, f => f x r | _, _ => none
def pA : List Value → (Value → List Value → Option ORes) → Option ORes | .ref a :: r, f => f (.ref a) r | .null :: r, f => f .null r | _, _ => none
def pR : List Value → (Nat → List Value → Option ORes) → Option ORes | .ref a :: r, f => f a r | _, _ => none
def p1 : List Value → (Value → List Value → Option ORes) → Option ORes | .int a :: r, f => f (.int a) r | .ref a :: r, f => f (.ref a) r | .null :: r, f => f .null r | _, _ => none
def br (b : Bool) (pc : Nat) (o : Int) (f : Nat → Option ORes) : Option ORes := if 0 ≤ (pc : Int) + o then (bif b then f ((pc : Int) + o).toNat else f (pc + 3)) else none
def arr (H : AH) (k : Nat) : Option (FieldType × List Value) := match H[k]? with | some (.inr q) => some q | _ => none
def ald (ok : FieldType → Bool) (S : List Value) (H : AH) (f : Value → List Value → Option ORes) : Option ORes :=
  pI S fun j S => pR S fun a r => (arr H a).bind fun q => if ok q.1 = true ∧ ¬ j < 0 then (q.2[j.toNatClampNeg]?).bind fun v => f v r else none
def ast (ok : FieldType → Bool) (x0 : Nat) (S : List Value) (H : AH) (f : List Value → AH → Option ORes) : Option ORes :=
  pI S fun x S => pI S fun j S => pR S fun a r => (arr H a).bind fun q => if ok q.1 = true ∧ ¬ j < 0 ∧ j.toNatClampNeg < q.2.length ∧ x0 ≤ a then f r (H.set a (.inr (q.1, q.2.set j.toNatClampNeg (.int (nar q.1 x))))) else none
def astL (x0 : Nat) (S : List Value) (H : AH) (f : List Value → AH → Option ORes) : Option ORes :=
  pL S fun x S => pI S fun j S => pR S fun a r => (arr H a).bind fun q => if q.1 = .long ∧ ¬ j < 0 ∧ j.toNatClampNeg < q.2.length ∧ x0 ≤ a then f r (H.set a (.inr (q.1, q.2.set j.toNatClampNeg (.long x)))) else none
def isT (t u : FieldType) : Bool := decide (u = t)
def isBZ : FieldType → Bool | .byte => true | .boolean => true | _ => false
def rI (rt : Option FieldType) (S : List Value) (H : AH) : Option ORes := pI S fun z _ => match rt with
  | some .int => some (some (.int z), H)
  | some .boolean => some (some (.int (z &&& 1)), H)
  | some .byte => some (some (.int z.toInt8.toInt32), H)
  | some .char => some (some (.int z.toUInt32.toUInt16.toUInt32.toInt32), H)
  | some .short => some (some (.int z.toInt16.toInt32), H)
  | _ => none
def rL (rt : Option FieldType) (S : List Value) (H : AH) : Option ORes := pL S fun z _ => match rt with | some .long => some (some (.long z), H) | _ => none
def rA (rt : Option FieldType) (S : List Value) (H : AH) : Option ORes := pA S fun z _ => match rt with | some (.object _) => some (some z, H) | some (.array _) => some (some z, H) | _ => none
def rV (rt : Option FieldType) (S : List Value) (H : AH) : Option ORes := match rt, S with | none, [] => some (none, H) | _, _ => none
def look (q i : Nat) : List (Nat × Nat × Act) → Option Act
  | [] => none
  | x :: r => if x.1 = q ∧ x.2.1 = i then some x.2.2 else look q i r
def spc (E : List (Nat × Nat × Act)) (q i : Nat) (S : List Value) (H : AH) (cs ss : Nat) (f : List Value → AH → Nat → Nat → Option ORes) : Option ORes :=
  (look q i E).bind fun act => (act S H cs ss).bind fun r => f r.1 r.2.1 r.2.2.1 r.2.2.2
def atn : ArrayType → Nat | .boolean => 0 | .char => 1 | .float => 2 | .double => 3 | .byte => 4 | .short => 5 | .int => 6 | .long => 7
def aty : Nat → ArrayType | 0 => .boolean | 1 => .char | 2 => .float | 3 => .double | 4 => .byte | 5 => .short | 6 => .int | _ => .long
def insOf (q i : Nat) : Instr := match q with
  | 0 => .ldc i | 1 => .ldc_w i | 2 => .ldc2_w i | 3 => .getfield i | 4 => .putfield i | 5 => .getstatic i | 6 => .new i | 7 => .invokestatic i | 8 => .invokespecial i | 9 => .invokevirtual i
  | 10 => .checkcast i | 11 => .instanceof i | 12 => .anewarray i | 13 => .newarray (aty i) | _ => .putstatic i
def refEq : Value → Value → Bool | .ref a, .ref b => decide (a = b) | .null, .null => true | _, _ => false
def ex (rt : Option FieldType) (E : List (Nat × Nat × Act)) (x0 : Nat) (k : St → Option ORes) (i : Instr) (pc : Nat) (L : List Slot) (S : List Value) (H : AH) (cs ss : Nat) : Option ORes := match i with
  | .iload n => (gI L n).bind fun v => k (pc + 2, L, .int v :: S, H, cs, ss)
  | .iload_n n => (gI L n.val).bind fun v => k (pc + 1, L, .int v :: S, H, cs, ss)
  | .lload n => (gL L n).bind fun v => k (pc + 2, L, .long v :: S, H, cs, ss)
  | .lload_n n => (gL L n.val).bind fun v => k (pc + 1, L, .long v :: S, H, cs, ss)
  | .aload n => (gA L n).bind fun v => k (pc + 2, L, v :: S, H, cs, ss)
  | .aload_n n => (gA L n.val).bind fun v => k (pc + 1, L, v :: S, H, cs, ss)
  | .istore n => pI S fun x r => (st1 L n (.int x)).bind fun L' => k (pc + 2, L', r, H, cs, ss)
  | .istore_n n => pI S fun x r => (st1 L n.val (.int x)).bind fun L' => k (pc + 1, L', r, H, cs, ss)
  | .lstore n => pL S fun x r => (st2 L n x).bind fun L' => k (pc + 2, L', r, H, cs, ss)
  | .lstore_n n => pL S fun x r => (st2 L n.val x).bind fun L' => k (pc + 1, L', r, H, cs, ss)
  | .astore n => pA S fun x r => (st1 L n x).bind fun L' => k (pc + 2, L', r, H, cs, ss)
  | .astore_n n => pA S fun x r => (st1 L n.val x).bind fun L' => k (pc + 1, L', r, H, cs, ss)
  | .iinc n c => (gI L n).bind fun v => (st1 L n (.int (v + Int32.ofInt c))).bind fun L' => k (pc + 3, L', S, H, cs, ss)
  | .iconst c => k (pc + 1, L, .int (Int32.ofInt c) :: S, H, cs, ss)
  | .bipush c => k (pc + 2, L, .int (Int8.ofInt c).toInt32 :: S, H, cs, ss)
  | .sipush c => k (pc + 3, L, .int (Int16.ofInt c).toInt32 :: S, H, cs, ss)
  | .lconst c => k (pc + 1, L, .long (Int64.ofNat c) :: S, H, cs, ss)
  | .aconst_null => k (pc + 1, L, .null :: S, H, cs, ss)
  | .iadd => pI S fun y S => pI S fun x r => k (pc + 1, L, .int (x + y) :: r, H, cs, ss)
  | .isub => pI S fun y S => pI S fun x r => k (pc + 1, L, .int (x - y) :: r, H, cs, ss)
  | .imul => pI S fun y S => pI S fun x r => k (pc + 1, L, .int (x * y) :: r, H, cs, ss)
  | .iand => pI S fun y S => pI S fun x r => k (pc + 1, L, .int (x &&& y) :: r, H, cs, ss)
  | .ior => pI S fun y S => pI S fun x r => k (pc + 1, L, .int (x ||| y) :: r, H, cs, ss)
  | .ixor => pI S fun y S => pI S fun x r => k (pc + 1, L, .int (x ^^^ y) :: r, H, cs, ss)
  | .ishl => pI S fun y S => pI S fun x r => k (pc + 1, L, .int (x <<< (y &&& 31)) :: r, H, cs, ss)
  | .ishr => pI S fun y S => pI S fun x r => k (pc + 1, L, .int (x >>> (y &&& 31)) :: r, H, cs, ss)
  | .iushr => pI S fun y S => pI S fun x r => k (pc + 1, L, .int ((x.toUInt32 >>> (y &&& 31).toUInt32).toInt32) :: r, H, cs, ss)
  | .idiv => pI S fun y S => pI S fun x r => if y = 0 then none else k (pc + 1, L, .int (x / y) :: r, H, cs, ss)
  | .irem => pI S fun y S => pI S fun x r => if y = 0 then none else k (pc + 1, L, .int (x % y) :: r, H, cs, ss)
  | .ineg => pI S fun x r => k (pc + 1, L, .int (-x) :: r, H, cs, ss)
  | .i2b => pI S fun x r => k (pc + 1, L, .int x.toInt8.toInt32 :: r, H, cs, ss)
  | .i2c => pI S fun x r => k (pc + 1, L, .int x.toUInt32.toUInt16.toUInt32.toInt32 :: r, H, cs, ss)
  | .i2s => pI S fun x r => k (pc + 1, L, .int x.toInt16.toInt32 :: r, H, cs, ss)
  | .i2l => pI S fun x r => k (pc + 1, L, .long x.toInt64 :: r, H, cs, ss)
  | .l2i => pL S fun x r => k (pc + 1, L, .int x.toInt32 :: r, H, cs, ss)
  | .lneg => pL S fun x r => k (pc + 1, L, .long (-x) :: r, H, cs, ss)
  | .ladd => pL S fun y S => pL S fun x r => k (pc + 1, L, .long (x + y) :: r, H, cs, ss)
  | .lsub => pL S fun y S => pL S fun x r => k (pc + 1, L, .long (x - y) :: r, H, cs, ss)
  | .lmul => pL S fun y S => pL S fun x r => k (pc + 1, L, .long (x * y) :: r, H, cs, ss)
  | .land => pL S fun y S => pL S fun x r => k (pc + 1, L, .long (x &&& y) :: r, H, cs, ss)
  | .lor => pL S fun y S => pL S fun x r => k (pc + 1, L, .long (x ||| y) :: r, H, cs, ss)
  | .lxor => pL S fun y S => pL S fun x r => k (pc + 1, L, .long (x ^^^ y) :: r, H, cs, ss)
  | .lshl => pI S fun y S => pL S fun x r => k (pc + 1, L, .long (x <<< (y &&& 0x3f).toInt64) :: r, H, cs, ss)
  | .lshr => pI S fun y S => pL S fun x r => k (pc + 1, L, .long (x >>> (y &&& 0x3f).toInt64) :: r, H, cs, ss)
  | .lushr => pI S fun y S => pL S fun x r => k (pc + 1, L, .long ((x.toUInt64 >>> (y &&& 0x3f).toInt64.toUInt64).toInt64) :: r, H, cs, ss)
  | .ldiv => pL S fun y S => pL S fun x r => if y = 0 then none else k (pc + 1, L, .long (x / y) :: r, H, cs, ss)
  | .lrem => pL S fun y S => pL S fun x r => if y = 0 then none else k (pc + 1, L, .long (x % y) :: r, H, cs, ss)
  | .lcmp => pL S fun y S => pL S fun x r => k (pc + 1, L, .int (lcmpW x y) :: r, H, cs, ss)
  | .dup => p1 S fun v r => k (pc + 1, L, v :: v :: r, H, cs, ss)
  | .pop => p1 S fun _ r => k (pc + 1, L, r, H, cs, ss)
  | .dup_x1 => p1 S fun x S => p1 S fun y r => k (pc + 1, L, x :: y :: x :: r, H, cs, ss)
  | .dup2 => p1 S fun x S => p1 S fun y r => k (pc + 1, L, x :: y :: x :: y :: r, H, cs, ss)
  | .goto o => if 0 ≤ (pc : Int) + o then k (((pc : Int) + o).toNat, L, S, H, cs, ss) else none
  | .ifCond cd o => pI S fun x r => br (ifCond.holds cd x) pc o fun q => k (q, L, r, H, cs, ss)
  | .if_icmp cd o => pI S fun y S => pI S fun x r => br (if_icmp.holds cd x y) pc o fun q => k (q, L, r, H, cs, ss)
  | .ifnull o => pA S fun v r => br (refEq v .null) pc o fun q => k (q, L, r, H, cs, ss)
  | .ifnonnull o => pA S fun v r => br (!refEq v .null) pc o fun q => k (q, L, r, H, cs, ss)
  | .if_acmp cd o => pA S fun y S => pA S fun x r => br (acV cd (refEq x y)) pc o fun q => k (q, L, r, H, cs, ss)
  | .arraylength => pR S fun a r => (arr H a).bind fun q => k (pc + 1, L, .int q.2.length.toInt32 :: r, H, cs, ss)
  | .iaload => ald (isT .int) S H fun v r => k (pc + 1, L, v :: r, H, cs, ss)
  | .baload => ald isBZ S H fun v r => k (pc + 1, L, v :: r, H, cs, ss)
  | .caload => ald (isT .char) S H fun v r => k (pc + 1, L, v :: r, H, cs, ss)
  | .laload => ald (isT .long) S H fun v r => k (pc + 1, L, v :: r, H, cs, ss)
  | .aaload => ald FieldType.isReference S H fun v r => k (pc + 1, L, v :: r, H, cs, ss)
  | .iastore => ast (isT .int) x0 S H fun r H' => k (pc + 1, L, r, H', cs, ss)
  | .bastore => ast (isT .byte) x0 S H fun r H' => k (pc + 1, L, r, H', cs, ss)
  | .castore => ast (isT .char) x0 S H fun r H' => k (pc + 1, L, r, H', cs, ss)
  | .lastore => astL x0 S H fun r H' => k (pc + 1, L, r, H', cs, ss)
  | .ldc i => spc E 0 i S H cs ss fun S' H' cs' ss' => k (pc + 2, L, S', H', cs', ss')
  | .ldc_w i => spc E 1 i S H cs ss fun S' H' cs' ss' => k (pc + 3, L, S', H', cs', ss')
  | .ldc2_w i => spc E 2 i S H cs ss fun S' H' cs' ss' => k (pc + 3, L, S', H', cs', ss')
  | .getfield i => spc E 3 i S H cs ss fun S' H' cs' ss' => k (pc + 3, L, S', H', cs', ss')
  | .putfield i => spc E 4 i S H cs ss fun S' H' cs' ss' => k (pc + 3, L, S', H', cs', ss')
  | .getstatic i => spc E 5 i S H cs ss fun S' H' cs' ss' => k (pc + 3, L, S', H', cs', ss')
  | .new i => spc E 6 i S H cs ss fun S' H' cs' ss' => k (pc + 3, L, S', H', cs', ss')
  | .invokestatic i => spc E 7 i S H cs ss fun S' H' cs' ss' => k (pc + 3, L, S', H', cs', ss')
  | .invokespecial i => spc E 8 i S H cs ss fun S' H' cs' ss' => k (pc + 3, L, S', H', cs', ss')
  | .invokevirtual i => spc E 9 i S H cs ss fun S' H' cs' ss' => k (pc + 3, L, S', H', cs', ss')
  | .checkcast i => spc E 10 i S H cs ss fun S' H' cs' ss' => k (pc + 3, L, S', H', cs', ss')
  | .instanceof i => spc E 11 i S H cs ss fun S' H' cs' ss' => k (pc + 3, L, S', H', cs', ss')
  | .anewarray i => spc E 12 i S H cs ss fun S' H' cs' ss' => k (pc + 3, L, S', H', cs', ss')
  | .newarray t => spc E 13 (atn t) S H cs ss fun S' H' cs' ss' => k (pc + 2, L, S', H', cs', ss')
  | .ireturn => rI rt S H
  | .lreturn => rL rt S H
  | .areturn => rA rt S H
  | .return_ => rV rt S H
  | _ => none
def orun (code : ByteArray) (rt : Option FieldType) (E : List (Nat × Nat × Act)) (x0 : Nat) : Nat → St → Option ORes
  | 0, _ => none
  | n + 1, s => (dec code s.1).bind fun i => ex rt E x0 (orun code rt E x0 n) i s.1 s.2.1 s.2.2.1 s.2.2.2.1 s.2.2.2.2.1 s.2.2.2.2.2
theorem orun_succ {code : ByteArray} {rt : Option FieldType} {E : List (Nat × Nat × Act)} {x0 n pc : Nat} {L : List Slot} {S : List Value} {H : AH} {cs ss : Nat} :
    orun code rt E x0 (n + 1) (pc, L, S, H, cs, ss) = (dec code pc).bind fun i => ex rt E x0 (orun code rt E x0 n) i pc L S H cs ss := rfl
/-! ## 2. What an abstract state stands for -/
def cv (σ : Nat → Nat) : Value → Value | .ref k => .ref (σ k) | v => v
def csl (σ : Nat → Nat) : Slot → Slot | .val v => .val (cv σ v) | x => x
def cL (σ : Nat → Nat) (L : List Slot) : Array Slot := (L.map (csl σ)).toArray
abbrev CD := String × List (String × String × String)
def RepO (Z : State) (σ : Nat → Nat) (K : List CD) (h : Heap) (a : Addr) : Ob → Prop
  | .inl (c, vs) => ∃ C fs, K[c]? = some (C, fs) ∧ Exa Z h a C ∧ ∀ (j : Nat) (v : Value), vs[j]? = some v → ∃ O n d, fs[j]? = some (O, n, d) ∧ Fld Z h a O n d (cv σ v)
  | .inr (ty, vs) => ∃ cell : Cell, Arr Z h a cell ty ∧ cell.slots = (vs.map (cv σ)).toArray ∧ vs.length < 2 ^ 31 ∧ (∀ v ∈ vs, fits ty v = true) ∧ (Z.heap.size ≤ a → Exa Z h a ("[" ++ ty.toString))
def Rep (Z : State) (σ : Nat → Nat) (x0 n0 : Nat) (K : List CD) (h : Heap) (H : AH) : Prop :=
  h.size + x0 = n0 + H.length ∧ x0 ≤ H.length ∧ Old Z n0 h ∧ ∀ (k : Nat) (o : Ob), H[k]? = some o → RepO Z σ K h (σ k) o
def Sg (σ : Nat → Nat) (x0 n0 : Nat) : Prop := (∀ k, x0 ≤ k → σ k + x0 = n0 + k) ∧ (∀ i, i < x0 → σ i < n0) ∧ ∀ i j, i < x0 → j < x0 → σ i = σ j → i = j
theorem Sg.inj {σ : Nat → Nat} {x0 n0 i j : Nat} (h : Sg σ x0 n0) (e : σ i = σ j) : i = j := by
  obtain ⟨h1, h2, h3⟩ := h
  rcases Nat.lt_or_ge i x0 with a | a <;> rcases Nat.lt_or_ge j x0 with b | b
  · exact h3 i j a b e
  · have := h2 i a; have := h1 j b; omega
  · have := h2 j b; have := h1 i a; omega
  · have := h1 i a; have := h1 j b; omega
theorem Sg.new {σ : Nat → Nat} {x0 n0 k : Nat} (h : Sg σ x0 n0) (q : x0 ≤ k) : n0 ≤ σ k := by have := h.1 k q; omega
def KOk (Z : State) (a0 : Array Value) (K : List CD) : Prop := ∀ (c : Nat) (C : String) (fs : List (String × String × String)), K[c]? = some (C, fs) →
  (∃ kk, (Jvm.Cond.instantiable C kk).before a0 Z = true) ∧ (∀ (i : Nat) (f : String × String × String), fs[i]? = some f → Laid Z a0 C f.1 f.2.1 f.2.2 ∧ ∃ ty, parseFieldDescriptor f.2.2 = some ty) ∧
  ∀ (i j : Nat) (f g : String × String × String), fs[i]? = some f → fs[j]? = some g → f.2.1 = g.2.1 → i = j
section Reps
variable {Z : State} {σ : Nat → Nat} {x0 n0 : Nat} {K : List CD} {h h' : Heap} {H : AH} {a0 : Array Value}
theorem RepO.ext {a : Addr} {o : Ob} (E : Ext h h') (R : RepO Z σ K h a o) : RepO Z σ K h' a o := by
  rcases o with ⟨c, vs⟩ | ⟨ty, vs⟩
  · obtain ⟨C, fs, h1, h2, h3⟩ := R
    exact ⟨C, fs, h1, h2.ext E, fun j v q => by obtain ⟨O, n, d, q1, q2⟩ := h3 j v q; exact ⟨O, n, d, q1, q2.ext E⟩⟩
  · obtain ⟨cell, h1, h2, h3, h4, h5⟩ := R
    exact ⟨cell, h1.ext E, h2, h3, h4, fun q => (h5 q).ext E⟩
theorem RepO.other {a b : Addr} {o : Ob} {sl : Nat} {v : Value} (W : Wr h h' a sl v) (R : RepO Z σ K h b o) (ne : b ≠ a) : RepO Z σ K h' b o := by
  rcases o with ⟨c, vs⟩ | ⟨ty, vs⟩
  · obtain ⟨C, fs, h1, h2, h3⟩ := R
    exact ⟨C, fs, h1, h2.wr W, fun j v q => by obtain ⟨O, n, d, q1, q2⟩ := h3 j v q; exact ⟨O, n, d, q1, q2.other W (Or.inl ne)⟩⟩
  · obtain ⟨cell, h1, h2, h3, h4, h5⟩ := R
    exact ⟨cell, h1.other W ne, h2, h3, h4, fun q => (h5 q).wr W⟩
theorem Rep.push (R : Rep Z σ x0 n0 K h H) (E : Ext h h') (hs : h'.size = h.size + 1) {o : Ob} (ho : RepO Z σ K h' (σ H.length) o) : Rep Z σ x0 n0 K h' (H ++ [o]) := by
  obtain ⟨r1, r2, r3, r4⟩ := R
  refine ⟨by rw [hs]; simp; omega, by simp; omega, r3.ext E, fun k o' q => ?_⟩
  rcases Nat.lt_trichotomy k H.length with a | a | a
  · rw [List.getElem?_append_left a] at q; exact (r4 k o' q).ext E
  · subst a; simp at q; subst q; exact ho
  · rw [List.getElem?_append_right (Nat.le_of_lt a), List.getElem?_eq_none (by simp; omega)] at q; cases q
theorem Rep.addr (S : Sg σ x0 n0) (R : Rep Z σ x0 n0 K h H) : σ H.length = h.size := by have := S.1 H.length R.2.1; have := R.1; omega
theorem Rep.write (S : Sg σ x0 n0) (R : Rep Z σ x0 n0 K h H) {k sl : Nat} {v : Value} {o : Ob} (hk : x0 ≤ k) (W : Wr h h' (σ k) sl v) (ho : RepO Z σ K h' (σ k) o) : Rep Z σ x0 n0 K h' (H.set k o) := by
  obtain ⟨r1, r2, r3, r4⟩ := R
  refine ⟨by rw [W.size]; simpa using r1, by simpa using r2, r3.wr W (S.new hk), fun j o' q => ?_⟩
  by_cases e : k = j
  · subst e
    by_cases hl : k < H.length
    · rw [List.getElem?_set_self hl] at q; cases q; exact ho
    · rw [List.getElem?_eq_none (by simp; omega)] at q; cases q
  · rw [List.getElem?_set_ne e] at q
    exact (r4 j o' q).other W fun u => e (S.inj u).symm
theorem cv_fits (ty : FieldType) (v : Value) : fits ty (cv σ v) = fits ty v := by cases v <;> first | rfl | (cases ty <;> rfl)
theorem RepO.fld (KO : KOk Z a0 K) {a : Addr} {c j : Nat} {vs : List Value} {v : Value} {C O n d : String} {fs : List (String × String × String)} (hC : K[c]? = some (C, fs)) (hj : fs[j]? = some (O, n, d)) (R : RepO Z σ K h a (.inl (c, vs))) (W : Wr h h' a (Jvm.RoadKit.slotOf Z O n d) (cv σ v)) : RepO Z σ K h' a (.inl (c, vs.set j v)) := by
  obtain ⟨C', fs', h1, h2, h3⟩ := R
  cases hC.symm.trans h1
  obtain ⟨-, k2, k3⟩ := KO c C fs hC
  refine ⟨C, fs, hC, h2.wr W, fun i w q => ?_⟩
  by_cases e : j = i
  · subst e
    by_cases hl : j < vs.length
    · rw [List.getElem?_set_self hl] at q; cases q
      obtain ⟨O', n', d', q1, q2⟩ := h3 j _ (List.getElem?_eq_getElem hl)
      cases hj.symm.trans q1
      exact ⟨O, n, d, hj, q2.same W⟩
    · rw [List.getElem?_eq_none (by simp; omega)] at q; cases q
  · rw [List.getElem?_set_ne e] at q
    obtain ⟨O', n', d', q1, q2⟩ := h3 i w q
    obtain ⟨l1, t1, p1⟩ := k2 j _ hj
    obtain ⟨l2, t2, p2⟩ := k2 i _ q1
    exact ⟨O', n', d', q1, q2.other W (Or.inr (slot_ne l2 l1 (fun u => e (k3 j i _ _ hj q1 u.symm)) p2 p1))⟩
theorem RepO.arr {a : Addr} {i : Nat} {ty : FieldType} {vs : List Value} {v : Value} (R : RepO Z σ K h a (.inr (ty, vs))) (hf : fits ty v = true) (W : Wr h h' a i (cv σ v)) : RepO Z σ K h' a (.inr (ty, vs.set i v)) := by
  obtain ⟨cell, h1, h2, h3, h4, h5⟩ := R
  refine ⟨_, h1.same W, ?_, by simpa using h3, fun w hw => ?_, fun q => (h5 q).wr W⟩
  · simp [Cell.setSlot, h2]
  · rcases List.mem_or_eq_of_mem_set hw with q | rfl
    · exact h4 w q
    · exact hf
theorem arr_some {H : AH} {k : Nat} {q : FieldType × List Value} (e : arr H k = some q) : H[k]? = some (.inr q) := by
  unfold arr at e; split at e
  · rename_i q' hq; cases e; exact hq
  · cases e
end Reps
/-! ## 3. One step of the machine is a orun of the JVM -/
section Sound
def Good (p : Program) (l : Launch) (e : Env) (R : Room) (s : State) (m : MethodId) (args : Array Value) (below : List Frame) (meth : Method) (c : Code) (Z : State) (σ : Nat → Nat) (x0 n0 : Nat) (K : List CD) (i : Instr) (act : Act) : Prop :=
  ∀ (T : State) (locs : List Loc) (cs ss pc : Nat) (L : List Slot) (S : List Value) (H : AH) (S' : List Value) (H' : AH) (cs' ss' : Nat), Stand p l e R s m args below meth c T locs cs ss → decode c.code pc = .ok (i, il i) → L.length = c.maxLocals → Rep Z σ x0 n0 K T.heap H → Fr n0 locs → cs ≤ R.cells ∧ ss ≤ R.slots → act S H cs ss = some (S', H', cs', ss') →
    ∃ T' locs', Stand p l e R s m args below meth c T' locs' cs' ss' ∧ Rep Z σ x0 n0 K T'.heap H' ∧ Fr n0 locs' ∧ (cs' ≤ R.cells ∧ ss' ≤ R.slots) ∧ ∀ target, Steps p.tables e below (T'.setTop (mkF m (pc + il i) (cL σ L) (S'.map (cv σ)))) target → Steps p.tables e below (T.setTop (mkF m pc (cL σ L) (S.map (cv σ)))) target
def AllGood (p : Program) (l : Launch) (e : Env) (R : Room) (s : State) (m : MethodId) (args : Array Value) (below : List Frame) (meth : Method) (c : Code) (Z : State) (σ : Nat → Nat) (x0 n0 : Nat) (K : List CD) : List (Nat × Nat × Act) → Prop
  | [] => True
  | x :: r => Good p l e R s m args below meth c Z σ x0 n0 K (insOf x.1 x.2.1) x.2.2 ∧ AllGood p l e R s m args below meth c Z σ x0 n0 K r
/-- the end: it has returned v, over the heap H' -/
def Done (p : Program) (e : Env) (R : Room) (s : State) (below : List Frame) (Z : State) (σ : Nat → Nat) (x0 n0 : Nat) (K : List CD) (r : ORes) (T : State) (g : JFrame) : Prop :=
  ∃ t, Steps p.tables e below (T.setTop g) t ∧ t.status = .running ∧ Ended t below (.returned (r.1.map (cv σ))) ∧ Rep Z σ x0 n0 K t.heap r.2 ∧ ∃ L, Fr n0 L ∧ s.WarmedH t.vm ∧ s.sameButNew ({ t with vm := s.vm } : State) L R.cells R.slots
variable {p : Program} {l : Launch} {e : Env} {R : Room} {s : State} {m : MethodId} {args : Array Value} {below : List Frame} {meth : Method} {c : Code} {Z : State} {σ : Nat → Nat} {x0 n0 : Nat} {K : List CD}
theorem look_good {E : List (Nat × Nat × Act)} {q i : Nat} {act : Act} (h : AllGood p l e R s m args below meth c Z σ x0 n0 K E) (hl : look q i E = some act) : Good p l e R s m args below meth c Z σ x0 n0 K (insOf q i) act := by
  induction E with
  | nil => cases hl
  | cons x r ih =>
    unfold look at hl
    split at hl
    · rename_i hq; cases hl; obtain ⟨rfl, rfl⟩ := hq; exact h.1
    · exact ih h.2 hl
theorem Done.step {r : ORes} {T T' : State} {g g' : JFrame} (D : Done p e R s below Z σ x0 n0 K r T' g') (st : ∀ target, Steps p.tables e below (T'.setTop g') target → Steps p.tables e below (T.setTop g) target) : Done p e R s below Z σ x0 n0 K r T g := by
  obtain ⟨t, h1, h2⟩ := D; exact ⟨t, st _ h1, h2⟩
theorem gI_ok {L : List Slot} {k : Nat} {v : Int32} (h : gI L k = some v) : (cL σ L)[k]? = some (.val (.int v)) := by
  unfold gI at h; split at h
  · rename_i w hw; cases h; simp [cL, hw, csl, cv]
  · cases h
theorem gL_ok {L : List Slot} {k : Nat} {v : Int64} (h : gL L k = some v) : (cL σ L)[k]? = some (.val (.long v)) := by
  unfold gL at h; split at h
  · rename_i w hw; cases h; simp [cL, hw, csl, cv]
  · cases h
theorem gA_ok {L : List Slot} {k : Nat} {v : Value} (h : gA L k = some v) : (cL σ L)[k]? = some (.val (cv σ v)) ∧ (cv σ v).isRef = true := by
  unfold gA at h; split at h
  · rename_i w hw; cases h; simp [cL, hw, csl, cv, Value.isRef]
  · rename_i hw; cases h; simp [cL, hw, csl, cv, Value.isRef]
  · cases h
theorem st1_ok {L L' : List Slot} {k : Nat} {v : Value} (h : st1 L k v = some L') (hv : v.category = 1) : storeLocals (cL σ L) k (cv σ v) = some (cL σ L') ∧ L'.length = L.length := by
  have hv' : (cv σ v).category = 1 := by cases v <;> first | rfl | exact hv
  have key : ∀ o : Slot, L[k]? = some o → One (csl σ o) → L' = L.set k (.val v) → storeLocals (cL σ L) k (cv σ v) = some (cL σ L') ∧ L'.length = L.length := by
    intro o ho h1 e
    subst e
    refine ⟨?_, by simp⟩
    rw [XS.store1 (o := csl σ o) (by simp [cL, ho]) h1 hv']
    simp [cL, csl, List.map_set]
  unfold st1 at h; split at h <;> first | cases h | skip
  all_goals (rename_i ho; exact key _ ho (by first | exact One.u | exact One.val rfl) rfl)
theorem st2_ok {L L' : List Slot} {k : Nat} {x : Int64} (h : st2 L k x = some L') : storeLocals (cL σ L) k (.long x) = some (cL σ L') ∧ L'.length = L.length := by
  unfold st2 at h; split at h
  · rename_i h1 h2
    cases h
    refine ⟨?_, by simp⟩
    obtain ⟨b1, g1⟩ := List.getElem?_eq_some_iff.mp h1
    obtain ⟨b2, g2⟩ := List.getElem?_eq_some_iff.mp h2
    simp [storeLocals, storeSelf, setAt, cL, csl, cv, h1, h2, b1, b2, g1, g2, Value.category, List.map_set, List.getElem?_set]
  · rename_i y h1 h2
    cases h
    refine ⟨?_, by simp⟩
    obtain ⟨b1, g1⟩ := List.getElem?_eq_some_iff.mp h1
    obtain ⟨b2, g2⟩ := List.getElem?_eq_some_iff.mp h2
    simp [storeLocals, storeSelf, setAt, cL, csl, cv, h1, h2, b1, b2, g1, g2, Value.category, List.map_set, List.getElem?_set]
    rw [List.set_comm _ _ (show k + 1 ≠ k by omega), List.set_set]
  · cases h
theorem pI_ok {S : List Value} {f : Int32 → List Value → Option ORes} {r : ORes} (h : pI S f = some r) : ∃ x S', S = .int x :: S' ∧ f x S' = some r := by
  unfold pI at h; split at h
  · exact ⟨_, _, rfl, h⟩
  · cases h
theorem pL_ok {S : List Value} {f : Int64 → List Value → Option ORes} {r : ORes} (h : pL S f = some r) : ∃ x S', S = .long x :: S' ∧ f x S' = some r := by
  unfold pL at h; split at h
  · exact ⟨_, _, rfl, h⟩
  · cases h
theorem pR_ok {S : List Value} {f : Nat → List Value → Option ORes} {r : ORes} (h : pR S f = some r) : ∃ x S', S = .ref x :: S' ∧ f x S' = some r := by
  unfold pR at h; split at h
  · exact ⟨_, _, rfl, h⟩
  · cases h
theorem pA_ok {S : List Value} {f : Value → List Value → Option ORes} {r : ORes} (h : pA S f = some r) : ∃ x S', S = x :: S' ∧ f x S' = some r ∧ (x = .null ∨ ∃ a, x = .ref a) := by
  unfold pA at h; split at h
  · exact ⟨_, _, rfl, h, Or.inr ⟨_, rfl⟩⟩
  · exact ⟨_, _, rfl, h, Or.inl rfl⟩
  · cases h
theorem p1_ok {S : List Value} {f : Value → List Value → Option ORes} {r : ORes} (h : p1 S f = some r) : ∃ x S', S = x :: S' ∧ f x S' = some r ∧ (cv σ x).category = 1 := by
  unfold p1 at h; split at h
  · exact ⟨_, _, rfl, h, rfl⟩
  · exact ⟨_, _, rfl, h, rfl⟩
  · exact ⟨_, _, rfl, h, rfl⟩
  · cases h
theorem bind_ok {α : Type} {o : Option α} {f : α → Option ORes} {r : ORes} (h : o.bind f = some r) : ∃ x, o = some x ∧ f x = some r := Option.bind_eq_some_iff.mp h
theorem br_ok {b : Bool} {pc : Nat} {o : Int} {f : Nat → Option ORes} {r : ORes} (h : br b pc o f = some r) : 0 ≤ (pc : Int) + o ∧ ((b = true ∧ f ((pc : Int) + o).toNat = some r) ∨ (b = false ∧ f (pc + 3) = some r)) := by
  unfold br at h; split at h
  · rename_i q; cases b
    · exact ⟨q, Or.inr ⟨rfl, h⟩⟩
    · exact ⟨q, Or.inl ⟨rfl, h⟩⟩
  · cases h
theorem ref_of {x : Value} (h : x = .null ∨ ∃ a, x = .ref a) : (cv σ x).isRef = true ∧ x.category = 1 := by rcases h with rfl | ⟨a, rfl⟩ <;> exact ⟨rfl, rfl⟩
theorem refEq_ok (hsg : Sg σ x0 n0) {x y : Value} (hx : x = .null ∨ ∃ a, x = .ref a) (hy : y = .null ∨ ∃ a, y = .ref a) : decide (cv σ x = cv σ y) = refEq x y := by
  rcases hx with rfl | ⟨a, rfl⟩ <;> rcases hy with rfl | ⟨b, rfl⟩ <;> simp [cv, refEq]
  exact ⟨fun h => hsg.inj h, fun h => by rw [h]⟩
theorem size_cL {L : List Slot} : (cL σ L).size = L.length := by simp [cL]
theorem inB {cell : Cell} {j : Int32} {v : Value} (h : ¬ j < 0) (hv : cell.slots[j.toNatClampNeg]? = some v) : ¬ (j < 0 ∨ cell.slots.size ≤ j.toNatClampNeg) := fun q => q.elim h fun q => by rw [Array.getElem?_eq_none q] at hv; cases hv
set_option maxHeartbeats 4000000 in
theorem ex_sound {rt : Option FieldType} {E : List (Nat × Nat × Act)} {k : St → Option ORes} {res : ORes} (hx : p.tables.exec = Jvm.exec) (hZ : Z.Warmed39 s.vm) (hsg : Sg σ x0 n0) (hrt : meth.sig.returnType = rt) (hlk : meth.locks = false) (hE : AllGood p l e R s m args below meth c Z σ x0 n0 K E)
    (hk : ∀ (T : State) (locs : List Loc) (cs ss pc : Nat) (L : List Slot) (S : List Value) (H : AH), Stand p l e R s m args below meth c T locs cs ss → L.length = c.maxLocals → Rep Z σ x0 n0 K T.heap H → Fr n0 locs → cs ≤ R.cells ∧ ss ≤ R.slots → k (pc, L, S, H, cs, ss) = some res → Done p e R s below Z σ x0 n0 K res T (mkF m pc (cL σ L) (S.map (cv σ))))
    {T : State} {locs : List Loc} {cs ss pc : Nat} {i : Instr} {L : List Slot} {S : List Value} {H : AH} (X : Stand p l e R s m args below meth c T locs cs ss) (hd : decode c.code pc = .ok (i, il i)) (hL : L.length = c.maxLocals) (hR : Rep Z σ x0 n0 K T.heap H) (hF : Fr n0 locs) (hB : cs ≤ R.cells ∧ ss ≤ R.slots)
    (h : ex rt E x0 k i pc L S H cs ss = some res) : Done p e R s below Z σ x0 n0 K res T (mkF m pc (cL σ L) (S.map (cv σ))) := by
  cases i with
  | iload n =>
    dsimp only [ex] at h
    replace h := bind_ok h
    obtain ⟨v, h1, h⟩ := h
    exact (hk _ _ _ _ _ _ _ _ X hL hR hF hB h).step fun t q => XS.iload X.here hx rfl hd (gI_ok h1) q
  | iload_n n =>
    dsimp only [ex] at h
    replace h := bind_ok h
    obtain ⟨v, h1, h⟩ := h
    exact (hk _ _ _ _ _ _ _ _ X hL hR hF hB h).step fun t q => XS.iloadN X.here hx rfl hd (gI_ok h1) q
  | lload n =>
    dsimp only [ex] at h
    replace h := bind_ok h
    obtain ⟨v, h1, h⟩ := h
    exact (hk _ _ _ _ _ _ _ _ X hL hR hF hB h).step fun t q => XS.lload X.here hx rfl hd (gL_ok h1) q
  | lload_n n =>
    dsimp only [ex] at h
    replace h := bind_ok h
    obtain ⟨v, h1, h⟩ := h
    exact (hk _ _ _ _ _ _ _ _ X hL hR hF hB h).step fun t q => XS.lloadN X.here hx rfl hd (gL_ok h1) q
  | aload n =>
    dsimp only [ex] at h
    replace h := bind_ok h
    obtain ⟨v, h1, h⟩ := h
    exact (hk _ _ _ _ _ _ _ _ X hL hR hF hB h).step fun t q => XS.aload X.here hx rfl hd (gA_ok h1).1 (gA_ok (σ := σ) h1).2 q
  | aload_n n =>
    dsimp only [ex] at h
    replace h := bind_ok h
    obtain ⟨v, h1, h⟩ := h
    exact (hk _ _ _ _ _ _ _ _ X hL hR hF hB h).step fun t q => XS.aloadN X.here hx rfl hd (gA_ok h1).1 (gA_ok (σ := σ) h1).2 q
  | istore n =>
    dsimp only [ex] at h
    replace h := pI_ok h
    obtain ⟨x, S1, rfl, h⟩ := h
    replace h := bind_ok h
    obtain ⟨L1, h1, h⟩ := h
    have h2 := st1_ok (σ := σ) h1 rfl
    exact (hk _ _ _ _ _ _ _ _ X (h2.2.trans hL) hR hF hB h).step fun t q => XS.istore X.here hx rfl hd rfl h2.1 q
  | istore_n n =>
    dsimp only [ex] at h
    replace h := pI_ok h
    obtain ⟨x, S1, rfl, h⟩ := h
    replace h := bind_ok h
    obtain ⟨L1, h1, h⟩ := h
    have h2 := st1_ok (σ := σ) h1 rfl
    exact (hk _ _ _ _ _ _ _ _ X (h2.2.trans hL) hR hF hB h).step fun t q => XS.istoreN X.here hx rfl hd rfl h2.1 q
  | lstore n =>
    dsimp only [ex] at h
    replace h := pL_ok h
    obtain ⟨x, S1, rfl, h⟩ := h
    replace h := bind_ok h
    obtain ⟨L1, h1, h⟩ := h
    have h2 := st2_ok (σ := σ) h1
    exact (hk _ _ _ _ _ _ _ _ X (h2.2.trans hL) hR hF hB h).step fun t q => XS.lstore X.here hx rfl hd rfl h2.1 q
  | lstore_n n =>
    dsimp only [ex] at h
    replace h := pL_ok h
    obtain ⟨x, S1, rfl, h⟩ := h
    replace h := bind_ok h
    obtain ⟨L1, h1, h⟩ := h
    have h2 := st2_ok (σ := σ) h1
    exact (hk _ _ _ _ _ _ _ _ X (h2.2.trans hL) hR hF hB h).step fun t q => XS.lstoreN X.here hx rfl hd rfl h2.1 q
  | astore n =>
    dsimp only [ex] at h
    replace h := pA_ok h
    obtain ⟨x, S1, rfl, h, hr⟩ := h
    replace h := bind_ok h
    obtain ⟨L1, h1, h⟩ := h
    have h2 := st1_ok (σ := σ) h1 (ref_of (σ := σ) hr).2
    exact (hk _ _ _ _ _ _ _ _ X (h2.2.trans hL) hR hF hB h).step fun t q => XS.astore X.here hx rfl hd rfl (ref_of hr).1 h2.1 q
  | astore_n n =>
    dsimp only [ex] at h
    replace h := pA_ok h
    obtain ⟨x, S1, rfl, h, hr⟩ := h
    replace h := bind_ok h
    obtain ⟨L1, h1, h⟩ := h
    have h2 := st1_ok (σ := σ) h1 (ref_of (σ := σ) hr).2
    exact (hk _ _ _ _ _ _ _ _ X (h2.2.trans hL) hR hF hB h).step fun t q => XS.astoreN X.here hx rfl hd rfl (ref_of hr).1 h2.1 q
  | iinc n cst =>
    dsimp only [ex] at h
    replace h := bind_ok h
    obtain ⟨v, h1, h⟩ := h
    replace h := bind_ok h
    obtain ⟨L1, h2, h⟩ := h
    have h2 := st1_ok (σ := σ) h2 rfl
    exact (hk _ _ _ _ _ _ _ _ X (h2.2.trans hL) hR hF hB h).step fun t q => XS.iinc X.here hx rfl hd (gI_ok h1) h2.1 q
  | iconst cst =>
    dsimp only [ex] at h
    exact (hk _ _ _ _ _ _ _ _ X hL hR hF hB h).step fun t q => XS.iconst X.here hx rfl hd q
  | bipush cst =>
    dsimp only [ex] at h
    exact (hk _ _ _ _ _ _ _ _ X hL hR hF hB h).step fun t q => XS.bipush X.here hx rfl hd q
  | sipush cst =>
    dsimp only [ex] at h
    exact (hk _ _ _ _ _ _ _ _ X hL hR hF hB h).step fun t q => XS.sipush X.here hx rfl hd q
  | lconst cst =>
    dsimp only [ex] at h
    exact (hk _ _ _ _ _ _ _ _ X hL hR hF hB h).step fun t q => XS.lconst X.here hx rfl hd q
  | aconst_null =>
    dsimp only [ex] at h
    exact (hk _ _ _ _ _ _ _ _ X hL hR hF hB h).step fun t q => XS.aconstNull X.here hx rfl hd q
  | iadd =>
    dsimp only [ex] at h
    replace h := pI_ok h
    obtain ⟨y, S1, rfl, h⟩ := h
    replace h := pI_ok h
    obtain ⟨x, S2, rfl, h⟩ := h
    exact (hk _ _ _ _ _ _ _ _ X hL hR hF hB h).step fun t q => XS.iadd X.here hx rfl hd rfl q
  | isub =>
    dsimp only [ex] at h
    replace h := pI_ok h
    obtain ⟨y, S1, rfl, h⟩ := h
    replace h := pI_ok h
    obtain ⟨x, S2, rfl, h⟩ := h
    exact (hk _ _ _ _ _ _ _ _ X hL hR hF hB h).step fun t q => XS.isub X.here hx rfl hd rfl q
  | imul =>
    dsimp only [ex] at h
    replace h := pI_ok h
    obtain ⟨y, S1, rfl, h⟩ := h
    replace h := pI_ok h
    obtain ⟨x, S2, rfl, h⟩ := h
    exact (hk _ _ _ _ _ _ _ _ X hL hR hF hB h).step fun t q => XS.imul X.here hx rfl hd rfl q
  | iand =>
    dsimp only [ex] at h
    replace h := pI_ok h
    obtain ⟨y, S1, rfl, h⟩ := h
    replace h := pI_ok h
    obtain ⟨x, S2, rfl, h⟩ := h
    exact (hk _ _ _ _ _ _ _ _ X hL hR hF hB h).step fun t q => XS.iand X.here hx rfl hd rfl q
  | ior =>
    dsimp only [ex] at h
    replace h := pI_ok h
    obtain ⟨y, S1, rfl, h⟩ := h
    replace h := pI_ok h
    obtain ⟨x, S2, rfl, h⟩ := h
    exact (hk _ _ _ _ _ _ _ _ X hL hR hF hB h).step fun t q => XS.ior X.here hx rfl hd rfl q
  | ixor =>
    dsimp only [ex] at h
    replace h := pI_ok h
    obtain ⟨y, S1, rfl, h⟩ := h
    replace h := pI_ok h
    obtain ⟨x, S2, rfl, h⟩ := h
    exact (hk _ _ _ _ _ _ _ _ X hL hR hF hB h).step fun t q => XS.ixor X.here hx rfl hd rfl q
  | ishl =>
    dsimp only [ex] at h
    replace h := pI_ok h
    obtain ⟨y, S1, rfl, h⟩ := h
    replace h := pI_ok h
    obtain ⟨x, S2, rfl, h⟩ := h
    exact (hk _ _ _ _ _ _ _ _ X hL hR hF hB h).step fun t q => XS.ishl X.here hx rfl hd rfl q
  | ishr =>
    dsimp only [ex] at h
    replace h := pI_ok h
    obtain ⟨y, S1, rfl, h⟩ := h
    replace h := pI_ok h
    obtain ⟨x, S2, rfl, h⟩ := h
    exact (hk _ _ _ _ _ _ _ _ X hL hR hF hB h).step fun t q => XS.ishr X.here hx rfl hd rfl q
  | iushr =>
    dsimp only [ex] at h
    replace h := pI_ok h
    obtain ⟨y, S1, rfl, h⟩ := h
    replace h := pI_ok h
    obtain ⟨x, S2, rfl, h⟩ := h
    exact (hk _ _ _ _ _ _ _ _ X hL hR hF hB h).step fun t q => XS.iushr X.here hx rfl hd rfl q
  | ladd =>
    dsimp only [ex] at h
    replace h := pL_ok h
    obtain ⟨y, S1, rfl, h⟩ := h
    replace h := pL_ok h
    obtain ⟨x, S2, rfl, h⟩ := h
    exact (hk _ _ _ _ _ _ _ _ X hL hR hF hB h).step fun t q => XS.ladd X.here hx rfl hd rfl q
  | lsub =>
    dsimp only [ex] at h
    replace h := pL_ok h
    obtain ⟨y, S1, rfl, h⟩ := h
    replace h := pL_ok h
    obtain ⟨x, S2, rfl, h⟩ := h
    exact (hk _ _ _ _ _ _ _ _ X hL hR hF hB h).step fun t q => XS.lsub X.here hx rfl hd rfl q
  | lmul =>
    dsimp only [ex] at h
    replace h := pL_ok h
    obtain ⟨y, S1, rfl, h⟩ := h
    replace h := pL_ok h
    obtain ⟨x, S2, rfl, h⟩ := h
    exact (hk _ _ _ _ _ _ _ _ X hL hR hF hB h).step fun t q => XS.lmul X.here hx rfl hd rfl q
  | land =>
    dsimp only [ex] at h
    replace h := pL_ok h
    obtain ⟨y, S1, rfl, h⟩ := h
    replace h := pL_ok h
    obtain ⟨x, S2, rfl, h⟩ := h
    exact (hk _ _ _ _ _ _ _ _ X hL hR hF hB h).step fun t q => XS.land X.here hx rfl hd rfl q
  | lor =>
    dsimp only [ex] at h
    replace h := pL_ok h
    obtain ⟨y, S1, rfl, h⟩ := h
    replace h := pL_ok h
    obtain ⟨x, S2, rfl, h⟩ := h
    exact (hk _ _ _ _ _ _ _ _ X hL hR hF hB h).step fun t q => XS.lor X.here hx rfl hd rfl q
  | lxor =>
    dsimp only [ex] at h
    replace h := pL_ok h
    obtain ⟨y, S1, rfl, h⟩ := h
    replace h := pL_ok h
    obtain ⟨x, S2, rfl, h⟩ := h
    exact (hk _ _ _ _ _ _ _ _ X hL hR hF hB h).step fun t q => XS.lxor X.here hx rfl hd rfl q
  | lcmp =>
    dsimp only [ex] at h
    replace h := pL_ok h
    obtain ⟨y, S1, rfl, h⟩ := h
    replace h := pL_ok h
    obtain ⟨x, S2, rfl, h⟩ := h
    exact (hk _ _ _ _ _ _ _ _ X hL hR hF hB h).step fun t q => XS.lcmp X.here hx rfl hd rfl q
  | lshl =>
    dsimp only [ex] at h
    replace h := pI_ok h
    obtain ⟨y, S1, rfl, h⟩ := h
    replace h := pL_ok h
    obtain ⟨x, S2, rfl, h⟩ := h
    exact (hk _ _ _ _ _ _ _ _ X hL hR hF hB h).step fun t q => XS.lshl X.here hx rfl hd rfl q
  | lshr =>
    dsimp only [ex] at h
    replace h := pI_ok h
    obtain ⟨y, S1, rfl, h⟩ := h
    replace h := pL_ok h
    obtain ⟨x, S2, rfl, h⟩ := h
    exact (hk _ _ _ _ _ _ _ _ X hL hR hF hB h).step fun t q => XS.lshr X.here hx rfl hd rfl q
  | lushr =>
    dsimp only [ex] at h
    replace h := pI_ok h
    obtain ⟨y, S1, rfl, h⟩ := h
    replace h := pL_ok h
    obtain ⟨x, S2, rfl, h⟩ := h
    exact (hk _ _ _ _ _ _ _ _ X hL hR hF hB h).step fun t q => XS.lushr X.here hx rfl hd rfl q
  | idiv =>
    dsimp only [ex] at h
    replace h := pI_ok h
    obtain ⟨y, S1, rfl, h⟩ := h
    replace h := pI_ok h
    obtain ⟨x, S2, rfl, h⟩ := h
    split at h
    · cases h
    · rename_i hy
      exact (hk _ _ _ _ _ _ _ _ X hL hR hF hB h).step fun t q => XS.idiv X.here hx rfl hd rfl hy q
  | irem =>
    dsimp only [ex] at h
    replace h := pI_ok h
    obtain ⟨y, S1, rfl, h⟩ := h
    replace h := pI_ok h
    obtain ⟨x, S2, rfl, h⟩ := h
    split at h
    · cases h
    · rename_i hy
      exact (hk _ _ _ _ _ _ _ _ X hL hR hF hB h).step fun t q => iremM X hx rfl hd rfl hy q
  | ldiv =>
    dsimp only [ex] at h
    replace h := pL_ok h
    obtain ⟨y, S1, rfl, h⟩ := h
    replace h := pL_ok h
    obtain ⟨x, S2, rfl, h⟩ := h
    split at h
    · cases h
    · rename_i hy
      exact (hk _ _ _ _ _ _ _ _ X hL hR hF hB h).step fun t q => XS.ldiv X.here hx rfl hd rfl hy q
  | lrem =>
    dsimp only [ex] at h
    replace h := pL_ok h
    obtain ⟨y, S1, rfl, h⟩ := h
    replace h := pL_ok h
    obtain ⟨x, S2, rfl, h⟩ := h
    split at h
    · cases h
    · rename_i hy
      exact (hk _ _ _ _ _ _ _ _ X hL hR hF hB h).step fun t q => XS.lrem X.here hx rfl hd rfl hy (by rw [lrem_mod]; exact q)
  | ineg =>
    dsimp only [ex] at h
    replace h := pI_ok h
    obtain ⟨x, S1, rfl, h⟩ := h
    exact (hk _ _ _ _ _ _ _ _ X hL hR hF hB h).step fun t q => XS.ineg X.here hx rfl hd rfl q
  | i2b =>
    dsimp only [ex] at h
    replace h := pI_ok h
    obtain ⟨x, S1, rfl, h⟩ := h
    exact (hk _ _ _ _ _ _ _ _ X hL hR hF hB h).step fun t q => XS.i2b X.here hx rfl hd rfl q
  | i2c =>
    dsimp only [ex] at h
    replace h := pI_ok h
    obtain ⟨x, S1, rfl, h⟩ := h
    exact (hk _ _ _ _ _ _ _ _ X hL hR hF hB h).step fun t q => XS.i2c X.here hx rfl hd rfl q
  | i2s =>
    dsimp only [ex] at h
    replace h := pI_ok h
    obtain ⟨x, S1, rfl, h⟩ := h
    exact (hk _ _ _ _ _ _ _ _ X hL hR hF hB h).step fun t q => XS.i2s X.here hx rfl hd rfl q
  | i2l =>
    dsimp only [ex] at h
    replace h := pI_ok h
    obtain ⟨x, S1, rfl, h⟩ := h
    exact (hk _ _ _ _ _ _ _ _ X hL hR hF hB h).step fun t q => XS.i2l X.here hx rfl hd rfl q
  | l2i =>
    dsimp only [ex] at h
    replace h := pL_ok h
    obtain ⟨x, S1, rfl, h⟩ := h
    exact (hk _ _ _ _ _ _ _ _ X hL hR hF hB h).step fun t q => XS.l2i X.here hx rfl hd rfl q
  | lneg =>
    dsimp only [ex] at h
    replace h := pL_ok h
    obtain ⟨x, S1, rfl, h⟩ := h
    exact (hk _ _ _ _ _ _ _ _ X hL hR hF hB h).step fun t q => XS.lneg X.here hx rfl hd rfl q
  | dup =>
    dsimp only [ex] at h
    replace h := p1_ok (σ := σ) h
    obtain ⟨x, S1, rfl, h, h1⟩ := h
    exact (hk _ _ _ _ _ _ _ _ X hL hR hF hB h).step fun t q => XS.dup X.here hx rfl hd rfl h1 q
  | pop =>
    dsimp only [ex] at h
    replace h := p1_ok (σ := σ) h
    obtain ⟨x, S1, rfl, h, h1⟩ := h
    exact (hk _ _ _ _ _ _ _ _ X hL hR hF hB h).step fun t q => XS.pop X.here hx rfl hd rfl h1 q
  | dup_x1 =>
    dsimp only [ex] at h
    replace h := p1_ok (σ := σ) h
    obtain ⟨x, S1, rfl, h, h1⟩ := h
    replace h := p1_ok (σ := σ) h
    obtain ⟨y, S2, rfl, h, h2⟩ := h
    exact (hk _ _ _ _ _ _ _ _ X hL hR hF hB h).step fun t q => XS.dupX1 X.here hx rfl hd rfl h1 h2 q
  | dup2 =>
    dsimp only [ex] at h
    replace h := p1_ok (σ := σ) h
    obtain ⟨x, S1, rfl, h, h1⟩ := h
    replace h := p1_ok (σ := σ) h
    obtain ⟨y, S2, rfl, h, h2⟩ := h
    exact (hk _ _ _ _ _ _ _ _ X hL hR hF hB h).step fun t q => XT.dup2 X.here hx rfl hd rfl h1 h2 q
  | goto o =>
    dsimp only [ex] at h
    split at h
    · rename_i ho
      exact (hk _ _ _ _ _ _ _ _ X hL hR hF hB h).step fun t q => XS.goto X.here hx rfl rfl hd ho rfl q
    · cases h
  | ifCond cd o =>
    dsimp only [ex] at h
    replace h := pI_ok h
    obtain ⟨x, S1, rfl, h⟩ := h
    replace h := br_ok h
    obtain ⟨ho, ⟨hc, h⟩ | ⟨hc, h⟩⟩ := h
    · exact (hk _ _ _ _ _ _ _ _ X hL hR hF hB h).step fun t q => XS.ifYes X.here hx rfl rfl hd rfl hc ho rfl q
    · exact (hk _ _ _ _ _ _ _ _ X hL hR hF hB h).step fun t q => XS.ifNo X.here hx rfl hd rfl hc q
  | if_icmp cd o =>
    dsimp only [ex] at h
    replace h := pI_ok h
    obtain ⟨y, S1, rfl, h⟩ := h
    replace h := pI_ok h
    obtain ⟨x, S2, rfl, h⟩ := h
    replace h := br_ok h
    obtain ⟨ho, ⟨hc, h⟩ | ⟨hc, h⟩⟩ := h
    · exact (hk _ _ _ _ _ _ _ _ X hL hR hF hB h).step fun t q => XS.icmpYes X.here hx rfl rfl hd rfl hc ho rfl q
    · exact (hk _ _ _ _ _ _ _ _ X hL hR hF hB h).step fun t q => XS.icmpNo X.here hx rfl hd rfl hc q
  | ifnull o =>
    dsimp only [ex] at h
    replace h := pA_ok h
    obtain ⟨x, S1, rfl, h, hr⟩ := h
    replace h := br_ok h
    obtain ⟨ho, ⟨hc, h⟩ | ⟨hc, h⟩⟩ := h
    · rcases hr with rfl | ⟨a, rfl⟩
      · exact (hk _ _ _ _ _ _ _ _ X hL hR hF hB h).step fun t q => XS.ifnullYes X.here hx rfl rfl hd rfl ho rfl q
      · cases hc
    · rcases hr with rfl | ⟨a, rfl⟩
      · cases hc
      · exact (hk _ _ _ _ _ _ _ _ X hL hR hF hB h).step fun t q => XS.ifnullNo X.here hx rfl hd rfl q
  | ifnonnull o =>
    dsimp only [ex] at h
    replace h := pA_ok h
    obtain ⟨x, S1, rfl, h, hr⟩ := h
    replace h := br_ok h
    obtain ⟨ho, ⟨hc, h⟩ | ⟨hc, h⟩⟩ := h
    · rcases hr with rfl | ⟨a, rfl⟩
      · cases hc
      · exact (hk _ _ _ _ _ _ _ _ X hL hR hF hB h).step fun t q => XS.ifnonnullYes X.here hx rfl rfl hd rfl ho rfl q
    · rcases hr with rfl | ⟨a, rfl⟩
      · exact (hk _ _ _ _ _ _ _ _ X hL hR hF hB h).step fun t q => XS.ifnonnullNo X.here hx rfl hd rfl q
      · cases hc
  | if_acmp cd o =>
    dsimp only [ex] at h
    replace h := pA_ok h
    obtain ⟨y, S1, rfl, h, hr⟩ := h
    replace h := pA_ok h
    obtain ⟨x, S2, rfl, h, hr'⟩ := h
    replace h := br_ok h
    obtain ⟨ho, ⟨hc, h⟩ | ⟨hc, h⟩⟩ := h
    · exact (hk _ _ _ _ _ _ _ _ X hL hR hF hB h).step fun t q => acmp X hx rfl (ref_of hr').1 (ref_of hr).1 (same := refEq x y) rfl hd rfl (refEq_ok hsg hr' hr) ho (by rw [if_pos hc]) q
    · exact (hk _ _ _ _ _ _ _ _ X hL hR hF hB h).step fun t q => acmp X hx rfl (ref_of hr').1 (ref_of hr).1 (same := refEq x y) rfl hd rfl (refEq_ok hsg hr' hr) ho (by rw [if_neg (by simp [hc])]) q
  | arraylength =>
    dsimp only [ex] at h
    replace h := pR_ok h
    obtain ⟨a, S1, rfl, h⟩ := h
    replace h := bind_ok h
    obtain ⟨⟨ty, vs⟩, h1, h⟩ := h
    obtain ⟨cell, A, hs, hl, hfi, -⟩ := hR.2.2.2 _ _ (arr_some h1)
    have hz : cell.slots.size.toInt32 = vs.length.toInt32 := by rw [hs]; simp
    have D := hk _ _ _ _ _ _ _ _ X hL hR hF hB h
    refine D.step fun t q => ?_
    refine X.arraylength hx (cell := cell) A.1 (State.isArrayOf_alike hZ.alike A.2.1) (g := mkF m pc (cL σ L) (.ref (σ a) :: S1.map (cv σ))) rfl rfl hd t ?_
    rw [hz]
    exact q
  | iaload =>
    dsimp only [ex, ald] at h
    replace h := pI_ok h
    obtain ⟨j, S1, rfl, h⟩ := h
    replace h := pR_ok h
    obtain ⟨a, S2, rfl, h⟩ := h
    replace h := bind_ok h
    obtain ⟨⟨ty, vs⟩, h1, h⟩ := h
    split at h
    · rename_i hq
      replace h := bind_ok h
      obtain ⟨v, h2, h⟩ := h
      obtain ⟨cell, A, hs, hl, hfi, -⟩ := hR.2.2.2 _ _ (arr_some h1)
      obtain rfl : ty = .int := of_decide_eq_true hq.1
      have hv : cell.slots[j.toNatClampNeg]? = some (cv σ v) := by rw [hs, List.getElem?_toArray, List.getElem?_map, h2]; rfl
      exact (hk _ _ _ _ _ _ _ _ X hL hR hF hB h).step fun t q => X.iaload hx (cell := cell) (j := j) (v := cv σ v) A.1 (State.isArrayOf_alike hZ.alike A.2.1) A.2.2 (inB hq.2 hv) hv (g := mkF m pc (cL σ L) (.int j :: .ref (σ a) :: S2.map (cv σ))) rfl rfl hd t q
    · cases h
  | baload =>
    dsimp only [ex, ald] at h
    replace h := pI_ok h
    obtain ⟨j, S1, rfl, h⟩ := h
    replace h := pR_ok h
    obtain ⟨a, S2, rfl, h⟩ := h
    replace h := bind_ok h
    obtain ⟨⟨ty, vs⟩, h1, h⟩ := h
    split at h
    · rename_i hq
      replace h := bind_ok h
      obtain ⟨v, h2, h⟩ := h
      obtain ⟨cell, A, hs, hl, hfi, -⟩ := hR.2.2.2 _ _ (arr_some h1)
      have hv : cell.slots[j.toNatClampNeg]? = some (cv σ v) := by rw [hs, List.getElem?_toArray, List.getElem?_map, h2]; rfl
      cases ty with
      | byte => exact (hk _ _ _ _ _ _ _ _ X hL hR hF hB h).step fun t q => X.baloadBytes hx (cell := cell) (j := j) (v := cv σ v) A.1 (State.isArrayOf_alike hZ.alike A.2.1) A.2.2 (inB hq.2 hv) hv (g := mkF m pc (cL σ L) (.int j :: .ref (σ a) :: S2.map (cv σ))) rfl rfl hd t q
      | boolean => exact (hk _ _ _ _ _ _ _ _ X hL hR hF hB h).step fun t q => X.baloadBooleans hx (cell := cell) (j := j) (v := cv σ v) A.1 (State.isArrayOf_alike hZ.alike A.2.1) A.2.2 (inB hq.2 hv) hv (g := mkF m pc (cL σ L) (.int j :: .ref (σ a) :: S2.map (cv σ))) rfl rfl hd t q
      | _ => exact nomatch (show false = true from hq.1)
    · cases h
  | caload =>
    dsimp only [ex, ald] at h
    replace h := pI_ok h
    obtain ⟨j, S1, rfl, h⟩ := h
    replace h := pR_ok h
    obtain ⟨a, S2, rfl, h⟩ := h
    replace h := bind_ok h
    obtain ⟨⟨ty, vs⟩, h1, h⟩ := h
    split at h
    · rename_i hq
      replace h := bind_ok h
      obtain ⟨v, h2, h⟩ := h
      obtain ⟨cell, A, hs, hl, hfi, -⟩ := hR.2.2.2 _ _ (arr_some h1)
      obtain rfl : ty = .char := of_decide_eq_true hq.1
      have hv : cell.slots[j.toNatClampNeg]? = some (cv σ v) := by rw [hs, List.getElem?_toArray, List.getElem?_map, h2]; rfl
      exact (hk _ _ _ _ _ _ _ _ X hL hR hF hB h).step fun t q => X.caload hx (cell := cell) (j := j) (v := cv σ v) A.1 (State.isArrayOf_alike hZ.alike A.2.1) A.2.2 (inB hq.2 hv) hv (g := mkF m pc (cL σ L) (.int j :: .ref (σ a) :: S2.map (cv σ))) rfl rfl hd t q
    · cases h
  | laload =>
    dsimp only [ex, ald] at h
    replace h := pI_ok h
    obtain ⟨j, S1, rfl, h⟩ := h
    replace h := pR_ok h
    obtain ⟨a, S2, rfl, h⟩ := h
    replace h := bind_ok h
    obtain ⟨⟨ty, vs⟩, h1, h⟩ := h
    split at h
    · rename_i hq
      replace h := bind_ok h
      obtain ⟨v, h2, h⟩ := h
      obtain ⟨cell, A, hs, hl, hfi, -⟩ := hR.2.2.2 _ _ (arr_some h1)
      obtain rfl : ty = .long := of_decide_eq_true hq.1
      have hv : cell.slots[j.toNatClampNeg]? = some (cv σ v) := by rw [hs, List.getElem?_toArray, List.getElem?_map, h2]; rfl
      exact (hk _ _ _ _ _ _ _ _ X hL hR hF hB h).step fun t q => X.laload hx (cell := cell) (j := j) (v := cv σ v) A.1 (State.isArrayOf_alike hZ.alike A.2.1) A.2.2 (inB hq.2 hv) hv (g := mkF m pc (cL σ L) (.int j :: .ref (σ a) :: S2.map (cv σ))) rfl rfl hd t q
    · cases h
  | aaload =>
    dsimp only [ex, ald] at h
    replace h := pI_ok h
    obtain ⟨j, S1, rfl, h⟩ := h
    replace h := pR_ok h
    obtain ⟨a, S2, rfl, h⟩ := h
    replace h := bind_ok h
    obtain ⟨⟨ty, vs⟩, h1, h⟩ := h
    split at h
    · rename_i hq
      replace h := bind_ok h
      obtain ⟨v, h2, h⟩ := h
      obtain ⟨cell, A, hs, hl, hfi, -⟩ := hR.2.2.2 _ _ (arr_some h1)
      have hv : cell.slots[j.toNatClampNeg]? = some (cv σ v) := by rw [hs, List.getElem?_toArray, List.getElem?_map, h2]; rfl
      exact (hk _ _ _ _ _ _ _ _ X hL hR hF hB h).step fun t q => X.aaload hx (cell := cell) (j := j) (v := cv σ v) A.1 (State.isArrayOf_alike hZ.alike A.2.1) hq.1 A.2.2 (inB hq.2 hv) hv (g := mkF m pc (cL σ L) (.int j :: .ref (σ a) :: S2.map (cv σ))) rfl rfl hd t q
    · cases h
  | iastore =>
    dsimp only [ex, ast] at h
    replace h := pI_ok h
    obtain ⟨x, S0, rfl, h⟩ := h
    replace h := pI_ok h
    obtain ⟨j, S1, rfl, h⟩ := h
    replace h := pR_ok h
    obtain ⟨a, S2, rfl, h⟩ := h
    replace h := bind_ok h
    obtain ⟨⟨ty, vs⟩, h1, h⟩ := h
    split at h
    · rename_i hq
      obtain rfl : ty = .int := of_decide_eq_true hq.1
      obtain ⟨cell, A, hs, hl, hfi, -⟩ := hR.2.2.2 _ _ (arr_some h1)
      obtain ⟨T', h', X', e', W, st⟩ := stI X hx hZ rfl A (j := j) (x := x) (by rw [hs]; simpa using And.intro hq.2.1 hq.2.2.1) (g := mkF m pc (cL σ L) _) rfl rfl hd
      refine (hk _ _ _ _ _ _ _ _ X' hL (e' ▸ hR.write hsg hq.2.2.2 W (RepO.arr (hR.2.2.2 _ _ (arr_some h1)) (v := .int _) (rfl) W)) (Fr.snoc X' hF (hsg.new hq.2.2.2)) hB h).step st
    · cases h
  | bastore =>
    dsimp only [ex, ast] at h
    replace h := pI_ok h
    obtain ⟨x, S0, rfl, h⟩ := h
    replace h := pI_ok h
    obtain ⟨j, S1, rfl, h⟩ := h
    replace h := pR_ok h
    obtain ⟨a, S2, rfl, h⟩ := h
    replace h := bind_ok h
    obtain ⟨⟨ty, vs⟩, h1, h⟩ := h
    split at h
    · rename_i hq
      obtain rfl : ty = .byte := of_decide_eq_true hq.1
      obtain ⟨cell, A, hs, hl, hfi, -⟩ := hR.2.2.2 _ _ (arr_some h1)
      obtain ⟨T', h', X', e', W, st⟩ := stB X hx hZ rfl A (j := j) (x := x) (by rw [hs]; simpa using And.intro hq.2.1 hq.2.2.1) (g := mkF m pc (cL σ L) _) rfl rfl hd
      refine (hk _ _ _ _ _ _ _ _ X' hL (e' ▸ hR.write hsg hq.2.2.2 W (RepO.arr (hR.2.2.2 _ _ (arr_some h1)) (v := .int _) (fits_nar_byte _) W)) (Fr.snoc X' hF (hsg.new hq.2.2.2)) hB h).step st
    · cases h
  | castore =>
    dsimp only [ex, ast] at h
    replace h := pI_ok h
    obtain ⟨x, S0, rfl, h⟩ := h
    replace h := pI_ok h
    obtain ⟨j, S1, rfl, h⟩ := h
    replace h := pR_ok h
    obtain ⟨a, S2, rfl, h⟩ := h
    replace h := bind_ok h
    obtain ⟨⟨ty, vs⟩, h1, h⟩ := h
    split at h
    · rename_i hq
      obtain rfl : ty = .char := of_decide_eq_true hq.1
      obtain ⟨cell, A, hs, hl, hfi, -⟩ := hR.2.2.2 _ _ (arr_some h1)
      obtain ⟨T', h', X', e', W, st⟩ := stC X hx hZ rfl A (j := j) (x := x) (by rw [hs]; simpa using And.intro hq.2.1 hq.2.2.1) (g := mkF m pc (cL σ L) _) rfl rfl hd
      refine (hk _ _ _ _ _ _ _ _ X' hL (e' ▸ hR.write hsg hq.2.2.2 W (RepO.arr (hR.2.2.2 _ _ (arr_some h1)) (v := .int _) (fits_nar_char _) W)) (Fr.snoc X' hF (hsg.new hq.2.2.2)) hB h).step st
    · cases h
  | lastore =>
    dsimp only [ex, astL] at h
    replace h := pL_ok h
    obtain ⟨x, S0, rfl, h⟩ := h
    replace h := pI_ok h
    obtain ⟨j, S1, rfl, h⟩ := h
    replace h := pR_ok h
    obtain ⟨a, S2, rfl, h⟩ := h
    replace h := bind_ok h
    obtain ⟨⟨ty, vs⟩, h1, h⟩ := h
    split at h
    · rename_i hq
      obtain rfl : ty = .long := hq.1
      obtain ⟨cell, A, hs, hl, hfi, -⟩ := hR.2.2.2 _ _ (arr_some h1)
      obtain ⟨T', h', X', e', W, st⟩ := stJ X hx hZ rfl A (j := j) (x := x) (by rw [hs]; simpa using And.intro hq.2.1 hq.2.2.1) (g := mkF m pc (cL σ L) _) rfl rfl hd
      refine (hk _ _ _ _ _ _ _ _ X' hL (e' ▸ hR.write hsg hq.2.2.2 W (RepO.arr (hR.2.2.2 _ _ (arr_some h1)) (v := .long _) rfl W)) (Fr.snoc X' hF (hsg.new hq.2.2.2)) hB h).step st
    · cases h
  | ldc i =>
    dsimp only [ex, spc] at h
    replace h := bind_ok h
    obtain ⟨act, h1, h⟩ := h
    replace h := bind_ok h
    obtain ⟨⟨S', H', cs', ss'⟩, h2, h⟩ := h
    obtain ⟨T', locs', X', hR', hF', hB', st⟩ := look_good (q := 0) hE h1 T locs cs ss pc L S H S' H' cs' ss' X hd hL hR hF hB h2
    exact (hk _ _ _ _ _ _ _ _ X' hL hR' hF' hB' h).step st
  | ldc_w i =>
    dsimp only [ex, spc] at h
    replace h := bind_ok h
    obtain ⟨act, h1, h⟩ := h
    replace h := bind_ok h
    obtain ⟨⟨S', H', cs', ss'⟩, h2, h⟩ := h
    obtain ⟨T', locs', X', hR', hF', hB', st⟩ := look_good (q := 1) hE h1 T locs cs ss pc L S H S' H' cs' ss' X hd hL hR hF hB h2
    exact (hk _ _ _ _ _ _ _ _ X' hL hR' hF' hB' h).step st
  | ldc2_w i =>
    dsimp only [ex, spc] at h
    replace h := bind_ok h
    obtain ⟨act, h1, h⟩ := h
    replace h := bind_ok h
    obtain ⟨⟨S', H', cs', ss'⟩, h2, h⟩ := h
    obtain ⟨T', locs', X', hR', hF', hB', st⟩ := look_good (q := 2) hE h1 T locs cs ss pc L S H S' H' cs' ss' X hd hL hR hF hB h2
    exact (hk _ _ _ _ _ _ _ _ X' hL hR' hF' hB' h).step st
  | getfield i =>
    dsimp only [ex, spc] at h
    replace h := bind_ok h
    obtain ⟨act, h1, h⟩ := h
    replace h := bind_ok h
    obtain ⟨⟨S', H', cs', ss'⟩, h2, h⟩ := h
    obtain ⟨T', locs', X', hR', hF', hB', st⟩ := look_good (q := 3) hE h1 T locs cs ss pc L S H S' H' cs' ss' X hd hL hR hF hB h2
    exact (hk _ _ _ _ _ _ _ _ X' hL hR' hF' hB' h).step st
  | putfield i =>
    dsimp only [ex, spc] at h
    replace h := bind_ok h
    obtain ⟨act, h1, h⟩ := h
    replace h := bind_ok h
    obtain ⟨⟨S', H', cs', ss'⟩, h2, h⟩ := h
    obtain ⟨T', locs', X', hR', hF', hB', st⟩ := look_good (q := 4) hE h1 T locs cs ss pc L S H S' H' cs' ss' X hd hL hR hF hB h2
    exact (hk _ _ _ _ _ _ _ _ X' hL hR' hF' hB' h).step st
  | getstatic i =>
    dsimp only [ex, spc] at h
    replace h := bind_ok h
    obtain ⟨act, h1, h⟩ := h
    replace h := bind_ok h
    obtain ⟨⟨S', H', cs', ss'⟩, h2, h⟩ := h
    obtain ⟨T', locs', X', hR', hF', hB', st⟩ := look_good (q := 5) hE h1 T locs cs ss pc L S H S' H' cs' ss' X hd hL hR hF hB h2
    exact (hk _ _ _ _ _ _ _ _ X' hL hR' hF' hB' h).step st
  | new i =>
    dsimp only [ex, spc] at h
    replace h := bind_ok h
    obtain ⟨act, h1, h⟩ := h
    replace h := bind_ok h
    obtain ⟨⟨S', H', cs', ss'⟩, h2, h⟩ := h
    obtain ⟨T', locs', X', hR', hF', hB', st⟩ := look_good (q := 6) hE h1 T locs cs ss pc L S H S' H' cs' ss' X hd hL hR hF hB h2
    exact (hk _ _ _ _ _ _ _ _ X' hL hR' hF' hB' h).step st
  | invokestatic i =>
    dsimp only [ex, spc] at h
    replace h := bind_ok h
    obtain ⟨act, h1, h⟩ := h
    replace h := bind_ok h
    obtain ⟨⟨S', H', cs', ss'⟩, h2, h⟩ := h
    obtain ⟨T', locs', X', hR', hF', hB', st⟩ := look_good (q := 7) hE h1 T locs cs ss pc L S H S' H' cs' ss' X hd hL hR hF hB h2
    exact (hk _ _ _ _ _ _ _ _ X' hL hR' hF' hB' h).step st
  | invokespecial i =>
    dsimp only [ex, spc] at h
    replace h := bind_ok h
    obtain ⟨act, h1, h⟩ := h
    replace h := bind_ok h
    obtain ⟨⟨S', H', cs', ss'⟩, h2, h⟩ := h
    obtain ⟨T', locs', X', hR', hF', hB', st⟩ := look_good (q := 8) hE h1 T locs cs ss pc L S H S' H' cs' ss' X hd hL hR hF hB h2
    exact (hk _ _ _ _ _ _ _ _ X' hL hR' hF' hB' h).step st
  | invokevirtual i =>
    dsimp only [ex, spc] at h
    replace h := bind_ok h
    obtain ⟨act, h1, h⟩ := h
    replace h := bind_ok h
    obtain ⟨⟨S', H', cs', ss'⟩, h2, h⟩ := h
    obtain ⟨T', locs', X', hR', hF', hB', st⟩ := look_good (q := 9) hE h1 T locs cs ss pc L S H S' H' cs' ss' X hd hL hR hF hB h2
    exact (hk _ _ _ _ _ _ _ _ X' hL hR' hF' hB' h).step st
  | checkcast i =>
    dsimp only [ex, spc] at h
    replace h := bind_ok h
    obtain ⟨act, h1, h⟩ := h
    replace h := bind_ok h
    obtain ⟨⟨S', H', cs', ss'⟩, h2, h⟩ := h
    obtain ⟨T', locs', X', hR', hF', hB', st⟩ := look_good (q := 10) hE h1 T locs cs ss pc L S H S' H' cs' ss' X hd hL hR hF hB h2
    exact (hk _ _ _ _ _ _ _ _ X' hL hR' hF' hB' h).step st
  | instanceof i =>
    dsimp only [ex, spc] at h
    replace h := bind_ok h
    obtain ⟨act, h1, h⟩ := h
    replace h := bind_ok h
    obtain ⟨⟨S', H', cs', ss'⟩, h2, h⟩ := h
    obtain ⟨T', locs', X', hR', hF', hB', st⟩ := look_good (q := 11) hE h1 T locs cs ss pc L S H S' H' cs' ss' X hd hL hR hF hB h2
    exact (hk _ _ _ _ _ _ _ _ X' hL hR' hF' hB' h).step st
  | anewarray i =>
    dsimp only [ex, spc] at h
    replace h := bind_ok h
    obtain ⟨act, h1, h⟩ := h
    replace h := bind_ok h
    obtain ⟨⟨S', H', cs', ss'⟩, h2, h⟩ := h
    obtain ⟨T', locs', X', hR', hF', hB', st⟩ := look_good (q := 12) hE h1 T locs cs ss pc L S H S' H' cs' ss' X hd hL hR hF hB h2
    exact (hk _ _ _ _ _ _ _ _ X' hL hR' hF' hB' h).step st
  | newarray ty =>
    dsimp only [ex, spc] at h
    replace h := bind_ok h
    obtain ⟨act, h1, h⟩ := h
    replace h := bind_ok h
    obtain ⟨⟨S', H', cs', ss'⟩, h2, h⟩ := h
    have g1 := look_good (q := 13) hE h1
    rw [show insOf 13 (atn ty) = .newarray ty from by cases ty <;> rfl] at g1
    obtain ⟨T', locs', X', hR', hF', hB', st⟩ := g1 T locs cs ss pc L S H S' H' cs' ss' X hd hL hR hF hB h2
    exact (hk _ _ _ _ _ _ _ _ X' hL hR' hF' hB' h).step st
  | ireturn =>
    dsimp only [ex, rI] at h
    replace h := pI_ok h
    obtain ⟨z, S1, rfl, h⟩ := h
    split at h
    · cases h
      obtain ⟨fs, hr, hrun, hended, hW, hsame⟩ := X.leave (v := some (.int z)) (fun q => by rw [hrt] at q; cases q) hlk
      exact ⟨_, retOut X hx hrt rfl (Or.inl ⟨rfl, Or.inl rfl, z, rfl⟩) hd hr, hrun, hended, hR, locs, hF, hW, hsame.mono hB.1 hB.2⟩
    · cases h
      obtain ⟨fs, hr, hrun, hended, hW, hsame⟩ := X.leave (v := some (.int (z &&& 1))) (fun q => by rw [hrt] at q; cases q) hlk
      exact ⟨_, retN X hx (t := .boolean) (z := z) hrt (by simp) hd hr, hrun, hended, hR, locs, hF, hW, hsame.mono hB.1 hB.2⟩
    · cases h
      obtain ⟨fs, hr, hrun, hended, hW, hsame⟩ := X.leave (v := some (.int z.toInt8.toInt32)) (fun q => by rw [hrt] at q; cases q) hlk
      exact ⟨_, retN X hx (t := .byte) (z := z) hrt (by simp) hd hr, hrun, hended, hR, locs, hF, hW, hsame.mono hB.1 hB.2⟩
    · cases h
      obtain ⟨fs, hr, hrun, hended, hW, hsame⟩ := X.leave (v := some (.int z.toUInt32.toUInt16.toUInt32.toInt32)) (fun q => by rw [hrt] at q; cases q) hlk
      exact ⟨_, retN X hx (t := .char) (z := z) hrt (by simp) hd hr, hrun, hended, hR, locs, hF, hW, hsame.mono hB.1 hB.2⟩
    · cases h
      obtain ⟨fs, hr, hrun, hended, hW, hsame⟩ := X.leave (v := some (.int z.toInt16.toInt32)) (fun q => by rw [hrt] at q; cases q) hlk
      exact ⟨_, retN X hx (t := .short) (z := z) hrt (by simp) hd hr, hrun, hended, hR, locs, hF, hW, hsame.mono hB.1 hB.2⟩
    · cases h
  | lreturn =>
    dsimp only [ex, rL] at h
    replace h := pL_ok h
    obtain ⟨z, S1, rfl, h⟩ := h
    split at h
    · cases h
      obtain ⟨fs, hr, hrun, hended, hW, hsame⟩ := X.leave (v := some (.long z)) (fun q => by rw [hrt] at q; cases q) hlk
      exact ⟨_, retOut X hx hrt rfl (Or.inr (Or.inl ⟨rfl, rfl, z, rfl⟩)) hd hr, hrun, hended, hR, locs, hF, hW, hsame.mono hB.1 hB.2⟩
    · cases h
  | areturn =>
    dsimp only [ex, rA] at h
    replace h := pA_ok h
    obtain ⟨z, S1, rfl, h, hq⟩ := h
    split at h
    · cases h
      obtain ⟨fs, hr, hrun, hended, hW, hsame⟩ := X.leave (v := some (cv σ z)) (fun q => by rw [hrt] at q; cases q) hlk
      exact ⟨_, retOut X hx hrt (by cases z <;> rfl) (Or.inr (Or.inr (Or.inr (Or.inr ⟨rfl, rfl, (ref_of hq).1⟩)))) hd hr, hrun, hended, hR, locs, hF, hW, hsame.mono hB.1 hB.2⟩
    · cases h
      obtain ⟨fs, hr, hrun, hended, hW, hsame⟩ := X.leave (v := some (cv σ z)) (fun q => by rw [hrt] at q; cases q) hlk
      exact ⟨_, retOut X hx hrt (by cases z <;> rfl) (Or.inr (Or.inr (Or.inr (Or.inr ⟨rfl, rfl, (ref_of hq).1⟩)))) hd hr, hrun, hended, hR, locs, hF, hW, hsame.mono hB.1 hB.2⟩
    · cases h
  | return_ =>
    dsimp only [ex, rV] at h
    split at h
    · cases h
      obtain ⟨fs, hr, hrun, hended, hW, hsame⟩ := X.leave (v := none) (fun _ => rfl) hlk
      exact ⟨_, X.returnOut hx hrt hd hr, hrun, hended, hR, locs, hF, hW, hsame.mono hB.1 hB.2⟩
    · cases h
  | _ => exact nomatch (show (none : Option ORes) = some res from h)
theorem run_sound {rt : Option FieldType} {E : List (Nat × Nat × Act)} {res : ORes} (hx : p.tables.exec = Jvm.exec) (hZ : Z.Warmed39 s.vm) (hsg : Sg σ x0 n0) (hrt : meth.sig.returnType = rt) (hlk : meth.locks = false) (hE : AllGood p l e R s m args below meth c Z σ x0 n0 K E) :
    ∀ (n : Nat) (T : State) (locs : List Loc) (cs ss pc : Nat) (L : List Slot) (S : List Value) (H : AH), Stand p l e R s m args below meth c T locs cs ss → L.length = c.maxLocals → Rep Z σ x0 n0 K T.heap H → Fr n0 locs → cs ≤ R.cells ∧ ss ≤ R.slots → orun c.code rt E x0 n (pc, L, S, H, cs, ss) = some res → Done p e R s below Z σ x0 n0 K res T (mkF m pc (cL σ L) (S.map (cv σ)))
  | 0, _, _, _, _, _, _, _, _, _, _, _, _, _, h => nomatch (show (none : Option ORes) = some res from h)
  | n + 1, T, locs, cs, ss, pc, L, S, H, X, hL, hR, hF, hB, h => by
    rw [orun_succ] at h
    replace h := bind_ok h
    obtain ⟨i, hi, h⟩ := h
    exact ex_sound hx hZ hsg hrt hlk hE (run_sound hx hZ hsg hrt hlk hE n) X (dec_spec hi) hL hR hF hB h
/-! ## 4. A method's contract off its orun -/
def oflat : List Value → List Slot
  | [] => []
  | v :: r => if v.category = 2 then .val v :: .second :: oflat r else .val v :: oflat r
def ent (as : List Value) (n : Nat) : List Slot := oflat as ++ List.replicate (n - (oflat as).length) .unset
theorem cat_cv (v : Value) : (cv σ v).category = v.category := by cases v <;> rfl
theorem oflat_ok (as : List Value) : ∀ acc : Array Slot, (as.map (cv σ)).foldl (fun acc v => if v.category = 2 then (acc.push (.val v)).push .second else acc.push (.val v)) acc = acc ++ ((oflat as).map (csl σ)).toArray := by
  induction as with
  | nil => intro acc; simp [oflat]
  | cons v r ih =>
    intro acc
    simp only [List.map_cons, List.foldl_cons, cat_cv, oflat]
    rw [ih]
    split <;> simp [csl]
theorem ent_ok (as : List Value) (n : Nat) : argsToLocals (as.map (cv σ)).toArray n = cL σ (ent as n) := by
  have h := oflat_ok (σ := σ) as #[]
  simp only [argsToLocals, List.foldl_toArray]
  rw [h]
  simp [cL, ent, csl]
/-- what a callee's function says of it -/
def Says (l : Launch) (Z : State) (σ : Nat → Nat) (x0 n0 : Nat) (K : List CD) (y : MethodName) (bytes : ByteArray) (maxL : Nat) (ret : Option FieldType) (ws : List Jvm.Cond) (rm : Room) (F : List Value → AH → Option ORes) : Prop :=
  ∀ (as : List Value) (H : AH) (r : ORes) (h : Heap), F as H = some r → Rep Z σ x0 n0 K h H →
    MetFree l y (head1 (Jvm.Cond.code y bytes maxL ret :: ws) rm) (fun a U => a = (as.map (cv σ)).toArray ∧ Z.Warmed39 U.vm ∧ U.heap = h) (fun _ _ _ _ _ => True) (fun _ U o U' => ∃ v L, o = .returned v ∧ (v = r.1.map (cv σ) ∧ Rep Z σ x0 n0 K U'.heap r.2 ∧ Fr n0 L) ∧ FrameEnd U o U' L rm.cells rm.slots)
def fn (bytes : ByteArray) (maxL : Nat) (ret : Option FieldType) (E : List (Nat × Nat × Act)) (x0 fuel : Nat) (as : List Value) (H : AH) : Option ORes :=
  if (ent as maxL).length = maxL then orun bytes ret E x0 fuel (0, ent as maxL, [], H, 0, 0) else none
theorem says_fn {l : Launch} {Z : State} {σ : Nat → Nat} {x0 n0 : Nat} {K : List CD} {y : MethodName} {bytes : ByteArray} {maxL : Nat} {ret : Option FieldType} {ws : List Jvm.Cond} {rm : Room} {E : List (Nat × Nat × Act)} {fuel : Nat} (hsg : Sg σ x0 n0) (hpl : plainFor y = true)
    (hE : ∀ (p : Program) (e : Env) (s : State) (m : MethodId) (args : Array Value) (below : List Frame) (meth : Method) (c : Code), p.tables.exec = Jvm.exec → c.code = bytes → c.maxLocals = maxL → Z.Warmed39 s.vm → s.vm.findClass y.cls = some m.cls → meth.name = y.name → AllGood p l e rm s m args below meth c Z σ x0 n0 K E) :
    Says l Z σ x0 n0 K y bytes maxL ret ws rm (fn bytes maxL ret E x0 fuel) := by
  intro as H r h hf hR
  unfold fn at hf
  split at hf
  · rename_i hlen
    refine MetFree.of_bodySF hpl hisR ?_
    intro p e s m args below meth c s₁ Bd hml0 hP hK
    obtain ⟨rfl, hZ, hh⟩ := hP
    have hx := Bd.exec
    have hby := Bd.bytes
    have hown : s.vm.findClass y.cls = some m.cls := findClass_of_methodNamed Bd.named
    have hnm := (name_of_methodNamed Bd.named Bd.method).1
    have X0 : Stand p l e rm s m (as.map (cv σ)).toArray below meth c s₁ [] 0 0 := Stand.of_body Bd
    have e0 : s₁.heap = h := by rw [← hh, Bd.state]; rfl
    have D := run_sound hx hZ hsg Bd.returns (BodyLoose.notSynchronized Bd) (hE p e s m _ below meth c hx hby hml0 hZ hown hnm) fuel s₁ [] 0 0 0 (ent as maxL) [] H X0 (hlen.trans hml0.symm) (e0 ▸ hR) (Fr.nil n0) ⟨Nat.zero_le _, Nat.zero_le _⟩ (by rw [hby]; exact hf)
    obtain ⟨t, h1, h2, h3, h4, L, h5, h6, h7⟩ := D
    refine ⟨t, _, castTop (g' := mkF m 0 (cL σ (ent as maxL)) []) ?_ h1, h2, h3, _, L, rfl, ⟨rfl, h4, h5⟩, ⟨_, rfl⟩, h6, h7⟩
    simp only [entryFrame, ent_ok]
  · cases hf
end Sound
/-! ## 5. The steps that ask the sheet's words -/
def obj (H : AH) (k : Nat) : Option (Nat × List Value) := match H[k]? with | some (.inl q) => some q | _ => none
theorem obj_some {H : AH} {k : Nat} {q : Nat × List Value} (e : obj H k = some q) : H[k]? = some (.inl q) := by
  unfold obj at e; split at e
  · rename_i q' hq; cases e; exact hq
  · cases e
def aI (v : Int32) : Act := fun S H cs ss => some (.int v :: S, H, cs, ss)
def aJ (v : Int64) : Act := fun S H cs ss => some (.long v :: S, H, cs, ss)
def aGet (c j : Nat) : Act := fun S H cs ss => match S with
  | .ref a :: r => (obj H a).bind fun q => if q.1 = c then (q.2[j]?).bind fun v => some (v :: r, H, cs, ss) else none
  | _ => none
def aPut (x0 c j : Nat) (ty : FieldType) : Act := fun S H cs ss => match S with
  | v :: .ref a :: r => (obj H a).bind fun q => if q.1 = c ∧ narrow ty v = v ∧ fits ty v = true ∧ x0 ≤ a ∧ j < q.2.length then some (r, H.set a (.inl (c, q.2.set j v)), cs, ss) else none
  | _ => none
def aNew (c n Rc Rs : Nat) (ds : List Value) : Act := fun S H cs ss => if cs + 1 ≤ Rc ∧ ss + n ≤ Rs then some (.ref H.length :: S, H ++ [.inl (c, ds)], cs + 1, ss + n) else none
def aArr (ty : FieldType) (Rc Rs : Nat) : Act := fun S H cs ss => match S with
  | .int n :: r => if ¬ n < 0 ∧ cs + 1 ≤ Rc ∧ ss + n.toNatClampNeg ≤ Rs ∧ n.toNatClampNeg ≤ 67108864 then some (.ref H.length :: r, H ++ [.inr (ty, List.replicate n.toNatClampNeg (defaultValue ty))], cs + 1, ss + n.toNatClampNeg) else none
  | _ => none
def aObj (W : Nat) : Act := fun S H cs ss => match S with
  | .ref _ :: r => if (r.map Value.category).sum ≤ W then some (r, H, cs, ss) else none
  | _ => none
def aCall (na W Rc Rs mc ms : Nat) (F : List Value → AH → Option ORes) : Act := fun S H cs ss =>
  if na ≤ S.length ∧ ((S.drop na).map Value.category).sum ≤ W ∧ cs + mc ≤ Rc ∧ ss + ms ≤ Rs then (F (S.take na).reverse H).bind fun r => some (r.1.toList ++ S.drop na, r.2, cs + mc, ss + ms) else none
def aRecv (na cl W Rc Rs mc ms : Nat) (F : List Value → AH → Option ORes) : Act := fun S H cs ss => match S.drop na with
  | .ref a :: r => (obj H a).bind fun q => if q.1 = cl ∧ na ≤ S.length ∧ (r.map Value.category).sum ≤ W ∧ cs + mc ≤ Rc ∧ ss + ms ≤ Rs then (F (.ref a :: (S.take na).reverse) H).bind fun v => some (v.1.toList ++ r, v.2, cs + mc, ss + ms) else none
  | _ => none
section Acts
variable {p : Program} {l : Launch} {e : Env} {R : Room} {s : State} {m : MethodId} {args : Array Value} {below : List Frame} {meth : Method} {c : Code} {Z : State} {σ : Nat → Nat} {x0 n0 : Nat} {K : List CD} {a0 : Array Value}
theorem okI (hx : p.tables.exec = Jvm.exec) (hZ : Z.Warmed39 s.vm) {own : String} {idx : Nat} {v : Int32} (hown : s.vm.findClass own = some m.cls) (w : (Jvm.Cond.constant own idx v).before a0 Z = true) : Good p l e R s m args below meth c Z σ x0 n0 K (.ldc idx) (aI v) := by
  intro T locs cs ss pc L S H S' H' cs' ss' X hd hL hR hF hB h
  cases h
  exact ⟨T, locs, X, hR, hF, hB, fun t q => X.ldcInt hx hown (mvT hZ w) (g := mkF m pc (cL σ L) _) rfl hd t q⟩
theorem okIW (hx : p.tables.exec = Jvm.exec) (hZ : Z.Warmed39 s.vm) {own : String} {idx : Nat} {v : Int32} (hown : s.vm.findClass own = some m.cls) (w : (Jvm.Cond.constant own idx v).before a0 Z = true) : Good p l e R s m args below meth c Z σ x0 n0 K (.ldc_w idx) (aI v) := by
  intro T locs cs ss pc L S H S' H' cs' ss' X hd hL hR hF hB h
  cases h
  exact ⟨T, locs, X, hR, hF, hB, fun t q => X.ldcwInt hx hown (mvT hZ w) (g := mkF m pc (cL σ L) _) rfl hd t q⟩
theorem okJ (hx : p.tables.exec = Jvm.exec) (hZ : Z.Warmed39 s.vm) {own : String} {idx : Nat} {v : Int64} (hown : s.vm.findClass own = some m.cls) (w : (Jvm.Cond.constantLong own idx v).before a0 Z = true) : Good p l e R s m args below meth c Z σ x0 n0 K (.ldc2_w idx) (aJ v) := by
  intro T locs cs ss pc L S H S' H' cs' ss' X hd hL hR hF hB h
  cases h
  exact ⟨T, locs, X, hR, hF, hB, fun t q => X.ldc2Long hx hown (mvT hZ w) (g := mkF m pc (cL σ L) _) rfl hd t q⟩
theorem okGet (hx : p.tables.exec = Jvm.exec) (hZ : Z.Warmed39 s.vm) {own R0 O n d host C : String} {idx cn j : Nat} {fs : List (String × String × String)} (hown : s.vm.findClass own = some m.cls) (w : (Jvm.Cond.fieldLink own idx R0 n d).before a0 Z = true ∨ (Jvm.Cond.fieldLinkNest own idx R0 n d host).before a0 Z = true) (via : Via Z R0 O n d)
    (hC : K[cn]? = some (C, fs)) (hj : fs[j]? = some (O, n, d)) : Good p l e R s m args below meth c Z σ x0 n0 K (.getfield idx) (aGet cn j) := by
  intro T locs cs ss pc L S H S' H' cs' ss' X hd hL hR hF hB h
  unfold aGet at h
  split at h
  · rename_i a r
    replace h := Option.bind_eq_some_iff.mp h
    obtain ⟨⟨cn', vs⟩, h1, h⟩ := h
    dsimp only at h
    split at h
    · rename_i hcn; subst hcn
      replace h := Option.bind_eq_some_iff.mp h
      obtain ⟨v, h2, h⟩ := h
      cases h
      obtain ⟨C', fs', q1, q2, q3⟩ := hR.2.2.2 _ _ (obj_some h1)
      cases hC.symm.trans q1
      obtain ⟨O', n', d', q4, q5⟩ := q3 j v h2
      cases hj.symm.trans q4
      obtain ⟨T', X', e', st⟩ := getF X hx hZ hown w via rfl q5 (g := mkF m pc (cL σ L) (List.map (cv σ) (.ref a :: r))) rfl rfl hd
      exact ⟨T', locs, X', e' ▸ hR, hF, hB, st⟩
    · cases h
  · cases h
theorem cv_narrow {ty : FieldType} {v : Value} (h : narrow ty v = v) : narrow ty (cv σ v) = cv σ v := by cases v <;> first | exact h | (cases ty <;> rfl)
theorem okPut (hx : p.tables.exec = Jvm.exec) (hZ : Z.Warmed39 s.vm) (hsg : Sg σ x0 n0) (KO : KOk Z a0 K) {own R0 O n d host C : String} {idx cn j : Nat} {ty : FieldType} {fs : List (String × String × String)} (hown : s.vm.findClass own = some m.cls) (w : (Jvm.Cond.fieldLink own idx R0 n d).before a0 Z = true ∨ (Jvm.Cond.fieldLinkNest own idx R0 n d host).before a0 Z = true) (via : Via Z R0 O n d)
    (hC : K[cn]? = some (C, fs)) (hj : fs[j]? = some (O, n, d)) (hty : parseFieldDescriptor d = some ty) (hLay : (Jvm.Cond.lays C O n d).before a0 Z = true ∨ ((Jvm.Cond.laysFinal C O n d).before a0 Z = true ∧ own = O ∧ meth.name = "<init>")) : Good p l e R s m args below meth c Z σ x0 n0 K (.putfield idx) (aPut x0 cn j ty) := by
  intro T locs cs ss pc L S H S' H' cs' ss' X hd hL hR hF hB h
  unfold aPut at h
  split at h
  · rename_i v a r
    replace h := Option.bind_eq_some_iff.mp h
    obtain ⟨⟨cn', vs⟩, h1, h⟩ := h
    dsimp only at h
    split at h
    · rename_i hq
      obtain ⟨rfl, hn, hf, hx0, hjl⟩ := hq
      cases h
      have hRO := hR.2.2.2 _ _ (obj_some h1)
      obtain ⟨C', fs', q1, q2, q3⟩ := hRO
      cases hC.symm.trans q1
      obtain ⟨O', n', d', q4, q5⟩ := q3 j _ (List.getElem?_eq_getElem hjl)
      cases hj.symm.trans q4
      obtain ⟨⟨kk, wi⟩, -⟩ := KO cn' C fs hC
      obtain ⟨T', h', X', e', W, st⟩ := putF X hx hZ hown w via rfl q5 q2 hLay wi hty (cv_narrow hn) ((cv_fits ty v).trans hf) (g := mkF m pc (cL σ L) (List.map (cv σ) (v :: .ref a :: S'))) rfl rfl hd
      exact ⟨T', _, X', e' ▸ hR.write hsg hx0 W (RepO.fld KO hC hj (hR.2.2.2 _ _ (obj_some h1)) W), Fr.snoc X' hF (hsg.new hx0), hB, st⟩
    · cases h
  · cases h
theorem ext_push (h : Heap) (c : Cell) : Ext h (h.push c) := ext_of fun a q => (Array.getElem?_push_lt q).trans (Array.getElem?_eq_getElem q).symm
theorem okNew (hx : p.tables.exec = Jvm.exec) (hZ : Z.Warmed39 s.vm) (hsg : Sg σ x0 n0) (KO : KOk Z a0 K) {own C : String} {idx n cn Rc Rs : Nat} {ds : List Value} {fs : List (String × String × String)} (hown : s.vm.findClass own = some m.cls) (w : (Jvm.Cond.classLink own idx C).before a0 Z = true) (wi : (Jvm.Cond.instantiable C n).before a0 Z = true) (wz : (Jvm.Cond.initialized C).before a0 Z = true)
    (hC : K[cn]? = some (C, fs)) (hds : ds = fs.map fun f => ((parseFieldDescriptor f.2.2).map defaultValue).getD .null) (hRc : Rc ≤ R.cells) (hRs : Rs ≤ R.slots) : Good p l e R s m args below meth c Z σ x0 n0 K (.new idx) (aNew cn n Rc Rs ds) := by
  intro T locs cs ss pc L S H S' H' cs' ss' X hd hL hR hF hB h
  unfold aNew at h
  split at h
  · rename_i hq
    cases h
    obtain ⟨vm', cC, kC, h1, h2, h3, h4, X', st⟩ := X.newCold hx hown (mv hZ w) (mv hZ wi) (mv hZ wz) (g := mkF m pc (cL σ L) (S.map (cv σ))) rfl hd (Nat.le_trans hq.1 hRc) (Nat.le_trans hq.2 hRs)
    have ea : σ H.length = T.heap.size := hR.addr hsg
    have h1' : Z.vm.findClass C = some cC := by rw [← hZ.alike.findClass]; exact h1
    obtain ⟨kZ, z1, -⟩ := Vm.findClass_spec h1'
    obtain ⟨k', z2, z3⟩ := hZ.alike.2.2 _ _ z1
    cases h2.symm.trans z2
    have ei : kC.instanceTypes = kZ.instanceTypes := by rw [z3]
    have hN : (T.heap.push { cls := cC, slots := kC.instanceTypes.map defaultValue, vm := .none })[T.heap.size]? = some { cls := cC, slots := kC.instanceTypes.map defaultValue, vm := .none } := by simp
    refine ⟨_, locs, X', hR.push (ext_push _ _) (by show (T.heap.push _).size = _; simp) ?_, hF, ⟨Nat.le_trans hq.1 hRc, Nat.le_trans hq.2 hRs⟩, ?_⟩
    · rw [ea]
      refine ⟨C, fs, hC, ⟨_, kZ, hN, h1', z1, rfl, fun _ => by simp [ei]⟩, fun j v hj => ?_⟩
      subst hds
      rw [List.getElem?_map, Option.map_eq_some_iff] at hj
      obtain ⟨⟨O, nm, d⟩, q1, q2⟩ := hj
      obtain ⟨-, k2, -⟩ := KO cn C fs hC
      obtain ⟨Ld, ty, ht⟩ := k2 j _ q1
      obtain ⟨c1, k1, cf, kf, i, f, a1, a2, a3, a4, a5, a6, -⟩ := Ld.spec
      cases h1'.symm.trans a1
      cases z1.symm.trans a2
      refine ⟨O, nm, d, q1, _, cf, kf, i, f, hN, a3, a4, by simp, rfl, a5, ?_⟩
      have ht' : parseFieldDescriptor d = some ty := ht
      simp only [ht', Option.map_some, Option.getD_some] at q2
      subst q2
      have hcv : cv σ (defaultValue ty) = defaultValue ty := by cases ty <;> rfl
      simp [ei, a6, (State.fieldFound?_type a3 ht).2, hcv]
    · intro t q
      refine st t ?_
      have q' := q
      simp only [List.map_cons, cv, ea] at q'
      exact q'
  · cases h
theorem okArr (hx : p.tables.exec = Jvm.exec) (hZ : Z.Warmed39 s.vm) (hsg : Sg σ x0 n0) {t : ArrayType} {Rc Rs : Nat} (w : (Jvm.Cond.arrayClass (newarray.typeOf t)).before a0 Z = true) (hRc : Rc ≤ R.cells) (hRs : Rs ≤ R.slots) : Good p l e R s m args below meth c Z σ x0 n0 K (.newarray t) (aArr (newarray.typeOf t) Rc Rs) := by
  intro T locs cs ss pc L S H S' H' cs' ss' X hd hL hR hF hB h
  unfold aArr at h
  split at h
  · rename_i n r
    split at h
    · rename_i hq
      cases h
      have hcb : componentBytes (newarray.typeOf t) ≤ 8 := by cases t <;> decide
      obtain ⟨cA, kA, comp, h1, h2, h3, X', st⟩ := X.newarrayPrim hx (mvA hZ w) (g := mkF m pc (cL σ L) (List.map (cv σ) (.int n :: r))) rfl hd rfl hq.1 (Nat.le_trans (Nat.mul_le_mul hq.2.2.2 hcb) (by decide)) (Nat.le_trans hq.2.1 hRc) (Nat.le_trans hq.2.2.1 hRs)
      have ea : σ H.length = T.heap.size := hR.addr hsg
      have h1' : Z.vm.findClass ("[" ++ (newarray.typeOf t).toString) = some cA := by rw [← hZ.alike.findClass]; exact h1
      obtain ⟨kZ, z1, -⟩ := Vm.findClass_spec h1'
      obtain ⟨k', z2, z3⟩ := hZ.alike.2.2 _ _ z1
      cases h2.symm.trans z2
      have kk : kZ.kind = .array comp (newarray.typeOf t) := by rw [← h3, z3]
      have hcv : cv σ (defaultValue (newarray.typeOf t)) = defaultValue (newarray.typeOf t) := by cases t <;> rfl
      refine ⟨_, locs, X', hR.push (ext_push _ _) (by show (T.heap.push _).size = _; simp) ?_, hF, ⟨Nat.le_trans hq.2.1 hRc, Nat.le_trans hq.2.2.1 hRs⟩, ?_⟩
      · rw [ea]
        refine ⟨newA cA (newarray.typeOf t) n, ⟨by show (T.heap.push _)[T.heap.size]? = _; simp [newA], ⟨by simp [newA], kZ, z1, comp, kk⟩, by simp [newA]⟩, by simp [newA, hcv], ?_, fun v hv => ?_, fun _ => ⟨newA cA (newarray.typeOf t) n, kZ, by show (T.heap.push _)[T.heap.size]? = _; simp [newA], h1', z1, rfl, fun q => by rw [kk] at q; cases q⟩⟩
        · rw [List.length_replicate]; have := hq.2.2.2; omega
        · rw [(List.mem_replicate.mp hv).2]; cases t <;> rfl
      · intro t q
        refine st t ?_
        have q' := q
        simp only [List.map_cons, cv, ea] at q'
        exact q'
    · cases h
  · cases h
theorem cat_sum (r : List Value) : ((r.map (cv σ)).map fun v => v.category).sum = (r.map Value.category).sum := by
  rw [List.map_map]; congr 1; exact List.map_congr_left fun v _ => cat_cv v
theorem okObj (hx : p.tables.exec = Jvm.exec) (hZ : Z.Warmed39 s.vm) {own : String} {idx W : Nat} (hown : s.vm.findClass own = some m.cls) (w1 : (Jvm.Cond.methodLink own idx Lib.objectInit).before a0 Z = true) (w2 : (Jvm.Cond.instanceMethod Lib.objectInit).before a0 Z = true)
    (w3 : (Jvm.Cond.code Lib.objectInit ⟨#[0xb1]⟩ 1 none).before a0 Z = true) (hf : 1 ≤ R.frames) (hl : W + 12 ≤ R.locals) : Good p l e R s m args below meth c Z σ x0 n0 K (.invokespecial idx) (aObj W) := by
  intro T locs cs ss pc L S H S' H' cs' ss' X hd hL hR hF hB h
  unfold aObj at h
  split at h
  · rename_i a r
    split at h
    · rename_i hq
      cases h
      obtain ⟨T', X', e', st⟩ := initO X hx hZ hown w1 w2 w3 rfl (g := mkF m pc (cL σ L) (List.map (cv σ) (.ref a :: S'))) rfl (size_cL.trans hL) rfl hd hf (W := W) (by show 2 * 0 + _ ≤ _; rw [cat_sum]; omega) hl
      exact ⟨T', locs, X', e' ▸ hR, hF, hB, st⟩
    · cases h
  · cases h
theorem args_rev (S : List Value) (na : Nat) : S.map (cv σ) = (((S.take na).reverse).map (cv σ)).reverse ++ (S.drop na).map (cv σ) := by
  rw [List.map_reverse, List.reverse_reverse, ← List.map_append, List.take_append_drop]
theorem toList_map (v : Option Value) (r : List Value) : (v.map (cv σ)).toList ++ r.map (cv σ) = (v.toList ++ r).map (cv σ) := by cases v <;> simp
theorem okStat (hx : p.tables.exec = Jvm.exec) (hZ : Z.Warmed39 s.vm) {own : String} {idx na W Rc Rs maxL : Nat} {y : MethodName} {bytes : ByteArray} {ret rr : Option FieldType} {ps : List FieldType} {rm : Room} {F : List Value → AH → Option ORes} (hF0 : Says l Z σ x0 n0 K y bytes maxL ret [] rm F)
    (hown : s.vm.findClass own = some m.cls) (w1 : (Jvm.Cond.methodLink own idx y).before a0 Z = true) (w2 : (Jvm.Cond.static y).before a0 Z = true) (w3 : (Jvm.Cond.initialized y.cls).before a0 Z = true) (w4 : (Jvm.Cond.code y bytes maxL ret).before a0 Z = true)
    (hy : y.cls ≠ "java/lang/invoke/MethodHandle" ∧ y.cls ≠ "java/lang/invoke/VarHandle") (hd0 : parseMethodDescriptor y.desc = some ⟨ps, rr⟩) (hna : ps.length = na) (hRc : Rc ≤ R.cells) (hRs : Rs ≤ R.slots) (hfr : rm.frames + 1 ≤ R.frames) (hlo : W + (maxL + 11) + rm.locals ≤ R.locals) :
    Good p l e R s m args below meth c Z σ x0 n0 K (.invokestatic idx) (aCall na W Rc Rs rm.cells rm.slots F) := by
  intro T locs cs ss pc L S H S' H' cs' ss' X hd hL hR hF hB h
  unfold aCall at h
  split at h
  · rename_i hq
    replace h := Option.bind_eq_some_iff.mp h
    obtain ⟨⟨v, H1⟩, h1, h⟩ := h
    cases h
    obtain ⟨v', vm1, ⟨T', L', k', n'⟩, -, X', ⟨Lc, ⟨hv, hR', hN⟩, l1, y1, z1⟩, st⟩ := Jvm.LawKit.callS X hx (y := y) hown (mvT hZ w1) (mvT hZ w2) (mvT hZ w3) (mvT hZ w4) hy (backOf (h := T.heap) (W := W) (Q := fun w h' L => w = v.map (cv σ) ∧ Rep Z σ x0 n0 K h' H1 ∧ Fr n0 L) (hF0 _ H _ T.heap h1 hR) hZ w4 w3 hfr hlo) (g := mkF m pc (cL σ L) (S.map (cv σ))) rfl (size_cL.trans hL) (argsL := ((S.take na).reverse).map (cv σ)) (rest := (S.drop na).map (cv σ)) (lenOf hd0 (by rw [hna]; simp; omega)) (args_rev S na) (by show 2 * 0 + _ ≤ _; rw [cat_sum]; omega) hd (fun _ _ => ⟨rfl, rfl, Nat.le_trans hq.2.2.1 hRc, Nat.le_trans hq.2.2.2 hRs⟩)
    dsimp only [Pt.U, Pt.locs, Pt.cells, Pt.slots] at X' l1 y1 z1 st hR'
    subst l1 y1 z1 hv
    refine ⟨T', _, X', hR', hF.app hN, ⟨Nat.le_trans hq.2.2.1 hRc, Nat.le_trans hq.2.2.2 hRs⟩, fun t q => st t ?_⟩
    show Steps p.tables e below (T'.setTop (mkF m (pc + 3) (cL σ L) ((v.map (cv σ)).toList ++ (S.drop na).map (cv σ)))) t
    rw [toList_map]; exact q
  · cases h
theorem okCtor (hx : p.tables.exec = Jvm.exec) (hZ : Z.Warmed39 s.vm) {own : String} {idx na cl W Rc Rs maxL : Nat} {y : MethodName} {bytes : ByteArray} {rr : Option FieldType} {ps : List FieldType} {rm : Room} {F : List Value → AH → Option ORes} (hF0 : Says l Z σ x0 n0 K y bytes maxL none [] rm F) (hy1 : y.name = "<init>")
    (hown : s.vm.findClass own = some m.cls) (w1 : (Jvm.Cond.methodLink own idx y).before a0 Z = true) (w2 : (Jvm.Cond.instanceMethod y).before a0 Z = true) (w3 : (Jvm.Cond.initialized y.cls).before a0 Z = true) (w4 : (Jvm.Cond.code y bytes maxL none).before a0 Z = true)
    (hy : y.cls ≠ "java/lang/invoke/MethodHandle" ∧ y.cls ≠ "java/lang/invoke/VarHandle") (hd0 : parseMethodDescriptor y.desc = some ⟨ps, rr⟩) (hna : ps.length = na) (hRc : Rc ≤ R.cells) (hRs : Rs ≤ R.slots) (hfr : rm.frames + 1 ≤ R.frames) (hlo : W + (maxL + 11) + rm.locals ≤ R.locals) :
    Good p l e R s m args below meth c Z σ x0 n0 K (.invokespecial idx) (aRecv na cl W Rc Rs rm.cells rm.slots F) := by
  intro T locs cs ss pc L S H S' H' cs' ss' X hd hL hR hF hB h
  unfold aRecv at h
  split at h
  · rename_i a r hdr
    replace h := Option.bind_eq_some_iff.mp h
    obtain ⟨q0, h0, h⟩ := h
    split at h
    · rename_i hq
      replace h := Option.bind_eq_some_iff.mp h
      obtain ⟨⟨v, H1⟩, h1, h⟩ := h
      cases h
      have hst : S.map (cv σ) = (((S.take na).reverse).map (cv σ)).reverse ++ .ref (σ a) :: r.map (cv σ) := by rw [args_rev S na, hdr]; rfl
      obtain ⟨v', vm1, ⟨T', L', k', n'⟩, -, X', ⟨Lc, ⟨hv, hR', hN⟩, l1, y1, z1⟩, st⟩ := X.specialBack hx (y := y) hy1 hown (mvT hZ w1) (mvT hZ w2) (mvT hZ w4) hy (backOf (h := T.heap) (W := W) (Q := fun w h' L => w = v.map (cv σ) ∧ Rep Z σ x0 n0 K h' H1 ∧ Fr n0 L) (hF0 _ H _ T.heap h1 hR) hZ w4 w3 hfr hlo) (g := mkF m pc (cL σ L) (S.map (cv σ))) rfl (size_cL.trans hL) (Steps.refl _) (a := σ a) (argsL := ((S.take na).reverse).map (cv σ)) (rest := r.map (cv σ)) (lenOf hd0 (by rw [hna]; simp; omega)) hst (by show 2 * 0 + _ ≤ _; rw [cat_sum]; omega) hd (fun _ _ => ⟨rfl, rfl, Nat.le_trans hq.2.2.2.1 hRc, Nat.le_trans hq.2.2.2.2 hRs⟩)
      dsimp only [Pt.U, Pt.locs, Pt.cells, Pt.slots] at X' l1 y1 z1 st hR'
      subst l1 y1 z1 hv
      refine ⟨T', _, X', hR', hF.app hN, ⟨Nat.le_trans hq.2.2.2.1 hRc, Nat.le_trans hq.2.2.2.2 hRs⟩, fun t q => st.trans ?_⟩
      show Steps p.tables e below (T'.setTop (mkF m (pc + 3) (cL σ L) ((v.map (cv σ)).toList ++ r.map (cv σ)))) t
      rw [toList_map]; exact q
    · cases h
  · cases h
theorem okVirt (hx : p.tables.exec = Jvm.exec) (hZ : Z.Warmed39 s.vm) {own C : String} {idx na cl W Rc Rs maxL : Nat} {y z : MethodName} {bytes : ByteArray} {ret rr : Option FieldType} {ps : List FieldType} {rm : Room} {fs : List (String × String × String)} {F : List Value → AH → Option ORes} (hF0 : Says l Z σ x0 n0 K z bytes maxL ret [] rm F) (hC : K[cl]? = some (C, fs))
    (hown : s.vm.findClass own = some m.cls) (w1 : (Jvm.Cond.methodLink own idx y).before a0 Z = true) (w2 : (Jvm.Cond.declares y).before a0 Z = true) (w5 : (Jvm.Cond.selects C y z).before a0 Z = true) (w6 : (Jvm.Cond.instanceMethod z).before a0 Z = true) (w3 : (Jvm.Cond.initialized z.cls).before a0 Z = true) (w4 : (Jvm.Cond.code z bytes maxL ret).before a0 Z = true)
    (nf : ∀ (s' : State) (ar : Array Value), (Jvm.Cond.selects C y z).before ar s' = true → NotFace s' y) (hy : y.cls ≠ "java/lang/invoke/MethodHandle" ∧ y.cls ≠ "java/lang/invoke/VarHandle") (hd0 : parseMethodDescriptor y.desc = some ⟨ps, rr⟩) (hna : ps.length = na) (hRc : Rc ≤ R.cells) (hRs : Rs ≤ R.slots) (hfr : rm.frames + 1 ≤ R.frames) (hlo : W + (maxL + 11) + rm.locals ≤ R.locals) :
    Good p l e R s m args below meth c Z σ x0 n0 K (.invokevirtual idx) (aRecv na cl W Rc Rs rm.cells rm.slots F) := by
  intro T locs cs ss pc L S H S' H' cs' ss' X hd hL hR hF hB h
  unfold aRecv at h
  split at h
  · rename_i a r hdr
    replace h := Option.bind_eq_some_iff.mp h
    obtain ⟨⟨cn, vs⟩, h0, h⟩ := h
    dsimp only at h
    split at h
    · rename_i hq
      replace h := Option.bind_eq_some_iff.mp h
      obtain ⟨⟨v, H1⟩, h1, h⟩ := h
      cases h
      obtain ⟨rfl, hq⟩ := hq
      obtain ⟨C', fs', q1, q2, -⟩ := hR.2.2.2 _ _ (obj_some h0)
      cases hC.symm.trans q1
      obtain ⟨cB, kB, i1, i2, i3⟩ := isOf (T := T) hZ rfl q2
      have hst : S.map (cv σ) = (((S.take na).reverse).map (cv σ)).reverse ++ .ref (σ a) :: r.map (cv σ) := by rw [args_rev S na, hdr]; rfl
      obtain ⟨v', vm1, ⟨T', L', k', n'⟩, -, X', ⟨Lc, ⟨hv, hR', hN⟩, l1, y1, z1⟩, st⟩ := X.virtualBack hx (y := y) (z := z) hown (mvT hZ w1) (mvT hZ w2) (nf s #[] (mvT hZ w5)) (mvT hZ w5) (mvT hZ w6) hy (backOf (h := T.heap) (W := W) (Q := fun w h' L => w = v.map (cv σ) ∧ Rep Z σ x0 n0 K h' H1 ∧ Fr n0 L) (hF0 _ H _ T.heap h1 hR) hZ w4 w3 hfr hlo) i1 i3 (g := mkF m pc (cL σ L) (S.map (cv σ))) rfl (size_cL.trans hL) (Steps.refl _) (argsL := ((S.take na).reverse).map (cv σ)) (rest := r.map (cv σ)) (lenOf hd0 (by rw [hna]; simp; omega)) hst (by show 2 * 0 + _ ≤ _; rw [cat_sum]; omega) hd (fun _ _ => ⟨rfl, rfl, Nat.le_trans hq.2.2.1 hRc, Nat.le_trans hq.2.2.2 hRs⟩)
      dsimp only [Pt.U, Pt.locs, Pt.cells, Pt.slots] at X' l1 y1 z1 st hR'
      subst l1 y1 z1 hv
      refine ⟨T', _, X', hR', hF.app hN, ⟨Nat.le_trans hq.2.2.1 hRc, Nat.le_trans hq.2.2.2 hRs⟩, fun t q => st.trans ?_⟩
      show Steps p.tables e below (T'.setTop (mkF m (pc + 3) (cL σ L) ((v.map (cv σ)).toList ++ r.map (cv σ)))) t
      rw [toList_map]; exact q
    · cases h
  · cases h
theorem ag_nil : AllGood p l e R s m args below meth c Z σ x0 n0 K [] := trivial
theorem ag_cons {q i : Nat} {act : Act} {E : List (Nat × Nat × Act)} (h : Good p l e R s m args below meth c Z σ x0 n0 K (insOf q i) act) (t : AllGood p l e R s m args below meth c Z σ x0 n0 K E) : AllGood p l e R s m args below meth c Z σ x0 n0 K ((q, i, act) :: E) := ⟨h, t⟩
end Acts
theorem names_inj {fs : List (String × String × String)} (h : (fs.map fun f => f.2.1).Nodup) : ∀ (i j : Nat) (f g : String × String × String), fs[i]? = some f → fs[j]? = some g → f.2.1 = g.2.1 → i = j := by
  intro i j f g hf hg e
  refine (List.getElem?_inj (l := fs.map fun f => f.2.1) (by simpa using (List.getElem?_eq_some_iff.mp hf).1) h).mp ?_
  simp [hf, hg, e]
theorem sg_start {n : Nat} : Sg (fun k => n + k) 0 n := ⟨fun k _ => rfl, fun i h => absurd h (Nat.not_lt_zero _), fun i j h => absurd h (Nat.not_lt_zero _)⟩
theorem rep_start {s : State} {σ : Nat → Nat} {K : List CD} : Rep s σ 0 s.heap.size K s.heap [] := ⟨rfl, Nat.le_refl _, Old.start s, fun k o h => by cases h⟩
end Jvm.Own
namespace Jvm.Own
open Sem ClassFile Op Lib Jvm.RoadKit
/-! ## 6. Rows for evaluating a orun -/
section Ev
variable {x y : Int32} {pc : Nat} {o : Int} {f : Nat → Option ORes} {P : Prop} [Decidable P]
theorem h_eq : if_icmp.holds .eq x y = decide (x = y) := by by_cases h : x = y <;> simp [if_icmp.holds, h]
theorem h_ne : if_icmp.holds .ne x y = !decide (x = y) := by by_cases h : x = y <;> simp [if_icmp.holds, h]
theorem h_lt : if_icmp.holds .lt x y = decide (x < y) := rfl
theorem h_ge : if_icmp.holds .ge x y = !decide (x < y) := by
  by_cases h : x < y
  · simp [if_icmp.holds, h, Int32.not_le.mpr h]
  · simp [if_icmp.holds, h, Int32.not_lt.mp h]
theorem h_gt : if_icmp.holds .gt x y = decide (y < x) := rfl
theorem h_le : if_icmp.holds .le x y = !decide (y < x) := by
  by_cases h : y < x
  · simp [if_icmp.holds, h, Int32.not_le.mpr h]
  · simp [if_icmp.holds, h, Int32.not_lt.mp h]
theorem z_eq : ifCond.holds .eq x = decide (x = 0) := h_eq (y := 0)
theorem z_ne : ifCond.holds .ne x = !decide (x = 0) := h_ne (y := 0)
theorem z_lt : ifCond.holds .lt x = decide (x < 0) := rfl
theorem z_ge : ifCond.holds .ge x = !decide (x < 0) := h_ge (y := 0)
theorem z_gt : ifCond.holds .gt x = decide (0 < x) := rfl
theorem z_le : ifCond.holds .le x = !decide (0 < x) := h_le (y := 0)
theorem br_d : br (decide P) pc o f = if 0 ≤ (pc : Int) + o then (if P then f ((pc : Int) + o).toNat else f (pc + 3)) else none := by unfold br; by_cases h : P <;> simp [h]
theorem br_n : br (!decide P) pc o f = if 0 ≤ (pc : Int) + o then (if P then f (pc + 3) else f ((pc : Int) + o).toNat) else none := by unfold br; by_cases h : P <;> simp [h]
theorem br_t : br true pc o f = if 0 ≤ (pc : Int) + o then f ((pc : Int) + o).toNat else none := rfl
theorem br_f : br false pc o f = if 0 ≤ (pc : Int) + o then f (pc + 3) else none := rfl
theorem b_1 : ((if P then (1 : Int32) else 0) = 1) = P := by by_cases h : P <;> simp [h]
theorem b_0 : ((if P then (1 : Int32) else 0) = 0) = ¬ P := by by_cases h : P <;> simp [h]
theorem b_1r : ((1 : Int32) = (if P then (1 : Int32) else 0)) = P := by by_cases h : P <;> simp [h]
theorem b_0r : ((0 : Int32) = (if P then (1 : Int32) else 0)) = ¬ P := by by_cases h : P <;> simp [h]
theorem b_bb {Q : Prop} [Decidable Q] : ((if P then (1 : Int32) else 0) = (if Q then (1 : Int32) else 0)) = (P ↔ Q) := by by_cases h : P <;> by_cases h' : Q <;> simp [h, h']
theorem b_and : (if P then (1 : Int32) else 0) &&& 1 = if P then 1 else 0 := by by_cases h : P <;> simp [h]
theorem i_10 : ((1 : Int32) = 0) = False := by simp
theorem i_01 : ((0 : Int32) = 1) = False := by simp
theorem nr_i {x : Int32} : narrow .int (.int x) = .int x := rfl
theorem nr_j {x : Int64} : narrow .long (.long x) = .long x := rfl
theorem nr_a {t : FieldType} {v : Value} : narrow (.array t) v = v := by cases v <;> rfl
theorem nr_o {t : String} {v : Value} : narrow (.object t) v = v := by cases v <;> rfl
theorem nr_b : narrow .boolean (.int (if P then (1 : Int32) else 0)) = .int (if P then (1 : Int32) else 0) := by by_cases h : P <;> simp [h] <;> rfl
theorem nr_b1 : narrow .boolean (.int 1) = .int 1 := rfl
theorem nr_b0 : narrow .boolean (.int 0) = .int 0 := rfl
theorem ft_i {x : Int32} : fits .int (.int x) = true := rfl
theorem ft_j {x : Int64} : fits .long (.long x) = true := rfl
theorem ft_a {t : FieldType} {a : Nat} : fits (.array t) (.ref a) = true := rfl
theorem ft_o {t : String} {a : Nat} : fits (.object t) (.ref a) = true := rfl
theorem ft_b : fits .boolean (.int (if P then (1 : Int32) else 0)) = true := by by_cases h : P <;> simp [h] <;> rfl
theorem ft_b1 : fits .boolean (.int 1) = true := rfl
theorem ft_b0 : fits .boolean (.int 0) = true := rfl
theorem rV_nil {H : AH} : rV none [] H = some (none, H) := rfl
theorem cat_int {x : Int32} : Value.category (.int x) = 1 := rfl
theorem cat_long {x : Int64} : Value.category (.long x) = 2 := rfl
theorem cat_ref {a : Nat} : Value.category (.ref a) = 1 := rfl
theorem cat_null : Value.category .null = 1 := rfl
theorem and11 : (1 : Int32) &&& 1 = 1 := rfl
theorem and01 : (0 : Int32) &&& 1 = 0 := rfl
theorem pI_int {x : Int32} {r : List Value} {f : Int32 → List Value → Option ORes} : pI (.int x :: r) f = f x r := rfl
theorem pL_long {x : Int64} {r : List Value} {f : Int64 → List Value → Option ORes} : pL (.long x :: r) f = f x r := rfl
theorem pA_ref {a : Nat} {r : List Value} {f : Value → List Value → Option ORes} : pA (.ref a :: r) f = f (.ref a) r := rfl
theorem pA_null {r : List Value} {f : Value → List Value → Option ORes} : pA (.null :: r) f = f .null r := rfl
theorem pR_ref {a : Nat} {r : List Value} {f : Nat → List Value → Option ORes} : pR (.ref a :: r) f = f a r := rfl
theorem p1_int {x : Int32} {r : List Value} {f : Value → List Value → Option ORes} : p1 (.int x :: r) f = f (.int x) r := rfl
theorem p1_ref {a : Nat} {r : List Value} {f : Value → List Value → Option ORes} : p1 (.ref a :: r) f = f (.ref a) r := rfl
theorem p1_null {r : List Value} {f : Value → List Value → Option ORes} : p1 (.null :: r) f = f .null r := rfl
variable {code : ByteArray} {rt : Option FieldType} {E : List (Nat × Nat × Act)} {x0 n q cs ss : Nat} {L : List Slot} {S : List Value} {H : AH}
theorem s_icmp {cd : ClassFile.Cond} {Q : Int32 → Int32 → Prop} [∀ x y, Decidable (Q x y)] (hP : ∀ x y, if_icmp.holds cd x y = decide (Q x y)) (h : dec code pc = some (.if_icmp cd o)) (ho : 0 ≤ (pc : Int) + o) (hq : ((pc : Int) + o).toNat = q) :
    orun code rt E x0 (n + 1) (pc, L, S, H, cs, ss) = pI S fun y S => pI S fun x r => if Q x y then orun code rt E x0 n (q, L, r, H, cs, ss) else orun code rt E x0 n (pc + 3, L, r, H, cs, ss) := by
  subst hq; rw [orun_succ, h]
  refine congrArg (pI S) (funext fun y => funext fun S' => congrArg (pI S') (funext fun x => funext fun r => ?_))
  rw [hP, br_d, if_pos ho]
theorem s_icmpN {cd : ClassFile.Cond} {Q : Int32 → Int32 → Prop} [∀ x y, Decidable (Q x y)] (hP : ∀ x y, if_icmp.holds cd x y = !decide (Q x y)) (h : dec code pc = some (.if_icmp cd o)) (ho : 0 ≤ (pc : Int) + o) (hq : ((pc : Int) + o).toNat = q) :
    orun code rt E x0 (n + 1) (pc, L, S, H, cs, ss) = pI S fun y S => pI S fun x r => if Q x y then orun code rt E x0 n (pc + 3, L, r, H, cs, ss) else orun code rt E x0 n (q, L, r, H, cs, ss) := by
  subst hq; rw [orun_succ, h]
  refine congrArg (pI S) (funext fun y => funext fun S' => congrArg (pI S') (funext fun x => funext fun r => ?_))
  rw [hP, br_n, if_pos ho]
theorem s_if {cd : ClassFile.Cond} {Q : Int32 → Prop} [∀ x, Decidable (Q x)] (hP : ∀ x, ifCond.holds cd x = decide (Q x)) (h : dec code pc = some (.ifCond cd o)) (ho : 0 ≤ (pc : Int) + o) (hq : ((pc : Int) + o).toNat = q) :
    orun code rt E x0 (n + 1) (pc, L, S, H, cs, ss) = pI S fun x r => if Q x then orun code rt E x0 n (q, L, r, H, cs, ss) else orun code rt E x0 n (pc + 3, L, r, H, cs, ss) := by
  subst hq; rw [orun_succ, h]
  refine congrArg (pI S) (funext fun x => funext fun r => ?_)
  rw [hP, br_d, if_pos ho]
theorem s_ifN {cd : ClassFile.Cond} {Q : Int32 → Prop} [∀ x, Decidable (Q x)] (hP : ∀ x, ifCond.holds cd x = !decide (Q x)) (h : dec code pc = some (.ifCond cd o)) (ho : 0 ≤ (pc : Int) + o) (hq : ((pc : Int) + o).toNat = q) :
    orun code rt E x0 (n + 1) (pc, L, S, H, cs, ss) = pI S fun x r => if Q x then orun code rt E x0 n (pc + 3, L, r, H, cs, ss) else orun code rt E x0 n (q, L, r, H, cs, ss) := by
  subst hq; rw [orun_succ, h]
  refine congrArg (pI S) (funext fun x => funext fun r => ?_)
  rw [hP, br_n, if_pos ho]
theorem s_goto (h : dec code pc = some (.goto o)) (ho : 0 ≤ (pc : Int) + o) (hq : ((pc : Int) + o).toNat = q) : orun code rt E x0 (n + 1) (pc, L, S, H, cs, ss) = orun code rt E x0 n (q, L, S, H, cs, ss) := by
  subst hq; rw [orun_succ, h]; exact if_pos ho
theorem s_any {i : Instr} (h : dec code pc = some i) : orun code rt E x0 (n + 1) (pc, L, S, H, cs, ss) = ex rt E x0 (orun code rt E x0 n) i pc L S H cs ss := by rw [orun_succ, h]; rfl
end Ev
theorem ex_ishl {rt : Option FieldType} {E : List (Nat × Nat × Act)} {x0 pc cs ss : Nat} {k : St → Option ORes} {L : List Slot} {S : List Value} {H : AH}  : ex rt E x0 k (.ishl) pc L S H cs ss = pI S fun y S => pI S fun x r => k (pc + 1, L, .int (x <<< (y &&& 31)) :: r, H, cs, ss) := rfl
theorem ex_ishr {rt : Option FieldType} {E : List (Nat × Nat × Act)} {x0 pc cs ss : Nat} {k : St → Option ORes} {L : List Slot} {S : List Value} {H : AH}  : ex rt E x0 k (.ishr) pc L S H cs ss = pI S fun y S => pI S fun x r => k (pc + 1, L, .int (x >>> (y &&& 31)) :: r, H, cs, ss) := rfl
theorem ex_iushr {rt : Option FieldType} {E : List (Nat × Nat × Act)} {x0 pc cs ss : Nat} {k : St → Option ORes} {L : List Slot} {S : List Value} {H : AH}  : ex rt E x0 k (.iushr) pc L S H cs ss = pI S fun y S => pI S fun x r => k (pc + 1, L, .int ((x.toUInt32 >>> (y &&& 31).toUInt32).toInt32) :: r, H, cs, ss) := rfl
theorem ex_idiv {rt : Option FieldType} {E : List (Nat × Nat × Act)} {x0 pc cs ss : Nat} {k : St → Option ORes} {L : List Slot} {S : List Value} {H : AH}  : ex rt E x0 k (.idiv) pc L S H cs ss = pI S fun y S => pI S fun x r => if y = 0 then none else k (pc + 1, L, .int (x / y) :: r, H, cs, ss) := rfl
theorem ex_irem {rt : Option FieldType} {E : List (Nat × Nat × Act)} {x0 pc cs ss : Nat} {k : St → Option ORes} {L : List Slot} {S : List Value} {H : AH}  : ex rt E x0 k (.irem) pc L S H cs ss = pI S fun y S => pI S fun x r => if y = 0 then none else k (pc + 1, L, .int (x % y) :: r, H, cs, ss) := rfl
theorem ex_ineg {rt : Option FieldType} {E : List (Nat × Nat × Act)} {x0 pc cs ss : Nat} {k : St → Option ORes} {L : List Slot} {S : List Value} {H : AH}  : ex rt E x0 k (.ineg) pc L S H cs ss = pI S fun x r => k (pc + 1, L, .int (-x) :: r, H, cs, ss) := rfl
theorem ex_i2b {rt : Option FieldType} {E : List (Nat × Nat × Act)} {x0 pc cs ss : Nat} {k : St → Option ORes} {L : List Slot} {S : List Value} {H : AH}  : ex rt E x0 k (.i2b) pc L S H cs ss = pI S fun x r => k (pc + 1, L, .int x.toInt8.toInt32 :: r, H, cs, ss) := rfl
theorem ex_i2c {rt : Option FieldType} {E : List (Nat × Nat × Act)} {x0 pc cs ss : Nat} {k : St → Option ORes} {L : List Slot} {S : List Value} {H : AH}  : ex rt E x0 k (.i2c) pc L S H cs ss = pI S fun x r => k (pc + 1, L, .int x.toUInt32.toUInt16.toUInt32.toInt32 :: r, H, cs, ss) := rfl
theorem ex_i2s {rt : Option FieldType} {E : List (Nat × Nat × Act)} {x0 pc cs ss : Nat} {k : St → Option ORes} {L : List Slot} {S : List Value} {H : AH}  : ex rt E x0 k (.i2s) pc L S H cs ss = pI S fun x r => k (pc + 1, L, .int x.toInt16.toInt32 :: r, H, cs, ss) := rfl
theorem ex_i2l {rt : Option FieldType} {E : List (Nat × Nat × Act)} {x0 pc cs ss : Nat} {k : St → Option ORes} {L : List Slot} {S : List Value} {H : AH}  : ex rt E x0 k (.i2l) pc L S H cs ss = pI S fun x r => k (pc + 1, L, .long x.toInt64 :: r, H, cs, ss) := rfl
theorem ex_l2i {rt : Option FieldType} {E : List (Nat × Nat × Act)} {x0 pc cs ss : Nat} {k : St → Option ORes} {L : List Slot} {S : List Value} {H : AH}  : ex rt E x0 k (.l2i) pc L S H cs ss = pL S fun x r => k (pc + 1, L, .int x.toInt32 :: r, H, cs, ss) := rfl
theorem ex_lneg {rt : Option FieldType} {E : List (Nat × Nat × Act)} {x0 pc cs ss : Nat} {k : St → Option ORes} {L : List Slot} {S : List Value} {H : AH}  : ex rt E x0 k (.lneg) pc L S H cs ss = pL S fun x r => k (pc + 1, L, .long (-x) :: r, H, cs, ss) := rfl
theorem ex_lshl {rt : Option FieldType} {E : List (Nat × Nat × Act)} {x0 pc cs ss : Nat} {k : St → Option ORes} {L : List Slot} {S : List Value} {H : AH}  : ex rt E x0 k (.lshl) pc L S H cs ss = pI S fun y S => pL S fun x r => k (pc + 1, L, .long (x <<< (y &&& 0x3f).toInt64) :: r, H, cs, ss) := rfl
theorem ex_lshr {rt : Option FieldType} {E : List (Nat × Nat × Act)} {x0 pc cs ss : Nat} {k : St → Option ORes} {L : List Slot} {S : List Value} {H : AH}  : ex rt E x0 k (.lshr) pc L S H cs ss = pI S fun y S => pL S fun x r => k (pc + 1, L, .long (x >>> (y &&& 0x3f).toInt64) :: r, H, cs, ss) := rfl
theorem ex_lushr {rt : Option FieldType} {E : List (Nat × Nat × Act)} {x0 pc cs ss : Nat} {k : St → Option ORes} {L : List Slot} {S : List Value} {H : AH}  : ex rt E x0 k (.lushr) pc L S H cs ss = pI S fun y S => pL S fun x r => k (pc + 1, L, .long ((x.toUInt64 >>> (y &&& 0x3f).toInt64.toUInt64).toInt64) :: r, H, cs, ss) := rfl
theorem ex_ldiv {rt : Option FieldType} {E : List (Nat × Nat × Act)} {x0 pc cs ss : Nat} {k : St → Option ORes} {L : List Slot} {S : List Value} {H : AH}  : ex rt E x0 k (.ldiv) pc L S H cs ss = pL S fun y S => pL S fun x r => if y = 0 then none else k (pc + 1, L, .long (x / y) :: r, H, cs, ss) := rfl
theorem ex_lrem {rt : Option FieldType} {E : List (Nat × Nat × Act)} {x0 pc cs ss : Nat} {k : St → Option ORes} {L : List Slot} {S : List Value} {H : AH}  : ex rt E x0 k (.lrem) pc L S H cs ss = pL S fun y S => pL S fun x r => if y = 0 then none else k (pc + 1, L, .long (x % y) :: r, H, cs, ss) := rfl
theorem ex_lcmp {rt : Option FieldType} {E : List (Nat × Nat × Act)} {x0 pc cs ss : Nat} {k : St → Option ORes} {L : List Slot} {S : List Value} {H : AH}  : ex rt E x0 k (.lcmp) pc L S H cs ss = pL S fun y S => pL S fun x r => k (pc + 1, L, .int (lcmpW x y) :: r, H, cs, ss) := rfl
theorem ex_dup {rt : Option FieldType} {E : List (Nat × Nat × Act)} {x0 pc cs ss : Nat} {k : St → Option ORes} {L : List Slot} {S : List Value} {H : AH}  : ex rt E x0 k (.dup) pc L S H cs ss = p1 S fun v r => k (pc + 1, L, v :: v :: r, H, cs, ss) := rfl
theorem ex_pop {rt : Option FieldType} {E : List (Nat × Nat × Act)} {x0 pc cs ss : Nat} {k : St → Option ORes} {L : List Slot} {S : List Value} {H : AH}  : ex rt E x0 k (.pop) pc L S H cs ss = p1 S fun _ r => k (pc + 1, L, r, H, cs, ss) := rfl
theorem ex_dup_x1 {rt : Option FieldType} {E : List (Nat × Nat × Act)} {x0 pc cs ss : Nat} {k : St → Option ORes} {L : List Slot} {S : List Value} {H : AH}  : ex rt E x0 k (.dup_x1) pc L S H cs ss = p1 S fun x S => p1 S fun y r => k (pc + 1, L, x :: y :: x :: r, H, cs, ss) := rfl
theorem ex_dup2 {rt : Option FieldType} {E : List (Nat × Nat × Act)} {x0 pc cs ss : Nat} {k : St → Option ORes} {L : List Slot} {S : List Value} {H : AH}  : ex rt E x0 k (.dup2) pc L S H cs ss = p1 S fun x S => p1 S fun y r => k (pc + 1, L, x :: y :: x :: y :: r, H, cs, ss) := rfl
theorem ex_ifnull {rt : Option FieldType} {E : List (Nat × Nat × Act)} {x0 pc cs ss : Nat} {k : St → Option ORes} {L : List Slot} {S : List Value} {H : AH} {o : Int} : ex rt E x0 k (.ifnull o) pc L S H cs ss = pA S fun v r => br (refEq v .null) pc o fun q => k (q, L, r, H, cs, ss) := rfl
theorem ex_ifnonnull {rt : Option FieldType} {E : List (Nat × Nat × Act)} {x0 pc cs ss : Nat} {k : St → Option ORes} {L : List Slot} {S : List Value} {H : AH} {o : Int} : ex rt E x0 k (.ifnonnull o) pc L S H cs ss = pA S fun v r => br (!refEq v .null) pc o fun q => k (q, L, r, H, cs, ss) := rfl
theorem ex_if_acmp {rt : Option FieldType} {E : List (Nat × Nat × Act)} {x0 pc cs ss : Nat} {k : St → Option ORes} {L : List Slot} {S : List Value} {H : AH} {cd : ACond} {o : Int} : ex rt E x0 k (.if_acmp cd o) pc L S H cs ss = pA S fun y S => pA S fun x r => br (acV cd (refEq x y)) pc o fun q => k (q, L, r, H, cs, ss) := rfl
theorem ex_arraylength {rt : Option FieldType} {E : List (Nat × Nat × Act)} {x0 pc cs ss : Nat} {k : St → Option ORes} {L : List Slot} {S : List Value} {H : AH}  : ex rt E x0 k (.arraylength) pc L S H cs ss = pR S fun a r => (arr H a).bind fun q => k (pc + 1, L, .int q.2.length.toInt32 :: r, H, cs, ss) := rfl
theorem ex_iaload {rt : Option FieldType} {E : List (Nat × Nat × Act)} {x0 pc cs ss : Nat} {k : St → Option ORes} {L : List Slot} {S : List Value} {H : AH}  : ex rt E x0 k (.iaload) pc L S H cs ss = ald (isT .int) S H fun v r => k (pc + 1, L, v :: r, H, cs, ss) := rfl
theorem ex_baload {rt : Option FieldType} {E : List (Nat × Nat × Act)} {x0 pc cs ss : Nat} {k : St → Option ORes} {L : List Slot} {S : List Value} {H : AH}  : ex rt E x0 k (.baload) pc L S H cs ss = ald isBZ S H fun v r => k (pc + 1, L, v :: r, H, cs, ss) := rfl
theorem ex_caload {rt : Option FieldType} {E : List (Nat × Nat × Act)} {x0 pc cs ss : Nat} {k : St → Option ORes} {L : List Slot} {S : List Value} {H : AH}  : ex rt E x0 k (.caload) pc L S H cs ss = ald (isT .char) S H fun v r => k (pc + 1, L, v :: r, H, cs, ss) := rfl
theorem ex_laload {rt : Option FieldType} {E : List (Nat × Nat × Act)} {x0 pc cs ss : Nat} {k : St → Option ORes} {L : List Slot} {S : List Value} {H : AH}  : ex rt E x0 k (.laload) pc L S H cs ss = ald (isT .long) S H fun v r => k (pc + 1, L, v :: r, H, cs, ss) := rfl
theorem ex_aaload {rt : Option FieldType} {E : List (Nat × Nat × Act)} {x0 pc cs ss : Nat} {k : St → Option ORes} {L : List Slot} {S : List Value} {H : AH}  : ex rt E x0 k (.aaload) pc L S H cs ss = ald FieldType.isReference S H fun v r => k (pc + 1, L, v :: r, H, cs, ss) := rfl
theorem ex_iastore {rt : Option FieldType} {E : List (Nat × Nat × Act)} {x0 pc cs ss : Nat} {k : St → Option ORes} {L : List Slot} {S : List Value} {H : AH}  : ex rt E x0 k (.iastore) pc L S H cs ss = ast (isT .int) x0 S H fun r H' => k (pc + 1, L, r, H', cs, ss) := rfl
theorem ex_bastore {rt : Option FieldType} {E : List (Nat × Nat × Act)} {x0 pc cs ss : Nat} {k : St → Option ORes} {L : List Slot} {S : List Value} {H : AH}  : ex rt E x0 k (.bastore) pc L S H cs ss = ast (isT .byte) x0 S H fun r H' => k (pc + 1, L, r, H', cs, ss) := rfl
theorem ex_castore {rt : Option FieldType} {E : List (Nat × Nat × Act)} {x0 pc cs ss : Nat} {k : St → Option ORes} {L : List Slot} {S : List Value} {H : AH}  : ex rt E x0 k (.castore) pc L S H cs ss = ast (isT .char) x0 S H fun r H' => k (pc + 1, L, r, H', cs, ss) := rfl
theorem ex_lastore {rt : Option FieldType} {E : List (Nat × Nat × Act)} {x0 pc cs ss : Nat} {k : St → Option ORes} {L : List Slot} {S : List Value} {H : AH}  : ex rt E x0 k (.lastore) pc L S H cs ss = astL x0 S H fun r H' => k (pc + 1, L, r, H', cs, ss) := rfl
theorem ex_ldc {rt : Option FieldType} {E : List (Nat × Nat × Act)} {x0 pc cs ss : Nat} {k : St → Option ORes} {L : List Slot} {S : List Value} {H : AH} {i : Nat} : ex rt E x0 k (.ldc i) pc L S H cs ss = spc E 0 i S H cs ss fun S' H' cs' ss' => k (pc + 2, L, S', H', cs', ss') := rfl
theorem ex_ldc_w {rt : Option FieldType} {E : List (Nat × Nat × Act)} {x0 pc cs ss : Nat} {k : St → Option ORes} {L : List Slot} {S : List Value} {H : AH} {i : Nat} : ex rt E x0 k (.ldc_w i) pc L S H cs ss = spc E 1 i S H cs ss fun S' H' cs' ss' => k (pc + 3, L, S', H', cs', ss') := rfl
theorem ex_ldc2_w {rt : Option FieldType} {E : List (Nat × Nat × Act)} {x0 pc cs ss : Nat} {k : St → Option ORes} {L : List Slot} {S : List Value} {H : AH} {i : Nat} : ex rt E x0 k (.ldc2_w i) pc L S H cs ss = spc E 2 i S H cs ss fun S' H' cs' ss' => k (pc + 3, L, S', H', cs', ss') := rfl
theorem ex_getfield {rt : Option FieldType} {E : List (Nat × Nat × Act)} {x0 pc cs ss : Nat} {k : St → Option ORes} {L : List Slot} {S : List Value} {H : AH} {i : Nat} : ex rt E x0 k (.getfield i) pc L S H cs ss = spc E 3 i S H cs ss fun S' H' cs' ss' => k (pc + 3, L, S', H', cs', ss') := rfl
theorem ex_putfield {rt : Option FieldType} {E : List (Nat × Nat × Act)} {x0 pc cs ss : Nat} {k : St → Option ORes} {L : List Slot} {S : List Value} {H : AH} {i : Nat} : ex rt E x0 k (.putfield i) pc L S H cs ss = spc E 4 i S H cs ss fun S' H' cs' ss' => k (pc + 3, L, S', H', cs', ss') := rfl
theorem ex_getstatic {rt : Option FieldType} {E : List (Nat × Nat × Act)} {x0 pc cs ss : Nat} {k : St → Option ORes} {L : List Slot} {S : List Value} {H : AH} {i : Nat} : ex rt E x0 k (.getstatic i) pc L S H cs ss = spc E 5 i S H cs ss fun S' H' cs' ss' => k (pc + 3, L, S', H', cs', ss') := rfl
theorem ex_new {rt : Option FieldType} {E : List (Nat × Nat × Act)} {x0 pc cs ss : Nat} {k : St → Option ORes} {L : List Slot} {S : List Value} {H : AH} {i : Nat} : ex rt E x0 k (.new i) pc L S H cs ss = spc E 6 i S H cs ss fun S' H' cs' ss' => k (pc + 3, L, S', H', cs', ss') := rfl
theorem ex_invokestatic {rt : Option FieldType} {E : List (Nat × Nat × Act)} {x0 pc cs ss : Nat} {k : St → Option ORes} {L : List Slot} {S : List Value} {H : AH} {i : Nat} : ex rt E x0 k (.invokestatic i) pc L S H cs ss = spc E 7 i S H cs ss fun S' H' cs' ss' => k (pc + 3, L, S', H', cs', ss') := rfl
theorem ex_invokespecial {rt : Option FieldType} {E : List (Nat × Nat × Act)} {x0 pc cs ss : Nat} {k : St → Option ORes} {L : List Slot} {S : List Value} {H : AH} {i : Nat} : ex rt E x0 k (.invokespecial i) pc L S H cs ss = spc E 8 i S H cs ss fun S' H' cs' ss' => k (pc + 3, L, S', H', cs', ss') := rfl
theorem ex_invokevirtual {rt : Option FieldType} {E : List (Nat × Nat × Act)} {x0 pc cs ss : Nat} {k : St → Option ORes} {L : List Slot} {S : List Value} {H : AH} {i : Nat} : ex rt E x0 k (.invokevirtual i) pc L S H cs ss = spc E 9 i S H cs ss fun S' H' cs' ss' => k (pc + 3, L, S', H', cs', ss') := rfl
theorem ex_checkcast {rt : Option FieldType} {E : List (Nat × Nat × Act)} {x0 pc cs ss : Nat} {k : St → Option ORes} {L : List Slot} {S : List Value} {H : AH} {i : Nat} : ex rt E x0 k (.checkcast i) pc L S H cs ss = spc E 10 i S H cs ss fun S' H' cs' ss' => k (pc + 3, L, S', H', cs', ss') := rfl
theorem ex_instanceof {rt : Option FieldType} {E : List (Nat × Nat × Act)} {x0 pc cs ss : Nat} {k : St → Option ORes} {L : List Slot} {S : List Value} {H : AH} {i : Nat} : ex rt E x0 k (.instanceof i) pc L S H cs ss = spc E 11 i S H cs ss fun S' H' cs' ss' => k (pc + 3, L, S', H', cs', ss') := rfl
theorem ex_anewarray {rt : Option FieldType} {E : List (Nat × Nat × Act)} {x0 pc cs ss : Nat} {k : St → Option ORes} {L : List Slot} {S : List Value} {H : AH} {i : Nat} : ex rt E x0 k (.anewarray i) pc L S H cs ss = spc E 12 i S H cs ss fun S' H' cs' ss' => k (pc + 3, L, S', H', cs', ss') := rfl
theorem ex_newarray {rt : Option FieldType} {E : List (Nat × Nat × Act)} {x0 pc cs ss : Nat} {k : St → Option ORes} {L : List Slot} {S : List Value} {H : AH} {t : ArrayType} : ex rt E x0 k (.newarray t) pc L S H cs ss = spc E 13 (atn t) S H cs ss fun S' H' cs' ss' => k (pc + 2, L, S', H', cs', ss') := rfl
theorem ex_ireturn {rt : Option FieldType} {E : List (Nat × Nat × Act)} {x0 pc cs ss : Nat} {k : St → Option ORes} {L : List Slot} {S : List Value} {H : AH}  : ex rt E x0 k (.ireturn) pc L S H cs ss = rI rt S H := rfl
theorem ex_lreturn {rt : Option FieldType} {E : List (Nat × Nat × Act)} {x0 pc cs ss : Nat} {k : St → Option ORes} {L : List Slot} {S : List Value} {H : AH}  : ex rt E x0 k (.lreturn) pc L S H cs ss = rL rt S H := rfl
theorem ex_areturn {rt : Option FieldType} {E : List (Nat × Nat × Act)} {x0 pc cs ss : Nat} {k : St → Option ORes} {L : List Slot} {S : List Value} {H : AH}  : ex rt E x0 k (.areturn) pc L S H cs ss = rA rt S H := rfl
theorem ex_return {rt : Option FieldType} {E : List (Nat × Nat × Act)} {x0 pc cs ss : Nat} {k : St → Option ORes} {L : List Slot} {S : List Value} {H : AH}  : ex rt E x0 k (.return_) pc L S H cs ss = rV rt S H := rfl
end Jvm.Own
namespace Jvm.Own
open Sem ClassFile Op Lib Jvm.RoadKit
/-! ## 7. Walking: one row a step, the answer's property kept apart -/
def Rsq (r : Option ORes) (q : Option ORes → Prop) : Prop := q r
theorem res_of {a b : Option ORes} {q : Option ORes → Prop} (e : a = b) (h : Rsq b q) : Rsq a q := by subst e; exact h
theorem res_t {P : Prop} [Decidable P] {A B : Option ORes} {q : Option ORes → Prop} (hc : P) (h : Rsq A q) : Rsq (if P then A else B) q := by rw [if_pos hc]; exact h
theorem res_f {P : Prop} [Decidable P] {A B : Option ORes} {q : Option ORes → Prop} (hc : ¬ P) (h : Rsq B q) : Rsq (if P then A else B) q := by rw [if_neg hc]; exact h
def OneI (r : Option ORes) : Prop := ∃ H', r = some (some (.int 1), H')
def Is (v : Option ORes) (r : Option ORes) : Prop := r = v
section Ofs
variable {code : ByteArray} {rt : Option FieldType} {E : List (Nat × Nat × Act)} {x0 N : Nat} {st : St} {a v : Option ORes} {q : Option ORes → Prop}
theorem rsq_of (e : a = orun code rt E x0 N st) (h : ∀ go, go = orun code rt E x0 → Rsq (go N st) q) : q a := by subst e; exact h _ rfl
theorem one_of (e : a = orun code rt E x0 N st) (h : ∀ go, go = orun code rt E x0 → Rsq (go N st) OneI) : ∃ H', a = some (some (.int 1), H') := by subst e; exact h _ rfl
theorem is_of (e : a = orun code rt E x0 N st) (h : ∀ go, go = orun code rt E x0 → Rsq (go N st) (Is v)) : a = v := by subst e; exact h _ rfl
end Ofs
theorem one_1 {H : AH} : OneI (some (some (.int 1), H)) := ⟨H, rfl⟩
theorem one_b {H : AH} : OneI (some (some (.int (1 &&& 1)), H)) := ⟨H, by rw [and11]⟩
theorem is_i {z w : Int32} {H H' : AH} (e : z = w) (e' : H = H') : Is (some (some (.int w), H')) (some (some (.int z), H)) := by subst e; subst e'; rfl
theorem is_r {v : Option ORes} : Is v v := rfl
theorem is_1 {H : AH} : Is (some (some (.int 1), H)) (some (some (.int (1 &&& 1)), H)) := by unfold Is; rw [and11]
theorem is_0 {H : AH} : Is (some (some (.int 0), H)) (some (some (.int (0 &&& 1)), H)) := by unfold Is; rw [and01]
def so : Slot → Bool | .unset => true | .val (.int _) => true | .val (.ref _) => true | .val .null => true | _ => false
def so2 : Slot → Slot → Bool | .unset, .unset => true | .val (.long _), .second => true | _, _ => false
def isA : Value → Bool | .ref _ => true | .null => true | _ => false
def isS : Value → Bool | .int _ => true | .ref _ => true | .null => true | _ => false
theorem st1_so {L : List Slot} {k : Nat} {v : Value} {l : Slot} (hL : L[k]? = some l) (hk : so l = true) : st1 L k v = some (L.set k (.val v)) := by
  unfold st1; rw [hL]
  cases l with
  | unset => rfl
  | second => simp [so] at hk
  | val w => cases w <;> first | rfl | (simp [so] at hk)
theorem st2_so {L : List Slot} {k : Nat} {x : Int64} {l l' : Slot} (h1 : L[k]? = some l) (h2 : L[k + 1]? = some l') (hk : so2 l l' = true) : st2 L k x = some ((L.set k (.val (.long x))).set (k + 1) .second) := by
  unfold st2; rw [h1, h2]
  cases l with
  | unset => cases l' with
    | unset => rfl
    | second => simp [so2] at hk
    | val w => simp [so2] at hk
  | second => cases l' <;> simp [so2] at hk
  | val w => cases w <;> cases l' <;> first | rfl | (simp [so2] at hk)
theorem gA_isA {L : List Slot} {k : Nat} {v : Value} (hL : L[k]? = some (.val v)) (hv : isA v = true) : gA L k = some v := by
  unfold gA; rw [hL]; cases v <;> first | rfl | (simp [isA] at hv)
theorem pA_isA {v : Value} {r : List Value} {f : Value → List Value → Option ORes} (hv : isA v = true) : pA (v :: r) f = f v r := by
  cases v <;> first | rfl | (simp [isA] at hv)
theorem p1_isS {v : Value} {r : List Value} {f : Value → List Value → Option ORes} (hv : isS v = true) : p1 (v :: r) f = f v r := by
  cases v <;> first | rfl | (simp [isS] at hv)
def ln (l : List Value) : Int32 := l.length.toInt32
theorem ln_of {l : List Value} {n : Nat} {z : Int32} (h : l.length = n) (h' : n.toInt32 = z) : ln l = z := by unfold ln; rw [h, h']
theorem ln0 : ln [] = 0 := rfl
theorem ln1 {a0 : Value} : ln [a0] = 1 := rfl
theorem ln2 {a0 a1 : Value} : ln [a0, a1] = 2 := rfl
theorem ln3 {a0 a1 a2 : Value} : ln [a0, a1, a2] = 3 := rfl
theorem ln4 {a0 a1 a2 a3 : Value} : ln [a0, a1, a2, a3] = 4 := rfl
theorem ln5 {a0 a1 a2 a3 a4 : Value} : ln [a0, a1, a2, a3, a4] = 5 := rfl
theorem ln6 {a0 a1 a2 a3 a4 a5 : Value} : ln [a0, a1, a2, a3, a4, a5] = 6 := rfl
theorem ln7 {a0 a1 a2 a3 a4 a5 a6 : Value} : ln [a0, a1, a2, a3, a4, a5, a6] = 7 := rfl
theorem ln8 {a0 a1 a2 a3 a4 a5 a6 a7 : Value} : ln [a0, a1, a2, a3, a4, a5, a6, a7] = 8 := rfl
theorem ln9 {a0 a1 a2 a3 a4 a5 a6 a7 a8 : Value} : ln [a0, a1, a2, a3, a4, a5, a6, a7, a8] = 9 := rfl
theorem ln10 {a0 a1 a2 a3 a4 a5 a6 a7 a8 a9 : Value} : ln [a0, a1, a2, a3, a4, a5, a6, a7, a8, a9] = 10 := rfl
theorem ln11 {a0 a1 a2 a3 a4 a5 a6 a7 a8 a9 a10 : Value} : ln [a0, a1, a2, a3, a4, a5, a6, a7, a8, a9, a10] = 11 := rfl
theorem ln12 {a0 a1 a2 a3 a4 a5 a6 a7 a8 a9 a10 a11 : Value} : ln [a0, a1, a2, a3, a4, a5, a6, a7, a8, a9, a10, a11] = 12 := rfl
theorem ln13 {a0 a1 a2 a3 a4 a5 a6 a7 a8 a9 a10 a11 a12 : Value} : ln [a0, a1, a2, a3, a4, a5, a6, a7, a8, a9, a10, a11, a12] = 13 := rfl
theorem ln14 {a0 a1 a2 a3 a4 a5 a6 a7 a8 a9 a10 a11 a12 a13 : Value} : ln [a0, a1, a2, a3, a4, a5, a6, a7, a8, a9, a10, a11, a12, a13] = 14 := rfl
theorem ln15 {a0 a1 a2 a3 a4 a5 a6 a7 a8 a9 a10 a11 a12 a13 a14 : Value} : ln [a0, a1, a2, a3, a4, a5, a6, a7, a8, a9, a10, a11, a12, a13, a14] = 15 := rfl
theorem ln16 {a0 a1 a2 a3 a4 a5 a6 a7 a8 a9 a10 a11 a12 a13 a14 a15 : Value} : ln [a0, a1, a2, a3, a4, a5, a6, a7, a8, a9, a10, a11, a12, a13, a14, a15] = 16 := rfl
theorem ln17 {a0 a1 a2 a3 a4 a5 a6 a7 a8 a9 a10 a11 a12 a13 a14 a15 a16 : Value} : ln [a0, a1, a2, a3, a4, a5, a6, a7, a8, a9, a10, a11, a12, a13, a14, a15, a16] = 17 := rfl
theorem ln18 {a0 a1 a2 a3 a4 a5 a6 a7 a8 a9 a10 a11 a12 a13 a14 a15 a16 a17 : Value} : ln [a0, a1, a2, a3, a4, a5, a6, a7, a8, a9, a10, a11, a12, a13, a14, a15, a16, a17] = 18 := rfl
theorem ln19 {a0 a1 a2 a3 a4 a5 a6 a7 a8 a9 a10 a11 a12 a13 a14 a15 a16 a17 a18 : Value} : ln [a0, a1, a2, a3, a4, a5, a6, a7, a8, a9, a10, a11, a12, a13, a14, a15, a16, a17, a18] = 19 := rfl
theorem ln20 {a0 a1 a2 a3 a4 a5 a6 a7 a8 a9 a10 a11 a12 a13 a14 a15 a16 a17 a18 a19 : Value} : ln [a0, a1, a2, a3, a4, a5, a6, a7, a8, a9, a10, a11, a12, a13, a14, a15, a16, a17, a18, a19] = 20 := rfl
theorem ln21 {a0 a1 a2 a3 a4 a5 a6 a7 a8 a9 a10 a11 a12 a13 a14 a15 a16 a17 a18 a19 a20 : Value} : ln [a0, a1, a2, a3, a4, a5, a6, a7, a8, a9, a10, a11, a12, a13, a14, a15, a16, a17, a18, a19, a20] = 21 := rfl
theorem ln22 {a0 a1 a2 a3 a4 a5 a6 a7 a8 a9 a10 a11 a12 a13 a14 a15 a16 a17 a18 a19 a20 a21 : Value} : ln [a0, a1, a2, a3, a4, a5, a6, a7, a8, a9, a10, a11, a12, a13, a14, a15, a16, a17, a18, a19, a20, a21] = 22 := rfl
theorem ln23 {a0 a1 a2 a3 a4 a5 a6 a7 a8 a9 a10 a11 a12 a13 a14 a15 a16 a17 a18 a19 a20 a21 a22 : Value} : ln [a0, a1, a2, a3, a4, a5, a6, a7, a8, a9, a10, a11, a12, a13, a14, a15, a16, a17, a18, a19, a20, a21, a22] = 23 := rfl
theorem ln24 {a0 a1 a2 a3 a4 a5 a6 a7 a8 a9 a10 a11 a12 a13 a14 a15 a16 a17 a18 a19 a20 a21 a22 a23 : Value} : ln [a0, a1, a2, a3, a4, a5, a6, a7, a8, a9, a10, a11, a12, a13, a14, a15, a16, a17, a18, a19, a20, a21, a22, a23] = 24 := rfl
theorem ln25 {a0 a1 a2 a3 a4 a5 a6 a7 a8 a9 a10 a11 a12 a13 a14 a15 a16 a17 a18 a19 a20 a21 a22 a23 a24 : Value} : ln [a0, a1, a2, a3, a4, a5, a6, a7, a8, a9, a10, a11, a12, a13, a14, a15, a16, a17, a18, a19, a20, a21, a22, a23, a24] = 25 := rfl
theorem ln26 {a0 a1 a2 a3 a4 a5 a6 a7 a8 a9 a10 a11 a12 a13 a14 a15 a16 a17 a18 a19 a20 a21 a22 a23 a24 a25 : Value} : ln [a0, a1, a2, a3, a4, a5, a6, a7, a8, a9, a10, a11, a12, a13, a14, a15, a16, a17, a18, a19, a20, a21, a22, a23, a24, a25] = 26 := rfl
theorem ln27 {a0 a1 a2 a3 a4 a5 a6 a7 a8 a9 a10 a11 a12 a13 a14 a15 a16 a17 a18 a19 a20 a21 a22 a23 a24 a25 a26 : Value} : ln [a0, a1, a2, a3, a4, a5, a6, a7, a8, a9, a10, a11, a12, a13, a14, a15, a16, a17, a18, a19, a20, a21, a22, a23, a24, a25, a26] = 27 := rfl
theorem ln28 {a0 a1 a2 a3 a4 a5 a6 a7 a8 a9 a10 a11 a12 a13 a14 a15 a16 a17 a18 a19 a20 a21 a22 a23 a24 a25 a26 a27 : Value} : ln [a0, a1, a2, a3, a4, a5, a6, a7, a8, a9, a10, a11, a12, a13, a14, a15, a16, a17, a18, a19, a20, a21, a22, a23, a24, a25, a26, a27] = 28 := rfl
theorem ln29 {a0 a1 a2 a3 a4 a5 a6 a7 a8 a9 a10 a11 a12 a13 a14 a15 a16 a17 a18 a19 a20 a21 a22 a23 a24 a25 a26 a27 a28 : Value} : ln [a0, a1, a2, a3, a4, a5, a6, a7, a8, a9, a10, a11, a12, a13, a14, a15, a16, a17, a18, a19, a20, a21, a22, a23, a24, a25, a26, a27, a28] = 29 := rfl
theorem ln30 {a0 a1 a2 a3 a4 a5 a6 a7 a8 a9 a10 a11 a12 a13 a14 a15 a16 a17 a18 a19 a20 a21 a22 a23 a24 a25 a26 a27 a28 a29 : Value} : ln [a0, a1, a2, a3, a4, a5, a6, a7, a8, a9, a10, a11, a12, a13, a14, a15, a16, a17, a18, a19, a20, a21, a22, a23, a24, a25, a26, a27, a28, a29] = 30 := rfl
theorem ln31 {a0 a1 a2 a3 a4 a5 a6 a7 a8 a9 a10 a11 a12 a13 a14 a15 a16 a17 a18 a19 a20 a21 a22 a23 a24 a25 a26 a27 a28 a29 a30 : Value} : ln [a0, a1, a2, a3, a4, a5, a6, a7, a8, a9, a10, a11, a12, a13, a14, a15, a16, a17, a18, a19, a20, a21, a22, a23, a24, a25, a26, a27, a28, a29, a30] = 31 := rfl
theorem ln32 {a0 a1 a2 a3 a4 a5 a6 a7 a8 a9 a10 a11 a12 a13 a14 a15 a16 a17 a18 a19 a20 a21 a22 a23 a24 a25 a26 a27 a28 a29 a30 a31 : Value} : ln [a0, a1, a2, a3, a4, a5, a6, a7, a8, a9, a10, a11, a12, a13, a14, a15, a16, a17, a18, a19, a20, a21, a22, a23, a24, a25, a26, a27, a28, a29, a30, a31] = 32 := rfl
theorem ln33 {a0 a1 a2 a3 a4 a5 a6 a7 a8 a9 a10 a11 a12 a13 a14 a15 a16 a17 a18 a19 a20 a21 a22 a23 a24 a25 a26 a27 a28 a29 a30 a31 a32 : Value} : ln [a0, a1, a2, a3, a4, a5, a6, a7, a8, a9, a10, a11, a12, a13, a14, a15, a16, a17, a18, a19, a20, a21, a22, a23, a24, a25, a26, a27, a28, a29, a30, a31, a32] = 33 := rfl
theorem ln34 {a0 a1 a2 a3 a4 a5 a6 a7 a8 a9 a10 a11 a12 a13 a14 a15 a16 a17 a18 a19 a20 a21 a22 a23 a24 a25 a26 a27 a28 a29 a30 a31 a32 a33 : Value} : ln [a0, a1, a2, a3, a4, a5, a6, a7, a8, a9, a10, a11, a12, a13, a14, a15, a16, a17, a18, a19, a20, a21, a22, a23, a24, a25, a26, a27, a28, a29, a30, a31, a32, a33] = 34 := rfl
theorem ln35 {a0 a1 a2 a3 a4 a5 a6 a7 a8 a9 a10 a11 a12 a13 a14 a15 a16 a17 a18 a19 a20 a21 a22 a23 a24 a25 a26 a27 a28 a29 a30 a31 a32 a33 a34 : Value} : ln [a0, a1, a2, a3, a4, a5, a6, a7, a8, a9, a10, a11, a12, a13, a14, a15, a16, a17, a18, a19, a20, a21, a22, a23, a24, a25, a26, a27, a28, a29, a30, a31, a32, a33, a34] = 35 := rfl
theorem ln36 {a0 a1 a2 a3 a4 a5 a6 a7 a8 a9 a10 a11 a12 a13 a14 a15 a16 a17 a18 a19 a20 a21 a22 a23 a24 a25 a26 a27 a28 a29 a30 a31 a32 a33 a34 a35 : Value} : ln [a0, a1, a2, a3, a4, a5, a6, a7, a8, a9, a10, a11, a12, a13, a14, a15, a16, a17, a18, a19, a20, a21, a22, a23, a24, a25, a26, a27, a28, a29, a30, a31, a32, a33, a34, a35] = 36 := rfl
end Jvm.Own
namespace Jvm.Own
open Sem ClassFile Op Lib Jvm.Stand Jvm.Free Jvm.LawKit Jvm.RoadKit
/-! ## 7. Statics, casts, copies of arrays -/
def aSta (v : Value) : Act := fun S H cs ss => some (v :: S, H, cs, ss)
def aCast (x0 : Nat) (ty : FieldType) : Act := fun S H cs ss => match S with
  | .ref a :: r => (arr H a).bind fun q => if q.1 = ty ∧ x0 ≤ a then some (.ref a :: r, H, cs, ss) else none
  | _ => none
def aClone (x0 : Nat) (ty : FieldType) (W Rc Rs : Nat) : Act := fun S H cs ss => match S with
  | .ref a :: r => (arr H a).bind fun q => if q.1 = ty ∧ x0 ≤ a ∧ (r.map Value.category).sum ≤ W ∧ cs + 1 ≤ Rc ∧ ss + q.2.length ≤ Rs then some (.ref H.length :: r, H ++ [.inr q], cs + 1, ss + q.2.length) else none
  | _ => none
def aCopy (x0 : Nat) (ty : FieldType) (W : Nat) : Act := fun S H cs ss => match S with
  | .int nn :: .int dp :: .ref b :: .int sp :: .ref a :: r => (arr H a).bind fun qa => (arr H b).bind fun qb =>
      if qa.1 = ty ∧ qb.1 = ty ∧ x0 ≤ b ∧ (r.map Value.category).sum ≤ W ∧ ¬ sp < 0 ∧ ¬ dp < 0 ∧ ¬ nn < 0 ∧ sp.toNatClampNeg + nn.toNatClampNeg ≤ qa.2.length ∧ dp.toNatClampNeg + nn.toNatClampNeg ≤ qb.2.length then
        some (r, H.set b (.inr (ty, qb.2.take dp.toNatClampNeg ++ (qa.2.drop sp.toNatClampNeg).take nn.toNatClampNeg ++ qb.2.drop (dp.toNatClampNeg + nn.toNatClampNeg))), cs, ss) else none
  | _ => none
section Acts2
variable {p : Program} {l : Launch} {e : Env} {R : Room} {s : State} {m : MethodId} {args : Array Value} {below : List Frame} {meth : Method} {c : Code} {Z : State} {σ : Nat → Nat} {x0 n0 : Nat} {K : List CD} {a0 : Array Value} {h h' : Heap}
theorem okSta (hx : p.tables.exec = Jvm.exec) (hZ : Z.Warmed39 s.vm) {own R0 O n d : String} {idx : Nat} {v : Value} (hown : s.vm.findClass own = some m.cls) (w : (Jvm.Cond.fieldLink own idx R0 n d).before a0 Z = true) (via : Via Z R0 O n d) (F : Sta Z Z.heap O n d (cv σ v)) : Good p l e R s m args below meth c Z σ x0 n0 K (.getstatic idx) (aSta v) := by
  intro T locs cs ss pc L S H S' H' cs' ss' X hd hL hR hF hB h
  cases h
  obtain ⟨T', X', e', st⟩ := getS (host := "") X hx hZ hown w via rfl (F.ext hR.2.2.1.2) (g := mkF m pc (cL σ L) (S.map (cv σ))) rfl hd
  exact ⟨T', locs, X', e' ▸ hR, hF, hB, st⟩
theorem okCast (hx : p.tables.exec = Jvm.exec) (hZ : Z.Warmed39 s.vm) (hsg : Sg σ x0 n0) {own C ad : String} {idx : Nat} {ty : FieldType} (hown : s.vm.findClass own = some m.cls) (had : "[" ++ ty.toString = ad) (w : (Jvm.Cond.classLink own idx C).before a0 Z = true) (wc : (Jvm.Cond.castable ad C).before a0 Z = true) : Good p l e R s m args below meth c Z σ x0 n0 K (.checkcast idx) (aCast x0 ty) := by
  intro T locs cs ss pc L S H S' H' cs' ss' X hd hL hR hF hB h
  subst had
  unfold aCast at h
  split at h
  · rename_i a r
    replace h := Option.bind_eq_some_iff.mp h
    obtain ⟨⟨t, vs⟩, h1, h⟩ := h
    dsimp only at h
    split at h
    · rename_i hq
      obtain ⟨rfl, hx0⟩ := hq
      cases h
      obtain ⟨cell, A, hs, hl, hfi, hex⟩ := hR.2.2.2 _ _ (arr_some h1)
      obtain ⟨T', X', e', st⟩ := castY X hx hZ hown w rfl (Ins.of_exa (hex (hR.2.2.1.1.symm ▸ hsg.new hx0)) wc) (g := mkF m pc (cL σ L) (List.map (cv σ) (.ref a :: r))) rfl rfl hd
      exact ⟨T', locs, X', e' ▸ hR, hF, hB, st⟩
    · cases h
  · cases h
theorem okClone (hx : p.tables.exec = Jvm.exec) (hZ : Z.Warmed39 s.vm) (hsg : Sg σ x0 n0) {own ad : String} {idx W Rc Rs : Nat} {ty : FieldType} (hown : s.vm.findClass own = some m.cls) (had : "[" ++ ty.toString = ad)
    (w1 : (Jvm.Cond.methodLink own idx ⟨ad, "clone", "()Ljava/lang/Object;"⟩).before a0 Z = true) (w2 : (Jvm.Cond.sameMethod ad "java/lang/Object" "clone" "()Ljava/lang/Object;").before a0 Z = true) (w3 : (Jvm.Cond.native ⟨"java/lang/Object", "clone", "()Ljava/lang/Object;"⟩).before a0 Z = true)
    (w4 : (Jvm.Cond.instanceMethod ⟨"java/lang/Object", "clone", "()Ljava/lang/Object;"⟩).before a0 Z = true) (w5 : (Jvm.Cond.selects ad ⟨ad, "clone", "()Ljava/lang/Object;"⟩ ⟨"java/lang/Object", "clone", "()Ljava/lang/Object;"⟩).before a0 Z = true) (w6 : (Jvm.Cond.castable ad "java/lang/Cloneable").before a0 Z = true)
    (hf : 1 ≤ R.frames) (hlo : W + 14 ≤ R.locals) (hRc : Rc ≤ R.cells) (hRs : Rs ≤ R.slots) : Good p l e R s m args below meth c Z σ x0 n0 K (.invokevirtual idx) (aClone x0 ty W Rc Rs) := by
  intro T locs cs ss pc L S H S' H' cs' ss' X hd hL hR hF hB h
  subst had
  unfold aClone at h
  split at h
  · rename_i a r
    replace h := Option.bind_eq_some_iff.mp h
    obtain ⟨⟨t, vs⟩, h1, h⟩ := h
    dsimp only at h
    split at h
    · rename_i hq
      obtain ⟨rfl, hx0, hW, hc1, hs1⟩ := hq
      cases h
      obtain ⟨cell, A, hs, hl, hfi, hex⟩ := hR.2.2.2 _ _ (arr_some h1)
      obtain ⟨c2, k, e1, e2, e3, -, e5⟩ := hex (hR.2.2.1.1.symm ▸ hsg.new hx0)
      cases A.1.symm.trans e1
      obtain ⟨c1, cC, g1, g2, g3⟩ := Cond.castable_spec w6
      cases e2.symm.trans g1
      have hal : Z.vm.Alike T.vm := hZ.alike.trans X.warmed.alike
      have FC : FitC Z cell := fitC_of A fun i hi v hv => by
        rw [hs] at hv
        simp only [List.getElem?_toArray, List.getElem?_map, Option.map_eq_some_iff] at hv
        obtain ⟨w, hw, rfl⟩ := hv
        rw [cv_fits]; exact hfi w (List.mem_of_getElem? hw)
      have ea : σ H.length = T.heap.size := hR.addr hsg
      have hsz : cell.slots.size = vs.length := by rw [hs]; simp
      obtain ⟨vm', X', st⟩ := X.cloneArray hx hown (mv hZ w1) (mv hZ w2) (mv hZ w3) (mv hZ w4) (mv hZ w5) (a := σ a) A.1 A.2.1.1 A.2.2 (by rw [hZ.alike.findClass]; exact e2) (by rw [hZ.alike.findClass]; exact g2) (by rw [hZ.alike.assignable]; exact g3)
        (fun i v hv => by have q := FC i v hv; rw [← State.fitsSlot_setVm hal] at q; exact q) (g := mkF m pc (cL σ L) (List.map (cv σ) (.ref a :: r))) rfl (size_cL.trans hL) rfl hd hf (by show 2 * 0 + _ + _ ≤ _; rw [cat_sum]; omega) (Nat.le_trans hc1 hRc) (by rw [hsz]; exact Nat.le_trans hs1 hRs)
        (by obtain ⟨-, k2, hk2, comp, hkind⟩ := A.2.1; rw [hZ.alike.clonesLoader]; exact Vm.clonesLoader_of_array hk2 hkind)
      rw [hsz] at X'
      refine ⟨_, locs, X', hR.push (ext_push _ _) (by show (T.heap.push _).size = _; simp) ?_, hF, ⟨Nat.le_trans hc1 hRc, Nat.le_trans hs1 hRs⟩, ?_⟩
      · rw [ea]
        have hN : (T.heap.push { cls := cell.cls, slots := cell.slots })[T.heap.size]? = some { cls := cell.cls, slots := cell.slots } := by simp
        exact ⟨_, ⟨hN, ⟨fun _ z => (by cases z), A.2.1.2⟩, fun z => (by cases z)⟩, hs, hl, hfi, fun _ => ⟨_, k, hN, e2, e3, rfl, e5⟩⟩
      · intro t q
        refine st t ?_
        have q' := q
        simp only [List.map_cons, cv, ea] at q'
        exact q'
    · cases h
  · cases h
theorem RepO.keep {a b : Addr} {o : Ob} (W : Keep h h' [b]) (R : RepO Z σ K h a o) (ne : a ≠ b) : RepO Z σ K h' a o := by
  have nm : a ∉ [b] := ninS ne nin0
  rcases o with ⟨c, vs⟩ | ⟨ty, vs⟩
  · obtain ⟨C, fs, h1, h2, h3⟩ := R
    exact ⟨C, fs, h1, h2.keep W, fun j v q => by obtain ⟨O, n, d, q1, q2⟩ := h3 j v q; exact ⟨O, n, d, q1, q2.keep W nm⟩⟩
  · obtain ⟨cell, h1, h2, h3, h4, h5⟩ := R
    exact ⟨cell, ⟨W.2.1 a cell h1.1 nm, h1.2⟩, h2, h3, h4, fun q => (h5 q).keep W⟩
theorem Rep.writeK {H : AH} (S : Sg σ x0 n0) (R : Rep Z σ x0 n0 K h H) {k : Nat} {o : Ob} (hk : x0 ≤ k) (W : Keep h h' [σ k]) (hsz : h'.size = h.size) (ho : RepO Z σ K h' (σ k) o) : Rep Z σ x0 n0 K h' (H.set k o) := by
  obtain ⟨r1, r2, r3, r4⟩ := R
  refine ⟨by rw [hsz]; simpa using r1, by simpa using r2, r3.keep W (allS (S.new hk) all0), fun j o' q => ?_⟩
  by_cases e : k = j
  · subst e
    by_cases hl : k < H.length
    · rw [List.getElem?_set_self hl] at q; cases q; exact ho
    · rw [List.getElem?_eq_none (by simp; omega)] at q; cases q
  · rw [List.getElem?_set_ne e] at q
    exact (r4 j o' q).keep W fun u => e (S.inj u).symm
theorem stretch_eq {cell : Cell} {vs : List Value} (hs : cell.slots = (vs.map (cv σ)).toArray) {i n : Nat} (hl : i + n ≤ vs.length) : cell.stretch i n = ((vs.drop i).take n).map (cv σ) := by
  apply List.ext_getElem?
  intro j
  simp only [Cell.stretch, List.getElem?_map, List.getElem?_range', List.getElem?_take, List.getElem?_drop]
  by_cases q : j < n
  · have : i + j < vs.length := by omega
    simp [q, hs, this, Array.getD_eq_getD_getElem?]
  · simp [q]
theorem okCopy (hx : p.tables.exec = Jvm.exec) (hZ : Z.Warmed39 s.vm) (hsg : Sg σ x0 n0) {own : String} {idx W : Nat} {ty : FieldType} (hown : s.vm.findClass own = some m.cls) (hty : refKind ty = false)
    (w1 : (Jvm.Cond.methodLink own idx Jvm.Stand.acN).before a0 Z = true) (w2 : (Jvm.Cond.native Jvm.Stand.acN).before a0 Z = true) (w3 : (Jvm.Cond.static Jvm.Stand.acN).before a0 Z = true) (w4 : (Jvm.Cond.initialized "java/lang/System").before a0 Z = true)
    (hf : 1 ≤ R.frames) (hlo : W + (nativeFrameWords "java/lang/System" "arraycopy" 5 + 11) ≤ R.locals) : Good p l e R s m args below meth c Z σ x0 n0 K (.invokestatic idx) (aCopy x0 ty W) := by
  intro T locs cs ss pc L S H S' H' cs' ss' X hd hL hR hF hB h
  unfold aCopy at h
  split at h
  · rename_i nn dp b sp a r
    replace h := Option.bind_eq_some_iff.mp h
    obtain ⟨⟨ta, vs⟩, ha, h⟩ := h
    replace h := Option.bind_eq_some_iff.mp h
    obtain ⟨⟨tb, vd⟩, hb, h⟩ := h
    dsimp only at h
    split at h
    · rename_i hq
      obtain ⟨rfl, rfl, hx0, hW, h1, h2, h3, h4, h5⟩ := hq
      cases h
      obtain ⟨ca, A, hsa, hla, hfa, hea⟩ := hR.2.2.2 _ _ (arr_some ha)
      obtain ⟨cb, B, hsb, hlb, hfb, heb⟩ := hR.2.2.2 _ _ (arr_some hb)
      obtain ⟨oa, ka, hka, sa, hska⟩ := State.isArrayOf_alike hZ.alike A.2.1
      obtain ⟨ob, kb, hkb, sb, hskb⟩ := State.isArrayOf_alike hZ.alike B.2.1
      have nat : ∀ {x : Int32}, ¬ x < 0 → x.toInt = x.toNatClampNeg := fun {x} q => nat_of q
      have za : ca.slots.size = vs.length := by rw [hsa]; simp
      have zb : cb.slots.size = vd.length := by rw [hsb]; simp
      have gv : ∀ i, i < nn.toNatClampNeg → ∃ v ∈ vs, ca.slots.getD (sp.toNatClampNeg + i) .null = cv σ v := fun i hi => by
        have q : sp.toNatClampNeg + i < vs.length := by omega
        exact ⟨vs[sp.toNatClampNeg + i], List.getElem_mem q, by rw [hsa]; simp [Array.getD_eq_getD_getElem?, q]⟩
      obtain ⟨vm₁, hW₁, X', st⟩ := X.arraycopyK hx hown (mvT hZ w1) (mvT hZ w2) (mvT hZ w3) (mvT hZ w4) (src := σ a) (dst := σ b) A.1 B.1 oa ob A.2.2 B.2.2 hka hkb hska hskb (by simp [hty]) h1 h2 h3 (by rw [nat h1, nat h3, za]; omega) (by rw [nat h2, nat h3, zb]; omega)
        (fun vm₁ hw i hi => by
          obtain ⟨v, hv, hg⟩ := gv i hi
          rw [hg, cv_fits]
          refine ⟨hfa v hv, ?_⟩
          have q := hfa v hv
          cases v <;> first | trivial | exact (prim_no_ref hty q).elim) (g := mkF m pc (cL σ L) (List.map (cv σ) (.int nn :: .int dp :: .ref b :: .int sp :: .ref a :: S'))) rfl (size_cL.trans hL) rfl hd hf (by show 2 * 0 + _ + _ ≤ _; rw [cat_sum]; omega)
      have cf := cb.storeRun_facts dp.toNatClampNeg (ca.stretch sp.toNatClampNeg nn.toNatClampNeg)
      have hlt : σ b < T.heap.size := B.lt
      have hKp : Keep T.heap (T.heap.setIfInBounds (σ b) (copied ca cb sp dp nn)) [σ b] := by
        refine ⟨by simp, fun x c q r => ?_, fun x c q => ?_⟩
        · rw [Array.getElem?_setIfInBounds_ne (fun z => r (by simp [z]))]; exact q
        · by_cases z : σ b = x
          · subst z; cases B.1.symm.trans q
            exact ⟨_, by rw [Array.getElem?_setIfInBounds_self_of_lt hlt], cf.1, cf.2.1, cf.2.2.1⟩
          · exact ⟨c, by rw [Array.getElem?_setIfInBounds_ne z]; exact q, rfl, rfl, rfl⟩
      refine ⟨_, _, X', hR.writeK hsg hx0 hKp (by show (T.heap.setIfInBounds _ _).size = _; simp) ?_, hF.app fun y hy => ?_, hB, st⟩
      · have hN : (T.heap.setIfInBounds (σ b) (copied ca cb sp dp nn))[σ b]? = some (copied ca cb sp dp nn) := by rw [Array.getElem?_setIfInBounds_self_of_lt hlt]
        refine ⟨copied ca cb sp dp nn, ⟨hN, ⟨fun k z => B.2.1.1 k (cf.2.1 ▸ z), ?_⟩, fun z => B.2.2 (cf.2.1 ▸ z)⟩, ?_, ?_, ?_, fun q => (heb q).keep hKp⟩
        · obtain ⟨kk, z1, z2⟩ := B.2.1.2
          exact ⟨kk, by rw [show (copied ca cb sp dp nn).cls = cb.cls from cf.1]; exact z1, z2⟩
        · apply Array.ext_getElem?
          intro j
          show (cb.storeRun _ (ca.stretch _ _)).slots[j]? = _
          have hst := stretch_eq (σ := σ) hsa h4
          have hln : (ca.stretch sp.toNatClampNeg nn.toNatClampNeg).length = nn.toNatClampNeg := by simp [Cell.stretch]
          rw [Cell.storeRun_get _ _ _ _ (by rw [hln, zb]; exact h5), hln, hst, hsb]
          have l1 : (vd.take dp.toNatClampNeg).length = dp.toNatClampNeg := by rw [List.length_take]; omega
          have l2 : ((vs.drop sp.toNatClampNeg).take nn.toNatClampNeg).length = nn.toNatClampNeg := by rw [List.length_take, List.length_drop]; omega
          simp only [List.getElem?_toArray, List.map_append, List.append_assoc]
          by_cases c1 : j < dp.toNatClampNeg
          · rw [if_neg (by omega), List.getElem?_append_left (by rw [List.length_map]; omega)]
            simp [List.getElem?_take, c1]
          · rw [List.getElem?_append_right (by rw [List.length_map]; omega), List.length_map, l1]
            by_cases c2 : j < dp.toNatClampNeg + nn.toNatClampNeg
            · rw [if_pos ⟨by omega, c2⟩, List.getElem?_append_left (by rw [List.length_map, l2]; omega)]
            · rw [if_neg (by omega), List.getElem?_append_right (by rw [List.length_map, l2]; omega), List.length_map, l2]
              simp only [List.getElem?_map, List.getElem?_drop]
              congr 2; omega
        · simp only [List.length_append, List.length_take, List.length_drop]; omega
        · intro v hv
          simp only [List.mem_append] at hv
          rcases hv with (q | q) | q
          · exact hfb v (List.mem_of_mem_take q)
          · exact hfa v (List.mem_of_mem_drop (List.mem_of_mem_take q))
          · exact hfb v (List.mem_of_mem_drop q)
      · simp only [copyLocs, List.mem_map] at hy
        obtain ⟨i, -, rfl⟩ := hy
        exact hsg.new hx0
    · cases h
  · cases h
end Acts2
end Jvm.Own
namespace Jvm.Pilot.@@N@@
open Jvm Jvm.ClassFile Sem Op Lib Jvm.Free Jvm.Stand Jvm.LawKit Jvm.RoadKit Bundle Jvm.Own Jvm.Pilot.@@N@@.Jvm.D
theorem k0_0 : dec code 0 = some (.iload_n 0) := by decide +kernel
theorem k0_1 : dec code 1 = some (.ldc 7) := by decide +kernel
theorem k0_3 : dec code 3 = some (.iand) := by decide +kernel
theorem k0_4 : dec code 4 = some (.bipush 6) := by decide +kernel
theorem k0_6 : dec code 6 = some (.irem) := by decide +kernel
theorem k0_7 : dec code 7 = some (.istore 5) := by decide +kernel
theorem k0_9 : dec code 9 = some (.iload_n 1) := by decide +kernel
theorem k0_10 : dec code 10 = some (.iconst 3) := by decide +kernel
theorem k0_11 : dec code 11 = some (.ishr) := by decide +kernel
theorem k0_12 : dec code 12 = some (.istore 6) := by decide +kernel
theorem k0_14 : dec code 14 = some (.iload_n 2) := by decide +kernel
theorem k0_15 : dec code 15 = some (.ldc 8) := by decide +kernel
theorem k0_17 : dec code 17 = some (.iand) := by decide +kernel
theorem k0_18 : dec code 18 = some (.iconst 1) := by decide +kernel
theorem k0_19 : dec code 19 = some (.iadd) := by decide +kernel
theorem k0_20 : dec code 20 = some (.istore 7) := by decide +kernel
theorem k0_22 : dec code 22 = some (.iload 6) := by decide +kernel
theorem k0_24 : dec code 24 = some (.istore 8) := by decide +kernel
theorem k0_26 : dec code 26 = some (.iload 6) := by decide +kernel
theorem k0_28 : dec code 28 = some (.iload 7) := by decide +kernel
theorem k0_30 : dec code 30 = some (.iadd) := by decide +kernel
theorem k0_31 : dec code 31 = some (.istore 9) := by decide +kernel
theorem k0_33 : dec code 33 = some (.iload 6) := by decide +kernel
theorem k0_35 : dec code 35 = some (.iconst 2) := by decide +kernel
theorem k0_36 : dec code 36 = some (.iload 7) := by decide +kernel
theorem k0_38 : dec code 38 = some (.imul) := by decide +kernel
theorem k0_39 : dec code 39 = some (.iadd) := by decide +kernel
theorem k0_40 : dec code 40 = some (.istore 10) := by decide +kernel
theorem k0_42 : dec code 42 = some (.iload 6) := by decide +kernel
theorem k0_44 : dec code 44 = some (.iconst 3) := by decide +kernel
theorem k0_45 : dec code 45 = some (.iload 7) := by decide +kernel
theorem k0_47 : dec code 47 = some (.imul) := by decide +kernel
theorem k0_48 : dec code 48 = some (.iadd) := by decide +kernel
theorem k0_49 : dec code 49 = some (.istore 11) := by decide +kernel
theorem k0_51 : dec code 51 = some (.iload 6) := by decide +kernel
theorem k0_53 : dec code 53 = some (.iconst 4) := by decide +kernel
theorem k0_54 : dec code 54 = some (.iload 7) := by decide +kernel
theorem k0_56 : dec code 56 = some (.imul) := by decide +kernel
theorem k0_57 : dec code 57 = some (.iadd) := by decide +kernel
theorem k0_58 : dec code 58 = some (.istore 12) := by decide +kernel
theorem k0_60 : dec code 60 = some (.iconst 1) := by decide +kernel
theorem k0_61 : dec code 61 = some (.iload_n 3) := by decide +kernel
theorem k0_62 : dec code 62 = some (.ldc 9) := by decide +kernel
theorem k0_64 : dec code 64 = some (.iand) := by decide +kernel
theorem k0_65 : dec code 65 = some (.iadd) := by decide +kernel
theorem k0_66 : dec code 66 = some (.istore 13) := by decide +kernel
theorem k0_68 : dec code 68 = some (.iconst 1) := by decide +kernel
theorem k0_69 : dec code 69 = some (.iload_n 3) := by decide +kernel
theorem k0_70 : dec code 70 = some (.iload 4) := by decide +kernel
theorem k0_72 : dec code 72 = some (.iadd) := by decide +kernel
theorem k0_73 : dec code 73 = some (.ldc 9) := by decide +kernel
theorem k0_75 : dec code 75 = some (.iand) := by decide +kernel
theorem k0_76 : dec code 76 = some (.iadd) := by decide +kernel
theorem k0_77 : dec code 77 = some (.istore 14) := by decide +kernel
theorem k0_79 : dec code 79 = some (.iconst 1) := by decide +kernel
theorem k0_80 : dec code 80 = some (.iload_n 3) := by decide +kernel
theorem k0_81 : dec code 81 = some (.iconst 2) := by decide +kernel
theorem k0_82 : dec code 82 = some (.iload 4) := by decide +kernel
theorem k0_84 : dec code 84 = some (.imul) := by decide +kernel
theorem k0_85 : dec code 85 = some (.iadd) := by decide +kernel
theorem k0_86 : dec code 86 = some (.ldc 9) := by decide +kernel
theorem k0_88 : dec code 88 = some (.iand) := by decide +kernel
theorem k0_89 : dec code 89 = some (.iadd) := by decide +kernel
theorem k0_90 : dec code 90 = some (.istore 15) := by decide +kernel
theorem k0_92 : dec code 92 = some (.iconst 1) := by decide +kernel
theorem k0_93 : dec code 93 = some (.iload_n 3) := by decide +kernel
theorem k0_94 : dec code 94 = some (.iconst 3) := by decide +kernel
theorem k0_95 : dec code 95 = some (.iload 4) := by decide +kernel
theorem k0_97 : dec code 97 = some (.imul) := by decide +kernel
theorem k0_98 : dec code 98 = some (.iadd) := by decide +kernel
theorem k0_99 : dec code 99 = some (.ldc 9) := by decide +kernel
theorem k0_101 : dec code 101 = some (.iand) := by decide +kernel
theorem k0_102 : dec code 102 = some (.iadd) := by decide +kernel
theorem k0_103 : dec code 103 = some (.istore 16) := by decide +kernel
theorem k0_105 : dec code 105 = some (.iconst 1) := by decide +kernel
theorem k0_106 : dec code 106 = some (.iload_n 3) := by decide +kernel
theorem k0_107 : dec code 107 = some (.iconst 4) := by decide +kernel
theorem k0_108 : dec code 108 = some (.iload 4) := by decide +kernel
theorem k0_110 : dec code 110 = some (.imul) := by decide +kernel
theorem k0_111 : dec code 111 = some (.iadd) := by decide +kernel
theorem k0_112 : dec code 112 = some (.ldc 9) := by decide +kernel
theorem k0_114 : dec code 114 = some (.iand) := by decide +kernel
theorem k0_115 : dec code 115 = some (.iadd) := by decide +kernel
theorem k0_116 : dec code 116 = some (.istore 17) := by decide +kernel
theorem k0_118 : dec code 118 = some (.new 10) := by decide +kernel
theorem k0_121 : dec code 121 = some (.dup) := by decide +kernel
theorem k0_122 : dec code 122 = some (.invokespecial 12) := by decide +kernel
theorem k0_125 : dec code 125 = some (.astore 18) := by decide +kernel
theorem k0_127 : dec code 127 = some (.iload 5) := by decide +kernel
theorem k0_129 : dec code 129 = some (.ifCond .le 12) := by decide +kernel
theorem k0_132 : dec code 132 = some (.aload 18) := by decide +kernel
theorem k0_134 : dec code 134 = some (.iload 8) := by decide +kernel
theorem k0_136 : dec code 136 = some (.iload 13) := by decide +kernel
theorem k0_138 : dec code 138 = some (.invokevirtual 13) := by decide +kernel
theorem k0_141 : dec code 141 = some (.iload 5) := by decide +kernel
theorem k0_143 : dec code 143 = some (.iconst 1) := by decide +kernel
theorem k0_144 : dec code 144 = some (.if_icmp .le 12) := by decide +kernel
theorem k0_147 : dec code 147 = some (.aload 18) := by decide +kernel
theorem k0_149 : dec code 149 = some (.iload 9) := by decide +kernel
theorem k0_151 : dec code 151 = some (.iload 14) := by decide +kernel
theorem k0_153 : dec code 153 = some (.invokevirtual 13) := by decide +kernel
theorem k0_156 : dec code 156 = some (.iload 5) := by decide +kernel
theorem k0_158 : dec code 158 = some (.iconst 2) := by decide +kernel
theorem k0_159 : dec code 159 = some (.if_icmp .le 12) := by decide +kernel
theorem k0_162 : dec code 162 = some (.aload 18) := by decide +kernel
theorem k0_164 : dec code 164 = some (.iload 10) := by decide +kernel
theorem k0_166 : dec code 166 = some (.iload 15) := by decide +kernel
theorem k0_168 : dec code 168 = some (.invokevirtual 13) := by decide +kernel
theorem k0_171 : dec code 171 = some (.iload 5) := by decide +kernel
theorem k0_173 : dec code 173 = some (.iconst 3) := by decide +kernel
theorem k0_174 : dec code 174 = some (.if_icmp .le 12) := by decide +kernel
theorem k0_177 : dec code 177 = some (.aload 18) := by decide +kernel
theorem k0_179 : dec code 179 = some (.iload 11) := by decide +kernel
theorem k0_181 : dec code 181 = some (.iload 16) := by decide +kernel
theorem k0_183 : dec code 183 = some (.invokevirtual 13) := by decide +kernel
theorem k0_186 : dec code 186 = some (.iload 5) := by decide +kernel
theorem k0_188 : dec code 188 = some (.iconst 4) := by decide +kernel
theorem k0_189 : dec code 189 = some (.if_icmp .le 12) := by decide +kernel
theorem k0_192 : dec code 192 = some (.aload 18) := by decide +kernel
theorem k0_194 : dec code 194 = some (.iload 12) := by decide +kernel
theorem k0_196 : dec code 196 = some (.iload 17) := by decide +kernel
theorem k0_198 : dec code 198 = some (.invokevirtual 13) := by decide +kernel
theorem k0_201 : dec code 201 = some (.aload 18) := by decide +kernel
theorem k0_203 : dec code 203 = some (.invokevirtual 17) := by decide +kernel
theorem k0_206 : dec code 206 = some (.astore 19) := by decide +kernel
theorem k0_208 : dec code 208 = some (.aload 19) := by decide +kernel
theorem k0_210 : dec code 210 = some (.invokevirtual 21) := by decide +kernel
theorem k0_213 : dec code 213 = some (.iload 5) := by decide +kernel
theorem k0_215 : dec code 215 = some (.if_icmp .eq 5) := by decide +kernel
theorem k0_218 : dec code 218 = some (.iconst 0) := by decide +kernel
theorem k0_219 : dec code 219 = some (.ireturn) := by decide +kernel
theorem k0_220 : dec code 220 = some (.aload 19) := by decide +kernel
theorem k0_222 : dec code 222 = some (.iload 5) := by decide +kernel
theorem k0_224 : dec code 224 = some (.iconst 0) := by decide +kernel
theorem k0_225 : dec code 225 = some (.iload 8) := by decide +kernel
theorem k0_227 : dec code 227 = some (.iload 13) := by decide +kernel
theorem k0_229 : dec code 229 = some (.invokestatic 27) := by decide +kernel
theorem k0_232 : dec code 232 = some (.ifCond .eq 67) := by decide +kernel
theorem k0_235 : dec code 235 = some (.aload 19) := by decide +kernel
theorem k0_237 : dec code 237 = some (.iload 5) := by decide +kernel
theorem k0_239 : dec code 239 = some (.iconst 1) := by decide +kernel
theorem k0_240 : dec code 240 = some (.iload 9) := by decide +kernel
theorem k0_242 : dec code 242 = some (.iload 14) := by decide +kernel
theorem k0_244 : dec code 244 = some (.invokestatic 27) := by decide +kernel
theorem k0_247 : dec code 247 = some (.ifCond .eq 52) := by decide +kernel
theorem k0_250 : dec code 250 = some (.aload 19) := by decide +kernel
theorem k0_252 : dec code 252 = some (.iload 5) := by decide +kernel
theorem k0_254 : dec code 254 = some (.iconst 2) := by decide +kernel
theorem k0_255 : dec code 255 = some (.iload 10) := by decide +kernel
theorem k0_257 : dec code 257 = some (.iload 15) := by decide +kernel
theorem k0_259 : dec code 259 = some (.invokestatic 27) := by decide +kernel
theorem k0_262 : dec code 262 = some (.ifCond .eq 37) := by decide +kernel
theorem k0_265 : dec code 265 = some (.aload 19) := by decide +kernel
theorem k0_267 : dec code 267 = some (.iload 5) := by decide +kernel
theorem k0_269 : dec code 269 = some (.iconst 3) := by decide +kernel
theorem k0_270 : dec code 270 = some (.iload 11) := by decide +kernel
theorem k0_272 : dec code 272 = some (.iload 16) := by decide +kernel
theorem k0_274 : dec code 274 = some (.invokestatic 27) := by decide +kernel
theorem k0_277 : dec code 277 = some (.ifCond .eq 22) := by decide +kernel
theorem k0_280 : dec code 280 = some (.aload 19) := by decide +kernel
theorem k0_282 : dec code 282 = some (.iload 5) := by decide +kernel
theorem k0_284 : dec code 284 = some (.iconst 4) := by decide +kernel
theorem k0_285 : dec code 285 = some (.iload 12) := by decide +kernel
theorem k0_287 : dec code 287 = some (.iload 17) := by decide +kernel
theorem k0_289 : dec code 289 = some (.invokestatic 27) := by decide +kernel
theorem k0_292 : dec code 292 = some (.ifCond .eq 7) := by decide +kernel
theorem k0_295 : dec code 295 = some (.iconst 1) := by decide +kernel
theorem k0_296 : dec code 296 = some (.goto 4) := by decide +kernel
theorem k0_299 : dec code 299 = some (.iconst 0) := by decide +kernel
theorem k0_300 : dec code 300 = some (.ireturn) := by decide +kernel
theorem k1_0 : dec prog_22_method_1_code 0 = some (.aload_n 0) := by decide +kernel
theorem k1_1 : dec prog_22_method_1_code 1 = some (.invokespecial 1) := by decide +kernel
theorem k1_4 : dec prog_22_method_1_code 4 = some (.aload_n 0) := by decide +kernel
theorem k1_5 : dec prog_22_method_1_code 5 = some (.iconst 4) := by decide +kernel
theorem k1_6 : dec prog_22_method_1_code 6 = some (.newarray .int) := by decide +kernel
theorem k1_8 : dec prog_22_method_1_code 8 = some (.putfield 7) := by decide +kernel
theorem k1_11 : dec prog_22_method_1_code 11 = some (.aload_n 0) := by decide +kernel
theorem k1_12 : dec prog_22_method_1_code 12 = some (.iconst 4) := by decide +kernel
theorem k1_13 : dec prog_22_method_1_code 13 = some (.newarray .int) := by decide +kernel
theorem k1_15 : dec prog_22_method_1_code 15 = some (.putfield 13) := by decide +kernel
theorem k1_18 : dec prog_22_method_1_code 18 = some (.return_) := by decide +kernel
theorem k2_0 : dec prog_22_method_3_code 0 = some (.new 26) := by decide +kernel
theorem k2_3 : dec prog_22_method_3_code 3 = some (.dup) := by decide +kernel
theorem k2_4 : dec prog_22_method_3_code 4 = some (.aload_n 0) := by decide +kernel
theorem k2_5 : dec prog_22_method_3_code 5 = some (.getfield 7) := by decide +kernel
theorem k2_8 : dec prog_22_method_3_code 8 = some (.aload_n 0) := by decide +kernel
theorem k2_9 : dec prog_22_method_3_code 9 = some (.getfield 16) := by decide +kernel
theorem k2_12 : dec prog_22_method_3_code 12 = some (.invokestatic 20) := by decide +kernel
theorem k2_15 : dec prog_22_method_3_code 15 = some (.aload_n 0) := by decide +kernel
theorem k2_16 : dec prog_22_method_3_code 16 = some (.getfield 13) := by decide +kernel
theorem k2_19 : dec prog_22_method_3_code 19 = some (.aload_n 0) := by decide +kernel
theorem k2_20 : dec prog_22_method_3_code 20 = some (.getfield 16) := by decide +kernel
theorem k2_23 : dec prog_22_method_3_code 23 = some (.invokestatic 20) := by decide +kernel
theorem k2_26 : dec prog_22_method_3_code 26 = some (.invokespecial 28) := by decide +kernel
theorem k2_29 : dec prog_22_method_3_code 29 = some (.areturn) := by decide +kernel
theorem k3_0 : dec jdk_65_method_123_code 0 = some (.iload_n 1) := by decide +kernel
theorem k3_1 : dec jdk_65_method_123_code 1 = some (.aload_n 0) := by decide +kernel
theorem k3_2 : dec jdk_65_method_123_code 2 = some (.arraylength) := by decide +kernel
theorem k3_3 : dec jdk_65_method_123_code 3 = some (.if_icmp .ne 11) := by decide +kernel
theorem k3_6 : dec jdk_65_method_123_code 6 = some (.aload_n 0) := by decide +kernel
theorem k3_7 : dec jdk_65_method_123_code 7 = some (.invokevirtual 316) := by decide +kernel
theorem k3_10 : dec jdk_65_method_123_code 10 = some (.checkcast 317) := by decide +kernel
theorem k3_13 : dec jdk_65_method_123_code 13 = some (.areturn) := by decide +kernel
theorem k3_14 : dec jdk_65_method_123_code 14 = some (.iload_n 1) := by decide +kernel
theorem k3_15 : dec jdk_65_method_123_code 15 = some (.newarray .int) := by decide +kernel
theorem k3_17 : dec jdk_65_method_123_code 17 = some (.astore_n 2) := by decide +kernel
theorem k3_18 : dec jdk_65_method_123_code 18 = some (.aload_n 0) := by decide +kernel
theorem k3_19 : dec jdk_65_method_123_code 19 = some (.iconst 0) := by decide +kernel
theorem k3_20 : dec jdk_65_method_123_code 20 = some (.aload_n 2) := by decide +kernel
theorem k3_21 : dec jdk_65_method_123_code 21 = some (.iconst 0) := by decide +kernel
theorem k3_22 : dec jdk_65_method_123_code 22 = some (.aload_n 0) := by decide +kernel
theorem k3_23 : dec jdk_65_method_123_code 23 = some (.arraylength) := by decide +kernel
theorem k3_24 : dec jdk_65_method_123_code 24 = some (.iload_n 1) := by decide +kernel
theorem k3_25 : dec jdk_65_method_123_code 25 = some (.invokestatic 304) := by decide +kernel
theorem k3_28 : dec jdk_65_method_123_code 28 = some (.invokestatic 150) := by decide +kernel
theorem k3_31 : dec jdk_65_method_123_code 31 = some (.aload_n 2) := by decide +kernel
theorem k3_32 : dec jdk_65_method_123_code 32 = some (.areturn) := by decide +kernel
theorem k4_0 : dec jdk_29_method_69_code 0 = some (.iload_n 0) := by decide +kernel
theorem k4_1 : dec jdk_29_method_69_code 1 = some (.iload_n 1) := by decide +kernel
theorem k4_2 : dec jdk_29_method_69_code 2 = some (.if_icmp .gt 7) := by decide +kernel
theorem k4_5 : dec jdk_29_method_69_code 5 = some (.iload_n 0) := by decide +kernel
theorem k4_6 : dec jdk_29_method_69_code 6 = some (.goto 4) := by decide +kernel
theorem k4_9 : dec jdk_29_method_69_code 9 = some (.iload_n 1) := by decide +kernel
theorem k4_10 : dec jdk_29_method_69_code 10 = some (.ireturn) := by decide +kernel
theorem k5_0 : dec prog_21_method_1_code 0 = some (.aload_n 0) := by decide +kernel
theorem k5_1 : dec prog_21_method_1_code 1 = some (.invokespecial 1) := by decide +kernel
theorem k5_4 : dec prog_21_method_1_code 4 = some (.aload_n 0) := by decide +kernel
theorem k5_5 : dec prog_21_method_1_code 5 = some (.aload_n 1) := by decide +kernel
theorem k5_6 : dec prog_21_method_1_code 6 = some (.putfield 7) := by decide +kernel
theorem k5_9 : dec prog_21_method_1_code 9 = some (.aload_n 0) := by decide +kernel
theorem k5_10 : dec prog_21_method_1_code 10 = some (.aload_n 2) := by decide +kernel
theorem k5_11 : dec prog_21_method_1_code 11 = some (.putfield 13) := by decide +kernel
theorem k5_14 : dec prog_21_method_1_code 14 = some (.return_) := by decide +kernel
theorem k6_0 : dec prog_21_method_2_code 0 = some (.aload_n 0) := by decide +kernel
theorem k6_1 : dec prog_21_method_2_code 1 = some (.getfield 7) := by decide +kernel
theorem k6_4 : dec prog_21_method_2_code 4 = some (.arraylength) := by decide +kernel
theorem k6_5 : dec prog_21_method_2_code 5 = some (.ireturn) := by decide +kernel
theorem k7_0 : dec method_3_code 0 = some (.iload_n 2) := by decide +kernel
theorem k7_1 : dec method_3_code 1 = some (.iload_n 1) := by decide +kernel
theorem k7_2 : dec method_3_code 2 = some (.if_icmp .lt 5) := by decide +kernel
theorem k7_5 : dec method_3_code 5 = some (.iconst 1) := by decide +kernel
theorem k7_6 : dec method_3_code 6 = some (.ireturn) := by decide +kernel
theorem k7_7 : dec method_3_code 7 = some (.aload_n 0) := by decide +kernel
theorem k7_8 : dec method_3_code 8 = some (.iload_n 2) := by decide +kernel
theorem k7_9 : dec method_3_code 9 = some (.invokevirtual 33) := by decide +kernel
theorem k7_12 : dec method_3_code 12 = some (.iload_n 3) := by decide +kernel
theorem k7_13 : dec method_3_code 13 = some (.if_icmp .ne 17) := by decide +kernel
theorem k7_16 : dec method_3_code 16 = some (.aload_n 0) := by decide +kernel
theorem k7_17 : dec method_3_code 17 = some (.iload_n 2) := by decide +kernel
theorem k7_18 : dec method_3_code 18 = some (.invokevirtual 37) := by decide +kernel
theorem k7_21 : dec method_3_code 21 = some (.iload 4) := by decide +kernel
theorem k7_23 : dec method_3_code 23 = some (.if_icmp .ne 7) := by decide +kernel
theorem k7_26 : dec method_3_code 26 = some (.iconst 1) := by decide +kernel
theorem k7_27 : dec method_3_code 27 = some (.goto 4) := by decide +kernel
theorem k7_30 : dec method_3_code 30 = some (.iconst 0) := by decide +kernel
theorem k7_31 : dec method_3_code 31 = some (.ireturn) := by decide +kernel
theorem k8_0 : dec prog_22_method_2_code 0 = some (.aload_n 0) := by decide +kernel
theorem k8_1 : dec prog_22_method_2_code 1 = some (.getfield 16) := by decide +kernel
theorem k8_4 : dec prog_22_method_2_code 4 = some (.aload_n 0) := by decide +kernel
theorem k8_5 : dec prog_22_method_2_code 5 = some (.getfield 7) := by decide +kernel
theorem k8_8 : dec prog_22_method_2_code 8 = some (.arraylength) := by decide +kernel
theorem k8_9 : dec prog_22_method_2_code 9 = some (.if_icmp .ne 37) := by decide +kernel
theorem k8_12 : dec prog_22_method_2_code 12 = some (.aload_n 0) := by decide +kernel
theorem k8_13 : dec prog_22_method_2_code 13 = some (.aload_n 0) := by decide +kernel
theorem k8_14 : dec prog_22_method_2_code 14 = some (.getfield 7) := by decide +kernel
theorem k8_17 : dec prog_22_method_2_code 17 = some (.aload_n 0) := by decide +kernel
theorem k8_18 : dec prog_22_method_2_code 18 = some (.getfield 16) := by decide +kernel
theorem k8_21 : dec prog_22_method_2_code 21 = some (.iconst 2) := by decide +kernel
theorem k8_22 : dec prog_22_method_2_code 22 = some (.imul) := by decide +kernel
theorem k8_23 : dec prog_22_method_2_code 23 = some (.invokestatic 20) := by decide +kernel
theorem k8_26 : dec prog_22_method_2_code 26 = some (.putfield 7) := by decide +kernel
theorem k8_29 : dec prog_22_method_2_code 29 = some (.aload_n 0) := by decide +kernel
theorem k8_30 : dec prog_22_method_2_code 30 = some (.aload_n 0) := by decide +kernel
theorem k8_31 : dec prog_22_method_2_code 31 = some (.getfield 13) := by decide +kernel
theorem k8_34 : dec prog_22_method_2_code 34 = some (.aload_n 0) := by decide +kernel
theorem k8_35 : dec prog_22_method_2_code 35 = some (.getfield 16) := by decide +kernel
theorem k8_38 : dec prog_22_method_2_code 38 = some (.iconst 2) := by decide +kernel
theorem k8_39 : dec prog_22_method_2_code 39 = some (.imul) := by decide +kernel
theorem k8_40 : dec prog_22_method_2_code 40 = some (.invokestatic 20) := by decide +kernel
theorem k8_43 : dec prog_22_method_2_code 43 = some (.putfield 13) := by decide +kernel
theorem k8_46 : dec prog_22_method_2_code 46 = some (.aload_n 0) := by decide +kernel
theorem k8_47 : dec prog_22_method_2_code 47 = some (.getfield 7) := by decide +kernel
theorem k8_50 : dec prog_22_method_2_code 50 = some (.aload_n 0) := by decide +kernel
theorem k8_51 : dec prog_22_method_2_code 51 = some (.getfield 16) := by decide +kernel
theorem k8_54 : dec prog_22_method_2_code 54 = some (.iload_n 1) := by decide +kernel
theorem k8_55 : dec prog_22_method_2_code 55 = some (.iastore) := by decide +kernel
theorem k8_56 : dec prog_22_method_2_code 56 = some (.aload_n 0) := by decide +kernel
theorem k8_57 : dec prog_22_method_2_code 57 = some (.getfield 13) := by decide +kernel
theorem k8_60 : dec prog_22_method_2_code 60 = some (.aload_n 0) := by decide +kernel
theorem k8_61 : dec prog_22_method_2_code 61 = some (.getfield 16) := by decide +kernel
theorem k8_64 : dec prog_22_method_2_code 64 = some (.iload_n 2) := by decide +kernel
theorem k8_65 : dec prog_22_method_2_code 65 = some (.iastore) := by decide +kernel
theorem k8_66 : dec prog_22_method_2_code 66 = some (.aload_n 0) := by decide +kernel
theorem k8_67 : dec prog_22_method_2_code 67 = some (.dup) := by decide +kernel
theorem k8_68 : dec prog_22_method_2_code 68 = some (.getfield 16) := by decide +kernel
theorem k8_71 : dec prog_22_method_2_code 71 = some (.iconst 1) := by decide +kernel
theorem k8_72 : dec prog_22_method_2_code 72 = some (.iadd) := by decide +kernel
theorem k8_73 : dec prog_22_method_2_code 73 = some (.putfield 16) := by decide +kernel
theorem k8_76 : dec prog_22_method_2_code 76 = some (.return_) := by decide +kernel
theorem k9_0 : dec prog_21_method_3_code 0 = some (.aload_n 0) := by decide +kernel
theorem k9_1 : dec prog_21_method_3_code 1 = some (.getfield 7) := by decide +kernel
theorem k9_4 : dec prog_21_method_3_code 4 = some (.iload_n 1) := by decide +kernel
theorem k9_5 : dec prog_21_method_3_code 5 = some (.iaload) := by decide +kernel
theorem k9_6 : dec prog_21_method_3_code 6 = some (.ireturn) := by decide +kernel
theorem k10_0 : dec prog_21_method_4_code 0 = some (.aload_n 0) := by decide +kernel
theorem k10_1 : dec prog_21_method_4_code 1 = some (.getfield 13) := by decide +kernel
theorem k10_4 : dec prog_21_method_4_code 4 = some (.iload_n 1) := by decide +kernel
theorem k10_5 : dec prog_21_method_4_code 5 = some (.iaload) := by decide +kernel
theorem k10_6 : dec prog_21_method_4_code 6 = some (.ireturn) := by decide +kernel
def K : List CD := [("com/example/mithi/mithi/index/Postings$Builder", [("com/example/mithi/mithi/index/Postings$Builder", "values", "[I"), ("com/example/mithi/mithi/index/Postings$Builder", "counts", "[I"), ("com/example/mithi/mithi/index/Postings$Builder", "size", "I")]), ("com/example/mithi/mithi/index/Postings", [("com/example/mithi/mithi/index/Postings", "values", "[I"), ("com/example/mithi/mithi/index/Postings", "counts", "[I")])]
theorem kok {Z : State} {a0 : Array Value} (hw : ∀ d ∈ tables_1, d.before a0 Z = true) : KOk Z a0 K := by
  intro c C fs h
  match c, h with
  | 0, h =>
    cases h
    refine ⟨⟨3, (hw _ (List.mem_of_getElem? (i := 4) rfl))⟩, ?_, names_inj (by decide +kernel)⟩
    intro i f hf
    match i, hf with
    | 0, hf => cases hf; exact ⟨Or.inl (hw _ (List.mem_of_getElem? (i := 14) rfl)), (.array .int), by decide +kernel⟩
    | 1, hf => cases hf; exact ⟨Or.inl (hw _ (List.mem_of_getElem? (i := 16) rfl)), (.array .int), by decide +kernel⟩
    | 2, hf => cases hf; exact ⟨Or.inl (hw _ (List.mem_of_getElem? (i := 26) rfl)), .int, by decide +kernel⟩
    | k + 3, hf => cases hf
  | 1, h =>
    cases h
    refine ⟨⟨2, (hw _ (List.mem_of_getElem? (i := 23) rfl))⟩, ?_, names_inj (by decide +kernel)⟩
    intro i f hf
    match i, hf with
    | 0, hf => cases hf; exact ⟨Or.inr (hw _ (List.mem_of_getElem? (i := 44) rfl)), (.array .int), by decide +kernel⟩
    | 1, hf => cases hf; exact ⟨Or.inr (hw _ (List.mem_of_getElem? (i := 46) rfl)), (.array .int), by decide +kernel⟩
    | k + 2, hf => cases hf
  | k + 2, h => cases h
/-! body 1: Postings$Builder.<init>()V -/
def E1 : List (Nat × Nat × Act) := [(8, 1, aObj 6), (13, 6, aArr .int 2 8), (4, 7, aPut 0 0 0 (.array .int)), (4, 13, aPut 0 0 1 (.array .int))]
def F1 : List Value → AH → Option ORes := fn prog_22_method_1_code 1 (Option.none : Option Jvm.ClassFile.FieldType) E1 0 62
def r1 : Room := { frames := 1, cells := 2, slots := 8, locals := 18 }
theorem says1 (l : Launch) {Z : State} {a0 : Array Value} {σ : Nat → Nat} {n0 : Nat} (hsg : Sg σ 0 n0) (hw : ∀ d ∈ tables_1, d.before a0 Z = true) : Says l Z σ 0 n0 K (⟨"com/example/mithi/mithi/index/Postings$Builder", "<init>", "()V"⟩ : MethodName) prog_22_method_1_code 1 (Option.none : Option Jvm.ClassFile.FieldType) [] r1 F1 :=
  says_fn hsg (plainFor_of_name (by first | (simp [plainName, overriddenIn]; done) | decide +kernel)) fun p e s m args below meth c hx hby hml hZ hown hnm => ag_cons (okObj hx hZ hown (hw _ (List.mem_of_getElem? (i := 9) rfl)) (hw _ (List.mem_of_getElem? (i := 10) rfl)) (hw _ (List.mem_of_getElem? (i := 11) rfl)) (W := 6) (by decide) (by decide)) <| ag_cons (okArr (t := .int) hx hZ hsg (hw _ (List.mem_of_getElem? (i := 12) rfl)) (by decide) (by decide)) <| ag_cons (okPut hx hZ hsg (kok hw) hown (host := "") (Or.inl (hw _ (List.mem_of_getElem? (i := 13) rfl))) Via.refl (cn := 0) (j := 0) rfl rfl (by decide +kernel) (Or.inl (hw _ (List.mem_of_getElem? (i := 14) rfl)))) <| ag_cons (okPut hx hZ hsg (kok hw) hown (host := "") (Or.inl (hw _ (List.mem_of_getElem? (i := 15) rfl))) Via.refl (cn := 0) (j := 1) rfl rfl (by decide +kernel) (Or.inl (hw _ (List.mem_of_getElem? (i := 16) rfl)))) <| ag_nil
/-! body 4: Math.min(II)I -/
def E4 : List (Nat × Nat × Act) := []
def F4 : List Value → AH → Option ORes := fn jdk_29_method_69_code 2 (Option.some Jvm.ClassFile.FieldType.int) E4 0 54
def r4 : Room := { frames := 0, cells := 0, slots := 0, locals := 0 }
theorem says4 (l : Launch) {Z : State} {a0 : Array Value} {σ : Nat → Nat} {n0 : Nat} (hsg : Sg σ 0 n0) (hw : ∀ d ∈ tables_1, d.before a0 Z = true) : Says l Z σ 0 n0 K (⟨"java/lang/Math", "min", "(II)I"⟩ : MethodName) jdk_29_method_69_code 2 (Option.some Jvm.ClassFile.FieldType.int) [] r4 F4 :=
  says_fn hsg (Jvm.Free.JP.mathPlain rfl (by decide +kernel)) fun p e s m args below meth c hx hby hml hZ hown hnm => ag_nil
/-! body 3: Arrays.copyOf([II)[I -/
def E3 : List (Nat × Nat × Act) := [(9, 316, aClone 0 .int 6 1 8), (10, 317, aCast 0 .int), (13, 6, aArr .int 1 8), (7, 304, aCall 2 6 1 8 0 0 F4), (7, 150, aCopy 0 .int 6)]
def F3 : List Value → AH → Option ORes := fn jdk_65_method_123_code 3 (Option.some (Jvm.ClassFile.FieldType.array Jvm.ClassFile.FieldType.int)) E3 0 84
def r3 : Room := { frames := 1, cells := 1, slots := 8, locals := 24 }
theorem says3 (l : Launch) {Z : State} {a0 : Array Value} {σ : Nat → Nat} {n0 : Nat} (hsg : Sg σ 0 n0) (hw : ∀ d ∈ tables_1, d.before a0 Z = true) : Says l Z σ 0 n0 K (⟨"java/util/Arrays", "copyOf", "([II)[I"⟩ : MethodName) jdk_65_method_123_code 3 (Option.some (Jvm.ClassFile.FieldType.array Jvm.ClassFile.FieldType.int)) [] r3 F3 :=
  says_fn hsg (plainFor_of_name (by first | (simp [plainName, overriddenIn]; done) | decide +kernel)) fun p e s m args below meth c hx hby hml hZ hown hnm => ag_cons (okClone (W := 6) (ty := .int) hx hZ hsg hown (by decide) (hw _ (List.mem_of_getElem? (i := 71) rfl)) (hw _ (List.mem_of_getElem? (i := 72) rfl)) (hw _ (List.mem_of_getElem? (i := 76) rfl)) (hw _ (List.mem_of_getElem? (i := 74) rfl)) (hw _ (List.mem_of_getElem? (i := 75) rfl)) (hw _ (List.mem_of_getElem? (i := 77) rfl)) (by decide) (by decide) (by decide) (by decide)) <| ag_cons (okCast (ty := .int) hx hZ hsg hown (ad := "[I") (by decide) (hw _ (List.mem_of_getElem? (i := 78) rfl)) (hw _ (List.mem_of_getElem? (i := 79) rfl))) <| ag_cons (okArr (t := .int) hx hZ hsg (hw _ (List.mem_of_getElem? (i := 12) rfl)) (by decide) (by decide)) <| ag_cons (okStat (W := 6) hx hZ (says4 l hsg hw) hown (hw _ (List.mem_of_getElem? (i := 31) rfl)) (hw _ (List.mem_of_getElem? (i := 32) rfl)) (hw _ (List.mem_of_getElem? (i := 33) rfl)) (hw _ (List.mem_of_getElem? (i := 34) rfl)) (by decide) (by decide +kernel : parseMethodDescriptor "(II)I" = some ⟨[.int, .int], some .int⟩) rfl (by decide) (by decide) (by decide) (by decide)) <| ag_cons (okCopy (W := 6) hx hZ hsg hown rfl (hw _ (List.mem_of_getElem? (i := 35) rfl)) (hw _ (List.mem_of_getElem? (i := 38) rfl)) (hw _ (List.mem_of_getElem? (i := 36) rfl)) (hw _ (List.mem_of_getElem? (i := 37) rfl)) (by decide) (by decide)) <| ag_nil
/-! body 8: Postings$Builder.add(II)V -/
def E8 : List (Nat × Nat × Act) := [(3, 16, aGet 0 2), (3, 7, aGet 0 0), (7, 20, aCall 2 6 2 16 1 8 F3), (4, 7, aPut 0 0 0 (.array .int)), (3, 13, aGet 0 1), (4, 13, aPut 0 0 1 (.array .int)), (4, 16, aPut 0 0 2 .int)]
def F8 : List Value → AH → Option ORes := fn prog_22_method_2_code 3 (Option.none : Option Jvm.ClassFile.FieldType) E8 0 126
def r8 : Room := { frames := 2, cells := 2, slots := 16, locals := 44 }
theorem says8 (l : Launch) {Z : State} {a0 : Array Value} {σ : Nat → Nat} {n0 : Nat} (hsg : Sg σ 0 n0) (hw : ∀ d ∈ tables_1, d.before a0 Z = true) : Says l Z σ 0 n0 K (⟨"com/example/mithi/mithi/index/Postings$Builder", "add", "(II)V"⟩ : MethodName) prog_22_method_2_code 3 (Option.none : Option Jvm.ClassFile.FieldType) [] r8 F8 :=
  says_fn hsg (plainFor_of_name (by first | (simp [plainName, overriddenIn]; done) | decide +kernel)) fun p e s m args below meth c hx hby hml hZ hown hnm => ag_cons (okGet hx hZ hown (host := "") (Or.inl (hw _ (List.mem_of_getElem? (i := 25) rfl))) Via.refl (cn := 0) (j := 2) rfl rfl) <| ag_cons (okGet hx hZ hown (host := "") (Or.inl (hw _ (List.mem_of_getElem? (i := 13) rfl))) Via.refl (cn := 0) (j := 0) rfl rfl) <| ag_cons (okStat (W := 6) hx hZ (says3 l hsg hw) hown (hw _ (List.mem_of_getElem? (i := 27) rfl)) (hw _ (List.mem_of_getElem? (i := 28) rfl)) (hw _ (List.mem_of_getElem? (i := 29) rfl)) (hw _ (List.mem_of_getElem? (i := 30) rfl)) (by decide) (by decide +kernel : parseMethodDescriptor "([II)[I" = some ⟨[(.array .int), .int], some (.array .int)⟩) rfl (by decide) (by decide) (by decide) (by decide)) <| ag_cons (okPut hx hZ hsg (kok hw) hown (host := "") (Or.inl (hw _ (List.mem_of_getElem? (i := 13) rfl))) Via.refl (cn := 0) (j := 0) rfl rfl (by decide +kernel) (Or.inl (hw _ (List.mem_of_getElem? (i := 14) rfl)))) <| ag_cons (okGet hx hZ hown (host := "") (Or.inl (hw _ (List.mem_of_getElem? (i := 15) rfl))) Via.refl (cn := 0) (j := 1) rfl rfl) <| ag_cons (okPut hx hZ hsg (kok hw) hown (host := "") (Or.inl (hw _ (List.mem_of_getElem? (i := 15) rfl))) Via.refl (cn := 0) (j := 1) rfl rfl (by decide +kernel) (Or.inl (hw _ (List.mem_of_getElem? (i := 16) rfl)))) <| ag_cons (okPut hx hZ hsg (kok hw) hown (host := "") (Or.inl (hw _ (List.mem_of_getElem? (i := 25) rfl))) Via.refl (cn := 0) (j := 2) rfl rfl (by decide +kernel) (Or.inl (hw _ (List.mem_of_getElem? (i := 26) rfl)))) <| ag_nil
/-! body 5: Postings.<init>([I[I)V -/
def E5 : List (Nat × Nat × Act) := [(8, 1, aObj 6), (4, 7, aPut 0 1 0 (.array .int)), (4, 13, aPut 0 1 1 (.array .int))]
def F5 : List Value → AH → Option ORes := fn prog_21_method_1_code 3 (Option.none : Option Jvm.ClassFile.FieldType) E5 0 58
def r5 : Room := { frames := 1, cells := 0, slots := 0, locals := 18 }
theorem says5 (l : Launch) {Z : State} {a0 : Array Value} {σ : Nat → Nat} {n0 : Nat} (hsg : Sg σ 0 n0) (hw : ∀ d ∈ tables_1, d.before a0 Z = true) : Says l Z σ 0 n0 K (⟨"com/example/mithi/mithi/index/Postings", "<init>", "([I[I)V"⟩ : MethodName) prog_21_method_1_code 3 (Option.none : Option Jvm.ClassFile.FieldType) [] r5 F5 :=
  says_fn hsg (plainFor_of_name (by first | (simp [plainName, overriddenIn]; done) | decide +kernel)) fun p e s m args below meth c hx hby hml hZ hown hnm => ag_cons (okObj hx hZ hown (hw _ (List.mem_of_getElem? (i := 42) rfl)) (hw _ (List.mem_of_getElem? (i := 10) rfl)) (hw _ (List.mem_of_getElem? (i := 11) rfl)) (W := 6) (by decide) (by decide)) <| ag_cons (okPut hx hZ hsg (kok hw) hown (host := "") (Or.inl (hw _ (List.mem_of_getElem? (i := 43) rfl))) Via.refl (cn := 1) (j := 0) rfl rfl (by decide +kernel) (Or.inr ⟨(hw _ (List.mem_of_getElem? (i := 44) rfl)), rfl, hnm⟩)) <| ag_cons (okPut hx hZ hsg (kok hw) hown (host := "") (Or.inl (hw _ (List.mem_of_getElem? (i := 45) rfl))) Via.refl (cn := 1) (j := 1) rfl rfl (by decide +kernel) (Or.inr ⟨(hw _ (List.mem_of_getElem? (i := 46) rfl)), rfl, hnm⟩)) <| ag_nil
/-! body 2: Postings$Builder.build()Lcom/example/mithi/mithi/index/Postings; -/
def E2 : List (Nat × Nat × Act) := [(6, 26, aNew 1 2 3 18 [.null, .null]), (3, 7, aGet 0 0), (3, 16, aGet 0 2), (7, 20, aCall 2 6 3 18 1 8 F3), (3, 13, aGet 0 1), (8, 28, aRecv 2 1 6 3 18 0 0 F5)]
def F2 : List Value → AH → Option ORes := fn prog_22_method_3_code 1 (Option.some (Jvm.ClassFile.FieldType.object "com/example/mithi/mithi/index/Postings")) E2 0 68
def r2 : Room := { frames := 2, cells := 3, slots := 18, locals := 44 }
theorem says2 (l : Launch) {Z : State} {a0 : Array Value} {σ : Nat → Nat} {n0 : Nat} (hsg : Sg σ 0 n0) (hw : ∀ d ∈ tables_1, d.before a0 Z = true) : Says l Z σ 0 n0 K (⟨"com/example/mithi/mithi/index/Postings$Builder", "build", "()Lcom/example/mithi/mithi/index/Postings;"⟩ : MethodName) prog_22_method_3_code 1 (Option.some (Jvm.ClassFile.FieldType.object "com/example/mithi/mithi/index/Postings")) [] r2 F2 :=
  says_fn hsg (plainFor_of_name (by first | (simp [plainName, overriddenIn]; done) | decide +kernel)) fun p e s m args below meth c hx hby hml hZ hown hnm => ag_cons (okNew hx hZ hsg (kok hw) hown (hw _ (List.mem_of_getElem? (i := 22) rfl)) (hw _ (List.mem_of_getElem? (i := 23) rfl)) (hw _ (List.mem_of_getElem? (i := 24) rfl)) (cn := 1) rfl (by decide +kernel) (by decide) (by decide)) <| ag_cons (okGet hx hZ hown (host := "") (Or.inl (hw _ (List.mem_of_getElem? (i := 13) rfl))) Via.refl (cn := 0) (j := 0) rfl rfl) <| ag_cons (okGet hx hZ hown (host := "") (Or.inl (hw _ (List.mem_of_getElem? (i := 25) rfl))) Via.refl (cn := 0) (j := 2) rfl rfl) <| ag_cons (okStat (W := 6) hx hZ (says3 l hsg hw) hown (hw _ (List.mem_of_getElem? (i := 27) rfl)) (hw _ (List.mem_of_getElem? (i := 28) rfl)) (hw _ (List.mem_of_getElem? (i := 29) rfl)) (hw _ (List.mem_of_getElem? (i := 30) rfl)) (by decide) (by decide +kernel : parseMethodDescriptor "([II)[I" = some ⟨[(.array .int), .int], some (.array .int)⟩) rfl (by decide) (by decide) (by decide) (by decide)) <| ag_cons (okGet hx hZ hown (host := "") (Or.inl (hw _ (List.mem_of_getElem? (i := 15) rfl))) Via.refl (cn := 0) (j := 1) rfl rfl) <| ag_cons (okCtor (cl := 1) (W := 6) hx hZ (says5 l hsg hw) rfl hown (hw _ (List.mem_of_getElem? (i := 39) rfl)) (hw _ (List.mem_of_getElem? (i := 40) rfl)) (hw _ (List.mem_of_getElem? (i := 24) rfl)) (hw _ (List.mem_of_getElem? (i := 41) rfl)) (by decide) (by decide +kernel : parseMethodDescriptor "([I[I)V" = some ⟨[(.array .int), (.array .int)], none⟩) rfl (by decide) (by decide) (by decide) (by decide)) <| ag_nil
/-! body 6: Postings.size()I -/
def E6 : List (Nat × Nat × Act) := [(3, 7, aGet 1 0)]
def F6 : List Value → AH → Option ORes := fn prog_21_method_2_code 1 (Option.some Jvm.ClassFile.FieldType.int) E6 0 48
def r6 : Room := { frames := 0, cells := 0, slots := 0, locals := 0 }
theorem says6 (l : Launch) {Z : State} {a0 : Array Value} {σ : Nat → Nat} {n0 : Nat} (hsg : Sg σ 0 n0) (hw : ∀ d ∈ tables_1, d.before a0 Z = true) : Says l Z σ 0 n0 K (⟨"com/example/mithi/mithi/index/Postings", "size", "()I"⟩ : MethodName) prog_21_method_2_code 1 (Option.some Jvm.ClassFile.FieldType.int) [] r6 F6 :=
  says_fn hsg (plainFor_of_name (by first | (simp [plainName, overriddenIn]; done) | decide +kernel)) fun p e s m args below meth c hx hby hml hZ hown hnm => ag_cons (okGet hx hZ hown (host := "") (Or.inl (hw _ (List.mem_of_getElem? (i := 43) rfl))) Via.refl (cn := 1) (j := 0) rfl rfl) <| ag_nil
/-! body 9: Postings.value(I)I -/
def E9 : List (Nat × Nat × Act) := [(3, 7, aGet 1 0)]
def F9 : List Value → AH → Option ORes := fn prog_21_method_3_code 2 (Option.some Jvm.ClassFile.FieldType.int) E9 0 50
def r9 : Room := { frames := 0, cells := 0, slots := 0, locals := 0 }
theorem says9 (l : Launch) {Z : State} {a0 : Array Value} {σ : Nat → Nat} {n0 : Nat} (hsg : Sg σ 0 n0) (hw : ∀ d ∈ tables_1, d.before a0 Z = true) : Says l Z σ 0 n0 K (⟨"com/example/mithi/mithi/index/Postings", "value", "(I)I"⟩ : MethodName) prog_21_method_3_code 2 (Option.some Jvm.ClassFile.FieldType.int) [] r9 F9 :=
  says_fn hsg (plainFor_of_name (by first | (simp [plainName, overriddenIn]; done) | decide +kernel)) fun p e s m args below meth c hx hby hml hZ hown hnm => ag_cons (okGet hx hZ hown (host := "") (Or.inl (hw _ (List.mem_of_getElem? (i := 43) rfl))) Via.refl (cn := 1) (j := 0) rfl rfl) <| ag_nil
/-! body 10: Postings.count(I)I -/
def E10 : List (Nat × Nat × Act) := [(3, 13, aGet 1 1)]
def F10 : List Value → AH → Option ORes := fn prog_21_method_4_code 2 (Option.some Jvm.ClassFile.FieldType.int) E10 0 50
def r10 : Room := { frames := 0, cells := 0, slots := 0, locals := 0 }
theorem says10 (l : Launch) {Z : State} {a0 : Array Value} {σ : Nat → Nat} {n0 : Nat} (hsg : Sg σ 0 n0) (hw : ∀ d ∈ tables_1, d.before a0 Z = true) : Says l Z σ 0 n0 K (⟨"com/example/mithi/mithi/index/Postings", "count", "(I)I"⟩ : MethodName) prog_21_method_4_code 2 (Option.some Jvm.ClassFile.FieldType.int) [] r10 F10 :=
  says_fn hsg (plainFor_of_name (by first | (simp [plainName, overriddenIn]; done) | decide +kernel)) fun p e s m args below meth c hx hby hml hZ hown hnm => ag_cons (okGet hx hZ hown (host := "") (Or.inl (hw _ (List.mem_of_getElem? (i := 45) rfl))) Via.refl (cn := 1) (j := 1) rfl rfl) <| ag_nil
/-! body 7: PostingsBuilderBuildPinLaw.entry(Lcom/example/mithi/mithi/index/Postings;IIII)Z -/
def E7 : List (Nat × Nat × Act) := [(9, 33, aRecv 1 1 6 0 0 0 0 F9), (9, 37, aRecv 1 1 6 0 0 0 0 F10)]
def F7 : List Value → AH → Option ORes := fn method_3_code 5 (Option.some Jvm.ClassFile.FieldType.boolean) E7 0 78
def r7 : Room := { frames := 1, cells := 0, slots := 0, locals := 19 }
theorem says7 (l : Launch) {Z : State} {a0 : Array Value} {σ : Nat → Nat} {n0 : Nat} (hsg : Sg σ 0 n0) (hw : ∀ d ∈ tables_1, d.before a0 Z = true) : Says l Z σ 0 n0 K (⟨"com/example/mithi/mithi/index/PostingsBuilderBuildPinLaw", "entry", "(Lcom/example/mithi/mithi/index/Postings;IIII)Z"⟩ : MethodName) method_3_code 5 (Option.some Jvm.ClassFile.FieldType.boolean) [] r7 F7 :=
  says_fn hsg (plainFor_of_name (by first | (simp [plainName, overriddenIn]; done) | decide +kernel)) fun p e s m args below meth c hx hby hml hZ hown hnm => ag_cons (okVirt (cl := 1) (W := 6) hx hZ (says9 l hsg hw) rfl hown (hw _ (List.mem_of_getElem? (i := 61) rfl)) (hw _ (List.mem_of_getElem? (i := 62) rfl)) (hw _ (List.mem_of_getElem? (i := 64) rfl)) (hw _ (List.mem_of_getElem? (i := 63) rfl)) (hw _ (List.mem_of_getElem? (i := 24) rfl)) (hw _ (List.mem_of_getElem? (i := 65) rfl)) (fun _ _ h => notFace_of_selects h) (by decide) (by decide +kernel : parseMethodDescriptor "(I)I" = some ⟨[.int], some .int⟩) rfl (by decide) (by decide) (by decide) (by decide)) <| ag_cons (okVirt (cl := 1) (W := 6) hx hZ (says10 l hsg hw) rfl hown (hw _ (List.mem_of_getElem? (i := 66) rfl)) (hw _ (List.mem_of_getElem? (i := 67) rfl)) (hw _ (List.mem_of_getElem? (i := 69) rfl)) (hw _ (List.mem_of_getElem? (i := 68) rfl)) (hw _ (List.mem_of_getElem? (i := 24) rfl)) (hw _ (List.mem_of_getElem? (i := 70) rfl)) (fun _ _ h => notFace_of_selects h) (by decide) (by decide +kernel : parseMethodDescriptor "(I)I" = some ⟨[.int], some .int⟩) rfl (by decide) (by decide) (by decide) (by decide)) <| ag_nil
/-! body 0: PostingsBuilderBuildPinLaw.law(IIIII)Z -/
def E0 : List (Nat × Nat × Act) := [(0, 7, aI (2147483647)), (0, 8, aI (268435455)), (0, 9, aI (1073741823)), (6, 10, aNew 0 3 24 192 [.null, .null, (.int 0)]), (8, 12, aRecv 0 0 6 24 192 2 8 F1), (9, 13, aRecv 2 0 6 24 192 2 16 F8), (9, 17, aRecv 0 0 6 24 192 3 18 F2), (9, 21, aRecv 0 1 6 24 192 0 0 F6), (7, 27, aCall 5 6 24 192 0 0 F7)]
def F0 : List Value → AH → Option ORes := fn code maxLocals ret E0 0 380
theorem says0 (l : Launch) {Z : State} {a0 : Array Value} {σ : Nat → Nat} {n0 : Nat} (hsg : Sg σ 0 n0) (hw : ∀ d ∈ tables_1, d.before a0 Z = true) : Says l Z σ 0 n0 K x code maxLocals ret tables_1 room_1 F0 :=
  says_fn hsg (plainFor_of_name (by first | (simp [x, plainName, overriddenIn]; done) | decide +kernel)) fun p e s m args below meth c hx hby hml hZ hown hnm => ag_cons (okI hx hZ hown (hw _ (List.mem_of_getElem? (i := 0) rfl))) <| ag_cons (okI hx hZ hown (hw _ (List.mem_of_getElem? (i := 1) rfl))) <| ag_cons (okI hx hZ hown (hw _ (List.mem_of_getElem? (i := 2) rfl))) <| ag_cons (okNew hx hZ hsg (kok hw) hown (hw _ (List.mem_of_getElem? (i := 3) rfl)) (hw _ (List.mem_of_getElem? (i := 4) rfl)) (hw _ (List.mem_of_getElem? (i := 5) rfl)) (cn := 0) rfl (by decide +kernel) (by decide) (by decide)) <| ag_cons (okCtor (cl := 0) (W := 6) hx hZ (says1 l hsg hw) rfl hown (hw _ (List.mem_of_getElem? (i := 6) rfl)) (hw _ (List.mem_of_getElem? (i := 7) rfl)) (hw _ (List.mem_of_getElem? (i := 5) rfl)) (hw _ (List.mem_of_getElem? (i := 8) rfl)) (by decide) (by decide +kernel : parseMethodDescriptor "()V" = some ⟨[], none⟩) rfl (by decide) (by decide) (by decide) (by decide)) <| ag_cons (okVirt (cl := 0) (W := 6) hx hZ (says8 l hsg hw) rfl hown (hw _ (List.mem_of_getElem? (i := 56) rfl)) (hw _ (List.mem_of_getElem? (i := 57) rfl)) (hw _ (List.mem_of_getElem? (i := 59) rfl)) (hw _ (List.mem_of_getElem? (i := 58) rfl)) (hw _ (List.mem_of_getElem? (i := 5) rfl)) (hw _ (List.mem_of_getElem? (i := 60) rfl)) (fun _ _ h => notFace_of_selects h) (by decide) (by decide +kernel : parseMethodDescriptor "(II)V" = some ⟨[.int, .int], none⟩) rfl (by decide) (by decide) (by decide) (by decide)) <| ag_cons (okVirt (cl := 0) (W := 6) hx hZ (says2 l hsg hw) rfl hown (hw _ (List.mem_of_getElem? (i := 17) rfl)) (hw _ (List.mem_of_getElem? (i := 18) rfl)) (hw _ (List.mem_of_getElem? (i := 20) rfl)) (hw _ (List.mem_of_getElem? (i := 19) rfl)) (hw _ (List.mem_of_getElem? (i := 5) rfl)) (hw _ (List.mem_of_getElem? (i := 21) rfl)) (fun _ _ h => notFace_of_selects h) (by decide) (by decide +kernel : parseMethodDescriptor "()Lcom/example/mithi/mithi/index/Postings;" = some ⟨[], some (.object "com/example/mithi/mithi/index/Postings")⟩) rfl (by decide) (by decide) (by decide) (by decide)) <| ag_cons (okVirt (cl := 1) (W := 6) hx hZ (says6 l hsg hw) rfl hown (hw _ (List.mem_of_getElem? (i := 47) rfl)) (hw _ (List.mem_of_getElem? (i := 48) rfl)) (hw _ (List.mem_of_getElem? (i := 50) rfl)) (hw _ (List.mem_of_getElem? (i := 49) rfl)) (hw _ (List.mem_of_getElem? (i := 24) rfl)) (hw _ (List.mem_of_getElem? (i := 51) rfl)) (fun _ _ h => notFace_of_selects h) (by decide) (by decide +kernel : parseMethodDescriptor "()I" = some ⟨[], some .int⟩) rfl (by decide) (by decide) (by decide) (by decide)) <| ag_cons (okStat (W := 6) hx hZ (says7 l hsg hw) hown (hw _ (List.mem_of_getElem? (i := 52) rfl)) (hw _ (List.mem_of_getElem? (i := 53) rfl)) (hw _ (List.mem_of_getElem? (i := 54) rfl)) (hw _ (List.mem_of_getElem? (i := 55) rfl)) (by decide) (by decide +kernel : parseMethodDescriptor "(Lcom/example/mithi/mithi/index/Postings;IIII)Z" = some ⟨[(.object "com/example/mithi/mithi/index/Postings"), .int, .int, .int, .int], some .boolean⟩) rfl (by decide) (by decide) (by decide) (by decide)) <| ag_nil
theorem f1_in {x0 : Nat} {H : AH} : F1 [.ref x0] H = orun prog_22_method_1_code (Option.none : Option Jvm.ClassFile.FieldType) E1 0 62 (0, [.val (.ref x0)], [], H, 0, 0) := rfl
theorem s1_0 {n cs ss : Nat} {L : List Slot} {S : List Value} {H : AH} : orun prog_22_method_1_code (Option.none : Option Jvm.ClassFile.FieldType) E1 0 (n + 1) (0, L, S, H, cs, ss) = (gA L 0).bind fun v => orun prog_22_method_1_code (Option.none : Option Jvm.ClassFile.FieldType) E1 0 n (1, L, v :: S, H, cs, ss) := s_any k1_0
theorem s1_1 {n cs ss : Nat} {L : List Slot} {S : List Value} {H : AH} : orun prog_22_method_1_code (Option.none : Option Jvm.ClassFile.FieldType) E1 0 (n + 1) (1, L, S, H, cs, ss) = (aObj 6 S H cs ss).bind fun r => orun prog_22_method_1_code (Option.none : Option Jvm.ClassFile.FieldType) E1 0 n (4, L, r.1, r.2.1, r.2.2.1, r.2.2.2) := s_any k1_1
theorem s1_4 {n cs ss : Nat} {L : List Slot} {S : List Value} {H : AH} : orun prog_22_method_1_code (Option.none : Option Jvm.ClassFile.FieldType) E1 0 (n + 1) (4, L, S, H, cs, ss) = (gA L 0).bind fun v => orun prog_22_method_1_code (Option.none : Option Jvm.ClassFile.FieldType) E1 0 n (5, L, v :: S, H, cs, ss) := s_any k1_4
theorem s1_5 {n cs ss : Nat} {L : List Slot} {S : List Value} {H : AH} : orun prog_22_method_1_code (Option.none : Option Jvm.ClassFile.FieldType) E1 0 (n + 1) (5, L, S, H, cs, ss) = orun prog_22_method_1_code (Option.none : Option Jvm.ClassFile.FieldType) E1 0 n (6, L, (.int 4 :: S), H, cs, ss) := s_any k1_5
theorem s1_6 {n cs ss : Nat} {L : List Slot} {S : List Value} {H : AH} : orun prog_22_method_1_code (Option.none : Option Jvm.ClassFile.FieldType) E1 0 (n + 1) (6, L, S, H, cs, ss) = (aArr .int 2 8 S H cs ss).bind fun r => orun prog_22_method_1_code (Option.none : Option Jvm.ClassFile.FieldType) E1 0 n (8, L, r.1, r.2.1, r.2.2.1, r.2.2.2) := s_any k1_6
theorem s1_8 {n cs ss : Nat} {L : List Slot} {S : List Value} {H : AH} : orun prog_22_method_1_code (Option.none : Option Jvm.ClassFile.FieldType) E1 0 (n + 1) (8, L, S, H, cs, ss) = (aPut 0 0 0 (.array .int) S H cs ss).bind fun r => orun prog_22_method_1_code (Option.none : Option Jvm.ClassFile.FieldType) E1 0 n (11, L, r.1, r.2.1, r.2.2.1, r.2.2.2) := s_any k1_8
theorem s1_11 {n cs ss : Nat} {L : List Slot} {S : List Value} {H : AH} : orun prog_22_method_1_code (Option.none : Option Jvm.ClassFile.FieldType) E1 0 (n + 1) (11, L, S, H, cs, ss) = (gA L 0).bind fun v => orun prog_22_method_1_code (Option.none : Option Jvm.ClassFile.FieldType) E1 0 n (12, L, v :: S, H, cs, ss) := s_any k1_11
theorem s1_12 {n cs ss : Nat} {L : List Slot} {S : List Value} {H : AH} : orun prog_22_method_1_code (Option.none : Option Jvm.ClassFile.FieldType) E1 0 (n + 1) (12, L, S, H, cs, ss) = orun prog_22_method_1_code (Option.none : Option Jvm.ClassFile.FieldType) E1 0 n (13, L, (.int 4 :: S), H, cs, ss) := s_any k1_12
theorem s1_13 {n cs ss : Nat} {L : List Slot} {S : List Value} {H : AH} : orun prog_22_method_1_code (Option.none : Option Jvm.ClassFile.FieldType) E1 0 (n + 1) (13, L, S, H, cs, ss) = (aArr .int 2 8 S H cs ss).bind fun r => orun prog_22_method_1_code (Option.none : Option Jvm.ClassFile.FieldType) E1 0 n (15, L, r.1, r.2.1, r.2.2.1, r.2.2.2) := s_any k1_13
theorem s1_15 {n cs ss : Nat} {L : List Slot} {S : List Value} {H : AH} : orun prog_22_method_1_code (Option.none : Option Jvm.ClassFile.FieldType) E1 0 (n + 1) (15, L, S, H, cs, ss) = (aPut 0 0 1 (.array .int) S H cs ss).bind fun r => orun prog_22_method_1_code (Option.none : Option Jvm.ClassFile.FieldType) E1 0 n (18, L, r.1, r.2.1, r.2.2.1, r.2.2.2) := s_any k1_15
theorem s1_18 {n cs ss : Nat} {L : List Slot} {S : List Value} {H : AH} : orun prog_22_method_1_code (Option.none : Option Jvm.ClassFile.FieldType) E1 0 (n + 1) (18, L, S, H, cs, ss) = rV none S H := s_any k1_18
theorem t1_0 {go : Nat → St → Option ORes} (hgo : go = orun prog_22_method_1_code (Option.none : Option Jvm.ClassFile.FieldType) E1 0) {n cs ss : Nat} {S : List Value} {H : AH} {q : Option ORes → Prop} {v : Value} (hv : isA v = true) (h : Rsq (go n (1, [.val v], (v :: S), H, cs, ss)) q) : Rsq (go (n + 1) (0, [.val v], S, H, cs, ss)) q := by
  subst hgo
  refine res_of s1_0 ?_
  rw [gA_isA (L := [.val v]) (k := 0) (v := v) rfl hv]
  exact h
theorem u1_1 {go : Nat → St → Option ORes} (hgo : go = orun prog_22_method_1_code (Option.none : Option Jvm.ClassFile.FieldType) E1 0) {n cs ss : Nat} {L : List Slot} {S : List Value} {H : AH} : go (n + 1) (1, L, S, H, cs, ss) = (aObj 6 S H cs ss).bind fun r => go n (4, L, r.1, r.2.1, r.2.2.1, r.2.2.2) := by
  subst hgo
  exact s1_1
theorem t1_4 {go : Nat → St → Option ORes} (hgo : go = orun prog_22_method_1_code (Option.none : Option Jvm.ClassFile.FieldType) E1 0) {n cs ss : Nat} {S : List Value} {H : AH} {q : Option ORes → Prop} {v : Value} (hv : isA v = true) (h : Rsq (go n (5, [.val v], (v :: S), H, cs, ss)) q) : Rsq (go (n + 1) (4, [.val v], S, H, cs, ss)) q := by
  subst hgo
  refine res_of s1_4 ?_
  rw [gA_isA (L := [.val v]) (k := 0) (v := v) rfl hv]
  exact h
theorem t1_5 {go : Nat → St → Option ORes} (hgo : go = orun prog_22_method_1_code (Option.none : Option Jvm.ClassFile.FieldType) E1 0) {n cs ss : Nat} {L : List Slot} {S : List Value} {H : AH} {q : Option ORes → Prop} (h : Rsq (go n (6, L, (.int 4 :: S), H, cs, ss)) q) : Rsq (go (n + 1) (5, L, S, H, cs, ss)) q := by
  subst hgo
  exact res_of s1_5 h
theorem u1_6 {go : Nat → St → Option ORes} (hgo : go = orun prog_22_method_1_code (Option.none : Option Jvm.ClassFile.FieldType) E1 0) {n cs ss : Nat} {L : List Slot} {S : List Value} {H : AH} : go (n + 1) (6, L, S, H, cs, ss) = (aArr .int 2 8 S H cs ss).bind fun r => go n (8, L, r.1, r.2.1, r.2.2.1, r.2.2.2) := by
  subst hgo
  exact s1_6
theorem u1_8 {go : Nat → St → Option ORes} (hgo : go = orun prog_22_method_1_code (Option.none : Option Jvm.ClassFile.FieldType) E1 0) {n cs ss : Nat} {L : List Slot} {S : List Value} {H : AH} : go (n + 1) (8, L, S, H, cs, ss) = (aPut 0 0 0 (.array .int) S H cs ss).bind fun r => go n (11, L, r.1, r.2.1, r.2.2.1, r.2.2.2) := by
  subst hgo
  exact s1_8
theorem t1_11 {go : Nat → St → Option ORes} (hgo : go = orun prog_22_method_1_code (Option.none : Option Jvm.ClassFile.FieldType) E1 0) {n cs ss : Nat} {S : List Value} {H : AH} {q : Option ORes → Prop} {v : Value} (hv : isA v = true) (h : Rsq (go n (12, [.val v], (v :: S), H, cs, ss)) q) : Rsq (go (n + 1) (11, [.val v], S, H, cs, ss)) q := by
  subst hgo
  refine res_of s1_11 ?_
  rw [gA_isA (L := [.val v]) (k := 0) (v := v) rfl hv]
  exact h
theorem t1_12 {go : Nat → St → Option ORes} (hgo : go = orun prog_22_method_1_code (Option.none : Option Jvm.ClassFile.FieldType) E1 0) {n cs ss : Nat} {L : List Slot} {S : List Value} {H : AH} {q : Option ORes → Prop} (h : Rsq (go n (13, L, (.int 4 :: S), H, cs, ss)) q) : Rsq (go (n + 1) (12, L, S, H, cs, ss)) q := by
  subst hgo
  exact res_of s1_12 h
theorem u1_13 {go : Nat → St → Option ORes} (hgo : go = orun prog_22_method_1_code (Option.none : Option Jvm.ClassFile.FieldType) E1 0) {n cs ss : Nat} {L : List Slot} {S : List Value} {H : AH} : go (n + 1) (13, L, S, H, cs, ss) = (aArr .int 2 8 S H cs ss).bind fun r => go n (15, L, r.1, r.2.1, r.2.2.1, r.2.2.2) := by
  subst hgo
  exact s1_13
theorem u1_15 {go : Nat → St → Option ORes} (hgo : go = orun prog_22_method_1_code (Option.none : Option Jvm.ClassFile.FieldType) E1 0) {n cs ss : Nat} {L : List Slot} {S : List Value} {H : AH} : go (n + 1) (15, L, S, H, cs, ss) = (aPut 0 0 1 (.array .int) S H cs ss).bind fun r => go n (18, L, r.1, r.2.1, r.2.2.1, r.2.2.2) := by
  subst hgo
  exact s1_15
theorem t1_18 {go : Nat → St → Option ORes} (hgo : go = orun prog_22_method_1_code (Option.none : Option Jvm.ClassFile.FieldType) E1 0) {n cs ss : Nat} {L : List Slot} {H : AH} {q : Option ORes → Prop} (h : q (some (none, H))) : Rsq (go (n + 1) (18, L, [], H, cs, ss)) q := by
  subst hgo
  exact res_of s1_18 h
theorem f4_in {x0 : Int32} {x1 : Int32} {H : AH} : F4 [.int x0, .int x1] H = orun jdk_29_method_69_code (Option.some Jvm.ClassFile.FieldType.int) E4 0 54 (0, [.val (.int x0), .val (.int x1)], [], H, 0, 0) := rfl
theorem s4_0 {n cs ss : Nat} {L : List Slot} {S : List Value} {H : AH} : orun jdk_29_method_69_code (Option.some Jvm.ClassFile.FieldType.int) E4 0 (n + 1) (0, L, S, H, cs, ss) = (gI L 0).bind fun v => orun jdk_29_method_69_code (Option.some Jvm.ClassFile.FieldType.int) E4 0 n (1, L, .int v :: S, H, cs, ss) := s_any k4_0
theorem s4_1 {n cs ss : Nat} {L : List Slot} {S : List Value} {H : AH} : orun jdk_29_method_69_code (Option.some Jvm.ClassFile.FieldType.int) E4 0 (n + 1) (1, L, S, H, cs, ss) = (gI L 1).bind fun v => orun jdk_29_method_69_code (Option.some Jvm.ClassFile.FieldType.int) E4 0 n (2, L, .int v :: S, H, cs, ss) := s_any k4_1
theorem s4_2 {n cs ss : Nat} {L : List Slot} {S : List Value} {H : AH} : orun jdk_29_method_69_code (Option.some Jvm.ClassFile.FieldType.int) E4 0 (n + 1) (2, L, S, H, cs, ss) = pI S fun y S => pI S fun x r => if y < x then orun jdk_29_method_69_code (Option.some Jvm.ClassFile.FieldType.int) E4 0 n (9, L, r, H, cs, ss) else orun jdk_29_method_69_code (Option.some Jvm.ClassFile.FieldType.int) E4 0 n (5, L, r, H, cs, ss) := s_icmp (Q := fun x y => y < x) (fun _ _ => h_gt) k4_2 (by decide) (by decide)
theorem s4_5 {n cs ss : Nat} {L : List Slot} {S : List Value} {H : AH} : orun jdk_29_method_69_code (Option.some Jvm.ClassFile.FieldType.int) E4 0 (n + 1) (5, L, S, H, cs, ss) = (gI L 0).bind fun v => orun jdk_29_method_69_code (Option.some Jvm.ClassFile.FieldType.int) E4 0 n (6, L, .int v :: S, H, cs, ss) := s_any k4_5
theorem s4_6 {n cs ss : Nat} {L : List Slot} {S : List Value} {H : AH} : orun jdk_29_method_69_code (Option.some Jvm.ClassFile.FieldType.int) E4 0 (n + 1) (6, L, S, H, cs, ss) = orun jdk_29_method_69_code (Option.some Jvm.ClassFile.FieldType.int) E4 0 n (10, L, S, H, cs, ss) := s_goto k4_6 (by decide) (by decide)
theorem s4_9 {n cs ss : Nat} {L : List Slot} {S : List Value} {H : AH} : orun jdk_29_method_69_code (Option.some Jvm.ClassFile.FieldType.int) E4 0 (n + 1) (9, L, S, H, cs, ss) = (gI L 1).bind fun v => orun jdk_29_method_69_code (Option.some Jvm.ClassFile.FieldType.int) E4 0 n (10, L, .int v :: S, H, cs, ss) := s_any k4_9
theorem s4_10 {n cs ss : Nat} {L : List Slot} {S : List Value} {H : AH} : orun jdk_29_method_69_code (Option.some Jvm.ClassFile.FieldType.int) E4 0 (n + 1) (10, L, S, H, cs, ss) = pI S fun z _ => some (some (.int z), H) := s_any k4_10
theorem t4_0 {go : Nat → St → Option ORes} (hgo : go = orun jdk_29_method_69_code (Option.some Jvm.ClassFile.FieldType.int) E4 0) {n cs ss : Nat} {l1 : Slot} {S : List Value} {H : AH} {q : Option ORes → Prop} {v : Int32} (h : Rsq (go n (1, [.val (.int v), l1], (.int v :: S), H, cs, ss)) q) : Rsq (go (n + 1) (0, [.val (.int v), l1], S, H, cs, ss)) q := by
  subst hgo
  exact res_of s4_0 h
theorem t4_1 {go : Nat → St → Option ORes} (hgo : go = orun jdk_29_method_69_code (Option.some Jvm.ClassFile.FieldType.int) E4 0) {n cs ss : Nat} {l0 : Slot} {S : List Value} {H : AH} {q : Option ORes → Prop} {v : Int32} (h : Rsq (go n (2, [l0, .val (.int v)], (.int v :: S), H, cs, ss)) q) : Rsq (go (n + 1) (1, [l0, .val (.int v)], S, H, cs, ss)) q := by
  subst hgo
  exact res_of s4_1 h
theorem t4_2t {go : Nat → St → Option ORes} (hgo : go = orun jdk_29_method_69_code (Option.some Jvm.ClassFile.FieldType.int) E4 0) {n cs ss : Nat} {L : List Slot} {S : List Value} {H : AH} {q : Option ORes → Prop} {x y : Int32} (hc : y < x) (h : Rsq (go n (9, L, S, H, cs, ss)) q) : Rsq (go (n + 1) (2, L, (.int y :: .int x :: S), H, cs, ss)) q := by
  subst hgo
  exact res_of s4_2 (res_t hc h)
theorem t4_2f {go : Nat → St → Option ORes} (hgo : go = orun jdk_29_method_69_code (Option.some Jvm.ClassFile.FieldType.int) E4 0) {n cs ss : Nat} {L : List Slot} {S : List Value} {H : AH} {q : Option ORes → Prop} {x y : Int32} (hc : ¬ y < x) (h : Rsq (go n (5, L, S, H, cs, ss)) q) : Rsq (go (n + 1) (2, L, (.int y :: .int x :: S), H, cs, ss)) q := by
  subst hgo
  exact res_of s4_2 (res_f hc h)
theorem t4_5 {go : Nat → St → Option ORes} (hgo : go = orun jdk_29_method_69_code (Option.some Jvm.ClassFile.FieldType.int) E4 0) {n cs ss : Nat} {l1 : Slot} {S : List Value} {H : AH} {q : Option ORes → Prop} {v : Int32} (h : Rsq (go n (6, [.val (.int v), l1], (.int v :: S), H, cs, ss)) q) : Rsq (go (n + 1) (5, [.val (.int v), l1], S, H, cs, ss)) q := by
  subst hgo
  exact res_of s4_5 h
theorem t4_6 {go : Nat → St → Option ORes} (hgo : go = orun jdk_29_method_69_code (Option.some Jvm.ClassFile.FieldType.int) E4 0) {n cs ss : Nat} {L : List Slot} {S : List Value} {H : AH} {q : Option ORes → Prop} (h : Rsq (go n (10, L, S, H, cs, ss)) q) : Rsq (go (n + 1) (6, L, S, H, cs, ss)) q := by
  subst hgo
  exact res_of s4_6 h
theorem t4_9 {go : Nat → St → Option ORes} (hgo : go = orun jdk_29_method_69_code (Option.some Jvm.ClassFile.FieldType.int) E4 0) {n cs ss : Nat} {l0 : Slot} {S : List Value} {H : AH} {q : Option ORes → Prop} {v : Int32} (h : Rsq (go n (10, [l0, .val (.int v)], (.int v :: S), H, cs, ss)) q) : Rsq (go (n + 1) (9, [l0, .val (.int v)], S, H, cs, ss)) q := by
  subst hgo
  exact res_of s4_9 h
theorem t4_10 {go : Nat → St → Option ORes} (hgo : go = orun jdk_29_method_69_code (Option.some Jvm.ClassFile.FieldType.int) E4 0) {n cs ss : Nat} {L : List Slot} {S : List Value} {H : AH} {q : Option ORes → Prop} {z : Int32} (h : q (some (some (.int z), H))) : Rsq (go (n + 1) (10, L, (.int z :: S), H, cs, ss)) q := by
  subst hgo
  exact res_of s4_10 h
theorem f3_in {x0 : Nat} {x1 : Int32} {H : AH} : F3 [.ref x0, .int x1] H = orun jdk_65_method_123_code (Option.some (Jvm.ClassFile.FieldType.array Jvm.ClassFile.FieldType.int)) E3 0 84 (0, [.val (.ref x0), .val (.int x1), .unset], [], H, 0, 0) := rfl
theorem s3_0 {n cs ss : Nat} {L : List Slot} {S : List Value} {H : AH} : orun jdk_65_method_123_code (Option.some (Jvm.ClassFile.FieldType.array Jvm.ClassFile.FieldType.int)) E3 0 (n + 1) (0, L, S, H, cs, ss) = (gI L 1).bind fun v => orun jdk_65_method_123_code (Option.some (Jvm.ClassFile.FieldType.array Jvm.ClassFile.FieldType.int)) E3 0 n (1, L, .int v :: S, H, cs, ss) := s_any k3_0
theorem s3_1 {n cs ss : Nat} {L : List Slot} {S : List Value} {H : AH} : orun jdk_65_method_123_code (Option.some (Jvm.ClassFile.FieldType.array Jvm.ClassFile.FieldType.int)) E3 0 (n + 1) (1, L, S, H, cs, ss) = (gA L 0).bind fun v => orun jdk_65_method_123_code (Option.some (Jvm.ClassFile.FieldType.array Jvm.ClassFile.FieldType.int)) E3 0 n (2, L, v :: S, H, cs, ss) := s_any k3_1
theorem s3_2 {n cs ss : Nat} {L : List Slot} {S : List Value} {H : AH} : orun jdk_65_method_123_code (Option.some (Jvm.ClassFile.FieldType.array Jvm.ClassFile.FieldType.int)) E3 0 (n + 1) (2, L, S, H, cs, ss) = pR S fun a r => (arr H a).bind fun q => orun jdk_65_method_123_code (Option.some (Jvm.ClassFile.FieldType.array Jvm.ClassFile.FieldType.int)) E3 0 n (3, L, .int (ln q.2) :: r, H, cs, ss) := s_any k3_2
theorem s3_3 {n cs ss : Nat} {L : List Slot} {S : List Value} {H : AH} : orun jdk_65_method_123_code (Option.some (Jvm.ClassFile.FieldType.array Jvm.ClassFile.FieldType.int)) E3 0 (n + 1) (3, L, S, H, cs, ss) = pI S fun y S => pI S fun x r => if x = y then orun jdk_65_method_123_code (Option.some (Jvm.ClassFile.FieldType.array Jvm.ClassFile.FieldType.int)) E3 0 n (6, L, r, H, cs, ss) else orun jdk_65_method_123_code (Option.some (Jvm.ClassFile.FieldType.array Jvm.ClassFile.FieldType.int)) E3 0 n (14, L, r, H, cs, ss) := s_icmpN (Q := fun x y => x = y) (fun _ _ => h_ne) k3_3 (by decide) (by decide)
theorem s3_6 {n cs ss : Nat} {L : List Slot} {S : List Value} {H : AH} : orun jdk_65_method_123_code (Option.some (Jvm.ClassFile.FieldType.array Jvm.ClassFile.FieldType.int)) E3 0 (n + 1) (6, L, S, H, cs, ss) = (gA L 0).bind fun v => orun jdk_65_method_123_code (Option.some (Jvm.ClassFile.FieldType.array Jvm.ClassFile.FieldType.int)) E3 0 n (7, L, v :: S, H, cs, ss) := s_any k3_6
theorem s3_7 {n cs ss : Nat} {L : List Slot} {S : List Value} {H : AH} : orun jdk_65_method_123_code (Option.some (Jvm.ClassFile.FieldType.array Jvm.ClassFile.FieldType.int)) E3 0 (n + 1) (7, L, S, H, cs, ss) = (aClone 0 .int 6 1 8 S H cs ss).bind fun r => orun jdk_65_method_123_code (Option.some (Jvm.ClassFile.FieldType.array Jvm.ClassFile.FieldType.int)) E3 0 n (10, L, r.1, r.2.1, r.2.2.1, r.2.2.2) := s_any k3_7
theorem s3_10 {n cs ss : Nat} {L : List Slot} {S : List Value} {H : AH} : orun jdk_65_method_123_code (Option.some (Jvm.ClassFile.FieldType.array Jvm.ClassFile.FieldType.int)) E3 0 (n + 1) (10, L, S, H, cs, ss) = (aCast 0 .int S H cs ss).bind fun r => orun jdk_65_method_123_code (Option.some (Jvm.ClassFile.FieldType.array Jvm.ClassFile.FieldType.int)) E3 0 n (13, L, r.1, r.2.1, r.2.2.1, r.2.2.2) := s_any k3_10
theorem s3_13 {n cs ss : Nat} {L : List Slot} {S : List Value} {H : AH} : orun jdk_65_method_123_code (Option.some (Jvm.ClassFile.FieldType.array Jvm.ClassFile.FieldType.int)) E3 0 (n + 1) (13, L, S, H, cs, ss) = pA S fun z _ => some (some z, H) := s_any k3_13
theorem s3_14 {n cs ss : Nat} {L : List Slot} {S : List Value} {H : AH} : orun jdk_65_method_123_code (Option.some (Jvm.ClassFile.FieldType.array Jvm.ClassFile.FieldType.int)) E3 0 (n + 1) (14, L, S, H, cs, ss) = (gI L 1).bind fun v => orun jdk_65_method_123_code (Option.some (Jvm.ClassFile.FieldType.array Jvm.ClassFile.FieldType.int)) E3 0 n (15, L, .int v :: S, H, cs, ss) := s_any k3_14
theorem s3_15 {n cs ss : Nat} {L : List Slot} {S : List Value} {H : AH} : orun jdk_65_method_123_code (Option.some (Jvm.ClassFile.FieldType.array Jvm.ClassFile.FieldType.int)) E3 0 (n + 1) (15, L, S, H, cs, ss) = (aArr .int 1 8 S H cs ss).bind fun r => orun jdk_65_method_123_code (Option.some (Jvm.ClassFile.FieldType.array Jvm.ClassFile.FieldType.int)) E3 0 n (17, L, r.1, r.2.1, r.2.2.1, r.2.2.2) := s_any k3_15
theorem s3_17 {n cs ss : Nat} {L : List Slot} {S : List Value} {H : AH} : orun jdk_65_method_123_code (Option.some (Jvm.ClassFile.FieldType.array Jvm.ClassFile.FieldType.int)) E3 0 (n + 1) (17, L, S, H, cs, ss) = pA S fun x r => (st1 L 2 x).bind fun L' => orun jdk_65_method_123_code (Option.some (Jvm.ClassFile.FieldType.array Jvm.ClassFile.FieldType.int)) E3 0 n (18, L', r, H, cs, ss) := s_any k3_17
theorem s3_18 {n cs ss : Nat} {L : List Slot} {S : List Value} {H : AH} : orun jdk_65_method_123_code (Option.some (Jvm.ClassFile.FieldType.array Jvm.ClassFile.FieldType.int)) E3 0 (n + 1) (18, L, S, H, cs, ss) = (gA L 0).bind fun v => orun jdk_65_method_123_code (Option.some (Jvm.ClassFile.FieldType.array Jvm.ClassFile.FieldType.int)) E3 0 n (19, L, v :: S, H, cs, ss) := s_any k3_18
theorem s3_19 {n cs ss : Nat} {L : List Slot} {S : List Value} {H : AH} : orun jdk_65_method_123_code (Option.some (Jvm.ClassFile.FieldType.array Jvm.ClassFile.FieldType.int)) E3 0 (n + 1) (19, L, S, H, cs, ss) = orun jdk_65_method_123_code (Option.some (Jvm.ClassFile.FieldType.array Jvm.ClassFile.FieldType.int)) E3 0 n (20, L, (.int 0 :: S), H, cs, ss) := s_any k3_19
theorem s3_20 {n cs ss : Nat} {L : List Slot} {S : List Value} {H : AH} : orun jdk_65_method_123_code (Option.some (Jvm.ClassFile.FieldType.array Jvm.ClassFile.FieldType.int)) E3 0 (n + 1) (20, L, S, H, cs, ss) = (gA L 2).bind fun v => orun jdk_65_method_123_code (Option.some (Jvm.ClassFile.FieldType.array Jvm.ClassFile.FieldType.int)) E3 0 n (21, L, v :: S, H, cs, ss) := s_any k3_20
theorem s3_21 {n cs ss : Nat} {L : List Slot} {S : List Value} {H : AH} : orun jdk_65_method_123_code (Option.some (Jvm.ClassFile.FieldType.array Jvm.ClassFile.FieldType.int)) E3 0 (n + 1) (21, L, S, H, cs, ss) = orun jdk_65_method_123_code (Option.some (Jvm.ClassFile.FieldType.array Jvm.ClassFile.FieldType.int)) E3 0 n (22, L, (.int 0 :: S), H, cs, ss) := s_any k3_21
theorem s3_22 {n cs ss : Nat} {L : List Slot} {S : List Value} {H : AH} : orun jdk_65_method_123_code (Option.some (Jvm.ClassFile.FieldType.array Jvm.ClassFile.FieldType.int)) E3 0 (n + 1) (22, L, S, H, cs, ss) = (gA L 0).bind fun v => orun jdk_65_method_123_code (Option.some (Jvm.ClassFile.FieldType.array Jvm.ClassFile.FieldType.int)) E3 0 n (23, L, v :: S, H, cs, ss) := s_any k3_22
theorem s3_23 {n cs ss : Nat} {L : List Slot} {S : List Value} {H : AH} : orun jdk_65_method_123_code (Option.some (Jvm.ClassFile.FieldType.array Jvm.ClassFile.FieldType.int)) E3 0 (n + 1) (23, L, S, H, cs, ss) = pR S fun a r => (arr H a).bind fun q => orun jdk_65_method_123_code (Option.some (Jvm.ClassFile.FieldType.array Jvm.ClassFile.FieldType.int)) E3 0 n (24, L, .int (ln q.2) :: r, H, cs, ss) := s_any k3_23
theorem s3_24 {n cs ss : Nat} {L : List Slot} {S : List Value} {H : AH} : orun jdk_65_method_123_code (Option.some (Jvm.ClassFile.FieldType.array Jvm.ClassFile.FieldType.int)) E3 0 (n + 1) (24, L, S, H, cs, ss) = (gI L 1).bind fun v => orun jdk_65_method_123_code (Option.some (Jvm.ClassFile.FieldType.array Jvm.ClassFile.FieldType.int)) E3 0 n (25, L, .int v :: S, H, cs, ss) := s_any k3_24
theorem s3_25 {n cs ss : Nat} {L : List Slot} {S : List Value} {H : AH} : orun jdk_65_method_123_code (Option.some (Jvm.ClassFile.FieldType.array Jvm.ClassFile.FieldType.int)) E3 0 (n + 1) (25, L, S, H, cs, ss) = (aCall 2 6 1 8 0 0 F4 S H cs ss).bind fun r => orun jdk_65_method_123_code (Option.some (Jvm.ClassFile.FieldType.array Jvm.ClassFile.FieldType.int)) E3 0 n (28, L, r.1, r.2.1, r.2.2.1, r.2.2.2) := s_any k3_25
theorem s3_28 {n cs ss : Nat} {L : List Slot} {S : List Value} {H : AH} : orun jdk_65_method_123_code (Option.some (Jvm.ClassFile.FieldType.array Jvm.ClassFile.FieldType.int)) E3 0 (n + 1) (28, L, S, H, cs, ss) = (aCopy 0 .int 6 S H cs ss).bind fun r => orun jdk_65_method_123_code (Option.some (Jvm.ClassFile.FieldType.array Jvm.ClassFile.FieldType.int)) E3 0 n (31, L, r.1, r.2.1, r.2.2.1, r.2.2.2) := s_any k3_28
theorem s3_31 {n cs ss : Nat} {L : List Slot} {S : List Value} {H : AH} : orun jdk_65_method_123_code (Option.some (Jvm.ClassFile.FieldType.array Jvm.ClassFile.FieldType.int)) E3 0 (n + 1) (31, L, S, H, cs, ss) = (gA L 2).bind fun v => orun jdk_65_method_123_code (Option.some (Jvm.ClassFile.FieldType.array Jvm.ClassFile.FieldType.int)) E3 0 n (32, L, v :: S, H, cs, ss) := s_any k3_31
theorem s3_32 {n cs ss : Nat} {L : List Slot} {S : List Value} {H : AH} : orun jdk_65_method_123_code (Option.some (Jvm.ClassFile.FieldType.array Jvm.ClassFile.FieldType.int)) E3 0 (n + 1) (32, L, S, H, cs, ss) = pA S fun z _ => some (some z, H) := s_any k3_32
theorem t3_0 {go : Nat → St → Option ORes} (hgo : go = orun jdk_65_method_123_code (Option.some (Jvm.ClassFile.FieldType.array Jvm.ClassFile.FieldType.int)) E3 0) {n cs ss : Nat} {l0 l2 : Slot} {S : List Value} {H : AH} {q : Option ORes → Prop} {v : Int32} (h : Rsq (go n (1, [l0, .val (.int v), l2], (.int v :: S), H, cs, ss)) q) : Rsq (go (n + 1) (0, [l0, .val (.int v), l2], S, H, cs, ss)) q := by
  subst hgo
  exact res_of s3_0 h
theorem t3_1 {go : Nat → St → Option ORes} (hgo : go = orun jdk_65_method_123_code (Option.some (Jvm.ClassFile.FieldType.array Jvm.ClassFile.FieldType.int)) E3 0) {n cs ss : Nat} {l1 l2 : Slot} {S : List Value} {H : AH} {q : Option ORes → Prop} {v : Value} (hv : isA v = true) (h : Rsq (go n (2, [.val v, l1, l2], (v :: S), H, cs, ss)) q) : Rsq (go (n + 1) (1, [.val v, l1, l2], S, H, cs, ss)) q := by
  subst hgo
  refine res_of s3_1 ?_
  rw [gA_isA (L := [.val v, l1, l2]) (k := 0) (v := v) rfl hv]
  exact h
theorem u3_2 {go : Nat → St → Option ORes} (hgo : go = orun jdk_65_method_123_code (Option.some (Jvm.ClassFile.FieldType.array Jvm.ClassFile.FieldType.int)) E3 0) {n cs ss : Nat} {L : List Slot} {S : List Value} {H : AH} : go (n + 1) (2, L, S, H, cs, ss) = pR S fun a r => (arr H a).bind fun q => go n (3, L, .int (ln q.2) :: r, H, cs, ss) := by
  subst hgo
  exact s3_2
theorem t3_3t {go : Nat → St → Option ORes} (hgo : go = orun jdk_65_method_123_code (Option.some (Jvm.ClassFile.FieldType.array Jvm.ClassFile.FieldType.int)) E3 0) {n cs ss : Nat} {L : List Slot} {S : List Value} {H : AH} {q : Option ORes → Prop} {x y : Int32} (hc : x = y) (h : Rsq (go n (6, L, S, H, cs, ss)) q) : Rsq (go (n + 1) (3, L, (.int y :: .int x :: S), H, cs, ss)) q := by
  subst hgo
  exact res_of s3_3 (res_t hc h)
theorem t3_3f {go : Nat → St → Option ORes} (hgo : go = orun jdk_65_method_123_code (Option.some (Jvm.ClassFile.FieldType.array Jvm.ClassFile.FieldType.int)) E3 0) {n cs ss : Nat} {L : List Slot} {S : List Value} {H : AH} {q : Option ORes → Prop} {x y : Int32} (hc : ¬ x = y) (h : Rsq (go n (14, L, S, H, cs, ss)) q) : Rsq (go (n + 1) (3, L, (.int y :: .int x :: S), H, cs, ss)) q := by
  subst hgo
  exact res_of s3_3 (res_f hc h)
theorem t3_6 {go : Nat → St → Option ORes} (hgo : go = orun jdk_65_method_123_code (Option.some (Jvm.ClassFile.FieldType.array Jvm.ClassFile.FieldType.int)) E3 0) {n cs ss : Nat} {l1 l2 : Slot} {S : List Value} {H : AH} {q : Option ORes → Prop} {v : Value} (hv : isA v = true) (h : Rsq (go n (7, [.val v, l1, l2], (v :: S), H, cs, ss)) q) : Rsq (go (n + 1) (6, [.val v, l1, l2], S, H, cs, ss)) q := by
  subst hgo
  refine res_of s3_6 ?_
  rw [gA_isA (L := [.val v, l1, l2]) (k := 0) (v := v) rfl hv]
  exact h
theorem u3_7 {go : Nat → St → Option ORes} (hgo : go = orun jdk_65_method_123_code (Option.some (Jvm.ClassFile.FieldType.array Jvm.ClassFile.FieldType.int)) E3 0) {n cs ss : Nat} {L : List Slot} {S : List Value} {H : AH} : go (n + 1) (7, L, S, H, cs, ss) = (aClone 0 .int 6 1 8 S H cs ss).bind fun r => go n (10, L, r.1, r.2.1, r.2.2.1, r.2.2.2) := by
  subst hgo
  exact s3_7
theorem u3_10 {go : Nat → St → Option ORes} (hgo : go = orun jdk_65_method_123_code (Option.some (Jvm.ClassFile.FieldType.array Jvm.ClassFile.FieldType.int)) E3 0) {n cs ss : Nat} {L : List Slot} {S : List Value} {H : AH} : go (n + 1) (10, L, S, H, cs, ss) = (aCast 0 .int S H cs ss).bind fun r => go n (13, L, r.1, r.2.1, r.2.2.1, r.2.2.2) := by
  subst hgo
  exact s3_10
theorem t3_13 {go : Nat → St → Option ORes} (hgo : go = orun jdk_65_method_123_code (Option.some (Jvm.ClassFile.FieldType.array Jvm.ClassFile.FieldType.int)) E3 0) {n cs ss : Nat} {L : List Slot} {S : List Value} {H : AH} {q : Option ORes → Prop} {z : Value} (hv : isA z = true) (h : q (some (some z, H))) : Rsq (go (n + 1) (13, L, (z :: S), H, cs, ss)) q := by
  subst hgo
  refine res_of s3_13 ?_
  rw [pA_isA hv]
  exact h
theorem t3_14 {go : Nat → St → Option ORes} (hgo : go = orun jdk_65_method_123_code (Option.some (Jvm.ClassFile.FieldType.array Jvm.ClassFile.FieldType.int)) E3 0) {n cs ss : Nat} {l0 l2 : Slot} {S : List Value} {H : AH} {q : Option ORes → Prop} {v : Int32} (h : Rsq (go n (15, [l0, .val (.int v), l2], (.int v :: S), H, cs, ss)) q) : Rsq (go (n + 1) (14, [l0, .val (.int v), l2], S, H, cs, ss)) q := by
  subst hgo
  exact res_of s3_14 h
theorem u3_15 {go : Nat → St → Option ORes} (hgo : go = orun jdk_65_method_123_code (Option.some (Jvm.ClassFile.FieldType.array Jvm.ClassFile.FieldType.int)) E3 0) {n cs ss : Nat} {L : List Slot} {S : List Value} {H : AH} : go (n + 1) (15, L, S, H, cs, ss) = (aArr .int 1 8 S H cs ss).bind fun r => go n (17, L, r.1, r.2.1, r.2.2.1, r.2.2.2) := by
  subst hgo
  exact s3_15
theorem t3_17 {go : Nat → St → Option ORes} (hgo : go = orun jdk_65_method_123_code (Option.some (Jvm.ClassFile.FieldType.array Jvm.ClassFile.FieldType.int)) E3 0) {n cs ss : Nat} {l0 l1 l2 : Slot} {S : List Value} {H : AH} {q : Option ORes → Prop} {v : Value} (hv : isA v = true) (hk : so l2 = true) (h : Rsq (go n (18, [l0, l1, .val v], S, H, cs, ss)) q) : Rsq (go (n + 1) (17, [l0, l1, l2], (v :: S), H, cs, ss)) q := by
  subst hgo
  refine res_of s3_17 ?_
  rw [pA_isA hv, st1_so (L := [l0, l1, l2]) (k := 2) (l := l2) rfl hk]
  exact h
theorem t3_18 {go : Nat → St → Option ORes} (hgo : go = orun jdk_65_method_123_code (Option.some (Jvm.ClassFile.FieldType.array Jvm.ClassFile.FieldType.int)) E3 0) {n cs ss : Nat} {l1 l2 : Slot} {S : List Value} {H : AH} {q : Option ORes → Prop} {v : Value} (hv : isA v = true) (h : Rsq (go n (19, [.val v, l1, l2], (v :: S), H, cs, ss)) q) : Rsq (go (n + 1) (18, [.val v, l1, l2], S, H, cs, ss)) q := by
  subst hgo
  refine res_of s3_18 ?_
  rw [gA_isA (L := [.val v, l1, l2]) (k := 0) (v := v) rfl hv]
  exact h
theorem t3_19 {go : Nat → St → Option ORes} (hgo : go = orun jdk_65_method_123_code (Option.some (Jvm.ClassFile.FieldType.array Jvm.ClassFile.FieldType.int)) E3 0) {n cs ss : Nat} {L : List Slot} {S : List Value} {H : AH} {q : Option ORes → Prop} (h : Rsq (go n (20, L, (.int 0 :: S), H, cs, ss)) q) : Rsq (go (n + 1) (19, L, S, H, cs, ss)) q := by
  subst hgo
  exact res_of s3_19 h
theorem t3_20 {go : Nat → St → Option ORes} (hgo : go = orun jdk_65_method_123_code (Option.some (Jvm.ClassFile.FieldType.array Jvm.ClassFile.FieldType.int)) E3 0) {n cs ss : Nat} {l0 l1 : Slot} {S : List Value} {H : AH} {q : Option ORes → Prop} {v : Value} (hv : isA v = true) (h : Rsq (go n (21, [l0, l1, .val v], (v :: S), H, cs, ss)) q) : Rsq (go (n + 1) (20, [l0, l1, .val v], S, H, cs, ss)) q := by
  subst hgo
  refine res_of s3_20 ?_
  rw [gA_isA (L := [l0, l1, .val v]) (k := 2) (v := v) rfl hv]
  exact h
theorem t3_21 {go : Nat → St → Option ORes} (hgo : go = orun jdk_65_method_123_code (Option.some (Jvm.ClassFile.FieldType.array Jvm.ClassFile.FieldType.int)) E3 0) {n cs ss : Nat} {L : List Slot} {S : List Value} {H : AH} {q : Option ORes → Prop} (h : Rsq (go n (22, L, (.int 0 :: S), H, cs, ss)) q) : Rsq (go (n + 1) (21, L, S, H, cs, ss)) q := by
  subst hgo
  exact res_of s3_21 h
theorem t3_22 {go : Nat → St → Option ORes} (hgo : go = orun jdk_65_method_123_code (Option.some (Jvm.ClassFile.FieldType.array Jvm.ClassFile.FieldType.int)) E3 0) {n cs ss : Nat} {l1 l2 : Slot} {S : List Value} {H : AH} {q : Option ORes → Prop} {v : Value} (hv : isA v = true) (h : Rsq (go n (23, [.val v, l1, l2], (v :: S), H, cs, ss)) q) : Rsq (go (n + 1) (22, [.val v, l1, l2], S, H, cs, ss)) q := by
  subst hgo
  refine res_of s3_22 ?_
  rw [gA_isA (L := [.val v, l1, l2]) (k := 0) (v := v) rfl hv]
  exact h
theorem u3_23 {go : Nat → St → Option ORes} (hgo : go = orun jdk_65_method_123_code (Option.some (Jvm.ClassFile.FieldType.array Jvm.ClassFile.FieldType.int)) E3 0) {n cs ss : Nat} {L : List Slot} {S : List Value} {H : AH} : go (n + 1) (23, L, S, H, cs, ss) = pR S fun a r => (arr H a).bind fun q => go n (24, L, .int (ln q.2) :: r, H, cs, ss) := by
  subst hgo
  exact s3_23
theorem t3_24 {go : Nat → St → Option ORes} (hgo : go = orun jdk_65_method_123_code (Option.some (Jvm.ClassFile.FieldType.array Jvm.ClassFile.FieldType.int)) E3 0) {n cs ss : Nat} {l0 l2 : Slot} {S : List Value} {H : AH} {q : Option ORes → Prop} {v : Int32} (h : Rsq (go n (25, [l0, .val (.int v), l2], (.int v :: S), H, cs, ss)) q) : Rsq (go (n + 1) (24, [l0, .val (.int v), l2], S, H, cs, ss)) q := by
  subst hgo
  exact res_of s3_24 h
theorem u3_25 {go : Nat → St → Option ORes} (hgo : go = orun jdk_65_method_123_code (Option.some (Jvm.ClassFile.FieldType.array Jvm.ClassFile.FieldType.int)) E3 0) {n cs ss : Nat} {L : List Slot} {S : List Value} {H : AH} : go (n + 1) (25, L, S, H, cs, ss) = (aCall 2 6 1 8 0 0 F4 S H cs ss).bind fun r => go n (28, L, r.1, r.2.1, r.2.2.1, r.2.2.2) := by
  subst hgo
  exact s3_25
theorem u3_28 {go : Nat → St → Option ORes} (hgo : go = orun jdk_65_method_123_code (Option.some (Jvm.ClassFile.FieldType.array Jvm.ClassFile.FieldType.int)) E3 0) {n cs ss : Nat} {L : List Slot} {S : List Value} {H : AH} : go (n + 1) (28, L, S, H, cs, ss) = (aCopy 0 .int 6 S H cs ss).bind fun r => go n (31, L, r.1, r.2.1, r.2.2.1, r.2.2.2) := by
  subst hgo
  exact s3_28
theorem t3_31 {go : Nat → St → Option ORes} (hgo : go = orun jdk_65_method_123_code (Option.some (Jvm.ClassFile.FieldType.array Jvm.ClassFile.FieldType.int)) E3 0) {n cs ss : Nat} {l0 l1 : Slot} {S : List Value} {H : AH} {q : Option ORes → Prop} {v : Value} (hv : isA v = true) (h : Rsq (go n (32, [l0, l1, .val v], (v :: S), H, cs, ss)) q) : Rsq (go (n + 1) (31, [l0, l1, .val v], S, H, cs, ss)) q := by
  subst hgo
  refine res_of s3_31 ?_
  rw [gA_isA (L := [l0, l1, .val v]) (k := 2) (v := v) rfl hv]
  exact h
theorem t3_32 {go : Nat → St → Option ORes} (hgo : go = orun jdk_65_method_123_code (Option.some (Jvm.ClassFile.FieldType.array Jvm.ClassFile.FieldType.int)) E3 0) {n cs ss : Nat} {L : List Slot} {S : List Value} {H : AH} {q : Option ORes → Prop} {z : Value} (hv : isA z = true) (h : q (some (some z, H))) : Rsq (go (n + 1) (32, L, (z :: S), H, cs, ss)) q := by
  subst hgo
  refine res_of s3_32 ?_
  rw [pA_isA hv]
  exact h
theorem f8_in {x0 : Nat} {x1 : Int32} {x2 : Int32} {H : AH} : F8 [.ref x0, .int x1, .int x2] H = orun prog_22_method_2_code (Option.none : Option Jvm.ClassFile.FieldType) E8 0 126 (0, [.val (.ref x0), .val (.int x1), .val (.int x2)], [], H, 0, 0) := rfl
theorem s8_0 {n cs ss : Nat} {L : List Slot} {S : List Value} {H : AH} : orun prog_22_method_2_code (Option.none : Option Jvm.ClassFile.FieldType) E8 0 (n + 1) (0, L, S, H, cs, ss) = (gA L 0).bind fun v => orun prog_22_method_2_code (Option.none : Option Jvm.ClassFile.FieldType) E8 0 n (1, L, v :: S, H, cs, ss) := s_any k8_0
theorem s8_1 {n cs ss : Nat} {L : List Slot} {S : List Value} {H : AH} : orun prog_22_method_2_code (Option.none : Option Jvm.ClassFile.FieldType) E8 0 (n + 1) (1, L, S, H, cs, ss) = (aGet 0 2 S H cs ss).bind fun r => orun prog_22_method_2_code (Option.none : Option Jvm.ClassFile.FieldType) E8 0 n (4, L, r.1, r.2.1, r.2.2.1, r.2.2.2) := s_any k8_1
theorem s8_4 {n cs ss : Nat} {L : List Slot} {S : List Value} {H : AH} : orun prog_22_method_2_code (Option.none : Option Jvm.ClassFile.FieldType) E8 0 (n + 1) (4, L, S, H, cs, ss) = (gA L 0).bind fun v => orun prog_22_method_2_code (Option.none : Option Jvm.ClassFile.FieldType) E8 0 n (5, L, v :: S, H, cs, ss) := s_any k8_4
theorem s8_5 {n cs ss : Nat} {L : List Slot} {S : List Value} {H : AH} : orun prog_22_method_2_code (Option.none : Option Jvm.ClassFile.FieldType) E8 0 (n + 1) (5, L, S, H, cs, ss) = (aGet 0 0 S H cs ss).bind fun r => orun prog_22_method_2_code (Option.none : Option Jvm.ClassFile.FieldType) E8 0 n (8, L, r.1, r.2.1, r.2.2.1, r.2.2.2) := s_any k8_5
theorem s8_8 {n cs ss : Nat} {L : List Slot} {S : List Value} {H : AH} : orun prog_22_method_2_code (Option.none : Option Jvm.ClassFile.FieldType) E8 0 (n + 1) (8, L, S, H, cs, ss) = pR S fun a r => (arr H a).bind fun q => orun prog_22_method_2_code (Option.none : Option Jvm.ClassFile.FieldType) E8 0 n (9, L, .int (ln q.2) :: r, H, cs, ss) := s_any k8_8
theorem s8_9 {n cs ss : Nat} {L : List Slot} {S : List Value} {H : AH} : orun prog_22_method_2_code (Option.none : Option Jvm.ClassFile.FieldType) E8 0 (n + 1) (9, L, S, H, cs, ss) = pI S fun y S => pI S fun x r => if x = y then orun prog_22_method_2_code (Option.none : Option Jvm.ClassFile.FieldType) E8 0 n (12, L, r, H, cs, ss) else orun prog_22_method_2_code (Option.none : Option Jvm.ClassFile.FieldType) E8 0 n (46, L, r, H, cs, ss) := s_icmpN (Q := fun x y => x = y) (fun _ _ => h_ne) k8_9 (by decide) (by decide)
theorem s8_12 {n cs ss : Nat} {L : List Slot} {S : List Value} {H : AH} : orun prog_22_method_2_code (Option.none : Option Jvm.ClassFile.FieldType) E8 0 (n + 1) (12, L, S, H, cs, ss) = (gA L 0).bind fun v => orun prog_22_method_2_code (Option.none : Option Jvm.ClassFile.FieldType) E8 0 n (13, L, v :: S, H, cs, ss) := s_any k8_12
theorem s8_13 {n cs ss : Nat} {L : List Slot} {S : List Value} {H : AH} : orun prog_22_method_2_code (Option.none : Option Jvm.ClassFile.FieldType) E8 0 (n + 1) (13, L, S, H, cs, ss) = (gA L 0).bind fun v => orun prog_22_method_2_code (Option.none : Option Jvm.ClassFile.FieldType) E8 0 n (14, L, v :: S, H, cs, ss) := s_any k8_13
theorem s8_14 {n cs ss : Nat} {L : List Slot} {S : List Value} {H : AH} : orun prog_22_method_2_code (Option.none : Option Jvm.ClassFile.FieldType) E8 0 (n + 1) (14, L, S, H, cs, ss) = (aGet 0 0 S H cs ss).bind fun r => orun prog_22_method_2_code (Option.none : Option Jvm.ClassFile.FieldType) E8 0 n (17, L, r.1, r.2.1, r.2.2.1, r.2.2.2) := s_any k8_14
theorem s8_17 {n cs ss : Nat} {L : List Slot} {S : List Value} {H : AH} : orun prog_22_method_2_code (Option.none : Option Jvm.ClassFile.FieldType) E8 0 (n + 1) (17, L, S, H, cs, ss) = (gA L 0).bind fun v => orun prog_22_method_2_code (Option.none : Option Jvm.ClassFile.FieldType) E8 0 n (18, L, v :: S, H, cs, ss) := s_any k8_17
theorem s8_18 {n cs ss : Nat} {L : List Slot} {S : List Value} {H : AH} : orun prog_22_method_2_code (Option.none : Option Jvm.ClassFile.FieldType) E8 0 (n + 1) (18, L, S, H, cs, ss) = (aGet 0 2 S H cs ss).bind fun r => orun prog_22_method_2_code (Option.none : Option Jvm.ClassFile.FieldType) E8 0 n (21, L, r.1, r.2.1, r.2.2.1, r.2.2.2) := s_any k8_18
theorem s8_21 {n cs ss : Nat} {L : List Slot} {S : List Value} {H : AH} : orun prog_22_method_2_code (Option.none : Option Jvm.ClassFile.FieldType) E8 0 (n + 1) (21, L, S, H, cs, ss) = orun prog_22_method_2_code (Option.none : Option Jvm.ClassFile.FieldType) E8 0 n (22, L, (.int 2 :: S), H, cs, ss) := s_any k8_21
theorem s8_22 {n cs ss : Nat} {L : List Slot} {S : List Value} {H : AH} : orun prog_22_method_2_code (Option.none : Option Jvm.ClassFile.FieldType) E8 0 (n + 1) (22, L, S, H, cs, ss) = pI S fun y S => pI S fun x r => orun prog_22_method_2_code (Option.none : Option Jvm.ClassFile.FieldType) E8 0 n (23, L, .int (x * y) :: r, H, cs, ss) := s_any k8_22
theorem s8_23 {n cs ss : Nat} {L : List Slot} {S : List Value} {H : AH} : orun prog_22_method_2_code (Option.none : Option Jvm.ClassFile.FieldType) E8 0 (n + 1) (23, L, S, H, cs, ss) = (aCall 2 6 2 16 1 8 F3 S H cs ss).bind fun r => orun prog_22_method_2_code (Option.none : Option Jvm.ClassFile.FieldType) E8 0 n (26, L, r.1, r.2.1, r.2.2.1, r.2.2.2) := s_any k8_23
theorem s8_26 {n cs ss : Nat} {L : List Slot} {S : List Value} {H : AH} : orun prog_22_method_2_code (Option.none : Option Jvm.ClassFile.FieldType) E8 0 (n + 1) (26, L, S, H, cs, ss) = (aPut 0 0 0 (.array .int) S H cs ss).bind fun r => orun prog_22_method_2_code (Option.none : Option Jvm.ClassFile.FieldType) E8 0 n (29, L, r.1, r.2.1, r.2.2.1, r.2.2.2) := s_any k8_26
theorem s8_29 {n cs ss : Nat} {L : List Slot} {S : List Value} {H : AH} : orun prog_22_method_2_code (Option.none : Option Jvm.ClassFile.FieldType) E8 0 (n + 1) (29, L, S, H, cs, ss) = (gA L 0).bind fun v => orun prog_22_method_2_code (Option.none : Option Jvm.ClassFile.FieldType) E8 0 n (30, L, v :: S, H, cs, ss) := s_any k8_29
theorem s8_30 {n cs ss : Nat} {L : List Slot} {S : List Value} {H : AH} : orun prog_22_method_2_code (Option.none : Option Jvm.ClassFile.FieldType) E8 0 (n + 1) (30, L, S, H, cs, ss) = (gA L 0).bind fun v => orun prog_22_method_2_code (Option.none : Option Jvm.ClassFile.FieldType) E8 0 n (31, L, v :: S, H, cs, ss) := s_any k8_30
theorem s8_31 {n cs ss : Nat} {L : List Slot} {S : List Value} {H : AH} : orun prog_22_method_2_code (Option.none : Option Jvm.ClassFile.FieldType) E8 0 (n + 1) (31, L, S, H, cs, ss) = (aGet 0 1 S H cs ss).bind fun r => orun prog_22_method_2_code (Option.none : Option Jvm.ClassFile.FieldType) E8 0 n (34, L, r.1, r.2.1, r.2.2.1, r.2.2.2) := s_any k8_31
theorem s8_34 {n cs ss : Nat} {L : List Slot} {S : List Value} {H : AH} : orun prog_22_method_2_code (Option.none : Option Jvm.ClassFile.FieldType) E8 0 (n + 1) (34, L, S, H, cs, ss) = (gA L 0).bind fun v => orun prog_22_method_2_code (Option.none : Option Jvm.ClassFile.FieldType) E8 0 n (35, L, v :: S, H, cs, ss) := s_any k8_34
theorem s8_35 {n cs ss : Nat} {L : List Slot} {S : List Value} {H : AH} : orun prog_22_method_2_code (Option.none : Option Jvm.ClassFile.FieldType) E8 0 (n + 1) (35, L, S, H, cs, ss) = (aGet 0 2 S H cs ss).bind fun r => orun prog_22_method_2_code (Option.none : Option Jvm.ClassFile.FieldType) E8 0 n (38, L, r.1, r.2.1, r.2.2.1, r.2.2.2) := s_any k8_35
theorem s8_38 {n cs ss : Nat} {L : List Slot} {S : List Value} {H : AH} : orun prog_22_method_2_code (Option.none : Option Jvm.ClassFile.FieldType) E8 0 (n + 1) (38, L, S, H, cs, ss) = orun prog_22_method_2_code (Option.none : Option Jvm.ClassFile.FieldType) E8 0 n (39, L, (.int 2 :: S), H, cs, ss) := s_any k8_38
theorem s8_39 {n cs ss : Nat} {L : List Slot} {S : List Value} {H : AH} : orun prog_22_method_2_code (Option.none : Option Jvm.ClassFile.FieldType) E8 0 (n + 1) (39, L, S, H, cs, ss) = pI S fun y S => pI S fun x r => orun prog_22_method_2_code (Option.none : Option Jvm.ClassFile.FieldType) E8 0 n (40, L, .int (x * y) :: r, H, cs, ss) := s_any k8_39
theorem s8_40 {n cs ss : Nat} {L : List Slot} {S : List Value} {H : AH} : orun prog_22_method_2_code (Option.none : Option Jvm.ClassFile.FieldType) E8 0 (n + 1) (40, L, S, H, cs, ss) = (aCall 2 6 2 16 1 8 F3 S H cs ss).bind fun r => orun prog_22_method_2_code (Option.none : Option Jvm.ClassFile.FieldType) E8 0 n (43, L, r.1, r.2.1, r.2.2.1, r.2.2.2) := s_any k8_40
theorem s8_43 {n cs ss : Nat} {L : List Slot} {S : List Value} {H : AH} : orun prog_22_method_2_code (Option.none : Option Jvm.ClassFile.FieldType) E8 0 (n + 1) (43, L, S, H, cs, ss) = (aPut 0 0 1 (.array .int) S H cs ss).bind fun r => orun prog_22_method_2_code (Option.none : Option Jvm.ClassFile.FieldType) E8 0 n (46, L, r.1, r.2.1, r.2.2.1, r.2.2.2) := s_any k8_43
theorem s8_46 {n cs ss : Nat} {L : List Slot} {S : List Value} {H : AH} : orun prog_22_method_2_code (Option.none : Option Jvm.ClassFile.FieldType) E8 0 (n + 1) (46, L, S, H, cs, ss) = (gA L 0).bind fun v => orun prog_22_method_2_code (Option.none : Option Jvm.ClassFile.FieldType) E8 0 n (47, L, v :: S, H, cs, ss) := s_any k8_46
theorem s8_47 {n cs ss : Nat} {L : List Slot} {S : List Value} {H : AH} : orun prog_22_method_2_code (Option.none : Option Jvm.ClassFile.FieldType) E8 0 (n + 1) (47, L, S, H, cs, ss) = (aGet 0 0 S H cs ss).bind fun r => orun prog_22_method_2_code (Option.none : Option Jvm.ClassFile.FieldType) E8 0 n (50, L, r.1, r.2.1, r.2.2.1, r.2.2.2) := s_any k8_47
theorem s8_50 {n cs ss : Nat} {L : List Slot} {S : List Value} {H : AH} : orun prog_22_method_2_code (Option.none : Option Jvm.ClassFile.FieldType) E8 0 (n + 1) (50, L, S, H, cs, ss) = (gA L 0).bind fun v => orun prog_22_method_2_code (Option.none : Option Jvm.ClassFile.FieldType) E8 0 n (51, L, v :: S, H, cs, ss) := s_any k8_50
theorem s8_51 {n cs ss : Nat} {L : List Slot} {S : List Value} {H : AH} : orun prog_22_method_2_code (Option.none : Option Jvm.ClassFile.FieldType) E8 0 (n + 1) (51, L, S, H, cs, ss) = (aGet 0 2 S H cs ss).bind fun r => orun prog_22_method_2_code (Option.none : Option Jvm.ClassFile.FieldType) E8 0 n (54, L, r.1, r.2.1, r.2.2.1, r.2.2.2) := s_any k8_51
theorem s8_54 {n cs ss : Nat} {L : List Slot} {S : List Value} {H : AH} : orun prog_22_method_2_code (Option.none : Option Jvm.ClassFile.FieldType) E8 0 (n + 1) (54, L, S, H, cs, ss) = (gI L 1).bind fun v => orun prog_22_method_2_code (Option.none : Option Jvm.ClassFile.FieldType) E8 0 n (55, L, .int v :: S, H, cs, ss) := s_any k8_54
theorem s8_55 {n cs ss : Nat} {L : List Slot} {S : List Value} {H : AH} : orun prog_22_method_2_code (Option.none : Option Jvm.ClassFile.FieldType) E8 0 (n + 1) (55, L, S, H, cs, ss) = ex (Option.none : Option Jvm.ClassFile.FieldType) E8 0 (orun prog_22_method_2_code (Option.none : Option Jvm.ClassFile.FieldType) E8 0 n) (.iastore) 55 L S H cs ss := s_any k8_55
theorem s8_56 {n cs ss : Nat} {L : List Slot} {S : List Value} {H : AH} : orun prog_22_method_2_code (Option.none : Option Jvm.ClassFile.FieldType) E8 0 (n + 1) (56, L, S, H, cs, ss) = (gA L 0).bind fun v => orun prog_22_method_2_code (Option.none : Option Jvm.ClassFile.FieldType) E8 0 n (57, L, v :: S, H, cs, ss) := s_any k8_56
theorem s8_57 {n cs ss : Nat} {L : List Slot} {S : List Value} {H : AH} : orun prog_22_method_2_code (Option.none : Option Jvm.ClassFile.FieldType) E8 0 (n + 1) (57, L, S, H, cs, ss) = (aGet 0 1 S H cs ss).bind fun r => orun prog_22_method_2_code (Option.none : Option Jvm.ClassFile.FieldType) E8 0 n (60, L, r.1, r.2.1, r.2.2.1, r.2.2.2) := s_any k8_57
theorem s8_60 {n cs ss : Nat} {L : List Slot} {S : List Value} {H : AH} : orun prog_22_method_2_code (Option.none : Option Jvm.ClassFile.FieldType) E8 0 (n + 1) (60, L, S, H, cs, ss) = (gA L 0).bind fun v => orun prog_22_method_2_code (Option.none : Option Jvm.ClassFile.FieldType) E8 0 n (61, L, v :: S, H, cs, ss) := s_any k8_60
theorem s8_61 {n cs ss : Nat} {L : List Slot} {S : List Value} {H : AH} : orun prog_22_method_2_code (Option.none : Option Jvm.ClassFile.FieldType) E8 0 (n + 1) (61, L, S, H, cs, ss) = (aGet 0 2 S H cs ss).bind fun r => orun prog_22_method_2_code (Option.none : Option Jvm.ClassFile.FieldType) E8 0 n (64, L, r.1, r.2.1, r.2.2.1, r.2.2.2) := s_any k8_61
theorem s8_64 {n cs ss : Nat} {L : List Slot} {S : List Value} {H : AH} : orun prog_22_method_2_code (Option.none : Option Jvm.ClassFile.FieldType) E8 0 (n + 1) (64, L, S, H, cs, ss) = (gI L 2).bind fun v => orun prog_22_method_2_code (Option.none : Option Jvm.ClassFile.FieldType) E8 0 n (65, L, .int v :: S, H, cs, ss) := s_any k8_64
theorem s8_65 {n cs ss : Nat} {L : List Slot} {S : List Value} {H : AH} : orun prog_22_method_2_code (Option.none : Option Jvm.ClassFile.FieldType) E8 0 (n + 1) (65, L, S, H, cs, ss) = ex (Option.none : Option Jvm.ClassFile.FieldType) E8 0 (orun prog_22_method_2_code (Option.none : Option Jvm.ClassFile.FieldType) E8 0 n) (.iastore) 65 L S H cs ss := s_any k8_65
theorem s8_66 {n cs ss : Nat} {L : List Slot} {S : List Value} {H : AH} : orun prog_22_method_2_code (Option.none : Option Jvm.ClassFile.FieldType) E8 0 (n + 1) (66, L, S, H, cs, ss) = (gA L 0).bind fun v => orun prog_22_method_2_code (Option.none : Option Jvm.ClassFile.FieldType) E8 0 n (67, L, v :: S, H, cs, ss) := s_any k8_66
theorem s8_67 {n cs ss : Nat} {L : List Slot} {S : List Value} {H : AH} : orun prog_22_method_2_code (Option.none : Option Jvm.ClassFile.FieldType) E8 0 (n + 1) (67, L, S, H, cs, ss) = ex (Option.none : Option Jvm.ClassFile.FieldType) E8 0 (orun prog_22_method_2_code (Option.none : Option Jvm.ClassFile.FieldType) E8 0 n) (.dup) 67 L S H cs ss := s_any k8_67
theorem s8_68 {n cs ss : Nat} {L : List Slot} {S : List Value} {H : AH} : orun prog_22_method_2_code (Option.none : Option Jvm.ClassFile.FieldType) E8 0 (n + 1) (68, L, S, H, cs, ss) = (aGet 0 2 S H cs ss).bind fun r => orun prog_22_method_2_code (Option.none : Option Jvm.ClassFile.FieldType) E8 0 n (71, L, r.1, r.2.1, r.2.2.1, r.2.2.2) := s_any k8_68
theorem s8_71 {n cs ss : Nat} {L : List Slot} {S : List Value} {H : AH} : orun prog_22_method_2_code (Option.none : Option Jvm.ClassFile.FieldType) E8 0 (n + 1) (71, L, S, H, cs, ss) = orun prog_22_method_2_code (Option.none : Option Jvm.ClassFile.FieldType) E8 0 n (72, L, (.int 1 :: S), H, cs, ss) := s_any k8_71
theorem s8_72 {n cs ss : Nat} {L : List Slot} {S : List Value} {H : AH} : orun prog_22_method_2_code (Option.none : Option Jvm.ClassFile.FieldType) E8 0 (n + 1) (72, L, S, H, cs, ss) = pI S fun y S => pI S fun x r => orun prog_22_method_2_code (Option.none : Option Jvm.ClassFile.FieldType) E8 0 n (73, L, .int (x + y) :: r, H, cs, ss) := s_any k8_72
theorem s8_73 {n cs ss : Nat} {L : List Slot} {S : List Value} {H : AH} : orun prog_22_method_2_code (Option.none : Option Jvm.ClassFile.FieldType) E8 0 (n + 1) (73, L, S, H, cs, ss) = (aPut 0 0 2 .int S H cs ss).bind fun r => orun prog_22_method_2_code (Option.none : Option Jvm.ClassFile.FieldType) E8 0 n (76, L, r.1, r.2.1, r.2.2.1, r.2.2.2) := s_any k8_73
theorem s8_76 {n cs ss : Nat} {L : List Slot} {S : List Value} {H : AH} : orun prog_22_method_2_code (Option.none : Option Jvm.ClassFile.FieldType) E8 0 (n + 1) (76, L, S, H, cs, ss) = rV none S H := s_any k8_76
theorem t8_0 {go : Nat → St → Option ORes} (hgo : go = orun prog_22_method_2_code (Option.none : Option Jvm.ClassFile.FieldType) E8 0) {n cs ss : Nat} {l1 l2 : Slot} {S : List Value} {H : AH} {q : Option ORes → Prop} {v : Value} (hv : isA v = true) (h : Rsq (go n (1, [.val v, l1, l2], (v :: S), H, cs, ss)) q) : Rsq (go (n + 1) (0, [.val v, l1, l2], S, H, cs, ss)) q := by
  subst hgo
  refine res_of s8_0 ?_
  rw [gA_isA (L := [.val v, l1, l2]) (k := 0) (v := v) rfl hv]
  exact h
theorem u8_1 {go : Nat → St → Option ORes} (hgo : go = orun prog_22_method_2_code (Option.none : Option Jvm.ClassFile.FieldType) E8 0) {n cs ss : Nat} {L : List Slot} {S : List Value} {H : AH} : go (n + 1) (1, L, S, H, cs, ss) = (aGet 0 2 S H cs ss).bind fun r => go n (4, L, r.1, r.2.1, r.2.2.1, r.2.2.2) := by
  subst hgo
  exact s8_1
theorem t8_4 {go : Nat → St → Option ORes} (hgo : go = orun prog_22_method_2_code (Option.none : Option Jvm.ClassFile.FieldType) E8 0) {n cs ss : Nat} {l1 l2 : Slot} {S : List Value} {H : AH} {q : Option ORes → Prop} {v : Value} (hv : isA v = true) (h : Rsq (go n (5, [.val v, l1, l2], (v :: S), H, cs, ss)) q) : Rsq (go (n + 1) (4, [.val v, l1, l2], S, H, cs, ss)) q := by
  subst hgo
  refine res_of s8_4 ?_
  rw [gA_isA (L := [.val v, l1, l2]) (k := 0) (v := v) rfl hv]
  exact h
theorem u8_5 {go : Nat → St → Option ORes} (hgo : go = orun prog_22_method_2_code (Option.none : Option Jvm.ClassFile.FieldType) E8 0) {n cs ss : Nat} {L : List Slot} {S : List Value} {H : AH} : go (n + 1) (5, L, S, H, cs, ss) = (aGet 0 0 S H cs ss).bind fun r => go n (8, L, r.1, r.2.1, r.2.2.1, r.2.2.2) := by
  subst hgo
  exact s8_5
theorem u8_8 {go : Nat → St → Option ORes} (hgo : go = orun prog_22_method_2_code (Option.none : Option Jvm.ClassFile.FieldType) E8 0) {n cs ss : Nat} {L : List Slot} {S : List Value} {H : AH} : go (n + 1) (8, L, S, H, cs, ss) = pR S fun a r => (arr H a).bind fun q => go n (9, L, .int (ln q.2) :: r, H, cs, ss) := by
  subst hgo
  exact s8_8
theorem t8_9t {go : Nat → St → Option ORes} (hgo : go = orun prog_22_method_2_code (Option.none : Option Jvm.ClassFile.FieldType) E8 0) {n cs ss : Nat} {L : List Slot} {S : List Value} {H : AH} {q : Option ORes → Prop} {x y : Int32} (hc : x = y) (h : Rsq (go n (12, L, S, H, cs, ss)) q) : Rsq (go (n + 1) (9, L, (.int y :: .int x :: S), H, cs, ss)) q := by
  subst hgo
  exact res_of s8_9 (res_t hc h)
theorem t8_9f {go : Nat → St → Option ORes} (hgo : go = orun prog_22_method_2_code (Option.none : Option Jvm.ClassFile.FieldType) E8 0) {n cs ss : Nat} {L : List Slot} {S : List Value} {H : AH} {q : Option ORes → Prop} {x y : Int32} (hc : ¬ x = y) (h : Rsq (go n (46, L, S, H, cs, ss)) q) : Rsq (go (n + 1) (9, L, (.int y :: .int x :: S), H, cs, ss)) q := by
  subst hgo
  exact res_of s8_9 (res_f hc h)
theorem t8_12 {go : Nat → St → Option ORes} (hgo : go = orun prog_22_method_2_code (Option.none : Option Jvm.ClassFile.FieldType) E8 0) {n cs ss : Nat} {l1 l2 : Slot} {S : List Value} {H : AH} {q : Option ORes → Prop} {v : Value} (hv : isA v = true) (h : Rsq (go n (13, [.val v, l1, l2], (v :: S), H, cs, ss)) q) : Rsq (go (n + 1) (12, [.val v, l1, l2], S, H, cs, ss)) q := by
  subst hgo
  refine res_of s8_12 ?_
  rw [gA_isA (L := [.val v, l1, l2]) (k := 0) (v := v) rfl hv]
  exact h
theorem t8_13 {go : Nat → St → Option ORes} (hgo : go = orun prog_22_method_2_code (Option.none : Option Jvm.ClassFile.FieldType) E8 0) {n cs ss : Nat} {l1 l2 : Slot} {S : List Value} {H : AH} {q : Option ORes → Prop} {v : Value} (hv : isA v = true) (h : Rsq (go n (14, [.val v, l1, l2], (v :: S), H, cs, ss)) q) : Rsq (go (n + 1) (13, [.val v, l1, l2], S, H, cs, ss)) q := by
  subst hgo
  refine res_of s8_13 ?_
  rw [gA_isA (L := [.val v, l1, l2]) (k := 0) (v := v) rfl hv]
  exact h
theorem u8_14 {go : Nat → St → Option ORes} (hgo : go = orun prog_22_method_2_code (Option.none : Option Jvm.ClassFile.FieldType) E8 0) {n cs ss : Nat} {L : List Slot} {S : List Value} {H : AH} : go (n + 1) (14, L, S, H, cs, ss) = (aGet 0 0 S H cs ss).bind fun r => go n (17, L, r.1, r.2.1, r.2.2.1, r.2.2.2) := by
  subst hgo
  exact s8_14
theorem t8_17 {go : Nat → St → Option ORes} (hgo : go = orun prog_22_method_2_code (Option.none : Option Jvm.ClassFile.FieldType) E8 0) {n cs ss : Nat} {l1 l2 : Slot} {S : List Value} {H : AH} {q : Option ORes → Prop} {v : Value} (hv : isA v = true) (h : Rsq (go n (18, [.val v, l1, l2], (v :: S), H, cs, ss)) q) : Rsq (go (n + 1) (17, [.val v, l1, l2], S, H, cs, ss)) q := by
  subst hgo
  refine res_of s8_17 ?_
  rw [gA_isA (L := [.val v, l1, l2]) (k := 0) (v := v) rfl hv]
  exact h
theorem u8_18 {go : Nat → St → Option ORes} (hgo : go = orun prog_22_method_2_code (Option.none : Option Jvm.ClassFile.FieldType) E8 0) {n cs ss : Nat} {L : List Slot} {S : List Value} {H : AH} : go (n + 1) (18, L, S, H, cs, ss) = (aGet 0 2 S H cs ss).bind fun r => go n (21, L, r.1, r.2.1, r.2.2.1, r.2.2.2) := by
  subst hgo
  exact s8_18
theorem t8_21 {go : Nat → St → Option ORes} (hgo : go = orun prog_22_method_2_code (Option.none : Option Jvm.ClassFile.FieldType) E8 0) {n cs ss : Nat} {L : List Slot} {S : List Value} {H : AH} {q : Option ORes → Prop} (h : Rsq (go n (22, L, (.int 2 :: S), H, cs, ss)) q) : Rsq (go (n + 1) (21, L, S, H, cs, ss)) q := by
  subst hgo
  exact res_of s8_21 h
theorem t8_22 {go : Nat → St → Option ORes} (hgo : go = orun prog_22_method_2_code (Option.none : Option Jvm.ClassFile.FieldType) E8 0) {n cs ss : Nat} {L : List Slot} {S : List Value} {H : AH} {q : Option ORes → Prop} {x y : Int32} (h : Rsq (go n (23, L, (.int (x * y) :: S), H, cs, ss)) q) : Rsq (go (n + 1) (22, L, (.int y :: .int x :: S), H, cs, ss)) q := by
  subst hgo
  exact res_of s8_22 h
theorem u8_23 {go : Nat → St → Option ORes} (hgo : go = orun prog_22_method_2_code (Option.none : Option Jvm.ClassFile.FieldType) E8 0) {n cs ss : Nat} {L : List Slot} {S : List Value} {H : AH} : go (n + 1) (23, L, S, H, cs, ss) = (aCall 2 6 2 16 1 8 F3 S H cs ss).bind fun r => go n (26, L, r.1, r.2.1, r.2.2.1, r.2.2.2) := by
  subst hgo
  exact s8_23
theorem u8_26 {go : Nat → St → Option ORes} (hgo : go = orun prog_22_method_2_code (Option.none : Option Jvm.ClassFile.FieldType) E8 0) {n cs ss : Nat} {L : List Slot} {S : List Value} {H : AH} : go (n + 1) (26, L, S, H, cs, ss) = (aPut 0 0 0 (.array .int) S H cs ss).bind fun r => go n (29, L, r.1, r.2.1, r.2.2.1, r.2.2.2) := by
  subst hgo
  exact s8_26
theorem t8_29 {go : Nat → St → Option ORes} (hgo : go = orun prog_22_method_2_code (Option.none : Option Jvm.ClassFile.FieldType) E8 0) {n cs ss : Nat} {l1 l2 : Slot} {S : List Value} {H : AH} {q : Option ORes → Prop} {v : Value} (hv : isA v = true) (h : Rsq (go n (30, [.val v, l1, l2], (v :: S), H, cs, ss)) q) : Rsq (go (n + 1) (29, [.val v, l1, l2], S, H, cs, ss)) q := by
  subst hgo
  refine res_of s8_29 ?_
  rw [gA_isA (L := [.val v, l1, l2]) (k := 0) (v := v) rfl hv]
  exact h
theorem t8_30 {go : Nat → St → Option ORes} (hgo : go = orun prog_22_method_2_code (Option.none : Option Jvm.ClassFile.FieldType) E8 0) {n cs ss : Nat} {l1 l2 : Slot} {S : List Value} {H : AH} {q : Option ORes → Prop} {v : Value} (hv : isA v = true) (h : Rsq (go n (31, [.val v, l1, l2], (v :: S), H, cs, ss)) q) : Rsq (go (n + 1) (30, [.val v, l1, l2], S, H, cs, ss)) q := by
  subst hgo
  refine res_of s8_30 ?_
  rw [gA_isA (L := [.val v, l1, l2]) (k := 0) (v := v) rfl hv]
  exact h
theorem u8_31 {go : Nat → St → Option ORes} (hgo : go = orun prog_22_method_2_code (Option.none : Option Jvm.ClassFile.FieldType) E8 0) {n cs ss : Nat} {L : List Slot} {S : List Value} {H : AH} : go (n + 1) (31, L, S, H, cs, ss) = (aGet 0 1 S H cs ss).bind fun r => go n (34, L, r.1, r.2.1, r.2.2.1, r.2.2.2) := by
  subst hgo
  exact s8_31
theorem t8_34 {go : Nat → St → Option ORes} (hgo : go = orun prog_22_method_2_code (Option.none : Option Jvm.ClassFile.FieldType) E8 0) {n cs ss : Nat} {l1 l2 : Slot} {S : List Value} {H : AH} {q : Option ORes → Prop} {v : Value} (hv : isA v = true) (h : Rsq (go n (35, [.val v, l1, l2], (v :: S), H, cs, ss)) q) : Rsq (go (n + 1) (34, [.val v, l1, l2], S, H, cs, ss)) q := by
  subst hgo
  refine res_of s8_34 ?_
  rw [gA_isA (L := [.val v, l1, l2]) (k := 0) (v := v) rfl hv]
  exact h
theorem u8_35 {go : Nat → St → Option ORes} (hgo : go = orun prog_22_method_2_code (Option.none : Option Jvm.ClassFile.FieldType) E8 0) {n cs ss : Nat} {L : List Slot} {S : List Value} {H : AH} : go (n + 1) (35, L, S, H, cs, ss) = (aGet 0 2 S H cs ss).bind fun r => go n (38, L, r.1, r.2.1, r.2.2.1, r.2.2.2) := by
  subst hgo
  exact s8_35
theorem t8_38 {go : Nat → St → Option ORes} (hgo : go = orun prog_22_method_2_code (Option.none : Option Jvm.ClassFile.FieldType) E8 0) {n cs ss : Nat} {L : List Slot} {S : List Value} {H : AH} {q : Option ORes → Prop} (h : Rsq (go n (39, L, (.int 2 :: S), H, cs, ss)) q) : Rsq (go (n + 1) (38, L, S, H, cs, ss)) q := by
  subst hgo
  exact res_of s8_38 h
theorem t8_39 {go : Nat → St → Option ORes} (hgo : go = orun prog_22_method_2_code (Option.none : Option Jvm.ClassFile.FieldType) E8 0) {n cs ss : Nat} {L : List Slot} {S : List Value} {H : AH} {q : Option ORes → Prop} {x y : Int32} (h : Rsq (go n (40, L, (.int (x * y) :: S), H, cs, ss)) q) : Rsq (go (n + 1) (39, L, (.int y :: .int x :: S), H, cs, ss)) q := by
  subst hgo
  exact res_of s8_39 h
theorem u8_40 {go : Nat → St → Option ORes} (hgo : go = orun prog_22_method_2_code (Option.none : Option Jvm.ClassFile.FieldType) E8 0) {n cs ss : Nat} {L : List Slot} {S : List Value} {H : AH} : go (n + 1) (40, L, S, H, cs, ss) = (aCall 2 6 2 16 1 8 F3 S H cs ss).bind fun r => go n (43, L, r.1, r.2.1, r.2.2.1, r.2.2.2) := by
  subst hgo
  exact s8_40
theorem u8_43 {go : Nat → St → Option ORes} (hgo : go = orun prog_22_method_2_code (Option.none : Option Jvm.ClassFile.FieldType) E8 0) {n cs ss : Nat} {L : List Slot} {S : List Value} {H : AH} : go (n + 1) (43, L, S, H, cs, ss) = (aPut 0 0 1 (.array .int) S H cs ss).bind fun r => go n (46, L, r.1, r.2.1, r.2.2.1, r.2.2.2) := by
  subst hgo
  exact s8_43
theorem t8_46 {go : Nat → St → Option ORes} (hgo : go = orun prog_22_method_2_code (Option.none : Option Jvm.ClassFile.FieldType) E8 0) {n cs ss : Nat} {l1 l2 : Slot} {S : List Value} {H : AH} {q : Option ORes → Prop} {v : Value} (hv : isA v = true) (h : Rsq (go n (47, [.val v, l1, l2], (v :: S), H, cs, ss)) q) : Rsq (go (n + 1) (46, [.val v, l1, l2], S, H, cs, ss)) q := by
  subst hgo
  refine res_of s8_46 ?_
  rw [gA_isA (L := [.val v, l1, l2]) (k := 0) (v := v) rfl hv]
  exact h
theorem u8_47 {go : Nat → St → Option ORes} (hgo : go = orun prog_22_method_2_code (Option.none : Option Jvm.ClassFile.FieldType) E8 0) {n cs ss : Nat} {L : List Slot} {S : List Value} {H : AH} : go (n + 1) (47, L, S, H, cs, ss) = (aGet 0 0 S H cs ss).bind fun r => go n (50, L, r.1, r.2.1, r.2.2.1, r.2.2.2) := by
  subst hgo
  exact s8_47
theorem t8_50 {go : Nat → St → Option ORes} (hgo : go = orun prog_22_method_2_code (Option.none : Option Jvm.ClassFile.FieldType) E8 0) {n cs ss : Nat} {l1 l2 : Slot} {S : List Value} {H : AH} {q : Option ORes → Prop} {v : Value} (hv : isA v = true) (h : Rsq (go n (51, [.val v, l1, l2], (v :: S), H, cs, ss)) q) : Rsq (go (n + 1) (50, [.val v, l1, l2], S, H, cs, ss)) q := by
  subst hgo
  refine res_of s8_50 ?_
  rw [gA_isA (L := [.val v, l1, l2]) (k := 0) (v := v) rfl hv]
  exact h
theorem u8_51 {go : Nat → St → Option ORes} (hgo : go = orun prog_22_method_2_code (Option.none : Option Jvm.ClassFile.FieldType) E8 0) {n cs ss : Nat} {L : List Slot} {S : List Value} {H : AH} : go (n + 1) (51, L, S, H, cs, ss) = (aGet 0 2 S H cs ss).bind fun r => go n (54, L, r.1, r.2.1, r.2.2.1, r.2.2.2) := by
  subst hgo
  exact s8_51
theorem t8_54 {go : Nat → St → Option ORes} (hgo : go = orun prog_22_method_2_code (Option.none : Option Jvm.ClassFile.FieldType) E8 0) {n cs ss : Nat} {l0 l2 : Slot} {S : List Value} {H : AH} {q : Option ORes → Prop} {v : Int32} (h : Rsq (go n (55, [l0, .val (.int v), l2], (.int v :: S), H, cs, ss)) q) : Rsq (go (n + 1) (54, [l0, .val (.int v), l2], S, H, cs, ss)) q := by
  subst hgo
  exact res_of s8_54 h
theorem u8_55 {go : Nat → St → Option ORes} (hgo : go = orun prog_22_method_2_code (Option.none : Option Jvm.ClassFile.FieldType) E8 0) {n cs ss : Nat} {L : List Slot} {S : List Value} {H : AH} : go (n + 1) (55, L, S, H, cs, ss) = ex (Option.none : Option Jvm.ClassFile.FieldType) E8 0 (go n) (.iastore) 55 L S H cs ss := by
  subst hgo
  exact s8_55
theorem t8_56 {go : Nat → St → Option ORes} (hgo : go = orun prog_22_method_2_code (Option.none : Option Jvm.ClassFile.FieldType) E8 0) {n cs ss : Nat} {l1 l2 : Slot} {S : List Value} {H : AH} {q : Option ORes → Prop} {v : Value} (hv : isA v = true) (h : Rsq (go n (57, [.val v, l1, l2], (v :: S), H, cs, ss)) q) : Rsq (go (n + 1) (56, [.val v, l1, l2], S, H, cs, ss)) q := by
  subst hgo
  refine res_of s8_56 ?_
  rw [gA_isA (L := [.val v, l1, l2]) (k := 0) (v := v) rfl hv]
  exact h
theorem u8_57 {go : Nat → St → Option ORes} (hgo : go = orun prog_22_method_2_code (Option.none : Option Jvm.ClassFile.FieldType) E8 0) {n cs ss : Nat} {L : List Slot} {S : List Value} {H : AH} : go (n + 1) (57, L, S, H, cs, ss) = (aGet 0 1 S H cs ss).bind fun r => go n (60, L, r.1, r.2.1, r.2.2.1, r.2.2.2) := by
  subst hgo
  exact s8_57
theorem t8_60 {go : Nat → St → Option ORes} (hgo : go = orun prog_22_method_2_code (Option.none : Option Jvm.ClassFile.FieldType) E8 0) {n cs ss : Nat} {l1 l2 : Slot} {S : List Value} {H : AH} {q : Option ORes → Prop} {v : Value} (hv : isA v = true) (h : Rsq (go n (61, [.val v, l1, l2], (v :: S), H, cs, ss)) q) : Rsq (go (n + 1) (60, [.val v, l1, l2], S, H, cs, ss)) q := by
  subst hgo
  refine res_of s8_60 ?_
  rw [gA_isA (L := [.val v, l1, l2]) (k := 0) (v := v) rfl hv]
  exact h
theorem u8_61 {go : Nat → St → Option ORes} (hgo : go = orun prog_22_method_2_code (Option.none : Option Jvm.ClassFile.FieldType) E8 0) {n cs ss : Nat} {L : List Slot} {S : List Value} {H : AH} : go (n + 1) (61, L, S, H, cs, ss) = (aGet 0 2 S H cs ss).bind fun r => go n (64, L, r.1, r.2.1, r.2.2.1, r.2.2.2) := by
  subst hgo
  exact s8_61
theorem t8_64 {go : Nat → St → Option ORes} (hgo : go = orun prog_22_method_2_code (Option.none : Option Jvm.ClassFile.FieldType) E8 0) {n cs ss : Nat} {l0 l1 : Slot} {S : List Value} {H : AH} {q : Option ORes → Prop} {v : Int32} (h : Rsq (go n (65, [l0, l1, .val (.int v)], (.int v :: S), H, cs, ss)) q) : Rsq (go (n + 1) (64, [l0, l1, .val (.int v)], S, H, cs, ss)) q := by
  subst hgo
  exact res_of s8_64 h
theorem u8_65 {go : Nat → St → Option ORes} (hgo : go = orun prog_22_method_2_code (Option.none : Option Jvm.ClassFile.FieldType) E8 0) {n cs ss : Nat} {L : List Slot} {S : List Value} {H : AH} : go (n + 1) (65, L, S, H, cs, ss) = ex (Option.none : Option Jvm.ClassFile.FieldType) E8 0 (go n) (.iastore) 65 L S H cs ss := by
  subst hgo
  exact s8_65
theorem t8_66 {go : Nat → St → Option ORes} (hgo : go = orun prog_22_method_2_code (Option.none : Option Jvm.ClassFile.FieldType) E8 0) {n cs ss : Nat} {l1 l2 : Slot} {S : List Value} {H : AH} {q : Option ORes → Prop} {v : Value} (hv : isA v = true) (h : Rsq (go n (67, [.val v, l1, l2], (v :: S), H, cs, ss)) q) : Rsq (go (n + 1) (66, [.val v, l1, l2], S, H, cs, ss)) q := by
  subst hgo
  refine res_of s8_66 ?_
  rw [gA_isA (L := [.val v, l1, l2]) (k := 0) (v := v) rfl hv]
  exact h
theorem t8_67 {go : Nat → St → Option ORes} (hgo : go = orun prog_22_method_2_code (Option.none : Option Jvm.ClassFile.FieldType) E8 0) {n cs ss : Nat} {L : List Slot} {S : List Value} {H : AH} {q : Option ORes → Prop} {v : Value} (hv : isS v = true) (h : Rsq (go n (68, L, (v :: v :: S), H, cs, ss)) q) : Rsq (go (n + 1) (67, L, (v :: S), H, cs, ss)) q := by
  subst hgo
  refine res_of s8_67 ?_
  rw [ex_dup, p1_isS hv]
  exact h
theorem u8_68 {go : Nat → St → Option ORes} (hgo : go = orun prog_22_method_2_code (Option.none : Option Jvm.ClassFile.FieldType) E8 0) {n cs ss : Nat} {L : List Slot} {S : List Value} {H : AH} : go (n + 1) (68, L, S, H, cs, ss) = (aGet 0 2 S H cs ss).bind fun r => go n (71, L, r.1, r.2.1, r.2.2.1, r.2.2.2) := by
  subst hgo
  exact s8_68
theorem t8_71 {go : Nat → St → Option ORes} (hgo : go = orun prog_22_method_2_code (Option.none : Option Jvm.ClassFile.FieldType) E8 0) {n cs ss : Nat} {L : List Slot} {S : List Value} {H : AH} {q : Option ORes → Prop} (h : Rsq (go n (72, L, (.int 1 :: S), H, cs, ss)) q) : Rsq (go (n + 1) (71, L, S, H, cs, ss)) q := by
  subst hgo
  exact res_of s8_71 h
theorem t8_72 {go : Nat → St → Option ORes} (hgo : go = orun prog_22_method_2_code (Option.none : Option Jvm.ClassFile.FieldType) E8 0) {n cs ss : Nat} {L : List Slot} {S : List Value} {H : AH} {q : Option ORes → Prop} {x y : Int32} (h : Rsq (go n (73, L, (.int (x + y) :: S), H, cs, ss)) q) : Rsq (go (n + 1) (72, L, (.int y :: .int x :: S), H, cs, ss)) q := by
  subst hgo
  exact res_of s8_72 h
theorem u8_73 {go : Nat → St → Option ORes} (hgo : go = orun prog_22_method_2_code (Option.none : Option Jvm.ClassFile.FieldType) E8 0) {n cs ss : Nat} {L : List Slot} {S : List Value} {H : AH} : go (n + 1) (73, L, S, H, cs, ss) = (aPut 0 0 2 .int S H cs ss).bind fun r => go n (76, L, r.1, r.2.1, r.2.2.1, r.2.2.2) := by
  subst hgo
  exact s8_73
theorem t8_76 {go : Nat → St → Option ORes} (hgo : go = orun prog_22_method_2_code (Option.none : Option Jvm.ClassFile.FieldType) E8 0) {n cs ss : Nat} {L : List Slot} {H : AH} {q : Option ORes → Prop} (h : q (some (none, H))) : Rsq (go (n + 1) (76, L, [], H, cs, ss)) q := by
  subst hgo
  exact res_of s8_76 h
theorem f5_in {x0 : Nat} {x1 : Nat} {x2 : Nat} {H : AH} : F5 [.ref x0, .ref x1, .ref x2] H = orun prog_21_method_1_code (Option.none : Option Jvm.ClassFile.FieldType) E5 0 58 (0, [.val (.ref x0), .val (.ref x1), .val (.ref x2)], [], H, 0, 0) := rfl
theorem s5_0 {n cs ss : Nat} {L : List Slot} {S : List Value} {H : AH} : orun prog_21_method_1_code (Option.none : Option Jvm.ClassFile.FieldType) E5 0 (n + 1) (0, L, S, H, cs, ss) = (gA L 0).bind fun v => orun prog_21_method_1_code (Option.none : Option Jvm.ClassFile.FieldType) E5 0 n (1, L, v :: S, H, cs, ss) := s_any k5_0
theorem s5_1 {n cs ss : Nat} {L : List Slot} {S : List Value} {H : AH} : orun prog_21_method_1_code (Option.none : Option Jvm.ClassFile.FieldType) E5 0 (n + 1) (1, L, S, H, cs, ss) = (aObj 6 S H cs ss).bind fun r => orun prog_21_method_1_code (Option.none : Option Jvm.ClassFile.FieldType) E5 0 n (4, L, r.1, r.2.1, r.2.2.1, r.2.2.2) := s_any k5_1
theorem s5_4 {n cs ss : Nat} {L : List Slot} {S : List Value} {H : AH} : orun prog_21_method_1_code (Option.none : Option Jvm.ClassFile.FieldType) E5 0 (n + 1) (4, L, S, H, cs, ss) = (gA L 0).bind fun v => orun prog_21_method_1_code (Option.none : Option Jvm.ClassFile.FieldType) E5 0 n (5, L, v :: S, H, cs, ss) := s_any k5_4
theorem s5_5 {n cs ss : Nat} {L : List Slot} {S : List Value} {H : AH} : orun prog_21_method_1_code (Option.none : Option Jvm.ClassFile.FieldType) E5 0 (n + 1) (5, L, S, H, cs, ss) = (gA L 1).bind fun v => orun prog_21_method_1_code (Option.none : Option Jvm.ClassFile.FieldType) E5 0 n (6, L, v :: S, H, cs, ss) := s_any k5_5
theorem s5_6 {n cs ss : Nat} {L : List Slot} {S : List Value} {H : AH} : orun prog_21_method_1_code (Option.none : Option Jvm.ClassFile.FieldType) E5 0 (n + 1) (6, L, S, H, cs, ss) = (aPut 0 1 0 (.array .int) S H cs ss).bind fun r => orun prog_21_method_1_code (Option.none : Option Jvm.ClassFile.FieldType) E5 0 n (9, L, r.1, r.2.1, r.2.2.1, r.2.2.2) := s_any k5_6
theorem s5_9 {n cs ss : Nat} {L : List Slot} {S : List Value} {H : AH} : orun prog_21_method_1_code (Option.none : Option Jvm.ClassFile.FieldType) E5 0 (n + 1) (9, L, S, H, cs, ss) = (gA L 0).bind fun v => orun prog_21_method_1_code (Option.none : Option Jvm.ClassFile.FieldType) E5 0 n (10, L, v :: S, H, cs, ss) := s_any k5_9
theorem s5_10 {n cs ss : Nat} {L : List Slot} {S : List Value} {H : AH} : orun prog_21_method_1_code (Option.none : Option Jvm.ClassFile.FieldType) E5 0 (n + 1) (10, L, S, H, cs, ss) = (gA L 2).bind fun v => orun prog_21_method_1_code (Option.none : Option Jvm.ClassFile.FieldType) E5 0 n (11, L, v :: S, H, cs, ss) := s_any k5_10
theorem s5_11 {n cs ss : Nat} {L : List Slot} {S : List Value} {H : AH} : orun prog_21_method_1_code (Option.none : Option Jvm.ClassFile.FieldType) E5 0 (n + 1) (11, L, S, H, cs, ss) = (aPut 0 1 1 (.array .int) S H cs ss).bind fun r => orun prog_21_method_1_code (Option.none : Option Jvm.ClassFile.FieldType) E5 0 n (14, L, r.1, r.2.1, r.2.2.1, r.2.2.2) := s_any k5_11
theorem s5_14 {n cs ss : Nat} {L : List Slot} {S : List Value} {H : AH} : orun prog_21_method_1_code (Option.none : Option Jvm.ClassFile.FieldType) E5 0 (n + 1) (14, L, S, H, cs, ss) = rV none S H := s_any k5_14
theorem t5_0 {go : Nat → St → Option ORes} (hgo : go = orun prog_21_method_1_code (Option.none : Option Jvm.ClassFile.FieldType) E5 0) {n cs ss : Nat} {l1 l2 : Slot} {S : List Value} {H : AH} {q : Option ORes → Prop} {v : Value} (hv : isA v = true) (h : Rsq (go n (1, [.val v, l1, l2], (v :: S), H, cs, ss)) q) : Rsq (go (n + 1) (0, [.val v, l1, l2], S, H, cs, ss)) q := by
  subst hgo
  refine res_of s5_0 ?_
  rw [gA_isA (L := [.val v, l1, l2]) (k := 0) (v := v) rfl hv]
  exact h
theorem u5_1 {go : Nat → St → Option ORes} (hgo : go = orun prog_21_method_1_code (Option.none : Option Jvm.ClassFile.FieldType) E5 0) {n cs ss : Nat} {L : List Slot} {S : List Value} {H : AH} : go (n + 1) (1, L, S, H, cs, ss) = (aObj 6 S H cs ss).bind fun r => go n (4, L, r.1, r.2.1, r.2.2.1, r.2.2.2) := by
  subst hgo
  exact s5_1
theorem t5_4 {go : Nat → St → Option ORes} (hgo : go = orun prog_21_method_1_code (Option.none : Option Jvm.ClassFile.FieldType) E5 0) {n cs ss : Nat} {l1 l2 : Slot} {S : List Value} {H : AH} {q : Option ORes → Prop} {v : Value} (hv : isA v = true) (h : Rsq (go n (5, [.val v, l1, l2], (v :: S), H, cs, ss)) q) : Rsq (go (n + 1) (4, [.val v, l1, l2], S, H, cs, ss)) q := by
  subst hgo
  refine res_of s5_4 ?_
  rw [gA_isA (L := [.val v, l1, l2]) (k := 0) (v := v) rfl hv]
  exact h
theorem t5_5 {go : Nat → St → Option ORes} (hgo : go = orun prog_21_method_1_code (Option.none : Option Jvm.ClassFile.FieldType) E5 0) {n cs ss : Nat} {l0 l2 : Slot} {S : List Value} {H : AH} {q : Option ORes → Prop} {v : Value} (hv : isA v = true) (h : Rsq (go n (6, [l0, .val v, l2], (v :: S), H, cs, ss)) q) : Rsq (go (n + 1) (5, [l0, .val v, l2], S, H, cs, ss)) q := by
  subst hgo
  refine res_of s5_5 ?_
  rw [gA_isA (L := [l0, .val v, l2]) (k := 1) (v := v) rfl hv]
  exact h
theorem u5_6 {go : Nat → St → Option ORes} (hgo : go = orun prog_21_method_1_code (Option.none : Option Jvm.ClassFile.FieldType) E5 0) {n cs ss : Nat} {L : List Slot} {S : List Value} {H : AH} : go (n + 1) (6, L, S, H, cs, ss) = (aPut 0 1 0 (.array .int) S H cs ss).bind fun r => go n (9, L, r.1, r.2.1, r.2.2.1, r.2.2.2) := by
  subst hgo
  exact s5_6
theorem t5_9 {go : Nat → St → Option ORes} (hgo : go = orun prog_21_method_1_code (Option.none : Option Jvm.ClassFile.FieldType) E5 0) {n cs ss : Nat} {l1 l2 : Slot} {S : List Value} {H : AH} {q : Option ORes → Prop} {v : Value} (hv : isA v = true) (h : Rsq (go n (10, [.val v, l1, l2], (v :: S), H, cs, ss)) q) : Rsq (go (n + 1) (9, [.val v, l1, l2], S, H, cs, ss)) q := by
  subst hgo
  refine res_of s5_9 ?_
  rw [gA_isA (L := [.val v, l1, l2]) (k := 0) (v := v) rfl hv]
  exact h
theorem t5_10 {go : Nat → St → Option ORes} (hgo : go = orun prog_21_method_1_code (Option.none : Option Jvm.ClassFile.FieldType) E5 0) {n cs ss : Nat} {l0 l1 : Slot} {S : List Value} {H : AH} {q : Option ORes → Prop} {v : Value} (hv : isA v = true) (h : Rsq (go n (11, [l0, l1, .val v], (v :: S), H, cs, ss)) q) : Rsq (go (n + 1) (10, [l0, l1, .val v], S, H, cs, ss)) q := by
  subst hgo
  refine res_of s5_10 ?_
  rw [gA_isA (L := [l0, l1, .val v]) (k := 2) (v := v) rfl hv]
  exact h
theorem u5_11 {go : Nat → St → Option ORes} (hgo : go = orun prog_21_method_1_code (Option.none : Option Jvm.ClassFile.FieldType) E5 0) {n cs ss : Nat} {L : List Slot} {S : List Value} {H : AH} : go (n + 1) (11, L, S, H, cs, ss) = (aPut 0 1 1 (.array .int) S H cs ss).bind fun r => go n (14, L, r.1, r.2.1, r.2.2.1, r.2.2.2) := by
  subst hgo
  exact s5_11
theorem t5_14 {go : Nat → St → Option ORes} (hgo : go = orun prog_21_method_1_code (Option.none : Option Jvm.ClassFile.FieldType) E5 0) {n cs ss : Nat} {L : List Slot} {H : AH} {q : Option ORes → Prop} (h : q (some (none, H))) : Rsq (go (n + 1) (14, L, [], H, cs, ss)) q := by
  subst hgo
  exact res_of s5_14 h
theorem f2_in {x0 : Nat} {H : AH} : F2 [.ref x0] H = orun prog_22_method_3_code (Option.some (Jvm.ClassFile.FieldType.object "com/example/mithi/mithi/index/Postings")) E2 0 68 (0, [.val (.ref x0)], [], H, 0, 0) := rfl
theorem s2_0 {n cs ss : Nat} {L : List Slot} {S : List Value} {H : AH} : orun prog_22_method_3_code (Option.some (Jvm.ClassFile.FieldType.object "com/example/mithi/mithi/index/Postings")) E2 0 (n + 1) (0, L, S, H, cs, ss) = (aNew 1 2 3 18 [.null, .null] S H cs ss).bind fun r => orun prog_22_method_3_code (Option.some (Jvm.ClassFile.FieldType.object "com/example/mithi/mithi/index/Postings")) E2 0 n (3, L, r.1, r.2.1, r.2.2.1, r.2.2.2) := s_any k2_0
theorem s2_3 {n cs ss : Nat} {L : List Slot} {S : List Value} {H : AH} : orun prog_22_method_3_code (Option.some (Jvm.ClassFile.FieldType.object "com/example/mithi/mithi/index/Postings")) E2 0 (n + 1) (3, L, S, H, cs, ss) = ex (Option.some (Jvm.ClassFile.FieldType.object "com/example/mithi/mithi/index/Postings")) E2 0 (orun prog_22_method_3_code (Option.some (Jvm.ClassFile.FieldType.object "com/example/mithi/mithi/index/Postings")) E2 0 n) (.dup) 3 L S H cs ss := s_any k2_3
theorem s2_4 {n cs ss : Nat} {L : List Slot} {S : List Value} {H : AH} : orun prog_22_method_3_code (Option.some (Jvm.ClassFile.FieldType.object "com/example/mithi/mithi/index/Postings")) E2 0 (n + 1) (4, L, S, H, cs, ss) = (gA L 0).bind fun v => orun prog_22_method_3_code (Option.some (Jvm.ClassFile.FieldType.object "com/example/mithi/mithi/index/Postings")) E2 0 n (5, L, v :: S, H, cs, ss) := s_any k2_4
theorem s2_5 {n cs ss : Nat} {L : List Slot} {S : List Value} {H : AH} : orun prog_22_method_3_code (Option.some (Jvm.ClassFile.FieldType.object "com/example/mithi/mithi/index/Postings")) E2 0 (n + 1) (5, L, S, H, cs, ss) = (aGet 0 0 S H cs ss).bind fun r => orun prog_22_method_3_code (Option.some (Jvm.ClassFile.FieldType.object "com/example/mithi/mithi/index/Postings")) E2 0 n (8, L, r.1, r.2.1, r.2.2.1, r.2.2.2) := s_any k2_5
theorem s2_8 {n cs ss : Nat} {L : List Slot} {S : List Value} {H : AH} : orun prog_22_method_3_code (Option.some (Jvm.ClassFile.FieldType.object "com/example/mithi/mithi/index/Postings")) E2 0 (n + 1) (8, L, S, H, cs, ss) = (gA L 0).bind fun v => orun prog_22_method_3_code (Option.some (Jvm.ClassFile.FieldType.object "com/example/mithi/mithi/index/Postings")) E2 0 n (9, L, v :: S, H, cs, ss) := s_any k2_8
theorem s2_9 {n cs ss : Nat} {L : List Slot} {S : List Value} {H : AH} : orun prog_22_method_3_code (Option.some (Jvm.ClassFile.FieldType.object "com/example/mithi/mithi/index/Postings")) E2 0 (n + 1) (9, L, S, H, cs, ss) = (aGet 0 2 S H cs ss).bind fun r => orun prog_22_method_3_code (Option.some (Jvm.ClassFile.FieldType.object "com/example/mithi/mithi/index/Postings")) E2 0 n (12, L, r.1, r.2.1, r.2.2.1, r.2.2.2) := s_any k2_9
theorem s2_12 {n cs ss : Nat} {L : List Slot} {S : List Value} {H : AH} : orun prog_22_method_3_code (Option.some (Jvm.ClassFile.FieldType.object "com/example/mithi/mithi/index/Postings")) E2 0 (n + 1) (12, L, S, H, cs, ss) = (aCall 2 6 3 18 1 8 F3 S H cs ss).bind fun r => orun prog_22_method_3_code (Option.some (Jvm.ClassFile.FieldType.object "com/example/mithi/mithi/index/Postings")) E2 0 n (15, L, r.1, r.2.1, r.2.2.1, r.2.2.2) := s_any k2_12
theorem s2_15 {n cs ss : Nat} {L : List Slot} {S : List Value} {H : AH} : orun prog_22_method_3_code (Option.some (Jvm.ClassFile.FieldType.object "com/example/mithi/mithi/index/Postings")) E2 0 (n + 1) (15, L, S, H, cs, ss) = (gA L 0).bind fun v => orun prog_22_method_3_code (Option.some (Jvm.ClassFile.FieldType.object "com/example/mithi/mithi/index/Postings")) E2 0 n (16, L, v :: S, H, cs, ss) := s_any k2_15
theorem s2_16 {n cs ss : Nat} {L : List Slot} {S : List Value} {H : AH} : orun prog_22_method_3_code (Option.some (Jvm.ClassFile.FieldType.object "com/example/mithi/mithi/index/Postings")) E2 0 (n + 1) (16, L, S, H, cs, ss) = (aGet 0 1 S H cs ss).bind fun r => orun prog_22_method_3_code (Option.some (Jvm.ClassFile.FieldType.object "com/example/mithi/mithi/index/Postings")) E2 0 n (19, L, r.1, r.2.1, r.2.2.1, r.2.2.2) := s_any k2_16
theorem s2_19 {n cs ss : Nat} {L : List Slot} {S : List Value} {H : AH} : orun prog_22_method_3_code (Option.some (Jvm.ClassFile.FieldType.object "com/example/mithi/mithi/index/Postings")) E2 0 (n + 1) (19, L, S, H, cs, ss) = (gA L 0).bind fun v => orun prog_22_method_3_code (Option.some (Jvm.ClassFile.FieldType.object "com/example/mithi/mithi/index/Postings")) E2 0 n (20, L, v :: S, H, cs, ss) := s_any k2_19
theorem s2_20 {n cs ss : Nat} {L : List Slot} {S : List Value} {H : AH} : orun prog_22_method_3_code (Option.some (Jvm.ClassFile.FieldType.object "com/example/mithi/mithi/index/Postings")) E2 0 (n + 1) (20, L, S, H, cs, ss) = (aGet 0 2 S H cs ss).bind fun r => orun prog_22_method_3_code (Option.some (Jvm.ClassFile.FieldType.object "com/example/mithi/mithi/index/Postings")) E2 0 n (23, L, r.1, r.2.1, r.2.2.1, r.2.2.2) := s_any k2_20
theorem s2_23 {n cs ss : Nat} {L : List Slot} {S : List Value} {H : AH} : orun prog_22_method_3_code (Option.some (Jvm.ClassFile.FieldType.object "com/example/mithi/mithi/index/Postings")) E2 0 (n + 1) (23, L, S, H, cs, ss) = (aCall 2 6 3 18 1 8 F3 S H cs ss).bind fun r => orun prog_22_method_3_code (Option.some (Jvm.ClassFile.FieldType.object "com/example/mithi/mithi/index/Postings")) E2 0 n (26, L, r.1, r.2.1, r.2.2.1, r.2.2.2) := s_any k2_23
theorem s2_26 {n cs ss : Nat} {L : List Slot} {S : List Value} {H : AH} : orun prog_22_method_3_code (Option.some (Jvm.ClassFile.FieldType.object "com/example/mithi/mithi/index/Postings")) E2 0 (n + 1) (26, L, S, H, cs, ss) = (aRecv 2 1 6 3 18 0 0 F5 S H cs ss).bind fun r => orun prog_22_method_3_code (Option.some (Jvm.ClassFile.FieldType.object "com/example/mithi/mithi/index/Postings")) E2 0 n (29, L, r.1, r.2.1, r.2.2.1, r.2.2.2) := s_any k2_26
theorem s2_29 {n cs ss : Nat} {L : List Slot} {S : List Value} {H : AH} : orun prog_22_method_3_code (Option.some (Jvm.ClassFile.FieldType.object "com/example/mithi/mithi/index/Postings")) E2 0 (n + 1) (29, L, S, H, cs, ss) = pA S fun z _ => some (some z, H) := s_any k2_29
theorem u2_0 {go : Nat → St → Option ORes} (hgo : go = orun prog_22_method_3_code (Option.some (Jvm.ClassFile.FieldType.object "com/example/mithi/mithi/index/Postings")) E2 0) {n cs ss : Nat} {L : List Slot} {S : List Value} {H : AH} : go (n + 1) (0, L, S, H, cs, ss) = (aNew 1 2 3 18 [.null, .null] S H cs ss).bind fun r => go n (3, L, r.1, r.2.1, r.2.2.1, r.2.2.2) := by
  subst hgo
  exact s2_0
theorem t2_3 {go : Nat → St → Option ORes} (hgo : go = orun prog_22_method_3_code (Option.some (Jvm.ClassFile.FieldType.object "com/example/mithi/mithi/index/Postings")) E2 0) {n cs ss : Nat} {L : List Slot} {S : List Value} {H : AH} {q : Option ORes → Prop} {v : Value} (hv : isS v = true) (h : Rsq (go n (4, L, (v :: v :: S), H, cs, ss)) q) : Rsq (go (n + 1) (3, L, (v :: S), H, cs, ss)) q := by
  subst hgo
  refine res_of s2_3 ?_
  rw [ex_dup, p1_isS hv]
  exact h
theorem t2_4 {go : Nat → St → Option ORes} (hgo : go = orun prog_22_method_3_code (Option.some (Jvm.ClassFile.FieldType.object "com/example/mithi/mithi/index/Postings")) E2 0) {n cs ss : Nat} {S : List Value} {H : AH} {q : Option ORes → Prop} {v : Value} (hv : isA v = true) (h : Rsq (go n (5, [.val v], (v :: S), H, cs, ss)) q) : Rsq (go (n + 1) (4, [.val v], S, H, cs, ss)) q := by
  subst hgo
  refine res_of s2_4 ?_
  rw [gA_isA (L := [.val v]) (k := 0) (v := v) rfl hv]
  exact h
theorem u2_5 {go : Nat → St → Option ORes} (hgo : go = orun prog_22_method_3_code (Option.some (Jvm.ClassFile.FieldType.object "com/example/mithi/mithi/index/Postings")) E2 0) {n cs ss : Nat} {L : List Slot} {S : List Value} {H : AH} : go (n + 1) (5, L, S, H, cs, ss) = (aGet 0 0 S H cs ss).bind fun r => go n (8, L, r.1, r.2.1, r.2.2.1, r.2.2.2) := by
  subst hgo
  exact s2_5
theorem t2_8 {go : Nat → St → Option ORes} (hgo : go = orun prog_22_method_3_code (Option.some (Jvm.ClassFile.FieldType.object "com/example/mithi/mithi/index/Postings")) E2 0) {n cs ss : Nat} {S : List Value} {H : AH} {q : Option ORes → Prop} {v : Value} (hv : isA v = true) (h : Rsq (go n (9, [.val v], (v :: S), H, cs, ss)) q) : Rsq (go (n + 1) (8, [.val v], S, H, cs, ss)) q := by
  subst hgo
  refine res_of s2_8 ?_
  rw [gA_isA (L := [.val v]) (k := 0) (v := v) rfl hv]
  exact h
theorem u2_9 {go : Nat → St → Option ORes} (hgo : go = orun prog_22_method_3_code (Option.some (Jvm.ClassFile.FieldType.object "com/example/mithi/mithi/index/Postings")) E2 0) {n cs ss : Nat} {L : List Slot} {S : List Value} {H : AH} : go (n + 1) (9, L, S, H, cs, ss) = (aGet 0 2 S H cs ss).bind fun r => go n (12, L, r.1, r.2.1, r.2.2.1, r.2.2.2) := by
  subst hgo
  exact s2_9
theorem u2_12 {go : Nat → St → Option ORes} (hgo : go = orun prog_22_method_3_code (Option.some (Jvm.ClassFile.FieldType.object "com/example/mithi/mithi/index/Postings")) E2 0) {n cs ss : Nat} {L : List Slot} {S : List Value} {H : AH} : go (n + 1) (12, L, S, H, cs, ss) = (aCall 2 6 3 18 1 8 F3 S H cs ss).bind fun r => go n (15, L, r.1, r.2.1, r.2.2.1, r.2.2.2) := by
  subst hgo
  exact s2_12
theorem t2_15 {go : Nat → St → Option ORes} (hgo : go = orun prog_22_method_3_code (Option.some (Jvm.ClassFile.FieldType.object "com/example/mithi/mithi/index/Postings")) E2 0) {n cs ss : Nat} {S : List Value} {H : AH} {q : Option ORes → Prop} {v : Value} (hv : isA v = true) (h : Rsq (go n (16, [.val v], (v :: S), H, cs, ss)) q) : Rsq (go (n + 1) (15, [.val v], S, H, cs, ss)) q := by
  subst hgo
  refine res_of s2_15 ?_
  rw [gA_isA (L := [.val v]) (k := 0) (v := v) rfl hv]
  exact h
theorem u2_16 {go : Nat → St → Option ORes} (hgo : go = orun prog_22_method_3_code (Option.some (Jvm.ClassFile.FieldType.object "com/example/mithi/mithi/index/Postings")) E2 0) {n cs ss : Nat} {L : List Slot} {S : List Value} {H : AH} : go (n + 1) (16, L, S, H, cs, ss) = (aGet 0 1 S H cs ss).bind fun r => go n (19, L, r.1, r.2.1, r.2.2.1, r.2.2.2) := by
  subst hgo
  exact s2_16
theorem t2_19 {go : Nat → St → Option ORes} (hgo : go = orun prog_22_method_3_code (Option.some (Jvm.ClassFile.FieldType.object "com/example/mithi/mithi/index/Postings")) E2 0) {n cs ss : Nat} {S : List Value} {H : AH} {q : Option ORes → Prop} {v : Value} (hv : isA v = true) (h : Rsq (go n (20, [.val v], (v :: S), H, cs, ss)) q) : Rsq (go (n + 1) (19, [.val v], S, H, cs, ss)) q := by
  subst hgo
  refine res_of s2_19 ?_
  rw [gA_isA (L := [.val v]) (k := 0) (v := v) rfl hv]
  exact h
theorem u2_20 {go : Nat → St → Option ORes} (hgo : go = orun prog_22_method_3_code (Option.some (Jvm.ClassFile.FieldType.object "com/example/mithi/mithi/index/Postings")) E2 0) {n cs ss : Nat} {L : List Slot} {S : List Value} {H : AH} : go (n + 1) (20, L, S, H, cs, ss) = (aGet 0 2 S H cs ss).bind fun r => go n (23, L, r.1, r.2.1, r.2.2.1, r.2.2.2) := by
  subst hgo
  exact s2_20
theorem u2_23 {go : Nat → St → Option ORes} (hgo : go = orun prog_22_method_3_code (Option.some (Jvm.ClassFile.FieldType.object "com/example/mithi/mithi/index/Postings")) E2 0) {n cs ss : Nat} {L : List Slot} {S : List Value} {H : AH} : go (n + 1) (23, L, S, H, cs, ss) = (aCall 2 6 3 18 1 8 F3 S H cs ss).bind fun r => go n (26, L, r.1, r.2.1, r.2.2.1, r.2.2.2) := by
  subst hgo
  exact s2_23
theorem u2_26 {go : Nat → St → Option ORes} (hgo : go = orun prog_22_method_3_code (Option.some (Jvm.ClassFile.FieldType.object "com/example/mithi/mithi/index/Postings")) E2 0) {n cs ss : Nat} {L : List Slot} {S : List Value} {H : AH} : go (n + 1) (26, L, S, H, cs, ss) = (aRecv 2 1 6 3 18 0 0 F5 S H cs ss).bind fun r => go n (29, L, r.1, r.2.1, r.2.2.1, r.2.2.2) := by
  subst hgo
  exact s2_26
theorem t2_29 {go : Nat → St → Option ORes} (hgo : go = orun prog_22_method_3_code (Option.some (Jvm.ClassFile.FieldType.object "com/example/mithi/mithi/index/Postings")) E2 0) {n cs ss : Nat} {L : List Slot} {S : List Value} {H : AH} {q : Option ORes → Prop} {z : Value} (hv : isA z = true) (h : q (some (some z, H))) : Rsq (go (n + 1) (29, L, (z :: S), H, cs, ss)) q := by
  subst hgo
  refine res_of s2_29 ?_
  rw [pA_isA hv]
  exact h
theorem f6_in {x0 : Nat} {H : AH} : F6 [.ref x0] H = orun prog_21_method_2_code (Option.some Jvm.ClassFile.FieldType.int) E6 0 48 (0, [.val (.ref x0)], [], H, 0, 0) := rfl
theorem s6_0 {n cs ss : Nat} {L : List Slot} {S : List Value} {H : AH} : orun prog_21_method_2_code (Option.some Jvm.ClassFile.FieldType.int) E6 0 (n + 1) (0, L, S, H, cs, ss) = (gA L 0).bind fun v => orun prog_21_method_2_code (Option.some Jvm.ClassFile.FieldType.int) E6 0 n (1, L, v :: S, H, cs, ss) := s_any k6_0
theorem s6_1 {n cs ss : Nat} {L : List Slot} {S : List Value} {H : AH} : orun prog_21_method_2_code (Option.some Jvm.ClassFile.FieldType.int) E6 0 (n + 1) (1, L, S, H, cs, ss) = (aGet 1 0 S H cs ss).bind fun r => orun prog_21_method_2_code (Option.some Jvm.ClassFile.FieldType.int) E6 0 n (4, L, r.1, r.2.1, r.2.2.1, r.2.2.2) := s_any k6_1
theorem s6_4 {n cs ss : Nat} {L : List Slot} {S : List Value} {H : AH} : orun prog_21_method_2_code (Option.some Jvm.ClassFile.FieldType.int) E6 0 (n + 1) (4, L, S, H, cs, ss) = pR S fun a r => (arr H a).bind fun q => orun prog_21_method_2_code (Option.some Jvm.ClassFile.FieldType.int) E6 0 n (5, L, .int (ln q.2) :: r, H, cs, ss) := s_any k6_4
theorem s6_5 {n cs ss : Nat} {L : List Slot} {S : List Value} {H : AH} : orun prog_21_method_2_code (Option.some Jvm.ClassFile.FieldType.int) E6 0 (n + 1) (5, L, S, H, cs, ss) = pI S fun z _ => some (some (.int z), H) := s_any k6_5
theorem t6_0 {go : Nat → St → Option ORes} (hgo : go = orun prog_21_method_2_code (Option.some Jvm.ClassFile.FieldType.int) E6 0) {n cs ss : Nat} {S : List Value} {H : AH} {q : Option ORes → Prop} {v : Value} (hv : isA v = true) (h : Rsq (go n (1, [.val v], (v :: S), H, cs, ss)) q) : Rsq (go (n + 1) (0, [.val v], S, H, cs, ss)) q := by
  subst hgo
  refine res_of s6_0 ?_
  rw [gA_isA (L := [.val v]) (k := 0) (v := v) rfl hv]
  exact h
theorem u6_1 {go : Nat → St → Option ORes} (hgo : go = orun prog_21_method_2_code (Option.some Jvm.ClassFile.FieldType.int) E6 0) {n cs ss : Nat} {L : List Slot} {S : List Value} {H : AH} : go (n + 1) (1, L, S, H, cs, ss) = (aGet 1 0 S H cs ss).bind fun r => go n (4, L, r.1, r.2.1, r.2.2.1, r.2.2.2) := by
  subst hgo
  exact s6_1
theorem u6_4 {go : Nat → St → Option ORes} (hgo : go = orun prog_21_method_2_code (Option.some Jvm.ClassFile.FieldType.int) E6 0) {n cs ss : Nat} {L : List Slot} {S : List Value} {H : AH} : go (n + 1) (4, L, S, H, cs, ss) = pR S fun a r => (arr H a).bind fun q => go n (5, L, .int (ln q.2) :: r, H, cs, ss) := by
  subst hgo
  exact s6_4
theorem t6_5 {go : Nat → St → Option ORes} (hgo : go = orun prog_21_method_2_code (Option.some Jvm.ClassFile.FieldType.int) E6 0) {n cs ss : Nat} {L : List Slot} {S : List Value} {H : AH} {q : Option ORes → Prop} {z : Int32} (h : q (some (some (.int z), H))) : Rsq (go (n + 1) (5, L, (.int z :: S), H, cs, ss)) q := by
  subst hgo
  exact res_of s6_5 h
theorem f9_in {x0 : Nat} {x1 : Int32} {H : AH} : F9 [.ref x0, .int x1] H = orun prog_21_method_3_code (Option.some Jvm.ClassFile.FieldType.int) E9 0 50 (0, [.val (.ref x0), .val (.int x1)], [], H, 0, 0) := rfl
theorem s9_0 {n cs ss : Nat} {L : List Slot} {S : List Value} {H : AH} : orun prog_21_method_3_code (Option.some Jvm.ClassFile.FieldType.int) E9 0 (n + 1) (0, L, S, H, cs, ss) = (gA L 0).bind fun v => orun prog_21_method_3_code (Option.some Jvm.ClassFile.FieldType.int) E9 0 n (1, L, v :: S, H, cs, ss) := s_any k9_0
theorem s9_1 {n cs ss : Nat} {L : List Slot} {S : List Value} {H : AH} : orun prog_21_method_3_code (Option.some Jvm.ClassFile.FieldType.int) E9 0 (n + 1) (1, L, S, H, cs, ss) = (aGet 1 0 S H cs ss).bind fun r => orun prog_21_method_3_code (Option.some Jvm.ClassFile.FieldType.int) E9 0 n (4, L, r.1, r.2.1, r.2.2.1, r.2.2.2) := s_any k9_1
theorem s9_4 {n cs ss : Nat} {L : List Slot} {S : List Value} {H : AH} : orun prog_21_method_3_code (Option.some Jvm.ClassFile.FieldType.int) E9 0 (n + 1) (4, L, S, H, cs, ss) = (gI L 1).bind fun v => orun prog_21_method_3_code (Option.some Jvm.ClassFile.FieldType.int) E9 0 n (5, L, .int v :: S, H, cs, ss) := s_any k9_4
theorem s9_5 {n cs ss : Nat} {L : List Slot} {S : List Value} {H : AH} : orun prog_21_method_3_code (Option.some Jvm.ClassFile.FieldType.int) E9 0 (n + 1) (5, L, S, H, cs, ss) = ex (Option.some Jvm.ClassFile.FieldType.int) E9 0 (orun prog_21_method_3_code (Option.some Jvm.ClassFile.FieldType.int) E9 0 n) (.iaload) 5 L S H cs ss := s_any k9_5
theorem s9_6 {n cs ss : Nat} {L : List Slot} {S : List Value} {H : AH} : orun prog_21_method_3_code (Option.some Jvm.ClassFile.FieldType.int) E9 0 (n + 1) (6, L, S, H, cs, ss) = pI S fun z _ => some (some (.int z), H) := s_any k9_6
theorem t9_0 {go : Nat → St → Option ORes} (hgo : go = orun prog_21_method_3_code (Option.some Jvm.ClassFile.FieldType.int) E9 0) {n cs ss : Nat} {l1 : Slot} {S : List Value} {H : AH} {q : Option ORes → Prop} {v : Value} (hv : isA v = true) (h : Rsq (go n (1, [.val v, l1], (v :: S), H, cs, ss)) q) : Rsq (go (n + 1) (0, [.val v, l1], S, H, cs, ss)) q := by
  subst hgo
  refine res_of s9_0 ?_
  rw [gA_isA (L := [.val v, l1]) (k := 0) (v := v) rfl hv]
  exact h
theorem u9_1 {go : Nat → St → Option ORes} (hgo : go = orun prog_21_method_3_code (Option.some Jvm.ClassFile.FieldType.int) E9 0) {n cs ss : Nat} {L : List Slot} {S : List Value} {H : AH} : go (n + 1) (1, L, S, H, cs, ss) = (aGet 1 0 S H cs ss).bind fun r => go n (4, L, r.1, r.2.1, r.2.2.1, r.2.2.2) := by
  subst hgo
  exact s9_1
theorem t9_4 {go : Nat → St → Option ORes} (hgo : go = orun prog_21_method_3_code (Option.some Jvm.ClassFile.FieldType.int) E9 0) {n cs ss : Nat} {l0 : Slot} {S : List Value} {H : AH} {q : Option ORes → Prop} {v : Int32} (h : Rsq (go n (5, [l0, .val (.int v)], (.int v :: S), H, cs, ss)) q) : Rsq (go (n + 1) (4, [l0, .val (.int v)], S, H, cs, ss)) q := by
  subst hgo
  exact res_of s9_4 h
theorem u9_5 {go : Nat → St → Option ORes} (hgo : go = orun prog_21_method_3_code (Option.some Jvm.ClassFile.FieldType.int) E9 0) {n cs ss : Nat} {L : List Slot} {S : List Value} {H : AH} : go (n + 1) (5, L, S, H, cs, ss) = ex (Option.some Jvm.ClassFile.FieldType.int) E9 0 (go n) (.iaload) 5 L S H cs ss := by
  subst hgo
  exact s9_5
theorem t9_6 {go : Nat → St → Option ORes} (hgo : go = orun prog_21_method_3_code (Option.some Jvm.ClassFile.FieldType.int) E9 0) {n cs ss : Nat} {L : List Slot} {S : List Value} {H : AH} {q : Option ORes → Prop} {z : Int32} (h : q (some (some (.int z), H))) : Rsq (go (n + 1) (6, L, (.int z :: S), H, cs, ss)) q := by
  subst hgo
  exact res_of s9_6 h
theorem f10_in {x0 : Nat} {x1 : Int32} {H : AH} : F10 [.ref x0, .int x1] H = orun prog_21_method_4_code (Option.some Jvm.ClassFile.FieldType.int) E10 0 50 (0, [.val (.ref x0), .val (.int x1)], [], H, 0, 0) := rfl
theorem s10_0 {n cs ss : Nat} {L : List Slot} {S : List Value} {H : AH} : orun prog_21_method_4_code (Option.some Jvm.ClassFile.FieldType.int) E10 0 (n + 1) (0, L, S, H, cs, ss) = (gA L 0).bind fun v => orun prog_21_method_4_code (Option.some Jvm.ClassFile.FieldType.int) E10 0 n (1, L, v :: S, H, cs, ss) := s_any k10_0
theorem s10_1 {n cs ss : Nat} {L : List Slot} {S : List Value} {H : AH} : orun prog_21_method_4_code (Option.some Jvm.ClassFile.FieldType.int) E10 0 (n + 1) (1, L, S, H, cs, ss) = (aGet 1 1 S H cs ss).bind fun r => orun prog_21_method_4_code (Option.some Jvm.ClassFile.FieldType.int) E10 0 n (4, L, r.1, r.2.1, r.2.2.1, r.2.2.2) := s_any k10_1
theorem s10_4 {n cs ss : Nat} {L : List Slot} {S : List Value} {H : AH} : orun prog_21_method_4_code (Option.some Jvm.ClassFile.FieldType.int) E10 0 (n + 1) (4, L, S, H, cs, ss) = (gI L 1).bind fun v => orun prog_21_method_4_code (Option.some Jvm.ClassFile.FieldType.int) E10 0 n (5, L, .int v :: S, H, cs, ss) := s_any k10_4
theorem s10_5 {n cs ss : Nat} {L : List Slot} {S : List Value} {H : AH} : orun prog_21_method_4_code (Option.some Jvm.ClassFile.FieldType.int) E10 0 (n + 1) (5, L, S, H, cs, ss) = ex (Option.some Jvm.ClassFile.FieldType.int) E10 0 (orun prog_21_method_4_code (Option.some Jvm.ClassFile.FieldType.int) E10 0 n) (.iaload) 5 L S H cs ss := s_any k10_5
theorem s10_6 {n cs ss : Nat} {L : List Slot} {S : List Value} {H : AH} : orun prog_21_method_4_code (Option.some Jvm.ClassFile.FieldType.int) E10 0 (n + 1) (6, L, S, H, cs, ss) = pI S fun z _ => some (some (.int z), H) := s_any k10_6
theorem t10_0 {go : Nat → St → Option ORes} (hgo : go = orun prog_21_method_4_code (Option.some Jvm.ClassFile.FieldType.int) E10 0) {n cs ss : Nat} {l1 : Slot} {S : List Value} {H : AH} {q : Option ORes → Prop} {v : Value} (hv : isA v = true) (h : Rsq (go n (1, [.val v, l1], (v :: S), H, cs, ss)) q) : Rsq (go (n + 1) (0, [.val v, l1], S, H, cs, ss)) q := by
  subst hgo
  refine res_of s10_0 ?_
  rw [gA_isA (L := [.val v, l1]) (k := 0) (v := v) rfl hv]
  exact h
theorem u10_1 {go : Nat → St → Option ORes} (hgo : go = orun prog_21_method_4_code (Option.some Jvm.ClassFile.FieldType.int) E10 0) {n cs ss : Nat} {L : List Slot} {S : List Value} {H : AH} : go (n + 1) (1, L, S, H, cs, ss) = (aGet 1 1 S H cs ss).bind fun r => go n (4, L, r.1, r.2.1, r.2.2.1, r.2.2.2) := by
  subst hgo
  exact s10_1
theorem t10_4 {go : Nat → St → Option ORes} (hgo : go = orun prog_21_method_4_code (Option.some Jvm.ClassFile.FieldType.int) E10 0) {n cs ss : Nat} {l0 : Slot} {S : List Value} {H : AH} {q : Option ORes → Prop} {v : Int32} (h : Rsq (go n (5, [l0, .val (.int v)], (.int v :: S), H, cs, ss)) q) : Rsq (go (n + 1) (4, [l0, .val (.int v)], S, H, cs, ss)) q := by
  subst hgo
  exact res_of s10_4 h
theorem u10_5 {go : Nat → St → Option ORes} (hgo : go = orun prog_21_method_4_code (Option.some Jvm.ClassFile.FieldType.int) E10 0) {n cs ss : Nat} {L : List Slot} {S : List Value} {H : AH} : go (n + 1) (5, L, S, H, cs, ss) = ex (Option.some Jvm.ClassFile.FieldType.int) E10 0 (go n) (.iaload) 5 L S H cs ss := by
  subst hgo
  exact s10_5
theorem t10_6 {go : Nat → St → Option ORes} (hgo : go = orun prog_21_method_4_code (Option.some Jvm.ClassFile.FieldType.int) E10 0) {n cs ss : Nat} {L : List Slot} {S : List Value} {H : AH} {q : Option ORes → Prop} {z : Int32} (h : q (some (some (.int z), H))) : Rsq (go (n + 1) (6, L, (.int z :: S), H, cs, ss)) q := by
  subst hgo
  exact res_of s10_6 h
theorem f7_in {x0 : Nat} {x1 : Int32} {x2 : Int32} {x3 : Int32} {x4 : Int32} {H : AH} : F7 [.ref x0, .int x1, .int x2, .int x3, .int x4] H = orun method_3_code (Option.some Jvm.ClassFile.FieldType.boolean) E7 0 78 (0, [.val (.ref x0), .val (.int x1), .val (.int x2), .val (.int x3), .val (.int x4)], [], H, 0, 0) := rfl
theorem s7_0 {n cs ss : Nat} {L : List Slot} {S : List Value} {H : AH} : orun method_3_code (Option.some Jvm.ClassFile.FieldType.boolean) E7 0 (n + 1) (0, L, S, H, cs, ss) = (gI L 2).bind fun v => orun method_3_code (Option.some Jvm.ClassFile.FieldType.boolean) E7 0 n (1, L, .int v :: S, H, cs, ss) := s_any k7_0
theorem s7_1 {n cs ss : Nat} {L : List Slot} {S : List Value} {H : AH} : orun method_3_code (Option.some Jvm.ClassFile.FieldType.boolean) E7 0 (n + 1) (1, L, S, H, cs, ss) = (gI L 1).bind fun v => orun method_3_code (Option.some Jvm.ClassFile.FieldType.boolean) E7 0 n (2, L, .int v :: S, H, cs, ss) := s_any k7_1
theorem s7_2 {n cs ss : Nat} {L : List Slot} {S : List Value} {H : AH} : orun method_3_code (Option.some Jvm.ClassFile.FieldType.boolean) E7 0 (n + 1) (2, L, S, H, cs, ss) = pI S fun y S => pI S fun x r => if x < y then orun method_3_code (Option.some Jvm.ClassFile.FieldType.boolean) E7 0 n (7, L, r, H, cs, ss) else orun method_3_code (Option.some Jvm.ClassFile.FieldType.boolean) E7 0 n (5, L, r, H, cs, ss) := s_icmp (Q := fun x y => x < y) (fun _ _ => h_lt) k7_2 (by decide) (by decide)
theorem s7_5 {n cs ss : Nat} {L : List Slot} {S : List Value} {H : AH} : orun method_3_code (Option.some Jvm.ClassFile.FieldType.boolean) E7 0 (n + 1) (5, L, S, H, cs, ss) = orun method_3_code (Option.some Jvm.ClassFile.FieldType.boolean) E7 0 n (6, L, (.int 1 :: S), H, cs, ss) := s_any k7_5
theorem s7_6 {n cs ss : Nat} {L : List Slot} {S : List Value} {H : AH} : orun method_3_code (Option.some Jvm.ClassFile.FieldType.boolean) E7 0 (n + 1) (6, L, S, H, cs, ss) = pI S fun z _ => some (some (.int (z &&& 1)), H) := s_any k7_6
theorem s7_7 {n cs ss : Nat} {L : List Slot} {S : List Value} {H : AH} : orun method_3_code (Option.some Jvm.ClassFile.FieldType.boolean) E7 0 (n + 1) (7, L, S, H, cs, ss) = (gA L 0).bind fun v => orun method_3_code (Option.some Jvm.ClassFile.FieldType.boolean) E7 0 n (8, L, v :: S, H, cs, ss) := s_any k7_7
theorem s7_8 {n cs ss : Nat} {L : List Slot} {S : List Value} {H : AH} : orun method_3_code (Option.some Jvm.ClassFile.FieldType.boolean) E7 0 (n + 1) (8, L, S, H, cs, ss) = (gI L 2).bind fun v => orun method_3_code (Option.some Jvm.ClassFile.FieldType.boolean) E7 0 n (9, L, .int v :: S, H, cs, ss) := s_any k7_8
theorem s7_9 {n cs ss : Nat} {L : List Slot} {S : List Value} {H : AH} : orun method_3_code (Option.some Jvm.ClassFile.FieldType.boolean) E7 0 (n + 1) (9, L, S, H, cs, ss) = (aRecv 1 1 6 0 0 0 0 F9 S H cs ss).bind fun r => orun method_3_code (Option.some Jvm.ClassFile.FieldType.boolean) E7 0 n (12, L, r.1, r.2.1, r.2.2.1, r.2.2.2) := s_any k7_9
theorem s7_12 {n cs ss : Nat} {L : List Slot} {S : List Value} {H : AH} : orun method_3_code (Option.some Jvm.ClassFile.FieldType.boolean) E7 0 (n + 1) (12, L, S, H, cs, ss) = (gI L 3).bind fun v => orun method_3_code (Option.some Jvm.ClassFile.FieldType.boolean) E7 0 n (13, L, .int v :: S, H, cs, ss) := s_any k7_12
theorem s7_13 {n cs ss : Nat} {L : List Slot} {S : List Value} {H : AH} : orun method_3_code (Option.some Jvm.ClassFile.FieldType.boolean) E7 0 (n + 1) (13, L, S, H, cs, ss) = pI S fun y S => pI S fun x r => if x = y then orun method_3_code (Option.some Jvm.ClassFile.FieldType.boolean) E7 0 n (16, L, r, H, cs, ss) else orun method_3_code (Option.some Jvm.ClassFile.FieldType.boolean) E7 0 n (30, L, r, H, cs, ss) := s_icmpN (Q := fun x y => x = y) (fun _ _ => h_ne) k7_13 (by decide) (by decide)
theorem s7_16 {n cs ss : Nat} {L : List Slot} {S : List Value} {H : AH} : orun method_3_code (Option.some Jvm.ClassFile.FieldType.boolean) E7 0 (n + 1) (16, L, S, H, cs, ss) = (gA L 0).bind fun v => orun method_3_code (Option.some Jvm.ClassFile.FieldType.boolean) E7 0 n (17, L, v :: S, H, cs, ss) := s_any k7_16
theorem s7_17 {n cs ss : Nat} {L : List Slot} {S : List Value} {H : AH} : orun method_3_code (Option.some Jvm.ClassFile.FieldType.boolean) E7 0 (n + 1) (17, L, S, H, cs, ss) = (gI L 2).bind fun v => orun method_3_code (Option.some Jvm.ClassFile.FieldType.boolean) E7 0 n (18, L, .int v :: S, H, cs, ss) := s_any k7_17
theorem s7_18 {n cs ss : Nat} {L : List Slot} {S : List Value} {H : AH} : orun method_3_code (Option.some Jvm.ClassFile.FieldType.boolean) E7 0 (n + 1) (18, L, S, H, cs, ss) = (aRecv 1 1 6 0 0 0 0 F10 S H cs ss).bind fun r => orun method_3_code (Option.some Jvm.ClassFile.FieldType.boolean) E7 0 n (21, L, r.1, r.2.1, r.2.2.1, r.2.2.2) := s_any k7_18
theorem s7_21 {n cs ss : Nat} {L : List Slot} {S : List Value} {H : AH} : orun method_3_code (Option.some Jvm.ClassFile.FieldType.boolean) E7 0 (n + 1) (21, L, S, H, cs, ss) = (gI L 4).bind fun v => orun method_3_code (Option.some Jvm.ClassFile.FieldType.boolean) E7 0 n (23, L, .int v :: S, H, cs, ss) := s_any k7_21
theorem s7_23 {n cs ss : Nat} {L : List Slot} {S : List Value} {H : AH} : orun method_3_code (Option.some Jvm.ClassFile.FieldType.boolean) E7 0 (n + 1) (23, L, S, H, cs, ss) = pI S fun y S => pI S fun x r => if x = y then orun method_3_code (Option.some Jvm.ClassFile.FieldType.boolean) E7 0 n (26, L, r, H, cs, ss) else orun method_3_code (Option.some Jvm.ClassFile.FieldType.boolean) E7 0 n (30, L, r, H, cs, ss) := s_icmpN (Q := fun x y => x = y) (fun _ _ => h_ne) k7_23 (by decide) (by decide)
theorem s7_26 {n cs ss : Nat} {L : List Slot} {S : List Value} {H : AH} : orun method_3_code (Option.some Jvm.ClassFile.FieldType.boolean) E7 0 (n + 1) (26, L, S, H, cs, ss) = orun method_3_code (Option.some Jvm.ClassFile.FieldType.boolean) E7 0 n (27, L, (.int 1 :: S), H, cs, ss) := s_any k7_26
theorem s7_27 {n cs ss : Nat} {L : List Slot} {S : List Value} {H : AH} : orun method_3_code (Option.some Jvm.ClassFile.FieldType.boolean) E7 0 (n + 1) (27, L, S, H, cs, ss) = orun method_3_code (Option.some Jvm.ClassFile.FieldType.boolean) E7 0 n (31, L, S, H, cs, ss) := s_goto k7_27 (by decide) (by decide)
theorem s7_30 {n cs ss : Nat} {L : List Slot} {S : List Value} {H : AH} : orun method_3_code (Option.some Jvm.ClassFile.FieldType.boolean) E7 0 (n + 1) (30, L, S, H, cs, ss) = orun method_3_code (Option.some Jvm.ClassFile.FieldType.boolean) E7 0 n (31, L, (.int 0 :: S), H, cs, ss) := s_any k7_30
theorem s7_31 {n cs ss : Nat} {L : List Slot} {S : List Value} {H : AH} : orun method_3_code (Option.some Jvm.ClassFile.FieldType.boolean) E7 0 (n + 1) (31, L, S, H, cs, ss) = pI S fun z _ => some (some (.int (z &&& 1)), H) := s_any k7_31
theorem t7_0 {go : Nat → St → Option ORes} (hgo : go = orun method_3_code (Option.some Jvm.ClassFile.FieldType.boolean) E7 0) {n cs ss : Nat} {l0 l1 l3 l4 : Slot} {S : List Value} {H : AH} {q : Option ORes → Prop} {v : Int32} (h : Rsq (go n (1, [l0, l1, .val (.int v), l3, l4], (.int v :: S), H, cs, ss)) q) : Rsq (go (n + 1) (0, [l0, l1, .val (.int v), l3, l4], S, H, cs, ss)) q := by
  subst hgo
  exact res_of s7_0 h
theorem t7_1 {go : Nat → St → Option ORes} (hgo : go = orun method_3_code (Option.some Jvm.ClassFile.FieldType.boolean) E7 0) {n cs ss : Nat} {l0 l2 l3 l4 : Slot} {S : List Value} {H : AH} {q : Option ORes → Prop} {v : Int32} (h : Rsq (go n (2, [l0, .val (.int v), l2, l3, l4], (.int v :: S), H, cs, ss)) q) : Rsq (go (n + 1) (1, [l0, .val (.int v), l2, l3, l4], S, H, cs, ss)) q := by
  subst hgo
  exact res_of s7_1 h
theorem t7_2t {go : Nat → St → Option ORes} (hgo : go = orun method_3_code (Option.some Jvm.ClassFile.FieldType.boolean) E7 0) {n cs ss : Nat} {L : List Slot} {S : List Value} {H : AH} {q : Option ORes → Prop} {x y : Int32} (hc : x < y) (h : Rsq (go n (7, L, S, H, cs, ss)) q) : Rsq (go (n + 1) (2, L, (.int y :: .int x :: S), H, cs, ss)) q := by
  subst hgo
  exact res_of s7_2 (res_t hc h)
theorem t7_2f {go : Nat → St → Option ORes} (hgo : go = orun method_3_code (Option.some Jvm.ClassFile.FieldType.boolean) E7 0) {n cs ss : Nat} {L : List Slot} {S : List Value} {H : AH} {q : Option ORes → Prop} {x y : Int32} (hc : ¬ x < y) (h : Rsq (go n (5, L, S, H, cs, ss)) q) : Rsq (go (n + 1) (2, L, (.int y :: .int x :: S), H, cs, ss)) q := by
  subst hgo
  exact res_of s7_2 (res_f hc h)
theorem t7_5 {go : Nat → St → Option ORes} (hgo : go = orun method_3_code (Option.some Jvm.ClassFile.FieldType.boolean) E7 0) {n cs ss : Nat} {L : List Slot} {S : List Value} {H : AH} {q : Option ORes → Prop} (h : Rsq (go n (6, L, (.int 1 :: S), H, cs, ss)) q) : Rsq (go (n + 1) (5, L, S, H, cs, ss)) q := by
  subst hgo
  exact res_of s7_5 h
theorem t7_6 {go : Nat → St → Option ORes} (hgo : go = orun method_3_code (Option.some Jvm.ClassFile.FieldType.boolean) E7 0) {n cs ss : Nat} {L : List Slot} {S : List Value} {H : AH} {q : Option ORes → Prop} {z : Int32} (h : q (some (some (.int (z &&& 1)), H))) : Rsq (go (n + 1) (6, L, (.int z :: S), H, cs, ss)) q := by
  subst hgo
  exact res_of s7_6 h
theorem t7_7 {go : Nat → St → Option ORes} (hgo : go = orun method_3_code (Option.some Jvm.ClassFile.FieldType.boolean) E7 0) {n cs ss : Nat} {l1 l2 l3 l4 : Slot} {S : List Value} {H : AH} {q : Option ORes → Prop} {v : Value} (hv : isA v = true) (h : Rsq (go n (8, [.val v, l1, l2, l3, l4], (v :: S), H, cs, ss)) q) : Rsq (go (n + 1) (7, [.val v, l1, l2, l3, l4], S, H, cs, ss)) q := by
  subst hgo
  refine res_of s7_7 ?_
  rw [gA_isA (L := [.val v, l1, l2, l3, l4]) (k := 0) (v := v) rfl hv]
  exact h
theorem t7_8 {go : Nat → St → Option ORes} (hgo : go = orun method_3_code (Option.some Jvm.ClassFile.FieldType.boolean) E7 0) {n cs ss : Nat} {l0 l1 l3 l4 : Slot} {S : List Value} {H : AH} {q : Option ORes → Prop} {v : Int32} (h : Rsq (go n (9, [l0, l1, .val (.int v), l3, l4], (.int v :: S), H, cs, ss)) q) : Rsq (go (n + 1) (8, [l0, l1, .val (.int v), l3, l4], S, H, cs, ss)) q := by
  subst hgo
  exact res_of s7_8 h
theorem u7_9 {go : Nat → St → Option ORes} (hgo : go = orun method_3_code (Option.some Jvm.ClassFile.FieldType.boolean) E7 0) {n cs ss : Nat} {L : List Slot} {S : List Value} {H : AH} : go (n + 1) (9, L, S, H, cs, ss) = (aRecv 1 1 6 0 0 0 0 F9 S H cs ss).bind fun r => go n (12, L, r.1, r.2.1, r.2.2.1, r.2.2.2) := by
  subst hgo
  exact s7_9
theorem t7_12 {go : Nat → St → Option ORes} (hgo : go = orun method_3_code (Option.some Jvm.ClassFile.FieldType.boolean) E7 0) {n cs ss : Nat} {l0 l1 l2 l4 : Slot} {S : List Value} {H : AH} {q : Option ORes → Prop} {v : Int32} (h : Rsq (go n (13, [l0, l1, l2, .val (.int v), l4], (.int v :: S), H, cs, ss)) q) : Rsq (go (n + 1) (12, [l0, l1, l2, .val (.int v), l4], S, H, cs, ss)) q := by
  subst hgo
  exact res_of s7_12 h
theorem t7_13t {go : Nat → St → Option ORes} (hgo : go = orun method_3_code (Option.some Jvm.ClassFile.FieldType.boolean) E7 0) {n cs ss : Nat} {L : List Slot} {S : List Value} {H : AH} {q : Option ORes → Prop} {x y : Int32} (hc : x = y) (h : Rsq (go n (16, L, S, H, cs, ss)) q) : Rsq (go (n + 1) (13, L, (.int y :: .int x :: S), H, cs, ss)) q := by
  subst hgo
  exact res_of s7_13 (res_t hc h)
theorem t7_13f {go : Nat → St → Option ORes} (hgo : go = orun method_3_code (Option.some Jvm.ClassFile.FieldType.boolean) E7 0) {n cs ss : Nat} {L : List Slot} {S : List Value} {H : AH} {q : Option ORes → Prop} {x y : Int32} (hc : ¬ x = y) (h : Rsq (go n (30, L, S, H, cs, ss)) q) : Rsq (go (n + 1) (13, L, (.int y :: .int x :: S), H, cs, ss)) q := by
  subst hgo
  exact res_of s7_13 (res_f hc h)
theorem t7_16 {go : Nat → St → Option ORes} (hgo : go = orun method_3_code (Option.some Jvm.ClassFile.FieldType.boolean) E7 0) {n cs ss : Nat} {l1 l2 l3 l4 : Slot} {S : List Value} {H : AH} {q : Option ORes → Prop} {v : Value} (hv : isA v = true) (h : Rsq (go n (17, [.val v, l1, l2, l3, l4], (v :: S), H, cs, ss)) q) : Rsq (go (n + 1) (16, [.val v, l1, l2, l3, l4], S, H, cs, ss)) q := by
  subst hgo
  refine res_of s7_16 ?_
  rw [gA_isA (L := [.val v, l1, l2, l3, l4]) (k := 0) (v := v) rfl hv]
  exact h
theorem t7_17 {go : Nat → St → Option ORes} (hgo : go = orun method_3_code (Option.some Jvm.ClassFile.FieldType.boolean) E7 0) {n cs ss : Nat} {l0 l1 l3 l4 : Slot} {S : List Value} {H : AH} {q : Option ORes → Prop} {v : Int32} (h : Rsq (go n (18, [l0, l1, .val (.int v), l3, l4], (.int v :: S), H, cs, ss)) q) : Rsq (go (n + 1) (17, [l0, l1, .val (.int v), l3, l4], S, H, cs, ss)) q := by
  subst hgo
  exact res_of s7_17 h
theorem u7_18 {go : Nat → St → Option ORes} (hgo : go = orun method_3_code (Option.some Jvm.ClassFile.FieldType.boolean) E7 0) {n cs ss : Nat} {L : List Slot} {S : List Value} {H : AH} : go (n + 1) (18, L, S, H, cs, ss) = (aRecv 1 1 6 0 0 0 0 F10 S H cs ss).bind fun r => go n (21, L, r.1, r.2.1, r.2.2.1, r.2.2.2) := by
  subst hgo
  exact s7_18
theorem t7_21 {go : Nat → St → Option ORes} (hgo : go = orun method_3_code (Option.some Jvm.ClassFile.FieldType.boolean) E7 0) {n cs ss : Nat} {l0 l1 l2 l3 : Slot} {S : List Value} {H : AH} {q : Option ORes → Prop} {v : Int32} (h : Rsq (go n (23, [l0, l1, l2, l3, .val (.int v)], (.int v :: S), H, cs, ss)) q) : Rsq (go (n + 1) (21, [l0, l1, l2, l3, .val (.int v)], S, H, cs, ss)) q := by
  subst hgo
  exact res_of s7_21 h
theorem t7_23t {go : Nat → St → Option ORes} (hgo : go = orun method_3_code (Option.some Jvm.ClassFile.FieldType.boolean) E7 0) {n cs ss : Nat} {L : List Slot} {S : List Value} {H : AH} {q : Option ORes → Prop} {x y : Int32} (hc : x = y) (h : Rsq (go n (26, L, S, H, cs, ss)) q) : Rsq (go (n + 1) (23, L, (.int y :: .int x :: S), H, cs, ss)) q := by
  subst hgo
  exact res_of s7_23 (res_t hc h)
theorem t7_23f {go : Nat → St → Option ORes} (hgo : go = orun method_3_code (Option.some Jvm.ClassFile.FieldType.boolean) E7 0) {n cs ss : Nat} {L : List Slot} {S : List Value} {H : AH} {q : Option ORes → Prop} {x y : Int32} (hc : ¬ x = y) (h : Rsq (go n (30, L, S, H, cs, ss)) q) : Rsq (go (n + 1) (23, L, (.int y :: .int x :: S), H, cs, ss)) q := by
  subst hgo
  exact res_of s7_23 (res_f hc h)
theorem t7_26 {go : Nat → St → Option ORes} (hgo : go = orun method_3_code (Option.some Jvm.ClassFile.FieldType.boolean) E7 0) {n cs ss : Nat} {L : List Slot} {S : List Value} {H : AH} {q : Option ORes → Prop} (h : Rsq (go n (27, L, (.int 1 :: S), H, cs, ss)) q) : Rsq (go (n + 1) (26, L, S, H, cs, ss)) q := by
  subst hgo
  exact res_of s7_26 h
theorem t7_27 {go : Nat → St → Option ORes} (hgo : go = orun method_3_code (Option.some Jvm.ClassFile.FieldType.boolean) E7 0) {n cs ss : Nat} {L : List Slot} {S : List Value} {H : AH} {q : Option ORes → Prop} (h : Rsq (go n (31, L, S, H, cs, ss)) q) : Rsq (go (n + 1) (27, L, S, H, cs, ss)) q := by
  subst hgo
  exact res_of s7_27 h
theorem t7_30 {go : Nat → St → Option ORes} (hgo : go = orun method_3_code (Option.some Jvm.ClassFile.FieldType.boolean) E7 0) {n cs ss : Nat} {L : List Slot} {S : List Value} {H : AH} {q : Option ORes → Prop} (h : Rsq (go n (31, L, (.int 0 :: S), H, cs, ss)) q) : Rsq (go (n + 1) (30, L, S, H, cs, ss)) q := by
  subst hgo
  exact res_of s7_30 h
theorem t7_31 {go : Nat → St → Option ORes} (hgo : go = orun method_3_code (Option.some Jvm.ClassFile.FieldType.boolean) E7 0) {n cs ss : Nat} {L : List Slot} {S : List Value} {H : AH} {q : Option ORes → Prop} {z : Int32} (h : q (some (some (.int (z &&& 1)), H))) : Rsq (go (n + 1) (31, L, (.int z :: S), H, cs, ss)) q := by
  subst hgo
  exact res_of s7_31 h
theorem f0_in {x0 : Int32} {x1 : Int32} {x2 : Int32} {x3 : Int32} {x4 : Int32} {H : AH} : F0 [.int x0, .int x1, .int x2, .int x3, .int x4] H = orun code ret E0 0 380 (0, [.val (.int x0), .val (.int x1), .val (.int x2), .val (.int x3), .val (.int x4), .unset, .unset, .unset, .unset, .unset, .unset, .unset, .unset, .unset, .unset, .unset, .unset, .unset, .unset, .unset], [], H, 0, 0) := rfl
theorem s0_0 {n cs ss : Nat} {L : List Slot} {S : List Value} {H : AH} : orun code ret E0 0 (n + 1) (0, L, S, H, cs, ss) = (gI L 0).bind fun v => orun code ret E0 0 n (1, L, .int v :: S, H, cs, ss) := s_any k0_0
theorem s0_1 {n cs ss : Nat} {L : List Slot} {S : List Value} {H : AH} : orun code ret E0 0 (n + 1) (1, L, S, H, cs, ss) = (aI (2147483647) S H cs ss).bind fun r => orun code ret E0 0 n (3, L, r.1, r.2.1, r.2.2.1, r.2.2.2) := s_any k0_1
theorem s0_3 {n cs ss : Nat} {L : List Slot} {S : List Value} {H : AH} : orun code ret E0 0 (n + 1) (3, L, S, H, cs, ss) = pI S fun y S => pI S fun x r => orun code ret E0 0 n (4, L, .int (x &&& y) :: r, H, cs, ss) := s_any k0_3
theorem s0_4 {n cs ss : Nat} {L : List Slot} {S : List Value} {H : AH} : orun code ret E0 0 (n + 1) (4, L, S, H, cs, ss) = orun code ret E0 0 n (6, L, (.int 6 :: S), H, cs, ss) := s_any k0_4
theorem s0_6 {n cs ss : Nat} {L : List Slot} {S : List Value} {H : AH} : orun code ret E0 0 (n + 1) (6, L, S, H, cs, ss) = ex ret E0 0 (orun code ret E0 0 n) (.irem) 6 L S H cs ss := s_any k0_6
theorem s0_7 {n cs ss : Nat} {L : List Slot} {S : List Value} {H : AH} : orun code ret E0 0 (n + 1) (7, L, S, H, cs, ss) = pI S fun x r => (st1 L 5 (.int x)).bind fun L' => orun code ret E0 0 n (9, L', r, H, cs, ss) := s_any k0_7
theorem s0_9 {n cs ss : Nat} {L : List Slot} {S : List Value} {H : AH} : orun code ret E0 0 (n + 1) (9, L, S, H, cs, ss) = (gI L 1).bind fun v => orun code ret E0 0 n (10, L, .int v :: S, H, cs, ss) := s_any k0_9
theorem s0_10 {n cs ss : Nat} {L : List Slot} {S : List Value} {H : AH} : orun code ret E0 0 (n + 1) (10, L, S, H, cs, ss) = orun code ret E0 0 n (11, L, (.int 3 :: S), H, cs, ss) := s_any k0_10
theorem s0_11 {n cs ss : Nat} {L : List Slot} {S : List Value} {H : AH} : orun code ret E0 0 (n + 1) (11, L, S, H, cs, ss) = ex ret E0 0 (orun code ret E0 0 n) (.ishr) 11 L S H cs ss := s_any k0_11
theorem s0_12 {n cs ss : Nat} {L : List Slot} {S : List Value} {H : AH} : orun code ret E0 0 (n + 1) (12, L, S, H, cs, ss) = pI S fun x r => (st1 L 6 (.int x)).bind fun L' => orun code ret E0 0 n (14, L', r, H, cs, ss) := s_any k0_12
theorem s0_14 {n cs ss : Nat} {L : List Slot} {S : List Value} {H : AH} : orun code ret E0 0 (n + 1) (14, L, S, H, cs, ss) = (gI L 2).bind fun v => orun code ret E0 0 n (15, L, .int v :: S, H, cs, ss) := s_any k0_14
theorem s0_15 {n cs ss : Nat} {L : List Slot} {S : List Value} {H : AH} : orun code ret E0 0 (n + 1) (15, L, S, H, cs, ss) = (aI (268435455) S H cs ss).bind fun r => orun code ret E0 0 n (17, L, r.1, r.2.1, r.2.2.1, r.2.2.2) := s_any k0_15
theorem s0_17 {n cs ss : Nat} {L : List Slot} {S : List Value} {H : AH} : orun code ret E0 0 (n + 1) (17, L, S, H, cs, ss) = pI S fun y S => pI S fun x r => orun code ret E0 0 n (18, L, .int (x &&& y) :: r, H, cs, ss) := s_any k0_17
theorem s0_18 {n cs ss : Nat} {L : List Slot} {S : List Value} {H : AH} : orun code ret E0 0 (n + 1) (18, L, S, H, cs, ss) = orun code ret E0 0 n (19, L, (.int 1 :: S), H, cs, ss) := s_any k0_18
theorem s0_19 {n cs ss : Nat} {L : List Slot} {S : List Value} {H : AH} : orun code ret E0 0 (n + 1) (19, L, S, H, cs, ss) = pI S fun y S => pI S fun x r => orun code ret E0 0 n (20, L, .int (x + y) :: r, H, cs, ss) := s_any k0_19
theorem s0_20 {n cs ss : Nat} {L : List Slot} {S : List Value} {H : AH} : orun code ret E0 0 (n + 1) (20, L, S, H, cs, ss) = pI S fun x r => (st1 L 7 (.int x)).bind fun L' => orun code ret E0 0 n (22, L', r, H, cs, ss) := s_any k0_20
theorem s0_22 {n cs ss : Nat} {L : List Slot} {S : List Value} {H : AH} : orun code ret E0 0 (n + 1) (22, L, S, H, cs, ss) = (gI L 6).bind fun v => orun code ret E0 0 n (24, L, .int v :: S, H, cs, ss) := s_any k0_22
theorem s0_24 {n cs ss : Nat} {L : List Slot} {S : List Value} {H : AH} : orun code ret E0 0 (n + 1) (24, L, S, H, cs, ss) = pI S fun x r => (st1 L 8 (.int x)).bind fun L' => orun code ret E0 0 n (26, L', r, H, cs, ss) := s_any k0_24
theorem s0_26 {n cs ss : Nat} {L : List Slot} {S : List Value} {H : AH} : orun code ret E0 0 (n + 1) (26, L, S, H, cs, ss) = (gI L 6).bind fun v => orun code ret E0 0 n (28, L, .int v :: S, H, cs, ss) := s_any k0_26
theorem s0_28 {n cs ss : Nat} {L : List Slot} {S : List Value} {H : AH} : orun code ret E0 0 (n + 1) (28, L, S, H, cs, ss) = (gI L 7).bind fun v => orun code ret E0 0 n (30, L, .int v :: S, H, cs, ss) := s_any k0_28
theorem s0_30 {n cs ss : Nat} {L : List Slot} {S : List Value} {H : AH} : orun code ret E0 0 (n + 1) (30, L, S, H, cs, ss) = pI S fun y S => pI S fun x r => orun code ret E0 0 n (31, L, .int (x + y) :: r, H, cs, ss) := s_any k0_30
theorem s0_31 {n cs ss : Nat} {L : List Slot} {S : List Value} {H : AH} : orun code ret E0 0 (n + 1) (31, L, S, H, cs, ss) = pI S fun x r => (st1 L 9 (.int x)).bind fun L' => orun code ret E0 0 n (33, L', r, H, cs, ss) := s_any k0_31
theorem s0_33 {n cs ss : Nat} {L : List Slot} {S : List Value} {H : AH} : orun code ret E0 0 (n + 1) (33, L, S, H, cs, ss) = (gI L 6).bind fun v => orun code ret E0 0 n (35, L, .int v :: S, H, cs, ss) := s_any k0_33
theorem s0_35 {n cs ss : Nat} {L : List Slot} {S : List Value} {H : AH} : orun code ret E0 0 (n + 1) (35, L, S, H, cs, ss) = orun code ret E0 0 n (36, L, (.int 2 :: S), H, cs, ss) := s_any k0_35
theorem s0_36 {n cs ss : Nat} {L : List Slot} {S : List Value} {H : AH} : orun code ret E0 0 (n + 1) (36, L, S, H, cs, ss) = (gI L 7).bind fun v => orun code ret E0 0 n (38, L, .int v :: S, H, cs, ss) := s_any k0_36
theorem s0_38 {n cs ss : Nat} {L : List Slot} {S : List Value} {H : AH} : orun code ret E0 0 (n + 1) (38, L, S, H, cs, ss) = pI S fun y S => pI S fun x r => orun code ret E0 0 n (39, L, .int (x * y) :: r, H, cs, ss) := s_any k0_38
theorem s0_39 {n cs ss : Nat} {L : List Slot} {S : List Value} {H : AH} : orun code ret E0 0 (n + 1) (39, L, S, H, cs, ss) = pI S fun y S => pI S fun x r => orun code ret E0 0 n (40, L, .int (x + y) :: r, H, cs, ss) := s_any k0_39
theorem s0_40 {n cs ss : Nat} {L : List Slot} {S : List Value} {H : AH} : orun code ret E0 0 (n + 1) (40, L, S, H, cs, ss) = pI S fun x r => (st1 L 10 (.int x)).bind fun L' => orun code ret E0 0 n (42, L', r, H, cs, ss) := s_any k0_40
theorem s0_42 {n cs ss : Nat} {L : List Slot} {S : List Value} {H : AH} : orun code ret E0 0 (n + 1) (42, L, S, H, cs, ss) = (gI L 6).bind fun v => orun code ret E0 0 n (44, L, .int v :: S, H, cs, ss) := s_any k0_42
theorem s0_44 {n cs ss : Nat} {L : List Slot} {S : List Value} {H : AH} : orun code ret E0 0 (n + 1) (44, L, S, H, cs, ss) = orun code ret E0 0 n (45, L, (.int 3 :: S), H, cs, ss) := s_any k0_44
theorem s0_45 {n cs ss : Nat} {L : List Slot} {S : List Value} {H : AH} : orun code ret E0 0 (n + 1) (45, L, S, H, cs, ss) = (gI L 7).bind fun v => orun code ret E0 0 n (47, L, .int v :: S, H, cs, ss) := s_any k0_45
theorem s0_47 {n cs ss : Nat} {L : List Slot} {S : List Value} {H : AH} : orun code ret E0 0 (n + 1) (47, L, S, H, cs, ss) = pI S fun y S => pI S fun x r => orun code ret E0 0 n (48, L, .int (x * y) :: r, H, cs, ss) := s_any k0_47
theorem s0_48 {n cs ss : Nat} {L : List Slot} {S : List Value} {H : AH} : orun code ret E0 0 (n + 1) (48, L, S, H, cs, ss) = pI S fun y S => pI S fun x r => orun code ret E0 0 n (49, L, .int (x + y) :: r, H, cs, ss) := s_any k0_48
theorem s0_49 {n cs ss : Nat} {L : List Slot} {S : List Value} {H : AH} : orun code ret E0 0 (n + 1) (49, L, S, H, cs, ss) = pI S fun x r => (st1 L 11 (.int x)).bind fun L' => orun code ret E0 0 n (51, L', r, H, cs, ss) := s_any k0_49
theorem s0_51 {n cs ss : Nat} {L : List Slot} {S : List Value} {H : AH} : orun code ret E0 0 (n + 1) (51, L, S, H, cs, ss) = (gI L 6).bind fun v => orun code ret E0 0 n (53, L, .int v :: S, H, cs, ss) := s_any k0_51
theorem s0_53 {n cs ss : Nat} {L : List Slot} {S : List Value} {H : AH} : orun code ret E0 0 (n + 1) (53, L, S, H, cs, ss) = orun code ret E0 0 n (54, L, (.int 4 :: S), H, cs, ss) := s_any k0_53
theorem s0_54 {n cs ss : Nat} {L : List Slot} {S : List Value} {H : AH} : orun code ret E0 0 (n + 1) (54, L, S, H, cs, ss) = (gI L 7).bind fun v => orun code ret E0 0 n (56, L, .int v :: S, H, cs, ss) := s_any k0_54
theorem s0_56 {n cs ss : Nat} {L : List Slot} {S : List Value} {H : AH} : orun code ret E0 0 (n + 1) (56, L, S, H, cs, ss) = pI S fun y S => pI S fun x r => orun code ret E0 0 n (57, L, .int (x * y) :: r, H, cs, ss) := s_any k0_56
theorem s0_57 {n cs ss : Nat} {L : List Slot} {S : List Value} {H : AH} : orun code ret E0 0 (n + 1) (57, L, S, H, cs, ss) = pI S fun y S => pI S fun x r => orun code ret E0 0 n (58, L, .int (x + y) :: r, H, cs, ss) := s_any k0_57
theorem s0_58 {n cs ss : Nat} {L : List Slot} {S : List Value} {H : AH} : orun code ret E0 0 (n + 1) (58, L, S, H, cs, ss) = pI S fun x r => (st1 L 12 (.int x)).bind fun L' => orun code ret E0 0 n (60, L', r, H, cs, ss) := s_any k0_58
theorem s0_60 {n cs ss : Nat} {L : List Slot} {S : List Value} {H : AH} : orun code ret E0 0 (n + 1) (60, L, S, H, cs, ss) = orun code ret E0 0 n (61, L, (.int 1 :: S), H, cs, ss) := s_any k0_60
theorem s0_61 {n cs ss : Nat} {L : List Slot} {S : List Value} {H : AH} : orun code ret E0 0 (n + 1) (61, L, S, H, cs, ss) = (gI L 3).bind fun v => orun code ret E0 0 n (62, L, .int v :: S, H, cs, ss) := s_any k0_61
theorem s0_62 {n cs ss : Nat} {L : List Slot} {S : List Value} {H : AH} : orun code ret E0 0 (n + 1) (62, L, S, H, cs, ss) = (aI (1073741823) S H cs ss).bind fun r => orun code ret E0 0 n (64, L, r.1, r.2.1, r.2.2.1, r.2.2.2) := s_any k0_62
theorem s0_64 {n cs ss : Nat} {L : List Slot} {S : List Value} {H : AH} : orun code ret E0 0 (n + 1) (64, L, S, H, cs, ss) = pI S fun y S => pI S fun x r => orun code ret E0 0 n (65, L, .int (x &&& y) :: r, H, cs, ss) := s_any k0_64
theorem s0_65 {n cs ss : Nat} {L : List Slot} {S : List Value} {H : AH} : orun code ret E0 0 (n + 1) (65, L, S, H, cs, ss) = pI S fun y S => pI S fun x r => orun code ret E0 0 n (66, L, .int (x + y) :: r, H, cs, ss) := s_any k0_65
theorem s0_66 {n cs ss : Nat} {L : List Slot} {S : List Value} {H : AH} : orun code ret E0 0 (n + 1) (66, L, S, H, cs, ss) = pI S fun x r => (st1 L 13 (.int x)).bind fun L' => orun code ret E0 0 n (68, L', r, H, cs, ss) := s_any k0_66
theorem s0_68 {n cs ss : Nat} {L : List Slot} {S : List Value} {H : AH} : orun code ret E0 0 (n + 1) (68, L, S, H, cs, ss) = orun code ret E0 0 n (69, L, (.int 1 :: S), H, cs, ss) := s_any k0_68
theorem s0_69 {n cs ss : Nat} {L : List Slot} {S : List Value} {H : AH} : orun code ret E0 0 (n + 1) (69, L, S, H, cs, ss) = (gI L 3).bind fun v => orun code ret E0 0 n (70, L, .int v :: S, H, cs, ss) := s_any k0_69
theorem s0_70 {n cs ss : Nat} {L : List Slot} {S : List Value} {H : AH} : orun code ret E0 0 (n + 1) (70, L, S, H, cs, ss) = (gI L 4).bind fun v => orun code ret E0 0 n (72, L, .int v :: S, H, cs, ss) := s_any k0_70
theorem s0_72 {n cs ss : Nat} {L : List Slot} {S : List Value} {H : AH} : orun code ret E0 0 (n + 1) (72, L, S, H, cs, ss) = pI S fun y S => pI S fun x r => orun code ret E0 0 n (73, L, .int (x + y) :: r, H, cs, ss) := s_any k0_72
theorem s0_73 {n cs ss : Nat} {L : List Slot} {S : List Value} {H : AH} : orun code ret E0 0 (n + 1) (73, L, S, H, cs, ss) = (aI (1073741823) S H cs ss).bind fun r => orun code ret E0 0 n (75, L, r.1, r.2.1, r.2.2.1, r.2.2.2) := s_any k0_73
theorem s0_75 {n cs ss : Nat} {L : List Slot} {S : List Value} {H : AH} : orun code ret E0 0 (n + 1) (75, L, S, H, cs, ss) = pI S fun y S => pI S fun x r => orun code ret E0 0 n (76, L, .int (x &&& y) :: r, H, cs, ss) := s_any k0_75
theorem s0_76 {n cs ss : Nat} {L : List Slot} {S : List Value} {H : AH} : orun code ret E0 0 (n + 1) (76, L, S, H, cs, ss) = pI S fun y S => pI S fun x r => orun code ret E0 0 n (77, L, .int (x + y) :: r, H, cs, ss) := s_any k0_76
theorem s0_77 {n cs ss : Nat} {L : List Slot} {S : List Value} {H : AH} : orun code ret E0 0 (n + 1) (77, L, S, H, cs, ss) = pI S fun x r => (st1 L 14 (.int x)).bind fun L' => orun code ret E0 0 n (79, L', r, H, cs, ss) := s_any k0_77
theorem s0_79 {n cs ss : Nat} {L : List Slot} {S : List Value} {H : AH} : orun code ret E0 0 (n + 1) (79, L, S, H, cs, ss) = orun code ret E0 0 n (80, L, (.int 1 :: S), H, cs, ss) := s_any k0_79
theorem s0_80 {n cs ss : Nat} {L : List Slot} {S : List Value} {H : AH} : orun code ret E0 0 (n + 1) (80, L, S, H, cs, ss) = (gI L 3).bind fun v => orun code ret E0 0 n (81, L, .int v :: S, H, cs, ss) := s_any k0_80
theorem s0_81 {n cs ss : Nat} {L : List Slot} {S : List Value} {H : AH} : orun code ret E0 0 (n + 1) (81, L, S, H, cs, ss) = orun code ret E0 0 n (82, L, (.int 2 :: S), H, cs, ss) := s_any k0_81
theorem s0_82 {n cs ss : Nat} {L : List Slot} {S : List Value} {H : AH} : orun code ret E0 0 (n + 1) (82, L, S, H, cs, ss) = (gI L 4).bind fun v => orun code ret E0 0 n (84, L, .int v :: S, H, cs, ss) := s_any k0_82
theorem s0_84 {n cs ss : Nat} {L : List Slot} {S : List Value} {H : AH} : orun code ret E0 0 (n + 1) (84, L, S, H, cs, ss) = pI S fun y S => pI S fun x r => orun code ret E0 0 n (85, L, .int (x * y) :: r, H, cs, ss) := s_any k0_84
theorem s0_85 {n cs ss : Nat} {L : List Slot} {S : List Value} {H : AH} : orun code ret E0 0 (n + 1) (85, L, S, H, cs, ss) = pI S fun y S => pI S fun x r => orun code ret E0 0 n (86, L, .int (x + y) :: r, H, cs, ss) := s_any k0_85
theorem s0_86 {n cs ss : Nat} {L : List Slot} {S : List Value} {H : AH} : orun code ret E0 0 (n + 1) (86, L, S, H, cs, ss) = (aI (1073741823) S H cs ss).bind fun r => orun code ret E0 0 n (88, L, r.1, r.2.1, r.2.2.1, r.2.2.2) := s_any k0_86
theorem s0_88 {n cs ss : Nat} {L : List Slot} {S : List Value} {H : AH} : orun code ret E0 0 (n + 1) (88, L, S, H, cs, ss) = pI S fun y S => pI S fun x r => orun code ret E0 0 n (89, L, .int (x &&& y) :: r, H, cs, ss) := s_any k0_88
theorem s0_89 {n cs ss : Nat} {L : List Slot} {S : List Value} {H : AH} : orun code ret E0 0 (n + 1) (89, L, S, H, cs, ss) = pI S fun y S => pI S fun x r => orun code ret E0 0 n (90, L, .int (x + y) :: r, H, cs, ss) := s_any k0_89
theorem s0_90 {n cs ss : Nat} {L : List Slot} {S : List Value} {H : AH} : orun code ret E0 0 (n + 1) (90, L, S, H, cs, ss) = pI S fun x r => (st1 L 15 (.int x)).bind fun L' => orun code ret E0 0 n (92, L', r, H, cs, ss) := s_any k0_90
theorem s0_92 {n cs ss : Nat} {L : List Slot} {S : List Value} {H : AH} : orun code ret E0 0 (n + 1) (92, L, S, H, cs, ss) = orun code ret E0 0 n (93, L, (.int 1 :: S), H, cs, ss) := s_any k0_92
theorem s0_93 {n cs ss : Nat} {L : List Slot} {S : List Value} {H : AH} : orun code ret E0 0 (n + 1) (93, L, S, H, cs, ss) = (gI L 3).bind fun v => orun code ret E0 0 n (94, L, .int v :: S, H, cs, ss) := s_any k0_93
theorem s0_94 {n cs ss : Nat} {L : List Slot} {S : List Value} {H : AH} : orun code ret E0 0 (n + 1) (94, L, S, H, cs, ss) = orun code ret E0 0 n (95, L, (.int 3 :: S), H, cs, ss) := s_any k0_94
theorem s0_95 {n cs ss : Nat} {L : List Slot} {S : List Value} {H : AH} : orun code ret E0 0 (n + 1) (95, L, S, H, cs, ss) = (gI L 4).bind fun v => orun code ret E0 0 n (97, L, .int v :: S, H, cs, ss) := s_any k0_95
theorem s0_97 {n cs ss : Nat} {L : List Slot} {S : List Value} {H : AH} : orun code ret E0 0 (n + 1) (97, L, S, H, cs, ss) = pI S fun y S => pI S fun x r => orun code ret E0 0 n (98, L, .int (x * y) :: r, H, cs, ss) := s_any k0_97
theorem s0_98 {n cs ss : Nat} {L : List Slot} {S : List Value} {H : AH} : orun code ret E0 0 (n + 1) (98, L, S, H, cs, ss) = pI S fun y S => pI S fun x r => orun code ret E0 0 n (99, L, .int (x + y) :: r, H, cs, ss) := s_any k0_98
theorem s0_99 {n cs ss : Nat} {L : List Slot} {S : List Value} {H : AH} : orun code ret E0 0 (n + 1) (99, L, S, H, cs, ss) = (aI (1073741823) S H cs ss).bind fun r => orun code ret E0 0 n (101, L, r.1, r.2.1, r.2.2.1, r.2.2.2) := s_any k0_99
theorem s0_101 {n cs ss : Nat} {L : List Slot} {S : List Value} {H : AH} : orun code ret E0 0 (n + 1) (101, L, S, H, cs, ss) = pI S fun y S => pI S fun x r => orun code ret E0 0 n (102, L, .int (x &&& y) :: r, H, cs, ss) := s_any k0_101
theorem s0_102 {n cs ss : Nat} {L : List Slot} {S : List Value} {H : AH} : orun code ret E0 0 (n + 1) (102, L, S, H, cs, ss) = pI S fun y S => pI S fun x r => orun code ret E0 0 n (103, L, .int (x + y) :: r, H, cs, ss) := s_any k0_102
theorem s0_103 {n cs ss : Nat} {L : List Slot} {S : List Value} {H : AH} : orun code ret E0 0 (n + 1) (103, L, S, H, cs, ss) = pI S fun x r => (st1 L 16 (.int x)).bind fun L' => orun code ret E0 0 n (105, L', r, H, cs, ss) := s_any k0_103
theorem s0_105 {n cs ss : Nat} {L : List Slot} {S : List Value} {H : AH} : orun code ret E0 0 (n + 1) (105, L, S, H, cs, ss) = orun code ret E0 0 n (106, L, (.int 1 :: S), H, cs, ss) := s_any k0_105
theorem s0_106 {n cs ss : Nat} {L : List Slot} {S : List Value} {H : AH} : orun code ret E0 0 (n + 1) (106, L, S, H, cs, ss) = (gI L 3).bind fun v => orun code ret E0 0 n (107, L, .int v :: S, H, cs, ss) := s_any k0_106
theorem s0_107 {n cs ss : Nat} {L : List Slot} {S : List Value} {H : AH} : orun code ret E0 0 (n + 1) (107, L, S, H, cs, ss) = orun code ret E0 0 n (108, L, (.int 4 :: S), H, cs, ss) := s_any k0_107
theorem s0_108 {n cs ss : Nat} {L : List Slot} {S : List Value} {H : AH} : orun code ret E0 0 (n + 1) (108, L, S, H, cs, ss) = (gI L 4).bind fun v => orun code ret E0 0 n (110, L, .int v :: S, H, cs, ss) := s_any k0_108
theorem s0_110 {n cs ss : Nat} {L : List Slot} {S : List Value} {H : AH} : orun code ret E0 0 (n + 1) (110, L, S, H, cs, ss) = pI S fun y S => pI S fun x r => orun code ret E0 0 n (111, L, .int (x * y) :: r, H, cs, ss) := s_any k0_110
theorem s0_111 {n cs ss : Nat} {L : List Slot} {S : List Value} {H : AH} : orun code ret E0 0 (n + 1) (111, L, S, H, cs, ss) = pI S fun y S => pI S fun x r => orun code ret E0 0 n (112, L, .int (x + y) :: r, H, cs, ss) := s_any k0_111
theorem s0_112 {n cs ss : Nat} {L : List Slot} {S : List Value} {H : AH} : orun code ret E0 0 (n + 1) (112, L, S, H, cs, ss) = (aI (1073741823) S H cs ss).bind fun r => orun code ret E0 0 n (114, L, r.1, r.2.1, r.2.2.1, r.2.2.2) := s_any k0_112
theorem s0_114 {n cs ss : Nat} {L : List Slot} {S : List Value} {H : AH} : orun code ret E0 0 (n + 1) (114, L, S, H, cs, ss) = pI S fun y S => pI S fun x r => orun code ret E0 0 n (115, L, .int (x &&& y) :: r, H, cs, ss) := s_any k0_114
theorem s0_115 {n cs ss : Nat} {L : List Slot} {S : List Value} {H : AH} : orun code ret E0 0 (n + 1) (115, L, S, H, cs, ss) = pI S fun y S => pI S fun x r => orun code ret E0 0 n (116, L, .int (x + y) :: r, H, cs, ss) := s_any k0_115
theorem s0_116 {n cs ss : Nat} {L : List Slot} {S : List Value} {H : AH} : orun code ret E0 0 (n + 1) (116, L, S, H, cs, ss) = pI S fun x r => (st1 L 17 (.int x)).bind fun L' => orun code ret E0 0 n (118, L', r, H, cs, ss) := s_any k0_116
theorem s0_118 {n cs ss : Nat} {L : List Slot} {S : List Value} {H : AH} : orun code ret E0 0 (n + 1) (118, L, S, H, cs, ss) = (aNew 0 3 24 192 [.null, .null, (.int 0)] S H cs ss).bind fun r => orun code ret E0 0 n (121, L, r.1, r.2.1, r.2.2.1, r.2.2.2) := s_any k0_118
theorem s0_121 {n cs ss : Nat} {L : List Slot} {S : List Value} {H : AH} : orun code ret E0 0 (n + 1) (121, L, S, H, cs, ss) = ex ret E0 0 (orun code ret E0 0 n) (.dup) 121 L S H cs ss := s_any k0_121
theorem s0_122 {n cs ss : Nat} {L : List Slot} {S : List Value} {H : AH} : orun code ret E0 0 (n + 1) (122, L, S, H, cs, ss) = (aRecv 0 0 6 24 192 2 8 F1 S H cs ss).bind fun r => orun code ret E0 0 n (125, L, r.1, r.2.1, r.2.2.1, r.2.2.2) := s_any k0_122
theorem s0_125 {n cs ss : Nat} {L : List Slot} {S : List Value} {H : AH} : orun code ret E0 0 (n + 1) (125, L, S, H, cs, ss) = pA S fun x r => (st1 L 18 x).bind fun L' => orun code ret E0 0 n (127, L', r, H, cs, ss) := s_any k0_125
theorem s0_127 {n cs ss : Nat} {L : List Slot} {S : List Value} {H : AH} : orun code ret E0 0 (n + 1) (127, L, S, H, cs, ss) = (gI L 5).bind fun v => orun code ret E0 0 n (129, L, .int v :: S, H, cs, ss) := s_any k0_127
theorem s0_129 {n cs ss : Nat} {L : List Slot} {S : List Value} {H : AH} : orun code ret E0 0 (n + 1) (129, L, S, H, cs, ss) = pI S fun x r => if 0 < x then orun code ret E0 0 n (132, L, r, H, cs, ss) else orun code ret E0 0 n (141, L, r, H, cs, ss) := s_ifN (Q := fun x => 0 < x) (fun _ => z_le) k0_129 (by decide) (by decide)
theorem s0_132 {n cs ss : Nat} {L : List Slot} {S : List Value} {H : AH} : orun code ret E0 0 (n + 1) (132, L, S, H, cs, ss) = (gA L 18).bind fun v => orun code ret E0 0 n (134, L, v :: S, H, cs, ss) := s_any k0_132
theorem s0_134 {n cs ss : Nat} {L : List Slot} {S : List Value} {H : AH} : orun code ret E0 0 (n + 1) (134, L, S, H, cs, ss) = (gI L 8).bind fun v => orun code ret E0 0 n (136, L, .int v :: S, H, cs, ss) := s_any k0_134
theorem s0_136 {n cs ss : Nat} {L : List Slot} {S : List Value} {H : AH} : orun code ret E0 0 (n + 1) (136, L, S, H, cs, ss) = (gI L 13).bind fun v => orun code ret E0 0 n (138, L, .int v :: S, H, cs, ss) := s_any k0_136
theorem s0_138 {n cs ss : Nat} {L : List Slot} {S : List Value} {H : AH} : orun code ret E0 0 (n + 1) (138, L, S, H, cs, ss) = (aRecv 2 0 6 24 192 2 16 F8 S H cs ss).bind fun r => orun code ret E0 0 n (141, L, r.1, r.2.1, r.2.2.1, r.2.2.2) := s_any k0_138
theorem s0_141 {n cs ss : Nat} {L : List Slot} {S : List Value} {H : AH} : orun code ret E0 0 (n + 1) (141, L, S, H, cs, ss) = (gI L 5).bind fun v => orun code ret E0 0 n (143, L, .int v :: S, H, cs, ss) := s_any k0_141
theorem s0_143 {n cs ss : Nat} {L : List Slot} {S : List Value} {H : AH} : orun code ret E0 0 (n + 1) (143, L, S, H, cs, ss) = orun code ret E0 0 n (144, L, (.int 1 :: S), H, cs, ss) := s_any k0_143
theorem s0_144 {n cs ss : Nat} {L : List Slot} {S : List Value} {H : AH} : orun code ret E0 0 (n + 1) (144, L, S, H, cs, ss) = pI S fun y S => pI S fun x r => if y < x then orun code ret E0 0 n (147, L, r, H, cs, ss) else orun code ret E0 0 n (156, L, r, H, cs, ss) := s_icmpN (Q := fun x y => y < x) (fun _ _ => h_le) k0_144 (by decide) (by decide)
theorem s0_147 {n cs ss : Nat} {L : List Slot} {S : List Value} {H : AH} : orun code ret E0 0 (n + 1) (147, L, S, H, cs, ss) = (gA L 18).bind fun v => orun code ret E0 0 n (149, L, v :: S, H, cs, ss) := s_any k0_147
theorem s0_149 {n cs ss : Nat} {L : List Slot} {S : List Value} {H : AH} : orun code ret E0 0 (n + 1) (149, L, S, H, cs, ss) = (gI L 9).bind fun v => orun code ret E0 0 n (151, L, .int v :: S, H, cs, ss) := s_any k0_149
theorem s0_151 {n cs ss : Nat} {L : List Slot} {S : List Value} {H : AH} : orun code ret E0 0 (n + 1) (151, L, S, H, cs, ss) = (gI L 14).bind fun v => orun code ret E0 0 n (153, L, .int v :: S, H, cs, ss) := s_any k0_151
theorem s0_153 {n cs ss : Nat} {L : List Slot} {S : List Value} {H : AH} : orun code ret E0 0 (n + 1) (153, L, S, H, cs, ss) = (aRecv 2 0 6 24 192 2 16 F8 S H cs ss).bind fun r => orun code ret E0 0 n (156, L, r.1, r.2.1, r.2.2.1, r.2.2.2) := s_any k0_153
theorem s0_156 {n cs ss : Nat} {L : List Slot} {S : List Value} {H : AH} : orun code ret E0 0 (n + 1) (156, L, S, H, cs, ss) = (gI L 5).bind fun v => orun code ret E0 0 n (158, L, .int v :: S, H, cs, ss) := s_any k0_156
theorem s0_158 {n cs ss : Nat} {L : List Slot} {S : List Value} {H : AH} : orun code ret E0 0 (n + 1) (158, L, S, H, cs, ss) = orun code ret E0 0 n (159, L, (.int 2 :: S), H, cs, ss) := s_any k0_158
theorem s0_159 {n cs ss : Nat} {L : List Slot} {S : List Value} {H : AH} : orun code ret E0 0 (n + 1) (159, L, S, H, cs, ss) = pI S fun y S => pI S fun x r => if y < x then orun code ret E0 0 n (162, L, r, H, cs, ss) else orun code ret E0 0 n (171, L, r, H, cs, ss) := s_icmpN (Q := fun x y => y < x) (fun _ _ => h_le) k0_159 (by decide) (by decide)
theorem s0_162 {n cs ss : Nat} {L : List Slot} {S : List Value} {H : AH} : orun code ret E0 0 (n + 1) (162, L, S, H, cs, ss) = (gA L 18).bind fun v => orun code ret E0 0 n (164, L, v :: S, H, cs, ss) := s_any k0_162
theorem s0_164 {n cs ss : Nat} {L : List Slot} {S : List Value} {H : AH} : orun code ret E0 0 (n + 1) (164, L, S, H, cs, ss) = (gI L 10).bind fun v => orun code ret E0 0 n (166, L, .int v :: S, H, cs, ss) := s_any k0_164
theorem s0_166 {n cs ss : Nat} {L : List Slot} {S : List Value} {H : AH} : orun code ret E0 0 (n + 1) (166, L, S, H, cs, ss) = (gI L 15).bind fun v => orun code ret E0 0 n (168, L, .int v :: S, H, cs, ss) := s_any k0_166
theorem s0_168 {n cs ss : Nat} {L : List Slot} {S : List Value} {H : AH} : orun code ret E0 0 (n + 1) (168, L, S, H, cs, ss) = (aRecv 2 0 6 24 192 2 16 F8 S H cs ss).bind fun r => orun code ret E0 0 n (171, L, r.1, r.2.1, r.2.2.1, r.2.2.2) := s_any k0_168
theorem s0_171 {n cs ss : Nat} {L : List Slot} {S : List Value} {H : AH} : orun code ret E0 0 (n + 1) (171, L, S, H, cs, ss) = (gI L 5).bind fun v => orun code ret E0 0 n (173, L, .int v :: S, H, cs, ss) := s_any k0_171
theorem s0_173 {n cs ss : Nat} {L : List Slot} {S : List Value} {H : AH} : orun code ret E0 0 (n + 1) (173, L, S, H, cs, ss) = orun code ret E0 0 n (174, L, (.int 3 :: S), H, cs, ss) := s_any k0_173
theorem s0_174 {n cs ss : Nat} {L : List Slot} {S : List Value} {H : AH} : orun code ret E0 0 (n + 1) (174, L, S, H, cs, ss) = pI S fun y S => pI S fun x r => if y < x then orun code ret E0 0 n (177, L, r, H, cs, ss) else orun code ret E0 0 n (186, L, r, H, cs, ss) := s_icmpN (Q := fun x y => y < x) (fun _ _ => h_le) k0_174 (by decide) (by decide)
theorem s0_177 {n cs ss : Nat} {L : List Slot} {S : List Value} {H : AH} : orun code ret E0 0 (n + 1) (177, L, S, H, cs, ss) = (gA L 18).bind fun v => orun code ret E0 0 n (179, L, v :: S, H, cs, ss) := s_any k0_177
theorem s0_179 {n cs ss : Nat} {L : List Slot} {S : List Value} {H : AH} : orun code ret E0 0 (n + 1) (179, L, S, H, cs, ss) = (gI L 11).bind fun v => orun code ret E0 0 n (181, L, .int v :: S, H, cs, ss) := s_any k0_179
theorem s0_181 {n cs ss : Nat} {L : List Slot} {S : List Value} {H : AH} : orun code ret E0 0 (n + 1) (181, L, S, H, cs, ss) = (gI L 16).bind fun v => orun code ret E0 0 n (183, L, .int v :: S, H, cs, ss) := s_any k0_181
theorem s0_183 {n cs ss : Nat} {L : List Slot} {S : List Value} {H : AH} : orun code ret E0 0 (n + 1) (183, L, S, H, cs, ss) = (aRecv 2 0 6 24 192 2 16 F8 S H cs ss).bind fun r => orun code ret E0 0 n (186, L, r.1, r.2.1, r.2.2.1, r.2.2.2) := s_any k0_183
theorem s0_186 {n cs ss : Nat} {L : List Slot} {S : List Value} {H : AH} : orun code ret E0 0 (n + 1) (186, L, S, H, cs, ss) = (gI L 5).bind fun v => orun code ret E0 0 n (188, L, .int v :: S, H, cs, ss) := s_any k0_186
theorem s0_188 {n cs ss : Nat} {L : List Slot} {S : List Value} {H : AH} : orun code ret E0 0 (n + 1) (188, L, S, H, cs, ss) = orun code ret E0 0 n (189, L, (.int 4 :: S), H, cs, ss) := s_any k0_188
theorem s0_189 {n cs ss : Nat} {L : List Slot} {S : List Value} {H : AH} : orun code ret E0 0 (n + 1) (189, L, S, H, cs, ss) = pI S fun y S => pI S fun x r => if y < x then orun code ret E0 0 n (192, L, r, H, cs, ss) else orun code ret E0 0 n (201, L, r, H, cs, ss) := s_icmpN (Q := fun x y => y < x) (fun _ _ => h_le) k0_189 (by decide) (by decide)
theorem s0_192 {n cs ss : Nat} {L : List Slot} {S : List Value} {H : AH} : orun code ret E0 0 (n + 1) (192, L, S, H, cs, ss) = (gA L 18).bind fun v => orun code ret E0 0 n (194, L, v :: S, H, cs, ss) := s_any k0_192
theorem s0_194 {n cs ss : Nat} {L : List Slot} {S : List Value} {H : AH} : orun code ret E0 0 (n + 1) (194, L, S, H, cs, ss) = (gI L 12).bind fun v => orun code ret E0 0 n (196, L, .int v :: S, H, cs, ss) := s_any k0_194
theorem s0_196 {n cs ss : Nat} {L : List Slot} {S : List Value} {H : AH} : orun code ret E0 0 (n + 1) (196, L, S, H, cs, ss) = (gI L 17).bind fun v => orun code ret E0 0 n (198, L, .int v :: S, H, cs, ss) := s_any k0_196
theorem s0_198 {n cs ss : Nat} {L : List Slot} {S : List Value} {H : AH} : orun code ret E0 0 (n + 1) (198, L, S, H, cs, ss) = (aRecv 2 0 6 24 192 2 16 F8 S H cs ss).bind fun r => orun code ret E0 0 n (201, L, r.1, r.2.1, r.2.2.1, r.2.2.2) := s_any k0_198
theorem s0_201 {n cs ss : Nat} {L : List Slot} {S : List Value} {H : AH} : orun code ret E0 0 (n + 1) (201, L, S, H, cs, ss) = (gA L 18).bind fun v => orun code ret E0 0 n (203, L, v :: S, H, cs, ss) := s_any k0_201
theorem s0_203 {n cs ss : Nat} {L : List Slot} {S : List Value} {H : AH} : orun code ret E0 0 (n + 1) (203, L, S, H, cs, ss) = (aRecv 0 0 6 24 192 3 18 F2 S H cs ss).bind fun r => orun code ret E0 0 n (206, L, r.1, r.2.1, r.2.2.1, r.2.2.2) := s_any k0_203
theorem s0_206 {n cs ss : Nat} {L : List Slot} {S : List Value} {H : AH} : orun code ret E0 0 (n + 1) (206, L, S, H, cs, ss) = pA S fun x r => (st1 L 19 x).bind fun L' => orun code ret E0 0 n (208, L', r, H, cs, ss) := s_any k0_206
theorem s0_208 {n cs ss : Nat} {L : List Slot} {S : List Value} {H : AH} : orun code ret E0 0 (n + 1) (208, L, S, H, cs, ss) = (gA L 19).bind fun v => orun code ret E0 0 n (210, L, v :: S, H, cs, ss) := s_any k0_208
theorem s0_210 {n cs ss : Nat} {L : List Slot} {S : List Value} {H : AH} : orun code ret E0 0 (n + 1) (210, L, S, H, cs, ss) = (aRecv 0 1 6 24 192 0 0 F6 S H cs ss).bind fun r => orun code ret E0 0 n (213, L, r.1, r.2.1, r.2.2.1, r.2.2.2) := s_any k0_210
theorem s0_213 {n cs ss : Nat} {L : List Slot} {S : List Value} {H : AH} : orun code ret E0 0 (n + 1) (213, L, S, H, cs, ss) = (gI L 5).bind fun v => orun code ret E0 0 n (215, L, .int v :: S, H, cs, ss) := s_any k0_213
theorem s0_215 {n cs ss : Nat} {L : List Slot} {S : List Value} {H : AH} : orun code ret E0 0 (n + 1) (215, L, S, H, cs, ss) = pI S fun y S => pI S fun x r => if x = y then orun code ret E0 0 n (220, L, r, H, cs, ss) else orun code ret E0 0 n (218, L, r, H, cs, ss) := s_icmp (Q := fun x y => x = y) (fun _ _ => h_eq) k0_215 (by decide) (by decide)
theorem s0_218 {n cs ss : Nat} {L : List Slot} {S : List Value} {H : AH} : orun code ret E0 0 (n + 1) (218, L, S, H, cs, ss) = orun code ret E0 0 n (219, L, (.int 0 :: S), H, cs, ss) := s_any k0_218
theorem s0_219 {n cs ss : Nat} {L : List Slot} {S : List Value} {H : AH} : orun code ret E0 0 (n + 1) (219, L, S, H, cs, ss) = pI S fun z _ => some (some (.int (z &&& 1)), H) := s_any k0_219
theorem s0_220 {n cs ss : Nat} {L : List Slot} {S : List Value} {H : AH} : orun code ret E0 0 (n + 1) (220, L, S, H, cs, ss) = (gA L 19).bind fun v => orun code ret E0 0 n (222, L, v :: S, H, cs, ss) := s_any k0_220
theorem s0_222 {n cs ss : Nat} {L : List Slot} {S : List Value} {H : AH} : orun code ret E0 0 (n + 1) (222, L, S, H, cs, ss) = (gI L 5).bind fun v => orun code ret E0 0 n (224, L, .int v :: S, H, cs, ss) := s_any k0_222
theorem s0_224 {n cs ss : Nat} {L : List Slot} {S : List Value} {H : AH} : orun code ret E0 0 (n + 1) (224, L, S, H, cs, ss) = orun code ret E0 0 n (225, L, (.int 0 :: S), H, cs, ss) := s_any k0_224
theorem s0_225 {n cs ss : Nat} {L : List Slot} {S : List Value} {H : AH} : orun code ret E0 0 (n + 1) (225, L, S, H, cs, ss) = (gI L 8).bind fun v => orun code ret E0 0 n (227, L, .int v :: S, H, cs, ss) := s_any k0_225
theorem s0_227 {n cs ss : Nat} {L : List Slot} {S : List Value} {H : AH} : orun code ret E0 0 (n + 1) (227, L, S, H, cs, ss) = (gI L 13).bind fun v => orun code ret E0 0 n (229, L, .int v :: S, H, cs, ss) := s_any k0_227
theorem s0_229 {n cs ss : Nat} {L : List Slot} {S : List Value} {H : AH} : orun code ret E0 0 (n + 1) (229, L, S, H, cs, ss) = (aCall 5 6 24 192 0 0 F7 S H cs ss).bind fun r => orun code ret E0 0 n (232, L, r.1, r.2.1, r.2.2.1, r.2.2.2) := s_any k0_229
theorem s0_232 {n cs ss : Nat} {L : List Slot} {S : List Value} {H : AH} : orun code ret E0 0 (n + 1) (232, L, S, H, cs, ss) = pI S fun x r => if x = 0 then orun code ret E0 0 n (299, L, r, H, cs, ss) else orun code ret E0 0 n (235, L, r, H, cs, ss) := s_if (Q := fun x => x = 0) (fun _ => z_eq) k0_232 (by decide) (by decide)
theorem s0_235 {n cs ss : Nat} {L : List Slot} {S : List Value} {H : AH} : orun code ret E0 0 (n + 1) (235, L, S, H, cs, ss) = (gA L 19).bind fun v => orun code ret E0 0 n (237, L, v :: S, H, cs, ss) := s_any k0_235
theorem s0_237 {n cs ss : Nat} {L : List Slot} {S : List Value} {H : AH} : orun code ret E0 0 (n + 1) (237, L, S, H, cs, ss) = (gI L 5).bind fun v => orun code ret E0 0 n (239, L, .int v :: S, H, cs, ss) := s_any k0_237
theorem s0_239 {n cs ss : Nat} {L : List Slot} {S : List Value} {H : AH} : orun code ret E0 0 (n + 1) (239, L, S, H, cs, ss) = orun code ret E0 0 n (240, L, (.int 1 :: S), H, cs, ss) := s_any k0_239
theorem s0_240 {n cs ss : Nat} {L : List Slot} {S : List Value} {H : AH} : orun code ret E0 0 (n + 1) (240, L, S, H, cs, ss) = (gI L 9).bind fun v => orun code ret E0 0 n (242, L, .int v :: S, H, cs, ss) := s_any k0_240
theorem s0_242 {n cs ss : Nat} {L : List Slot} {S : List Value} {H : AH} : orun code ret E0 0 (n + 1) (242, L, S, H, cs, ss) = (gI L 14).bind fun v => orun code ret E0 0 n (244, L, .int v :: S, H, cs, ss) := s_any k0_242
theorem s0_244 {n cs ss : Nat} {L : List Slot} {S : List Value} {H : AH} : orun code ret E0 0 (n + 1) (244, L, S, H, cs, ss) = (aCall 5 6 24 192 0 0 F7 S H cs ss).bind fun r => orun code ret E0 0 n (247, L, r.1, r.2.1, r.2.2.1, r.2.2.2) := s_any k0_244
theorem s0_247 {n cs ss : Nat} {L : List Slot} {S : List Value} {H : AH} : orun code ret E0 0 (n + 1) (247, L, S, H, cs, ss) = pI S fun x r => if x = 0 then orun code ret E0 0 n (299, L, r, H, cs, ss) else orun code ret E0 0 n (250, L, r, H, cs, ss) := s_if (Q := fun x => x = 0) (fun _ => z_eq) k0_247 (by decide) (by decide)
theorem s0_250 {n cs ss : Nat} {L : List Slot} {S : List Value} {H : AH} : orun code ret E0 0 (n + 1) (250, L, S, H, cs, ss) = (gA L 19).bind fun v => orun code ret E0 0 n (252, L, v :: S, H, cs, ss) := s_any k0_250
theorem s0_252 {n cs ss : Nat} {L : List Slot} {S : List Value} {H : AH} : orun code ret E0 0 (n + 1) (252, L, S, H, cs, ss) = (gI L 5).bind fun v => orun code ret E0 0 n (254, L, .int v :: S, H, cs, ss) := s_any k0_252
theorem s0_254 {n cs ss : Nat} {L : List Slot} {S : List Value} {H : AH} : orun code ret E0 0 (n + 1) (254, L, S, H, cs, ss) = orun code ret E0 0 n (255, L, (.int 2 :: S), H, cs, ss) := s_any k0_254
theorem s0_255 {n cs ss : Nat} {L : List Slot} {S : List Value} {H : AH} : orun code ret E0 0 (n + 1) (255, L, S, H, cs, ss) = (gI L 10).bind fun v => orun code ret E0 0 n (257, L, .int v :: S, H, cs, ss) := s_any k0_255
theorem s0_257 {n cs ss : Nat} {L : List Slot} {S : List Value} {H : AH} : orun code ret E0 0 (n + 1) (257, L, S, H, cs, ss) = (gI L 15).bind fun v => orun code ret E0 0 n (259, L, .int v :: S, H, cs, ss) := s_any k0_257
theorem s0_259 {n cs ss : Nat} {L : List Slot} {S : List Value} {H : AH} : orun code ret E0 0 (n + 1) (259, L, S, H, cs, ss) = (aCall 5 6 24 192 0 0 F7 S H cs ss).bind fun r => orun code ret E0 0 n (262, L, r.1, r.2.1, r.2.2.1, r.2.2.2) := s_any k0_259
theorem s0_262 {n cs ss : Nat} {L : List Slot} {S : List Value} {H : AH} : orun code ret E0 0 (n + 1) (262, L, S, H, cs, ss) = pI S fun x r => if x = 0 then orun code ret E0 0 n (299, L, r, H, cs, ss) else orun code ret E0 0 n (265, L, r, H, cs, ss) := s_if (Q := fun x => x = 0) (fun _ => z_eq) k0_262 (by decide) (by decide)
theorem s0_265 {n cs ss : Nat} {L : List Slot} {S : List Value} {H : AH} : orun code ret E0 0 (n + 1) (265, L, S, H, cs, ss) = (gA L 19).bind fun v => orun code ret E0 0 n (267, L, v :: S, H, cs, ss) := s_any k0_265
theorem s0_267 {n cs ss : Nat} {L : List Slot} {S : List Value} {H : AH} : orun code ret E0 0 (n + 1) (267, L, S, H, cs, ss) = (gI L 5).bind fun v => orun code ret E0 0 n (269, L, .int v :: S, H, cs, ss) := s_any k0_267
theorem s0_269 {n cs ss : Nat} {L : List Slot} {S : List Value} {H : AH} : orun code ret E0 0 (n + 1) (269, L, S, H, cs, ss) = orun code ret E0 0 n (270, L, (.int 3 :: S), H, cs, ss) := s_any k0_269
theorem s0_270 {n cs ss : Nat} {L : List Slot} {S : List Value} {H : AH} : orun code ret E0 0 (n + 1) (270, L, S, H, cs, ss) = (gI L 11).bind fun v => orun code ret E0 0 n (272, L, .int v :: S, H, cs, ss) := s_any k0_270
theorem s0_272 {n cs ss : Nat} {L : List Slot} {S : List Value} {H : AH} : orun code ret E0 0 (n + 1) (272, L, S, H, cs, ss) = (gI L 16).bind fun v => orun code ret E0 0 n (274, L, .int v :: S, H, cs, ss) := s_any k0_272
theorem s0_274 {n cs ss : Nat} {L : List Slot} {S : List Value} {H : AH} : orun code ret E0 0 (n + 1) (274, L, S, H, cs, ss) = (aCall 5 6 24 192 0 0 F7 S H cs ss).bind fun r => orun code ret E0 0 n (277, L, r.1, r.2.1, r.2.2.1, r.2.2.2) := s_any k0_274
theorem s0_277 {n cs ss : Nat} {L : List Slot} {S : List Value} {H : AH} : orun code ret E0 0 (n + 1) (277, L, S, H, cs, ss) = pI S fun x r => if x = 0 then orun code ret E0 0 n (299, L, r, H, cs, ss) else orun code ret E0 0 n (280, L, r, H, cs, ss) := s_if (Q := fun x => x = 0) (fun _ => z_eq) k0_277 (by decide) (by decide)
theorem s0_280 {n cs ss : Nat} {L : List Slot} {S : List Value} {H : AH} : orun code ret E0 0 (n + 1) (280, L, S, H, cs, ss) = (gA L 19).bind fun v => orun code ret E0 0 n (282, L, v :: S, H, cs, ss) := s_any k0_280
theorem s0_282 {n cs ss : Nat} {L : List Slot} {S : List Value} {H : AH} : orun code ret E0 0 (n + 1) (282, L, S, H, cs, ss) = (gI L 5).bind fun v => orun code ret E0 0 n (284, L, .int v :: S, H, cs, ss) := s_any k0_282
theorem s0_284 {n cs ss : Nat} {L : List Slot} {S : List Value} {H : AH} : orun code ret E0 0 (n + 1) (284, L, S, H, cs, ss) = orun code ret E0 0 n (285, L, (.int 4 :: S), H, cs, ss) := s_any k0_284
theorem s0_285 {n cs ss : Nat} {L : List Slot} {S : List Value} {H : AH} : orun code ret E0 0 (n + 1) (285, L, S, H, cs, ss) = (gI L 12).bind fun v => orun code ret E0 0 n (287, L, .int v :: S, H, cs, ss) := s_any k0_285
theorem s0_287 {n cs ss : Nat} {L : List Slot} {S : List Value} {H : AH} : orun code ret E0 0 (n + 1) (287, L, S, H, cs, ss) = (gI L 17).bind fun v => orun code ret E0 0 n (289, L, .int v :: S, H, cs, ss) := s_any k0_287
theorem s0_289 {n cs ss : Nat} {L : List Slot} {S : List Value} {H : AH} : orun code ret E0 0 (n + 1) (289, L, S, H, cs, ss) = (aCall 5 6 24 192 0 0 F7 S H cs ss).bind fun r => orun code ret E0 0 n (292, L, r.1, r.2.1, r.2.2.1, r.2.2.2) := s_any k0_289
theorem s0_292 {n cs ss : Nat} {L : List Slot} {S : List Value} {H : AH} : orun code ret E0 0 (n + 1) (292, L, S, H, cs, ss) = pI S fun x r => if x = 0 then orun code ret E0 0 n (299, L, r, H, cs, ss) else orun code ret E0 0 n (295, L, r, H, cs, ss) := s_if (Q := fun x => x = 0) (fun _ => z_eq) k0_292 (by decide) (by decide)
theorem s0_295 {n cs ss : Nat} {L : List Slot} {S : List Value} {H : AH} : orun code ret E0 0 (n + 1) (295, L, S, H, cs, ss) = orun code ret E0 0 n (296, L, (.int 1 :: S), H, cs, ss) := s_any k0_295
theorem s0_296 {n cs ss : Nat} {L : List Slot} {S : List Value} {H : AH} : orun code ret E0 0 (n + 1) (296, L, S, H, cs, ss) = orun code ret E0 0 n (300, L, S, H, cs, ss) := s_goto k0_296 (by decide) (by decide)
theorem s0_299 {n cs ss : Nat} {L : List Slot} {S : List Value} {H : AH} : orun code ret E0 0 (n + 1) (299, L, S, H, cs, ss) = orun code ret E0 0 n (300, L, (.int 0 :: S), H, cs, ss) := s_any k0_299
theorem s0_300 {n cs ss : Nat} {L : List Slot} {S : List Value} {H : AH} : orun code ret E0 0 (n + 1) (300, L, S, H, cs, ss) = pI S fun z _ => some (some (.int (z &&& 1)), H) := s_any k0_300
theorem t0_0 {go : Nat → St → Option ORes} (hgo : go = orun code ret E0 0) {n cs ss : Nat} {l1 l2 l3 l4 l5 l6 l7 l8 l9 l10 l11 l12 l13 l14 l15 l16 l17 l18 l19 : Slot} {S : List Value} {H : AH} {q : Option ORes → Prop} {v : Int32} (h : Rsq (go n (1, [.val (.int v), l1, l2, l3, l4, l5, l6, l7, l8, l9, l10, l11, l12, l13, l14, l15, l16, l17, l18, l19], (.int v :: S), H, cs, ss)) q) : Rsq (go (n + 1) (0, [.val (.int v), l1, l2, l3, l4, l5, l6, l7, l8, l9, l10, l11, l12, l13, l14, l15, l16, l17, l18, l19], S, H, cs, ss)) q := by
  subst hgo
  exact res_of s0_0 h
theorem t0_1 {go : Nat → St → Option ORes} (hgo : go = orun code ret E0 0) {n cs ss : Nat} {L : List Slot} {S : List Value} {H : AH} {q : Option ORes → Prop} (h : Rsq (go n (3, L, (.int (2147483647) :: S), H, cs, ss)) q) : Rsq (go (n + 1) (1, L, S, H, cs, ss)) q := by
  subst hgo
  exact res_of s0_1 h
theorem t0_3 {go : Nat → St → Option ORes} (hgo : go = orun code ret E0 0) {n cs ss : Nat} {L : List Slot} {S : List Value} {H : AH} {q : Option ORes → Prop} {x y : Int32} (h : Rsq (go n (4, L, (.int (x &&& y) :: S), H, cs, ss)) q) : Rsq (go (n + 1) (3, L, (.int y :: .int x :: S), H, cs, ss)) q := by
  subst hgo
  exact res_of s0_3 h
theorem t0_4 {go : Nat → St → Option ORes} (hgo : go = orun code ret E0 0) {n cs ss : Nat} {L : List Slot} {S : List Value} {H : AH} {q : Option ORes → Prop} (h : Rsq (go n (6, L, (.int 6 :: S), H, cs, ss)) q) : Rsq (go (n + 1) (4, L, S, H, cs, ss)) q := by
  subst hgo
  exact res_of s0_4 h
theorem t0_6 {go : Nat → St → Option ORes} (hgo : go = orun code ret E0 0) {n cs ss : Nat} {L : List Slot} {S : List Value} {H : AH} {q : Option ORes → Prop} {x y : Int32} (hz : ¬ y = 0) (h : Rsq (go n (7, L, (.int (x % y) :: S), H, cs, ss)) q) : Rsq (go (n + 1) (6, L, (.int y :: .int x :: S), H, cs, ss)) q := by
  subst hgo
  exact res_of s0_6 (res_f hz h)
theorem t0_7 {go : Nat → St → Option ORes} (hgo : go = orun code ret E0 0) {n cs ss : Nat} {l0 l1 l2 l3 l4 l5 l6 l7 l8 l9 l10 l11 l12 l13 l14 l15 l16 l17 l18 l19 : Slot} {S : List Value} {H : AH} {q : Option ORes → Prop} {x : Int32} (hk : so l5 = true) (h : Rsq (go n (9, [l0, l1, l2, l3, l4, .val (.int x), l6, l7, l8, l9, l10, l11, l12, l13, l14, l15, l16, l17, l18, l19], S, H, cs, ss)) q) : Rsq (go (n + 1) (7, [l0, l1, l2, l3, l4, l5, l6, l7, l8, l9, l10, l11, l12, l13, l14, l15, l16, l17, l18, l19], (.int x :: S), H, cs, ss)) q := by
  subst hgo
  refine res_of s0_7 ?_
  rw [pI_int, st1_so (L := [l0, l1, l2, l3, l4, l5, l6, l7, l8, l9, l10, l11, l12, l13, l14, l15, l16, l17, l18, l19]) (k := 5) (l := l5) rfl hk]
  exact h
theorem t0_9 {go : Nat → St → Option ORes} (hgo : go = orun code ret E0 0) {n cs ss : Nat} {l0 l2 l3 l4 l5 l6 l7 l8 l9 l10 l11 l12 l13 l14 l15 l16 l17 l18 l19 : Slot} {S : List Value} {H : AH} {q : Option ORes → Prop} {v : Int32} (h : Rsq (go n (10, [l0, .val (.int v), l2, l3, l4, l5, l6, l7, l8, l9, l10, l11, l12, l13, l14, l15, l16, l17, l18, l19], (.int v :: S), H, cs, ss)) q) : Rsq (go (n + 1) (9, [l0, .val (.int v), l2, l3, l4, l5, l6, l7, l8, l9, l10, l11, l12, l13, l14, l15, l16, l17, l18, l19], S, H, cs, ss)) q := by
  subst hgo
  exact res_of s0_9 h
theorem t0_10 {go : Nat → St → Option ORes} (hgo : go = orun code ret E0 0) {n cs ss : Nat} {L : List Slot} {S : List Value} {H : AH} {q : Option ORes → Prop} (h : Rsq (go n (11, L, (.int 3 :: S), H, cs, ss)) q) : Rsq (go (n + 1) (10, L, S, H, cs, ss)) q := by
  subst hgo
  exact res_of s0_10 h
theorem t0_11 {go : Nat → St → Option ORes} (hgo : go = orun code ret E0 0) {n cs ss : Nat} {L : List Slot} {S : List Value} {H : AH} {q : Option ORes → Prop} {x y : Int32} (h : Rsq (go n (12, L, (.int (x >>> (y &&& 31)) :: S), H, cs, ss)) q) : Rsq (go (n + 1) (11, L, (.int y :: .int x :: S), H, cs, ss)) q := by
  subst hgo
  exact res_of s0_11 h
theorem t0_12 {go : Nat → St → Option ORes} (hgo : go = orun code ret E0 0) {n cs ss : Nat} {l0 l1 l2 l3 l4 l5 l6 l7 l8 l9 l10 l11 l12 l13 l14 l15 l16 l17 l18 l19 : Slot} {S : List Value} {H : AH} {q : Option ORes → Prop} {x : Int32} (hk : so l6 = true) (h : Rsq (go n (14, [l0, l1, l2, l3, l4, l5, .val (.int x), l7, l8, l9, l10, l11, l12, l13, l14, l15, l16, l17, l18, l19], S, H, cs, ss)) q) : Rsq (go (n + 1) (12, [l0, l1, l2, l3, l4, l5, l6, l7, l8, l9, l10, l11, l12, l13, l14, l15, l16, l17, l18, l19], (.int x :: S), H, cs, ss)) q := by
  subst hgo
  refine res_of s0_12 ?_
  rw [pI_int, st1_so (L := [l0, l1, l2, l3, l4, l5, l6, l7, l8, l9, l10, l11, l12, l13, l14, l15, l16, l17, l18, l19]) (k := 6) (l := l6) rfl hk]
  exact h
theorem t0_14 {go : Nat → St → Option ORes} (hgo : go = orun code ret E0 0) {n cs ss : Nat} {l0 l1 l3 l4 l5 l6 l7 l8 l9 l10 l11 l12 l13 l14 l15 l16 l17 l18 l19 : Slot} {S : List Value} {H : AH} {q : Option ORes → Prop} {v : Int32} (h : Rsq (go n (15, [l0, l1, .val (.int v), l3, l4, l5, l6, l7, l8, l9, l10, l11, l12, l13, l14, l15, l16, l17, l18, l19], (.int v :: S), H, cs, ss)) q) : Rsq (go (n + 1) (14, [l0, l1, .val (.int v), l3, l4, l5, l6, l7, l8, l9, l10, l11, l12, l13, l14, l15, l16, l17, l18, l19], S, H, cs, ss)) q := by
  subst hgo
  exact res_of s0_14 h
theorem t0_15 {go : Nat → St → Option ORes} (hgo : go = orun code ret E0 0) {n cs ss : Nat} {L : List Slot} {S : List Value} {H : AH} {q : Option ORes → Prop} (h : Rsq (go n (17, L, (.int (268435455) :: S), H, cs, ss)) q) : Rsq (go (n + 1) (15, L, S, H, cs, ss)) q := by
  subst hgo
  exact res_of s0_15 h
theorem t0_17 {go : Nat → St → Option ORes} (hgo : go = orun code ret E0 0) {n cs ss : Nat} {L : List Slot} {S : List Value} {H : AH} {q : Option ORes → Prop} {x y : Int32} (h : Rsq (go n (18, L, (.int (x &&& y) :: S), H, cs, ss)) q) : Rsq (go (n + 1) (17, L, (.int y :: .int x :: S), H, cs, ss)) q := by
  subst hgo
  exact res_of s0_17 h
theorem t0_18 {go : Nat → St → Option ORes} (hgo : go = orun code ret E0 0) {n cs ss : Nat} {L : List Slot} {S : List Value} {H : AH} {q : Option ORes → Prop} (h : Rsq (go n (19, L, (.int 1 :: S), H, cs, ss)) q) : Rsq (go (n + 1) (18, L, S, H, cs, ss)) q := by
  subst hgo
  exact res_of s0_18 h
theorem t0_19 {go : Nat → St → Option ORes} (hgo : go = orun code ret E0 0) {n cs ss : Nat} {L : List Slot} {S : List Value} {H : AH} {q : Option ORes → Prop} {x y : Int32} (h : Rsq (go n (20, L, (.int (x + y) :: S), H, cs, ss)) q) : Rsq (go (n + 1) (19, L, (.int y :: .int x :: S), H, cs, ss)) q := by
  subst hgo
  exact res_of s0_19 h
theorem t0_20 {go : Nat → St → Option ORes} (hgo : go = orun code ret E0 0) {n cs ss : Nat} {l0 l1 l2 l3 l4 l5 l6 l7 l8 l9 l10 l11 l12 l13 l14 l15 l16 l17 l18 l19 : Slot} {S : List Value} {H : AH} {q : Option ORes → Prop} {x : Int32} (hk : so l7 = true) (h : Rsq (go n (22, [l0, l1, l2, l3, l4, l5, l6, .val (.int x), l8, l9, l10, l11, l12, l13, l14, l15, l16, l17, l18, l19], S, H, cs, ss)) q) : Rsq (go (n + 1) (20, [l0, l1, l2, l3, l4, l5, l6, l7, l8, l9, l10, l11, l12, l13, l14, l15, l16, l17, l18, l19], (.int x :: S), H, cs, ss)) q := by
  subst hgo
  refine res_of s0_20 ?_
  rw [pI_int, st1_so (L := [l0, l1, l2, l3, l4, l5, l6, l7, l8, l9, l10, l11, l12, l13, l14, l15, l16, l17, l18, l19]) (k := 7) (l := l7) rfl hk]
  exact h
theorem t0_22 {go : Nat → St → Option ORes} (hgo : go = orun code ret E0 0) {n cs ss : Nat} {l0 l1 l2 l3 l4 l5 l7 l8 l9 l10 l11 l12 l13 l14 l15 l16 l17 l18 l19 : Slot} {S : List Value} {H : AH} {q : Option ORes → Prop} {v : Int32} (h : Rsq (go n (24, [l0, l1, l2, l3, l4, l5, .val (.int v), l7, l8, l9, l10, l11, l12, l13, l14, l15, l16, l17, l18, l19], (.int v :: S), H, cs, ss)) q) : Rsq (go (n + 1) (22, [l0, l1, l2, l3, l4, l5, .val (.int v), l7, l8, l9, l10, l11, l12, l13, l14, l15, l16, l17, l18, l19], S, H, cs, ss)) q := by
  subst hgo
  exact res_of s0_22 h
theorem t0_24 {go : Nat → St → Option ORes} (hgo : go = orun code ret E0 0) {n cs ss : Nat} {l0 l1 l2 l3 l4 l5 l6 l7 l8 l9 l10 l11 l12 l13 l14 l15 l16 l17 l18 l19 : Slot} {S : List Value} {H : AH} {q : Option ORes → Prop} {x : Int32} (hk : so l8 = true) (h : Rsq (go n (26, [l0, l1, l2, l3, l4, l5, l6, l7, .val (.int x), l9, l10, l11, l12, l13, l14, l15, l16, l17, l18, l19], S, H, cs, ss)) q) : Rsq (go (n + 1) (24, [l0, l1, l2, l3, l4, l5, l6, l7, l8, l9, l10, l11, l12, l13, l14, l15, l16, l17, l18, l19], (.int x :: S), H, cs, ss)) q := by
  subst hgo
  refine res_of s0_24 ?_
  rw [pI_int, st1_so (L := [l0, l1, l2, l3, l4, l5, l6, l7, l8, l9, l10, l11, l12, l13, l14, l15, l16, l17, l18, l19]) (k := 8) (l := l8) rfl hk]
  exact h
theorem t0_26 {go : Nat → St → Option ORes} (hgo : go = orun code ret E0 0) {n cs ss : Nat} {l0 l1 l2 l3 l4 l5 l7 l8 l9 l10 l11 l12 l13 l14 l15 l16 l17 l18 l19 : Slot} {S : List Value} {H : AH} {q : Option ORes → Prop} {v : Int32} (h : Rsq (go n (28, [l0, l1, l2, l3, l4, l5, .val (.int v), l7, l8, l9, l10, l11, l12, l13, l14, l15, l16, l17, l18, l19], (.int v :: S), H, cs, ss)) q) : Rsq (go (n + 1) (26, [l0, l1, l2, l3, l4, l5, .val (.int v), l7, l8, l9, l10, l11, l12, l13, l14, l15, l16, l17, l18, l19], S, H, cs, ss)) q := by
  subst hgo
  exact res_of s0_26 h
theorem t0_28 {go : Nat → St → Option ORes} (hgo : go = orun code ret E0 0) {n cs ss : Nat} {l0 l1 l2 l3 l4 l5 l6 l8 l9 l10 l11 l12 l13 l14 l15 l16 l17 l18 l19 : Slot} {S : List Value} {H : AH} {q : Option ORes → Prop} {v : Int32} (h : Rsq (go n (30, [l0, l1, l2, l3, l4, l5, l6, .val (.int v), l8, l9, l10, l11, l12, l13, l14, l15, l16, l17, l18, l19], (.int v :: S), H, cs, ss)) q) : Rsq (go (n + 1) (28, [l0, l1, l2, l3, l4, l5, l6, .val (.int v), l8, l9, l10, l11, l12, l13, l14, l15, l16, l17, l18, l19], S, H, cs, ss)) q := by
  subst hgo
  exact res_of s0_28 h
theorem t0_30 {go : Nat → St → Option ORes} (hgo : go = orun code ret E0 0) {n cs ss : Nat} {L : List Slot} {S : List Value} {H : AH} {q : Option ORes → Prop} {x y : Int32} (h : Rsq (go n (31, L, (.int (x + y) :: S), H, cs, ss)) q) : Rsq (go (n + 1) (30, L, (.int y :: .int x :: S), H, cs, ss)) q := by
  subst hgo
  exact res_of s0_30 h
theorem t0_31 {go : Nat → St → Option ORes} (hgo : go = orun code ret E0 0) {n cs ss : Nat} {l0 l1 l2 l3 l4 l5 l6 l7 l8 l9 l10 l11 l12 l13 l14 l15 l16 l17 l18 l19 : Slot} {S : List Value} {H : AH} {q : Option ORes → Prop} {x : Int32} (hk : so l9 = true) (h : Rsq (go n (33, [l0, l1, l2, l3, l4, l5, l6, l7, l8, .val (.int x), l10, l11, l12, l13, l14, l15, l16, l17, l18, l19], S, H, cs, ss)) q) : Rsq (go (n + 1) (31, [l0, l1, l2, l3, l4, l5, l6, l7, l8, l9, l10, l11, l12, l13, l14, l15, l16, l17, l18, l19], (.int x :: S), H, cs, ss)) q := by
  subst hgo
  refine res_of s0_31 ?_
  rw [pI_int, st1_so (L := [l0, l1, l2, l3, l4, l5, l6, l7, l8, l9, l10, l11, l12, l13, l14, l15, l16, l17, l18, l19]) (k := 9) (l := l9) rfl hk]
  exact h
theorem t0_33 {go : Nat → St → Option ORes} (hgo : go = orun code ret E0 0) {n cs ss : Nat} {l0 l1 l2 l3 l4 l5 l7 l8 l9 l10 l11 l12 l13 l14 l15 l16 l17 l18 l19 : Slot} {S : List Value} {H : AH} {q : Option ORes → Prop} {v : Int32} (h : Rsq (go n (35, [l0, l1, l2, l3, l4, l5, .val (.int v), l7, l8, l9, l10, l11, l12, l13, l14, l15, l16, l17, l18, l19], (.int v :: S), H, cs, ss)) q) : Rsq (go (n + 1) (33, [l0, l1, l2, l3, l4, l5, .val (.int v), l7, l8, l9, l10, l11, l12, l13, l14, l15, l16, l17, l18, l19], S, H, cs, ss)) q := by
  subst hgo
  exact res_of s0_33 h
theorem t0_35 {go : Nat → St → Option ORes} (hgo : go = orun code ret E0 0) {n cs ss : Nat} {L : List Slot} {S : List Value} {H : AH} {q : Option ORes → Prop} (h : Rsq (go n (36, L, (.int 2 :: S), H, cs, ss)) q) : Rsq (go (n + 1) (35, L, S, H, cs, ss)) q := by
  subst hgo
  exact res_of s0_35 h
theorem t0_36 {go : Nat → St → Option ORes} (hgo : go = orun code ret E0 0) {n cs ss : Nat} {l0 l1 l2 l3 l4 l5 l6 l8 l9 l10 l11 l12 l13 l14 l15 l16 l17 l18 l19 : Slot} {S : List Value} {H : AH} {q : Option ORes → Prop} {v : Int32} (h : Rsq (go n (38, [l0, l1, l2, l3, l4, l5, l6, .val (.int v), l8, l9, l10, l11, l12, l13, l14, l15, l16, l17, l18, l19], (.int v :: S), H, cs, ss)) q) : Rsq (go (n + 1) (36, [l0, l1, l2, l3, l4, l5, l6, .val (.int v), l8, l9, l10, l11, l12, l13, l14, l15, l16, l17, l18, l19], S, H, cs, ss)) q := by
  subst hgo
  exact res_of s0_36 h
theorem t0_38 {go : Nat → St → Option ORes} (hgo : go = orun code ret E0 0) {n cs ss : Nat} {L : List Slot} {S : List Value} {H : AH} {q : Option ORes → Prop} {x y : Int32} (h : Rsq (go n (39, L, (.int (x * y) :: S), H, cs, ss)) q) : Rsq (go (n + 1) (38, L, (.int y :: .int x :: S), H, cs, ss)) q := by
  subst hgo
  exact res_of s0_38 h
theorem t0_39 {go : Nat → St → Option ORes} (hgo : go = orun code ret E0 0) {n cs ss : Nat} {L : List Slot} {S : List Value} {H : AH} {q : Option ORes → Prop} {x y : Int32} (h : Rsq (go n (40, L, (.int (x + y) :: S), H, cs, ss)) q) : Rsq (go (n + 1) (39, L, (.int y :: .int x :: S), H, cs, ss)) q := by
  subst hgo
  exact res_of s0_39 h
theorem t0_40 {go : Nat → St → Option ORes} (hgo : go = orun code ret E0 0) {n cs ss : Nat} {l0 l1 l2 l3 l4 l5 l6 l7 l8 l9 l10 l11 l12 l13 l14 l15 l16 l17 l18 l19 : Slot} {S : List Value} {H : AH} {q : Option ORes → Prop} {x : Int32} (hk : so l10 = true) (h : Rsq (go n (42, [l0, l1, l2, l3, l4, l5, l6, l7, l8, l9, .val (.int x), l11, l12, l13, l14, l15, l16, l17, l18, l19], S, H, cs, ss)) q) : Rsq (go (n + 1) (40, [l0, l1, l2, l3, l4, l5, l6, l7, l8, l9, l10, l11, l12, l13, l14, l15, l16, l17, l18, l19], (.int x :: S), H, cs, ss)) q := by
  subst hgo
  refine res_of s0_40 ?_
  rw [pI_int, st1_so (L := [l0, l1, l2, l3, l4, l5, l6, l7, l8, l9, l10, l11, l12, l13, l14, l15, l16, l17, l18, l19]) (k := 10) (l := l10) rfl hk]
  exact h
theorem t0_42 {go : Nat → St → Option ORes} (hgo : go = orun code ret E0 0) {n cs ss : Nat} {l0 l1 l2 l3 l4 l5 l7 l8 l9 l10 l11 l12 l13 l14 l15 l16 l17 l18 l19 : Slot} {S : List Value} {H : AH} {q : Option ORes → Prop} {v : Int32} (h : Rsq (go n (44, [l0, l1, l2, l3, l4, l5, .val (.int v), l7, l8, l9, l10, l11, l12, l13, l14, l15, l16, l17, l18, l19], (.int v :: S), H, cs, ss)) q) : Rsq (go (n + 1) (42, [l0, l1, l2, l3, l4, l5, .val (.int v), l7, l8, l9, l10, l11, l12, l13, l14, l15, l16, l17, l18, l19], S, H, cs, ss)) q := by
  subst hgo
  exact res_of s0_42 h
theorem t0_44 {go : Nat → St → Option ORes} (hgo : go = orun code ret E0 0) {n cs ss : Nat} {L : List Slot} {S : List Value} {H : AH} {q : Option ORes → Prop} (h : Rsq (go n (45, L, (.int 3 :: S), H, cs, ss)) q) : Rsq (go (n + 1) (44, L, S, H, cs, ss)) q := by
  subst hgo
  exact res_of s0_44 h
theorem t0_45 {go : Nat → St → Option ORes} (hgo : go = orun code ret E0 0) {n cs ss : Nat} {l0 l1 l2 l3 l4 l5 l6 l8 l9 l10 l11 l12 l13 l14 l15 l16 l17 l18 l19 : Slot} {S : List Value} {H : AH} {q : Option ORes → Prop} {v : Int32} (h : Rsq (go n (47, [l0, l1, l2, l3, l4, l5, l6, .val (.int v), l8, l9, l10, l11, l12, l13, l14, l15, l16, l17, l18, l19], (.int v :: S), H, cs, ss)) q) : Rsq (go (n + 1) (45, [l0, l1, l2, l3, l4, l5, l6, .val (.int v), l8, l9, l10, l11, l12, l13, l14, l15, l16, l17, l18, l19], S, H, cs, ss)) q := by
  subst hgo
  exact res_of s0_45 h
theorem t0_47 {go : Nat → St → Option ORes} (hgo : go = orun code ret E0 0) {n cs ss : Nat} {L : List Slot} {S : List Value} {H : AH} {q : Option ORes → Prop} {x y : Int32} (h : Rsq (go n (48, L, (.int (x * y) :: S), H, cs, ss)) q) : Rsq (go (n + 1) (47, L, (.int y :: .int x :: S), H, cs, ss)) q := by
  subst hgo
  exact res_of s0_47 h
theorem t0_48 {go : Nat → St → Option ORes} (hgo : go = orun code ret E0 0) {n cs ss : Nat} {L : List Slot} {S : List Value} {H : AH} {q : Option ORes → Prop} {x y : Int32} (h : Rsq (go n (49, L, (.int (x + y) :: S), H, cs, ss)) q) : Rsq (go (n + 1) (48, L, (.int y :: .int x :: S), H, cs, ss)) q := by
  subst hgo
  exact res_of s0_48 h
theorem t0_49 {go : Nat → St → Option ORes} (hgo : go = orun code ret E0 0) {n cs ss : Nat} {l0 l1 l2 l3 l4 l5 l6 l7 l8 l9 l10 l11 l12 l13 l14 l15 l16 l17 l18 l19 : Slot} {S : List Value} {H : AH} {q : Option ORes → Prop} {x : Int32} (hk : so l11 = true) (h : Rsq (go n (51, [l0, l1, l2, l3, l4, l5, l6, l7, l8, l9, l10, .val (.int x), l12, l13, l14, l15, l16, l17, l18, l19], S, H, cs, ss)) q) : Rsq (go (n + 1) (49, [l0, l1, l2, l3, l4, l5, l6, l7, l8, l9, l10, l11, l12, l13, l14, l15, l16, l17, l18, l19], (.int x :: S), H, cs, ss)) q := by
  subst hgo
  refine res_of s0_49 ?_
  rw [pI_int, st1_so (L := [l0, l1, l2, l3, l4, l5, l6, l7, l8, l9, l10, l11, l12, l13, l14, l15, l16, l17, l18, l19]) (k := 11) (l := l11) rfl hk]
  exact h
theorem t0_51 {go : Nat → St → Option ORes} (hgo : go = orun code ret E0 0) {n cs ss : Nat} {l0 l1 l2 l3 l4 l5 l7 l8 l9 l10 l11 l12 l13 l14 l15 l16 l17 l18 l19 : Slot} {S : List Value} {H : AH} {q : Option ORes → Prop} {v : Int32} (h : Rsq (go n (53, [l0, l1, l2, l3, l4, l5, .val (.int v), l7, l8, l9, l10, l11, l12, l13, l14, l15, l16, l17, l18, l19], (.int v :: S), H, cs, ss)) q) : Rsq (go (n + 1) (51, [l0, l1, l2, l3, l4, l5, .val (.int v), l7, l8, l9, l10, l11, l12, l13, l14, l15, l16, l17, l18, l19], S, H, cs, ss)) q := by
  subst hgo
  exact res_of s0_51 h
theorem t0_53 {go : Nat → St → Option ORes} (hgo : go = orun code ret E0 0) {n cs ss : Nat} {L : List Slot} {S : List Value} {H : AH} {q : Option ORes → Prop} (h : Rsq (go n (54, L, (.int 4 :: S), H, cs, ss)) q) : Rsq (go (n + 1) (53, L, S, H, cs, ss)) q := by
  subst hgo
  exact res_of s0_53 h
theorem t0_54 {go : Nat → St → Option ORes} (hgo : go = orun code ret E0 0) {n cs ss : Nat} {l0 l1 l2 l3 l4 l5 l6 l8 l9 l10 l11 l12 l13 l14 l15 l16 l17 l18 l19 : Slot} {S : List Value} {H : AH} {q : Option ORes → Prop} {v : Int32} (h : Rsq (go n (56, [l0, l1, l2, l3, l4, l5, l6, .val (.int v), l8, l9, l10, l11, l12, l13, l14, l15, l16, l17, l18, l19], (.int v :: S), H, cs, ss)) q) : Rsq (go (n + 1) (54, [l0, l1, l2, l3, l4, l5, l6, .val (.int v), l8, l9, l10, l11, l12, l13, l14, l15, l16, l17, l18, l19], S, H, cs, ss)) q := by
  subst hgo
  exact res_of s0_54 h
theorem t0_56 {go : Nat → St → Option ORes} (hgo : go = orun code ret E0 0) {n cs ss : Nat} {L : List Slot} {S : List Value} {H : AH} {q : Option ORes → Prop} {x y : Int32} (h : Rsq (go n (57, L, (.int (x * y) :: S), H, cs, ss)) q) : Rsq (go (n + 1) (56, L, (.int y :: .int x :: S), H, cs, ss)) q := by
  subst hgo
  exact res_of s0_56 h
theorem t0_57 {go : Nat → St → Option ORes} (hgo : go = orun code ret E0 0) {n cs ss : Nat} {L : List Slot} {S : List Value} {H : AH} {q : Option ORes → Prop} {x y : Int32} (h : Rsq (go n (58, L, (.int (x + y) :: S), H, cs, ss)) q) : Rsq (go (n + 1) (57, L, (.int y :: .int x :: S), H, cs, ss)) q := by
  subst hgo
  exact res_of s0_57 h
theorem t0_58 {go : Nat → St → Option ORes} (hgo : go = orun code ret E0 0) {n cs ss : Nat} {l0 l1 l2 l3 l4 l5 l6 l7 l8 l9 l10 l11 l12 l13 l14 l15 l16 l17 l18 l19 : Slot} {S : List Value} {H : AH} {q : Option ORes → Prop} {x : Int32} (hk : so l12 = true) (h : Rsq (go n (60, [l0, l1, l2, l3, l4, l5, l6, l7, l8, l9, l10, l11, .val (.int x), l13, l14, l15, l16, l17, l18, l19], S, H, cs, ss)) q) : Rsq (go (n + 1) (58, [l0, l1, l2, l3, l4, l5, l6, l7, l8, l9, l10, l11, l12, l13, l14, l15, l16, l17, l18, l19], (.int x :: S), H, cs, ss)) q := by
  subst hgo
  refine res_of s0_58 ?_
  rw [pI_int, st1_so (L := [l0, l1, l2, l3, l4, l5, l6, l7, l8, l9, l10, l11, l12, l13, l14, l15, l16, l17, l18, l19]) (k := 12) (l := l12) rfl hk]
  exact h
theorem t0_60 {go : Nat → St → Option ORes} (hgo : go = orun code ret E0 0) {n cs ss : Nat} {L : List Slot} {S : List Value} {H : AH} {q : Option ORes → Prop} (h : Rsq (go n (61, L, (.int 1 :: S), H, cs, ss)) q) : Rsq (go (n + 1) (60, L, S, H, cs, ss)) q := by
  subst hgo
  exact res_of s0_60 h
theorem t0_61 {go : Nat → St → Option ORes} (hgo : go = orun code ret E0 0) {n cs ss : Nat} {l0 l1 l2 l4 l5 l6 l7 l8 l9 l10 l11 l12 l13 l14 l15 l16 l17 l18 l19 : Slot} {S : List Value} {H : AH} {q : Option ORes → Prop} {v : Int32} (h : Rsq (go n (62, [l0, l1, l2, .val (.int v), l4, l5, l6, l7, l8, l9, l10, l11, l12, l13, l14, l15, l16, l17, l18, l19], (.int v :: S), H, cs, ss)) q) : Rsq (go (n + 1) (61, [l0, l1, l2, .val (.int v), l4, l5, l6, l7, l8, l9, l10, l11, l12, l13, l14, l15, l16, l17, l18, l19], S, H, cs, ss)) q := by
  subst hgo
  exact res_of s0_61 h
theorem t0_62 {go : Nat → St → Option ORes} (hgo : go = orun code ret E0 0) {n cs ss : Nat} {L : List Slot} {S : List Value} {H : AH} {q : Option ORes → Prop} (h : Rsq (go n (64, L, (.int (1073741823) :: S), H, cs, ss)) q) : Rsq (go (n + 1) (62, L, S, H, cs, ss)) q := by
  subst hgo
  exact res_of s0_62 h
theorem t0_64 {go : Nat → St → Option ORes} (hgo : go = orun code ret E0 0) {n cs ss : Nat} {L : List Slot} {S : List Value} {H : AH} {q : Option ORes → Prop} {x y : Int32} (h : Rsq (go n (65, L, (.int (x &&& y) :: S), H, cs, ss)) q) : Rsq (go (n + 1) (64, L, (.int y :: .int x :: S), H, cs, ss)) q := by
  subst hgo
  exact res_of s0_64 h
theorem t0_65 {go : Nat → St → Option ORes} (hgo : go = orun code ret E0 0) {n cs ss : Nat} {L : List Slot} {S : List Value} {H : AH} {q : Option ORes → Prop} {x y : Int32} (h : Rsq (go n (66, L, (.int (x + y) :: S), H, cs, ss)) q) : Rsq (go (n + 1) (65, L, (.int y :: .int x :: S), H, cs, ss)) q := by
  subst hgo
  exact res_of s0_65 h
theorem t0_66 {go : Nat → St → Option ORes} (hgo : go = orun code ret E0 0) {n cs ss : Nat} {l0 l1 l2 l3 l4 l5 l6 l7 l8 l9 l10 l11 l12 l13 l14 l15 l16 l17 l18 l19 : Slot} {S : List Value} {H : AH} {q : Option ORes → Prop} {x : Int32} (hk : so l13 = true) (h : Rsq (go n (68, [l0, l1, l2, l3, l4, l5, l6, l7, l8, l9, l10, l11, l12, .val (.int x), l14, l15, l16, l17, l18, l19], S, H, cs, ss)) q) : Rsq (go (n + 1) (66, [l0, l1, l2, l3, l4, l5, l6, l7, l8, l9, l10, l11, l12, l13, l14, l15, l16, l17, l18, l19], (.int x :: S), H, cs, ss)) q := by
  subst hgo
  refine res_of s0_66 ?_
  rw [pI_int, st1_so (L := [l0, l1, l2, l3, l4, l5, l6, l7, l8, l9, l10, l11, l12, l13, l14, l15, l16, l17, l18, l19]) (k := 13) (l := l13) rfl hk]
  exact h
theorem t0_68 {go : Nat → St → Option ORes} (hgo : go = orun code ret E0 0) {n cs ss : Nat} {L : List Slot} {S : List Value} {H : AH} {q : Option ORes → Prop} (h : Rsq (go n (69, L, (.int 1 :: S), H, cs, ss)) q) : Rsq (go (n + 1) (68, L, S, H, cs, ss)) q := by
  subst hgo
  exact res_of s0_68 h
theorem t0_69 {go : Nat → St → Option ORes} (hgo : go = orun code ret E0 0) {n cs ss : Nat} {l0 l1 l2 l4 l5 l6 l7 l8 l9 l10 l11 l12 l13 l14 l15 l16 l17 l18 l19 : Slot} {S : List Value} {H : AH} {q : Option ORes → Prop} {v : Int32} (h : Rsq (go n (70, [l0, l1, l2, .val (.int v), l4, l5, l6, l7, l8, l9, l10, l11, l12, l13, l14, l15, l16, l17, l18, l19], (.int v :: S), H, cs, ss)) q) : Rsq (go (n + 1) (69, [l0, l1, l2, .val (.int v), l4, l5, l6, l7, l8, l9, l10, l11, l12, l13, l14, l15, l16, l17, l18, l19], S, H, cs, ss)) q := by
  subst hgo
  exact res_of s0_69 h
theorem t0_70 {go : Nat → St → Option ORes} (hgo : go = orun code ret E0 0) {n cs ss : Nat} {l0 l1 l2 l3 l5 l6 l7 l8 l9 l10 l11 l12 l13 l14 l15 l16 l17 l18 l19 : Slot} {S : List Value} {H : AH} {q : Option ORes → Prop} {v : Int32} (h : Rsq (go n (72, [l0, l1, l2, l3, .val (.int v), l5, l6, l7, l8, l9, l10, l11, l12, l13, l14, l15, l16, l17, l18, l19], (.int v :: S), H, cs, ss)) q) : Rsq (go (n + 1) (70, [l0, l1, l2, l3, .val (.int v), l5, l6, l7, l8, l9, l10, l11, l12, l13, l14, l15, l16, l17, l18, l19], S, H, cs, ss)) q := by
  subst hgo
  exact res_of s0_70 h
theorem t0_72 {go : Nat → St → Option ORes} (hgo : go = orun code ret E0 0) {n cs ss : Nat} {L : List Slot} {S : List Value} {H : AH} {q : Option ORes → Prop} {x y : Int32} (h : Rsq (go n (73, L, (.int (x + y) :: S), H, cs, ss)) q) : Rsq (go (n + 1) (72, L, (.int y :: .int x :: S), H, cs, ss)) q := by
  subst hgo
  exact res_of s0_72 h
theorem t0_73 {go : Nat → St → Option ORes} (hgo : go = orun code ret E0 0) {n cs ss : Nat} {L : List Slot} {S : List Value} {H : AH} {q : Option ORes → Prop} (h : Rsq (go n (75, L, (.int (1073741823) :: S), H, cs, ss)) q) : Rsq (go (n + 1) (73, L, S, H, cs, ss)) q := by
  subst hgo
  exact res_of s0_73 h
theorem t0_75 {go : Nat → St → Option ORes} (hgo : go = orun code ret E0 0) {n cs ss : Nat} {L : List Slot} {S : List Value} {H : AH} {q : Option ORes → Prop} {x y : Int32} (h : Rsq (go n (76, L, (.int (x &&& y) :: S), H, cs, ss)) q) : Rsq (go (n + 1) (75, L, (.int y :: .int x :: S), H, cs, ss)) q := by
  subst hgo
  exact res_of s0_75 h
theorem t0_76 {go : Nat → St → Option ORes} (hgo : go = orun code ret E0 0) {n cs ss : Nat} {L : List Slot} {S : List Value} {H : AH} {q : Option ORes → Prop} {x y : Int32} (h : Rsq (go n (77, L, (.int (x + y) :: S), H, cs, ss)) q) : Rsq (go (n + 1) (76, L, (.int y :: .int x :: S), H, cs, ss)) q := by
  subst hgo
  exact res_of s0_76 h
theorem t0_77 {go : Nat → St → Option ORes} (hgo : go = orun code ret E0 0) {n cs ss : Nat} {l0 l1 l2 l3 l4 l5 l6 l7 l8 l9 l10 l11 l12 l13 l14 l15 l16 l17 l18 l19 : Slot} {S : List Value} {H : AH} {q : Option ORes → Prop} {x : Int32} (hk : so l14 = true) (h : Rsq (go n (79, [l0, l1, l2, l3, l4, l5, l6, l7, l8, l9, l10, l11, l12, l13, .val (.int x), l15, l16, l17, l18, l19], S, H, cs, ss)) q) : Rsq (go (n + 1) (77, [l0, l1, l2, l3, l4, l5, l6, l7, l8, l9, l10, l11, l12, l13, l14, l15, l16, l17, l18, l19], (.int x :: S), H, cs, ss)) q := by
  subst hgo
  refine res_of s0_77 ?_
  rw [pI_int, st1_so (L := [l0, l1, l2, l3, l4, l5, l6, l7, l8, l9, l10, l11, l12, l13, l14, l15, l16, l17, l18, l19]) (k := 14) (l := l14) rfl hk]
  exact h
theorem t0_79 {go : Nat → St → Option ORes} (hgo : go = orun code ret E0 0) {n cs ss : Nat} {L : List Slot} {S : List Value} {H : AH} {q : Option ORes → Prop} (h : Rsq (go n (80, L, (.int 1 :: S), H, cs, ss)) q) : Rsq (go (n + 1) (79, L, S, H, cs, ss)) q := by
  subst hgo
  exact res_of s0_79 h
theorem t0_80 {go : Nat → St → Option ORes} (hgo : go = orun code ret E0 0) {n cs ss : Nat} {l0 l1 l2 l4 l5 l6 l7 l8 l9 l10 l11 l12 l13 l14 l15 l16 l17 l18 l19 : Slot} {S : List Value} {H : AH} {q : Option ORes → Prop} {v : Int32} (h : Rsq (go n (81, [l0, l1, l2, .val (.int v), l4, l5, l6, l7, l8, l9, l10, l11, l12, l13, l14, l15, l16, l17, l18, l19], (.int v :: S), H, cs, ss)) q) : Rsq (go (n + 1) (80, [l0, l1, l2, .val (.int v), l4, l5, l6, l7, l8, l9, l10, l11, l12, l13, l14, l15, l16, l17, l18, l19], S, H, cs, ss)) q := by
  subst hgo
  exact res_of s0_80 h
theorem t0_81 {go : Nat → St → Option ORes} (hgo : go = orun code ret E0 0) {n cs ss : Nat} {L : List Slot} {S : List Value} {H : AH} {q : Option ORes → Prop} (h : Rsq (go n (82, L, (.int 2 :: S), H, cs, ss)) q) : Rsq (go (n + 1) (81, L, S, H, cs, ss)) q := by
  subst hgo
  exact res_of s0_81 h
theorem t0_82 {go : Nat → St → Option ORes} (hgo : go = orun code ret E0 0) {n cs ss : Nat} {l0 l1 l2 l3 l5 l6 l7 l8 l9 l10 l11 l12 l13 l14 l15 l16 l17 l18 l19 : Slot} {S : List Value} {H : AH} {q : Option ORes → Prop} {v : Int32} (h : Rsq (go n (84, [l0, l1, l2, l3, .val (.int v), l5, l6, l7, l8, l9, l10, l11, l12, l13, l14, l15, l16, l17, l18, l19], (.int v :: S), H, cs, ss)) q) : Rsq (go (n + 1) (82, [l0, l1, l2, l3, .val (.int v), l5, l6, l7, l8, l9, l10, l11, l12, l13, l14, l15, l16, l17, l18, l19], S, H, cs, ss)) q := by
  subst hgo
  exact res_of s0_82 h
theorem t0_84 {go : Nat → St → Option ORes} (hgo : go = orun code ret E0 0) {n cs ss : Nat} {L : List Slot} {S : List Value} {H : AH} {q : Option ORes → Prop} {x y : Int32} (h : Rsq (go n (85, L, (.int (x * y) :: S), H, cs, ss)) q) : Rsq (go (n + 1) (84, L, (.int y :: .int x :: S), H, cs, ss)) q := by
  subst hgo
  exact res_of s0_84 h
theorem t0_85 {go : Nat → St → Option ORes} (hgo : go = orun code ret E0 0) {n cs ss : Nat} {L : List Slot} {S : List Value} {H : AH} {q : Option ORes → Prop} {x y : Int32} (h : Rsq (go n (86, L, (.int (x + y) :: S), H, cs, ss)) q) : Rsq (go (n + 1) (85, L, (.int y :: .int x :: S), H, cs, ss)) q := by
  subst hgo
  exact res_of s0_85 h
theorem t0_86 {go : Nat → St → Option ORes} (hgo : go = orun code ret E0 0) {n cs ss : Nat} {L : List Slot} {S : List Value} {H : AH} {q : Option ORes → Prop} (h : Rsq (go n (88, L, (.int (1073741823) :: S), H, cs, ss)) q) : Rsq (go (n + 1) (86, L, S, H, cs, ss)) q := by
  subst hgo
  exact res_of s0_86 h
theorem t0_88 {go : Nat → St → Option ORes} (hgo : go = orun code ret E0 0) {n cs ss : Nat} {L : List Slot} {S : List Value} {H : AH} {q : Option ORes → Prop} {x y : Int32} (h : Rsq (go n (89, L, (.int (x &&& y) :: S), H, cs, ss)) q) : Rsq (go (n + 1) (88, L, (.int y :: .int x :: S), H, cs, ss)) q := by
  subst hgo
  exact res_of s0_88 h
theorem t0_89 {go : Nat → St → Option ORes} (hgo : go = orun code ret E0 0) {n cs ss : Nat} {L : List Slot} {S : List Value} {H : AH} {q : Option ORes → Prop} {x y : Int32} (h : Rsq (go n (90, L, (.int (x + y) :: S), H, cs, ss)) q) : Rsq (go (n + 1) (89, L, (.int y :: .int x :: S), H, cs, ss)) q := by
  subst hgo
  exact res_of s0_89 h
theorem t0_90 {go : Nat → St → Option ORes} (hgo : go = orun code ret E0 0) {n cs ss : Nat} {l0 l1 l2 l3 l4 l5 l6 l7 l8 l9 l10 l11 l12 l13 l14 l15 l16 l17 l18 l19 : Slot} {S : List Value} {H : AH} {q : Option ORes → Prop} {x : Int32} (hk : so l15 = true) (h : Rsq (go n (92, [l0, l1, l2, l3, l4, l5, l6, l7, l8, l9, l10, l11, l12, l13, l14, .val (.int x), l16, l17, l18, l19], S, H, cs, ss)) q) : Rsq (go (n + 1) (90, [l0, l1, l2, l3, l4, l5, l6, l7, l8, l9, l10, l11, l12, l13, l14, l15, l16, l17, l18, l19], (.int x :: S), H, cs, ss)) q := by
  subst hgo
  refine res_of s0_90 ?_
  rw [pI_int, st1_so (L := [l0, l1, l2, l3, l4, l5, l6, l7, l8, l9, l10, l11, l12, l13, l14, l15, l16, l17, l18, l19]) (k := 15) (l := l15) rfl hk]
  exact h
theorem t0_92 {go : Nat → St → Option ORes} (hgo : go = orun code ret E0 0) {n cs ss : Nat} {L : List Slot} {S : List Value} {H : AH} {q : Option ORes → Prop} (h : Rsq (go n (93, L, (.int 1 :: S), H, cs, ss)) q) : Rsq (go (n + 1) (92, L, S, H, cs, ss)) q := by
  subst hgo
  exact res_of s0_92 h
theorem t0_93 {go : Nat → St → Option ORes} (hgo : go = orun code ret E0 0) {n cs ss : Nat} {l0 l1 l2 l4 l5 l6 l7 l8 l9 l10 l11 l12 l13 l14 l15 l16 l17 l18 l19 : Slot} {S : List Value} {H : AH} {q : Option ORes → Prop} {v : Int32} (h : Rsq (go n (94, [l0, l1, l2, .val (.int v), l4, l5, l6, l7, l8, l9, l10, l11, l12, l13, l14, l15, l16, l17, l18, l19], (.int v :: S), H, cs, ss)) q) : Rsq (go (n + 1) (93, [l0, l1, l2, .val (.int v), l4, l5, l6, l7, l8, l9, l10, l11, l12, l13, l14, l15, l16, l17, l18, l19], S, H, cs, ss)) q := by
  subst hgo
  exact res_of s0_93 h
theorem t0_94 {go : Nat → St → Option ORes} (hgo : go = orun code ret E0 0) {n cs ss : Nat} {L : List Slot} {S : List Value} {H : AH} {q : Option ORes → Prop} (h : Rsq (go n (95, L, (.int 3 :: S), H, cs, ss)) q) : Rsq (go (n + 1) (94, L, S, H, cs, ss)) q := by
  subst hgo
  exact res_of s0_94 h
theorem t0_95 {go : Nat → St → Option ORes} (hgo : go = orun code ret E0 0) {n cs ss : Nat} {l0 l1 l2 l3 l5 l6 l7 l8 l9 l10 l11 l12 l13 l14 l15 l16 l17 l18 l19 : Slot} {S : List Value} {H : AH} {q : Option ORes → Prop} {v : Int32} (h : Rsq (go n (97, [l0, l1, l2, l3, .val (.int v), l5, l6, l7, l8, l9, l10, l11, l12, l13, l14, l15, l16, l17, l18, l19], (.int v :: S), H, cs, ss)) q) : Rsq (go (n + 1) (95, [l0, l1, l2, l3, .val (.int v), l5, l6, l7, l8, l9, l10, l11, l12, l13, l14, l15, l16, l17, l18, l19], S, H, cs, ss)) q := by
  subst hgo
  exact res_of s0_95 h
theorem t0_97 {go : Nat → St → Option ORes} (hgo : go = orun code ret E0 0) {n cs ss : Nat} {L : List Slot} {S : List Value} {H : AH} {q : Option ORes → Prop} {x y : Int32} (h : Rsq (go n (98, L, (.int (x * y) :: S), H, cs, ss)) q) : Rsq (go (n + 1) (97, L, (.int y :: .int x :: S), H, cs, ss)) q := by
  subst hgo
  exact res_of s0_97 h
theorem t0_98 {go : Nat → St → Option ORes} (hgo : go = orun code ret E0 0) {n cs ss : Nat} {L : List Slot} {S : List Value} {H : AH} {q : Option ORes → Prop} {x y : Int32} (h : Rsq (go n (99, L, (.int (x + y) :: S), H, cs, ss)) q) : Rsq (go (n + 1) (98, L, (.int y :: .int x :: S), H, cs, ss)) q := by
  subst hgo
  exact res_of s0_98 h
theorem t0_99 {go : Nat → St → Option ORes} (hgo : go = orun code ret E0 0) {n cs ss : Nat} {L : List Slot} {S : List Value} {H : AH} {q : Option ORes → Prop} (h : Rsq (go n (101, L, (.int (1073741823) :: S), H, cs, ss)) q) : Rsq (go (n + 1) (99, L, S, H, cs, ss)) q := by
  subst hgo
  exact res_of s0_99 h
theorem t0_101 {go : Nat → St → Option ORes} (hgo : go = orun code ret E0 0) {n cs ss : Nat} {L : List Slot} {S : List Value} {H : AH} {q : Option ORes → Prop} {x y : Int32} (h : Rsq (go n (102, L, (.int (x &&& y) :: S), H, cs, ss)) q) : Rsq (go (n + 1) (101, L, (.int y :: .int x :: S), H, cs, ss)) q := by
  subst hgo
  exact res_of s0_101 h
theorem t0_102 {go : Nat → St → Option ORes} (hgo : go = orun code ret E0 0) {n cs ss : Nat} {L : List Slot} {S : List Value} {H : AH} {q : Option ORes → Prop} {x y : Int32} (h : Rsq (go n (103, L, (.int (x + y) :: S), H, cs, ss)) q) : Rsq (go (n + 1) (102, L, (.int y :: .int x :: S), H, cs, ss)) q := by
  subst hgo
  exact res_of s0_102 h
theorem t0_103 {go : Nat → St → Option ORes} (hgo : go = orun code ret E0 0) {n cs ss : Nat} {l0 l1 l2 l3 l4 l5 l6 l7 l8 l9 l10 l11 l12 l13 l14 l15 l16 l17 l18 l19 : Slot} {S : List Value} {H : AH} {q : Option ORes → Prop} {x : Int32} (hk : so l16 = true) (h : Rsq (go n (105, [l0, l1, l2, l3, l4, l5, l6, l7, l8, l9, l10, l11, l12, l13, l14, l15, .val (.int x), l17, l18, l19], S, H, cs, ss)) q) : Rsq (go (n + 1) (103, [l0, l1, l2, l3, l4, l5, l6, l7, l8, l9, l10, l11, l12, l13, l14, l15, l16, l17, l18, l19], (.int x :: S), H, cs, ss)) q := by
  subst hgo
  refine res_of s0_103 ?_
  rw [pI_int, st1_so (L := [l0, l1, l2, l3, l4, l5, l6, l7, l8, l9, l10, l11, l12, l13, l14, l15, l16, l17, l18, l19]) (k := 16) (l := l16) rfl hk]
  exact h
theorem t0_105 {go : Nat → St → Option ORes} (hgo : go = orun code ret E0 0) {n cs ss : Nat} {L : List Slot} {S : List Value} {H : AH} {q : Option ORes → Prop} (h : Rsq (go n (106, L, (.int 1 :: S), H, cs, ss)) q) : Rsq (go (n + 1) (105, L, S, H, cs, ss)) q := by
  subst hgo
  exact res_of s0_105 h
theorem t0_106 {go : Nat → St → Option ORes} (hgo : go = orun code ret E0 0) {n cs ss : Nat} {l0 l1 l2 l4 l5 l6 l7 l8 l9 l10 l11 l12 l13 l14 l15 l16 l17 l18 l19 : Slot} {S : List Value} {H : AH} {q : Option ORes → Prop} {v : Int32} (h : Rsq (go n (107, [l0, l1, l2, .val (.int v), l4, l5, l6, l7, l8, l9, l10, l11, l12, l13, l14, l15, l16, l17, l18, l19], (.int v :: S), H, cs, ss)) q) : Rsq (go (n + 1) (106, [l0, l1, l2, .val (.int v), l4, l5, l6, l7, l8, l9, l10, l11, l12, l13, l14, l15, l16, l17, l18, l19], S, H, cs, ss)) q := by
  subst hgo
  exact res_of s0_106 h
theorem t0_107 {go : Nat → St → Option ORes} (hgo : go = orun code ret E0 0) {n cs ss : Nat} {L : List Slot} {S : List Value} {H : AH} {q : Option ORes → Prop} (h : Rsq (go n (108, L, (.int 4 :: S), H, cs, ss)) q) : Rsq (go (n + 1) (107, L, S, H, cs, ss)) q := by
  subst hgo
  exact res_of s0_107 h
theorem t0_108 {go : Nat → St → Option ORes} (hgo : go = orun code ret E0 0) {n cs ss : Nat} {l0 l1 l2 l3 l5 l6 l7 l8 l9 l10 l11 l12 l13 l14 l15 l16 l17 l18 l19 : Slot} {S : List Value} {H : AH} {q : Option ORes → Prop} {v : Int32} (h : Rsq (go n (110, [l0, l1, l2, l3, .val (.int v), l5, l6, l7, l8, l9, l10, l11, l12, l13, l14, l15, l16, l17, l18, l19], (.int v :: S), H, cs, ss)) q) : Rsq (go (n + 1) (108, [l0, l1, l2, l3, .val (.int v), l5, l6, l7, l8, l9, l10, l11, l12, l13, l14, l15, l16, l17, l18, l19], S, H, cs, ss)) q := by
  subst hgo
  exact res_of s0_108 h
theorem t0_110 {go : Nat → St → Option ORes} (hgo : go = orun code ret E0 0) {n cs ss : Nat} {L : List Slot} {S : List Value} {H : AH} {q : Option ORes → Prop} {x y : Int32} (h : Rsq (go n (111, L, (.int (x * y) :: S), H, cs, ss)) q) : Rsq (go (n + 1) (110, L, (.int y :: .int x :: S), H, cs, ss)) q := by
  subst hgo
  exact res_of s0_110 h
theorem t0_111 {go : Nat → St → Option ORes} (hgo : go = orun code ret E0 0) {n cs ss : Nat} {L : List Slot} {S : List Value} {H : AH} {q : Option ORes → Prop} {x y : Int32} (h : Rsq (go n (112, L, (.int (x + y) :: S), H, cs, ss)) q) : Rsq (go (n + 1) (111, L, (.int y :: .int x :: S), H, cs, ss)) q := by
  subst hgo
  exact res_of s0_111 h
theorem t0_112 {go : Nat → St → Option ORes} (hgo : go = orun code ret E0 0) {n cs ss : Nat} {L : List Slot} {S : List Value} {H : AH} {q : Option ORes → Prop} (h : Rsq (go n (114, L, (.int (1073741823) :: S), H, cs, ss)) q) : Rsq (go (n + 1) (112, L, S, H, cs, ss)) q := by
  subst hgo
  exact res_of s0_112 h
theorem t0_114 {go : Nat → St → Option ORes} (hgo : go = orun code ret E0 0) {n cs ss : Nat} {L : List Slot} {S : List Value} {H : AH} {q : Option ORes → Prop} {x y : Int32} (h : Rsq (go n (115, L, (.int (x &&& y) :: S), H, cs, ss)) q) : Rsq (go (n + 1) (114, L, (.int y :: .int x :: S), H, cs, ss)) q := by
  subst hgo
  exact res_of s0_114 h
theorem t0_115 {go : Nat → St → Option ORes} (hgo : go = orun code ret E0 0) {n cs ss : Nat} {L : List Slot} {S : List Value} {H : AH} {q : Option ORes → Prop} {x y : Int32} (h : Rsq (go n (116, L, (.int (x + y) :: S), H, cs, ss)) q) : Rsq (go (n + 1) (115, L, (.int y :: .int x :: S), H, cs, ss)) q := by
  subst hgo
  exact res_of s0_115 h
theorem t0_116 {go : Nat → St → Option ORes} (hgo : go = orun code ret E0 0) {n cs ss : Nat} {l0 l1 l2 l3 l4 l5 l6 l7 l8 l9 l10 l11 l12 l13 l14 l15 l16 l17 l18 l19 : Slot} {S : List Value} {H : AH} {q : Option ORes → Prop} {x : Int32} (hk : so l17 = true) (h : Rsq (go n (118, [l0, l1, l2, l3, l4, l5, l6, l7, l8, l9, l10, l11, l12, l13, l14, l15, l16, .val (.int x), l18, l19], S, H, cs, ss)) q) : Rsq (go (n + 1) (116, [l0, l1, l2, l3, l4, l5, l6, l7, l8, l9, l10, l11, l12, l13, l14, l15, l16, l17, l18, l19], (.int x :: S), H, cs, ss)) q := by
  subst hgo
  refine res_of s0_116 ?_
  rw [pI_int, st1_so (L := [l0, l1, l2, l3, l4, l5, l6, l7, l8, l9, l10, l11, l12, l13, l14, l15, l16, l17, l18, l19]) (k := 17) (l := l17) rfl hk]
  exact h
theorem u0_118 {go : Nat → St → Option ORes} (hgo : go = orun code ret E0 0) {n cs ss : Nat} {L : List Slot} {S : List Value} {H : AH} : go (n + 1) (118, L, S, H, cs, ss) = (aNew 0 3 24 192 [.null, .null, (.int 0)] S H cs ss).bind fun r => go n (121, L, r.1, r.2.1, r.2.2.1, r.2.2.2) := by
  subst hgo
  exact s0_118
theorem t0_121 {go : Nat → St → Option ORes} (hgo : go = orun code ret E0 0) {n cs ss : Nat} {L : List Slot} {S : List Value} {H : AH} {q : Option ORes → Prop} {v : Value} (hv : isS v = true) (h : Rsq (go n (122, L, (v :: v :: S), H, cs, ss)) q) : Rsq (go (n + 1) (121, L, (v :: S), H, cs, ss)) q := by
  subst hgo
  refine res_of s0_121 ?_
  rw [ex_dup, p1_isS hv]
  exact h
theorem u0_122 {go : Nat → St → Option ORes} (hgo : go = orun code ret E0 0) {n cs ss : Nat} {L : List Slot} {S : List Value} {H : AH} : go (n + 1) (122, L, S, H, cs, ss) = (aRecv 0 0 6 24 192 2 8 F1 S H cs ss).bind fun r => go n (125, L, r.1, r.2.1, r.2.2.1, r.2.2.2) := by
  subst hgo
  exact s0_122
theorem t0_125 {go : Nat → St → Option ORes} (hgo : go = orun code ret E0 0) {n cs ss : Nat} {l0 l1 l2 l3 l4 l5 l6 l7 l8 l9 l10 l11 l12 l13 l14 l15 l16 l17 l18 l19 : Slot} {S : List Value} {H : AH} {q : Option ORes → Prop} {v : Value} (hv : isA v = true) (hk : so l18 = true) (h : Rsq (go n (127, [l0, l1, l2, l3, l4, l5, l6, l7, l8, l9, l10, l11, l12, l13, l14, l15, l16, l17, .val v, l19], S, H, cs, ss)) q) : Rsq (go (n + 1) (125, [l0, l1, l2, l3, l4, l5, l6, l7, l8, l9, l10, l11, l12, l13, l14, l15, l16, l17, l18, l19], (v :: S), H, cs, ss)) q := by
  subst hgo
  refine res_of s0_125 ?_
  rw [pA_isA hv, st1_so (L := [l0, l1, l2, l3, l4, l5, l6, l7, l8, l9, l10, l11, l12, l13, l14, l15, l16, l17, l18, l19]) (k := 18) (l := l18) rfl hk]
  exact h
theorem t0_127 {go : Nat → St → Option ORes} (hgo : go = orun code ret E0 0) {n cs ss : Nat} {l0 l1 l2 l3 l4 l6 l7 l8 l9 l10 l11 l12 l13 l14 l15 l16 l17 l18 l19 : Slot} {S : List Value} {H : AH} {q : Option ORes → Prop} {v : Int32} (h : Rsq (go n (129, [l0, l1, l2, l3, l4, .val (.int v), l6, l7, l8, l9, l10, l11, l12, l13, l14, l15, l16, l17, l18, l19], (.int v :: S), H, cs, ss)) q) : Rsq (go (n + 1) (127, [l0, l1, l2, l3, l4, .val (.int v), l6, l7, l8, l9, l10, l11, l12, l13, l14, l15, l16, l17, l18, l19], S, H, cs, ss)) q := by
  subst hgo
  exact res_of s0_127 h
theorem t0_129t {go : Nat → St → Option ORes} (hgo : go = orun code ret E0 0) {n cs ss : Nat} {L : List Slot} {S : List Value} {H : AH} {q : Option ORes → Prop} {x : Int32} (hc : 0 < x) (h : Rsq (go n (132, L, S, H, cs, ss)) q) : Rsq (go (n + 1) (129, L, (.int x :: S), H, cs, ss)) q := by
  subst hgo
  exact res_of s0_129 (res_t hc h)
theorem t0_129f {go : Nat → St → Option ORes} (hgo : go = orun code ret E0 0) {n cs ss : Nat} {L : List Slot} {S : List Value} {H : AH} {q : Option ORes → Prop} {x : Int32} (hc : ¬ 0 < x) (h : Rsq (go n (141, L, S, H, cs, ss)) q) : Rsq (go (n + 1) (129, L, (.int x :: S), H, cs, ss)) q := by
  subst hgo
  exact res_of s0_129 (res_f hc h)
theorem t0_132 {go : Nat → St → Option ORes} (hgo : go = orun code ret E0 0) {n cs ss : Nat} {l0 l1 l2 l3 l4 l5 l6 l7 l8 l9 l10 l11 l12 l13 l14 l15 l16 l17 l19 : Slot} {S : List Value} {H : AH} {q : Option ORes → Prop} {v : Value} (hv : isA v = true) (h : Rsq (go n (134, [l0, l1, l2, l3, l4, l5, l6, l7, l8, l9, l10, l11, l12, l13, l14, l15, l16, l17, .val v, l19], (v :: S), H, cs, ss)) q) : Rsq (go (n + 1) (132, [l0, l1, l2, l3, l4, l5, l6, l7, l8, l9, l10, l11, l12, l13, l14, l15, l16, l17, .val v, l19], S, H, cs, ss)) q := by
  subst hgo
  refine res_of s0_132 ?_
  rw [gA_isA (L := [l0, l1, l2, l3, l4, l5, l6, l7, l8, l9, l10, l11, l12, l13, l14, l15, l16, l17, .val v, l19]) (k := 18) (v := v) rfl hv]
  exact h
theorem t0_134 {go : Nat → St → Option ORes} (hgo : go = orun code ret E0 0) {n cs ss : Nat} {l0 l1 l2 l3 l4 l5 l6 l7 l9 l10 l11 l12 l13 l14 l15 l16 l17 l18 l19 : Slot} {S : List Value} {H : AH} {q : Option ORes → Prop} {v : Int32} (h : Rsq (go n (136, [l0, l1, l2, l3, l4, l5, l6, l7, .val (.int v), l9, l10, l11, l12, l13, l14, l15, l16, l17, l18, l19], (.int v :: S), H, cs, ss)) q) : Rsq (go (n + 1) (134, [l0, l1, l2, l3, l4, l5, l6, l7, .val (.int v), l9, l10, l11, l12, l13, l14, l15, l16, l17, l18, l19], S, H, cs, ss)) q := by
  subst hgo
  exact res_of s0_134 h
theorem t0_136 {go : Nat → St → Option ORes} (hgo : go = orun code ret E0 0) {n cs ss : Nat} {l0 l1 l2 l3 l4 l5 l6 l7 l8 l9 l10 l11 l12 l14 l15 l16 l17 l18 l19 : Slot} {S : List Value} {H : AH} {q : Option ORes → Prop} {v : Int32} (h : Rsq (go n (138, [l0, l1, l2, l3, l4, l5, l6, l7, l8, l9, l10, l11, l12, .val (.int v), l14, l15, l16, l17, l18, l19], (.int v :: S), H, cs, ss)) q) : Rsq (go (n + 1) (136, [l0, l1, l2, l3, l4, l5, l6, l7, l8, l9, l10, l11, l12, .val (.int v), l14, l15, l16, l17, l18, l19], S, H, cs, ss)) q := by
  subst hgo
  exact res_of s0_136 h
theorem u0_138 {go : Nat → St → Option ORes} (hgo : go = orun code ret E0 0) {n cs ss : Nat} {L : List Slot} {S : List Value} {H : AH} : go (n + 1) (138, L, S, H, cs, ss) = (aRecv 2 0 6 24 192 2 16 F8 S H cs ss).bind fun r => go n (141, L, r.1, r.2.1, r.2.2.1, r.2.2.2) := by
  subst hgo
  exact s0_138
theorem t0_141 {go : Nat → St → Option ORes} (hgo : go = orun code ret E0 0) {n cs ss : Nat} {l0 l1 l2 l3 l4 l6 l7 l8 l9 l10 l11 l12 l13 l14 l15 l16 l17 l18 l19 : Slot} {S : List Value} {H : AH} {q : Option ORes → Prop} {v : Int32} (h : Rsq (go n (143, [l0, l1, l2, l3, l4, .val (.int v), l6, l7, l8, l9, l10, l11, l12, l13, l14, l15, l16, l17, l18, l19], (.int v :: S), H, cs, ss)) q) : Rsq (go (n + 1) (141, [l0, l1, l2, l3, l4, .val (.int v), l6, l7, l8, l9, l10, l11, l12, l13, l14, l15, l16, l17, l18, l19], S, H, cs, ss)) q := by
  subst hgo
  exact res_of s0_141 h
theorem t0_143 {go : Nat → St → Option ORes} (hgo : go = orun code ret E0 0) {n cs ss : Nat} {L : List Slot} {S : List Value} {H : AH} {q : Option ORes → Prop} (h : Rsq (go n (144, L, (.int 1 :: S), H, cs, ss)) q) : Rsq (go (n + 1) (143, L, S, H, cs, ss)) q := by
  subst hgo
  exact res_of s0_143 h
theorem t0_144t {go : Nat → St → Option ORes} (hgo : go = orun code ret E0 0) {n cs ss : Nat} {L : List Slot} {S : List Value} {H : AH} {q : Option ORes → Prop} {x y : Int32} (hc : y < x) (h : Rsq (go n (147, L, S, H, cs, ss)) q) : Rsq (go (n + 1) (144, L, (.int y :: .int x :: S), H, cs, ss)) q := by
  subst hgo
  exact res_of s0_144 (res_t hc h)
theorem t0_144f {go : Nat → St → Option ORes} (hgo : go = orun code ret E0 0) {n cs ss : Nat} {L : List Slot} {S : List Value} {H : AH} {q : Option ORes → Prop} {x y : Int32} (hc : ¬ y < x) (h : Rsq (go n (156, L, S, H, cs, ss)) q) : Rsq (go (n + 1) (144, L, (.int y :: .int x :: S), H, cs, ss)) q := by
  subst hgo
  exact res_of s0_144 (res_f hc h)
theorem t0_147 {go : Nat → St → Option ORes} (hgo : go = orun code ret E0 0) {n cs ss : Nat} {l0 l1 l2 l3 l4 l5 l6 l7 l8 l9 l10 l11 l12 l13 l14 l15 l16 l17 l19 : Slot} {S : List Value} {H : AH} {q : Option ORes → Prop} {v : Value} (hv : isA v = true) (h : Rsq (go n (149, [l0, l1, l2, l3, l4, l5, l6, l7, l8, l9, l10, l11, l12, l13, l14, l15, l16, l17, .val v, l19], (v :: S), H, cs, ss)) q) : Rsq (go (n + 1) (147, [l0, l1, l2, l3, l4, l5, l6, l7, l8, l9, l10, l11, l12, l13, l14, l15, l16, l17, .val v, l19], S, H, cs, ss)) q := by
  subst hgo
  refine res_of s0_147 ?_
  rw [gA_isA (L := [l0, l1, l2, l3, l4, l5, l6, l7, l8, l9, l10, l11, l12, l13, l14, l15, l16, l17, .val v, l19]) (k := 18) (v := v) rfl hv]
  exact h
theorem t0_149 {go : Nat → St → Option ORes} (hgo : go = orun code ret E0 0) {n cs ss : Nat} {l0 l1 l2 l3 l4 l5 l6 l7 l8 l10 l11 l12 l13 l14 l15 l16 l17 l18 l19 : Slot} {S : List Value} {H : AH} {q : Option ORes → Prop} {v : Int32} (h : Rsq (go n (151, [l0, l1, l2, l3, l4, l5, l6, l7, l8, .val (.int v), l10, l11, l12, l13, l14, l15, l16, l17, l18, l19], (.int v :: S), H, cs, ss)) q) : Rsq (go (n + 1) (149, [l0, l1, l2, l3, l4, l5, l6, l7, l8, .val (.int v), l10, l11, l12, l13, l14, l15, l16, l17, l18, l19], S, H, cs, ss)) q := by
  subst hgo
  exact res_of s0_149 h
theorem t0_151 {go : Nat → St → Option ORes} (hgo : go = orun code ret E0 0) {n cs ss : Nat} {l0 l1 l2 l3 l4 l5 l6 l7 l8 l9 l10 l11 l12 l13 l15 l16 l17 l18 l19 : Slot} {S : List Value} {H : AH} {q : Option ORes → Prop} {v : Int32} (h : Rsq (go n (153, [l0, l1, l2, l3, l4, l5, l6, l7, l8, l9, l10, l11, l12, l13, .val (.int v), l15, l16, l17, l18, l19], (.int v :: S), H, cs, ss)) q) : Rsq (go (n + 1) (151, [l0, l1, l2, l3, l4, l5, l6, l7, l8, l9, l10, l11, l12, l13, .val (.int v), l15, l16, l17, l18, l19], S, H, cs, ss)) q := by
  subst hgo
  exact res_of s0_151 h
theorem u0_153 {go : Nat → St → Option ORes} (hgo : go = orun code ret E0 0) {n cs ss : Nat} {L : List Slot} {S : List Value} {H : AH} : go (n + 1) (153, L, S, H, cs, ss) = (aRecv 2 0 6 24 192 2 16 F8 S H cs ss).bind fun r => go n (156, L, r.1, r.2.1, r.2.2.1, r.2.2.2) := by
  subst hgo
  exact s0_153
theorem t0_156 {go : Nat → St → Option ORes} (hgo : go = orun code ret E0 0) {n cs ss : Nat} {l0 l1 l2 l3 l4 l6 l7 l8 l9 l10 l11 l12 l13 l14 l15 l16 l17 l18 l19 : Slot} {S : List Value} {H : AH} {q : Option ORes → Prop} {v : Int32} (h : Rsq (go n (158, [l0, l1, l2, l3, l4, .val (.int v), l6, l7, l8, l9, l10, l11, l12, l13, l14, l15, l16, l17, l18, l19], (.int v :: S), H, cs, ss)) q) : Rsq (go (n + 1) (156, [l0, l1, l2, l3, l4, .val (.int v), l6, l7, l8, l9, l10, l11, l12, l13, l14, l15, l16, l17, l18, l19], S, H, cs, ss)) q := by
  subst hgo
  exact res_of s0_156 h
theorem t0_158 {go : Nat → St → Option ORes} (hgo : go = orun code ret E0 0) {n cs ss : Nat} {L : List Slot} {S : List Value} {H : AH} {q : Option ORes → Prop} (h : Rsq (go n (159, L, (.int 2 :: S), H, cs, ss)) q) : Rsq (go (n + 1) (158, L, S, H, cs, ss)) q := by
  subst hgo
  exact res_of s0_158 h
theorem t0_159t {go : Nat → St → Option ORes} (hgo : go = orun code ret E0 0) {n cs ss : Nat} {L : List Slot} {S : List Value} {H : AH} {q : Option ORes → Prop} {x y : Int32} (hc : y < x) (h : Rsq (go n (162, L, S, H, cs, ss)) q) : Rsq (go (n + 1) (159, L, (.int y :: .int x :: S), H, cs, ss)) q := by
  subst hgo
  exact res_of s0_159 (res_t hc h)
theorem t0_159f {go : Nat → St → Option ORes} (hgo : go = orun code ret E0 0) {n cs ss : Nat} {L : List Slot} {S : List Value} {H : AH} {q : Option ORes → Prop} {x y : Int32} (hc : ¬ y < x) (h : Rsq (go n (171, L, S, H, cs, ss)) q) : Rsq (go (n + 1) (159, L, (.int y :: .int x :: S), H, cs, ss)) q := by
  subst hgo
  exact res_of s0_159 (res_f hc h)
theorem t0_162 {go : Nat → St → Option ORes} (hgo : go = orun code ret E0 0) {n cs ss : Nat} {l0 l1 l2 l3 l4 l5 l6 l7 l8 l9 l10 l11 l12 l13 l14 l15 l16 l17 l19 : Slot} {S : List Value} {H : AH} {q : Option ORes → Prop} {v : Value} (hv : isA v = true) (h : Rsq (go n (164, [l0, l1, l2, l3, l4, l5, l6, l7, l8, l9, l10, l11, l12, l13, l14, l15, l16, l17, .val v, l19], (v :: S), H, cs, ss)) q) : Rsq (go (n + 1) (162, [l0, l1, l2, l3, l4, l5, l6, l7, l8, l9, l10, l11, l12, l13, l14, l15, l16, l17, .val v, l19], S, H, cs, ss)) q := by
  subst hgo
  refine res_of s0_162 ?_
  rw [gA_isA (L := [l0, l1, l2, l3, l4, l5, l6, l7, l8, l9, l10, l11, l12, l13, l14, l15, l16, l17, .val v, l19]) (k := 18) (v := v) rfl hv]
  exact h
theorem t0_164 {go : Nat → St → Option ORes} (hgo : go = orun code ret E0 0) {n cs ss : Nat} {l0 l1 l2 l3 l4 l5 l6 l7 l8 l9 l11 l12 l13 l14 l15 l16 l17 l18 l19 : Slot} {S : List Value} {H : AH} {q : Option ORes → Prop} {v : Int32} (h : Rsq (go n (166, [l0, l1, l2, l3, l4, l5, l6, l7, l8, l9, .val (.int v), l11, l12, l13, l14, l15, l16, l17, l18, l19], (.int v :: S), H, cs, ss)) q) : Rsq (go (n + 1) (164, [l0, l1, l2, l3, l4, l5, l6, l7, l8, l9, .val (.int v), l11, l12, l13, l14, l15, l16, l17, l18, l19], S, H, cs, ss)) q := by
  subst hgo
  exact res_of s0_164 h
theorem t0_166 {go : Nat → St → Option ORes} (hgo : go = orun code ret E0 0) {n cs ss : Nat} {l0 l1 l2 l3 l4 l5 l6 l7 l8 l9 l10 l11 l12 l13 l14 l16 l17 l18 l19 : Slot} {S : List Value} {H : AH} {q : Option ORes → Prop} {v : Int32} (h : Rsq (go n (168, [l0, l1, l2, l3, l4, l5, l6, l7, l8, l9, l10, l11, l12, l13, l14, .val (.int v), l16, l17, l18, l19], (.int v :: S), H, cs, ss)) q) : Rsq (go (n + 1) (166, [l0, l1, l2, l3, l4, l5, l6, l7, l8, l9, l10, l11, l12, l13, l14, .val (.int v), l16, l17, l18, l19], S, H, cs, ss)) q := by
  subst hgo
  exact res_of s0_166 h
theorem u0_168 {go : Nat → St → Option ORes} (hgo : go = orun code ret E0 0) {n cs ss : Nat} {L : List Slot} {S : List Value} {H : AH} : go (n + 1) (168, L, S, H, cs, ss) = (aRecv 2 0 6 24 192 2 16 F8 S H cs ss).bind fun r => go n (171, L, r.1, r.2.1, r.2.2.1, r.2.2.2) := by
  subst hgo
  exact s0_168
theorem t0_171 {go : Nat → St → Option ORes} (hgo : go = orun code ret E0 0) {n cs ss : Nat} {l0 l1 l2 l3 l4 l6 l7 l8 l9 l10 l11 l12 l13 l14 l15 l16 l17 l18 l19 : Slot} {S : List Value} {H : AH} {q : Option ORes → Prop} {v : Int32} (h : Rsq (go n (173, [l0, l1, l2, l3, l4, .val (.int v), l6, l7, l8, l9, l10, l11, l12, l13, l14, l15, l16, l17, l18, l19], (.int v :: S), H, cs, ss)) q) : Rsq (go (n + 1) (171, [l0, l1, l2, l3, l4, .val (.int v), l6, l7, l8, l9, l10, l11, l12, l13, l14, l15, l16, l17, l18, l19], S, H, cs, ss)) q := by
  subst hgo
  exact res_of s0_171 h
theorem t0_173 {go : Nat → St → Option ORes} (hgo : go = orun code ret E0 0) {n cs ss : Nat} {L : List Slot} {S : List Value} {H : AH} {q : Option ORes → Prop} (h : Rsq (go n (174, L, (.int 3 :: S), H, cs, ss)) q) : Rsq (go (n + 1) (173, L, S, H, cs, ss)) q := by
  subst hgo
  exact res_of s0_173 h
theorem t0_174t {go : Nat → St → Option ORes} (hgo : go = orun code ret E0 0) {n cs ss : Nat} {L : List Slot} {S : List Value} {H : AH} {q : Option ORes → Prop} {x y : Int32} (hc : y < x) (h : Rsq (go n (177, L, S, H, cs, ss)) q) : Rsq (go (n + 1) (174, L, (.int y :: .int x :: S), H, cs, ss)) q := by
  subst hgo
  exact res_of s0_174 (res_t hc h)
theorem t0_174f {go : Nat → St → Option ORes} (hgo : go = orun code ret E0 0) {n cs ss : Nat} {L : List Slot} {S : List Value} {H : AH} {q : Option ORes → Prop} {x y : Int32} (hc : ¬ y < x) (h : Rsq (go n (186, L, S, H, cs, ss)) q) : Rsq (go (n + 1) (174, L, (.int y :: .int x :: S), H, cs, ss)) q := by
  subst hgo
  exact res_of s0_174 (res_f hc h)
theorem t0_177 {go : Nat → St → Option ORes} (hgo : go = orun code ret E0 0) {n cs ss : Nat} {l0 l1 l2 l3 l4 l5 l6 l7 l8 l9 l10 l11 l12 l13 l14 l15 l16 l17 l19 : Slot} {S : List Value} {H : AH} {q : Option ORes → Prop} {v : Value} (hv : isA v = true) (h : Rsq (go n (179, [l0, l1, l2, l3, l4, l5, l6, l7, l8, l9, l10, l11, l12, l13, l14, l15, l16, l17, .val v, l19], (v :: S), H, cs, ss)) q) : Rsq (go (n + 1) (177, [l0, l1, l2, l3, l4, l5, l6, l7, l8, l9, l10, l11, l12, l13, l14, l15, l16, l17, .val v, l19], S, H, cs, ss)) q := by
  subst hgo
  refine res_of s0_177 ?_
  rw [gA_isA (L := [l0, l1, l2, l3, l4, l5, l6, l7, l8, l9, l10, l11, l12, l13, l14, l15, l16, l17, .val v, l19]) (k := 18) (v := v) rfl hv]
  exact h
theorem t0_179 {go : Nat → St → Option ORes} (hgo : go = orun code ret E0 0) {n cs ss : Nat} {l0 l1 l2 l3 l4 l5 l6 l7 l8 l9 l10 l12 l13 l14 l15 l16 l17 l18 l19 : Slot} {S : List Value} {H : AH} {q : Option ORes → Prop} {v : Int32} (h : Rsq (go n (181, [l0, l1, l2, l3, l4, l5, l6, l7, l8, l9, l10, .val (.int v), l12, l13, l14, l15, l16, l17, l18, l19], (.int v :: S), H, cs, ss)) q) : Rsq (go (n + 1) (179, [l0, l1, l2, l3, l4, l5, l6, l7, l8, l9, l10, .val (.int v), l12, l13, l14, l15, l16, l17, l18, l19], S, H, cs, ss)) q := by
  subst hgo
  exact res_of s0_179 h
theorem t0_181 {go : Nat → St → Option ORes} (hgo : go = orun code ret E0 0) {n cs ss : Nat} {l0 l1 l2 l3 l4 l5 l6 l7 l8 l9 l10 l11 l12 l13 l14 l15 l17 l18 l19 : Slot} {S : List Value} {H : AH} {q : Option ORes → Prop} {v : Int32} (h : Rsq (go n (183, [l0, l1, l2, l3, l4, l5, l6, l7, l8, l9, l10, l11, l12, l13, l14, l15, .val (.int v), l17, l18, l19], (.int v :: S), H, cs, ss)) q) : Rsq (go (n + 1) (181, [l0, l1, l2, l3, l4, l5, l6, l7, l8, l9, l10, l11, l12, l13, l14, l15, .val (.int v), l17, l18, l19], S, H, cs, ss)) q := by
  subst hgo
  exact res_of s0_181 h
theorem u0_183 {go : Nat → St → Option ORes} (hgo : go = orun code ret E0 0) {n cs ss : Nat} {L : List Slot} {S : List Value} {H : AH} : go (n + 1) (183, L, S, H, cs, ss) = (aRecv 2 0 6 24 192 2 16 F8 S H cs ss).bind fun r => go n (186, L, r.1, r.2.1, r.2.2.1, r.2.2.2) := by
  subst hgo
  exact s0_183
theorem t0_186 {go : Nat → St → Option ORes} (hgo : go = orun code ret E0 0) {n cs ss : Nat} {l0 l1 l2 l3 l4 l6 l7 l8 l9 l10 l11 l12 l13 l14 l15 l16 l17 l18 l19 : Slot} {S : List Value} {H : AH} {q : Option ORes → Prop} {v : Int32} (h : Rsq (go n (188, [l0, l1, l2, l3, l4, .val (.int v), l6, l7, l8, l9, l10, l11, l12, l13, l14, l15, l16, l17, l18, l19], (.int v :: S), H, cs, ss)) q) : Rsq (go (n + 1) (186, [l0, l1, l2, l3, l4, .val (.int v), l6, l7, l8, l9, l10, l11, l12, l13, l14, l15, l16, l17, l18, l19], S, H, cs, ss)) q := by
  subst hgo
  exact res_of s0_186 h
theorem t0_188 {go : Nat → St → Option ORes} (hgo : go = orun code ret E0 0) {n cs ss : Nat} {L : List Slot} {S : List Value} {H : AH} {q : Option ORes → Prop} (h : Rsq (go n (189, L, (.int 4 :: S), H, cs, ss)) q) : Rsq (go (n + 1) (188, L, S, H, cs, ss)) q := by
  subst hgo
  exact res_of s0_188 h
theorem t0_189t {go : Nat → St → Option ORes} (hgo : go = orun code ret E0 0) {n cs ss : Nat} {L : List Slot} {S : List Value} {H : AH} {q : Option ORes → Prop} {x y : Int32} (hc : y < x) (h : Rsq (go n (192, L, S, H, cs, ss)) q) : Rsq (go (n + 1) (189, L, (.int y :: .int x :: S), H, cs, ss)) q := by
  subst hgo
  exact res_of s0_189 (res_t hc h)
theorem t0_189f {go : Nat → St → Option ORes} (hgo : go = orun code ret E0 0) {n cs ss : Nat} {L : List Slot} {S : List Value} {H : AH} {q : Option ORes → Prop} {x y : Int32} (hc : ¬ y < x) (h : Rsq (go n (201, L, S, H, cs, ss)) q) : Rsq (go (n + 1) (189, L, (.int y :: .int x :: S), H, cs, ss)) q := by
  subst hgo
  exact res_of s0_189 (res_f hc h)
theorem t0_192 {go : Nat → St → Option ORes} (hgo : go = orun code ret E0 0) {n cs ss : Nat} {l0 l1 l2 l3 l4 l5 l6 l7 l8 l9 l10 l11 l12 l13 l14 l15 l16 l17 l19 : Slot} {S : List Value} {H : AH} {q : Option ORes → Prop} {v : Value} (hv : isA v = true) (h : Rsq (go n (194, [l0, l1, l2, l3, l4, l5, l6, l7, l8, l9, l10, l11, l12, l13, l14, l15, l16, l17, .val v, l19], (v :: S), H, cs, ss)) q) : Rsq (go (n + 1) (192, [l0, l1, l2, l3, l4, l5, l6, l7, l8, l9, l10, l11, l12, l13, l14, l15, l16, l17, .val v, l19], S, H, cs, ss)) q := by
  subst hgo
  refine res_of s0_192 ?_
  rw [gA_isA (L := [l0, l1, l2, l3, l4, l5, l6, l7, l8, l9, l10, l11, l12, l13, l14, l15, l16, l17, .val v, l19]) (k := 18) (v := v) rfl hv]
  exact h
theorem t0_194 {go : Nat → St → Option ORes} (hgo : go = orun code ret E0 0) {n cs ss : Nat} {l0 l1 l2 l3 l4 l5 l6 l7 l8 l9 l10 l11 l13 l14 l15 l16 l17 l18 l19 : Slot} {S : List Value} {H : AH} {q : Option ORes → Prop} {v : Int32} (h : Rsq (go n (196, [l0, l1, l2, l3, l4, l5, l6, l7, l8, l9, l10, l11, .val (.int v), l13, l14, l15, l16, l17, l18, l19], (.int v :: S), H, cs, ss)) q) : Rsq (go (n + 1) (194, [l0, l1, l2, l3, l4, l5, l6, l7, l8, l9, l10, l11, .val (.int v), l13, l14, l15, l16, l17, l18, l19], S, H, cs, ss)) q := by
  subst hgo
  exact res_of s0_194 h
theorem t0_196 {go : Nat → St → Option ORes} (hgo : go = orun code ret E0 0) {n cs ss : Nat} {l0 l1 l2 l3 l4 l5 l6 l7 l8 l9 l10 l11 l12 l13 l14 l15 l16 l18 l19 : Slot} {S : List Value} {H : AH} {q : Option ORes → Prop} {v : Int32} (h : Rsq (go n (198, [l0, l1, l2, l3, l4, l5, l6, l7, l8, l9, l10, l11, l12, l13, l14, l15, l16, .val (.int v), l18, l19], (.int v :: S), H, cs, ss)) q) : Rsq (go (n + 1) (196, [l0, l1, l2, l3, l4, l5, l6, l7, l8, l9, l10, l11, l12, l13, l14, l15, l16, .val (.int v), l18, l19], S, H, cs, ss)) q := by
  subst hgo
  exact res_of s0_196 h
theorem u0_198 {go : Nat → St → Option ORes} (hgo : go = orun code ret E0 0) {n cs ss : Nat} {L : List Slot} {S : List Value} {H : AH} : go (n + 1) (198, L, S, H, cs, ss) = (aRecv 2 0 6 24 192 2 16 F8 S H cs ss).bind fun r => go n (201, L, r.1, r.2.1, r.2.2.1, r.2.2.2) := by
  subst hgo
  exact s0_198
theorem t0_201 {go : Nat → St → Option ORes} (hgo : go = orun code ret E0 0) {n cs ss : Nat} {l0 l1 l2 l3 l4 l5 l6 l7 l8 l9 l10 l11 l12 l13 l14 l15 l16 l17 l19 : Slot} {S : List Value} {H : AH} {q : Option ORes → Prop} {v : Value} (hv : isA v = true) (h : Rsq (go n (203, [l0, l1, l2, l3, l4, l5, l6, l7, l8, l9, l10, l11, l12, l13, l14, l15, l16, l17, .val v, l19], (v :: S), H, cs, ss)) q) : Rsq (go (n + 1) (201, [l0, l1, l2, l3, l4, l5, l6, l7, l8, l9, l10, l11, l12, l13, l14, l15, l16, l17, .val v, l19], S, H, cs, ss)) q := by
  subst hgo
  refine res_of s0_201 ?_
  rw [gA_isA (L := [l0, l1, l2, l3, l4, l5, l6, l7, l8, l9, l10, l11, l12, l13, l14, l15, l16, l17, .val v, l19]) (k := 18) (v := v) rfl hv]
  exact h
theorem u0_203 {go : Nat → St → Option ORes} (hgo : go = orun code ret E0 0) {n cs ss : Nat} {L : List Slot} {S : List Value} {H : AH} : go (n + 1) (203, L, S, H, cs, ss) = (aRecv 0 0 6 24 192 3 18 F2 S H cs ss).bind fun r => go n (206, L, r.1, r.2.1, r.2.2.1, r.2.2.2) := by
  subst hgo
  exact s0_203
theorem t0_206 {go : Nat → St → Option ORes} (hgo : go = orun code ret E0 0) {n cs ss : Nat} {l0 l1 l2 l3 l4 l5 l6 l7 l8 l9 l10 l11 l12 l13 l14 l15 l16 l17 l18 l19 : Slot} {S : List Value} {H : AH} {q : Option ORes → Prop} {v : Value} (hv : isA v = true) (hk : so l19 = true) (h : Rsq (go n (208, [l0, l1, l2, l3, l4, l5, l6, l7, l8, l9, l10, l11, l12, l13, l14, l15, l16, l17, l18, .val v], S, H, cs, ss)) q) : Rsq (go (n + 1) (206, [l0, l1, l2, l3, l4, l5, l6, l7, l8, l9, l10, l11, l12, l13, l14, l15, l16, l17, l18, l19], (v :: S), H, cs, ss)) q := by
  subst hgo
  refine res_of s0_206 ?_
  rw [pA_isA hv, st1_so (L := [l0, l1, l2, l3, l4, l5, l6, l7, l8, l9, l10, l11, l12, l13, l14, l15, l16, l17, l18, l19]) (k := 19) (l := l19) rfl hk]
  exact h
theorem t0_208 {go : Nat → St → Option ORes} (hgo : go = orun code ret E0 0) {n cs ss : Nat} {l0 l1 l2 l3 l4 l5 l6 l7 l8 l9 l10 l11 l12 l13 l14 l15 l16 l17 l18 : Slot} {S : List Value} {H : AH} {q : Option ORes → Prop} {v : Value} (hv : isA v = true) (h : Rsq (go n (210, [l0, l1, l2, l3, l4, l5, l6, l7, l8, l9, l10, l11, l12, l13, l14, l15, l16, l17, l18, .val v], (v :: S), H, cs, ss)) q) : Rsq (go (n + 1) (208, [l0, l1, l2, l3, l4, l5, l6, l7, l8, l9, l10, l11, l12, l13, l14, l15, l16, l17, l18, .val v], S, H, cs, ss)) q := by
  subst hgo
  refine res_of s0_208 ?_
  rw [gA_isA (L := [l0, l1, l2, l3, l4, l5, l6, l7, l8, l9, l10, l11, l12, l13, l14, l15, l16, l17, l18, .val v]) (k := 19) (v := v) rfl hv]
  exact h
theorem u0_210 {go : Nat → St → Option ORes} (hgo : go = orun code ret E0 0) {n cs ss : Nat} {L : List Slot} {S : List Value} {H : AH} : go (n + 1) (210, L, S, H, cs, ss) = (aRecv 0 1 6 24 192 0 0 F6 S H cs ss).bind fun r => go n (213, L, r.1, r.2.1, r.2.2.1, r.2.2.2) := by
  subst hgo
  exact s0_210
theorem t0_213 {go : Nat → St → Option ORes} (hgo : go = orun code ret E0 0) {n cs ss : Nat} {l0 l1 l2 l3 l4 l6 l7 l8 l9 l10 l11 l12 l13 l14 l15 l16 l17 l18 l19 : Slot} {S : List Value} {H : AH} {q : Option ORes → Prop} {v : Int32} (h : Rsq (go n (215, [l0, l1, l2, l3, l4, .val (.int v), l6, l7, l8, l9, l10, l11, l12, l13, l14, l15, l16, l17, l18, l19], (.int v :: S), H, cs, ss)) q) : Rsq (go (n + 1) (213, [l0, l1, l2, l3, l4, .val (.int v), l6, l7, l8, l9, l10, l11, l12, l13, l14, l15, l16, l17, l18, l19], S, H, cs, ss)) q := by
  subst hgo
  exact res_of s0_213 h
theorem t0_215t {go : Nat → St → Option ORes} (hgo : go = orun code ret E0 0) {n cs ss : Nat} {L : List Slot} {S : List Value} {H : AH} {q : Option ORes → Prop} {x y : Int32} (hc : x = y) (h : Rsq (go n (220, L, S, H, cs, ss)) q) : Rsq (go (n + 1) (215, L, (.int y :: .int x :: S), H, cs, ss)) q := by
  subst hgo
  exact res_of s0_215 (res_t hc h)
theorem t0_215f {go : Nat → St → Option ORes} (hgo : go = orun code ret E0 0) {n cs ss : Nat} {L : List Slot} {S : List Value} {H : AH} {q : Option ORes → Prop} {x y : Int32} (hc : ¬ x = y) (h : Rsq (go n (218, L, S, H, cs, ss)) q) : Rsq (go (n + 1) (215, L, (.int y :: .int x :: S), H, cs, ss)) q := by
  subst hgo
  exact res_of s0_215 (res_f hc h)
theorem t0_218 {go : Nat → St → Option ORes} (hgo : go = orun code ret E0 0) {n cs ss : Nat} {L : List Slot} {S : List Value} {H : AH} {q : Option ORes → Prop} (h : Rsq (go n (219, L, (.int 0 :: S), H, cs, ss)) q) : Rsq (go (n + 1) (218, L, S, H, cs, ss)) q := by
  subst hgo
  exact res_of s0_218 h
theorem t0_219 {go : Nat → St → Option ORes} (hgo : go = orun code ret E0 0) {n cs ss : Nat} {L : List Slot} {S : List Value} {H : AH} {q : Option ORes → Prop} {z : Int32} (h : q (some (some (.int (z &&& 1)), H))) : Rsq (go (n + 1) (219, L, (.int z :: S), H, cs, ss)) q := by
  subst hgo
  exact res_of s0_219 h
theorem t0_220 {go : Nat → St → Option ORes} (hgo : go = orun code ret E0 0) {n cs ss : Nat} {l0 l1 l2 l3 l4 l5 l6 l7 l8 l9 l10 l11 l12 l13 l14 l15 l16 l17 l18 : Slot} {S : List Value} {H : AH} {q : Option ORes → Prop} {v : Value} (hv : isA v = true) (h : Rsq (go n (222, [l0, l1, l2, l3, l4, l5, l6, l7, l8, l9, l10, l11, l12, l13, l14, l15, l16, l17, l18, .val v], (v :: S), H, cs, ss)) q) : Rsq (go (n + 1) (220, [l0, l1, l2, l3, l4, l5, l6, l7, l8, l9, l10, l11, l12, l13, l14, l15, l16, l17, l18, .val v], S, H, cs, ss)) q := by
  subst hgo
  refine res_of s0_220 ?_
  rw [gA_isA (L := [l0, l1, l2, l3, l4, l5, l6, l7, l8, l9, l10, l11, l12, l13, l14, l15, l16, l17, l18, .val v]) (k := 19) (v := v) rfl hv]
  exact h
theorem t0_222 {go : Nat → St → Option ORes} (hgo : go = orun code ret E0 0) {n cs ss : Nat} {l0 l1 l2 l3 l4 l6 l7 l8 l9 l10 l11 l12 l13 l14 l15 l16 l17 l18 l19 : Slot} {S : List Value} {H : AH} {q : Option ORes → Prop} {v : Int32} (h : Rsq (go n (224, [l0, l1, l2, l3, l4, .val (.int v), l6, l7, l8, l9, l10, l11, l12, l13, l14, l15, l16, l17, l18, l19], (.int v :: S), H, cs, ss)) q) : Rsq (go (n + 1) (222, [l0, l1, l2, l3, l4, .val (.int v), l6, l7, l8, l9, l10, l11, l12, l13, l14, l15, l16, l17, l18, l19], S, H, cs, ss)) q := by
  subst hgo
  exact res_of s0_222 h
theorem t0_224 {go : Nat → St → Option ORes} (hgo : go = orun code ret E0 0) {n cs ss : Nat} {L : List Slot} {S : List Value} {H : AH} {q : Option ORes → Prop} (h : Rsq (go n (225, L, (.int 0 :: S), H, cs, ss)) q) : Rsq (go (n + 1) (224, L, S, H, cs, ss)) q := by
  subst hgo
  exact res_of s0_224 h
theorem t0_225 {go : Nat → St → Option ORes} (hgo : go = orun code ret E0 0) {n cs ss : Nat} {l0 l1 l2 l3 l4 l5 l6 l7 l9 l10 l11 l12 l13 l14 l15 l16 l17 l18 l19 : Slot} {S : List Value} {H : AH} {q : Option ORes → Prop} {v : Int32} (h : Rsq (go n (227, [l0, l1, l2, l3, l4, l5, l6, l7, .val (.int v), l9, l10, l11, l12, l13, l14, l15, l16, l17, l18, l19], (.int v :: S), H, cs, ss)) q) : Rsq (go (n + 1) (225, [l0, l1, l2, l3, l4, l5, l6, l7, .val (.int v), l9, l10, l11, l12, l13, l14, l15, l16, l17, l18, l19], S, H, cs, ss)) q := by
  subst hgo
  exact res_of s0_225 h
theorem t0_227 {go : Nat → St → Option ORes} (hgo : go = orun code ret E0 0) {n cs ss : Nat} {l0 l1 l2 l3 l4 l5 l6 l7 l8 l9 l10 l11 l12 l14 l15 l16 l17 l18 l19 : Slot} {S : List Value} {H : AH} {q : Option ORes → Prop} {v : Int32} (h : Rsq (go n (229, [l0, l1, l2, l3, l4, l5, l6, l7, l8, l9, l10, l11, l12, .val (.int v), l14, l15, l16, l17, l18, l19], (.int v :: S), H, cs, ss)) q) : Rsq (go (n + 1) (227, [l0, l1, l2, l3, l4, l5, l6, l7, l8, l9, l10, l11, l12, .val (.int v), l14, l15, l16, l17, l18, l19], S, H, cs, ss)) q := by
  subst hgo
  exact res_of s0_227 h
theorem u0_229 {go : Nat → St → Option ORes} (hgo : go = orun code ret E0 0) {n cs ss : Nat} {L : List Slot} {S : List Value} {H : AH} : go (n + 1) (229, L, S, H, cs, ss) = (aCall 5 6 24 192 0 0 F7 S H cs ss).bind fun r => go n (232, L, r.1, r.2.1, r.2.2.1, r.2.2.2) := by
  subst hgo
  exact s0_229
theorem t0_232t {go : Nat → St → Option ORes} (hgo : go = orun code ret E0 0) {n cs ss : Nat} {L : List Slot} {S : List Value} {H : AH} {q : Option ORes → Prop} {x : Int32} (hc : x = 0) (h : Rsq (go n (299, L, S, H, cs, ss)) q) : Rsq (go (n + 1) (232, L, (.int x :: S), H, cs, ss)) q := by
  subst hgo
  exact res_of s0_232 (res_t hc h)
theorem t0_232f {go : Nat → St → Option ORes} (hgo : go = orun code ret E0 0) {n cs ss : Nat} {L : List Slot} {S : List Value} {H : AH} {q : Option ORes → Prop} {x : Int32} (hc : ¬ x = 0) (h : Rsq (go n (235, L, S, H, cs, ss)) q) : Rsq (go (n + 1) (232, L, (.int x :: S), H, cs, ss)) q := by
  subst hgo
  exact res_of s0_232 (res_f hc h)
theorem t0_235 {go : Nat → St → Option ORes} (hgo : go = orun code ret E0 0) {n cs ss : Nat} {l0 l1 l2 l3 l4 l5 l6 l7 l8 l9 l10 l11 l12 l13 l14 l15 l16 l17 l18 : Slot} {S : List Value} {H : AH} {q : Option ORes → Prop} {v : Value} (hv : isA v = true) (h : Rsq (go n (237, [l0, l1, l2, l3, l4, l5, l6, l7, l8, l9, l10, l11, l12, l13, l14, l15, l16, l17, l18, .val v], (v :: S), H, cs, ss)) q) : Rsq (go (n + 1) (235, [l0, l1, l2, l3, l4, l5, l6, l7, l8, l9, l10, l11, l12, l13, l14, l15, l16, l17, l18, .val v], S, H, cs, ss)) q := by
  subst hgo
  refine res_of s0_235 ?_
  rw [gA_isA (L := [l0, l1, l2, l3, l4, l5, l6, l7, l8, l9, l10, l11, l12, l13, l14, l15, l16, l17, l18, .val v]) (k := 19) (v := v) rfl hv]
  exact h
theorem t0_237 {go : Nat → St → Option ORes} (hgo : go = orun code ret E0 0) {n cs ss : Nat} {l0 l1 l2 l3 l4 l6 l7 l8 l9 l10 l11 l12 l13 l14 l15 l16 l17 l18 l19 : Slot} {S : List Value} {H : AH} {q : Option ORes → Prop} {v : Int32} (h : Rsq (go n (239, [l0, l1, l2, l3, l4, .val (.int v), l6, l7, l8, l9, l10, l11, l12, l13, l14, l15, l16, l17, l18, l19], (.int v :: S), H, cs, ss)) q) : Rsq (go (n + 1) (237, [l0, l1, l2, l3, l4, .val (.int v), l6, l7, l8, l9, l10, l11, l12, l13, l14, l15, l16, l17, l18, l19], S, H, cs, ss)) q := by
  subst hgo
  exact res_of s0_237 h
theorem t0_239 {go : Nat → St → Option ORes} (hgo : go = orun code ret E0 0) {n cs ss : Nat} {L : List Slot} {S : List Value} {H : AH} {q : Option ORes → Prop} (h : Rsq (go n (240, L, (.int 1 :: S), H, cs, ss)) q) : Rsq (go (n + 1) (239, L, S, H, cs, ss)) q := by
  subst hgo
  exact res_of s0_239 h
theorem t0_240 {go : Nat → St → Option ORes} (hgo : go = orun code ret E0 0) {n cs ss : Nat} {l0 l1 l2 l3 l4 l5 l6 l7 l8 l10 l11 l12 l13 l14 l15 l16 l17 l18 l19 : Slot} {S : List Value} {H : AH} {q : Option ORes → Prop} {v : Int32} (h : Rsq (go n (242, [l0, l1, l2, l3, l4, l5, l6, l7, l8, .val (.int v), l10, l11, l12, l13, l14, l15, l16, l17, l18, l19], (.int v :: S), H, cs, ss)) q) : Rsq (go (n + 1) (240, [l0, l1, l2, l3, l4, l5, l6, l7, l8, .val (.int v), l10, l11, l12, l13, l14, l15, l16, l17, l18, l19], S, H, cs, ss)) q := by
  subst hgo
  exact res_of s0_240 h
theorem t0_242 {go : Nat → St → Option ORes} (hgo : go = orun code ret E0 0) {n cs ss : Nat} {l0 l1 l2 l3 l4 l5 l6 l7 l8 l9 l10 l11 l12 l13 l15 l16 l17 l18 l19 : Slot} {S : List Value} {H : AH} {q : Option ORes → Prop} {v : Int32} (h : Rsq (go n (244, [l0, l1, l2, l3, l4, l5, l6, l7, l8, l9, l10, l11, l12, l13, .val (.int v), l15, l16, l17, l18, l19], (.int v :: S), H, cs, ss)) q) : Rsq (go (n + 1) (242, [l0, l1, l2, l3, l4, l5, l6, l7, l8, l9, l10, l11, l12, l13, .val (.int v), l15, l16, l17, l18, l19], S, H, cs, ss)) q := by
  subst hgo
  exact res_of s0_242 h
theorem u0_244 {go : Nat → St → Option ORes} (hgo : go = orun code ret E0 0) {n cs ss : Nat} {L : List Slot} {S : List Value} {H : AH} : go (n + 1) (244, L, S, H, cs, ss) = (aCall 5 6 24 192 0 0 F7 S H cs ss).bind fun r => go n (247, L, r.1, r.2.1, r.2.2.1, r.2.2.2) := by
  subst hgo
  exact s0_244
theorem t0_247t {go : Nat → St → Option ORes} (hgo : go = orun code ret E0 0) {n cs ss : Nat} {L : List Slot} {S : List Value} {H : AH} {q : Option ORes → Prop} {x : Int32} (hc : x = 0) (h : Rsq (go n (299, L, S, H, cs, ss)) q) : Rsq (go (n + 1) (247, L, (.int x :: S), H, cs, ss)) q := by
  subst hgo
  exact res_of s0_247 (res_t hc h)
theorem t0_247f {go : Nat → St → Option ORes} (hgo : go = orun code ret E0 0) {n cs ss : Nat} {L : List Slot} {S : List Value} {H : AH} {q : Option ORes → Prop} {x : Int32} (hc : ¬ x = 0) (h : Rsq (go n (250, L, S, H, cs, ss)) q) : Rsq (go (n + 1) (247, L, (.int x :: S), H, cs, ss)) q := by
  subst hgo
  exact res_of s0_247 (res_f hc h)
theorem t0_250 {go : Nat → St → Option ORes} (hgo : go = orun code ret E0 0) {n cs ss : Nat} {l0 l1 l2 l3 l4 l5 l6 l7 l8 l9 l10 l11 l12 l13 l14 l15 l16 l17 l18 : Slot} {S : List Value} {H : AH} {q : Option ORes → Prop} {v : Value} (hv : isA v = true) (h : Rsq (go n (252, [l0, l1, l2, l3, l4, l5, l6, l7, l8, l9, l10, l11, l12, l13, l14, l15, l16, l17, l18, .val v], (v :: S), H, cs, ss)) q) : Rsq (go (n + 1) (250, [l0, l1, l2, l3, l4, l5, l6, l7, l8, l9, l10, l11, l12, l13, l14, l15, l16, l17, l18, .val v], S, H, cs, ss)) q := by
  subst hgo
  refine res_of s0_250 ?_
  rw [gA_isA (L := [l0, l1, l2, l3, l4, l5, l6, l7, l8, l9, l10, l11, l12, l13, l14, l15, l16, l17, l18, .val v]) (k := 19) (v := v) rfl hv]
  exact h
theorem t0_252 {go : Nat → St → Option ORes} (hgo : go = orun code ret E0 0) {n cs ss : Nat} {l0 l1 l2 l3 l4 l6 l7 l8 l9 l10 l11 l12 l13 l14 l15 l16 l17 l18 l19 : Slot} {S : List Value} {H : AH} {q : Option ORes → Prop} {v : Int32} (h : Rsq (go n (254, [l0, l1, l2, l3, l4, .val (.int v), l6, l7, l8, l9, l10, l11, l12, l13, l14, l15, l16, l17, l18, l19], (.int v :: S), H, cs, ss)) q) : Rsq (go (n + 1) (252, [l0, l1, l2, l3, l4, .val (.int v), l6, l7, l8, l9, l10, l11, l12, l13, l14, l15, l16, l17, l18, l19], S, H, cs, ss)) q := by
  subst hgo
  exact res_of s0_252 h
theorem t0_254 {go : Nat → St → Option ORes} (hgo : go = orun code ret E0 0) {n cs ss : Nat} {L : List Slot} {S : List Value} {H : AH} {q : Option ORes → Prop} (h : Rsq (go n (255, L, (.int 2 :: S), H, cs, ss)) q) : Rsq (go (n + 1) (254, L, S, H, cs, ss)) q := by
  subst hgo
  exact res_of s0_254 h
theorem t0_255 {go : Nat → St → Option ORes} (hgo : go = orun code ret E0 0) {n cs ss : Nat} {l0 l1 l2 l3 l4 l5 l6 l7 l8 l9 l11 l12 l13 l14 l15 l16 l17 l18 l19 : Slot} {S : List Value} {H : AH} {q : Option ORes → Prop} {v : Int32} (h : Rsq (go n (257, [l0, l1, l2, l3, l4, l5, l6, l7, l8, l9, .val (.int v), l11, l12, l13, l14, l15, l16, l17, l18, l19], (.int v :: S), H, cs, ss)) q) : Rsq (go (n + 1) (255, [l0, l1, l2, l3, l4, l5, l6, l7, l8, l9, .val (.int v), l11, l12, l13, l14, l15, l16, l17, l18, l19], S, H, cs, ss)) q := by
  subst hgo
  exact res_of s0_255 h
theorem t0_257 {go : Nat → St → Option ORes} (hgo : go = orun code ret E0 0) {n cs ss : Nat} {l0 l1 l2 l3 l4 l5 l6 l7 l8 l9 l10 l11 l12 l13 l14 l16 l17 l18 l19 : Slot} {S : List Value} {H : AH} {q : Option ORes → Prop} {v : Int32} (h : Rsq (go n (259, [l0, l1, l2, l3, l4, l5, l6, l7, l8, l9, l10, l11, l12, l13, l14, .val (.int v), l16, l17, l18, l19], (.int v :: S), H, cs, ss)) q) : Rsq (go (n + 1) (257, [l0, l1, l2, l3, l4, l5, l6, l7, l8, l9, l10, l11, l12, l13, l14, .val (.int v), l16, l17, l18, l19], S, H, cs, ss)) q := by
  subst hgo
  exact res_of s0_257 h
theorem u0_259 {go : Nat → St → Option ORes} (hgo : go = orun code ret E0 0) {n cs ss : Nat} {L : List Slot} {S : List Value} {H : AH} : go (n + 1) (259, L, S, H, cs, ss) = (aCall 5 6 24 192 0 0 F7 S H cs ss).bind fun r => go n (262, L, r.1, r.2.1, r.2.2.1, r.2.2.2) := by
  subst hgo
  exact s0_259
theorem t0_262t {go : Nat → St → Option ORes} (hgo : go = orun code ret E0 0) {n cs ss : Nat} {L : List Slot} {S : List Value} {H : AH} {q : Option ORes → Prop} {x : Int32} (hc : x = 0) (h : Rsq (go n (299, L, S, H, cs, ss)) q) : Rsq (go (n + 1) (262, L, (.int x :: S), H, cs, ss)) q := by
  subst hgo
  exact res_of s0_262 (res_t hc h)
theorem t0_262f {go : Nat → St → Option ORes} (hgo : go = orun code ret E0 0) {n cs ss : Nat} {L : List Slot} {S : List Value} {H : AH} {q : Option ORes → Prop} {x : Int32} (hc : ¬ x = 0) (h : Rsq (go n (265, L, S, H, cs, ss)) q) : Rsq (go (n + 1) (262, L, (.int x :: S), H, cs, ss)) q := by
  subst hgo
  exact res_of s0_262 (res_f hc h)
theorem t0_265 {go : Nat → St → Option ORes} (hgo : go = orun code ret E0 0) {n cs ss : Nat} {l0 l1 l2 l3 l4 l5 l6 l7 l8 l9 l10 l11 l12 l13 l14 l15 l16 l17 l18 : Slot} {S : List Value} {H : AH} {q : Option ORes → Prop} {v : Value} (hv : isA v = true) (h : Rsq (go n (267, [l0, l1, l2, l3, l4, l5, l6, l7, l8, l9, l10, l11, l12, l13, l14, l15, l16, l17, l18, .val v], (v :: S), H, cs, ss)) q) : Rsq (go (n + 1) (265, [l0, l1, l2, l3, l4, l5, l6, l7, l8, l9, l10, l11, l12, l13, l14, l15, l16, l17, l18, .val v], S, H, cs, ss)) q := by
  subst hgo
  refine res_of s0_265 ?_
  rw [gA_isA (L := [l0, l1, l2, l3, l4, l5, l6, l7, l8, l9, l10, l11, l12, l13, l14, l15, l16, l17, l18, .val v]) (k := 19) (v := v) rfl hv]
  exact h
theorem t0_267 {go : Nat → St → Option ORes} (hgo : go = orun code ret E0 0) {n cs ss : Nat} {l0 l1 l2 l3 l4 l6 l7 l8 l9 l10 l11 l12 l13 l14 l15 l16 l17 l18 l19 : Slot} {S : List Value} {H : AH} {q : Option ORes → Prop} {v : Int32} (h : Rsq (go n (269, [l0, l1, l2, l3, l4, .val (.int v), l6, l7, l8, l9, l10, l11, l12, l13, l14, l15, l16, l17, l18, l19], (.int v :: S), H, cs, ss)) q) : Rsq (go (n + 1) (267, [l0, l1, l2, l3, l4, .val (.int v), l6, l7, l8, l9, l10, l11, l12, l13, l14, l15, l16, l17, l18, l19], S, H, cs, ss)) q := by
  subst hgo
  exact res_of s0_267 h
theorem t0_269 {go : Nat → St → Option ORes} (hgo : go = orun code ret E0 0) {n cs ss : Nat} {L : List Slot} {S : List Value} {H : AH} {q : Option ORes → Prop} (h : Rsq (go n (270, L, (.int 3 :: S), H, cs, ss)) q) : Rsq (go (n + 1) (269, L, S, H, cs, ss)) q := by
  subst hgo
  exact res_of s0_269 h
theorem t0_270 {go : Nat → St → Option ORes} (hgo : go = orun code ret E0 0) {n cs ss : Nat} {l0 l1 l2 l3 l4 l5 l6 l7 l8 l9 l10 l12 l13 l14 l15 l16 l17 l18 l19 : Slot} {S : List Value} {H : AH} {q : Option ORes → Prop} {v : Int32} (h : Rsq (go n (272, [l0, l1, l2, l3, l4, l5, l6, l7, l8, l9, l10, .val (.int v), l12, l13, l14, l15, l16, l17, l18, l19], (.int v :: S), H, cs, ss)) q) : Rsq (go (n + 1) (270, [l0, l1, l2, l3, l4, l5, l6, l7, l8, l9, l10, .val (.int v), l12, l13, l14, l15, l16, l17, l18, l19], S, H, cs, ss)) q := by
  subst hgo
  exact res_of s0_270 h
theorem t0_272 {go : Nat → St → Option ORes} (hgo : go = orun code ret E0 0) {n cs ss : Nat} {l0 l1 l2 l3 l4 l5 l6 l7 l8 l9 l10 l11 l12 l13 l14 l15 l17 l18 l19 : Slot} {S : List Value} {H : AH} {q : Option ORes → Prop} {v : Int32} (h : Rsq (go n (274, [l0, l1, l2, l3, l4, l5, l6, l7, l8, l9, l10, l11, l12, l13, l14, l15, .val (.int v), l17, l18, l19], (.int v :: S), H, cs, ss)) q) : Rsq (go (n + 1) (272, [l0, l1, l2, l3, l4, l5, l6, l7, l8, l9, l10, l11, l12, l13, l14, l15, .val (.int v), l17, l18, l19], S, H, cs, ss)) q := by
  subst hgo
  exact res_of s0_272 h
theorem u0_274 {go : Nat → St → Option ORes} (hgo : go = orun code ret E0 0) {n cs ss : Nat} {L : List Slot} {S : List Value} {H : AH} : go (n + 1) (274, L, S, H, cs, ss) = (aCall 5 6 24 192 0 0 F7 S H cs ss).bind fun r => go n (277, L, r.1, r.2.1, r.2.2.1, r.2.2.2) := by
  subst hgo
  exact s0_274
theorem t0_277t {go : Nat → St → Option ORes} (hgo : go = orun code ret E0 0) {n cs ss : Nat} {L : List Slot} {S : List Value} {H : AH} {q : Option ORes → Prop} {x : Int32} (hc : x = 0) (h : Rsq (go n (299, L, S, H, cs, ss)) q) : Rsq (go (n + 1) (277, L, (.int x :: S), H, cs, ss)) q := by
  subst hgo
  exact res_of s0_277 (res_t hc h)
theorem t0_277f {go : Nat → St → Option ORes} (hgo : go = orun code ret E0 0) {n cs ss : Nat} {L : List Slot} {S : List Value} {H : AH} {q : Option ORes → Prop} {x : Int32} (hc : ¬ x = 0) (h : Rsq (go n (280, L, S, H, cs, ss)) q) : Rsq (go (n + 1) (277, L, (.int x :: S), H, cs, ss)) q := by
  subst hgo
  exact res_of s0_277 (res_f hc h)
theorem t0_280 {go : Nat → St → Option ORes} (hgo : go = orun code ret E0 0) {n cs ss : Nat} {l0 l1 l2 l3 l4 l5 l6 l7 l8 l9 l10 l11 l12 l13 l14 l15 l16 l17 l18 : Slot} {S : List Value} {H : AH} {q : Option ORes → Prop} {v : Value} (hv : isA v = true) (h : Rsq (go n (282, [l0, l1, l2, l3, l4, l5, l6, l7, l8, l9, l10, l11, l12, l13, l14, l15, l16, l17, l18, .val v], (v :: S), H, cs, ss)) q) : Rsq (go (n + 1) (280, [l0, l1, l2, l3, l4, l5, l6, l7, l8, l9, l10, l11, l12, l13, l14, l15, l16, l17, l18, .val v], S, H, cs, ss)) q := by
  subst hgo
  refine res_of s0_280 ?_
  rw [gA_isA (L := [l0, l1, l2, l3, l4, l5, l6, l7, l8, l9, l10, l11, l12, l13, l14, l15, l16, l17, l18, .val v]) (k := 19) (v := v) rfl hv]
  exact h
theorem t0_282 {go : Nat → St → Option ORes} (hgo : go = orun code ret E0 0) {n cs ss : Nat} {l0 l1 l2 l3 l4 l6 l7 l8 l9 l10 l11 l12 l13 l14 l15 l16 l17 l18 l19 : Slot} {S : List Value} {H : AH} {q : Option ORes → Prop} {v : Int32} (h : Rsq (go n (284, [l0, l1, l2, l3, l4, .val (.int v), l6, l7, l8, l9, l10, l11, l12, l13, l14, l15, l16, l17, l18, l19], (.int v :: S), H, cs, ss)) q) : Rsq (go (n + 1) (282, [l0, l1, l2, l3, l4, .val (.int v), l6, l7, l8, l9, l10, l11, l12, l13, l14, l15, l16, l17, l18, l19], S, H, cs, ss)) q := by
  subst hgo
  exact res_of s0_282 h
theorem t0_284 {go : Nat → St → Option ORes} (hgo : go = orun code ret E0 0) {n cs ss : Nat} {L : List Slot} {S : List Value} {H : AH} {q : Option ORes → Prop} (h : Rsq (go n (285, L, (.int 4 :: S), H, cs, ss)) q) : Rsq (go (n + 1) (284, L, S, H, cs, ss)) q := by
  subst hgo
  exact res_of s0_284 h
theorem t0_285 {go : Nat → St → Option ORes} (hgo : go = orun code ret E0 0) {n cs ss : Nat} {l0 l1 l2 l3 l4 l5 l6 l7 l8 l9 l10 l11 l13 l14 l15 l16 l17 l18 l19 : Slot} {S : List Value} {H : AH} {q : Option ORes → Prop} {v : Int32} (h : Rsq (go n (287, [l0, l1, l2, l3, l4, l5, l6, l7, l8, l9, l10, l11, .val (.int v), l13, l14, l15, l16, l17, l18, l19], (.int v :: S), H, cs, ss)) q) : Rsq (go (n + 1) (285, [l0, l1, l2, l3, l4, l5, l6, l7, l8, l9, l10, l11, .val (.int v), l13, l14, l15, l16, l17, l18, l19], S, H, cs, ss)) q := by
  subst hgo
  exact res_of s0_285 h
theorem t0_287 {go : Nat → St → Option ORes} (hgo : go = orun code ret E0 0) {n cs ss : Nat} {l0 l1 l2 l3 l4 l5 l6 l7 l8 l9 l10 l11 l12 l13 l14 l15 l16 l18 l19 : Slot} {S : List Value} {H : AH} {q : Option ORes → Prop} {v : Int32} (h : Rsq (go n (289, [l0, l1, l2, l3, l4, l5, l6, l7, l8, l9, l10, l11, l12, l13, l14, l15, l16, .val (.int v), l18, l19], (.int v :: S), H, cs, ss)) q) : Rsq (go (n + 1) (287, [l0, l1, l2, l3, l4, l5, l6, l7, l8, l9, l10, l11, l12, l13, l14, l15, l16, .val (.int v), l18, l19], S, H, cs, ss)) q := by
  subst hgo
  exact res_of s0_287 h
theorem u0_289 {go : Nat → St → Option ORes} (hgo : go = orun code ret E0 0) {n cs ss : Nat} {L : List Slot} {S : List Value} {H : AH} : go (n + 1) (289, L, S, H, cs, ss) = (aCall 5 6 24 192 0 0 F7 S H cs ss).bind fun r => go n (292, L, r.1, r.2.1, r.2.2.1, r.2.2.2) := by
  subst hgo
  exact s0_289
theorem t0_292t {go : Nat → St → Option ORes} (hgo : go = orun code ret E0 0) {n cs ss : Nat} {L : List Slot} {S : List Value} {H : AH} {q : Option ORes → Prop} {x : Int32} (hc : x = 0) (h : Rsq (go n (299, L, S, H, cs, ss)) q) : Rsq (go (n + 1) (292, L, (.int x :: S), H, cs, ss)) q := by
  subst hgo
  exact res_of s0_292 (res_t hc h)
theorem t0_292f {go : Nat → St → Option ORes} (hgo : go = orun code ret E0 0) {n cs ss : Nat} {L : List Slot} {S : List Value} {H : AH} {q : Option ORes → Prop} {x : Int32} (hc : ¬ x = 0) (h : Rsq (go n (295, L, S, H, cs, ss)) q) : Rsq (go (n + 1) (292, L, (.int x :: S), H, cs, ss)) q := by
  subst hgo
  exact res_of s0_292 (res_f hc h)
theorem t0_295 {go : Nat → St → Option ORes} (hgo : go = orun code ret E0 0) {n cs ss : Nat} {L : List Slot} {S : List Value} {H : AH} {q : Option ORes → Prop} (h : Rsq (go n (296, L, (.int 1 :: S), H, cs, ss)) q) : Rsq (go (n + 1) (295, L, S, H, cs, ss)) q := by
  subst hgo
  exact res_of s0_295 h
theorem t0_296 {go : Nat → St → Option ORes} (hgo : go = orun code ret E0 0) {n cs ss : Nat} {L : List Slot} {S : List Value} {H : AH} {q : Option ORes → Prop} (h : Rsq (go n (300, L, S, H, cs, ss)) q) : Rsq (go (n + 1) (296, L, S, H, cs, ss)) q := by
  subst hgo
  exact res_of s0_296 h
theorem t0_299 {go : Nat → St → Option ORes} (hgo : go = orun code ret E0 0) {n cs ss : Nat} {L : List Slot} {S : List Value} {H : AH} {q : Option ORes → Prop} (h : Rsq (go n (300, L, (.int 0 :: S), H, cs, ss)) q) : Rsq (go (n + 1) (299, L, S, H, cs, ss)) q := by
  subst hgo
  exact res_of s0_299 h
theorem t0_300 {go : Nat → St → Option ORes} (hgo : go = orun code ret E0 0) {n cs ss : Nat} {L : List Slot} {S : List Value} {H : AH} {q : Option ORes → Prop} {z : Int32} (h : q (some (some (.int (z &&& 1)), H))) : Rsq (go (n + 1) (300, L, (.int z :: S), H, cs, ss)) q := by
  subst hgo
  exact res_of s0_300 h
theorem qb_6 : (Int8.ofInt 6).toInt32 = 6 := by decide
theorem qc_0 : Int32.ofInt 0 = 0 := by decide
theorem qc_1 : Int32.ofInt 1 = 1 := by decide
theorem qc_2 : Int32.ofInt 2 = 2 := by decide
theorem qc_3 : Int32.ofInt 3 = 3 := by decide
theorem qc_4 : Int32.ofInt 4 = 4 := by decide
theorem F4_a {x y : Int32} {H : AH} (h : ¬ y < x) : F4 [.int x, .int y] H = some (some (.int x), H) := by
  refine is_of f4_in fun go hgo => ?_
  refine t4_0 hgo ?_
  refine t4_1 hgo ?_
  refine t4_2f hgo h ?_
  refine t4_5 hgo ?_
  refine t4_6 hgo ?_
  refine t4_10 hgo ?_
  exact is_r
theorem F4_b {x y : Int32} {H : AH} (h : y < x) : F4 [.int x, .int y] H = some (some (.int y), H) := by
  refine is_of f4_in fun go hgo => ?_
  refine t4_0 hgo ?_
  refine t4_1 hgo ?_
  refine t4_2t hgo h ?_
  refine t4_9 hgo ?_
  refine t4_10 hgo ?_
  exact is_r
set_option maxRecDepth 65536 in
set_option maxHeartbeats 4000000 in
theorem F1_eq : F1 [.ref 0] [.inl (0, [.null, .null, .int 0])] = some (none, [.inl (0, [.ref 1, .ref 2, .int 0]), .inr (.int, [.int 0, .int 0, .int 0, .int 0]), .inr (.int, [.int 0, .int 0, .int 0, .int 0])]) := by
  refine is_of f1_in fun go hgo => ?_
  refine t1_0 hgo rfl ?_
  refine res_of (u1_1 hgo) ?_
  simp only [eq_self, and_self, true_and, and_true, not_true_eq_false, not_false_eq_true, if_true, if_false, reduceIte, Option.bind_some, List.getElem?_cons_zero, List.getElem?_cons_succ, Nat.reduceAdd, Nat.reduceSub, Nat.reduceLT, Nat.reduceLeDiff, Nat.le_refl, Nat.zero_add, Nat.add_zero, List.length_cons, List.length_nil, Int32.reduceLT, Int32.reduceToNatClampNeg, Int32.reduceAdd, Int32.reduceSub, Int32.reduceMul, decide_true, aCall, aRecv, aObj, obj, List.take_succ_cons, List.take_zero, List.drop_succ_cons, List.drop_zero, List.reverse_cons, List.reverse_nil, List.nil_append, List.cons_append, List.append_nil, List.map_cons, List.map_nil, List.sum_cons, List.sum_nil, cat_int, cat_long, cat_ref, cat_null, Option.toList_some, Option.toList_none]
  refine t1_4 hgo rfl ?_
  refine t1_5 hgo ?_
  refine res_of (u1_6 hgo) ?_
  simp only [eq_self, and_self, true_and, and_true, not_true_eq_false, not_false_eq_true, if_true, if_false, reduceIte, Option.bind_some, List.getElem?_cons_zero, List.getElem?_cons_succ, Nat.reduceAdd, Nat.reduceSub, Nat.reduceLT, Nat.reduceLeDiff, Nat.le_refl, Nat.zero_add, Nat.add_zero, List.length_cons, List.length_nil, Int32.reduceLT, Int32.reduceToNatClampNeg, Int32.reduceAdd, Int32.reduceSub, Int32.reduceMul, decide_true, aArr, List.nil_append, List.cons_append, List.replicate_zero, List.replicate_succ, defaultValue]
  refine res_of (u1_8 hgo) ?_
  simp only [eq_self, and_self, true_and, and_true, not_true_eq_false, not_false_eq_true, if_true, if_false, reduceIte, Option.bind_some, List.getElem?_cons_zero, List.getElem?_cons_succ, Nat.reduceAdd, Nat.reduceSub, Nat.reduceLT, Nat.reduceLeDiff, Nat.le_refl, Nat.zero_add, Nat.add_zero, List.length_cons, List.length_nil, Int32.reduceLT, Int32.reduceToNatClampNeg, Int32.reduceAdd, Int32.reduceSub, Int32.reduceMul, decide_true, aPut, obj, nr_i, nr_j, nr_a, nr_o, nr_b, nr_b1, nr_b0, ft_i, ft_j, ft_a, ft_o, ft_b, ft_b1, ft_b0, List.set_cons_zero, List.set_cons_succ]
  refine t1_11 hgo rfl ?_
  refine t1_12 hgo ?_
  refine res_of (u1_13 hgo) ?_
  simp only [eq_self, and_self, true_and, and_true, not_true_eq_false, not_false_eq_true, if_true, if_false, reduceIte, Option.bind_some, List.getElem?_cons_zero, List.getElem?_cons_succ, Nat.reduceAdd, Nat.reduceSub, Nat.reduceLT, Nat.reduceLeDiff, Nat.le_refl, Nat.zero_add, Nat.add_zero, List.length_cons, List.length_nil, Int32.reduceLT, Int32.reduceToNatClampNeg, Int32.reduceAdd, Int32.reduceSub, Int32.reduceMul, decide_true, aArr, List.nil_append, List.cons_append, List.replicate_zero, List.replicate_succ, defaultValue]
  refine res_of (u1_15 hgo) ?_
  simp only [eq_self, and_self, true_and, and_true, not_true_eq_false, not_false_eq_true, if_true, if_false, reduceIte, Option.bind_some, List.getElem?_cons_zero, List.getElem?_cons_succ, Nat.reduceAdd, Nat.reduceSub, Nat.reduceLT, Nat.reduceLeDiff, Nat.le_refl, Nat.zero_add, Nat.add_zero, List.length_cons, List.length_nil, Int32.reduceLT, Int32.reduceToNatClampNeg, Int32.reduceAdd, Int32.reduceSub, Int32.reduceMul, decide_true, aPut, obj, nr_i, nr_j, nr_a, nr_o, nr_b, nr_b1, nr_b0, ft_i, ft_j, ft_a, ft_o, ft_b, ft_b1, ft_b0, List.set_cons_zero, List.set_cons_succ]
  refine t1_18 hgo ?_
  exact is_r
set_option maxRecDepth 65536 in
set_option maxHeartbeats 4000000 in
theorem add_0 {v c : Int32} : F8 [.ref 0, .int v, .int c] [.inl (0, [.ref 1, .ref 2, .int 0]), .inr (.int, [.int 0, .int 0, .int 0, .int 0]), .inr (.int, [.int 0, .int 0, .int 0, .int 0])] = some (none, [.inl (0, [.ref 1, .ref 2, .int 1]), .inr (.int, [.int v, .int 0, .int 0, .int 0]), .inr (.int, [.int c, .int 0, .int 0, .int 0])]) := by
  refine is_of f8_in fun go hgo => ?_
  refine t8_0 hgo rfl ?_
  refine res_of (u8_1 hgo) ?_
  simp only [eq_self, and_self, true_and, and_true, not_true_eq_false, not_false_eq_true, if_true, if_false, reduceIte, Option.bind_some, List.getElem?_cons_zero, List.getElem?_cons_succ, Nat.reduceAdd, Nat.reduceSub, Nat.reduceLT, Nat.reduceLeDiff, Nat.le_refl, Nat.zero_add, Nat.add_zero, List.length_cons, List.length_nil, Int32.reduceLT, Int32.reduceToNatClampNeg, Int32.reduceAdd, Int32.reduceSub, Int32.reduceMul, decide_true, aGet, obj]
  refine t8_4 hgo rfl ?_
  refine res_of (u8_5 hgo) ?_
  simp only [eq_self, and_self, true_and, and_true, not_true_eq_false, not_false_eq_true, if_true, if_false, reduceIte, Option.bind_some, List.getElem?_cons_zero, List.getElem?_cons_succ, Nat.reduceAdd, Nat.reduceSub, Nat.reduceLT, Nat.reduceLeDiff, Nat.le_refl, Nat.zero_add, Nat.add_zero, List.length_cons, List.length_nil, Int32.reduceLT, Int32.reduceToNatClampNeg, Int32.reduceAdd, Int32.reduceSub, Int32.reduceMul, decide_true, aGet, obj]
  refine res_of (u8_8 hgo) ?_
  simp only [eq_self, and_self, true_and, and_true, not_true_eq_false, not_false_eq_true, if_true, if_false, reduceIte, Option.bind_some, List.getElem?_cons_zero, List.getElem?_cons_succ, Nat.reduceAdd, Nat.reduceSub, Nat.reduceLT, Nat.reduceLeDiff, Nat.le_refl, Nat.zero_add, Nat.add_zero, List.length_cons, List.length_nil, Int32.reduceLT, Int32.reduceToNatClampNeg, Int32.reduceAdd, Int32.reduceSub, Int32.reduceMul, decide_true, pR_ref, arr, ln0, ln1, ln2, ln3, ln4, ln5, ln6, ln7, ln8, ln9, ln10, ln11, ln12, ln13, ln14, ln15, ln16, ln17, ln18, ln19, ln20, ln21, ln22, ln23, ln24, ln25, ln26, ln27, ln28, ln29, ln30, ln31, ln32, ln33, ln34, ln35, ln36]
  refine t8_9f hgo (by decide) ?_
  refine t8_46 hgo rfl ?_
  refine res_of (u8_47 hgo) ?_
  simp only [eq_self, and_self, true_and, and_true, not_true_eq_false, not_false_eq_true, if_true, if_false, reduceIte, Option.bind_some, List.getElem?_cons_zero, List.getElem?_cons_succ, Nat.reduceAdd, Nat.reduceSub, Nat.reduceLT, Nat.reduceLeDiff, Nat.le_refl, Nat.zero_add, Nat.add_zero, List.length_cons, List.length_nil, Int32.reduceLT, Int32.reduceToNatClampNeg, Int32.reduceAdd, Int32.reduceSub, Int32.reduceMul, decide_true, aGet, obj]
  refine t8_50 hgo rfl ?_
  refine res_of (u8_51 hgo) ?_
  simp only [eq_self, and_self, true_and, and_true, not_true_eq_false, not_false_eq_true, if_true, if_false, reduceIte, Option.bind_some, List.getElem?_cons_zero, List.getElem?_cons_succ, Nat.reduceAdd, Nat.reduceSub, Nat.reduceLT, Nat.reduceLeDiff, Nat.le_refl, Nat.zero_add, Nat.add_zero, List.length_cons, List.length_nil, Int32.reduceLT, Int32.reduceToNatClampNeg, Int32.reduceAdd, Int32.reduceSub, Int32.reduceMul, decide_true, aGet, obj]
  refine t8_54 hgo ?_
  refine res_of (u8_55 hgo) ?_
  simp only [eq_self, and_self, true_and, and_true, not_true_eq_false, not_false_eq_true, if_true, if_false, reduceIte, Option.bind_some, List.getElem?_cons_zero, List.getElem?_cons_succ, Nat.reduceAdd, Nat.reduceSub, Nat.reduceLT, Nat.reduceLeDiff, Nat.le_refl, Nat.zero_add, Nat.add_zero, List.length_cons, List.length_nil, Int32.reduceLT, Int32.reduceToNatClampNeg, Int32.reduceAdd, Int32.reduceSub, Int32.reduceMul, decide_true, ex_iastore, ast, astL, pI_int, pL_long, pR_ref, arr, isT, isBZ, nar, List.set_cons_zero, List.set_cons_succ]
  refine t8_56 hgo rfl ?_
  refine res_of (u8_57 hgo) ?_
  simp only [eq_self, and_self, true_and, and_true, not_true_eq_false, not_false_eq_true, if_true, if_false, reduceIte, Option.bind_some, List.getElem?_cons_zero, List.getElem?_cons_succ, Nat.reduceAdd, Nat.reduceSub, Nat.reduceLT, Nat.reduceLeDiff, Nat.le_refl, Nat.zero_add, Nat.add_zero, List.length_cons, List.length_nil, Int32.reduceLT, Int32.reduceToNatClampNeg, Int32.reduceAdd, Int32.reduceSub, Int32.reduceMul, decide_true, aGet, obj]
  refine t8_60 hgo rfl ?_
  refine res_of (u8_61 hgo) ?_
  simp only [eq_self, and_self, true_and, and_true, not_true_eq_false, not_false_eq_true, if_true, if_false, reduceIte, Option.bind_some, List.getElem?_cons_zero, List.getElem?_cons_succ, Nat.reduceAdd, Nat.reduceSub, Nat.reduceLT, Nat.reduceLeDiff, Nat.le_refl, Nat.zero_add, Nat.add_zero, List.length_cons, List.length_nil, Int32.reduceLT, Int32.reduceToNatClampNeg, Int32.reduceAdd, Int32.reduceSub, Int32.reduceMul, decide_true, aGet, obj]
  refine t8_64 hgo ?_
  refine res_of (u8_65 hgo) ?_
  simp only [eq_self, and_self, true_and, and_true, not_true_eq_false, not_false_eq_true, if_true, if_false, reduceIte, Option.bind_some, List.getElem?_cons_zero, List.getElem?_cons_succ, Nat.reduceAdd, Nat.reduceSub, Nat.reduceLT, Nat.reduceLeDiff, Nat.le_refl, Nat.zero_add, Nat.add_zero, List.length_cons, List.length_nil, Int32.reduceLT, Int32.reduceToNatClampNeg, Int32.reduceAdd, Int32.reduceSub, Int32.reduceMul, decide_true, ex_iastore, ast, astL, pI_int, pL_long, pR_ref, arr, isT, isBZ, nar, List.set_cons_zero, List.set_cons_succ]
  refine t8_66 hgo rfl ?_
  refine t8_67 hgo rfl ?_
  refine res_of (u8_68 hgo) ?_
  simp only [eq_self, and_self, true_and, and_true, not_true_eq_false, not_false_eq_true, if_true, if_false, reduceIte, Option.bind_some, List.getElem?_cons_zero, List.getElem?_cons_succ, Nat.reduceAdd, Nat.reduceSub, Nat.reduceLT, Nat.reduceLeDiff, Nat.le_refl, Nat.zero_add, Nat.add_zero, List.length_cons, List.length_nil, Int32.reduceLT, Int32.reduceToNatClampNeg, Int32.reduceAdd, Int32.reduceSub, Int32.reduceMul, decide_true, aGet, obj]
  refine t8_71 hgo ?_
  refine t8_72 hgo ?_
  refine res_of (u8_73 hgo) ?_
  simp only [eq_self, and_self, true_and, and_true, not_true_eq_false, not_false_eq_true, if_true, if_false, reduceIte, Option.bind_some, List.getElem?_cons_zero, List.getElem?_cons_succ, Nat.reduceAdd, Nat.reduceSub, Nat.reduceLT, Nat.reduceLeDiff, Nat.le_refl, Nat.zero_add, Nat.add_zero, List.length_cons, List.length_nil, Int32.reduceLT, Int32.reduceToNatClampNeg, Int32.reduceAdd, Int32.reduceSub, Int32.reduceMul, decide_true, aPut, obj, nr_i, nr_j, nr_a, nr_o, nr_b, nr_b1, nr_b0, ft_i, ft_j, ft_a, ft_o, ft_b, ft_b1, ft_b0, List.set_cons_zero, List.set_cons_succ]
  refine t8_76 hgo ?_
  exact is_r
set_option maxRecDepth 65536 in
set_option maxHeartbeats 4000000 in
theorem add_1 {w0 c0 : Int32} {v c : Int32} : F8 [.ref 0, .int v, .int c] [.inl (0, [.ref 1, .ref 2, .int 1]), .inr (.int, [.int w0, .int 0, .int 0, .int 0]), .inr (.int, [.int c0, .int 0, .int 0, .int 0])] = some (none, [.inl (0, [.ref 1, .ref 2, .int 2]), .inr (.int, [.int w0, .int v, .int 0, .int 0]), .inr (.int, [.int c0, .int c, .int 0, .int 0])]) := by
  refine is_of f8_in fun go hgo => ?_
  refine t8_0 hgo rfl ?_
  refine res_of (u8_1 hgo) ?_
  simp only [eq_self, and_self, true_and, and_true, not_true_eq_false, not_false_eq_true, if_true, if_false, reduceIte, Option.bind_some, List.getElem?_cons_zero, List.getElem?_cons_succ, Nat.reduceAdd, Nat.reduceSub, Nat.reduceLT, Nat.reduceLeDiff, Nat.le_refl, Nat.zero_add, Nat.add_zero, List.length_cons, List.length_nil, Int32.reduceLT, Int32.reduceToNatClampNeg, Int32.reduceAdd, Int32.reduceSub, Int32.reduceMul, decide_true, aGet, obj]
  refine t8_4 hgo rfl ?_
  refine res_of (u8_5 hgo) ?_
  simp only [eq_self, and_self, true_and, and_true, not_true_eq_false, not_false_eq_true, if_true, if_false, reduceIte, Option.bind_some, List.getElem?_cons_zero, List.getElem?_cons_succ, Nat.reduceAdd, Nat.reduceSub, Nat.reduceLT, Nat.reduceLeDiff, Nat.le_refl, Nat.zero_add, Nat.add_zero, List.length_cons, List.length_nil, Int32.reduceLT, Int32.reduceToNatClampNeg, Int32.reduceAdd, Int32.reduceSub, Int32.reduceMul, decide_true, aGet, obj]
  refine res_of (u8_8 hgo) ?_
  simp only [eq_self, and_self, true_and, and_true, not_true_eq_false, not_false_eq_true, if_true, if_false, reduceIte, Option.bind_some, List.getElem?_cons_zero, List.getElem?_cons_succ, Nat.reduceAdd, Nat.reduceSub, Nat.reduceLT, Nat.reduceLeDiff, Nat.le_refl, Nat.zero_add, Nat.add_zero, List.length_cons, List.length_nil, Int32.reduceLT, Int32.reduceToNatClampNeg, Int32.reduceAdd, Int32.reduceSub, Int32.reduceMul, decide_true, pR_ref, arr, ln0, ln1, ln2, ln3, ln4, ln5, ln6, ln7, ln8, ln9, ln10, ln11, ln12, ln13, ln14, ln15, ln16, ln17, ln18, ln19, ln20, ln21, ln22, ln23, ln24, ln25, ln26, ln27, ln28, ln29, ln30, ln31, ln32, ln33, ln34, ln35, ln36]
  refine t8_9f hgo (by decide) ?_
  refine t8_46 hgo rfl ?_
  refine res_of (u8_47 hgo) ?_
  simp only [eq_self, and_self, true_and, and_true, not_true_eq_false, not_false_eq_true, if_true, if_false, reduceIte, Option.bind_some, List.getElem?_cons_zero, List.getElem?_cons_succ, Nat.reduceAdd, Nat.reduceSub, Nat.reduceLT, Nat.reduceLeDiff, Nat.le_refl, Nat.zero_add, Nat.add_zero, List.length_cons, List.length_nil, Int32.reduceLT, Int32.reduceToNatClampNeg, Int32.reduceAdd, Int32.reduceSub, Int32.reduceMul, decide_true, aGet, obj]
  refine t8_50 hgo rfl ?_
  refine res_of (u8_51 hgo) ?_
  simp only [eq_self, and_self, true_and, and_true, not_true_eq_false, not_false_eq_true, if_true, if_false, reduceIte, Option.bind_some, List.getElem?_cons_zero, List.getElem?_cons_succ, Nat.reduceAdd, Nat.reduceSub, Nat.reduceLT, Nat.reduceLeDiff, Nat.le_refl, Nat.zero_add, Nat.add_zero, List.length_cons, List.length_nil, Int32.reduceLT, Int32.reduceToNatClampNeg, Int32.reduceAdd, Int32.reduceSub, Int32.reduceMul, decide_true, aGet, obj]
  refine t8_54 hgo ?_
  refine res_of (u8_55 hgo) ?_
  simp only [eq_self, and_self, true_and, and_true, not_true_eq_false, not_false_eq_true, if_true, if_false, reduceIte, Option.bind_some, List.getElem?_cons_zero, List.getElem?_cons_succ, Nat.reduceAdd, Nat.reduceSub, Nat.reduceLT, Nat.reduceLeDiff, Nat.le_refl, Nat.zero_add, Nat.add_zero, List.length_cons, List.length_nil, Int32.reduceLT, Int32.reduceToNatClampNeg, Int32.reduceAdd, Int32.reduceSub, Int32.reduceMul, decide_true, ex_iastore, ast, astL, pI_int, pL_long, pR_ref, arr, isT, isBZ, nar, List.set_cons_zero, List.set_cons_succ]
  refine t8_56 hgo rfl ?_
  refine res_of (u8_57 hgo) ?_
  simp only [eq_self, and_self, true_and, and_true, not_true_eq_false, not_false_eq_true, if_true, if_false, reduceIte, Option.bind_some, List.getElem?_cons_zero, List.getElem?_cons_succ, Nat.reduceAdd, Nat.reduceSub, Nat.reduceLT, Nat.reduceLeDiff, Nat.le_refl, Nat.zero_add, Nat.add_zero, List.length_cons, List.length_nil, Int32.reduceLT, Int32.reduceToNatClampNeg, Int32.reduceAdd, Int32.reduceSub, Int32.reduceMul, decide_true, aGet, obj]
  refine t8_60 hgo rfl ?_
  refine res_of (u8_61 hgo) ?_
  simp only [eq_self, and_self, true_and, and_true, not_true_eq_false, not_false_eq_true, if_true, if_false, reduceIte, Option.bind_some, List.getElem?_cons_zero, List.getElem?_cons_succ, Nat.reduceAdd, Nat.reduceSub, Nat.reduceLT, Nat.reduceLeDiff, Nat.le_refl, Nat.zero_add, Nat.add_zero, List.length_cons, List.length_nil, Int32.reduceLT, Int32.reduceToNatClampNeg, Int32.reduceAdd, Int32.reduceSub, Int32.reduceMul, decide_true, aGet, obj]
  refine t8_64 hgo ?_
  refine res_of (u8_65 hgo) ?_
  simp only [eq_self, and_self, true_and, and_true, not_true_eq_false, not_false_eq_true, if_true, if_false, reduceIte, Option.bind_some, List.getElem?_cons_zero, List.getElem?_cons_succ, Nat.reduceAdd, Nat.reduceSub, Nat.reduceLT, Nat.reduceLeDiff, Nat.le_refl, Nat.zero_add, Nat.add_zero, List.length_cons, List.length_nil, Int32.reduceLT, Int32.reduceToNatClampNeg, Int32.reduceAdd, Int32.reduceSub, Int32.reduceMul, decide_true, ex_iastore, ast, astL, pI_int, pL_long, pR_ref, arr, isT, isBZ, nar, List.set_cons_zero, List.set_cons_succ]
  refine t8_66 hgo rfl ?_
  refine t8_67 hgo rfl ?_
  refine res_of (u8_68 hgo) ?_
  simp only [eq_self, and_self, true_and, and_true, not_true_eq_false, not_false_eq_true, if_true, if_false, reduceIte, Option.bind_some, List.getElem?_cons_zero, List.getElem?_cons_succ, Nat.reduceAdd, Nat.reduceSub, Nat.reduceLT, Nat.reduceLeDiff, Nat.le_refl, Nat.zero_add, Nat.add_zero, List.length_cons, List.length_nil, Int32.reduceLT, Int32.reduceToNatClampNeg, Int32.reduceAdd, Int32.reduceSub, Int32.reduceMul, decide_true, aGet, obj]
  refine t8_71 hgo ?_
  refine t8_72 hgo ?_
  refine res_of (u8_73 hgo) ?_
  simp only [eq_self, and_self, true_and, and_true, not_true_eq_false, not_false_eq_true, if_true, if_false, reduceIte, Option.bind_some, List.getElem?_cons_zero, List.getElem?_cons_succ, Nat.reduceAdd, Nat.reduceSub, Nat.reduceLT, Nat.reduceLeDiff, Nat.le_refl, Nat.zero_add, Nat.add_zero, List.length_cons, List.length_nil, Int32.reduceLT, Int32.reduceToNatClampNeg, Int32.reduceAdd, Int32.reduceSub, Int32.reduceMul, decide_true, aPut, obj, nr_i, nr_j, nr_a, nr_o, nr_b, nr_b1, nr_b0, ft_i, ft_j, ft_a, ft_o, ft_b, ft_b1, ft_b0, List.set_cons_zero, List.set_cons_succ]
  refine t8_76 hgo ?_
  exact is_r
set_option maxRecDepth 65536 in
set_option maxHeartbeats 4000000 in
theorem add_2 {w0 w1 c0 c1 : Int32} {v c : Int32} : F8 [.ref 0, .int v, .int c] [.inl (0, [.ref 1, .ref 2, .int 2]), .inr (.int, [.int w0, .int w1, .int 0, .int 0]), .inr (.int, [.int c0, .int c1, .int 0, .int 0])] = some (none, [.inl (0, [.ref 1, .ref 2, .int 3]), .inr (.int, [.int w0, .int w1, .int v, .int 0]), .inr (.int, [.int c0, .int c1, .int c, .int 0])]) := by
  refine is_of f8_in fun go hgo => ?_
  refine t8_0 hgo rfl ?_
  refine res_of (u8_1 hgo) ?_
  simp only [eq_self, and_self, true_and, and_true, not_true_eq_false, not_false_eq_true, if_true, if_false, reduceIte, Option.bind_some, List.getElem?_cons_zero, List.getElem?_cons_succ, Nat.reduceAdd, Nat.reduceSub, Nat.reduceLT, Nat.reduceLeDiff, Nat.le_refl, Nat.zero_add, Nat.add_zero, List.length_cons, List.length_nil, Int32.reduceLT, Int32.reduceToNatClampNeg, Int32.reduceAdd, Int32.reduceSub, Int32.reduceMul, decide_true, aGet, obj]
  refine t8_4 hgo rfl ?_
  refine res_of (u8_5 hgo) ?_
  simp only [eq_self, and_self, true_and, and_true, not_true_eq_false, not_false_eq_true, if_true, if_false, reduceIte, Option.bind_some, List.getElem?_cons_zero, List.getElem?_cons_succ, Nat.reduceAdd, Nat.reduceSub, Nat.reduceLT, Nat.reduceLeDiff, Nat.le_refl, Nat.zero_add, Nat.add_zero, List.length_cons, List.length_nil, Int32.reduceLT, Int32.reduceToNatClampNeg, Int32.reduceAdd, Int32.reduceSub, Int32.reduceMul, decide_true, aGet, obj]
  refine res_of (u8_8 hgo) ?_
  simp only [eq_self, and_self, true_and, and_true, not_true_eq_false, not_false_eq_true, if_true, if_false, reduceIte, Option.bind_some, List.getElem?_cons_zero, List.getElem?_cons_succ, Nat.reduceAdd, Nat.reduceSub, Nat.reduceLT, Nat.reduceLeDiff, Nat.le_refl, Nat.zero_add, Nat.add_zero, List.length_cons, List.length_nil, Int32.reduceLT, Int32.reduceToNatClampNeg, Int32.reduceAdd, Int32.reduceSub, Int32.reduceMul, decide_true, pR_ref, arr, ln0, ln1, ln2, ln3, ln4, ln5, ln6, ln7, ln8, ln9, ln10, ln11, ln12, ln13, ln14, ln15, ln16, ln17, ln18, ln19, ln20, ln21, ln22, ln23, ln24, ln25, ln26, ln27, ln28, ln29, ln30, ln31, ln32, ln33, ln34, ln35, ln36]
  refine t8_9f hgo (by decide) ?_
  refine t8_46 hgo rfl ?_
  refine res_of (u8_47 hgo) ?_
  simp only [eq_self, and_self, true_and, and_true, not_true_eq_false, not_false_eq_true, if_true, if_false, reduceIte, Option.bind_some, List.getElem?_cons_zero, List.getElem?_cons_succ, Nat.reduceAdd, Nat.reduceSub, Nat.reduceLT, Nat.reduceLeDiff, Nat.le_refl, Nat.zero_add, Nat.add_zero, List.length_cons, List.length_nil, Int32.reduceLT, Int32.reduceToNatClampNeg, Int32.reduceAdd, Int32.reduceSub, Int32.reduceMul, decide_true, aGet, obj]
  refine t8_50 hgo rfl ?_
  refine res_of (u8_51 hgo) ?_
  simp only [eq_self, and_self, true_and, and_true, not_true_eq_false, not_false_eq_true, if_true, if_false, reduceIte, Option.bind_some, List.getElem?_cons_zero, List.getElem?_cons_succ, Nat.reduceAdd, Nat.reduceSub, Nat.reduceLT, Nat.reduceLeDiff, Nat.le_refl, Nat.zero_add, Nat.add_zero, List.length_cons, List.length_nil, Int32.reduceLT, Int32.reduceToNatClampNeg, Int32.reduceAdd, Int32.reduceSub, Int32.reduceMul, decide_true, aGet, obj]
  refine t8_54 hgo ?_
  refine res_of (u8_55 hgo) ?_
  simp only [eq_self, and_self, true_and, and_true, not_true_eq_false, not_false_eq_true, if_true, if_false, reduceIte, Option.bind_some, List.getElem?_cons_zero, List.getElem?_cons_succ, Nat.reduceAdd, Nat.reduceSub, Nat.reduceLT, Nat.reduceLeDiff, Nat.le_refl, Nat.zero_add, Nat.add_zero, List.length_cons, List.length_nil, Int32.reduceLT, Int32.reduceToNatClampNeg, Int32.reduceAdd, Int32.reduceSub, Int32.reduceMul, decide_true, ex_iastore, ast, astL, pI_int, pL_long, pR_ref, arr, isT, isBZ, nar, List.set_cons_zero, List.set_cons_succ]
  refine t8_56 hgo rfl ?_
  refine res_of (u8_57 hgo) ?_
  simp only [eq_self, and_self, true_and, and_true, not_true_eq_false, not_false_eq_true, if_true, if_false, reduceIte, Option.bind_some, List.getElem?_cons_zero, List.getElem?_cons_succ, Nat.reduceAdd, Nat.reduceSub, Nat.reduceLT, Nat.reduceLeDiff, Nat.le_refl, Nat.zero_add, Nat.add_zero, List.length_cons, List.length_nil, Int32.reduceLT, Int32.reduceToNatClampNeg, Int32.reduceAdd, Int32.reduceSub, Int32.reduceMul, decide_true, aGet, obj]
  refine t8_60 hgo rfl ?_
  refine res_of (u8_61 hgo) ?_
  simp only [eq_self, and_self, true_and, and_true, not_true_eq_false, not_false_eq_true, if_true, if_false, reduceIte, Option.bind_some, List.getElem?_cons_zero, List.getElem?_cons_succ, Nat.reduceAdd, Nat.reduceSub, Nat.reduceLT, Nat.reduceLeDiff, Nat.le_refl, Nat.zero_add, Nat.add_zero, List.length_cons, List.length_nil, Int32.reduceLT, Int32.reduceToNatClampNeg, Int32.reduceAdd, Int32.reduceSub, Int32.reduceMul, decide_true, aGet, obj]
  refine t8_64 hgo ?_
  refine res_of (u8_65 hgo) ?_
  simp only [eq_self, and_self, true_and, and_true, not_true_eq_false, not_false_eq_true, if_true, if_false, reduceIte, Option.bind_some, List.getElem?_cons_zero, List.getElem?_cons_succ, Nat.reduceAdd, Nat.reduceSub, Nat.reduceLT, Nat.reduceLeDiff, Nat.le_refl, Nat.zero_add, Nat.add_zero, List.length_cons, List.length_nil, Int32.reduceLT, Int32.reduceToNatClampNeg, Int32.reduceAdd, Int32.reduceSub, Int32.reduceMul, decide_true, ex_iastore, ast, astL, pI_int, pL_long, pR_ref, arr, isT, isBZ, nar, List.set_cons_zero, List.set_cons_succ]
  refine t8_66 hgo rfl ?_
  refine t8_67 hgo rfl ?_
  refine res_of (u8_68 hgo) ?_
  simp only [eq_self, and_self, true_and, and_true, not_true_eq_false, not_false_eq_true, if_true, if_false, reduceIte, Option.bind_some, List.getElem?_cons_zero, List.getElem?_cons_succ, Nat.reduceAdd, Nat.reduceSub, Nat.reduceLT, Nat.reduceLeDiff, Nat.le_refl, Nat.zero_add, Nat.add_zero, List.length_cons, List.length_nil, Int32.reduceLT, Int32.reduceToNatClampNeg, Int32.reduceAdd, Int32.reduceSub, Int32.reduceMul, decide_true, aGet, obj]
  refine t8_71 hgo ?_
  refine t8_72 hgo ?_
  refine res_of (u8_73 hgo) ?_
  simp only [eq_self, and_self, true_and, and_true, not_true_eq_false, not_false_eq_true, if_true, if_false, reduceIte, Option.bind_some, List.getElem?_cons_zero, List.getElem?_cons_succ, Nat.reduceAdd, Nat.reduceSub, Nat.reduceLT, Nat.reduceLeDiff, Nat.le_refl, Nat.zero_add, Nat.add_zero, List.length_cons, List.length_nil, Int32.reduceLT, Int32.reduceToNatClampNeg, Int32.reduceAdd, Int32.reduceSub, Int32.reduceMul, decide_true, aPut, obj, nr_i, nr_j, nr_a, nr_o, nr_b, nr_b1, nr_b0, ft_i, ft_j, ft_a, ft_o, ft_b, ft_b1, ft_b0, List.set_cons_zero, List.set_cons_succ]
  refine t8_76 hgo ?_
  exact is_r
set_option maxRecDepth 65536 in
set_option maxHeartbeats 4000000 in
theorem add_3 {w0 w1 w2 c0 c1 c2 : Int32} {v c : Int32} : F8 [.ref 0, .int v, .int c] [.inl (0, [.ref 1, .ref 2, .int 3]), .inr (.int, [.int w0, .int w1, .int w2, .int 0]), .inr (.int, [.int c0, .int c1, .int c2, .int 0])] = some (none, [.inl (0, [.ref 1, .ref 2, .int 4]), .inr (.int, [.int w0, .int w1, .int w2, .int v]), .inr (.int, [.int c0, .int c1, .int c2, .int c])]) := by
  refine is_of f8_in fun go hgo => ?_
  refine t8_0 hgo rfl ?_
  refine res_of (u8_1 hgo) ?_
  simp only [eq_self, and_self, true_and, and_true, not_true_eq_false, not_false_eq_true, if_true, if_false, reduceIte, Option.bind_some, List.getElem?_cons_zero, List.getElem?_cons_succ, Nat.reduceAdd, Nat.reduceSub, Nat.reduceLT, Nat.reduceLeDiff, Nat.le_refl, Nat.zero_add, Nat.add_zero, List.length_cons, List.length_nil, Int32.reduceLT, Int32.reduceToNatClampNeg, Int32.reduceAdd, Int32.reduceSub, Int32.reduceMul, decide_true, aGet, obj]
  refine t8_4 hgo rfl ?_
  refine res_of (u8_5 hgo) ?_
  simp only [eq_self, and_self, true_and, and_true, not_true_eq_false, not_false_eq_true, if_true, if_false, reduceIte, Option.bind_some, List.getElem?_cons_zero, List.getElem?_cons_succ, Nat.reduceAdd, Nat.reduceSub, Nat.reduceLT, Nat.reduceLeDiff, Nat.le_refl, Nat.zero_add, Nat.add_zero, List.length_cons, List.length_nil, Int32.reduceLT, Int32.reduceToNatClampNeg, Int32.reduceAdd, Int32.reduceSub, Int32.reduceMul, decide_true, aGet, obj]
  refine res_of (u8_8 hgo) ?_
  simp only [eq_self, and_self, true_and, and_true, not_true_eq_false, not_false_eq_true, if_true, if_false, reduceIte, Option.bind_some, List.getElem?_cons_zero, List.getElem?_cons_succ, Nat.reduceAdd, Nat.reduceSub, Nat.reduceLT, Nat.reduceLeDiff, Nat.le_refl, Nat.zero_add, Nat.add_zero, List.length_cons, List.length_nil, Int32.reduceLT, Int32.reduceToNatClampNeg, Int32.reduceAdd, Int32.reduceSub, Int32.reduceMul, decide_true, pR_ref, arr, ln0, ln1, ln2, ln3, ln4, ln5, ln6, ln7, ln8, ln9, ln10, ln11, ln12, ln13, ln14, ln15, ln16, ln17, ln18, ln19, ln20, ln21, ln22, ln23, ln24, ln25, ln26, ln27, ln28, ln29, ln30, ln31, ln32, ln33, ln34, ln35, ln36]
  refine t8_9f hgo (by decide) ?_
  refine t8_46 hgo rfl ?_
  refine res_of (u8_47 hgo) ?_
  simp only [eq_self, and_self, true_and, and_true, not_true_eq_false, not_false_eq_true, if_true, if_false, reduceIte, Option.bind_some, List.getElem?_cons_zero, List.getElem?_cons_succ, Nat.reduceAdd, Nat.reduceSub, Nat.reduceLT, Nat.reduceLeDiff, Nat.le_refl, Nat.zero_add, Nat.add_zero, List.length_cons, List.length_nil, Int32.reduceLT, Int32.reduceToNatClampNeg, Int32.reduceAdd, Int32.reduceSub, Int32.reduceMul, decide_true, aGet, obj]
  refine t8_50 hgo rfl ?_
  refine res_of (u8_51 hgo) ?_
  simp only [eq_self, and_self, true_and, and_true, not_true_eq_false, not_false_eq_true, if_true, if_false, reduceIte, Option.bind_some, List.getElem?_cons_zero, List.getElem?_cons_succ, Nat.reduceAdd, Nat.reduceSub, Nat.reduceLT, Nat.reduceLeDiff, Nat.le_refl, Nat.zero_add, Nat.add_zero, List.length_cons, List.length_nil, Int32.reduceLT, Int32.reduceToNatClampNeg, Int32.reduceAdd, Int32.reduceSub, Int32.reduceMul, decide_true, aGet, obj]
  refine t8_54 hgo ?_
  refine res_of (u8_55 hgo) ?_
  simp only [eq_self, and_self, true_and, and_true, not_true_eq_false, not_false_eq_true, if_true, if_false, reduceIte, Option.bind_some, List.getElem?_cons_zero, List.getElem?_cons_succ, Nat.reduceAdd, Nat.reduceSub, Nat.reduceLT, Nat.reduceLeDiff, Nat.le_refl, Nat.zero_add, Nat.add_zero, List.length_cons, List.length_nil, Int32.reduceLT, Int32.reduceToNatClampNeg, Int32.reduceAdd, Int32.reduceSub, Int32.reduceMul, decide_true, ex_iastore, ast, astL, pI_int, pL_long, pR_ref, arr, isT, isBZ, nar, List.set_cons_zero, List.set_cons_succ]
  refine t8_56 hgo rfl ?_
  refine res_of (u8_57 hgo) ?_
  simp only [eq_self, and_self, true_and, and_true, not_true_eq_false, not_false_eq_true, if_true, if_false, reduceIte, Option.bind_some, List.getElem?_cons_zero, List.getElem?_cons_succ, Nat.reduceAdd, Nat.reduceSub, Nat.reduceLT, Nat.reduceLeDiff, Nat.le_refl, Nat.zero_add, Nat.add_zero, List.length_cons, List.length_nil, Int32.reduceLT, Int32.reduceToNatClampNeg, Int32.reduceAdd, Int32.reduceSub, Int32.reduceMul, decide_true, aGet, obj]
  refine t8_60 hgo rfl ?_
  refine res_of (u8_61 hgo) ?_
  simp only [eq_self, and_self, true_and, and_true, not_true_eq_false, not_false_eq_true, if_true, if_false, reduceIte, Option.bind_some, List.getElem?_cons_zero, List.getElem?_cons_succ, Nat.reduceAdd, Nat.reduceSub, Nat.reduceLT, Nat.reduceLeDiff, Nat.le_refl, Nat.zero_add, Nat.add_zero, List.length_cons, List.length_nil, Int32.reduceLT, Int32.reduceToNatClampNeg, Int32.reduceAdd, Int32.reduceSub, Int32.reduceMul, decide_true, aGet, obj]
  refine t8_64 hgo ?_
  refine res_of (u8_65 hgo) ?_
  simp only [eq_self, and_self, true_and, and_true, not_true_eq_false, not_false_eq_true, if_true, if_false, reduceIte, Option.bind_some, List.getElem?_cons_zero, List.getElem?_cons_succ, Nat.reduceAdd, Nat.reduceSub, Nat.reduceLT, Nat.reduceLeDiff, Nat.le_refl, Nat.zero_add, Nat.add_zero, List.length_cons, List.length_nil, Int32.reduceLT, Int32.reduceToNatClampNeg, Int32.reduceAdd, Int32.reduceSub, Int32.reduceMul, decide_true, ex_iastore, ast, astL, pI_int, pL_long, pR_ref, arr, isT, isBZ, nar, List.set_cons_zero, List.set_cons_succ]
  refine t8_66 hgo rfl ?_
  refine t8_67 hgo rfl ?_
  refine res_of (u8_68 hgo) ?_
  simp only [eq_self, and_self, true_and, and_true, not_true_eq_false, not_false_eq_true, if_true, if_false, reduceIte, Option.bind_some, List.getElem?_cons_zero, List.getElem?_cons_succ, Nat.reduceAdd, Nat.reduceSub, Nat.reduceLT, Nat.reduceLeDiff, Nat.le_refl, Nat.zero_add, Nat.add_zero, List.length_cons, List.length_nil, Int32.reduceLT, Int32.reduceToNatClampNeg, Int32.reduceAdd, Int32.reduceSub, Int32.reduceMul, decide_true, aGet, obj]
  refine t8_71 hgo ?_
  refine t8_72 hgo ?_
  refine res_of (u8_73 hgo) ?_
  simp only [eq_self, and_self, true_and, and_true, not_true_eq_false, not_false_eq_true, if_true, if_false, reduceIte, Option.bind_some, List.getElem?_cons_zero, List.getElem?_cons_succ, Nat.reduceAdd, Nat.reduceSub, Nat.reduceLT, Nat.reduceLeDiff, Nat.le_refl, Nat.zero_add, Nat.add_zero, List.length_cons, List.length_nil, Int32.reduceLT, Int32.reduceToNatClampNeg, Int32.reduceAdd, Int32.reduceSub, Int32.reduceMul, decide_true, aPut, obj, nr_i, nr_j, nr_a, nr_o, nr_b, nr_b1, nr_b0, ft_i, ft_j, ft_a, ft_o, ft_b, ft_b1, ft_b0, List.set_cons_zero, List.set_cons_succ]
  refine t8_76 hgo ?_
  exact is_r
set_option maxRecDepth 65536 in
set_option maxHeartbeats 4000000 in
theorem cp_v4 {w0 w1 w2 w3 c0 c1 c2 c3 : Int32} : F3 [.ref 1, .int 8] [.inl (0, [.ref 1, .ref 2, .int 4]), .inr (.int, [.int w0, .int w1, .int w2, .int w3]), .inr (.int, [.int c0, .int c1, .int c2, .int c3])] = some (some (.ref 3), [.inl (0, [.ref 1, .ref 2, .int 4]), .inr (.int, [.int w0, .int w1, .int w2, .int w3]), .inr (.int, [.int c0, .int c1, .int c2, .int c3]), .inr (.int, [.int w0, .int w1, .int w2, .int w3, .int 0, .int 0, .int 0, .int 0])]) := by
  refine is_of f3_in fun go hgo => ?_
  refine t3_0 hgo ?_
  refine t3_1 hgo rfl ?_
  refine res_of (u3_2 hgo) ?_
  simp only [eq_self, and_self, true_and, and_true, not_true_eq_false, not_false_eq_true, if_true, if_false, reduceIte, Option.bind_some, List.getElem?_cons_zero, List.getElem?_cons_succ, Nat.reduceAdd, Nat.reduceSub, Nat.reduceLT, Nat.reduceLeDiff, Nat.le_refl, Nat.zero_add, Nat.add_zero, List.length_cons, List.length_nil, Int32.reduceLT, Int32.reduceToNatClampNeg, Int32.reduceAdd, Int32.reduceSub, Int32.reduceMul, decide_true, pR_ref, arr, ln0, ln1, ln2, ln3, ln4, ln5, ln6, ln7, ln8, ln9, ln10, ln11, ln12, ln13, ln14, ln15, ln16, ln17, ln18, ln19, ln20, ln21, ln22, ln23, ln24, ln25, ln26, ln27, ln28, ln29, ln30, ln31, ln32, ln33, ln34, ln35, ln36, F4_a (x := 4) (y := 8) (by decide)]
  refine t3_3f hgo (by decide) ?_
  refine t3_14 hgo ?_
  refine res_of (u3_15 hgo) ?_
  simp only [eq_self, and_self, true_and, and_true, not_true_eq_false, not_false_eq_true, if_true, if_false, reduceIte, Option.bind_some, List.getElem?_cons_zero, List.getElem?_cons_succ, Nat.reduceAdd, Nat.reduceSub, Nat.reduceLT, Nat.reduceLeDiff, Nat.le_refl, Nat.zero_add, Nat.add_zero, List.length_cons, List.length_nil, Int32.reduceLT, Int32.reduceToNatClampNeg, Int32.reduceAdd, Int32.reduceSub, Int32.reduceMul, decide_true, aArr, List.nil_append, List.cons_append, List.replicate_zero, List.replicate_succ, defaultValue, F4_a (x := 4) (y := 8) (by decide)]
  refine t3_17 hgo rfl rfl ?_
  refine t3_18 hgo rfl ?_
  refine t3_19 hgo ?_
  refine t3_20 hgo rfl ?_
  refine t3_21 hgo ?_
  refine t3_22 hgo rfl ?_
  refine res_of (u3_23 hgo) ?_
  simp only [eq_self, and_self, true_and, and_true, not_true_eq_false, not_false_eq_true, if_true, if_false, reduceIte, Option.bind_some, List.getElem?_cons_zero, List.getElem?_cons_succ, Nat.reduceAdd, Nat.reduceSub, Nat.reduceLT, Nat.reduceLeDiff, Nat.le_refl, Nat.zero_add, Nat.add_zero, List.length_cons, List.length_nil, Int32.reduceLT, Int32.reduceToNatClampNeg, Int32.reduceAdd, Int32.reduceSub, Int32.reduceMul, decide_true, pR_ref, arr, ln0, ln1, ln2, ln3, ln4, ln5, ln6, ln7, ln8, ln9, ln10, ln11, ln12, ln13, ln14, ln15, ln16, ln17, ln18, ln19, ln20, ln21, ln22, ln23, ln24, ln25, ln26, ln27, ln28, ln29, ln30, ln31, ln32, ln33, ln34, ln35, ln36, F4_a (x := 4) (y := 8) (by decide)]
  refine t3_24 hgo ?_
  refine res_of (u3_25 hgo) ?_
  simp only [eq_self, and_self, true_and, and_true, not_true_eq_false, not_false_eq_true, if_true, if_false, reduceIte, Option.bind_some, List.getElem?_cons_zero, List.getElem?_cons_succ, Nat.reduceAdd, Nat.reduceSub, Nat.reduceLT, Nat.reduceLeDiff, Nat.le_refl, Nat.zero_add, Nat.add_zero, List.length_cons, List.length_nil, Int32.reduceLT, Int32.reduceToNatClampNeg, Int32.reduceAdd, Int32.reduceSub, Int32.reduceMul, decide_true, aCall, aRecv, aObj, obj, List.take_succ_cons, List.take_zero, List.drop_succ_cons, List.drop_zero, List.reverse_cons, List.reverse_nil, List.nil_append, List.cons_append, List.append_nil, List.map_cons, List.map_nil, List.sum_cons, List.sum_nil, cat_int, cat_long, cat_ref, cat_null, Option.toList_some, Option.toList_none, F4_a (x := 4) (y := 8) (by decide)]
  refine res_of (u3_28 hgo) ?_
  simp only [nr_i, nr_j, nr_a, nr_o, nr_b, nr_b1, nr_b0, ft_i, ft_j, ft_a, ft_o, ft_b, ft_b1, ft_b0, rV_nil, b_1, b_0, b_1r, b_0r, b_bb, b_and, i_10, i_01, eq_self, iff_self, not_true_eq_false, not_false_eq_true, ite_not, cat_int, cat_long, cat_ref, cat_null, and11, and01, Nat.reduceAdd, Nat.reduceSub, Nat.reduceMul, Nat.reduceLT, Nat.reduceLeDiff, Nat.reduceEqDiff, Int32.reduceAdd, Int32.reduceSub, Int32.reduceMul, Int32.reduceMod, Int32.reduceLT, Int32.reduceLE, Int32.reduceToNatClampNeg, Int64.reduceAdd, Int64.reduceSub, Int64.reduceLT, Nat.le_refl, Nat.zero_add, Nat.add_zero, and_self, Option.bind_some, Option.bind_none, gI, gL, gA, st1, st2, pI_int, pL_long, pA_ref, pA_null, pR_ref, p1_int, p1_ref, p1_null, ex_ishl, ex_ishr, ex_iushr, ex_idiv, ex_irem, ex_ineg, ex_i2b, ex_i2c, ex_i2s, ex_i2l, ex_l2i, ex_lneg, ex_lshl, ex_lshr, ex_lushr, ex_ldiv, ex_lrem, ex_lcmp, ex_dup, ex_pop, ex_dup_x1, ex_dup2, ex_ifnull, ex_ifnonnull, ex_if_acmp, ex_arraylength, ex_iaload, ex_baload, ex_caload, ex_laload, ex_aaload, ex_iastore, ex_bastore, ex_castore, ex_lastore, ex_ldc, ex_ldc_w, ex_ldc2_w, ex_getfield, ex_putfield, ex_getstatic, ex_new, ex_invokestatic, ex_invokespecial, ex_invokevirtual, ex_checkcast, ex_instanceof, ex_anewarray, ex_newarray, ex_ireturn, ex_lreturn, ex_areturn, ex_return, br_d, br_n, br_t, br_f, spc, look, aI, aJ, aGet, aPut, aNew, aArr, aObj, aCall, aRecv, obj, arr, ald, ast, astL, isT, isBZ, atn, refEq, acV, List.getElem?_cons_zero, List.getElem?_cons_succ, List.set_cons_zero, List.set_cons_succ, List.take_succ_cons, List.take_zero, List.drop_succ_cons, List.drop_zero, List.reverse_cons, List.reverse_nil, List.nil_append, List.cons_append, List.map_cons, List.map_nil, List.sum_cons, List.sum_nil, List.length_cons, List.length_nil, Option.toList_some, Option.toList_none, List.append_nil, true_and, and_true, not_false_eq_true, decide_true, decide_false, Bool.not_true, Bool.not_false, if_true, if_false, reduceIte, Option.map_some, nar, defaultValue, List.replicate_zero, List.replicate_succ, ln0, ln1, ln2, ln3, ln4, ln5, ln6, ln7, ln8, ln9, ln10, ln11, ln12, ln13, ln14, ln15, ln16, ln17, ln18, ln19, ln20, ln21, ln22, ln23, ln24, ln25, ln26, ln27, ln28, ln29, ln30, ln31, ln32, ln33, ln34, ln35, ln36, aSta, aCast, aClone, aCopy, F4_a (x := 4) (y := 8) (by decide)]
  refine t3_31 hgo rfl ?_
  refine t3_32 hgo rfl ?_
  exact is_r
set_option maxRecDepth 65536 in
set_option maxHeartbeats 4000000 in
theorem cp_c4 {w0 w1 w2 w3 c0 c1 c2 c3 : Int32} : F3 [.ref 2, .int 8] [.inl (0, [.ref 3, .ref 2, .int 4]), .inr (.int, [.int w0, .int w1, .int w2, .int w3]), .inr (.int, [.int c0, .int c1, .int c2, .int c3]), .inr (.int, [.int w0, .int w1, .int w2, .int w3, .int 0, .int 0, .int 0, .int 0])] = some (some (.ref 4), [.inl (0, [.ref 3, .ref 2, .int 4]), .inr (.int, [.int w0, .int w1, .int w2, .int w3]), .inr (.int, [.int c0, .int c1, .int c2, .int c3]), .inr (.int, [.int w0, .int w1, .int w2, .int w3, .int 0, .int 0, .int 0, .int 0]), .inr (.int, [.int c0, .int c1, .int c2, .int c3, .int 0, .int 0, .int 0, .int 0])]) := by
  refine is_of f3_in fun go hgo => ?_
  refine t3_0 hgo ?_
  refine t3_1 hgo rfl ?_
  refine res_of (u3_2 hgo) ?_
  simp only [eq_self, and_self, true_and, and_true, not_true_eq_false, not_false_eq_true, if_true, if_false, reduceIte, Option.bind_some, List.getElem?_cons_zero, List.getElem?_cons_succ, Nat.reduceAdd, Nat.reduceSub, Nat.reduceLT, Nat.reduceLeDiff, Nat.le_refl, Nat.zero_add, Nat.add_zero, List.length_cons, List.length_nil, Int32.reduceLT, Int32.reduceToNatClampNeg, Int32.reduceAdd, Int32.reduceSub, Int32.reduceMul, decide_true, pR_ref, arr, ln0, ln1, ln2, ln3, ln4, ln5, ln6, ln7, ln8, ln9, ln10, ln11, ln12, ln13, ln14, ln15, ln16, ln17, ln18, ln19, ln20, ln21, ln22, ln23, ln24, ln25, ln26, ln27, ln28, ln29, ln30, ln31, ln32, ln33, ln34, ln35, ln36, F4_a (x := 4) (y := 8) (by decide)]
  refine t3_3f hgo (by decide) ?_
  refine t3_14 hgo ?_
  refine res_of (u3_15 hgo) ?_
  simp only [eq_self, and_self, true_and, and_true, not_true_eq_false, not_false_eq_true, if_true, if_false, reduceIte, Option.bind_some, List.getElem?_cons_zero, List.getElem?_cons_succ, Nat.reduceAdd, Nat.reduceSub, Nat.reduceLT, Nat.reduceLeDiff, Nat.le_refl, Nat.zero_add, Nat.add_zero, List.length_cons, List.length_nil, Int32.reduceLT, Int32.reduceToNatClampNeg, Int32.reduceAdd, Int32.reduceSub, Int32.reduceMul, decide_true, aArr, List.nil_append, List.cons_append, List.replicate_zero, List.replicate_succ, defaultValue, F4_a (x := 4) (y := 8) (by decide)]
  refine t3_17 hgo rfl rfl ?_
  refine t3_18 hgo rfl ?_
  refine t3_19 hgo ?_
  refine t3_20 hgo rfl ?_
  refine t3_21 hgo ?_
  refine t3_22 hgo rfl ?_
  refine res_of (u3_23 hgo) ?_
  simp only [eq_self, and_self, true_and, and_true, not_true_eq_false, not_false_eq_true, if_true, if_false, reduceIte, Option.bind_some, List.getElem?_cons_zero, List.getElem?_cons_succ, Nat.reduceAdd, Nat.reduceSub, Nat.reduceLT, Nat.reduceLeDiff, Nat.le_refl, Nat.zero_add, Nat.add_zero, List.length_cons, List.length_nil, Int32.reduceLT, Int32.reduceToNatClampNeg, Int32.reduceAdd, Int32.reduceSub, Int32.reduceMul, decide_true, pR_ref, arr, ln0, ln1, ln2, ln3, ln4, ln5, ln6, ln7, ln8, ln9, ln10, ln11, ln12, ln13, ln14, ln15, ln16, ln17, ln18, ln19, ln20, ln21, ln22, ln23, ln24, ln25, ln26, ln27, ln28, ln29, ln30, ln31, ln32, ln33, ln34, ln35, ln36, F4_a (x := 4) (y := 8) (by decide)]
  refine t3_24 hgo ?_
  refine res_of (u3_25 hgo) ?_
  simp only [eq_self, and_self, true_and, and_true, not_true_eq_false, not_false_eq_true, if_true, if_false, reduceIte, Option.bind_some, List.getElem?_cons_zero, List.getElem?_cons_succ, Nat.reduceAdd, Nat.reduceSub, Nat.reduceLT, Nat.reduceLeDiff, Nat.le_refl, Nat.zero_add, Nat.add_zero, List.length_cons, List.length_nil, Int32.reduceLT, Int32.reduceToNatClampNeg, Int32.reduceAdd, Int32.reduceSub, Int32.reduceMul, decide_true, aCall, aRecv, aObj, obj, List.take_succ_cons, List.take_zero, List.drop_succ_cons, List.drop_zero, List.reverse_cons, List.reverse_nil, List.nil_append, List.cons_append, List.append_nil, List.map_cons, List.map_nil, List.sum_cons, List.sum_nil, cat_int, cat_long, cat_ref, cat_null, Option.toList_some, Option.toList_none, F4_a (x := 4) (y := 8) (by decide)]
  refine res_of (u3_28 hgo) ?_
  simp only [nr_i, nr_j, nr_a, nr_o, nr_b, nr_b1, nr_b0, ft_i, ft_j, ft_a, ft_o, ft_b, ft_b1, ft_b0, rV_nil, b_1, b_0, b_1r, b_0r, b_bb, b_and, i_10, i_01, eq_self, iff_self, not_true_eq_false, not_false_eq_true, ite_not, cat_int, cat_long, cat_ref, cat_null, and11, and01, Nat.reduceAdd, Nat.reduceSub, Nat.reduceMul, Nat.reduceLT, Nat.reduceLeDiff, Nat.reduceEqDiff, Int32.reduceAdd, Int32.reduceSub, Int32.reduceMul, Int32.reduceMod, Int32.reduceLT, Int32.reduceLE, Int32.reduceToNatClampNeg, Int64.reduceAdd, Int64.reduceSub, Int64.reduceLT, Nat.le_refl, Nat.zero_add, Nat.add_zero, and_self, Option.bind_some, Option.bind_none, gI, gL, gA, st1, st2, pI_int, pL_long, pA_ref, pA_null, pR_ref, p1_int, p1_ref, p1_null, ex_ishl, ex_ishr, ex_iushr, ex_idiv, ex_irem, ex_ineg, ex_i2b, ex_i2c, ex_i2s, ex_i2l, ex_l2i, ex_lneg, ex_lshl, ex_lshr, ex_lushr, ex_ldiv, ex_lrem, ex_lcmp, ex_dup, ex_pop, ex_dup_x1, ex_dup2, ex_ifnull, ex_ifnonnull, ex_if_acmp, ex_arraylength, ex_iaload, ex_baload, ex_caload, ex_laload, ex_aaload, ex_iastore, ex_bastore, ex_castore, ex_lastore, ex_ldc, ex_ldc_w, ex_ldc2_w, ex_getfield, ex_putfield, ex_getstatic, ex_new, ex_invokestatic, ex_invokespecial, ex_invokevirtual, ex_checkcast, ex_instanceof, ex_anewarray, ex_newarray, ex_ireturn, ex_lreturn, ex_areturn, ex_return, br_d, br_n, br_t, br_f, spc, look, aI, aJ, aGet, aPut, aNew, aArr, aObj, aCall, aRecv, obj, arr, ald, ast, astL, isT, isBZ, atn, refEq, acV, List.getElem?_cons_zero, List.getElem?_cons_succ, List.set_cons_zero, List.set_cons_succ, List.take_succ_cons, List.take_zero, List.drop_succ_cons, List.drop_zero, List.reverse_cons, List.reverse_nil, List.nil_append, List.cons_append, List.map_cons, List.map_nil, List.sum_cons, List.sum_nil, List.length_cons, List.length_nil, Option.toList_some, Option.toList_none, List.append_nil, true_and, and_true, not_false_eq_true, decide_true, decide_false, Bool.not_true, Bool.not_false, if_true, if_false, reduceIte, Option.map_some, nar, defaultValue, List.replicate_zero, List.replicate_succ, ln0, ln1, ln2, ln3, ln4, ln5, ln6, ln7, ln8, ln9, ln10, ln11, ln12, ln13, ln14, ln15, ln16, ln17, ln18, ln19, ln20, ln21, ln22, ln23, ln24, ln25, ln26, ln27, ln28, ln29, ln30, ln31, ln32, ln33, ln34, ln35, ln36, aSta, aCast, aClone, aCopy, F4_a (x := 4) (y := 8) (by decide)]
  refine t3_31 hgo rfl ?_
  refine t3_32 hgo rfl ?_
  exact is_r
set_option maxRecDepth 65536 in
set_option maxHeartbeats 4000000 in
theorem add_4 {w0 w1 w2 w3 c0 c1 c2 c3 : Int32} {v c : Int32} : F8 [.ref 0, .int v, .int c] [.inl (0, [.ref 1, .ref 2, .int 4]), .inr (.int, [.int w0, .int w1, .int w2, .int w3]), .inr (.int, [.int c0, .int c1, .int c2, .int c3])] = some (none, [.inl (0, [.ref 3, .ref 4, .int 5]), .inr (.int, [.int w0, .int w1, .int w2, .int w3]), .inr (.int, [.int c0, .int c1, .int c2, .int c3]), .inr (.int, [.int w0, .int w1, .int w2, .int w3, .int v, .int 0, .int 0, .int 0]), .inr (.int, [.int c0, .int c1, .int c2, .int c3, .int c, .int 0, .int 0, .int 0])]) := by
  refine is_of f8_in fun go hgo => ?_
  refine t8_0 hgo rfl ?_
  refine res_of (u8_1 hgo) ?_
  simp only [eq_self, and_self, true_and, and_true, not_true_eq_false, not_false_eq_true, if_true, if_false, reduceIte, Option.bind_some, List.getElem?_cons_zero, List.getElem?_cons_succ, Nat.reduceAdd, Nat.reduceSub, Nat.reduceLT, Nat.reduceLeDiff, Nat.le_refl, Nat.zero_add, Nat.add_zero, List.length_cons, List.length_nil, Int32.reduceLT, Int32.reduceToNatClampNeg, Int32.reduceAdd, Int32.reduceSub, Int32.reduceMul, decide_true, aGet, obj, cp_v4, cp_c4]
  refine t8_4 hgo rfl ?_
  refine res_of (u8_5 hgo) ?_
  simp only [eq_self, and_self, true_and, and_true, not_true_eq_false, not_false_eq_true, if_true, if_false, reduceIte, Option.bind_some, List.getElem?_cons_zero, List.getElem?_cons_succ, Nat.reduceAdd, Nat.reduceSub, Nat.reduceLT, Nat.reduceLeDiff, Nat.le_refl, Nat.zero_add, Nat.add_zero, List.length_cons, List.length_nil, Int32.reduceLT, Int32.reduceToNatClampNeg, Int32.reduceAdd, Int32.reduceSub, Int32.reduceMul, decide_true, aGet, obj, cp_v4, cp_c4]
  refine res_of (u8_8 hgo) ?_
  simp only [eq_self, and_self, true_and, and_true, not_true_eq_false, not_false_eq_true, if_true, if_false, reduceIte, Option.bind_some, List.getElem?_cons_zero, List.getElem?_cons_succ, Nat.reduceAdd, Nat.reduceSub, Nat.reduceLT, Nat.reduceLeDiff, Nat.le_refl, Nat.zero_add, Nat.add_zero, List.length_cons, List.length_nil, Int32.reduceLT, Int32.reduceToNatClampNeg, Int32.reduceAdd, Int32.reduceSub, Int32.reduceMul, decide_true, pR_ref, arr, ln0, ln1, ln2, ln3, ln4, ln5, ln6, ln7, ln8, ln9, ln10, ln11, ln12, ln13, ln14, ln15, ln16, ln17, ln18, ln19, ln20, ln21, ln22, ln23, ln24, ln25, ln26, ln27, ln28, ln29, ln30, ln31, ln32, ln33, ln34, ln35, ln36, cp_v4, cp_c4]
  refine t8_9t hgo rfl ?_
  refine t8_12 hgo rfl ?_
  refine t8_13 hgo rfl ?_
  refine res_of (u8_14 hgo) ?_
  simp only [eq_self, and_self, true_and, and_true, not_true_eq_false, not_false_eq_true, if_true, if_false, reduceIte, Option.bind_some, List.getElem?_cons_zero, List.getElem?_cons_succ, Nat.reduceAdd, Nat.reduceSub, Nat.reduceLT, Nat.reduceLeDiff, Nat.le_refl, Nat.zero_add, Nat.add_zero, List.length_cons, List.length_nil, Int32.reduceLT, Int32.reduceToNatClampNeg, Int32.reduceAdd, Int32.reduceSub, Int32.reduceMul, decide_true, aGet, obj, cp_v4, cp_c4]
  refine t8_17 hgo rfl ?_
  refine res_of (u8_18 hgo) ?_
  simp only [eq_self, and_self, true_and, and_true, not_true_eq_false, not_false_eq_true, if_true, if_false, reduceIte, Option.bind_some, List.getElem?_cons_zero, List.getElem?_cons_succ, Nat.reduceAdd, Nat.reduceSub, Nat.reduceLT, Nat.reduceLeDiff, Nat.le_refl, Nat.zero_add, Nat.add_zero, List.length_cons, List.length_nil, Int32.reduceLT, Int32.reduceToNatClampNeg, Int32.reduceAdd, Int32.reduceSub, Int32.reduceMul, decide_true, aGet, obj, cp_v4, cp_c4]
  refine t8_21 hgo ?_
  refine t8_22 hgo ?_
  refine res_of (u8_23 hgo) ?_
  simp only [eq_self, and_self, true_and, and_true, not_true_eq_false, not_false_eq_true, if_true, if_false, reduceIte, Option.bind_some, List.getElem?_cons_zero, List.getElem?_cons_succ, Nat.reduceAdd, Nat.reduceSub, Nat.reduceLT, Nat.reduceLeDiff, Nat.le_refl, Nat.zero_add, Nat.add_zero, List.length_cons, List.length_nil, Int32.reduceLT, Int32.reduceToNatClampNeg, Int32.reduceAdd, Int32.reduceSub, Int32.reduceMul, decide_true, aCall, aRecv, aObj, obj, List.take_succ_cons, List.take_zero, List.drop_succ_cons, List.drop_zero, List.reverse_cons, List.reverse_nil, List.nil_append, List.cons_append, List.append_nil, List.map_cons, List.map_nil, List.sum_cons, List.sum_nil, cat_int, cat_long, cat_ref, cat_null, Option.toList_some, Option.toList_none, cp_v4, cp_c4]
  refine res_of (u8_26 hgo) ?_
  simp only [eq_self, and_self, true_and, and_true, not_true_eq_false, not_false_eq_true, if_true, if_false, reduceIte, Option.bind_some, List.getElem?_cons_zero, List.getElem?_cons_succ, Nat.reduceAdd, Nat.reduceSub, Nat.reduceLT, Nat.reduceLeDiff, Nat.le_refl, Nat.zero_add, Nat.add_zero, List.length_cons, List.length_nil, Int32.reduceLT, Int32.reduceToNatClampNeg, Int32.reduceAdd, Int32.reduceSub, Int32.reduceMul, decide_true, aPut, obj, nr_i, nr_j, nr_a, nr_o, nr_b, nr_b1, nr_b0, ft_i, ft_j, ft_a, ft_o, ft_b, ft_b1, ft_b0, List.set_cons_zero, List.set_cons_succ, cp_v4, cp_c4]
  refine t8_29 hgo rfl ?_
  refine t8_30 hgo rfl ?_
  refine res_of (u8_31 hgo) ?_
  simp only [eq_self, and_self, true_and, and_true, not_true_eq_false, not_false_eq_true, if_true, if_false, reduceIte, Option.bind_some, List.getElem?_cons_zero, List.getElem?_cons_succ, Nat.reduceAdd, Nat.reduceSub, Nat.reduceLT, Nat.reduceLeDiff, Nat.le_refl, Nat.zero_add, Nat.add_zero, List.length_cons, List.length_nil, Int32.reduceLT, Int32.reduceToNatClampNeg, Int32.reduceAdd, Int32.reduceSub, Int32.reduceMul, decide_true, aGet, obj, cp_v4, cp_c4]
  refine t8_34 hgo rfl ?_
  refine res_of (u8_35 hgo) ?_
  simp only [eq_self, and_self, true_and, and_true, not_true_eq_false, not_false_eq_true, if_true, if_false, reduceIte, Option.bind_some, List.getElem?_cons_zero, List.getElem?_cons_succ, Nat.reduceAdd, Nat.reduceSub, Nat.reduceLT, Nat.reduceLeDiff, Nat.le_refl, Nat.zero_add, Nat.add_zero, List.length_cons, List.length_nil, Int32.reduceLT, Int32.reduceToNatClampNeg, Int32.reduceAdd, Int32.reduceSub, Int32.reduceMul, decide_true, aGet, obj, cp_v4, cp_c4]
  refine t8_38 hgo ?_
  refine t8_39 hgo ?_
  refine res_of (u8_40 hgo) ?_
  simp only [eq_self, and_self, true_and, and_true, not_true_eq_false, not_false_eq_true, if_true, if_false, reduceIte, Option.bind_some, List.getElem?_cons_zero, List.getElem?_cons_succ, Nat.reduceAdd, Nat.reduceSub, Nat.reduceLT, Nat.reduceLeDiff, Nat.le_refl, Nat.zero_add, Nat.add_zero, List.length_cons, List.length_nil, Int32.reduceLT, Int32.reduceToNatClampNeg, Int32.reduceAdd, Int32.reduceSub, Int32.reduceMul, decide_true, aCall, aRecv, aObj, obj, List.take_succ_cons, List.take_zero, List.drop_succ_cons, List.drop_zero, List.reverse_cons, List.reverse_nil, List.nil_append, List.cons_append, List.append_nil, List.map_cons, List.map_nil, List.sum_cons, List.sum_nil, cat_int, cat_long, cat_ref, cat_null, Option.toList_some, Option.toList_none, cp_v4, cp_c4]
  refine res_of (u8_43 hgo) ?_
  simp only [eq_self, and_self, true_and, and_true, not_true_eq_false, not_false_eq_true, if_true, if_false, reduceIte, Option.bind_some, List.getElem?_cons_zero, List.getElem?_cons_succ, Nat.reduceAdd, Nat.reduceSub, Nat.reduceLT, Nat.reduceLeDiff, Nat.le_refl, Nat.zero_add, Nat.add_zero, List.length_cons, List.length_nil, Int32.reduceLT, Int32.reduceToNatClampNeg, Int32.reduceAdd, Int32.reduceSub, Int32.reduceMul, decide_true, aPut, obj, nr_i, nr_j, nr_a, nr_o, nr_b, nr_b1, nr_b0, ft_i, ft_j, ft_a, ft_o, ft_b, ft_b1, ft_b0, List.set_cons_zero, List.set_cons_succ, cp_v4, cp_c4]
  refine t8_46 hgo rfl ?_
  refine res_of (u8_47 hgo) ?_
  simp only [eq_self, and_self, true_and, and_true, not_true_eq_false, not_false_eq_true, if_true, if_false, reduceIte, Option.bind_some, List.getElem?_cons_zero, List.getElem?_cons_succ, Nat.reduceAdd, Nat.reduceSub, Nat.reduceLT, Nat.reduceLeDiff, Nat.le_refl, Nat.zero_add, Nat.add_zero, List.length_cons, List.length_nil, Int32.reduceLT, Int32.reduceToNatClampNeg, Int32.reduceAdd, Int32.reduceSub, Int32.reduceMul, decide_true, aGet, obj, cp_v4, cp_c4]
  refine t8_50 hgo rfl ?_
  refine res_of (u8_51 hgo) ?_
  simp only [eq_self, and_self, true_and, and_true, not_true_eq_false, not_false_eq_true, if_true, if_false, reduceIte, Option.bind_some, List.getElem?_cons_zero, List.getElem?_cons_succ, Nat.reduceAdd, Nat.reduceSub, Nat.reduceLT, Nat.reduceLeDiff, Nat.le_refl, Nat.zero_add, Nat.add_zero, List.length_cons, List.length_nil, Int32.reduceLT, Int32.reduceToNatClampNeg, Int32.reduceAdd, Int32.reduceSub, Int32.reduceMul, decide_true, aGet, obj, cp_v4, cp_c4]
  refine t8_54 hgo ?_
  refine res_of (u8_55 hgo) ?_
  simp only [eq_self, and_self, true_and, and_true, not_true_eq_false, not_false_eq_true, if_true, if_false, reduceIte, Option.bind_some, List.getElem?_cons_zero, List.getElem?_cons_succ, Nat.reduceAdd, Nat.reduceSub, Nat.reduceLT, Nat.reduceLeDiff, Nat.le_refl, Nat.zero_add, Nat.add_zero, List.length_cons, List.length_nil, Int32.reduceLT, Int32.reduceToNatClampNeg, Int32.reduceAdd, Int32.reduceSub, Int32.reduceMul, decide_true, ex_iastore, ast, astL, pI_int, pL_long, pR_ref, arr, isT, isBZ, nar, List.set_cons_zero, List.set_cons_succ, cp_v4, cp_c4]
  refine t8_56 hgo rfl ?_
  refine res_of (u8_57 hgo) ?_
  simp only [eq_self, and_self, true_and, and_true, not_true_eq_false, not_false_eq_true, if_true, if_false, reduceIte, Option.bind_some, List.getElem?_cons_zero, List.getElem?_cons_succ, Nat.reduceAdd, Nat.reduceSub, Nat.reduceLT, Nat.reduceLeDiff, Nat.le_refl, Nat.zero_add, Nat.add_zero, List.length_cons, List.length_nil, Int32.reduceLT, Int32.reduceToNatClampNeg, Int32.reduceAdd, Int32.reduceSub, Int32.reduceMul, decide_true, aGet, obj, cp_v4, cp_c4]
  refine t8_60 hgo rfl ?_
  refine res_of (u8_61 hgo) ?_
  simp only [eq_self, and_self, true_and, and_true, not_true_eq_false, not_false_eq_true, if_true, if_false, reduceIte, Option.bind_some, List.getElem?_cons_zero, List.getElem?_cons_succ, Nat.reduceAdd, Nat.reduceSub, Nat.reduceLT, Nat.reduceLeDiff, Nat.le_refl, Nat.zero_add, Nat.add_zero, List.length_cons, List.length_nil, Int32.reduceLT, Int32.reduceToNatClampNeg, Int32.reduceAdd, Int32.reduceSub, Int32.reduceMul, decide_true, aGet, obj, cp_v4, cp_c4]
  refine t8_64 hgo ?_
  refine res_of (u8_65 hgo) ?_
  simp only [eq_self, and_self, true_and, and_true, not_true_eq_false, not_false_eq_true, if_true, if_false, reduceIte, Option.bind_some, List.getElem?_cons_zero, List.getElem?_cons_succ, Nat.reduceAdd, Nat.reduceSub, Nat.reduceLT, Nat.reduceLeDiff, Nat.le_refl, Nat.zero_add, Nat.add_zero, List.length_cons, List.length_nil, Int32.reduceLT, Int32.reduceToNatClampNeg, Int32.reduceAdd, Int32.reduceSub, Int32.reduceMul, decide_true, ex_iastore, ast, astL, pI_int, pL_long, pR_ref, arr, isT, isBZ, nar, List.set_cons_zero, List.set_cons_succ, cp_v4, cp_c4]
  refine t8_66 hgo rfl ?_
  refine t8_67 hgo rfl ?_
  refine res_of (u8_68 hgo) ?_
  simp only [eq_self, and_self, true_and, and_true, not_true_eq_false, not_false_eq_true, if_true, if_false, reduceIte, Option.bind_some, List.getElem?_cons_zero, List.getElem?_cons_succ, Nat.reduceAdd, Nat.reduceSub, Nat.reduceLT, Nat.reduceLeDiff, Nat.le_refl, Nat.zero_add, Nat.add_zero, List.length_cons, List.length_nil, Int32.reduceLT, Int32.reduceToNatClampNeg, Int32.reduceAdd, Int32.reduceSub, Int32.reduceMul, decide_true, aGet, obj, cp_v4, cp_c4]
  refine t8_71 hgo ?_
  refine t8_72 hgo ?_
  refine res_of (u8_73 hgo) ?_
  simp only [eq_self, and_self, true_and, and_true, not_true_eq_false, not_false_eq_true, if_true, if_false, reduceIte, Option.bind_some, List.getElem?_cons_zero, List.getElem?_cons_succ, Nat.reduceAdd, Nat.reduceSub, Nat.reduceLT, Nat.reduceLeDiff, Nat.le_refl, Nat.zero_add, Nat.add_zero, List.length_cons, List.length_nil, Int32.reduceLT, Int32.reduceToNatClampNeg, Int32.reduceAdd, Int32.reduceSub, Int32.reduceMul, decide_true, aPut, obj, nr_i, nr_j, nr_a, nr_o, nr_b, nr_b1, nr_b0, ft_i, ft_j, ft_a, ft_o, ft_b, ft_b1, ft_b0, List.set_cons_zero, List.set_cons_succ, cp_v4, cp_c4]
  refine t8_76 hgo ?_
  exact is_r
set_option maxRecDepth 65536 in
set_option maxHeartbeats 4000000 in
theorem bv_0 : F3 [.ref 1, .int 0] [.inl (0, [.ref 1, .ref 2, .int 0]), .inr (.int, [.int 0, .int 0, .int 0, .int 0]), .inr (.int, [.int 0, .int 0, .int 0, .int 0]), .inl (1, [.null, .null])] = some (some (.ref 4), [.inl (0, [.ref 1, .ref 2, .int 0]), .inr (.int, [.int 0, .int 0, .int 0, .int 0]), .inr (.int, [.int 0, .int 0, .int 0, .int 0]), .inl (1, [.null, .null]), .inr (.int, [])]) := by
  refine is_of f3_in fun go hgo => ?_
  refine t3_0 hgo ?_
  refine t3_1 hgo rfl ?_
  refine res_of (u3_2 hgo) ?_
  simp only [eq_self, and_self, true_and, and_true, not_true_eq_false, not_false_eq_true, if_true, if_false, reduceIte, Option.bind_some, List.getElem?_cons_zero, List.getElem?_cons_succ, Nat.reduceAdd, Nat.reduceSub, Nat.reduceLT, Nat.reduceLeDiff, Nat.le_refl, Nat.zero_add, Nat.add_zero, List.length_cons, List.length_nil, Int32.reduceLT, Int32.reduceToNatClampNeg, Int32.reduceAdd, Int32.reduceSub, Int32.reduceMul, decide_true, pR_ref, arr, ln0, ln1, ln2, ln3, ln4, ln5, ln6, ln7, ln8, ln9, ln10, ln11, ln12, ln13, ln14, ln15, ln16, ln17, ln18, ln19, ln20, ln21, ln22, ln23, ln24, ln25, ln26, ln27, ln28, ln29, ln30, ln31, ln32, ln33, ln34, ln35, ln36, F4_b (x := 4) (y := 0) (by decide)]
  refine t3_3f hgo (by decide) ?_
  refine t3_14 hgo ?_
  refine res_of (u3_15 hgo) ?_
  simp only [eq_self, and_self, true_and, and_true, not_true_eq_false, not_false_eq_true, if_true, if_false, reduceIte, Option.bind_some, List.getElem?_cons_zero, List.getElem?_cons_succ, Nat.reduceAdd, Nat.reduceSub, Nat.reduceLT, Nat.reduceLeDiff, Nat.le_refl, Nat.zero_add, Nat.add_zero, List.length_cons, List.length_nil, Int32.reduceLT, Int32.reduceToNatClampNeg, Int32.reduceAdd, Int32.reduceSub, Int32.reduceMul, decide_true, aArr, List.nil_append, List.cons_append, List.replicate_zero, List.replicate_succ, defaultValue, F4_b (x := 4) (y := 0) (by decide)]
  refine t3_17 hgo rfl rfl ?_
  refine t3_18 hgo rfl ?_
  refine t3_19 hgo ?_
  refine t3_20 hgo rfl ?_
  refine t3_21 hgo ?_
  refine t3_22 hgo rfl ?_
  refine res_of (u3_23 hgo) ?_
  simp only [eq_self, and_self, true_and, and_true, not_true_eq_false, not_false_eq_true, if_true, if_false, reduceIte, Option.bind_some, List.getElem?_cons_zero, List.getElem?_cons_succ, Nat.reduceAdd, Nat.reduceSub, Nat.reduceLT, Nat.reduceLeDiff, Nat.le_refl, Nat.zero_add, Nat.add_zero, List.length_cons, List.length_nil, Int32.reduceLT, Int32.reduceToNatClampNeg, Int32.reduceAdd, Int32.reduceSub, Int32.reduceMul, decide_true, pR_ref, arr, ln0, ln1, ln2, ln3, ln4, ln5, ln6, ln7, ln8, ln9, ln10, ln11, ln12, ln13, ln14, ln15, ln16, ln17, ln18, ln19, ln20, ln21, ln22, ln23, ln24, ln25, ln26, ln27, ln28, ln29, ln30, ln31, ln32, ln33, ln34, ln35, ln36, F4_b (x := 4) (y := 0) (by decide)]
  refine t3_24 hgo ?_
  refine res_of (u3_25 hgo) ?_
  simp only [eq_self, and_self, true_and, and_true, not_true_eq_false, not_false_eq_true, if_true, if_false, reduceIte, Option.bind_some, List.getElem?_cons_zero, List.getElem?_cons_succ, Nat.reduceAdd, Nat.reduceSub, Nat.reduceLT, Nat.reduceLeDiff, Nat.le_refl, Nat.zero_add, Nat.add_zero, List.length_cons, List.length_nil, Int32.reduceLT, Int32.reduceToNatClampNeg, Int32.reduceAdd, Int32.reduceSub, Int32.reduceMul, decide_true, aCall, aRecv, aObj, obj, List.take_succ_cons, List.take_zero, List.drop_succ_cons, List.drop_zero, List.reverse_cons, List.reverse_nil, List.nil_append, List.cons_append, List.append_nil, List.map_cons, List.map_nil, List.sum_cons, List.sum_nil, cat_int, cat_long, cat_ref, cat_null, Option.toList_some, Option.toList_none, F4_b (x := 4) (y := 0) (by decide)]
  refine res_of (u3_28 hgo) ?_
  simp only [nr_i, nr_j, nr_a, nr_o, nr_b, nr_b1, nr_b0, ft_i, ft_j, ft_a, ft_o, ft_b, ft_b1, ft_b0, rV_nil, b_1, b_0, b_1r, b_0r, b_bb, b_and, i_10, i_01, eq_self, iff_self, not_true_eq_false, not_false_eq_true, ite_not, cat_int, cat_long, cat_ref, cat_null, and11, and01, Nat.reduceAdd, Nat.reduceSub, Nat.reduceMul, Nat.reduceLT, Nat.reduceLeDiff, Nat.reduceEqDiff, Int32.reduceAdd, Int32.reduceSub, Int32.reduceMul, Int32.reduceMod, Int32.reduceLT, Int32.reduceLE, Int32.reduceToNatClampNeg, Int64.reduceAdd, Int64.reduceSub, Int64.reduceLT, Nat.le_refl, Nat.zero_add, Nat.add_zero, and_self, Option.bind_some, Option.bind_none, gI, gL, gA, st1, st2, pI_int, pL_long, pA_ref, pA_null, pR_ref, p1_int, p1_ref, p1_null, ex_ishl, ex_ishr, ex_iushr, ex_idiv, ex_irem, ex_ineg, ex_i2b, ex_i2c, ex_i2s, ex_i2l, ex_l2i, ex_lneg, ex_lshl, ex_lshr, ex_lushr, ex_ldiv, ex_lrem, ex_lcmp, ex_dup, ex_pop, ex_dup_x1, ex_dup2, ex_ifnull, ex_ifnonnull, ex_if_acmp, ex_arraylength, ex_iaload, ex_baload, ex_caload, ex_laload, ex_aaload, ex_iastore, ex_bastore, ex_castore, ex_lastore, ex_ldc, ex_ldc_w, ex_ldc2_w, ex_getfield, ex_putfield, ex_getstatic, ex_new, ex_invokestatic, ex_invokespecial, ex_invokevirtual, ex_checkcast, ex_instanceof, ex_anewarray, ex_newarray, ex_ireturn, ex_lreturn, ex_areturn, ex_return, br_d, br_n, br_t, br_f, spc, look, aI, aJ, aGet, aPut, aNew, aArr, aObj, aCall, aRecv, obj, arr, ald, ast, astL, isT, isBZ, atn, refEq, acV, List.getElem?_cons_zero, List.getElem?_cons_succ, List.set_cons_zero, List.set_cons_succ, List.take_succ_cons, List.take_zero, List.drop_succ_cons, List.drop_zero, List.reverse_cons, List.reverse_nil, List.nil_append, List.cons_append, List.map_cons, List.map_nil, List.sum_cons, List.sum_nil, List.length_cons, List.length_nil, Option.toList_some, Option.toList_none, List.append_nil, true_and, and_true, not_false_eq_true, decide_true, decide_false, Bool.not_true, Bool.not_false, if_true, if_false, reduceIte, Option.map_some, nar, defaultValue, List.replicate_zero, List.replicate_succ, ln0, ln1, ln2, ln3, ln4, ln5, ln6, ln7, ln8, ln9, ln10, ln11, ln12, ln13, ln14, ln15, ln16, ln17, ln18, ln19, ln20, ln21, ln22, ln23, ln24, ln25, ln26, ln27, ln28, ln29, ln30, ln31, ln32, ln33, ln34, ln35, ln36, aSta, aCast, aClone, aCopy, F4_b (x := 4) (y := 0) (by decide)]
  refine t3_31 hgo rfl ?_
  refine t3_32 hgo rfl ?_
  exact is_r
set_option maxRecDepth 65536 in
set_option maxHeartbeats 4000000 in
theorem bc_0 : F3 [.ref 2, .int 0] [.inl (0, [.ref 1, .ref 2, .int 0]), .inr (.int, [.int 0, .int 0, .int 0, .int 0]), .inr (.int, [.int 0, .int 0, .int 0, .int 0]), .inl (1, [.null, .null]), .inr (.int, [])] = some (some (.ref 5), [.inl (0, [.ref 1, .ref 2, .int 0]), .inr (.int, [.int 0, .int 0, .int 0, .int 0]), .inr (.int, [.int 0, .int 0, .int 0, .int 0]), .inl (1, [.null, .null]), .inr (.int, []), .inr (.int, [])]) := by
  refine is_of f3_in fun go hgo => ?_
  refine t3_0 hgo ?_
  refine t3_1 hgo rfl ?_
  refine res_of (u3_2 hgo) ?_
  simp only [eq_self, and_self, true_and, and_true, not_true_eq_false, not_false_eq_true, if_true, if_false, reduceIte, Option.bind_some, List.getElem?_cons_zero, List.getElem?_cons_succ, Nat.reduceAdd, Nat.reduceSub, Nat.reduceLT, Nat.reduceLeDiff, Nat.le_refl, Nat.zero_add, Nat.add_zero, List.length_cons, List.length_nil, Int32.reduceLT, Int32.reduceToNatClampNeg, Int32.reduceAdd, Int32.reduceSub, Int32.reduceMul, decide_true, pR_ref, arr, ln0, ln1, ln2, ln3, ln4, ln5, ln6, ln7, ln8, ln9, ln10, ln11, ln12, ln13, ln14, ln15, ln16, ln17, ln18, ln19, ln20, ln21, ln22, ln23, ln24, ln25, ln26, ln27, ln28, ln29, ln30, ln31, ln32, ln33, ln34, ln35, ln36, F4_b (x := 4) (y := 0) (by decide)]
  refine t3_3f hgo (by decide) ?_
  refine t3_14 hgo ?_
  refine res_of (u3_15 hgo) ?_
  simp only [eq_self, and_self, true_and, and_true, not_true_eq_false, not_false_eq_true, if_true, if_false, reduceIte, Option.bind_some, List.getElem?_cons_zero, List.getElem?_cons_succ, Nat.reduceAdd, Nat.reduceSub, Nat.reduceLT, Nat.reduceLeDiff, Nat.le_refl, Nat.zero_add, Nat.add_zero, List.length_cons, List.length_nil, Int32.reduceLT, Int32.reduceToNatClampNeg, Int32.reduceAdd, Int32.reduceSub, Int32.reduceMul, decide_true, aArr, List.nil_append, List.cons_append, List.replicate_zero, List.replicate_succ, defaultValue, F4_b (x := 4) (y := 0) (by decide)]
  refine t3_17 hgo rfl rfl ?_
  refine t3_18 hgo rfl ?_
  refine t3_19 hgo ?_
  refine t3_20 hgo rfl ?_
  refine t3_21 hgo ?_
  refine t3_22 hgo rfl ?_
  refine res_of (u3_23 hgo) ?_
  simp only [eq_self, and_self, true_and, and_true, not_true_eq_false, not_false_eq_true, if_true, if_false, reduceIte, Option.bind_some, List.getElem?_cons_zero, List.getElem?_cons_succ, Nat.reduceAdd, Nat.reduceSub, Nat.reduceLT, Nat.reduceLeDiff, Nat.le_refl, Nat.zero_add, Nat.add_zero, List.length_cons, List.length_nil, Int32.reduceLT, Int32.reduceToNatClampNeg, Int32.reduceAdd, Int32.reduceSub, Int32.reduceMul, decide_true, pR_ref, arr, ln0, ln1, ln2, ln3, ln4, ln5, ln6, ln7, ln8, ln9, ln10, ln11, ln12, ln13, ln14, ln15, ln16, ln17, ln18, ln19, ln20, ln21, ln22, ln23, ln24, ln25, ln26, ln27, ln28, ln29, ln30, ln31, ln32, ln33, ln34, ln35, ln36, F4_b (x := 4) (y := 0) (by decide)]
  refine t3_24 hgo ?_
  refine res_of (u3_25 hgo) ?_
  simp only [eq_self, and_self, true_and, and_true, not_true_eq_false, not_false_eq_true, if_true, if_false, reduceIte, Option.bind_some, List.getElem?_cons_zero, List.getElem?_cons_succ, Nat.reduceAdd, Nat.reduceSub, Nat.reduceLT, Nat.reduceLeDiff, Nat.le_refl, Nat.zero_add, Nat.add_zero, List.length_cons, List.length_nil, Int32.reduceLT, Int32.reduceToNatClampNeg, Int32.reduceAdd, Int32.reduceSub, Int32.reduceMul, decide_true, aCall, aRecv, aObj, obj, List.take_succ_cons, List.take_zero, List.drop_succ_cons, List.drop_zero, List.reverse_cons, List.reverse_nil, List.nil_append, List.cons_append, List.append_nil, List.map_cons, List.map_nil, List.sum_cons, List.sum_nil, cat_int, cat_long, cat_ref, cat_null, Option.toList_some, Option.toList_none, F4_b (x := 4) (y := 0) (by decide)]
  refine res_of (u3_28 hgo) ?_
  simp only [nr_i, nr_j, nr_a, nr_o, nr_b, nr_b1, nr_b0, ft_i, ft_j, ft_a, ft_o, ft_b, ft_b1, ft_b0, rV_nil, b_1, b_0, b_1r, b_0r, b_bb, b_and, i_10, i_01, eq_self, iff_self, not_true_eq_false, not_false_eq_true, ite_not, cat_int, cat_long, cat_ref, cat_null, and11, and01, Nat.reduceAdd, Nat.reduceSub, Nat.reduceMul, Nat.reduceLT, Nat.reduceLeDiff, Nat.reduceEqDiff, Int32.reduceAdd, Int32.reduceSub, Int32.reduceMul, Int32.reduceMod, Int32.reduceLT, Int32.reduceLE, Int32.reduceToNatClampNeg, Int64.reduceAdd, Int64.reduceSub, Int64.reduceLT, Nat.le_refl, Nat.zero_add, Nat.add_zero, and_self, Option.bind_some, Option.bind_none, gI, gL, gA, st1, st2, pI_int, pL_long, pA_ref, pA_null, pR_ref, p1_int, p1_ref, p1_null, ex_ishl, ex_ishr, ex_iushr, ex_idiv, ex_irem, ex_ineg, ex_i2b, ex_i2c, ex_i2s, ex_i2l, ex_l2i, ex_lneg, ex_lshl, ex_lshr, ex_lushr, ex_ldiv, ex_lrem, ex_lcmp, ex_dup, ex_pop, ex_dup_x1, ex_dup2, ex_ifnull, ex_ifnonnull, ex_if_acmp, ex_arraylength, ex_iaload, ex_baload, ex_caload, ex_laload, ex_aaload, ex_iastore, ex_bastore, ex_castore, ex_lastore, ex_ldc, ex_ldc_w, ex_ldc2_w, ex_getfield, ex_putfield, ex_getstatic, ex_new, ex_invokestatic, ex_invokespecial, ex_invokevirtual, ex_checkcast, ex_instanceof, ex_anewarray, ex_newarray, ex_ireturn, ex_lreturn, ex_areturn, ex_return, br_d, br_n, br_t, br_f, spc, look, aI, aJ, aGet, aPut, aNew, aArr, aObj, aCall, aRecv, obj, arr, ald, ast, astL, isT, isBZ, atn, refEq, acV, List.getElem?_cons_zero, List.getElem?_cons_succ, List.set_cons_zero, List.set_cons_succ, List.take_succ_cons, List.take_zero, List.drop_succ_cons, List.drop_zero, List.reverse_cons, List.reverse_nil, List.nil_append, List.cons_append, List.map_cons, List.map_nil, List.sum_cons, List.sum_nil, List.length_cons, List.length_nil, Option.toList_some, Option.toList_none, List.append_nil, true_and, and_true, not_false_eq_true, decide_true, decide_false, Bool.not_true, Bool.not_false, if_true, if_false, reduceIte, Option.map_some, nar, defaultValue, List.replicate_zero, List.replicate_succ, ln0, ln1, ln2, ln3, ln4, ln5, ln6, ln7, ln8, ln9, ln10, ln11, ln12, ln13, ln14, ln15, ln16, ln17, ln18, ln19, ln20, ln21, ln22, ln23, ln24, ln25, ln26, ln27, ln28, ln29, ln30, ln31, ln32, ln33, ln34, ln35, ln36, aSta, aCast, aClone, aCopy, F4_b (x := 4) (y := 0) (by decide)]
  refine t3_31 hgo rfl ?_
  refine t3_32 hgo rfl ?_
  exact is_r
set_option maxRecDepth 65536 in
set_option maxHeartbeats 4000000 in
theorem bi_0 : F5 [.ref 3, .ref 4, .ref 5] [.inl (0, [.ref 1, .ref 2, .int 0]), .inr (.int, [.int 0, .int 0, .int 0, .int 0]), .inr (.int, [.int 0, .int 0, .int 0, .int 0]), .inl (1, [.null, .null]), .inr (.int, []), .inr (.int, [])] = some (none, [.inl (0, [.ref 1, .ref 2, .int 0]), .inr (.int, [.int 0, .int 0, .int 0, .int 0]), .inr (.int, [.int 0, .int 0, .int 0, .int 0]), .inl (1, [.ref 4, .ref 5]), .inr (.int, []), .inr (.int, [])]) := by
  refine is_of f5_in fun go hgo => ?_
  refine t5_0 hgo rfl ?_
  refine res_of (u5_1 hgo) ?_
  simp only [eq_self, and_self, true_and, and_true, not_true_eq_false, not_false_eq_true, if_true, if_false, reduceIte, Option.bind_some, List.getElem?_cons_zero, List.getElem?_cons_succ, Nat.reduceAdd, Nat.reduceSub, Nat.reduceLT, Nat.reduceLeDiff, Nat.le_refl, Nat.zero_add, Nat.add_zero, List.length_cons, List.length_nil, Int32.reduceLT, Int32.reduceToNatClampNeg, Int32.reduceAdd, Int32.reduceSub, Int32.reduceMul, decide_true, aCall, aRecv, aObj, obj, List.take_succ_cons, List.take_zero, List.drop_succ_cons, List.drop_zero, List.reverse_cons, List.reverse_nil, List.nil_append, List.cons_append, List.append_nil, List.map_cons, List.map_nil, List.sum_cons, List.sum_nil, cat_int, cat_long, cat_ref, cat_null, Option.toList_some, Option.toList_none]
  refine t5_4 hgo rfl ?_
  refine t5_5 hgo rfl ?_
  refine res_of (u5_6 hgo) ?_
  simp only [eq_self, and_self, true_and, and_true, not_true_eq_false, not_false_eq_true, if_true, if_false, reduceIte, Option.bind_some, List.getElem?_cons_zero, List.getElem?_cons_succ, Nat.reduceAdd, Nat.reduceSub, Nat.reduceLT, Nat.reduceLeDiff, Nat.le_refl, Nat.zero_add, Nat.add_zero, List.length_cons, List.length_nil, Int32.reduceLT, Int32.reduceToNatClampNeg, Int32.reduceAdd, Int32.reduceSub, Int32.reduceMul, decide_true, aPut, obj, nr_i, nr_j, nr_a, nr_o, nr_b, nr_b1, nr_b0, ft_i, ft_j, ft_a, ft_o, ft_b, ft_b1, ft_b0, List.set_cons_zero, List.set_cons_succ]
  refine t5_9 hgo rfl ?_
  refine t5_10 hgo rfl ?_
  refine res_of (u5_11 hgo) ?_
  simp only [eq_self, and_self, true_and, and_true, not_true_eq_false, not_false_eq_true, if_true, if_false, reduceIte, Option.bind_some, List.getElem?_cons_zero, List.getElem?_cons_succ, Nat.reduceAdd, Nat.reduceSub, Nat.reduceLT, Nat.reduceLeDiff, Nat.le_refl, Nat.zero_add, Nat.add_zero, List.length_cons, List.length_nil, Int32.reduceLT, Int32.reduceToNatClampNeg, Int32.reduceAdd, Int32.reduceSub, Int32.reduceMul, decide_true, aPut, obj, nr_i, nr_j, nr_a, nr_o, nr_b, nr_b1, nr_b0, ft_i, ft_j, ft_a, ft_o, ft_b, ft_b1, ft_b0, List.set_cons_zero, List.set_cons_succ]
  refine t5_14 hgo ?_
  exact is_r
set_option maxRecDepth 65536 in
set_option maxHeartbeats 4000000 in
theorem build_0 : F2 [.ref 0] [.inl (0, [.ref 1, .ref 2, .int 0]), .inr (.int, [.int 0, .int 0, .int 0, .int 0]), .inr (.int, [.int 0, .int 0, .int 0, .int 0])] = some (some (.ref 3), [.inl (0, [.ref 1, .ref 2, .int 0]), .inr (.int, [.int 0, .int 0, .int 0, .int 0]), .inr (.int, [.int 0, .int 0, .int 0, .int 0]), .inl (1, [.ref 4, .ref 5]), .inr (.int, []), .inr (.int, [])]) := by
  refine is_of f2_in fun go hgo => ?_
  refine res_of (u2_0 hgo) ?_
  simp only [eq_self, and_self, true_and, and_true, not_true_eq_false, not_false_eq_true, if_true, if_false, reduceIte, Option.bind_some, List.getElem?_cons_zero, List.getElem?_cons_succ, Nat.reduceAdd, Nat.reduceSub, Nat.reduceLT, Nat.reduceLeDiff, Nat.le_refl, Nat.zero_add, Nat.add_zero, List.length_cons, List.length_nil, Int32.reduceLT, Int32.reduceToNatClampNeg, Int32.reduceAdd, Int32.reduceSub, Int32.reduceMul, decide_true, aNew, List.nil_append, List.cons_append, bv_0, bc_0, bi_0]
  refine t2_3 hgo rfl ?_
  refine t2_4 hgo rfl ?_
  refine res_of (u2_5 hgo) ?_
  simp only [eq_self, and_self, true_and, and_true, not_true_eq_false, not_false_eq_true, if_true, if_false, reduceIte, Option.bind_some, List.getElem?_cons_zero, List.getElem?_cons_succ, Nat.reduceAdd, Nat.reduceSub, Nat.reduceLT, Nat.reduceLeDiff, Nat.le_refl, Nat.zero_add, Nat.add_zero, List.length_cons, List.length_nil, Int32.reduceLT, Int32.reduceToNatClampNeg, Int32.reduceAdd, Int32.reduceSub, Int32.reduceMul, decide_true, aGet, obj, bv_0, bc_0, bi_0]
  refine t2_8 hgo rfl ?_
  refine res_of (u2_9 hgo) ?_
  simp only [eq_self, and_self, true_and, and_true, not_true_eq_false, not_false_eq_true, if_true, if_false, reduceIte, Option.bind_some, List.getElem?_cons_zero, List.getElem?_cons_succ, Nat.reduceAdd, Nat.reduceSub, Nat.reduceLT, Nat.reduceLeDiff, Nat.le_refl, Nat.zero_add, Nat.add_zero, List.length_cons, List.length_nil, Int32.reduceLT, Int32.reduceToNatClampNeg, Int32.reduceAdd, Int32.reduceSub, Int32.reduceMul, decide_true, aGet, obj, bv_0, bc_0, bi_0]
  refine res_of (u2_12 hgo) ?_
  simp only [eq_self, and_self, true_and, and_true, not_true_eq_false, not_false_eq_true, if_true, if_false, reduceIte, Option.bind_some, List.getElem?_cons_zero, List.getElem?_cons_succ, Nat.reduceAdd, Nat.reduceSub, Nat.reduceLT, Nat.reduceLeDiff, Nat.le_refl, Nat.zero_add, Nat.add_zero, List.length_cons, List.length_nil, Int32.reduceLT, Int32.reduceToNatClampNeg, Int32.reduceAdd, Int32.reduceSub, Int32.reduceMul, decide_true, aCall, aRecv, aObj, obj, List.take_succ_cons, List.take_zero, List.drop_succ_cons, List.drop_zero, List.reverse_cons, List.reverse_nil, List.nil_append, List.cons_append, List.append_nil, List.map_cons, List.map_nil, List.sum_cons, List.sum_nil, cat_int, cat_long, cat_ref, cat_null, Option.toList_some, Option.toList_none, bv_0, bc_0, bi_0]
  refine t2_15 hgo rfl ?_
  refine res_of (u2_16 hgo) ?_
  simp only [eq_self, and_self, true_and, and_true, not_true_eq_false, not_false_eq_true, if_true, if_false, reduceIte, Option.bind_some, List.getElem?_cons_zero, List.getElem?_cons_succ, Nat.reduceAdd, Nat.reduceSub, Nat.reduceLT, Nat.reduceLeDiff, Nat.le_refl, Nat.zero_add, Nat.add_zero, List.length_cons, List.length_nil, Int32.reduceLT, Int32.reduceToNatClampNeg, Int32.reduceAdd, Int32.reduceSub, Int32.reduceMul, decide_true, aGet, obj, bv_0, bc_0, bi_0]
  refine t2_19 hgo rfl ?_
  refine res_of (u2_20 hgo) ?_
  simp only [eq_self, and_self, true_and, and_true, not_true_eq_false, not_false_eq_true, if_true, if_false, reduceIte, Option.bind_some, List.getElem?_cons_zero, List.getElem?_cons_succ, Nat.reduceAdd, Nat.reduceSub, Nat.reduceLT, Nat.reduceLeDiff, Nat.le_refl, Nat.zero_add, Nat.add_zero, List.length_cons, List.length_nil, Int32.reduceLT, Int32.reduceToNatClampNeg, Int32.reduceAdd, Int32.reduceSub, Int32.reduceMul, decide_true, aGet, obj, bv_0, bc_0, bi_0]
  refine res_of (u2_23 hgo) ?_
  simp only [eq_self, and_self, true_and, and_true, not_true_eq_false, not_false_eq_true, if_true, if_false, reduceIte, Option.bind_some, List.getElem?_cons_zero, List.getElem?_cons_succ, Nat.reduceAdd, Nat.reduceSub, Nat.reduceLT, Nat.reduceLeDiff, Nat.le_refl, Nat.zero_add, Nat.add_zero, List.length_cons, List.length_nil, Int32.reduceLT, Int32.reduceToNatClampNeg, Int32.reduceAdd, Int32.reduceSub, Int32.reduceMul, decide_true, aCall, aRecv, aObj, obj, List.take_succ_cons, List.take_zero, List.drop_succ_cons, List.drop_zero, List.reverse_cons, List.reverse_nil, List.nil_append, List.cons_append, List.append_nil, List.map_cons, List.map_nil, List.sum_cons, List.sum_nil, cat_int, cat_long, cat_ref, cat_null, Option.toList_some, Option.toList_none, bv_0, bc_0, bi_0]
  refine res_of (u2_26 hgo) ?_
  simp only [eq_self, and_self, true_and, and_true, not_true_eq_false, not_false_eq_true, if_true, if_false, reduceIte, Option.bind_some, List.getElem?_cons_zero, List.getElem?_cons_succ, Nat.reduceAdd, Nat.reduceSub, Nat.reduceLT, Nat.reduceLeDiff, Nat.le_refl, Nat.zero_add, Nat.add_zero, List.length_cons, List.length_nil, Int32.reduceLT, Int32.reduceToNatClampNeg, Int32.reduceAdd, Int32.reduceSub, Int32.reduceMul, decide_true, aCall, aRecv, aObj, obj, List.take_succ_cons, List.take_zero, List.drop_succ_cons, List.drop_zero, List.reverse_cons, List.reverse_nil, List.nil_append, List.cons_append, List.append_nil, List.map_cons, List.map_nil, List.sum_cons, List.sum_nil, cat_int, cat_long, cat_ref, cat_null, Option.toList_some, Option.toList_none, bv_0, bc_0, bi_0]
  refine t2_29 hgo rfl ?_
  exact is_r
set_option maxRecDepth 65536 in
set_option maxHeartbeats 4000000 in
theorem size_0 : F6 [.ref 3] [.inl (0, [.ref 1, .ref 2, .int 0]), .inr (.int, [.int 0, .int 0, .int 0, .int 0]), .inr (.int, [.int 0, .int 0, .int 0, .int 0]), .inl (1, [.ref 4, .ref 5]), .inr (.int, []), .inr (.int, [])] = some (some (.int 0), [.inl (0, [.ref 1, .ref 2, .int 0]), .inr (.int, [.int 0, .int 0, .int 0, .int 0]), .inr (.int, [.int 0, .int 0, .int 0, .int 0]), .inl (1, [.ref 4, .ref 5]), .inr (.int, []), .inr (.int, [])]) := by
  refine is_of f6_in fun go hgo => ?_
  refine t6_0 hgo rfl ?_
  refine res_of (u6_1 hgo) ?_
  simp only [eq_self, and_self, true_and, and_true, not_true_eq_false, not_false_eq_true, if_true, if_false, reduceIte, Option.bind_some, List.getElem?_cons_zero, List.getElem?_cons_succ, Nat.reduceAdd, Nat.reduceSub, Nat.reduceLT, Nat.reduceLeDiff, Nat.le_refl, Nat.zero_add, Nat.add_zero, List.length_cons, List.length_nil, Int32.reduceLT, Int32.reduceToNatClampNeg, Int32.reduceAdd, Int32.reduceSub, Int32.reduceMul, decide_true, aGet, obj]
  refine res_of (u6_4 hgo) ?_
  simp only [eq_self, and_self, true_and, and_true, not_true_eq_false, not_false_eq_true, if_true, if_false, reduceIte, Option.bind_some, List.getElem?_cons_zero, List.getElem?_cons_succ, Nat.reduceAdd, Nat.reduceSub, Nat.reduceLT, Nat.reduceLeDiff, Nat.le_refl, Nat.zero_add, Nat.add_zero, List.length_cons, List.length_nil, Int32.reduceLT, Int32.reduceToNatClampNeg, Int32.reduceAdd, Int32.reduceSub, Int32.reduceMul, decide_true, pR_ref, arr, ln0, ln1, ln2, ln3, ln4, ln5, ln6, ln7, ln8, ln9, ln10, ln11, ln12, ln13, ln14, ln15, ln16, ln17, ln18, ln19, ln20, ln21, ln22, ln23, ln24, ln25, ln26, ln27, ln28, ln29, ln30, ln31, ln32, ln33, ln34, ln35, ln36]
  refine t6_5 hgo ?_
  exact is_r
set_option maxRecDepth 65536 in
set_option maxHeartbeats 4000000 in
theorem bv_1 {w0 c0 : Int32} : F3 [.ref 1, .int 1] [.inl (0, [.ref 1, .ref 2, .int 1]), .inr (.int, [.int w0, .int 0, .int 0, .int 0]), .inr (.int, [.int c0, .int 0, .int 0, .int 0]), .inl (1, [.null, .null])] = some (some (.ref 4), [.inl (0, [.ref 1, .ref 2, .int 1]), .inr (.int, [.int w0, .int 0, .int 0, .int 0]), .inr (.int, [.int c0, .int 0, .int 0, .int 0]), .inl (1, [.null, .null]), .inr (.int, [.int w0])]) := by
  refine is_of f3_in fun go hgo => ?_
  refine t3_0 hgo ?_
  refine t3_1 hgo rfl ?_
  refine res_of (u3_2 hgo) ?_
  simp only [eq_self, and_self, true_and, and_true, not_true_eq_false, not_false_eq_true, if_true, if_false, reduceIte, Option.bind_some, List.getElem?_cons_zero, List.getElem?_cons_succ, Nat.reduceAdd, Nat.reduceSub, Nat.reduceLT, Nat.reduceLeDiff, Nat.le_refl, Nat.zero_add, Nat.add_zero, List.length_cons, List.length_nil, Int32.reduceLT, Int32.reduceToNatClampNeg, Int32.reduceAdd, Int32.reduceSub, Int32.reduceMul, decide_true, pR_ref, arr, ln0, ln1, ln2, ln3, ln4, ln5, ln6, ln7, ln8, ln9, ln10, ln11, ln12, ln13, ln14, ln15, ln16, ln17, ln18, ln19, ln20, ln21, ln22, ln23, ln24, ln25, ln26, ln27, ln28, ln29, ln30, ln31, ln32, ln33, ln34, ln35, ln36, F4_b (x := 4) (y := 1) (by decide)]
  refine t3_3f hgo (by decide) ?_
  refine t3_14 hgo ?_
  refine res_of (u3_15 hgo) ?_
  simp only [eq_self, and_self, true_and, and_true, not_true_eq_false, not_false_eq_true, if_true, if_false, reduceIte, Option.bind_some, List.getElem?_cons_zero, List.getElem?_cons_succ, Nat.reduceAdd, Nat.reduceSub, Nat.reduceLT, Nat.reduceLeDiff, Nat.le_refl, Nat.zero_add, Nat.add_zero, List.length_cons, List.length_nil, Int32.reduceLT, Int32.reduceToNatClampNeg, Int32.reduceAdd, Int32.reduceSub, Int32.reduceMul, decide_true, aArr, List.nil_append, List.cons_append, List.replicate_zero, List.replicate_succ, defaultValue, F4_b (x := 4) (y := 1) (by decide)]
  refine t3_17 hgo rfl rfl ?_
  refine t3_18 hgo rfl ?_
  refine t3_19 hgo ?_
  refine t3_20 hgo rfl ?_
  refine t3_21 hgo ?_
  refine t3_22 hgo rfl ?_
  refine res_of (u3_23 hgo) ?_
  simp only [eq_self, and_self, true_and, and_true, not_true_eq_false, not_false_eq_true, if_true, if_false, reduceIte, Option.bind_some, List.getElem?_cons_zero, List.getElem?_cons_succ, Nat.reduceAdd, Nat.reduceSub, Nat.reduceLT, Nat.reduceLeDiff, Nat.le_refl, Nat.zero_add, Nat.add_zero, List.length_cons, List.length_nil, Int32.reduceLT, Int32.reduceToNatClampNeg, Int32.reduceAdd, Int32.reduceSub, Int32.reduceMul, decide_true, pR_ref, arr, ln0, ln1, ln2, ln3, ln4, ln5, ln6, ln7, ln8, ln9, ln10, ln11, ln12, ln13, ln14, ln15, ln16, ln17, ln18, ln19, ln20, ln21, ln22, ln23, ln24, ln25, ln26, ln27, ln28, ln29, ln30, ln31, ln32, ln33, ln34, ln35, ln36, F4_b (x := 4) (y := 1) (by decide)]
  refine t3_24 hgo ?_
  refine res_of (u3_25 hgo) ?_
  simp only [eq_self, and_self, true_and, and_true, not_true_eq_false, not_false_eq_true, if_true, if_false, reduceIte, Option.bind_some, List.getElem?_cons_zero, List.getElem?_cons_succ, Nat.reduceAdd, Nat.reduceSub, Nat.reduceLT, Nat.reduceLeDiff, Nat.le_refl, Nat.zero_add, Nat.add_zero, List.length_cons, List.length_nil, Int32.reduceLT, Int32.reduceToNatClampNeg, Int32.reduceAdd, Int32.reduceSub, Int32.reduceMul, decide_true, aCall, aRecv, aObj, obj, List.take_succ_cons, List.take_zero, List.drop_succ_cons, List.drop_zero, List.reverse_cons, List.reverse_nil, List.nil_append, List.cons_append, List.append_nil, List.map_cons, List.map_nil, List.sum_cons, List.sum_nil, cat_int, cat_long, cat_ref, cat_null, Option.toList_some, Option.toList_none, F4_b (x := 4) (y := 1) (by decide)]
  refine res_of (u3_28 hgo) ?_
  simp only [nr_i, nr_j, nr_a, nr_o, nr_b, nr_b1, nr_b0, ft_i, ft_j, ft_a, ft_o, ft_b, ft_b1, ft_b0, rV_nil, b_1, b_0, b_1r, b_0r, b_bb, b_and, i_10, i_01, eq_self, iff_self, not_true_eq_false, not_false_eq_true, ite_not, cat_int, cat_long, cat_ref, cat_null, and11, and01, Nat.reduceAdd, Nat.reduceSub, Nat.reduceMul, Nat.reduceLT, Nat.reduceLeDiff, Nat.reduceEqDiff, Int32.reduceAdd, Int32.reduceSub, Int32.reduceMul, Int32.reduceMod, Int32.reduceLT, Int32.reduceLE, Int32.reduceToNatClampNeg, Int64.reduceAdd, Int64.reduceSub, Int64.reduceLT, Nat.le_refl, Nat.zero_add, Nat.add_zero, and_self, Option.bind_some, Option.bind_none, gI, gL, gA, st1, st2, pI_int, pL_long, pA_ref, pA_null, pR_ref, p1_int, p1_ref, p1_null, ex_ishl, ex_ishr, ex_iushr, ex_idiv, ex_irem, ex_ineg, ex_i2b, ex_i2c, ex_i2s, ex_i2l, ex_l2i, ex_lneg, ex_lshl, ex_lshr, ex_lushr, ex_ldiv, ex_lrem, ex_lcmp, ex_dup, ex_pop, ex_dup_x1, ex_dup2, ex_ifnull, ex_ifnonnull, ex_if_acmp, ex_arraylength, ex_iaload, ex_baload, ex_caload, ex_laload, ex_aaload, ex_iastore, ex_bastore, ex_castore, ex_lastore, ex_ldc, ex_ldc_w, ex_ldc2_w, ex_getfield, ex_putfield, ex_getstatic, ex_new, ex_invokestatic, ex_invokespecial, ex_invokevirtual, ex_checkcast, ex_instanceof, ex_anewarray, ex_newarray, ex_ireturn, ex_lreturn, ex_areturn, ex_return, br_d, br_n, br_t, br_f, spc, look, aI, aJ, aGet, aPut, aNew, aArr, aObj, aCall, aRecv, obj, arr, ald, ast, astL, isT, isBZ, atn, refEq, acV, List.getElem?_cons_zero, List.getElem?_cons_succ, List.set_cons_zero, List.set_cons_succ, List.take_succ_cons, List.take_zero, List.drop_succ_cons, List.drop_zero, List.reverse_cons, List.reverse_nil, List.nil_append, List.cons_append, List.map_cons, List.map_nil, List.sum_cons, List.sum_nil, List.length_cons, List.length_nil, Option.toList_some, Option.toList_none, List.append_nil, true_and, and_true, not_false_eq_true, decide_true, decide_false, Bool.not_true, Bool.not_false, if_true, if_false, reduceIte, Option.map_some, nar, defaultValue, List.replicate_zero, List.replicate_succ, ln0, ln1, ln2, ln3, ln4, ln5, ln6, ln7, ln8, ln9, ln10, ln11, ln12, ln13, ln14, ln15, ln16, ln17, ln18, ln19, ln20, ln21, ln22, ln23, ln24, ln25, ln26, ln27, ln28, ln29, ln30, ln31, ln32, ln33, ln34, ln35, ln36, aSta, aCast, aClone, aCopy, F4_b (x := 4) (y := 1) (by decide)]
  refine t3_31 hgo rfl ?_
  refine t3_32 hgo rfl ?_
  exact is_r
set_option maxRecDepth 65536 in
set_option maxHeartbeats 4000000 in
theorem bc_1 {w0 c0 : Int32} : F3 [.ref 2, .int 1] [.inl (0, [.ref 1, .ref 2, .int 1]), .inr (.int, [.int w0, .int 0, .int 0, .int 0]), .inr (.int, [.int c0, .int 0, .int 0, .int 0]), .inl (1, [.null, .null]), .inr (.int, [.int w0])] = some (some (.ref 5), [.inl (0, [.ref 1, .ref 2, .int 1]), .inr (.int, [.int w0, .int 0, .int 0, .int 0]), .inr (.int, [.int c0, .int 0, .int 0, .int 0]), .inl (1, [.null, .null]), .inr (.int, [.int w0]), .inr (.int, [.int c0])]) := by
  refine is_of f3_in fun go hgo => ?_
  refine t3_0 hgo ?_
  refine t3_1 hgo rfl ?_
  refine res_of (u3_2 hgo) ?_
  simp only [eq_self, and_self, true_and, and_true, not_true_eq_false, not_false_eq_true, if_true, if_false, reduceIte, Option.bind_some, List.getElem?_cons_zero, List.getElem?_cons_succ, Nat.reduceAdd, Nat.reduceSub, Nat.reduceLT, Nat.reduceLeDiff, Nat.le_refl, Nat.zero_add, Nat.add_zero, List.length_cons, List.length_nil, Int32.reduceLT, Int32.reduceToNatClampNeg, Int32.reduceAdd, Int32.reduceSub, Int32.reduceMul, decide_true, pR_ref, arr, ln0, ln1, ln2, ln3, ln4, ln5, ln6, ln7, ln8, ln9, ln10, ln11, ln12, ln13, ln14, ln15, ln16, ln17, ln18, ln19, ln20, ln21, ln22, ln23, ln24, ln25, ln26, ln27, ln28, ln29, ln30, ln31, ln32, ln33, ln34, ln35, ln36, F4_b (x := 4) (y := 1) (by decide)]
  refine t3_3f hgo (by decide) ?_
  refine t3_14 hgo ?_
  refine res_of (u3_15 hgo) ?_
  simp only [eq_self, and_self, true_and, and_true, not_true_eq_false, not_false_eq_true, if_true, if_false, reduceIte, Option.bind_some, List.getElem?_cons_zero, List.getElem?_cons_succ, Nat.reduceAdd, Nat.reduceSub, Nat.reduceLT, Nat.reduceLeDiff, Nat.le_refl, Nat.zero_add, Nat.add_zero, List.length_cons, List.length_nil, Int32.reduceLT, Int32.reduceToNatClampNeg, Int32.reduceAdd, Int32.reduceSub, Int32.reduceMul, decide_true, aArr, List.nil_append, List.cons_append, List.replicate_zero, List.replicate_succ, defaultValue, F4_b (x := 4) (y := 1) (by decide)]
  refine t3_17 hgo rfl rfl ?_
  refine t3_18 hgo rfl ?_
  refine t3_19 hgo ?_
  refine t3_20 hgo rfl ?_
  refine t3_21 hgo ?_
  refine t3_22 hgo rfl ?_
  refine res_of (u3_23 hgo) ?_
  simp only [eq_self, and_self, true_and, and_true, not_true_eq_false, not_false_eq_true, if_true, if_false, reduceIte, Option.bind_some, List.getElem?_cons_zero, List.getElem?_cons_succ, Nat.reduceAdd, Nat.reduceSub, Nat.reduceLT, Nat.reduceLeDiff, Nat.le_refl, Nat.zero_add, Nat.add_zero, List.length_cons, List.length_nil, Int32.reduceLT, Int32.reduceToNatClampNeg, Int32.reduceAdd, Int32.reduceSub, Int32.reduceMul, decide_true, pR_ref, arr, ln0, ln1, ln2, ln3, ln4, ln5, ln6, ln7, ln8, ln9, ln10, ln11, ln12, ln13, ln14, ln15, ln16, ln17, ln18, ln19, ln20, ln21, ln22, ln23, ln24, ln25, ln26, ln27, ln28, ln29, ln30, ln31, ln32, ln33, ln34, ln35, ln36, F4_b (x := 4) (y := 1) (by decide)]
  refine t3_24 hgo ?_
  refine res_of (u3_25 hgo) ?_
  simp only [eq_self, and_self, true_and, and_true, not_true_eq_false, not_false_eq_true, if_true, if_false, reduceIte, Option.bind_some, List.getElem?_cons_zero, List.getElem?_cons_succ, Nat.reduceAdd, Nat.reduceSub, Nat.reduceLT, Nat.reduceLeDiff, Nat.le_refl, Nat.zero_add, Nat.add_zero, List.length_cons, List.length_nil, Int32.reduceLT, Int32.reduceToNatClampNeg, Int32.reduceAdd, Int32.reduceSub, Int32.reduceMul, decide_true, aCall, aRecv, aObj, obj, List.take_succ_cons, List.take_zero, List.drop_succ_cons, List.drop_zero, List.reverse_cons, List.reverse_nil, List.nil_append, List.cons_append, List.append_nil, List.map_cons, List.map_nil, List.sum_cons, List.sum_nil, cat_int, cat_long, cat_ref, cat_null, Option.toList_some, Option.toList_none, F4_b (x := 4) (y := 1) (by decide)]
  refine res_of (u3_28 hgo) ?_
  simp only [nr_i, nr_j, nr_a, nr_o, nr_b, nr_b1, nr_b0, ft_i, ft_j, ft_a, ft_o, ft_b, ft_b1, ft_b0, rV_nil, b_1, b_0, b_1r, b_0r, b_bb, b_and, i_10, i_01, eq_self, iff_self, not_true_eq_false, not_false_eq_true, ite_not, cat_int, cat_long, cat_ref, cat_null, and11, and01, Nat.reduceAdd, Nat.reduceSub, Nat.reduceMul, Nat.reduceLT, Nat.reduceLeDiff, Nat.reduceEqDiff, Int32.reduceAdd, Int32.reduceSub, Int32.reduceMul, Int32.reduceMod, Int32.reduceLT, Int32.reduceLE, Int32.reduceToNatClampNeg, Int64.reduceAdd, Int64.reduceSub, Int64.reduceLT, Nat.le_refl, Nat.zero_add, Nat.add_zero, and_self, Option.bind_some, Option.bind_none, gI, gL, gA, st1, st2, pI_int, pL_long, pA_ref, pA_null, pR_ref, p1_int, p1_ref, p1_null, ex_ishl, ex_ishr, ex_iushr, ex_idiv, ex_irem, ex_ineg, ex_i2b, ex_i2c, ex_i2s, ex_i2l, ex_l2i, ex_lneg, ex_lshl, ex_lshr, ex_lushr, ex_ldiv, ex_lrem, ex_lcmp, ex_dup, ex_pop, ex_dup_x1, ex_dup2, ex_ifnull, ex_ifnonnull, ex_if_acmp, ex_arraylength, ex_iaload, ex_baload, ex_caload, ex_laload, ex_aaload, ex_iastore, ex_bastore, ex_castore, ex_lastore, ex_ldc, ex_ldc_w, ex_ldc2_w, ex_getfield, ex_putfield, ex_getstatic, ex_new, ex_invokestatic, ex_invokespecial, ex_invokevirtual, ex_checkcast, ex_instanceof, ex_anewarray, ex_newarray, ex_ireturn, ex_lreturn, ex_areturn, ex_return, br_d, br_n, br_t, br_f, spc, look, aI, aJ, aGet, aPut, aNew, aArr, aObj, aCall, aRecv, obj, arr, ald, ast, astL, isT, isBZ, atn, refEq, acV, List.getElem?_cons_zero, List.getElem?_cons_succ, List.set_cons_zero, List.set_cons_succ, List.take_succ_cons, List.take_zero, List.drop_succ_cons, List.drop_zero, List.reverse_cons, List.reverse_nil, List.nil_append, List.cons_append, List.map_cons, List.map_nil, List.sum_cons, List.sum_nil, List.length_cons, List.length_nil, Option.toList_some, Option.toList_none, List.append_nil, true_and, and_true, not_false_eq_true, decide_true, decide_false, Bool.not_true, Bool.not_false, if_true, if_false, reduceIte, Option.map_some, nar, defaultValue, List.replicate_zero, List.replicate_succ, ln0, ln1, ln2, ln3, ln4, ln5, ln6, ln7, ln8, ln9, ln10, ln11, ln12, ln13, ln14, ln15, ln16, ln17, ln18, ln19, ln20, ln21, ln22, ln23, ln24, ln25, ln26, ln27, ln28, ln29, ln30, ln31, ln32, ln33, ln34, ln35, ln36, aSta, aCast, aClone, aCopy, F4_b (x := 4) (y := 1) (by decide)]
  refine t3_31 hgo rfl ?_
  refine t3_32 hgo rfl ?_
  exact is_r
set_option maxRecDepth 65536 in
set_option maxHeartbeats 4000000 in
theorem bi_1 {w0 c0 : Int32} : F5 [.ref 3, .ref 4, .ref 5] [.inl (0, [.ref 1, .ref 2, .int 1]), .inr (.int, [.int w0, .int 0, .int 0, .int 0]), .inr (.int, [.int c0, .int 0, .int 0, .int 0]), .inl (1, [.null, .null]), .inr (.int, [.int w0]), .inr (.int, [.int c0])] = some (none, [.inl (0, [.ref 1, .ref 2, .int 1]), .inr (.int, [.int w0, .int 0, .int 0, .int 0]), .inr (.int, [.int c0, .int 0, .int 0, .int 0]), .inl (1, [.ref 4, .ref 5]), .inr (.int, [.int w0]), .inr (.int, [.int c0])]) := by
  refine is_of f5_in fun go hgo => ?_
  refine t5_0 hgo rfl ?_
  refine res_of (u5_1 hgo) ?_
  simp only [eq_self, and_self, true_and, and_true, not_true_eq_false, not_false_eq_true, if_true, if_false, reduceIte, Option.bind_some, List.getElem?_cons_zero, List.getElem?_cons_succ, Nat.reduceAdd, Nat.reduceSub, Nat.reduceLT, Nat.reduceLeDiff, Nat.le_refl, Nat.zero_add, Nat.add_zero, List.length_cons, List.length_nil, Int32.reduceLT, Int32.reduceToNatClampNeg, Int32.reduceAdd, Int32.reduceSub, Int32.reduceMul, decide_true, aCall, aRecv, aObj, obj, List.take_succ_cons, List.take_zero, List.drop_succ_cons, List.drop_zero, List.reverse_cons, List.reverse_nil, List.nil_append, List.cons_append, List.append_nil, List.map_cons, List.map_nil, List.sum_cons, List.sum_nil, cat_int, cat_long, cat_ref, cat_null, Option.toList_some, Option.toList_none]
  refine t5_4 hgo rfl ?_
  refine t5_5 hgo rfl ?_
  refine res_of (u5_6 hgo) ?_
  simp only [eq_self, and_self, true_and, and_true, not_true_eq_false, not_false_eq_true, if_true, if_false, reduceIte, Option.bind_some, List.getElem?_cons_zero, List.getElem?_cons_succ, Nat.reduceAdd, Nat.reduceSub, Nat.reduceLT, Nat.reduceLeDiff, Nat.le_refl, Nat.zero_add, Nat.add_zero, List.length_cons, List.length_nil, Int32.reduceLT, Int32.reduceToNatClampNeg, Int32.reduceAdd, Int32.reduceSub, Int32.reduceMul, decide_true, aPut, obj, nr_i, nr_j, nr_a, nr_o, nr_b, nr_b1, nr_b0, ft_i, ft_j, ft_a, ft_o, ft_b, ft_b1, ft_b0, List.set_cons_zero, List.set_cons_succ]
  refine t5_9 hgo rfl ?_
  refine t5_10 hgo rfl ?_
  refine res_of (u5_11 hgo) ?_
  simp only [eq_self, and_self, true_and, and_true, not_true_eq_false, not_false_eq_true, if_true, if_false, reduceIte, Option.bind_some, List.getElem?_cons_zero, List.getElem?_cons_succ, Nat.reduceAdd, Nat.reduceSub, Nat.reduceLT, Nat.reduceLeDiff, Nat.le_refl, Nat.zero_add, Nat.add_zero, List.length_cons, List.length_nil, Int32.reduceLT, Int32.reduceToNatClampNeg, Int32.reduceAdd, Int32.reduceSub, Int32.reduceMul, decide_true, aPut, obj, nr_i, nr_j, nr_a, nr_o, nr_b, nr_b1, nr_b0, ft_i, ft_j, ft_a, ft_o, ft_b, ft_b1, ft_b0, List.set_cons_zero, List.set_cons_succ]
  refine t5_14 hgo ?_
  exact is_r
set_option maxRecDepth 65536 in
set_option maxHeartbeats 4000000 in
theorem build_1 {w0 c0 : Int32} : F2 [.ref 0] [.inl (0, [.ref 1, .ref 2, .int 1]), .inr (.int, [.int w0, .int 0, .int 0, .int 0]), .inr (.int, [.int c0, .int 0, .int 0, .int 0])] = some (some (.ref 3), [.inl (0, [.ref 1, .ref 2, .int 1]), .inr (.int, [.int w0, .int 0, .int 0, .int 0]), .inr (.int, [.int c0, .int 0, .int 0, .int 0]), .inl (1, [.ref 4, .ref 5]), .inr (.int, [.int w0]), .inr (.int, [.int c0])]) := by
  refine is_of f2_in fun go hgo => ?_
  refine res_of (u2_0 hgo) ?_
  simp only [eq_self, and_self, true_and, and_true, not_true_eq_false, not_false_eq_true, if_true, if_false, reduceIte, Option.bind_some, List.getElem?_cons_zero, List.getElem?_cons_succ, Nat.reduceAdd, Nat.reduceSub, Nat.reduceLT, Nat.reduceLeDiff, Nat.le_refl, Nat.zero_add, Nat.add_zero, List.length_cons, List.length_nil, Int32.reduceLT, Int32.reduceToNatClampNeg, Int32.reduceAdd, Int32.reduceSub, Int32.reduceMul, decide_true, aNew, List.nil_append, List.cons_append, bv_1, bc_1, bi_1]
  refine t2_3 hgo rfl ?_
  refine t2_4 hgo rfl ?_
  refine res_of (u2_5 hgo) ?_
  simp only [eq_self, and_self, true_and, and_true, not_true_eq_false, not_false_eq_true, if_true, if_false, reduceIte, Option.bind_some, List.getElem?_cons_zero, List.getElem?_cons_succ, Nat.reduceAdd, Nat.reduceSub, Nat.reduceLT, Nat.reduceLeDiff, Nat.le_refl, Nat.zero_add, Nat.add_zero, List.length_cons, List.length_nil, Int32.reduceLT, Int32.reduceToNatClampNeg, Int32.reduceAdd, Int32.reduceSub, Int32.reduceMul, decide_true, aGet, obj, bv_1, bc_1, bi_1]
  refine t2_8 hgo rfl ?_
  refine res_of (u2_9 hgo) ?_
  simp only [eq_self, and_self, true_and, and_true, not_true_eq_false, not_false_eq_true, if_true, if_false, reduceIte, Option.bind_some, List.getElem?_cons_zero, List.getElem?_cons_succ, Nat.reduceAdd, Nat.reduceSub, Nat.reduceLT, Nat.reduceLeDiff, Nat.le_refl, Nat.zero_add, Nat.add_zero, List.length_cons, List.length_nil, Int32.reduceLT, Int32.reduceToNatClampNeg, Int32.reduceAdd, Int32.reduceSub, Int32.reduceMul, decide_true, aGet, obj, bv_1, bc_1, bi_1]
  refine res_of (u2_12 hgo) ?_
  simp only [eq_self, and_self, true_and, and_true, not_true_eq_false, not_false_eq_true, if_true, if_false, reduceIte, Option.bind_some, List.getElem?_cons_zero, List.getElem?_cons_succ, Nat.reduceAdd, Nat.reduceSub, Nat.reduceLT, Nat.reduceLeDiff, Nat.le_refl, Nat.zero_add, Nat.add_zero, List.length_cons, List.length_nil, Int32.reduceLT, Int32.reduceToNatClampNeg, Int32.reduceAdd, Int32.reduceSub, Int32.reduceMul, decide_true, aCall, aRecv, aObj, obj, List.take_succ_cons, List.take_zero, List.drop_succ_cons, List.drop_zero, List.reverse_cons, List.reverse_nil, List.nil_append, List.cons_append, List.append_nil, List.map_cons, List.map_nil, List.sum_cons, List.sum_nil, cat_int, cat_long, cat_ref, cat_null, Option.toList_some, Option.toList_none, bv_1, bc_1, bi_1]
  refine t2_15 hgo rfl ?_
  refine res_of (u2_16 hgo) ?_
  simp only [eq_self, and_self, true_and, and_true, not_true_eq_false, not_false_eq_true, if_true, if_false, reduceIte, Option.bind_some, List.getElem?_cons_zero, List.getElem?_cons_succ, Nat.reduceAdd, Nat.reduceSub, Nat.reduceLT, Nat.reduceLeDiff, Nat.le_refl, Nat.zero_add, Nat.add_zero, List.length_cons, List.length_nil, Int32.reduceLT, Int32.reduceToNatClampNeg, Int32.reduceAdd, Int32.reduceSub, Int32.reduceMul, decide_true, aGet, obj, bv_1, bc_1, bi_1]
  refine t2_19 hgo rfl ?_
  refine res_of (u2_20 hgo) ?_
  simp only [eq_self, and_self, true_and, and_true, not_true_eq_false, not_false_eq_true, if_true, if_false, reduceIte, Option.bind_some, List.getElem?_cons_zero, List.getElem?_cons_succ, Nat.reduceAdd, Nat.reduceSub, Nat.reduceLT, Nat.reduceLeDiff, Nat.le_refl, Nat.zero_add, Nat.add_zero, List.length_cons, List.length_nil, Int32.reduceLT, Int32.reduceToNatClampNeg, Int32.reduceAdd, Int32.reduceSub, Int32.reduceMul, decide_true, aGet, obj, bv_1, bc_1, bi_1]
  refine res_of (u2_23 hgo) ?_
  simp only [eq_self, and_self, true_and, and_true, not_true_eq_false, not_false_eq_true, if_true, if_false, reduceIte, Option.bind_some, List.getElem?_cons_zero, List.getElem?_cons_succ, Nat.reduceAdd, Nat.reduceSub, Nat.reduceLT, Nat.reduceLeDiff, Nat.le_refl, Nat.zero_add, Nat.add_zero, List.length_cons, List.length_nil, Int32.reduceLT, Int32.reduceToNatClampNeg, Int32.reduceAdd, Int32.reduceSub, Int32.reduceMul, decide_true, aCall, aRecv, aObj, obj, List.take_succ_cons, List.take_zero, List.drop_succ_cons, List.drop_zero, List.reverse_cons, List.reverse_nil, List.nil_append, List.cons_append, List.append_nil, List.map_cons, List.map_nil, List.sum_cons, List.sum_nil, cat_int, cat_long, cat_ref, cat_null, Option.toList_some, Option.toList_none, bv_1, bc_1, bi_1]
  refine res_of (u2_26 hgo) ?_
  simp only [eq_self, and_self, true_and, and_true, not_true_eq_false, not_false_eq_true, if_true, if_false, reduceIte, Option.bind_some, List.getElem?_cons_zero, List.getElem?_cons_succ, Nat.reduceAdd, Nat.reduceSub, Nat.reduceLT, Nat.reduceLeDiff, Nat.le_refl, Nat.zero_add, Nat.add_zero, List.length_cons, List.length_nil, Int32.reduceLT, Int32.reduceToNatClampNeg, Int32.reduceAdd, Int32.reduceSub, Int32.reduceMul, decide_true, aCall, aRecv, aObj, obj, List.take_succ_cons, List.take_zero, List.drop_succ_cons, List.drop_zero, List.reverse_cons, List.reverse_nil, List.nil_append, List.cons_append, List.append_nil, List.map_cons, List.map_nil, List.sum_cons, List.sum_nil, cat_int, cat_long, cat_ref, cat_null, Option.toList_some, Option.toList_none, bv_1, bc_1, bi_1]
  refine t2_29 hgo rfl ?_
  exact is_r
set_option maxRecDepth 65536 in
set_option maxHeartbeats 4000000 in
theorem size_1 {w0 c0 : Int32} : F6 [.ref 3] [.inl (0, [.ref 1, .ref 2, .int 1]), .inr (.int, [.int w0, .int 0, .int 0, .int 0]), .inr (.int, [.int c0, .int 0, .int 0, .int 0]), .inl (1, [.ref 4, .ref 5]), .inr (.int, [.int w0]), .inr (.int, [.int c0])] = some (some (.int 1), [.inl (0, [.ref 1, .ref 2, .int 1]), .inr (.int, [.int w0, .int 0, .int 0, .int 0]), .inr (.int, [.int c0, .int 0, .int 0, .int 0]), .inl (1, [.ref 4, .ref 5]), .inr (.int, [.int w0]), .inr (.int, [.int c0])]) := by
  refine is_of f6_in fun go hgo => ?_
  refine t6_0 hgo rfl ?_
  refine res_of (u6_1 hgo) ?_
  simp only [eq_self, and_self, true_and, and_true, not_true_eq_false, not_false_eq_true, if_true, if_false, reduceIte, Option.bind_some, List.getElem?_cons_zero, List.getElem?_cons_succ, Nat.reduceAdd, Nat.reduceSub, Nat.reduceLT, Nat.reduceLeDiff, Nat.le_refl, Nat.zero_add, Nat.add_zero, List.length_cons, List.length_nil, Int32.reduceLT, Int32.reduceToNatClampNeg, Int32.reduceAdd, Int32.reduceSub, Int32.reduceMul, decide_true, aGet, obj]
  refine res_of (u6_4 hgo) ?_
  simp only [eq_self, and_self, true_and, and_true, not_true_eq_false, not_false_eq_true, if_true, if_false, reduceIte, Option.bind_some, List.getElem?_cons_zero, List.getElem?_cons_succ, Nat.reduceAdd, Nat.reduceSub, Nat.reduceLT, Nat.reduceLeDiff, Nat.le_refl, Nat.zero_add, Nat.add_zero, List.length_cons, List.length_nil, Int32.reduceLT, Int32.reduceToNatClampNeg, Int32.reduceAdd, Int32.reduceSub, Int32.reduceMul, decide_true, pR_ref, arr, ln0, ln1, ln2, ln3, ln4, ln5, ln6, ln7, ln8, ln9, ln10, ln11, ln12, ln13, ln14, ln15, ln16, ln17, ln18, ln19, ln20, ln21, ln22, ln23, ln24, ln25, ln26, ln27, ln28, ln29, ln30, ln31, ln32, ln33, ln34, ln35, ln36]
  refine t6_5 hgo ?_
  exact is_r
set_option maxRecDepth 65536 in
set_option maxHeartbeats 4000000 in
theorem val_1_0 {w0 c0 : Int32} : F9 [.ref 3, .int 0] [.inl (0, [.ref 1, .ref 2, .int 1]), .inr (.int, [.int w0, .int 0, .int 0, .int 0]), .inr (.int, [.int c0, .int 0, .int 0, .int 0]), .inl (1, [.ref 4, .ref 5]), .inr (.int, [.int w0]), .inr (.int, [.int c0])] = some (some (.int w0), [.inl (0, [.ref 1, .ref 2, .int 1]), .inr (.int, [.int w0, .int 0, .int 0, .int 0]), .inr (.int, [.int c0, .int 0, .int 0, .int 0]), .inl (1, [.ref 4, .ref 5]), .inr (.int, [.int w0]), .inr (.int, [.int c0])]) := by
  refine is_of f9_in fun go hgo => ?_
  refine t9_0 hgo rfl ?_
  refine res_of (u9_1 hgo) ?_
  simp only [eq_self, and_self, true_and, and_true, not_true_eq_false, not_false_eq_true, if_true, if_false, reduceIte, Option.bind_some, List.getElem?_cons_zero, List.getElem?_cons_succ, Nat.reduceAdd, Nat.reduceSub, Nat.reduceLT, Nat.reduceLeDiff, Nat.le_refl, Nat.zero_add, Nat.add_zero, List.length_cons, List.length_nil, Int32.reduceLT, Int32.reduceToNatClampNeg, Int32.reduceAdd, Int32.reduceSub, Int32.reduceMul, decide_true, aGet, obj]
  refine t9_4 hgo ?_
  refine res_of (u9_5 hgo) ?_
  simp only [eq_self, and_self, true_and, and_true, not_true_eq_false, not_false_eq_true, if_true, if_false, reduceIte, Option.bind_some, List.getElem?_cons_zero, List.getElem?_cons_succ, Nat.reduceAdd, Nat.reduceSub, Nat.reduceLT, Nat.reduceLeDiff, Nat.le_refl, Nat.zero_add, Nat.add_zero, List.length_cons, List.length_nil, Int32.reduceLT, Int32.reduceToNatClampNeg, Int32.reduceAdd, Int32.reduceSub, Int32.reduceMul, decide_true, ex_iaload, ald, pI_int, pR_ref, arr, isT, isBZ]
  refine t9_6 hgo ?_
  exact is_r
set_option maxRecDepth 65536 in
set_option maxHeartbeats 4000000 in
theorem cnt_1_0 {w0 c0 : Int32} : F10 [.ref 3, .int 0] [.inl (0, [.ref 1, .ref 2, .int 1]), .inr (.int, [.int w0, .int 0, .int 0, .int 0]), .inr (.int, [.int c0, .int 0, .int 0, .int 0]), .inl (1, [.ref 4, .ref 5]), .inr (.int, [.int w0]), .inr (.int, [.int c0])] = some (some (.int c0), [.inl (0, [.ref 1, .ref 2, .int 1]), .inr (.int, [.int w0, .int 0, .int 0, .int 0]), .inr (.int, [.int c0, .int 0, .int 0, .int 0]), .inl (1, [.ref 4, .ref 5]), .inr (.int, [.int w0]), .inr (.int, [.int c0])]) := by
  refine is_of f10_in fun go hgo => ?_
  refine t10_0 hgo rfl ?_
  refine res_of (u10_1 hgo) ?_
  simp only [eq_self, and_self, true_and, and_true, not_true_eq_false, not_false_eq_true, if_true, if_false, reduceIte, Option.bind_some, List.getElem?_cons_zero, List.getElem?_cons_succ, Nat.reduceAdd, Nat.reduceSub, Nat.reduceLT, Nat.reduceLeDiff, Nat.le_refl, Nat.zero_add, Nat.add_zero, List.length_cons, List.length_nil, Int32.reduceLT, Int32.reduceToNatClampNeg, Int32.reduceAdd, Int32.reduceSub, Int32.reduceMul, decide_true, aGet, obj]
  refine t10_4 hgo ?_
  refine res_of (u10_5 hgo) ?_
  simp only [eq_self, and_self, true_and, and_true, not_true_eq_false, not_false_eq_true, if_true, if_false, reduceIte, Option.bind_some, List.getElem?_cons_zero, List.getElem?_cons_succ, Nat.reduceAdd, Nat.reduceSub, Nat.reduceLT, Nat.reduceLeDiff, Nat.le_refl, Nat.zero_add, Nat.add_zero, List.length_cons, List.length_nil, Int32.reduceLT, Int32.reduceToNatClampNeg, Int32.reduceAdd, Int32.reduceSub, Int32.reduceMul, decide_true, ex_iaload, ald, pI_int, pR_ref, arr, isT, isBZ]
  refine t10_6 hgo ?_
  exact is_r
set_option maxRecDepth 65536 in
set_option maxHeartbeats 4000000 in
theorem bv_2 {w0 w1 c0 c1 : Int32} : F3 [.ref 1, .int 2] [.inl (0, [.ref 1, .ref 2, .int 2]), .inr (.int, [.int w0, .int w1, .int 0, .int 0]), .inr (.int, [.int c0, .int c1, .int 0, .int 0]), .inl (1, [.null, .null])] = some (some (.ref 4), [.inl (0, [.ref 1, .ref 2, .int 2]), .inr (.int, [.int w0, .int w1, .int 0, .int 0]), .inr (.int, [.int c0, .int c1, .int 0, .int 0]), .inl (1, [.null, .null]), .inr (.int, [.int w0, .int w1])]) := by
  refine is_of f3_in fun go hgo => ?_
  refine t3_0 hgo ?_
  refine t3_1 hgo rfl ?_
  refine res_of (u3_2 hgo) ?_
  simp only [eq_self, and_self, true_and, and_true, not_true_eq_false, not_false_eq_true, if_true, if_false, reduceIte, Option.bind_some, List.getElem?_cons_zero, List.getElem?_cons_succ, Nat.reduceAdd, Nat.reduceSub, Nat.reduceLT, Nat.reduceLeDiff, Nat.le_refl, Nat.zero_add, Nat.add_zero, List.length_cons, List.length_nil, Int32.reduceLT, Int32.reduceToNatClampNeg, Int32.reduceAdd, Int32.reduceSub, Int32.reduceMul, decide_true, pR_ref, arr, ln0, ln1, ln2, ln3, ln4, ln5, ln6, ln7, ln8, ln9, ln10, ln11, ln12, ln13, ln14, ln15, ln16, ln17, ln18, ln19, ln20, ln21, ln22, ln23, ln24, ln25, ln26, ln27, ln28, ln29, ln30, ln31, ln32, ln33, ln34, ln35, ln36, F4_b (x := 4) (y := 2) (by decide)]
  refine t3_3f hgo (by decide) ?_
  refine t3_14 hgo ?_
  refine res_of (u3_15 hgo) ?_
  simp only [eq_self, and_self, true_and, and_true, not_true_eq_false, not_false_eq_true, if_true, if_false, reduceIte, Option.bind_some, List.getElem?_cons_zero, List.getElem?_cons_succ, Nat.reduceAdd, Nat.reduceSub, Nat.reduceLT, Nat.reduceLeDiff, Nat.le_refl, Nat.zero_add, Nat.add_zero, List.length_cons, List.length_nil, Int32.reduceLT, Int32.reduceToNatClampNeg, Int32.reduceAdd, Int32.reduceSub, Int32.reduceMul, decide_true, aArr, List.nil_append, List.cons_append, List.replicate_zero, List.replicate_succ, defaultValue, F4_b (x := 4) (y := 2) (by decide)]
  refine t3_17 hgo rfl rfl ?_
  refine t3_18 hgo rfl ?_
  refine t3_19 hgo ?_
  refine t3_20 hgo rfl ?_
  refine t3_21 hgo ?_
  refine t3_22 hgo rfl ?_
  refine res_of (u3_23 hgo) ?_
  simp only [eq_self, and_self, true_and, and_true, not_true_eq_false, not_false_eq_true, if_true, if_false, reduceIte, Option.bind_some, List.getElem?_cons_zero, List.getElem?_cons_succ, Nat.reduceAdd, Nat.reduceSub, Nat.reduceLT, Nat.reduceLeDiff, Nat.le_refl, Nat.zero_add, Nat.add_zero, List.length_cons, List.length_nil, Int32.reduceLT, Int32.reduceToNatClampNeg, Int32.reduceAdd, Int32.reduceSub, Int32.reduceMul, decide_true, pR_ref, arr, ln0, ln1, ln2, ln3, ln4, ln5, ln6, ln7, ln8, ln9, ln10, ln11, ln12, ln13, ln14, ln15, ln16, ln17, ln18, ln19, ln20, ln21, ln22, ln23, ln24, ln25, ln26, ln27, ln28, ln29, ln30, ln31, ln32, ln33, ln34, ln35, ln36, F4_b (x := 4) (y := 2) (by decide)]
  refine t3_24 hgo ?_
  refine res_of (u3_25 hgo) ?_
  simp only [eq_self, and_self, true_and, and_true, not_true_eq_false, not_false_eq_true, if_true, if_false, reduceIte, Option.bind_some, List.getElem?_cons_zero, List.getElem?_cons_succ, Nat.reduceAdd, Nat.reduceSub, Nat.reduceLT, Nat.reduceLeDiff, Nat.le_refl, Nat.zero_add, Nat.add_zero, List.length_cons, List.length_nil, Int32.reduceLT, Int32.reduceToNatClampNeg, Int32.reduceAdd, Int32.reduceSub, Int32.reduceMul, decide_true, aCall, aRecv, aObj, obj, List.take_succ_cons, List.take_zero, List.drop_succ_cons, List.drop_zero, List.reverse_cons, List.reverse_nil, List.nil_append, List.cons_append, List.append_nil, List.map_cons, List.map_nil, List.sum_cons, List.sum_nil, cat_int, cat_long, cat_ref, cat_null, Option.toList_some, Option.toList_none, F4_b (x := 4) (y := 2) (by decide)]
  refine res_of (u3_28 hgo) ?_
  simp only [nr_i, nr_j, nr_a, nr_o, nr_b, nr_b1, nr_b0, ft_i, ft_j, ft_a, ft_o, ft_b, ft_b1, ft_b0, rV_nil, b_1, b_0, b_1r, b_0r, b_bb, b_and, i_10, i_01, eq_self, iff_self, not_true_eq_false, not_false_eq_true, ite_not, cat_int, cat_long, cat_ref, cat_null, and11, and01, Nat.reduceAdd, Nat.reduceSub, Nat.reduceMul, Nat.reduceLT, Nat.reduceLeDiff, Nat.reduceEqDiff, Int32.reduceAdd, Int32.reduceSub, Int32.reduceMul, Int32.reduceMod, Int32.reduceLT, Int32.reduceLE, Int32.reduceToNatClampNeg, Int64.reduceAdd, Int64.reduceSub, Int64.reduceLT, Nat.le_refl, Nat.zero_add, Nat.add_zero, and_self, Option.bind_some, Option.bind_none, gI, gL, gA, st1, st2, pI_int, pL_long, pA_ref, pA_null, pR_ref, p1_int, p1_ref, p1_null, ex_ishl, ex_ishr, ex_iushr, ex_idiv, ex_irem, ex_ineg, ex_i2b, ex_i2c, ex_i2s, ex_i2l, ex_l2i, ex_lneg, ex_lshl, ex_lshr, ex_lushr, ex_ldiv, ex_lrem, ex_lcmp, ex_dup, ex_pop, ex_dup_x1, ex_dup2, ex_ifnull, ex_ifnonnull, ex_if_acmp, ex_arraylength, ex_iaload, ex_baload, ex_caload, ex_laload, ex_aaload, ex_iastore, ex_bastore, ex_castore, ex_lastore, ex_ldc, ex_ldc_w, ex_ldc2_w, ex_getfield, ex_putfield, ex_getstatic, ex_new, ex_invokestatic, ex_invokespecial, ex_invokevirtual, ex_checkcast, ex_instanceof, ex_anewarray, ex_newarray, ex_ireturn, ex_lreturn, ex_areturn, ex_return, br_d, br_n, br_t, br_f, spc, look, aI, aJ, aGet, aPut, aNew, aArr, aObj, aCall, aRecv, obj, arr, ald, ast, astL, isT, isBZ, atn, refEq, acV, List.getElem?_cons_zero, List.getElem?_cons_succ, List.set_cons_zero, List.set_cons_succ, List.take_succ_cons, List.take_zero, List.drop_succ_cons, List.drop_zero, List.reverse_cons, List.reverse_nil, List.nil_append, List.cons_append, List.map_cons, List.map_nil, List.sum_cons, List.sum_nil, List.length_cons, List.length_nil, Option.toList_some, Option.toList_none, List.append_nil, true_and, and_true, not_false_eq_true, decide_true, decide_false, Bool.not_true, Bool.not_false, if_true, if_false, reduceIte, Option.map_some, nar, defaultValue, List.replicate_zero, List.replicate_succ, ln0, ln1, ln2, ln3, ln4, ln5, ln6, ln7, ln8, ln9, ln10, ln11, ln12, ln13, ln14, ln15, ln16, ln17, ln18, ln19, ln20, ln21, ln22, ln23, ln24, ln25, ln26, ln27, ln28, ln29, ln30, ln31, ln32, ln33, ln34, ln35, ln36, aSta, aCast, aClone, aCopy, F4_b (x := 4) (y := 2) (by decide)]
  refine t3_31 hgo rfl ?_
  refine t3_32 hgo rfl ?_
  exact is_r
set_option maxRecDepth 65536 in
set_option maxHeartbeats 4000000 in
theorem bc_2 {w0 w1 c0 c1 : Int32} : F3 [.ref 2, .int 2] [.inl (0, [.ref 1, .ref 2, .int 2]), .inr (.int, [.int w0, .int w1, .int 0, .int 0]), .inr (.int, [.int c0, .int c1, .int 0, .int 0]), .inl (1, [.null, .null]), .inr (.int, [.int w0, .int w1])] = some (some (.ref 5), [.inl (0, [.ref 1, .ref 2, .int 2]), .inr (.int, [.int w0, .int w1, .int 0, .int 0]), .inr (.int, [.int c0, .int c1, .int 0, .int 0]), .inl (1, [.null, .null]), .inr (.int, [.int w0, .int w1]), .inr (.int, [.int c0, .int c1])]) := by
  refine is_of f3_in fun go hgo => ?_
  refine t3_0 hgo ?_
  refine t3_1 hgo rfl ?_
  refine res_of (u3_2 hgo) ?_
  simp only [eq_self, and_self, true_and, and_true, not_true_eq_false, not_false_eq_true, if_true, if_false, reduceIte, Option.bind_some, List.getElem?_cons_zero, List.getElem?_cons_succ, Nat.reduceAdd, Nat.reduceSub, Nat.reduceLT, Nat.reduceLeDiff, Nat.le_refl, Nat.zero_add, Nat.add_zero, List.length_cons, List.length_nil, Int32.reduceLT, Int32.reduceToNatClampNeg, Int32.reduceAdd, Int32.reduceSub, Int32.reduceMul, decide_true, pR_ref, arr, ln0, ln1, ln2, ln3, ln4, ln5, ln6, ln7, ln8, ln9, ln10, ln11, ln12, ln13, ln14, ln15, ln16, ln17, ln18, ln19, ln20, ln21, ln22, ln23, ln24, ln25, ln26, ln27, ln28, ln29, ln30, ln31, ln32, ln33, ln34, ln35, ln36, F4_b (x := 4) (y := 2) (by decide)]
  refine t3_3f hgo (by decide) ?_
  refine t3_14 hgo ?_
  refine res_of (u3_15 hgo) ?_
  simp only [eq_self, and_self, true_and, and_true, not_true_eq_false, not_false_eq_true, if_true, if_false, reduceIte, Option.bind_some, List.getElem?_cons_zero, List.getElem?_cons_succ, Nat.reduceAdd, Nat.reduceSub, Nat.reduceLT, Nat.reduceLeDiff, Nat.le_refl, Nat.zero_add, Nat.add_zero, List.length_cons, List.length_nil, Int32.reduceLT, Int32.reduceToNatClampNeg, Int32.reduceAdd, Int32.reduceSub, Int32.reduceMul, decide_true, aArr, List.nil_append, List.cons_append, List.replicate_zero, List.replicate_succ, defaultValue, F4_b (x := 4) (y := 2) (by decide)]
  refine t3_17 hgo rfl rfl ?_
  refine t3_18 hgo rfl ?_
  refine t3_19 hgo ?_
  refine t3_20 hgo rfl ?_
  refine t3_21 hgo ?_
  refine t3_22 hgo rfl ?_
  refine res_of (u3_23 hgo) ?_
  simp only [eq_self, and_self, true_and, and_true, not_true_eq_false, not_false_eq_true, if_true, if_false, reduceIte, Option.bind_some, List.getElem?_cons_zero, List.getElem?_cons_succ, Nat.reduceAdd, Nat.reduceSub, Nat.reduceLT, Nat.reduceLeDiff, Nat.le_refl, Nat.zero_add, Nat.add_zero, List.length_cons, List.length_nil, Int32.reduceLT, Int32.reduceToNatClampNeg, Int32.reduceAdd, Int32.reduceSub, Int32.reduceMul, decide_true, pR_ref, arr, ln0, ln1, ln2, ln3, ln4, ln5, ln6, ln7, ln8, ln9, ln10, ln11, ln12, ln13, ln14, ln15, ln16, ln17, ln18, ln19, ln20, ln21, ln22, ln23, ln24, ln25, ln26, ln27, ln28, ln29, ln30, ln31, ln32, ln33, ln34, ln35, ln36, F4_b (x := 4) (y := 2) (by decide)]
  refine t3_24 hgo ?_
  refine res_of (u3_25 hgo) ?_
  simp only [eq_self, and_self, true_and, and_true, not_true_eq_false, not_false_eq_true, if_true, if_false, reduceIte, Option.bind_some, List.getElem?_cons_zero, List.getElem?_cons_succ, Nat.reduceAdd, Nat.reduceSub, Nat.reduceLT, Nat.reduceLeDiff, Nat.le_refl, Nat.zero_add, Nat.add_zero, List.length_cons, List.length_nil, Int32.reduceLT, Int32.reduceToNatClampNeg, Int32.reduceAdd, Int32.reduceSub, Int32.reduceMul, decide_true, aCall, aRecv, aObj, obj, List.take_succ_cons, List.take_zero, List.drop_succ_cons, List.drop_zero, List.reverse_cons, List.reverse_nil, List.nil_append, List.cons_append, List.append_nil, List.map_cons, List.map_nil, List.sum_cons, List.sum_nil, cat_int, cat_long, cat_ref, cat_null, Option.toList_some, Option.toList_none, F4_b (x := 4) (y := 2) (by decide)]
  refine res_of (u3_28 hgo) ?_
  simp only [nr_i, nr_j, nr_a, nr_o, nr_b, nr_b1, nr_b0, ft_i, ft_j, ft_a, ft_o, ft_b, ft_b1, ft_b0, rV_nil, b_1, b_0, b_1r, b_0r, b_bb, b_and, i_10, i_01, eq_self, iff_self, not_true_eq_false, not_false_eq_true, ite_not, cat_int, cat_long, cat_ref, cat_null, and11, and01, Nat.reduceAdd, Nat.reduceSub, Nat.reduceMul, Nat.reduceLT, Nat.reduceLeDiff, Nat.reduceEqDiff, Int32.reduceAdd, Int32.reduceSub, Int32.reduceMul, Int32.reduceMod, Int32.reduceLT, Int32.reduceLE, Int32.reduceToNatClampNeg, Int64.reduceAdd, Int64.reduceSub, Int64.reduceLT, Nat.le_refl, Nat.zero_add, Nat.add_zero, and_self, Option.bind_some, Option.bind_none, gI, gL, gA, st1, st2, pI_int, pL_long, pA_ref, pA_null, pR_ref, p1_int, p1_ref, p1_null, ex_ishl, ex_ishr, ex_iushr, ex_idiv, ex_irem, ex_ineg, ex_i2b, ex_i2c, ex_i2s, ex_i2l, ex_l2i, ex_lneg, ex_lshl, ex_lshr, ex_lushr, ex_ldiv, ex_lrem, ex_lcmp, ex_dup, ex_pop, ex_dup_x1, ex_dup2, ex_ifnull, ex_ifnonnull, ex_if_acmp, ex_arraylength, ex_iaload, ex_baload, ex_caload, ex_laload, ex_aaload, ex_iastore, ex_bastore, ex_castore, ex_lastore, ex_ldc, ex_ldc_w, ex_ldc2_w, ex_getfield, ex_putfield, ex_getstatic, ex_new, ex_invokestatic, ex_invokespecial, ex_invokevirtual, ex_checkcast, ex_instanceof, ex_anewarray, ex_newarray, ex_ireturn, ex_lreturn, ex_areturn, ex_return, br_d, br_n, br_t, br_f, spc, look, aI, aJ, aGet, aPut, aNew, aArr, aObj, aCall, aRecv, obj, arr, ald, ast, astL, isT, isBZ, atn, refEq, acV, List.getElem?_cons_zero, List.getElem?_cons_succ, List.set_cons_zero, List.set_cons_succ, List.take_succ_cons, List.take_zero, List.drop_succ_cons, List.drop_zero, List.reverse_cons, List.reverse_nil, List.nil_append, List.cons_append, List.map_cons, List.map_nil, List.sum_cons, List.sum_nil, List.length_cons, List.length_nil, Option.toList_some, Option.toList_none, List.append_nil, true_and, and_true, not_false_eq_true, decide_true, decide_false, Bool.not_true, Bool.not_false, if_true, if_false, reduceIte, Option.map_some, nar, defaultValue, List.replicate_zero, List.replicate_succ, ln0, ln1, ln2, ln3, ln4, ln5, ln6, ln7, ln8, ln9, ln10, ln11, ln12, ln13, ln14, ln15, ln16, ln17, ln18, ln19, ln20, ln21, ln22, ln23, ln24, ln25, ln26, ln27, ln28, ln29, ln30, ln31, ln32, ln33, ln34, ln35, ln36, aSta, aCast, aClone, aCopy, F4_b (x := 4) (y := 2) (by decide)]
  refine t3_31 hgo rfl ?_
  refine t3_32 hgo rfl ?_
  exact is_r
set_option maxRecDepth 65536 in
set_option maxHeartbeats 4000000 in
theorem bi_2 {w0 w1 c0 c1 : Int32} : F5 [.ref 3, .ref 4, .ref 5] [.inl (0, [.ref 1, .ref 2, .int 2]), .inr (.int, [.int w0, .int w1, .int 0, .int 0]), .inr (.int, [.int c0, .int c1, .int 0, .int 0]), .inl (1, [.null, .null]), .inr (.int, [.int w0, .int w1]), .inr (.int, [.int c0, .int c1])] = some (none, [.inl (0, [.ref 1, .ref 2, .int 2]), .inr (.int, [.int w0, .int w1, .int 0, .int 0]), .inr (.int, [.int c0, .int c1, .int 0, .int 0]), .inl (1, [.ref 4, .ref 5]), .inr (.int, [.int w0, .int w1]), .inr (.int, [.int c0, .int c1])]) := by
  refine is_of f5_in fun go hgo => ?_
  refine t5_0 hgo rfl ?_
  refine res_of (u5_1 hgo) ?_
  simp only [eq_self, and_self, true_and, and_true, not_true_eq_false, not_false_eq_true, if_true, if_false, reduceIte, Option.bind_some, List.getElem?_cons_zero, List.getElem?_cons_succ, Nat.reduceAdd, Nat.reduceSub, Nat.reduceLT, Nat.reduceLeDiff, Nat.le_refl, Nat.zero_add, Nat.add_zero, List.length_cons, List.length_nil, Int32.reduceLT, Int32.reduceToNatClampNeg, Int32.reduceAdd, Int32.reduceSub, Int32.reduceMul, decide_true, aCall, aRecv, aObj, obj, List.take_succ_cons, List.take_zero, List.drop_succ_cons, List.drop_zero, List.reverse_cons, List.reverse_nil, List.nil_append, List.cons_append, List.append_nil, List.map_cons, List.map_nil, List.sum_cons, List.sum_nil, cat_int, cat_long, cat_ref, cat_null, Option.toList_some, Option.toList_none]
  refine t5_4 hgo rfl ?_
  refine t5_5 hgo rfl ?_
  refine res_of (u5_6 hgo) ?_
  simp only [eq_self, and_self, true_and, and_true, not_true_eq_false, not_false_eq_true, if_true, if_false, reduceIte, Option.bind_some, List.getElem?_cons_zero, List.getElem?_cons_succ, Nat.reduceAdd, Nat.reduceSub, Nat.reduceLT, Nat.reduceLeDiff, Nat.le_refl, Nat.zero_add, Nat.add_zero, List.length_cons, List.length_nil, Int32.reduceLT, Int32.reduceToNatClampNeg, Int32.reduceAdd, Int32.reduceSub, Int32.reduceMul, decide_true, aPut, obj, nr_i, nr_j, nr_a, nr_o, nr_b, nr_b1, nr_b0, ft_i, ft_j, ft_a, ft_o, ft_b, ft_b1, ft_b0, List.set_cons_zero, List.set_cons_succ]
  refine t5_9 hgo rfl ?_
  refine t5_10 hgo rfl ?_
  refine res_of (u5_11 hgo) ?_
  simp only [eq_self, and_self, true_and, and_true, not_true_eq_false, not_false_eq_true, if_true, if_false, reduceIte, Option.bind_some, List.getElem?_cons_zero, List.getElem?_cons_succ, Nat.reduceAdd, Nat.reduceSub, Nat.reduceLT, Nat.reduceLeDiff, Nat.le_refl, Nat.zero_add, Nat.add_zero, List.length_cons, List.length_nil, Int32.reduceLT, Int32.reduceToNatClampNeg, Int32.reduceAdd, Int32.reduceSub, Int32.reduceMul, decide_true, aPut, obj, nr_i, nr_j, nr_a, nr_o, nr_b, nr_b1, nr_b0, ft_i, ft_j, ft_a, ft_o, ft_b, ft_b1, ft_b0, List.set_cons_zero, List.set_cons_succ]
  refine t5_14 hgo ?_
  exact is_r
set_option maxRecDepth 65536 in
set_option maxHeartbeats 4000000 in
theorem build_2 {w0 w1 c0 c1 : Int32} : F2 [.ref 0] [.inl (0, [.ref 1, .ref 2, .int 2]), .inr (.int, [.int w0, .int w1, .int 0, .int 0]), .inr (.int, [.int c0, .int c1, .int 0, .int 0])] = some (some (.ref 3), [.inl (0, [.ref 1, .ref 2, .int 2]), .inr (.int, [.int w0, .int w1, .int 0, .int 0]), .inr (.int, [.int c0, .int c1, .int 0, .int 0]), .inl (1, [.ref 4, .ref 5]), .inr (.int, [.int w0, .int w1]), .inr (.int, [.int c0, .int c1])]) := by
  refine is_of f2_in fun go hgo => ?_
  refine res_of (u2_0 hgo) ?_
  simp only [eq_self, and_self, true_and, and_true, not_true_eq_false, not_false_eq_true, if_true, if_false, reduceIte, Option.bind_some, List.getElem?_cons_zero, List.getElem?_cons_succ, Nat.reduceAdd, Nat.reduceSub, Nat.reduceLT, Nat.reduceLeDiff, Nat.le_refl, Nat.zero_add, Nat.add_zero, List.length_cons, List.length_nil, Int32.reduceLT, Int32.reduceToNatClampNeg, Int32.reduceAdd, Int32.reduceSub, Int32.reduceMul, decide_true, aNew, List.nil_append, List.cons_append, bv_2, bc_2, bi_2]
  refine t2_3 hgo rfl ?_
  refine t2_4 hgo rfl ?_
  refine res_of (u2_5 hgo) ?_
  simp only [eq_self, and_self, true_and, and_true, not_true_eq_false, not_false_eq_true, if_true, if_false, reduceIte, Option.bind_some, List.getElem?_cons_zero, List.getElem?_cons_succ, Nat.reduceAdd, Nat.reduceSub, Nat.reduceLT, Nat.reduceLeDiff, Nat.le_refl, Nat.zero_add, Nat.add_zero, List.length_cons, List.length_nil, Int32.reduceLT, Int32.reduceToNatClampNeg, Int32.reduceAdd, Int32.reduceSub, Int32.reduceMul, decide_true, aGet, obj, bv_2, bc_2, bi_2]
  refine t2_8 hgo rfl ?_
  refine res_of (u2_9 hgo) ?_
  simp only [eq_self, and_self, true_and, and_true, not_true_eq_false, not_false_eq_true, if_true, if_false, reduceIte, Option.bind_some, List.getElem?_cons_zero, List.getElem?_cons_succ, Nat.reduceAdd, Nat.reduceSub, Nat.reduceLT, Nat.reduceLeDiff, Nat.le_refl, Nat.zero_add, Nat.add_zero, List.length_cons, List.length_nil, Int32.reduceLT, Int32.reduceToNatClampNeg, Int32.reduceAdd, Int32.reduceSub, Int32.reduceMul, decide_true, aGet, obj, bv_2, bc_2, bi_2]
  refine res_of (u2_12 hgo) ?_
  simp only [eq_self, and_self, true_and, and_true, not_true_eq_false, not_false_eq_true, if_true, if_false, reduceIte, Option.bind_some, List.getElem?_cons_zero, List.getElem?_cons_succ, Nat.reduceAdd, Nat.reduceSub, Nat.reduceLT, Nat.reduceLeDiff, Nat.le_refl, Nat.zero_add, Nat.add_zero, List.length_cons, List.length_nil, Int32.reduceLT, Int32.reduceToNatClampNeg, Int32.reduceAdd, Int32.reduceSub, Int32.reduceMul, decide_true, aCall, aRecv, aObj, obj, List.take_succ_cons, List.take_zero, List.drop_succ_cons, List.drop_zero, List.reverse_cons, List.reverse_nil, List.nil_append, List.cons_append, List.append_nil, List.map_cons, List.map_nil, List.sum_cons, List.sum_nil, cat_int, cat_long, cat_ref, cat_null, Option.toList_some, Option.toList_none, bv_2, bc_2, bi_2]
  refine t2_15 hgo rfl ?_
  refine res_of (u2_16 hgo) ?_
  simp only [eq_self, and_self, true_and, and_true, not_true_eq_false, not_false_eq_true, if_true, if_false, reduceIte, Option.bind_some, List.getElem?_cons_zero, List.getElem?_cons_succ, Nat.reduceAdd, Nat.reduceSub, Nat.reduceLT, Nat.reduceLeDiff, Nat.le_refl, Nat.zero_add, Nat.add_zero, List.length_cons, List.length_nil, Int32.reduceLT, Int32.reduceToNatClampNeg, Int32.reduceAdd, Int32.reduceSub, Int32.reduceMul, decide_true, aGet, obj, bv_2, bc_2, bi_2]
  refine t2_19 hgo rfl ?_
  refine res_of (u2_20 hgo) ?_
  simp only [eq_self, and_self, true_and, and_true, not_true_eq_false, not_false_eq_true, if_true, if_false, reduceIte, Option.bind_some, List.getElem?_cons_zero, List.getElem?_cons_succ, Nat.reduceAdd, Nat.reduceSub, Nat.reduceLT, Nat.reduceLeDiff, Nat.le_refl, Nat.zero_add, Nat.add_zero, List.length_cons, List.length_nil, Int32.reduceLT, Int32.reduceToNatClampNeg, Int32.reduceAdd, Int32.reduceSub, Int32.reduceMul, decide_true, aGet, obj, bv_2, bc_2, bi_2]
  refine res_of (u2_23 hgo) ?_
  simp only [eq_self, and_self, true_and, and_true, not_true_eq_false, not_false_eq_true, if_true, if_false, reduceIte, Option.bind_some, List.getElem?_cons_zero, List.getElem?_cons_succ, Nat.reduceAdd, Nat.reduceSub, Nat.reduceLT, Nat.reduceLeDiff, Nat.le_refl, Nat.zero_add, Nat.add_zero, List.length_cons, List.length_nil, Int32.reduceLT, Int32.reduceToNatClampNeg, Int32.reduceAdd, Int32.reduceSub, Int32.reduceMul, decide_true, aCall, aRecv, aObj, obj, List.take_succ_cons, List.take_zero, List.drop_succ_cons, List.drop_zero, List.reverse_cons, List.reverse_nil, List.nil_append, List.cons_append, List.append_nil, List.map_cons, List.map_nil, List.sum_cons, List.sum_nil, cat_int, cat_long, cat_ref, cat_null, Option.toList_some, Option.toList_none, bv_2, bc_2, bi_2]
  refine res_of (u2_26 hgo) ?_
  simp only [eq_self, and_self, true_and, and_true, not_true_eq_false, not_false_eq_true, if_true, if_false, reduceIte, Option.bind_some, List.getElem?_cons_zero, List.getElem?_cons_succ, Nat.reduceAdd, Nat.reduceSub, Nat.reduceLT, Nat.reduceLeDiff, Nat.le_refl, Nat.zero_add, Nat.add_zero, List.length_cons, List.length_nil, Int32.reduceLT, Int32.reduceToNatClampNeg, Int32.reduceAdd, Int32.reduceSub, Int32.reduceMul, decide_true, aCall, aRecv, aObj, obj, List.take_succ_cons, List.take_zero, List.drop_succ_cons, List.drop_zero, List.reverse_cons, List.reverse_nil, List.nil_append, List.cons_append, List.append_nil, List.map_cons, List.map_nil, List.sum_cons, List.sum_nil, cat_int, cat_long, cat_ref, cat_null, Option.toList_some, Option.toList_none, bv_2, bc_2, bi_2]
  refine t2_29 hgo rfl ?_
  exact is_r
set_option maxRecDepth 65536 in
set_option maxHeartbeats 4000000 in
theorem size_2 {w0 w1 c0 c1 : Int32} : F6 [.ref 3] [.inl (0, [.ref 1, .ref 2, .int 2]), .inr (.int, [.int w0, .int w1, .int 0, .int 0]), .inr (.int, [.int c0, .int c1, .int 0, .int 0]), .inl (1, [.ref 4, .ref 5]), .inr (.int, [.int w0, .int w1]), .inr (.int, [.int c0, .int c1])] = some (some (.int 2), [.inl (0, [.ref 1, .ref 2, .int 2]), .inr (.int, [.int w0, .int w1, .int 0, .int 0]), .inr (.int, [.int c0, .int c1, .int 0, .int 0]), .inl (1, [.ref 4, .ref 5]), .inr (.int, [.int w0, .int w1]), .inr (.int, [.int c0, .int c1])]) := by
  refine is_of f6_in fun go hgo => ?_
  refine t6_0 hgo rfl ?_
  refine res_of (u6_1 hgo) ?_
  simp only [eq_self, and_self, true_and, and_true, not_true_eq_false, not_false_eq_true, if_true, if_false, reduceIte, Option.bind_some, List.getElem?_cons_zero, List.getElem?_cons_succ, Nat.reduceAdd, Nat.reduceSub, Nat.reduceLT, Nat.reduceLeDiff, Nat.le_refl, Nat.zero_add, Nat.add_zero, List.length_cons, List.length_nil, Int32.reduceLT, Int32.reduceToNatClampNeg, Int32.reduceAdd, Int32.reduceSub, Int32.reduceMul, decide_true, aGet, obj]
  refine res_of (u6_4 hgo) ?_
  simp only [eq_self, and_self, true_and, and_true, not_true_eq_false, not_false_eq_true, if_true, if_false, reduceIte, Option.bind_some, List.getElem?_cons_zero, List.getElem?_cons_succ, Nat.reduceAdd, Nat.reduceSub, Nat.reduceLT, Nat.reduceLeDiff, Nat.le_refl, Nat.zero_add, Nat.add_zero, List.length_cons, List.length_nil, Int32.reduceLT, Int32.reduceToNatClampNeg, Int32.reduceAdd, Int32.reduceSub, Int32.reduceMul, decide_true, pR_ref, arr, ln0, ln1, ln2, ln3, ln4, ln5, ln6, ln7, ln8, ln9, ln10, ln11, ln12, ln13, ln14, ln15, ln16, ln17, ln18, ln19, ln20, ln21, ln22, ln23, ln24, ln25, ln26, ln27, ln28, ln29, ln30, ln31, ln32, ln33, ln34, ln35, ln36]
  refine t6_5 hgo ?_
  exact is_r
set_option maxRecDepth 65536 in
set_option maxHeartbeats 4000000 in
theorem val_2_0 {w0 w1 c0 c1 : Int32} : F9 [.ref 3, .int 0] [.inl (0, [.ref 1, .ref 2, .int 2]), .inr (.int, [.int w0, .int w1, .int 0, .int 0]), .inr (.int, [.int c0, .int c1, .int 0, .int 0]), .inl (1, [.ref 4, .ref 5]), .inr (.int, [.int w0, .int w1]), .inr (.int, [.int c0, .int c1])] = some (some (.int w0), [.inl (0, [.ref 1, .ref 2, .int 2]), .inr (.int, [.int w0, .int w1, .int 0, .int 0]), .inr (.int, [.int c0, .int c1, .int 0, .int 0]), .inl (1, [.ref 4, .ref 5]), .inr (.int, [.int w0, .int w1]), .inr (.int, [.int c0, .int c1])]) := by
  refine is_of f9_in fun go hgo => ?_
  refine t9_0 hgo rfl ?_
  refine res_of (u9_1 hgo) ?_
  simp only [eq_self, and_self, true_and, and_true, not_true_eq_false, not_false_eq_true, if_true, if_false, reduceIte, Option.bind_some, List.getElem?_cons_zero, List.getElem?_cons_succ, Nat.reduceAdd, Nat.reduceSub, Nat.reduceLT, Nat.reduceLeDiff, Nat.le_refl, Nat.zero_add, Nat.add_zero, List.length_cons, List.length_nil, Int32.reduceLT, Int32.reduceToNatClampNeg, Int32.reduceAdd, Int32.reduceSub, Int32.reduceMul, decide_true, aGet, obj]
  refine t9_4 hgo ?_
  refine res_of (u9_5 hgo) ?_
  simp only [eq_self, and_self, true_and, and_true, not_true_eq_false, not_false_eq_true, if_true, if_false, reduceIte, Option.bind_some, List.getElem?_cons_zero, List.getElem?_cons_succ, Nat.reduceAdd, Nat.reduceSub, Nat.reduceLT, Nat.reduceLeDiff, Nat.le_refl, Nat.zero_add, Nat.add_zero, List.length_cons, List.length_nil, Int32.reduceLT, Int32.reduceToNatClampNeg, Int32.reduceAdd, Int32.reduceSub, Int32.reduceMul, decide_true, ex_iaload, ald, pI_int, pR_ref, arr, isT, isBZ]
  refine t9_6 hgo ?_
  exact is_r
set_option maxRecDepth 65536 in
set_option maxHeartbeats 4000000 in
theorem cnt_2_0 {w0 w1 c0 c1 : Int32} : F10 [.ref 3, .int 0] [.inl (0, [.ref 1, .ref 2, .int 2]), .inr (.int, [.int w0, .int w1, .int 0, .int 0]), .inr (.int, [.int c0, .int c1, .int 0, .int 0]), .inl (1, [.ref 4, .ref 5]), .inr (.int, [.int w0, .int w1]), .inr (.int, [.int c0, .int c1])] = some (some (.int c0), [.inl (0, [.ref 1, .ref 2, .int 2]), .inr (.int, [.int w0, .int w1, .int 0, .int 0]), .inr (.int, [.int c0, .int c1, .int 0, .int 0]), .inl (1, [.ref 4, .ref 5]), .inr (.int, [.int w0, .int w1]), .inr (.int, [.int c0, .int c1])]) := by
  refine is_of f10_in fun go hgo => ?_
  refine t10_0 hgo rfl ?_
  refine res_of (u10_1 hgo) ?_
  simp only [eq_self, and_self, true_and, and_true, not_true_eq_false, not_false_eq_true, if_true, if_false, reduceIte, Option.bind_some, List.getElem?_cons_zero, List.getElem?_cons_succ, Nat.reduceAdd, Nat.reduceSub, Nat.reduceLT, Nat.reduceLeDiff, Nat.le_refl, Nat.zero_add, Nat.add_zero, List.length_cons, List.length_nil, Int32.reduceLT, Int32.reduceToNatClampNeg, Int32.reduceAdd, Int32.reduceSub, Int32.reduceMul, decide_true, aGet, obj]
  refine t10_4 hgo ?_
  refine res_of (u10_5 hgo) ?_
  simp only [eq_self, and_self, true_and, and_true, not_true_eq_false, not_false_eq_true, if_true, if_false, reduceIte, Option.bind_some, List.getElem?_cons_zero, List.getElem?_cons_succ, Nat.reduceAdd, Nat.reduceSub, Nat.reduceLT, Nat.reduceLeDiff, Nat.le_refl, Nat.zero_add, Nat.add_zero, List.length_cons, List.length_nil, Int32.reduceLT, Int32.reduceToNatClampNeg, Int32.reduceAdd, Int32.reduceSub, Int32.reduceMul, decide_true, ex_iaload, ald, pI_int, pR_ref, arr, isT, isBZ]
  refine t10_6 hgo ?_
  exact is_r
set_option maxRecDepth 65536 in
set_option maxHeartbeats 4000000 in
theorem val_2_1 {w0 w1 c0 c1 : Int32} : F9 [.ref 3, .int 1] [.inl (0, [.ref 1, .ref 2, .int 2]), .inr (.int, [.int w0, .int w1, .int 0, .int 0]), .inr (.int, [.int c0, .int c1, .int 0, .int 0]), .inl (1, [.ref 4, .ref 5]), .inr (.int, [.int w0, .int w1]), .inr (.int, [.int c0, .int c1])] = some (some (.int w1), [.inl (0, [.ref 1, .ref 2, .int 2]), .inr (.int, [.int w0, .int w1, .int 0, .int 0]), .inr (.int, [.int c0, .int c1, .int 0, .int 0]), .inl (1, [.ref 4, .ref 5]), .inr (.int, [.int w0, .int w1]), .inr (.int, [.int c0, .int c1])]) := by
  refine is_of f9_in fun go hgo => ?_
  refine t9_0 hgo rfl ?_
  refine res_of (u9_1 hgo) ?_
  simp only [eq_self, and_self, true_and, and_true, not_true_eq_false, not_false_eq_true, if_true, if_false, reduceIte, Option.bind_some, List.getElem?_cons_zero, List.getElem?_cons_succ, Nat.reduceAdd, Nat.reduceSub, Nat.reduceLT, Nat.reduceLeDiff, Nat.le_refl, Nat.zero_add, Nat.add_zero, List.length_cons, List.length_nil, Int32.reduceLT, Int32.reduceToNatClampNeg, Int32.reduceAdd, Int32.reduceSub, Int32.reduceMul, decide_true, aGet, obj]
  refine t9_4 hgo ?_
  refine res_of (u9_5 hgo) ?_
  simp only [eq_self, and_self, true_and, and_true, not_true_eq_false, not_false_eq_true, if_true, if_false, reduceIte, Option.bind_some, List.getElem?_cons_zero, List.getElem?_cons_succ, Nat.reduceAdd, Nat.reduceSub, Nat.reduceLT, Nat.reduceLeDiff, Nat.le_refl, Nat.zero_add, Nat.add_zero, List.length_cons, List.length_nil, Int32.reduceLT, Int32.reduceToNatClampNeg, Int32.reduceAdd, Int32.reduceSub, Int32.reduceMul, decide_true, ex_iaload, ald, pI_int, pR_ref, arr, isT, isBZ]
  refine t9_6 hgo ?_
  exact is_r
set_option maxRecDepth 65536 in
set_option maxHeartbeats 4000000 in
theorem cnt_2_1 {w0 w1 c0 c1 : Int32} : F10 [.ref 3, .int 1] [.inl (0, [.ref 1, .ref 2, .int 2]), .inr (.int, [.int w0, .int w1, .int 0, .int 0]), .inr (.int, [.int c0, .int c1, .int 0, .int 0]), .inl (1, [.ref 4, .ref 5]), .inr (.int, [.int w0, .int w1]), .inr (.int, [.int c0, .int c1])] = some (some (.int c1), [.inl (0, [.ref 1, .ref 2, .int 2]), .inr (.int, [.int w0, .int w1, .int 0, .int 0]), .inr (.int, [.int c0, .int c1, .int 0, .int 0]), .inl (1, [.ref 4, .ref 5]), .inr (.int, [.int w0, .int w1]), .inr (.int, [.int c0, .int c1])]) := by
  refine is_of f10_in fun go hgo => ?_
  refine t10_0 hgo rfl ?_
  refine res_of (u10_1 hgo) ?_
  simp only [eq_self, and_self, true_and, and_true, not_true_eq_false, not_false_eq_true, if_true, if_false, reduceIte, Option.bind_some, List.getElem?_cons_zero, List.getElem?_cons_succ, Nat.reduceAdd, Nat.reduceSub, Nat.reduceLT, Nat.reduceLeDiff, Nat.le_refl, Nat.zero_add, Nat.add_zero, List.length_cons, List.length_nil, Int32.reduceLT, Int32.reduceToNatClampNeg, Int32.reduceAdd, Int32.reduceSub, Int32.reduceMul, decide_true, aGet, obj]
  refine t10_4 hgo ?_
  refine res_of (u10_5 hgo) ?_
  simp only [eq_self, and_self, true_and, and_true, not_true_eq_false, not_false_eq_true, if_true, if_false, reduceIte, Option.bind_some, List.getElem?_cons_zero, List.getElem?_cons_succ, Nat.reduceAdd, Nat.reduceSub, Nat.reduceLT, Nat.reduceLeDiff, Nat.le_refl, Nat.zero_add, Nat.add_zero, List.length_cons, List.length_nil, Int32.reduceLT, Int32.reduceToNatClampNeg, Int32.reduceAdd, Int32.reduceSub, Int32.reduceMul, decide_true, ex_iaload, ald, pI_int, pR_ref, arr, isT, isBZ]
  refine t10_6 hgo ?_
  exact is_r
set_option maxRecDepth 65536 in
set_option maxHeartbeats 4000000 in
theorem bv_3 {w0 w1 w2 c0 c1 c2 : Int32} : F3 [.ref 1, .int 3] [.inl (0, [.ref 1, .ref 2, .int 3]), .inr (.int, [.int w0, .int w1, .int w2, .int 0]), .inr (.int, [.int c0, .int c1, .int c2, .int 0]), .inl (1, [.null, .null])] = some (some (.ref 4), [.inl (0, [.ref 1, .ref 2, .int 3]), .inr (.int, [.int w0, .int w1, .int w2, .int 0]), .inr (.int, [.int c0, .int c1, .int c2, .int 0]), .inl (1, [.null, .null]), .inr (.int, [.int w0, .int w1, .int w2])]) := by
  refine is_of f3_in fun go hgo => ?_
  refine t3_0 hgo ?_
  refine t3_1 hgo rfl ?_
  refine res_of (u3_2 hgo) ?_
  simp only [eq_self, and_self, true_and, and_true, not_true_eq_false, not_false_eq_true, if_true, if_false, reduceIte, Option.bind_some, List.getElem?_cons_zero, List.getElem?_cons_succ, Nat.reduceAdd, Nat.reduceSub, Nat.reduceLT, Nat.reduceLeDiff, Nat.le_refl, Nat.zero_add, Nat.add_zero, List.length_cons, List.length_nil, Int32.reduceLT, Int32.reduceToNatClampNeg, Int32.reduceAdd, Int32.reduceSub, Int32.reduceMul, decide_true, pR_ref, arr, ln0, ln1, ln2, ln3, ln4, ln5, ln6, ln7, ln8, ln9, ln10, ln11, ln12, ln13, ln14, ln15, ln16, ln17, ln18, ln19, ln20, ln21, ln22, ln23, ln24, ln25, ln26, ln27, ln28, ln29, ln30, ln31, ln32, ln33, ln34, ln35, ln36, F4_b (x := 4) (y := 3) (by decide)]
  refine t3_3f hgo (by decide) ?_
  refine t3_14 hgo ?_
  refine res_of (u3_15 hgo) ?_
  simp only [eq_self, and_self, true_and, and_true, not_true_eq_false, not_false_eq_true, if_true, if_false, reduceIte, Option.bind_some, List.getElem?_cons_zero, List.getElem?_cons_succ, Nat.reduceAdd, Nat.reduceSub, Nat.reduceLT, Nat.reduceLeDiff, Nat.le_refl, Nat.zero_add, Nat.add_zero, List.length_cons, List.length_nil, Int32.reduceLT, Int32.reduceToNatClampNeg, Int32.reduceAdd, Int32.reduceSub, Int32.reduceMul, decide_true, aArr, List.nil_append, List.cons_append, List.replicate_zero, List.replicate_succ, defaultValue, F4_b (x := 4) (y := 3) (by decide)]
  refine t3_17 hgo rfl rfl ?_
  refine t3_18 hgo rfl ?_
  refine t3_19 hgo ?_
  refine t3_20 hgo rfl ?_
  refine t3_21 hgo ?_
  refine t3_22 hgo rfl ?_
  refine res_of (u3_23 hgo) ?_
  simp only [eq_self, and_self, true_and, and_true, not_true_eq_false, not_false_eq_true, if_true, if_false, reduceIte, Option.bind_some, List.getElem?_cons_zero, List.getElem?_cons_succ, Nat.reduceAdd, Nat.reduceSub, Nat.reduceLT, Nat.reduceLeDiff, Nat.le_refl, Nat.zero_add, Nat.add_zero, List.length_cons, List.length_nil, Int32.reduceLT, Int32.reduceToNatClampNeg, Int32.reduceAdd, Int32.reduceSub, Int32.reduceMul, decide_true, pR_ref, arr, ln0, ln1, ln2, ln3, ln4, ln5, ln6, ln7, ln8, ln9, ln10, ln11, ln12, ln13, ln14, ln15, ln16, ln17, ln18, ln19, ln20, ln21, ln22, ln23, ln24, ln25, ln26, ln27, ln28, ln29, ln30, ln31, ln32, ln33, ln34, ln35, ln36, F4_b (x := 4) (y := 3) (by decide)]
  refine t3_24 hgo ?_
  refine res_of (u3_25 hgo) ?_
  simp only [eq_self, and_self, true_and, and_true, not_true_eq_false, not_false_eq_true, if_true, if_false, reduceIte, Option.bind_some, List.getElem?_cons_zero, List.getElem?_cons_succ, Nat.reduceAdd, Nat.reduceSub, Nat.reduceLT, Nat.reduceLeDiff, Nat.le_refl, Nat.zero_add, Nat.add_zero, List.length_cons, List.length_nil, Int32.reduceLT, Int32.reduceToNatClampNeg, Int32.reduceAdd, Int32.reduceSub, Int32.reduceMul, decide_true, aCall, aRecv, aObj, obj, List.take_succ_cons, List.take_zero, List.drop_succ_cons, List.drop_zero, List.reverse_cons, List.reverse_nil, List.nil_append, List.cons_append, List.append_nil, List.map_cons, List.map_nil, List.sum_cons, List.sum_nil, cat_int, cat_long, cat_ref, cat_null, Option.toList_some, Option.toList_none, F4_b (x := 4) (y := 3) (by decide)]
  refine res_of (u3_28 hgo) ?_
  simp only [nr_i, nr_j, nr_a, nr_o, nr_b, nr_b1, nr_b0, ft_i, ft_j, ft_a, ft_o, ft_b, ft_b1, ft_b0, rV_nil, b_1, b_0, b_1r, b_0r, b_bb, b_and, i_10, i_01, eq_self, iff_self, not_true_eq_false, not_false_eq_true, ite_not, cat_int, cat_long, cat_ref, cat_null, and11, and01, Nat.reduceAdd, Nat.reduceSub, Nat.reduceMul, Nat.reduceLT, Nat.reduceLeDiff, Nat.reduceEqDiff, Int32.reduceAdd, Int32.reduceSub, Int32.reduceMul, Int32.reduceMod, Int32.reduceLT, Int32.reduceLE, Int32.reduceToNatClampNeg, Int64.reduceAdd, Int64.reduceSub, Int64.reduceLT, Nat.le_refl, Nat.zero_add, Nat.add_zero, and_self, Option.bind_some, Option.bind_none, gI, gL, gA, st1, st2, pI_int, pL_long, pA_ref, pA_null, pR_ref, p1_int, p1_ref, p1_null, ex_ishl, ex_ishr, ex_iushr, ex_idiv, ex_irem, ex_ineg, ex_i2b, ex_i2c, ex_i2s, ex_i2l, ex_l2i, ex_lneg, ex_lshl, ex_lshr, ex_lushr, ex_ldiv, ex_lrem, ex_lcmp, ex_dup, ex_pop, ex_dup_x1, ex_dup2, ex_ifnull, ex_ifnonnull, ex_if_acmp, ex_arraylength, ex_iaload, ex_baload, ex_caload, ex_laload, ex_aaload, ex_iastore, ex_bastore, ex_castore, ex_lastore, ex_ldc, ex_ldc_w, ex_ldc2_w, ex_getfield, ex_putfield, ex_getstatic, ex_new, ex_invokestatic, ex_invokespecial, ex_invokevirtual, ex_checkcast, ex_instanceof, ex_anewarray, ex_newarray, ex_ireturn, ex_lreturn, ex_areturn, ex_return, br_d, br_n, br_t, br_f, spc, look, aI, aJ, aGet, aPut, aNew, aArr, aObj, aCall, aRecv, obj, arr, ald, ast, astL, isT, isBZ, atn, refEq, acV, List.getElem?_cons_zero, List.getElem?_cons_succ, List.set_cons_zero, List.set_cons_succ, List.take_succ_cons, List.take_zero, List.drop_succ_cons, List.drop_zero, List.reverse_cons, List.reverse_nil, List.nil_append, List.cons_append, List.map_cons, List.map_nil, List.sum_cons, List.sum_nil, List.length_cons, List.length_nil, Option.toList_some, Option.toList_none, List.append_nil, true_and, and_true, not_false_eq_true, decide_true, decide_false, Bool.not_true, Bool.not_false, if_true, if_false, reduceIte, Option.map_some, nar, defaultValue, List.replicate_zero, List.replicate_succ, ln0, ln1, ln2, ln3, ln4, ln5, ln6, ln7, ln8, ln9, ln10, ln11, ln12, ln13, ln14, ln15, ln16, ln17, ln18, ln19, ln20, ln21, ln22, ln23, ln24, ln25, ln26, ln27, ln28, ln29, ln30, ln31, ln32, ln33, ln34, ln35, ln36, aSta, aCast, aClone, aCopy, F4_b (x := 4) (y := 3) (by decide)]
  refine t3_31 hgo rfl ?_
  refine t3_32 hgo rfl ?_
  exact is_r
set_option maxRecDepth 65536 in
set_option maxHeartbeats 4000000 in
theorem bc_3 {w0 w1 w2 c0 c1 c2 : Int32} : F3 [.ref 2, .int 3] [.inl (0, [.ref 1, .ref 2, .int 3]), .inr (.int, [.int w0, .int w1, .int w2, .int 0]), .inr (.int, [.int c0, .int c1, .int c2, .int 0]), .inl (1, [.null, .null]), .inr (.int, [.int w0, .int w1, .int w2])] = some (some (.ref 5), [.inl (0, [.ref 1, .ref 2, .int 3]), .inr (.int, [.int w0, .int w1, .int w2, .int 0]), .inr (.int, [.int c0, .int c1, .int c2, .int 0]), .inl (1, [.null, .null]), .inr (.int, [.int w0, .int w1, .int w2]), .inr (.int, [.int c0, .int c1, .int c2])]) := by
  refine is_of f3_in fun go hgo => ?_
  refine t3_0 hgo ?_
  refine t3_1 hgo rfl ?_
  refine res_of (u3_2 hgo) ?_
  simp only [eq_self, and_self, true_and, and_true, not_true_eq_false, not_false_eq_true, if_true, if_false, reduceIte, Option.bind_some, List.getElem?_cons_zero, List.getElem?_cons_succ, Nat.reduceAdd, Nat.reduceSub, Nat.reduceLT, Nat.reduceLeDiff, Nat.le_refl, Nat.zero_add, Nat.add_zero, List.length_cons, List.length_nil, Int32.reduceLT, Int32.reduceToNatClampNeg, Int32.reduceAdd, Int32.reduceSub, Int32.reduceMul, decide_true, pR_ref, arr, ln0, ln1, ln2, ln3, ln4, ln5, ln6, ln7, ln8, ln9, ln10, ln11, ln12, ln13, ln14, ln15, ln16, ln17, ln18, ln19, ln20, ln21, ln22, ln23, ln24, ln25, ln26, ln27, ln28, ln29, ln30, ln31, ln32, ln33, ln34, ln35, ln36, F4_b (x := 4) (y := 3) (by decide)]
  refine t3_3f hgo (by decide) ?_
  refine t3_14 hgo ?_
  refine res_of (u3_15 hgo) ?_
  simp only [eq_self, and_self, true_and, and_true, not_true_eq_false, not_false_eq_true, if_true, if_false, reduceIte, Option.bind_some, List.getElem?_cons_zero, List.getElem?_cons_succ, Nat.reduceAdd, Nat.reduceSub, Nat.reduceLT, Nat.reduceLeDiff, Nat.le_refl, Nat.zero_add, Nat.add_zero, List.length_cons, List.length_nil, Int32.reduceLT, Int32.reduceToNatClampNeg, Int32.reduceAdd, Int32.reduceSub, Int32.reduceMul, decide_true, aArr, List.nil_append, List.cons_append, List.replicate_zero, List.replicate_succ, defaultValue, F4_b (x := 4) (y := 3) (by decide)]
  refine t3_17 hgo rfl rfl ?_
  refine t3_18 hgo rfl ?_
  refine t3_19 hgo ?_
  refine t3_20 hgo rfl ?_
  refine t3_21 hgo ?_
  refine t3_22 hgo rfl ?_
  refine res_of (u3_23 hgo) ?_
  simp only [eq_self, and_self, true_and, and_true, not_true_eq_false, not_false_eq_true, if_true, if_false, reduceIte, Option.bind_some, List.getElem?_cons_zero, List.getElem?_cons_succ, Nat.reduceAdd, Nat.reduceSub, Nat.reduceLT, Nat.reduceLeDiff, Nat.le_refl, Nat.zero_add, Nat.add_zero, List.length_cons, List.length_nil, Int32.reduceLT, Int32.reduceToNatClampNeg, Int32.reduceAdd, Int32.reduceSub, Int32.reduceMul, decide_true, pR_ref, arr, ln0, ln1, ln2, ln3, ln4, ln5, ln6, ln7, ln8, ln9, ln10, ln11, ln12, ln13, ln14, ln15, ln16, ln17, ln18, ln19, ln20, ln21, ln22, ln23, ln24, ln25, ln26, ln27, ln28, ln29, ln30, ln31, ln32, ln33, ln34, ln35, ln36, F4_b (x := 4) (y := 3) (by decide)]
  refine t3_24 hgo ?_
  refine res_of (u3_25 hgo) ?_
  simp only [eq_self, and_self, true_and, and_true, not_true_eq_false, not_false_eq_true, if_true, if_false, reduceIte, Option.bind_some, List.getElem?_cons_zero, List.getElem?_cons_succ, Nat.reduceAdd, Nat.reduceSub, Nat.reduceLT, Nat.reduceLeDiff, Nat.le_refl, Nat.zero_add, Nat.add_zero, List.length_cons, List.length_nil, Int32.reduceLT, Int32.reduceToNatClampNeg, Int32.reduceAdd, Int32.reduceSub, Int32.reduceMul, decide_true, aCall, aRecv, aObj, obj, List.take_succ_cons, List.take_zero, List.drop_succ_cons, List.drop_zero, List.reverse_cons, List.reverse_nil, List.nil_append, List.cons_append, List.append_nil, List.map_cons, List.map_nil, List.sum_cons, List.sum_nil, cat_int, cat_long, cat_ref, cat_null, Option.toList_some, Option.toList_none, F4_b (x := 4) (y := 3) (by decide)]
  refine res_of (u3_28 hgo) ?_
  simp only [nr_i, nr_j, nr_a, nr_o, nr_b, nr_b1, nr_b0, ft_i, ft_j, ft_a, ft_o, ft_b, ft_b1, ft_b0, rV_nil, b_1, b_0, b_1r, b_0r, b_bb, b_and, i_10, i_01, eq_self, iff_self, not_true_eq_false, not_false_eq_true, ite_not, cat_int, cat_long, cat_ref, cat_null, and11, and01, Nat.reduceAdd, Nat.reduceSub, Nat.reduceMul, Nat.reduceLT, Nat.reduceLeDiff, Nat.reduceEqDiff, Int32.reduceAdd, Int32.reduceSub, Int32.reduceMul, Int32.reduceMod, Int32.reduceLT, Int32.reduceLE, Int32.reduceToNatClampNeg, Int64.reduceAdd, Int64.reduceSub, Int64.reduceLT, Nat.le_refl, Nat.zero_add, Nat.add_zero, and_self, Option.bind_some, Option.bind_none, gI, gL, gA, st1, st2, pI_int, pL_long, pA_ref, pA_null, pR_ref, p1_int, p1_ref, p1_null, ex_ishl, ex_ishr, ex_iushr, ex_idiv, ex_irem, ex_ineg, ex_i2b, ex_i2c, ex_i2s, ex_i2l, ex_l2i, ex_lneg, ex_lshl, ex_lshr, ex_lushr, ex_ldiv, ex_lrem, ex_lcmp, ex_dup, ex_pop, ex_dup_x1, ex_dup2, ex_ifnull, ex_ifnonnull, ex_if_acmp, ex_arraylength, ex_iaload, ex_baload, ex_caload, ex_laload, ex_aaload, ex_iastore, ex_bastore, ex_castore, ex_lastore, ex_ldc, ex_ldc_w, ex_ldc2_w, ex_getfield, ex_putfield, ex_getstatic, ex_new, ex_invokestatic, ex_invokespecial, ex_invokevirtual, ex_checkcast, ex_instanceof, ex_anewarray, ex_newarray, ex_ireturn, ex_lreturn, ex_areturn, ex_return, br_d, br_n, br_t, br_f, spc, look, aI, aJ, aGet, aPut, aNew, aArr, aObj, aCall, aRecv, obj, arr, ald, ast, astL, isT, isBZ, atn, refEq, acV, List.getElem?_cons_zero, List.getElem?_cons_succ, List.set_cons_zero, List.set_cons_succ, List.take_succ_cons, List.take_zero, List.drop_succ_cons, List.drop_zero, List.reverse_cons, List.reverse_nil, List.nil_append, List.cons_append, List.map_cons, List.map_nil, List.sum_cons, List.sum_nil, List.length_cons, List.length_nil, Option.toList_some, Option.toList_none, List.append_nil, true_and, and_true, not_false_eq_true, decide_true, decide_false, Bool.not_true, Bool.not_false, if_true, if_false, reduceIte, Option.map_some, nar, defaultValue, List.replicate_zero, List.replicate_succ, ln0, ln1, ln2, ln3, ln4, ln5, ln6, ln7, ln8, ln9, ln10, ln11, ln12, ln13, ln14, ln15, ln16, ln17, ln18, ln19, ln20, ln21, ln22, ln23, ln24, ln25, ln26, ln27, ln28, ln29, ln30, ln31, ln32, ln33, ln34, ln35, ln36, aSta, aCast, aClone, aCopy, F4_b (x := 4) (y := 3) (by decide)]
  refine t3_31 hgo rfl ?_
  refine t3_32 hgo rfl ?_
  exact is_r
set_option maxRecDepth 65536 in
set_option maxHeartbeats 4000000 in
theorem bi_3 {w0 w1 w2 c0 c1 c2 : Int32} : F5 [.ref 3, .ref 4, .ref 5] [.inl (0, [.ref 1, .ref 2, .int 3]), .inr (.int, [.int w0, .int w1, .int w2, .int 0]), .inr (.int, [.int c0, .int c1, .int c2, .int 0]), .inl (1, [.null, .null]), .inr (.int, [.int w0, .int w1, .int w2]), .inr (.int, [.int c0, .int c1, .int c2])] = some (none, [.inl (0, [.ref 1, .ref 2, .int 3]), .inr (.int, [.int w0, .int w1, .int w2, .int 0]), .inr (.int, [.int c0, .int c1, .int c2, .int 0]), .inl (1, [.ref 4, .ref 5]), .inr (.int, [.int w0, .int w1, .int w2]), .inr (.int, [.int c0, .int c1, .int c2])]) := by
  refine is_of f5_in fun go hgo => ?_
  refine t5_0 hgo rfl ?_
  refine res_of (u5_1 hgo) ?_
  simp only [eq_self, and_self, true_and, and_true, not_true_eq_false, not_false_eq_true, if_true, if_false, reduceIte, Option.bind_some, List.getElem?_cons_zero, List.getElem?_cons_succ, Nat.reduceAdd, Nat.reduceSub, Nat.reduceLT, Nat.reduceLeDiff, Nat.le_refl, Nat.zero_add, Nat.add_zero, List.length_cons, List.length_nil, Int32.reduceLT, Int32.reduceToNatClampNeg, Int32.reduceAdd, Int32.reduceSub, Int32.reduceMul, decide_true, aCall, aRecv, aObj, obj, List.take_succ_cons, List.take_zero, List.drop_succ_cons, List.drop_zero, List.reverse_cons, List.reverse_nil, List.nil_append, List.cons_append, List.append_nil, List.map_cons, List.map_nil, List.sum_cons, List.sum_nil, cat_int, cat_long, cat_ref, cat_null, Option.toList_some, Option.toList_none]
  refine t5_4 hgo rfl ?_
  refine t5_5 hgo rfl ?_
  refine res_of (u5_6 hgo) ?_
  simp only [eq_self, and_self, true_and, and_true, not_true_eq_false, not_false_eq_true, if_true, if_false, reduceIte, Option.bind_some, List.getElem?_cons_zero, List.getElem?_cons_succ, Nat.reduceAdd, Nat.reduceSub, Nat.reduceLT, Nat.reduceLeDiff, Nat.le_refl, Nat.zero_add, Nat.add_zero, List.length_cons, List.length_nil, Int32.reduceLT, Int32.reduceToNatClampNeg, Int32.reduceAdd, Int32.reduceSub, Int32.reduceMul, decide_true, aPut, obj, nr_i, nr_j, nr_a, nr_o, nr_b, nr_b1, nr_b0, ft_i, ft_j, ft_a, ft_o, ft_b, ft_b1, ft_b0, List.set_cons_zero, List.set_cons_succ]
  refine t5_9 hgo rfl ?_
  refine t5_10 hgo rfl ?_
  refine res_of (u5_11 hgo) ?_
  simp only [eq_self, and_self, true_and, and_true, not_true_eq_false, not_false_eq_true, if_true, if_false, reduceIte, Option.bind_some, List.getElem?_cons_zero, List.getElem?_cons_succ, Nat.reduceAdd, Nat.reduceSub, Nat.reduceLT, Nat.reduceLeDiff, Nat.le_refl, Nat.zero_add, Nat.add_zero, List.length_cons, List.length_nil, Int32.reduceLT, Int32.reduceToNatClampNeg, Int32.reduceAdd, Int32.reduceSub, Int32.reduceMul, decide_true, aPut, obj, nr_i, nr_j, nr_a, nr_o, nr_b, nr_b1, nr_b0, ft_i, ft_j, ft_a, ft_o, ft_b, ft_b1, ft_b0, List.set_cons_zero, List.set_cons_succ]
  refine t5_14 hgo ?_
  exact is_r
set_option maxRecDepth 65536 in
set_option maxHeartbeats 4000000 in
theorem build_3 {w0 w1 w2 c0 c1 c2 : Int32} : F2 [.ref 0] [.inl (0, [.ref 1, .ref 2, .int 3]), .inr (.int, [.int w0, .int w1, .int w2, .int 0]), .inr (.int, [.int c0, .int c1, .int c2, .int 0])] = some (some (.ref 3), [.inl (0, [.ref 1, .ref 2, .int 3]), .inr (.int, [.int w0, .int w1, .int w2, .int 0]), .inr (.int, [.int c0, .int c1, .int c2, .int 0]), .inl (1, [.ref 4, .ref 5]), .inr (.int, [.int w0, .int w1, .int w2]), .inr (.int, [.int c0, .int c1, .int c2])]) := by
  refine is_of f2_in fun go hgo => ?_
  refine res_of (u2_0 hgo) ?_
  simp only [eq_self, and_self, true_and, and_true, not_true_eq_false, not_false_eq_true, if_true, if_false, reduceIte, Option.bind_some, List.getElem?_cons_zero, List.getElem?_cons_succ, Nat.reduceAdd, Nat.reduceSub, Nat.reduceLT, Nat.reduceLeDiff, Nat.le_refl, Nat.zero_add, Nat.add_zero, List.length_cons, List.length_nil, Int32.reduceLT, Int32.reduceToNatClampNeg, Int32.reduceAdd, Int32.reduceSub, Int32.reduceMul, decide_true, aNew, List.nil_append, List.cons_append, bv_3, bc_3, bi_3]
  refine t2_3 hgo rfl ?_
  refine t2_4 hgo rfl ?_
  refine res_of (u2_5 hgo) ?_
  simp only [eq_self, and_self, true_and, and_true, not_true_eq_false, not_false_eq_true, if_true, if_false, reduceIte, Option.bind_some, List.getElem?_cons_zero, List.getElem?_cons_succ, Nat.reduceAdd, Nat.reduceSub, Nat.reduceLT, Nat.reduceLeDiff, Nat.le_refl, Nat.zero_add, Nat.add_zero, List.length_cons, List.length_nil, Int32.reduceLT, Int32.reduceToNatClampNeg, Int32.reduceAdd, Int32.reduceSub, Int32.reduceMul, decide_true, aGet, obj, bv_3, bc_3, bi_3]
  refine t2_8 hgo rfl ?_
  refine res_of (u2_9 hgo) ?_
  simp only [eq_self, and_self, true_and, and_true, not_true_eq_false, not_false_eq_true, if_true, if_false, reduceIte, Option.bind_some, List.getElem?_cons_zero, List.getElem?_cons_succ, Nat.reduceAdd, Nat.reduceSub, Nat.reduceLT, Nat.reduceLeDiff, Nat.le_refl, Nat.zero_add, Nat.add_zero, List.length_cons, List.length_nil, Int32.reduceLT, Int32.reduceToNatClampNeg, Int32.reduceAdd, Int32.reduceSub, Int32.reduceMul, decide_true, aGet, obj, bv_3, bc_3, bi_3]
  refine res_of (u2_12 hgo) ?_
  simp only [eq_self, and_self, true_and, and_true, not_true_eq_false, not_false_eq_true, if_true, if_false, reduceIte, Option.bind_some, List.getElem?_cons_zero, List.getElem?_cons_succ, Nat.reduceAdd, Nat.reduceSub, Nat.reduceLT, Nat.reduceLeDiff, Nat.le_refl, Nat.zero_add, Nat.add_zero, List.length_cons, List.length_nil, Int32.reduceLT, Int32.reduceToNatClampNeg, Int32.reduceAdd, Int32.reduceSub, Int32.reduceMul, decide_true, aCall, aRecv, aObj, obj, List.take_succ_cons, List.take_zero, List.drop_succ_cons, List.drop_zero, List.reverse_cons, List.reverse_nil, List.nil_append, List.cons_append, List.append_nil, List.map_cons, List.map_nil, List.sum_cons, List.sum_nil, cat_int, cat_long, cat_ref, cat_null, Option.toList_some, Option.toList_none, bv_3, bc_3, bi_3]
  refine t2_15 hgo rfl ?_
  refine res_of (u2_16 hgo) ?_
  simp only [eq_self, and_self, true_and, and_true, not_true_eq_false, not_false_eq_true, if_true, if_false, reduceIte, Option.bind_some, List.getElem?_cons_zero, List.getElem?_cons_succ, Nat.reduceAdd, Nat.reduceSub, Nat.reduceLT, Nat.reduceLeDiff, Nat.le_refl, Nat.zero_add, Nat.add_zero, List.length_cons, List.length_nil, Int32.reduceLT, Int32.reduceToNatClampNeg, Int32.reduceAdd, Int32.reduceSub, Int32.reduceMul, decide_true, aGet, obj, bv_3, bc_3, bi_3]
  refine t2_19 hgo rfl ?_
  refine res_of (u2_20 hgo) ?_
  simp only [eq_self, and_self, true_and, and_true, not_true_eq_false, not_false_eq_true, if_true, if_false, reduceIte, Option.bind_some, List.getElem?_cons_zero, List.getElem?_cons_succ, Nat.reduceAdd, Nat.reduceSub, Nat.reduceLT, Nat.reduceLeDiff, Nat.le_refl, Nat.zero_add, Nat.add_zero, List.length_cons, List.length_nil, Int32.reduceLT, Int32.reduceToNatClampNeg, Int32.reduceAdd, Int32.reduceSub, Int32.reduceMul, decide_true, aGet, obj, bv_3, bc_3, bi_3]
  refine res_of (u2_23 hgo) ?_
  simp only [eq_self, and_self, true_and, and_true, not_true_eq_false, not_false_eq_true, if_true, if_false, reduceIte, Option.bind_some, List.getElem?_cons_zero, List.getElem?_cons_succ, Nat.reduceAdd, Nat.reduceSub, Nat.reduceLT, Nat.reduceLeDiff, Nat.le_refl, Nat.zero_add, Nat.add_zero, List.length_cons, List.length_nil, Int32.reduceLT, Int32.reduceToNatClampNeg, Int32.reduceAdd, Int32.reduceSub, Int32.reduceMul, decide_true, aCall, aRecv, aObj, obj, List.take_succ_cons, List.take_zero, List.drop_succ_cons, List.drop_zero, List.reverse_cons, List.reverse_nil, List.nil_append, List.cons_append, List.append_nil, List.map_cons, List.map_nil, List.sum_cons, List.sum_nil, cat_int, cat_long, cat_ref, cat_null, Option.toList_some, Option.toList_none, bv_3, bc_3, bi_3]
  refine res_of (u2_26 hgo) ?_
  simp only [eq_self, and_self, true_and, and_true, not_true_eq_false, not_false_eq_true, if_true, if_false, reduceIte, Option.bind_some, List.getElem?_cons_zero, List.getElem?_cons_succ, Nat.reduceAdd, Nat.reduceSub, Nat.reduceLT, Nat.reduceLeDiff, Nat.le_refl, Nat.zero_add, Nat.add_zero, List.length_cons, List.length_nil, Int32.reduceLT, Int32.reduceToNatClampNeg, Int32.reduceAdd, Int32.reduceSub, Int32.reduceMul, decide_true, aCall, aRecv, aObj, obj, List.take_succ_cons, List.take_zero, List.drop_succ_cons, List.drop_zero, List.reverse_cons, List.reverse_nil, List.nil_append, List.cons_append, List.append_nil, List.map_cons, List.map_nil, List.sum_cons, List.sum_nil, cat_int, cat_long, cat_ref, cat_null, Option.toList_some, Option.toList_none, bv_3, bc_3, bi_3]
  refine t2_29 hgo rfl ?_
  exact is_r
set_option maxRecDepth 65536 in
set_option maxHeartbeats 4000000 in
theorem size_3 {w0 w1 w2 c0 c1 c2 : Int32} : F6 [.ref 3] [.inl (0, [.ref 1, .ref 2, .int 3]), .inr (.int, [.int w0, .int w1, .int w2, .int 0]), .inr (.int, [.int c0, .int c1, .int c2, .int 0]), .inl (1, [.ref 4, .ref 5]), .inr (.int, [.int w0, .int w1, .int w2]), .inr (.int, [.int c0, .int c1, .int c2])] = some (some (.int 3), [.inl (0, [.ref 1, .ref 2, .int 3]), .inr (.int, [.int w0, .int w1, .int w2, .int 0]), .inr (.int, [.int c0, .int c1, .int c2, .int 0]), .inl (1, [.ref 4, .ref 5]), .inr (.int, [.int w0, .int w1, .int w2]), .inr (.int, [.int c0, .int c1, .int c2])]) := by
  refine is_of f6_in fun go hgo => ?_
  refine t6_0 hgo rfl ?_
  refine res_of (u6_1 hgo) ?_
  simp only [eq_self, and_self, true_and, and_true, not_true_eq_false, not_false_eq_true, if_true, if_false, reduceIte, Option.bind_some, List.getElem?_cons_zero, List.getElem?_cons_succ, Nat.reduceAdd, Nat.reduceSub, Nat.reduceLT, Nat.reduceLeDiff, Nat.le_refl, Nat.zero_add, Nat.add_zero, List.length_cons, List.length_nil, Int32.reduceLT, Int32.reduceToNatClampNeg, Int32.reduceAdd, Int32.reduceSub, Int32.reduceMul, decide_true, aGet, obj]
  refine res_of (u6_4 hgo) ?_
  simp only [eq_self, and_self, true_and, and_true, not_true_eq_false, not_false_eq_true, if_true, if_false, reduceIte, Option.bind_some, List.getElem?_cons_zero, List.getElem?_cons_succ, Nat.reduceAdd, Nat.reduceSub, Nat.reduceLT, Nat.reduceLeDiff, Nat.le_refl, Nat.zero_add, Nat.add_zero, List.length_cons, List.length_nil, Int32.reduceLT, Int32.reduceToNatClampNeg, Int32.reduceAdd, Int32.reduceSub, Int32.reduceMul, decide_true, pR_ref, arr, ln0, ln1, ln2, ln3, ln4, ln5, ln6, ln7, ln8, ln9, ln10, ln11, ln12, ln13, ln14, ln15, ln16, ln17, ln18, ln19, ln20, ln21, ln22, ln23, ln24, ln25, ln26, ln27, ln28, ln29, ln30, ln31, ln32, ln33, ln34, ln35, ln36]
  refine t6_5 hgo ?_
  exact is_r
set_option maxRecDepth 65536 in
set_option maxHeartbeats 4000000 in
theorem val_3_0 {w0 w1 w2 c0 c1 c2 : Int32} : F9 [.ref 3, .int 0] [.inl (0, [.ref 1, .ref 2, .int 3]), .inr (.int, [.int w0, .int w1, .int w2, .int 0]), .inr (.int, [.int c0, .int c1, .int c2, .int 0]), .inl (1, [.ref 4, .ref 5]), .inr (.int, [.int w0, .int w1, .int w2]), .inr (.int, [.int c0, .int c1, .int c2])] = some (some (.int w0), [.inl (0, [.ref 1, .ref 2, .int 3]), .inr (.int, [.int w0, .int w1, .int w2, .int 0]), .inr (.int, [.int c0, .int c1, .int c2, .int 0]), .inl (1, [.ref 4, .ref 5]), .inr (.int, [.int w0, .int w1, .int w2]), .inr (.int, [.int c0, .int c1, .int c2])]) := by
  refine is_of f9_in fun go hgo => ?_
  refine t9_0 hgo rfl ?_
  refine res_of (u9_1 hgo) ?_
  simp only [eq_self, and_self, true_and, and_true, not_true_eq_false, not_false_eq_true, if_true, if_false, reduceIte, Option.bind_some, List.getElem?_cons_zero, List.getElem?_cons_succ, Nat.reduceAdd, Nat.reduceSub, Nat.reduceLT, Nat.reduceLeDiff, Nat.le_refl, Nat.zero_add, Nat.add_zero, List.length_cons, List.length_nil, Int32.reduceLT, Int32.reduceToNatClampNeg, Int32.reduceAdd, Int32.reduceSub, Int32.reduceMul, decide_true, aGet, obj]
  refine t9_4 hgo ?_
  refine res_of (u9_5 hgo) ?_
  simp only [eq_self, and_self, true_and, and_true, not_true_eq_false, not_false_eq_true, if_true, if_false, reduceIte, Option.bind_some, List.getElem?_cons_zero, List.getElem?_cons_succ, Nat.reduceAdd, Nat.reduceSub, Nat.reduceLT, Nat.reduceLeDiff, Nat.le_refl, Nat.zero_add, Nat.add_zero, List.length_cons, List.length_nil, Int32.reduceLT, Int32.reduceToNatClampNeg, Int32.reduceAdd, Int32.reduceSub, Int32.reduceMul, decide_true, ex_iaload, ald, pI_int, pR_ref, arr, isT, isBZ]
  refine t9_6 hgo ?_
  exact is_r
set_option maxRecDepth 65536 in
set_option maxHeartbeats 4000000 in
theorem cnt_3_0 {w0 w1 w2 c0 c1 c2 : Int32} : F10 [.ref 3, .int 0] [.inl (0, [.ref 1, .ref 2, .int 3]), .inr (.int, [.int w0, .int w1, .int w2, .int 0]), .inr (.int, [.int c0, .int c1, .int c2, .int 0]), .inl (1, [.ref 4, .ref 5]), .inr (.int, [.int w0, .int w1, .int w2]), .inr (.int, [.int c0, .int c1, .int c2])] = some (some (.int c0), [.inl (0, [.ref 1, .ref 2, .int 3]), .inr (.int, [.int w0, .int w1, .int w2, .int 0]), .inr (.int, [.int c0, .int c1, .int c2, .int 0]), .inl (1, [.ref 4, .ref 5]), .inr (.int, [.int w0, .int w1, .int w2]), .inr (.int, [.int c0, .int c1, .int c2])]) := by
  refine is_of f10_in fun go hgo => ?_
  refine t10_0 hgo rfl ?_
  refine res_of (u10_1 hgo) ?_
  simp only [eq_self, and_self, true_and, and_true, not_true_eq_false, not_false_eq_true, if_true, if_false, reduceIte, Option.bind_some, List.getElem?_cons_zero, List.getElem?_cons_succ, Nat.reduceAdd, Nat.reduceSub, Nat.reduceLT, Nat.reduceLeDiff, Nat.le_refl, Nat.zero_add, Nat.add_zero, List.length_cons, List.length_nil, Int32.reduceLT, Int32.reduceToNatClampNeg, Int32.reduceAdd, Int32.reduceSub, Int32.reduceMul, decide_true, aGet, obj]
  refine t10_4 hgo ?_
  refine res_of (u10_5 hgo) ?_
  simp only [eq_self, and_self, true_and, and_true, not_true_eq_false, not_false_eq_true, if_true, if_false, reduceIte, Option.bind_some, List.getElem?_cons_zero, List.getElem?_cons_succ, Nat.reduceAdd, Nat.reduceSub, Nat.reduceLT, Nat.reduceLeDiff, Nat.le_refl, Nat.zero_add, Nat.add_zero, List.length_cons, List.length_nil, Int32.reduceLT, Int32.reduceToNatClampNeg, Int32.reduceAdd, Int32.reduceSub, Int32.reduceMul, decide_true, ex_iaload, ald, pI_int, pR_ref, arr, isT, isBZ]
  refine t10_6 hgo ?_
  exact is_r
set_option maxRecDepth 65536 in
set_option maxHeartbeats 4000000 in
theorem val_3_1 {w0 w1 w2 c0 c1 c2 : Int32} : F9 [.ref 3, .int 1] [.inl (0, [.ref 1, .ref 2, .int 3]), .inr (.int, [.int w0, .int w1, .int w2, .int 0]), .inr (.int, [.int c0, .int c1, .int c2, .int 0]), .inl (1, [.ref 4, .ref 5]), .inr (.int, [.int w0, .int w1, .int w2]), .inr (.int, [.int c0, .int c1, .int c2])] = some (some (.int w1), [.inl (0, [.ref 1, .ref 2, .int 3]), .inr (.int, [.int w0, .int w1, .int w2, .int 0]), .inr (.int, [.int c0, .int c1, .int c2, .int 0]), .inl (1, [.ref 4, .ref 5]), .inr (.int, [.int w0, .int w1, .int w2]), .inr (.int, [.int c0, .int c1, .int c2])]) := by
  refine is_of f9_in fun go hgo => ?_
  refine t9_0 hgo rfl ?_
  refine res_of (u9_1 hgo) ?_
  simp only [eq_self, and_self, true_and, and_true, not_true_eq_false, not_false_eq_true, if_true, if_false, reduceIte, Option.bind_some, List.getElem?_cons_zero, List.getElem?_cons_succ, Nat.reduceAdd, Nat.reduceSub, Nat.reduceLT, Nat.reduceLeDiff, Nat.le_refl, Nat.zero_add, Nat.add_zero, List.length_cons, List.length_nil, Int32.reduceLT, Int32.reduceToNatClampNeg, Int32.reduceAdd, Int32.reduceSub, Int32.reduceMul, decide_true, aGet, obj]
  refine t9_4 hgo ?_
  refine res_of (u9_5 hgo) ?_
  simp only [eq_self, and_self, true_and, and_true, not_true_eq_false, not_false_eq_true, if_true, if_false, reduceIte, Option.bind_some, List.getElem?_cons_zero, List.getElem?_cons_succ, Nat.reduceAdd, Nat.reduceSub, Nat.reduceLT, Nat.reduceLeDiff, Nat.le_refl, Nat.zero_add, Nat.add_zero, List.length_cons, List.length_nil, Int32.reduceLT, Int32.reduceToNatClampNeg, Int32.reduceAdd, Int32.reduceSub, Int32.reduceMul, decide_true, ex_iaload, ald, pI_int, pR_ref, arr, isT, isBZ]
  refine t9_6 hgo ?_
  exact is_r
set_option maxRecDepth 65536 in
set_option maxHeartbeats 4000000 in
theorem cnt_3_1 {w0 w1 w2 c0 c1 c2 : Int32} : F10 [.ref 3, .int 1] [.inl (0, [.ref 1, .ref 2, .int 3]), .inr (.int, [.int w0, .int w1, .int w2, .int 0]), .inr (.int, [.int c0, .int c1, .int c2, .int 0]), .inl (1, [.ref 4, .ref 5]), .inr (.int, [.int w0, .int w1, .int w2]), .inr (.int, [.int c0, .int c1, .int c2])] = some (some (.int c1), [.inl (0, [.ref 1, .ref 2, .int 3]), .inr (.int, [.int w0, .int w1, .int w2, .int 0]), .inr (.int, [.int c0, .int c1, .int c2, .int 0]), .inl (1, [.ref 4, .ref 5]), .inr (.int, [.int w0, .int w1, .int w2]), .inr (.int, [.int c0, .int c1, .int c2])]) := by
  refine is_of f10_in fun go hgo => ?_
  refine t10_0 hgo rfl ?_
  refine res_of (u10_1 hgo) ?_
  simp only [eq_self, and_self, true_and, and_true, not_true_eq_false, not_false_eq_true, if_true, if_false, reduceIte, Option.bind_some, List.getElem?_cons_zero, List.getElem?_cons_succ, Nat.reduceAdd, Nat.reduceSub, Nat.reduceLT, Nat.reduceLeDiff, Nat.le_refl, Nat.zero_add, Nat.add_zero, List.length_cons, List.length_nil, Int32.reduceLT, Int32.reduceToNatClampNeg, Int32.reduceAdd, Int32.reduceSub, Int32.reduceMul, decide_true, aGet, obj]
  refine t10_4 hgo ?_
  refine res_of (u10_5 hgo) ?_
  simp only [eq_self, and_self, true_and, and_true, not_true_eq_false, not_false_eq_true, if_true, if_false, reduceIte, Option.bind_some, List.getElem?_cons_zero, List.getElem?_cons_succ, Nat.reduceAdd, Nat.reduceSub, Nat.reduceLT, Nat.reduceLeDiff, Nat.le_refl, Nat.zero_add, Nat.add_zero, List.length_cons, List.length_nil, Int32.reduceLT, Int32.reduceToNatClampNeg, Int32.reduceAdd, Int32.reduceSub, Int32.reduceMul, decide_true, ex_iaload, ald, pI_int, pR_ref, arr, isT, isBZ]
  refine t10_6 hgo ?_
  exact is_r
set_option maxRecDepth 65536 in
set_option maxHeartbeats 4000000 in
theorem val_3_2 {w0 w1 w2 c0 c1 c2 : Int32} : F9 [.ref 3, .int 2] [.inl (0, [.ref 1, .ref 2, .int 3]), .inr (.int, [.int w0, .int w1, .int w2, .int 0]), .inr (.int, [.int c0, .int c1, .int c2, .int 0]), .inl (1, [.ref 4, .ref 5]), .inr (.int, [.int w0, .int w1, .int w2]), .inr (.int, [.int c0, .int c1, .int c2])] = some (some (.int w2), [.inl (0, [.ref 1, .ref 2, .int 3]), .inr (.int, [.int w0, .int w1, .int w2, .int 0]), .inr (.int, [.int c0, .int c1, .int c2, .int 0]), .inl (1, [.ref 4, .ref 5]), .inr (.int, [.int w0, .int w1, .int w2]), .inr (.int, [.int c0, .int c1, .int c2])]) := by
  refine is_of f9_in fun go hgo => ?_
  refine t9_0 hgo rfl ?_
  refine res_of (u9_1 hgo) ?_
  simp only [eq_self, and_self, true_and, and_true, not_true_eq_false, not_false_eq_true, if_true, if_false, reduceIte, Option.bind_some, List.getElem?_cons_zero, List.getElem?_cons_succ, Nat.reduceAdd, Nat.reduceSub, Nat.reduceLT, Nat.reduceLeDiff, Nat.le_refl, Nat.zero_add, Nat.add_zero, List.length_cons, List.length_nil, Int32.reduceLT, Int32.reduceToNatClampNeg, Int32.reduceAdd, Int32.reduceSub, Int32.reduceMul, decide_true, aGet, obj]
  refine t9_4 hgo ?_
  refine res_of (u9_5 hgo) ?_
  simp only [eq_self, and_self, true_and, and_true, not_true_eq_false, not_false_eq_true, if_true, if_false, reduceIte, Option.bind_some, List.getElem?_cons_zero, List.getElem?_cons_succ, Nat.reduceAdd, Nat.reduceSub, Nat.reduceLT, Nat.reduceLeDiff, Nat.le_refl, Nat.zero_add, Nat.add_zero, List.length_cons, List.length_nil, Int32.reduceLT, Int32.reduceToNatClampNeg, Int32.reduceAdd, Int32.reduceSub, Int32.reduceMul, decide_true, ex_iaload, ald, pI_int, pR_ref, arr, isT, isBZ]
  refine t9_6 hgo ?_
  exact is_r
set_option maxRecDepth 65536 in
set_option maxHeartbeats 4000000 in
theorem cnt_3_2 {w0 w1 w2 c0 c1 c2 : Int32} : F10 [.ref 3, .int 2] [.inl (0, [.ref 1, .ref 2, .int 3]), .inr (.int, [.int w0, .int w1, .int w2, .int 0]), .inr (.int, [.int c0, .int c1, .int c2, .int 0]), .inl (1, [.ref 4, .ref 5]), .inr (.int, [.int w0, .int w1, .int w2]), .inr (.int, [.int c0, .int c1, .int c2])] = some (some (.int c2), [.inl (0, [.ref 1, .ref 2, .int 3]), .inr (.int, [.int w0, .int w1, .int w2, .int 0]), .inr (.int, [.int c0, .int c1, .int c2, .int 0]), .inl (1, [.ref 4, .ref 5]), .inr (.int, [.int w0, .int w1, .int w2]), .inr (.int, [.int c0, .int c1, .int c2])]) := by
  refine is_of f10_in fun go hgo => ?_
  refine t10_0 hgo rfl ?_
  refine res_of (u10_1 hgo) ?_
  simp only [eq_self, and_self, true_and, and_true, not_true_eq_false, not_false_eq_true, if_true, if_false, reduceIte, Option.bind_some, List.getElem?_cons_zero, List.getElem?_cons_succ, Nat.reduceAdd, Nat.reduceSub, Nat.reduceLT, Nat.reduceLeDiff, Nat.le_refl, Nat.zero_add, Nat.add_zero, List.length_cons, List.length_nil, Int32.reduceLT, Int32.reduceToNatClampNeg, Int32.reduceAdd, Int32.reduceSub, Int32.reduceMul, decide_true, aGet, obj]
  refine t10_4 hgo ?_
  refine res_of (u10_5 hgo) ?_
  simp only [eq_self, and_self, true_and, and_true, not_true_eq_false, not_false_eq_true, if_true, if_false, reduceIte, Option.bind_some, List.getElem?_cons_zero, List.getElem?_cons_succ, Nat.reduceAdd, Nat.reduceSub, Nat.reduceLT, Nat.reduceLeDiff, Nat.le_refl, Nat.zero_add, Nat.add_zero, List.length_cons, List.length_nil, Int32.reduceLT, Int32.reduceToNatClampNeg, Int32.reduceAdd, Int32.reduceSub, Int32.reduceMul, decide_true, ex_iaload, ald, pI_int, pR_ref, arr, isT, isBZ]
  refine t10_6 hgo ?_
  exact is_r
set_option maxRecDepth 65536 in
set_option maxHeartbeats 4000000 in
theorem bv_4 {w0 w1 w2 w3 c0 c1 c2 c3 : Int32} : F3 [.ref 1, .int 4] [.inl (0, [.ref 1, .ref 2, .int 4]), .inr (.int, [.int w0, .int w1, .int w2, .int w3]), .inr (.int, [.int c0, .int c1, .int c2, .int c3]), .inl (1, [.null, .null])] = some (some (.ref 4), [.inl (0, [.ref 1, .ref 2, .int 4]), .inr (.int, [.int w0, .int w1, .int w2, .int w3]), .inr (.int, [.int c0, .int c1, .int c2, .int c3]), .inl (1, [.null, .null]), .inr (.int, [.int w0, .int w1, .int w2, .int w3])]) := by
  refine is_of f3_in fun go hgo => ?_
  refine t3_0 hgo ?_
  refine t3_1 hgo rfl ?_
  refine res_of (u3_2 hgo) ?_
  simp only [eq_self, and_self, true_and, and_true, not_true_eq_false, not_false_eq_true, if_true, if_false, reduceIte, Option.bind_some, List.getElem?_cons_zero, List.getElem?_cons_succ, Nat.reduceAdd, Nat.reduceSub, Nat.reduceLT, Nat.reduceLeDiff, Nat.le_refl, Nat.zero_add, Nat.add_zero, List.length_cons, List.length_nil, Int32.reduceLT, Int32.reduceToNatClampNeg, Int32.reduceAdd, Int32.reduceSub, Int32.reduceMul, decide_true, pR_ref, arr, ln0, ln1, ln2, ln3, ln4, ln5, ln6, ln7, ln8, ln9, ln10, ln11, ln12, ln13, ln14, ln15, ln16, ln17, ln18, ln19, ln20, ln21, ln22, ln23, ln24, ln25, ln26, ln27, ln28, ln29, ln30, ln31, ln32, ln33, ln34, ln35, ln36]
  refine t3_3t hgo rfl ?_
  refine t3_6 hgo rfl ?_
  refine res_of (u3_7 hgo) ?_
  simp only [nr_i, nr_j, nr_a, nr_o, nr_b, nr_b1, nr_b0, ft_i, ft_j, ft_a, ft_o, ft_b, ft_b1, ft_b0, rV_nil, b_1, b_0, b_1r, b_0r, b_bb, b_and, i_10, i_01, eq_self, iff_self, not_true_eq_false, not_false_eq_true, ite_not, cat_int, cat_long, cat_ref, cat_null, and11, and01, Nat.reduceAdd, Nat.reduceSub, Nat.reduceMul, Nat.reduceLT, Nat.reduceLeDiff, Nat.reduceEqDiff, Int32.reduceAdd, Int32.reduceSub, Int32.reduceMul, Int32.reduceMod, Int32.reduceLT, Int32.reduceLE, Int32.reduceToNatClampNeg, Int64.reduceAdd, Int64.reduceSub, Int64.reduceLT, Nat.le_refl, Nat.zero_add, Nat.add_zero, and_self, Option.bind_some, Option.bind_none, gI, gL, gA, st1, st2, pI_int, pL_long, pA_ref, pA_null, pR_ref, p1_int, p1_ref, p1_null, ex_ishl, ex_ishr, ex_iushr, ex_idiv, ex_irem, ex_ineg, ex_i2b, ex_i2c, ex_i2s, ex_i2l, ex_l2i, ex_lneg, ex_lshl, ex_lshr, ex_lushr, ex_ldiv, ex_lrem, ex_lcmp, ex_dup, ex_pop, ex_dup_x1, ex_dup2, ex_ifnull, ex_ifnonnull, ex_if_acmp, ex_arraylength, ex_iaload, ex_baload, ex_caload, ex_laload, ex_aaload, ex_iastore, ex_bastore, ex_castore, ex_lastore, ex_ldc, ex_ldc_w, ex_ldc2_w, ex_getfield, ex_putfield, ex_getstatic, ex_new, ex_invokestatic, ex_invokespecial, ex_invokevirtual, ex_checkcast, ex_instanceof, ex_anewarray, ex_newarray, ex_ireturn, ex_lreturn, ex_areturn, ex_return, br_d, br_n, br_t, br_f, spc, look, aI, aJ, aGet, aPut, aNew, aArr, aObj, aCall, aRecv, obj, arr, ald, ast, astL, isT, isBZ, atn, refEq, acV, List.getElem?_cons_zero, List.getElem?_cons_succ, List.set_cons_zero, List.set_cons_succ, List.take_succ_cons, List.take_zero, List.drop_succ_cons, List.drop_zero, List.reverse_cons, List.reverse_nil, List.nil_append, List.cons_append, List.map_cons, List.map_nil, List.sum_cons, List.sum_nil, List.length_cons, List.length_nil, Option.toList_some, Option.toList_none, List.append_nil, true_and, and_true, not_false_eq_true, decide_true, decide_false, Bool.not_true, Bool.not_false, if_true, if_false, reduceIte, Option.map_some, nar, defaultValue, List.replicate_zero, List.replicate_succ, ln0, ln1, ln2, ln3, ln4, ln5, ln6, ln7, ln8, ln9, ln10, ln11, ln12, ln13, ln14, ln15, ln16, ln17, ln18, ln19, ln20, ln21, ln22, ln23, ln24, ln25, ln26, ln27, ln28, ln29, ln30, ln31, ln32, ln33, ln34, ln35, ln36, aSta, aCast, aClone, aCopy]
  refine res_of (u3_10 hgo) ?_
  simp only [nr_i, nr_j, nr_a, nr_o, nr_b, nr_b1, nr_b0, ft_i, ft_j, ft_a, ft_o, ft_b, ft_b1, ft_b0, rV_nil, b_1, b_0, b_1r, b_0r, b_bb, b_and, i_10, i_01, eq_self, iff_self, not_true_eq_false, not_false_eq_true, ite_not, cat_int, cat_long, cat_ref, cat_null, and11, and01, Nat.reduceAdd, Nat.reduceSub, Nat.reduceMul, Nat.reduceLT, Nat.reduceLeDiff, Nat.reduceEqDiff, Int32.reduceAdd, Int32.reduceSub, Int32.reduceMul, Int32.reduceMod, Int32.reduceLT, Int32.reduceLE, Int32.reduceToNatClampNeg, Int64.reduceAdd, Int64.reduceSub, Int64.reduceLT, Nat.le_refl, Nat.zero_add, Nat.add_zero, and_self, Option.bind_some, Option.bind_none, gI, gL, gA, st1, st2, pI_int, pL_long, pA_ref, pA_null, pR_ref, p1_int, p1_ref, p1_null, ex_ishl, ex_ishr, ex_iushr, ex_idiv, ex_irem, ex_ineg, ex_i2b, ex_i2c, ex_i2s, ex_i2l, ex_l2i, ex_lneg, ex_lshl, ex_lshr, ex_lushr, ex_ldiv, ex_lrem, ex_lcmp, ex_dup, ex_pop, ex_dup_x1, ex_dup2, ex_ifnull, ex_ifnonnull, ex_if_acmp, ex_arraylength, ex_iaload, ex_baload, ex_caload, ex_laload, ex_aaload, ex_iastore, ex_bastore, ex_castore, ex_lastore, ex_ldc, ex_ldc_w, ex_ldc2_w, ex_getfield, ex_putfield, ex_getstatic, ex_new, ex_invokestatic, ex_invokespecial, ex_invokevirtual, ex_checkcast, ex_instanceof, ex_anewarray, ex_newarray, ex_ireturn, ex_lreturn, ex_areturn, ex_return, br_d, br_n, br_t, br_f, spc, look, aI, aJ, aGet, aPut, aNew, aArr, aObj, aCall, aRecv, obj, arr, ald, ast, astL, isT, isBZ, atn, refEq, acV, List.getElem?_cons_zero, List.getElem?_cons_succ, List.set_cons_zero, List.set_cons_succ, List.take_succ_cons, List.take_zero, List.drop_succ_cons, List.drop_zero, List.reverse_cons, List.reverse_nil, List.nil_append, List.cons_append, List.map_cons, List.map_nil, List.sum_cons, List.sum_nil, List.length_cons, List.length_nil, Option.toList_some, Option.toList_none, List.append_nil, true_and, and_true, not_false_eq_true, decide_true, decide_false, Bool.not_true, Bool.not_false, if_true, if_false, reduceIte, Option.map_some, nar, defaultValue, List.replicate_zero, List.replicate_succ, ln0, ln1, ln2, ln3, ln4, ln5, ln6, ln7, ln8, ln9, ln10, ln11, ln12, ln13, ln14, ln15, ln16, ln17, ln18, ln19, ln20, ln21, ln22, ln23, ln24, ln25, ln26, ln27, ln28, ln29, ln30, ln31, ln32, ln33, ln34, ln35, ln36, aSta, aCast, aClone, aCopy]
  refine t3_13 hgo rfl ?_
  exact is_r
set_option maxRecDepth 65536 in
set_option maxHeartbeats 4000000 in
theorem bc_4 {w0 w1 w2 w3 c0 c1 c2 c3 : Int32} : F3 [.ref 2, .int 4] [.inl (0, [.ref 1, .ref 2, .int 4]), .inr (.int, [.int w0, .int w1, .int w2, .int w3]), .inr (.int, [.int c0, .int c1, .int c2, .int c3]), .inl (1, [.null, .null]), .inr (.int, [.int w0, .int w1, .int w2, .int w3])] = some (some (.ref 5), [.inl (0, [.ref 1, .ref 2, .int 4]), .inr (.int, [.int w0, .int w1, .int w2, .int w3]), .inr (.int, [.int c0, .int c1, .int c2, .int c3]), .inl (1, [.null, .null]), .inr (.int, [.int w0, .int w1, .int w2, .int w3]), .inr (.int, [.int c0, .int c1, .int c2, .int c3])]) := by
  refine is_of f3_in fun go hgo => ?_
  refine t3_0 hgo ?_
  refine t3_1 hgo rfl ?_
  refine res_of (u3_2 hgo) ?_
  simp only [eq_self, and_self, true_and, and_true, not_true_eq_false, not_false_eq_true, if_true, if_false, reduceIte, Option.bind_some, List.getElem?_cons_zero, List.getElem?_cons_succ, Nat.reduceAdd, Nat.reduceSub, Nat.reduceLT, Nat.reduceLeDiff, Nat.le_refl, Nat.zero_add, Nat.add_zero, List.length_cons, List.length_nil, Int32.reduceLT, Int32.reduceToNatClampNeg, Int32.reduceAdd, Int32.reduceSub, Int32.reduceMul, decide_true, pR_ref, arr, ln0, ln1, ln2, ln3, ln4, ln5, ln6, ln7, ln8, ln9, ln10, ln11, ln12, ln13, ln14, ln15, ln16, ln17, ln18, ln19, ln20, ln21, ln22, ln23, ln24, ln25, ln26, ln27, ln28, ln29, ln30, ln31, ln32, ln33, ln34, ln35, ln36]
  refine t3_3t hgo rfl ?_
  refine t3_6 hgo rfl ?_
  refine res_of (u3_7 hgo) ?_
  simp only [nr_i, nr_j, nr_a, nr_o, nr_b, nr_b1, nr_b0, ft_i, ft_j, ft_a, ft_o, ft_b, ft_b1, ft_b0, rV_nil, b_1, b_0, b_1r, b_0r, b_bb, b_and, i_10, i_01, eq_self, iff_self, not_true_eq_false, not_false_eq_true, ite_not, cat_int, cat_long, cat_ref, cat_null, and11, and01, Nat.reduceAdd, Nat.reduceSub, Nat.reduceMul, Nat.reduceLT, Nat.reduceLeDiff, Nat.reduceEqDiff, Int32.reduceAdd, Int32.reduceSub, Int32.reduceMul, Int32.reduceMod, Int32.reduceLT, Int32.reduceLE, Int32.reduceToNatClampNeg, Int64.reduceAdd, Int64.reduceSub, Int64.reduceLT, Nat.le_refl, Nat.zero_add, Nat.add_zero, and_self, Option.bind_some, Option.bind_none, gI, gL, gA, st1, st2, pI_int, pL_long, pA_ref, pA_null, pR_ref, p1_int, p1_ref, p1_null, ex_ishl, ex_ishr, ex_iushr, ex_idiv, ex_irem, ex_ineg, ex_i2b, ex_i2c, ex_i2s, ex_i2l, ex_l2i, ex_lneg, ex_lshl, ex_lshr, ex_lushr, ex_ldiv, ex_lrem, ex_lcmp, ex_dup, ex_pop, ex_dup_x1, ex_dup2, ex_ifnull, ex_ifnonnull, ex_if_acmp, ex_arraylength, ex_iaload, ex_baload, ex_caload, ex_laload, ex_aaload, ex_iastore, ex_bastore, ex_castore, ex_lastore, ex_ldc, ex_ldc_w, ex_ldc2_w, ex_getfield, ex_putfield, ex_getstatic, ex_new, ex_invokestatic, ex_invokespecial, ex_invokevirtual, ex_checkcast, ex_instanceof, ex_anewarray, ex_newarray, ex_ireturn, ex_lreturn, ex_areturn, ex_return, br_d, br_n, br_t, br_f, spc, look, aI, aJ, aGet, aPut, aNew, aArr, aObj, aCall, aRecv, obj, arr, ald, ast, astL, isT, isBZ, atn, refEq, acV, List.getElem?_cons_zero, List.getElem?_cons_succ, List.set_cons_zero, List.set_cons_succ, List.take_succ_cons, List.take_zero, List.drop_succ_cons, List.drop_zero, List.reverse_cons, List.reverse_nil, List.nil_append, List.cons_append, List.map_cons, List.map_nil, List.sum_cons, List.sum_nil, List.length_cons, List.length_nil, Option.toList_some, Option.toList_none, List.append_nil, true_and, and_true, not_false_eq_true, decide_true, decide_false, Bool.not_true, Bool.not_false, if_true, if_false, reduceIte, Option.map_some, nar, defaultValue, List.replicate_zero, List.replicate_succ, ln0, ln1, ln2, ln3, ln4, ln5, ln6, ln7, ln8, ln9, ln10, ln11, ln12, ln13, ln14, ln15, ln16, ln17, ln18, ln19, ln20, ln21, ln22, ln23, ln24, ln25, ln26, ln27, ln28, ln29, ln30, ln31, ln32, ln33, ln34, ln35, ln36, aSta, aCast, aClone, aCopy]
  refine res_of (u3_10 hgo) ?_
  simp only [nr_i, nr_j, nr_a, nr_o, nr_b, nr_b1, nr_b0, ft_i, ft_j, ft_a, ft_o, ft_b, ft_b1, ft_b0, rV_nil, b_1, b_0, b_1r, b_0r, b_bb, b_and, i_10, i_01, eq_self, iff_self, not_true_eq_false, not_false_eq_true, ite_not, cat_int, cat_long, cat_ref, cat_null, and11, and01, Nat.reduceAdd, Nat.reduceSub, Nat.reduceMul, Nat.reduceLT, Nat.reduceLeDiff, Nat.reduceEqDiff, Int32.reduceAdd, Int32.reduceSub, Int32.reduceMul, Int32.reduceMod, Int32.reduceLT, Int32.reduceLE, Int32.reduceToNatClampNeg, Int64.reduceAdd, Int64.reduceSub, Int64.reduceLT, Nat.le_refl, Nat.zero_add, Nat.add_zero, and_self, Option.bind_some, Option.bind_none, gI, gL, gA, st1, st2, pI_int, pL_long, pA_ref, pA_null, pR_ref, p1_int, p1_ref, p1_null, ex_ishl, ex_ishr, ex_iushr, ex_idiv, ex_irem, ex_ineg, ex_i2b, ex_i2c, ex_i2s, ex_i2l, ex_l2i, ex_lneg, ex_lshl, ex_lshr, ex_lushr, ex_ldiv, ex_lrem, ex_lcmp, ex_dup, ex_pop, ex_dup_x1, ex_dup2, ex_ifnull, ex_ifnonnull, ex_if_acmp, ex_arraylength, ex_iaload, ex_baload, ex_caload, ex_laload, ex_aaload, ex_iastore, ex_bastore, ex_castore, ex_lastore, ex_ldc, ex_ldc_w, ex_ldc2_w, ex_getfield, ex_putfield, ex_getstatic, ex_new, ex_invokestatic, ex_invokespecial, ex_invokevirtual, ex_checkcast, ex_instanceof, ex_anewarray, ex_newarray, ex_ireturn, ex_lreturn, ex_areturn, ex_return, br_d, br_n, br_t, br_f, spc, look, aI, aJ, aGet, aPut, aNew, aArr, aObj, aCall, aRecv, obj, arr, ald, ast, astL, isT, isBZ, atn, refEq, acV, List.getElem?_cons_zero, List.getElem?_cons_succ, List.set_cons_zero, List.set_cons_succ, List.take_succ_cons, List.take_zero, List.drop_succ_cons, List.drop_zero, List.reverse_cons, List.reverse_nil, List.nil_append, List.cons_append, List.map_cons, List.map_nil, List.sum_cons, List.sum_nil, List.length_cons, List.length_nil, Option.toList_some, Option.toList_none, List.append_nil, true_and, and_true, not_false_eq_true, decide_true, decide_false, Bool.not_true, Bool.not_false, if_true, if_false, reduceIte, Option.map_some, nar, defaultValue, List.replicate_zero, List.replicate_succ, ln0, ln1, ln2, ln3, ln4, ln5, ln6, ln7, ln8, ln9, ln10, ln11, ln12, ln13, ln14, ln15, ln16, ln17, ln18, ln19, ln20, ln21, ln22, ln23, ln24, ln25, ln26, ln27, ln28, ln29, ln30, ln31, ln32, ln33, ln34, ln35, ln36, aSta, aCast, aClone, aCopy]
  refine t3_13 hgo rfl ?_
  exact is_r
set_option maxRecDepth 65536 in
set_option maxHeartbeats 4000000 in
theorem bi_4 {w0 w1 w2 w3 c0 c1 c2 c3 : Int32} : F5 [.ref 3, .ref 4, .ref 5] [.inl (0, [.ref 1, .ref 2, .int 4]), .inr (.int, [.int w0, .int w1, .int w2, .int w3]), .inr (.int, [.int c0, .int c1, .int c2, .int c3]), .inl (1, [.null, .null]), .inr (.int, [.int w0, .int w1, .int w2, .int w3]), .inr (.int, [.int c0, .int c1, .int c2, .int c3])] = some (none, [.inl (0, [.ref 1, .ref 2, .int 4]), .inr (.int, [.int w0, .int w1, .int w2, .int w3]), .inr (.int, [.int c0, .int c1, .int c2, .int c3]), .inl (1, [.ref 4, .ref 5]), .inr (.int, [.int w0, .int w1, .int w2, .int w3]), .inr (.int, [.int c0, .int c1, .int c2, .int c3])]) := by
  refine is_of f5_in fun go hgo => ?_
  refine t5_0 hgo rfl ?_
  refine res_of (u5_1 hgo) ?_
  simp only [eq_self, and_self, true_and, and_true, not_true_eq_false, not_false_eq_true, if_true, if_false, reduceIte, Option.bind_some, List.getElem?_cons_zero, List.getElem?_cons_succ, Nat.reduceAdd, Nat.reduceSub, Nat.reduceLT, Nat.reduceLeDiff, Nat.le_refl, Nat.zero_add, Nat.add_zero, List.length_cons, List.length_nil, Int32.reduceLT, Int32.reduceToNatClampNeg, Int32.reduceAdd, Int32.reduceSub, Int32.reduceMul, decide_true, aCall, aRecv, aObj, obj, List.take_succ_cons, List.take_zero, List.drop_succ_cons, List.drop_zero, List.reverse_cons, List.reverse_nil, List.nil_append, List.cons_append, List.append_nil, List.map_cons, List.map_nil, List.sum_cons, List.sum_nil, cat_int, cat_long, cat_ref, cat_null, Option.toList_some, Option.toList_none]
  refine t5_4 hgo rfl ?_
  refine t5_5 hgo rfl ?_
  refine res_of (u5_6 hgo) ?_
  simp only [eq_self, and_self, true_and, and_true, not_true_eq_false, not_false_eq_true, if_true, if_false, reduceIte, Option.bind_some, List.getElem?_cons_zero, List.getElem?_cons_succ, Nat.reduceAdd, Nat.reduceSub, Nat.reduceLT, Nat.reduceLeDiff, Nat.le_refl, Nat.zero_add, Nat.add_zero, List.length_cons, List.length_nil, Int32.reduceLT, Int32.reduceToNatClampNeg, Int32.reduceAdd, Int32.reduceSub, Int32.reduceMul, decide_true, aPut, obj, nr_i, nr_j, nr_a, nr_o, nr_b, nr_b1, nr_b0, ft_i, ft_j, ft_a, ft_o, ft_b, ft_b1, ft_b0, List.set_cons_zero, List.set_cons_succ]
  refine t5_9 hgo rfl ?_
  refine t5_10 hgo rfl ?_
  refine res_of (u5_11 hgo) ?_
  simp only [eq_self, and_self, true_and, and_true, not_true_eq_false, not_false_eq_true, if_true, if_false, reduceIte, Option.bind_some, List.getElem?_cons_zero, List.getElem?_cons_succ, Nat.reduceAdd, Nat.reduceSub, Nat.reduceLT, Nat.reduceLeDiff, Nat.le_refl, Nat.zero_add, Nat.add_zero, List.length_cons, List.length_nil, Int32.reduceLT, Int32.reduceToNatClampNeg, Int32.reduceAdd, Int32.reduceSub, Int32.reduceMul, decide_true, aPut, obj, nr_i, nr_j, nr_a, nr_o, nr_b, nr_b1, nr_b0, ft_i, ft_j, ft_a, ft_o, ft_b, ft_b1, ft_b0, List.set_cons_zero, List.set_cons_succ]
  refine t5_14 hgo ?_
  exact is_r
set_option maxRecDepth 65536 in
set_option maxHeartbeats 4000000 in
theorem build_4 {w0 w1 w2 w3 c0 c1 c2 c3 : Int32} : F2 [.ref 0] [.inl (0, [.ref 1, .ref 2, .int 4]), .inr (.int, [.int w0, .int w1, .int w2, .int w3]), .inr (.int, [.int c0, .int c1, .int c2, .int c3])] = some (some (.ref 3), [.inl (0, [.ref 1, .ref 2, .int 4]), .inr (.int, [.int w0, .int w1, .int w2, .int w3]), .inr (.int, [.int c0, .int c1, .int c2, .int c3]), .inl (1, [.ref 4, .ref 5]), .inr (.int, [.int w0, .int w1, .int w2, .int w3]), .inr (.int, [.int c0, .int c1, .int c2, .int c3])]) := by
  refine is_of f2_in fun go hgo => ?_
  refine res_of (u2_0 hgo) ?_
  simp only [eq_self, and_self, true_and, and_true, not_true_eq_false, not_false_eq_true, if_true, if_false, reduceIte, Option.bind_some, List.getElem?_cons_zero, List.getElem?_cons_succ, Nat.reduceAdd, Nat.reduceSub, Nat.reduceLT, Nat.reduceLeDiff, Nat.le_refl, Nat.zero_add, Nat.add_zero, List.length_cons, List.length_nil, Int32.reduceLT, Int32.reduceToNatClampNeg, Int32.reduceAdd, Int32.reduceSub, Int32.reduceMul, decide_true, aNew, List.nil_append, List.cons_append, bv_4, bc_4, bi_4]
  refine t2_3 hgo rfl ?_
  refine t2_4 hgo rfl ?_
  refine res_of (u2_5 hgo) ?_
  simp only [eq_self, and_self, true_and, and_true, not_true_eq_false, not_false_eq_true, if_true, if_false, reduceIte, Option.bind_some, List.getElem?_cons_zero, List.getElem?_cons_succ, Nat.reduceAdd, Nat.reduceSub, Nat.reduceLT, Nat.reduceLeDiff, Nat.le_refl, Nat.zero_add, Nat.add_zero, List.length_cons, List.length_nil, Int32.reduceLT, Int32.reduceToNatClampNeg, Int32.reduceAdd, Int32.reduceSub, Int32.reduceMul, decide_true, aGet, obj, bv_4, bc_4, bi_4]
  refine t2_8 hgo rfl ?_
  refine res_of (u2_9 hgo) ?_
  simp only [eq_self, and_self, true_and, and_true, not_true_eq_false, not_false_eq_true, if_true, if_false, reduceIte, Option.bind_some, List.getElem?_cons_zero, List.getElem?_cons_succ, Nat.reduceAdd, Nat.reduceSub, Nat.reduceLT, Nat.reduceLeDiff, Nat.le_refl, Nat.zero_add, Nat.add_zero, List.length_cons, List.length_nil, Int32.reduceLT, Int32.reduceToNatClampNeg, Int32.reduceAdd, Int32.reduceSub, Int32.reduceMul, decide_true, aGet, obj, bv_4, bc_4, bi_4]
  refine res_of (u2_12 hgo) ?_
  simp only [eq_self, and_self, true_and, and_true, not_true_eq_false, not_false_eq_true, if_true, if_false, reduceIte, Option.bind_some, List.getElem?_cons_zero, List.getElem?_cons_succ, Nat.reduceAdd, Nat.reduceSub, Nat.reduceLT, Nat.reduceLeDiff, Nat.le_refl, Nat.zero_add, Nat.add_zero, List.length_cons, List.length_nil, Int32.reduceLT, Int32.reduceToNatClampNeg, Int32.reduceAdd, Int32.reduceSub, Int32.reduceMul, decide_true, aCall, aRecv, aObj, obj, List.take_succ_cons, List.take_zero, List.drop_succ_cons, List.drop_zero, List.reverse_cons, List.reverse_nil, List.nil_append, List.cons_append, List.append_nil, List.map_cons, List.map_nil, List.sum_cons, List.sum_nil, cat_int, cat_long, cat_ref, cat_null, Option.toList_some, Option.toList_none, bv_4, bc_4, bi_4]
  refine t2_15 hgo rfl ?_
  refine res_of (u2_16 hgo) ?_
  simp only [eq_self, and_self, true_and, and_true, not_true_eq_false, not_false_eq_true, if_true, if_false, reduceIte, Option.bind_some, List.getElem?_cons_zero, List.getElem?_cons_succ, Nat.reduceAdd, Nat.reduceSub, Nat.reduceLT, Nat.reduceLeDiff, Nat.le_refl, Nat.zero_add, Nat.add_zero, List.length_cons, List.length_nil, Int32.reduceLT, Int32.reduceToNatClampNeg, Int32.reduceAdd, Int32.reduceSub, Int32.reduceMul, decide_true, aGet, obj, bv_4, bc_4, bi_4]
  refine t2_19 hgo rfl ?_
  refine res_of (u2_20 hgo) ?_
  simp only [eq_self, and_self, true_and, and_true, not_true_eq_false, not_false_eq_true, if_true, if_false, reduceIte, Option.bind_some, List.getElem?_cons_zero, List.getElem?_cons_succ, Nat.reduceAdd, Nat.reduceSub, Nat.reduceLT, Nat.reduceLeDiff, Nat.le_refl, Nat.zero_add, Nat.add_zero, List.length_cons, List.length_nil, Int32.reduceLT, Int32.reduceToNatClampNeg, Int32.reduceAdd, Int32.reduceSub, Int32.reduceMul, decide_true, aGet, obj, bv_4, bc_4, bi_4]
  refine res_of (u2_23 hgo) ?_
  simp only [eq_self, and_self, true_and, and_true, not_true_eq_false, not_false_eq_true, if_true, if_false, reduceIte, Option.bind_some, List.getElem?_cons_zero, List.getElem?_cons_succ, Nat.reduceAdd, Nat.reduceSub, Nat.reduceLT, Nat.reduceLeDiff, Nat.le_refl, Nat.zero_add, Nat.add_zero, List.length_cons, List.length_nil, Int32.reduceLT, Int32.reduceToNatClampNeg, Int32.reduceAdd, Int32.reduceSub, Int32.reduceMul, decide_true, aCall, aRecv, aObj, obj, List.take_succ_cons, List.take_zero, List.drop_succ_cons, List.drop_zero, List.reverse_cons, List.reverse_nil, List.nil_append, List.cons_append, List.append_nil, List.map_cons, List.map_nil, List.sum_cons, List.sum_nil, cat_int, cat_long, cat_ref, cat_null, Option.toList_some, Option.toList_none, bv_4, bc_4, bi_4]
  refine res_of (u2_26 hgo) ?_
  simp only [eq_self, and_self, true_and, and_true, not_true_eq_false, not_false_eq_true, if_true, if_false, reduceIte, Option.bind_some, List.getElem?_cons_zero, List.getElem?_cons_succ, Nat.reduceAdd, Nat.reduceSub, Nat.reduceLT, Nat.reduceLeDiff, Nat.le_refl, Nat.zero_add, Nat.add_zero, List.length_cons, List.length_nil, Int32.reduceLT, Int32.reduceToNatClampNeg, Int32.reduceAdd, Int32.reduceSub, Int32.reduceMul, decide_true, aCall, aRecv, aObj, obj, List.take_succ_cons, List.take_zero, List.drop_succ_cons, List.drop_zero, List.reverse_cons, List.reverse_nil, List.nil_append, List.cons_append, List.append_nil, List.map_cons, List.map_nil, List.sum_cons, List.sum_nil, cat_int, cat_long, cat_ref, cat_null, Option.toList_some, Option.toList_none, bv_4, bc_4, bi_4]
  refine t2_29 hgo rfl ?_
  exact is_r
set_option maxRecDepth 65536 in
set_option maxHeartbeats 4000000 in
theorem size_4 {w0 w1 w2 w3 c0 c1 c2 c3 : Int32} : F6 [.ref 3] [.inl (0, [.ref 1, .ref 2, .int 4]), .inr (.int, [.int w0, .int w1, .int w2, .int w3]), .inr (.int, [.int c0, .int c1, .int c2, .int c3]), .inl (1, [.ref 4, .ref 5]), .inr (.int, [.int w0, .int w1, .int w2, .int w3]), .inr (.int, [.int c0, .int c1, .int c2, .int c3])] = some (some (.int 4), [.inl (0, [.ref 1, .ref 2, .int 4]), .inr (.int, [.int w0, .int w1, .int w2, .int w3]), .inr (.int, [.int c0, .int c1, .int c2, .int c3]), .inl (1, [.ref 4, .ref 5]), .inr (.int, [.int w0, .int w1, .int w2, .int w3]), .inr (.int, [.int c0, .int c1, .int c2, .int c3])]) := by
  refine is_of f6_in fun go hgo => ?_
  refine t6_0 hgo rfl ?_
  refine res_of (u6_1 hgo) ?_
  simp only [eq_self, and_self, true_and, and_true, not_true_eq_false, not_false_eq_true, if_true, if_false, reduceIte, Option.bind_some, List.getElem?_cons_zero, List.getElem?_cons_succ, Nat.reduceAdd, Nat.reduceSub, Nat.reduceLT, Nat.reduceLeDiff, Nat.le_refl, Nat.zero_add, Nat.add_zero, List.length_cons, List.length_nil, Int32.reduceLT, Int32.reduceToNatClampNeg, Int32.reduceAdd, Int32.reduceSub, Int32.reduceMul, decide_true, aGet, obj]
  refine res_of (u6_4 hgo) ?_
  simp only [eq_self, and_self, true_and, and_true, not_true_eq_false, not_false_eq_true, if_true, if_false, reduceIte, Option.bind_some, List.getElem?_cons_zero, List.getElem?_cons_succ, Nat.reduceAdd, Nat.reduceSub, Nat.reduceLT, Nat.reduceLeDiff, Nat.le_refl, Nat.zero_add, Nat.add_zero, List.length_cons, List.length_nil, Int32.reduceLT, Int32.reduceToNatClampNeg, Int32.reduceAdd, Int32.reduceSub, Int32.reduceMul, decide_true, pR_ref, arr, ln0, ln1, ln2, ln3, ln4, ln5, ln6, ln7, ln8, ln9, ln10, ln11, ln12, ln13, ln14, ln15, ln16, ln17, ln18, ln19, ln20, ln21, ln22, ln23, ln24, ln25, ln26, ln27, ln28, ln29, ln30, ln31, ln32, ln33, ln34, ln35, ln36]
  refine t6_5 hgo ?_
  exact is_r
set_option maxRecDepth 65536 in
set_option maxHeartbeats 4000000 in
theorem val_4_0 {w0 w1 w2 w3 c0 c1 c2 c3 : Int32} : F9 [.ref 3, .int 0] [.inl (0, [.ref 1, .ref 2, .int 4]), .inr (.int, [.int w0, .int w1, .int w2, .int w3]), .inr (.int, [.int c0, .int c1, .int c2, .int c3]), .inl (1, [.ref 4, .ref 5]), .inr (.int, [.int w0, .int w1, .int w2, .int w3]), .inr (.int, [.int c0, .int c1, .int c2, .int c3])] = some (some (.int w0), [.inl (0, [.ref 1, .ref 2, .int 4]), .inr (.int, [.int w0, .int w1, .int w2, .int w3]), .inr (.int, [.int c0, .int c1, .int c2, .int c3]), .inl (1, [.ref 4, .ref 5]), .inr (.int, [.int w0, .int w1, .int w2, .int w3]), .inr (.int, [.int c0, .int c1, .int c2, .int c3])]) := by
  refine is_of f9_in fun go hgo => ?_
  refine t9_0 hgo rfl ?_
  refine res_of (u9_1 hgo) ?_
  simp only [eq_self, and_self, true_and, and_true, not_true_eq_false, not_false_eq_true, if_true, if_false, reduceIte, Option.bind_some, List.getElem?_cons_zero, List.getElem?_cons_succ, Nat.reduceAdd, Nat.reduceSub, Nat.reduceLT, Nat.reduceLeDiff, Nat.le_refl, Nat.zero_add, Nat.add_zero, List.length_cons, List.length_nil, Int32.reduceLT, Int32.reduceToNatClampNeg, Int32.reduceAdd, Int32.reduceSub, Int32.reduceMul, decide_true, aGet, obj]
  refine t9_4 hgo ?_
  refine res_of (u9_5 hgo) ?_
  simp only [eq_self, and_self, true_and, and_true, not_true_eq_false, not_false_eq_true, if_true, if_false, reduceIte, Option.bind_some, List.getElem?_cons_zero, List.getElem?_cons_succ, Nat.reduceAdd, Nat.reduceSub, Nat.reduceLT, Nat.reduceLeDiff, Nat.le_refl, Nat.zero_add, Nat.add_zero, List.length_cons, List.length_nil, Int32.reduceLT, Int32.reduceToNatClampNeg, Int32.reduceAdd, Int32.reduceSub, Int32.reduceMul, decide_true, ex_iaload, ald, pI_int, pR_ref, arr, isT, isBZ]
  refine t9_6 hgo ?_
  exact is_r
set_option maxRecDepth 65536 in
set_option maxHeartbeats 4000000 in
theorem cnt_4_0 {w0 w1 w2 w3 c0 c1 c2 c3 : Int32} : F10 [.ref 3, .int 0] [.inl (0, [.ref 1, .ref 2, .int 4]), .inr (.int, [.int w0, .int w1, .int w2, .int w3]), .inr (.int, [.int c0, .int c1, .int c2, .int c3]), .inl (1, [.ref 4, .ref 5]), .inr (.int, [.int w0, .int w1, .int w2, .int w3]), .inr (.int, [.int c0, .int c1, .int c2, .int c3])] = some (some (.int c0), [.inl (0, [.ref 1, .ref 2, .int 4]), .inr (.int, [.int w0, .int w1, .int w2, .int w3]), .inr (.int, [.int c0, .int c1, .int c2, .int c3]), .inl (1, [.ref 4, .ref 5]), .inr (.int, [.int w0, .int w1, .int w2, .int w3]), .inr (.int, [.int c0, .int c1, .int c2, .int c3])]) := by
  refine is_of f10_in fun go hgo => ?_
  refine t10_0 hgo rfl ?_
  refine res_of (u10_1 hgo) ?_
  simp only [eq_self, and_self, true_and, and_true, not_true_eq_false, not_false_eq_true, if_true, if_false, reduceIte, Option.bind_some, List.getElem?_cons_zero, List.getElem?_cons_succ, Nat.reduceAdd, Nat.reduceSub, Nat.reduceLT, Nat.reduceLeDiff, Nat.le_refl, Nat.zero_add, Nat.add_zero, List.length_cons, List.length_nil, Int32.reduceLT, Int32.reduceToNatClampNeg, Int32.reduceAdd, Int32.reduceSub, Int32.reduceMul, decide_true, aGet, obj]
  refine t10_4 hgo ?_
  refine res_of (u10_5 hgo) ?_
  simp only [eq_self, and_self, true_and, and_true, not_true_eq_false, not_false_eq_true, if_true, if_false, reduceIte, Option.bind_some, List.getElem?_cons_zero, List.getElem?_cons_succ, Nat.reduceAdd, Nat.reduceSub, Nat.reduceLT, Nat.reduceLeDiff, Nat.le_refl, Nat.zero_add, Nat.add_zero, List.length_cons, List.length_nil, Int32.reduceLT, Int32.reduceToNatClampNeg, Int32.reduceAdd, Int32.reduceSub, Int32.reduceMul, decide_true, ex_iaload, ald, pI_int, pR_ref, arr, isT, isBZ]
  refine t10_6 hgo ?_
  exact is_r
set_option maxRecDepth 65536 in
set_option maxHeartbeats 4000000 in
theorem val_4_1 {w0 w1 w2 w3 c0 c1 c2 c3 : Int32} : F9 [.ref 3, .int 1] [.inl (0, [.ref 1, .ref 2, .int 4]), .inr (.int, [.int w0, .int w1, .int w2, .int w3]), .inr (.int, [.int c0, .int c1, .int c2, .int c3]), .inl (1, [.ref 4, .ref 5]), .inr (.int, [.int w0, .int w1, .int w2, .int w3]), .inr (.int, [.int c0, .int c1, .int c2, .int c3])] = some (some (.int w1), [.inl (0, [.ref 1, .ref 2, .int 4]), .inr (.int, [.int w0, .int w1, .int w2, .int w3]), .inr (.int, [.int c0, .int c1, .int c2, .int c3]), .inl (1, [.ref 4, .ref 5]), .inr (.int, [.int w0, .int w1, .int w2, .int w3]), .inr (.int, [.int c0, .int c1, .int c2, .int c3])]) := by
  refine is_of f9_in fun go hgo => ?_
  refine t9_0 hgo rfl ?_
  refine res_of (u9_1 hgo) ?_
  simp only [eq_self, and_self, true_and, and_true, not_true_eq_false, not_false_eq_true, if_true, if_false, reduceIte, Option.bind_some, List.getElem?_cons_zero, List.getElem?_cons_succ, Nat.reduceAdd, Nat.reduceSub, Nat.reduceLT, Nat.reduceLeDiff, Nat.le_refl, Nat.zero_add, Nat.add_zero, List.length_cons, List.length_nil, Int32.reduceLT, Int32.reduceToNatClampNeg, Int32.reduceAdd, Int32.reduceSub, Int32.reduceMul, decide_true, aGet, obj]
  refine t9_4 hgo ?_
  refine res_of (u9_5 hgo) ?_
  simp only [eq_self, and_self, true_and, and_true, not_true_eq_false, not_false_eq_true, if_true, if_false, reduceIte, Option.bind_some, List.getElem?_cons_zero, List.getElem?_cons_succ, Nat.reduceAdd, Nat.reduceSub, Nat.reduceLT, Nat.reduceLeDiff, Nat.le_refl, Nat.zero_add, Nat.add_zero, List.length_cons, List.length_nil, Int32.reduceLT, Int32.reduceToNatClampNeg, Int32.reduceAdd, Int32.reduceSub, Int32.reduceMul, decide_true, ex_iaload, ald, pI_int, pR_ref, arr, isT, isBZ]
  refine t9_6 hgo ?_
  exact is_r
set_option maxRecDepth 65536 in
set_option maxHeartbeats 4000000 in
theorem cnt_4_1 {w0 w1 w2 w3 c0 c1 c2 c3 : Int32} : F10 [.ref 3, .int 1] [.inl (0, [.ref 1, .ref 2, .int 4]), .inr (.int, [.int w0, .int w1, .int w2, .int w3]), .inr (.int, [.int c0, .int c1, .int c2, .int c3]), .inl (1, [.ref 4, .ref 5]), .inr (.int, [.int w0, .int w1, .int w2, .int w3]), .inr (.int, [.int c0, .int c1, .int c2, .int c3])] = some (some (.int c1), [.inl (0, [.ref 1, .ref 2, .int 4]), .inr (.int, [.int w0, .int w1, .int w2, .int w3]), .inr (.int, [.int c0, .int c1, .int c2, .int c3]), .inl (1, [.ref 4, .ref 5]), .inr (.int, [.int w0, .int w1, .int w2, .int w3]), .inr (.int, [.int c0, .int c1, .int c2, .int c3])]) := by
  refine is_of f10_in fun go hgo => ?_
  refine t10_0 hgo rfl ?_
  refine res_of (u10_1 hgo) ?_
  simp only [eq_self, and_self, true_and, and_true, not_true_eq_false, not_false_eq_true, if_true, if_false, reduceIte, Option.bind_some, List.getElem?_cons_zero, List.getElem?_cons_succ, Nat.reduceAdd, Nat.reduceSub, Nat.reduceLT, Nat.reduceLeDiff, Nat.le_refl, Nat.zero_add, Nat.add_zero, List.length_cons, List.length_nil, Int32.reduceLT, Int32.reduceToNatClampNeg, Int32.reduceAdd, Int32.reduceSub, Int32.reduceMul, decide_true, aGet, obj]
  refine t10_4 hgo ?_
  refine res_of (u10_5 hgo) ?_
  simp only [eq_self, and_self, true_and, and_true, not_true_eq_false, not_false_eq_true, if_true, if_false, reduceIte, Option.bind_some, List.getElem?_cons_zero, List.getElem?_cons_succ, Nat.reduceAdd, Nat.reduceSub, Nat.reduceLT, Nat.reduceLeDiff, Nat.le_refl, Nat.zero_add, Nat.add_zero, List.length_cons, List.length_nil, Int32.reduceLT, Int32.reduceToNatClampNeg, Int32.reduceAdd, Int32.reduceSub, Int32.reduceMul, decide_true, ex_iaload, ald, pI_int, pR_ref, arr, isT, isBZ]
  refine t10_6 hgo ?_
  exact is_r
set_option maxRecDepth 65536 in
set_option maxHeartbeats 4000000 in
theorem val_4_2 {w0 w1 w2 w3 c0 c1 c2 c3 : Int32} : F9 [.ref 3, .int 2] [.inl (0, [.ref 1, .ref 2, .int 4]), .inr (.int, [.int w0, .int w1, .int w2, .int w3]), .inr (.int, [.int c0, .int c1, .int c2, .int c3]), .inl (1, [.ref 4, .ref 5]), .inr (.int, [.int w0, .int w1, .int w2, .int w3]), .inr (.int, [.int c0, .int c1, .int c2, .int c3])] = some (some (.int w2), [.inl (0, [.ref 1, .ref 2, .int 4]), .inr (.int, [.int w0, .int w1, .int w2, .int w3]), .inr (.int, [.int c0, .int c1, .int c2, .int c3]), .inl (1, [.ref 4, .ref 5]), .inr (.int, [.int w0, .int w1, .int w2, .int w3]), .inr (.int, [.int c0, .int c1, .int c2, .int c3])]) := by
  refine is_of f9_in fun go hgo => ?_
  refine t9_0 hgo rfl ?_
  refine res_of (u9_1 hgo) ?_
  simp only [eq_self, and_self, true_and, and_true, not_true_eq_false, not_false_eq_true, if_true, if_false, reduceIte, Option.bind_some, List.getElem?_cons_zero, List.getElem?_cons_succ, Nat.reduceAdd, Nat.reduceSub, Nat.reduceLT, Nat.reduceLeDiff, Nat.le_refl, Nat.zero_add, Nat.add_zero, List.length_cons, List.length_nil, Int32.reduceLT, Int32.reduceToNatClampNeg, Int32.reduceAdd, Int32.reduceSub, Int32.reduceMul, decide_true, aGet, obj]
  refine t9_4 hgo ?_
  refine res_of (u9_5 hgo) ?_
  simp only [eq_self, and_self, true_and, and_true, not_true_eq_false, not_false_eq_true, if_true, if_false, reduceIte, Option.bind_some, List.getElem?_cons_zero, List.getElem?_cons_succ, Nat.reduceAdd, Nat.reduceSub, Nat.reduceLT, Nat.reduceLeDiff, Nat.le_refl, Nat.zero_add, Nat.add_zero, List.length_cons, List.length_nil, Int32.reduceLT, Int32.reduceToNatClampNeg, Int32.reduceAdd, Int32.reduceSub, Int32.reduceMul, decide_true, ex_iaload, ald, pI_int, pR_ref, arr, isT, isBZ]
  refine t9_6 hgo ?_
  exact is_r
set_option maxRecDepth 65536 in
set_option maxHeartbeats 4000000 in
theorem cnt_4_2 {w0 w1 w2 w3 c0 c1 c2 c3 : Int32} : F10 [.ref 3, .int 2] [.inl (0, [.ref 1, .ref 2, .int 4]), .inr (.int, [.int w0, .int w1, .int w2, .int w3]), .inr (.int, [.int c0, .int c1, .int c2, .int c3]), .inl (1, [.ref 4, .ref 5]), .inr (.int, [.int w0, .int w1, .int w2, .int w3]), .inr (.int, [.int c0, .int c1, .int c2, .int c3])] = some (some (.int c2), [.inl (0, [.ref 1, .ref 2, .int 4]), .inr (.int, [.int w0, .int w1, .int w2, .int w3]), .inr (.int, [.int c0, .int c1, .int c2, .int c3]), .inl (1, [.ref 4, .ref 5]), .inr (.int, [.int w0, .int w1, .int w2, .int w3]), .inr (.int, [.int c0, .int c1, .int c2, .int c3])]) := by
  refine is_of f10_in fun go hgo => ?_
  refine t10_0 hgo rfl ?_
  refine res_of (u10_1 hgo) ?_
  simp only [eq_self, and_self, true_and, and_true, not_true_eq_false, not_false_eq_true, if_true, if_false, reduceIte, Option.bind_some, List.getElem?_cons_zero, List.getElem?_cons_succ, Nat.reduceAdd, Nat.reduceSub, Nat.reduceLT, Nat.reduceLeDiff, Nat.le_refl, Nat.zero_add, Nat.add_zero, List.length_cons, List.length_nil, Int32.reduceLT, Int32.reduceToNatClampNeg, Int32.reduceAdd, Int32.reduceSub, Int32.reduceMul, decide_true, aGet, obj]
  refine t10_4 hgo ?_
  refine res_of (u10_5 hgo) ?_
  simp only [eq_self, and_self, true_and, and_true, not_true_eq_false, not_false_eq_true, if_true, if_false, reduceIte, Option.bind_some, List.getElem?_cons_zero, List.getElem?_cons_succ, Nat.reduceAdd, Nat.reduceSub, Nat.reduceLT, Nat.reduceLeDiff, Nat.le_refl, Nat.zero_add, Nat.add_zero, List.length_cons, List.length_nil, Int32.reduceLT, Int32.reduceToNatClampNeg, Int32.reduceAdd, Int32.reduceSub, Int32.reduceMul, decide_true, ex_iaload, ald, pI_int, pR_ref, arr, isT, isBZ]
  refine t10_6 hgo ?_
  exact is_r
set_option maxRecDepth 65536 in
set_option maxHeartbeats 4000000 in
theorem val_4_3 {w0 w1 w2 w3 c0 c1 c2 c3 : Int32} : F9 [.ref 3, .int 3] [.inl (0, [.ref 1, .ref 2, .int 4]), .inr (.int, [.int w0, .int w1, .int w2, .int w3]), .inr (.int, [.int c0, .int c1, .int c2, .int c3]), .inl (1, [.ref 4, .ref 5]), .inr (.int, [.int w0, .int w1, .int w2, .int w3]), .inr (.int, [.int c0, .int c1, .int c2, .int c3])] = some (some (.int w3), [.inl (0, [.ref 1, .ref 2, .int 4]), .inr (.int, [.int w0, .int w1, .int w2, .int w3]), .inr (.int, [.int c0, .int c1, .int c2, .int c3]), .inl (1, [.ref 4, .ref 5]), .inr (.int, [.int w0, .int w1, .int w2, .int w3]), .inr (.int, [.int c0, .int c1, .int c2, .int c3])]) := by
  refine is_of f9_in fun go hgo => ?_
  refine t9_0 hgo rfl ?_
  refine res_of (u9_1 hgo) ?_
  simp only [eq_self, and_self, true_and, and_true, not_true_eq_false, not_false_eq_true, if_true, if_false, reduceIte, Option.bind_some, List.getElem?_cons_zero, List.getElem?_cons_succ, Nat.reduceAdd, Nat.reduceSub, Nat.reduceLT, Nat.reduceLeDiff, Nat.le_refl, Nat.zero_add, Nat.add_zero, List.length_cons, List.length_nil, Int32.reduceLT, Int32.reduceToNatClampNeg, Int32.reduceAdd, Int32.reduceSub, Int32.reduceMul, decide_true, aGet, obj]
  refine t9_4 hgo ?_
  refine res_of (u9_5 hgo) ?_
  simp only [eq_self, and_self, true_and, and_true, not_true_eq_false, not_false_eq_true, if_true, if_false, reduceIte, Option.bind_some, List.getElem?_cons_zero, List.getElem?_cons_succ, Nat.reduceAdd, Nat.reduceSub, Nat.reduceLT, Nat.reduceLeDiff, Nat.le_refl, Nat.zero_add, Nat.add_zero, List.length_cons, List.length_nil, Int32.reduceLT, Int32.reduceToNatClampNeg, Int32.reduceAdd, Int32.reduceSub, Int32.reduceMul, decide_true, ex_iaload, ald, pI_int, pR_ref, arr, isT, isBZ]
  refine t9_6 hgo ?_
  exact is_r
set_option maxRecDepth 65536 in
set_option maxHeartbeats 4000000 in
theorem cnt_4_3 {w0 w1 w2 w3 c0 c1 c2 c3 : Int32} : F10 [.ref 3, .int 3] [.inl (0, [.ref 1, .ref 2, .int 4]), .inr (.int, [.int w0, .int w1, .int w2, .int w3]), .inr (.int, [.int c0, .int c1, .int c2, .int c3]), .inl (1, [.ref 4, .ref 5]), .inr (.int, [.int w0, .int w1, .int w2, .int w3]), .inr (.int, [.int c0, .int c1, .int c2, .int c3])] = some (some (.int c3), [.inl (0, [.ref 1, .ref 2, .int 4]), .inr (.int, [.int w0, .int w1, .int w2, .int w3]), .inr (.int, [.int c0, .int c1, .int c2, .int c3]), .inl (1, [.ref 4, .ref 5]), .inr (.int, [.int w0, .int w1, .int w2, .int w3]), .inr (.int, [.int c0, .int c1, .int c2, .int c3])]) := by
  refine is_of f10_in fun go hgo => ?_
  refine t10_0 hgo rfl ?_
  refine res_of (u10_1 hgo) ?_
  simp only [eq_self, and_self, true_and, and_true, not_true_eq_false, not_false_eq_true, if_true, if_false, reduceIte, Option.bind_some, List.getElem?_cons_zero, List.getElem?_cons_succ, Nat.reduceAdd, Nat.reduceSub, Nat.reduceLT, Nat.reduceLeDiff, Nat.le_refl, Nat.zero_add, Nat.add_zero, List.length_cons, List.length_nil, Int32.reduceLT, Int32.reduceToNatClampNeg, Int32.reduceAdd, Int32.reduceSub, Int32.reduceMul, decide_true, aGet, obj]
  refine t10_4 hgo ?_
  refine res_of (u10_5 hgo) ?_
  simp only [eq_self, and_self, true_and, and_true, not_true_eq_false, not_false_eq_true, if_true, if_false, reduceIte, Option.bind_some, List.getElem?_cons_zero, List.getElem?_cons_succ, Nat.reduceAdd, Nat.reduceSub, Nat.reduceLT, Nat.reduceLeDiff, Nat.le_refl, Nat.zero_add, Nat.add_zero, List.length_cons, List.length_nil, Int32.reduceLT, Int32.reduceToNatClampNeg, Int32.reduceAdd, Int32.reduceSub, Int32.reduceMul, decide_true, ex_iaload, ald, pI_int, pR_ref, arr, isT, isBZ]
  refine t10_6 hgo ?_
  exact is_r
set_option maxRecDepth 65536 in
set_option maxHeartbeats 4000000 in
theorem bv_5 {w0 w1 w2 w3 w4 c0 c1 c2 c3 c4 : Int32} : F3 [.ref 3, .int 5] [.inl (0, [.ref 3, .ref 4, .int 5]), .inr (.int, [.int w0, .int w1, .int w2, .int w3]), .inr (.int, [.int c0, .int c1, .int c2, .int c3]), .inr (.int, [.int w0, .int w1, .int w2, .int w3, .int w4, .int 0, .int 0, .int 0]), .inr (.int, [.int c0, .int c1, .int c2, .int c3, .int c4, .int 0, .int 0, .int 0]), .inl (1, [.null, .null])] = some (some (.ref 6), [.inl (0, [.ref 3, .ref 4, .int 5]), .inr (.int, [.int w0, .int w1, .int w2, .int w3]), .inr (.int, [.int c0, .int c1, .int c2, .int c3]), .inr (.int, [.int w0, .int w1, .int w2, .int w3, .int w4, .int 0, .int 0, .int 0]), .inr (.int, [.int c0, .int c1, .int c2, .int c3, .int c4, .int 0, .int 0, .int 0]), .inl (1, [.null, .null]), .inr (.int, [.int w0, .int w1, .int w2, .int w3, .int w4])]) := by
  refine is_of f3_in fun go hgo => ?_
  refine t3_0 hgo ?_
  refine t3_1 hgo rfl ?_
  refine res_of (u3_2 hgo) ?_
  simp only [eq_self, and_self, true_and, and_true, not_true_eq_false, not_false_eq_true, if_true, if_false, reduceIte, Option.bind_some, List.getElem?_cons_zero, List.getElem?_cons_succ, Nat.reduceAdd, Nat.reduceSub, Nat.reduceLT, Nat.reduceLeDiff, Nat.le_refl, Nat.zero_add, Nat.add_zero, List.length_cons, List.length_nil, Int32.reduceLT, Int32.reduceToNatClampNeg, Int32.reduceAdd, Int32.reduceSub, Int32.reduceMul, decide_true, pR_ref, arr, ln0, ln1, ln2, ln3, ln4, ln5, ln6, ln7, ln8, ln9, ln10, ln11, ln12, ln13, ln14, ln15, ln16, ln17, ln18, ln19, ln20, ln21, ln22, ln23, ln24, ln25, ln26, ln27, ln28, ln29, ln30, ln31, ln32, ln33, ln34, ln35, ln36, F4_b (x := 8) (y := 5) (by decide)]
  refine t3_3f hgo (by decide) ?_
  refine t3_14 hgo ?_
  refine res_of (u3_15 hgo) ?_
  simp only [eq_self, and_self, true_and, and_true, not_true_eq_false, not_false_eq_true, if_true, if_false, reduceIte, Option.bind_some, List.getElem?_cons_zero, List.getElem?_cons_succ, Nat.reduceAdd, Nat.reduceSub, Nat.reduceLT, Nat.reduceLeDiff, Nat.le_refl, Nat.zero_add, Nat.add_zero, List.length_cons, List.length_nil, Int32.reduceLT, Int32.reduceToNatClampNeg, Int32.reduceAdd, Int32.reduceSub, Int32.reduceMul, decide_true, aArr, List.nil_append, List.cons_append, List.replicate_zero, List.replicate_succ, defaultValue, F4_b (x := 8) (y := 5) (by decide)]
  refine t3_17 hgo rfl rfl ?_
  refine t3_18 hgo rfl ?_
  refine t3_19 hgo ?_
  refine t3_20 hgo rfl ?_
  refine t3_21 hgo ?_
  refine t3_22 hgo rfl ?_
  refine res_of (u3_23 hgo) ?_
  simp only [eq_self, and_self, true_and, and_true, not_true_eq_false, not_false_eq_true, if_true, if_false, reduceIte, Option.bind_some, List.getElem?_cons_zero, List.getElem?_cons_succ, Nat.reduceAdd, Nat.reduceSub, Nat.reduceLT, Nat.reduceLeDiff, Nat.le_refl, Nat.zero_add, Nat.add_zero, List.length_cons, List.length_nil, Int32.reduceLT, Int32.reduceToNatClampNeg, Int32.reduceAdd, Int32.reduceSub, Int32.reduceMul, decide_true, pR_ref, arr, ln0, ln1, ln2, ln3, ln4, ln5, ln6, ln7, ln8, ln9, ln10, ln11, ln12, ln13, ln14, ln15, ln16, ln17, ln18, ln19, ln20, ln21, ln22, ln23, ln24, ln25, ln26, ln27, ln28, ln29, ln30, ln31, ln32, ln33, ln34, ln35, ln36, F4_b (x := 8) (y := 5) (by decide)]
  refine t3_24 hgo ?_
  refine res_of (u3_25 hgo) ?_
  simp only [eq_self, and_self, true_and, and_true, not_true_eq_false, not_false_eq_true, if_true, if_false, reduceIte, Option.bind_some, List.getElem?_cons_zero, List.getElem?_cons_succ, Nat.reduceAdd, Nat.reduceSub, Nat.reduceLT, Nat.reduceLeDiff, Nat.le_refl, Nat.zero_add, Nat.add_zero, List.length_cons, List.length_nil, Int32.reduceLT, Int32.reduceToNatClampNeg, Int32.reduceAdd, Int32.reduceSub, Int32.reduceMul, decide_true, aCall, aRecv, aObj, obj, List.take_succ_cons, List.take_zero, List.drop_succ_cons, List.drop_zero, List.reverse_cons, List.reverse_nil, List.nil_append, List.cons_append, List.append_nil, List.map_cons, List.map_nil, List.sum_cons, List.sum_nil, cat_int, cat_long, cat_ref, cat_null, Option.toList_some, Option.toList_none, F4_b (x := 8) (y := 5) (by decide)]
  refine res_of (u3_28 hgo) ?_
  simp only [nr_i, nr_j, nr_a, nr_o, nr_b, nr_b1, nr_b0, ft_i, ft_j, ft_a, ft_o, ft_b, ft_b1, ft_b0, rV_nil, b_1, b_0, b_1r, b_0r, b_bb, b_and, i_10, i_01, eq_self, iff_self, not_true_eq_false, not_false_eq_true, ite_not, cat_int, cat_long, cat_ref, cat_null, and11, and01, Nat.reduceAdd, Nat.reduceSub, Nat.reduceMul, Nat.reduceLT, Nat.reduceLeDiff, Nat.reduceEqDiff, Int32.reduceAdd, Int32.reduceSub, Int32.reduceMul, Int32.reduceMod, Int32.reduceLT, Int32.reduceLE, Int32.reduceToNatClampNeg, Int64.reduceAdd, Int64.reduceSub, Int64.reduceLT, Nat.le_refl, Nat.zero_add, Nat.add_zero, and_self, Option.bind_some, Option.bind_none, gI, gL, gA, st1, st2, pI_int, pL_long, pA_ref, pA_null, pR_ref, p1_int, p1_ref, p1_null, ex_ishl, ex_ishr, ex_iushr, ex_idiv, ex_irem, ex_ineg, ex_i2b, ex_i2c, ex_i2s, ex_i2l, ex_l2i, ex_lneg, ex_lshl, ex_lshr, ex_lushr, ex_ldiv, ex_lrem, ex_lcmp, ex_dup, ex_pop, ex_dup_x1, ex_dup2, ex_ifnull, ex_ifnonnull, ex_if_acmp, ex_arraylength, ex_iaload, ex_baload, ex_caload, ex_laload, ex_aaload, ex_iastore, ex_bastore, ex_castore, ex_lastore, ex_ldc, ex_ldc_w, ex_ldc2_w, ex_getfield, ex_putfield, ex_getstatic, ex_new, ex_invokestatic, ex_invokespecial, ex_invokevirtual, ex_checkcast, ex_instanceof, ex_anewarray, ex_newarray, ex_ireturn, ex_lreturn, ex_areturn, ex_return, br_d, br_n, br_t, br_f, spc, look, aI, aJ, aGet, aPut, aNew, aArr, aObj, aCall, aRecv, obj, arr, ald, ast, astL, isT, isBZ, atn, refEq, acV, List.getElem?_cons_zero, List.getElem?_cons_succ, List.set_cons_zero, List.set_cons_succ, List.take_succ_cons, List.take_zero, List.drop_succ_cons, List.drop_zero, List.reverse_cons, List.reverse_nil, List.nil_append, List.cons_append, List.map_cons, List.map_nil, List.sum_cons, List.sum_nil, List.length_cons, List.length_nil, Option.toList_some, Option.toList_none, List.append_nil, true_and, and_true, not_false_eq_true, decide_true, decide_false, Bool.not_true, Bool.not_false, if_true, if_false, reduceIte, Option.map_some, nar, defaultValue, List.replicate_zero, List.replicate_succ, ln0, ln1, ln2, ln3, ln4, ln5, ln6, ln7, ln8, ln9, ln10, ln11, ln12, ln13, ln14, ln15, ln16, ln17, ln18, ln19, ln20, ln21, ln22, ln23, ln24, ln25, ln26, ln27, ln28, ln29, ln30, ln31, ln32, ln33, ln34, ln35, ln36, aSta, aCast, aClone, aCopy, F4_b (x := 8) (y := 5) (by decide)]
  refine t3_31 hgo rfl ?_
  refine t3_32 hgo rfl ?_
  exact is_r
set_option maxRecDepth 65536 in
set_option maxHeartbeats 4000000 in
theorem bc_5 {w0 w1 w2 w3 w4 c0 c1 c2 c3 c4 : Int32} : F3 [.ref 4, .int 5] [.inl (0, [.ref 3, .ref 4, .int 5]), .inr (.int, [.int w0, .int w1, .int w2, .int w3]), .inr (.int, [.int c0, .int c1, .int c2, .int c3]), .inr (.int, [.int w0, .int w1, .int w2, .int w3, .int w4, .int 0, .int 0, .int 0]), .inr (.int, [.int c0, .int c1, .int c2, .int c3, .int c4, .int 0, .int 0, .int 0]), .inl (1, [.null, .null]), .inr (.int, [.int w0, .int w1, .int w2, .int w3, .int w4])] = some (some (.ref 7), [.inl (0, [.ref 3, .ref 4, .int 5]), .inr (.int, [.int w0, .int w1, .int w2, .int w3]), .inr (.int, [.int c0, .int c1, .int c2, .int c3]), .inr (.int, [.int w0, .int w1, .int w2, .int w3, .int w4, .int 0, .int 0, .int 0]), .inr (.int, [.int c0, .int c1, .int c2, .int c3, .int c4, .int 0, .int 0, .int 0]), .inl (1, [.null, .null]), .inr (.int, [.int w0, .int w1, .int w2, .int w3, .int w4]), .inr (.int, [.int c0, .int c1, .int c2, .int c3, .int c4])]) := by
  refine is_of f3_in fun go hgo => ?_
  refine t3_0 hgo ?_
  refine t3_1 hgo rfl ?_
  refine res_of (u3_2 hgo) ?_
  simp only [eq_self, and_self, true_and, and_true, not_true_eq_false, not_false_eq_true, if_true, if_false, reduceIte, Option.bind_some, List.getElem?_cons_zero, List.getElem?_cons_succ, Nat.reduceAdd, Nat.reduceSub, Nat.reduceLT, Nat.reduceLeDiff, Nat.le_refl, Nat.zero_add, Nat.add_zero, List.length_cons, List.length_nil, Int32.reduceLT, Int32.reduceToNatClampNeg, Int32.reduceAdd, Int32.reduceSub, Int32.reduceMul, decide_true, pR_ref, arr, ln0, ln1, ln2, ln3, ln4, ln5, ln6, ln7, ln8, ln9, ln10, ln11, ln12, ln13, ln14, ln15, ln16, ln17, ln18, ln19, ln20, ln21, ln22, ln23, ln24, ln25, ln26, ln27, ln28, ln29, ln30, ln31, ln32, ln33, ln34, ln35, ln36, F4_b (x := 8) (y := 5) (by decide)]
  refine t3_3f hgo (by decide) ?_
  refine t3_14 hgo ?_
  refine res_of (u3_15 hgo) ?_
  simp only [eq_self, and_self, true_and, and_true, not_true_eq_false, not_false_eq_true, if_true, if_false, reduceIte, Option.bind_some, List.getElem?_cons_zero, List.getElem?_cons_succ, Nat.reduceAdd, Nat.reduceSub, Nat.reduceLT, Nat.reduceLeDiff, Nat.le_refl, Nat.zero_add, Nat.add_zero, List.length_cons, List.length_nil, Int32.reduceLT, Int32.reduceToNatClampNeg, Int32.reduceAdd, Int32.reduceSub, Int32.reduceMul, decide_true, aArr, List.nil_append, List.cons_append, List.replicate_zero, List.replicate_succ, defaultValue, F4_b (x := 8) (y := 5) (by decide)]
  refine t3_17 hgo rfl rfl ?_
  refine t3_18 hgo rfl ?_
  refine t3_19 hgo ?_
  refine t3_20 hgo rfl ?_
  refine t3_21 hgo ?_
  refine t3_22 hgo rfl ?_
  refine res_of (u3_23 hgo) ?_
  simp only [eq_self, and_self, true_and, and_true, not_true_eq_false, not_false_eq_true, if_true, if_false, reduceIte, Option.bind_some, List.getElem?_cons_zero, List.getElem?_cons_succ, Nat.reduceAdd, Nat.reduceSub, Nat.reduceLT, Nat.reduceLeDiff, Nat.le_refl, Nat.zero_add, Nat.add_zero, List.length_cons, List.length_nil, Int32.reduceLT, Int32.reduceToNatClampNeg, Int32.reduceAdd, Int32.reduceSub, Int32.reduceMul, decide_true, pR_ref, arr, ln0, ln1, ln2, ln3, ln4, ln5, ln6, ln7, ln8, ln9, ln10, ln11, ln12, ln13, ln14, ln15, ln16, ln17, ln18, ln19, ln20, ln21, ln22, ln23, ln24, ln25, ln26, ln27, ln28, ln29, ln30, ln31, ln32, ln33, ln34, ln35, ln36, F4_b (x := 8) (y := 5) (by decide)]
  refine t3_24 hgo ?_
  refine res_of (u3_25 hgo) ?_
  simp only [eq_self, and_self, true_and, and_true, not_true_eq_false, not_false_eq_true, if_true, if_false, reduceIte, Option.bind_some, List.getElem?_cons_zero, List.getElem?_cons_succ, Nat.reduceAdd, Nat.reduceSub, Nat.reduceLT, Nat.reduceLeDiff, Nat.le_refl, Nat.zero_add, Nat.add_zero, List.length_cons, List.length_nil, Int32.reduceLT, Int32.reduceToNatClampNeg, Int32.reduceAdd, Int32.reduceSub, Int32.reduceMul, decide_true, aCall, aRecv, aObj, obj, List.take_succ_cons, List.take_zero, List.drop_succ_cons, List.drop_zero, List.reverse_cons, List.reverse_nil, List.nil_append, List.cons_append, List.append_nil, List.map_cons, List.map_nil, List.sum_cons, List.sum_nil, cat_int, cat_long, cat_ref, cat_null, Option.toList_some, Option.toList_none, F4_b (x := 8) (y := 5) (by decide)]
  refine res_of (u3_28 hgo) ?_
  simp only [nr_i, nr_j, nr_a, nr_o, nr_b, nr_b1, nr_b0, ft_i, ft_j, ft_a, ft_o, ft_b, ft_b1, ft_b0, rV_nil, b_1, b_0, b_1r, b_0r, b_bb, b_and, i_10, i_01, eq_self, iff_self, not_true_eq_false, not_false_eq_true, ite_not, cat_int, cat_long, cat_ref, cat_null, and11, and01, Nat.reduceAdd, Nat.reduceSub, Nat.reduceMul, Nat.reduceLT, Nat.reduceLeDiff, Nat.reduceEqDiff, Int32.reduceAdd, Int32.reduceSub, Int32.reduceMul, Int32.reduceMod, Int32.reduceLT, Int32.reduceLE, Int32.reduceToNatClampNeg, Int64.reduceAdd, Int64.reduceSub, Int64.reduceLT, Nat.le_refl, Nat.zero_add, Nat.add_zero, and_self, Option.bind_some, Option.bind_none, gI, gL, gA, st1, st2, pI_int, pL_long, pA_ref, pA_null, pR_ref, p1_int, p1_ref, p1_null, ex_ishl, ex_ishr, ex_iushr, ex_idiv, ex_irem, ex_ineg, ex_i2b, ex_i2c, ex_i2s, ex_i2l, ex_l2i, ex_lneg, ex_lshl, ex_lshr, ex_lushr, ex_ldiv, ex_lrem, ex_lcmp, ex_dup, ex_pop, ex_dup_x1, ex_dup2, ex_ifnull, ex_ifnonnull, ex_if_acmp, ex_arraylength, ex_iaload, ex_baload, ex_caload, ex_laload, ex_aaload, ex_iastore, ex_bastore, ex_castore, ex_lastore, ex_ldc, ex_ldc_w, ex_ldc2_w, ex_getfield, ex_putfield, ex_getstatic, ex_new, ex_invokestatic, ex_invokespecial, ex_invokevirtual, ex_checkcast, ex_instanceof, ex_anewarray, ex_newarray, ex_ireturn, ex_lreturn, ex_areturn, ex_return, br_d, br_n, br_t, br_f, spc, look, aI, aJ, aGet, aPut, aNew, aArr, aObj, aCall, aRecv, obj, arr, ald, ast, astL, isT, isBZ, atn, refEq, acV, List.getElem?_cons_zero, List.getElem?_cons_succ, List.set_cons_zero, List.set_cons_succ, List.take_succ_cons, List.take_zero, List.drop_succ_cons, List.drop_zero, List.reverse_cons, List.reverse_nil, List.nil_append, List.cons_append, List.map_cons, List.map_nil, List.sum_cons, List.sum_nil, List.length_cons, List.length_nil, Option.toList_some, Option.toList_none, List.append_nil, true_and, and_true, not_false_eq_true, decide_true, decide_false, Bool.not_true, Bool.not_false, if_true, if_false, reduceIte, Option.map_some, nar, defaultValue, List.replicate_zero, List.replicate_succ, ln0, ln1, ln2, ln3, ln4, ln5, ln6, ln7, ln8, ln9, ln10, ln11, ln12, ln13, ln14, ln15, ln16, ln17, ln18, ln19, ln20, ln21, ln22, ln23, ln24, ln25, ln26, ln27, ln28, ln29, ln30, ln31, ln32, ln33, ln34, ln35, ln36, aSta, aCast, aClone, aCopy, F4_b (x := 8) (y := 5) (by decide)]
  refine t3_31 hgo rfl ?_
  refine t3_32 hgo rfl ?_
  exact is_r
set_option maxRecDepth 65536 in
set_option maxHeartbeats 4000000 in
theorem bi_5 {w0 w1 w2 w3 w4 c0 c1 c2 c3 c4 : Int32} : F5 [.ref 5, .ref 6, .ref 7] [.inl (0, [.ref 3, .ref 4, .int 5]), .inr (.int, [.int w0, .int w1, .int w2, .int w3]), .inr (.int, [.int c0, .int c1, .int c2, .int c3]), .inr (.int, [.int w0, .int w1, .int w2, .int w3, .int w4, .int 0, .int 0, .int 0]), .inr (.int, [.int c0, .int c1, .int c2, .int c3, .int c4, .int 0, .int 0, .int 0]), .inl (1, [.null, .null]), .inr (.int, [.int w0, .int w1, .int w2, .int w3, .int w4]), .inr (.int, [.int c0, .int c1, .int c2, .int c3, .int c4])] = some (none, [.inl (0, [.ref 3, .ref 4, .int 5]), .inr (.int, [.int w0, .int w1, .int w2, .int w3]), .inr (.int, [.int c0, .int c1, .int c2, .int c3]), .inr (.int, [.int w0, .int w1, .int w2, .int w3, .int w4, .int 0, .int 0, .int 0]), .inr (.int, [.int c0, .int c1, .int c2, .int c3, .int c4, .int 0, .int 0, .int 0]), .inl (1, [.ref 6, .ref 7]), .inr (.int, [.int w0, .int w1, .int w2, .int w3, .int w4]), .inr (.int, [.int c0, .int c1, .int c2, .int c3, .int c4])]) := by
  refine is_of f5_in fun go hgo => ?_
  refine t5_0 hgo rfl ?_
  refine res_of (u5_1 hgo) ?_
  simp only [eq_self, and_self, true_and, and_true, not_true_eq_false, not_false_eq_true, if_true, if_false, reduceIte, Option.bind_some, List.getElem?_cons_zero, List.getElem?_cons_succ, Nat.reduceAdd, Nat.reduceSub, Nat.reduceLT, Nat.reduceLeDiff, Nat.le_refl, Nat.zero_add, Nat.add_zero, List.length_cons, List.length_nil, Int32.reduceLT, Int32.reduceToNatClampNeg, Int32.reduceAdd, Int32.reduceSub, Int32.reduceMul, decide_true, aCall, aRecv, aObj, obj, List.take_succ_cons, List.take_zero, List.drop_succ_cons, List.drop_zero, List.reverse_cons, List.reverse_nil, List.nil_append, List.cons_append, List.append_nil, List.map_cons, List.map_nil, List.sum_cons, List.sum_nil, cat_int, cat_long, cat_ref, cat_null, Option.toList_some, Option.toList_none]
  refine t5_4 hgo rfl ?_
  refine t5_5 hgo rfl ?_
  refine res_of (u5_6 hgo) ?_
  simp only [eq_self, and_self, true_and, and_true, not_true_eq_false, not_false_eq_true, if_true, if_false, reduceIte, Option.bind_some, List.getElem?_cons_zero, List.getElem?_cons_succ, Nat.reduceAdd, Nat.reduceSub, Nat.reduceLT, Nat.reduceLeDiff, Nat.le_refl, Nat.zero_add, Nat.add_zero, List.length_cons, List.length_nil, Int32.reduceLT, Int32.reduceToNatClampNeg, Int32.reduceAdd, Int32.reduceSub, Int32.reduceMul, decide_true, aPut, obj, nr_i, nr_j, nr_a, nr_o, nr_b, nr_b1, nr_b0, ft_i, ft_j, ft_a, ft_o, ft_b, ft_b1, ft_b0, List.set_cons_zero, List.set_cons_succ]
  refine t5_9 hgo rfl ?_
  refine t5_10 hgo rfl ?_
  refine res_of (u5_11 hgo) ?_
  simp only [eq_self, and_self, true_and, and_true, not_true_eq_false, not_false_eq_true, if_true, if_false, reduceIte, Option.bind_some, List.getElem?_cons_zero, List.getElem?_cons_succ, Nat.reduceAdd, Nat.reduceSub, Nat.reduceLT, Nat.reduceLeDiff, Nat.le_refl, Nat.zero_add, Nat.add_zero, List.length_cons, List.length_nil, Int32.reduceLT, Int32.reduceToNatClampNeg, Int32.reduceAdd, Int32.reduceSub, Int32.reduceMul, decide_true, aPut, obj, nr_i, nr_j, nr_a, nr_o, nr_b, nr_b1, nr_b0, ft_i, ft_j, ft_a, ft_o, ft_b, ft_b1, ft_b0, List.set_cons_zero, List.set_cons_succ]
  refine t5_14 hgo ?_
  exact is_r
set_option maxRecDepth 65536 in
set_option maxHeartbeats 4000000 in
theorem build_5 {w0 w1 w2 w3 w4 c0 c1 c2 c3 c4 : Int32} : F2 [.ref 0] [.inl (0, [.ref 3, .ref 4, .int 5]), .inr (.int, [.int w0, .int w1, .int w2, .int w3]), .inr (.int, [.int c0, .int c1, .int c2, .int c3]), .inr (.int, [.int w0, .int w1, .int w2, .int w3, .int w4, .int 0, .int 0, .int 0]), .inr (.int, [.int c0, .int c1, .int c2, .int c3, .int c4, .int 0, .int 0, .int 0])] = some (some (.ref 5), [.inl (0, [.ref 3, .ref 4, .int 5]), .inr (.int, [.int w0, .int w1, .int w2, .int w3]), .inr (.int, [.int c0, .int c1, .int c2, .int c3]), .inr (.int, [.int w0, .int w1, .int w2, .int w3, .int w4, .int 0, .int 0, .int 0]), .inr (.int, [.int c0, .int c1, .int c2, .int c3, .int c4, .int 0, .int 0, .int 0]), .inl (1, [.ref 6, .ref 7]), .inr (.int, [.int w0, .int w1, .int w2, .int w3, .int w4]), .inr (.int, [.int c0, .int c1, .int c2, .int c3, .int c4])]) := by
  refine is_of f2_in fun go hgo => ?_
  refine res_of (u2_0 hgo) ?_
  simp only [eq_self, and_self, true_and, and_true, not_true_eq_false, not_false_eq_true, if_true, if_false, reduceIte, Option.bind_some, List.getElem?_cons_zero, List.getElem?_cons_succ, Nat.reduceAdd, Nat.reduceSub, Nat.reduceLT, Nat.reduceLeDiff, Nat.le_refl, Nat.zero_add, Nat.add_zero, List.length_cons, List.length_nil, Int32.reduceLT, Int32.reduceToNatClampNeg, Int32.reduceAdd, Int32.reduceSub, Int32.reduceMul, decide_true, aNew, List.nil_append, List.cons_append, bv_5, bc_5, bi_5]
  refine t2_3 hgo rfl ?_
  refine t2_4 hgo rfl ?_
  refine res_of (u2_5 hgo) ?_
  simp only [eq_self, and_self, true_and, and_true, not_true_eq_false, not_false_eq_true, if_true, if_false, reduceIte, Option.bind_some, List.getElem?_cons_zero, List.getElem?_cons_succ, Nat.reduceAdd, Nat.reduceSub, Nat.reduceLT, Nat.reduceLeDiff, Nat.le_refl, Nat.zero_add, Nat.add_zero, List.length_cons, List.length_nil, Int32.reduceLT, Int32.reduceToNatClampNeg, Int32.reduceAdd, Int32.reduceSub, Int32.reduceMul, decide_true, aGet, obj, bv_5, bc_5, bi_5]
  refine t2_8 hgo rfl ?_
  refine res_of (u2_9 hgo) ?_
  simp only [eq_self, and_self, true_and, and_true, not_true_eq_false, not_false_eq_true, if_true, if_false, reduceIte, Option.bind_some, List.getElem?_cons_zero, List.getElem?_cons_succ, Nat.reduceAdd, Nat.reduceSub, Nat.reduceLT, Nat.reduceLeDiff, Nat.le_refl, Nat.zero_add, Nat.add_zero, List.length_cons, List.length_nil, Int32.reduceLT, Int32.reduceToNatClampNeg, Int32.reduceAdd, Int32.reduceSub, Int32.reduceMul, decide_true, aGet, obj, bv_5, bc_5, bi_5]
  refine res_of (u2_12 hgo) ?_
  simp only [eq_self, and_self, true_and, and_true, not_true_eq_false, not_false_eq_true, if_true, if_false, reduceIte, Option.bind_some, List.getElem?_cons_zero, List.getElem?_cons_succ, Nat.reduceAdd, Nat.reduceSub, Nat.reduceLT, Nat.reduceLeDiff, Nat.le_refl, Nat.zero_add, Nat.add_zero, List.length_cons, List.length_nil, Int32.reduceLT, Int32.reduceToNatClampNeg, Int32.reduceAdd, Int32.reduceSub, Int32.reduceMul, decide_true, aCall, aRecv, aObj, obj, List.take_succ_cons, List.take_zero, List.drop_succ_cons, List.drop_zero, List.reverse_cons, List.reverse_nil, List.nil_append, List.cons_append, List.append_nil, List.map_cons, List.map_nil, List.sum_cons, List.sum_nil, cat_int, cat_long, cat_ref, cat_null, Option.toList_some, Option.toList_none, bv_5, bc_5, bi_5]
  refine t2_15 hgo rfl ?_
  refine res_of (u2_16 hgo) ?_
  simp only [eq_self, and_self, true_and, and_true, not_true_eq_false, not_false_eq_true, if_true, if_false, reduceIte, Option.bind_some, List.getElem?_cons_zero, List.getElem?_cons_succ, Nat.reduceAdd, Nat.reduceSub, Nat.reduceLT, Nat.reduceLeDiff, Nat.le_refl, Nat.zero_add, Nat.add_zero, List.length_cons, List.length_nil, Int32.reduceLT, Int32.reduceToNatClampNeg, Int32.reduceAdd, Int32.reduceSub, Int32.reduceMul, decide_true, aGet, obj, bv_5, bc_5, bi_5]
  refine t2_19 hgo rfl ?_
  refine res_of (u2_20 hgo) ?_
  simp only [eq_self, and_self, true_and, and_true, not_true_eq_false, not_false_eq_true, if_true, if_false, reduceIte, Option.bind_some, List.getElem?_cons_zero, List.getElem?_cons_succ, Nat.reduceAdd, Nat.reduceSub, Nat.reduceLT, Nat.reduceLeDiff, Nat.le_refl, Nat.zero_add, Nat.add_zero, List.length_cons, List.length_nil, Int32.reduceLT, Int32.reduceToNatClampNeg, Int32.reduceAdd, Int32.reduceSub, Int32.reduceMul, decide_true, aGet, obj, bv_5, bc_5, bi_5]
  refine res_of (u2_23 hgo) ?_
  simp only [eq_self, and_self, true_and, and_true, not_true_eq_false, not_false_eq_true, if_true, if_false, reduceIte, Option.bind_some, List.getElem?_cons_zero, List.getElem?_cons_succ, Nat.reduceAdd, Nat.reduceSub, Nat.reduceLT, Nat.reduceLeDiff, Nat.le_refl, Nat.zero_add, Nat.add_zero, List.length_cons, List.length_nil, Int32.reduceLT, Int32.reduceToNatClampNeg, Int32.reduceAdd, Int32.reduceSub, Int32.reduceMul, decide_true, aCall, aRecv, aObj, obj, List.take_succ_cons, List.take_zero, List.drop_succ_cons, List.drop_zero, List.reverse_cons, List.reverse_nil, List.nil_append, List.cons_append, List.append_nil, List.map_cons, List.map_nil, List.sum_cons, List.sum_nil, cat_int, cat_long, cat_ref, cat_null, Option.toList_some, Option.toList_none, bv_5, bc_5, bi_5]
  refine res_of (u2_26 hgo) ?_
  simp only [eq_self, and_self, true_and, and_true, not_true_eq_false, not_false_eq_true, if_true, if_false, reduceIte, Option.bind_some, List.getElem?_cons_zero, List.getElem?_cons_succ, Nat.reduceAdd, Nat.reduceSub, Nat.reduceLT, Nat.reduceLeDiff, Nat.le_refl, Nat.zero_add, Nat.add_zero, List.length_cons, List.length_nil, Int32.reduceLT, Int32.reduceToNatClampNeg, Int32.reduceAdd, Int32.reduceSub, Int32.reduceMul, decide_true, aCall, aRecv, aObj, obj, List.take_succ_cons, List.take_zero, List.drop_succ_cons, List.drop_zero, List.reverse_cons, List.reverse_nil, List.nil_append, List.cons_append, List.append_nil, List.map_cons, List.map_nil, List.sum_cons, List.sum_nil, cat_int, cat_long, cat_ref, cat_null, Option.toList_some, Option.toList_none, bv_5, bc_5, bi_5]
  refine t2_29 hgo rfl ?_
  exact is_r
set_option maxRecDepth 65536 in
set_option maxHeartbeats 4000000 in
theorem size_5 {w0 w1 w2 w3 w4 c0 c1 c2 c3 c4 : Int32} : F6 [.ref 5] [.inl (0, [.ref 3, .ref 4, .int 5]), .inr (.int, [.int w0, .int w1, .int w2, .int w3]), .inr (.int, [.int c0, .int c1, .int c2, .int c3]), .inr (.int, [.int w0, .int w1, .int w2, .int w3, .int w4, .int 0, .int 0, .int 0]), .inr (.int, [.int c0, .int c1, .int c2, .int c3, .int c4, .int 0, .int 0, .int 0]), .inl (1, [.ref 6, .ref 7]), .inr (.int, [.int w0, .int w1, .int w2, .int w3, .int w4]), .inr (.int, [.int c0, .int c1, .int c2, .int c3, .int c4])] = some (some (.int 5), [.inl (0, [.ref 3, .ref 4, .int 5]), .inr (.int, [.int w0, .int w1, .int w2, .int w3]), .inr (.int, [.int c0, .int c1, .int c2, .int c3]), .inr (.int, [.int w0, .int w1, .int w2, .int w3, .int w4, .int 0, .int 0, .int 0]), .inr (.int, [.int c0, .int c1, .int c2, .int c3, .int c4, .int 0, .int 0, .int 0]), .inl (1, [.ref 6, .ref 7]), .inr (.int, [.int w0, .int w1, .int w2, .int w3, .int w4]), .inr (.int, [.int c0, .int c1, .int c2, .int c3, .int c4])]) := by
  refine is_of f6_in fun go hgo => ?_
  refine t6_0 hgo rfl ?_
  refine res_of (u6_1 hgo) ?_
  simp only [eq_self, and_self, true_and, and_true, not_true_eq_false, not_false_eq_true, if_true, if_false, reduceIte, Option.bind_some, List.getElem?_cons_zero, List.getElem?_cons_succ, Nat.reduceAdd, Nat.reduceSub, Nat.reduceLT, Nat.reduceLeDiff, Nat.le_refl, Nat.zero_add, Nat.add_zero, List.length_cons, List.length_nil, Int32.reduceLT, Int32.reduceToNatClampNeg, Int32.reduceAdd, Int32.reduceSub, Int32.reduceMul, decide_true, aGet, obj]
  refine res_of (u6_4 hgo) ?_
  simp only [eq_self, and_self, true_and, and_true, not_true_eq_false, not_false_eq_true, if_true, if_false, reduceIte, Option.bind_some, List.getElem?_cons_zero, List.getElem?_cons_succ, Nat.reduceAdd, Nat.reduceSub, Nat.reduceLT, Nat.reduceLeDiff, Nat.le_refl, Nat.zero_add, Nat.add_zero, List.length_cons, List.length_nil, Int32.reduceLT, Int32.reduceToNatClampNeg, Int32.reduceAdd, Int32.reduceSub, Int32.reduceMul, decide_true, pR_ref, arr, ln0, ln1, ln2, ln3, ln4, ln5, ln6, ln7, ln8, ln9, ln10, ln11, ln12, ln13, ln14, ln15, ln16, ln17, ln18, ln19, ln20, ln21, ln22, ln23, ln24, ln25, ln26, ln27, ln28, ln29, ln30, ln31, ln32, ln33, ln34, ln35, ln36]
  refine t6_5 hgo ?_
  exact is_r
set_option maxRecDepth 65536 in
set_option maxHeartbeats 4000000 in
theorem val_5_0 {w0 w1 w2 w3 w4 c0 c1 c2 c3 c4 : Int32} : F9 [.ref 5, .int 0] [.inl (0, [.ref 3, .ref 4, .int 5]), .inr (.int, [.int w0, .int w1, .int w2, .int w3]), .inr (.int, [.int c0, .int c1, .int c2, .int c3]), .inr (.int, [.int w0, .int w1, .int w2, .int w3, .int w4, .int 0, .int 0, .int 0]), .inr (.int, [.int c0, .int c1, .int c2, .int c3, .int c4, .int 0, .int 0, .int 0]), .inl (1, [.ref 6, .ref 7]), .inr (.int, [.int w0, .int w1, .int w2, .int w3, .int w4]), .inr (.int, [.int c0, .int c1, .int c2, .int c3, .int c4])] = some (some (.int w0), [.inl (0, [.ref 3, .ref 4, .int 5]), .inr (.int, [.int w0, .int w1, .int w2, .int w3]), .inr (.int, [.int c0, .int c1, .int c2, .int c3]), .inr (.int, [.int w0, .int w1, .int w2, .int w3, .int w4, .int 0, .int 0, .int 0]), .inr (.int, [.int c0, .int c1, .int c2, .int c3, .int c4, .int 0, .int 0, .int 0]), .inl (1, [.ref 6, .ref 7]), .inr (.int, [.int w0, .int w1, .int w2, .int w3, .int w4]), .inr (.int, [.int c0, .int c1, .int c2, .int c3, .int c4])]) := by
  refine is_of f9_in fun go hgo => ?_
  refine t9_0 hgo rfl ?_
  refine res_of (u9_1 hgo) ?_
  simp only [eq_self, and_self, true_and, and_true, not_true_eq_false, not_false_eq_true, if_true, if_false, reduceIte, Option.bind_some, List.getElem?_cons_zero, List.getElem?_cons_succ, Nat.reduceAdd, Nat.reduceSub, Nat.reduceLT, Nat.reduceLeDiff, Nat.le_refl, Nat.zero_add, Nat.add_zero, List.length_cons, List.length_nil, Int32.reduceLT, Int32.reduceToNatClampNeg, Int32.reduceAdd, Int32.reduceSub, Int32.reduceMul, decide_true, aGet, obj]
  refine t9_4 hgo ?_
  refine res_of (u9_5 hgo) ?_
  simp only [eq_self, and_self, true_and, and_true, not_true_eq_false, not_false_eq_true, if_true, if_false, reduceIte, Option.bind_some, List.getElem?_cons_zero, List.getElem?_cons_succ, Nat.reduceAdd, Nat.reduceSub, Nat.reduceLT, Nat.reduceLeDiff, Nat.le_refl, Nat.zero_add, Nat.add_zero, List.length_cons, List.length_nil, Int32.reduceLT, Int32.reduceToNatClampNeg, Int32.reduceAdd, Int32.reduceSub, Int32.reduceMul, decide_true, ex_iaload, ald, pI_int, pR_ref, arr, isT, isBZ]
  refine t9_6 hgo ?_
  exact is_r
set_option maxRecDepth 65536 in
set_option maxHeartbeats 4000000 in
theorem cnt_5_0 {w0 w1 w2 w3 w4 c0 c1 c2 c3 c4 : Int32} : F10 [.ref 5, .int 0] [.inl (0, [.ref 3, .ref 4, .int 5]), .inr (.int, [.int w0, .int w1, .int w2, .int w3]), .inr (.int, [.int c0, .int c1, .int c2, .int c3]), .inr (.int, [.int w0, .int w1, .int w2, .int w3, .int w4, .int 0, .int 0, .int 0]), .inr (.int, [.int c0, .int c1, .int c2, .int c3, .int c4, .int 0, .int 0, .int 0]), .inl (1, [.ref 6, .ref 7]), .inr (.int, [.int w0, .int w1, .int w2, .int w3, .int w4]), .inr (.int, [.int c0, .int c1, .int c2, .int c3, .int c4])] = some (some (.int c0), [.inl (0, [.ref 3, .ref 4, .int 5]), .inr (.int, [.int w0, .int w1, .int w2, .int w3]), .inr (.int, [.int c0, .int c1, .int c2, .int c3]), .inr (.int, [.int w0, .int w1, .int w2, .int w3, .int w4, .int 0, .int 0, .int 0]), .inr (.int, [.int c0, .int c1, .int c2, .int c3, .int c4, .int 0, .int 0, .int 0]), .inl (1, [.ref 6, .ref 7]), .inr (.int, [.int w0, .int w1, .int w2, .int w3, .int w4]), .inr (.int, [.int c0, .int c1, .int c2, .int c3, .int c4])]) := by
  refine is_of f10_in fun go hgo => ?_
  refine t10_0 hgo rfl ?_
  refine res_of (u10_1 hgo) ?_
  simp only [eq_self, and_self, true_and, and_true, not_true_eq_false, not_false_eq_true, if_true, if_false, reduceIte, Option.bind_some, List.getElem?_cons_zero, List.getElem?_cons_succ, Nat.reduceAdd, Nat.reduceSub, Nat.reduceLT, Nat.reduceLeDiff, Nat.le_refl, Nat.zero_add, Nat.add_zero, List.length_cons, List.length_nil, Int32.reduceLT, Int32.reduceToNatClampNeg, Int32.reduceAdd, Int32.reduceSub, Int32.reduceMul, decide_true, aGet, obj]
  refine t10_4 hgo ?_
  refine res_of (u10_5 hgo) ?_
  simp only [eq_self, and_self, true_and, and_true, not_true_eq_false, not_false_eq_true, if_true, if_false, reduceIte, Option.bind_some, List.getElem?_cons_zero, List.getElem?_cons_succ, Nat.reduceAdd, Nat.reduceSub, Nat.reduceLT, Nat.reduceLeDiff, Nat.le_refl, Nat.zero_add, Nat.add_zero, List.length_cons, List.length_nil, Int32.reduceLT, Int32.reduceToNatClampNeg, Int32.reduceAdd, Int32.reduceSub, Int32.reduceMul, decide_true, ex_iaload, ald, pI_int, pR_ref, arr, isT, isBZ]
  refine t10_6 hgo ?_
  exact is_r
set_option maxRecDepth 65536 in
set_option maxHeartbeats 4000000 in
theorem val_5_1 {w0 w1 w2 w3 w4 c0 c1 c2 c3 c4 : Int32} : F9 [.ref 5, .int 1] [.inl (0, [.ref 3, .ref 4, .int 5]), .inr (.int, [.int w0, .int w1, .int w2, .int w3]), .inr (.int, [.int c0, .int c1, .int c2, .int c3]), .inr (.int, [.int w0, .int w1, .int w2, .int w3, .int w4, .int 0, .int 0, .int 0]), .inr (.int, [.int c0, .int c1, .int c2, .int c3, .int c4, .int 0, .int 0, .int 0]), .inl (1, [.ref 6, .ref 7]), .inr (.int, [.int w0, .int w1, .int w2, .int w3, .int w4]), .inr (.int, [.int c0, .int c1, .int c2, .int c3, .int c4])] = some (some (.int w1), [.inl (0, [.ref 3, .ref 4, .int 5]), .inr (.int, [.int w0, .int w1, .int w2, .int w3]), .inr (.int, [.int c0, .int c1, .int c2, .int c3]), .inr (.int, [.int w0, .int w1, .int w2, .int w3, .int w4, .int 0, .int 0, .int 0]), .inr (.int, [.int c0, .int c1, .int c2, .int c3, .int c4, .int 0, .int 0, .int 0]), .inl (1, [.ref 6, .ref 7]), .inr (.int, [.int w0, .int w1, .int w2, .int w3, .int w4]), .inr (.int, [.int c0, .int c1, .int c2, .int c3, .int c4])]) := by
  refine is_of f9_in fun go hgo => ?_
  refine t9_0 hgo rfl ?_
  refine res_of (u9_1 hgo) ?_
  simp only [eq_self, and_self, true_and, and_true, not_true_eq_false, not_false_eq_true, if_true, if_false, reduceIte, Option.bind_some, List.getElem?_cons_zero, List.getElem?_cons_succ, Nat.reduceAdd, Nat.reduceSub, Nat.reduceLT, Nat.reduceLeDiff, Nat.le_refl, Nat.zero_add, Nat.add_zero, List.length_cons, List.length_nil, Int32.reduceLT, Int32.reduceToNatClampNeg, Int32.reduceAdd, Int32.reduceSub, Int32.reduceMul, decide_true, aGet, obj]
  refine t9_4 hgo ?_
  refine res_of (u9_5 hgo) ?_
  simp only [eq_self, and_self, true_and, and_true, not_true_eq_false, not_false_eq_true, if_true, if_false, reduceIte, Option.bind_some, List.getElem?_cons_zero, List.getElem?_cons_succ, Nat.reduceAdd, Nat.reduceSub, Nat.reduceLT, Nat.reduceLeDiff, Nat.le_refl, Nat.zero_add, Nat.add_zero, List.length_cons, List.length_nil, Int32.reduceLT, Int32.reduceToNatClampNeg, Int32.reduceAdd, Int32.reduceSub, Int32.reduceMul, decide_true, ex_iaload, ald, pI_int, pR_ref, arr, isT, isBZ]
  refine t9_6 hgo ?_
  exact is_r
set_option maxRecDepth 65536 in
set_option maxHeartbeats 4000000 in
theorem cnt_5_1 {w0 w1 w2 w3 w4 c0 c1 c2 c3 c4 : Int32} : F10 [.ref 5, .int 1] [.inl (0, [.ref 3, .ref 4, .int 5]), .inr (.int, [.int w0, .int w1, .int w2, .int w3]), .inr (.int, [.int c0, .int c1, .int c2, .int c3]), .inr (.int, [.int w0, .int w1, .int w2, .int w3, .int w4, .int 0, .int 0, .int 0]), .inr (.int, [.int c0, .int c1, .int c2, .int c3, .int c4, .int 0, .int 0, .int 0]), .inl (1, [.ref 6, .ref 7]), .inr (.int, [.int w0, .int w1, .int w2, .int w3, .int w4]), .inr (.int, [.int c0, .int c1, .int c2, .int c3, .int c4])] = some (some (.int c1), [.inl (0, [.ref 3, .ref 4, .int 5]), .inr (.int, [.int w0, .int w1, .int w2, .int w3]), .inr (.int, [.int c0, .int c1, .int c2, .int c3]), .inr (.int, [.int w0, .int w1, .int w2, .int w3, .int w4, .int 0, .int 0, .int 0]), .inr (.int, [.int c0, .int c1, .int c2, .int c3, .int c4, .int 0, .int 0, .int 0]), .inl (1, [.ref 6, .ref 7]), .inr (.int, [.int w0, .int w1, .int w2, .int w3, .int w4]), .inr (.int, [.int c0, .int c1, .int c2, .int c3, .int c4])]) := by
  refine is_of f10_in fun go hgo => ?_
  refine t10_0 hgo rfl ?_
  refine res_of (u10_1 hgo) ?_
  simp only [eq_self, and_self, true_and, and_true, not_true_eq_false, not_false_eq_true, if_true, if_false, reduceIte, Option.bind_some, List.getElem?_cons_zero, List.getElem?_cons_succ, Nat.reduceAdd, Nat.reduceSub, Nat.reduceLT, Nat.reduceLeDiff, Nat.le_refl, Nat.zero_add, Nat.add_zero, List.length_cons, List.length_nil, Int32.reduceLT, Int32.reduceToNatClampNeg, Int32.reduceAdd, Int32.reduceSub, Int32.reduceMul, decide_true, aGet, obj]
  refine t10_4 hgo ?_
  refine res_of (u10_5 hgo) ?_
  simp only [eq_self, and_self, true_and, and_true, not_true_eq_false, not_false_eq_true, if_true, if_false, reduceIte, Option.bind_some, List.getElem?_cons_zero, List.getElem?_cons_succ, Nat.reduceAdd, Nat.reduceSub, Nat.reduceLT, Nat.reduceLeDiff, Nat.le_refl, Nat.zero_add, Nat.add_zero, List.length_cons, List.length_nil, Int32.reduceLT, Int32.reduceToNatClampNeg, Int32.reduceAdd, Int32.reduceSub, Int32.reduceMul, decide_true, ex_iaload, ald, pI_int, pR_ref, arr, isT, isBZ]
  refine t10_6 hgo ?_
  exact is_r
set_option maxRecDepth 65536 in
set_option maxHeartbeats 4000000 in
theorem val_5_2 {w0 w1 w2 w3 w4 c0 c1 c2 c3 c4 : Int32} : F9 [.ref 5, .int 2] [.inl (0, [.ref 3, .ref 4, .int 5]), .inr (.int, [.int w0, .int w1, .int w2, .int w3]), .inr (.int, [.int c0, .int c1, .int c2, .int c3]), .inr (.int, [.int w0, .int w1, .int w2, .int w3, .int w4, .int 0, .int 0, .int 0]), .inr (.int, [.int c0, .int c1, .int c2, .int c3, .int c4, .int 0, .int 0, .int 0]), .inl (1, [.ref 6, .ref 7]), .inr (.int, [.int w0, .int w1, .int w2, .int w3, .int w4]), .inr (.int, [.int c0, .int c1, .int c2, .int c3, .int c4])] = some (some (.int w2), [.inl (0, [.ref 3, .ref 4, .int 5]), .inr (.int, [.int w0, .int w1, .int w2, .int w3]), .inr (.int, [.int c0, .int c1, .int c2, .int c3]), .inr (.int, [.int w0, .int w1, .int w2, .int w3, .int w4, .int 0, .int 0, .int 0]), .inr (.int, [.int c0, .int c1, .int c2, .int c3, .int c4, .int 0, .int 0, .int 0]), .inl (1, [.ref 6, .ref 7]), .inr (.int, [.int w0, .int w1, .int w2, .int w3, .int w4]), .inr (.int, [.int c0, .int c1, .int c2, .int c3, .int c4])]) := by
  refine is_of f9_in fun go hgo => ?_
  refine t9_0 hgo rfl ?_
  refine res_of (u9_1 hgo) ?_
  simp only [eq_self, and_self, true_and, and_true, not_true_eq_false, not_false_eq_true, if_true, if_false, reduceIte, Option.bind_some, List.getElem?_cons_zero, List.getElem?_cons_succ, Nat.reduceAdd, Nat.reduceSub, Nat.reduceLT, Nat.reduceLeDiff, Nat.le_refl, Nat.zero_add, Nat.add_zero, List.length_cons, List.length_nil, Int32.reduceLT, Int32.reduceToNatClampNeg, Int32.reduceAdd, Int32.reduceSub, Int32.reduceMul, decide_true, aGet, obj]
  refine t9_4 hgo ?_
  refine res_of (u9_5 hgo) ?_
  simp only [eq_self, and_self, true_and, and_true, not_true_eq_false, not_false_eq_true, if_true, if_false, reduceIte, Option.bind_some, List.getElem?_cons_zero, List.getElem?_cons_succ, Nat.reduceAdd, Nat.reduceSub, Nat.reduceLT, Nat.reduceLeDiff, Nat.le_refl, Nat.zero_add, Nat.add_zero, List.length_cons, List.length_nil, Int32.reduceLT, Int32.reduceToNatClampNeg, Int32.reduceAdd, Int32.reduceSub, Int32.reduceMul, decide_true, ex_iaload, ald, pI_int, pR_ref, arr, isT, isBZ]
  refine t9_6 hgo ?_
  exact is_r
set_option maxRecDepth 65536 in
set_option maxHeartbeats 4000000 in
theorem cnt_5_2 {w0 w1 w2 w3 w4 c0 c1 c2 c3 c4 : Int32} : F10 [.ref 5, .int 2] [.inl (0, [.ref 3, .ref 4, .int 5]), .inr (.int, [.int w0, .int w1, .int w2, .int w3]), .inr (.int, [.int c0, .int c1, .int c2, .int c3]), .inr (.int, [.int w0, .int w1, .int w2, .int w3, .int w4, .int 0, .int 0, .int 0]), .inr (.int, [.int c0, .int c1, .int c2, .int c3, .int c4, .int 0, .int 0, .int 0]), .inl (1, [.ref 6, .ref 7]), .inr (.int, [.int w0, .int w1, .int w2, .int w3, .int w4]), .inr (.int, [.int c0, .int c1, .int c2, .int c3, .int c4])] = some (some (.int c2), [.inl (0, [.ref 3, .ref 4, .int 5]), .inr (.int, [.int w0, .int w1, .int w2, .int w3]), .inr (.int, [.int c0, .int c1, .int c2, .int c3]), .inr (.int, [.int w0, .int w1, .int w2, .int w3, .int w4, .int 0, .int 0, .int 0]), .inr (.int, [.int c0, .int c1, .int c2, .int c3, .int c4, .int 0, .int 0, .int 0]), .inl (1, [.ref 6, .ref 7]), .inr (.int, [.int w0, .int w1, .int w2, .int w3, .int w4]), .inr (.int, [.int c0, .int c1, .int c2, .int c3, .int c4])]) := by
  refine is_of f10_in fun go hgo => ?_
  refine t10_0 hgo rfl ?_
  refine res_of (u10_1 hgo) ?_
  simp only [eq_self, and_self, true_and, and_true, not_true_eq_false, not_false_eq_true, if_true, if_false, reduceIte, Option.bind_some, List.getElem?_cons_zero, List.getElem?_cons_succ, Nat.reduceAdd, Nat.reduceSub, Nat.reduceLT, Nat.reduceLeDiff, Nat.le_refl, Nat.zero_add, Nat.add_zero, List.length_cons, List.length_nil, Int32.reduceLT, Int32.reduceToNatClampNeg, Int32.reduceAdd, Int32.reduceSub, Int32.reduceMul, decide_true, aGet, obj]
  refine t10_4 hgo ?_
  refine res_of (u10_5 hgo) ?_
  simp only [eq_self, and_self, true_and, and_true, not_true_eq_false, not_false_eq_true, if_true, if_false, reduceIte, Option.bind_some, List.getElem?_cons_zero, List.getElem?_cons_succ, Nat.reduceAdd, Nat.reduceSub, Nat.reduceLT, Nat.reduceLeDiff, Nat.le_refl, Nat.zero_add, Nat.add_zero, List.length_cons, List.length_nil, Int32.reduceLT, Int32.reduceToNatClampNeg, Int32.reduceAdd, Int32.reduceSub, Int32.reduceMul, decide_true, ex_iaload, ald, pI_int, pR_ref, arr, isT, isBZ]
  refine t10_6 hgo ?_
  exact is_r
set_option maxRecDepth 65536 in
set_option maxHeartbeats 4000000 in
theorem val_5_3 {w0 w1 w2 w3 w4 c0 c1 c2 c3 c4 : Int32} : F9 [.ref 5, .int 3] [.inl (0, [.ref 3, .ref 4, .int 5]), .inr (.int, [.int w0, .int w1, .int w2, .int w3]), .inr (.int, [.int c0, .int c1, .int c2, .int c3]), .inr (.int, [.int w0, .int w1, .int w2, .int w3, .int w4, .int 0, .int 0, .int 0]), .inr (.int, [.int c0, .int c1, .int c2, .int c3, .int c4, .int 0, .int 0, .int 0]), .inl (1, [.ref 6, .ref 7]), .inr (.int, [.int w0, .int w1, .int w2, .int w3, .int w4]), .inr (.int, [.int c0, .int c1, .int c2, .int c3, .int c4])] = some (some (.int w3), [.inl (0, [.ref 3, .ref 4, .int 5]), .inr (.int, [.int w0, .int w1, .int w2, .int w3]), .inr (.int, [.int c0, .int c1, .int c2, .int c3]), .inr (.int, [.int w0, .int w1, .int w2, .int w3, .int w4, .int 0, .int 0, .int 0]), .inr (.int, [.int c0, .int c1, .int c2, .int c3, .int c4, .int 0, .int 0, .int 0]), .inl (1, [.ref 6, .ref 7]), .inr (.int, [.int w0, .int w1, .int w2, .int w3, .int w4]), .inr (.int, [.int c0, .int c1, .int c2, .int c3, .int c4])]) := by
  refine is_of f9_in fun go hgo => ?_
  refine t9_0 hgo rfl ?_
  refine res_of (u9_1 hgo) ?_
  simp only [eq_self, and_self, true_and, and_true, not_true_eq_false, not_false_eq_true, if_true, if_false, reduceIte, Option.bind_some, List.getElem?_cons_zero, List.getElem?_cons_succ, Nat.reduceAdd, Nat.reduceSub, Nat.reduceLT, Nat.reduceLeDiff, Nat.le_refl, Nat.zero_add, Nat.add_zero, List.length_cons, List.length_nil, Int32.reduceLT, Int32.reduceToNatClampNeg, Int32.reduceAdd, Int32.reduceSub, Int32.reduceMul, decide_true, aGet, obj]
  refine t9_4 hgo ?_
  refine res_of (u9_5 hgo) ?_
  simp only [eq_self, and_self, true_and, and_true, not_true_eq_false, not_false_eq_true, if_true, if_false, reduceIte, Option.bind_some, List.getElem?_cons_zero, List.getElem?_cons_succ, Nat.reduceAdd, Nat.reduceSub, Nat.reduceLT, Nat.reduceLeDiff, Nat.le_refl, Nat.zero_add, Nat.add_zero, List.length_cons, List.length_nil, Int32.reduceLT, Int32.reduceToNatClampNeg, Int32.reduceAdd, Int32.reduceSub, Int32.reduceMul, decide_true, ex_iaload, ald, pI_int, pR_ref, arr, isT, isBZ]
  refine t9_6 hgo ?_
  exact is_r
set_option maxRecDepth 65536 in
set_option maxHeartbeats 4000000 in
theorem cnt_5_3 {w0 w1 w2 w3 w4 c0 c1 c2 c3 c4 : Int32} : F10 [.ref 5, .int 3] [.inl (0, [.ref 3, .ref 4, .int 5]), .inr (.int, [.int w0, .int w1, .int w2, .int w3]), .inr (.int, [.int c0, .int c1, .int c2, .int c3]), .inr (.int, [.int w0, .int w1, .int w2, .int w3, .int w4, .int 0, .int 0, .int 0]), .inr (.int, [.int c0, .int c1, .int c2, .int c3, .int c4, .int 0, .int 0, .int 0]), .inl (1, [.ref 6, .ref 7]), .inr (.int, [.int w0, .int w1, .int w2, .int w3, .int w4]), .inr (.int, [.int c0, .int c1, .int c2, .int c3, .int c4])] = some (some (.int c3), [.inl (0, [.ref 3, .ref 4, .int 5]), .inr (.int, [.int w0, .int w1, .int w2, .int w3]), .inr (.int, [.int c0, .int c1, .int c2, .int c3]), .inr (.int, [.int w0, .int w1, .int w2, .int w3, .int w4, .int 0, .int 0, .int 0]), .inr (.int, [.int c0, .int c1, .int c2, .int c3, .int c4, .int 0, .int 0, .int 0]), .inl (1, [.ref 6, .ref 7]), .inr (.int, [.int w0, .int w1, .int w2, .int w3, .int w4]), .inr (.int, [.int c0, .int c1, .int c2, .int c3, .int c4])]) := by
  refine is_of f10_in fun go hgo => ?_
  refine t10_0 hgo rfl ?_
  refine res_of (u10_1 hgo) ?_
  simp only [eq_self, and_self, true_and, and_true, not_true_eq_false, not_false_eq_true, if_true, if_false, reduceIte, Option.bind_some, List.getElem?_cons_zero, List.getElem?_cons_succ, Nat.reduceAdd, Nat.reduceSub, Nat.reduceLT, Nat.reduceLeDiff, Nat.le_refl, Nat.zero_add, Nat.add_zero, List.length_cons, List.length_nil, Int32.reduceLT, Int32.reduceToNatClampNeg, Int32.reduceAdd, Int32.reduceSub, Int32.reduceMul, decide_true, aGet, obj]
  refine t10_4 hgo ?_
  refine res_of (u10_5 hgo) ?_
  simp only [eq_self, and_self, true_and, and_true, not_true_eq_false, not_false_eq_true, if_true, if_false, reduceIte, Option.bind_some, List.getElem?_cons_zero, List.getElem?_cons_succ, Nat.reduceAdd, Nat.reduceSub, Nat.reduceLT, Nat.reduceLeDiff, Nat.le_refl, Nat.zero_add, Nat.add_zero, List.length_cons, List.length_nil, Int32.reduceLT, Int32.reduceToNatClampNeg, Int32.reduceAdd, Int32.reduceSub, Int32.reduceMul, decide_true, ex_iaload, ald, pI_int, pR_ref, arr, isT, isBZ]
  refine t10_6 hgo ?_
  exact is_r
set_option maxRecDepth 65536 in
set_option maxHeartbeats 4000000 in
theorem val_5_4 {w0 w1 w2 w3 w4 c0 c1 c2 c3 c4 : Int32} : F9 [.ref 5, .int 4] [.inl (0, [.ref 3, .ref 4, .int 5]), .inr (.int, [.int w0, .int w1, .int w2, .int w3]), .inr (.int, [.int c0, .int c1, .int c2, .int c3]), .inr (.int, [.int w0, .int w1, .int w2, .int w3, .int w4, .int 0, .int 0, .int 0]), .inr (.int, [.int c0, .int c1, .int c2, .int c3, .int c4, .int 0, .int 0, .int 0]), .inl (1, [.ref 6, .ref 7]), .inr (.int, [.int w0, .int w1, .int w2, .int w3, .int w4]), .inr (.int, [.int c0, .int c1, .int c2, .int c3, .int c4])] = some (some (.int w4), [.inl (0, [.ref 3, .ref 4, .int 5]), .inr (.int, [.int w0, .int w1, .int w2, .int w3]), .inr (.int, [.int c0, .int c1, .int c2, .int c3]), .inr (.int, [.int w0, .int w1, .int w2, .int w3, .int w4, .int 0, .int 0, .int 0]), .inr (.int, [.int c0, .int c1, .int c2, .int c3, .int c4, .int 0, .int 0, .int 0]), .inl (1, [.ref 6, .ref 7]), .inr (.int, [.int w0, .int w1, .int w2, .int w3, .int w4]), .inr (.int, [.int c0, .int c1, .int c2, .int c3, .int c4])]) := by
  refine is_of f9_in fun go hgo => ?_
  refine t9_0 hgo rfl ?_
  refine res_of (u9_1 hgo) ?_
  simp only [eq_self, and_self, true_and, and_true, not_true_eq_false, not_false_eq_true, if_true, if_false, reduceIte, Option.bind_some, List.getElem?_cons_zero, List.getElem?_cons_succ, Nat.reduceAdd, Nat.reduceSub, Nat.reduceLT, Nat.reduceLeDiff, Nat.le_refl, Nat.zero_add, Nat.add_zero, List.length_cons, List.length_nil, Int32.reduceLT, Int32.reduceToNatClampNeg, Int32.reduceAdd, Int32.reduceSub, Int32.reduceMul, decide_true, aGet, obj]
  refine t9_4 hgo ?_
  refine res_of (u9_5 hgo) ?_
  simp only [eq_self, and_self, true_and, and_true, not_true_eq_false, not_false_eq_true, if_true, if_false, reduceIte, Option.bind_some, List.getElem?_cons_zero, List.getElem?_cons_succ, Nat.reduceAdd, Nat.reduceSub, Nat.reduceLT, Nat.reduceLeDiff, Nat.le_refl, Nat.zero_add, Nat.add_zero, List.length_cons, List.length_nil, Int32.reduceLT, Int32.reduceToNatClampNeg, Int32.reduceAdd, Int32.reduceSub, Int32.reduceMul, decide_true, ex_iaload, ald, pI_int, pR_ref, arr, isT, isBZ]
  refine t9_6 hgo ?_
  exact is_r
set_option maxRecDepth 65536 in
set_option maxHeartbeats 4000000 in
theorem cnt_5_4 {w0 w1 w2 w3 w4 c0 c1 c2 c3 c4 : Int32} : F10 [.ref 5, .int 4] [.inl (0, [.ref 3, .ref 4, .int 5]), .inr (.int, [.int w0, .int w1, .int w2, .int w3]), .inr (.int, [.int c0, .int c1, .int c2, .int c3]), .inr (.int, [.int w0, .int w1, .int w2, .int w3, .int w4, .int 0, .int 0, .int 0]), .inr (.int, [.int c0, .int c1, .int c2, .int c3, .int c4, .int 0, .int 0, .int 0]), .inl (1, [.ref 6, .ref 7]), .inr (.int, [.int w0, .int w1, .int w2, .int w3, .int w4]), .inr (.int, [.int c0, .int c1, .int c2, .int c3, .int c4])] = some (some (.int c4), [.inl (0, [.ref 3, .ref 4, .int 5]), .inr (.int, [.int w0, .int w1, .int w2, .int w3]), .inr (.int, [.int c0, .int c1, .int c2, .int c3]), .inr (.int, [.int w0, .int w1, .int w2, .int w3, .int w4, .int 0, .int 0, .int 0]), .inr (.int, [.int c0, .int c1, .int c2, .int c3, .int c4, .int 0, .int 0, .int 0]), .inl (1, [.ref 6, .ref 7]), .inr (.int, [.int w0, .int w1, .int w2, .int w3, .int w4]), .inr (.int, [.int c0, .int c1, .int c2, .int c3, .int c4])]) := by
  refine is_of f10_in fun go hgo => ?_
  refine t10_0 hgo rfl ?_
  refine res_of (u10_1 hgo) ?_
  simp only [eq_self, and_self, true_and, and_true, not_true_eq_false, not_false_eq_true, if_true, if_false, reduceIte, Option.bind_some, List.getElem?_cons_zero, List.getElem?_cons_succ, Nat.reduceAdd, Nat.reduceSub, Nat.reduceLT, Nat.reduceLeDiff, Nat.le_refl, Nat.zero_add, Nat.add_zero, List.length_cons, List.length_nil, Int32.reduceLT, Int32.reduceToNatClampNeg, Int32.reduceAdd, Int32.reduceSub, Int32.reduceMul, decide_true, aGet, obj]
  refine t10_4 hgo ?_
  refine res_of (u10_5 hgo) ?_
  simp only [eq_self, and_self, true_and, and_true, not_true_eq_false, not_false_eq_true, if_true, if_false, reduceIte, Option.bind_some, List.getElem?_cons_zero, List.getElem?_cons_succ, Nat.reduceAdd, Nat.reduceSub, Nat.reduceLT, Nat.reduceLeDiff, Nat.le_refl, Nat.zero_add, Nat.add_zero, List.length_cons, List.length_nil, Int32.reduceLT, Int32.reduceToNatClampNeg, Int32.reduceAdd, Int32.reduceSub, Int32.reduceMul, decide_true, ex_iaload, ald, pI_int, pR_ref, arr, isT, isBZ]
  refine t10_6 hgo ?_
  exact is_r
set_option maxRecDepth 65536 in
set_option maxHeartbeats 4000000 in
theorem en_0_0 {v c : Int32} : F7 [.ref 3, .int 0, .int 0, .int v, .int c] [.inl (0, [.ref 1, .ref 2, .int 0]), .inr (.int, [.int 0, .int 0, .int 0, .int 0]), .inr (.int, [.int 0, .int 0, .int 0, .int 0]), .inl (1, [.ref 4, .ref 5]), .inr (.int, []), .inr (.int, [])] = some (some (.int 1), [.inl (0, [.ref 1, .ref 2, .int 0]), .inr (.int, [.int 0, .int 0, .int 0, .int 0]), .inr (.int, [.int 0, .int 0, .int 0, .int 0]), .inl (1, [.ref 4, .ref 5]), .inr (.int, []), .inr (.int, [])]) := by
  refine is_of f7_in fun go hgo => ?_
  refine t7_0 hgo ?_
  refine t7_1 hgo ?_
  refine t7_2f hgo (by decide) ?_
  refine t7_5 hgo ?_
  refine t7_6 hgo ?_
  exact is_1
set_option maxRecDepth 65536 in
set_option maxHeartbeats 4000000 in
theorem en_0_1 {v c : Int32} : F7 [.ref 3, .int 0, .int 1, .int v, .int c] [.inl (0, [.ref 1, .ref 2, .int 0]), .inr (.int, [.int 0, .int 0, .int 0, .int 0]), .inr (.int, [.int 0, .int 0, .int 0, .int 0]), .inl (1, [.ref 4, .ref 5]), .inr (.int, []), .inr (.int, [])] = some (some (.int 1), [.inl (0, [.ref 1, .ref 2, .int 0]), .inr (.int, [.int 0, .int 0, .int 0, .int 0]), .inr (.int, [.int 0, .int 0, .int 0, .int 0]), .inl (1, [.ref 4, .ref 5]), .inr (.int, []), .inr (.int, [])]) := by
  refine is_of f7_in fun go hgo => ?_
  refine t7_0 hgo ?_
  refine t7_1 hgo ?_
  refine t7_2f hgo (by decide) ?_
  refine t7_5 hgo ?_
  refine t7_6 hgo ?_
  exact is_1
set_option maxRecDepth 65536 in
set_option maxHeartbeats 4000000 in
theorem en_0_2 {v c : Int32} : F7 [.ref 3, .int 0, .int 2, .int v, .int c] [.inl (0, [.ref 1, .ref 2, .int 0]), .inr (.int, [.int 0, .int 0, .int 0, .int 0]), .inr (.int, [.int 0, .int 0, .int 0, .int 0]), .inl (1, [.ref 4, .ref 5]), .inr (.int, []), .inr (.int, [])] = some (some (.int 1), [.inl (0, [.ref 1, .ref 2, .int 0]), .inr (.int, [.int 0, .int 0, .int 0, .int 0]), .inr (.int, [.int 0, .int 0, .int 0, .int 0]), .inl (1, [.ref 4, .ref 5]), .inr (.int, []), .inr (.int, [])]) := by
  refine is_of f7_in fun go hgo => ?_
  refine t7_0 hgo ?_
  refine t7_1 hgo ?_
  refine t7_2f hgo (by decide) ?_
  refine t7_5 hgo ?_
  refine t7_6 hgo ?_
  exact is_1
set_option maxRecDepth 65536 in
set_option maxHeartbeats 4000000 in
theorem en_0_3 {v c : Int32} : F7 [.ref 3, .int 0, .int 3, .int v, .int c] [.inl (0, [.ref 1, .ref 2, .int 0]), .inr (.int, [.int 0, .int 0, .int 0, .int 0]), .inr (.int, [.int 0, .int 0, .int 0, .int 0]), .inl (1, [.ref 4, .ref 5]), .inr (.int, []), .inr (.int, [])] = some (some (.int 1), [.inl (0, [.ref 1, .ref 2, .int 0]), .inr (.int, [.int 0, .int 0, .int 0, .int 0]), .inr (.int, [.int 0, .int 0, .int 0, .int 0]), .inl (1, [.ref 4, .ref 5]), .inr (.int, []), .inr (.int, [])]) := by
  refine is_of f7_in fun go hgo => ?_
  refine t7_0 hgo ?_
  refine t7_1 hgo ?_
  refine t7_2f hgo (by decide) ?_
  refine t7_5 hgo ?_
  refine t7_6 hgo ?_
  exact is_1
set_option maxRecDepth 65536 in
set_option maxHeartbeats 4000000 in
theorem en_0_4 {v c : Int32} : F7 [.ref 3, .int 0, .int 4, .int v, .int c] [.inl (0, [.ref 1, .ref 2, .int 0]), .inr (.int, [.int 0, .int 0, .int 0, .int 0]), .inr (.int, [.int 0, .int 0, .int 0, .int 0]), .inl (1, [.ref 4, .ref 5]), .inr (.int, []), .inr (.int, [])] = some (some (.int 1), [.inl (0, [.ref 1, .ref 2, .int 0]), .inr (.int, [.int 0, .int 0, .int 0, .int 0]), .inr (.int, [.int 0, .int 0, .int 0, .int 0]), .inl (1, [.ref 4, .ref 5]), .inr (.int, []), .inr (.int, [])]) := by
  refine is_of f7_in fun go hgo => ?_
  refine t7_0 hgo ?_
  refine t7_1 hgo ?_
  refine t7_2f hgo (by decide) ?_
  refine t7_5 hgo ?_
  refine t7_6 hgo ?_
  exact is_1
set_option maxRecDepth 65536 in
set_option maxHeartbeats 4000000 in
theorem en_1_0 {w0 c0 : Int32} : F7 [.ref 3, .int 1, .int 0, .int w0, .int c0] [.inl (0, [.ref 1, .ref 2, .int 1]), .inr (.int, [.int w0, .int 0, .int 0, .int 0]), .inr (.int, [.int c0, .int 0, .int 0, .int 0]), .inl (1, [.ref 4, .ref 5]), .inr (.int, [.int w0]), .inr (.int, [.int c0])] = some (some (.int 1), [.inl (0, [.ref 1, .ref 2, .int 1]), .inr (.int, [.int w0, .int 0, .int 0, .int 0]), .inr (.int, [.int c0, .int 0, .int 0, .int 0]), .inl (1, [.ref 4, .ref 5]), .inr (.int, [.int w0]), .inr (.int, [.int c0])]) := by
  refine is_of f7_in fun go hgo => ?_
  refine t7_0 hgo ?_
  refine t7_1 hgo ?_
  refine t7_2t hgo (by decide) ?_
  refine t7_7 hgo rfl ?_
  refine t7_8 hgo ?_
  refine res_of (u7_9 hgo) ?_
  simp only [eq_self, and_self, true_and, and_true, not_true_eq_false, not_false_eq_true, if_true, if_false, reduceIte, Option.bind_some, List.getElem?_cons_zero, List.getElem?_cons_succ, Nat.reduceAdd, Nat.reduceSub, Nat.reduceLT, Nat.reduceLeDiff, Nat.le_refl, Nat.zero_add, Nat.add_zero, List.length_cons, List.length_nil, Int32.reduceLT, Int32.reduceToNatClampNeg, Int32.reduceAdd, Int32.reduceSub, Int32.reduceMul, decide_true, aCall, aRecv, aObj, obj, List.take_succ_cons, List.take_zero, List.drop_succ_cons, List.drop_zero, List.reverse_cons, List.reverse_nil, List.nil_append, List.cons_append, List.append_nil, List.map_cons, List.map_nil, List.sum_cons, List.sum_nil, cat_int, cat_long, cat_ref, cat_null, Option.toList_some, Option.toList_none, val_1_0, cnt_1_0]
  refine t7_12 hgo ?_
  refine t7_13t hgo rfl ?_
  refine t7_16 hgo rfl ?_
  refine t7_17 hgo ?_
  refine res_of (u7_18 hgo) ?_
  simp only [eq_self, and_self, true_and, and_true, not_true_eq_false, not_false_eq_true, if_true, if_false, reduceIte, Option.bind_some, List.getElem?_cons_zero, List.getElem?_cons_succ, Nat.reduceAdd, Nat.reduceSub, Nat.reduceLT, Nat.reduceLeDiff, Nat.le_refl, Nat.zero_add, Nat.add_zero, List.length_cons, List.length_nil, Int32.reduceLT, Int32.reduceToNatClampNeg, Int32.reduceAdd, Int32.reduceSub, Int32.reduceMul, decide_true, aCall, aRecv, aObj, obj, List.take_succ_cons, List.take_zero, List.drop_succ_cons, List.drop_zero, List.reverse_cons, List.reverse_nil, List.nil_append, List.cons_append, List.append_nil, List.map_cons, List.map_nil, List.sum_cons, List.sum_nil, cat_int, cat_long, cat_ref, cat_null, Option.toList_some, Option.toList_none, val_1_0, cnt_1_0]
  refine t7_21 hgo ?_
  refine t7_23t hgo rfl ?_
  refine t7_26 hgo ?_
  refine t7_27 hgo ?_
  refine t7_31 hgo ?_
  exact is_1
set_option maxRecDepth 65536 in
set_option maxHeartbeats 4000000 in
theorem en_1_1 {w0 c0 : Int32} {v c : Int32} : F7 [.ref 3, .int 1, .int 1, .int v, .int c] [.inl (0, [.ref 1, .ref 2, .int 1]), .inr (.int, [.int w0, .int 0, .int 0, .int 0]), .inr (.int, [.int c0, .int 0, .int 0, .int 0]), .inl (1, [.ref 4, .ref 5]), .inr (.int, [.int w0]), .inr (.int, [.int c0])] = some (some (.int 1), [.inl (0, [.ref 1, .ref 2, .int 1]), .inr (.int, [.int w0, .int 0, .int 0, .int 0]), .inr (.int, [.int c0, .int 0, .int 0, .int 0]), .inl (1, [.ref 4, .ref 5]), .inr (.int, [.int w0]), .inr (.int, [.int c0])]) := by
  refine is_of f7_in fun go hgo => ?_
  refine t7_0 hgo ?_
  refine t7_1 hgo ?_
  refine t7_2f hgo (by decide) ?_
  refine t7_5 hgo ?_
  refine t7_6 hgo ?_
  exact is_1
set_option maxRecDepth 65536 in
set_option maxHeartbeats 4000000 in
theorem en_1_2 {w0 c0 : Int32} {v c : Int32} : F7 [.ref 3, .int 1, .int 2, .int v, .int c] [.inl (0, [.ref 1, .ref 2, .int 1]), .inr (.int, [.int w0, .int 0, .int 0, .int 0]), .inr (.int, [.int c0, .int 0, .int 0, .int 0]), .inl (1, [.ref 4, .ref 5]), .inr (.int, [.int w0]), .inr (.int, [.int c0])] = some (some (.int 1), [.inl (0, [.ref 1, .ref 2, .int 1]), .inr (.int, [.int w0, .int 0, .int 0, .int 0]), .inr (.int, [.int c0, .int 0, .int 0, .int 0]), .inl (1, [.ref 4, .ref 5]), .inr (.int, [.int w0]), .inr (.int, [.int c0])]) := by
  refine is_of f7_in fun go hgo => ?_
  refine t7_0 hgo ?_
  refine t7_1 hgo ?_
  refine t7_2f hgo (by decide) ?_
  refine t7_5 hgo ?_
  refine t7_6 hgo ?_
  exact is_1
set_option maxRecDepth 65536 in
set_option maxHeartbeats 4000000 in
theorem en_1_3 {w0 c0 : Int32} {v c : Int32} : F7 [.ref 3, .int 1, .int 3, .int v, .int c] [.inl (0, [.ref 1, .ref 2, .int 1]), .inr (.int, [.int w0, .int 0, .int 0, .int 0]), .inr (.int, [.int c0, .int 0, .int 0, .int 0]), .inl (1, [.ref 4, .ref 5]), .inr (.int, [.int w0]), .inr (.int, [.int c0])] = some (some (.int 1), [.inl (0, [.ref 1, .ref 2, .int 1]), .inr (.int, [.int w0, .int 0, .int 0, .int 0]), .inr (.int, [.int c0, .int 0, .int 0, .int 0]), .inl (1, [.ref 4, .ref 5]), .inr (.int, [.int w0]), .inr (.int, [.int c0])]) := by
  refine is_of f7_in fun go hgo => ?_
  refine t7_0 hgo ?_
  refine t7_1 hgo ?_
  refine t7_2f hgo (by decide) ?_
  refine t7_5 hgo ?_
  refine t7_6 hgo ?_
  exact is_1
set_option maxRecDepth 65536 in
set_option maxHeartbeats 4000000 in
theorem en_1_4 {w0 c0 : Int32} {v c : Int32} : F7 [.ref 3, .int 1, .int 4, .int v, .int c] [.inl (0, [.ref 1, .ref 2, .int 1]), .inr (.int, [.int w0, .int 0, .int 0, .int 0]), .inr (.int, [.int c0, .int 0, .int 0, .int 0]), .inl (1, [.ref 4, .ref 5]), .inr (.int, [.int w0]), .inr (.int, [.int c0])] = some (some (.int 1), [.inl (0, [.ref 1, .ref 2, .int 1]), .inr (.int, [.int w0, .int 0, .int 0, .int 0]), .inr (.int, [.int c0, .int 0, .int 0, .int 0]), .inl (1, [.ref 4, .ref 5]), .inr (.int, [.int w0]), .inr (.int, [.int c0])]) := by
  refine is_of f7_in fun go hgo => ?_
  refine t7_0 hgo ?_
  refine t7_1 hgo ?_
  refine t7_2f hgo (by decide) ?_
  refine t7_5 hgo ?_
  refine t7_6 hgo ?_
  exact is_1
set_option maxRecDepth 65536 in
set_option maxHeartbeats 4000000 in
theorem en_2_0 {w0 w1 c0 c1 : Int32} : F7 [.ref 3, .int 2, .int 0, .int w0, .int c0] [.inl (0, [.ref 1, .ref 2, .int 2]), .inr (.int, [.int w0, .int w1, .int 0, .int 0]), .inr (.int, [.int c0, .int c1, .int 0, .int 0]), .inl (1, [.ref 4, .ref 5]), .inr (.int, [.int w0, .int w1]), .inr (.int, [.int c0, .int c1])] = some (some (.int 1), [.inl (0, [.ref 1, .ref 2, .int 2]), .inr (.int, [.int w0, .int w1, .int 0, .int 0]), .inr (.int, [.int c0, .int c1, .int 0, .int 0]), .inl (1, [.ref 4, .ref 5]), .inr (.int, [.int w0, .int w1]), .inr (.int, [.int c0, .int c1])]) := by
  refine is_of f7_in fun go hgo => ?_
  refine t7_0 hgo ?_
  refine t7_1 hgo ?_
  refine t7_2t hgo (by decide) ?_
  refine t7_7 hgo rfl ?_
  refine t7_8 hgo ?_
  refine res_of (u7_9 hgo) ?_
  simp only [eq_self, and_self, true_and, and_true, not_true_eq_false, not_false_eq_true, if_true, if_false, reduceIte, Option.bind_some, List.getElem?_cons_zero, List.getElem?_cons_succ, Nat.reduceAdd, Nat.reduceSub, Nat.reduceLT, Nat.reduceLeDiff, Nat.le_refl, Nat.zero_add, Nat.add_zero, List.length_cons, List.length_nil, Int32.reduceLT, Int32.reduceToNatClampNeg, Int32.reduceAdd, Int32.reduceSub, Int32.reduceMul, decide_true, aCall, aRecv, aObj, obj, List.take_succ_cons, List.take_zero, List.drop_succ_cons, List.drop_zero, List.reverse_cons, List.reverse_nil, List.nil_append, List.cons_append, List.append_nil, List.map_cons, List.map_nil, List.sum_cons, List.sum_nil, cat_int, cat_long, cat_ref, cat_null, Option.toList_some, Option.toList_none, val_2_0, cnt_2_0]
  refine t7_12 hgo ?_
  refine t7_13t hgo rfl ?_
  refine t7_16 hgo rfl ?_
  refine t7_17 hgo ?_
  refine res_of (u7_18 hgo) ?_
  simp only [eq_self, and_self, true_and, and_true, not_true_eq_false, not_false_eq_true, if_true, if_false, reduceIte, Option.bind_some, List.getElem?_cons_zero, List.getElem?_cons_succ, Nat.reduceAdd, Nat.reduceSub, Nat.reduceLT, Nat.reduceLeDiff, Nat.le_refl, Nat.zero_add, Nat.add_zero, List.length_cons, List.length_nil, Int32.reduceLT, Int32.reduceToNatClampNeg, Int32.reduceAdd, Int32.reduceSub, Int32.reduceMul, decide_true, aCall, aRecv, aObj, obj, List.take_succ_cons, List.take_zero, List.drop_succ_cons, List.drop_zero, List.reverse_cons, List.reverse_nil, List.nil_append, List.cons_append, List.append_nil, List.map_cons, List.map_nil, List.sum_cons, List.sum_nil, cat_int, cat_long, cat_ref, cat_null, Option.toList_some, Option.toList_none, val_2_0, cnt_2_0]
  refine t7_21 hgo ?_
  refine t7_23t hgo rfl ?_
  refine t7_26 hgo ?_
  refine t7_27 hgo ?_
  refine t7_31 hgo ?_
  exact is_1
set_option maxRecDepth 65536 in
set_option maxHeartbeats 4000000 in
theorem en_2_1 {w0 w1 c0 c1 : Int32} : F7 [.ref 3, .int 2, .int 1, .int w1, .int c1] [.inl (0, [.ref 1, .ref 2, .int 2]), .inr (.int, [.int w0, .int w1, .int 0, .int 0]), .inr (.int, [.int c0, .int c1, .int 0, .int 0]), .inl (1, [.ref 4, .ref 5]), .inr (.int, [.int w0, .int w1]), .inr (.int, [.int c0, .int c1])] = some (some (.int 1), [.inl (0, [.ref 1, .ref 2, .int 2]), .inr (.int, [.int w0, .int w1, .int 0, .int 0]), .inr (.int, [.int c0, .int c1, .int 0, .int 0]), .inl (1, [.ref 4, .ref 5]), .inr (.int, [.int w0, .int w1]), .inr (.int, [.int c0, .int c1])]) := by
  refine is_of f7_in fun go hgo => ?_
  refine t7_0 hgo ?_
  refine t7_1 hgo ?_
  refine t7_2t hgo (by decide) ?_
  refine t7_7 hgo rfl ?_
  refine t7_8 hgo ?_
  refine res_of (u7_9 hgo) ?_
  simp only [eq_self, and_self, true_and, and_true, not_true_eq_false, not_false_eq_true, if_true, if_false, reduceIte, Option.bind_some, List.getElem?_cons_zero, List.getElem?_cons_succ, Nat.reduceAdd, Nat.reduceSub, Nat.reduceLT, Nat.reduceLeDiff, Nat.le_refl, Nat.zero_add, Nat.add_zero, List.length_cons, List.length_nil, Int32.reduceLT, Int32.reduceToNatClampNeg, Int32.reduceAdd, Int32.reduceSub, Int32.reduceMul, decide_true, aCall, aRecv, aObj, obj, List.take_succ_cons, List.take_zero, List.drop_succ_cons, List.drop_zero, List.reverse_cons, List.reverse_nil, List.nil_append, List.cons_append, List.append_nil, List.map_cons, List.map_nil, List.sum_cons, List.sum_nil, cat_int, cat_long, cat_ref, cat_null, Option.toList_some, Option.toList_none, val_2_1, cnt_2_1]
  refine t7_12 hgo ?_
  refine t7_13t hgo rfl ?_
  refine t7_16 hgo rfl ?_
  refine t7_17 hgo ?_
  refine res_of (u7_18 hgo) ?_
  simp only [eq_self, and_self, true_and, and_true, not_true_eq_false, not_false_eq_true, if_true, if_false, reduceIte, Option.bind_some, List.getElem?_cons_zero, List.getElem?_cons_succ, Nat.reduceAdd, Nat.reduceSub, Nat.reduceLT, Nat.reduceLeDiff, Nat.le_refl, Nat.zero_add, Nat.add_zero, List.length_cons, List.length_nil, Int32.reduceLT, Int32.reduceToNatClampNeg, Int32.reduceAdd, Int32.reduceSub, Int32.reduceMul, decide_true, aCall, aRecv, aObj, obj, List.take_succ_cons, List.take_zero, List.drop_succ_cons, List.drop_zero, List.reverse_cons, List.reverse_nil, List.nil_append, List.cons_append, List.append_nil, List.map_cons, List.map_nil, List.sum_cons, List.sum_nil, cat_int, cat_long, cat_ref, cat_null, Option.toList_some, Option.toList_none, val_2_1, cnt_2_1]
  refine t7_21 hgo ?_
  refine t7_23t hgo rfl ?_
  refine t7_26 hgo ?_
  refine t7_27 hgo ?_
  refine t7_31 hgo ?_
  exact is_1
set_option maxRecDepth 65536 in
set_option maxHeartbeats 4000000 in
theorem en_2_2 {w0 w1 c0 c1 : Int32} {v c : Int32} : F7 [.ref 3, .int 2, .int 2, .int v, .int c] [.inl (0, [.ref 1, .ref 2, .int 2]), .inr (.int, [.int w0, .int w1, .int 0, .int 0]), .inr (.int, [.int c0, .int c1, .int 0, .int 0]), .inl (1, [.ref 4, .ref 5]), .inr (.int, [.int w0, .int w1]), .inr (.int, [.int c0, .int c1])] = some (some (.int 1), [.inl (0, [.ref 1, .ref 2, .int 2]), .inr (.int, [.int w0, .int w1, .int 0, .int 0]), .inr (.int, [.int c0, .int c1, .int 0, .int 0]), .inl (1, [.ref 4, .ref 5]), .inr (.int, [.int w0, .int w1]), .inr (.int, [.int c0, .int c1])]) := by
  refine is_of f7_in fun go hgo => ?_
  refine t7_0 hgo ?_
  refine t7_1 hgo ?_
  refine t7_2f hgo (by decide) ?_
  refine t7_5 hgo ?_
  refine t7_6 hgo ?_
  exact is_1
set_option maxRecDepth 65536 in
set_option maxHeartbeats 4000000 in
theorem en_2_3 {w0 w1 c0 c1 : Int32} {v c : Int32} : F7 [.ref 3, .int 2, .int 3, .int v, .int c] [.inl (0, [.ref 1, .ref 2, .int 2]), .inr (.int, [.int w0, .int w1, .int 0, .int 0]), .inr (.int, [.int c0, .int c1, .int 0, .int 0]), .inl (1, [.ref 4, .ref 5]), .inr (.int, [.int w0, .int w1]), .inr (.int, [.int c0, .int c1])] = some (some (.int 1), [.inl (0, [.ref 1, .ref 2, .int 2]), .inr (.int, [.int w0, .int w1, .int 0, .int 0]), .inr (.int, [.int c0, .int c1, .int 0, .int 0]), .inl (1, [.ref 4, .ref 5]), .inr (.int, [.int w0, .int w1]), .inr (.int, [.int c0, .int c1])]) := by
  refine is_of f7_in fun go hgo => ?_
  refine t7_0 hgo ?_
  refine t7_1 hgo ?_
  refine t7_2f hgo (by decide) ?_
  refine t7_5 hgo ?_
  refine t7_6 hgo ?_
  exact is_1
set_option maxRecDepth 65536 in
set_option maxHeartbeats 4000000 in
theorem en_2_4 {w0 w1 c0 c1 : Int32} {v c : Int32} : F7 [.ref 3, .int 2, .int 4, .int v, .int c] [.inl (0, [.ref 1, .ref 2, .int 2]), .inr (.int, [.int w0, .int w1, .int 0, .int 0]), .inr (.int, [.int c0, .int c1, .int 0, .int 0]), .inl (1, [.ref 4, .ref 5]), .inr (.int, [.int w0, .int w1]), .inr (.int, [.int c0, .int c1])] = some (some (.int 1), [.inl (0, [.ref 1, .ref 2, .int 2]), .inr (.int, [.int w0, .int w1, .int 0, .int 0]), .inr (.int, [.int c0, .int c1, .int 0, .int 0]), .inl (1, [.ref 4, .ref 5]), .inr (.int, [.int w0, .int w1]), .inr (.int, [.int c0, .int c1])]) := by
  refine is_of f7_in fun go hgo => ?_
  refine t7_0 hgo ?_
  refine t7_1 hgo ?_
  refine t7_2f hgo (by decide) ?_
  refine t7_5 hgo ?_
  refine t7_6 hgo ?_
  exact is_1
set_option maxRecDepth 65536 in
set_option maxHeartbeats 4000000 in
theorem en_3_0 {w0 w1 w2 c0 c1 c2 : Int32} : F7 [.ref 3, .int 3, .int 0, .int w0, .int c0] [.inl (0, [.ref 1, .ref 2, .int 3]), .inr (.int, [.int w0, .int w1, .int w2, .int 0]), .inr (.int, [.int c0, .int c1, .int c2, .int 0]), .inl (1, [.ref 4, .ref 5]), .inr (.int, [.int w0, .int w1, .int w2]), .inr (.int, [.int c0, .int c1, .int c2])] = some (some (.int 1), [.inl (0, [.ref 1, .ref 2, .int 3]), .inr (.int, [.int w0, .int w1, .int w2, .int 0]), .inr (.int, [.int c0, .int c1, .int c2, .int 0]), .inl (1, [.ref 4, .ref 5]), .inr (.int, [.int w0, .int w1, .int w2]), .inr (.int, [.int c0, .int c1, .int c2])]) := by
  refine is_of f7_in fun go hgo => ?_
  refine t7_0 hgo ?_
  refine t7_1 hgo ?_
  refine t7_2t hgo (by decide) ?_
  refine t7_7 hgo rfl ?_
  refine t7_8 hgo ?_
  refine res_of (u7_9 hgo) ?_
  simp only [eq_self, and_self, true_and, and_true, not_true_eq_false, not_false_eq_true, if_true, if_false, reduceIte, Option.bind_some, List.getElem?_cons_zero, List.getElem?_cons_succ, Nat.reduceAdd, Nat.reduceSub, Nat.reduceLT, Nat.reduceLeDiff, Nat.le_refl, Nat.zero_add, Nat.add_zero, List.length_cons, List.length_nil, Int32.reduceLT, Int32.reduceToNatClampNeg, Int32.reduceAdd, Int32.reduceSub, Int32.reduceMul, decide_true, aCall, aRecv, aObj, obj, List.take_succ_cons, List.take_zero, List.drop_succ_cons, List.drop_zero, List.reverse_cons, List.reverse_nil, List.nil_append, List.cons_append, List.append_nil, List.map_cons, List.map_nil, List.sum_cons, List.sum_nil, cat_int, cat_long, cat_ref, cat_null, Option.toList_some, Option.toList_none, val_3_0, cnt_3_0]
  refine t7_12 hgo ?_
  refine t7_13t hgo rfl ?_
  refine t7_16 hgo rfl ?_
  refine t7_17 hgo ?_
  refine res_of (u7_18 hgo) ?_
  simp only [eq_self, and_self, true_and, and_true, not_true_eq_false, not_false_eq_true, if_true, if_false, reduceIte, Option.bind_some, List.getElem?_cons_zero, List.getElem?_cons_succ, Nat.reduceAdd, Nat.reduceSub, Nat.reduceLT, Nat.reduceLeDiff, Nat.le_refl, Nat.zero_add, Nat.add_zero, List.length_cons, List.length_nil, Int32.reduceLT, Int32.reduceToNatClampNeg, Int32.reduceAdd, Int32.reduceSub, Int32.reduceMul, decide_true, aCall, aRecv, aObj, obj, List.take_succ_cons, List.take_zero, List.drop_succ_cons, List.drop_zero, List.reverse_cons, List.reverse_nil, List.nil_append, List.cons_append, List.append_nil, List.map_cons, List.map_nil, List.sum_cons, List.sum_nil, cat_int, cat_long, cat_ref, cat_null, Option.toList_some, Option.toList_none, val_3_0, cnt_3_0]
  refine t7_21 hgo ?_
  refine t7_23t hgo rfl ?_
  refine t7_26 hgo ?_
  refine t7_27 hgo ?_
  refine t7_31 hgo ?_
  exact is_1
set_option maxRecDepth 65536 in
set_option maxHeartbeats 4000000 in
theorem en_3_1 {w0 w1 w2 c0 c1 c2 : Int32} : F7 [.ref 3, .int 3, .int 1, .int w1, .int c1] [.inl (0, [.ref 1, .ref 2, .int 3]), .inr (.int, [.int w0, .int w1, .int w2, .int 0]), .inr (.int, [.int c0, .int c1, .int c2, .int 0]), .inl (1, [.ref 4, .ref 5]), .inr (.int, [.int w0, .int w1, .int w2]), .inr (.int, [.int c0, .int c1, .int c2])] = some (some (.int 1), [.inl (0, [.ref 1, .ref 2, .int 3]), .inr (.int, [.int w0, .int w1, .int w2, .int 0]), .inr (.int, [.int c0, .int c1, .int c2, .int 0]), .inl (1, [.ref 4, .ref 5]), .inr (.int, [.int w0, .int w1, .int w2]), .inr (.int, [.int c0, .int c1, .int c2])]) := by
  refine is_of f7_in fun go hgo => ?_
  refine t7_0 hgo ?_
  refine t7_1 hgo ?_
  refine t7_2t hgo (by decide) ?_
  refine t7_7 hgo rfl ?_
  refine t7_8 hgo ?_
  refine res_of (u7_9 hgo) ?_
  simp only [eq_self, and_self, true_and, and_true, not_true_eq_false, not_false_eq_true, if_true, if_false, reduceIte, Option.bind_some, List.getElem?_cons_zero, List.getElem?_cons_succ, Nat.reduceAdd, Nat.reduceSub, Nat.reduceLT, Nat.reduceLeDiff, Nat.le_refl, Nat.zero_add, Nat.add_zero, List.length_cons, List.length_nil, Int32.reduceLT, Int32.reduceToNatClampNeg, Int32.reduceAdd, Int32.reduceSub, Int32.reduceMul, decide_true, aCall, aRecv, aObj, obj, List.take_succ_cons, List.take_zero, List.drop_succ_cons, List.drop_zero, List.reverse_cons, List.reverse_nil, List.nil_append, List.cons_append, List.append_nil, List.map_cons, List.map_nil, List.sum_cons, List.sum_nil, cat_int, cat_long, cat_ref, cat_null, Option.toList_some, Option.toList_none, val_3_1, cnt_3_1]
  refine t7_12 hgo ?_
  refine t7_13t hgo rfl ?_
  refine t7_16 hgo rfl ?_
  refine t7_17 hgo ?_
  refine res_of (u7_18 hgo) ?_
  simp only [eq_self, and_self, true_and, and_true, not_true_eq_false, not_false_eq_true, if_true, if_false, reduceIte, Option.bind_some, List.getElem?_cons_zero, List.getElem?_cons_succ, Nat.reduceAdd, Nat.reduceSub, Nat.reduceLT, Nat.reduceLeDiff, Nat.le_refl, Nat.zero_add, Nat.add_zero, List.length_cons, List.length_nil, Int32.reduceLT, Int32.reduceToNatClampNeg, Int32.reduceAdd, Int32.reduceSub, Int32.reduceMul, decide_true, aCall, aRecv, aObj, obj, List.take_succ_cons, List.take_zero, List.drop_succ_cons, List.drop_zero, List.reverse_cons, List.reverse_nil, List.nil_append, List.cons_append, List.append_nil, List.map_cons, List.map_nil, List.sum_cons, List.sum_nil, cat_int, cat_long, cat_ref, cat_null, Option.toList_some, Option.toList_none, val_3_1, cnt_3_1]
  refine t7_21 hgo ?_
  refine t7_23t hgo rfl ?_
  refine t7_26 hgo ?_
  refine t7_27 hgo ?_
  refine t7_31 hgo ?_
  exact is_1
set_option maxRecDepth 65536 in
set_option maxHeartbeats 4000000 in
theorem en_3_2 {w0 w1 w2 c0 c1 c2 : Int32} : F7 [.ref 3, .int 3, .int 2, .int w2, .int c2] [.inl (0, [.ref 1, .ref 2, .int 3]), .inr (.int, [.int w0, .int w1, .int w2, .int 0]), .inr (.int, [.int c0, .int c1, .int c2, .int 0]), .inl (1, [.ref 4, .ref 5]), .inr (.int, [.int w0, .int w1, .int w2]), .inr (.int, [.int c0, .int c1, .int c2])] = some (some (.int 1), [.inl (0, [.ref 1, .ref 2, .int 3]), .inr (.int, [.int w0, .int w1, .int w2, .int 0]), .inr (.int, [.int c0, .int c1, .int c2, .int 0]), .inl (1, [.ref 4, .ref 5]), .inr (.int, [.int w0, .int w1, .int w2]), .inr (.int, [.int c0, .int c1, .int c2])]) := by
  refine is_of f7_in fun go hgo => ?_
  refine t7_0 hgo ?_
  refine t7_1 hgo ?_
  refine t7_2t hgo (by decide) ?_
  refine t7_7 hgo rfl ?_
  refine t7_8 hgo ?_
  refine res_of (u7_9 hgo) ?_
  simp only [eq_self, and_self, true_and, and_true, not_true_eq_false, not_false_eq_true, if_true, if_false, reduceIte, Option.bind_some, List.getElem?_cons_zero, List.getElem?_cons_succ, Nat.reduceAdd, Nat.reduceSub, Nat.reduceLT, Nat.reduceLeDiff, Nat.le_refl, Nat.zero_add, Nat.add_zero, List.length_cons, List.length_nil, Int32.reduceLT, Int32.reduceToNatClampNeg, Int32.reduceAdd, Int32.reduceSub, Int32.reduceMul, decide_true, aCall, aRecv, aObj, obj, List.take_succ_cons, List.take_zero, List.drop_succ_cons, List.drop_zero, List.reverse_cons, List.reverse_nil, List.nil_append, List.cons_append, List.append_nil, List.map_cons, List.map_nil, List.sum_cons, List.sum_nil, cat_int, cat_long, cat_ref, cat_null, Option.toList_some, Option.toList_none, val_3_2, cnt_3_2]
  refine t7_12 hgo ?_
  refine t7_13t hgo rfl ?_
  refine t7_16 hgo rfl ?_
  refine t7_17 hgo ?_
  refine res_of (u7_18 hgo) ?_
  simp only [eq_self, and_self, true_and, and_true, not_true_eq_false, not_false_eq_true, if_true, if_false, reduceIte, Option.bind_some, List.getElem?_cons_zero, List.getElem?_cons_succ, Nat.reduceAdd, Nat.reduceSub, Nat.reduceLT, Nat.reduceLeDiff, Nat.le_refl, Nat.zero_add, Nat.add_zero, List.length_cons, List.length_nil, Int32.reduceLT, Int32.reduceToNatClampNeg, Int32.reduceAdd, Int32.reduceSub, Int32.reduceMul, decide_true, aCall, aRecv, aObj, obj, List.take_succ_cons, List.take_zero, List.drop_succ_cons, List.drop_zero, List.reverse_cons, List.reverse_nil, List.nil_append, List.cons_append, List.append_nil, List.map_cons, List.map_nil, List.sum_cons, List.sum_nil, cat_int, cat_long, cat_ref, cat_null, Option.toList_some, Option.toList_none, val_3_2, cnt_3_2]
  refine t7_21 hgo ?_
  refine t7_23t hgo rfl ?_
  refine t7_26 hgo ?_
  refine t7_27 hgo ?_
  refine t7_31 hgo ?_
  exact is_1
set_option maxRecDepth 65536 in
set_option maxHeartbeats 4000000 in
theorem en_3_3 {w0 w1 w2 c0 c1 c2 : Int32} {v c : Int32} : F7 [.ref 3, .int 3, .int 3, .int v, .int c] [.inl (0, [.ref 1, .ref 2, .int 3]), .inr (.int, [.int w0, .int w1, .int w2, .int 0]), .inr (.int, [.int c0, .int c1, .int c2, .int 0]), .inl (1, [.ref 4, .ref 5]), .inr (.int, [.int w0, .int w1, .int w2]), .inr (.int, [.int c0, .int c1, .int c2])] = some (some (.int 1), [.inl (0, [.ref 1, .ref 2, .int 3]), .inr (.int, [.int w0, .int w1, .int w2, .int 0]), .inr (.int, [.int c0, .int c1, .int c2, .int 0]), .inl (1, [.ref 4, .ref 5]), .inr (.int, [.int w0, .int w1, .int w2]), .inr (.int, [.int c0, .int c1, .int c2])]) := by
  refine is_of f7_in fun go hgo => ?_
  refine t7_0 hgo ?_
  refine t7_1 hgo ?_
  refine t7_2f hgo (by decide) ?_
  refine t7_5 hgo ?_
  refine t7_6 hgo ?_
  exact is_1
set_option maxRecDepth 65536 in
set_option maxHeartbeats 4000000 in
theorem en_3_4 {w0 w1 w2 c0 c1 c2 : Int32} {v c : Int32} : F7 [.ref 3, .int 3, .int 4, .int v, .int c] [.inl (0, [.ref 1, .ref 2, .int 3]), .inr (.int, [.int w0, .int w1, .int w2, .int 0]), .inr (.int, [.int c0, .int c1, .int c2, .int 0]), .inl (1, [.ref 4, .ref 5]), .inr (.int, [.int w0, .int w1, .int w2]), .inr (.int, [.int c0, .int c1, .int c2])] = some (some (.int 1), [.inl (0, [.ref 1, .ref 2, .int 3]), .inr (.int, [.int w0, .int w1, .int w2, .int 0]), .inr (.int, [.int c0, .int c1, .int c2, .int 0]), .inl (1, [.ref 4, .ref 5]), .inr (.int, [.int w0, .int w1, .int w2]), .inr (.int, [.int c0, .int c1, .int c2])]) := by
  refine is_of f7_in fun go hgo => ?_
  refine t7_0 hgo ?_
  refine t7_1 hgo ?_
  refine t7_2f hgo (by decide) ?_
  refine t7_5 hgo ?_
  refine t7_6 hgo ?_
  exact is_1
set_option maxRecDepth 65536 in
set_option maxHeartbeats 4000000 in
theorem en_4_0 {w0 w1 w2 w3 c0 c1 c2 c3 : Int32} : F7 [.ref 3, .int 4, .int 0, .int w0, .int c0] [.inl (0, [.ref 1, .ref 2, .int 4]), .inr (.int, [.int w0, .int w1, .int w2, .int w3]), .inr (.int, [.int c0, .int c1, .int c2, .int c3]), .inl (1, [.ref 4, .ref 5]), .inr (.int, [.int w0, .int w1, .int w2, .int w3]), .inr (.int, [.int c0, .int c1, .int c2, .int c3])] = some (some (.int 1), [.inl (0, [.ref 1, .ref 2, .int 4]), .inr (.int, [.int w0, .int w1, .int w2, .int w3]), .inr (.int, [.int c0, .int c1, .int c2, .int c3]), .inl (1, [.ref 4, .ref 5]), .inr (.int, [.int w0, .int w1, .int w2, .int w3]), .inr (.int, [.int c0, .int c1, .int c2, .int c3])]) := by
  refine is_of f7_in fun go hgo => ?_
  refine t7_0 hgo ?_
  refine t7_1 hgo ?_
  refine t7_2t hgo (by decide) ?_
  refine t7_7 hgo rfl ?_
  refine t7_8 hgo ?_
  refine res_of (u7_9 hgo) ?_
  simp only [eq_self, and_self, true_and, and_true, not_true_eq_false, not_false_eq_true, if_true, if_false, reduceIte, Option.bind_some, List.getElem?_cons_zero, List.getElem?_cons_succ, Nat.reduceAdd, Nat.reduceSub, Nat.reduceLT, Nat.reduceLeDiff, Nat.le_refl, Nat.zero_add, Nat.add_zero, List.length_cons, List.length_nil, Int32.reduceLT, Int32.reduceToNatClampNeg, Int32.reduceAdd, Int32.reduceSub, Int32.reduceMul, decide_true, aCall, aRecv, aObj, obj, List.take_succ_cons, List.take_zero, List.drop_succ_cons, List.drop_zero, List.reverse_cons, List.reverse_nil, List.nil_append, List.cons_append, List.append_nil, List.map_cons, List.map_nil, List.sum_cons, List.sum_nil, cat_int, cat_long, cat_ref, cat_null, Option.toList_some, Option.toList_none, val_4_0, cnt_4_0]
  refine t7_12 hgo ?_
  refine t7_13t hgo rfl ?_
  refine t7_16 hgo rfl ?_
  refine t7_17 hgo ?_
  refine res_of (u7_18 hgo) ?_
  simp only [eq_self, and_self, true_and, and_true, not_true_eq_false, not_false_eq_true, if_true, if_false, reduceIte, Option.bind_some, List.getElem?_cons_zero, List.getElem?_cons_succ, Nat.reduceAdd, Nat.reduceSub, Nat.reduceLT, Nat.reduceLeDiff, Nat.le_refl, Nat.zero_add, Nat.add_zero, List.length_cons, List.length_nil, Int32.reduceLT, Int32.reduceToNatClampNeg, Int32.reduceAdd, Int32.reduceSub, Int32.reduceMul, decide_true, aCall, aRecv, aObj, obj, List.take_succ_cons, List.take_zero, List.drop_succ_cons, List.drop_zero, List.reverse_cons, List.reverse_nil, List.nil_append, List.cons_append, List.append_nil, List.map_cons, List.map_nil, List.sum_cons, List.sum_nil, cat_int, cat_long, cat_ref, cat_null, Option.toList_some, Option.toList_none, val_4_0, cnt_4_0]
  refine t7_21 hgo ?_
  refine t7_23t hgo rfl ?_
  refine t7_26 hgo ?_
  refine t7_27 hgo ?_
  refine t7_31 hgo ?_
  exact is_1
set_option maxRecDepth 65536 in
set_option maxHeartbeats 4000000 in
theorem en_4_1 {w0 w1 w2 w3 c0 c1 c2 c3 : Int32} : F7 [.ref 3, .int 4, .int 1, .int w1, .int c1] [.inl (0, [.ref 1, .ref 2, .int 4]), .inr (.int, [.int w0, .int w1, .int w2, .int w3]), .inr (.int, [.int c0, .int c1, .int c2, .int c3]), .inl (1, [.ref 4, .ref 5]), .inr (.int, [.int w0, .int w1, .int w2, .int w3]), .inr (.int, [.int c0, .int c1, .int c2, .int c3])] = some (some (.int 1), [.inl (0, [.ref 1, .ref 2, .int 4]), .inr (.int, [.int w0, .int w1, .int w2, .int w3]), .inr (.int, [.int c0, .int c1, .int c2, .int c3]), .inl (1, [.ref 4, .ref 5]), .inr (.int, [.int w0, .int w1, .int w2, .int w3]), .inr (.int, [.int c0, .int c1, .int c2, .int c3])]) := by
  refine is_of f7_in fun go hgo => ?_
  refine t7_0 hgo ?_
  refine t7_1 hgo ?_
  refine t7_2t hgo (by decide) ?_
  refine t7_7 hgo rfl ?_
  refine t7_8 hgo ?_
  refine res_of (u7_9 hgo) ?_
  simp only [eq_self, and_self, true_and, and_true, not_true_eq_false, not_false_eq_true, if_true, if_false, reduceIte, Option.bind_some, List.getElem?_cons_zero, List.getElem?_cons_succ, Nat.reduceAdd, Nat.reduceSub, Nat.reduceLT, Nat.reduceLeDiff, Nat.le_refl, Nat.zero_add, Nat.add_zero, List.length_cons, List.length_nil, Int32.reduceLT, Int32.reduceToNatClampNeg, Int32.reduceAdd, Int32.reduceSub, Int32.reduceMul, decide_true, aCall, aRecv, aObj, obj, List.take_succ_cons, List.take_zero, List.drop_succ_cons, List.drop_zero, List.reverse_cons, List.reverse_nil, List.nil_append, List.cons_append, List.append_nil, List.map_cons, List.map_nil, List.sum_cons, List.sum_nil, cat_int, cat_long, cat_ref, cat_null, Option.toList_some, Option.toList_none, val_4_1, cnt_4_1]
  refine t7_12 hgo ?_
  refine t7_13t hgo rfl ?_
  refine t7_16 hgo rfl ?_
  refine t7_17 hgo ?_
  refine res_of (u7_18 hgo) ?_
  simp only [eq_self, and_self, true_and, and_true, not_true_eq_false, not_false_eq_true, if_true, if_false, reduceIte, Option.bind_some, List.getElem?_cons_zero, List.getElem?_cons_succ, Nat.reduceAdd, Nat.reduceSub, Nat.reduceLT, Nat.reduceLeDiff, Nat.le_refl, Nat.zero_add, Nat.add_zero, List.length_cons, List.length_nil, Int32.reduceLT, Int32.reduceToNatClampNeg, Int32.reduceAdd, Int32.reduceSub, Int32.reduceMul, decide_true, aCall, aRecv, aObj, obj, List.take_succ_cons, List.take_zero, List.drop_succ_cons, List.drop_zero, List.reverse_cons, List.reverse_nil, List.nil_append, List.cons_append, List.append_nil, List.map_cons, List.map_nil, List.sum_cons, List.sum_nil, cat_int, cat_long, cat_ref, cat_null, Option.toList_some, Option.toList_none, val_4_1, cnt_4_1]
  refine t7_21 hgo ?_
  refine t7_23t hgo rfl ?_
  refine t7_26 hgo ?_
  refine t7_27 hgo ?_
  refine t7_31 hgo ?_
  exact is_1
set_option maxRecDepth 65536 in
set_option maxHeartbeats 4000000 in
theorem en_4_2 {w0 w1 w2 w3 c0 c1 c2 c3 : Int32} : F7 [.ref 3, .int 4, .int 2, .int w2, .int c2] [.inl (0, [.ref 1, .ref 2, .int 4]), .inr (.int, [.int w0, .int w1, .int w2, .int w3]), .inr (.int, [.int c0, .int c1, .int c2, .int c3]), .inl (1, [.ref 4, .ref 5]), .inr (.int, [.int w0, .int w1, .int w2, .int w3]), .inr (.int, [.int c0, .int c1, .int c2, .int c3])] = some (some (.int 1), [.inl (0, [.ref 1, .ref 2, .int 4]), .inr (.int, [.int w0, .int w1, .int w2, .int w3]), .inr (.int, [.int c0, .int c1, .int c2, .int c3]), .inl (1, [.ref 4, .ref 5]), .inr (.int, [.int w0, .int w1, .int w2, .int w3]), .inr (.int, [.int c0, .int c1, .int c2, .int c3])]) := by
  refine is_of f7_in fun go hgo => ?_
  refine t7_0 hgo ?_
  refine t7_1 hgo ?_
  refine t7_2t hgo (by decide) ?_
  refine t7_7 hgo rfl ?_
  refine t7_8 hgo ?_
  refine res_of (u7_9 hgo) ?_
  simp only [eq_self, and_self, true_and, and_true, not_true_eq_false, not_false_eq_true, if_true, if_false, reduceIte, Option.bind_some, List.getElem?_cons_zero, List.getElem?_cons_succ, Nat.reduceAdd, Nat.reduceSub, Nat.reduceLT, Nat.reduceLeDiff, Nat.le_refl, Nat.zero_add, Nat.add_zero, List.length_cons, List.length_nil, Int32.reduceLT, Int32.reduceToNatClampNeg, Int32.reduceAdd, Int32.reduceSub, Int32.reduceMul, decide_true, aCall, aRecv, aObj, obj, List.take_succ_cons, List.take_zero, List.drop_succ_cons, List.drop_zero, List.reverse_cons, List.reverse_nil, List.nil_append, List.cons_append, List.append_nil, List.map_cons, List.map_nil, List.sum_cons, List.sum_nil, cat_int, cat_long, cat_ref, cat_null, Option.toList_some, Option.toList_none, val_4_2, cnt_4_2]
  refine t7_12 hgo ?_
  refine t7_13t hgo rfl ?_
  refine t7_16 hgo rfl ?_
  refine t7_17 hgo ?_
  refine res_of (u7_18 hgo) ?_
  simp only [eq_self, and_self, true_and, and_true, not_true_eq_false, not_false_eq_true, if_true, if_false, reduceIte, Option.bind_some, List.getElem?_cons_zero, List.getElem?_cons_succ, Nat.reduceAdd, Nat.reduceSub, Nat.reduceLT, Nat.reduceLeDiff, Nat.le_refl, Nat.zero_add, Nat.add_zero, List.length_cons, List.length_nil, Int32.reduceLT, Int32.reduceToNatClampNeg, Int32.reduceAdd, Int32.reduceSub, Int32.reduceMul, decide_true, aCall, aRecv, aObj, obj, List.take_succ_cons, List.take_zero, List.drop_succ_cons, List.drop_zero, List.reverse_cons, List.reverse_nil, List.nil_append, List.cons_append, List.append_nil, List.map_cons, List.map_nil, List.sum_cons, List.sum_nil, cat_int, cat_long, cat_ref, cat_null, Option.toList_some, Option.toList_none, val_4_2, cnt_4_2]
  refine t7_21 hgo ?_
  refine t7_23t hgo rfl ?_
  refine t7_26 hgo ?_
  refine t7_27 hgo ?_
  refine t7_31 hgo ?_
  exact is_1
set_option maxRecDepth 65536 in
set_option maxHeartbeats 4000000 in
theorem en_4_3 {w0 w1 w2 w3 c0 c1 c2 c3 : Int32} : F7 [.ref 3, .int 4, .int 3, .int w3, .int c3] [.inl (0, [.ref 1, .ref 2, .int 4]), .inr (.int, [.int w0, .int w1, .int w2, .int w3]), .inr (.int, [.int c0, .int c1, .int c2, .int c3]), .inl (1, [.ref 4, .ref 5]), .inr (.int, [.int w0, .int w1, .int w2, .int w3]), .inr (.int, [.int c0, .int c1, .int c2, .int c3])] = some (some (.int 1), [.inl (0, [.ref 1, .ref 2, .int 4]), .inr (.int, [.int w0, .int w1, .int w2, .int w3]), .inr (.int, [.int c0, .int c1, .int c2, .int c3]), .inl (1, [.ref 4, .ref 5]), .inr (.int, [.int w0, .int w1, .int w2, .int w3]), .inr (.int, [.int c0, .int c1, .int c2, .int c3])]) := by
  refine is_of f7_in fun go hgo => ?_
  refine t7_0 hgo ?_
  refine t7_1 hgo ?_
  refine t7_2t hgo (by decide) ?_
  refine t7_7 hgo rfl ?_
  refine t7_8 hgo ?_
  refine res_of (u7_9 hgo) ?_
  simp only [eq_self, and_self, true_and, and_true, not_true_eq_false, not_false_eq_true, if_true, if_false, reduceIte, Option.bind_some, List.getElem?_cons_zero, List.getElem?_cons_succ, Nat.reduceAdd, Nat.reduceSub, Nat.reduceLT, Nat.reduceLeDiff, Nat.le_refl, Nat.zero_add, Nat.add_zero, List.length_cons, List.length_nil, Int32.reduceLT, Int32.reduceToNatClampNeg, Int32.reduceAdd, Int32.reduceSub, Int32.reduceMul, decide_true, aCall, aRecv, aObj, obj, List.take_succ_cons, List.take_zero, List.drop_succ_cons, List.drop_zero, List.reverse_cons, List.reverse_nil, List.nil_append, List.cons_append, List.append_nil, List.map_cons, List.map_nil, List.sum_cons, List.sum_nil, cat_int, cat_long, cat_ref, cat_null, Option.toList_some, Option.toList_none, val_4_3, cnt_4_3]
  refine t7_12 hgo ?_
  refine t7_13t hgo rfl ?_
  refine t7_16 hgo rfl ?_
  refine t7_17 hgo ?_
  refine res_of (u7_18 hgo) ?_
  simp only [eq_self, and_self, true_and, and_true, not_true_eq_false, not_false_eq_true, if_true, if_false, reduceIte, Option.bind_some, List.getElem?_cons_zero, List.getElem?_cons_succ, Nat.reduceAdd, Nat.reduceSub, Nat.reduceLT, Nat.reduceLeDiff, Nat.le_refl, Nat.zero_add, Nat.add_zero, List.length_cons, List.length_nil, Int32.reduceLT, Int32.reduceToNatClampNeg, Int32.reduceAdd, Int32.reduceSub, Int32.reduceMul, decide_true, aCall, aRecv, aObj, obj, List.take_succ_cons, List.take_zero, List.drop_succ_cons, List.drop_zero, List.reverse_cons, List.reverse_nil, List.nil_append, List.cons_append, List.append_nil, List.map_cons, List.map_nil, List.sum_cons, List.sum_nil, cat_int, cat_long, cat_ref, cat_null, Option.toList_some, Option.toList_none, val_4_3, cnt_4_3]
  refine t7_21 hgo ?_
  refine t7_23t hgo rfl ?_
  refine t7_26 hgo ?_
  refine t7_27 hgo ?_
  refine t7_31 hgo ?_
  exact is_1
set_option maxRecDepth 65536 in
set_option maxHeartbeats 4000000 in
theorem en_4_4 {w0 w1 w2 w3 c0 c1 c2 c3 : Int32} {v c : Int32} : F7 [.ref 3, .int 4, .int 4, .int v, .int c] [.inl (0, [.ref 1, .ref 2, .int 4]), .inr (.int, [.int w0, .int w1, .int w2, .int w3]), .inr (.int, [.int c0, .int c1, .int c2, .int c3]), .inl (1, [.ref 4, .ref 5]), .inr (.int, [.int w0, .int w1, .int w2, .int w3]), .inr (.int, [.int c0, .int c1, .int c2, .int c3])] = some (some (.int 1), [.inl (0, [.ref 1, .ref 2, .int 4]), .inr (.int, [.int w0, .int w1, .int w2, .int w3]), .inr (.int, [.int c0, .int c1, .int c2, .int c3]), .inl (1, [.ref 4, .ref 5]), .inr (.int, [.int w0, .int w1, .int w2, .int w3]), .inr (.int, [.int c0, .int c1, .int c2, .int c3])]) := by
  refine is_of f7_in fun go hgo => ?_
  refine t7_0 hgo ?_
  refine t7_1 hgo ?_
  refine t7_2f hgo (by decide) ?_
  refine t7_5 hgo ?_
  refine t7_6 hgo ?_
  exact is_1
set_option maxRecDepth 65536 in
set_option maxHeartbeats 4000000 in
theorem en_5_0 {w0 w1 w2 w3 w4 c0 c1 c2 c3 c4 : Int32} : F7 [.ref 5, .int 5, .int 0, .int w0, .int c0] [.inl (0, [.ref 3, .ref 4, .int 5]), .inr (.int, [.int w0, .int w1, .int w2, .int w3]), .inr (.int, [.int c0, .int c1, .int c2, .int c3]), .inr (.int, [.int w0, .int w1, .int w2, .int w3, .int w4, .int 0, .int 0, .int 0]), .inr (.int, [.int c0, .int c1, .int c2, .int c3, .int c4, .int 0, .int 0, .int 0]), .inl (1, [.ref 6, .ref 7]), .inr (.int, [.int w0, .int w1, .int w2, .int w3, .int w4]), .inr (.int, [.int c0, .int c1, .int c2, .int c3, .int c4])] = some (some (.int 1), [.inl (0, [.ref 3, .ref 4, .int 5]), .inr (.int, [.int w0, .int w1, .int w2, .int w3]), .inr (.int, [.int c0, .int c1, .int c2, .int c3]), .inr (.int, [.int w0, .int w1, .int w2, .int w3, .int w4, .int 0, .int 0, .int 0]), .inr (.int, [.int c0, .int c1, .int c2, .int c3, .int c4, .int 0, .int 0, .int 0]), .inl (1, [.ref 6, .ref 7]), .inr (.int, [.int w0, .int w1, .int w2, .int w3, .int w4]), .inr (.int, [.int c0, .int c1, .int c2, .int c3, .int c4])]) := by
  refine is_of f7_in fun go hgo => ?_
  refine t7_0 hgo ?_
  refine t7_1 hgo ?_
  refine t7_2t hgo (by decide) ?_
  refine t7_7 hgo rfl ?_
  refine t7_8 hgo ?_
  refine res_of (u7_9 hgo) ?_
  simp only [eq_self, and_self, true_and, and_true, not_true_eq_false, not_false_eq_true, if_true, if_false, reduceIte, Option.bind_some, List.getElem?_cons_zero, List.getElem?_cons_succ, Nat.reduceAdd, Nat.reduceSub, Nat.reduceLT, Nat.reduceLeDiff, Nat.le_refl, Nat.zero_add, Nat.add_zero, List.length_cons, List.length_nil, Int32.reduceLT, Int32.reduceToNatClampNeg, Int32.reduceAdd, Int32.reduceSub, Int32.reduceMul, decide_true, aCall, aRecv, aObj, obj, List.take_succ_cons, List.take_zero, List.drop_succ_cons, List.drop_zero, List.reverse_cons, List.reverse_nil, List.nil_append, List.cons_append, List.append_nil, List.map_cons, List.map_nil, List.sum_cons, List.sum_nil, cat_int, cat_long, cat_ref, cat_null, Option.toList_some, Option.toList_none, val_5_0, cnt_5_0]
  refine t7_12 hgo ?_
  refine t7_13t hgo rfl ?_
  refine t7_16 hgo rfl ?_
  refine t7_17 hgo ?_
  refine res_of (u7_18 hgo) ?_
  simp only [eq_self, and_self, true_and, and_true, not_true_eq_false, not_false_eq_true, if_true, if_false, reduceIte, Option.bind_some, List.getElem?_cons_zero, List.getElem?_cons_succ, Nat.reduceAdd, Nat.reduceSub, Nat.reduceLT, Nat.reduceLeDiff, Nat.le_refl, Nat.zero_add, Nat.add_zero, List.length_cons, List.length_nil, Int32.reduceLT, Int32.reduceToNatClampNeg, Int32.reduceAdd, Int32.reduceSub, Int32.reduceMul, decide_true, aCall, aRecv, aObj, obj, List.take_succ_cons, List.take_zero, List.drop_succ_cons, List.drop_zero, List.reverse_cons, List.reverse_nil, List.nil_append, List.cons_append, List.append_nil, List.map_cons, List.map_nil, List.sum_cons, List.sum_nil, cat_int, cat_long, cat_ref, cat_null, Option.toList_some, Option.toList_none, val_5_0, cnt_5_0]
  refine t7_21 hgo ?_
  refine t7_23t hgo rfl ?_
  refine t7_26 hgo ?_
  refine t7_27 hgo ?_
  refine t7_31 hgo ?_
  exact is_1
set_option maxRecDepth 65536 in
set_option maxHeartbeats 4000000 in
theorem en_5_1 {w0 w1 w2 w3 w4 c0 c1 c2 c3 c4 : Int32} : F7 [.ref 5, .int 5, .int 1, .int w1, .int c1] [.inl (0, [.ref 3, .ref 4, .int 5]), .inr (.int, [.int w0, .int w1, .int w2, .int w3]), .inr (.int, [.int c0, .int c1, .int c2, .int c3]), .inr (.int, [.int w0, .int w1, .int w2, .int w3, .int w4, .int 0, .int 0, .int 0]), .inr (.int, [.int c0, .int c1, .int c2, .int c3, .int c4, .int 0, .int 0, .int 0]), .inl (1, [.ref 6, .ref 7]), .inr (.int, [.int w0, .int w1, .int w2, .int w3, .int w4]), .inr (.int, [.int c0, .int c1, .int c2, .int c3, .int c4])] = some (some (.int 1), [.inl (0, [.ref 3, .ref 4, .int 5]), .inr (.int, [.int w0, .int w1, .int w2, .int w3]), .inr (.int, [.int c0, .int c1, .int c2, .int c3]), .inr (.int, [.int w0, .int w1, .int w2, .int w3, .int w4, .int 0, .int 0, .int 0]), .inr (.int, [.int c0, .int c1, .int c2, .int c3, .int c4, .int 0, .int 0, .int 0]), .inl (1, [.ref 6, .ref 7]), .inr (.int, [.int w0, .int w1, .int w2, .int w3, .int w4]), .inr (.int, [.int c0, .int c1, .int c2, .int c3, .int c4])]) := by
  refine is_of f7_in fun go hgo => ?_
  refine t7_0 hgo ?_
  refine t7_1 hgo ?_
  refine t7_2t hgo (by decide) ?_
  refine t7_7 hgo rfl ?_
  refine t7_8 hgo ?_
  refine res_of (u7_9 hgo) ?_
  simp only [eq_self, and_self, true_and, and_true, not_true_eq_false, not_false_eq_true, if_true, if_false, reduceIte, Option.bind_some, List.getElem?_cons_zero, List.getElem?_cons_succ, Nat.reduceAdd, Nat.reduceSub, Nat.reduceLT, Nat.reduceLeDiff, Nat.le_refl, Nat.zero_add, Nat.add_zero, List.length_cons, List.length_nil, Int32.reduceLT, Int32.reduceToNatClampNeg, Int32.reduceAdd, Int32.reduceSub, Int32.reduceMul, decide_true, aCall, aRecv, aObj, obj, List.take_succ_cons, List.take_zero, List.drop_succ_cons, List.drop_zero, List.reverse_cons, List.reverse_nil, List.nil_append, List.cons_append, List.append_nil, List.map_cons, List.map_nil, List.sum_cons, List.sum_nil, cat_int, cat_long, cat_ref, cat_null, Option.toList_some, Option.toList_none, val_5_1, cnt_5_1]
  refine t7_12 hgo ?_
  refine t7_13t hgo rfl ?_
  refine t7_16 hgo rfl ?_
  refine t7_17 hgo ?_
  refine res_of (u7_18 hgo) ?_
  simp only [eq_self, and_self, true_and, and_true, not_true_eq_false, not_false_eq_true, if_true, if_false, reduceIte, Option.bind_some, List.getElem?_cons_zero, List.getElem?_cons_succ, Nat.reduceAdd, Nat.reduceSub, Nat.reduceLT, Nat.reduceLeDiff, Nat.le_refl, Nat.zero_add, Nat.add_zero, List.length_cons, List.length_nil, Int32.reduceLT, Int32.reduceToNatClampNeg, Int32.reduceAdd, Int32.reduceSub, Int32.reduceMul, decide_true, aCall, aRecv, aObj, obj, List.take_succ_cons, List.take_zero, List.drop_succ_cons, List.drop_zero, List.reverse_cons, List.reverse_nil, List.nil_append, List.cons_append, List.append_nil, List.map_cons, List.map_nil, List.sum_cons, List.sum_nil, cat_int, cat_long, cat_ref, cat_null, Option.toList_some, Option.toList_none, val_5_1, cnt_5_1]
  refine t7_21 hgo ?_
  refine t7_23t hgo rfl ?_
  refine t7_26 hgo ?_
  refine t7_27 hgo ?_
  refine t7_31 hgo ?_
  exact is_1
set_option maxRecDepth 65536 in
set_option maxHeartbeats 4000000 in
theorem en_5_2 {w0 w1 w2 w3 w4 c0 c1 c2 c3 c4 : Int32} : F7 [.ref 5, .int 5, .int 2, .int w2, .int c2] [.inl (0, [.ref 3, .ref 4, .int 5]), .inr (.int, [.int w0, .int w1, .int w2, .int w3]), .inr (.int, [.int c0, .int c1, .int c2, .int c3]), .inr (.int, [.int w0, .int w1, .int w2, .int w3, .int w4, .int 0, .int 0, .int 0]), .inr (.int, [.int c0, .int c1, .int c2, .int c3, .int c4, .int 0, .int 0, .int 0]), .inl (1, [.ref 6, .ref 7]), .inr (.int, [.int w0, .int w1, .int w2, .int w3, .int w4]), .inr (.int, [.int c0, .int c1, .int c2, .int c3, .int c4])] = some (some (.int 1), [.inl (0, [.ref 3, .ref 4, .int 5]), .inr (.int, [.int w0, .int w1, .int w2, .int w3]), .inr (.int, [.int c0, .int c1, .int c2, .int c3]), .inr (.int, [.int w0, .int w1, .int w2, .int w3, .int w4, .int 0, .int 0, .int 0]), .inr (.int, [.int c0, .int c1, .int c2, .int c3, .int c4, .int 0, .int 0, .int 0]), .inl (1, [.ref 6, .ref 7]), .inr (.int, [.int w0, .int w1, .int w2, .int w3, .int w4]), .inr (.int, [.int c0, .int c1, .int c2, .int c3, .int c4])]) := by
  refine is_of f7_in fun go hgo => ?_
  refine t7_0 hgo ?_
  refine t7_1 hgo ?_
  refine t7_2t hgo (by decide) ?_
  refine t7_7 hgo rfl ?_
  refine t7_8 hgo ?_
  refine res_of (u7_9 hgo) ?_
  simp only [eq_self, and_self, true_and, and_true, not_true_eq_false, not_false_eq_true, if_true, if_false, reduceIte, Option.bind_some, List.getElem?_cons_zero, List.getElem?_cons_succ, Nat.reduceAdd, Nat.reduceSub, Nat.reduceLT, Nat.reduceLeDiff, Nat.le_refl, Nat.zero_add, Nat.add_zero, List.length_cons, List.length_nil, Int32.reduceLT, Int32.reduceToNatClampNeg, Int32.reduceAdd, Int32.reduceSub, Int32.reduceMul, decide_true, aCall, aRecv, aObj, obj, List.take_succ_cons, List.take_zero, List.drop_succ_cons, List.drop_zero, List.reverse_cons, List.reverse_nil, List.nil_append, List.cons_append, List.append_nil, List.map_cons, List.map_nil, List.sum_cons, List.sum_nil, cat_int, cat_long, cat_ref, cat_null, Option.toList_some, Option.toList_none, val_5_2, cnt_5_2]
  refine t7_12 hgo ?_
  refine t7_13t hgo rfl ?_
  refine t7_16 hgo rfl ?_
  refine t7_17 hgo ?_
  refine res_of (u7_18 hgo) ?_
  simp only [eq_self, and_self, true_and, and_true, not_true_eq_false, not_false_eq_true, if_true, if_false, reduceIte, Option.bind_some, List.getElem?_cons_zero, List.getElem?_cons_succ, Nat.reduceAdd, Nat.reduceSub, Nat.reduceLT, Nat.reduceLeDiff, Nat.le_refl, Nat.zero_add, Nat.add_zero, List.length_cons, List.length_nil, Int32.reduceLT, Int32.reduceToNatClampNeg, Int32.reduceAdd, Int32.reduceSub, Int32.reduceMul, decide_true, aCall, aRecv, aObj, obj, List.take_succ_cons, List.take_zero, List.drop_succ_cons, List.drop_zero, List.reverse_cons, List.reverse_nil, List.nil_append, List.cons_append, List.append_nil, List.map_cons, List.map_nil, List.sum_cons, List.sum_nil, cat_int, cat_long, cat_ref, cat_null, Option.toList_some, Option.toList_none, val_5_2, cnt_5_2]
  refine t7_21 hgo ?_
  refine t7_23t hgo rfl ?_
  refine t7_26 hgo ?_
  refine t7_27 hgo ?_
  refine t7_31 hgo ?_
  exact is_1
set_option maxRecDepth 65536 in
set_option maxHeartbeats 4000000 in
theorem en_5_3 {w0 w1 w2 w3 w4 c0 c1 c2 c3 c4 : Int32} : F7 [.ref 5, .int 5, .int 3, .int w3, .int c3] [.inl (0, [.ref 3, .ref 4, .int 5]), .inr (.int, [.int w0, .int w1, .int w2, .int w3]), .inr (.int, [.int c0, .int c1, .int c2, .int c3]), .inr (.int, [.int w0, .int w1, .int w2, .int w3, .int w4, .int 0, .int 0, .int 0]), .inr (.int, [.int c0, .int c1, .int c2, .int c3, .int c4, .int 0, .int 0, .int 0]), .inl (1, [.ref 6, .ref 7]), .inr (.int, [.int w0, .int w1, .int w2, .int w3, .int w4]), .inr (.int, [.int c0, .int c1, .int c2, .int c3, .int c4])] = some (some (.int 1), [.inl (0, [.ref 3, .ref 4, .int 5]), .inr (.int, [.int w0, .int w1, .int w2, .int w3]), .inr (.int, [.int c0, .int c1, .int c2, .int c3]), .inr (.int, [.int w0, .int w1, .int w2, .int w3, .int w4, .int 0, .int 0, .int 0]), .inr (.int, [.int c0, .int c1, .int c2, .int c3, .int c4, .int 0, .int 0, .int 0]), .inl (1, [.ref 6, .ref 7]), .inr (.int, [.int w0, .int w1, .int w2, .int w3, .int w4]), .inr (.int, [.int c0, .int c1, .int c2, .int c3, .int c4])]) := by
  refine is_of f7_in fun go hgo => ?_
  refine t7_0 hgo ?_
  refine t7_1 hgo ?_
  refine t7_2t hgo (by decide) ?_
  refine t7_7 hgo rfl ?_
  refine t7_8 hgo ?_
  refine res_of (u7_9 hgo) ?_
  simp only [eq_self, and_self, true_and, and_true, not_true_eq_false, not_false_eq_true, if_true, if_false, reduceIte, Option.bind_some, List.getElem?_cons_zero, List.getElem?_cons_succ, Nat.reduceAdd, Nat.reduceSub, Nat.reduceLT, Nat.reduceLeDiff, Nat.le_refl, Nat.zero_add, Nat.add_zero, List.length_cons, List.length_nil, Int32.reduceLT, Int32.reduceToNatClampNeg, Int32.reduceAdd, Int32.reduceSub, Int32.reduceMul, decide_true, aCall, aRecv, aObj, obj, List.take_succ_cons, List.take_zero, List.drop_succ_cons, List.drop_zero, List.reverse_cons, List.reverse_nil, List.nil_append, List.cons_append, List.append_nil, List.map_cons, List.map_nil, List.sum_cons, List.sum_nil, cat_int, cat_long, cat_ref, cat_null, Option.toList_some, Option.toList_none, val_5_3, cnt_5_3]
  refine t7_12 hgo ?_
  refine t7_13t hgo rfl ?_
  refine t7_16 hgo rfl ?_
  refine t7_17 hgo ?_
  refine res_of (u7_18 hgo) ?_
  simp only [eq_self, and_self, true_and, and_true, not_true_eq_false, not_false_eq_true, if_true, if_false, reduceIte, Option.bind_some, List.getElem?_cons_zero, List.getElem?_cons_succ, Nat.reduceAdd, Nat.reduceSub, Nat.reduceLT, Nat.reduceLeDiff, Nat.le_refl, Nat.zero_add, Nat.add_zero, List.length_cons, List.length_nil, Int32.reduceLT, Int32.reduceToNatClampNeg, Int32.reduceAdd, Int32.reduceSub, Int32.reduceMul, decide_true, aCall, aRecv, aObj, obj, List.take_succ_cons, List.take_zero, List.drop_succ_cons, List.drop_zero, List.reverse_cons, List.reverse_nil, List.nil_append, List.cons_append, List.append_nil, List.map_cons, List.map_nil, List.sum_cons, List.sum_nil, cat_int, cat_long, cat_ref, cat_null, Option.toList_some, Option.toList_none, val_5_3, cnt_5_3]
  refine t7_21 hgo ?_
  refine t7_23t hgo rfl ?_
  refine t7_26 hgo ?_
  refine t7_27 hgo ?_
  refine t7_31 hgo ?_
  exact is_1
set_option maxRecDepth 65536 in
set_option maxHeartbeats 4000000 in
theorem en_5_4 {w0 w1 w2 w3 w4 c0 c1 c2 c3 c4 : Int32} : F7 [.ref 5, .int 5, .int 4, .int w4, .int c4] [.inl (0, [.ref 3, .ref 4, .int 5]), .inr (.int, [.int w0, .int w1, .int w2, .int w3]), .inr (.int, [.int c0, .int c1, .int c2, .int c3]), .inr (.int, [.int w0, .int w1, .int w2, .int w3, .int w4, .int 0, .int 0, .int 0]), .inr (.int, [.int c0, .int c1, .int c2, .int c3, .int c4, .int 0, .int 0, .int 0]), .inl (1, [.ref 6, .ref 7]), .inr (.int, [.int w0, .int w1, .int w2, .int w3, .int w4]), .inr (.int, [.int c0, .int c1, .int c2, .int c3, .int c4])] = some (some (.int 1), [.inl (0, [.ref 3, .ref 4, .int 5]), .inr (.int, [.int w0, .int w1, .int w2, .int w3]), .inr (.int, [.int c0, .int c1, .int c2, .int c3]), .inr (.int, [.int w0, .int w1, .int w2, .int w3, .int w4, .int 0, .int 0, .int 0]), .inr (.int, [.int c0, .int c1, .int c2, .int c3, .int c4, .int 0, .int 0, .int 0]), .inl (1, [.ref 6, .ref 7]), .inr (.int, [.int w0, .int w1, .int w2, .int w3, .int w4]), .inr (.int, [.int c0, .int c1, .int c2, .int c3, .int c4])]) := by
  refine is_of f7_in fun go hgo => ?_
  refine t7_0 hgo ?_
  refine t7_1 hgo ?_
  refine t7_2t hgo (by decide) ?_
  refine t7_7 hgo rfl ?_
  refine t7_8 hgo ?_
  refine res_of (u7_9 hgo) ?_
  simp only [eq_self, and_self, true_and, and_true, not_true_eq_false, not_false_eq_true, if_true, if_false, reduceIte, Option.bind_some, List.getElem?_cons_zero, List.getElem?_cons_succ, Nat.reduceAdd, Nat.reduceSub, Nat.reduceLT, Nat.reduceLeDiff, Nat.le_refl, Nat.zero_add, Nat.add_zero, List.length_cons, List.length_nil, Int32.reduceLT, Int32.reduceToNatClampNeg, Int32.reduceAdd, Int32.reduceSub, Int32.reduceMul, decide_true, aCall, aRecv, aObj, obj, List.take_succ_cons, List.take_zero, List.drop_succ_cons, List.drop_zero, List.reverse_cons, List.reverse_nil, List.nil_append, List.cons_append, List.append_nil, List.map_cons, List.map_nil, List.sum_cons, List.sum_nil, cat_int, cat_long, cat_ref, cat_null, Option.toList_some, Option.toList_none, val_5_4, cnt_5_4]
  refine t7_12 hgo ?_
  refine t7_13t hgo rfl ?_
  refine t7_16 hgo rfl ?_
  refine t7_17 hgo ?_
  refine res_of (u7_18 hgo) ?_
  simp only [eq_self, and_self, true_and, and_true, not_true_eq_false, not_false_eq_true, if_true, if_false, reduceIte, Option.bind_some, List.getElem?_cons_zero, List.getElem?_cons_succ, Nat.reduceAdd, Nat.reduceSub, Nat.reduceLT, Nat.reduceLeDiff, Nat.le_refl, Nat.zero_add, Nat.add_zero, List.length_cons, List.length_nil, Int32.reduceLT, Int32.reduceToNatClampNeg, Int32.reduceAdd, Int32.reduceSub, Int32.reduceMul, decide_true, aCall, aRecv, aObj, obj, List.take_succ_cons, List.take_zero, List.drop_succ_cons, List.drop_zero, List.reverse_cons, List.reverse_nil, List.nil_append, List.cons_append, List.append_nil, List.map_cons, List.map_nil, List.sum_cons, List.sum_nil, cat_int, cat_long, cat_ref, cat_null, Option.toList_some, Option.toList_none, val_5_4, cnt_5_4]
  refine t7_21 hgo ?_
  refine t7_23t hgo rfl ?_
  refine t7_26 hgo ?_
  refine t7_27 hgo ?_
  refine t7_31 hgo ?_
  exact is_1
set_option maxRecDepth 65536 in
set_option maxHeartbeats 4000000 in
theorem tl_0 {go : Nat → St → Option ORes} (hgo : go = orun code ret E0 0) {l0 l1 l2 l3 l4 l6 l7 : Slot} {w0 w1 w2 w3 w4 c0 c1 c2 c3 c4 : Int32} {m : Nat} : Rsq (go (m + 120) (118, [l0, l1, l2, l3, l4, .val (.int 0), l6, l7, .val (.int w0), .val (.int w1), .val (.int w2), .val (.int w3), .val (.int w4), .val (.int c0), .val (.int c1), .val (.int c2), .val (.int c3), .val (.int c4), .unset, .unset], [], [], 0, 0)) OneI := by
  refine res_of (u0_118 hgo) ?_
  simp only [eq_self, and_self, true_and, and_true, not_true_eq_false, not_false_eq_true, if_true, if_false, reduceIte, Option.bind_some, List.getElem?_cons_zero, List.getElem?_cons_succ, Nat.reduceAdd, Nat.reduceSub, Nat.reduceLT, Nat.reduceLeDiff, Nat.le_refl, Nat.zero_add, Nat.add_zero, List.length_cons, List.length_nil, Int32.reduceLT, Int32.reduceToNatClampNeg, Int32.reduceAdd, Int32.reduceSub, Int32.reduceMul, decide_true, aNew, List.nil_append, List.cons_append, F1_eq, F1_eq]
  refine t0_121 hgo rfl ?_
  refine res_of (u0_122 hgo) ?_
  simp only [eq_self, and_self, true_and, and_true, not_true_eq_false, not_false_eq_true, if_true, if_false, reduceIte, Option.bind_some, List.getElem?_cons_zero, List.getElem?_cons_succ, Nat.reduceAdd, Nat.reduceSub, Nat.reduceLT, Nat.reduceLeDiff, Nat.le_refl, Nat.zero_add, Nat.add_zero, List.length_cons, List.length_nil, Int32.reduceLT, Int32.reduceToNatClampNeg, Int32.reduceAdd, Int32.reduceSub, Int32.reduceMul, decide_true, aCall, aRecv, aObj, obj, List.take_succ_cons, List.take_zero, List.drop_succ_cons, List.drop_zero, List.reverse_cons, List.reverse_nil, List.nil_append, List.cons_append, List.append_nil, List.map_cons, List.map_nil, List.sum_cons, List.sum_nil, cat_int, cat_long, cat_ref, cat_null, Option.toList_some, Option.toList_none, F1_eq, F1_eq]
  refine t0_125 hgo rfl rfl ?_
  refine t0_127 hgo ?_
  refine t0_129f hgo (by decide) ?_
  refine t0_141 hgo ?_
  refine t0_143 hgo ?_
  refine t0_144f hgo (by decide) ?_
  refine t0_156 hgo ?_
  refine t0_158 hgo ?_
  refine t0_159f hgo (by decide) ?_
  refine t0_171 hgo ?_
  refine t0_173 hgo ?_
  refine t0_174f hgo (by decide) ?_
  refine t0_186 hgo ?_
  refine t0_188 hgo ?_
  refine t0_189f hgo (by decide) ?_
  refine t0_201 hgo rfl ?_
  refine res_of (u0_203 hgo) ?_
  simp only [eq_self, and_self, true_and, and_true, not_true_eq_false, not_false_eq_true, if_true, if_false, reduceIte, Option.bind_some, List.getElem?_cons_zero, List.getElem?_cons_succ, Nat.reduceAdd, Nat.reduceSub, Nat.reduceLT, Nat.reduceLeDiff, Nat.le_refl, Nat.zero_add, Nat.add_zero, List.length_cons, List.length_nil, Int32.reduceLT, Int32.reduceToNatClampNeg, Int32.reduceAdd, Int32.reduceSub, Int32.reduceMul, decide_true, aCall, aRecv, aObj, obj, List.take_succ_cons, List.take_zero, List.drop_succ_cons, List.drop_zero, List.reverse_cons, List.reverse_nil, List.nil_append, List.cons_append, List.append_nil, List.map_cons, List.map_nil, List.sum_cons, List.sum_nil, cat_int, cat_long, cat_ref, cat_null, Option.toList_some, Option.toList_none, build_0, size_0, en_0_0, en_0_1, en_0_2, en_0_3, en_0_4]
  refine t0_206 hgo rfl rfl ?_
  refine t0_208 hgo rfl ?_
  refine res_of (u0_210 hgo) ?_
  simp only [eq_self, and_self, true_and, and_true, not_true_eq_false, not_false_eq_true, if_true, if_false, reduceIte, Option.bind_some, List.getElem?_cons_zero, List.getElem?_cons_succ, Nat.reduceAdd, Nat.reduceSub, Nat.reduceLT, Nat.reduceLeDiff, Nat.le_refl, Nat.zero_add, Nat.add_zero, List.length_cons, List.length_nil, Int32.reduceLT, Int32.reduceToNatClampNeg, Int32.reduceAdd, Int32.reduceSub, Int32.reduceMul, decide_true, aCall, aRecv, aObj, obj, List.take_succ_cons, List.take_zero, List.drop_succ_cons, List.drop_zero, List.reverse_cons, List.reverse_nil, List.nil_append, List.cons_append, List.append_nil, List.map_cons, List.map_nil, List.sum_cons, List.sum_nil, cat_int, cat_long, cat_ref, cat_null, Option.toList_some, Option.toList_none, build_0, size_0, en_0_0, en_0_1, en_0_2, en_0_3, en_0_4]
  refine t0_213 hgo ?_
  refine t0_215t hgo rfl ?_
  refine t0_220 hgo rfl ?_
  refine t0_222 hgo ?_
  refine t0_224 hgo ?_
  refine t0_225 hgo ?_
  refine t0_227 hgo ?_
  refine res_of (u0_229 hgo) ?_
  simp only [eq_self, and_self, true_and, and_true, not_true_eq_false, not_false_eq_true, if_true, if_false, reduceIte, Option.bind_some, List.getElem?_cons_zero, List.getElem?_cons_succ, Nat.reduceAdd, Nat.reduceSub, Nat.reduceLT, Nat.reduceLeDiff, Nat.le_refl, Nat.zero_add, Nat.add_zero, List.length_cons, List.length_nil, Int32.reduceLT, Int32.reduceToNatClampNeg, Int32.reduceAdd, Int32.reduceSub, Int32.reduceMul, decide_true, aCall, aRecv, aObj, obj, List.take_succ_cons, List.take_zero, List.drop_succ_cons, List.drop_zero, List.reverse_cons, List.reverse_nil, List.nil_append, List.cons_append, List.append_nil, List.map_cons, List.map_nil, List.sum_cons, List.sum_nil, cat_int, cat_long, cat_ref, cat_null, Option.toList_some, Option.toList_none, build_0, size_0, en_0_0, en_0_1, en_0_2, en_0_3, en_0_4]
  refine t0_232f hgo (by decide) ?_
  refine t0_235 hgo rfl ?_
  refine t0_237 hgo ?_
  refine t0_239 hgo ?_
  refine t0_240 hgo ?_
  refine t0_242 hgo ?_
  refine res_of (u0_244 hgo) ?_
  simp only [eq_self, and_self, true_and, and_true, not_true_eq_false, not_false_eq_true, if_true, if_false, reduceIte, Option.bind_some, List.getElem?_cons_zero, List.getElem?_cons_succ, Nat.reduceAdd, Nat.reduceSub, Nat.reduceLT, Nat.reduceLeDiff, Nat.le_refl, Nat.zero_add, Nat.add_zero, List.length_cons, List.length_nil, Int32.reduceLT, Int32.reduceToNatClampNeg, Int32.reduceAdd, Int32.reduceSub, Int32.reduceMul, decide_true, aCall, aRecv, aObj, obj, List.take_succ_cons, List.take_zero, List.drop_succ_cons, List.drop_zero, List.reverse_cons, List.reverse_nil, List.nil_append, List.cons_append, List.append_nil, List.map_cons, List.map_nil, List.sum_cons, List.sum_nil, cat_int, cat_long, cat_ref, cat_null, Option.toList_some, Option.toList_none, build_0, size_0, en_0_0, en_0_1, en_0_2, en_0_3, en_0_4]
  refine t0_247f hgo (by decide) ?_
  refine t0_250 hgo rfl ?_
  refine t0_252 hgo ?_
  refine t0_254 hgo ?_
  refine t0_255 hgo ?_
  refine t0_257 hgo ?_
  refine res_of (u0_259 hgo) ?_
  simp only [eq_self, and_self, true_and, and_true, not_true_eq_false, not_false_eq_true, if_true, if_false, reduceIte, Option.bind_some, List.getElem?_cons_zero, List.getElem?_cons_succ, Nat.reduceAdd, Nat.reduceSub, Nat.reduceLT, Nat.reduceLeDiff, Nat.le_refl, Nat.zero_add, Nat.add_zero, List.length_cons, List.length_nil, Int32.reduceLT, Int32.reduceToNatClampNeg, Int32.reduceAdd, Int32.reduceSub, Int32.reduceMul, decide_true, aCall, aRecv, aObj, obj, List.take_succ_cons, List.take_zero, List.drop_succ_cons, List.drop_zero, List.reverse_cons, List.reverse_nil, List.nil_append, List.cons_append, List.append_nil, List.map_cons, List.map_nil, List.sum_cons, List.sum_nil, cat_int, cat_long, cat_ref, cat_null, Option.toList_some, Option.toList_none, build_0, size_0, en_0_0, en_0_1, en_0_2, en_0_3, en_0_4]
  refine t0_262f hgo (by decide) ?_
  refine t0_265 hgo rfl ?_
  refine t0_267 hgo ?_
  refine t0_269 hgo ?_
  refine t0_270 hgo ?_
  refine t0_272 hgo ?_
  refine res_of (u0_274 hgo) ?_
  simp only [eq_self, and_self, true_and, and_true, not_true_eq_false, not_false_eq_true, if_true, if_false, reduceIte, Option.bind_some, List.getElem?_cons_zero, List.getElem?_cons_succ, Nat.reduceAdd, Nat.reduceSub, Nat.reduceLT, Nat.reduceLeDiff, Nat.le_refl, Nat.zero_add, Nat.add_zero, List.length_cons, List.length_nil, Int32.reduceLT, Int32.reduceToNatClampNeg, Int32.reduceAdd, Int32.reduceSub, Int32.reduceMul, decide_true, aCall, aRecv, aObj, obj, List.take_succ_cons, List.take_zero, List.drop_succ_cons, List.drop_zero, List.reverse_cons, List.reverse_nil, List.nil_append, List.cons_append, List.append_nil, List.map_cons, List.map_nil, List.sum_cons, List.sum_nil, cat_int, cat_long, cat_ref, cat_null, Option.toList_some, Option.toList_none, build_0, size_0, en_0_0, en_0_1, en_0_2, en_0_3, en_0_4]
  refine t0_277f hgo (by decide) ?_
  refine t0_280 hgo rfl ?_
  refine t0_282 hgo ?_
  refine t0_284 hgo ?_
  refine t0_285 hgo ?_
  refine t0_287 hgo ?_
  refine res_of (u0_289 hgo) ?_
  simp only [eq_self, and_self, true_and, and_true, not_true_eq_false, not_false_eq_true, if_true, if_false, reduceIte, Option.bind_some, List.getElem?_cons_zero, List.getElem?_cons_succ, Nat.reduceAdd, Nat.reduceSub, Nat.reduceLT, Nat.reduceLeDiff, Nat.le_refl, Nat.zero_add, Nat.add_zero, List.length_cons, List.length_nil, Int32.reduceLT, Int32.reduceToNatClampNeg, Int32.reduceAdd, Int32.reduceSub, Int32.reduceMul, decide_true, aCall, aRecv, aObj, obj, List.take_succ_cons, List.take_zero, List.drop_succ_cons, List.drop_zero, List.reverse_cons, List.reverse_nil, List.nil_append, List.cons_append, List.append_nil, List.map_cons, List.map_nil, List.sum_cons, List.sum_nil, cat_int, cat_long, cat_ref, cat_null, Option.toList_some, Option.toList_none, build_0, size_0, en_0_0, en_0_1, en_0_2, en_0_3, en_0_4]
  refine t0_292f hgo (by decide) ?_
  refine t0_295 hgo ?_
  refine t0_296 hgo ?_
  refine t0_300 hgo ?_
  exact one_b
set_option maxRecDepth 65536 in
set_option maxHeartbeats 4000000 in
theorem tl_1 {go : Nat → St → Option ORes} (hgo : go = orun code ret E0 0) {l0 l1 l2 l3 l4 l6 l7 : Slot} {w0 w1 w2 w3 w4 c0 c1 c2 c3 c4 : Int32} {m : Nat} : Rsq (go (m + 120) (118, [l0, l1, l2, l3, l4, .val (.int 1), l6, l7, .val (.int w0), .val (.int w1), .val (.int w2), .val (.int w3), .val (.int w4), .val (.int c0), .val (.int c1), .val (.int c2), .val (.int c3), .val (.int c4), .unset, .unset], [], [], 0, 0)) OneI := by
  refine res_of (u0_118 hgo) ?_
  simp only [eq_self, and_self, true_and, and_true, not_true_eq_false, not_false_eq_true, if_true, if_false, reduceIte, Option.bind_some, List.getElem?_cons_zero, List.getElem?_cons_succ, Nat.reduceAdd, Nat.reduceSub, Nat.reduceLT, Nat.reduceLeDiff, Nat.le_refl, Nat.zero_add, Nat.add_zero, List.length_cons, List.length_nil, Int32.reduceLT, Int32.reduceToNatClampNeg, Int32.reduceAdd, Int32.reduceSub, Int32.reduceMul, decide_true, aNew, List.nil_append, List.cons_append, F1_eq, add_0]
  refine t0_121 hgo rfl ?_
  refine res_of (u0_122 hgo) ?_
  simp only [eq_self, and_self, true_and, and_true, not_true_eq_false, not_false_eq_true, if_true, if_false, reduceIte, Option.bind_some, List.getElem?_cons_zero, List.getElem?_cons_succ, Nat.reduceAdd, Nat.reduceSub, Nat.reduceLT, Nat.reduceLeDiff, Nat.le_refl, Nat.zero_add, Nat.add_zero, List.length_cons, List.length_nil, Int32.reduceLT, Int32.reduceToNatClampNeg, Int32.reduceAdd, Int32.reduceSub, Int32.reduceMul, decide_true, aCall, aRecv, aObj, obj, List.take_succ_cons, List.take_zero, List.drop_succ_cons, List.drop_zero, List.reverse_cons, List.reverse_nil, List.nil_append, List.cons_append, List.append_nil, List.map_cons, List.map_nil, List.sum_cons, List.sum_nil, cat_int, cat_long, cat_ref, cat_null, Option.toList_some, Option.toList_none, F1_eq, add_0]
  refine t0_125 hgo rfl rfl ?_
  refine t0_127 hgo ?_
  refine t0_129t hgo (by decide) ?_
  refine t0_132 hgo rfl ?_
  refine t0_134 hgo ?_
  refine t0_136 hgo ?_
  refine res_of (u0_138 hgo) ?_
  simp only [eq_self, and_self, true_and, and_true, not_true_eq_false, not_false_eq_true, if_true, if_false, reduceIte, Option.bind_some, List.getElem?_cons_zero, List.getElem?_cons_succ, Nat.reduceAdd, Nat.reduceSub, Nat.reduceLT, Nat.reduceLeDiff, Nat.le_refl, Nat.zero_add, Nat.add_zero, List.length_cons, List.length_nil, Int32.reduceLT, Int32.reduceToNatClampNeg, Int32.reduceAdd, Int32.reduceSub, Int32.reduceMul, decide_true, aCall, aRecv, aObj, obj, List.take_succ_cons, List.take_zero, List.drop_succ_cons, List.drop_zero, List.reverse_cons, List.reverse_nil, List.nil_append, List.cons_append, List.append_nil, List.map_cons, List.map_nil, List.sum_cons, List.sum_nil, cat_int, cat_long, cat_ref, cat_null, Option.toList_some, Option.toList_none, F1_eq, add_0]
  refine t0_141 hgo ?_
  refine t0_143 hgo ?_
  refine t0_144f hgo (by decide) ?_
  refine t0_156 hgo ?_
  refine t0_158 hgo ?_
  refine t0_159f hgo (by decide) ?_
  refine t0_171 hgo ?_
  refine t0_173 hgo ?_
  refine t0_174f hgo (by decide) ?_
  refine t0_186 hgo ?_
  refine t0_188 hgo ?_
  refine t0_189f hgo (by decide) ?_
  refine t0_201 hgo rfl ?_
  refine res_of (u0_203 hgo) ?_
  simp only [eq_self, and_self, true_and, and_true, not_true_eq_false, not_false_eq_true, if_true, if_false, reduceIte, Option.bind_some, List.getElem?_cons_zero, List.getElem?_cons_succ, Nat.reduceAdd, Nat.reduceSub, Nat.reduceLT, Nat.reduceLeDiff, Nat.le_refl, Nat.zero_add, Nat.add_zero, List.length_cons, List.length_nil, Int32.reduceLT, Int32.reduceToNatClampNeg, Int32.reduceAdd, Int32.reduceSub, Int32.reduceMul, decide_true, aCall, aRecv, aObj, obj, List.take_succ_cons, List.take_zero, List.drop_succ_cons, List.drop_zero, List.reverse_cons, List.reverse_nil, List.nil_append, List.cons_append, List.append_nil, List.map_cons, List.map_nil, List.sum_cons, List.sum_nil, cat_int, cat_long, cat_ref, cat_null, Option.toList_some, Option.toList_none, build_1, size_1, en_1_0, en_1_1, en_1_2, en_1_3, en_1_4]
  refine t0_206 hgo rfl rfl ?_
  refine t0_208 hgo rfl ?_
  refine res_of (u0_210 hgo) ?_
  simp only [eq_self, and_self, true_and, and_true, not_true_eq_false, not_false_eq_true, if_true, if_false, reduceIte, Option.bind_some, List.getElem?_cons_zero, List.getElem?_cons_succ, Nat.reduceAdd, Nat.reduceSub, Nat.reduceLT, Nat.reduceLeDiff, Nat.le_refl, Nat.zero_add, Nat.add_zero, List.length_cons, List.length_nil, Int32.reduceLT, Int32.reduceToNatClampNeg, Int32.reduceAdd, Int32.reduceSub, Int32.reduceMul, decide_true, aCall, aRecv, aObj, obj, List.take_succ_cons, List.take_zero, List.drop_succ_cons, List.drop_zero, List.reverse_cons, List.reverse_nil, List.nil_append, List.cons_append, List.append_nil, List.map_cons, List.map_nil, List.sum_cons, List.sum_nil, cat_int, cat_long, cat_ref, cat_null, Option.toList_some, Option.toList_none, build_1, size_1, en_1_0, en_1_1, en_1_2, en_1_3, en_1_4]
  refine t0_213 hgo ?_
  refine t0_215t hgo rfl ?_
  refine t0_220 hgo rfl ?_
  refine t0_222 hgo ?_
  refine t0_224 hgo ?_
  refine t0_225 hgo ?_
  refine t0_227 hgo ?_
  refine res_of (u0_229 hgo) ?_
  simp only [eq_self, and_self, true_and, and_true, not_true_eq_false, not_false_eq_true, if_true, if_false, reduceIte, Option.bind_some, List.getElem?_cons_zero, List.getElem?_cons_succ, Nat.reduceAdd, Nat.reduceSub, Nat.reduceLT, Nat.reduceLeDiff, Nat.le_refl, Nat.zero_add, Nat.add_zero, List.length_cons, List.length_nil, Int32.reduceLT, Int32.reduceToNatClampNeg, Int32.reduceAdd, Int32.reduceSub, Int32.reduceMul, decide_true, aCall, aRecv, aObj, obj, List.take_succ_cons, List.take_zero, List.drop_succ_cons, List.drop_zero, List.reverse_cons, List.reverse_nil, List.nil_append, List.cons_append, List.append_nil, List.map_cons, List.map_nil, List.sum_cons, List.sum_nil, cat_int, cat_long, cat_ref, cat_null, Option.toList_some, Option.toList_none, build_1, size_1, en_1_0, en_1_1, en_1_2, en_1_3, en_1_4]
  refine t0_232f hgo (by decide) ?_
  refine t0_235 hgo rfl ?_
  refine t0_237 hgo ?_
  refine t0_239 hgo ?_
  refine t0_240 hgo ?_
  refine t0_242 hgo ?_
  refine res_of (u0_244 hgo) ?_
  simp only [eq_self, and_self, true_and, and_true, not_true_eq_false, not_false_eq_true, if_true, if_false, reduceIte, Option.bind_some, List.getElem?_cons_zero, List.getElem?_cons_succ, Nat.reduceAdd, Nat.reduceSub, Nat.reduceLT, Nat.reduceLeDiff, Nat.le_refl, Nat.zero_add, Nat.add_zero, List.length_cons, List.length_nil, Int32.reduceLT, Int32.reduceToNatClampNeg, Int32.reduceAdd, Int32.reduceSub, Int32.reduceMul, decide_true, aCall, aRecv, aObj, obj, List.take_succ_cons, List.take_zero, List.drop_succ_cons, List.drop_zero, List.reverse_cons, List.reverse_nil, List.nil_append, List.cons_append, List.append_nil, List.map_cons, List.map_nil, List.sum_cons, List.sum_nil, cat_int, cat_long, cat_ref, cat_null, Option.toList_some, Option.toList_none, build_1, size_1, en_1_0, en_1_1, en_1_2, en_1_3, en_1_4]
  refine t0_247f hgo (by decide) ?_
  refine t0_250 hgo rfl ?_
  refine t0_252 hgo ?_
  refine t0_254 hgo ?_
  refine t0_255 hgo ?_
  refine t0_257 hgo ?_
  refine res_of (u0_259 hgo) ?_
  simp only [eq_self, and_self, true_and, and_true, not_true_eq_false, not_false_eq_true, if_true, if_false, reduceIte, Option.bind_some, List.getElem?_cons_zero, List.getElem?_cons_succ, Nat.reduceAdd, Nat.reduceSub, Nat.reduceLT, Nat.reduceLeDiff, Nat.le_refl, Nat.zero_add, Nat.add_zero, List.length_cons, List.length_nil, Int32.reduceLT, Int32.reduceToNatClampNeg, Int32.reduceAdd, Int32.reduceSub, Int32.reduceMul, decide_true, aCall, aRecv, aObj, obj, List.take_succ_cons, List.take_zero, List.drop_succ_cons, List.drop_zero, List.reverse_cons, List.reverse_nil, List.nil_append, List.cons_append, List.append_nil, List.map_cons, List.map_nil, List.sum_cons, List.sum_nil, cat_int, cat_long, cat_ref, cat_null, Option.toList_some, Option.toList_none, build_1, size_1, en_1_0, en_1_1, en_1_2, en_1_3, en_1_4]
  refine t0_262f hgo (by decide) ?_
  refine t0_265 hgo rfl ?_
  refine t0_267 hgo ?_
  refine t0_269 hgo ?_
  refine t0_270 hgo ?_
  refine t0_272 hgo ?_
  refine res_of (u0_274 hgo) ?_
  simp only [eq_self, and_self, true_and, and_true, not_true_eq_false, not_false_eq_true, if_true, if_false, reduceIte, Option.bind_some, List.getElem?_cons_zero, List.getElem?_cons_succ, Nat.reduceAdd, Nat.reduceSub, Nat.reduceLT, Nat.reduceLeDiff, Nat.le_refl, Nat.zero_add, Nat.add_zero, List.length_cons, List.length_nil, Int32.reduceLT, Int32.reduceToNatClampNeg, Int32.reduceAdd, Int32.reduceSub, Int32.reduceMul, decide_true, aCall, aRecv, aObj, obj, List.take_succ_cons, List.take_zero, List.drop_succ_cons, List.drop_zero, List.reverse_cons, List.reverse_nil, List.nil_append, List.cons_append, List.append_nil, List.map_cons, List.map_nil, List.sum_cons, List.sum_nil, cat_int, cat_long, cat_ref, cat_null, Option.toList_some, Option.toList_none, build_1, size_1, en_1_0, en_1_1, en_1_2, en_1_3, en_1_4]
  refine t0_277f hgo (by decide) ?_
  refine t0_280 hgo rfl ?_
  refine t0_282 hgo ?_
  refine t0_284 hgo ?_
  refine t0_285 hgo ?_
  refine t0_287 hgo ?_
  refine res_of (u0_289 hgo) ?_
  simp only [eq_self, and_self, true_and, and_true, not_true_eq_false, not_false_eq_true, if_true, if_false, reduceIte, Option.bind_some, List.getElem?_cons_zero, List.getElem?_cons_succ, Nat.reduceAdd, Nat.reduceSub, Nat.reduceLT, Nat.reduceLeDiff, Nat.le_refl, Nat.zero_add, Nat.add_zero, List.length_cons, List.length_nil, Int32.reduceLT, Int32.reduceToNatClampNeg, Int32.reduceAdd, Int32.reduceSub, Int32.reduceMul, decide_true, aCall, aRecv, aObj, obj, List.take_succ_cons, List.take_zero, List.drop_succ_cons, List.drop_zero, List.reverse_cons, List.reverse_nil, List.nil_append, List.cons_append, List.append_nil, List.map_cons, List.map_nil, List.sum_cons, List.sum_nil, cat_int, cat_long, cat_ref, cat_null, Option.toList_some, Option.toList_none, build_1, size_1, en_1_0, en_1_1, en_1_2, en_1_3, en_1_4]
  refine t0_292f hgo (by decide) ?_
  refine t0_295 hgo ?_
  refine t0_296 hgo ?_
  refine t0_300 hgo ?_
  exact one_b
set_option maxRecDepth 65536 in
set_option maxHeartbeats 4000000 in
theorem tl_2 {go : Nat → St → Option ORes} (hgo : go = orun code ret E0 0) {l0 l1 l2 l3 l4 l6 l7 : Slot} {w0 w1 w2 w3 w4 c0 c1 c2 c3 c4 : Int32} {m : Nat} : Rsq (go (m + 120) (118, [l0, l1, l2, l3, l4, .val (.int 2), l6, l7, .val (.int w0), .val (.int w1), .val (.int w2), .val (.int w3), .val (.int w4), .val (.int c0), .val (.int c1), .val (.int c2), .val (.int c3), .val (.int c4), .unset, .unset], [], [], 0, 0)) OneI := by
  refine res_of (u0_118 hgo) ?_
  simp only [eq_self, and_self, true_and, and_true, not_true_eq_false, not_false_eq_true, if_true, if_false, reduceIte, Option.bind_some, List.getElem?_cons_zero, List.getElem?_cons_succ, Nat.reduceAdd, Nat.reduceSub, Nat.reduceLT, Nat.reduceLeDiff, Nat.le_refl, Nat.zero_add, Nat.add_zero, List.length_cons, List.length_nil, Int32.reduceLT, Int32.reduceToNatClampNeg, Int32.reduceAdd, Int32.reduceSub, Int32.reduceMul, decide_true, aNew, List.nil_append, List.cons_append, F1_eq, add_0, add_1]
  refine t0_121 hgo rfl ?_
  refine res_of (u0_122 hgo) ?_
  simp only [eq_self, and_self, true_and, and_true, not_true_eq_false, not_false_eq_true, if_true, if_false, reduceIte, Option.bind_some, List.getElem?_cons_zero, List.getElem?_cons_succ, Nat.reduceAdd, Nat.reduceSub, Nat.reduceLT, Nat.reduceLeDiff, Nat.le_refl, Nat.zero_add, Nat.add_zero, List.length_cons, List.length_nil, Int32.reduceLT, Int32.reduceToNatClampNeg, Int32.reduceAdd, Int32.reduceSub, Int32.reduceMul, decide_true, aCall, aRecv, aObj, obj, List.take_succ_cons, List.take_zero, List.drop_succ_cons, List.drop_zero, List.reverse_cons, List.reverse_nil, List.nil_append, List.cons_append, List.append_nil, List.map_cons, List.map_nil, List.sum_cons, List.sum_nil, cat_int, cat_long, cat_ref, cat_null, Option.toList_some, Option.toList_none, F1_eq, add_0, add_1]
  refine t0_125 hgo rfl rfl ?_
  refine t0_127 hgo ?_
  refine t0_129t hgo (by decide) ?_
  refine t0_132 hgo rfl ?_
  refine t0_134 hgo ?_
  refine t0_136 hgo ?_
  refine res_of (u0_138 hgo) ?_
  simp only [eq_self, and_self, true_and, and_true, not_true_eq_false, not_false_eq_true, if_true, if_false, reduceIte, Option.bind_some, List.getElem?_cons_zero, List.getElem?_cons_succ, Nat.reduceAdd, Nat.reduceSub, Nat.reduceLT, Nat.reduceLeDiff, Nat.le_refl, Nat.zero_add, Nat.add_zero, List.length_cons, List.length_nil, Int32.reduceLT, Int32.reduceToNatClampNeg, Int32.reduceAdd, Int32.reduceSub, Int32.reduceMul, decide_true, aCall, aRecv, aObj, obj, List.take_succ_cons, List.take_zero, List.drop_succ_cons, List.drop_zero, List.reverse_cons, List.reverse_nil, List.nil_append, List.cons_append, List.append_nil, List.map_cons, List.map_nil, List.sum_cons, List.sum_nil, cat_int, cat_long, cat_ref, cat_null, Option.toList_some, Option.toList_none, F1_eq, add_0, add_1]
  refine t0_141 hgo ?_
  refine t0_143 hgo ?_
  refine t0_144t hgo (by decide) ?_
  refine t0_147 hgo rfl ?_
  refine t0_149 hgo ?_
  refine t0_151 hgo ?_
  refine res_of (u0_153 hgo) ?_
  simp only [eq_self, and_self, true_and, and_true, not_true_eq_false, not_false_eq_true, if_true, if_false, reduceIte, Option.bind_some, List.getElem?_cons_zero, List.getElem?_cons_succ, Nat.reduceAdd, Nat.reduceSub, Nat.reduceLT, Nat.reduceLeDiff, Nat.le_refl, Nat.zero_add, Nat.add_zero, List.length_cons, List.length_nil, Int32.reduceLT, Int32.reduceToNatClampNeg, Int32.reduceAdd, Int32.reduceSub, Int32.reduceMul, decide_true, aCall, aRecv, aObj, obj, List.take_succ_cons, List.take_zero, List.drop_succ_cons, List.drop_zero, List.reverse_cons, List.reverse_nil, List.nil_append, List.cons_append, List.append_nil, List.map_cons, List.map_nil, List.sum_cons, List.sum_nil, cat_int, cat_long, cat_ref, cat_null, Option.toList_some, Option.toList_none, F1_eq, add_0, add_1]
  refine t0_156 hgo ?_
  refine t0_158 hgo ?_
  refine t0_159f hgo (by decide) ?_
  refine t0_171 hgo ?_
  refine t0_173 hgo ?_
  refine t0_174f hgo (by decide) ?_
  refine t0_186 hgo ?_
  refine t0_188 hgo ?_
  refine t0_189f hgo (by decide) ?_
  refine t0_201 hgo rfl ?_
  refine res_of (u0_203 hgo) ?_
  simp only [eq_self, and_self, true_and, and_true, not_true_eq_false, not_false_eq_true, if_true, if_false, reduceIte, Option.bind_some, List.getElem?_cons_zero, List.getElem?_cons_succ, Nat.reduceAdd, Nat.reduceSub, Nat.reduceLT, Nat.reduceLeDiff, Nat.le_refl, Nat.zero_add, Nat.add_zero, List.length_cons, List.length_nil, Int32.reduceLT, Int32.reduceToNatClampNeg, Int32.reduceAdd, Int32.reduceSub, Int32.reduceMul, decide_true, aCall, aRecv, aObj, obj, List.take_succ_cons, List.take_zero, List.drop_succ_cons, List.drop_zero, List.reverse_cons, List.reverse_nil, List.nil_append, List.cons_append, List.append_nil, List.map_cons, List.map_nil, List.sum_cons, List.sum_nil, cat_int, cat_long, cat_ref, cat_null, Option.toList_some, Option.toList_none, build_2, size_2, en_2_0, en_2_1, en_2_2, en_2_3, en_2_4]
  refine t0_206 hgo rfl rfl ?_
  refine t0_208 hgo rfl ?_
  refine res_of (u0_210 hgo) ?_
  simp only [eq_self, and_self, true_and, and_true, not_true_eq_false, not_false_eq_true, if_true, if_false, reduceIte, Option.bind_some, List.getElem?_cons_zero, List.getElem?_cons_succ, Nat.reduceAdd, Nat.reduceSub, Nat.reduceLT, Nat.reduceLeDiff, Nat.le_refl, Nat.zero_add, Nat.add_zero, List.length_cons, List.length_nil, Int32.reduceLT, Int32.reduceToNatClampNeg, Int32.reduceAdd, Int32.reduceSub, Int32.reduceMul, decide_true, aCall, aRecv, aObj, obj, List.take_succ_cons, List.take_zero, List.drop_succ_cons, List.drop_zero, List.reverse_cons, List.reverse_nil, List.nil_append, List.cons_append, List.append_nil, List.map_cons, List.map_nil, List.sum_cons, List.sum_nil, cat_int, cat_long, cat_ref, cat_null, Option.toList_some, Option.toList_none, build_2, size_2, en_2_0, en_2_1, en_2_2, en_2_3, en_2_4]
  refine t0_213 hgo ?_
  refine t0_215t hgo rfl ?_
  refine t0_220 hgo rfl ?_
  refine t0_222 hgo ?_
  refine t0_224 hgo ?_
  refine t0_225 hgo ?_
  refine t0_227 hgo ?_
  refine res_of (u0_229 hgo) ?_
  simp only [eq_self, and_self, true_and, and_true, not_true_eq_false, not_false_eq_true, if_true, if_false, reduceIte, Option.bind_some, List.getElem?_cons_zero, List.getElem?_cons_succ, Nat.reduceAdd, Nat.reduceSub, Nat.reduceLT, Nat.reduceLeDiff, Nat.le_refl, Nat.zero_add, Nat.add_zero, List.length_cons, List.length_nil, Int32.reduceLT, Int32.reduceToNatClampNeg, Int32.reduceAdd, Int32.reduceSub, Int32.reduceMul, decide_true, aCall, aRecv, aObj, obj, List.take_succ_cons, List.take_zero, List.drop_succ_cons, List.drop_zero, List.reverse_cons, List.reverse_nil, List.nil_append, List.cons_append, List.append_nil, List.map_cons, List.map_nil, List.sum_cons, List.sum_nil, cat_int, cat_long, cat_ref, cat_null, Option.toList_some, Option.toList_none, build_2, size_2, en_2_0, en_2_1, en_2_2, en_2_3, en_2_4]
  refine t0_232f hgo (by decide) ?_
  refine t0_235 hgo rfl ?_
  refine t0_237 hgo ?_
  refine t0_239 hgo ?_
  refine t0_240 hgo ?_
  refine t0_242 hgo ?_
  refine res_of (u0_244 hgo) ?_
  simp only [eq_self, and_self, true_and, and_true, not_true_eq_false, not_false_eq_true, if_true, if_false, reduceIte, Option.bind_some, List.getElem?_cons_zero, List.getElem?_cons_succ, Nat.reduceAdd, Nat.reduceSub, Nat.reduceLT, Nat.reduceLeDiff, Nat.le_refl, Nat.zero_add, Nat.add_zero, List.length_cons, List.length_nil, Int32.reduceLT, Int32.reduceToNatClampNeg, Int32.reduceAdd, Int32.reduceSub, Int32.reduceMul, decide_true, aCall, aRecv, aObj, obj, List.take_succ_cons, List.take_zero, List.drop_succ_cons, List.drop_zero, List.reverse_cons, List.reverse_nil, List.nil_append, List.cons_append, List.append_nil, List.map_cons, List.map_nil, List.sum_cons, List.sum_nil, cat_int, cat_long, cat_ref, cat_null, Option.toList_some, Option.toList_none, build_2, size_2, en_2_0, en_2_1, en_2_2, en_2_3, en_2_4]
  refine t0_247f hgo (by decide) ?_
  refine t0_250 hgo rfl ?_
  refine t0_252 hgo ?_
  refine t0_254 hgo ?_
  refine t0_255 hgo ?_
  refine t0_257 hgo ?_
  refine res_of (u0_259 hgo) ?_
  simp only [eq_self, and_self, true_and, and_true, not_true_eq_false, not_false_eq_true, if_true, if_false, reduceIte, Option.bind_some, List.getElem?_cons_zero, List.getElem?_cons_succ, Nat.reduceAdd, Nat.reduceSub, Nat.reduceLT, Nat.reduceLeDiff, Nat.le_refl, Nat.zero_add, Nat.add_zero, List.length_cons, List.length_nil, Int32.reduceLT, Int32.reduceToNatClampNeg, Int32.reduceAdd, Int32.reduceSub, Int32.reduceMul, decide_true, aCall, aRecv, aObj, obj, List.take_succ_cons, List.take_zero, List.drop_succ_cons, List.drop_zero, List.reverse_cons, List.reverse_nil, List.nil_append, List.cons_append, List.append_nil, List.map_cons, List.map_nil, List.sum_cons, List.sum_nil, cat_int, cat_long, cat_ref, cat_null, Option.toList_some, Option.toList_none, build_2, size_2, en_2_0, en_2_1, en_2_2, en_2_3, en_2_4]
  refine t0_262f hgo (by decide) ?_
  refine t0_265 hgo rfl ?_
  refine t0_267 hgo ?_
  refine t0_269 hgo ?_
  refine t0_270 hgo ?_
  refine t0_272 hgo ?_
  refine res_of (u0_274 hgo) ?_
  simp only [eq_self, and_self, true_and, and_true, not_true_eq_false, not_false_eq_true, if_true, if_false, reduceIte, Option.bind_some, List.getElem?_cons_zero, List.getElem?_cons_succ, Nat.reduceAdd, Nat.reduceSub, Nat.reduceLT, Nat.reduceLeDiff, Nat.le_refl, Nat.zero_add, Nat.add_zero, List.length_cons, List.length_nil, Int32.reduceLT, Int32.reduceToNatClampNeg, Int32.reduceAdd, Int32.reduceSub, Int32.reduceMul, decide_true, aCall, aRecv, aObj, obj, List.take_succ_cons, List.take_zero, List.drop_succ_cons, List.drop_zero, List.reverse_cons, List.reverse_nil, List.nil_append, List.cons_append, List.append_nil, List.map_cons, List.map_nil, List.sum_cons, List.sum_nil, cat_int, cat_long, cat_ref, cat_null, Option.toList_some, Option.toList_none, build_2, size_2, en_2_0, en_2_1, en_2_2, en_2_3, en_2_4]
  refine t0_277f hgo (by decide) ?_
  refine t0_280 hgo rfl ?_
  refine t0_282 hgo ?_
  refine t0_284 hgo ?_
  refine t0_285 hgo ?_
  refine t0_287 hgo ?_
  refine res_of (u0_289 hgo) ?_
  simp only [eq_self, and_self, true_and, and_true, not_true_eq_false, not_false_eq_true, if_true, if_false, reduceIte, Option.bind_some, List.getElem?_cons_zero, List.getElem?_cons_succ, Nat.reduceAdd, Nat.reduceSub, Nat.reduceLT, Nat.reduceLeDiff, Nat.le_refl, Nat.zero_add, Nat.add_zero, List.length_cons, List.length_nil, Int32.reduceLT, Int32.reduceToNatClampNeg, Int32.reduceAdd, Int32.reduceSub, Int32.reduceMul, decide_true, aCall, aRecv, aObj, obj, List.take_succ_cons, List.take_zero, List.drop_succ_cons, List.drop_zero, List.reverse_cons, List.reverse_nil, List.nil_append, List.cons_append, List.append_nil, List.map_cons, List.map_nil, List.sum_cons, List.sum_nil, cat_int, cat_long, cat_ref, cat_null, Option.toList_some, Option.toList_none, build_2, size_2, en_2_0, en_2_1, en_2_2, en_2_3, en_2_4]
  refine t0_292f hgo (by decide) ?_
  refine t0_295 hgo ?_
  refine t0_296 hgo ?_
  refine t0_300 hgo ?_
  exact one_b
set_option maxRecDepth 65536 in
set_option maxHeartbeats 4000000 in
theorem tl_3 {go : Nat → St → Option ORes} (hgo : go = orun code ret E0 0) {l0 l1 l2 l3 l4 l6 l7 : Slot} {w0 w1 w2 w3 w4 c0 c1 c2 c3 c4 : Int32} {m : Nat} : Rsq (go (m + 120) (118, [l0, l1, l2, l3, l4, .val (.int 3), l6, l7, .val (.int w0), .val (.int w1), .val (.int w2), .val (.int w3), .val (.int w4), .val (.int c0), .val (.int c1), .val (.int c2), .val (.int c3), .val (.int c4), .unset, .unset], [], [], 0, 0)) OneI := by
  refine res_of (u0_118 hgo) ?_
  simp only [eq_self, and_self, true_and, and_true, not_true_eq_false, not_false_eq_true, if_true, if_false, reduceIte, Option.bind_some, List.getElem?_cons_zero, List.getElem?_cons_succ, Nat.reduceAdd, Nat.reduceSub, Nat.reduceLT, Nat.reduceLeDiff, Nat.le_refl, Nat.zero_add, Nat.add_zero, List.length_cons, List.length_nil, Int32.reduceLT, Int32.reduceToNatClampNeg, Int32.reduceAdd, Int32.reduceSub, Int32.reduceMul, decide_true, aNew, List.nil_append, List.cons_append, F1_eq, add_0, add_1, add_2]
  refine t0_121 hgo rfl ?_
  refine res_of (u0_122 hgo) ?_
  simp only [eq_self, and_self, true_and, and_true, not_true_eq_false, not_false_eq_true, if_true, if_false, reduceIte, Option.bind_some, List.getElem?_cons_zero, List.getElem?_cons_succ, Nat.reduceAdd, Nat.reduceSub, Nat.reduceLT, Nat.reduceLeDiff, Nat.le_refl, Nat.zero_add, Nat.add_zero, List.length_cons, List.length_nil, Int32.reduceLT, Int32.reduceToNatClampNeg, Int32.reduceAdd, Int32.reduceSub, Int32.reduceMul, decide_true, aCall, aRecv, aObj, obj, List.take_succ_cons, List.take_zero, List.drop_succ_cons, List.drop_zero, List.reverse_cons, List.reverse_nil, List.nil_append, List.cons_append, List.append_nil, List.map_cons, List.map_nil, List.sum_cons, List.sum_nil, cat_int, cat_long, cat_ref, cat_null, Option.toList_some, Option.toList_none, F1_eq, add_0, add_1, add_2]
  refine t0_125 hgo rfl rfl ?_
  refine t0_127 hgo ?_
  refine t0_129t hgo (by decide) ?_
  refine t0_132 hgo rfl ?_
  refine t0_134 hgo ?_
  refine t0_136 hgo ?_
  refine res_of (u0_138 hgo) ?_
  simp only [eq_self, and_self, true_and, and_true, not_true_eq_false, not_false_eq_true, if_true, if_false, reduceIte, Option.bind_some, List.getElem?_cons_zero, List.getElem?_cons_succ, Nat.reduceAdd, Nat.reduceSub, Nat.reduceLT, Nat.reduceLeDiff, Nat.le_refl, Nat.zero_add, Nat.add_zero, List.length_cons, List.length_nil, Int32.reduceLT, Int32.reduceToNatClampNeg, Int32.reduceAdd, Int32.reduceSub, Int32.reduceMul, decide_true, aCall, aRecv, aObj, obj, List.take_succ_cons, List.take_zero, List.drop_succ_cons, List.drop_zero, List.reverse_cons, List.reverse_nil, List.nil_append, List.cons_append, List.append_nil, List.map_cons, List.map_nil, List.sum_cons, List.sum_nil, cat_int, cat_long, cat_ref, cat_null, Option.toList_some, Option.toList_none, F1_eq, add_0, add_1, add_2]
  refine t0_141 hgo ?_
  refine t0_143 hgo ?_
  refine t0_144t hgo (by decide) ?_
  refine t0_147 hgo rfl ?_
  refine t0_149 hgo ?_
  refine t0_151 hgo ?_
  refine res_of (u0_153 hgo) ?_
  simp only [eq_self, and_self, true_and, and_true, not_true_eq_false, not_false_eq_true, if_true, if_false, reduceIte, Option.bind_some, List.getElem?_cons_zero, List.getElem?_cons_succ, Nat.reduceAdd, Nat.reduceSub, Nat.reduceLT, Nat.reduceLeDiff, Nat.le_refl, Nat.zero_add, Nat.add_zero, List.length_cons, List.length_nil, Int32.reduceLT, Int32.reduceToNatClampNeg, Int32.reduceAdd, Int32.reduceSub, Int32.reduceMul, decide_true, aCall, aRecv, aObj, obj, List.take_succ_cons, List.take_zero, List.drop_succ_cons, List.drop_zero, List.reverse_cons, List.reverse_nil, List.nil_append, List.cons_append, List.append_nil, List.map_cons, List.map_nil, List.sum_cons, List.sum_nil, cat_int, cat_long, cat_ref, cat_null, Option.toList_some, Option.toList_none, F1_eq, add_0, add_1, add_2]
  refine t0_156 hgo ?_
  refine t0_158 hgo ?_
  refine t0_159t hgo (by decide) ?_
  refine t0_162 hgo rfl ?_
  refine t0_164 hgo ?_
  refine t0_166 hgo ?_
  refine res_of (u0_168 hgo) ?_
  simp only [eq_self, and_self, true_and, and_true, not_true_eq_false, not_false_eq_true, if_true, if_false, reduceIte, Option.bind_some, List.getElem?_cons_zero, List.getElem?_cons_succ, Nat.reduceAdd, Nat.reduceSub, Nat.reduceLT, Nat.reduceLeDiff, Nat.le_refl, Nat.zero_add, Nat.add_zero, List.length_cons, List.length_nil, Int32.reduceLT, Int32.reduceToNatClampNeg, Int32.reduceAdd, Int32.reduceSub, Int32.reduceMul, decide_true, aCall, aRecv, aObj, obj, List.take_succ_cons, List.take_zero, List.drop_succ_cons, List.drop_zero, List.reverse_cons, List.reverse_nil, List.nil_append, List.cons_append, List.append_nil, List.map_cons, List.map_nil, List.sum_cons, List.sum_nil, cat_int, cat_long, cat_ref, cat_null, Option.toList_some, Option.toList_none, F1_eq, add_0, add_1, add_2]
  refine t0_171 hgo ?_
  refine t0_173 hgo ?_
  refine t0_174f hgo (by decide) ?_
  refine t0_186 hgo ?_
  refine t0_188 hgo ?_
  refine t0_189f hgo (by decide) ?_
  refine t0_201 hgo rfl ?_
  refine res_of (u0_203 hgo) ?_
  simp only [eq_self, and_self, true_and, and_true, not_true_eq_false, not_false_eq_true, if_true, if_false, reduceIte, Option.bind_some, List.getElem?_cons_zero, List.getElem?_cons_succ, Nat.reduceAdd, Nat.reduceSub, Nat.reduceLT, Nat.reduceLeDiff, Nat.le_refl, Nat.zero_add, Nat.add_zero, List.length_cons, List.length_nil, Int32.reduceLT, Int32.reduceToNatClampNeg, Int32.reduceAdd, Int32.reduceSub, Int32.reduceMul, decide_true, aCall, aRecv, aObj, obj, List.take_succ_cons, List.take_zero, List.drop_succ_cons, List.drop_zero, List.reverse_cons, List.reverse_nil, List.nil_append, List.cons_append, List.append_nil, List.map_cons, List.map_nil, List.sum_cons, List.sum_nil, cat_int, cat_long, cat_ref, cat_null, Option.toList_some, Option.toList_none, build_3, size_3, en_3_0, en_3_1, en_3_2, en_3_3, en_3_4]
  refine t0_206 hgo rfl rfl ?_
  refine t0_208 hgo rfl ?_
  refine res_of (u0_210 hgo) ?_
  simp only [eq_self, and_self, true_and, and_true, not_true_eq_false, not_false_eq_true, if_true, if_false, reduceIte, Option.bind_some, List.getElem?_cons_zero, List.getElem?_cons_succ, Nat.reduceAdd, Nat.reduceSub, Nat.reduceLT, Nat.reduceLeDiff, Nat.le_refl, Nat.zero_add, Nat.add_zero, List.length_cons, List.length_nil, Int32.reduceLT, Int32.reduceToNatClampNeg, Int32.reduceAdd, Int32.reduceSub, Int32.reduceMul, decide_true, aCall, aRecv, aObj, obj, List.take_succ_cons, List.take_zero, List.drop_succ_cons, List.drop_zero, List.reverse_cons, List.reverse_nil, List.nil_append, List.cons_append, List.append_nil, List.map_cons, List.map_nil, List.sum_cons, List.sum_nil, cat_int, cat_long, cat_ref, cat_null, Option.toList_some, Option.toList_none, build_3, size_3, en_3_0, en_3_1, en_3_2, en_3_3, en_3_4]
  refine t0_213 hgo ?_
  refine t0_215t hgo rfl ?_
  refine t0_220 hgo rfl ?_
  refine t0_222 hgo ?_
  refine t0_224 hgo ?_
  refine t0_225 hgo ?_
  refine t0_227 hgo ?_
  refine res_of (u0_229 hgo) ?_
  simp only [eq_self, and_self, true_and, and_true, not_true_eq_false, not_false_eq_true, if_true, if_false, reduceIte, Option.bind_some, List.getElem?_cons_zero, List.getElem?_cons_succ, Nat.reduceAdd, Nat.reduceSub, Nat.reduceLT, Nat.reduceLeDiff, Nat.le_refl, Nat.zero_add, Nat.add_zero, List.length_cons, List.length_nil, Int32.reduceLT, Int32.reduceToNatClampNeg, Int32.reduceAdd, Int32.reduceSub, Int32.reduceMul, decide_true, aCall, aRecv, aObj, obj, List.take_succ_cons, List.take_zero, List.drop_succ_cons, List.drop_zero, List.reverse_cons, List.reverse_nil, List.nil_append, List.cons_append, List.append_nil, List.map_cons, List.map_nil, List.sum_cons, List.sum_nil, cat_int, cat_long, cat_ref, cat_null, Option.toList_some, Option.toList_none, build_3, size_3, en_3_0, en_3_1, en_3_2, en_3_3, en_3_4]
  refine t0_232f hgo (by decide) ?_
  refine t0_235 hgo rfl ?_
  refine t0_237 hgo ?_
  refine t0_239 hgo ?_
  refine t0_240 hgo ?_
  refine t0_242 hgo ?_
  refine res_of (u0_244 hgo) ?_
  simp only [eq_self, and_self, true_and, and_true, not_true_eq_false, not_false_eq_true, if_true, if_false, reduceIte, Option.bind_some, List.getElem?_cons_zero, List.getElem?_cons_succ, Nat.reduceAdd, Nat.reduceSub, Nat.reduceLT, Nat.reduceLeDiff, Nat.le_refl, Nat.zero_add, Nat.add_zero, List.length_cons, List.length_nil, Int32.reduceLT, Int32.reduceToNatClampNeg, Int32.reduceAdd, Int32.reduceSub, Int32.reduceMul, decide_true, aCall, aRecv, aObj, obj, List.take_succ_cons, List.take_zero, List.drop_succ_cons, List.drop_zero, List.reverse_cons, List.reverse_nil, List.nil_append, List.cons_append, List.append_nil, List.map_cons, List.map_nil, List.sum_cons, List.sum_nil, cat_int, cat_long, cat_ref, cat_null, Option.toList_some, Option.toList_none, build_3, size_3, en_3_0, en_3_1, en_3_2, en_3_3, en_3_4]
  refine t0_247f hgo (by decide) ?_
  refine t0_250 hgo rfl ?_
  refine t0_252 hgo ?_
  refine t0_254 hgo ?_
  refine t0_255 hgo ?_
  refine t0_257 hgo ?_
  refine res_of (u0_259 hgo) ?_
  simp only [eq_self, and_self, true_and, and_true, not_true_eq_false, not_false_eq_true, if_true, if_false, reduceIte, Option.bind_some, List.getElem?_cons_zero, List.getElem?_cons_succ, Nat.reduceAdd, Nat.reduceSub, Nat.reduceLT, Nat.reduceLeDiff, Nat.le_refl, Nat.zero_add, Nat.add_zero, List.length_cons, List.length_nil, Int32.reduceLT, Int32.reduceToNatClampNeg, Int32.reduceAdd, Int32.reduceSub, Int32.reduceMul, decide_true, aCall, aRecv, aObj, obj, List.take_succ_cons, List.take_zero, List.drop_succ_cons, List.drop_zero, List.reverse_cons, List.reverse_nil, List.nil_append, List.cons_append, List.append_nil, List.map_cons, List.map_nil, List.sum_cons, List.sum_nil, cat_int, cat_long, cat_ref, cat_null, Option.toList_some, Option.toList_none, build_3, size_3, en_3_0, en_3_1, en_3_2, en_3_3, en_3_4]
  refine t0_262f hgo (by decide) ?_
  refine t0_265 hgo rfl ?_
  refine t0_267 hgo ?_
  refine t0_269 hgo ?_
  refine t0_270 hgo ?_
  refine t0_272 hgo ?_
  refine res_of (u0_274 hgo) ?_
  simp only [eq_self, and_self, true_and, and_true, not_true_eq_false, not_false_eq_true, if_true, if_false, reduceIte, Option.bind_some, List.getElem?_cons_zero, List.getElem?_cons_succ, Nat.reduceAdd, Nat.reduceSub, Nat.reduceLT, Nat.reduceLeDiff, Nat.le_refl, Nat.zero_add, Nat.add_zero, List.length_cons, List.length_nil, Int32.reduceLT, Int32.reduceToNatClampNeg, Int32.reduceAdd, Int32.reduceSub, Int32.reduceMul, decide_true, aCall, aRecv, aObj, obj, List.take_succ_cons, List.take_zero, List.drop_succ_cons, List.drop_zero, List.reverse_cons, List.reverse_nil, List.nil_append, List.cons_append, List.append_nil, List.map_cons, List.map_nil, List.sum_cons, List.sum_nil, cat_int, cat_long, cat_ref, cat_null, Option.toList_some, Option.toList_none, build_3, size_3, en_3_0, en_3_1, en_3_2, en_3_3, en_3_4]
  refine t0_277f hgo (by decide) ?_
  refine t0_280 hgo rfl ?_
  refine t0_282 hgo ?_
  refine t0_284 hgo ?_
  refine t0_285 hgo ?_
  refine t0_287 hgo ?_
  refine res_of (u0_289 hgo) ?_
  simp only [eq_self, and_self, true_and, and_true, not_true_eq_false, not_false_eq_true, if_true, if_false, reduceIte, Option.bind_some, List.getElem?_cons_zero, List.getElem?_cons_succ, Nat.reduceAdd, Nat.reduceSub, Nat.reduceLT, Nat.reduceLeDiff, Nat.le_refl, Nat.zero_add, Nat.add_zero, List.length_cons, List.length_nil, Int32.reduceLT, Int32.reduceToNatClampNeg, Int32.reduceAdd, Int32.reduceSub, Int32.reduceMul, decide_true, aCall, aRecv, aObj, obj, List.take_succ_cons, List.take_zero, List.drop_succ_cons, List.drop_zero, List.reverse_cons, List.reverse_nil, List.nil_append, List.cons_append, List.append_nil, List.map_cons, List.map_nil, List.sum_cons, List.sum_nil, cat_int, cat_long, cat_ref, cat_null, Option.toList_some, Option.toList_none, build_3, size_3, en_3_0, en_3_1, en_3_2, en_3_3, en_3_4]
  refine t0_292f hgo (by decide) ?_
  refine t0_295 hgo ?_
  refine t0_296 hgo ?_
  refine t0_300 hgo ?_
  exact one_b
set_option maxRecDepth 65536 in
set_option maxHeartbeats 4000000 in
theorem tl_4 {go : Nat → St → Option ORes} (hgo : go = orun code ret E0 0) {l0 l1 l2 l3 l4 l6 l7 : Slot} {w0 w1 w2 w3 w4 c0 c1 c2 c3 c4 : Int32} {m : Nat} : Rsq (go (m + 120) (118, [l0, l1, l2, l3, l4, .val (.int 4), l6, l7, .val (.int w0), .val (.int w1), .val (.int w2), .val (.int w3), .val (.int w4), .val (.int c0), .val (.int c1), .val (.int c2), .val (.int c3), .val (.int c4), .unset, .unset], [], [], 0, 0)) OneI := by
  refine res_of (u0_118 hgo) ?_
  simp only [eq_self, and_self, true_and, and_true, not_true_eq_false, not_false_eq_true, if_true, if_false, reduceIte, Option.bind_some, List.getElem?_cons_zero, List.getElem?_cons_succ, Nat.reduceAdd, Nat.reduceSub, Nat.reduceLT, Nat.reduceLeDiff, Nat.le_refl, Nat.zero_add, Nat.add_zero, List.length_cons, List.length_nil, Int32.reduceLT, Int32.reduceToNatClampNeg, Int32.reduceAdd, Int32.reduceSub, Int32.reduceMul, decide_true, aNew, List.nil_append, List.cons_append, F1_eq, add_0, add_1, add_2, add_3]
  refine t0_121 hgo rfl ?_
  refine res_of (u0_122 hgo) ?_
  simp only [eq_self, and_self, true_and, and_true, not_true_eq_false, not_false_eq_true, if_true, if_false, reduceIte, Option.bind_some, List.getElem?_cons_zero, List.getElem?_cons_succ, Nat.reduceAdd, Nat.reduceSub, Nat.reduceLT, Nat.reduceLeDiff, Nat.le_refl, Nat.zero_add, Nat.add_zero, List.length_cons, List.length_nil, Int32.reduceLT, Int32.reduceToNatClampNeg, Int32.reduceAdd, Int32.reduceSub, Int32.reduceMul, decide_true, aCall, aRecv, aObj, obj, List.take_succ_cons, List.take_zero, List.drop_succ_cons, List.drop_zero, List.reverse_cons, List.reverse_nil, List.nil_append, List.cons_append, List.append_nil, List.map_cons, List.map_nil, List.sum_cons, List.sum_nil, cat_int, cat_long, cat_ref, cat_null, Option.toList_some, Option.toList_none, F1_eq, add_0, add_1, add_2, add_3]
  refine t0_125 hgo rfl rfl ?_
  refine t0_127 hgo ?_
  refine t0_129t hgo (by decide) ?_
  refine t0_132 hgo rfl ?_
  refine t0_134 hgo ?_
  refine t0_136 hgo ?_
  refine res_of (u0_138 hgo) ?_
  simp only [eq_self, and_self, true_and, and_true, not_true_eq_false, not_false_eq_true, if_true, if_false, reduceIte, Option.bind_some, List.getElem?_cons_zero, List.getElem?_cons_succ, Nat.reduceAdd, Nat.reduceSub, Nat.reduceLT, Nat.reduceLeDiff, Nat.le_refl, Nat.zero_add, Nat.add_zero, List.length_cons, List.length_nil, Int32.reduceLT, Int32.reduceToNatClampNeg, Int32.reduceAdd, Int32.reduceSub, Int32.reduceMul, decide_true, aCall, aRecv, aObj, obj, List.take_succ_cons, List.take_zero, List.drop_succ_cons, List.drop_zero, List.reverse_cons, List.reverse_nil, List.nil_append, List.cons_append, List.append_nil, List.map_cons, List.map_nil, List.sum_cons, List.sum_nil, cat_int, cat_long, cat_ref, cat_null, Option.toList_some, Option.toList_none, F1_eq, add_0, add_1, add_2, add_3]
  refine t0_141 hgo ?_
  refine t0_143 hgo ?_
  refine t0_144t hgo (by decide) ?_
  refine t0_147 hgo rfl ?_
  refine t0_149 hgo ?_
  refine t0_151 hgo ?_
  refine res_of (u0_153 hgo) ?_
  simp only [eq_self, and_self, true_and, and_true, not_true_eq_false, not_false_eq_true, if_true, if_false, reduceIte, Option.bind_some, List.getElem?_cons_zero, List.getElem?_cons_succ, Nat.reduceAdd, Nat.reduceSub, Nat.reduceLT, Nat.reduceLeDiff, Nat.le_refl, Nat.zero_add, Nat.add_zero, List.length_cons, List.length_nil, Int32.reduceLT, Int32.reduceToNatClampNeg, Int32.reduceAdd, Int32.reduceSub, Int32.reduceMul, decide_true, aCall, aRecv, aObj, obj, List.take_succ_cons, List.take_zero, List.drop_succ_cons, List.drop_zero, List.reverse_cons, List.reverse_nil, List.nil_append, List.cons_append, List.append_nil, List.map_cons, List.map_nil, List.sum_cons, List.sum_nil, cat_int, cat_long, cat_ref, cat_null, Option.toList_some, Option.toList_none, F1_eq, add_0, add_1, add_2, add_3]
  refine t0_156 hgo ?_
  refine t0_158 hgo ?_
  refine t0_159t hgo (by decide) ?_
  refine t0_162 hgo rfl ?_
  refine t0_164 hgo ?_
  refine t0_166 hgo ?_
  refine res_of (u0_168 hgo) ?_
  simp only [eq_self, and_self, true_and, and_true, not_true_eq_false, not_false_eq_true, if_true, if_false, reduceIte, Option.bind_some, List.getElem?_cons_zero, List.getElem?_cons_succ, Nat.reduceAdd, Nat.reduceSub, Nat.reduceLT, Nat.reduceLeDiff, Nat.le_refl, Nat.zero_add, Nat.add_zero, List.length_cons, List.length_nil, Int32.reduceLT, Int32.reduceToNatClampNeg, Int32.reduceAdd, Int32.reduceSub, Int32.reduceMul, decide_true, aCall, aRecv, aObj, obj, List.take_succ_cons, List.take_zero, List.drop_succ_cons, List.drop_zero, List.reverse_cons, List.reverse_nil, List.nil_append, List.cons_append, List.append_nil, List.map_cons, List.map_nil, List.sum_cons, List.sum_nil, cat_int, cat_long, cat_ref, cat_null, Option.toList_some, Option.toList_none, F1_eq, add_0, add_1, add_2, add_3]
  refine t0_171 hgo ?_
  refine t0_173 hgo ?_
  refine t0_174t hgo (by decide) ?_
  refine t0_177 hgo rfl ?_
  refine t0_179 hgo ?_
  refine t0_181 hgo ?_
  refine res_of (u0_183 hgo) ?_
  simp only [eq_self, and_self, true_and, and_true, not_true_eq_false, not_false_eq_true, if_true, if_false, reduceIte, Option.bind_some, List.getElem?_cons_zero, List.getElem?_cons_succ, Nat.reduceAdd, Nat.reduceSub, Nat.reduceLT, Nat.reduceLeDiff, Nat.le_refl, Nat.zero_add, Nat.add_zero, List.length_cons, List.length_nil, Int32.reduceLT, Int32.reduceToNatClampNeg, Int32.reduceAdd, Int32.reduceSub, Int32.reduceMul, decide_true, aCall, aRecv, aObj, obj, List.take_succ_cons, List.take_zero, List.drop_succ_cons, List.drop_zero, List.reverse_cons, List.reverse_nil, List.nil_append, List.cons_append, List.append_nil, List.map_cons, List.map_nil, List.sum_cons, List.sum_nil, cat_int, cat_long, cat_ref, cat_null, Option.toList_some, Option.toList_none, F1_eq, add_0, add_1, add_2, add_3]
  refine t0_186 hgo ?_
  refine t0_188 hgo ?_
  refine t0_189f hgo (by decide) ?_
  refine t0_201 hgo rfl ?_
  refine res_of (u0_203 hgo) ?_
  simp only [eq_self, and_self, true_and, and_true, not_true_eq_false, not_false_eq_true, if_true, if_false, reduceIte, Option.bind_some, List.getElem?_cons_zero, List.getElem?_cons_succ, Nat.reduceAdd, Nat.reduceSub, Nat.reduceLT, Nat.reduceLeDiff, Nat.le_refl, Nat.zero_add, Nat.add_zero, List.length_cons, List.length_nil, Int32.reduceLT, Int32.reduceToNatClampNeg, Int32.reduceAdd, Int32.reduceSub, Int32.reduceMul, decide_true, aCall, aRecv, aObj, obj, List.take_succ_cons, List.take_zero, List.drop_succ_cons, List.drop_zero, List.reverse_cons, List.reverse_nil, List.nil_append, List.cons_append, List.append_nil, List.map_cons, List.map_nil, List.sum_cons, List.sum_nil, cat_int, cat_long, cat_ref, cat_null, Option.toList_some, Option.toList_none, build_4, size_4, en_4_0, en_4_1, en_4_2, en_4_3, en_4_4]
  refine t0_206 hgo rfl rfl ?_
  refine t0_208 hgo rfl ?_
  refine res_of (u0_210 hgo) ?_
  simp only [eq_self, and_self, true_and, and_true, not_true_eq_false, not_false_eq_true, if_true, if_false, reduceIte, Option.bind_some, List.getElem?_cons_zero, List.getElem?_cons_succ, Nat.reduceAdd, Nat.reduceSub, Nat.reduceLT, Nat.reduceLeDiff, Nat.le_refl, Nat.zero_add, Nat.add_zero, List.length_cons, List.length_nil, Int32.reduceLT, Int32.reduceToNatClampNeg, Int32.reduceAdd, Int32.reduceSub, Int32.reduceMul, decide_true, aCall, aRecv, aObj, obj, List.take_succ_cons, List.take_zero, List.drop_succ_cons, List.drop_zero, List.reverse_cons, List.reverse_nil, List.nil_append, List.cons_append, List.append_nil, List.map_cons, List.map_nil, List.sum_cons, List.sum_nil, cat_int, cat_long, cat_ref, cat_null, Option.toList_some, Option.toList_none, build_4, size_4, en_4_0, en_4_1, en_4_2, en_4_3, en_4_4]
  refine t0_213 hgo ?_
  refine t0_215t hgo rfl ?_
  refine t0_220 hgo rfl ?_
  refine t0_222 hgo ?_
  refine t0_224 hgo ?_
  refine t0_225 hgo ?_
  refine t0_227 hgo ?_
  refine res_of (u0_229 hgo) ?_
  simp only [eq_self, and_self, true_and, and_true, not_true_eq_false, not_false_eq_true, if_true, if_false, reduceIte, Option.bind_some, List.getElem?_cons_zero, List.getElem?_cons_succ, Nat.reduceAdd, Nat.reduceSub, Nat.reduceLT, Nat.reduceLeDiff, Nat.le_refl, Nat.zero_add, Nat.add_zero, List.length_cons, List.length_nil, Int32.reduceLT, Int32.reduceToNatClampNeg, Int32.reduceAdd, Int32.reduceSub, Int32.reduceMul, decide_true, aCall, aRecv, aObj, obj, List.take_succ_cons, List.take_zero, List.drop_succ_cons, List.drop_zero, List.reverse_cons, List.reverse_nil, List.nil_append, List.cons_append, List.append_nil, List.map_cons, List.map_nil, List.sum_cons, List.sum_nil, cat_int, cat_long, cat_ref, cat_null, Option.toList_some, Option.toList_none, build_4, size_4, en_4_0, en_4_1, en_4_2, en_4_3, en_4_4]
  refine t0_232f hgo (by decide) ?_
  refine t0_235 hgo rfl ?_
  refine t0_237 hgo ?_
  refine t0_239 hgo ?_
  refine t0_240 hgo ?_
  refine t0_242 hgo ?_
  refine res_of (u0_244 hgo) ?_
  simp only [eq_self, and_self, true_and, and_true, not_true_eq_false, not_false_eq_true, if_true, if_false, reduceIte, Option.bind_some, List.getElem?_cons_zero, List.getElem?_cons_succ, Nat.reduceAdd, Nat.reduceSub, Nat.reduceLT, Nat.reduceLeDiff, Nat.le_refl, Nat.zero_add, Nat.add_zero, List.length_cons, List.length_nil, Int32.reduceLT, Int32.reduceToNatClampNeg, Int32.reduceAdd, Int32.reduceSub, Int32.reduceMul, decide_true, aCall, aRecv, aObj, obj, List.take_succ_cons, List.take_zero, List.drop_succ_cons, List.drop_zero, List.reverse_cons, List.reverse_nil, List.nil_append, List.cons_append, List.append_nil, List.map_cons, List.map_nil, List.sum_cons, List.sum_nil, cat_int, cat_long, cat_ref, cat_null, Option.toList_some, Option.toList_none, build_4, size_4, en_4_0, en_4_1, en_4_2, en_4_3, en_4_4]
  refine t0_247f hgo (by decide) ?_
  refine t0_250 hgo rfl ?_
  refine t0_252 hgo ?_
  refine t0_254 hgo ?_
  refine t0_255 hgo ?_
  refine t0_257 hgo ?_
  refine res_of (u0_259 hgo) ?_
  simp only [eq_self, and_self, true_and, and_true, not_true_eq_false, not_false_eq_true, if_true, if_false, reduceIte, Option.bind_some, List.getElem?_cons_zero, List.getElem?_cons_succ, Nat.reduceAdd, Nat.reduceSub, Nat.reduceLT, Nat.reduceLeDiff, Nat.le_refl, Nat.zero_add, Nat.add_zero, List.length_cons, List.length_nil, Int32.reduceLT, Int32.reduceToNatClampNeg, Int32.reduceAdd, Int32.reduceSub, Int32.reduceMul, decide_true, aCall, aRecv, aObj, obj, List.take_succ_cons, List.take_zero, List.drop_succ_cons, List.drop_zero, List.reverse_cons, List.reverse_nil, List.nil_append, List.cons_append, List.append_nil, List.map_cons, List.map_nil, List.sum_cons, List.sum_nil, cat_int, cat_long, cat_ref, cat_null, Option.toList_some, Option.toList_none, build_4, size_4, en_4_0, en_4_1, en_4_2, en_4_3, en_4_4]
  refine t0_262f hgo (by decide) ?_
  refine t0_265 hgo rfl ?_
  refine t0_267 hgo ?_
  refine t0_269 hgo ?_
  refine t0_270 hgo ?_
  refine t0_272 hgo ?_
  refine res_of (u0_274 hgo) ?_
  simp only [eq_self, and_self, true_and, and_true, not_true_eq_false, not_false_eq_true, if_true, if_false, reduceIte, Option.bind_some, List.getElem?_cons_zero, List.getElem?_cons_succ, Nat.reduceAdd, Nat.reduceSub, Nat.reduceLT, Nat.reduceLeDiff, Nat.le_refl, Nat.zero_add, Nat.add_zero, List.length_cons, List.length_nil, Int32.reduceLT, Int32.reduceToNatClampNeg, Int32.reduceAdd, Int32.reduceSub, Int32.reduceMul, decide_true, aCall, aRecv, aObj, obj, List.take_succ_cons, List.take_zero, List.drop_succ_cons, List.drop_zero, List.reverse_cons, List.reverse_nil, List.nil_append, List.cons_append, List.append_nil, List.map_cons, List.map_nil, List.sum_cons, List.sum_nil, cat_int, cat_long, cat_ref, cat_null, Option.toList_some, Option.toList_none, build_4, size_4, en_4_0, en_4_1, en_4_2, en_4_3, en_4_4]
  refine t0_277f hgo (by decide) ?_
  refine t0_280 hgo rfl ?_
  refine t0_282 hgo ?_
  refine t0_284 hgo ?_
  refine t0_285 hgo ?_
  refine t0_287 hgo ?_
  refine res_of (u0_289 hgo) ?_
  simp only [eq_self, and_self, true_and, and_true, not_true_eq_false, not_false_eq_true, if_true, if_false, reduceIte, Option.bind_some, List.getElem?_cons_zero, List.getElem?_cons_succ, Nat.reduceAdd, Nat.reduceSub, Nat.reduceLT, Nat.reduceLeDiff, Nat.le_refl, Nat.zero_add, Nat.add_zero, List.length_cons, List.length_nil, Int32.reduceLT, Int32.reduceToNatClampNeg, Int32.reduceAdd, Int32.reduceSub, Int32.reduceMul, decide_true, aCall, aRecv, aObj, obj, List.take_succ_cons, List.take_zero, List.drop_succ_cons, List.drop_zero, List.reverse_cons, List.reverse_nil, List.nil_append, List.cons_append, List.append_nil, List.map_cons, List.map_nil, List.sum_cons, List.sum_nil, cat_int, cat_long, cat_ref, cat_null, Option.toList_some, Option.toList_none, build_4, size_4, en_4_0, en_4_1, en_4_2, en_4_3, en_4_4]
  refine t0_292f hgo (by decide) ?_
  refine t0_295 hgo ?_
  refine t0_296 hgo ?_
  refine t0_300 hgo ?_
  exact one_b
set_option maxRecDepth 65536 in
set_option maxHeartbeats 4000000 in
theorem tl_5 {go : Nat → St → Option ORes} (hgo : go = orun code ret E0 0) {l0 l1 l2 l3 l4 l6 l7 : Slot} {w0 w1 w2 w3 w4 c0 c1 c2 c3 c4 : Int32} {m : Nat} : Rsq (go (m + 120) (118, [l0, l1, l2, l3, l4, .val (.int 5), l6, l7, .val (.int w0), .val (.int w1), .val (.int w2), .val (.int w3), .val (.int w4), .val (.int c0), .val (.int c1), .val (.int c2), .val (.int c3), .val (.int c4), .unset, .unset], [], [], 0, 0)) OneI := by
  refine res_of (u0_118 hgo) ?_
  simp only [eq_self, and_self, true_and, and_true, not_true_eq_false, not_false_eq_true, if_true, if_false, reduceIte, Option.bind_some, List.getElem?_cons_zero, List.getElem?_cons_succ, Nat.reduceAdd, Nat.reduceSub, Nat.reduceLT, Nat.reduceLeDiff, Nat.le_refl, Nat.zero_add, Nat.add_zero, List.length_cons, List.length_nil, Int32.reduceLT, Int32.reduceToNatClampNeg, Int32.reduceAdd, Int32.reduceSub, Int32.reduceMul, decide_true, aNew, List.nil_append, List.cons_append, F1_eq, add_0, add_1, add_2, add_3, add_4]
  refine t0_121 hgo rfl ?_
  refine res_of (u0_122 hgo) ?_
  simp only [eq_self, and_self, true_and, and_true, not_true_eq_false, not_false_eq_true, if_true, if_false, reduceIte, Option.bind_some, List.getElem?_cons_zero, List.getElem?_cons_succ, Nat.reduceAdd, Nat.reduceSub, Nat.reduceLT, Nat.reduceLeDiff, Nat.le_refl, Nat.zero_add, Nat.add_zero, List.length_cons, List.length_nil, Int32.reduceLT, Int32.reduceToNatClampNeg, Int32.reduceAdd, Int32.reduceSub, Int32.reduceMul, decide_true, aCall, aRecv, aObj, obj, List.take_succ_cons, List.take_zero, List.drop_succ_cons, List.drop_zero, List.reverse_cons, List.reverse_nil, List.nil_append, List.cons_append, List.append_nil, List.map_cons, List.map_nil, List.sum_cons, List.sum_nil, cat_int, cat_long, cat_ref, cat_null, Option.toList_some, Option.toList_none, F1_eq, add_0, add_1, add_2, add_3, add_4]
  refine t0_125 hgo rfl rfl ?_
  refine t0_127 hgo ?_
  refine t0_129t hgo (by decide) ?_
  refine t0_132 hgo rfl ?_
  refine t0_134 hgo ?_
  refine t0_136 hgo ?_
  refine res_of (u0_138 hgo) ?_
  simp only [eq_self, and_self, true_and, and_true, not_true_eq_false, not_false_eq_true, if_true, if_false, reduceIte, Option.bind_some, List.getElem?_cons_zero, List.getElem?_cons_succ, Nat.reduceAdd, Nat.reduceSub, Nat.reduceLT, Nat.reduceLeDiff, Nat.le_refl, Nat.zero_add, Nat.add_zero, List.length_cons, List.length_nil, Int32.reduceLT, Int32.reduceToNatClampNeg, Int32.reduceAdd, Int32.reduceSub, Int32.reduceMul, decide_true, aCall, aRecv, aObj, obj, List.take_succ_cons, List.take_zero, List.drop_succ_cons, List.drop_zero, List.reverse_cons, List.reverse_nil, List.nil_append, List.cons_append, List.append_nil, List.map_cons, List.map_nil, List.sum_cons, List.sum_nil, cat_int, cat_long, cat_ref, cat_null, Option.toList_some, Option.toList_none, F1_eq, add_0, add_1, add_2, add_3, add_4]
  refine t0_141 hgo ?_
  refine t0_143 hgo ?_
  refine t0_144t hgo (by decide) ?_
  refine t0_147 hgo rfl ?_
  refine t0_149 hgo ?_
  refine t0_151 hgo ?_
  refine res_of (u0_153 hgo) ?_
  simp only [eq_self, and_self, true_and, and_true, not_true_eq_false, not_false_eq_true, if_true, if_false, reduceIte, Option.bind_some, List.getElem?_cons_zero, List.getElem?_cons_succ, Nat.reduceAdd, Nat.reduceSub, Nat.reduceLT, Nat.reduceLeDiff, Nat.le_refl, Nat.zero_add, Nat.add_zero, List.length_cons, List.length_nil, Int32.reduceLT, Int32.reduceToNatClampNeg, Int32.reduceAdd, Int32.reduceSub, Int32.reduceMul, decide_true, aCall, aRecv, aObj, obj, List.take_succ_cons, List.take_zero, List.drop_succ_cons, List.drop_zero, List.reverse_cons, List.reverse_nil, List.nil_append, List.cons_append, List.append_nil, List.map_cons, List.map_nil, List.sum_cons, List.sum_nil, cat_int, cat_long, cat_ref, cat_null, Option.toList_some, Option.toList_none, F1_eq, add_0, add_1, add_2, add_3, add_4]
  refine t0_156 hgo ?_
  refine t0_158 hgo ?_
  refine t0_159t hgo (by decide) ?_
  refine t0_162 hgo rfl ?_
  refine t0_164 hgo ?_
  refine t0_166 hgo ?_
  refine res_of (u0_168 hgo) ?_
  simp only [eq_self, and_self, true_and, and_true, not_true_eq_false, not_false_eq_true, if_true, if_false, reduceIte, Option.bind_some, List.getElem?_cons_zero, List.getElem?_cons_succ, Nat.reduceAdd, Nat.reduceSub, Nat.reduceLT, Nat.reduceLeDiff, Nat.le_refl, Nat.zero_add, Nat.add_zero, List.length_cons, List.length_nil, Int32.reduceLT, Int32.reduceToNatClampNeg, Int32.reduceAdd, Int32.reduceSub, Int32.reduceMul, decide_true, aCall, aRecv, aObj, obj, List.take_succ_cons, List.take_zero, List.drop_succ_cons, List.drop_zero, List.reverse_cons, List.reverse_nil, List.nil_append, List.cons_append, List.append_nil, List.map_cons, List.map_nil, List.sum_cons, List.sum_nil, cat_int, cat_long, cat_ref, cat_null, Option.toList_some, Option.toList_none, F1_eq, add_0, add_1, add_2, add_3, add_4]
  refine t0_171 hgo ?_
  refine t0_173 hgo ?_
  refine t0_174t hgo (by decide) ?_
  refine t0_177 hgo rfl ?_
  refine t0_179 hgo ?_
  refine t0_181 hgo ?_
  refine res_of (u0_183 hgo) ?_
  simp only [eq_self, and_self, true_and, and_true, not_true_eq_false, not_false_eq_true, if_true, if_false, reduceIte, Option.bind_some, List.getElem?_cons_zero, List.getElem?_cons_succ, Nat.reduceAdd, Nat.reduceSub, Nat.reduceLT, Nat.reduceLeDiff, Nat.le_refl, Nat.zero_add, Nat.add_zero, List.length_cons, List.length_nil, Int32.reduceLT, Int32.reduceToNatClampNeg, Int32.reduceAdd, Int32.reduceSub, Int32.reduceMul, decide_true, aCall, aRecv, aObj, obj, List.take_succ_cons, List.take_zero, List.drop_succ_cons, List.drop_zero, List.reverse_cons, List.reverse_nil, List.nil_append, List.cons_append, List.append_nil, List.map_cons, List.map_nil, List.sum_cons, List.sum_nil, cat_int, cat_long, cat_ref, cat_null, Option.toList_some, Option.toList_none, F1_eq, add_0, add_1, add_2, add_3, add_4]
  refine t0_186 hgo ?_
  refine t0_188 hgo ?_
  refine t0_189t hgo (by decide) ?_
  refine t0_192 hgo rfl ?_
  refine t0_194 hgo ?_
  refine t0_196 hgo ?_
  refine res_of (u0_198 hgo) ?_
  simp only [eq_self, and_self, true_and, and_true, not_true_eq_false, not_false_eq_true, if_true, if_false, reduceIte, Option.bind_some, List.getElem?_cons_zero, List.getElem?_cons_succ, Nat.reduceAdd, Nat.reduceSub, Nat.reduceLT, Nat.reduceLeDiff, Nat.le_refl, Nat.zero_add, Nat.add_zero, List.length_cons, List.length_nil, Int32.reduceLT, Int32.reduceToNatClampNeg, Int32.reduceAdd, Int32.reduceSub, Int32.reduceMul, decide_true, aCall, aRecv, aObj, obj, List.take_succ_cons, List.take_zero, List.drop_succ_cons, List.drop_zero, List.reverse_cons, List.reverse_nil, List.nil_append, List.cons_append, List.append_nil, List.map_cons, List.map_nil, List.sum_cons, List.sum_nil, cat_int, cat_long, cat_ref, cat_null, Option.toList_some, Option.toList_none, F1_eq, add_0, add_1, add_2, add_3, add_4]
  refine t0_201 hgo rfl ?_
  refine res_of (u0_203 hgo) ?_
  simp only [eq_self, and_self, true_and, and_true, not_true_eq_false, not_false_eq_true, if_true, if_false, reduceIte, Option.bind_some, List.getElem?_cons_zero, List.getElem?_cons_succ, Nat.reduceAdd, Nat.reduceSub, Nat.reduceLT, Nat.reduceLeDiff, Nat.le_refl, Nat.zero_add, Nat.add_zero, List.length_cons, List.length_nil, Int32.reduceLT, Int32.reduceToNatClampNeg, Int32.reduceAdd, Int32.reduceSub, Int32.reduceMul, decide_true, aCall, aRecv, aObj, obj, List.take_succ_cons, List.take_zero, List.drop_succ_cons, List.drop_zero, List.reverse_cons, List.reverse_nil, List.nil_append, List.cons_append, List.append_nil, List.map_cons, List.map_nil, List.sum_cons, List.sum_nil, cat_int, cat_long, cat_ref, cat_null, Option.toList_some, Option.toList_none, build_5, size_5, en_5_0, en_5_1, en_5_2, en_5_3, en_5_4]
  refine t0_206 hgo rfl rfl ?_
  refine t0_208 hgo rfl ?_
  refine res_of (u0_210 hgo) ?_
  simp only [eq_self, and_self, true_and, and_true, not_true_eq_false, not_false_eq_true, if_true, if_false, reduceIte, Option.bind_some, List.getElem?_cons_zero, List.getElem?_cons_succ, Nat.reduceAdd, Nat.reduceSub, Nat.reduceLT, Nat.reduceLeDiff, Nat.le_refl, Nat.zero_add, Nat.add_zero, List.length_cons, List.length_nil, Int32.reduceLT, Int32.reduceToNatClampNeg, Int32.reduceAdd, Int32.reduceSub, Int32.reduceMul, decide_true, aCall, aRecv, aObj, obj, List.take_succ_cons, List.take_zero, List.drop_succ_cons, List.drop_zero, List.reverse_cons, List.reverse_nil, List.nil_append, List.cons_append, List.append_nil, List.map_cons, List.map_nil, List.sum_cons, List.sum_nil, cat_int, cat_long, cat_ref, cat_null, Option.toList_some, Option.toList_none, build_5, size_5, en_5_0, en_5_1, en_5_2, en_5_3, en_5_4]
  refine t0_213 hgo ?_
  refine t0_215t hgo rfl ?_
  refine t0_220 hgo rfl ?_
  refine t0_222 hgo ?_
  refine t0_224 hgo ?_
  refine t0_225 hgo ?_
  refine t0_227 hgo ?_
  refine res_of (u0_229 hgo) ?_
  simp only [eq_self, and_self, true_and, and_true, not_true_eq_false, not_false_eq_true, if_true, if_false, reduceIte, Option.bind_some, List.getElem?_cons_zero, List.getElem?_cons_succ, Nat.reduceAdd, Nat.reduceSub, Nat.reduceLT, Nat.reduceLeDiff, Nat.le_refl, Nat.zero_add, Nat.add_zero, List.length_cons, List.length_nil, Int32.reduceLT, Int32.reduceToNatClampNeg, Int32.reduceAdd, Int32.reduceSub, Int32.reduceMul, decide_true, aCall, aRecv, aObj, obj, List.take_succ_cons, List.take_zero, List.drop_succ_cons, List.drop_zero, List.reverse_cons, List.reverse_nil, List.nil_append, List.cons_append, List.append_nil, List.map_cons, List.map_nil, List.sum_cons, List.sum_nil, cat_int, cat_long, cat_ref, cat_null, Option.toList_some, Option.toList_none, build_5, size_5, en_5_0, en_5_1, en_5_2, en_5_3, en_5_4]
  refine t0_232f hgo (by decide) ?_
  refine t0_235 hgo rfl ?_
  refine t0_237 hgo ?_
  refine t0_239 hgo ?_
  refine t0_240 hgo ?_
  refine t0_242 hgo ?_
  refine res_of (u0_244 hgo) ?_
  simp only [eq_self, and_self, true_and, and_true, not_true_eq_false, not_false_eq_true, if_true, if_false, reduceIte, Option.bind_some, List.getElem?_cons_zero, List.getElem?_cons_succ, Nat.reduceAdd, Nat.reduceSub, Nat.reduceLT, Nat.reduceLeDiff, Nat.le_refl, Nat.zero_add, Nat.add_zero, List.length_cons, List.length_nil, Int32.reduceLT, Int32.reduceToNatClampNeg, Int32.reduceAdd, Int32.reduceSub, Int32.reduceMul, decide_true, aCall, aRecv, aObj, obj, List.take_succ_cons, List.take_zero, List.drop_succ_cons, List.drop_zero, List.reverse_cons, List.reverse_nil, List.nil_append, List.cons_append, List.append_nil, List.map_cons, List.map_nil, List.sum_cons, List.sum_nil, cat_int, cat_long, cat_ref, cat_null, Option.toList_some, Option.toList_none, build_5, size_5, en_5_0, en_5_1, en_5_2, en_5_3, en_5_4]
  refine t0_247f hgo (by decide) ?_
  refine t0_250 hgo rfl ?_
  refine t0_252 hgo ?_
  refine t0_254 hgo ?_
  refine t0_255 hgo ?_
  refine t0_257 hgo ?_
  refine res_of (u0_259 hgo) ?_
  simp only [eq_self, and_self, true_and, and_true, not_true_eq_false, not_false_eq_true, if_true, if_false, reduceIte, Option.bind_some, List.getElem?_cons_zero, List.getElem?_cons_succ, Nat.reduceAdd, Nat.reduceSub, Nat.reduceLT, Nat.reduceLeDiff, Nat.le_refl, Nat.zero_add, Nat.add_zero, List.length_cons, List.length_nil, Int32.reduceLT, Int32.reduceToNatClampNeg, Int32.reduceAdd, Int32.reduceSub, Int32.reduceMul, decide_true, aCall, aRecv, aObj, obj, List.take_succ_cons, List.take_zero, List.drop_succ_cons, List.drop_zero, List.reverse_cons, List.reverse_nil, List.nil_append, List.cons_append, List.append_nil, List.map_cons, List.map_nil, List.sum_cons, List.sum_nil, cat_int, cat_long, cat_ref, cat_null, Option.toList_some, Option.toList_none, build_5, size_5, en_5_0, en_5_1, en_5_2, en_5_3, en_5_4]
  refine t0_262f hgo (by decide) ?_
  refine t0_265 hgo rfl ?_
  refine t0_267 hgo ?_
  refine t0_269 hgo ?_
  refine t0_270 hgo ?_
  refine t0_272 hgo ?_
  refine res_of (u0_274 hgo) ?_
  simp only [eq_self, and_self, true_and, and_true, not_true_eq_false, not_false_eq_true, if_true, if_false, reduceIte, Option.bind_some, List.getElem?_cons_zero, List.getElem?_cons_succ, Nat.reduceAdd, Nat.reduceSub, Nat.reduceLT, Nat.reduceLeDiff, Nat.le_refl, Nat.zero_add, Nat.add_zero, List.length_cons, List.length_nil, Int32.reduceLT, Int32.reduceToNatClampNeg, Int32.reduceAdd, Int32.reduceSub, Int32.reduceMul, decide_true, aCall, aRecv, aObj, obj, List.take_succ_cons, List.take_zero, List.drop_succ_cons, List.drop_zero, List.reverse_cons, List.reverse_nil, List.nil_append, List.cons_append, List.append_nil, List.map_cons, List.map_nil, List.sum_cons, List.sum_nil, cat_int, cat_long, cat_ref, cat_null, Option.toList_some, Option.toList_none, build_5, size_5, en_5_0, en_5_1, en_5_2, en_5_3, en_5_4]
  refine t0_277f hgo (by decide) ?_
  refine t0_280 hgo rfl ?_
  refine t0_282 hgo ?_
  refine t0_284 hgo ?_
  refine t0_285 hgo ?_
  refine t0_287 hgo ?_
  refine res_of (u0_289 hgo) ?_
  simp only [eq_self, and_self, true_and, and_true, not_true_eq_false, not_false_eq_true, if_true, if_false, reduceIte, Option.bind_some, List.getElem?_cons_zero, List.getElem?_cons_succ, Nat.reduceAdd, Nat.reduceSub, Nat.reduceLT, Nat.reduceLeDiff, Nat.le_refl, Nat.zero_add, Nat.add_zero, List.length_cons, List.length_nil, Int32.reduceLT, Int32.reduceToNatClampNeg, Int32.reduceAdd, Int32.reduceSub, Int32.reduceMul, decide_true, aCall, aRecv, aObj, obj, List.take_succ_cons, List.take_zero, List.drop_succ_cons, List.drop_zero, List.reverse_cons, List.reverse_nil, List.nil_append, List.cons_append, List.append_nil, List.map_cons, List.map_nil, List.sum_cons, List.sum_nil, cat_int, cat_long, cat_ref, cat_null, Option.toList_some, Option.toList_none, build_5, size_5, en_5_0, en_5_1, en_5_2, en_5_3, en_5_4]
  refine t0_292f hgo (by decide) ?_
  refine t0_295 hgo ?_
  refine t0_296 hgo ?_
  refine t0_300 hgo ?_
  exact one_b
theorem own_six (x : Int32) : (x &&& 2147483647) % 6 = 0 ∨ (x &&& 2147483647) % 6 = 1 ∨ (x &&& 2147483647) % 6 = 2 ∨ (x &&& 2147483647) % 6 = 3 ∨ (x &&& 2147483647) % 6 = 4 ∨ (x &&& 2147483647) % 6 = 5 := by
  have h1 := c_and x 2147483647 (by decide)
  have h2 := (c_irem (x &&& 2147483647) 6 6 (by decide)).1 h1.1
  simp only [← Int32.toInt_inj, Int32.reduceToInt]; omega
set_option maxRecDepth 65536 in
set_option maxHeartbeats 4000000 in
theorem law_val (v0 v1 v2 v3 v4 : Int32) : ∃ H', F0 [.int v0, .int v1, .int v2, .int v3, .int v4] [] = some (some (.int 1), H') := by
  refine one_of f0_in fun go hgo => ?_
  have hx := own_six v0
  refine t0_0 hgo ?_
  refine t0_1 hgo ?_
  refine t0_3 hgo ?_
  refine t0_4 hgo ?_
  refine t0_6 hgo (by decide) ?_
  refine t0_7 hgo rfl ?_
  refine t0_9 hgo ?_
  refine t0_10 hgo ?_
  refine t0_11 hgo ?_
  refine t0_12 hgo rfl ?_
  refine t0_14 hgo ?_
  refine t0_15 hgo ?_
  refine t0_17 hgo ?_
  refine t0_18 hgo ?_
  refine t0_19 hgo ?_
  refine t0_20 hgo rfl ?_
  refine t0_22 hgo ?_
  refine t0_24 hgo rfl ?_
  refine t0_26 hgo ?_
  refine t0_28 hgo ?_
  refine t0_30 hgo ?_
  refine t0_31 hgo rfl ?_
  refine t0_33 hgo ?_
  refine t0_35 hgo ?_
  refine t0_36 hgo ?_
  refine t0_38 hgo ?_
  refine t0_39 hgo ?_
  refine t0_40 hgo rfl ?_
  refine t0_42 hgo ?_
  refine t0_44 hgo ?_
  refine t0_45 hgo ?_
  refine t0_47 hgo ?_
  refine t0_48 hgo ?_
  refine t0_49 hgo rfl ?_
  refine t0_51 hgo ?_
  refine t0_53 hgo ?_
  refine t0_54 hgo ?_
  refine t0_56 hgo ?_
  refine t0_57 hgo ?_
  refine t0_58 hgo rfl ?_
  refine t0_60 hgo ?_
  refine t0_61 hgo ?_
  refine t0_62 hgo ?_
  refine t0_64 hgo ?_
  refine t0_65 hgo ?_
  refine t0_66 hgo rfl ?_
  refine t0_68 hgo ?_
  refine t0_69 hgo ?_
  refine t0_70 hgo ?_
  refine t0_72 hgo ?_
  refine t0_73 hgo ?_
  refine t0_75 hgo ?_
  refine t0_76 hgo ?_
  refine t0_77 hgo rfl ?_
  refine t0_79 hgo ?_
  refine t0_80 hgo ?_
  refine t0_81 hgo ?_
  refine t0_82 hgo ?_
  refine t0_84 hgo ?_
  refine t0_85 hgo ?_
  refine t0_86 hgo ?_
  refine t0_88 hgo ?_
  refine t0_89 hgo ?_
  refine t0_90 hgo rfl ?_
  refine t0_92 hgo ?_
  refine t0_93 hgo ?_
  refine t0_94 hgo ?_
  refine t0_95 hgo ?_
  refine t0_97 hgo ?_
  refine t0_98 hgo ?_
  refine t0_99 hgo ?_
  refine t0_101 hgo ?_
  refine t0_102 hgo ?_
  refine t0_103 hgo rfl ?_
  refine t0_105 hgo ?_
  refine t0_106 hgo ?_
  refine t0_107 hgo ?_
  refine t0_108 hgo ?_
  refine t0_110 hgo ?_
  refine t0_111 hgo ?_
  refine t0_112 hgo ?_
  refine t0_114 hgo ?_
  refine t0_115 hgo ?_
  refine t0_116 hgo rfl ?_
  generalize (v0 &&& 2147483647) % 6 = x at *
  rcases hx with rfl | rfl | rfl | rfl | rfl | rfl
  · exact tl_0 hgo
  · exact tl_1 hgo
  · exact tl_2 hgo
  · exact tl_3 hgo
  · exact tl_4 hgo
  · exact tl_5 hgo
set_option maxRecDepth 65536 in
set_option maxHeartbeats 40000000 in
theorem comes_1 {Post : Tables → Env → Array Value → State → Outcome → State → Prop} (hpost : ∀ tb e args s v u, (limb_1_1.after args s (.returned v) u = true ∧ limb_1_2.after args s (.returned v) u = true ∧ True) → FrameEnd s (.returned v) u (Jvm.fieldLocs frame_1_writes args s ++ Jvm.arrayLocs frame_1_arrays args s ++ Jvm.staticLocs frame_1_statics s) 24 192 → Post tb e args s (.returned v) u) :
    ArmFor flags0 classFile x code maxLocals ret World_1 tables_1 room_1 Calls_1 rest_1 Pre_1 Post := by
  intro l hfl _ _ p e ha hc hk s m args below hf hA hF happ hP
  obtain ⟨hcalls, hrest, hpre⟩ := hP
  obtain ⟨-, -, -, hnamed, -, -, -, hat⟩ := (Spec.applies_iff hf).mp happ
  obtain ⟨hg, hn⟩ := and_e (Cond.before_iff.mp (show (Jvm.Cond.and given_1 narrow_1).before args s = true from hpre))
  obtain ⟨g0, g1⟩ := and_e hg
  obtain ⟨i1, g2⟩ := and_e g1
  obtain ⟨i2, g3⟩ := and_e g2
  obtain ⟨i3, g4⟩ := and_e g3
  obtain ⟨i4, g5⟩ := and_e g4
  obtain ⟨w0, w1, w2, w3, w4, rfl⟩ : ∃ w0 w1 w2 w3 w4 : Value, args = #[w0, w1, w2, w3, w4] := by
    have hs : args.size = 5 := by simpa [Cond.value, given_1] using g0
    obtain ⟨L⟩ := args
    match L, hs with
    | [w0, w1, w2, w3, w4], _ => exact ⟨w0, w1, w2, w3, w4, rfl⟩
  have hw := fun d (hd : d ∈ tables_1) => atoms_spec (ws := Jvm.Cond.code x code maxLocals ret :: tables_1) hat d (List.mem_cons_of_mem _ hd)
  obtain ⟨v0, e0⟩ := is_v i1
  obtain rfl : w0 = (.int v0) := Option.some.inj e0
  obtain ⟨v1, e1⟩ := is_v i2
  obtain rfl : w1 = (.int v1) := Option.some.inj e1
  obtain ⟨v2, e2⟩ := is_v i3
  obtain rfl : w2 = (.int v2) := Option.some.inj e2
  obtain ⟨v3, e3⟩ := is_v i4
  obtain rfl : w3 = (.int v3) := Option.some.inj e3
  obtain ⟨v4, e4⟩ := is_v g5
  obtain rfl : w4 = (.int v4) := Option.some.inj e4
  obtain ⟨H', hv⟩ := law_val v0 v1 v2 v3 v4
  obtain ⟨n, o, h1, h2, h3, _, L, rfl, ⟨rfl, -, N⟩, hq⟩ := says0 l (Z := s) (σ := fun k => s.heap.size + k) (n0 := s.heap.size) sg_start hw _ _ _ s.heap hv rep_start p e ha hc hk s m _ below hf ((Spec.applies_iff_loose hf).mp happ).1 ⟨rfl, State.Warmed39.refl s, rfl⟩ trivial
  refine ⟨n, _, h1, h2, h3, hpost _ _ _ _ _ _ ⟨Cond.after_iff.mpr rfl, Cond.after_iff.mpr (eq_i res_at (Term.int_eval (1)) rfl), trivial⟩ ⟨hq.1, hq.2.1, (hq.2.2.sift fun y hy => Or.inr (N y hy)).mono (by decide) (by decide)⟩⟩
theorem main_1_1 : Claimed_1_1 := comes_1 fun _ _ _ _ _ _ h hF => ⟨h.1, hF⟩
theorem main_1_2 : Claimed_1_2 := comes_1 fun _ _ _ _ _ _ h hF => ⟨h.2.1, hF⟩
end Jvm.Pilot.@@N@@
namespace Jvm.Pilot.@@N@@
open Jvm Jvm.ClassFile Sem Op Lib Jvm.Free Jvm.Stand Jvm.Pilot.@@N@@.Jvm.D
/-! MADE BY PROGRAM (witnessworld.py) out of the Statement's table words and the real class files: 13 classes; the members and pool entries that the words name. The judged class is class 1, her method 1. -/
namespace start1
open Jvm.ClassFile
def u (s : String) : CpInfo := .utf8 (stringToUtf16 s)
/-- a pool by its gaps: so many unusable entries, then the entry; so many at the end -/
def gap : Nat → List CpInfo → List CpInfo
  | 0, r => r
  | n + 1, r => .unusable :: gap n r
def poolList (es : List (Nat × CpInfo)) (last : Nat) : List CpInfo := es.foldr (fun e r => gap e.1 (e.2 :: r)) (gap last [])
def pool (es : List (Nat × CpInfo)) (last : Nat) : Array CpInfo := ⟨poolList es last⟩
def fileOf (pool : Array CpInfo) (this : Nat) (attrs : Array Attribute := #[]) (ms : Array MethodInfo := #[]) (fl : Nat := 33) (sup : Nat := 0) (ifs : Array Nat := #[]) (fds : Array FieldInfo := #[]) : ClassFile where
  minorVersion := 0
  majorVersion := 65
  constantPool := pool
  accessFlags := fl
  thisClass := this
  superClass := sup
  interfaces := ifs
  fields := fds
  methods := ms
  attributes := attrs
def plain (name : String) (sup : Option ClassId) : Class where
  name := name
  kind := .ordinary
  loader := none
  accessFlags := 33
  super := sup
  interfaces := #[]
  cf := none
  fields := #[]
  methods := #[]
  instanceTypes := #[]
  staticTypes := #[]
  resolved := #[]
  callSites := []
  init := .initialized
  statics := none
  mirror := none

def pool0 : Array CpInfo := pool [(5, u "<init>"), (0, u "()V"), (1, .class_ 10), (1, u "java/lang/Object"), (85, u "clone"), (0, u "()Ljava/lang/Object;")] 26

def k0c0 : Code := { maxStack := 0, maxLocals := 1, code := object_method_1_code, exceptionTable := #[], attributes := #[] }
def k0m0 : Method := { name := "<init>", desc := "()V", sig := { parameters := [], returnType := none }, accessFlags := 1, code := some k0c0 }
def k0m1 : Method := { name := "clone", desc := "()Ljava/lang/Object;", sig := { parameters := [], returnType := some (.object "java/lang/Object") }, accessFlags := 260, code := none }
/-- java/lang/Object -/
def k0 : Class := { plain "java/lang/Object" none with
  accessFlags := 33
  interfaces := #[]
  cf := some (fileOf pool0 8 #[] #[{ accessFlags := 1, nameIndex := 5, descriptorIndex := 6, attributes := #[] }, { accessFlags := 260, nameIndex := 96, descriptorIndex := 97, attributes := #[] }] 33 0 #[] #[])
  fields := #[]
  methods := #[k0m0, k0m1]
  instanceTypes := #[]
  staticTypes := #[]
  resolved := Array.replicate 124 none
  statics := none }

def pool1 : Array CpInfo := pool [(2, .class_ 4), (0, .nameAndType 5 6), (0, u "java/lang/Object"), (0, u "<init>"), (0, u "()V"), (0, .integer 2147483647), (0, .integer 268435455), (0, .integer 1073741823), (0, .class_ 11), (0, u "com/example/mithi/mithi/index/Postings$Builder"), (0, .methodref 10 3), (0, .methodref 10 14), (0, .nameAndType 15 16), (0, u "add"), (0, u "(II)V"), (0, .methodref 10 18), (0, .nameAndType 19 20), (0, u "build"), (0, u "()Lcom/example/mithi/mithi/index/Postings;"), (0, .methodref 22 23), (0, .class_ 24), (0, .nameAndType 25 26), (0, u "com/example/mithi/mithi/index/Postings"), (0, u "size"), (0, u "()I"), (0, .methodref 28 29), (0, .class_ 30), (0, .nameAndType 31 32), (0, u "com/example/mithi/mithi/index/PostingsBuilderBuildPinLaw"), (0, u "entry"), (0, u "(Lcom/example/mithi/mithi/index/Postings;IIII)Z"), (0, .methodref 22 34), (0, .nameAndType 35 36), (0, u "value"), (0, u "(I)I"), (0, .methodref 22 38), (0, .nameAndType 39 36), (0, u "count"), (2, u "law"), (0, u "(IIIII)Z")] 5

def k1m0 : Method := { name := "<init>", desc := "()V", sig := { parameters := [], returnType := none }, accessFlags := 1, code := none }
def k1c1 : Code := { maxStack := 5, maxLocals := 20, code := code, exceptionTable := #[], attributes := #[] }
def k1m1 : Method := { name := "law", desc := "(IIIII)Z", sig := { parameters := [.int, .int, .int, .int, .int], returnType := some .boolean }, accessFlags := 9, code := some k1c1 }
def k1c2 : Code := { maxStack := 2, maxLocals := 5, code := method_3_code, exceptionTable := #[], attributes := #[] }
def k1m2 : Method := { name := "entry", desc := "(Lcom/example/mithi/mithi/index/Postings;IIII)Z", sig := { parameters := [(.object "com/example/mithi/mithi/index/Postings"), .int, .int, .int, .int], returnType := some .boolean }, accessFlags := 10, code := some k1c2 }
/-- com/example/mithi/mithi/index/PostingsBuilderBuildPinLaw -/
def k1 : Class := { plain "com/example/mithi/mithi/index/PostingsBuilderBuildPinLaw" (some 0) with
  accessFlags := 49
  interfaces := #[]
  cf := some (fileOf pool1 28 #[] #[{ accessFlags := 1, nameIndex := 5, descriptorIndex := 6, attributes := #[] }, { accessFlags := 9, nameIndex := 42, descriptorIndex := 43, attributes := #[] }, { accessFlags := 10, nameIndex := 31, descriptorIndex := 32, attributes := #[] }] 49 2 #[] #[])
  fields := #[]
  methods := #[k1m0, k1m1, k1m2]
  instanceTypes := #[]
  staticTypes := #[]
  resolved := Array.replicate 49 none
  statics := none }

def pool2 : Array CpInfo := pool [(1, .methodref 2 3), (0, .class_ 4), (0, .nameAndType 5 6), (0, u "java/lang/Object"), (0, u "<init>"), (0, u "()V"), (0, .fieldref 8 9), (0, .class_ 10), (0, .nameAndType 11 12), (0, u "com/example/mithi/mithi/index/Postings$Builder"), (0, u "values"), (0, u "[I"), (0, .fieldref 8 14), (0, .nameAndType 15 12), (0, u "counts"), (0, .fieldref 8 17), (0, .nameAndType 18 19), (0, u "size"), (0, u "I"), (0, .methodref 21 22), (0, .class_ 23), (0, .nameAndType 24 25), (0, u "java/util/Arrays"), (0, u "copyOf"), (0, u "([II)[I"), (0, .class_ 27), (0, u "com/example/mithi/mithi/index/Postings"), (0, .methodref 26 29), (0, .nameAndType 5 30), (0, u "([I[I)V"), (2, u "add"), (0, u "(II)V"), (1, u "build"), (0, u "()Lcom/example/mithi/mithi/index/Postings;")] 5

def k2c0 : Code := { maxStack := 2, maxLocals := 1, code := prog_22_method_1_code, exceptionTable := #[], attributes := #[] }
def k2m0 : Method := { name := "<init>", desc := "()V", sig := { parameters := [], returnType := none }, accessFlags := 0, code := some k2c0 }
def k2c1 : Code := { maxStack := 4, maxLocals := 3, code := prog_22_method_2_code, exceptionTable := #[], attributes := #[] }
def k2m1 : Method := { name := "add", desc := "(II)V", sig := { parameters := [.int, .int], returnType := none }, accessFlags := 0, code := some k2c1 }
def k2c2 : Code := { maxStack := 5, maxLocals := 1, code := prog_22_method_3_code, exceptionTable := #[], attributes := #[] }
def k2m2 : Method := { name := "build", desc := "()Lcom/example/mithi/mithi/index/Postings;", sig := { parameters := [], returnType := some (.object "com/example/mithi/mithi/index/Postings") }, accessFlags := 0, code := some k2c2 }
/-- com/example/mithi/mithi/index/Postings$Builder -/
def k2 : Class := { plain "com/example/mithi/mithi/index/Postings$Builder" (some 0) with
  accessFlags := 48
  interfaces := #[]
  cf := some (fileOf pool2 8 #[.nestHost 26] #[{ accessFlags := 0, nameIndex := 5, descriptorIndex := 6, attributes := #[] }, { accessFlags := 0, nameIndex := 33, descriptorIndex := 34, attributes := #[] }, { accessFlags := 0, nameIndex := 36, descriptorIndex := 37, attributes := #[] }] 48 2 #[] #[{ accessFlags := 2, nameIndex := 11, descriptorIndex := 12, attributes := #[] }, { accessFlags := 2, nameIndex := 15, descriptorIndex := 12, attributes := #[] }, { accessFlags := 2, nameIndex := 18, descriptorIndex := 19, attributes := #[] }])
  fields := #[{ name := "values", type := (.array .int), accessFlags := 2, slot := 0, constantValue := 0 }, { name := "counts", type := (.array .int), accessFlags := 2, slot := 1, constantValue := 0 }, { name := "size", type := .int, accessFlags := 2, slot := 2, constantValue := 0 }]
  methods := #[k2m0, k2m1, k2m2]
  instanceTypes := #[(.array .int), (.array .int), .int]
  staticTypes := #[]
  resolved := Array.replicate 43 none
  statics := none }

def pool3 : Array CpInfo := pool [(1, .methodref 2 3), (0, .class_ 4), (0, .nameAndType 5 6), (0, u "java/lang/Object"), (0, u "<init>"), (0, u "()V"), (0, .fieldref 8 9), (0, .class_ 10), (0, .nameAndType 11 12), (0, u "com/example/mithi/mithi/index/Postings"), (0, u "values"), (0, u "[I"), (0, .fieldref 8 14), (0, .nameAndType 15 12), (0, u "counts"), (2, u "([I[I)V"), (2, u "NONE"), (0, u "Lcom/example/mithi/mithi/index/Postings;"), (2, u "size"), (0, u "()I"), (0, u "value"), (0, u "(I)I"), (0, u "count"), (4, .class_ 35), (0, u "com/example/mithi/mithi/index/Postings$Builder")] 2

def k3c0 : Code := { maxStack := 2, maxLocals := 3, code := prog_21_method_1_code, exceptionTable := #[], attributes := #[] }
def k3m0 : Method := { name := "<init>", desc := "([I[I)V", sig := { parameters := [(.array .int), (.array .int)], returnType := none }, accessFlags := 0, code := some k3c0 }
def k3c1 : Code := { maxStack := 1, maxLocals := 1, code := prog_21_method_2_code, exceptionTable := #[], attributes := #[] }
def k3m1 : Method := { name := "size", desc := "()I", sig := { parameters := [], returnType := some .int }, accessFlags := 1, code := some k3c1 }
def k3c2 : Code := { maxStack := 2, maxLocals := 2, code := prog_21_method_3_code, exceptionTable := #[], attributes := #[] }
def k3m2 : Method := { name := "value", desc := "(I)I", sig := { parameters := [.int], returnType := some .int }, accessFlags := 1, code := some k3c2 }
def k3c3 : Code := { maxStack := 2, maxLocals := 2, code := prog_21_method_4_code, exceptionTable := #[], attributes := #[] }
def k3m3 : Method := { name := "count", desc := "(I)I", sig := { parameters := [.int], returnType := some .int }, accessFlags := 1, code := some k3c3 }
/-- com/example/mithi/mithi/index/Postings -/
def k3 : Class := { plain "com/example/mithi/mithi/index/Postings" (some 0) with
  accessFlags := 49
  interfaces := #[]
  cf := some (fileOf pool3 8 #[.nestMembers #[34]] #[{ accessFlags := 0, nameIndex := 5, descriptorIndex := 18, attributes := #[] }, { accessFlags := 1, nameIndex := 25, descriptorIndex := 26, attributes := #[] }, { accessFlags := 1, nameIndex := 27, descriptorIndex := 28, attributes := #[] }, { accessFlags := 1, nameIndex := 29, descriptorIndex := 28, attributes := #[] }] 49 2 #[] #[{ accessFlags := 24, nameIndex := 21, descriptorIndex := 22, attributes := #[] }, { accessFlags := 18, nameIndex := 11, descriptorIndex := 12, attributes := #[] }, { accessFlags := 18, nameIndex := 15, descriptorIndex := 12, attributes := #[] }])
  fields := #[{ name := "NONE", type := (.object "com/example/mithi/mithi/index/Postings"), accessFlags := 24, slot := 0, constantValue := 0 }, { name := "values", type := (.array .int), accessFlags := 18, slot := 0, constantValue := 0 }, { name := "counts", type := (.array .int), accessFlags := 18, slot := 1, constantValue := 0 }]
  methods := #[k3m0, k3m1, k3m2, k3m3]
  instanceTypes := #[(.array .int), (.array .int)]
  staticTypes := #[(.object "com/example/mithi/mithi/index/Postings")]
  resolved := Array.replicate 38 none
  statics := none }

def pool4 : Array CpInfo := pool [(2, .class_ 4), (1, u "java/lang/Object"), (0, u "<init>"), (0, u "()V"), (7, .class_ 16), (1, u "java/util/Arrays"), (57, .class_ 76), (1, u "java/util/Arrays$NaturalOrder"), (32, u "()Ljava/lang/Object;"), (3, .class_ 115), (1, u "java/util/Arrays$LegacyMergeSort"), (1, u "Z"), (10, .nameAndType 129 109), (0, u "clone"), (20, .methodref 151 152), (0, .class_ 153), (0, .nameAndType 154 155), (0, u "java/lang/System"), (0, u "arraycopy"), (0, u "(Ljava/lang/Object;ILjava/lang/Object;II)V"), (146, u "copyOf"), (1, .methodref 305 306), (0, .class_ 307), (0, .nameAndType 308 309), (0, u "java/lang/Math"), (0, u "min"), (0, u "(II)I"), (6, .methodref 317 128), (0, .class_ 318), (0, u "[I"), (56, .class_ 376), (0, u "java/util/Arrays$ArrayList"), (68, u "$assertionsDisabled"), (269, u "MIN_ARRAY_SORT_GRAN"), (0, u "I"), (2, u "INSERTIONSORT_THRESHOLD"), (151, u "([II)[I"), (103, .class_ 976), (0, u "java/util/Arrays$ArrayItr")] 52

def k4m0 : Method := { name := "<init>", desc := "()V", sig := { parameters := [], returnType := none }, accessFlags := 2, code := none }
def k4c1 : Code := { maxStack := 6, maxLocals := 3, code := jdk_65_method_123_code, exceptionTable := #[], attributes := #[] }
def k4m1 : Method := { name := "copyOf", desc := "([II)[I", sig := { parameters := [(.array .int), .int], returnType := some (.array .int) }, accessFlags := 9, code := some k4c1 }
/-- java/util/Arrays -/
def k4 : Class := { plain "java/util/Arrays" (some 0) with
  accessFlags := 49
  interfaces := #[]
  cf := some (fileOf pool4 14 #[.nestMembers #[975, 375, 113, 74]] #[{ accessFlags := 2, nameIndex := 5, descriptorIndex := 6, attributes := #[] }, { accessFlags := 9, nameIndex := 302, descriptorIndex := 871, attributes := #[] }] 49 2 #[] #[{ accessFlags := 26, nameIndex := 715, descriptorIndex := 716, attributes := #[] }, { accessFlags := 26, nameIndex := 719, descriptorIndex := 716, attributes := #[] }, { accessFlags := 4120, nameIndex := 445, descriptorIndex := 117, attributes := #[] }])
  fields := #[{ name := "MIN_ARRAY_SORT_GRAN", type := .int, accessFlags := 26, slot := 0, constantValue := 0 }, { name := "INSERTIONSORT_THRESHOLD", type := .int, accessFlags := 26, slot := 1, constantValue := 0 }, { name := "$assertionsDisabled", type := .boolean, accessFlags := 4120, slot := 2, constantValue := 0 }]
  methods := #[k4m0, k4m1]
  instanceTypes := #[]
  staticTypes := #[.int, .int, .boolean]
  resolved := Array.replicate 1029 none
  statics := none }

def pool5 : Array CpInfo := pool [(1, .class_ 2), (0, u "java/lang/Math"), (1, .class_ 6), (1, u "java/lang/Object"), (0, u "<init>"), (0, u "()V"), (89, .class_ 100), (1, u "java/lang/Math$RandomNumberGeneratorHolder"), (71, u "negativeZeroFloatBits"), (0, u "J"), (2, u "negativeZeroDoubleBits"), (24, u "min"), (43, u "$assertionsDisabled"), (0, u "Z"), (88, u "(II)I"), (2, u "twoToTheDoubleScaleDown"), (0, u "D"), (4, u "twoToTheDoubleScaleUp"), (9, u "E"), (3, u "PI"), (2, u "TAU"), (2, u "DEGREES_TO_RADIANS"), (0, u "RADIANS_TO_DEGREES")] 94

def k5m0 : Method := { name := "<init>", desc := "()V", sig := { parameters := [], returnType := none }, accessFlags := 2, code := none }
def k5c1 : Code := { maxStack := 2, maxLocals := 2, code := jdk_29_method_69_code, exceptionTable := #[], attributes := #[] }
def k5m1 : Method := { name := "min", desc := "(II)I", sig := { parameters := [.int, .int], returnType := some .int }, accessFlags := 9, code := some k5c1 }
/-- java/lang/Math -/
def k5 : Class := { plain "java/lang/Math" (some 0) with
  accessFlags := 49
  interfaces := #[]
  cf := some (fileOf pool5 1 #[.nestMembers #[98]] #[{ accessFlags := 2, nameIndex := 7, descriptorIndex := 8, attributes := #[] }, { accessFlags := 9, nameIndex := 201, descriptorIndex := 335, attributes := #[] }] 49 4 #[] #[{ accessFlags := 25, nameIndex := 354, descriptorIndex := 339, attributes := #[] }, { accessFlags := 25, nameIndex := 358, descriptorIndex := 339, attributes := #[] }, { accessFlags := 25, nameIndex := 361, descriptorIndex := 339, attributes := #[] }, { accessFlags := 26, nameIndex := 364, descriptorIndex := 339, attributes := #[] }, { accessFlags := 26, nameIndex := 365, descriptorIndex := 339, attributes := #[] }, { accessFlags := 26, nameIndex := 172, descriptorIndex := 173, attributes := #[] }, { accessFlags := 26, nameIndex := 176, descriptorIndex := 173, attributes := #[] }, { accessFlags := 8, nameIndex := 344, descriptorIndex := 339, attributes := #[] }, { accessFlags := 8, nameIndex := 338, descriptorIndex := 339, attributes := #[] }, { accessFlags := 4120, nameIndex := 245, descriptorIndex := 246, attributes := #[] }])
  fields := #[{ name := "E", type := .double, accessFlags := 25, slot := 0, constantValue := 0 }, { name := "PI", type := .double, accessFlags := 25, slot := 1, constantValue := 0 }, { name := "TAU", type := .double, accessFlags := 25, slot := 2, constantValue := 0 }, { name := "DEGREES_TO_RADIANS", type := .double, accessFlags := 26, slot := 3, constantValue := 0 }, { name := "RADIANS_TO_DEGREES", type := .double, accessFlags := 26, slot := 4, constantValue := 0 }, { name := "negativeZeroFloatBits", type := .long, accessFlags := 26, slot := 5, constantValue := 0 }, { name := "negativeZeroDoubleBits", type := .long, accessFlags := 26, slot := 6, constantValue := 0 }, { name := "twoToTheDoubleScaleUp", type := .double, accessFlags := 8, slot := 7, constantValue := 0 }, { name := "twoToTheDoubleScaleDown", type := .double, accessFlags := 8, slot := 8, constantValue := 0 }, { name := "$assertionsDisabled", type := .boolean, accessFlags := 4120, slot := 9, constantValue := 0 }]
  methods := #[k5m0, k5m1]
  instanceTypes := #[]
  staticTypes := #[.double, .double, .double, .double, .double, .long, .long, .double, .double, .boolean]
  resolved := Array.replicate 460 none
  statics := none }

def pool6 : Array CpInfo := pool [(2, .class_ 4), (1, u "java/lang/Object"), (0, u "<init>"), (0, u "()V"), (1, .class_ 10), (1, u "java/lang/System"), (0, u "allowSecurityManager"), (0, u "I"), (16, u "cons"), (0, u "Ljava/io/Console;"), (77, .class_ 110), (1, u "java/lang/System$CallersHolder"), (43, u "initialErrStream"), (0, u "Ljava/io/PrintStream;"), (19, u "security"), (0, u "Ljava/lang/SecurityManager;"), (31, .class_ 209), (0, u "java/lang/System$1"), (7, u "props"), (0, u "Ljava/util/Properties;"), (2, u "lineSeparator"), (0, u "Ljava/lang/String;"), (96, .class_ 321), (1, u "java/lang/System$LoggerFinder"), (5, .class_ 328), (0, u "java/lang/System$Logger"), (67, u "err"), (2, u "out"), (91, u "notSupportedJnuEncoding"), (15, u "in"), (17, u "initialIn"), (0, u "Ljava/io/InputStream;"), (35, u "bootLayer"), (0, u "Ljava/lang/ModuleLayer;"), (99, .class_ 664), (0, u "java/lang/System$2"), (9, u "NEVER"), (2, u "MAYBE"), (49, u "arraycopy"), (0, u "(Ljava/lang/Object;ILjava/lang/Object;II)V"), (72, .class_ 802), (0, u "java/lang/System$Logger$Level")] 31

def k6m0 : Method := { name := "<init>", desc := "()V", sig := { parameters := [], returnType := none }, accessFlags := 2, code := none }
def k6m1 : Method := { name := "arraycopy", desc := "(Ljava/lang/Object;ILjava/lang/Object;II)V", sig := { parameters := [(.object "java/lang/Object"), .int, (.object "java/lang/Object"), .int, .int], returnType := none }, accessFlags := 265, code := none }
/-- java/lang/System -/
def k6 : Class := { plain "java/lang/System" (some 0) with
  accessFlags := 49
  interfaces := #[]
  cf := some (fileOf pool6 8 #[.nestMembers #[319, 327, 801, 108, 663, 208]] #[{ accessFlags := 2, nameIndex := 5, descriptorIndex := 6, attributes := #[] }, { accessFlags := 265, nameIndex := 727, descriptorIndex := 728, attributes := #[] }] 49 2 #[] #[{ accessFlags := 25, nameIndex := 507, descriptorIndex := 526, attributes := #[] }, { accessFlags := 25, nameIndex := 399, descriptorIndex := 155, attributes := #[] }, { accessFlags := 25, nameIndex := 396, descriptorIndex := 155, attributes := #[] }, { accessFlags := 10, nameIndex := 525, descriptorIndex := 526, attributes := #[] }, { accessFlags := 26, nameIndex := 674, descriptorIndex := 12, attributes := #[] }, { accessFlags := 26, nameIndex := 677, descriptorIndex := 12, attributes := #[] }, { accessFlags := 10, nameIndex := 11, descriptorIndex := 12, attributes := #[] }, { accessFlags := 74, nameIndex := 175, descriptorIndex := 176, attributes := #[] }, { accessFlags := 10, nameIndex := 491, descriptorIndex := 222, attributes := #[] }, { accessFlags := 74, nameIndex := 29, descriptorIndex := 30, attributes := #[] }, { accessFlags := 74, nameIndex := 154, descriptorIndex := 155, attributes := #[] }, { accessFlags := 10, nameIndex := 217, descriptorIndex := 218, attributes := #[] }, { accessFlags := 10, nameIndex := 221, descriptorIndex := 222, attributes := #[] }, { accessFlags := 8, nameIndex := 562, descriptorIndex := 563, attributes := #[] }])
  fields := #[{ name := "in", type := (.object "java/io/InputStream"), accessFlags := 25, slot := 0, constantValue := 0 }, { name := "out", type := (.object "java/io/PrintStream"), accessFlags := 25, slot := 1, constantValue := 0 }, { name := "err", type := (.object "java/io/PrintStream"), accessFlags := 25, slot := 2, constantValue := 0 }, { name := "initialIn", type := (.object "java/io/InputStream"), accessFlags := 10, slot := 3, constantValue := 0 }, { name := "NEVER", type := .int, accessFlags := 26, slot := 4, constantValue := 0 }, { name := "MAYBE", type := .int, accessFlags := 26, slot := 5, constantValue := 0 }, { name := "allowSecurityManager", type := .int, accessFlags := 10, slot := 6, constantValue := 0 }, { name := "security", type := (.object "java/lang/SecurityManager"), accessFlags := 74, slot := 7, constantValue := 0 }, { name := "notSupportedJnuEncoding", type := (.object "java/lang/String"), accessFlags := 10, slot := 8, constantValue := 0 }, { name := "cons", type := (.object "java/io/Console"), accessFlags := 74, slot := 9, constantValue := 0 }, { name := "initialErrStream", type := (.object "java/io/PrintStream"), accessFlags := 74, slot := 10, constantValue := 0 }, { name := "props", type := (.object "java/util/Properties"), accessFlags := 10, slot := 11, constantValue := 0 }, { name := "lineSeparator", type := (.object "java/lang/String"), accessFlags := 10, slot := 12, constantValue := 0 }, { name := "bootLayer", type := (.object "java/lang/ModuleLayer"), accessFlags := 8, slot := 13, constantValue := 0 }]
  methods := #[k6m0, k6m1]
  instanceTypes := #[]
  staticTypes := #[(.object "java/io/InputStream"), (.object "java/io/PrintStream"), (.object "java/io/PrintStream"), (.object "java/io/InputStream"), .int, .int, .int, (.object "java/lang/SecurityManager"), (.object "java/lang/String"), (.object "java/io/Console"), (.object "java/io/PrintStream"), (.object "java/util/Properties"), (.object "java/lang/String"), (.object "java/lang/ModuleLayer")]
  resolved := Array.replicate 834 none
  statics := none }

def pool7 : Array CpInfo := pool [(1, .class_ 2), (0, u "java/lang/Cloneable"), (0, .class_ 4), (0, u "java/lang/Object")] 2

/-- java/lang/Cloneable -/
def k7 : Class := { plain "java/lang/Cloneable" (some 0) with
  accessFlags := 1537
  interfaces := #[]
  cf := some (fileOf pool7 1 #[] #[] 1537 3 #[] #[])
  fields := #[]
  methods := #[]
  instanceTypes := #[]
  staticTypes := #[]
  resolved := Array.replicate 7 none
  statics := none }

def pool8 : Array CpInfo := pool [(1, u "java/io/Serializable"), (0, .class_ 1), (0, u "java/lang/Object"), (0, .class_ 3)] 3

/-- java/io/Serializable -/
def k8 : Class := { plain "java/io/Serializable" (some 0) with
  accessFlags := 1537
  interfaces := #[]
  cf := some (fileOf pool8 2 #[] #[] 1537 4 #[] #[])
  fields := #[]
  methods := #[]
  instanceTypes := #[]
  staticTypes := #[]
  resolved := Array.replicate 8 none
  statics := none }

/-- the primitive byte -/
def k9 : Class := { plain "byte" none with kind := .primitive 'B', accessFlags := 0x411 }
/-- [B -/
def k10 : Class := { plain "[B" (some 0) with kind := .array 9 .byte, interfaces := #[7, 8], accessFlags := 1041 }

/-- the primitive int -/
def k11 : Class := { plain "int" none with kind := .primitive 'I', accessFlags := 0x411 }
/-- [I -/
def k12 : Class := { plain "[I" (some 0) with kind := .array 11 .int, interfaces := #[7, 8], accessFlags := 1041 }

def heap : Heap := #[]
def classes : Array Class := #[k0, k1, k2, k3, k4, k5, k6, k7, k8, k9, k10, k11, k12]
def interned : List (Array UInt16 × Addr) := []
def slotsUsed : Nat := 0
def theMethod : MethodId := ⟨1, 1⟩
def args0 : Array Value := #[.int 5, .int 3, .int 2, .int 1, .int 7]
def aboutOver (below : List Frame) : State where
  vm := { classes := classes, interned := interned.toArray }
  heap := heap
  slotsUsed := slotsUsed
  threads := #[{ frames := .invoking theMethod args0 :: below }]
def below0 : List Frame := [.native { method := ⟨0, 0⟩, args := #[] }]
def about1 : State := aboutOver below0
def p0 : Program := .bare "" "" ""
def e0 : Env := launch0.env 0 0 0
theorem w_frames : about1.frames = Frame.invoking theMethod args0 :: below0 := rfl
set_option maxRecDepth 65536 in
theorem w_args : argsFit about1.vm theMethod args0 = true := by decide +kernel
set_option maxRecDepth 65536 in
theorem w_heap : heapFits about1 = true := by decide +kernel
set_option maxRecDepth 65536 in
theorem w_runnable : about1.curStatus? = some .runnable := by decide +kernel
set_option maxRecDepth 65536 in
theorem w_alone : about1.alone = true := by decide +kernel
set_option maxRecDepth 65536 in
theorem w_named : about1.methodNamed? x = some theMethod := by decide +kernel
set_option maxRecDepth 65536 in
theorem w_hears : about1.hears theMethod below0 = true := by decide +kernel
set_option maxRecDepth 65536 in
theorem w_ripe : about1.ripe theMethod args0 below0 = true := by decide +kernel
theorem w_running : about1.status = .running := rfl
set_option maxRecDepth 65536 in
theorem w_room : about1.hasRoom e0.platform room_1 = true :=
  launch0.hasRoom_least _ room_1 (by decide +kernel) (by decide +kernel) (by decide +kernel) (by decide +kernel) (by decide +kernel) (by decide +kernel)
theorem allAtoms_all (ts : List Jvm.Cond) (a : Array Jvm.Value) (st : Jvm.State) : (allAtoms ts).before a st = ts.all (fun c => c.before a st) := by
  induction ts with
  | nil => rfl
  | cons c t ih =>
    show (Jvm.Cond.and c (allAtoms t)).before a st = _
    rw [Jvm.Cond.before_and, ih, List.all_cons]
def words1 : List Jvm.Cond := Jvm.Cond.code x code maxLocals ret :: tables_1
/-- a 'code' word, met by the world's own term for the bytes: nothing is compared byte by byte -/
theorem code_word {y : MethodName} {bytes : ByteArray} {mx : Nat} {rt : Option FieldType} {a : Array Value} {s : State} {m : MethodId} {meth : Method} {c : Code} (h1 : s.methodNamed? y = some m) (h2 : s.vm.method? m = some meth) (h3 : meth.code = some c) (h4 : c.code = bytes)
    (h5 : (c.maxLocals == mx && c.exceptionTable.isEmpty && decide (c.maxStack ≤ mostOperands) && decide (meth.sig.returnType = rt) && !meth.locks && decide (parseMethodDescriptor y.desc = some meth.sig)) = true) : (Jvm.Cond.code y bytes mx rt).before a s = true := by
  simp only [Bool.and_eq_true, beq_iff_eq, Bool.not_eq_true', decide_eq_true_eq] at h5
  obtain ⟨⟨⟨⟨⟨g1, g2⟩, g3⟩, g4⟩, g5⟩, g6⟩ := h5
  simp [Cond.before, Cond.holds, Cond.value, h1, h2, h3, h4, g1, g2, g3, g4, g5, g6]
def isCode : Jvm.Cond → Bool
  | .code _ _ _ _ => true
  | _ => false
theorem all_split {L : List Jvm.Cond} {P : Jvm.Cond → Bool} (h1 : L.all (fun c => isCode c || P c) = true) (h2 : ∀ c ∈ L.filter isCode, P c = true) : L.all P = true := by
  refine List.all_eq_true.mpr fun c hc => ?_
  have h := List.all_eq_true.mp h1 c hc
  rcases Bool.eq_false_or_eq_true (isCode c) with hi | hi
  · exact h2 c (List.mem_filter.mpr ⟨hc, hi⟩)
  · simpa [hi] using h
set_option maxRecDepth 65536 in
theorem w_c0 : (Jvm.Cond.code x code maxLocals ret).before args0 about1 = true := code_word (m := ⟨1, 1⟩) (meth := k1m1) (c := k1c1) (by decide +kernel) rfl rfl rfl (by decide +kernel)
set_option maxRecDepth 65536 in
theorem w_c1 : (Jvm.Cond.code ({ cls := "com/example/mithi/mithi/index/Postings$Builder", name := "<init>", desc := "()V" } : Jvm.MethodName) prog_22_method_1_code (1 : Nat) (Option.none : Option Jvm.ClassFile.FieldType)).before args0 about1 = true := code_word (m := ⟨2, 0⟩) (meth := k2m0) (c := k2c0) (by decide +kernel) rfl rfl rfl (by decide +kernel)
set_option maxRecDepth 65536 in
theorem w_c2 : (Jvm.Cond.code ({ cls := "java/lang/Object", name := "<init>", desc := "()V" } : Jvm.MethodName) object_method_1_code (1 : Nat) (Option.none : Option Jvm.ClassFile.FieldType)).before args0 about1 = true := code_word (m := ⟨0, 0⟩) (meth := k0m0) (c := k0c0) (by decide +kernel) rfl rfl rfl (by decide +kernel)
set_option maxRecDepth 65536 in
theorem w_c3 : (Jvm.Cond.code ({ cls := "com/example/mithi/mithi/index/Postings$Builder", name := "build", desc := "()Lcom/example/mithi/mithi/index/Postings;" } : Jvm.MethodName) prog_22_method_3_code (1 : Nat) (Option.some (Jvm.ClassFile.FieldType.object "com/example/mithi/mithi/index/Postings"))).before args0 about1 = true := code_word (m := ⟨2, 2⟩) (meth := k2m2) (c := k2c2) (by decide +kernel) rfl rfl rfl (by decide +kernel)
set_option maxRecDepth 65536 in
theorem w_c4 : (Jvm.Cond.code ({ cls := "java/util/Arrays", name := "copyOf", desc := "([II)[I" } : Jvm.MethodName) jdk_65_method_123_code (3 : Nat) (Option.some (Jvm.ClassFile.FieldType.array Jvm.ClassFile.FieldType.int))).before args0 about1 = true := code_word (m := ⟨4, 1⟩) (meth := k4m1) (c := k4c1) (by decide +kernel) rfl rfl rfl (by decide +kernel)
set_option maxRecDepth 65536 in
theorem w_c5 : (Jvm.Cond.code ({ cls := "java/lang/Math", name := "min", desc := "(II)I" } : Jvm.MethodName) jdk_29_method_69_code (2 : Nat) (Option.some Jvm.ClassFile.FieldType.int)).before args0 about1 = true := code_word (m := ⟨5, 1⟩) (meth := k5m1) (c := k5c1) (by decide +kernel) rfl rfl rfl (by decide +kernel)
set_option maxRecDepth 65536 in
theorem w_c6 : (Jvm.Cond.code ({ cls := "com/example/mithi/mithi/index/Postings", name := "<init>", desc := "([I[I)V" } : Jvm.MethodName) prog_21_method_1_code (3 : Nat) (Option.none : Option Jvm.ClassFile.FieldType)).before args0 about1 = true := code_word (m := ⟨3, 0⟩) (meth := k3m0) (c := k3c0) (by decide +kernel) rfl rfl rfl (by decide +kernel)
set_option maxRecDepth 65536 in
theorem w_c7 : (Jvm.Cond.code ({ cls := "com/example/mithi/mithi/index/Postings", name := "size", desc := "()I" } : Jvm.MethodName) prog_21_method_2_code (1 : Nat) (Option.some Jvm.ClassFile.FieldType.int)).before args0 about1 = true := code_word (m := ⟨3, 1⟩) (meth := k3m1) (c := k3c1) (by decide +kernel) rfl rfl rfl (by decide +kernel)
set_option maxRecDepth 65536 in
theorem w_c8 : (Jvm.Cond.code ({ cls := "com/example/mithi/mithi/index/PostingsBuilderBuildPinLaw", name := "entry", desc := "(Lcom/example/mithi/mithi/index/Postings;IIII)Z" } : Jvm.MethodName) method_3_code (5 : Nat) (Option.some Jvm.ClassFile.FieldType.boolean)).before args0 about1 = true := code_word (m := ⟨1, 2⟩) (meth := k1m2) (c := k1c2) (by decide +kernel) rfl rfl rfl (by decide +kernel)
set_option maxRecDepth 65536 in
theorem w_c9 : (Jvm.Cond.code ({ cls := "com/example/mithi/mithi/index/Postings$Builder", name := "add", desc := "(II)V" } : Jvm.MethodName) prog_22_method_2_code (3 : Nat) (Option.none : Option Jvm.ClassFile.FieldType)).before args0 about1 = true := code_word (m := ⟨2, 1⟩) (meth := k2m1) (c := k2c1) (by decide +kernel) rfl rfl rfl (by decide +kernel)
set_option maxRecDepth 65536 in
theorem w_c10 : (Jvm.Cond.code ({ cls := "com/example/mithi/mithi/index/Postings", name := "value", desc := "(I)I" } : Jvm.MethodName) prog_21_method_3_code (2 : Nat) (Option.some Jvm.ClassFile.FieldType.int)).before args0 about1 = true := code_word (m := ⟨3, 2⟩) (meth := k3m2) (c := k3c2) (by decide +kernel) rfl rfl rfl (by decide +kernel)
set_option maxRecDepth 65536 in
theorem w_c11 : (Jvm.Cond.code ({ cls := "com/example/mithi/mithi/index/Postings", name := "count", desc := "(I)I" } : Jvm.MethodName) prog_21_method_4_code (2 : Nat) (Option.some Jvm.ClassFile.FieldType.int)).before args0 about1 = true := code_word (m := ⟨3, 3⟩) (meth := k3m3) (c := k3c3) (by decide +kernel) rfl rfl rfl (by decide +kernel)
def codes1 : List Jvm.Cond := [Jvm.Cond.code x code maxLocals ret, Jvm.Cond.code ({ cls := "com/example/mithi/mithi/index/Postings$Builder", name := "<init>", desc := "()V" } : Jvm.MethodName) prog_22_method_1_code (1 : Nat) (Option.none : Option Jvm.ClassFile.FieldType), Jvm.Cond.code ({ cls := "java/lang/Object", name := "<init>", desc := "()V" } : Jvm.MethodName) object_method_1_code (1 : Nat) (Option.none : Option Jvm.ClassFile.FieldType), Jvm.Cond.code ({ cls := "com/example/mithi/mithi/index/Postings$Builder", name := "build", desc := "()Lcom/example/mithi/mithi/index/Postings;" } : Jvm.MethodName) prog_22_method_3_code (1 : Nat) (Option.some (Jvm.ClassFile.FieldType.object "com/example/mithi/mithi/index/Postings")), Jvm.Cond.code ({ cls := "java/util/Arrays", name := "copyOf", desc := "([II)[I" } : Jvm.MethodName) jdk_65_method_123_code (3 : Nat) (Option.some (Jvm.ClassFile.FieldType.array Jvm.ClassFile.FieldType.int)), Jvm.Cond.code ({ cls := "java/lang/Math", name := "min", desc := "(II)I" } : Jvm.MethodName) jdk_29_method_69_code (2 : Nat) (Option.some Jvm.ClassFile.FieldType.int), Jvm.Cond.code ({ cls := "com/example/mithi/mithi/index/Postings", name := "<init>", desc := "([I[I)V" } : Jvm.MethodName) prog_21_method_1_code (3 : Nat) (Option.none : Option Jvm.ClassFile.FieldType), Jvm.Cond.code ({ cls := "com/example/mithi/mithi/index/Postings", name := "size", desc := "()I" } : Jvm.MethodName) prog_21_method_2_code (1 : Nat) (Option.some Jvm.ClassFile.FieldType.int), Jvm.Cond.code ({ cls := "com/example/mithi/mithi/index/PostingsBuilderBuildPinLaw", name := "entry", desc := "(Lcom/example/mithi/mithi/index/Postings;IIII)Z" } : Jvm.MethodName) method_3_code (5 : Nat) (Option.some Jvm.ClassFile.FieldType.boolean), Jvm.Cond.code ({ cls := "com/example/mithi/mithi/index/Postings$Builder", name := "add", desc := "(II)V" } : Jvm.MethodName) prog_22_method_2_code (3 : Nat) (Option.none : Option Jvm.ClassFile.FieldType), Jvm.Cond.code ({ cls := "com/example/mithi/mithi/index/Postings", name := "value", desc := "(I)I" } : Jvm.MethodName) prog_21_method_3_code (2 : Nat) (Option.some Jvm.ClassFile.FieldType.int), Jvm.Cond.code ({ cls := "com/example/mithi/mithi/index/Postings", name := "count", desc := "(I)I" } : Jvm.MethodName) prog_21_method_4_code (2 : Nat) (Option.some Jvm.ClassFile.FieldType.int)]
set_option maxRecDepth 65536 in
theorem codes_eq : words1.filter isCode = codes1 := rfl
theorem w_codes : ∀ c ∈ words1.filter isCode, c.before args0 about1 = true := by
  rw [codes_eq]
  intro c hc
  simp only [codes1, List.mem_cons, List.not_mem_nil, or_false] at hc
  rcases hc with rfl | rfl | rfl | rfl | rfl | rfl | rfl | rfl | rfl | rfl | rfl | rfl
  · exact w_c0
  · exact w_c1
  · exact w_c2
  · exact w_c3
  · exact w_c4
  · exact w_c5
  · exact w_c6
  · exact w_c7
  · exact w_c8
  · exact w_c9
  · exact w_c10
  · exact w_c11
set_option maxRecDepth 65536 in
theorem w_t1 : (words1.take 24).all (fun c => isCode c || c.before args0 about1) = true := by decide +kernel
set_option maxRecDepth 65536 in
theorem w_t2 : ((words1.drop 24).take 24).all (fun c => isCode c || c.before args0 about1) = true := by decide +kernel
set_option maxRecDepth 65536 in
theorem w_t3 : (((words1.drop 24).drop 24).take 24).all (fun c => isCode c || c.before args0 about1) = true := by decide +kernel
set_option maxRecDepth 65536 in
theorem w_t4 : (((words1.drop 24).drop 24).drop 24).all (fun c => isCode c || c.before args0 about1) = true := by decide +kernel
theorem w_tables : (allAtoms (Jvm.Cond.code x code maxLocals ret :: tables_1)).before args0 about1 = true := by
  rw [allAtoms_all]
  show words1.all (fun c => c.before args0 about1) = true
  refine all_split ?_ w_codes
  rw [← List.take_append_drop 24 words1, List.all_append, w_t1, ← List.take_append_drop 24 (words1.drop 24), List.all_append, w_t2, ← List.take_append_drop 24 ((words1.drop 24).drop 24), List.all_append, w_t3, w_t4]
  rfl
set_option maxRecDepth 65536 in
theorem w_case : (Jvm.Cond.and given_1 narrow_1).before args0 about1 = true := by decide +kernel
theorem w_applies : (headSpec (Jvm.Cond.code x code maxLocals ret :: tables_1) room_1).applies x e0.platform about1 = true :=
  (Spec.applies_iff w_frames).mpr ⟨w_running, w_runnable, w_alone, w_named, w_hears, w_ripe, w_room, w_tables⟩
theorem atStart : AtStart classFile x code maxLocals ret World_1 tables_1 room_1 Calls_1 rest_1 Pre_1 launch0 p0 e0 about1 theMethod args0 below0 :=
  ⟨lists_1, trivial, launch0.admits_env _ _ _, launch0.least_env, fairChoices_fair.cas, fairChoices_fair.clock, w_frames, w_args, w_heap, w_applies, trivial, trivial, w_case⟩
end start1
theorem witness_1 : WitnessClaimed_1 := ⟨start1.p0, start1.e0, start1.about1, start1.theMethod, start1.args0, start1.below0, start1.atStart⟩
end Jvm.Pilot.@@N@@
