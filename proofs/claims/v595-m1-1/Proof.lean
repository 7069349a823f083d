import JvmDerived
import JvmDerived.Pilot.@@N@@Statement
import JvmDerived.Pilot.@@N@@Code
set_option linter.unusedVariables false
set_option linter.unusedSimpArgs false
@@BLOCK:NumsL.lean.txt@@
namespace Jvm.RoadKit
open Sem ClassFile Op Lib Jvm.Stand Jvm.Free Jvm.LawKit
section New
variable {p : Program} {l : Launch} {e : Env} {R : Room} {s : State} {m : MethodId} {args : Array Value} {below : List Frame} {meth : Method} {c : Code} {T : State} {locs : List Loc} {cells slots : Nat}
theorem retI (X : Stand p l e R s m args below meth c T locs cells slots) (hx : p.tables.exec = Jvm.exec) {pc : Nat} {Ls : Array Slot} {z : Int32} {rest : List Value} (hret : meth.sig.returnType = some .int) (hd : decode c.code pc = .ok (.ireturn, 1)) {fs : List Frame}
    (hl : ∀ (f : JFrame) (acts : List Action), f.method = m → f.locked = none → f.entered = [] → (doReturn e (T.setTop f) acts (some (.int z))).1 = T.setFrames fs) : Steps p.tables e below (T.setTop (mkF m pc Ls (.int z :: rest))) (T.setFrames fs) := by
  have hm' : T.vm.method? m = some meth := X.method'
  have hn : narrow .int (.int z) = .int z := rfl
  show Steps p.tables e below (T.setTop { method := m, pc := pc, locals := Ls, stack := _ :: rest, locked := none }) _
  jvm_step X.here [X.here.top, hx, hd, hm', hret, hn]
  first | (intro acts; rw [hl _ acts rfl rfl rfl]) | rw [hl _ _ rfl rfl rfl]
  exact Steps.refl _
end New
end Jvm.RoadKit
/-! OwnRun: plain steps by evaluation. 'wpo' runs the plain instructions (loads, stores of locals, arithmetic, branches) of a body as a word on what it reaches; 'runo' says that the machine follows. -/
namespace Jvm.OwnRun
open Sem ClassFile Op Lib Jvm.Stand Jvm.Free Jvm.LawKit Jvm.RoadKit
def lget : List Slot → Nat → Option Slot
  | [], _ => none
  | a :: _, 0 => some a
  | _ :: t, n + 1 => lget t n
def lput : List Slot → Nat → Slot → List Slot
  | [], _, _ => []
  | _ :: t, 0, v => v :: t
  | a :: t, n + 1, v => a :: lput t n v
theorem lget_z (a : Slot) (t : List Slot) : lget (a :: t) 0 = some a := rfl
theorem lget_s (a : Slot) (t : List Slot) (n : Nat) : lget (a :: t) (n + 1) = lget t n := rfl
theorem lput_z (a : Slot) (t : List Slot) (v : Slot) : lput (a :: t) 0 v = v :: t := rfl
theorem lput_s (a : Slot) (t : List Slot) (n : Nat) (v : Slot) : lput (a :: t) (n + 1) v = a :: lput t n v := rfl
theorem lget_eq : ∀ (L : List Slot) (k : Nat), lget L k = L[k]?
  | [], _ => by simp [lget]
  | _ :: _, 0 => rfl
  | a :: t, n + 1 => by rw [lget_s, lget_eq t n, List.getElem?_cons_succ]
theorem lput_eq : ∀ (L : List Slot) (k : Nat) (v : Slot), lput L k v = L.set k v
  | [], _, _ => by simp [lput]
  | _ :: _, 0, _ => rfl
  | a :: t, n + 1, v => by rw [lput_s, lput_eq t n v, List.set_cons_succ]
theorem arr_get {L : List Slot} {k : Nat} {o : Slot} (h : lget L k = some o) : L.toArray[k]? = some o := by
  rw [lget_eq] at h; simpa using h
theorem arr_put (L : List Slot) (k : Nat) (v : Slot) : L.toArray.setIfInBounds k v = (lput L k v).toArray := by
  rw [lput_eq]; simp
/-- a store of one word, over nothing or over one word -/
def one : Option Slot → Bool
  | some .unset => true
  | some (.val (.int _)) => true
  | some (.val (.ref _)) => true
  | some (.val .null) => true
  | _ => false
def st1 (L : List Slot) (k : Nat) (v : Value) (F : List Slot → α) (d : α) : α := bif one (lget L k) then F (lput L k (.val v)) else d
/-- a store of two words, over nothing or over a long -/
def two : Option Slot → Option Slot → Bool
  | some .unset, some .unset => true
  | some (.val (.long _)), some .second => true
  | _, _ => false
def st2 (L : List Slot) (k : Nat) (v : Int64) (F : List Slot → α) (d : α) : α := bif two (lget L k) (lget L (k + 1)) then F (lput (lput L k (.val (.long v))) (k + 1) .second) else d
theorem one_unset : one (some .unset) = true := rfl
theorem one_int (v : Int32) : one (some (.val (.int v))) = true := rfl
theorem one_ref (v : Addr) : one (some (.val (.ref v))) = true := rfl
theorem two_unset : two (some .unset) (some .unset) = true := rfl
theorem two_long (v : Int64) : two (some (.val (.long v))) (some .second) = true := rfl
theorem one_e {o : Option Slot} (h : one o = true) : ∃ w, o = some w ∧ (w = .unset ∨ ∃ v, w = .val v ∧ v.category = 1) := by
  match o, h with
  | some .unset, _ => exact ⟨_, rfl, Or.inl rfl⟩
  | some (.val (.int v)), _ => exact ⟨_, rfl, Or.inr ⟨_, rfl, rfl⟩⟩
  | some (.val (.ref v)), _ => exact ⟨_, rfl, Or.inr ⟨_, rfl, rfl⟩⟩
  | some (.val .null), _ => exact ⟨_, rfl, Or.inr ⟨_, rfl, rfl⟩⟩
theorem store_one {L : List Slot} {k : Nat} {v : Value} (h : one (lget L k) = true) (hv : v.category = 1) : storeLocals L.toArray k v = some (lput L k (.val v)).toArray := by
  obtain ⟨w, hw, ho⟩ := one_e h
  rw [XS.store1 (arr_get hw) ho hv, arr_put]
theorem store_two {L : List Slot} {k : Nat} {v : Int64} (h : two (lget L k) (lget L (k + 1)) = true) : storeLocals L.toArray k (.long v) = some (lput (lput L k (.val (.long v))) (k + 1) .second).toArray := by
  match h0 : lget L k, h1 : lget L (k + 1), h with
  | some .unset, some .unset, _ => rw [Fl.storeLocals_cat2 (arr_get h0) (arr_get h1) rfl (Or.inl ⟨trivial, trivial⟩), arr_put, arr_put]
  | some (.val (.long w)), some .second, _ => rw [Fl.storeLocals_cat2 (arr_get h0) (arr_get h1) rfl (Or.inr ⟨⟨_, rfl, rfl⟩, rfl⟩), arr_put, arr_put]
/-- Java's x >>> y on ints and longs -/
def oushr (x y : Int32) : Int32 := (x.toUInt32 >>> (y &&& 31).toUInt32).toInt32
def oushrL (x : Int64) (y : Int32) : Int64 := (x.toUInt64 >>> (y &&& 0x3f).toInt64.toUInt64).toInt64
def oshlL (x : Int64) (y : Int32) : Int64 := x <<< (y &&& 0x3f).toInt64
def oshl (x y : Int32) : Int32 := x <<< (y &&& 31)
def oshr (x y : Int32) : Int32 := x >>> (y &&& 31)
/-- what a comparison asks -/
def cnd : ClassFile.Cond → Int32 → Int32 → Prop
  | .eq, x, y => x = y
  | .ne, x, y => ¬ x = y
  | .lt, x, y => x < y
  | .ge, x, y => ¬ x < y
  | .gt, x, y => y < x
  | .le, x, y => ¬ y < x
def cndL : ClassFile.Cond → Int64 → Int64 → Prop
  | .eq, x, y => x = y
  | .ne, x, y => ¬ x = y
  | .lt, x, y => x < y
  | .ge, x, y => ¬ x < y
  | .gt, x, y => y < x
  | .le, x, y => ¬ y < x
theorem cnd_t {cd : ClassFile.Cond} {x y : Int32} (h : cnd cd x y) : if_icmp.holds cd x y = true := by
  cases cd
  · exact (teq h).1
  · exact (feq h).2
  · exact (tlt h).1
  · exact (flt h).2.1
  · exact (tlt h).2.2.1
  · exact (flt h).2.2.2
theorem cnd_f {cd : ClassFile.Cond} {x y : Int32} (h : ¬ cnd cd x y) : if_icmp.holds cd x y = false := by
  cases cd
  · exact (feq h).1
  · exact (teq (Decidable.of_not_not h)).2
  · exact (flt h).1
  · exact (tlt (Decidable.of_not_not h)).2.1
  · exact (flt h).2.2.1
  · exact (tlt (Decidable.of_not_not h)).2.2.2
theorem cndL_t {cd : ClassFile.Cond} {x y : Int64} (h : cndL cd x y) : ifCond.holds cd (XT.cmpL x y) = true := by
  cases cd
  · exact XT.ll_eq_t h
  · exact XT.ll_ne_t h
  · exact XT.ll_lt_t h
  · exact XT.ll_ge_t h
  · exact XT.ll_gt_t h
  · exact XT.ll_le_t h
theorem cndL_f {cd : ClassFile.Cond} {x y : Int64} (h : ¬ cndL cd x y) : ifCond.holds cd (XT.cmpL x y) = false := by
  cases cd
  · exact XT.ll_eq_f h
  · exact XT.ll_ne_f (Decidable.of_not_not h)
  · exact XT.ll_lt_f h
  · exact XT.ll_ge_f (Decidable.of_not_not h)
  · exact XT.ll_gt_f h
  · exact XT.ll_le_f (Decidable.of_not_not h)
/-- where one step leads: on, under a condition; or two ways -/
abbrev Rs := Option (Sum (Prop × Nat × List Slot × List Value) (Prop × Nat × Nat × List Slot × List Value))
def go (pc : Nat) (L : List Slot) (st : List Value) : Rs := some (.inl (True, pc, L, st))
def goIf (ob : Prop) (pc : Nat) (L : List Slot) (st : List Value) : Rs := some (.inl (ob, pc, L, st))
def fork (c : Prop) (a b : Nat) (L : List Slot) (st : List Value) : Rs := some (.inr (c, a, b, L, st))
def chk (a b : Nat) (r : Rs) : Rs := bif a == b then r else none
def tgt (pc : Nat) (o : Int) : Nat := ((pc : Int) + o).toNat
def okO (pc : Nat) (o : Int) (r : Rs) : Rs := if 0 ≤ (pc : Int) + o then r else none
def gI (o : Option Slot) (F : Int32 → Rs) : Rs := match o with | some (.val (.int v)) => F v | _ => none
def gJ (o : Option Slot) (F : Int64 → Rs) : Rs := match o with | some (.val (.long v)) => F v | _ => none
def gA (o : Option Slot) (F : Value → Rs) : Rs := match o with | some (.val (.ref v)) => F (.ref v) | some (.val .null) => F .null | _ => none
def pI (st : List Value) (F : Int32 → List Value → Rs) : Rs := match st with | .int x :: r => F x r | _ => none
def pJ (st : List Value) (F : Int64 → List Value → Rs) : Rs := match st with | .long x :: r => F x r | _ => none
def pA (st : List Value) (F : Value → List Value → Rs) : Rs := match st with | .ref x :: r => F (.ref x) r | .null :: r => F .null r | _ => none
def p1 (st : List Value) (F : Value → List Value → Rs) : Rs := match st with | .ref x :: r => F (.ref x) r | .null :: r => F .null r | .int x :: r => F (.int x) r | _ => none
def pII (st : List Value) (F : Int32 → Int32 → List Value → Rs) : Rs := match st with | .int y :: .int x :: r => F x y r | _ => none
def pJJ (st : List Value) (F : Int64 → Int64 → List Value → Rs) : Rs := match st with | .long y :: .long x :: r => F x y r | _ => none
def pJI (st : List Value) (F : Int64 → Int32 → List Value → Rs) : Rs := match st with | .int y :: .long x :: r => F x y r | _ => none
def fnd : List (Nat × α) → Nat → Option α
  | [], _ => none
  | q :: t, k => bif q.1 == k then some q.2 else fnd t k
def gC (o : Option α) (F : α → Rs) : Rs := match o with | some v => F v | none => none
def gB (d : Except ClassFile.DecodeError (Instr × Nat)) (F : ClassFile.Cond → Int → Rs) : Rs := match d with | .ok (.ifCond cd o, 3) => F cd o | _ => none
def nx (code : ByteArray) (ci : List (Nat × Int32)) (cj : List (Nat × Int64)) (i : Instr) (len pc : Nat) (L : List Slot) (st : List Value) : Rs :=
  match i with
  | .iload k => chk len 2 (gI (lget L k) fun v => go (pc + 2) L (.int v :: st))
  | .iload_n k => chk len 1 (gI (lget L k.val) fun v => go (pc + 1) L (.int v :: st))
  | .lload k => chk len 2 (gJ (lget L k) fun v => go (pc + 2) L (.long v :: st))
  | .lload_n k => chk len 1 (gJ (lget L k.val) fun v => go (pc + 1) L (.long v :: st))
  | .aload k => chk len 2 (gA (lget L k) fun v => go (pc + 2) L (v :: st))
  | .aload_n k => chk len 1 (gA (lget L k.val) fun v => go (pc + 1) L (v :: st))
  | .istore k => chk len 2 (pI st fun x r => st1 L k (.int x) (fun L' => go (pc + 2) L' r) none)
  | .istore_n k => chk len 1 (pI st fun x r => st1 L k.val (.int x) (fun L' => go (pc + 1) L' r) none)
  | .lstore k => chk len 2 (pJ st fun x r => st2 L k x (fun L' => go (pc + 2) L' r) none)
  | .lstore_n k => chk len 1 (pJ st fun x r => st2 L k.val x (fun L' => go (pc + 1) L' r) none)
  | .astore k => chk len 2 (pA st fun x r => st1 L k x (fun L' => go (pc + 2) L' r) none)
  | .astore_n k => chk len 1 (pA st fun x r => st1 L k.val x (fun L' => go (pc + 1) L' r) none)
  | .iconst i => chk len 1 (go (pc + 1) L (.int (Int32.ofInt i) :: st))
  | .lconst k => chk len 1 (go (pc + 1) L (.long (Int64.ofNat k) :: st))
  | .bipush i => chk len 2 (go (pc + 2) L (.int (Int8.ofInt i).toInt32 :: st))
  | .sipush i => chk len 3 (go (pc + 3) L (.int (Int16.ofInt i).toInt32 :: st))
  | .ldc k => chk len 2 (gC (fnd ci k) fun v => go (pc + 2) L (.int v :: st))
  | .ldc2_w k => chk len 3 (gC (fnd cj k) fun v => go (pc + 3) L (.long v :: st))
  | .iadd => chk len 1 (pII st fun x y r => go (pc + 1) L (.int (x + y) :: r))
  | .isub => chk len 1 (pII st fun x y r => go (pc + 1) L (.int (x - y) :: r))
  | .imul => chk len 1 (pII st fun x y r => go (pc + 1) L (.int (x * y) :: r))
  | .idiv => chk len 1 (pII st fun x y r => goIf (y ≠ 0) (pc + 1) L (.int (x / y) :: r))
  | .irem => chk len 1 (pII st fun x y r => goIf (y ≠ 0) (pc + 1) L (.int (x - (x / y) * y) :: r))
  | .iand => chk len 1 (pII st fun x y r => go (pc + 1) L (.int (x &&& y) :: r))
  | .ior => chk len 1 (pII st fun x y r => go (pc + 1) L (.int (x ||| y) :: r))
  | .ixor => chk len 1 (pII st fun x y r => go (pc + 1) L (.int (x ^^^ y) :: r))
  | .ishl => chk len 1 (pII st fun x y r => go (pc + 1) L (.int (oshl x y) :: r))
  | .ishr => chk len 1 (pII st fun x y r => go (pc + 1) L (.int (oshr x y) :: r))
  | .iushr => chk len 1 (pII st fun x y r => go (pc + 1) L (.int (oushr x y) :: r))
  | .ladd => chk len 1 (pJJ st fun x y r => go (pc + 1) L (.long (x + y) :: r))
  | .lsub => chk len 1 (pJJ st fun x y r => go (pc + 1) L (.long (x - y) :: r))
  | .lmul => chk len 1 (pJJ st fun x y r => go (pc + 1) L (.long (x * y) :: r))
  | .ldiv => chk len 1 (pJJ st fun x y r => goIf (y ≠ 0) (pc + 1) L (.long (x / y) :: r))
  | .lrem => chk len 1 (pJJ st fun x y r => goIf (y ≠ 0) (pc + 1) L (.long (x - (x / y) * y) :: r))
  | .land => chk len 1 (pJJ st fun x y r => go (pc + 1) L (.long (x &&& y) :: r))
  | .lor => chk len 1 (pJJ st fun x y r => go (pc + 1) L (.long (x ||| y) :: r))
  | .lxor => chk len 1 (pJJ st fun x y r => go (pc + 1) L (.long (x ^^^ y) :: r))
  | .lshl => chk len 1 (pJI st fun x y r => go (pc + 1) L (.long (oshlL x y) :: r))
  | .lushr => chk len 1 (pJI st fun x y r => go (pc + 1) L (.long (oushrL x y) :: r))
  | .i2l => chk len 1 (pI st fun x r => go (pc + 1) L (.long x.toInt64 :: r))
  | .l2i => chk len 1 (pJ st fun x r => go (pc + 1) L (.int x.toInt32 :: r))
  | .i2b => chk len 1 (pI st fun x r => go (pc + 1) L (.int x.toInt8.toInt32 :: r))
  | .i2c => chk len 1 (pI st fun x r => go (pc + 1) L (.int x.toUInt32.toUInt16.toUInt32.toInt32 :: r))
  | .iinc k cst => chk len 3 (gI (lget L k) fun x => st1 L k (.int (x + Int32.ofInt cst)) (fun L' => go (pc + 3) L' st) none)
  | .goto o => chk len 3 (okO pc o (go (tgt pc o) L st))
  | .ifCond cd o => chk len 3 (okO pc o (pI st fun x r => fork (cnd cd x 0) (tgt pc o) (pc + 3) L r))
  | .if_icmp cd o => chk len 3 (okO pc o (pII st fun x y r => fork (cnd cd x y) (tgt pc o) (pc + 3) L r))
  | .lcmp => chk len 1 (pJJ st fun x y r => gB (decode code (pc + 1)) fun cd o => okO (pc + 1) o (fork (cndL cd x y) (tgt (pc + 1) o) (pc + 4) L r))
  | .dup => chk len 1 (p1 st fun x r => go (pc + 1) L (x :: x :: r))
  | .pop => chk len 1 (p1 st fun _ r => go (pc + 1) L r)
  | _ => none
def nxt (code : ByteArray) (ci : List (Nat × Int32)) (cj : List (Nat × Int64)) (pc : Nat) (L : List Slot) (st : List Value) : Rs :=
  match decode code pc with
  | .ok r => nx code ci cj r.1 r.2 pc L st
  | .error _ => none
def stopAt : List Nat → Nat → Prop → Prop → Prop
  | [], _, _, B => B
  | k :: t, pc, A, B => bif k == pc then A else stopAt t pc A B
def wpo (code : ByteArray) (ci : List (Nat × Int32)) (cj : List (Nat × Int64)) (stops : List Nat) : Nat → Nat → List Slot → List Value → (Nat → List Slot → List Value → Prop) → Prop
  | 0, pc, L, st, K => K pc L st
  | n + 1, pc, L, st, K =>
    match nxt code ci cj pc L st with
    | none => K pc L st
    | some (.inl (ob, a, L', st')) => ob ∧ stopAt stops a (K a L' st') (wpo code ci cj stops n a L' st' K)
    | some (.inr (c, a, b, L', st')) => (c → stopAt stops a (K a L' st') (wpo code ci cj stops n a L' st' K)) ∧ (¬ c → stopAt stops b (K b L' st') (wpo code ci cj stops n b L' st' K))
/-! what a step's answer means -/
def Snd (P : Nat → List Slot → List Value → Prop) (pc : Nat) (L : List Slot) (st : List Value) : Rs → Prop
  | none => True
  | some (.inl (ob, a, L', st')) => ob → P a L' st' → P pc L st
  | some (.inr (c, a, b, L', st')) => (c → P a L' st' → P pc L st) ∧ (¬ c → P b L' st' → P pc L st)
section
variable {P : Nat → List Slot → List Value → Prop} {pc : Nat} {L : List Slot} {st : List Value}
theorem s_chk {a b : Nat} {r : Rs} (h : a = b → Snd P pc L st r) : Snd P pc L st (chk a b r) := by
  unfold chk
  cases e : (a == b)
  · exact trivial
  · exact h (eq_of_beq e)
theorem s_okO {o : Int} {q : Nat} {r : Rs} (h : 0 ≤ (q : Int) + o → Snd P pc L st r) : Snd P pc L st (okO q o r) := by
  unfold okO
  by_cases e : 0 ≤ (q : Int) + o
  · rw [if_pos e]; exact h e
  · rw [if_neg e]; exact trivial
theorem s_gI {o : Option Slot} {F : Int32 → Rs} (h : ∀ v, o = some (.val (.int v)) → Snd P pc L st (F v)) : Snd P pc L st (gI o F) := by
  unfold gI; split
  · exact h _ rfl
  · exact trivial
theorem s_gJ {o : Option Slot} {F : Int64 → Rs} (h : ∀ v, o = some (.val (.long v)) → Snd P pc L st (F v)) : Snd P pc L st (gJ o F) := by
  unfold gJ; split
  · exact h _ rfl
  · exact trivial
theorem s_gA {o : Option Slot} {F : Value → Rs} (h : ∀ v, o = some (.val v) → v.isRef = true → Snd P pc L st (F v)) : Snd P pc L st (gA o F) := by
  unfold gA; split
  · exact h _ rfl rfl
  · exact h _ rfl rfl
  · exact trivial
theorem s_pI {F : Int32 → List Value → Rs} (h : ∀ x r, st = .int x :: r → Snd P pc L st (F x r)) : Snd P pc L st (pI st F) := by
  unfold pI; split
  · exact h _ _ rfl
  · exact trivial
theorem s_pJ {F : Int64 → List Value → Rs} (h : ∀ x r, st = .long x :: r → Snd P pc L st (F x r)) : Snd P pc L st (pJ st F) := by
  unfold pJ; split
  · exact h _ _ rfl
  · exact trivial
theorem s_pA {F : Value → List Value → Rs} (h : ∀ x r, st = x :: r → x.isRef = true → x.category = 1 → Snd P pc L st (F x r)) : Snd P pc L st (pA st F) := by
  unfold pA; split
  · exact h _ _ rfl rfl rfl
  · exact h _ _ rfl rfl rfl
  · exact trivial
theorem s_p1 {F : Value → List Value → Rs} (h : ∀ x r, st = x :: r → x.category = 1 → Snd P pc L st (F x r)) : Snd P pc L st (p1 st F) := by
  unfold p1; split
  · exact h _ _ rfl rfl
  · exact h _ _ rfl rfl
  · exact h _ _ rfl rfl
  · exact trivial
theorem s_pII {F : Int32 → Int32 → List Value → Rs} (h : ∀ x y r, st = .int y :: .int x :: r → Snd P pc L st (F x y r)) : Snd P pc L st (pII st F) := by
  unfold pII; split
  · exact h _ _ _ rfl
  · exact trivial
theorem s_pJJ {F : Int64 → Int64 → List Value → Rs} (h : ∀ x y r, st = .long y :: .long x :: r → Snd P pc L st (F x y r)) : Snd P pc L st (pJJ st F) := by
  unfold pJJ; split
  · exact h _ _ _ rfl
  · exact trivial
theorem s_pJI {F : Int64 → Int32 → List Value → Rs} (h : ∀ x y r, st = .int y :: .long x :: r → Snd P pc L st (F x y r)) : Snd P pc L st (pJI st F) := by
  unfold pJI; split
  · exact h _ _ _ rfl
  · exact trivial
theorem s_st1 {L0 : List Slot} {k : Nat} {v : Value} {F : List Slot → Rs} (hv : v.category = 1) (h : ∀ L', storeLocals L0.toArray k v = some L'.toArray → Snd P pc L st (F L')) : Snd P pc L st (st1 L0 k v F none) := by
  unfold st1
  cases e : one (lget L0 k)
  · exact trivial
  · exact h _ (store_one e hv)
theorem s_st2 {L0 : List Slot} {k : Nat} {v : Int64} {F : List Slot → Rs} (h : ∀ L', storeLocals L0.toArray k (.long v) = some L'.toArray → Snd P pc L st (F L')) : Snd P pc L st (st2 L0 k v F none) := by
  unfold st2
  cases e : two (lget L0 k) (lget L0 (k + 1))
  · exact trivial
  · exact h _ (store_two e)
theorem s_gC {o : Option α} {F : α → Rs} (h : ∀ v, o = some v → Snd P pc L st (F v)) : Snd P pc L st (gC o F) := by
  unfold gC; split
  · exact h _ rfl
  · exact trivial
theorem s_gB {d : Except ClassFile.DecodeError (Instr × Nat)} {F : ClassFile.Cond → Int → Rs} (h : ∀ cd o, d = .ok (.ifCond cd o, 3) → Snd P pc L st (F cd o)) : Snd P pc L st (gB d F) := by
  unfold gB; split
  · exact h _ _ rfl
  · exact trivial
end
theorem fnd_mem : ∀ {l : List (Nat × α)} {k : Nat} {v : α}, fnd l k = some v → (k, v) ∈ l
  | [], _, _, h => nomatch h
  | (j, w) :: t, k, v, h => by
    unfold fnd at h
    cases e : (j == k)
    · rw [e] at h; exact List.mem_cons_of_mem _ (fnd_mem h)
    · rw [e] at h
      cases Option.some.inj h
      cases eq_of_beq e
      exact List.mem_cons_self ..
section
variable {p : Program} {l : Launch} {e : Env} {R : Room} {s : State} {m : MethodId} {args : Array Value} {below : List Frame} {meth : Method} {c : Code} {T : State} {locs : List Loc} {cells slots : Nat} {code : ByteArray} {ci : List (Nat × Int32)} {cj : List (Nat × Int64)} {own : String}
theorem nx_ok (X : Stand p l e R s m args below meth c T locs cells slots) (hx : p.tables.exec = Jvm.exec) (hby : c.code = code) (hown : s.vm.findClass own = some m.cls) (hci : ∀ q ∈ ci, (Jvm.Cond.constant own q.1 q.2).before args s = true) (hcj : ∀ q ∈ cj, (Jvm.Cond.constantLong own q.1 q.2).before args s = true)
    (target : State) (i : Instr) (len pc : Nat) (L : List Slot) (st : List Value) (hd : decode c.code pc = .ok (i, len)) :
    Snd (fun pc L st => Steps p.tables e below (T.setTop (mkF m pc L.toArray st)) target) pc L st (nx code ci cj i len pc L st) := by
  cases i
  case iload k => exact s_chk fun q => s_gI fun v hv => fun _ h => XS.iload X.here hx rfl (q ▸ hd) (arr_get hv) h
  case iload_n k => exact s_chk fun q => s_gI fun v hv => fun _ h => XS.iloadN X.here hx rfl (q ▸ hd) (arr_get hv) h
  case lload k => exact s_chk fun q => s_gJ fun v hv => fun _ h => XS.lload X.here hx rfl (q ▸ hd) (arr_get hv) h
  case lload_n k => exact s_chk fun q => s_gJ fun v hv => fun _ h => XS.lloadN X.here hx rfl (q ▸ hd) (arr_get hv) h
  case aload k => exact s_chk fun q => s_gA fun v hv hr => fun _ h => XS.aload X.here hx rfl (q ▸ hd) (arr_get hv) hr h
  case aload_n k => exact s_chk fun q => s_gA fun v hv hr => fun _ h => XS.aloadN X.here hx rfl (q ▸ hd) (arr_get hv) hr h
  case istore k => exact s_chk fun q => s_pI fun x r hs => s_st1 rfl fun L' hl => fun _ h => XS.istore X.here hx rfl (q ▸ hd) hs hl h
  case istore_n k => exact s_chk fun q => s_pI fun x r hs => s_st1 rfl fun L' hl => fun _ h => XS.istoreN X.here hx rfl (q ▸ hd) hs hl h
  case lstore k => exact s_chk fun q => s_pJ fun x r hs => s_st2 fun L' hl => fun _ h => XS.lstore X.here hx rfl (q ▸ hd) hs hl h
  case lstore_n k => exact s_chk fun q => s_pJ fun x r hs => s_st2 fun L' hl => fun _ h => XS.lstoreN X.here hx rfl (q ▸ hd) hs hl h
  case astore k => exact s_chk fun q => s_pA fun x r hs hr hc => s_st1 hc fun L' hl => fun _ h => XS.astore X.here hx rfl (q ▸ hd) hs hr hl h
  case astore_n k => exact s_chk fun q => s_pA fun x r hs hr hc => s_st1 hc fun L' hl => fun _ h => XS.astoreN X.here hx rfl (q ▸ hd) hs hr hl h
  case iconst i => exact s_chk fun q => fun _ h => XS.iconst X.here hx rfl (q ▸ hd) h
  case lconst k => exact s_chk fun q => fun _ h => XS.lconst X.here hx rfl (q ▸ hd) h
  case bipush i => exact s_chk fun q => fun _ h => XS.bipush X.here hx rfl (q ▸ hd) h
  case sipush i => exact s_chk fun q => fun _ h => XS.sipush X.here hx rfl (q ▸ hd) h
  case ldc k => exact s_chk fun q => s_gC fun v hv => fun _ h => X.ldcI hx hown (hci _ (fnd_mem hv)) rfl (q ▸ hd) h
  case ldc2_w k => exact s_chk fun q => s_gC fun v hv => fun _ h => X.ldc2J hx hown (hcj _ (fnd_mem hv)) rfl (q ▸ hd) h
  case iadd => exact s_chk fun q => s_pII fun x y r hs => fun _ h => XS.iadd X.here hx rfl (q ▸ hd) hs h
  case isub => exact s_chk fun q => s_pII fun x y r hs => fun _ h => XS.isub X.here hx rfl (q ▸ hd) hs h
  case imul => exact s_chk fun q => s_pII fun x y r hs => fun _ h => XS.imul X.here hx rfl (q ▸ hd) hs h
  case idiv => exact s_chk fun q => s_pII fun x y r hs => fun hy h => XS.idiv X.here hx rfl (q ▸ hd) hs hy h
  case irem => exact s_chk fun q => s_pII fun x y r hs => fun hy h => XS.irem X.here hx rfl (q ▸ hd) hs hy h
  case iand => exact s_chk fun q => s_pII fun x y r hs => fun _ h => XS.iand X.here hx rfl (q ▸ hd) hs h
  case ior => exact s_chk fun q => s_pII fun x y r hs => fun _ h => XS.ior X.here hx rfl (q ▸ hd) hs h
  case ixor => exact s_chk fun q => s_pII fun x y r hs => fun _ h => XS.ixor X.here hx rfl (q ▸ hd) hs h
  case ishl => exact s_chk fun q => s_pII fun x y r hs => fun _ h => XS.ishl X.here hx rfl (q ▸ hd) hs h
  case ishr => exact s_chk fun q => s_pII fun x y r hs => fun _ h => XS.ishr X.here hx rfl (q ▸ hd) hs h
  case iushr => exact s_chk fun q => s_pII fun x y r hs => fun _ h => XS.iushr X.here hx rfl (q ▸ hd) hs h
  case ladd => exact s_chk fun q => s_pJJ fun x y r hs => fun _ h => XS.ladd X.here hx rfl (q ▸ hd) hs h
  case lsub => exact s_chk fun q => s_pJJ fun x y r hs => fun _ h => XS.lsub X.here hx rfl (q ▸ hd) hs h
  case lmul => exact s_chk fun q => s_pJJ fun x y r hs => fun _ h => XS.lmul X.here hx rfl (q ▸ hd) hs h
  case ldiv => exact s_chk fun q => s_pJJ fun x y r hs => fun hy h => XS.ldiv X.here hx rfl (q ▸ hd) hs hy h
  case lrem => exact s_chk fun q => s_pJJ fun x y r hs => fun hy h => XS.lrem X.here hx rfl (q ▸ hd) hs hy h
  case land => exact s_chk fun q => s_pJJ fun x y r hs => fun _ h => XS.land X.here hx rfl (q ▸ hd) hs h
  case lor => exact s_chk fun q => s_pJJ fun x y r hs => fun _ h => XS.lor X.here hx rfl (q ▸ hd) hs h
  case lxor => exact s_chk fun q => s_pJJ fun x y r hs => fun _ h => XS.lxor X.here hx rfl (q ▸ hd) hs h
  case lshl => exact s_chk fun q => s_pJI fun x y r hs => fun _ h => XS.lshl X.here hx rfl (q ▸ hd) hs h
  case lushr => exact s_chk fun q => s_pJI fun x y r hs => fun _ h => XS.lushr X.here hx rfl (q ▸ hd) hs h
  case i2l => exact s_chk fun q => s_pI fun x r hs => fun _ h => XS.i2l X.here hx rfl (q ▸ hd) hs h
  case l2i => exact s_chk fun q => s_pJ fun x r hs => fun _ h => XS.l2i X.here hx rfl (q ▸ hd) hs h
  case i2b => exact s_chk fun q => s_pI fun x r hs => fun _ h => XS.i2b X.here hx rfl (q ▸ hd) hs h
  case i2c => exact s_chk fun q => s_pI fun x r hs => fun _ h => XS.i2c X.here hx rfl (q ▸ hd) hs h
  case iinc k cst => exact s_chk fun q => s_gI fun x hv => s_st1 rfl fun L' hl => fun _ h => XS.iinc X.here hx rfl (q ▸ hd) (arr_get hv) hl h
  case goto o => exact s_chk fun q => s_okO fun ho => fun _ h => XS.goto X.here hx rfl (pc0 := pc) rfl (q ▸ hd) ho rfl h
  case ifCond cd o => exact s_chk fun q => s_okO fun ho => s_pI fun x r hs => ⟨fun hc h => XS.ifYes X.here hx rfl (pc0 := pc) rfl (q ▸ hd) hs ((if0 _ _).trans (cnd_t hc)) ho rfl h, fun hc h => XS.ifNo X.here hx rfl (q ▸ hd) hs ((if0 _ _).trans (cnd_f hc)) h⟩
  case if_icmp cd o => exact s_chk fun q => s_okO fun ho => s_pII fun x y r hs => ⟨fun hc h => XS.icmpYes X.here hx rfl (pc0 := pc) rfl (q ▸ hd) hs (cnd_t hc) ho rfl h, fun hc h => XS.icmpNo X.here hx rfl (q ▸ hd) hs (cnd_f hc) h⟩
  case lcmp => exact s_chk fun q => s_pJJ fun x y r hs => s_gB fun cd o hd2 => s_okO fun ho => ⟨fun hc h => XS.lcmp X.here hx rfl (q ▸ hd) hs (XS.ifYes (g := mkF m (pc + 1) L.toArray (.int (XT.cmpL x y) :: r)) X.here hx rfl (pc0 := pc + 1) rfl (hby ▸ hd2) rfl (cndL_t hc) ho rfl h), fun hc h => XS.lcmp X.here hx rfl (q ▸ hd) hs (XS.ifNo (g := mkF m (pc + 1) L.toArray (.int (XT.cmpL x y) :: r)) X.here hx rfl (hby ▸ hd2) rfl (cndL_f hc) h)⟩
  case dup => exact s_chk fun q => s_p1 fun x r hs hc => fun _ h => XS.dup X.here hx rfl (q ▸ hd) hs hc h
  case pop => exact s_chk fun q => s_p1 fun x r hs hc => fun _ h => XS.pop X.here hx rfl (q ▸ hd) hs hc h
  all_goals exact trivial
theorem stop_ok {P : Prop} : ∀ {stops : List Nat} {pc : Nat} {A B : Prop}, (A → P) → (B → P) → stopAt stops pc A B → P
  | [], _, _, _, _, hB, h => hB h
  | k :: t, pc, A, B, hA, hB, h => by
    unfold stopAt at h
    cases q : (k == pc)
    · rw [q] at h; exact stop_ok hA hB h
    · rw [q] at h; exact hA h
theorem runo (X : Stand p l e R s m args below meth c T locs cells slots) (hx : p.tables.exec = Jvm.exec) (hby : c.code = code) (hown : s.vm.findClass own = some m.cls) (hci : ∀ q ∈ ci, (Jvm.Cond.constant own q.1 q.2).before args s = true) (hcj : ∀ q ∈ cj, (Jvm.Cond.constantLong own q.1 q.2).before args s = true)
    {stops : List Nat} (target : State) {K : Nat → List Slot → List Value → Prop} (hK : ∀ pc L st, K pc L st → Steps p.tables e below (T.setTop (mkF m pc L.toArray st)) target) :
    ∀ (n pc : Nat) (L : List Slot) (st : List Value), wpo code ci cj stops n pc L st K → Steps p.tables e below (T.setTop (mkF m pc L.toArray st)) target
  | 0, pc, L, st, h => hK pc L st h
  | n + 1, pc, L, st, h => by
    have ih := runo X hx hby hown hci hcj (stops := stops) target hK n
    unfold wpo at h
    cases hd : decode code pc with
    | error er =>
      have q : nxt code ci cj pc L st = none := by unfold nxt; rw [hd]
      rw [q] at h
      exact hK _ _ _ h
    | ok r =>
      obtain ⟨i, len⟩ := r
      have q : nxt code ci cj pc L st = nx code ci cj i len pc L st := by unfold nxt; rw [hd]
      rw [q] at h
      have hs := nx_ok X hx hby hown hci hcj target i len pc L st (hby ▸ hd)
      match hr : nx code ci cj i len pc L st, h, hs with
      | none, h, _ => exact hK _ _ _ h
      | some (.inl (ob, a, L', st')), h, hs => exact hs h.1 (stop_ok (hK _ _ _) (ih _ _ _) h.2)
      | some (.inr (cc, a, b, L', st')), h, hs =>
        by_cases hc : cc
        · exact hs.1 hc (stop_ok (hK _ _ _) (ih _ _ _) (h.1 hc))
        · exact hs.2 hc (stop_ok (hK _ _ _) (ih _ _ _) (h.2 hc))
/-- a stretch of plain steps with one end -/
theorem sego (X : Stand p l e R s m args below meth c T locs cells slots) (hx : p.tables.exec = Jvm.exec) (hby : c.code = code) (hown : s.vm.findClass own = some m.cls) (hci : ∀ q ∈ ci, (Jvm.Cond.constant own q.1 q.2).before args s = true) (hcj : ∀ q ∈ cj, (Jvm.Cond.constantLong own q.1 q.2).before args s = true)
    {stops : List Nat} {n pc pc' : Nat} {L L' : List Slot} {st st' : List Value} (h : wpo code ci cj stops n pc L st (fun a M u => a = pc' ∧ M = L' ∧ u = st')) (target : State) (hr : Steps p.tables e below (T.setTop (mkF m pc' L'.toArray st')) target) : Steps p.tables e below (T.setTop (mkF m pc L.toArray st)) target :=
  runo X hx hby hown hci hcj target (fun a M u q => by obtain ⟨rfl, rfl, rfl⟩ := q; exact hr) n pc L st h
/-- plain steps up to the return of an int, a narrow one, a long -/
theorem endI (X : Stand p l e R s m args below meth c T locs cells slots) (hx : p.tables.exec = Jvm.exec) (hby : c.code = code) (hown : s.vm.findClass own = some m.cls) (hci : ∀ q ∈ ci, (Jvm.Cond.constant own q.1 q.2).before args s = true) (hcj : ∀ q ∈ cj, (Jvm.Cond.constantLong own q.1 q.2).before args s = true)
    {stops : List Nat} {n pc : Nat} {L : List Slot} {st : List Value} {z : Int32} (h : wpo code ci cj stops n pc L st (fun a _ u => decode code a = .ok (.ireturn, 1) ∧ u = [.int z])) (hret : meth.sig.returnType = some .int) {fs : List Frame}
    (hl : ∀ (f : JFrame) (acts : List Action), f.method = m → f.locked = none → f.entered = [] → (doReturn e (T.setTop f) acts (some (.int z))).1 = T.setFrames fs) : Steps p.tables e below (T.setTop (mkF m pc L.toArray st)) (T.setFrames fs) :=
  runo X hx hby hown hci hcj _ (fun a M u q => by obtain ⟨q1, rfl⟩ := q; exact retI X hx hret (hb hby q1) hl) n pc L st h
theorem endN (X : Stand p l e R s m args below meth c T locs cells slots) (hx : p.tables.exec = Jvm.exec) (hby : c.code = code) (hown : s.vm.findClass own = some m.cls) (hci : ∀ q ∈ ci, (Jvm.Cond.constant own q.1 q.2).before args s = true) (hcj : ∀ q ∈ cj, (Jvm.Cond.constantLong own q.1 q.2).before args s = true)
    {stops : List Nat} {n pc : Nat} {L : List Slot} {st : List Value} {z : Int32} {t : FieldType} (h : wpo code ci cj stops n pc L st (fun a _ u => decode code a = .ok (.ireturn, 1) ∧ u = [.int z])) (hret : meth.sig.returnType = some t) (ht : t = .boolean ∨ t = .byte ∨ t = .char ∨ t = .short) {fs : List Frame}
    (hl : ∀ (f : JFrame) (acts : List Action), f.method = m → f.locked = none → f.entered = [] → (doReturn e (T.setTop f) acts (some (.int (nar t z)))).1 = T.setFrames fs) : Steps p.tables e below (T.setTop (mkF m pc L.toArray st)) (T.setFrames fs) :=
  runo X hx hby hown hci hcj _ (fun a M u q => by obtain ⟨q1, rfl⟩ := q; exact retN X hx hret ht (hb hby q1) hl) n pc L st h
theorem endJ (X : Stand p l e R s m args below meth c T locs cells slots) (hx : p.tables.exec = Jvm.exec) (hby : c.code = code) (hown : s.vm.findClass own = some m.cls) (hci : ∀ q ∈ ci, (Jvm.Cond.constant own q.1 q.2).before args s = true) (hcj : ∀ q ∈ cj, (Jvm.Cond.constantLong own q.1 q.2).before args s = true)
    {stops : List Nat} {n pc : Nat} {L : List Slot} {st : List Value} {z : Int64} (h : wpo code ci cj stops n pc L st (fun a _ u => decode code a = .ok (.lreturn, 1) ∧ u = [.long z])) (hret : meth.sig.returnType = some .long) {fs : List Frame}
    (hl : ∀ (f : JFrame) (acts : List Action), f.method = m → f.locked = none → f.entered = [] → (doReturn e (T.setTop f) acts (some (.long z))).1 = T.setFrames fs) : Steps p.tables e below (T.setTop (mkF m pc L.toArray st)) (T.setFrames fs) :=
  runo X hx hby hown hci hcj _ (fun a M u q => by obtain ⟨q1, rfl⟩ := q; exact X.lreturnOut hx hret (hb hby q1) hl) n pc L st h
end
theorem cI {Z s : State} {a0 args : Array Value} {tb : List Jvm.Cond} {own : String} {ci : List (Nat × Int32)} (hZ : Z.Warmed39 s.vm) (hw : ∀ d ∈ tb, d.before a0 Z = true) (h : ∀ q ∈ ci, Jvm.Cond.constant own q.1 q.2 ∈ tb) : ∀ q ∈ ci, (Jvm.Cond.constant own q.1 q.2).before args s = true := fun q hq => mvT hZ (hw _ (h q hq))
theorem cJ {Z s : State} {a0 args : Array Value} {tb : List Jvm.Cond} {own : String} {cj : List (Nat × Int64)} (hZ : Z.Warmed39 s.vm) (hw : ∀ d ∈ tb, d.before a0 Z = true) (h : ∀ q ∈ cj, Jvm.Cond.constantLong own q.1 q.2 ∈ tb) : ∀ q ∈ cj, (Jvm.Cond.constantLong own q.1 q.2).before args s = true := fun q hq => mvT hZ (hw _ (h q hq))
section
theorem n_iload (code : ByteArray) (ci : List (Nat × Int32)) (cj : List (Nat × Int64)) (pc : Nat) (L : List Slot) (st : List Value) (k : Nat) : nx code ci cj (.iload k) 2 pc L st = gI (lget L k) fun v => go (pc + 2) L (.int v :: st) := rfl
theorem n_iload_n (code : ByteArray) (ci : List (Nat × Int32)) (cj : List (Nat × Int64)) (pc : Nat) (L : List Slot) (st : List Value) (k : Fin 4) : nx code ci cj (.iload_n k) 1 pc L st = gI (lget L k.val) fun v => go (pc + 1) L (.int v :: st) := rfl
theorem n_lload (code : ByteArray) (ci : List (Nat × Int32)) (cj : List (Nat × Int64)) (pc : Nat) (L : List Slot) (st : List Value) (k : Nat) : nx code ci cj (.lload k) 2 pc L st = gJ (lget L k) fun v => go (pc + 2) L (.long v :: st) := rfl
theorem n_lload_n (code : ByteArray) (ci : List (Nat × Int32)) (cj : List (Nat × Int64)) (pc : Nat) (L : List Slot) (st : List Value) (k : Fin 4) : nx code ci cj (.lload_n k) 1 pc L st = gJ (lget L k.val) fun v => go (pc + 1) L (.long v :: st) := rfl
theorem n_aload (code : ByteArray) (ci : List (Nat × Int32)) (cj : List (Nat × Int64)) (pc : Nat) (L : List Slot) (st : List Value) (k : Nat) : nx code ci cj (.aload k) 2 pc L st = gA (lget L k) fun v => go (pc + 2) L (v :: st) := rfl
theorem n_aload_n (code : ByteArray) (ci : List (Nat × Int32)) (cj : List (Nat × Int64)) (pc : Nat) (L : List Slot) (st : List Value) (k : Fin 4) : nx code ci cj (.aload_n k) 1 pc L st = gA (lget L k.val) fun v => go (pc + 1) L (v :: st) := rfl
theorem n_istore (code : ByteArray) (ci : List (Nat × Int32)) (cj : List (Nat × Int64)) (pc : Nat) (L : List Slot) (st : List Value) (k : Nat) : nx code ci cj (.istore k) 2 pc L st = pI st fun x r => st1 L k (.int x) (fun L' => go (pc + 2) L' r) none := rfl
theorem n_istore_n (code : ByteArray) (ci : List (Nat × Int32)) (cj : List (Nat × Int64)) (pc : Nat) (L : List Slot) (st : List Value) (k : Fin 4) : nx code ci cj (.istore_n k) 1 pc L st = pI st fun x r => st1 L k.val (.int x) (fun L' => go (pc + 1) L' r) none := rfl
theorem n_lstore (code : ByteArray) (ci : List (Nat × Int32)) (cj : List (Nat × Int64)) (pc : Nat) (L : List Slot) (st : List Value) (k : Nat) : nx code ci cj (.lstore k) 2 pc L st = pJ st fun x r => st2 L k x (fun L' => go (pc + 2) L' r) none := rfl
theorem n_lstore_n (code : ByteArray) (ci : List (Nat × Int32)) (cj : List (Nat × Int64)) (pc : Nat) (L : List Slot) (st : List Value) (k : Fin 4) : nx code ci cj (.lstore_n k) 1 pc L st = pJ st fun x r => st2 L k.val x (fun L' => go (pc + 1) L' r) none := rfl
theorem n_astore (code : ByteArray) (ci : List (Nat × Int32)) (cj : List (Nat × Int64)) (pc : Nat) (L : List Slot) (st : List Value) (k : Nat) : nx code ci cj (.astore k) 2 pc L st = pA st fun x r => st1 L k x (fun L' => go (pc + 2) L' r) none := rfl
theorem n_astore_n (code : ByteArray) (ci : List (Nat × Int32)) (cj : List (Nat × Int64)) (pc : Nat) (L : List Slot) (st : List Value) (k : Fin 4) : nx code ci cj (.astore_n k) 1 pc L st = pA st fun x r => st1 L k.val x (fun L' => go (pc + 1) L' r) none := rfl
theorem n_iconst (code : ByteArray) (ci : List (Nat × Int32)) (cj : List (Nat × Int64)) (pc : Nat) (L : List Slot) (st : List Value) (i : Int) : nx code ci cj (.iconst i) 1 pc L st = go (pc + 1) L (.int (Int32.ofInt i) :: st) := rfl
theorem n_lconst (code : ByteArray) (ci : List (Nat × Int32)) (cj : List (Nat × Int64)) (pc : Nat) (L : List Slot) (st : List Value) (k : Fin 2) : nx code ci cj (.lconst k) 1 pc L st = go (pc + 1) L (.long (Int64.ofNat k) :: st) := rfl
theorem n_bipush (code : ByteArray) (ci : List (Nat × Int32)) (cj : List (Nat × Int64)) (pc : Nat) (L : List Slot) (st : List Value) (i : Int) : nx code ci cj (.bipush i) 2 pc L st = go (pc + 2) L (.int (Int8.ofInt i).toInt32 :: st) := rfl
theorem n_sipush (code : ByteArray) (ci : List (Nat × Int32)) (cj : List (Nat × Int64)) (pc : Nat) (L : List Slot) (st : List Value) (i : Int) : nx code ci cj (.sipush i) 3 pc L st = go (pc + 3) L (.int (Int16.ofInt i).toInt32 :: st) := rfl
theorem n_ldc (code : ByteArray) (ci : List (Nat × Int32)) (cj : List (Nat × Int64)) (pc : Nat) (L : List Slot) (st : List Value) (k : Nat) : nx code ci cj (.ldc k) 2 pc L st = gC (fnd ci k) fun v => go (pc + 2) L (.int v :: st) := rfl
theorem n_ldc2_w (code : ByteArray) (ci : List (Nat × Int32)) (cj : List (Nat × Int64)) (pc : Nat) (L : List Slot) (st : List Value) (k : Nat) : nx code ci cj (.ldc2_w k) 3 pc L st = gC (fnd cj k) fun v => go (pc + 3) L (.long v :: st) := rfl
theorem n_iadd (code : ByteArray) (ci : List (Nat × Int32)) (cj : List (Nat × Int64)) (pc : Nat) (L : List Slot) (st : List Value)  : nx code ci cj (.iadd) 1 pc L st = pII st fun x y r => go (pc + 1) L (.int (x + y) :: r) := rfl
theorem n_isub (code : ByteArray) (ci : List (Nat × Int32)) (cj : List (Nat × Int64)) (pc : Nat) (L : List Slot) (st : List Value)  : nx code ci cj (.isub) 1 pc L st = pII st fun x y r => go (pc + 1) L (.int (x - y) :: r) := rfl
theorem n_imul (code : ByteArray) (ci : List (Nat × Int32)) (cj : List (Nat × Int64)) (pc : Nat) (L : List Slot) (st : List Value)  : nx code ci cj (.imul) 1 pc L st = pII st fun x y r => go (pc + 1) L (.int (x * y) :: r) := rfl
theorem n_idiv (code : ByteArray) (ci : List (Nat × Int32)) (cj : List (Nat × Int64)) (pc : Nat) (L : List Slot) (st : List Value)  : nx code ci cj (.idiv) 1 pc L st = pII st fun x y r => goIf (y ≠ 0) (pc + 1) L (.int (x / y) :: r) := rfl
theorem n_irem (code : ByteArray) (ci : List (Nat × Int32)) (cj : List (Nat × Int64)) (pc : Nat) (L : List Slot) (st : List Value)  : nx code ci cj (.irem) 1 pc L st = pII st fun x y r => goIf (y ≠ 0) (pc + 1) L (.int (x - (x / y) * y) :: r) := rfl
theorem n_iand (code : ByteArray) (ci : List (Nat × Int32)) (cj : List (Nat × Int64)) (pc : Nat) (L : List Slot) (st : List Value)  : nx code ci cj (.iand) 1 pc L st = pII st fun x y r => go (pc + 1) L (.int (x &&& y) :: r) := rfl
theorem n_ior (code : ByteArray) (ci : List (Nat × Int32)) (cj : List (Nat × Int64)) (pc : Nat) (L : List Slot) (st : List Value)  : nx code ci cj (.ior) 1 pc L st = pII st fun x y r => go (pc + 1) L (.int (x ||| y) :: r) := rfl
theorem n_ixor (code : ByteArray) (ci : List (Nat × Int32)) (cj : List (Nat × Int64)) (pc : Nat) (L : List Slot) (st : List Value)  : nx code ci cj (.ixor) 1 pc L st = pII st fun x y r => go (pc + 1) L (.int (x ^^^ y) :: r) := rfl
theorem n_ishl (code : ByteArray) (ci : List (Nat × Int32)) (cj : List (Nat × Int64)) (pc : Nat) (L : List Slot) (st : List Value)  : nx code ci cj (.ishl) 1 pc L st = pII st fun x y r => go (pc + 1) L (.int (oshl x y) :: r) := rfl
theorem n_ishr (code : ByteArray) (ci : List (Nat × Int32)) (cj : List (Nat × Int64)) (pc : Nat) (L : List Slot) (st : List Value)  : nx code ci cj (.ishr) 1 pc L st = pII st fun x y r => go (pc + 1) L (.int (oshr x y) :: r) := rfl
theorem n_iushr (code : ByteArray) (ci : List (Nat × Int32)) (cj : List (Nat × Int64)) (pc : Nat) (L : List Slot) (st : List Value)  : nx code ci cj (.iushr) 1 pc L st = pII st fun x y r => go (pc + 1) L (.int (oushr x y) :: r) := rfl
theorem n_ladd (code : ByteArray) (ci : List (Nat × Int32)) (cj : List (Nat × Int64)) (pc : Nat) (L : List Slot) (st : List Value)  : nx code ci cj (.ladd) 1 pc L st = pJJ st fun x y r => go (pc + 1) L (.long (x + y) :: r) := rfl
theorem n_lsub (code : ByteArray) (ci : List (Nat × Int32)) (cj : List (Nat × Int64)) (pc : Nat) (L : List Slot) (st : List Value)  : nx code ci cj (.lsub) 1 pc L st = pJJ st fun x y r => go (pc + 1) L (.long (x - y) :: r) := rfl
theorem n_lmul (code : ByteArray) (ci : List (Nat × Int32)) (cj : List (Nat × Int64)) (pc : Nat) (L : List Slot) (st : List Value)  : nx code ci cj (.lmul) 1 pc L st = pJJ st fun x y r => go (pc + 1) L (.long (x * y) :: r) := rfl
theorem n_ldiv (code : ByteArray) (ci : List (Nat × Int32)) (cj : List (Nat × Int64)) (pc : Nat) (L : List Slot) (st : List Value)  : nx code ci cj (.ldiv) 1 pc L st = pJJ st fun x y r => goIf (y ≠ 0) (pc + 1) L (.long (x / y) :: r) := rfl
theorem n_lrem (code : ByteArray) (ci : List (Nat × Int32)) (cj : List (Nat × Int64)) (pc : Nat) (L : List Slot) (st : List Value)  : nx code ci cj (.lrem) 1 pc L st = pJJ st fun x y r => goIf (y ≠ 0) (pc + 1) L (.long (x - (x / y) * y) :: r) := rfl
theorem n_land (code : ByteArray) (ci : List (Nat × Int32)) (cj : List (Nat × Int64)) (pc : Nat) (L : List Slot) (st : List Value)  : nx code ci cj (.land) 1 pc L st = pJJ st fun x y r => go (pc + 1) L (.long (x &&& y) :: r) := rfl
theorem n_lor (code : ByteArray) (ci : List (Nat × Int32)) (cj : List (Nat × Int64)) (pc : Nat) (L : List Slot) (st : List Value)  : nx code ci cj (.lor) 1 pc L st = pJJ st fun x y r => go (pc + 1) L (.long (x ||| y) :: r) := rfl
theorem n_lxor (code : ByteArray) (ci : List (Nat × Int32)) (cj : List (Nat × Int64)) (pc : Nat) (L : List Slot) (st : List Value)  : nx code ci cj (.lxor) 1 pc L st = pJJ st fun x y r => go (pc + 1) L (.long (x ^^^ y) :: r) := rfl
theorem n_lshl (code : ByteArray) (ci : List (Nat × Int32)) (cj : List (Nat × Int64)) (pc : Nat) (L : List Slot) (st : List Value)  : nx code ci cj (.lshl) 1 pc L st = pJI st fun x y r => go (pc + 1) L (.long (oshlL x y) :: r) := rfl
theorem n_lushr (code : ByteArray) (ci : List (Nat × Int32)) (cj : List (Nat × Int64)) (pc : Nat) (L : List Slot) (st : List Value)  : nx code ci cj (.lushr) 1 pc L st = pJI st fun x y r => go (pc + 1) L (.long (oushrL x y) :: r) := rfl
theorem n_i2l (code : ByteArray) (ci : List (Nat × Int32)) (cj : List (Nat × Int64)) (pc : Nat) (L : List Slot) (st : List Value)  : nx code ci cj (.i2l) 1 pc L st = pI st fun x r => go (pc + 1) L (.long x.toInt64 :: r) := rfl
theorem n_l2i (code : ByteArray) (ci : List (Nat × Int32)) (cj : List (Nat × Int64)) (pc : Nat) (L : List Slot) (st : List Value)  : nx code ci cj (.l2i) 1 pc L st = pJ st fun x r => go (pc + 1) L (.int x.toInt32 :: r) := rfl
theorem n_i2b (code : ByteArray) (ci : List (Nat × Int32)) (cj : List (Nat × Int64)) (pc : Nat) (L : List Slot) (st : List Value)  : nx code ci cj (.i2b) 1 pc L st = pI st fun x r => go (pc + 1) L (.int x.toInt8.toInt32 :: r) := rfl
theorem n_i2c (code : ByteArray) (ci : List (Nat × Int32)) (cj : List (Nat × Int64)) (pc : Nat) (L : List Slot) (st : List Value)  : nx code ci cj (.i2c) 1 pc L st = pI st fun x r => go (pc + 1) L (.int x.toUInt32.toUInt16.toUInt32.toInt32 :: r) := rfl
theorem n_iinc (code : ByteArray) (ci : List (Nat × Int32)) (cj : List (Nat × Int64)) (pc : Nat) (L : List Slot) (st : List Value) (k : Nat) (cst : Int) : nx code ci cj (.iinc k cst) 3 pc L st = gI (lget L k) fun x => st1 L k (.int (x + Int32.ofInt cst)) (fun L' => go (pc + 3) L' st) none := rfl
theorem n_goto (code : ByteArray) (ci : List (Nat × Int32)) (cj : List (Nat × Int64)) (pc : Nat) (L : List Slot) (st : List Value) (o : Int) : nx code ci cj (.goto o) 3 pc L st = okO pc o (go (tgt pc o) L st) := rfl
theorem n_ifCond (code : ByteArray) (ci : List (Nat × Int32)) (cj : List (Nat × Int64)) (pc : Nat) (L : List Slot) (st : List Value) (cd : ClassFile.Cond) (o : Int) : nx code ci cj (.ifCond cd o) 3 pc L st = okO pc o (pI st fun x r => fork (cnd cd x 0) (tgt pc o) (pc + 3) L r) := rfl
theorem n_if_icmp (code : ByteArray) (ci : List (Nat × Int32)) (cj : List (Nat × Int64)) (pc : Nat) (L : List Slot) (st : List Value) (cd : ClassFile.Cond) (o : Int) : nx code ci cj (.if_icmp cd o) 3 pc L st = okO pc o (pII st fun x y r => fork (cnd cd x y) (tgt pc o) (pc + 3) L r) := rfl
theorem n_lcmp (code : ByteArray) (ci : List (Nat × Int32)) (cj : List (Nat × Int64)) (pc : Nat) (L : List Slot) (st : List Value)  : nx code ci cj (.lcmp) 1 pc L st = pJJ st fun x y r => gB (decode code (pc + 1)) fun cd o => okO (pc + 1) o (fork (cndL cd x y) (tgt (pc + 1) o) (pc + 4) L r) := rfl
theorem n_dup (code : ByteArray) (ci : List (Nat × Int32)) (cj : List (Nat × Int64)) (pc : Nat) (L : List Slot) (st : List Value)  : nx code ci cj (.dup) 1 pc L st = p1 st fun x r => go (pc + 1) L (x :: x :: r) := rfl
theorem n_pop (code : ByteArray) (ci : List (Nat × Int32)) (cj : List (Nat × Int64)) (pc : Nat) (L : List Slot) (st : List Value)  : nx code ci cj (.pop) 1 pc L st = p1 st fun _ r => go (pc + 1) L r := rfl
theorem n_invokestatic (code : ByteArray) (ci : List (Nat × Int32)) (cj : List (Nat × Int64)) (pc : Nat) (L : List Slot) (st : List Value) (k : Nat) (len : Nat) : nx code ci cj (.invokestatic k) len pc L st = none := rfl
theorem n_invokespecial (code : ByteArray) (ci : List (Nat × Int32)) (cj : List (Nat × Int64)) (pc : Nat) (L : List Slot) (st : List Value) (k : Nat) (len : Nat) : nx code ci cj (.invokespecial k) len pc L st = none := rfl
theorem n_invokevirtual (code : ByteArray) (ci : List (Nat × Int32)) (cj : List (Nat × Int64)) (pc : Nat) (L : List Slot) (st : List Value) (k : Nat) (len : Nat) : nx code ci cj (.invokevirtual k) len pc L st = none := rfl
theorem n_new (code : ByteArray) (ci : List (Nat × Int32)) (cj : List (Nat × Int64)) (pc : Nat) (L : List Slot) (st : List Value) (k : Nat) (len : Nat) : nx code ci cj (.new k) len pc L st = none := rfl
theorem n_newarray (code : ByteArray) (ci : List (Nat × Int32)) (cj : List (Nat × Int64)) (pc : Nat) (L : List Slot) (st : List Value) (k : ArrayType) (len : Nat) : nx code ci cj (.newarray k) len pc L st = none := rfl
theorem n_getfield (code : ByteArray) (ci : List (Nat × Int32)) (cj : List (Nat × Int64)) (pc : Nat) (L : List Slot) (st : List Value) (k : Nat) (len : Nat) : nx code ci cj (.getfield k) len pc L st = none := rfl
theorem n_getstatic (code : ByteArray) (ci : List (Nat × Int32)) (cj : List (Nat × Int64)) (pc : Nat) (L : List Slot) (st : List Value) (k : Nat) (len : Nat) : nx code ci cj (.getstatic k) len pc L st = none := rfl
theorem n_putstatic (code : ByteArray) (ci : List (Nat × Int32)) (cj : List (Nat × Int64)) (pc : Nat) (L : List Slot) (st : List Value) (k : Nat) (len : Nat) : nx code ci cj (.putstatic k) len pc L st = none := rfl
theorem n_putfield (code : ByteArray) (ci : List (Nat × Int32)) (cj : List (Nat × Int64)) (pc : Nat) (L : List Slot) (st : List Value) (k : Nat) (len : Nat) : nx code ci cj (.putfield k) len pc L st = none := rfl
theorem n_iaload (code : ByteArray) (ci : List (Nat × Int32)) (cj : List (Nat × Int64)) (pc : Nat) (L : List Slot) (st : List Value)  (len : Nat) : nx code ci cj (.iaload) len pc L st = none := rfl
theorem n_laload (code : ByteArray) (ci : List (Nat × Int32)) (cj : List (Nat × Int64)) (pc : Nat) (L : List Slot) (st : List Value)  (len : Nat) : nx code ci cj (.laload) len pc L st = none := rfl
theorem n_baload (code : ByteArray) (ci : List (Nat × Int32)) (cj : List (Nat × Int64)) (pc : Nat) (L : List Slot) (st : List Value)  (len : Nat) : nx code ci cj (.baload) len pc L st = none := rfl
theorem n_iastore (code : ByteArray) (ci : List (Nat × Int32)) (cj : List (Nat × Int64)) (pc : Nat) (L : List Slot) (st : List Value)  (len : Nat) : nx code ci cj (.iastore) len pc L st = none := rfl
theorem n_lastore (code : ByteArray) (ci : List (Nat × Int32)) (cj : List (Nat × Int64)) (pc : Nat) (L : List Slot) (st : List Value)  (len : Nat) : nx code ci cj (.lastore) len pc L st = none := rfl
theorem n_bastore (code : ByteArray) (ci : List (Nat × Int32)) (cj : List (Nat × Int64)) (pc : Nat) (L : List Slot) (st : List Value)  (len : Nat) : nx code ci cj (.bastore) len pc L st = none := rfl
theorem n_arraylength (code : ByteArray) (ci : List (Nat × Int32)) (cj : List (Nat × Int64)) (pc : Nat) (L : List Slot) (st : List Value)  (len : Nat) : nx code ci cj (.arraylength) len pc L st = none := rfl
theorem n_ireturn (code : ByteArray) (ci : List (Nat × Int32)) (cj : List (Nat × Int64)) (pc : Nat) (L : List Slot) (st : List Value)  (len : Nat) : nx code ci cj (.ireturn) len pc L st = none := rfl
theorem n_lreturn (code : ByteArray) (ci : List (Nat × Int32)) (cj : List (Nat × Int64)) (pc : Nat) (L : List Slot) (st : List Value)  (len : Nat) : nx code ci cj (.lreturn) len pc L st = none := rfl
theorem n_return_ (code : ByteArray) (ci : List (Nat × Int32)) (cj : List (Nat × Int64)) (pc : Nat) (L : List Slot) (st : List Value)  (len : Nat) : nx code ci cj (.return_) len pc L st = none := rfl
end
theorem r_wp0 (code : ByteArray) (ci : List (Nat × Int32)) (cj : List (Nat × Int64)) (stops : List Nat) (pc : Nat) (L : List Slot) (st : List Value) (K : Nat → List Slot → List Value → Prop) : wpo code ci cj stops 0 pc L st K = K pc L st := rfl
theorem r_wpS (code : ByteArray) (ci : List (Nat × Int32)) (cj : List (Nat × Int64)) (stops : List Nat) (n pc : Nat) (L : List Slot) (st : List Value) (K : Nat → List Slot → List Value → Prop) : wpo code ci cj stops (n + 1) pc L st K =
    match nxt code ci cj pc L st with
    | none => K pc L st
    | some (.inl (ob, a, L', st')) => ob ∧ stopAt stops a (K a L' st') (wpo code ci cj stops n a L' st' K)
    | some (.inr (c, a, b, L', st')) => (c → stopAt stops a (K a L' st') (wpo code ci cj stops n a L' st' K)) ∧ (¬ c → stopAt stops b (K b L' st') (wpo code ci cj stops n b L' st' K)) := rfl
theorem r_nxt (code : ByteArray) (ci : List (Nat × Int32)) (cj : List (Nat × Int64)) (pc : Nat) (L : List Slot) (st : List Value) : nxt code ci cj pc L st = match decode code pc with | .ok r => nx code ci cj r.1 r.2 pc L st | .error _ => none := rfl
theorem r_stop0 (pc : Nat) (A B : Prop) : stopAt [] pc A B = B := rfl
theorem r_stopS (k : Nat) (t : List Nat) (pc : Nat) (A B : Prop) : stopAt (k :: t) pc A B = bif k == pc then A else stopAt t pc A B := rfl
theorem r_go (pc : Nat) (L : List Slot) (st : List Value) : go pc L st = some (.inl (True, pc, L, st)) := rfl
theorem r_goIf (ob : Prop) (pc : Nat) (L : List Slot) (st : List Value) : goIf ob pc L st = some (.inl (ob, pc, L, st)) := rfl
theorem r_fork (c : Prop) (a b : Nat) (L : List Slot) (st : List Value) : fork c a b L st = some (.inr (c, a, b, L, st)) := rfl
theorem r_tgt (pc : Nat) (o : Int) : tgt pc o = ((pc : Int) + o).toNat := rfl
theorem r_okO (pc : Nat) (o : Int) (r : Rs) : okO pc o r = if 0 ≤ (pc : Int) + o then r else none := rfl
theorem r_gI (v : Int32) (F : Int32 → Rs) : gI (some (.val (.int v))) F = F v := rfl
theorem r_gJ (v : Int64) (F : Int64 → Rs) : gJ (some (.val (.long v))) F = F v := rfl
theorem r_gA (v : Addr) (F : Value → Rs) : gA (some (.val (.ref v))) F = F (.ref v) := rfl
theorem r_pI (x : Int32) (r : List Value) (F : Int32 → List Value → Rs) : pI (.int x :: r) F = F x r := rfl
theorem r_pJ (x : Int64) (r : List Value) (F : Int64 → List Value → Rs) : pJ (.long x :: r) F = F x r := rfl
theorem r_pA (x : Addr) (r : List Value) (F : Value → List Value → Rs) : pA (.ref x :: r) F = F (.ref x) r := rfl
theorem r_p1r (x : Addr) (r : List Value) (F : Value → List Value → Rs) : p1 (.ref x :: r) F = F (.ref x) r := rfl
theorem r_p1i (x : Int32) (r : List Value) (F : Value → List Value → Rs) : p1 (.int x :: r) F = F (.int x) r := rfl
theorem r_pII (x y : Int32) (r : List Value) (F : Int32 → Int32 → List Value → Rs) : pII (.int y :: .int x :: r) F = F x y r := rfl
theorem r_pJJ (x y : Int64) (r : List Value) (F : Int64 → Int64 → List Value → Rs) : pJJ (.long y :: .long x :: r) F = F x y r := rfl
theorem r_pJI (x : Int64) (y : Int32) (r : List Value) (F : Int64 → Int32 → List Value → Rs) : pJI (.int y :: .long x :: r) F = F x y r := rfl
theorem r_fnd0 (k : Nat) : fnd ([] : List (Nat × α)) k = none := rfl
theorem r_fndS (j : Nat) (v : α) (t : List (Nat × α)) (k : Nat) : fnd ((j, v) :: t) k = bif j == k then some v else fnd t k := rfl
theorem r_gC (v : α) (F : α → Rs) : gC (some v) F = F v := rfl
theorem r_gC0 (F : α → Rs) : gC none F = none := rfl
theorem r_gB (cd : ClassFile.Cond) (o : Int) (F : ClassFile.Cond → Int → Rs) : gB (.ok (.ifCond cd o, 3)) F = F cd o := rfl
theorem r_st1 (L : List Slot) (k : Nat) (v : Value) (F : List Slot → Rs) (d : Rs) : st1 L k v F d = bif one (lget L k) then F (lput L k (.val v)) else d := rfl
theorem r_st2 (L : List Slot) (k : Nat) (v : Int64) (F : List Slot → Rs) (d : Rs) : st2 L k v F d = bif two (lget L k) (lget L (k + 1)) then F (lput (lput L k (.val (.long v))) (k + 1) .second) else d := rfl
theorem r_eq (x y : Int32) : cnd .eq x y = (x = y) := rfl
theorem r_ne (x y : Int32) : cnd .ne x y = (¬ x = y) := rfl
theorem r_lt (x y : Int32) : cnd .lt x y = (x < y) := rfl
theorem r_ge (x y : Int32) : cnd .ge x y = (¬ x < y) := rfl
theorem r_gt (x y : Int32) : cnd .gt x y = (y < x) := rfl
theorem r_le (x y : Int32) : cnd .le x y = (¬ y < x) := rfl
theorem r_eqL (x y : Int64) : cndL .eq x y = (x = y) := rfl
theorem r_neL (x y : Int64) : cndL .ne x y = (¬ x = y) := rfl
theorem r_ltL (x y : Int64) : cndL .lt x y = (x < y) := rfl
theorem r_geL (x y : Int64) : cndL .ge x y = (¬ x < y) := rfl
theorem r_gtL (x y : Int64) : cndL .gt x y = (y < x) := rfl
theorem r_leL (x y : Int64) : cndL .le x y = (¬ y < x) := rfl
theorem r_f0 : ((0 : Fin 4).val) = 0 := rfl
theorem r_f1 : ((1 : Fin 4).val) = 1 := rfl
theorem r_f2 : ((2 : Fin 4).val) = 2 := rfl
theorem r_f3 : ((3 : Fin 4).val) = 3 := rfl
theorem r_im1 : Int32.ofInt (-1) = -1 := rfl
theorem r_i0 : Int32.ofInt 0 = 0 := rfl
theorem r_i1 : Int32.ofInt 1 = 1 := rfl
theorem r_i2 : Int32.ofInt 2 = 2 := rfl
theorem r_i3 : Int32.ofInt 3 = 3 := rfl
theorem r_i4 : Int32.ofInt 4 = 4 := rfl
theorem r_i5 : Int32.ofInt 5 = 5 := rfl
theorem r_i7 : Int32.ofInt 7 = 7 := rfl
theorem r_l0 : Int64.ofNat ((0 : Fin 2).val) = 0 := rfl
theorem r_l1 : Int64.ofNat ((1 : Fin 2).val) = 1 := rfl
/-! contracts of bodies that only reckon, and the call of one -/
section
variable {l : Launch} {Z : State} {a0 : Array Value} {tb : List Jvm.Cond} {y : MethodName} {bytes : ByteArray} {maxL : Nat} {ret : Option FieldType} {ws : List Jvm.Cond} {as' : Array Value} {h0 : Heap} {ci : List (Nat × Int32)} {cj : List (Nat × Int64)} {L0 : List Slot} {stops : List Nat} {n : Nat}
def room0 : Room := { frames := 0, cells := 0, slots := 0, locals := 0 }
def PureQ (V : Value) (h0 : Heap) (v : Option Value) (h : Heap) (L : List Loc) : Prop := v = some V ∧ L = [] ∧ h = h0
abbrev Pays (l : Launch) (Z : State) (y : MethodName) (bytes : ByteArray) (maxL : Nat) (ret : Option FieldType) (ws : List Jvm.Cond) (as' : Array Value) (h0 : Heap) (V : Value) : Prop :=
  MetFree l y (head1 (Jvm.Cond.code y bytes maxL ret :: ws) room0) (fun a U => a = as' ∧ Z.Warmed39 U.vm ∧ U.heap = h0) (fun _ _ _ _ _ => True) (fun _ U o U' => ∃ v L, o = .returned v ∧ PureQ V h0 v U'.heap L ∧ FrameEnd U o U' L room0.cells room0.slots)
theorem pureI (hpn : plainName y.cls = true) (hw : ∀ d ∈ tb, d.before a0 Z = true) (hci : ∀ q ∈ ci, Jvm.Cond.constant y.cls q.1 q.2 ∈ tb) (hcj : ∀ q ∈ cj, Jvm.Cond.constantLong y.cls q.1 q.2 ∈ tb) (hef : ∀ m, entryFrame m as' maxL = mkF m 0 L0.toArray []) (hret : ret = some .int) {z : Int32}
    (h : wpo bytes ci cj stops n 0 L0 [] (fun a _ u => decode bytes a = .ok (.ireturn, 1) ∧ u = [.int z])) : Pays l Z y bytes maxL ret ws as' h0 (.int z) := by
  refine MetFree.of_bodySF (plainFor_of_name hpn) hisR ?_
  intro p e s m args below meth c s₁ Bd hml0 hP hK
  obtain ⟨rfl, hZ, hh⟩ := hP
  have hown : s.vm.findClass y.cls = some m.cls := findClass_of_methodNamed Bd.named
  have X0 : Stand p l e room0 s m args below meth c s₁ [] 0 0 := Stand.of_body Bd
  have e0 : s₁.heap = h0 := by rw [← hh, Bd.state]; rfl
  obtain ⟨fs, hr, hrun, hended, hW, hsame⟩ := X0.leave (v := some (.int z)) (fun h => by rw [Bd.returns, hret] at h; cases h)
  refine ⟨_, _, castTop (hef m) ?_, hrun, hended, _, _, rfl, ?_, ⟨_, rfl⟩, hW, hsame.mono (by decide) (by decide)⟩
  · exact endI X0 Bd.exec Bd.bytes hown (cI hZ hw hci) (cJ hZ hw hcj) h (Bd.returns.trans hret) hr
  · exact ⟨rfl, rfl, e0⟩
theorem pureN {t : FieldType} (ht : t = .boolean ∨ t = .byte ∨ t = .char ∨ t = .short) (hpn : plainName y.cls = true) (hw : ∀ d ∈ tb, d.before a0 Z = true) (hci : ∀ q ∈ ci, Jvm.Cond.constant y.cls q.1 q.2 ∈ tb) (hcj : ∀ q ∈ cj, Jvm.Cond.constantLong y.cls q.1 q.2 ∈ tb) (hef : ∀ m, entryFrame m as' maxL = mkF m 0 L0.toArray []) (hret : ret = some t) {z : Int32} (hz : nar t z = z)
    (h : wpo bytes ci cj stops n 0 L0 [] (fun a _ u => decode bytes a = .ok (.ireturn, 1) ∧ u = [.int z])) : Pays l Z y bytes maxL ret ws as' h0 (.int z) := by
  refine MetFree.of_bodySF (plainFor_of_name hpn) hisR ?_
  intro p e s m args below meth c s₁ Bd hml0 hP hK
  obtain ⟨rfl, hZ, hh⟩ := hP
  have hown : s.vm.findClass y.cls = some m.cls := findClass_of_methodNamed Bd.named
  have X0 : Stand p l e room0 s m args below meth c s₁ [] 0 0 := Stand.of_body Bd
  have e0 : s₁.heap = h0 := by rw [← hh, Bd.state]; rfl
  obtain ⟨fs, hr, hrun, hended, hW, hsame⟩ := X0.leave (v := some (.int z)) (fun h => by rw [Bd.returns, hret] at h; cases h)
  refine ⟨_, _, castTop (hef m) ?_, hrun, hended, _, _, rfl, ?_, ⟨_, rfl⟩, hW, hsame.mono (by decide) (by decide)⟩
  · exact endN X0 Bd.exec Bd.bytes hown (cI hZ hw hci) (cJ hZ hw hcj) h (Bd.returns.trans hret) ht (by rw [hz]; exact hr)
  · exact ⟨rfl, rfl, e0⟩
theorem pureJ (hpn : plainName y.cls = true) (hw : ∀ d ∈ tb, d.before a0 Z = true) (hci : ∀ q ∈ ci, Jvm.Cond.constant y.cls q.1 q.2 ∈ tb) (hcj : ∀ q ∈ cj, Jvm.Cond.constantLong y.cls q.1 q.2 ∈ tb) (hef : ∀ m, entryFrame m as' maxL = mkF m 0 L0.toArray []) (hret : ret = some .long) {z : Int64}
    (h : wpo bytes ci cj stops n 0 L0 [] (fun a _ u => decode bytes a = .ok (.lreturn, 1) ∧ u = [.long z])) : Pays l Z y bytes maxL ret ws as' h0 (.long z) := by
  refine MetFree.of_bodySF (plainFor_of_name hpn) hisR ?_
  intro p e s m args below meth c s₁ Bd hml0 hP hK
  obtain ⟨rfl, hZ, hh⟩ := hP
  have hown : s.vm.findClass y.cls = some m.cls := findClass_of_methodNamed Bd.named
  have X0 : Stand p l e room0 s m args below meth c s₁ [] 0 0 := Stand.of_body Bd
  have e0 : s₁.heap = h0 := by rw [← hh, Bd.state]; rfl
  obtain ⟨fs, hr, hrun, hended, hW, hsame⟩ := X0.leave (v := some (.long z)) (fun h => by rw [Bd.returns, hret] at h; cases h)
  refine ⟨_, _, castTop (hef m) ?_, hrun, hended, _, _, rfl, ?_, ⟨_, rfl⟩, hW, hsame.mono (by decide) (by decide)⟩
  · exact endJ X0 Bd.exec Bd.bytes hown (cI hZ hw hci) (cJ hZ hw hcj) h (Bd.returns.trans hret) hr
  · exact ⟨rfl, rfl, e0⟩
variable {p : Program} {e : Env} {R : Room} {s : State} {m : MethodId} {args : Array Value} {below : List Frame} {meth : Method} {c : Code} {T : State} {locs : List Loc} {cells slots : Nat} {own : String} {V : Value}
/-- the call of a static body that only reckons: the state moves, its heap doesn't -/
theorem callPure (X : Stand p l e R s m args below meth c T locs cells slots) (hx : p.tables.exec = Jvm.exec) (hZ : Z.Warmed39 s.vm) (hown : s.vm.findClass own = some m.cls) {index : Nat}
    (w1 : (Jvm.Cond.methodLink own index y).before a0 Z = true) (w2 : (Jvm.Cond.static y).before a0 Z = true) (w3 : (Jvm.Cond.initialized y.cls).before a0 Z = true) (w4 : (Jvm.Cond.code y bytes maxL ret).before a0 Z = true) (hy : y.cls ≠ "java/lang/invoke/MethodHandle" ∧ y.cls ≠ "java/lang/invoke/VarHandle")
    {h : Heap} (eT : T.heap = h) {argsL rest : List Value} (hM : Pays l Z y bytes maxL ret [] argsL.toArray h V) {W : Nat} (hf : 1 ≤ R.frames) (hl : W + (maxL + 11) ≤ R.locals) (hcl : cells ≤ R.cells) (hsl : slots ≤ R.slots)
    {pc : Nat} {Ls : Array Slot} {st : List Value} (hsize : Ls.size = c.maxLocals) (hlen : ∀ sig, parseMethodDescriptor y.desc = some sig → argsL.length = sig.parameters.length) (hst : st = argsL.reverse ++ rest) (hW : (rest.map fun v => v.category).sum ≤ W) (hd : decode c.code pc = .ok (.invokestatic index, 3)) :
    ∃ T', Stand p l e R s m args below meth c T' locs cells slots ∧ T'.heap = h ∧ ∀ target, Steps p.tables e below (T'.setTop (mkF m (pc + 3) Ls (V :: rest))) target → Steps p.tables e below (T.setTop (mkF m pc Ls st)) target := by
  obtain ⟨v, _, ⟨T5, L5, k5, n5⟩, -, X5, ⟨Lc5, hQ5, l5, y5, z5⟩, st5⟩ := Jvm.LawKit.callS X hx (y := y) hown (mvT hZ w1) (mvT hZ w2) (mvT hZ w3) (mvT hZ w4) hy (backOf (W := W) hM hZ w4 w3 hf hl) (g := mkF m pc Ls st) rfl hsize (argsL := argsL) (rest := rest) hlen hst (by show 2 * 0 + _ ≤ _; rw [Nat.mul_zero, Nat.zero_add]; exact hW) hd (fun _ _ => ⟨rfl, eT, hcl, hsl⟩)
  dsimp only [Pt.U, Pt.locs, Pt.cells, Pt.slots] at X5 l5 y5 z5 st5 hQ5
  obtain ⟨rfl, rfl, hq⟩ := hQ5
  subst y5 z5
  rw [List.append_nil] at l5
  subst l5
  exact ⟨T5, X5, hq, st5⟩
end
end Jvm.OwnRun
/-! OwnNum: shifts and remainders as integers -/
namespace Jvm.OwnRun
theorem nat32 (x : Int32) : (x.toBitVec.toNat : Int) = x.toInt % 4294967296 := by
  have h : x.toBitVec = BitVec.ofInt 32 x.toInt := (BitVec.ofInt_toInt (x := x.toBitVec)).symm
  have h2 := congrArg BitVec.toNat h
  rw [BitVec.toNat_ofInt] at h2
  omega
theorem nat64 (x : Int64) : (x.toBitVec.toNat : Int) = x.toInt % 18446744073709551616 := by
  have h : x.toBitVec = BitVec.ofInt 64 x.toInt := (BitVec.ofInt_toInt (x := x.toBitVec)).symm
  have h2 := congrArg BitVec.toNat h
  rw [BitVec.toNat_ofInt] at h2
  omega
theorem small32 (x : Int32) (h : x.toBitVec.toNat < 2147483648) : x.toInt = (x.toBitVec.toNat : Int) := by
  have h1 := nat32 x
  have h2 := x.toInt_lt
  have h3 := x.le_toInt
  omega
theorem small64 (x : Int64) (h : x.toBitVec.toNat < 9223372036854775808) : x.toInt = (x.toBitVec.toNat : Int) := by
  have h1 := nat64 x
  have h2 := x.toInt_lt
  have h3 := x.le_toInt
  omega
theorem bv_ushr (x y : Int32) {k : Nat} (hk : (y &&& 31).toBitVec.toNat = k) (h2 : k < 32) : (oushr x y).toBitVec = x.toBitVec >>> k := by
  have e : (oushr x y).toBitVec = x.toBitVec >>> ((y &&& 31).toBitVec % 32#32) := rfl
  rw [e, BitVec.ushiftRight_eq', BitVec.toNat_umod, hk]
  rw [show (32#32).toNat = 32 from rfl, Nat.mod_eq_of_lt h2]
theorem num_ushr (x y : Int32) {k : Nat} (hk : (y &&& 31).toBitVec.toNat = k) (h1 : 0 < k) (h2 : k < 32) : (oushr x y).toInt = x.toInt % 4294967296 / 2 ^ k := by
  have e := congrArg BitVec.toNat (bv_ushr x y hk h2)
  rw [BitVec.toNat_ushiftRight, Nat.shiftRight_eq_div_pow] at e
  have hp : 2 ≤ 2 ^ k := by
    obtain ⟨j, rfl⟩ : ∃ j, k = j + 1 := ⟨k - 1, by omega⟩
    have := Nat.one_le_two_pow (n := j)
    rw [Nat.pow_succ]; omega
  have hl : x.toBitVec.toNat / 2 ^ k ≤ x.toBitVec.toNat / 2 := Nat.div_le_div_left hp (by decide)
  have hx := x.toBitVec.isLt
  rw [small32 _ (by rw [e]; omega), e, ← nat32 x]
  simp
theorem bv_ushrL (x : Int64) (y : Int32) {k : Nat} (hk : (y &&& 0x3f).toInt64.toBitVec.toNat = k) (h2 : k < 64) : (oushrL x y).toBitVec = x.toBitVec >>> k := by
  have e : (oushrL x y).toBitVec = x.toBitVec >>> ((y &&& 0x3f).toInt64.toBitVec % 64#64) := rfl
  rw [e, BitVec.ushiftRight_eq', BitVec.toNat_umod, hk]
  rw [show (64#64).toNat = 64 from rfl, Nat.mod_eq_of_lt h2]
theorem num_ushrL (x : Int64) (y : Int32) {k : Nat} (hk : (y &&& 0x3f).toInt64.toBitVec.toNat = k) (h1 : 0 < k) (h2 : k < 64) : (oushrL x y).toInt = x.toInt % 18446744073709551616 / 2 ^ k := by
  have e := congrArg BitVec.toNat (bv_ushrL x y hk h2)
  rw [BitVec.toNat_ushiftRight, Nat.shiftRight_eq_div_pow] at e
  have hp : 2 ≤ 2 ^ k := by
    obtain ⟨j, rfl⟩ : ∃ j, k = j + 1 := ⟨k - 1, by omega⟩
    have := Nat.one_le_two_pow (n := j)
    rw [Nat.pow_succ]; omega
  have hl : x.toBitVec.toNat / 2 ^ k ≤ x.toBitVec.toNat / 2 := Nat.div_le_div_left hp (by decide)
  have hx := x.toBitVec.isLt
  rw [small64 _ (by rw [e]; omega), e, ← nat64 x]
  simp
theorem own_rem32 {x y : Int32} (hx : 0 ≤ x.toInt) (hy : 0 < y.toInt) : (x - x / y * y).toInt = x.toInt % y.toInt := by
  have hd : (x / y).toInt = x.toInt / y.toInt := by rw [Jvm.Kit.i32_div (by omega), Int.tdiv_eq_ediv_of_nonneg hx]
  have hn : 0 ≤ x.toInt / y.toInt := Int.ediv_nonneg hx (by omega)
  have hm : 0 ≤ x.toInt / y.toInt * y.toInt := Int.mul_nonneg hn (by omega)
  have hl : x.toInt / y.toInt * y.toInt ≤ x.toInt := Int.ediv_mul_le _ (by omega)
  have hX := x.toInt_lt
  have e1 : (x / y * y).toInt = x.toInt / y.toInt * y.toInt := by rw [Jvm.Kit.i32_mul (by rw [hd]; omega) (by rw [hd]; omega), hd]
  rw [Jvm.Kit.i32_sub (by rw [e1]; omega) (by rw [e1]; omega), e1, Int.emod_def, Int.mul_comm]
theorem own_rem64 {x y : Int64} (hx : 0 ≤ x.toInt) : (x - x / y * y).toInt = x.toInt % y.toInt := Jvm.Kit.i64_rem_nonneg hx
theorem idx32 {j : Int32} {k : Nat} (h : j.toInt = k) : ¬ j < 0 ∧ j.toNatClampNeg = k := by
  refine ⟨fun q => ?_, ?_⟩
  · rw [Int32.lt_iff_toInt_lt] at q
    have t : (0 : Int32).toInt = 0 := rfl
    omega
  · show j.toInt.toNat = k
    omega
end Jvm.OwnRun
/-! OwnArr: an array by what each place holds -/
namespace Jvm.OwnRun
open Sem ClassFile Op Lib Jvm.Stand Jvm.Free Jvm.LawKit Jvm.RoadKit
def oupd {α : Type} (f : Nat → α) (i : Nat) (v : α) (k : Nat) : α := if k = i then v else f k
def Ary (Z : State) (h : Heap) (a : Addr) (ty : FieldType) (n : Nat) (f : Nat → Value) : Prop := ∃ c : Cell, Arr Z h a c ty ∧ c.slots.size = n ∧ ∀ k, k < n → c.slots[k]? = some (f k)
abbrev AI (Z : State) (h : Heap) (a : Addr) (ty : FieldType) (n : Nat) (g : Nat → Int32) : Prop := Ary Z h a ty n (fun k => .int (g k))
abbrev AJ (Z : State) (h : Heap) (a : Addr) (n : Nat) (g : Nat → Int64) : Prop := Ary Z h a .long n (fun k => .long (g k))
section
variable {Z : State} {h h' : Heap} {a b : Addr} {ty : FieldType} {n i : Nat} {f : Nat → Value} {v : Value} {ws : List Addr}
theorem Ary.lt (A : Ary Z h a ty n f) : a < h.size := by obtain ⟨c, A, -⟩ := A; exact A.lt
theorem Ary.ext (A : Ary Z h a ty n f) (E : Ext h h') : Ary Z h' a ty n f := by obtain ⟨c, A, r⟩ := A; exact ⟨c, A.ext E, r⟩
theorem Ary.keep (A : Ary Z h a ty n f) (K : Keep h h' ws) (q : a ∉ ws) : Ary Z h' a ty n f := by obtain ⟨c, A, r⟩ := A; exact ⟨c, ⟨K.2.1 a c A.1 q, A.2⟩, r⟩
theorem Ary.set (A : Ary Z h a ty n f) (W : Wr h h' a i v) : Ary Z h' a ty n (oupd f i v) := by
  obtain ⟨c, A, S, H⟩ := A
  refine ⟨_, Arr.same W A, by rw [sz_set]; exact S, fun k hk => ?_⟩
  unfold oupd
  by_cases u : k = i
  · subst u
    have q : k < c.slots.size := by rw [S]; exact hk
    show (c.slots.setIfInBounds k v)[k]? = _
    rw [Array.getElem?_setIfInBounds_self_of_lt q, if_pos rfl]
  · show (c.slots.setIfInBounds i v)[k]? = _
    rw [Array.getElem?_setIfInBounds_ne (fun q => u q.symm), if_neg u]
    exact H k hk
theorem Ary.cast {f' : Nat → Value} (A : Ary Z h a ty n f) (q : ∀ k, k < n → f k = f' k) : Ary Z h a ty n f' := by
  obtain ⟨c, A, S, H⟩ := A
  exact ⟨c, A, S, fun k hk => (q k hk) ▸ H k hk⟩
theorem oupd_int (g : Nat → Int32) (i : Nat) (x : Int32) : oupd (fun k => Value.int (g k)) i (.int x) = fun k => .int (oupd g i x k) := by
  funext k; unfold oupd; split <;> rfl
theorem oupd_long (g : Nat → Int64) (i : Nat) (x : Int64) : oupd (fun k => Value.long (g k)) i (.long x) = fun k => .long (oupd g i x k) := by
  funext k; unfold oupd; split <;> rfl
end
section
variable {p : Program} {l : Launch} {e : Env} {R : Room} {s : State} {m : MethodId} {args : Array Value} {below : List Frame} {meth : Method} {c : Code} {T : State} {locs : List Loc} {cells slots : Nat} {Z : State} {n i n0 : Nat} {a : Addr} {j : Int32} {pc : Nat} {Ls : Array Slot} {rest st : List Value} {a0 : Array Value}
theorem in_of {c : Cell} (S : c.slots.size = n) (h0 : ¬ j < 0) (hj : j.toNatClampNeg = i) (hi : i < n) : ¬ (j < 0 ∨ c.slots.size ≤ j.toNatClampNeg) := fun q => q.elim h0 (fun q => by rw [S, hj] at q; omega)
/-- newarray of a length that is written out -/
theorem mkArr (X : Stand p l e R s m args below meth c T locs cells slots) (hx : p.tables.exec = Jvm.exec) (hZ : Z.Warmed39 s.vm) {aty : ArrayType} (w : (Jvm.Cond.arrayClass (newarray.typeOf aty)).before a0 Z = true) (Z0 : n0 ≤ T.heap.size) (hd : decode c.code pc = .ok (.newarray aty, 2)) {z : Int32} (hz : ¬ z < 0) (hn : z.toNatClampNeg = n) (hb : n * 8 ≤ 536870912) (hc : cells + 1 ≤ R.cells) (hl : slots + n ≤ R.slots) :
    ∃ T' b, Stand p l e R s m args below meth c T' locs (cells + 1) (slots + n) ∧ n0 ≤ b ∧ T.heap.size ≤ b ∧ Ext T.heap T'.heap ∧ Ary Z T'.heap b (newarray.typeOf aty) n (fun _ => defaultValue (newarray.typeOf aty)) ∧ n0 ≤ T'.heap.size ∧ ∀ t, Steps p.tables e below (T'.setTop (mkF m (pc + 2) Ls (.ref b :: rest))) t → Steps p.tables e below (T.setTop (mkF m pc Ls (.int z :: rest))) t := by
  obtain ⟨T', h', cA, X', e', E, A, st⟩ := newP X hx hZ w rfl (g := mkF m pc Ls (.int z :: rest)) rfl hd rfl hz (cap := n) (Nat.le_of_eq hn) hb hc hl
  subst e'
  refine ⟨T', _, X', Z0, Nat.le_refl _, E, ⟨_, A, by rw [sz_new, hn], fun k hk => ?_⟩, Nat.le_trans Z0 E.1, st⟩
  rw [← hn] at hk
  simp [newA, hk]
theorem putI (X : Stand p l e R s m args below meth c T locs cells slots) (hx : p.tables.exec = Jvm.exec) (hZ : Z.Warmed39 s.vm) {g : Nat → Int32} (A : AI Z T.heap a .int n g) (h0 : ¬ j < 0) (hj : j.toNatClampNeg = i) (hi : i < n) (N : Fr n0 locs) (ga : n0 ≤ a) (x : Int32) (hd : decode c.code pc = .ok (.iastore, 1)) :
    ∃ T' locs', Stand p l e R s m args below meth c T' locs' cells slots ∧ Fr n0 locs' ∧ AI Z T'.heap a .int n (oupd g i x) ∧ Keep T.heap T'.heap [a] ∧ ∀ t, Steps p.tables e below (T'.setTop (mkF m (pc + 1) Ls rest)) t → Steps p.tables e below (T.setTop (mkF m pc Ls (.int x :: .int j :: .ref a :: rest))) t := by
  obtain ⟨cl, Ar, S, H⟩ := id A
  obtain ⟨T', h', X', e', W, st⟩ := stI X hx hZ rfl Ar (in_of S h0 hj hi) (g := mkF m pc Ls (.int x :: .int j :: .ref a :: rest)) rfl rfl hd
  subst e'
  refine ⟨T', _, X', Fr.snoc X' N ga, ?_, Keep.of_wr W, st⟩
  have q := A.set W
  rw [hj, oupd_int] at q
  exact q
theorem putB (X : Stand p l e R s m args below meth c T locs cells slots) (hx : p.tables.exec = Jvm.exec) (hZ : Z.Warmed39 s.vm) {g : Nat → Int32} (A : AI Z T.heap a .byte n g) (h0 : ¬ j < 0) (hj : j.toNatClampNeg = i) (hi : i < n) (N : Fr n0 locs) (ga : n0 ≤ a) (x : Int32) (hd : decode c.code pc = .ok (.bastore, 1)) :
    ∃ T' locs', Stand p l e R s m args below meth c T' locs' cells slots ∧ Fr n0 locs' ∧ AI Z T'.heap a .byte n (oupd g i x.toInt8.toInt32) ∧ Keep T.heap T'.heap [a] ∧ ∀ t, Steps p.tables e below (T'.setTop (mkF m (pc + 1) Ls rest)) t → Steps p.tables e below (T.setTop (mkF m pc Ls (.int x :: .int j :: .ref a :: rest))) t := by
  obtain ⟨cl, Ar, S, H⟩ := id A
  obtain ⟨T', h', X', e', W, st⟩ := stB X hx hZ rfl Ar (in_of S h0 hj hi) (g := mkF m pc Ls (.int x :: .int j :: .ref a :: rest)) rfl rfl hd
  subst e'
  refine ⟨T', _, X', Fr.snoc X' N ga, ?_, Keep.of_wr W, st⟩
  have q := A.set W
  rw [hj, oupd_int] at q
  exact q
theorem putJ (X : Stand p l e R s m args below meth c T locs cells slots) (hx : p.tables.exec = Jvm.exec) (hZ : Z.Warmed39 s.vm) {g : Nat → Int64} (A : AJ Z T.heap a n g) (h0 : ¬ j < 0) (hj : j.toNatClampNeg = i) (hi : i < n) (N : Fr n0 locs) (ga : n0 ≤ a) (x : Int64) (hd : decode c.code pc = .ok (.lastore, 1)) :
    ∃ T' locs', Stand p l e R s m args below meth c T' locs' cells slots ∧ Fr n0 locs' ∧ AJ Z T'.heap a n (oupd g i x) ∧ Keep T.heap T'.heap [a] ∧ ∀ t, Steps p.tables e below (T'.setTop (mkF m (pc + 1) Ls rest)) t → Steps p.tables e below (T.setTop (mkF m pc Ls (.long x :: .int j :: .ref a :: rest))) t := by
  obtain ⟨cl, Ar, S, H⟩ := id A
  obtain ⟨T', h', X', e', W, st⟩ := stJ X hx hZ rfl Ar (in_of S h0 hj hi) (g := mkF m pc Ls (.long x :: .int j :: .ref a :: rest)) rfl rfl hd
  subst e'
  refine ⟨T', _, X', Fr.snoc X' N ga, ?_, Keep.of_wr W, st⟩
  have q := A.set W
  rw [hj, oupd_long] at q
  exact q
theorem getI (X : Stand p l e R s m args below meth c T locs cells slots) (hx : p.tables.exec = Jvm.exec) (hZ : Z.Warmed39 s.vm) {g : Nat → Int32} (A : AI Z T.heap a .int n g) (h0 : ¬ j < 0) (hj : j.toNatClampNeg = i) (hi : i < n) (hd : decode c.code pc = .ok (.iaload, 1)) (t : State) (k : Steps p.tables e below (T.setTop (mkF m (pc + 1) Ls (.int (g i) :: rest))) t) : Steps p.tables e below (T.setTop (mkF m pc Ls (.int j :: .ref a :: rest))) t := by
  obtain ⟨cl, Ar, S, H⟩ := A
  exact X.iaload hx (v := .int (g i)) Ar.1 (State.isArrayOf_alike hZ.alike Ar.2.1) Ar.2.2 (in_of S h0 hj hi) (by rw [hj]; exact H i hi) (g := mkF m pc Ls (.int j :: .ref a :: rest)) rfl rfl hd _ k
theorem getB (X : Stand p l e R s m args below meth c T locs cells slots) (hx : p.tables.exec = Jvm.exec) (hZ : Z.Warmed39 s.vm) {g : Nat → Int32} (A : AI Z T.heap a .byte n g) (h0 : ¬ j < 0) (hj : j.toNatClampNeg = i) (hi : i < n) (hd : decode c.code pc = .ok (.baload, 1)) (t : State) (k : Steps p.tables e below (T.setTop (mkF m (pc + 1) Ls (.int (g i) :: rest))) t) : Steps p.tables e below (T.setTop (mkF m pc Ls (.int j :: .ref a :: rest))) t := by
  obtain ⟨cl, Ar, S, H⟩ := A
  exact X.baloadBytes hx (v := .int (g i)) Ar.1 (State.isArrayOf_alike hZ.alike Ar.2.1) Ar.2.2 (in_of S h0 hj hi) (by rw [hj]; exact H i hi) (g := mkF m pc Ls (.int j :: .ref a :: rest)) rfl rfl hd _ k
theorem getJ (X : Stand p l e R s m args below meth c T locs cells slots) (hx : p.tables.exec = Jvm.exec) (hZ : Z.Warmed39 s.vm) {g : Nat → Int64} (A : AJ Z T.heap a n g) (h0 : ¬ j < 0) (hj : j.toNatClampNeg = i) (hi : i < n) (hd : decode c.code pc = .ok (.laload, 1)) (t : State) (k : Steps p.tables e below (T.setTop (mkF m (pc + 1) Ls (.long (g i) :: rest))) t) : Steps p.tables e below (T.setTop (mkF m pc Ls (.int j :: .ref a :: rest))) t := by
  obtain ⟨cl, Ar, S, H⟩ := A
  exact X.laload hx (v := .long (g i)) Ar.1 (State.isArrayOf_alike hZ.alike Ar.2.1) Ar.2.2 (in_of S h0 hj hi) (by rw [hj]; exact H i hi) (g := mkF m pc Ls (.int j :: .ref a :: rest)) rfl rfl hd _ k
theorem lenA (X : Stand p l e R s m args below meth c T locs cells slots) (hx : p.tables.exec = Jvm.exec) (hZ : Z.Warmed39 s.vm) {ty : FieldType} {f : Nat → Value} (A : Ary Z T.heap a ty n f) (hd : decode c.code pc = .ok (.arraylength, 1)) (t : State) (k : Steps p.tables e below (T.setTop (mkF m (pc + 1) Ls (.int n.toInt32 :: rest))) t) : Steps p.tables e below (T.setTop (mkF m pc Ls (.ref a :: rest))) t := by
  obtain ⟨cl, Ar, S, H⟩ := A
  subst S
  exact X.arraylength hx (cell := cl) Ar.1 (State.isArrayOf_alike hZ.alike Ar.2.1) (g := mkF m pc Ls (.ref a :: rest)) rfl (rest := rest) rfl hd _ k
end
end Jvm.OwnRun
namespace Jvm.Pilot.@@N@@
open Jvm Jvm.ClassFile Sem Op Lib Jvm.Free Jvm.Stand Jvm.LawKit Jvm.RoadKit Bundle Jvm.Pilot.@@N@@.Jvm.D Jvm.OwnRun

theorem d1_0 : decode prog_80_method_10_code 0 = .ok (.iload_n 0, 1) := by decide +kernel
theorem d1_1 : decode prog_80_method_10_code 1 = .ok (.sipush 160, 3) := by decide +kernel
theorem d1_4 : decode prog_80_method_10_code 4 = .ok (.if_icmp .lt 9, 3) := by decide +kernel
theorem d1_7 : decode prog_80_method_10_code 7 = .ok (.iload_n 0, 1) := by decide +kernel
theorem d1_8 : decode prog_80_method_10_code 8 = .ok (.ldc 102, 2) := by decide +kernel
theorem d1_10 : decode prog_80_method_10_code 10 = .ok (.if_icmp .le 60, 3) := by decide +kernel
theorem d1_13 : decode prog_80_method_10_code 13 = .ok (.iload_n 0, 1) := by decide +kernel
theorem d1_14 : decode prog_80_method_10_code 14 = .ok (.ldc 103, 2) := by decide +kernel
theorem d1_16 : decode prog_80_method_10_code 16 = .ok (.if_icmp .lt 9, 3) := by decide +kernel
theorem d1_19 : decode prog_80_method_10_code 19 = .ok (.iload_n 0, 1) := by decide +kernel
theorem d1_20 : decode prog_80_method_10_code 20 = .ok (.ldc 104, 2) := by decide +kernel
theorem d1_22 : decode prog_80_method_10_code 22 = .ok (.if_icmp .le 48, 3) := by decide +kernel
theorem d1_25 : decode prog_80_method_10_code 25 = .ok (.iload_n 0, 1) := by decide +kernel
theorem d1_26 : decode prog_80_method_10_code 26 = .ok (.ldc 105, 2) := by decide +kernel
theorem d1_28 : decode prog_80_method_10_code 28 = .ok (.if_icmp .lt 9, 3) := by decide +kernel
theorem d1_31 : decode prog_80_method_10_code 31 = .ok (.iload_n 0, 1) := by decide +kernel
theorem d1_32 : decode prog_80_method_10_code 32 = .ok (.ldc 106, 2) := by decide +kernel
theorem d1_34 : decode prog_80_method_10_code 34 = .ok (.if_icmp .le 36, 3) := by decide +kernel
theorem d1_37 : decode prog_80_method_10_code 37 = .ok (.iload_n 0, 1) := by decide +kernel
theorem d1_38 : decode prog_80_method_10_code 38 = .ok (.ldc 107, 2) := by decide +kernel
theorem d1_40 : decode prog_80_method_10_code 40 = .ok (.if_icmp .lt 34, 3) := by decide +kernel
theorem d1_43 : decode prog_80_method_10_code 43 = .ok (.iload_n 0, 1) := by decide +kernel
theorem d1_44 : decode prog_80_method_10_code 44 = .ok (.ldc 108, 2) := by decide +kernel
theorem d1_46 : decode prog_80_method_10_code 46 = .ok (.if_icmp .ge 28, 3) := by decide +kernel
theorem d1_49 : decode prog_80_method_10_code 49 = .ok (.iload_n 0, 1) := by decide +kernel
theorem d1_50 : decode prog_80_method_10_code 50 = .ok (.ldc 109, 2) := by decide +kernel
theorem d1_52 : decode prog_80_method_10_code 52 = .ok (.iand, 1) := by decide +kernel
theorem d1_53 : decode prog_80_method_10_code 53 = .ok (.ldc 110, 2) := by decide +kernel
theorem d1_55 : decode prog_80_method_10_code 55 = .ok (.if_icmp .gt 19, 3) := by decide +kernel
theorem d1_58 : decode prog_80_method_10_code 58 = .ok (.iload_n 0, 1) := by decide +kernel
theorem d1_59 : decode prog_80_method_10_code 59 = .ok (.ldc 111, 2) := by decide +kernel
theorem d1_61 : decode prog_80_method_10_code 61 = .ok (.if_icmp .lt 9, 3) := by decide +kernel
theorem d1_64 : decode prog_80_method_10_code 64 = .ok (.iload_n 0, 1) := by decide +kernel
theorem d1_65 : decode prog_80_method_10_code 65 = .ok (.ldc 112, 2) := by decide +kernel
theorem d1_67 : decode prog_80_method_10_code 67 = .ok (.if_icmp .lt 7, 3) := by decide +kernel
theorem d1_70 : decode prog_80_method_10_code 70 = .ok (.iconst 1, 1) := by decide +kernel
theorem d1_71 : decode prog_80_method_10_code 71 = .ok (.goto 4, 3) := by decide +kernel
theorem d1_74 : decode prog_80_method_10_code 74 = .ok (.iconst 0, 1) := by decide +kernel
theorem d1_75 : decode prog_80_method_10_code 75 = .ok (.ireturn, 1) := by decide +kernel
theorem d2_0 : decode method_3_code 0 = .ok (.iload_n 0, 1) := by decide +kernel
theorem d2_1 : decode method_3_code 1 = .ok (.ifCond .ge 5, 3) := by decide +kernel
theorem d2_4 : decode method_3_code 4 = .ok (.iconst 0, 1) := by decide +kernel
theorem d2_5 : decode method_3_code 5 = .ok (.ireturn, 1) := by decide +kernel
theorem d2_6 : decode method_3_code 6 = .ok (.iload_n 0, 1) := by decide +kernel
theorem d2_7 : decode method_3_code 7 = .ok (.bipush 16, 2) := by decide +kernel
theorem d2_9 : decode method_3_code 9 = .ok (.iushr, 1) := by decide +kernel
theorem d2_10 : decode method_3_code 10 = .ok (.istore_n 1, 1) := by decide +kernel
theorem d2_11 : decode method_3_code 11 = .ok (.iload_n 0, 1) := by decide +kernel
theorem d2_12 : decode method_3_code 12 = .ok (.ldc 25, 2) := by decide +kernel
theorem d2_14 : decode method_3_code 14 = .ok (.iand, 1) := by decide +kernel
theorem d2_15 : decode method_3_code 15 = .ok (.istore_n 2, 1) := by decide +kernel
theorem d2_16 : decode method_3_code 16 = .ok (.iload_n 1, 1) := by decide +kernel
theorem d2_17 : decode method_3_code 17 = .ok (.ifCond .ne 46, 3) := by decide +kernel
theorem d2_20 : decode method_3_code 20 = .ok (.iload_n 2, 1) := by decide +kernel
theorem d2_21 : decode method_3_code 21 = .ok (.sipush 160, 3) := by decide +kernel
theorem d2_24 : decode method_3_code 24 = .ok (.if_icmp .lt 9, 3) := by decide +kernel
theorem d2_27 : decode method_3_code 27 = .ok (.iload_n 2, 1) := by decide +kernel
theorem d2_28 : decode method_3_code 28 = .ok (.ldc 37, 2) := by decide +kernel
theorem d2_30 : decode method_3_code 30 = .ok (.if_icmp .le 27, 3) := by decide +kernel
theorem d2_33 : decode method_3_code 33 = .ok (.iload_n 2, 1) := by decide +kernel
theorem d2_34 : decode method_3_code 34 = .ok (.ldc 8, 2) := by decide +kernel
theorem d2_36 : decode method_3_code 36 = .ok (.if_icmp .lt 9, 3) := by decide +kernel
theorem d2_39 : decode method_3_code 39 = .ok (.iload_n 2, 1) := by decide +kernel
theorem d2_40 : decode method_3_code 40 = .ok (.ldc 38, 2) := by decide +kernel
theorem d2_42 : decode method_3_code 42 = .ok (.if_icmp .le 15, 3) := by decide +kernel
theorem d2_45 : decode method_3_code 45 = .ok (.iload_n 2, 1) := by decide +kernel
theorem d2_46 : decode method_3_code 46 = .ok (.ldc 10, 2) := by decide +kernel
theorem d2_48 : decode method_3_code 48 = .ok (.if_icmp .lt 13, 3) := by decide +kernel
theorem d2_51 : decode method_3_code 51 = .ok (.iload_n 2, 1) := by decide +kernel
theorem d2_52 : decode method_3_code 52 = .ok (.ldc 39, 2) := by decide +kernel
theorem d2_54 : decode method_3_code 54 = .ok (.if_icmp .gt 7, 3) := by decide +kernel
theorem d2_57 : decode method_3_code 57 = .ok (.iconst 1, 1) := by decide +kernel
theorem d2_58 : decode method_3_code 58 = .ok (.goto 4, 3) := by decide +kernel
theorem d2_61 : decode method_3_code 61 = .ok (.iconst 0, 1) := by decide +kernel
theorem d2_62 : decode method_3_code 62 = .ok (.ireturn, 1) := by decide +kernel
theorem d2_63 : decode method_3_code 63 = .ok (.iload_n 1, 1) := by decide +kernel
theorem d2_64 : decode method_3_code 64 = .ok (.iconst 1, 1) := by decide +kernel
theorem d2_65 : decode method_3_code 65 = .ok (.if_icmp .lt 21, 3) := by decide +kernel
theorem d2_68 : decode method_3_code 68 = .ok (.iload_n 1, 1) := by decide +kernel
theorem d2_69 : decode method_3_code 69 = .ok (.bipush 13, 2) := by decide +kernel
theorem d2_71 : decode method_3_code 71 = .ok (.if_icmp .gt 15, 3) := by decide +kernel
theorem d2_74 : decode method_3_code 74 = .ok (.iload_n 2, 1) := by decide +kernel
theorem d2_75 : decode method_3_code 75 = .ok (.ldc 40, 2) := by decide +kernel
theorem d2_77 : decode method_3_code 77 = .ok (.if_icmp .gt 7, 3) := by decide +kernel
theorem d2_80 : decode method_3_code 80 = .ok (.iconst 1, 1) := by decide +kernel
theorem d2_81 : decode method_3_code 81 = .ok (.goto 4, 3) := by decide +kernel
theorem d2_84 : decode method_3_code 84 = .ok (.iconst 0, 1) := by decide +kernel
theorem d2_85 : decode method_3_code 85 = .ok (.ireturn, 1) := by decide +kernel
theorem d2_86 : decode method_3_code 86 = .ok (.iload_n 1, 1) := by decide +kernel
theorem d2_87 : decode method_3_code 87 = .ok (.bipush 14, 2) := by decide +kernel
theorem d2_89 : decode method_3_code 89 = .ok (.if_icmp .ne 22, 3) := by decide +kernel
theorem d2_92 : decode method_3_code 92 = .ok (.iload_n 2, 1) := by decide +kernel
theorem d2_93 : decode method_3_code 93 = .ok (.sipush 4096, 3) := by decide +kernel
theorem d2_96 : decode method_3_code 96 = .ok (.if_icmp .lt 13, 3) := by decide +kernel
theorem d2_99 : decode method_3_code 99 = .ok (.iload_n 2, 1) := by decide +kernel
theorem d2_100 : decode method_3_code 100 = .ok (.ldc 40, 2) := by decide +kernel
theorem d2_102 : decode method_3_code 102 = .ok (.if_icmp .gt 7, 3) := by decide +kernel
theorem d2_105 : decode method_3_code 105 = .ok (.iconst 1, 1) := by decide +kernel
theorem d2_106 : decode method_3_code 106 = .ok (.goto 4, 3) := by decide +kernel
theorem d2_109 : decode method_3_code 109 = .ok (.iconst 0, 1) := by decide +kernel
theorem d2_110 : decode method_3_code 110 = .ok (.ireturn, 1) := by decide +kernel
theorem d2_111 : decode method_3_code 111 = .ok (.iconst 0, 1) := by decide +kernel
theorem d2_112 : decode method_3_code 112 = .ok (.ireturn, 1) := by decide +kernel
theorem b_6 : Int8.toInt32 6 = 6 := by decide
theorem b_7 : Int8.toInt32 7 = 7 := by decide
theorem b_8 : Int8.toInt32 8 = 8 := by decide
theorem b_9 : Int8.toInt32 9 = 9 := by decide
theorem b_10 : Int8.toInt32 10 = 10 := by decide
theorem b_11 : Int8.toInt32 11 = 11 := by decide
theorem b_12 : Int8.toInt32 12 = 12 := by decide
theorem b_13 : Int8.toInt32 13 = 13 := by decide
theorem b_14 : Int8.toInt32 14 = 14 := by decide
theorem b_15 : Int8.toInt32 15 = 15 := by decide
theorem b_16 : Int8.toInt32 16 = 16 := by decide
theorem b_17 : Int8.toInt32 17 = 17 := by decide
theorem b_31 : Int8.toInt32 31 = 31 := by decide
theorem s_160 : Int16.toInt32 160 = 160 := by decide
theorem s_4092 : Int16.toInt32 4092 = 4092 := by decide
theorem s_4096 : Int16.toInt32 4096 = 4096 := by decide
def ci0 : List (Nat × Int32) := [(7, 55296), (8, 63744), (9, 64976), (10, 65008), (11, 65520), (12, 65536), (13, 131070), (14, 917502), (15, 917504), (16, 921600), (17, 983038), (18, 983040), (19, 1114112), (22, -2147483644), (23, 2147483644), (25, 65535), (37, 55295), (24, 65528), (38, 64975), (39, 65519), (40, 65533)]
def cj0 : List (Nat × Int64) := []
def ci1 : List (Nat × Int32) := [(102, 55295), (103, 63744), (105, 65008), (107, 65536), (104, 64975), (106, 65519), (108, 983040), (109, 65535), (110, 65533), (111, 917504), (112, 921600)]
def cj1 : List (Nat × Int64) := []
def ci2 : List (Nat × Int32) := [(7, 55296), (8, 63744), (9, 64976), (10, 65008), (11, 65520), (12, 65536), (13, 131070), (14, 917502), (15, 917504), (16, 921600), (17, 983038), (18, 983040), (19, 1114112), (22, -2147483644), (23, 2147483644), (25, 65535), (37, 55295), (24, 65528), (38, 64975), (39, 65519), (40, 65533)]
def cj2 : List (Nat × Int64) := []

theorem pn_0 : plainName "com/example/varuna/varuna/UriIsUcscharPinLaw" = true := by first | (simp [plainName, overriddenIn]; done) | decide +kernel
theorem ef_0 (m : MethodId) (x0 : Int32) (x1 : Int32) (x2 : Int32) : entryFrame m #[(.int x0), (.int x1), (.int x2)] maxLocals = mkF m 0 #[.val (.int x0), .val (.int x1), .val (.int x2), .unset, .unset, .unset, .unset] [] := by first | (simp [entryFrame, mkF, argsToLocals, Value.category, maxLocals]; done) | rfl
theorem pn_1 : plainName "com/example/varuna/varuna/Uri" = true := by first | (simp [plainName, overriddenIn]; done) | decide +kernel
theorem ef_1 (m : MethodId) (x0 : Int32) : entryFrame m #[(.int x0)] 1 = mkF m 0 #[.val (.int x0)] [] := by first | (simp [entryFrame, mkF, argsToLocals, Value.category]; done) | rfl
theorem pd_1 : parseMethodDescriptor "(I)Z" = some ⟨[.int], some .boolean⟩ := by decide +kernel
theorem pn_2 : plainName "com/example/varuna/varuna/UriIsUcscharPinLaw" = true := by first | (simp [plainName, overriddenIn]; done) | decide +kernel
theorem ef_2 (m : MethodId) (x0 : Int32) : entryFrame m #[(.int x0)] 3 = mkF m 0 #[.val (.int x0), .unset, .unset] [] := by first | (simp [entryFrame, mkF, argsToLocals, Value.category]; done) | rfl
theorem pd_2 : parseMethodDescriptor "(I)Z" = some ⟨[.int], some .boolean⟩ := by decide +kernel

/-! the plain functions -/
def own_u (c : Int32) : Int32 :=
  if (¬ c < 160 ∧ ¬ 55295 < c) ∨ (¬ c < 63744 ∧ ¬ 64975 < c) ∨ (¬ c < 65008 ∧ ¬ 65519 < c) ∨ (¬ c < 65536 ∧ c < 983040 ∧ ¬ 65533 < c &&& 65535 ∧ (c < 917504 ∨ ¬ c < 921600)) then 1 else 0
def own_ref (c : Int32) : Int32 :=
  if c < 0 then 0
  else if oushr c 16 = 0 then (if (¬ c &&& 65535 < 160 ∧ ¬ 55295 < c &&& 65535) ∨ (¬ c &&& 65535 < 63744 ∧ ¬ 64975 < c &&& 65535) ∨ (¬ c &&& 65535 < 65008 ∧ ¬ 65519 < c &&& 65535) then 1 else 0)
  else if ¬ oushr c 16 < 1 ∧ ¬ 13 < oushr c 16 then (if 65533 < c &&& 65535 then 0 else 1)
  else if oushr c 16 = 14 then (if ¬ c &&& 65535 < 4096 ∧ ¬ 65533 < c &&& 65535 then 1 else 0) else 0
def own_c (x sel off e : Int32) : Int32 :=
  if sel &&& 3 = 0 then x else if sel &&& 3 = 1 then e + ((off &&& 7) - 4)
  else if sel &&& 3 = 2 then oshl (oushr sel 2 &&& 31) 16 ||| (65528 + (x &&& 7))
  else if off &&& 1 = 0 then oshl (oushr sel 2 &&& 31) 16 ||| (4092 + (x &&& 7)) else oshl (oushr sel 2 &&& 31) 16 ||| (x &&& 65535)
def own_i (sel : Int32) : Int32 := oushr sel 2 - oushr sel 2 / 17 * 17
theorem own_ib (sel : Int32) : ∃ k : Nat, k < 17 ∧ (own_i sel).toInt = k := by
  have h := num_ushr sel 2 (k := 2) (by decide) (by decide) (by decide)
  have h1 : 0 ≤ (oushr sel 2).toInt := by rw [h]; omega
  have e : (own_i sel).toInt = (oushr sel 2).toInt % (17 : Int32).toInt := own_rem32 h1 (by decide)
  have t : (17 : Int32).toInt = 17 := by decide
  rw [t] at e
  exact ⟨(own_i sel).toInt.toNat, by omega, by omega⟩
theorem own_naru (c : Int32) : nar .boolean (own_u c) = own_u c := by
  unfold own_u; split <;> rfl
theorem own_narr (c : Int32) : nar .boolean (own_ref c) = own_ref c := by
  unfold own_ref
  repeat' split
  all_goals rfl
theorem own_law (c : Int32) : own_u c = own_ref c := by
  have e1 := num_ushr c 16 (k := 16) (by decide) (by decide) (by decide)
  have e2 : (c &&& 65535).toInt = c.toInt % 2 ^ 16 := Jvm.Kit.i32_mask c 65535 (k := 16) (by decide) (by decide)
  have hl := c.toInt_lt
  have hg := c.le_toInt
  unfold own_u own_ref
  simp only [Int32.lt_iff_toInt_lt, ← Int32.toInt_inj, e1, e2, Int32.reduceToInt]
  generalize c.toInt = z at *
  repeat' split
  all_goals first | rfl | (exfalso; omega)
/-! the stretches -/
set_option maxRecDepth 65536 in
set_option maxHeartbeats 4000000 in
theorem wp_1 (c : Int32) : wpo prog_80_method_10_code ci1 cj1 [] 80 0 [.val (.int c)] [] (fun b M u => decode prog_80_method_10_code b = .ok (.ireturn, 1) ∧ u = [.int (own_u c)]) := by
  simp only [r_wp0, r_wpS, r_nxt, r_stop0, r_stopS, r_go, r_goIf, r_fork, r_tgt, r_okO, r_gI, r_gJ, r_gA, r_pI, r_pJ, r_pA, r_p1r, r_p1i, r_pII, r_pJJ, r_pJI, r_fnd0, r_fndS, r_gC, r_gC0, r_gB, r_st1, r_st2, r_eq, r_ne, r_lt, r_ge, r_gt, r_le, r_eqL, r_neL, r_ltL, r_geL, r_gtL, r_leL, r_f0, r_f1, r_f2, r_f3, r_im1, r_i0, r_i1, r_i2, r_i3, r_i4, r_i5, r_i7, r_l0, r_l1, lget_z, lget_s, lput_z, lput_s, one_unset, one_int, one_ref, two_unset, two_long, cond_true, cond_false, true_and, and_true, not_true_eq_false, not_false_eq_true, true_implies, false_implies, implies_true, ne_eq, Classical.not_not, Int.cast_ofNat_Int, ite_true, seval, and_self, n_goto, n_iand, n_iconst, n_if_icmp, n_iload_n, n_ireturn, n_ldc, n_sipush, s_160, ci1, cj1, d1_0, d1_1, d1_4, d1_7, d1_8, d1_10, d1_13, d1_14, d1_16, d1_19, d1_20, d1_22, d1_25, d1_26, d1_28, d1_31, d1_32, d1_34, d1_37, d1_38, d1_40, d1_43, d1_44, d1_46, d1_49, d1_50, d1_52, d1_53, d1_55, d1_58, d1_59, d1_61, d1_64, d1_65, d1_67, d1_70, d1_71, d1_74, d1_75, List.cons.injEq, Value.int.injEq]
  all_goals (repeat' (first | refine And.intro ?_ ?_ | intro _))
  all_goals simp [own_u, *]
set_option maxRecDepth 65536 in
set_option maxHeartbeats 4000000 in
theorem wp_2 (c : Int32) : wpo method_3_code ci2 cj2 [] 80 0 [.val (.int c), .unset, .unset] [] (fun b M u => decode method_3_code b = .ok (.ireturn, 1) ∧ u = [.int (own_ref c)]) := by
  simp only [r_wp0, r_wpS, r_nxt, r_stop0, r_stopS, r_go, r_goIf, r_fork, r_tgt, r_okO, r_gI, r_gJ, r_gA, r_pI, r_pJ, r_pA, r_p1r, r_p1i, r_pII, r_pJJ, r_pJI, r_fnd0, r_fndS, r_gC, r_gC0, r_gB, r_st1, r_st2, r_eq, r_ne, r_lt, r_ge, r_gt, r_le, r_eqL, r_neL, r_ltL, r_geL, r_gtL, r_leL, r_f0, r_f1, r_f2, r_f3, r_im1, r_i0, r_i1, r_i2, r_i3, r_i4, r_i5, r_i7, r_l0, r_l1, lget_z, lget_s, lput_z, lput_s, one_unset, one_int, one_ref, two_unset, two_long, cond_true, cond_false, true_and, and_true, not_true_eq_false, not_false_eq_true, true_implies, false_implies, implies_true, ne_eq, Classical.not_not, Int.cast_ofNat_Int, ite_true, seval, and_self, n_bipush, n_goto, n_iand, n_iconst, n_ifCond, n_if_icmp, n_iload_n, n_ireturn, n_istore_n, n_iushr, n_ldc, n_sipush, b_16, b_13, b_14, s_160, s_4096, ci2, cj2, d2_0, d2_1, d2_4, d2_5, d2_6, d2_7, d2_9, d2_10, d2_11, d2_12, d2_14, d2_15, d2_16, d2_17, d2_20, d2_21, d2_24, d2_27, d2_28, d2_30, d2_33, d2_34, d2_36, d2_39, d2_40, d2_42, d2_45, d2_46, d2_48, d2_51, d2_52, d2_54, d2_57, d2_58, d2_61, d2_62, d2_63, d2_64, d2_65, d2_68, d2_69, d2_71, d2_74, d2_75, d2_77, d2_80, d2_81, d2_84, d2_85, d2_86, d2_87, d2_89, d2_92, d2_93, d2_96, d2_99, d2_100, d2_102, d2_105, d2_106, d2_109, d2_110, d2_111, d2_112, List.cons.injEq, Value.int.injEq]
  all_goals (repeat' (first | refine And.intro ?_ ?_ | intro _))
  all_goals simp [own_ref, *]
set_option maxRecDepth 65536 in
set_option maxHeartbeats 4000000 in
theorem wq_0 (x sel off : Int32) (a : Addr) : wpo code ci0 cj0 [] 80 0 [.val (.int x), .val (.int sel), .val (.int off), .unset, .unset, .unset, .unset] [] (fun b M u => b = 2 ∧ M = [.val (.int x), .val (.int sel), .val (.int off), .unset, .unset, .unset, .unset] ∧ u = [.int 17]) := by
  simp only [r_wp0, r_wpS, r_nxt, r_stop0, r_stopS, r_go, r_goIf, r_fork, r_tgt, r_okO, r_gI, r_gJ, r_gA, r_pI, r_pJ, r_pA, r_p1r, r_p1i, r_pII, r_pJJ, r_pJI, r_fnd0, r_fndS, r_gC, r_gC0, r_gB, r_st1, r_st2, r_eq, r_ne, r_lt, r_ge, r_gt, r_le, r_eqL, r_neL, r_ltL, r_geL, r_gtL, r_leL, r_f0, r_f1, r_f2, r_f3, r_im1, r_i0, r_i1, r_i2, r_i3, r_i4, r_i5, r_i7, r_l0, r_l1, lget_z, lget_s, lput_z, lput_s, one_unset, one_int, one_ref, two_unset, two_long, cond_true, cond_false, true_and, and_true, not_true_eq_false, not_false_eq_true, true_implies, false_implies, implies_true, ne_eq, Classical.not_not, Int.cast_ofNat_Int, ite_true, seval, and_self, n_aload_n, n_arraylength, n_astore_n, n_bipush, n_dup, n_goto, n_iadd, n_iaload, n_iand, n_iastore, n_iconst, n_ifCond, n_if_icmp, n_iload, n_iload_n, n_invokestatic, n_ior, n_irem, n_ireturn, n_ishl, n_istore, n_isub, n_iushr, n_ldc, n_newarray, n_sipush, b_17, b_6, b_7, b_8, b_9, b_10, b_11, b_12, b_13, b_14, b_15, b_16, b_31, s_160, s_4092, ci0, cj0, at_0, at_2, at_4, at_5, at_6, at_9, at_10, at_11, at_12, at_14, at_15, at_16, at_17, at_19, at_20, at_21, at_22, at_24, at_25, at_26, at_27, at_29, at_30, at_31, at_32, at_34, at_35, at_36, at_38, at_40, at_41, at_42, at_44, at_46, at_47, at_48, at_50, at_52, at_53, at_54, at_56, at_58, at_59, at_60, at_62, at_64, at_65, at_66, at_68, at_70, at_71, at_72, at_74, at_76, at_77, at_78, at_80, at_82, at_83, at_84, at_86, at_87, at_88, at_89, at_91, at_93, at_94, at_95, at_97, at_99, at_100, at_101, at_102, at_103, at_104, at_106, at_107, at_108, at_109, at_111, at_112, at_114, at_116, at_119, at_120, at_122, at_125, at_127, at_128, at_131, at_132, at_133, at_134, at_135, at_136, at_137, at_138, at_139, at_140, at_142, at_143, at_144, at_145, at_146, at_148, at_151, at_153, at_154, at_157, at_159, at_161, at_162, at_164, at_165, at_167, at_168, at_169, at_170, at_172, at_175, at_176, at_177, at_178, at_181, at_183, at_185, at_186, at_189, at_190, at_192, at_193, at_194, at_195, at_197, at_200, at_202, at_204, at_205, at_206, at_208, at_209, at_210, at_212, at_214, at_217, at_219, at_222, at_225, at_226, at_229, at_230]
set_option maxRecDepth 65536 in
set_option maxHeartbeats 4000000 in
theorem wq_1 (x sel off : Int32) (a : Addr) : wpo code ci0 cj0 [] 80 4 [.val (.int x), .val (.int sel), .val (.int off), .unset, .unset, .unset, .unset] [.ref a] (fun b M u => b = 9 ∧ M = [.val (.int x), .val (.int sel), .val (.int off), .unset, .unset, .unset, .unset] ∧ u = [.int 160, .int 0, .ref a, .ref a]) := by
  simp only [r_wp0, r_wpS, r_nxt, r_stop0, r_stopS, r_go, r_goIf, r_fork, r_tgt, r_okO, r_gI, r_gJ, r_gA, r_pI, r_pJ, r_pA, r_p1r, r_p1i, r_pII, r_pJJ, r_pJI, r_fnd0, r_fndS, r_gC, r_gC0, r_gB, r_st1, r_st2, r_eq, r_ne, r_lt, r_ge, r_gt, r_le, r_eqL, r_neL, r_ltL, r_geL, r_gtL, r_leL, r_f0, r_f1, r_f2, r_f3, r_im1, r_i0, r_i1, r_i2, r_i3, r_i4, r_i5, r_i7, r_l0, r_l1, lget_z, lget_s, lput_z, lput_s, one_unset, one_int, one_ref, two_unset, two_long, cond_true, cond_false, true_and, and_true, not_true_eq_false, not_false_eq_true, true_implies, false_implies, implies_true, ne_eq, Classical.not_not, Int.cast_ofNat_Int, ite_true, seval, and_self, n_aload_n, n_arraylength, n_astore_n, n_bipush, n_dup, n_goto, n_iadd, n_iaload, n_iand, n_iastore, n_iconst, n_ifCond, n_if_icmp, n_iload, n_iload_n, n_invokestatic, n_ior, n_irem, n_ireturn, n_ishl, n_istore, n_isub, n_iushr, n_ldc, n_newarray, n_sipush, b_17, b_6, b_7, b_8, b_9, b_10, b_11, b_12, b_13, b_14, b_15, b_16, b_31, s_160, s_4092, ci0, cj0, at_0, at_2, at_4, at_5, at_6, at_9, at_10, at_11, at_12, at_14, at_15, at_16, at_17, at_19, at_20, at_21, at_22, at_24, at_25, at_26, at_27, at_29, at_30, at_31, at_32, at_34, at_35, at_36, at_38, at_40, at_41, at_42, at_44, at_46, at_47, at_48, at_50, at_52, at_53, at_54, at_56, at_58, at_59, at_60, at_62, at_64, at_65, at_66, at_68, at_70, at_71, at_72, at_74, at_76, at_77, at_78, at_80, at_82, at_83, at_84, at_86, at_87, at_88, at_89, at_91, at_93, at_94, at_95, at_97, at_99, at_100, at_101, at_102, at_103, at_104, at_106, at_107, at_108, at_109, at_111, at_112, at_114, at_116, at_119, at_120, at_122, at_125, at_127, at_128, at_131, at_132, at_133, at_134, at_135, at_136, at_137, at_138, at_139, at_140, at_142, at_143, at_144, at_145, at_146, at_148, at_151, at_153, at_154, at_157, at_159, at_161, at_162, at_164, at_165, at_167, at_168, at_169, at_170, at_172, at_175, at_176, at_177, at_178, at_181, at_183, at_185, at_186, at_189, at_190, at_192, at_193, at_194, at_195, at_197, at_200, at_202, at_204, at_205, at_206, at_208, at_209, at_210, at_212, at_214, at_217, at_219, at_222, at_225, at_226, at_229, at_230]
set_option maxRecDepth 65536 in
set_option maxHeartbeats 4000000 in
theorem wq_2 (x sel off : Int32) (a : Addr) : wpo code ci0 cj0 [] 80 10 [.val (.int x), .val (.int sel), .val (.int off), .unset, .unset, .unset, .unset] [.ref a] (fun b M u => b = 14 ∧ M = [.val (.int x), .val (.int sel), .val (.int off), .unset, .unset, .unset, .unset] ∧ u = [.int 55296, .int 1, .ref a, .ref a]) := by
  simp only [r_wp0, r_wpS, r_nxt, r_stop0, r_stopS, r_go, r_goIf, r_fork, r_tgt, r_okO, r_gI, r_gJ, r_gA, r_pI, r_pJ, r_pA, r_p1r, r_p1i, r_pII, r_pJJ, r_pJI, r_fnd0, r_fndS, r_gC, r_gC0, r_gB, r_st1, r_st2, r_eq, r_ne, r_lt, r_ge, r_gt, r_le, r_eqL, r_neL, r_ltL, r_geL, r_gtL, r_leL, r_f0, r_f1, r_f2, r_f3, r_im1, r_i0, r_i1, r_i2, r_i3, r_i4, r_i5, r_i7, r_l0, r_l1, lget_z, lget_s, lput_z, lput_s, one_unset, one_int, one_ref, two_unset, two_long, cond_true, cond_false, true_and, and_true, not_true_eq_false, not_false_eq_true, true_implies, false_implies, implies_true, ne_eq, Classical.not_not, Int.cast_ofNat_Int, ite_true, seval, and_self, n_aload_n, n_arraylength, n_astore_n, n_bipush, n_dup, n_goto, n_iadd, n_iaload, n_iand, n_iastore, n_iconst, n_ifCond, n_if_icmp, n_iload, n_iload_n, n_invokestatic, n_ior, n_irem, n_ireturn, n_ishl, n_istore, n_isub, n_iushr, n_ldc, n_newarray, n_sipush, b_17, b_6, b_7, b_8, b_9, b_10, b_11, b_12, b_13, b_14, b_15, b_16, b_31, s_160, s_4092, ci0, cj0, at_0, at_2, at_4, at_5, at_6, at_9, at_10, at_11, at_12, at_14, at_15, at_16, at_17, at_19, at_20, at_21, at_22, at_24, at_25, at_26, at_27, at_29, at_30, at_31, at_32, at_34, at_35, at_36, at_38, at_40, at_41, at_42, at_44, at_46, at_47, at_48, at_50, at_52, at_53, at_54, at_56, at_58, at_59, at_60, at_62, at_64, at_65, at_66, at_68, at_70, at_71, at_72, at_74, at_76, at_77, at_78, at_80, at_82, at_83, at_84, at_86, at_87, at_88, at_89, at_91, at_93, at_94, at_95, at_97, at_99, at_100, at_101, at_102, at_103, at_104, at_106, at_107, at_108, at_109, at_111, at_112, at_114, at_116, at_119, at_120, at_122, at_125, at_127, at_128, at_131, at_132, at_133, at_134, at_135, at_136, at_137, at_138, at_139, at_140, at_142, at_143, at_144, at_145, at_146, at_148, at_151, at_153, at_154, at_157, at_159, at_161, at_162, at_164, at_165, at_167, at_168, at_169, at_170, at_172, at_175, at_176, at_177, at_178, at_181, at_183, at_185, at_186, at_189, at_190, at_192, at_193, at_194, at_195, at_197, at_200, at_202, at_204, at_205, at_206, at_208, at_209, at_210, at_212, at_214, at_217, at_219, at_222, at_225, at_226, at_229, at_230]
set_option maxRecDepth 65536 in
set_option maxHeartbeats 4000000 in
theorem wq_3 (x sel off : Int32) (a : Addr) : wpo code ci0 cj0 [] 80 15 [.val (.int x), .val (.int sel), .val (.int off), .unset, .unset, .unset, .unset] [.ref a] (fun b M u => b = 19 ∧ M = [.val (.int x), .val (.int sel), .val (.int off), .unset, .unset, .unset, .unset] ∧ u = [.int 63744, .int 2, .ref a, .ref a]) := by
  simp only [r_wp0, r_wpS, r_nxt, r_stop0, r_stopS, r_go, r_goIf, r_fork, r_tgt, r_okO, r_gI, r_gJ, r_gA, r_pI, r_pJ, r_pA, r_p1r, r_p1i, r_pII, r_pJJ, r_pJI, r_fnd0, r_fndS, r_gC, r_gC0, r_gB, r_st1, r_st2, r_eq, r_ne, r_lt, r_ge, r_gt, r_le, r_eqL, r_neL, r_ltL, r_geL, r_gtL, r_leL, r_f0, r_f1, r_f2, r_f3, r_im1, r_i0, r_i1, r_i2, r_i3, r_i4, r_i5, r_i7, r_l0, r_l1, lget_z, lget_s, lput_z, lput_s, one_unset, one_int, one_ref, two_unset, two_long, cond_true, cond_false, true_and, and_true, not_true_eq_false, not_false_eq_true, true_implies, false_implies, implies_true, ne_eq, Classical.not_not, Int.cast_ofNat_Int, ite_true, seval, and_self, n_aload_n, n_arraylength, n_astore_n, n_bipush, n_dup, n_goto, n_iadd, n_iaload, n_iand, n_iastore, n_iconst, n_ifCond, n_if_icmp, n_iload, n_iload_n, n_invokestatic, n_ior, n_irem, n_ireturn, n_ishl, n_istore, n_isub, n_iushr, n_ldc, n_newarray, n_sipush, b_17, b_6, b_7, b_8, b_9, b_10, b_11, b_12, b_13, b_14, b_15, b_16, b_31, s_160, s_4092, ci0, cj0, at_0, at_2, at_4, at_5, at_6, at_9, at_10, at_11, at_12, at_14, at_15, at_16, at_17, at_19, at_20, at_21, at_22, at_24, at_25, at_26, at_27, at_29, at_30, at_31, at_32, at_34, at_35, at_36, at_38, at_40, at_41, at_42, at_44, at_46, at_47, at_48, at_50, at_52, at_53, at_54, at_56, at_58, at_59, at_60, at_62, at_64, at_65, at_66, at_68, at_70, at_71, at_72, at_74, at_76, at_77, at_78, at_80, at_82, at_83, at_84, at_86, at_87, at_88, at_89, at_91, at_93, at_94, at_95, at_97, at_99, at_100, at_101, at_102, at_103, at_104, at_106, at_107, at_108, at_109, at_111, at_112, at_114, at_116, at_119, at_120, at_122, at_125, at_127, at_128, at_131, at_132, at_133, at_134, at_135, at_136, at_137, at_138, at_139, at_140, at_142, at_143, at_144, at_145, at_146, at_148, at_151, at_153, at_154, at_157, at_159, at_161, at_162, at_164, at_165, at_167, at_168, at_169, at_170, at_172, at_175, at_176, at_177, at_178, at_181, at_183, at_185, at_186, at_189, at_190, at_192, at_193, at_194, at_195, at_197, at_200, at_202, at_204, at_205, at_206, at_208, at_209, at_210, at_212, at_214, at_217, at_219, at_222, at_225, at_226, at_229, at_230]
set_option maxRecDepth 65536 in
set_option maxHeartbeats 4000000 in
theorem wq_4 (x sel off : Int32) (a : Addr) : wpo code ci0 cj0 [] 80 20 [.val (.int x), .val (.int sel), .val (.int off), .unset, .unset, .unset, .unset] [.ref a] (fun b M u => b = 24 ∧ M = [.val (.int x), .val (.int sel), .val (.int off), .unset, .unset, .unset, .unset] ∧ u = [.int 64976, .int 3, .ref a, .ref a]) := by
  simp only [r_wp0, r_wpS, r_nxt, r_stop0, r_stopS, r_go, r_goIf, r_fork, r_tgt, r_okO, r_gI, r_gJ, r_gA, r_pI, r_pJ, r_pA, r_p1r, r_p1i, r_pII, r_pJJ, r_pJI, r_fnd0, r_fndS, r_gC, r_gC0, r_gB, r_st1, r_st2, r_eq, r_ne, r_lt, r_ge, r_gt, r_le, r_eqL, r_neL, r_ltL, r_geL, r_gtL, r_leL, r_f0, r_f1, r_f2, r_f3, r_im1, r_i0, r_i1, r_i2, r_i3, r_i4, r_i5, r_i7, r_l0, r_l1, lget_z, lget_s, lput_z, lput_s, one_unset, one_int, one_ref, two_unset, two_long, cond_true, cond_false, true_and, and_true, not_true_eq_false, not_false_eq_true, true_implies, false_implies, implies_true, ne_eq, Classical.not_not, Int.cast_ofNat_Int, ite_true, seval, and_self, n_aload_n, n_arraylength, n_astore_n, n_bipush, n_dup, n_goto, n_iadd, n_iaload, n_iand, n_iastore, n_iconst, n_ifCond, n_if_icmp, n_iload, n_iload_n, n_invokestatic, n_ior, n_irem, n_ireturn, n_ishl, n_istore, n_isub, n_iushr, n_ldc, n_newarray, n_sipush, b_17, b_6, b_7, b_8, b_9, b_10, b_11, b_12, b_13, b_14, b_15, b_16, b_31, s_160, s_4092, ci0, cj0, at_0, at_2, at_4, at_5, at_6, at_9, at_10, at_11, at_12, at_14, at_15, at_16, at_17, at_19, at_20, at_21, at_22, at_24, at_25, at_26, at_27, at_29, at_30, at_31, at_32, at_34, at_35, at_36, at_38, at_40, at_41, at_42, at_44, at_46, at_47, at_48, at_50, at_52, at_53, at_54, at_56, at_58, at_59, at_60, at_62, at_64, at_65, at_66, at_68, at_70, at_71, at_72, at_74, at_76, at_77, at_78, at_80, at_82, at_83, at_84, at_86, at_87, at_88, at_89, at_91, at_93, at_94, at_95, at_97, at_99, at_100, at_101, at_102, at_103, at_104, at_106, at_107, at_108, at_109, at_111, at_112, at_114, at_116, at_119, at_120, at_122, at_125, at_127, at_128, at_131, at_132, at_133, at_134, at_135, at_136, at_137, at_138, at_139, at_140, at_142, at_143, at_144, at_145, at_146, at_148, at_151, at_153, at_154, at_157, at_159, at_161, at_162, at_164, at_165, at_167, at_168, at_169, at_170, at_172, at_175, at_176, at_177, at_178, at_181, at_183, at_185, at_186, at_189, at_190, at_192, at_193, at_194, at_195, at_197, at_200, at_202, at_204, at_205, at_206, at_208, at_209, at_210, at_212, at_214, at_217, at_219, at_222, at_225, at_226, at_229, at_230]
set_option maxRecDepth 65536 in
set_option maxHeartbeats 4000000 in
theorem wq_5 (x sel off : Int32) (a : Addr) : wpo code ci0 cj0 [] 80 25 [.val (.int x), .val (.int sel), .val (.int off), .unset, .unset, .unset, .unset] [.ref a] (fun b M u => b = 29 ∧ M = [.val (.int x), .val (.int sel), .val (.int off), .unset, .unset, .unset, .unset] ∧ u = [.int 65008, .int 4, .ref a, .ref a]) := by
  simp only [r_wp0, r_wpS, r_nxt, r_stop0, r_stopS, r_go, r_goIf, r_fork, r_tgt, r_okO, r_gI, r_gJ, r_gA, r_pI, r_pJ, r_pA, r_p1r, r_p1i, r_pII, r_pJJ, r_pJI, r_fnd0, r_fndS, r_gC, r_gC0, r_gB, r_st1, r_st2, r_eq, r_ne, r_lt, r_ge, r_gt, r_le, r_eqL, r_neL, r_ltL, r_geL, r_gtL, r_leL, r_f0, r_f1, r_f2, r_f3, r_im1, r_i0, r_i1, r_i2, r_i3, r_i4, r_i5, r_i7, r_l0, r_l1, lget_z, lget_s, lput_z, lput_s, one_unset, one_int, one_ref, two_unset, two_long, cond_true, cond_false, true_and, and_true, not_true_eq_false, not_false_eq_true, true_implies, false_implies, implies_true, ne_eq, Classical.not_not, Int.cast_ofNat_Int, ite_true, seval, and_self, n_aload_n, n_arraylength, n_astore_n, n_bipush, n_dup, n_goto, n_iadd, n_iaload, n_iand, n_iastore, n_iconst, n_ifCond, n_if_icmp, n_iload, n_iload_n, n_invokestatic, n_ior, n_irem, n_ireturn, n_ishl, n_istore, n_isub, n_iushr, n_ldc, n_newarray, n_sipush, b_17, b_6, b_7, b_8, b_9, b_10, b_11, b_12, b_13, b_14, b_15, b_16, b_31, s_160, s_4092, ci0, cj0, at_0, at_2, at_4, at_5, at_6, at_9, at_10, at_11, at_12, at_14, at_15, at_16, at_17, at_19, at_20, at_21, at_22, at_24, at_25, at_26, at_27, at_29, at_30, at_31, at_32, at_34, at_35, at_36, at_38, at_40, at_41, at_42, at_44, at_46, at_47, at_48, at_50, at_52, at_53, at_54, at_56, at_58, at_59, at_60, at_62, at_64, at_65, at_66, at_68, at_70, at_71, at_72, at_74, at_76, at_77, at_78, at_80, at_82, at_83, at_84, at_86, at_87, at_88, at_89, at_91, at_93, at_94, at_95, at_97, at_99, at_100, at_101, at_102, at_103, at_104, at_106, at_107, at_108, at_109, at_111, at_112, at_114, at_116, at_119, at_120, at_122, at_125, at_127, at_128, at_131, at_132, at_133, at_134, at_135, at_136, at_137, at_138, at_139, at_140, at_142, at_143, at_144, at_145, at_146, at_148, at_151, at_153, at_154, at_157, at_159, at_161, at_162, at_164, at_165, at_167, at_168, at_169, at_170, at_172, at_175, at_176, at_177, at_178, at_181, at_183, at_185, at_186, at_189, at_190, at_192, at_193, at_194, at_195, at_197, at_200, at_202, at_204, at_205, at_206, at_208, at_209, at_210, at_212, at_214, at_217, at_219, at_222, at_225, at_226, at_229, at_230]
set_option maxRecDepth 65536 in
set_option maxHeartbeats 4000000 in
theorem wq_6 (x sel off : Int32) (a : Addr) : wpo code ci0 cj0 [] 80 30 [.val (.int x), .val (.int sel), .val (.int off), .unset, .unset, .unset, .unset] [.ref a] (fun b M u => b = 34 ∧ M = [.val (.int x), .val (.int sel), .val (.int off), .unset, .unset, .unset, .unset] ∧ u = [.int 65520, .int 5, .ref a, .ref a]) := by
  simp only [r_wp0, r_wpS, r_nxt, r_stop0, r_stopS, r_go, r_goIf, r_fork, r_tgt, r_okO, r_gI, r_gJ, r_gA, r_pI, r_pJ, r_pA, r_p1r, r_p1i, r_pII, r_pJJ, r_pJI, r_fnd0, r_fndS, r_gC, r_gC0, r_gB, r_st1, r_st2, r_eq, r_ne, r_lt, r_ge, r_gt, r_le, r_eqL, r_neL, r_ltL, r_geL, r_gtL, r_leL, r_f0, r_f1, r_f2, r_f3, r_im1, r_i0, r_i1, r_i2, r_i3, r_i4, r_i5, r_i7, r_l0, r_l1, lget_z, lget_s, lput_z, lput_s, one_unset, one_int, one_ref, two_unset, two_long, cond_true, cond_false, true_and, and_true, not_true_eq_false, not_false_eq_true, true_implies, false_implies, implies_true, ne_eq, Classical.not_not, Int.cast_ofNat_Int, ite_true, seval, and_self, n_aload_n, n_arraylength, n_astore_n, n_bipush, n_dup, n_goto, n_iadd, n_iaload, n_iand, n_iastore, n_iconst, n_ifCond, n_if_icmp, n_iload, n_iload_n, n_invokestatic, n_ior, n_irem, n_ireturn, n_ishl, n_istore, n_isub, n_iushr, n_ldc, n_newarray, n_sipush, b_17, b_6, b_7, b_8, b_9, b_10, b_11, b_12, b_13, b_14, b_15, b_16, b_31, s_160, s_4092, ci0, cj0, at_0, at_2, at_4, at_5, at_6, at_9, at_10, at_11, at_12, at_14, at_15, at_16, at_17, at_19, at_20, at_21, at_22, at_24, at_25, at_26, at_27, at_29, at_30, at_31, at_32, at_34, at_35, at_36, at_38, at_40, at_41, at_42, at_44, at_46, at_47, at_48, at_50, at_52, at_53, at_54, at_56, at_58, at_59, at_60, at_62, at_64, at_65, at_66, at_68, at_70, at_71, at_72, at_74, at_76, at_77, at_78, at_80, at_82, at_83, at_84, at_86, at_87, at_88, at_89, at_91, at_93, at_94, at_95, at_97, at_99, at_100, at_101, at_102, at_103, at_104, at_106, at_107, at_108, at_109, at_111, at_112, at_114, at_116, at_119, at_120, at_122, at_125, at_127, at_128, at_131, at_132, at_133, at_134, at_135, at_136, at_137, at_138, at_139, at_140, at_142, at_143, at_144, at_145, at_146, at_148, at_151, at_153, at_154, at_157, at_159, at_161, at_162, at_164, at_165, at_167, at_168, at_169, at_170, at_172, at_175, at_176, at_177, at_178, at_181, at_183, at_185, at_186, at_189, at_190, at_192, at_193, at_194, at_195, at_197, at_200, at_202, at_204, at_205, at_206, at_208, at_209, at_210, at_212, at_214, at_217, at_219, at_222, at_225, at_226, at_229, at_230]
set_option maxRecDepth 65536 in
set_option maxHeartbeats 4000000 in
theorem wq_7 (x sel off : Int32) (a : Addr) : wpo code ci0 cj0 [] 80 35 [.val (.int x), .val (.int sel), .val (.int off), .unset, .unset, .unset, .unset] [.ref a] (fun b M u => b = 40 ∧ M = [.val (.int x), .val (.int sel), .val (.int off), .unset, .unset, .unset, .unset] ∧ u = [.int 65536, .int 6, .ref a, .ref a]) := by
  simp only [r_wp0, r_wpS, r_nxt, r_stop0, r_stopS, r_go, r_goIf, r_fork, r_tgt, r_okO, r_gI, r_gJ, r_gA, r_pI, r_pJ, r_pA, r_p1r, r_p1i, r_pII, r_pJJ, r_pJI, r_fnd0, r_fndS, r_gC, r_gC0, r_gB, r_st1, r_st2, r_eq, r_ne, r_lt, r_ge, r_gt, r_le, r_eqL, r_neL, r_ltL, r_geL, r_gtL, r_leL, r_f0, r_f1, r_f2, r_f3, r_im1, r_i0, r_i1, r_i2, r_i3, r_i4, r_i5, r_i7, r_l0, r_l1, lget_z, lget_s, lput_z, lput_s, one_unset, one_int, one_ref, two_unset, two_long, cond_true, cond_false, true_and, and_true, not_true_eq_false, not_false_eq_true, true_implies, false_implies, implies_true, ne_eq, Classical.not_not, Int.cast_ofNat_Int, ite_true, seval, and_self, n_aload_n, n_arraylength, n_astore_n, n_bipush, n_dup, n_goto, n_iadd, n_iaload, n_iand, n_iastore, n_iconst, n_ifCond, n_if_icmp, n_iload, n_iload_n, n_invokestatic, n_ior, n_irem, n_ireturn, n_ishl, n_istore, n_isub, n_iushr, n_ldc, n_newarray, n_sipush, b_17, b_6, b_7, b_8, b_9, b_10, b_11, b_12, b_13, b_14, b_15, b_16, b_31, s_160, s_4092, ci0, cj0, at_0, at_2, at_4, at_5, at_6, at_9, at_10, at_11, at_12, at_14, at_15, at_16, at_17, at_19, at_20, at_21, at_22, at_24, at_25, at_26, at_27, at_29, at_30, at_31, at_32, at_34, at_35, at_36, at_38, at_40, at_41, at_42, at_44, at_46, at_47, at_48, at_50, at_52, at_53, at_54, at_56, at_58, at_59, at_60, at_62, at_64, at_65, at_66, at_68, at_70, at_71, at_72, at_74, at_76, at_77, at_78, at_80, at_82, at_83, at_84, at_86, at_87, at_88, at_89, at_91, at_93, at_94, at_95, at_97, at_99, at_100, at_101, at_102, at_103, at_104, at_106, at_107, at_108, at_109, at_111, at_112, at_114, at_116, at_119, at_120, at_122, at_125, at_127, at_128, at_131, at_132, at_133, at_134, at_135, at_136, at_137, at_138, at_139, at_140, at_142, at_143, at_144, at_145, at_146, at_148, at_151, at_153, at_154, at_157, at_159, at_161, at_162, at_164, at_165, at_167, at_168, at_169, at_170, at_172, at_175, at_176, at_177, at_178, at_181, at_183, at_185, at_186, at_189, at_190, at_192, at_193, at_194, at_195, at_197, at_200, at_202, at_204, at_205, at_206, at_208, at_209, at_210, at_212, at_214, at_217, at_219, at_222, at_225, at_226, at_229, at_230]
set_option maxRecDepth 65536 in
set_option maxHeartbeats 4000000 in
theorem wq_8 (x sel off : Int32) (a : Addr) : wpo code ci0 cj0 [] 80 41 [.val (.int x), .val (.int sel), .val (.int off), .unset, .unset, .unset, .unset] [.ref a] (fun b M u => b = 46 ∧ M = [.val (.int x), .val (.int sel), .val (.int off), .unset, .unset, .unset, .unset] ∧ u = [.int 131070, .int 7, .ref a, .ref a]) := by
  simp only [r_wp0, r_wpS, r_nxt, r_stop0, r_stopS, r_go, r_goIf, r_fork, r_tgt, r_okO, r_gI, r_gJ, r_gA, r_pI, r_pJ, r_pA, r_p1r, r_p1i, r_pII, r_pJJ, r_pJI, r_fnd0, r_fndS, r_gC, r_gC0, r_gB, r_st1, r_st2, r_eq, r_ne, r_lt, r_ge, r_gt, r_le, r_eqL, r_neL, r_ltL, r_geL, r_gtL, r_leL, r_f0, r_f1, r_f2, r_f3, r_im1, r_i0, r_i1, r_i2, r_i3, r_i4, r_i5, r_i7, r_l0, r_l1, lget_z, lget_s, lput_z, lput_s, one_unset, one_int, one_ref, two_unset, two_long, cond_true, cond_false, true_and, and_true, not_true_eq_false, not_false_eq_true, true_implies, false_implies, implies_true, ne_eq, Classical.not_not, Int.cast_ofNat_Int, ite_true, seval, and_self, n_aload_n, n_arraylength, n_astore_n, n_bipush, n_dup, n_goto, n_iadd, n_iaload, n_iand, n_iastore, n_iconst, n_ifCond, n_if_icmp, n_iload, n_iload_n, n_invokestatic, n_ior, n_irem, n_ireturn, n_ishl, n_istore, n_isub, n_iushr, n_ldc, n_newarray, n_sipush, b_17, b_6, b_7, b_8, b_9, b_10, b_11, b_12, b_13, b_14, b_15, b_16, b_31, s_160, s_4092, ci0, cj0, at_0, at_2, at_4, at_5, at_6, at_9, at_10, at_11, at_12, at_14, at_15, at_16, at_17, at_19, at_20, at_21, at_22, at_24, at_25, at_26, at_27, at_29, at_30, at_31, at_32, at_34, at_35, at_36, at_38, at_40, at_41, at_42, at_44, at_46, at_47, at_48, at_50, at_52, at_53, at_54, at_56, at_58, at_59, at_60, at_62, at_64, at_65, at_66, at_68, at_70, at_71, at_72, at_74, at_76, at_77, at_78, at_80, at_82, at_83, at_84, at_86, at_87, at_88, at_89, at_91, at_93, at_94, at_95, at_97, at_99, at_100, at_101, at_102, at_103, at_104, at_106, at_107, at_108, at_109, at_111, at_112, at_114, at_116, at_119, at_120, at_122, at_125, at_127, at_128, at_131, at_132, at_133, at_134, at_135, at_136, at_137, at_138, at_139, at_140, at_142, at_143, at_144, at_145, at_146, at_148, at_151, at_153, at_154, at_157, at_159, at_161, at_162, at_164, at_165, at_167, at_168, at_169, at_170, at_172, at_175, at_176, at_177, at_178, at_181, at_183, at_185, at_186, at_189, at_190, at_192, at_193, at_194, at_195, at_197, at_200, at_202, at_204, at_205, at_206, at_208, at_209, at_210, at_212, at_214, at_217, at_219, at_222, at_225, at_226, at_229, at_230]
set_option maxRecDepth 65536 in
set_option maxHeartbeats 4000000 in
theorem wq_9 (x sel off : Int32) (a : Addr) : wpo code ci0 cj0 [] 80 47 [.val (.int x), .val (.int sel), .val (.int off), .unset, .unset, .unset, .unset] [.ref a] (fun b M u => b = 52 ∧ M = [.val (.int x), .val (.int sel), .val (.int off), .unset, .unset, .unset, .unset] ∧ u = [.int 917502, .int 8, .ref a, .ref a]) := by
  simp only [r_wp0, r_wpS, r_nxt, r_stop0, r_stopS, r_go, r_goIf, r_fork, r_tgt, r_okO, r_gI, r_gJ, r_gA, r_pI, r_pJ, r_pA, r_p1r, r_p1i, r_pII, r_pJJ, r_pJI, r_fnd0, r_fndS, r_gC, r_gC0, r_gB, r_st1, r_st2, r_eq, r_ne, r_lt, r_ge, r_gt, r_le, r_eqL, r_neL, r_ltL, r_geL, r_gtL, r_leL, r_f0, r_f1, r_f2, r_f3, r_im1, r_i0, r_i1, r_i2, r_i3, r_i4, r_i5, r_i7, r_l0, r_l1, lget_z, lget_s, lput_z, lput_s, one_unset, one_int, one_ref, two_unset, two_long, cond_true, cond_false, true_and, and_true, not_true_eq_false, not_false_eq_true, true_implies, false_implies, implies_true, ne_eq, Classical.not_not, Int.cast_ofNat_Int, ite_true, seval, and_self, n_aload_n, n_arraylength, n_astore_n, n_bipush, n_dup, n_goto, n_iadd, n_iaload, n_iand, n_iastore, n_iconst, n_ifCond, n_if_icmp, n_iload, n_iload_n, n_invokestatic, n_ior, n_irem, n_ireturn, n_ishl, n_istore, n_isub, n_iushr, n_ldc, n_newarray, n_sipush, b_17, b_6, b_7, b_8, b_9, b_10, b_11, b_12, b_13, b_14, b_15, b_16, b_31, s_160, s_4092, ci0, cj0, at_0, at_2, at_4, at_5, at_6, at_9, at_10, at_11, at_12, at_14, at_15, at_16, at_17, at_19, at_20, at_21, at_22, at_24, at_25, at_26, at_27, at_29, at_30, at_31, at_32, at_34, at_35, at_36, at_38, at_40, at_41, at_42, at_44, at_46, at_47, at_48, at_50, at_52, at_53, at_54, at_56, at_58, at_59, at_60, at_62, at_64, at_65, at_66, at_68, at_70, at_71, at_72, at_74, at_76, at_77, at_78, at_80, at_82, at_83, at_84, at_86, at_87, at_88, at_89, at_91, at_93, at_94, at_95, at_97, at_99, at_100, at_101, at_102, at_103, at_104, at_106, at_107, at_108, at_109, at_111, at_112, at_114, at_116, at_119, at_120, at_122, at_125, at_127, at_128, at_131, at_132, at_133, at_134, at_135, at_136, at_137, at_138, at_139, at_140, at_142, at_143, at_144, at_145, at_146, at_148, at_151, at_153, at_154, at_157, at_159, at_161, at_162, at_164, at_165, at_167, at_168, at_169, at_170, at_172, at_175, at_176, at_177, at_178, at_181, at_183, at_185, at_186, at_189, at_190, at_192, at_193, at_194, at_195, at_197, at_200, at_202, at_204, at_205, at_206, at_208, at_209, at_210, at_212, at_214, at_217, at_219, at_222, at_225, at_226, at_229, at_230]
set_option maxRecDepth 65536 in
set_option maxHeartbeats 4000000 in
theorem wq_10 (x sel off : Int32) (a : Addr) : wpo code ci0 cj0 [] 80 53 [.val (.int x), .val (.int sel), .val (.int off), .unset, .unset, .unset, .unset] [.ref a] (fun b M u => b = 58 ∧ M = [.val (.int x), .val (.int sel), .val (.int off), .unset, .unset, .unset, .unset] ∧ u = [.int 917504, .int 9, .ref a, .ref a]) := by
  simp only [r_wp0, r_wpS, r_nxt, r_stop0, r_stopS, r_go, r_goIf, r_fork, r_tgt, r_okO, r_gI, r_gJ, r_gA, r_pI, r_pJ, r_pA, r_p1r, r_p1i, r_pII, r_pJJ, r_pJI, r_fnd0, r_fndS, r_gC, r_gC0, r_gB, r_st1, r_st2, r_eq, r_ne, r_lt, r_ge, r_gt, r_le, r_eqL, r_neL, r_ltL, r_geL, r_gtL, r_leL, r_f0, r_f1, r_f2, r_f3, r_im1, r_i0, r_i1, r_i2, r_i3, r_i4, r_i5, r_i7, r_l0, r_l1, lget_z, lget_s, lput_z, lput_s, one_unset, one_int, one_ref, two_unset, two_long, cond_true, cond_false, true_and, and_true, not_true_eq_false, not_false_eq_true, true_implies, false_implies, implies_true, ne_eq, Classical.not_not, Int.cast_ofNat_Int, ite_true, seval, and_self, n_aload_n, n_arraylength, n_astore_n, n_bipush, n_dup, n_goto, n_iadd, n_iaload, n_iand, n_iastore, n_iconst, n_ifCond, n_if_icmp, n_iload, n_iload_n, n_invokestatic, n_ior, n_irem, n_ireturn, n_ishl, n_istore, n_isub, n_iushr, n_ldc, n_newarray, n_sipush, b_17, b_6, b_7, b_8, b_9, b_10, b_11, b_12, b_13, b_14, b_15, b_16, b_31, s_160, s_4092, ci0, cj0, at_0, at_2, at_4, at_5, at_6, at_9, at_10, at_11, at_12, at_14, at_15, at_16, at_17, at_19, at_20, at_21, at_22, at_24, at_25, at_26, at_27, at_29, at_30, at_31, at_32, at_34, at_35, at_36, at_38, at_40, at_41, at_42, at_44, at_46, at_47, at_48, at_50, at_52, at_53, at_54, at_56, at_58, at_59, at_60, at_62, at_64, at_65, at_66, at_68, at_70, at_71, at_72, at_74, at_76, at_77, at_78, at_80, at_82, at_83, at_84, at_86, at_87, at_88, at_89, at_91, at_93, at_94, at_95, at_97, at_99, at_100, at_101, at_102, at_103, at_104, at_106, at_107, at_108, at_109, at_111, at_112, at_114, at_116, at_119, at_120, at_122, at_125, at_127, at_128, at_131, at_132, at_133, at_134, at_135, at_136, at_137, at_138, at_139, at_140, at_142, at_143, at_144, at_145, at_146, at_148, at_151, at_153, at_154, at_157, at_159, at_161, at_162, at_164, at_165, at_167, at_168, at_169, at_170, at_172, at_175, at_176, at_177, at_178, at_181, at_183, at_185, at_186, at_189, at_190, at_192, at_193, at_194, at_195, at_197, at_200, at_202, at_204, at_205, at_206, at_208, at_209, at_210, at_212, at_214, at_217, at_219, at_222, at_225, at_226, at_229, at_230]
set_option maxRecDepth 65536 in
set_option maxHeartbeats 4000000 in
theorem wq_11 (x sel off : Int32) (a : Addr) : wpo code ci0 cj0 [] 80 59 [.val (.int x), .val (.int sel), .val (.int off), .unset, .unset, .unset, .unset] [.ref a] (fun b M u => b = 64 ∧ M = [.val (.int x), .val (.int sel), .val (.int off), .unset, .unset, .unset, .unset] ∧ u = [.int 921600, .int 10, .ref a, .ref a]) := by
  simp only [r_wp0, r_wpS, r_nxt, r_stop0, r_stopS, r_go, r_goIf, r_fork, r_tgt, r_okO, r_gI, r_gJ, r_gA, r_pI, r_pJ, r_pA, r_p1r, r_p1i, r_pII, r_pJJ, r_pJI, r_fnd0, r_fndS, r_gC, r_gC0, r_gB, r_st1, r_st2, r_eq, r_ne, r_lt, r_ge, r_gt, r_le, r_eqL, r_neL, r_ltL, r_geL, r_gtL, r_leL, r_f0, r_f1, r_f2, r_f3, r_im1, r_i0, r_i1, r_i2, r_i3, r_i4, r_i5, r_i7, r_l0, r_l1, lget_z, lget_s, lput_z, lput_s, one_unset, one_int, one_ref, two_unset, two_long, cond_true, cond_false, true_and, and_true, not_true_eq_false, not_false_eq_true, true_implies, false_implies, implies_true, ne_eq, Classical.not_not, Int.cast_ofNat_Int, ite_true, seval, and_self, n_aload_n, n_arraylength, n_astore_n, n_bipush, n_dup, n_goto, n_iadd, n_iaload, n_iand, n_iastore, n_iconst, n_ifCond, n_if_icmp, n_iload, n_iload_n, n_invokestatic, n_ior, n_irem, n_ireturn, n_ishl, n_istore, n_isub, n_iushr, n_ldc, n_newarray, n_sipush, b_17, b_6, b_7, b_8, b_9, b_10, b_11, b_12, b_13, b_14, b_15, b_16, b_31, s_160, s_4092, ci0, cj0, at_0, at_2, at_4, at_5, at_6, at_9, at_10, at_11, at_12, at_14, at_15, at_16, at_17, at_19, at_20, at_21, at_22, at_24, at_25, at_26, at_27, at_29, at_30, at_31, at_32, at_34, at_35, at_36, at_38, at_40, at_41, at_42, at_44, at_46, at_47, at_48, at_50, at_52, at_53, at_54, at_56, at_58, at_59, at_60, at_62, at_64, at_65, at_66, at_68, at_70, at_71, at_72, at_74, at_76, at_77, at_78, at_80, at_82, at_83, at_84, at_86, at_87, at_88, at_89, at_91, at_93, at_94, at_95, at_97, at_99, at_100, at_101, at_102, at_103, at_104, at_106, at_107, at_108, at_109, at_111, at_112, at_114, at_116, at_119, at_120, at_122, at_125, at_127, at_128, at_131, at_132, at_133, at_134, at_135, at_136, at_137, at_138, at_139, at_140, at_142, at_143, at_144, at_145, at_146, at_148, at_151, at_153, at_154, at_157, at_159, at_161, at_162, at_164, at_165, at_167, at_168, at_169, at_170, at_172, at_175, at_176, at_177, at_178, at_181, at_183, at_185, at_186, at_189, at_190, at_192, at_193, at_194, at_195, at_197, at_200, at_202, at_204, at_205, at_206, at_208, at_209, at_210, at_212, at_214, at_217, at_219, at_222, at_225, at_226, at_229, at_230]
set_option maxRecDepth 65536 in
set_option maxHeartbeats 4000000 in
theorem wq_12 (x sel off : Int32) (a : Addr) : wpo code ci0 cj0 [] 80 65 [.val (.int x), .val (.int sel), .val (.int off), .unset, .unset, .unset, .unset] [.ref a] (fun b M u => b = 70 ∧ M = [.val (.int x), .val (.int sel), .val (.int off), .unset, .unset, .unset, .unset] ∧ u = [.int 983038, .int 11, .ref a, .ref a]) := by
  simp only [r_wp0, r_wpS, r_nxt, r_stop0, r_stopS, r_go, r_goIf, r_fork, r_tgt, r_okO, r_gI, r_gJ, r_gA, r_pI, r_pJ, r_pA, r_p1r, r_p1i, r_pII, r_pJJ, r_pJI, r_fnd0, r_fndS, r_gC, r_gC0, r_gB, r_st1, r_st2, r_eq, r_ne, r_lt, r_ge, r_gt, r_le, r_eqL, r_neL, r_ltL, r_geL, r_gtL, r_leL, r_f0, r_f1, r_f2, r_f3, r_im1, r_i0, r_i1, r_i2, r_i3, r_i4, r_i5, r_i7, r_l0, r_l1, lget_z, lget_s, lput_z, lput_s, one_unset, one_int, one_ref, two_unset, two_long, cond_true, cond_false, true_and, and_true, not_true_eq_false, not_false_eq_true, true_implies, false_implies, implies_true, ne_eq, Classical.not_not, Int.cast_ofNat_Int, ite_true, seval, and_self, n_aload_n, n_arraylength, n_astore_n, n_bipush, n_dup, n_goto, n_iadd, n_iaload, n_iand, n_iastore, n_iconst, n_ifCond, n_if_icmp, n_iload, n_iload_n, n_invokestatic, n_ior, n_irem, n_ireturn, n_ishl, n_istore, n_isub, n_iushr, n_ldc, n_newarray, n_sipush, b_17, b_6, b_7, b_8, b_9, b_10, b_11, b_12, b_13, b_14, b_15, b_16, b_31, s_160, s_4092, ci0, cj0, at_0, at_2, at_4, at_5, at_6, at_9, at_10, at_11, at_12, at_14, at_15, at_16, at_17, at_19, at_20, at_21, at_22, at_24, at_25, at_26, at_27, at_29, at_30, at_31, at_32, at_34, at_35, at_36, at_38, at_40, at_41, at_42, at_44, at_46, at_47, at_48, at_50, at_52, at_53, at_54, at_56, at_58, at_59, at_60, at_62, at_64, at_65, at_66, at_68, at_70, at_71, at_72, at_74, at_76, at_77, at_78, at_80, at_82, at_83, at_84, at_86, at_87, at_88, at_89, at_91, at_93, at_94, at_95, at_97, at_99, at_100, at_101, at_102, at_103, at_104, at_106, at_107, at_108, at_109, at_111, at_112, at_114, at_116, at_119, at_120, at_122, at_125, at_127, at_128, at_131, at_132, at_133, at_134, at_135, at_136, at_137, at_138, at_139, at_140, at_142, at_143, at_144, at_145, at_146, at_148, at_151, at_153, at_154, at_157, at_159, at_161, at_162, at_164, at_165, at_167, at_168, at_169, at_170, at_172, at_175, at_176, at_177, at_178, at_181, at_183, at_185, at_186, at_189, at_190, at_192, at_193, at_194, at_195, at_197, at_200, at_202, at_204, at_205, at_206, at_208, at_209, at_210, at_212, at_214, at_217, at_219, at_222, at_225, at_226, at_229, at_230]
set_option maxRecDepth 65536 in
set_option maxHeartbeats 4000000 in
theorem wq_13 (x sel off : Int32) (a : Addr) : wpo code ci0 cj0 [] 80 71 [.val (.int x), .val (.int sel), .val (.int off), .unset, .unset, .unset, .unset] [.ref a] (fun b M u => b = 76 ∧ M = [.val (.int x), .val (.int sel), .val (.int off), .unset, .unset, .unset, .unset] ∧ u = [.int 983040, .int 12, .ref a, .ref a]) := by
  simp only [r_wp0, r_wpS, r_nxt, r_stop0, r_stopS, r_go, r_goIf, r_fork, r_tgt, r_okO, r_gI, r_gJ, r_gA, r_pI, r_pJ, r_pA, r_p1r, r_p1i, r_pII, r_pJJ, r_pJI, r_fnd0, r_fndS, r_gC, r_gC0, r_gB, r_st1, r_st2, r_eq, r_ne, r_lt, r_ge, r_gt, r_le, r_eqL, r_neL, r_ltL, r_geL, r_gtL, r_leL, r_f0, r_f1, r_f2, r_f3, r_im1, r_i0, r_i1, r_i2, r_i3, r_i4, r_i5, r_i7, r_l0, r_l1, lget_z, lget_s, lput_z, lput_s, one_unset, one_int, one_ref, two_unset, two_long, cond_true, cond_false, true_and, and_true, not_true_eq_false, not_false_eq_true, true_implies, false_implies, implies_true, ne_eq, Classical.not_not, Int.cast_ofNat_Int, ite_true, seval, and_self, n_aload_n, n_arraylength, n_astore_n, n_bipush, n_dup, n_goto, n_iadd, n_iaload, n_iand, n_iastore, n_iconst, n_ifCond, n_if_icmp, n_iload, n_iload_n, n_invokestatic, n_ior, n_irem, n_ireturn, n_ishl, n_istore, n_isub, n_iushr, n_ldc, n_newarray, n_sipush, b_17, b_6, b_7, b_8, b_9, b_10, b_11, b_12, b_13, b_14, b_15, b_16, b_31, s_160, s_4092, ci0, cj0, at_0, at_2, at_4, at_5, at_6, at_9, at_10, at_11, at_12, at_14, at_15, at_16, at_17, at_19, at_20, at_21, at_22, at_24, at_25, at_26, at_27, at_29, at_30, at_31, at_32, at_34, at_35, at_36, at_38, at_40, at_41, at_42, at_44, at_46, at_47, at_48, at_50, at_52, at_53, at_54, at_56, at_58, at_59, at_60, at_62, at_64, at_65, at_66, at_68, at_70, at_71, at_72, at_74, at_76, at_77, at_78, at_80, at_82, at_83, at_84, at_86, at_87, at_88, at_89, at_91, at_93, at_94, at_95, at_97, at_99, at_100, at_101, at_102, at_103, at_104, at_106, at_107, at_108, at_109, at_111, at_112, at_114, at_116, at_119, at_120, at_122, at_125, at_127, at_128, at_131, at_132, at_133, at_134, at_135, at_136, at_137, at_138, at_139, at_140, at_142, at_143, at_144, at_145, at_146, at_148, at_151, at_153, at_154, at_157, at_159, at_161, at_162, at_164, at_165, at_167, at_168, at_169, at_170, at_172, at_175, at_176, at_177, at_178, at_181, at_183, at_185, at_186, at_189, at_190, at_192, at_193, at_194, at_195, at_197, at_200, at_202, at_204, at_205, at_206, at_208, at_209, at_210, at_212, at_214, at_217, at_219, at_222, at_225, at_226, at_229, at_230]
set_option maxRecDepth 65536 in
set_option maxHeartbeats 4000000 in
theorem wq_14 (x sel off : Int32) (a : Addr) : wpo code ci0 cj0 [] 80 77 [.val (.int x), .val (.int sel), .val (.int off), .unset, .unset, .unset, .unset] [.ref a] (fun b M u => b = 82 ∧ M = [.val (.int x), .val (.int sel), .val (.int off), .unset, .unset, .unset, .unset] ∧ u = [.int 1114112, .int 13, .ref a, .ref a]) := by
  simp only [r_wp0, r_wpS, r_nxt, r_stop0, r_stopS, r_go, r_goIf, r_fork, r_tgt, r_okO, r_gI, r_gJ, r_gA, r_pI, r_pJ, r_pA, r_p1r, r_p1i, r_pII, r_pJJ, r_pJI, r_fnd0, r_fndS, r_gC, r_gC0, r_gB, r_st1, r_st2, r_eq, r_ne, r_lt, r_ge, r_gt, r_le, r_eqL, r_neL, r_ltL, r_geL, r_gtL, r_leL, r_f0, r_f1, r_f2, r_f3, r_im1, r_i0, r_i1, r_i2, r_i3, r_i4, r_i5, r_i7, r_l0, r_l1, lget_z, lget_s, lput_z, lput_s, one_unset, one_int, one_ref, two_unset, two_long, cond_true, cond_false, true_and, and_true, not_true_eq_false, not_false_eq_true, true_implies, false_implies, implies_true, ne_eq, Classical.not_not, Int.cast_ofNat_Int, ite_true, seval, and_self, n_aload_n, n_arraylength, n_astore_n, n_bipush, n_dup, n_goto, n_iadd, n_iaload, n_iand, n_iastore, n_iconst, n_ifCond, n_if_icmp, n_iload, n_iload_n, n_invokestatic, n_ior, n_irem, n_ireturn, n_ishl, n_istore, n_isub, n_iushr, n_ldc, n_newarray, n_sipush, b_17, b_6, b_7, b_8, b_9, b_10, b_11, b_12, b_13, b_14, b_15, b_16, b_31, s_160, s_4092, ci0, cj0, at_0, at_2, at_4, at_5, at_6, at_9, at_10, at_11, at_12, at_14, at_15, at_16, at_17, at_19, at_20, at_21, at_22, at_24, at_25, at_26, at_27, at_29, at_30, at_31, at_32, at_34, at_35, at_36, at_38, at_40, at_41, at_42, at_44, at_46, at_47, at_48, at_50, at_52, at_53, at_54, at_56, at_58, at_59, at_60, at_62, at_64, at_65, at_66, at_68, at_70, at_71, at_72, at_74, at_76, at_77, at_78, at_80, at_82, at_83, at_84, at_86, at_87, at_88, at_89, at_91, at_93, at_94, at_95, at_97, at_99, at_100, at_101, at_102, at_103, at_104, at_106, at_107, at_108, at_109, at_111, at_112, at_114, at_116, at_119, at_120, at_122, at_125, at_127, at_128, at_131, at_132, at_133, at_134, at_135, at_136, at_137, at_138, at_139, at_140, at_142, at_143, at_144, at_145, at_146, at_148, at_151, at_153, at_154, at_157, at_159, at_161, at_162, at_164, at_165, at_167, at_168, at_169, at_170, at_172, at_175, at_176, at_177, at_178, at_181, at_183, at_185, at_186, at_189, at_190, at_192, at_193, at_194, at_195, at_197, at_200, at_202, at_204, at_205, at_206, at_208, at_209, at_210, at_212, at_214, at_217, at_219, at_222, at_225, at_226, at_229, at_230]
set_option maxRecDepth 65536 in
set_option maxHeartbeats 4000000 in
theorem wq_15 (x sel off : Int32) (a : Addr) : wpo code ci0 cj0 [] 80 83 [.val (.int x), .val (.int sel), .val (.int off), .unset, .unset, .unset, .unset] [.ref a] (fun b M u => b = 87 ∧ M = [.val (.int x), .val (.int sel), .val (.int off), .unset, .unset, .unset, .unset] ∧ u = [.int 0, .int 14, .ref a, .ref a]) := by
  simp only [r_wp0, r_wpS, r_nxt, r_stop0, r_stopS, r_go, r_goIf, r_fork, r_tgt, r_okO, r_gI, r_gJ, r_gA, r_pI, r_pJ, r_pA, r_p1r, r_p1i, r_pII, r_pJJ, r_pJI, r_fnd0, r_fndS, r_gC, r_gC0, r_gB, r_st1, r_st2, r_eq, r_ne, r_lt, r_ge, r_gt, r_le, r_eqL, r_neL, r_ltL, r_geL, r_gtL, r_leL, r_f0, r_f1, r_f2, r_f3, r_im1, r_i0, r_i1, r_i2, r_i3, r_i4, r_i5, r_i7, r_l0, r_l1, lget_z, lget_s, lput_z, lput_s, one_unset, one_int, one_ref, two_unset, two_long, cond_true, cond_false, true_and, and_true, not_true_eq_false, not_false_eq_true, true_implies, false_implies, implies_true, ne_eq, Classical.not_not, Int.cast_ofNat_Int, ite_true, seval, and_self, n_aload_n, n_arraylength, n_astore_n, n_bipush, n_dup, n_goto, n_iadd, n_iaload, n_iand, n_iastore, n_iconst, n_ifCond, n_if_icmp, n_iload, n_iload_n, n_invokestatic, n_ior, n_irem, n_ireturn, n_ishl, n_istore, n_isub, n_iushr, n_ldc, n_newarray, n_sipush, b_17, b_6, b_7, b_8, b_9, b_10, b_11, b_12, b_13, b_14, b_15, b_16, b_31, s_160, s_4092, ci0, cj0, at_0, at_2, at_4, at_5, at_6, at_9, at_10, at_11, at_12, at_14, at_15, at_16, at_17, at_19, at_20, at_21, at_22, at_24, at_25, at_26, at_27, at_29, at_30, at_31, at_32, at_34, at_35, at_36, at_38, at_40, at_41, at_42, at_44, at_46, at_47, at_48, at_50, at_52, at_53, at_54, at_56, at_58, at_59, at_60, at_62, at_64, at_65, at_66, at_68, at_70, at_71, at_72, at_74, at_76, at_77, at_78, at_80, at_82, at_83, at_84, at_86, at_87, at_88, at_89, at_91, at_93, at_94, at_95, at_97, at_99, at_100, at_101, at_102, at_103, at_104, at_106, at_107, at_108, at_109, at_111, at_112, at_114, at_116, at_119, at_120, at_122, at_125, at_127, at_128, at_131, at_132, at_133, at_134, at_135, at_136, at_137, at_138, at_139, at_140, at_142, at_143, at_144, at_145, at_146, at_148, at_151, at_153, at_154, at_157, at_159, at_161, at_162, at_164, at_165, at_167, at_168, at_169, at_170, at_172, at_175, at_176, at_177, at_178, at_181, at_183, at_185, at_186, at_189, at_190, at_192, at_193, at_194, at_195, at_197, at_200, at_202, at_204, at_205, at_206, at_208, at_209, at_210, at_212, at_214, at_217, at_219, at_222, at_225, at_226, at_229, at_230]
set_option maxRecDepth 65536 in
set_option maxHeartbeats 4000000 in
theorem wq_16 (x sel off : Int32) (a : Addr) : wpo code ci0 cj0 [] 80 88 [.val (.int x), .val (.int sel), .val (.int off), .unset, .unset, .unset, .unset] [.ref a] (fun b M u => b = 93 ∧ M = [.val (.int x), .val (.int sel), .val (.int off), .unset, .unset, .unset, .unset] ∧ u = [.int (-2147483644), .int 15, .ref a, .ref a]) := by
  simp only [r_wp0, r_wpS, r_nxt, r_stop0, r_stopS, r_go, r_goIf, r_fork, r_tgt, r_okO, r_gI, r_gJ, r_gA, r_pI, r_pJ, r_pA, r_p1r, r_p1i, r_pII, r_pJJ, r_pJI, r_fnd0, r_fndS, r_gC, r_gC0, r_gB, r_st1, r_st2, r_eq, r_ne, r_lt, r_ge, r_gt, r_le, r_eqL, r_neL, r_ltL, r_geL, r_gtL, r_leL, r_f0, r_f1, r_f2, r_f3, r_im1, r_i0, r_i1, r_i2, r_i3, r_i4, r_i5, r_i7, r_l0, r_l1, lget_z, lget_s, lput_z, lput_s, one_unset, one_int, one_ref, two_unset, two_long, cond_true, cond_false, true_and, and_true, not_true_eq_false, not_false_eq_true, true_implies, false_implies, implies_true, ne_eq, Classical.not_not, Int.cast_ofNat_Int, ite_true, seval, and_self, n_aload_n, n_arraylength, n_astore_n, n_bipush, n_dup, n_goto, n_iadd, n_iaload, n_iand, n_iastore, n_iconst, n_ifCond, n_if_icmp, n_iload, n_iload_n, n_invokestatic, n_ior, n_irem, n_ireturn, n_ishl, n_istore, n_isub, n_iushr, n_ldc, n_newarray, n_sipush, b_17, b_6, b_7, b_8, b_9, b_10, b_11, b_12, b_13, b_14, b_15, b_16, b_31, s_160, s_4092, ci0, cj0, at_0, at_2, at_4, at_5, at_6, at_9, at_10, at_11, at_12, at_14, at_15, at_16, at_17, at_19, at_20, at_21, at_22, at_24, at_25, at_26, at_27, at_29, at_30, at_31, at_32, at_34, at_35, at_36, at_38, at_40, at_41, at_42, at_44, at_46, at_47, at_48, at_50, at_52, at_53, at_54, at_56, at_58, at_59, at_60, at_62, at_64, at_65, at_66, at_68, at_70, at_71, at_72, at_74, at_76, at_77, at_78, at_80, at_82, at_83, at_84, at_86, at_87, at_88, at_89, at_91, at_93, at_94, at_95, at_97, at_99, at_100, at_101, at_102, at_103, at_104, at_106, at_107, at_108, at_109, at_111, at_112, at_114, at_116, at_119, at_120, at_122, at_125, at_127, at_128, at_131, at_132, at_133, at_134, at_135, at_136, at_137, at_138, at_139, at_140, at_142, at_143, at_144, at_145, at_146, at_148, at_151, at_153, at_154, at_157, at_159, at_161, at_162, at_164, at_165, at_167, at_168, at_169, at_170, at_172, at_175, at_176, at_177, at_178, at_181, at_183, at_185, at_186, at_189, at_190, at_192, at_193, at_194, at_195, at_197, at_200, at_202, at_204, at_205, at_206, at_208, at_209, at_210, at_212, at_214, at_217, at_219, at_222, at_225, at_226, at_229, at_230]
set_option maxRecDepth 65536 in
set_option maxHeartbeats 4000000 in
theorem wq_17 (x sel off : Int32) (a : Addr) : wpo code ci0 cj0 [] 80 94 [.val (.int x), .val (.int sel), .val (.int off), .unset, .unset, .unset, .unset] [.ref a] (fun b M u => b = 99 ∧ M = [.val (.int x), .val (.int sel), .val (.int off), .unset, .unset, .unset, .unset] ∧ u = [.int 2147483644, .int 16, .ref a, .ref a]) := by
  simp only [r_wp0, r_wpS, r_nxt, r_stop0, r_stopS, r_go, r_goIf, r_fork, r_tgt, r_okO, r_gI, r_gJ, r_gA, r_pI, r_pJ, r_pA, r_p1r, r_p1i, r_pII, r_pJJ, r_pJI, r_fnd0, r_fndS, r_gC, r_gC0, r_gB, r_st1, r_st2, r_eq, r_ne, r_lt, r_ge, r_gt, r_le, r_eqL, r_neL, r_ltL, r_geL, r_gtL, r_leL, r_f0, r_f1, r_f2, r_f3, r_im1, r_i0, r_i1, r_i2, r_i3, r_i4, r_i5, r_i7, r_l0, r_l1, lget_z, lget_s, lput_z, lput_s, one_unset, one_int, one_ref, two_unset, two_long, cond_true, cond_false, true_and, and_true, not_true_eq_false, not_false_eq_true, true_implies, false_implies, implies_true, ne_eq, Classical.not_not, Int.cast_ofNat_Int, ite_true, seval, and_self, n_aload_n, n_arraylength, n_astore_n, n_bipush, n_dup, n_goto, n_iadd, n_iaload, n_iand, n_iastore, n_iconst, n_ifCond, n_if_icmp, n_iload, n_iload_n, n_invokestatic, n_ior, n_irem, n_ireturn, n_ishl, n_istore, n_isub, n_iushr, n_ldc, n_newarray, n_sipush, b_17, b_6, b_7, b_8, b_9, b_10, b_11, b_12, b_13, b_14, b_15, b_16, b_31, s_160, s_4092, ci0, cj0, at_0, at_2, at_4, at_5, at_6, at_9, at_10, at_11, at_12, at_14, at_15, at_16, at_17, at_19, at_20, at_21, at_22, at_24, at_25, at_26, at_27, at_29, at_30, at_31, at_32, at_34, at_35, at_36, at_38, at_40, at_41, at_42, at_44, at_46, at_47, at_48, at_50, at_52, at_53, at_54, at_56, at_58, at_59, at_60, at_62, at_64, at_65, at_66, at_68, at_70, at_71, at_72, at_74, at_76, at_77, at_78, at_80, at_82, at_83, at_84, at_86, at_87, at_88, at_89, at_91, at_93, at_94, at_95, at_97, at_99, at_100, at_101, at_102, at_103, at_104, at_106, at_107, at_108, at_109, at_111, at_112, at_114, at_116, at_119, at_120, at_122, at_125, at_127, at_128, at_131, at_132, at_133, at_134, at_135, at_136, at_137, at_138, at_139, at_140, at_142, at_143, at_144, at_145, at_146, at_148, at_151, at_153, at_154, at_157, at_159, at_161, at_162, at_164, at_165, at_167, at_168, at_169, at_170, at_172, at_175, at_176, at_177, at_178, at_181, at_183, at_185, at_186, at_189, at_190, at_192, at_193, at_194, at_195, at_197, at_200, at_202, at_204, at_205, at_206, at_208, at_209, at_210, at_212, at_214, at_217, at_219, at_222, at_225, at_226, at_229, at_230]
set_option maxRecDepth 65536 in
set_option maxHeartbeats 4000000 in
theorem wr_0 (x sel off e : Int32) (a : Addr) (h : ¬ sel &&& 3 = 1) : wpo code ci0 cj0 [] 80 100 [.val (.int x), .val (.int sel), .val (.int off), .unset, .unset, .unset, .unset] [.ref a] (fun b M u => b = 214 ∧ M = [.val (.int x), .val (.int sel), .val (.int off), .val (.ref a), .val (.int (sel &&& 3)), .val (.int (oushr sel 2 &&& 31)), .val (.int (own_c x sel off e))] ∧ u = [.int (own_c x sel off e)]) := by
  simp only [r_wp0, r_wpS, r_nxt, r_stop0, r_stopS, r_go, r_goIf, r_fork, r_tgt, r_okO, r_gI, r_gJ, r_gA, r_pI, r_pJ, r_pA, r_p1r, r_p1i, r_pII, r_pJJ, r_pJI, r_fnd0, r_fndS, r_gC, r_gC0, r_gB, r_st1, r_st2, r_eq, r_ne, r_lt, r_ge, r_gt, r_le, r_eqL, r_neL, r_ltL, r_geL, r_gtL, r_leL, r_f0, r_f1, r_f2, r_f3, r_im1, r_i0, r_i1, r_i2, r_i3, r_i4, r_i5, r_i7, r_l0, r_l1, lget_z, lget_s, lput_z, lput_s, one_unset, one_int, one_ref, two_unset, two_long, cond_true, cond_false, true_and, and_true, not_true_eq_false, not_false_eq_true, true_implies, false_implies, implies_true, ne_eq, Classical.not_not, Int.cast_ofNat_Int, ite_true, seval, and_self, n_aload_n, n_arraylength, n_astore_n, n_bipush, n_dup, n_goto, n_iadd, n_iaload, n_iand, n_iastore, n_iconst, n_ifCond, n_if_icmp, n_iload, n_iload_n, n_invokestatic, n_ior, n_irem, n_ireturn, n_ishl, n_istore, n_isub, n_iushr, n_ldc, n_newarray, n_sipush, b_17, b_6, b_7, b_8, b_9, b_10, b_11, b_12, b_13, b_14, b_15, b_16, b_31, s_160, s_4092, ci0, cj0, at_0, at_2, at_4, at_5, at_6, at_9, at_10, at_11, at_12, at_14, at_15, at_16, at_17, at_19, at_20, at_21, at_22, at_24, at_25, at_26, at_27, at_29, at_30, at_31, at_32, at_34, at_35, at_36, at_38, at_40, at_41, at_42, at_44, at_46, at_47, at_48, at_50, at_52, at_53, at_54, at_56, at_58, at_59, at_60, at_62, at_64, at_65, at_66, at_68, at_70, at_71, at_72, at_74, at_76, at_77, at_78, at_80, at_82, at_83, at_84, at_86, at_87, at_88, at_89, at_91, at_93, at_94, at_95, at_97, at_99, at_100, at_101, at_102, at_103, at_104, at_106, at_107, at_108, at_109, at_111, at_112, at_114, at_116, at_119, at_120, at_122, at_125, at_127, at_128, at_131, at_132, at_133, at_134, at_135, at_136, at_137, at_138, at_139, at_140, at_142, at_143, at_144, at_145, at_146, at_148, at_151, at_153, at_154, at_157, at_159, at_161, at_162, at_164, at_165, at_167, at_168, at_169, at_170, at_172, at_175, at_176, at_177, at_178, at_181, at_183, at_185, at_186, at_189, at_190, at_192, at_193, at_194, at_195, at_197, at_200, at_202, at_204, at_205, at_206, at_208, at_209, at_210, at_212, at_214, at_217, at_219, at_222, at_225, at_226, at_229, at_230, h, List.cons.injEq, Slot.val.injEq, Value.int.injEq]
  all_goals (repeat' (first | refine And.intro ?_ ?_ | intro _))
  all_goals simp [own_c, *]
set_option maxRecDepth 65536 in
set_option maxHeartbeats 4000000 in
theorem wr_1 (x sel off : Int32) (a : Addr) (h : sel &&& 3 = 1) : wpo code ci0 cj0 [] 80 100 [.val (.int x), .val (.int sel), .val (.int off), .unset, .unset, .unset, .unset] [.ref a] (fun b M u => b = 136 ∧ M = [.val (.int x), .val (.int sel), .val (.int off), .val (.ref a), .val (.int (sel &&& 3)), .val (.int (oushr sel 2 &&& 31)), .unset] ∧ u = [.ref a, .int (oushr sel 2), .ref a]) := by
  simp only [r_wp0, r_wpS, r_nxt, r_stop0, r_stopS, r_go, r_goIf, r_fork, r_tgt, r_okO, r_gI, r_gJ, r_gA, r_pI, r_pJ, r_pA, r_p1r, r_p1i, r_pII, r_pJJ, r_pJI, r_fnd0, r_fndS, r_gC, r_gC0, r_gB, r_st1, r_st2, r_eq, r_ne, r_lt, r_ge, r_gt, r_le, r_eqL, r_neL, r_ltL, r_geL, r_gtL, r_leL, r_f0, r_f1, r_f2, r_f3, r_im1, r_i0, r_i1, r_i2, r_i3, r_i4, r_i5, r_i7, r_l0, r_l1, lget_z, lget_s, lput_z, lput_s, one_unset, one_int, one_ref, two_unset, two_long, cond_true, cond_false, true_and, and_true, not_true_eq_false, not_false_eq_true, true_implies, false_implies, implies_true, ne_eq, Classical.not_not, Int.cast_ofNat_Int, ite_true, seval, and_self, n_aload_n, n_arraylength, n_astore_n, n_bipush, n_dup, n_goto, n_iadd, n_iaload, n_iand, n_iastore, n_iconst, n_ifCond, n_if_icmp, n_iload, n_iload_n, n_invokestatic, n_ior, n_irem, n_ireturn, n_ishl, n_istore, n_isub, n_iushr, n_ldc, n_newarray, n_sipush, b_17, b_6, b_7, b_8, b_9, b_10, b_11, b_12, b_13, b_14, b_15, b_16, b_31, s_160, s_4092, ci0, cj0, at_0, at_2, at_4, at_5, at_6, at_9, at_10, at_11, at_12, at_14, at_15, at_16, at_17, at_19, at_20, at_21, at_22, at_24, at_25, at_26, at_27, at_29, at_30, at_31, at_32, at_34, at_35, at_36, at_38, at_40, at_41, at_42, at_44, at_46, at_47, at_48, at_50, at_52, at_53, at_54, at_56, at_58, at_59, at_60, at_62, at_64, at_65, at_66, at_68, at_70, at_71, at_72, at_74, at_76, at_77, at_78, at_80, at_82, at_83, at_84, at_86, at_87, at_88, at_89, at_91, at_93, at_94, at_95, at_97, at_99, at_100, at_101, at_102, at_103, at_104, at_106, at_107, at_108, at_109, at_111, at_112, at_114, at_116, at_119, at_120, at_122, at_125, at_127, at_128, at_131, at_132, at_133, at_134, at_135, at_136, at_137, at_138, at_139, at_140, at_142, at_143, at_144, at_145, at_146, at_148, at_151, at_153, at_154, at_157, at_159, at_161, at_162, at_164, at_165, at_167, at_168, at_169, at_170, at_172, at_175, at_176, at_177, at_178, at_181, at_183, at_185, at_186, at_189, at_190, at_192, at_193, at_194, at_195, at_197, at_200, at_202, at_204, at_205, at_206, at_208, at_209, at_210, at_212, at_214, at_217, at_219, at_222, at_225, at_226, at_229, at_230, h, List.cons.injEq, Slot.val.injEq, Value.int.injEq]
set_option maxRecDepth 65536 in
set_option maxHeartbeats 4000000 in
theorem wr_2 (x sel off : Int32) (a : Addr) : wpo code ci0 cj0 [] 80 137 [.val (.int x), .val (.int sel), .val (.int off), .val (.ref a), .val (.int (sel &&& 3)), .val (.int (oushr sel 2 &&& 31)), .unset] [.int 17, .int (oushr sel 2), .ref a] (fun b M u => b = 138 ∧ M = [.val (.int x), .val (.int sel), .val (.int off), .val (.ref a), .val (.int (sel &&& 3)), .val (.int (oushr sel 2 &&& 31)), .unset] ∧ u = [.int (own_i sel), .ref a]) := by
  simp only [r_wp0, r_wpS, r_nxt, r_stop0, r_stopS, r_go, r_goIf, r_fork, r_tgt, r_okO, r_gI, r_gJ, r_gA, r_pI, r_pJ, r_pA, r_p1r, r_p1i, r_pII, r_pJJ, r_pJI, r_fnd0, r_fndS, r_gC, r_gC0, r_gB, r_st1, r_st2, r_eq, r_ne, r_lt, r_ge, r_gt, r_le, r_eqL, r_neL, r_ltL, r_geL, r_gtL, r_leL, r_f0, r_f1, r_f2, r_f3, r_im1, r_i0, r_i1, r_i2, r_i3, r_i4, r_i5, r_i7, r_l0, r_l1, lget_z, lget_s, lput_z, lput_s, one_unset, one_int, one_ref, two_unset, two_long, cond_true, cond_false, true_and, and_true, not_true_eq_false, not_false_eq_true, true_implies, false_implies, implies_true, ne_eq, Classical.not_not, Int.cast_ofNat_Int, ite_true, seval, and_self, n_aload_n, n_arraylength, n_astore_n, n_bipush, n_dup, n_goto, n_iadd, n_iaload, n_iand, n_iastore, n_iconst, n_ifCond, n_if_icmp, n_iload, n_iload_n, n_invokestatic, n_ior, n_irem, n_ireturn, n_ishl, n_istore, n_isub, n_iushr, n_ldc, n_newarray, n_sipush, b_17, b_6, b_7, b_8, b_9, b_10, b_11, b_12, b_13, b_14, b_15, b_16, b_31, s_160, s_4092, ci0, cj0, at_0, at_2, at_4, at_5, at_6, at_9, at_10, at_11, at_12, at_14, at_15, at_16, at_17, at_19, at_20, at_21, at_22, at_24, at_25, at_26, at_27, at_29, at_30, at_31, at_32, at_34, at_35, at_36, at_38, at_40, at_41, at_42, at_44, at_46, at_47, at_48, at_50, at_52, at_53, at_54, at_56, at_58, at_59, at_60, at_62, at_64, at_65, at_66, at_68, at_70, at_71, at_72, at_74, at_76, at_77, at_78, at_80, at_82, at_83, at_84, at_86, at_87, at_88, at_89, at_91, at_93, at_94, at_95, at_97, at_99, at_100, at_101, at_102, at_103, at_104, at_106, at_107, at_108, at_109, at_111, at_112, at_114, at_116, at_119, at_120, at_122, at_125, at_127, at_128, at_131, at_132, at_133, at_134, at_135, at_136, at_137, at_138, at_139, at_140, at_142, at_143, at_144, at_145, at_146, at_148, at_151, at_153, at_154, at_157, at_159, at_161, at_162, at_164, at_165, at_167, at_168, at_169, at_170, at_172, at_175, at_176, at_177, at_178, at_181, at_183, at_185, at_186, at_189, at_190, at_192, at_193, at_194, at_195, at_197, at_200, at_202, at_204, at_205, at_206, at_208, at_209, at_210, at_212, at_214, at_217, at_219, at_222, at_225, at_226, at_229, at_230, own_i]
set_option maxRecDepth 65536 in
set_option maxHeartbeats 4000000 in
theorem wr_3 (x sel off e : Int32) (a : Addr) (h : sel &&& 3 = 1) : wpo code ci0 cj0 [] 80 139 [.val (.int x), .val (.int sel), .val (.int off), .val (.ref a), .val (.int (sel &&& 3)), .val (.int (oushr sel 2 &&& 31)), .unset] [.int e] (fun b M u => b = 214 ∧ M = [.val (.int x), .val (.int sel), .val (.int off), .val (.ref a), .val (.int (sel &&& 3)), .val (.int (oushr sel 2 &&& 31)), .val (.int (own_c x sel off e))] ∧ u = [.int (own_c x sel off e)]) := by
  simp only [r_wp0, r_wpS, r_nxt, r_stop0, r_stopS, r_go, r_goIf, r_fork, r_tgt, r_okO, r_gI, r_gJ, r_gA, r_pI, r_pJ, r_pA, r_p1r, r_p1i, r_pII, r_pJJ, r_pJI, r_fnd0, r_fndS, r_gC, r_gC0, r_gB, r_st1, r_st2, r_eq, r_ne, r_lt, r_ge, r_gt, r_le, r_eqL, r_neL, r_ltL, r_geL, r_gtL, r_leL, r_f0, r_f1, r_f2, r_f3, r_im1, r_i0, r_i1, r_i2, r_i3, r_i4, r_i5, r_i7, r_l0, r_l1, lget_z, lget_s, lput_z, lput_s, one_unset, one_int, one_ref, two_unset, two_long, cond_true, cond_false, true_and, and_true, not_true_eq_false, not_false_eq_true, true_implies, false_implies, implies_true, ne_eq, Classical.not_not, Int.cast_ofNat_Int, ite_true, seval, and_self, n_aload_n, n_arraylength, n_astore_n, n_bipush, n_dup, n_goto, n_iadd, n_iaload, n_iand, n_iastore, n_iconst, n_ifCond, n_if_icmp, n_iload, n_iload_n, n_invokestatic, n_ior, n_irem, n_ireturn, n_ishl, n_istore, n_isub, n_iushr, n_ldc, n_newarray, n_sipush, b_17, b_6, b_7, b_8, b_9, b_10, b_11, b_12, b_13, b_14, b_15, b_16, b_31, s_160, s_4092, ci0, cj0, at_0, at_2, at_4, at_5, at_6, at_9, at_10, at_11, at_12, at_14, at_15, at_16, at_17, at_19, at_20, at_21, at_22, at_24, at_25, at_26, at_27, at_29, at_30, at_31, at_32, at_34, at_35, at_36, at_38, at_40, at_41, at_42, at_44, at_46, at_47, at_48, at_50, at_52, at_53, at_54, at_56, at_58, at_59, at_60, at_62, at_64, at_65, at_66, at_68, at_70, at_71, at_72, at_74, at_76, at_77, at_78, at_80, at_82, at_83, at_84, at_86, at_87, at_88, at_89, at_91, at_93, at_94, at_95, at_97, at_99, at_100, at_101, at_102, at_103, at_104, at_106, at_107, at_108, at_109, at_111, at_112, at_114, at_116, at_119, at_120, at_122, at_125, at_127, at_128, at_131, at_132, at_133, at_134, at_135, at_136, at_137, at_138, at_139, at_140, at_142, at_143, at_144, at_145, at_146, at_148, at_151, at_153, at_154, at_157, at_159, at_161, at_162, at_164, at_165, at_167, at_168, at_169, at_170, at_172, at_175, at_176, at_177, at_178, at_181, at_183, at_185, at_186, at_189, at_190, at_192, at_193, at_194, at_195, at_197, at_200, at_202, at_204, at_205, at_206, at_208, at_209, at_210, at_212, at_214, at_217, at_219, at_222, at_225, at_226, at_229, at_230, own_c, h, List.cons.injEq, Slot.val.injEq, Value.int.injEq]
set_option maxRecDepth 65536 in
set_option maxHeartbeats 4000000 in
theorem wr_4 (x sel off c z : Int32) (v3 v4 v5 : Slot) : wpo code ci0 cj0 [] 80 217 [.val (.int x), .val (.int sel), .val (.int off), v3, v4, v5, .val (.int c)] [.int z] (fun b M u => b = 219 ∧ M = [.val (.int x), .val (.int sel), .val (.int off), v3, v4, v5, .val (.int c)] ∧ u = [.int c, .int z]) := by
  simp only [r_wp0, r_wpS, r_nxt, r_stop0, r_stopS, r_go, r_goIf, r_fork, r_tgt, r_okO, r_gI, r_gJ, r_gA, r_pI, r_pJ, r_pA, r_p1r, r_p1i, r_pII, r_pJJ, r_pJI, r_fnd0, r_fndS, r_gC, r_gC0, r_gB, r_st1, r_st2, r_eq, r_ne, r_lt, r_ge, r_gt, r_le, r_eqL, r_neL, r_ltL, r_geL, r_gtL, r_leL, r_f0, r_f1, r_f2, r_f3, r_im1, r_i0, r_i1, r_i2, r_i3, r_i4, r_i5, r_i7, r_l0, r_l1, lget_z, lget_s, lput_z, lput_s, one_unset, one_int, one_ref, two_unset, two_long, cond_true, cond_false, true_and, and_true, not_true_eq_false, not_false_eq_true, true_implies, false_implies, implies_true, ne_eq, Classical.not_not, Int.cast_ofNat_Int, ite_true, seval, and_self, n_aload_n, n_arraylength, n_astore_n, n_bipush, n_dup, n_goto, n_iadd, n_iaload, n_iand, n_iastore, n_iconst, n_ifCond, n_if_icmp, n_iload, n_iload_n, n_invokestatic, n_ior, n_irem, n_ireturn, n_ishl, n_istore, n_isub, n_iushr, n_ldc, n_newarray, n_sipush, b_17, b_6, b_7, b_8, b_9, b_10, b_11, b_12, b_13, b_14, b_15, b_16, b_31, s_160, s_4092, ci0, cj0, at_0, at_2, at_4, at_5, at_6, at_9, at_10, at_11, at_12, at_14, at_15, at_16, at_17, at_19, at_20, at_21, at_22, at_24, at_25, at_26, at_27, at_29, at_30, at_31, at_32, at_34, at_35, at_36, at_38, at_40, at_41, at_42, at_44, at_46, at_47, at_48, at_50, at_52, at_53, at_54, at_56, at_58, at_59, at_60, at_62, at_64, at_65, at_66, at_68, at_70, at_71, at_72, at_74, at_76, at_77, at_78, at_80, at_82, at_83, at_84, at_86, at_87, at_88, at_89, at_91, at_93, at_94, at_95, at_97, at_99, at_100, at_101, at_102, at_103, at_104, at_106, at_107, at_108, at_109, at_111, at_112, at_114, at_116, at_119, at_120, at_122, at_125, at_127, at_128, at_131, at_132, at_133, at_134, at_135, at_136, at_137, at_138, at_139, at_140, at_142, at_143, at_144, at_145, at_146, at_148, at_151, at_153, at_154, at_157, at_159, at_161, at_162, at_164, at_165, at_167, at_168, at_169, at_170, at_172, at_175, at_176, at_177, at_178, at_181, at_183, at_185, at_186, at_189, at_190, at_192, at_193, at_194, at_195, at_197, at_200, at_202, at_204, at_205, at_206, at_208, at_209, at_210, at_212, at_214, at_217, at_219, at_222, at_225, at_226, at_229, at_230]
set_option maxRecDepth 65536 in
set_option maxHeartbeats 4000000 in
theorem wr_5 (x sel off c z : Int32) (v3 v4 v5 : Slot) : wpo code ci0 cj0 [] 80 222 [.val (.int x), .val (.int sel), .val (.int off), v3, v4, v5, .val (.int c)] [.int z, .int z] (fun b M u => decode code b = .ok (.ireturn, 1) ∧ u = [.int 1]) := by
  simp only [r_wp0, r_wpS, r_nxt, r_stop0, r_stopS, r_go, r_goIf, r_fork, r_tgt, r_okO, r_gI, r_gJ, r_gA, r_pI, r_pJ, r_pA, r_p1r, r_p1i, r_pII, r_pJJ, r_pJI, r_fnd0, r_fndS, r_gC, r_gC0, r_gB, r_st1, r_st2, r_eq, r_ne, r_lt, r_ge, r_gt, r_le, r_eqL, r_neL, r_ltL, r_geL, r_gtL, r_leL, r_f0, r_f1, r_f2, r_f3, r_im1, r_i0, r_i1, r_i2, r_i3, r_i4, r_i5, r_i7, r_l0, r_l1, lget_z, lget_s, lput_z, lput_s, one_unset, one_int, one_ref, two_unset, two_long, cond_true, cond_false, true_and, and_true, not_true_eq_false, not_false_eq_true, true_implies, false_implies, implies_true, ne_eq, Classical.not_not, Int.cast_ofNat_Int, ite_true, seval, and_self, n_aload_n, n_arraylength, n_astore_n, n_bipush, n_dup, n_goto, n_iadd, n_iaload, n_iand, n_iastore, n_iconst, n_ifCond, n_if_icmp, n_iload, n_iload_n, n_invokestatic, n_ior, n_irem, n_ireturn, n_ishl, n_istore, n_isub, n_iushr, n_ldc, n_newarray, n_sipush, b_17, b_6, b_7, b_8, b_9, b_10, b_11, b_12, b_13, b_14, b_15, b_16, b_31, s_160, s_4092, ci0, cj0, at_0, at_2, at_4, at_5, at_6, at_9, at_10, at_11, at_12, at_14, at_15, at_16, at_17, at_19, at_20, at_21, at_22, at_24, at_25, at_26, at_27, at_29, at_30, at_31, at_32, at_34, at_35, at_36, at_38, at_40, at_41, at_42, at_44, at_46, at_47, at_48, at_50, at_52, at_53, at_54, at_56, at_58, at_59, at_60, at_62, at_64, at_65, at_66, at_68, at_70, at_71, at_72, at_74, at_76, at_77, at_78, at_80, at_82, at_83, at_84, at_86, at_87, at_88, at_89, at_91, at_93, at_94, at_95, at_97, at_99, at_100, at_101, at_102, at_103, at_104, at_106, at_107, at_108, at_109, at_111, at_112, at_114, at_116, at_119, at_120, at_122, at_125, at_127, at_128, at_131, at_132, at_133, at_134, at_135, at_136, at_137, at_138, at_139, at_140, at_142, at_143, at_144, at_145, at_146, at_148, at_151, at_153, at_154, at_157, at_159, at_161, at_162, at_164, at_165, at_167, at_168, at_169, at_170, at_172, at_175, at_176, at_177, at_178, at_181, at_183, at_185, at_186, at_189, at_190, at_192, at_193, at_194, at_195, at_197, at_200, at_202, at_204, at_205, at_206, at_208, at_209, at_210, at_212, at_214, at_217, at_219, at_222, at_225, at_226, at_229, at_230, List.cons.injEq, Value.int.injEq]
set_option maxRecDepth 65536 in
set_option maxHeartbeats 40000000 in
theorem rm0 (l : Launch) (Z : State) (a0 : Array Value) (hw : ∀ d ∈ tables_1, d.before a0 Z = true) (ws : List Jvm.Cond) (x0 sel off : Int32) (h0 : Heap) (n0 : Nat) (Z0 : n0 ≤ h0.size) :
    MetFree l x (head1 (Jvm.Cond.code x code maxLocals ret :: ws) room_1) (fun a U => a = #[(.int x0), (.int sel), (.int off)] ∧ Z.Warmed39 U.vm ∧ U.heap = h0) (fun _ _ _ _ _ => True) (fun _ U o U' => ∃ v L, o = .returned v ∧ (v = some (.int (1 : Int32)) ∧ Fr n0 L) ∧ FrameEnd U o U' L room_1.cells room_1.slots) := by
  refine MetFree.of_bodySF (plainFor_of_name pn_0) hisR ?_
  intro p e s m args below meth c s₁ Bd hml0 hP hK
  obtain ⟨rfl, hZ, hh⟩ := hP
  have hx := Bd.exec
  have hby := Bd.bytes
  have hml : c.maxLocals = 7 := hml0
  have hown : s.vm.findClass "com/example/varuna/varuna/UriIsUcscharPinLaw" = some m.cls := findClass_of_methodNamed Bd.named
  have X0 : Stand p l e room_1 s m #[(.int x0), (.int sel), (.int off)] below meth c s₁ [] 0 0 := Stand.of_body Bd
  have e0 : s₁.heap = h0 := by rw [← hh, Bd.state]; rfl
  have Y0 : n0 ≤ s₁.heap.size := by rw [e0]; exact Z0
  have hI := cI (args := #[(.int x0), (.int sel), (.int off)]) (s := s) (own := "com/example/varuna/varuna/UriIsUcscharPinLaw") (ci := ci0) hZ hw (by decide +kernel)
  have hJ := cJ (args := #[(.int x0), (.int sel), (.int off)]) (s := s) (own := "com/example/varuna/varuna/UriIsUcscharPinLaw") (cj := cj0) hZ hw (by decide +kernel)
  have N0 := Fr.nil n0
  obtain ⟨TA, b, XA, gb, -, -, AA, -, tA⟩ := mkArr (rest := []) (Ls := #[.val (.int x0), .val (.int sel), .val (.int off), .unset, .unset, .unset, .unset]) X0 hx hZ (hw _ (List.mem_of_getElem? (i := 0) rfl)) Y0 (hb hby at_2) (z := 17) (n := 17) (by decide) (by decide) (by decide) (by decide) (by decide)
  have A0 : AI Z TA.heap b .int 17 (fun _ => 0) := AA
  obtain ⟨T1, l1, X1, N1, A1, -, t1⟩ := putI (rest := [.ref b]) (Ls := #[.val (.int x0), .val (.int sel), .val (.int off), .unset, .unset, .unset, .unset]) XA hx hZ A0 (j := 0) (i := 0) (by decide) (by decide) (by decide) N0 gb 160 (hb hby at_9)
  obtain ⟨T2, l2, X2, N2, A2, -, t2⟩ := putI (rest := [.ref b]) (Ls := #[.val (.int x0), .val (.int sel), .val (.int off), .unset, .unset, .unset, .unset]) X1 hx hZ A1 (j := 1) (i := 1) (by decide) (by decide) (by decide) N1 gb 55296 (hb hby at_14)
  obtain ⟨T3, l3, X3, N3, A3, -, t3⟩ := putI (rest := [.ref b]) (Ls := #[.val (.int x0), .val (.int sel), .val (.int off), .unset, .unset, .unset, .unset]) X2 hx hZ A2 (j := 2) (i := 2) (by decide) (by decide) (by decide) N2 gb 63744 (hb hby at_19)
  obtain ⟨T4, l4, X4, N4, A4, -, t4⟩ := putI (rest := [.ref b]) (Ls := #[.val (.int x0), .val (.int sel), .val (.int off), .unset, .unset, .unset, .unset]) X3 hx hZ A3 (j := 3) (i := 3) (by decide) (by decide) (by decide) N3 gb 64976 (hb hby at_24)
  obtain ⟨T5, l5, X5, N5, A5, -, t5⟩ := putI (rest := [.ref b]) (Ls := #[.val (.int x0), .val (.int sel), .val (.int off), .unset, .unset, .unset, .unset]) X4 hx hZ A4 (j := 4) (i := 4) (by decide) (by decide) (by decide) N4 gb 65008 (hb hby at_29)
  obtain ⟨T6, l6, X6, N6, A6, -, t6⟩ := putI (rest := [.ref b]) (Ls := #[.val (.int x0), .val (.int sel), .val (.int off), .unset, .unset, .unset, .unset]) X5 hx hZ A5 (j := 5) (i := 5) (by decide) (by decide) (by decide) N5 gb 65520 (hb hby at_34)
  obtain ⟨T7, l7, X7, N7, A7, -, t7⟩ := putI (rest := [.ref b]) (Ls := #[.val (.int x0), .val (.int sel), .val (.int off), .unset, .unset, .unset, .unset]) X6 hx hZ A6 (j := 6) (i := 6) (by decide) (by decide) (by decide) N6 gb 65536 (hb hby at_40)
  obtain ⟨T8, l8, X8, N8, A8, -, t8⟩ := putI (rest := [.ref b]) (Ls := #[.val (.int x0), .val (.int sel), .val (.int off), .unset, .unset, .unset, .unset]) X7 hx hZ A7 (j := 7) (i := 7) (by decide) (by decide) (by decide) N7 gb 131070 (hb hby at_46)
  obtain ⟨T9, l9, X9, N9, A9, -, t9⟩ := putI (rest := [.ref b]) (Ls := #[.val (.int x0), .val (.int sel), .val (.int off), .unset, .unset, .unset, .unset]) X8 hx hZ A8 (j := 8) (i := 8) (by decide) (by decide) (by decide) N8 gb 917502 (hb hby at_52)
  obtain ⟨T10, l10, X10, N10, A10, -, t10⟩ := putI (rest := [.ref b]) (Ls := #[.val (.int x0), .val (.int sel), .val (.int off), .unset, .unset, .unset, .unset]) X9 hx hZ A9 (j := 9) (i := 9) (by decide) (by decide) (by decide) N9 gb 917504 (hb hby at_58)
  obtain ⟨T11, l11, X11, N11, A11, -, t11⟩ := putI (rest := [.ref b]) (Ls := #[.val (.int x0), .val (.int sel), .val (.int off), .unset, .unset, .unset, .unset]) X10 hx hZ A10 (j := 10) (i := 10) (by decide) (by decide) (by decide) N10 gb 921600 (hb hby at_64)
  obtain ⟨T12, l12, X12, N12, A12, -, t12⟩ := putI (rest := [.ref b]) (Ls := #[.val (.int x0), .val (.int sel), .val (.int off), .unset, .unset, .unset, .unset]) X11 hx hZ A11 (j := 11) (i := 11) (by decide) (by decide) (by decide) N11 gb 983038 (hb hby at_70)
  obtain ⟨T13, l13, X13, N13, A13, -, t13⟩ := putI (rest := [.ref b]) (Ls := #[.val (.int x0), .val (.int sel), .val (.int off), .unset, .unset, .unset, .unset]) X12 hx hZ A12 (j := 12) (i := 12) (by decide) (by decide) (by decide) N12 gb 983040 (hb hby at_76)
  obtain ⟨T14, l14, X14, N14, A14, -, t14⟩ := putI (rest := [.ref b]) (Ls := #[.val (.int x0), .val (.int sel), .val (.int off), .unset, .unset, .unset, .unset]) X13 hx hZ A13 (j := 13) (i := 13) (by decide) (by decide) (by decide) N13 gb 1114112 (hb hby at_82)
  obtain ⟨T15, l15, X15, N15, A15, -, t15⟩ := putI (rest := [.ref b]) (Ls := #[.val (.int x0), .val (.int sel), .val (.int off), .unset, .unset, .unset, .unset]) X14 hx hZ A14 (j := 14) (i := 14) (by decide) (by decide) (by decide) N14 gb 0 (hb hby at_87)
  obtain ⟨T16, l16, X16, N16, A16, -, t16⟩ := putI (rest := [.ref b]) (Ls := #[.val (.int x0), .val (.int sel), .val (.int off), .unset, .unset, .unset, .unset]) X15 hx hZ A15 (j := 15) (i := 15) (by decide) (by decide) (by decide) N15 gb (-2147483644) (hb hby at_93)
  obtain ⟨T17, l17, X17, N17, A17, -, t17⟩ := putI (rest := [.ref b]) (Ls := #[.val (.int x0), .val (.int sel), .val (.int off), .unset, .unset, .unset, .unset]) X16 hx hZ A16 (j := 16) (i := 16) (by decide) (by decide) (by decide) N16 gb 2147483644 (hb hby at_99)
  obtain ⟨k, hk, hik⟩ := own_ib sel
  generalize hG : (oupd _ _ _ : Nat → Int32) = G at A17
  obtain ⟨ev, hev⟩ : ∃ ev, ev = G k := ⟨_, rfl⟩
  have mid : ∀ t, Steps p.tables e below (T17.setTop (mkF m 214 #[.val (.int x0), .val (.int sel), .val (.int off), .val (.ref b), .val (.int (sel &&& 3)), .val (.int (oushr sel 2 &&& 31)), .val (.int (own_c x0 sel off ev))] [.int (own_c x0 sel off ev)])) t → Steps p.tables e below (T17.setTop (mkF m 100 #[.val (.int x0), .val (.int sel), .val (.int off), .unset, .unset, .unset, .unset] [.ref b])) t := by
    intro t kt
    by_cases hs : sel &&& 3 = 1
    · refine sego X17 hx hby hown hI hJ (wr_1 x0 sel off b hs) _ ?_
      refine lenA X17 hx hZ A17 (hb hby at_136) _ ?_
      refine sego X17 hx hby hown hI hJ (wr_2 x0 sel off b) _ ?_
      refine getI X17 hx hZ A17 (idx32 hik).1 (idx32 hik).2 hk (hb hby at_138) _ ?_
      rw [← hev]
      exact sego X17 hx hby hown hI hJ (wr_3 x0 sel off ev b hs) _ kt
    · exact sego X17 hx hby hown hI hJ (wr_0 x0 sel off ev b hs) _ kt
  obtain ⟨cc, hcc⟩ : ∃ cc, cc = own_c x0 sel off ev := ⟨_, rfl⟩
  rw [← hcc] at mid
  obtain ⟨TB, XB, eB, tB⟩ := callPure X17 hx hZ hown (y := (⟨"com/example/varuna/varuna/Uri", "isUcschar", "(I)Z"⟩ : MethodName)) (hw _ (List.mem_of_getElem? (i := 16) rfl)) (hw _ (List.mem_of_getElem? (i := 17) rfl)) (hw _ (List.mem_of_getElem? (i := 18) rfl)) (hw _ (List.mem_of_getElem? (i := 19) rfl)) (by decide) rfl (argsL := [.int cc]) (rest := [])
    (pureN (t := .boolean) (by simp) pn_1 hw (ci := ci1) (cj := cj1) (by decide +kernel) (by decide +kernel) (fun m => ef_1 m cc) rfl (own_naru cc) (wp_1 cc)) (W := 0) (by decide) (by decide) (by decide) (by decide) (pc := 214) (Ls := #[.val (.int x0), .val (.int sel), .val (.int off), .val (.ref b), .val (.int (sel &&& 3)), .val (.int (oushr sel 2 &&& 31)), .val (.int (cc))]) (by rw [hml]; rfl) (lenOf pd_1 rfl) rfl (by decide) (hb hby at_214)
  obtain ⟨TC, XC, eC, tC⟩ := callPure XB hx hZ hown (y := (⟨"com/example/varuna/varuna/UriIsUcscharPinLaw", "ref", "(I)Z"⟩ : MethodName)) (hw _ (List.mem_of_getElem? (i := 21) rfl)) (hw _ (List.mem_of_getElem? (i := 22) rfl)) (hw _ (List.mem_of_getElem? (i := 23) rfl)) (hw _ (List.mem_of_getElem? (i := 24) rfl)) (by decide) rfl (argsL := [.int cc]) (rest := [.int (own_u cc)])
    (pureN (t := .boolean) (by simp) pn_2 hw (ci := ci2) (cj := cj2) (by decide +kernel) (by decide +kernel) (fun m => ef_2 m cc) rfl (own_narr cc) (wp_2 cc)) (W := 1) (by decide) (by decide) (by decide) (by decide) (pc := 219) (Ls := #[.val (.int x0), .val (.int sel), .val (.int off), .val (.ref b), .val (.int (sel &&& 3)), .val (.int (oushr sel 2 &&& 31)), .val (.int (cc))]) (by rw [hml]; rfl) (lenOf pd_2 rfl) rfl (by show 1 + 0 ≤ 1; decide) (hb hby at_219)
  obtain ⟨fs, hr, hrun, hended, hW, hsame⟩ := XC.leave (v := some (.int (1 : Int32))) (fun h => by rw [Bd.returns] at h; cases h)
  refine ⟨_, _, castTop (ef_0 m x0 sel off) ?_, hrun, hended, _, _, rfl, ⟨rfl, N17⟩, ⟨_, rfl⟩, hW, hsame.mono (by decide) (by decide)⟩
  refine sego X0 hx hby hown hI hJ (wq_0 x0 sel off b) _ ?_
  refine tA _ ?_
  refine sego XA hx hby hown hI hJ (wq_1 x0 sel off b) _ ?_
  refine t1 _ ?_
  refine sego X1 hx hby hown hI hJ (wq_2 x0 sel off b) _ ?_
  refine t2 _ ?_
  refine sego X2 hx hby hown hI hJ (wq_3 x0 sel off b) _ ?_
  refine t3 _ ?_
  refine sego X3 hx hby hown hI hJ (wq_4 x0 sel off b) _ ?_
  refine t4 _ ?_
  refine sego X4 hx hby hown hI hJ (wq_5 x0 sel off b) _ ?_
  refine t5 _ ?_
  refine sego X5 hx hby hown hI hJ (wq_6 x0 sel off b) _ ?_
  refine t6 _ ?_
  refine sego X6 hx hby hown hI hJ (wq_7 x0 sel off b) _ ?_
  refine t7 _ ?_
  refine sego X7 hx hby hown hI hJ (wq_8 x0 sel off b) _ ?_
  refine t8 _ ?_
  refine sego X8 hx hby hown hI hJ (wq_9 x0 sel off b) _ ?_
  refine t9 _ ?_
  refine sego X9 hx hby hown hI hJ (wq_10 x0 sel off b) _ ?_
  refine t10 _ ?_
  refine sego X10 hx hby hown hI hJ (wq_11 x0 sel off b) _ ?_
  refine t11 _ ?_
  refine sego X11 hx hby hown hI hJ (wq_12 x0 sel off b) _ ?_
  refine t12 _ ?_
  refine sego X12 hx hby hown hI hJ (wq_13 x0 sel off b) _ ?_
  refine t13 _ ?_
  refine sego X13 hx hby hown hI hJ (wq_14 x0 sel off b) _ ?_
  refine t14 _ ?_
  refine sego X14 hx hby hown hI hJ (wq_15 x0 sel off b) _ ?_
  refine t15 _ ?_
  refine sego X15 hx hby hown hI hJ (wq_16 x0 sel off b) _ ?_
  refine t16 _ ?_
  refine sego X16 hx hby hown hI hJ (wq_17 x0 sel off b) _ ?_
  refine t17 _ ?_
  refine mid _ ?_
  refine tB _ ?_
  refine sego XB hx hby hown hI hJ (wr_4 x0 sel off cc (own_u cc) _ _ _) _ ?_
  refine tC _ ?_
  rw [← own_law cc]
  exact endN XC hx hby hown hI hJ (wr_5 x0 sel off cc (own_u cc) _ _ _) Bd.returns (by simp) hr
set_option maxRecDepth 65536 in
set_option maxHeartbeats 40000000 in
theorem comes_1 {Post : Tables → Env → Array Value → State → Outcome → State → Prop} (hpost : ∀ tb e args s v u, (limb_1_1.after args s (.returned v) u = true ∧ limb_1_2.after args s (.returned v) u = true ∧ True) → FrameEnd s (.returned v) u (Jvm.fieldLocs frame_1_writes args s ++ Jvm.arrayLocs frame_1_arrays args s ++ Jvm.staticLocs frame_1_statics s) 16 128 → Post tb e args s (.returned v) u) :
    ArmFor flags0 classFile x code maxLocals ret World_1 tables_1 room_1 Calls_1 rest_1 Pre_1 Post := by
  intro l hfl _ _ p e ha hc hk s m args below hf hA hF happ hP
  obtain ⟨hcalls, hrest, hpre⟩ := hP
  obtain ⟨-, -, -, hnamed, -, -, -, hat⟩ := (Spec.applies_iff hf).mp happ
  obtain ⟨hg, hn⟩ := and_e (Cond.before_iff.mp (show (Jvm.Cond.and given_1 narrow_1).before args s = true from hpre))
  obtain ⟨c0, g0⟩ := and_e hg
  obtain ⟨k0, g1⟩ := and_e g0
  obtain ⟨k1, g2⟩ := and_e g1
  obtain ⟨w0, w1, w2, rfl⟩ : ∃ w0 w1 w2 : Value, args = #[w0, w1, w2] := by
    have hs : args.size = 3 := by simpa [Cond.value, given_1] using c0
    obtain ⟨L⟩ := args
    match L, hs with
    | [w0, w1, w2], _ => exact ⟨w0, w1, w2, rfl⟩
  have hw := fun d (hd : d ∈ tables_1) => atoms_spec (ws := Jvm.Cond.code x code maxLocals ret :: tables_1) hat d (List.mem_cons_of_mem _ hd)
  obtain ⟨i0, ei0⟩ := is_v k0
  obtain rfl : w0 = (.int i0) := Option.some.inj ei0
  obtain ⟨i1, ei1⟩ := is_v k1
  obtain rfl : w1 = (.int i1) := Option.some.inj ei1
  obtain ⟨i2, ei2⟩ := is_v g2
  obtain rfl : w2 = (.int i2) := Option.some.inj ei2
  obtain ⟨n, o, h1, h2, h3, _, L, rfl, ⟨rfl, N⟩, hq⟩ := rm0 l s _ hw tables_1 i0 i1 i2 s.heap s.heap.size (Nat.le_refl _) p e ha hc hk s m _ below hf ((Spec.applies_iff_loose hf).mp happ).1 ⟨rfl, State.Warmed39.refl s, rfl⟩ trivial
  refine ⟨n, _, h1, h2, h3, hpost _ _ _ _ _ _ ⟨Cond.after_iff.mpr rfl, Cond.after_iff.mpr (eq_i res_at (Term.int_eval (1)) rfl), trivial⟩ ⟨hq.1, hq.2.1, (hq.2.2.sift fun y hy => Or.inr (N y hy)).mono (by decide) (by decide)⟩⟩
theorem main_1_1 : Claimed_1_1 := comes_1 fun _ _ _ _ _ _ h hF => ⟨h.1, hF⟩
theorem main_1_2 : Claimed_1_2 := comes_1 fun _ _ _ _ _ _ h hF => ⟨h.2.1, hF⟩

end Jvm.Pilot.@@N@@
namespace Jvm.Pilot.@@N@@
open Jvm Jvm.ClassFile Sem Op Lib Jvm.Free Jvm.Stand Jvm.Pilot.@@N@@.Jvm.D
/-! MADE BY PROGRAM (witnessworld.py) out of the Statement's table words and the real class files: 9 classes; the members and pool entries that the words name. The judged class is class 1, her method 1. -/
namespace start1
open Jvm.ClassFile
def u (s : String) : CpInfo := .utf8 (stringToUtf16 s)
/-- a pool by its gaps: so many unusable entries, then the entry; so many at the end -/
def gap : Nat → List CpInfo → List CpInfo
  | 0, r => r
  | n + 1, r => .unusable :: gap n r
def poolList (es : List (Nat × CpInfo)) (last : Nat) : List CpInfo := es.foldr (fun e r => gap e.1 (e.2 :: r)) (gap last [])
def pool (es : List (Nat × CpInfo)) (last : Nat) : Array CpInfo := ⟨poolList es last⟩
def fileOf (pool : Array CpInfo) (this : Nat) (attrs : Array Attribute := #[]) (ms : Array MethodInfo := #[]) (fl : Nat := 33) (sup : Nat := 0) (ifs : Array Nat := #[]) (fds : Array FieldInfo := #[]) : ClassFile where
  minorVersion := 0
  majorVersion := 65
  constantPool := pool
  accessFlags := fl
  thisClass := this
  superClass := sup
  interfaces := ifs
  fields := fds
  methods := ms
  attributes := attrs
def plain (name : String) (sup : Option ClassId) : Class where
  name := name
  kind := .ordinary
  loader := none
  accessFlags := 33
  super := sup
  interfaces := #[]
  cf := none
  fields := #[]
  methods := #[]
  instanceTypes := #[]
  staticTypes := #[]
  resolved := #[]
  callSites := []
  init := .initialized
  statics := none
  mirror := none

def pool0 : Array CpInfo := pool [(5, u "<init>"), (0, u "()V"), (1, .class_ 10), (1, u "java/lang/Object")] 113

def k0m0 : Method := { name := "<init>", desc := "()V", sig := { parameters := [], returnType := none }, accessFlags := 1, code := none }
/-- java/lang/Object -/
def k0 : Class := { plain "java/lang/Object" none with
  accessFlags := 33
  interfaces := #[]
  cf := some (fileOf pool0 8 #[] #[{ accessFlags := 1, nameIndex := 5, descriptorIndex := 6, attributes := #[] }] 33 0 #[] #[])
  fields := #[]
  methods := #[k0m0]
  instanceTypes := #[]
  staticTypes := #[]
  resolved := Array.replicate 124 none
  statics := none }

def pool1 : Array CpInfo := pool [(2, .class_ 4), (1, u "java/lang/Object"), (0, u "<init>"), (0, u "()V"), (0, .integer 55296), (0, .integer 63744), (0, .integer 64976), (0, .integer 65008), (0, .integer 65520), (0, .integer 65536), (0, .integer 131070), (0, .integer 917502), (0, .integer 917504), (0, .integer 921600), (0, .integer 983038), (0, .integer 983040), (0, .integer 1114112), (2, .integer 2147483652), (0, .integer 2147483644), (0, .integer 65528), (0, .integer 65535), (0, .methodref 27 28), (0, .class_ 29), (0, .nameAndType 30 31), (0, u "com/example/varuna/varuna/Uri"), (0, u "isUcschar"), (0, u "(I)Z"), (0, .methodref 33 34), (0, .class_ 35), (0, .nameAndType 36 31), (0, u "com/example/varuna/varuna/UriIsUcscharPinLaw"), (0, u "ref"), (0, .integer 55295), (0, .integer 64975), (0, .integer 65519), (0, .integer 65533), (2, u "law"), (0, u "(III)Z")] 5

def k1m0 : Method := { name := "<init>", desc := "()V", sig := { parameters := [], returnType := none }, accessFlags := 1, code := none }
def k1c1 : Code := { maxStack := 4, maxLocals := 7, code := code, exceptionTable := #[], attributes := #[] }
def k1m1 : Method := { name := "law", desc := "(III)Z", sig := { parameters := [.int, .int, .int], returnType := some .boolean }, accessFlags := 9, code := some k1c1 }
def k1c2 : Code := { maxStack := 2, maxLocals := 3, code := method_3_code, exceptionTable := #[], attributes := #[] }
def k1m2 : Method := { name := "ref", desc := "(I)Z", sig := { parameters := [.int], returnType := some .boolean }, accessFlags := 10, code := some k1c2 }
/-- com/example/varuna/varuna/UriIsUcscharPinLaw -/
def k1 : Class := { plain "com/example/varuna/varuna/UriIsUcscharPinLaw" (some 0) with
  accessFlags := 49
  interfaces := #[]
  cf := some (fileOf pool1 33 #[] #[{ accessFlags := 1, nameIndex := 5, descriptorIndex := 6, attributes := #[] }, { accessFlags := 9, nameIndex := 43, descriptorIndex := 44, attributes := #[] }, { accessFlags := 10, nameIndex := 36, descriptorIndex := 31, attributes := #[] }] 49 2 #[] #[])
  fields := #[]
  methods := #[k1m0, k1m1, k1m2]
  instanceTypes := #[]
  staticTypes := #[]
  resolved := Array.replicate 50 none
  statics := none }

def pool2 : Array CpInfo := pool [(1, .class_ 2), (0, u "com/example/varuna/varuna/Uri"), (1, .class_ 6), (1, u "java/lang/Object"), (4, u "scheme"), (0, u "Ljava/lang/String;"), (2, u "authority"), (2, u "path"), (2, u "query"), (2, u "fragment"), (42, u "SCHEME"), (0, u "Ljava/util/regex/Pattern;"), (33, .integer 55295), (0, .integer 63744), (0, .integer 64975), (0, .integer 65008), (0, .integer 65519), (0, .integer 65536), (0, .integer 983040), (0, .integer 65535), (0, .integer 65533), (0, .integer 917504), (0, .integer 921600), (21, .class_ 136), (1, u "com/example/varuna/varuna/Uri$Authority"), (116, u "US_ASCII"), (0, u "Ljava/util/function/IntPredicate;"), (33, u "PORT"), (2, u "IP_FUTURE"), (30, u "(I)Z"), (110, u "isUcschar"), (14, u "UNRESERVED_PUNCTUATION"), (1, u "REG_NAME_PUNCTUATION"), (0, u "USERINFO_PUNCTUATION"), (0, u "SEGMENT_PUNCTUATION"), (0, u "PATH_PUNCTUATION"), (0, u "FRAGMENT_PUNCTUATION")] 68

def k2c0 : Code := { maxStack := 2, maxLocals := 1, code := prog_80_method_10_code, exceptionTable := #[], attributes := #[] }
def k2m0 : Method := { name := "isUcschar", desc := "(I)Z", sig := { parameters := [.int], returnType := some .boolean }, accessFlags := 8, code := some k2c0 }
/-- com/example/varuna/varuna/Uri -/
def k2 : Class := { plain "com/example/varuna/varuna/Uri" (some 0) with
  accessFlags := 32
  interfaces := #[]
  cf := some (fileOf pool2 1 #[.nestMembers #[134]] #[{ accessFlags := 8, nameIndex := 433, descriptorIndex := 322, attributes := #[] }] 32 4 #[] #[{ accessFlags := 26, nameIndex := 67, descriptorIndex := 68, attributes := #[] }, { accessFlags := 26, nameIndex := 291, descriptorIndex := 68, attributes := #[] }, { accessFlags := 26, nameIndex := 288, descriptorIndex := 68, attributes := #[] }, { accessFlags := 26, nameIndex := 448, descriptorIndex := 12, attributes := #[] }, { accessFlags := 26, nameIndex := 450, descriptorIndex := 12, attributes := #[] }, { accessFlags := 26, nameIndex := 451, descriptorIndex := 12, attributes := #[] }, { accessFlags := 26, nameIndex := 452, descriptorIndex := 12, attributes := #[] }, { accessFlags := 26, nameIndex := 453, descriptorIndex := 12, attributes := #[] }, { accessFlags := 26, nameIndex := 454, descriptorIndex := 12, attributes := #[] }, { accessFlags := 26, nameIndex := 253, descriptorIndex := 254, attributes := #[] }, { accessFlags := 18, nameIndex := 11, descriptorIndex := 12, attributes := #[] }, { accessFlags := 18, nameIndex := 15, descriptorIndex := 12, attributes := #[] }, { accessFlags := 18, nameIndex := 18, descriptorIndex := 12, attributes := #[] }, { accessFlags := 18, nameIndex := 21, descriptorIndex := 12, attributes := #[] }, { accessFlags := 18, nameIndex := 24, descriptorIndex := 12, attributes := #[] }])
  fields := #[{ name := "SCHEME", type := (.object "java/util/regex/Pattern"), accessFlags := 26, slot := 0, constantValue := 0 }, { name := "IP_FUTURE", type := (.object "java/util/regex/Pattern"), accessFlags := 26, slot := 1, constantValue := 0 }, { name := "PORT", type := (.object "java/util/regex/Pattern"), accessFlags := 26, slot := 2, constantValue := 0 }, { name := "UNRESERVED_PUNCTUATION", type := (.object "java/lang/String"), accessFlags := 26, slot := 3, constantValue := 0 }, { name := "REG_NAME_PUNCTUATION", type := (.object "java/lang/String"), accessFlags := 26, slot := 4, constantValue := 0 }, { name := "USERINFO_PUNCTUATION", type := (.object "java/lang/String"), accessFlags := 26, slot := 5, constantValue := 0 }, { name := "SEGMENT_PUNCTUATION", type := (.object "java/lang/String"), accessFlags := 26, slot := 6, constantValue := 0 }, { name := "PATH_PUNCTUATION", type := (.object "java/lang/String"), accessFlags := 26, slot := 7, constantValue := 0 }, { name := "FRAGMENT_PUNCTUATION", type := (.object "java/lang/String"), accessFlags := 26, slot := 8, constantValue := 0 }, { name := "US_ASCII", type := (.object "java/util/function/IntPredicate"), accessFlags := 26, slot := 9, constantValue := 0 }, { name := "scheme", type := (.object "java/lang/String"), accessFlags := 18, slot := 0, constantValue := 0 }, { name := "authority", type := (.object "java/lang/String"), accessFlags := 18, slot := 1, constantValue := 0 }, { name := "path", type := (.object "java/lang/String"), accessFlags := 18, slot := 2, constantValue := 0 }, { name := "query", type := (.object "java/lang/String"), accessFlags := 18, slot := 3, constantValue := 0 }, { name := "fragment", type := (.object "java/lang/String"), accessFlags := 18, slot := 4, constantValue := 0 }]
  methods := #[k2m0]
  instanceTypes := #[(.object "java/lang/String"), (.object "java/lang/String"), (.object "java/lang/String"), (.object "java/lang/String"), (.object "java/lang/String")]
  staticTypes := #[(.object "java/util/regex/Pattern"), (.object "java/util/regex/Pattern"), (.object "java/util/regex/Pattern"), (.object "java/lang/String"), (.object "java/lang/String"), (.object "java/lang/String"), (.object "java/lang/String"), (.object "java/lang/String"), (.object "java/lang/String"), (.object "java/util/function/IntPredicate")]
  resolved := Array.replicate 523 none
  statics := none }

def pool3 : Array CpInfo := pool [(1, u "java/lang/Cloneable"), (0, .class_ 1), (0, u "java/lang/Object"), (0, .class_ 3)] 3

/-- java/lang/Cloneable -/
def k3 : Class := { plain "java/lang/Cloneable" (some 0) with
  accessFlags := 1537
  interfaces := #[]
  cf := some (fileOf pool3 2 #[] #[] 1537 4 #[] #[])
  fields := #[]
  methods := #[]
  instanceTypes := #[]
  staticTypes := #[]
  resolved := Array.replicate 8 none
  statics := none }

def pool4 : Array CpInfo := pool [(1, u "java/io/Serializable"), (0, .class_ 1), (0, u "java/lang/Object"), (0, .class_ 3)] 3

/-- java/io/Serializable -/
def k4 : Class := { plain "java/io/Serializable" (some 0) with
  accessFlags := 1537
  interfaces := #[]
  cf := some (fileOf pool4 2 #[] #[] 1537 4 #[] #[])
  fields := #[]
  methods := #[]
  instanceTypes := #[]
  staticTypes := #[]
  resolved := Array.replicate 8 none
  statics := none }

/-- the primitive byte -/
def k5 : Class := { plain "byte" none with kind := .primitive 'B', accessFlags := 0x411 }
/-- [B -/
def k6 : Class := { plain "[B" (some 0) with kind := .array 5 .byte, interfaces := #[3, 4], accessFlags := 1041 }

/-- the primitive int -/
def k7 : Class := { plain "int" none with kind := .primitive 'I', accessFlags := 0x411 }
/-- [I -/
def k8 : Class := { plain "[I" (some 0) with kind := .array 7 .int, interfaces := #[3, 4], accessFlags := 1041 }

def heap : Heap := #[]
def classes : Array Class := #[k0, k1, k2, k3, k4, k5, k6, k7, k8]
def interned : List (Array UInt16 × Addr) := []
def slotsUsed : Nat := 0
def theMethod : MethodId := ⟨1, 1⟩
def args0 : Array Value := #[.int 5, .int 6, .int 7]
def aboutOver (below : List Frame) : State where
  vm := { classes := classes, interned := interned.toArray }
  heap := heap
  slotsUsed := slotsUsed
  threads := #[{ frames := .invoking theMethod args0 :: below }]
def below0 : List Frame := [.native { method := ⟨0, 0⟩, args := #[] }]
def about1 : State := aboutOver below0
def p0 : Program := .bare "" "" ""
def e0 : Env := launch0.env 0 0 0
theorem w_frames : about1.frames = Frame.invoking theMethod args0 :: below0 := rfl
set_option maxRecDepth 65536 in
theorem w_args : argsFit about1.vm theMethod args0 = true := by decide +kernel
set_option maxRecDepth 65536 in
theorem w_heap : heapFits about1 = true := by decide +kernel
set_option maxRecDepth 65536 in
theorem w_runnable : about1.curStatus? = some .runnable := by decide +kernel
set_option maxRecDepth 65536 in
theorem w_alone : about1.alone = true := by decide +kernel
set_option maxRecDepth 65536 in
theorem w_named : about1.methodNamed? x = some theMethod := by decide +kernel
set_option maxRecDepth 65536 in
theorem w_hears : about1.hears theMethod below0 = true := by decide +kernel
set_option maxRecDepth 65536 in
theorem w_ripe : about1.ripe theMethod args0 below0 = true := by decide +kernel
theorem w_running : about1.status = .running := rfl
set_option maxRecDepth 65536 in
theorem w_room : about1.hasRoom e0.platform room_1 = true :=
  launch0.hasRoom_least _ room_1 (by decide +kernel) (by decide +kernel) (by decide +kernel) (by decide +kernel) (by decide +kernel) (by decide +kernel)
theorem allAtoms_all (ts : List Jvm.Cond) (a : Array Jvm.Value) (st : Jvm.State) : (allAtoms ts).before a st = ts.all (fun c => c.before a st) := by
  induction ts with
  | nil => rfl
  | cons c t ih =>
    show (Jvm.Cond.and c (allAtoms t)).before a st = _
    rw [Jvm.Cond.before_and, ih, List.all_cons]
def words1 : List Jvm.Cond := Jvm.Cond.code x code maxLocals ret :: tables_1
/-- a 'code' word, met by the world's own term for the bytes: nothing is compared byte by byte -/
theorem code_word {y : MethodName} {bytes : ByteArray} {mx : Nat} {rt : Option FieldType} {a : Array Value} {s : State} {m : MethodId} {meth : Method} {c : Code} (h1 : s.methodNamed? y = some m) (h2 : s.vm.method? m = some meth) (h3 : meth.code = some c) (h4 : c.code = bytes)
    (h5 : (c.maxLocals == mx && c.exceptionTable.isEmpty && decide (c.maxStack ≤ mostOperands) && decide (meth.sig.returnType = rt) && !meth.locks && decide (parseMethodDescriptor y.desc = some meth.sig)) = true) : (Jvm.Cond.code y bytes mx rt).before a s = true := by
  simp only [Bool.and_eq_true, beq_iff_eq, Bool.not_eq_true', decide_eq_true_eq] at h5
  obtain ⟨⟨⟨⟨⟨g1, g2⟩, g3⟩, g4⟩, g5⟩, g6⟩ := h5
  simp [Cond.before, Cond.holds, Cond.value, h1, h2, h3, h4, g1, g2, g3, g4, g5, g6]
def isCode : Jvm.Cond → Bool
  | .code _ _ _ _ => true
  | _ => false
theorem all_split {L : List Jvm.Cond} {P : Jvm.Cond → Bool} (h1 : L.all (fun c => isCode c || P c) = true) (h2 : ∀ c ∈ L.filter isCode, P c = true) : L.all P = true := by
  refine List.all_eq_true.mpr fun c hc => ?_
  have h := List.all_eq_true.mp h1 c hc
  rcases Bool.eq_false_or_eq_true (isCode c) with hi | hi
  · exact h2 c (List.mem_filter.mpr ⟨hc, hi⟩)
  · simpa [hi] using h
set_option maxRecDepth 65536 in
theorem w_c0 : (Jvm.Cond.code x code maxLocals ret).before args0 about1 = true := code_word (m := ⟨1, 1⟩) (meth := k1m1) (c := k1c1) (by decide +kernel) rfl rfl rfl (by decide +kernel)
set_option maxRecDepth 65536 in
theorem w_c1 : (Jvm.Cond.code ({ cls := "com/example/varuna/varuna/Uri", name := "isUcschar", desc := "(I)Z" } : Jvm.MethodName) prog_80_method_10_code (1 : Nat) (Option.some Jvm.ClassFile.FieldType.boolean)).before args0 about1 = true := code_word (m := ⟨2, 0⟩) (meth := k2m0) (c := k2c0) (by decide +kernel) rfl rfl rfl (by decide +kernel)
set_option maxRecDepth 65536 in
theorem w_c2 : (Jvm.Cond.code ({ cls := "com/example/varuna/varuna/UriIsUcscharPinLaw", name := "ref", desc := "(I)Z" } : Jvm.MethodName) method_3_code (3 : Nat) (Option.some Jvm.ClassFile.FieldType.boolean)).before args0 about1 = true := code_word (m := ⟨1, 2⟩) (meth := k1m2) (c := k1c2) (by decide +kernel) rfl rfl rfl (by decide +kernel)
def codes1 : List Jvm.Cond := [Jvm.Cond.code x code maxLocals ret, Jvm.Cond.code ({ cls := "com/example/varuna/varuna/Uri", name := "isUcschar", desc := "(I)Z" } : Jvm.MethodName) prog_80_method_10_code (1 : Nat) (Option.some Jvm.ClassFile.FieldType.boolean), Jvm.Cond.code ({ cls := "com/example/varuna/varuna/UriIsUcscharPinLaw", name := "ref", desc := "(I)Z" } : Jvm.MethodName) method_3_code (3 : Nat) (Option.some Jvm.ClassFile.FieldType.boolean)]
set_option maxRecDepth 65536 in
theorem codes_eq : words1.filter isCode = codes1 := rfl
theorem w_codes : ∀ c ∈ words1.filter isCode, c.before args0 about1 = true := by
  rw [codes_eq]
  intro c hc
  simp only [codes1, List.mem_cons, List.not_mem_nil, or_false] at hc
  rcases hc with rfl | rfl | rfl
  · exact w_c0
  · exact w_c1
  · exact w_c2
set_option maxRecDepth 65536 in
theorem w_t1 : (words1.take 24).all (fun c => isCode c || c.before args0 about1) = true := by decide +kernel
set_option maxRecDepth 65536 in
theorem w_t2 : (words1.drop 24).all (fun c => isCode c || c.before args0 about1) = true := by decide +kernel
theorem w_tables : (allAtoms (Jvm.Cond.code x code maxLocals ret :: tables_1)).before args0 about1 = true := by
  rw [allAtoms_all]
  show words1.all (fun c => c.before args0 about1) = true
  refine all_split ?_ w_codes
  rw [← List.take_append_drop 24 words1, List.all_append, w_t1, w_t2]
  rfl
set_option maxRecDepth 65536 in
theorem w_case : (Jvm.Cond.and given_1 narrow_1).before args0 about1 = true := by decide +kernel
theorem w_applies : (headSpec (Jvm.Cond.code x code maxLocals ret :: tables_1) room_1).applies x e0.platform about1 = true :=
  (Spec.applies_iff w_frames).mpr ⟨w_running, w_runnable, w_alone, w_named, w_hears, w_ripe, w_room, w_tables⟩
theorem atStart : AtStart classFile x code maxLocals ret World_1 tables_1 room_1 Calls_1 rest_1 Pre_1 launch0 p0 e0 about1 theMethod args0 below0 :=
  ⟨lists_1, trivial, launch0.admits_env _ _ _, launch0.least_env, fairChoices_fair.cas, fairChoices_fair.clock, w_frames, w_args, w_heap, w_applies, trivial, trivial, w_case⟩
end start1
theorem witness_1 : WitnessClaimed_1 := ⟨start1.p0, start1.e0, start1.about1, start1.theMethod, start1.args0, start1.below0, start1.atStart⟩
end Jvm.Pilot.@@N@@
