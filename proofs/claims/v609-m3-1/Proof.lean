import JvmDerived
import JvmDerived.Pilot.@@N@@Statement
import JvmDerived.Pilot.@@N@@Code
set_option linter.unusedVariables false
set_option linter.unusedSimpArgs false
@@BLOCK:NumsL.lean.txt@@
namespace Jvm.RoadKit
open Sem ClassFile Op Lib Jvm.Stand Jvm.Free Jvm.LawKit
section New
variable {p : Program} {l : Launch} {e : Env} {R : Room} {s : State} {m : MethodId} {args : Array Value} {below : List Frame} {meth : Method} {c : Code} {T : State} {locs : List Loc} {cells slots : Nat}
theorem retI (X : Stand p l e R s m args below meth c T locs cells slots) (hx : p.tables.exec = Jvm.exec) {pc : Nat} {Ls : Array Slot} {z : Int32} {rest : List Value} (hret : meth.sig.returnType = some .int) (hd : decode c.code pc = .ok (.ireturn, 1)) {fs : List Frame}
    (hl : ∀ (f : JFrame) (acts : List Action), f.method = m → f.locked = none → f.entered = [] → (doReturn e (T.setTop f) acts (some (.int z))).1 = T.setFrames fs) : Steps p.tables e below (T.setTop (mkF m pc Ls (.int z :: rest))) (T.setFrames fs) := by
  have hm' : T.vm.method? m = some meth := X.method'
  have hn : narrow .int (.int z) = .int z := rfl
  show Steps p.tables e below (T.setTop { method := m, pc := pc, locals := Ls, stack := _ :: rest, locked := none }) _
  jvm_step X.here [X.here.top, hx, hd, hm', hret, hn]
  first | (intro acts; rw [hl _ acts rfl rfl rfl]) | rw [hl _ _ rfl rfl rfl]
  exact Steps.refl _
end New
end Jvm.RoadKit
/-! OwnRun: plain steps by evaluation. 'wpo' runs the plain instructions (loads, stores of locals, arithmetic, branches) of a body as a word on what it reaches; 'runo' says that the machine follows. -/
namespace Jvm.OwnRun
open Sem ClassFile Op Lib Jvm.Stand Jvm.Free Jvm.LawKit Jvm.RoadKit
def lget : List Slot → Nat → Option Slot
  | [], _ => none
  | a :: _, 0 => some a
  | _ :: t, n + 1 => lget t n
def lput : List Slot → Nat → Slot → List Slot
  | [], _, _ => []
  | _ :: t, 0, v => v :: t
  | a :: t, n + 1, v => a :: lput t n v
theorem lget_z (a : Slot) (t : List Slot) : lget (a :: t) 0 = some a := rfl
theorem lget_s (a : Slot) (t : List Slot) (n : Nat) : lget (a :: t) (n + 1) = lget t n := rfl
theorem lput_z (a : Slot) (t : List Slot) (v : Slot) : lput (a :: t) 0 v = v :: t := rfl
theorem lput_s (a : Slot) (t : List Slot) (n : Nat) (v : Slot) : lput (a :: t) (n + 1) v = a :: lput t n v := rfl
theorem lget_eq : ∀ (L : List Slot) (k : Nat), lget L k = L[k]?
  | [], _ => by simp [lget]
  | _ :: _, 0 => rfl
  | a :: t, n + 1 => by rw [lget_s, lget_eq t n, List.getElem?_cons_succ]
theorem lput_eq : ∀ (L : List Slot) (k : Nat) (v : Slot), lput L k v = L.set k v
  | [], _, _ => by simp [lput]
  | _ :: _, 0, _ => rfl
  | a :: t, n + 1, v => by rw [lput_s, lput_eq t n v, List.set_cons_succ]
theorem arr_get {L : List Slot} {k : Nat} {o : Slot} (h : lget L k = some o) : L.toArray[k]? = some o := by
  rw [lget_eq] at h; simpa using h
theorem arr_put (L : List Slot) (k : Nat) (v : Slot) : L.toArray.setIfInBounds k v = (lput L k v).toArray := by
  rw [lput_eq]; simp
/-- a store of one word, over nothing or over one word -/
def one : Option Slot → Bool
  | some .unset => true
  | some (.val (.int _)) => true
  | some (.val (.ref _)) => true
  | some (.val .null) => true
  | _ => false
def st1 (L : List Slot) (k : Nat) (v : Value) (F : List Slot → α) (d : α) : α := bif one (lget L k) then F (lput L k (.val v)) else d
/-- a store of two words, over nothing or over a long -/
def two : Option Slot → Option Slot → Bool
  | some .unset, some .unset => true
  | some (.val (.long _)), some .second => true
  | _, _ => false
def st2 (L : List Slot) (k : Nat) (v : Int64) (F : List Slot → α) (d : α) : α := bif two (lget L k) (lget L (k + 1)) then F (lput (lput L k (.val (.long v))) (k + 1) .second) else d
theorem one_unset : one (some .unset) = true := rfl
theorem one_int (v : Int32) : one (some (.val (.int v))) = true := rfl
theorem one_ref (v : Addr) : one (some (.val (.ref v))) = true := rfl
theorem two_unset : two (some .unset) (some .unset) = true := rfl
theorem two_long (v : Int64) : two (some (.val (.long v))) (some .second) = true := rfl
theorem one_e {o : Option Slot} (h : one o = true) : ∃ w, o = some w ∧ (w = .unset ∨ ∃ v, w = .val v ∧ v.category = 1) := by
  match o, h with
  | some .unset, _ => exact ⟨_, rfl, Or.inl rfl⟩
  | some (.val (.int v)), _ => exact ⟨_, rfl, Or.inr ⟨_, rfl, rfl⟩⟩
  | some (.val (.ref v)), _ => exact ⟨_, rfl, Or.inr ⟨_, rfl, rfl⟩⟩
  | some (.val .null), _ => exact ⟨_, rfl, Or.inr ⟨_, rfl, rfl⟩⟩
theorem store_one {L : List Slot} {k : Nat} {v : Value} (h : one (lget L k) = true) (hv : v.category = 1) : storeLocals L.toArray k v = some (lput L k (.val v)).toArray := by
  obtain ⟨w, hw, ho⟩ := one_e h
  rw [XS.store1 (arr_get hw) ho hv, arr_put]
theorem store_two {L : List Slot} {k : Nat} {v : Int64} (h : two (lget L k) (lget L (k + 1)) = true) : storeLocals L.toArray k (.long v) = some (lput (lput L k (.val (.long v))) (k + 1) .second).toArray := by
  match h0 : lget L k, h1 : lget L (k + 1), h with
  | some .unset, some .unset, _ => rw [Fl.storeLocals_cat2 (arr_get h0) (arr_get h1) rfl (Or.inl ⟨trivial, trivial⟩), arr_put, arr_put]
  | some (.val (.long w)), some .second, _ => rw [Fl.storeLocals_cat2 (arr_get h0) (arr_get h1) rfl (Or.inr ⟨⟨_, rfl, rfl⟩, rfl⟩), arr_put, arr_put]
/-- Java's x >>> y on ints and longs -/
def oushr (x y : Int32) : Int32 := (x.toUInt32 >>> (y &&& 31).toUInt32).toInt32
def oushrL (x : Int64) (y : Int32) : Int64 := (x.toUInt64 >>> (y &&& 0x3f).toInt64.toUInt64).toInt64
def oshlL (x : Int64) (y : Int32) : Int64 := x <<< (y &&& 0x3f).toInt64
def oshl (x y : Int32) : Int32 := x <<< (y &&& 31)
def oshr (x y : Int32) : Int32 := x >>> (y &&& 31)
/-- what a comparison asks -/
def cnd : ClassFile.Cond → Int32 → Int32 → Prop
  | .eq, x, y => x = y
  | .ne, x, y => ¬ x = y
  | .lt, x, y => x < y
  | .ge, x, y => ¬ x < y
  | .gt, x, y => y < x
  | .le, x, y => ¬ y < x
def cndL : ClassFile.Cond → Int64 → Int64 → Prop
  | .eq, x, y => x = y
  | .ne, x, y => ¬ x = y
  | .lt, x, y => x < y
  | .ge, x, y => ¬ x < y
  | .gt, x, y => y < x
  | .le, x, y => ¬ y < x
theorem cnd_t {cd : ClassFile.Cond} {x y : Int32} (h : cnd cd x y) : if_icmp.holds cd x y = true := by
  cases cd
  · exact (teq h).1
  · exact (feq h).2
  · exact (tlt h).1
  · exact (flt h).2.1
  · exact (tlt h).2.2.1
  · exact (flt h).2.2.2
theorem cnd_f {cd : ClassFile.Cond} {x y : Int32} (h : ¬ cnd cd x y) : if_icmp.holds cd x y = false := by
  cases cd
  · exact (feq h).1
  · exact (teq (Decidable.of_not_not h)).2
  · exact (flt h).1
  · exact (tlt (Decidable.of_not_not h)).2.1
  · exact (flt h).2.2.1
  · exact (tlt (Decidable.of_not_not h)).2.2.2
theorem cndL_t {cd : ClassFile.Cond} {x y : Int64} (h : cndL cd x y) : ifCond.holds cd (XT.cmpL x y) = true := by
  cases cd
  · exact XT.ll_eq_t h
  · exact XT.ll_ne_t h
  · exact XT.ll_lt_t h
  · exact XT.ll_ge_t h
  · exact XT.ll_gt_t h
  · exact XT.ll_le_t h
theorem cndL_f {cd : ClassFile.Cond} {x y : Int64} (h : ¬ cndL cd x y) : ifCond.holds cd (XT.cmpL x y) = false := by
  cases cd
  · exact XT.ll_eq_f h
  · exact XT.ll_ne_f (Decidable.of_not_not h)
  · exact XT.ll_lt_f h
  · exact XT.ll_ge_f (Decidable.of_not_not h)
  · exact XT.ll_gt_f h
  · exact XT.ll_le_f (Decidable.of_not_not h)
/-- where one step leads: on, under a condition; or two ways -/
abbrev Rs := Option (Sum (Prop × Nat × List Slot × List Value) (Prop × Nat × Nat × List Slot × List Value))
def go (pc : Nat) (L : List Slot) (st : List Value) : Rs := some (.inl (True, pc, L, st))
def goIf (ob : Prop) (pc : Nat) (L : List Slot) (st : List Value) : Rs := some (.inl (ob, pc, L, st))
def fork (c : Prop) (a b : Nat) (L : List Slot) (st : List Value) : Rs := some (.inr (c, a, b, L, st))
def chk (a b : Nat) (r : Rs) : Rs := bif a == b then r else none
def tgt (pc : Nat) (o : Int) : Nat := ((pc : Int) + o).toNat
def okO (pc : Nat) (o : Int) (r : Rs) : Rs := if 0 ≤ (pc : Int) + o then r else none
def gI (o : Option Slot) (F : Int32 → Rs) : Rs := match o with | some (.val (.int v)) => F v | _ => none
def gJ (o : Option Slot) (F : Int64 → Rs) : Rs := match o with | some (.val (.long v)) => F v | _ => none
def gA (o : Option Slot) (F : Value → Rs) : Rs := match o with | some (.val (.ref v)) => F (.ref v) | some (.val .null) => F .null | _ => none
def pI (st : List Value) (F : Int32 → List Value → Rs) : Rs := match st with | .int x :: r => F x r | _ => none
def pJ (st : List Value) (F : Int64 → List Value → Rs) : Rs := match st with | .long x :: r => F x r | _ => none
def pA (st : List Value) (F : Value → List Value → Rs) : Rs := match st with | .ref x :: r => F (.ref x) r | .null :: r => F .null r | _ => none
def p1 (st : List Value) (F : Value → List Value → Rs) : Rs := match st with | .ref x :: r => F (.ref x) r | .null :: r => F .null r | .int x :: r => F (.int x) r | _ => none
def pII (st : List Value) (F : Int32 → Int32 → List Value → Rs) : Rs := match st with | .int y :: .int x :: r => F x y r | _ => none
def pJJ (st : List Value) (F : Int64 → Int64 → List Value → Rs) : Rs := match st with | .long y :: .long x :: r => F x y r | _ => none
def pJI (st : List Value) (F : Int64 → Int32 → List Value → Rs) : Rs := match st with | .int y :: .long x :: r => F x y r | _ => none
def fnd : List (Nat × α) → Nat → Option α
  | [], _ => none
  | q :: t, k => bif q.1 == k then some q.2 else fnd t k
def gC (o : Option α) (F : α → Rs) : Rs := match o with | some v => F v | none => none
def gB (d : Except ClassFile.DecodeError (Instr × Nat)) (F : ClassFile.Cond → Int → Rs) : Rs := match d with | .ok (.ifCond cd o, 3) => F cd o | _ => none
def nx (code : ByteArray) (ci : List (Nat × Int32)) (cj : List (Nat × Int64)) (i : Instr) (len pc : Nat) (L : List Slot) (st : List Value) : Rs :=
  match i with
  | .iload k => chk len 2 (gI (lget L k) fun v => go (pc + 2) L (.int v :: st))
  | .iload_n k => chk len 1 (gI (lget L k.val) fun v => go (pc + 1) L (.int v :: st))
  | .lload k => chk len 2 (gJ (lget L k) fun v => go (pc + 2) L (.long v :: st))
  | .lload_n k => chk len 1 (gJ (lget L k.val) fun v => go (pc + 1) L (.long v :: st))
  | .aload k => chk len 2 (gA (lget L k) fun v => go (pc + 2) L (v :: st))
  | .aload_n k => chk len 1 (gA (lget L k.val) fun v => go (pc + 1) L (v :: st))
  | .istore k => chk len 2 (pI st fun x r => st1 L k (.int x) (fun L' => go (pc + 2) L' r) none)
  | .istore_n k => chk len 1 (pI st fun x r => st1 L k.val (.int x) (fun L' => go (pc + 1) L' r) none)
  | .lstore k => chk len 2 (pJ st fun x r => st2 L k x (fun L' => go (pc + 2) L' r) none)
  | .lstore_n k => chk len 1 (pJ st fun x r => st2 L k.val x (fun L' => go (pc + 1) L' r) none)
  | .astore k => chk len 2 (pA st fun x r => st1 L k x (fun L' => go (pc + 2) L' r) none)
  | .astore_n k => chk len 1 (pA st fun x r => st1 L k.val x (fun L' => go (pc + 1) L' r) none)
  | .iconst i => chk len 1 (go (pc + 1) L (.int (Int32.ofInt i) :: st))
  | .lconst k => chk len 1 (go (pc + 1) L (.long (Int64.ofNat k) :: st))
  | .bipush i => chk len 2 (go (pc + 2) L (.int (Int8.ofInt i).toInt32 :: st))
  | .sipush i => chk len 3 (go (pc + 3) L (.int (Int16.ofInt i).toInt32 :: st))
  | .ldc k => chk len 2 (gC (fnd ci k) fun v => go (pc + 2) L (.int v :: st))
  | .ldc2_w k => chk len 3 (gC (fnd cj k) fun v => go (pc + 3) L (.long v :: st))
  | .iadd => chk len 1 (pII st fun x y r => go (pc + 1) L (.int (x + y) :: r))
  | .isub => chk len 1 (pII st fun x y r => go (pc + 1) L (.int (x - y) :: r))
  | .imul => chk len 1 (pII st fun x y r => go (pc + 1) L (.int (x * y) :: r))
  | .idiv => chk len 1 (pII st fun x y r => goIf (y ≠ 0) (pc + 1) L (.int (x / y) :: r))
  | .irem => chk len 1 (pII st fun x y r => goIf (y ≠ 0) (pc + 1) L (.int (x - (x / y) * y) :: r))
  | .iand => chk len 1 (pII st fun x y r => go (pc + 1) L (.int (x &&& y) :: r))
  | .ior => chk len 1 (pII st fun x y r => go (pc + 1) L (.int (x ||| y) :: r))
  | .ixor => chk len 1 (pII st fun x y r => go (pc + 1) L (.int (x ^^^ y) :: r))
  | .ishl => chk len 1 (pII st fun x y r => go (pc + 1) L (.int (oshl x y) :: r))
  | .ishr => chk len 1 (pII st fun x y r => go (pc + 1) L (.int (oshr x y) :: r))
  | .iushr => chk len 1 (pII st fun x y r => go (pc + 1) L (.int (oushr x y) :: r))
  | .ladd => chk len 1 (pJJ st fun x y r => go (pc + 1) L (.long (x + y) :: r))
  | .lsub => chk len 1 (pJJ st fun x y r => go (pc + 1) L (.long (x - y) :: r))
  | .lmul => chk len 1 (pJJ st fun x y r => go (pc + 1) L (.long (x * y) :: r))
  | .ldiv => chk len 1 (pJJ st fun x y r => goIf (y ≠ 0) (pc + 1) L (.long (x / y) :: r))
  | .lrem => chk len 1 (pJJ st fun x y r => goIf (y ≠ 0) (pc + 1) L (.long (x - (x / y) * y) :: r))
  | .land => chk len 1 (pJJ st fun x y r => go (pc + 1) L (.long (x &&& y) :: r))
  | .lor => chk len 1 (pJJ st fun x y r => go (pc + 1) L (.long (x ||| y) :: r))
  | .lxor => chk len 1 (pJJ st fun x y r => go (pc + 1) L (.long (x ^^^ y) :: r))
  | .lshl => chk len 1 (pJI st fun x y r => go (pc + 1) L (.long (oshlL x y) :: r))
  | .lushr => chk len 1 (pJI st fun x y r => go (pc + 1) L (.long (oushrL x y) :: r))
  | .i2l => chk len 1 (pI st fun x r => go (pc + 1) L (.long x.toInt64 :: r))
  | .l2i => chk len 1 (pJ st fun x r => go (pc + 1) L (.int x.toInt32 :: r))
  | .i2b => chk len 1 (pI st fun x r => go (pc + 1) L (.int x.toInt8.toInt32 :: r))
  | .i2c => chk len 1 (pI st fun x r => go (pc + 1) L (.int x.toUInt32.toUInt16.toUInt32.toInt32 :: r))
  | .iinc k cst => chk len 3 (gI (lget L k) fun x => st1 L k (.int (x + Int32.ofInt cst)) (fun L' => go (pc + 3) L' st) none)
  | .goto o => chk len 3 (okO pc o (go (tgt pc o) L st))
  | .ifCond cd o => chk len 3 (okO pc o (pI st fun x r => fork (cnd cd x 0) (tgt pc o) (pc + 3) L r))
  | .if_icmp cd o => chk len 3 (okO pc o (pII st fun x y r => fork (cnd cd x y) (tgt pc o) (pc + 3) L r))
  | .lcmp => chk len 1 (pJJ st fun x y r => gB (decode code (pc + 1)) fun cd o => okO (pc + 1) o (fork (cndL cd x y) (tgt (pc + 1) o) (pc + 4) L r))
  | .dup => chk len 1 (p1 st fun x r => go (pc + 1) L (x :: x :: r))
  | .pop => chk len 1 (p1 st fun _ r => go (pc + 1) L r)
  | _ => none
def nxt (code : ByteArray) (ci : List (Nat × Int32)) (cj : List (Nat × Int64)) (pc : Nat) (L : List Slot) (st : List Value) : Rs :=
  match decode code pc with
  | .ok r => nx code ci cj r.1 r.2 pc L st
  | .error _ => none
def stopAt : List Nat → Nat → Prop → Prop → Prop
  | [], _, _, B => B
  | k :: t, pc, A, B => bif k == pc then A else stopAt t pc A B
def wpo (code : ByteArray) (ci : List (Nat × Int32)) (cj : List (Nat × Int64)) (stops : List Nat) : Nat → Nat → List Slot → List Value → (Nat → List Slot → List Value → Prop) → Prop
  | 0, pc, L, st, K => K pc L st
  | n + 1, pc, L, st, K =>
    match nxt code ci cj pc L st with
    | none => K pc L st
    | some (.inl (ob, a, L', st')) => ob ∧ stopAt stops a (K a L' st') (wpo code ci cj stops n a L' st' K)
    | some (.inr (c, a, b, L', st')) => (c → stopAt stops a (K a L' st') (wpo code ci cj stops n a L' st' K)) ∧ (¬ c → stopAt stops b (K b L' st') (wpo code ci cj stops n b L' st' K))
/-! what a step's answer means -/
def Snd (P : Nat → List Slot → List Value → Prop) (pc : Nat) (L : List Slot) (st : List Value) : Rs → Prop
  | none => True
  | some (.inl (ob, a, L', st')) => ob → P a L' st' → P pc L st
  | some (.inr (c, a, b, L', st')) => (c → P a L' st' → P pc L st) ∧ (¬ c → P b L' st' → P pc L st)
section
variable {P : Nat → List Slot → List Value → Prop} {pc : Nat} {L : List Slot} {st : List Value}
theorem s_chk {a b : Nat} {r : Rs} (h : a = b → Snd P pc L st r) : Snd P pc L st (chk a b r) := by
  unfold chk
  cases e : (a == b)
  · exact trivial
  · exact h (eq_of_beq e)
theorem s_okO {o : Int} {q : Nat} {r : Rs} (h : 0 ≤ (q : Int) + o → Snd P pc L st r) : Snd P pc L st (okO q o r) := by
  unfold okO
  by_cases e : 0 ≤ (q : Int) + o
  · rw [if_pos e]; exact h e
  · rw [if_neg e]; exact trivial
theorem s_gI {o : Option Slot} {F : Int32 → Rs} (h : ∀ v, o = some (.val (.int v)) → Snd P pc L st (F v)) : Snd P pc L st (gI o F) := by
  unfold gI; split
  · exact h _ rfl
  · exact trivial
theorem s_gJ {o : Option Slot} {F : Int64 → Rs} (h : ∀ v, o = some (.val (.long v)) → Snd P pc L st (F v)) : Snd P pc L st (gJ o F) := by
  unfold gJ; split
  · exact h _ rfl
  · exact trivial
theorem s_gA {o : Option Slot} {F : Value → Rs} (h : ∀ v, o = some (.val v) → v.isRef = true → Snd P pc L st (F v)) : Snd P pc L st (gA o F) := by
  unfold gA; split
  · exact h _ rfl rfl
  · exact h _ rfl rfl
  · exact trivial
theorem s_pI {F : Int32 → List Value → Rs} (h : ∀ x r, st = .int x :: r → Snd P pc L st (F x r)) : Snd P pc L st (pI st F) := by
  unfold pI; split
  · exact h _ _ rfl
  · exact trivial
theorem s_pJ {F : Int64 → List Value → Rs} (h : ∀ x r, st = .long x :: r → Snd P pc L st (F x r)) : Snd P pc L st (pJ st F) := by
  unfold pJ; split
  · exact h _ _ rfl
  · exact trivial
theorem s_pA {F : Value → List Value → Rs} (h : ∀ x r, st = x :: r → x.isRef = true → x.category = 1 → Snd P pc L st (F x r)) : Snd P pc L st (pA st F) := by
  unfold pA; split
  · exact h _ _ rfl rfl rfl
  · exact h _ _ rfl rfl rfl
  · exact trivial
theorem s_p1 {F : Value → List Value → Rs} (h : ∀ x r, st = x :: r → x.category = 1 → Snd P pc L st (F x r)) : Snd P pc L st (p1 st F) := by
  unfold p1; split
  · exact h _ _ rfl rfl
  · exact h _ _ rfl rfl
  · exact h _ _ rfl rfl
  · exact trivial
theorem s_pII {F : Int32 → Int32 → List Value → Rs} (h : ∀ x y r, st = .int y :: .int x :: r → Snd P pc L st (F x y r)) : Snd P pc L st (pII st F) := by
  unfold pII; split
  · exact h _ _ _ rfl
  · exact trivial
theorem s_pJJ {F : Int64 → Int64 → List Value → Rs} (h : ∀ x y r, st = .long y :: .long x :: r → Snd P pc L st (F x y r)) : Snd P pc L st (pJJ st F) := by
  unfold pJJ; split
  · exact h _ _ _ rfl
  · exact trivial
theorem s_pJI {F : Int64 → Int32 → List Value → Rs} (h : ∀ x y r, st = .int y :: .long x :: r → Snd P pc L st (F x y r)) : Snd P pc L st (pJI st F) := by
  unfold pJI; split
  · exact h _ _ _ rfl
  · exact trivial
theorem s_st1 {L0 : List Slot} {k : Nat} {v : Value} {F : List Slot → Rs} (hv : v.category = 1) (h : ∀ L', storeLocals L0.toArray k v = some L'.toArray → Snd P pc L st (F L')) : Snd P pc L st (st1 L0 k v F none) := by
  unfold st1
  cases e : one (lget L0 k)
  · exact trivial
  · exact h _ (store_one e hv)
theorem s_st2 {L0 : List Slot} {k : Nat} {v : Int64} {F : List Slot → Rs} (h : ∀ L', storeLocals L0.toArray k (.long v) = some L'.toArray → Snd P pc L st (F L')) : Snd P pc L st (st2 L0 k v F none) := by
  unfold st2
  cases e : two (lget L0 k) (lget L0 (k + 1))
  · exact trivial
  · exact h _ (store_two e)
theorem s_gC {o : Option α} {F : α → Rs} (h : ∀ v, o = some v → Snd P pc L st (F v)) : Snd P pc L st (gC o F) := by
  unfold gC; split
  · exact h _ rfl
  · exact trivial
theorem s_gB {d : Except ClassFile.DecodeError (Instr × Nat)} {F : ClassFile.Cond → Int → Rs} (h : ∀ cd o, d = .ok (.ifCond cd o, 3) → Snd P pc L st (F cd o)) : Snd P pc L st (gB d F) := by
  unfold gB; split
  · exact h _ _ rfl
  · exact trivial
end
theorem fnd_mem : ∀ {l : List (Nat × α)} {k : Nat} {v : α}, fnd l k = some v → (k, v) ∈ l
  | [], _, _, h => nomatch h
  | (j, w) :: t, k, v, h => by
    unfold fnd at h
    cases e : (j == k)
    · rw [e] at h; exact List.mem_cons_of_mem _ (fnd_mem h)
    · rw [e] at h
      cases Option.some.inj h
      cases eq_of_beq e
      exact List.mem_cons_self ..
section
variable {p : Program} {l : Launch} {e : Env} {R : Room} {s : State} {m : MethodId} {args : Array Value} {below : List Frame} {meth : Method} {c : Code} {T : State} {locs : List Loc} {cells slots : Nat} {code : ByteArray} {ci : List (Nat × Int32)} {cj : List (Nat × Int64)} {own : String}
theorem nx_ok (X : Stand p l e R s m args below meth c T locs cells slots) (hx : p.tables.exec = Jvm.exec) (hby : c.code = code) (hown : s.vm.findClass own = some m.cls) (hci : ∀ q ∈ ci, (Jvm.Cond.constant own q.1 q.2).before args s = true) (hcj : ∀ q ∈ cj, (Jvm.Cond.constantLong own q.1 q.2).before args s = true)
    (target : State) (i : Instr) (len pc : Nat) (L : List Slot) (st : List Value) (hd : decode c.code pc = .ok (i, len)) :
    Snd (fun pc L st => Steps p.tables e below (T.setTop (mkF m pc L.toArray st)) target) pc L st (nx code ci cj i len pc L st) := by
  cases i
  case iload k => exact s_chk fun q => s_gI fun v hv => fun _ h => XS.iload X.here hx rfl (q ▸ hd) (arr_get hv) h
  case iload_n k => exact s_chk fun q => s_gI fun v hv => fun _ h => XS.iloadN X.here hx rfl (q ▸ hd) (arr_get hv) h
  case lload k => exact s_chk fun q => s_gJ fun v hv => fun _ h => XS.lload X.here hx rfl (q ▸ hd) (arr_get hv) h
  case lload_n k => exact s_chk fun q => s_gJ fun v hv => fun _ h => XS.lloadN X.here hx rfl (q ▸ hd) (arr_get hv) h
  case aload k => exact s_chk fun q => s_gA fun v hv hr => fun _ h => XS.aload X.here hx rfl (q ▸ hd) (arr_get hv) hr h
  case aload_n k => exact s_chk fun q => s_gA fun v hv hr => fun _ h => XS.aloadN X.here hx rfl (q ▸ hd) (arr_get hv) hr h
  case istore k => exact s_chk fun q => s_pI fun x r hs => s_st1 rfl fun L' hl => fun _ h => XS.istore X.here hx rfl (q ▸ hd) hs hl h
  case istore_n k => exact s_chk fun q => s_pI fun x r hs => s_st1 rfl fun L' hl => fun _ h => XS.istoreN X.here hx rfl (q ▸ hd) hs hl h
  case lstore k => exact s_chk fun q => s_pJ fun x r hs => s_st2 fun L' hl => fun _ h => XS.lstore X.here hx rfl (q ▸ hd) hs hl h
  case lstore_n k => exact s_chk fun q => s_pJ fun x r hs => s_st2 fun L' hl => fun _ h => XS.lstoreN X.here hx rfl (q ▸ hd) hs hl h
  case astore k => exact s_chk fun q => s_pA fun x r hs hr hc => s_st1 hc fun L' hl => fun _ h => XS.astore X.here hx rfl (q ▸ hd) hs hr hl h
  case astore_n k => exact s_chk fun q => s_pA fun x r hs hr hc => s_st1 hc fun L' hl => fun _ h => XS.astoreN X.here hx rfl (q ▸ hd) hs hr hl h
  case iconst i => exact s_chk fun q => fun _ h => XS.iconst X.here hx rfl (q ▸ hd) h
  case lconst k => exact s_chk fun q => fun _ h => XS.lconst X.here hx rfl (q ▸ hd) h
  case bipush i => exact s_chk fun q => fun _ h => XS.bipush X.here hx rfl (q ▸ hd) h
  case sipush i => exact s_chk fun q => fun _ h => XS.sipush X.here hx rfl (q ▸ hd) h
  case ldc k => exact s_chk fun q => s_gC fun v hv => fun _ h => X.ldcI hx hown (hci _ (fnd_mem hv)) rfl (q ▸ hd) h
  case ldc2_w k => exact s_chk fun q => s_gC fun v hv => fun _ h => X.ldc2J hx hown (hcj _ (fnd_mem hv)) rfl (q ▸ hd) h
  case iadd => exact s_chk fun q => s_pII fun x y r hs => fun _ h => XS.iadd X.here hx rfl (q ▸ hd) hs h
  case isub => exact s_chk fun q => s_pII fun x y r hs => fun _ h => XS.isub X.here hx rfl (q ▸ hd) hs h
  case imul => exact s_chk fun q => s_pII fun x y r hs => fun _ h => XS.imul X.here hx rfl (q ▸ hd) hs h
  case idiv => exact s_chk fun q => s_pII fun x y r hs => fun hy h => XS.idiv X.here hx rfl (q ▸ hd) hs hy h
  case irem => exact s_chk fun q => s_pII fun x y r hs => fun hy h => XS.irem X.here hx rfl (q ▸ hd) hs hy h
  case iand => exact s_chk fun q => s_pII fun x y r hs => fun _ h => XS.iand X.here hx rfl (q ▸ hd) hs h
  case ior => exact s_chk fun q => s_pII fun x y r hs => fun _ h => XS.ior X.here hx rfl (q ▸ hd) hs h
  case ixor => exact s_chk fun q => s_pII fun x y r hs => fun _ h => XS.ixor X.here hx rfl (q ▸ hd) hs h
  case ishl => exact s_chk fun q => s_pII fun x y r hs => fun _ h => XS.ishl X.here hx rfl (q ▸ hd) hs h
  case ishr => exact s_chk fun q => s_pII fun x y r hs => fun _ h => XS.ishr X.here hx rfl (q ▸ hd) hs h
  case iushr => exact s_chk fun q => s_pII fun x y r hs => fun _ h => XS.iushr X.here hx rfl (q ▸ hd) hs h
  case ladd => exact s_chk fun q => s_pJJ fun x y r hs => fun _ h => XS.ladd X.here hx rfl (q ▸ hd) hs h
  case lsub => exact s_chk fun q => s_pJJ fun x y r hs => fun _ h => XS.lsub X.here hx rfl (q ▸ hd) hs h
  case lmul => exact s_chk fun q => s_pJJ fun x y r hs => fun _ h => XS.lmul X.here hx rfl (q ▸ hd) hs h
  case ldiv => exact s_chk fun q => s_pJJ fun x y r hs => fun hy h => XS.ldiv X.here hx rfl (q ▸ hd) hs hy h
  case lrem => exact s_chk fun q => s_pJJ fun x y r hs => fun hy h => XS.lrem X.here hx rfl (q ▸ hd) hs hy h
  case land => exact s_chk fun q => s_pJJ fun x y r hs => fun _ h => XS.land X.here hx rfl (q ▸ hd) hs h
  case lor => exact s_chk fun q => s_pJJ fun x y r hs => fun _ h => XS.lor X.here hx rfl (q ▸ hd) hs h
  case lxor => exact s_chk fun q => s_pJJ fun x y r hs => fun _ h => XS.lxor X.here hx rfl (q ▸ hd) hs h
  case lshl => exact s_chk fun q => s_pJI fun x y r hs => fun _ h => XS.lshl X.here hx rfl (q ▸ hd) hs h
  case lushr => exact s_chk fun q => s_pJI fun x y r hs => fun _ h => XS.lushr X.here hx rfl (q ▸ hd) hs h
  case i2l => exact s_chk fun q => s_pI fun x r hs => fun _ h => XS.i2l X.here hx rfl (q ▸ hd) hs h
  case l2i => exact s_chk fun q => s_pJ fun x r hs => fun _ h => XS.l2i X.here hx rfl (q ▸ hd) hs h
  case i2b => exact s_chk fun q => s_pI fun x r hs => fun _ h => XS.i2b X.here hx rfl (q ▸ hd) hs h
  case i2c => exact s_chk fun q => s_pI fun x r hs => fun _ h => XS.i2c X.here hx rfl (q ▸ hd) hs h
  case iinc k cst => exact s_chk fun q => s_gI fun x hv => s_st1 rfl fun L' hl => fun _ h => XS.iinc X.here hx rfl (q ▸ hd) (arr_get hv) hl h
  case goto o => exact s_chk fun q => s_okO fun ho => fun _ h => XS.goto X.here hx rfl (pc0 := pc) rfl (q ▸ hd) ho rfl h
  case ifCond cd o => exact s_chk fun q => s_okO fun ho => s_pI fun x r hs => ⟨fun hc h => XS.ifYes X.here hx rfl (pc0 := pc) rfl (q ▸ hd) hs ((if0 _ _).trans (cnd_t hc)) ho rfl h, fun hc h => XS.ifNo X.here hx rfl (q ▸ hd) hs ((if0 _ _).trans (cnd_f hc)) h⟩
  case if_icmp cd o => exact s_chk fun q => s_okO fun ho => s_pII fun x y r hs => ⟨fun hc h => XS.icmpYes X.here hx rfl (pc0 := pc) rfl (q ▸ hd) hs (cnd_t hc) ho rfl h, fun hc h => XS.icmpNo X.here hx rfl (q ▸ hd) hs (cnd_f hc) h⟩
  case lcmp => exact s_chk fun q => s_pJJ fun x y r hs => s_gB fun cd o hd2 => s_okO fun ho => ⟨fun hc h => XS.lcmp X.here hx rfl (q ▸ hd) hs (XS.ifYes (g := mkF m (pc + 1) L.toArray (.int (XT.cmpL x y) :: r)) X.here hx rfl (pc0 := pc + 1) rfl (hby ▸ hd2) rfl (cndL_t hc) ho rfl h), fun hc h => XS.lcmp X.here hx rfl (q ▸ hd) hs (XS.ifNo (g := mkF m (pc + 1) L.toArray (.int (XT.cmpL x y) :: r)) X.here hx rfl (hby ▸ hd2) rfl (cndL_f hc) h)⟩
  case dup => exact s_chk fun q => s_p1 fun x r hs hc => fun _ h => XS.dup X.here hx rfl (q ▸ hd) hs hc h
  case pop => exact s_chk fun q => s_p1 fun x r hs hc => fun _ h => XS.pop X.here hx rfl (q ▸ hd) hs hc h
  all_goals exact trivial
theorem stop_ok {P : Prop} : ∀ {stops : List Nat} {pc : Nat} {A B : Prop}, (A → P) → (B → P) → stopAt stops pc A B → P
  | [], _, _, _, _, hB, h => hB h
  | k :: t, pc, A, B, hA, hB, h => by
    unfold stopAt at h
    cases q : (k == pc)
    · rw [q] at h; exact stop_ok hA hB h
    · rw [q] at h; exact hA h
theorem runo (X : Stand p l e R s m args below meth c T locs cells slots) (hx : p.tables.exec = Jvm.exec) (hby : c.code = code) (hown : s.vm.findClass own = some m.cls) (hci : ∀ q ∈ ci, (Jvm.Cond.constant own q.1 q.2).before args s = true) (hcj : ∀ q ∈ cj, (Jvm.Cond.constantLong own q.1 q.2).before args s = true)
    {stops : List Nat} (target : State) {K : Nat → List Slot → List Value → Prop} (hK : ∀ pc L st, K pc L st → Steps p.tables e below (T.setTop (mkF m pc L.toArray st)) target) :
    ∀ (n pc : Nat) (L : List Slot) (st : List Value), wpo code ci cj stops n pc L st K → Steps p.tables e below (T.setTop (mkF m pc L.toArray st)) target
  | 0, pc, L, st, h => hK pc L st h
  | n + 1, pc, L, st, h => by
    have ih := runo X hx hby hown hci hcj (stops := stops) target hK n
    unfold wpo at h
    cases hd : decode code pc with
    | error er =>
      have q : nxt code ci cj pc L st = none := by unfold nxt; rw [hd]
      rw [q] at h
      exact hK _ _ _ h
    | ok r =>
      obtain ⟨i, len⟩ := r
      have q : nxt code ci cj pc L st = nx code ci cj i len pc L st := by unfold nxt; rw [hd]
      rw [q] at h
      have hs := nx_ok X hx hby hown hci hcj target i len pc L st (hby ▸ hd)
      match hr : nx code ci cj i len pc L st, h, hs with
      | none, h, _ => exact hK _ _ _ h
      | some (.inl (ob, a, L', st')), h, hs => exact hs h.1 (stop_ok (hK _ _ _) (ih _ _ _) h.2)
      | some (.inr (cc, a, b, L', st')), h, hs =>
        by_cases hc : cc
        · exact hs.1 hc (stop_ok (hK _ _ _) (ih _ _ _) (h.1 hc))
        · exact hs.2 hc (stop_ok (hK _ _ _) (ih _ _ _) (h.2 hc))
/-- a stretch of plain steps with one end -/
theorem sego (X : Stand p l e R s m args below meth c T locs cells slots) (hx : p.tables.exec = Jvm.exec) (hby : c.code = code) (hown : s.vm.findClass own = some m.cls) (hci : ∀ q ∈ ci, (Jvm.Cond.constant own q.1 q.2).before args s = true) (hcj : ∀ q ∈ cj, (Jvm.Cond.constantLong own q.1 q.2).before args s = true)
    {stops : List Nat} {n pc pc' : Nat} {L L' : List Slot} {st st' : List Value} (h : wpo code ci cj stops n pc L st (fun a M u => a = pc' ∧ M = L' ∧ u = st')) (target : State) (hr : Steps p.tables e below (T.setTop (mkF m pc' L'.toArray st')) target) : Steps p.tables e below (T.setTop (mkF m pc L.toArray st)) target :=
  runo X hx hby hown hci hcj target (fun a M u q => by obtain ⟨rfl, rfl, rfl⟩ := q; exact hr) n pc L st h
/-- plain steps up to the return of an int, a narrow one, a long -/
theorem endI (X : Stand p l e R s m args below meth c T locs cells slots) (hx : p.tables.exec = Jvm.exec) (hby : c.code = code) (hown : s.vm.findClass own = some m.cls) (hci : ∀ q ∈ ci, (Jvm.Cond.constant own q.1 q.2).before args s = true) (hcj : ∀ q ∈ cj, (Jvm.Cond.constantLong own q.1 q.2).before args s = true)
    {stops : List Nat} {n pc : Nat} {L : List Slot} {st : List Value} {z : Int32} (h : wpo code ci cj stops n pc L st (fun a _ u => decode code a = .ok (.ireturn, 1) ∧ u = [.int z])) (hret : meth.sig.returnType = some .int) {fs : List Frame}
    (hl : ∀ (f : JFrame) (acts : List Action), f.method = m → f.locked = none → f.entered = [] → (doReturn e (T.setTop f) acts (some (.int z))).1 = T.setFrames fs) : Steps p.tables e below (T.setTop (mkF m pc L.toArray st)) (T.setFrames fs) :=
  runo X hx hby hown hci hcj _ (fun a M u q => by obtain ⟨q1, rfl⟩ := q; exact retI X hx hret (hb hby q1) hl) n pc L st h
theorem endN (X : Stand p l e R s m args below meth c T locs cells slots) (hx : p.tables.exec = Jvm.exec) (hby : c.code = code) (hown : s.vm.findClass own = some m.cls) (hci : ∀ q ∈ ci, (Jvm.Cond.constant own q.1 q.2).before args s = true) (hcj : ∀ q ∈ cj, (Jvm.Cond.constantLong own q.1 q.2).before args s = true)
    {stops : List Nat} {n pc : Nat} {L : List Slot} {st : List Value} {z : Int32} {t : FieldType} (h : wpo code ci cj stops n pc L st (fun a _ u => decode code a = .ok (.ireturn, 1) ∧ u = [.int z])) (hret : meth.sig.returnType = some t) (ht : t = .boolean ∨ t = .byte ∨ t = .char ∨ t = .short) {fs : List Frame}
    (hl : ∀ (f : JFrame) (acts : List Action), f.method = m → f.locked = none → f.entered = [] → (doReturn e (T.setTop f) acts (some (.int (nar t z)))).1 = T.setFrames fs) : Steps p.tables e below (T.setTop (mkF m pc L.toArray st)) (T.setFrames fs) :=
  runo X hx hby hown hci hcj _ (fun a M u q => by obtain ⟨q1, rfl⟩ := q; exact retN X hx hret ht (hb hby q1) hl) n pc L st h
theorem endJ (X : Stand p l e R s m args below meth c T locs cells slots) (hx : p.tables.exec = Jvm.exec) (hby : c.code = code) (hown : s.vm.findClass own = some m.cls) (hci : ∀ q ∈ ci, (Jvm.Cond.constant own q.1 q.2).before args s = true) (hcj : ∀ q ∈ cj, (Jvm.Cond.constantLong own q.1 q.2).before args s = true)
    {stops : List Nat} {n pc : Nat} {L : List Slot} {st : List Value} {z : Int64} (h : wpo code ci cj stops n pc L st (fun a _ u => decode code a = .ok (.lreturn, 1) ∧ u = [.long z])) (hret : meth.sig.returnType = some .long) {fs : List Frame}
    (hl : ∀ (f : JFrame) (acts : List Action), f.method = m → f.locked = none → f.entered = [] → (doReturn e (T.setTop f) acts (some (.long z))).1 = T.setFrames fs) : Steps p.tables e below (T.setTop (mkF m pc L.toArray st)) (T.setFrames fs) :=
  runo X hx hby hown hci hcj _ (fun a M u q => by obtain ⟨q1, rfl⟩ := q; exact X.lreturnOut hx hret (hb hby q1) hl) n pc L st h
end
theorem cI {Z s : State} {a0 args : Array Value} {tb : List Jvm.Cond} {own : String} {ci : List (Nat × Int32)} (hZ : Z.Warmed39 s.vm) (hw : ∀ d ∈ tb, d.before a0 Z = true) (h : ∀ q ∈ ci, Jvm.Cond.constant own q.1 q.2 ∈ tb) : ∀ q ∈ ci, (Jvm.Cond.constant own q.1 q.2).before args s = true := fun q hq => mvT hZ (hw _ (h q hq))
theorem cJ {Z s : State} {a0 args : Array Value} {tb : List Jvm.Cond} {own : String} {cj : List (Nat × Int64)} (hZ : Z.Warmed39 s.vm) (hw : ∀ d ∈ tb, d.before a0 Z = true) (h : ∀ q ∈ cj, Jvm.Cond.constantLong own q.1 q.2 ∈ tb) : ∀ q ∈ cj, (Jvm.Cond.constantLong own q.1 q.2).before args s = true := fun q hq => mvT hZ (hw _ (h q hq))
section
theorem n_iload (code : ByteArray) (ci : List (Nat × Int32)) (cj : List (Nat × Int64)) (pc : Nat) (L : List Slot) (st : List Value) (k : Nat) : nx code ci cj (.iload k) 2 pc L st = gI (lget L k) fun v => go (pc + 2) L (.int v :: st) := rfl
theorem n_iload_n (code : ByteArray) (ci : List (Nat × Int32)) (cj : List (Nat × Int64)) (pc : Nat) (L : List Slot) (st : List Value) (k : Fin 4) : nx code ci cj (.iload_n k) 1 pc L st = gI (lget L k.val) fun v => go (pc + 1) L (.int v :: st) := rfl
theorem n_lload (code : ByteArray) (ci : List (Nat × Int32)) (cj : List (Nat × Int64)) (pc : Nat) (L : List Slot) (st : List Value) (k : Nat) : nx code ci cj (.lload k) 2 pc L st = gJ (lget L k) fun v => go (pc + 2) L (.long v :: st) := rfl
theorem n_lload_n (code : ByteArray) (ci : List (Nat × Int32)) (cj : List (Nat × Int64)) (pc : Nat) (L : List Slot) (st : List Value) (k : Fin 4) : nx code ci cj (.lload_n k) 1 pc L st = gJ (lget L k.val) fun v => go (pc + 1) L (.long v :: st) := rfl
theorem n_aload (code : ByteArray) (ci : List (Nat × Int32)) (cj : List (Nat × Int64)) (pc : Nat) (L : List Slot) (st : List Value) (k : Nat) : nx code ci cj (.aload k) 2 pc L st = gA (lget L k) fun v => go (pc + 2) L (v :: st) := rfl
theorem n_aload_n (code : ByteArray) (ci : List (Nat × Int32)) (cj : List (Nat × Int64)) (pc : Nat) (L : List Slot) (st : List Value) (k : Fin 4) : nx code ci cj (.aload_n k) 1 pc L st = gA (lget L k.val) fun v => go (pc + 1) L (v :: st) := rfl
theorem n_istore (code : ByteArray) (ci : List (Nat × Int32)) (cj : List (Nat × Int64)) (pc : Nat) (L : List Slot) (st : List Value) (k : Nat) : nx code ci cj (.istore k) 2 pc L st = pI st fun x r => st1 L k (.int x) (fun L' => go (pc + 2) L' r) none := rfl
theorem n_istore_n (code : ByteArray) (ci : List (Nat × Int32)) (cj : List (Nat × Int64)) (pc : Nat) (L : List Slot) (st : List Value) (k : Fin 4) : nx code ci cj (.istore_n k) 1 pc L st = pI st fun x r => st1 L k.val (.int x) (fun L' => go (pc + 1) L' r) none := rfl
theorem n_lstore (code : ByteArray) (ci : List (Nat × Int32)) (cj : List (Nat × Int64)) (pc : Nat) (L : List Slot) (st : List Value) (k : Nat) : nx code ci cj (.lstore k) 2 pc L st = pJ st fun x r => st2 L k x (fun L' => go (pc + 2) L' r) none := rfl
theorem n_lstore_n (code : ByteArray) (ci : List (Nat × Int32)) (cj : List (Nat × Int64)) (pc : Nat) (L : List Slot) (st : List Value) (k : Fin 4) : nx code ci cj (.lstore_n k) 1 pc L st = pJ st fun x r => st2 L k.val x (fun L' => go (pc + 1) L' r) none := rfl
theorem n_astore (code : ByteArray) (ci : List (Nat × Int32)) (cj : List (Nat × Int64)) (pc : Nat) (L : List Slot) (st : List Value) (k : Nat) : nx code ci cj (.astore k) 2 pc L st = pA st fun x r => st1 L k x (fun L' => go (pc + 2) L' r) none := rfl
theorem n_astore_n (code : ByteArray) (ci : List (Nat × Int32)) (cj : List (Nat × Int64)) (pc : Nat) (L : List Slot) (st : List Value) (k : Fin 4) : nx code ci cj (.astore_n k) 1 pc L st = pA st fun x r => st1 L k.val x (fun L' => go (pc + 1) L' r) none := rfl
theorem n_iconst (code : ByteArray) (ci : List (Nat × Int32)) (cj : List (Nat × Int64)) (pc : Nat) (L : List Slot) (st : List Value) (i : Int) : nx code ci cj (.iconst i) 1 pc L st = go (pc + 1) L (.int (Int32.ofInt i) :: st) := rfl
theorem n_lconst (code : ByteArray) (ci : List (Nat × Int32)) (cj : List (Nat × Int64)) (pc : Nat) (L : List Slot) (st : List Value) (k : Fin 2) : nx code ci cj (.lconst k) 1 pc L st = go (pc + 1) L (.long (Int64.ofNat k) :: st) := rfl
theorem n_bipush (code : ByteArray) (ci : List (Nat × Int32)) (cj : List (Nat × Int64)) (pc : Nat) (L : List Slot) (st : List Value) (i : Int) : nx code ci cj (.bipush i) 2 pc L st = go (pc + 2) L (.int (Int8.ofInt i).toInt32 :: st) := rfl
theorem n_sipush (code : ByteArray) (ci : List (Nat × Int32)) (cj : List (Nat × Int64)) (pc : Nat) (L : List Slot) (st : List Value) (i : Int) : nx code ci cj (.sipush i) 3 pc L st = go (pc + 3) L (.int (Int16.ofInt i).toInt32 :: st) := rfl
theorem n_ldc (code : ByteArray) (ci : List (Nat × Int32)) (cj : List (Nat × Int64)) (pc : Nat) (L : List Slot) (st : List Value) (k : Nat) : nx code ci cj (.ldc k) 2 pc L st = gC (fnd ci k) fun v => go (pc + 2) L (.int v :: st) := rfl
theorem n_ldc2_w (code : ByteArray) (ci : List (Nat × Int32)) (cj : List (Nat × Int64)) (pc : Nat) (L : List Slot) (st : List Value) (k : Nat) : nx code ci cj (.ldc2_w k) 3 pc L st = gC (fnd cj k) fun v => go (pc + 3) L (.long v :: st) := rfl
theorem n_iadd (code : ByteArray) (ci : List (Nat × Int32)) (cj : List (Nat × Int64)) (pc : Nat) (L : List Slot) (st : List Value)  : nx code ci cj (.iadd) 1 pc L st = pII st fun x y r => go (pc + 1) L (.int (x + y) :: r) := rfl
theorem n_isub (code : ByteArray) (ci : List (Nat × Int32)) (cj : List (Nat × Int64)) (pc : Nat) (L : List Slot) (st : List Value)  : nx code ci cj (.isub) 1 pc L st = pII st fun x y r => go (pc + 1) L (.int (x - y) :: r) := rfl
theorem n_imul (code : ByteArray) (ci : List (Nat × Int32)) (cj : List (Nat × Int64)) (pc : Nat) (L : List Slot) (st : List Value)  : nx code ci cj (.imul) 1 pc L st = pII st fun x y r => go (pc + 1) L (.int (x * y) :: r) := rfl
theorem n_idiv (code : ByteArray) (ci : List (Nat × Int32)) (cj : List (Nat × Int64)) (pc : Nat) (L : List Slot) (st : List Value)  : nx code ci cj (.idiv) 1 pc L st = pII st fun x y r => goIf (y ≠ 0) (pc + 1) L (.int (x / y) :: r) := rfl
theorem n_irem (code : ByteArray) (ci : List (Nat × Int32)) (cj : List (Nat × Int64)) (pc : Nat) (L : List Slot) (st : List Value)  : nx code ci cj (.irem) 1 pc L st = pII st fun x y r => goIf (y ≠ 0) (pc + 1) L (.int (x - (x / y) * y) :: r) := rfl
theorem n_iand (code : ByteArray) (ci : List (Nat × Int32)) (cj : List (Nat × Int64)) (pc : Nat) (L : List Slot) (st : List Value)  : nx code ci cj (.iand) 1 pc L st = pII st fun x y r => go (pc + 1) L (.int (x &&& y) :: r) := rfl
theorem n_ior (code : ByteArray) (ci : List (Nat × Int32)) (cj : List (Nat × Int64)) (pc : Nat) (L : List Slot) (st : List Value)  : nx code ci cj (.ior) 1 pc L st = pII st fun x y r => go (pc + 1) L (.int (x ||| y) :: r) := rfl
theorem n_ixor (code : ByteArray) (ci : List (Nat × Int32)) (cj : List (Nat × Int64)) (pc : Nat) (L : List Slot) (st : List Value)  : nx code ci cj (.ixor) 1 pc L st = pII st fun x y r => go (pc + 1) L (.int (x ^^^ y) :: r) := rfl
theorem n_ishl (code : ByteArray) (ci : List (Nat × Int32)) (cj : List (Nat × Int64)) (pc : Nat) (L : List Slot) (st : List Value)  : nx code ci cj (.ishl) 1 pc L st = pII st fun x y r => go (pc + 1) L (.int (oshl x y) :: r) := rfl
theorem n_ishr (code : ByteArray) (ci : List (Nat × Int32)) (cj : List (Nat × Int64)) (pc : Nat) (L : List Slot) (st : List Value)  : nx code ci cj (.ishr) 1 pc L st = pII st fun x y r => go (pc + 1) L (.int (oshr x y) :: r) := rfl
theorem n_iushr (code : ByteArray) (ci : List (Nat × Int32)) (cj : List (Nat × Int64)) (pc : Nat) (L : List Slot) (st : List Value)  : nx code ci cj (.iushr) 1 pc L st = pII st fun x y r => go (pc + 1) L (.int (oushr x y) :: r) := rfl
theorem n_ladd (code : ByteArray) (ci : List (Nat × Int32)) (cj : List (Nat × Int64)) (pc : Nat) (L : List Slot) (st : List Value)  : nx code ci cj (.ladd) 1 pc L st = pJJ st fun x y r => go (pc + 1) L (.long (x + y) :: r) := rfl
theorem n_lsub (code : ByteArray) (ci : List (Nat × Int32)) (cj : List (Nat × Int64)) (pc : Nat) (L : List Slot) (st : List Value)  : nx code ci cj (.lsub) 1 pc L st = pJJ st fun x y r => go (pc + 1) L (.long (x - y) :: r) := rfl
theorem n_lmul (code : ByteArray) (ci : List (Nat × Int32)) (cj : List (Nat × Int64)) (pc : Nat) (L : List Slot) (st : List Value)  : nx code ci cj (.lmul) 1 pc L st = pJJ st fun x y r => go (pc + 1) L (.long (x * y) :: r) := rfl
theorem n_ldiv (code : ByteArray) (ci : List (Nat × Int32)) (cj : List (Nat × Int64)) (pc : Nat) (L : List Slot) (st : List Value)  : nx code ci cj (.ldiv) 1 pc L st = pJJ st fun x y r => goIf (y ≠ 0) (pc + 1) L (.long (x / y) :: r) := rfl
theorem n_lrem (code : ByteArray) (ci : List (Nat × Int32)) (cj : List (Nat × Int64)) (pc : Nat) (L : List Slot) (st : List Value)  : nx code ci cj (.lrem) 1 pc L st = pJJ st fun x y r => goIf (y ≠ 0) (pc + 1) L (.long (x - (x / y) * y) :: r) := rfl
theorem n_land (code : ByteArray) (ci : List (Nat × Int32)) (cj : List (Nat × Int64)) (pc : Nat) (L : List Slot) (st : List Value)  : nx code ci cj (.land) 1 pc L st = pJJ st fun x y r => go (pc + 1) L (.long (x &&& y) :: r) := rfl
theorem n_lor (code : ByteArray) (ci : List (Nat × Int32)) (cj : List (Nat × Int64)) (pc : Nat) (L : List Slot) (st : List Value)  : nx code ci cj (.lor) 1 pc L st = pJJ st fun x y r => go (pc + 1) L (.long (x ||| y) :: r) := rfl
theorem n_lxor (code : ByteArray) (ci : List (Nat × Int32)) (cj : List (Nat × Int64)) (pc : Nat) (L : List Slot) (st : List Value)  : nx code ci cj (.lxor) 1 pc L st = pJJ st fun x y r => go (pc + 1) L (.long (x ^^^ y) :: r) := rfl
theorem n_lshl (code : ByteArray) (ci : List (Nat × Int32)) (cj : List (Nat × Int64)) (pc : Nat) (L : List Slot) (st : List Value)  : nx code ci cj (.lshl) 1 pc L st = pJI st fun x y r => go (pc + 1) L (.long (oshlL x y) :: r) := rfl
theorem n_lushr (code : ByteArray) (ci : List (Nat × Int32)) (cj : List (Nat × Int64)) (pc : Nat) (L : List Slot) (st : List Value)  : nx code ci cj (.lushr) 1 pc L st = pJI st fun x y r => go (pc + 1) L (.long (oushrL x y) :: r) := rfl
theorem n_i2l (code : ByteArray) (ci : List (Nat × Int32)) (cj : List (Nat × Int64)) (pc : Nat) (L : List Slot) (st : List Value)  : nx code ci cj (.i2l) 1 pc L st = pI st fun x r => go (pc + 1) L (.long x.toInt64 :: r) := rfl
theorem n_l2i (code : ByteArray) (ci : List (Nat × Int32)) (cj : List (Nat × Int64)) (pc : Nat) (L : List Slot) (st : List Value)  : nx code ci cj (.l2i) 1 pc L st = pJ st fun x r => go (pc + 1) L (.int x.toInt32 :: r) := rfl
theorem n_i2b (code : ByteArray) (ci : List (Nat × Int32)) (cj : List (Nat × Int64)) (pc : Nat) (L : List Slot) (st : List Value)  : nx code ci cj (.i2b) 1 pc L st = pI st fun x r => go (pc + 1) L (.int x.toInt8.toInt32 :: r) := rfl
theorem n_i2c (code : ByteArray) (ci : List (Nat × Int32)) (cj : List (Nat × Int64)) (pc : Nat) (L : List Slot) (st : List Value)  : nx code ci cj (.i2c) 1 pc L st = pI st fun x r => go (pc + 1) L (.int x.toUInt32.toUInt16.toUInt32.toInt32 :: r) := rfl
theorem n_iinc (code : ByteArray) (ci : List (Nat × Int32)) (cj : List (Nat × Int64)) (pc : Nat) (L : List Slot) (st : List Value) (k : Nat) (cst : Int) : nx code ci cj (.iinc k cst) 3 pc L st = gI (lget L k) fun x => st1 L k (.int (x + Int32.ofInt cst)) (fun L' => go (pc + 3) L' st) none := rfl
theorem n_goto (code : ByteArray) (ci : List (Nat × Int32)) (cj : List (Nat × Int64)) (pc : Nat) (L : List Slot) (st : List Value) (o : Int) : nx code ci cj (.goto o) 3 pc L st = okO pc o (go (tgt pc o) L st) := rfl
theorem n_ifCond (code : ByteArray) (ci : List (Nat × Int32)) (cj : List (Nat × Int64)) (pc : Nat) (L : List Slot) (st : List Value) (cd : ClassFile.Cond) (o : Int) : nx code ci cj (.ifCond cd o) 3 pc L st = okO pc o (pI st fun x r => fork (cnd cd x 0) (tgt pc o) (pc + 3) L r) := rfl
theorem n_if_icmp (code : ByteArray) (ci : List (Nat × Int32)) (cj : List (Nat × Int64)) (pc : Nat) (L : List Slot) (st : List Value) (cd : ClassFile.Cond) (o : Int) : nx code ci cj (.if_icmp cd o) 3 pc L st = okO pc o (pII st fun x y r => fork (cnd cd x y) (tgt pc o) (pc + 3) L r) := rfl
theorem n_lcmp (code : ByteArray) (ci : List (Nat × Int32)) (cj : List (Nat × Int64)) (pc : Nat) (L : List Slot) (st : List Value)  : nx code ci cj (.lcmp) 1 pc L st = pJJ st fun x y r => gB (decode code (pc + 1)) fun cd o => okO (pc + 1) o (fork (cndL cd x y) (tgt (pc + 1) o) (pc + 4) L r) := rfl
theorem n_dup (code : ByteArray) (ci : List (Nat × Int32)) (cj : List (Nat × Int64)) (pc : Nat) (L : List Slot) (st : List Value)  : nx code ci cj (.dup) 1 pc L st = p1 st fun x r => go (pc + 1) L (x :: x :: r) := rfl
theorem n_pop (code : ByteArray) (ci : List (Nat × Int32)) (cj : List (Nat × Int64)) (pc : Nat) (L : List Slot) (st : List Value)  : nx code ci cj (.pop) 1 pc L st = p1 st fun _ r => go (pc + 1) L r := rfl
theorem n_invokestatic (code : ByteArray) (ci : List (Nat × Int32)) (cj : List (Nat × Int64)) (pc : Nat) (L : List Slot) (st : List Value) (k : Nat) (len : Nat) : nx code ci cj (.invokestatic k) len pc L st = none := rfl
theorem n_invokespecial (code : ByteArray) (ci : List (Nat × Int32)) (cj : List (Nat × Int64)) (pc : Nat) (L : List Slot) (st : List Value) (k : Nat) (len : Nat) : nx code ci cj (.invokespecial k) len pc L st = none := rfl
theorem n_invokevirtual (code : ByteArray) (ci : List (Nat × Int32)) (cj : List (Nat × Int64)) (pc : Nat) (L : List Slot) (st : List Value) (k : Nat) (len : Nat) : nx code ci cj (.invokevirtual k) len pc L st = none := rfl
theorem n_new (code : ByteArray) (ci : List (Nat × Int32)) (cj : List (Nat × Int64)) (pc : Nat) (L : List Slot) (st : List Value) (k : Nat) (len : Nat) : nx code ci cj (.new k) len pc L st = none := rfl
theorem n_newarray (code : ByteArray) (ci : List (Nat × Int32)) (cj : List (Nat × Int64)) (pc : Nat) (L : List Slot) (st : List Value) (k : ArrayType) (len : Nat) : nx code ci cj (.newarray k) len pc L st = none := rfl
theorem n_getfield (code : ByteArray) (ci : List (Nat × Int32)) (cj : List (Nat × Int64)) (pc : Nat) (L : List Slot) (st : List Value) (k : Nat) (len : Nat) : nx code ci cj (.getfield k) len pc L st = none := rfl
theorem n_getstatic (code : ByteArray) (ci : List (Nat × Int32)) (cj : List (Nat × Int64)) (pc : Nat) (L : List Slot) (st : List Value) (k : Nat) (len : Nat) : nx code ci cj (.getstatic k) len pc L st = none := rfl
theorem n_putstatic (code : ByteArray) (ci : List (Nat × Int32)) (cj : List (Nat × Int64)) (pc : Nat) (L : List Slot) (st : List Value) (k : Nat) (len : Nat) : nx code ci cj (.putstatic k) len pc L st = none := rfl
theorem n_putfield (code : ByteArray) (ci : List (Nat × Int32)) (cj : List (Nat × Int64)) (pc : Nat) (L : List Slot) (st : List Value) (k : Nat) (len : Nat) : nx code ci cj (.putfield k) len pc L st = none := rfl
theorem n_iaload (code : ByteArray) (ci : List (Nat × Int32)) (cj : List (Nat × Int64)) (pc : Nat) (L : List Slot) (st : List Value)  (len : Nat) : nx code ci cj (.iaload) len pc L st = none := rfl
theorem n_laload (code : ByteArray) (ci : List (Nat × Int32)) (cj : List (Nat × Int64)) (pc : Nat) (L : List Slot) (st : List Value)  (len : Nat) : nx code ci cj (.laload) len pc L st = none := rfl
theorem n_baload (code : ByteArray) (ci : List (Nat × Int32)) (cj : List (Nat × Int64)) (pc : Nat) (L : List Slot) (st : List Value)  (len : Nat) : nx code ci cj (.baload) len pc L st = none := rfl
theorem n_iastore (code : ByteArray) (ci : List (Nat × Int32)) (cj : List (Nat × Int64)) (pc : Nat) (L : List Slot) (st : List Value)  (len : Nat) : nx code ci cj (.iastore) len pc L st = none := rfl
theorem n_lastore (code : ByteArray) (ci : List (Nat × Int32)) (cj : List (Nat × Int64)) (pc : Nat) (L : List Slot) (st : List Value)  (len : Nat) : nx code ci cj (.lastore) len pc L st = none := rfl
theorem n_bastore (code : ByteArray) (ci : List (Nat × Int32)) (cj : List (Nat × Int64)) (pc : Nat) (L : List Slot) (st : List Value)  (len : Nat) : nx code ci cj (.bastore) len pc L st = none := rfl
theorem n_arraylength (code : ByteArray) (ci : List (Nat × Int32)) (cj : List (Nat × Int64)) (pc : Nat) (L : List Slot) (st : List Value)  (len : Nat) : nx code ci cj (.arraylength) len pc L st = none := rfl
theorem n_ireturn (code : ByteArray) (ci : List (Nat × Int32)) (cj : List (Nat × Int64)) (pc : Nat) (L : List Slot) (st : List Value)  (len : Nat) : nx code ci cj (.ireturn) len pc L st = none := rfl
theorem n_lreturn (code : ByteArray) (ci : List (Nat × Int32)) (cj : List (Nat × Int64)) (pc : Nat) (L : List Slot) (st : List Value)  (len : Nat) : nx code ci cj (.lreturn) len pc L st = none := rfl
theorem n_return_ (code : ByteArray) (ci : List (Nat × Int32)) (cj : List (Nat × Int64)) (pc : Nat) (L : List Slot) (st : List Value)  (len : Nat) : nx code ci cj (.return_) len pc L st = none := rfl
end
theorem r_wp0 (code : ByteArray) (ci : List (Nat × Int32)) (cj : List (Nat × Int64)) (stops : List Nat) (pc : Nat) (L : List Slot) (st : List Value) (K : Nat → List Slot → List Value → Prop) : wpo code ci cj stops 0 pc L st K = K pc L st := rfl
theorem r_wpS (code : ByteArray) (ci : List (Nat × Int32)) (cj : List (Nat × Int64)) (stops : List Nat) (n pc : Nat) (L : List Slot) (st : List Value) (K : Nat → List Slot → List Value → Prop) : wpo code ci cj stops (n + 1) pc L st K =
    match nxt code ci cj pc L st with
    | none => K pc L st
    | some (.inl (ob, a, L', st')) => ob ∧ stopAt stops a (K a L' st') (wpo code ci cj stops n a L' st' K)
    | some (.inr (c, a, b, L', st')) => (c → stopAt stops a (K a L' st') (wpo code ci cj stops n a L' st' K)) ∧ (¬ c → stopAt stops b (K b L' st') (wpo code ci cj stops n b L' st' K)) := rfl
theorem r_nxt (code : ByteArray) (ci : List (Nat × Int32)) (cj : List (Nat × Int64)) (pc : Nat) (L : List Slot) (st : List Value) : nxt code ci cj pc L st = match decode code pc with | .ok r => nx code ci cj r.1 r.2 pc L st | .error _ => none := rfl
theorem r_stop0 (pc : Nat) (A B : Prop) : stopAt [] pc A B = B := rfl
theorem r_stopS (k : Nat) (t : List Nat) (pc : Nat) (A B : Prop) : stopAt (k :: t) pc A B = bif k == pc then A else stopAt t pc A B := rfl
theorem r_go (pc : Nat) (L : List Slot) (st : List Value) : go pc L st = some (.inl (True, pc, L, st)) := rfl
theorem r_goIf (ob : Prop) (pc : Nat) (L : List Slot) (st : List Value) : goIf ob pc L st = some (.inl (ob, pc, L, st)) := rfl
theorem r_fork (c : Prop) (a b : Nat) (L : List Slot) (st : List Value) : fork c a b L st = some (.inr (c, a, b, L, st)) := rfl
theorem r_tgt (pc : Nat) (o : Int) : tgt pc o = ((pc : Int) + o).toNat := rfl
theorem r_okO (pc : Nat) (o : Int) (r : Rs) : okO pc o r = if 0 ≤ (pc : Int) + o then r else none := rfl
theorem r_gI (v : Int32) (F : Int32 → Rs) : gI (some (.val (.int v))) F = F v := rfl
theorem r_gJ (v : Int64) (F : Int64 → Rs) : gJ (some (.val (.long v))) F = F v := rfl
theorem r_gA (v : Addr) (F : Value → Rs) : gA (some (.val (.ref v))) F = F (.ref v) := rfl
theorem r_pI (x : Int32) (r : List Value) (F : Int32 → List Value → Rs) : pI (.int x :: r) F = F x r := rfl
theorem r_pJ (x : Int64) (r : List Value) (F : Int64 → List Value → Rs) : pJ (.long x :: r) F = F x r := rfl
theorem r_pA (x : Addr) (r : List Value) (F : Value → List Value → Rs) : pA (.ref x :: r) F = F (.ref x) r := rfl
theorem r_p1r (x : Addr) (r : List Value) (F : Value → List Value → Rs) : p1 (.ref x :: r) F = F (.ref x) r := rfl
theorem r_p1i (x : Int32) (r : List Value) (F : Value → List Value → Rs) : p1 (.int x :: r) F = F (.int x) r := rfl
theorem r_pII (x y : Int32) (r : List Value) (F : Int32 → Int32 → List Value → Rs) : pII (.int y :: .int x :: r) F = F x y r := rfl
theorem r_pJJ (x y : Int64) (r : List Value) (F : Int64 → Int64 → List Value → Rs) : pJJ (.long y :: .long x :: r) F = F x y r := rfl
theorem r_pJI (x : Int64) (y : Int32) (r : List Value) (F : Int64 → Int32 → List Value → Rs) : pJI (.int y :: .long x :: r) F = F x y r := rfl
theorem r_fnd0 (k : Nat) : fnd ([] : List (Nat × α)) k = none := rfl
theorem r_fndS (j : Nat) (v : α) (t : List (Nat × α)) (k : Nat) : fnd ((j, v) :: t) k = bif j == k then some v else fnd t k := rfl
theorem r_gC (v : α) (F : α → Rs) : gC (some v) F = F v := rfl
theorem r_gC0 (F : α → Rs) : gC none F = none := rfl
theorem r_gB (cd : ClassFile.Cond) (o : Int) (F : ClassFile.Cond → Int → Rs) : gB (.ok (.ifCond cd o, 3)) F = F cd o := rfl
theorem r_st1 (L : List Slot) (k : Nat) (v : Value) (F : List Slot → Rs) (d : Rs) : st1 L k v F d = bif one (lget L k) then F (lput L k (.val v)) else d := rfl
theorem r_st2 (L : List Slot) (k : Nat) (v : Int64) (F : List Slot → Rs) (d : Rs) : st2 L k v F d = bif two (lget L k) (lget L (k + 1)) then F (lput (lput L k (.val (.long v))) (k + 1) .second) else d := rfl
theorem r_eq (x y : Int32) : cnd .eq x y = (x = y) := rfl
theorem r_ne (x y : Int32) : cnd .ne x y = (¬ x = y) := rfl
theorem r_lt (x y : Int32) : cnd .lt x y = (x < y) := rfl
theorem r_ge (x y : Int32) : cnd .ge x y = (¬ x < y) := rfl
theorem r_gt (x y : Int32) : cnd .gt x y = (y < x) := rfl
theorem r_le (x y : Int32) : cnd .le x y = (¬ y < x) := rfl
theorem r_eqL (x y : Int64) : cndL .eq x y = (x = y) := rfl
theorem r_neL (x y : Int64) : cndL .ne x y = (¬ x = y) := rfl
theorem r_ltL (x y : Int64) : cndL .lt x y = (x < y) := rfl
theorem r_geL (x y : Int64) : cndL .ge x y = (¬ x < y) := rfl
theorem r_gtL (x y : Int64) : cndL .gt x y = (y < x) := rfl
theorem r_leL (x y : Int64) : cndL .le x y = (¬ y < x) := rfl
theorem r_f0 : ((0 : Fin 4).val) = 0 := rfl
theorem r_f1 : ((1 : Fin 4).val) = 1 := rfl
theorem r_f2 : ((2 : Fin 4).val) = 2 := rfl
theorem r_f3 : ((3 : Fin 4).val) = 3 := rfl
theorem r_im1 : Int32.ofInt (-1) = -1 := rfl
theorem r_i0 : Int32.ofInt 0 = 0 := rfl
theorem r_i1 : Int32.ofInt 1 = 1 := rfl
theorem r_i2 : Int32.ofInt 2 = 2 := rfl
theorem r_i3 : Int32.ofInt 3 = 3 := rfl
theorem r_i4 : Int32.ofInt 4 = 4 := rfl
theorem r_i5 : Int32.ofInt 5 = 5 := rfl
theorem r_i7 : Int32.ofInt 7 = 7 := rfl
theorem r_l0 : Int64.ofNat ((0 : Fin 2).val) = 0 := rfl
theorem r_l1 : Int64.ofNat ((1 : Fin 2).val) = 1 := rfl
/-! contracts of bodies that only reckon, and the call of one -/
section
variable {l : Launch} {Z : State} {a0 : Array Value} {tb : List Jvm.Cond} {y : MethodName} {bytes : ByteArray} {maxL : Nat} {ret : Option FieldType} {ws : List Jvm.Cond} {as' : Array Value} {h0 : Heap} {ci : List (Nat × Int32)} {cj : List (Nat × Int64)} {L0 : List Slot} {stops : List Nat} {n : Nat}
def room0 : Room := { frames := 0, cells := 0, slots := 0, locals := 0 }
def PureQ (V : Value) (h0 : Heap) (v : Option Value) (h : Heap) (L : List Loc) : Prop := v = some V ∧ L = [] ∧ h = h0
abbrev Pays (l : Launch) (Z : State) (y : MethodName) (bytes : ByteArray) (maxL : Nat) (ret : Option FieldType) (ws : List Jvm.Cond) (as' : Array Value) (h0 : Heap) (V : Value) : Prop :=
  MetFree l y (head1 (Jvm.Cond.code y bytes maxL ret :: ws) room0) (fun a U => a = as' ∧ Z.Warmed39 U.vm ∧ U.heap = h0) (fun _ _ _ _ _ => True) (fun _ U o U' => ∃ v L, o = .returned v ∧ PureQ V h0 v U'.heap L ∧ FrameEnd U o U' L room0.cells room0.slots)
theorem pureI (hpn : plainName y.cls = true) (hw : ∀ d ∈ tb, d.before a0 Z = true) (hci : ∀ q ∈ ci, Jvm.Cond.constant y.cls q.1 q.2 ∈ tb) (hcj : ∀ q ∈ cj, Jvm.Cond.constantLong y.cls q.1 q.2 ∈ tb) (hef : ∀ m, entryFrame m as' maxL = mkF m 0 L0.toArray []) (hret : ret = some .int) {z : Int32}
    (h : wpo bytes ci cj stops n 0 L0 [] (fun a _ u => decode bytes a = .ok (.ireturn, 1) ∧ u = [.int z])) : Pays l Z y bytes maxL ret ws as' h0 (.int z) := by
  refine MetFree.of_bodySF (plainFor_of_name hpn) hisR ?_
  intro p e s m args below meth c s₁ Bd hml0 hP hK
  obtain ⟨rfl, hZ, hh⟩ := hP
  have hown : s.vm.findClass y.cls = some m.cls := findClass_of_methodNamed Bd.named
  have X0 : Stand p l e room0 s m args below meth c s₁ [] 0 0 := Stand.of_body Bd
  have e0 : s₁.heap = h0 := by rw [← hh, Bd.state]; rfl
  obtain ⟨fs, hr, hrun, hended, hW, hsame⟩ := X0.leave (v := some (.int z)) (fun h => by rw [Bd.returns, hret] at h; cases h)
  refine ⟨_, _, castTop (hef m) ?_, hrun, hended, _, _, rfl, ?_, ⟨_, rfl⟩, hW, hsame.mono (by decide) (by decide)⟩
  · exact endI X0 Bd.exec Bd.bytes hown (cI hZ hw hci) (cJ hZ hw hcj) h (Bd.returns.trans hret) hr
  · exact ⟨rfl, rfl, e0⟩
theorem pureN {t : FieldType} (ht : t = .boolean ∨ t = .byte ∨ t = .char ∨ t = .short) (hpn : plainName y.cls = true) (hw : ∀ d ∈ tb, d.before a0 Z = true) (hci : ∀ q ∈ ci, Jvm.Cond.constant y.cls q.1 q.2 ∈ tb) (hcj : ∀ q ∈ cj, Jvm.Cond.constantLong y.cls q.1 q.2 ∈ tb) (hef : ∀ m, entryFrame m as' maxL = mkF m 0 L0.toArray []) (hret : ret = some t) {z : Int32} (hz : nar t z = z)
    (h : wpo bytes ci cj stops n 0 L0 [] (fun a _ u => decode bytes a = .ok (.ireturn, 1) ∧ u = [.int z])) : Pays l Z y bytes maxL ret ws as' h0 (.int z) := by
  refine MetFree.of_bodySF (plainFor_of_name hpn) hisR ?_
  intro p e s m args below meth c s₁ Bd hml0 hP hK
  obtain ⟨rfl, hZ, hh⟩ := hP
  have hown : s.vm.findClass y.cls = some m.cls := findClass_of_methodNamed Bd.named
  have X0 : Stand p l e room0 s m args below meth c s₁ [] 0 0 := Stand.of_body Bd
  have e0 : s₁.heap = h0 := by rw [← hh, Bd.state]; rfl
  obtain ⟨fs, hr, hrun, hended, hW, hsame⟩ := X0.leave (v := some (.int z)) (fun h => by rw [Bd.returns, hret] at h; cases h)
  refine ⟨_, _, castTop (hef m) ?_, hrun, hended, _, _, rfl, ?_, ⟨_, rfl⟩, hW, hsame.mono (by decide) (by decide)⟩
  · exact endN X0 Bd.exec Bd.bytes hown (cI hZ hw hci) (cJ hZ hw hcj) h (Bd.returns.trans hret) ht (by rw [hz]; exact hr)
  · exact ⟨rfl, rfl, e0⟩
theorem pureJ (hpn : plainName y.cls = true) (hw : ∀ d ∈ tb, d.before a0 Z = true) (hci : ∀ q ∈ ci, Jvm.Cond.constant y.cls q.1 q.2 ∈ tb) (hcj : ∀ q ∈ cj, Jvm.Cond.constantLong y.cls q.1 q.2 ∈ tb) (hef : ∀ m, entryFrame m as' maxL = mkF m 0 L0.toArray []) (hret : ret = some .long) {z : Int64}
    (h : wpo bytes ci cj stops n 0 L0 [] (fun a _ u => decode bytes a = .ok (.lreturn, 1) ∧ u = [.long z])) : Pays l Z y bytes maxL ret ws as' h0 (.long z) := by
  refine MetFree.of_bodySF (plainFor_of_name hpn) hisR ?_
  intro p e s m args below meth c s₁ Bd hml0 hP hK
  obtain ⟨rfl, hZ, hh⟩ := hP
  have hown : s.vm.findClass y.cls = some m.cls := findClass_of_methodNamed Bd.named
  have X0 : Stand p l e room0 s m args below meth c s₁ [] 0 0 := Stand.of_body Bd
  have e0 : s₁.heap = h0 := by rw [← hh, Bd.state]; rfl
  obtain ⟨fs, hr, hrun, hended, hW, hsame⟩ := X0.leave (v := some (.long z)) (fun h => by rw [Bd.returns, hret] at h; cases h)
  refine ⟨_, _, castTop (hef m) ?_, hrun, hended, _, _, rfl, ?_, ⟨_, rfl⟩, hW, hsame.mono (by decide) (by decide)⟩
  · exact endJ X0 Bd.exec Bd.bytes hown (cI hZ hw hci) (cJ hZ hw hcj) h (Bd.returns.trans hret) hr
  · exact ⟨rfl, rfl, e0⟩
variable {p : Program} {e : Env} {R : Room} {s : State} {m : MethodId} {args : Array Value} {below : List Frame} {meth : Method} {c : Code} {T : State} {locs : List Loc} {cells slots : Nat} {own : String} {V : Value}
/-- the call of a static body that only reckons: the state moves, its heap doesn't -/
theorem callPure (X : Stand p l e R s m args below meth c T locs cells slots) (hx : p.tables.exec = Jvm.exec) (hZ : Z.Warmed39 s.vm) (hown : s.vm.findClass own = some m.cls) {index : Nat}
    (w1 : (Jvm.Cond.methodLink own index y).before a0 Z = true) (w2 : (Jvm.Cond.static y).before a0 Z = true) (w3 : (Jvm.Cond.initialized y.cls).before a0 Z = true) (w4 : (Jvm.Cond.code y bytes maxL ret).before a0 Z = true) (hy : y.cls ≠ "java/lang/invoke/MethodHandle" ∧ y.cls ≠ "java/lang/invoke/VarHandle")
    {h : Heap} (eT : T.heap = h) {argsL rest : List Value} (hM : Pays l Z y bytes maxL ret [] argsL.toArray h V) {W : Nat} (hf : 1 ≤ R.frames) (hl : W + (maxL + 11) ≤ R.locals) (hcl : cells ≤ R.cells) (hsl : slots ≤ R.slots)
    {pc : Nat} {Ls : Array Slot} {st : List Value} (hsize : Ls.size = c.maxLocals) (hlen : ∀ sig, parseMethodDescriptor y.desc = some sig → argsL.length = sig.parameters.length) (hst : st = argsL.reverse ++ rest) (hW : (rest.map fun v => v.category).sum ≤ W) (hd : decode c.code pc = .ok (.invokestatic index, 3)) :
    ∃ T', Stand p l e R s m args below meth c T' locs cells slots ∧ T'.heap = h ∧ ∀ target, Steps p.tables e below (T'.setTop (mkF m (pc + 3) Ls (V :: rest))) target → Steps p.tables e below (T.setTop (mkF m pc Ls st)) target := by
  obtain ⟨v, _, ⟨T5, L5, k5, n5⟩, -, X5, ⟨Lc5, hQ5, l5, y5, z5⟩, st5⟩ := Jvm.LawKit.callS X hx (y := y) hown (mvT hZ w1) (mvT hZ w2) (mvT hZ w3) (mvT hZ w4) hy (backOf (W := W) hM hZ w4 w3 hf hl) (g := mkF m pc Ls st) rfl hsize (argsL := argsL) (rest := rest) hlen hst (by show 2 * 0 + _ ≤ _; rw [Nat.mul_zero, Nat.zero_add]; exact hW) hd (fun _ _ => ⟨rfl, eT, hcl, hsl⟩)
  dsimp only [Pt.U, Pt.locs, Pt.cells, Pt.slots] at X5 l5 y5 z5 st5 hQ5
  obtain ⟨rfl, rfl, hq⟩ := hQ5
  subst y5 z5
  rw [List.append_nil] at l5
  subst l5
  exact ⟨T5, X5, hq, st5⟩
end
end Jvm.OwnRun
/-! OwnNum: shifts and remainders as integers -/
namespace Jvm.OwnRun
theorem nat32 (x : Int32) : (x.toBitVec.toNat : Int) = x.toInt % 4294967296 := by
  have h : x.toBitVec = BitVec.ofInt 32 x.toInt := (BitVec.ofInt_toInt (x := x.toBitVec)).symm
  have h2 := congrArg BitVec.toNat h
  rw [BitVec.toNat_ofInt] at h2
  omega
theorem nat64 (x : Int64) : (x.toBitVec.toNat : Int) = x.toInt % 18446744073709551616 := by
  have h : x.toBitVec = BitVec.ofInt 64 x.toInt := (BitVec.ofInt_toInt (x := x.toBitVec)).symm
  have h2 := congrArg BitVec.toNat h
  rw [BitVec.toNat_ofInt] at h2
  omega
theorem small32 (x : Int32) (h : x.toBitVec.toNat < 2147483648) : x.toInt = (x.toBitVec.toNat : Int) := by
  have h1 := nat32 x
  have h2 := x.toInt_lt
  have h3 := x.le_toInt
  omega
theorem small64 (x : Int64) (h : x.toBitVec.toNat < 9223372036854775808) : x.toInt = (x.toBitVec.toNat : Int) := by
  have h1 := nat64 x
  have h2 := x.toInt_lt
  have h3 := x.le_toInt
  omega
theorem bv_ushr (x y : Int32) {k : Nat} (hk : (y &&& 31).toBitVec.toNat = k) (h2 : k < 32) : (oushr x y).toBitVec = x.toBitVec >>> k := by
  have e : (oushr x y).toBitVec = x.toBitVec >>> ((y &&& 31).toBitVec % 32#32) := rfl
  rw [e, BitVec.ushiftRight_eq', BitVec.toNat_umod, hk]
  rw [show (32#32).toNat = 32 from rfl, Nat.mod_eq_of_lt h2]
theorem num_ushr (x y : Int32) {k : Nat} (hk : (y &&& 31).toBitVec.toNat = k) (h1 : 0 < k) (h2 : k < 32) : (oushr x y).toInt = x.toInt % 4294967296 / 2 ^ k := by
  have e := congrArg BitVec.toNat (bv_ushr x y hk h2)
  rw [BitVec.toNat_ushiftRight, Nat.shiftRight_eq_div_pow] at e
  have hp : 2 ≤ 2 ^ k := by
    obtain ⟨j, rfl⟩ : ∃ j, k = j + 1 := ⟨k - 1, by omega⟩
    have := Nat.one_le_two_pow (n := j)
    rw [Nat.pow_succ]; omega
  have hl : x.toBitVec.toNat / 2 ^ k ≤ x.toBitVec.toNat / 2 := Nat.div_le_div_left hp (by decide)
  have hx := x.toBitVec.isLt
  rw [small32 _ (by rw [e]; omega), e, ← nat32 x]
  simp
theorem bv_ushrL (x : Int64) (y : Int32) {k : Nat} (hk : (y &&& 0x3f).toInt64.toBitVec.toNat = k) (h2 : k < 64) : (oushrL x y).toBitVec = x.toBitVec >>> k := by
  have e : (oushrL x y).toBitVec = x.toBitVec >>> ((y &&& 0x3f).toInt64.toBitVec % 64#64) := rfl
  rw [e, BitVec.ushiftRight_eq', BitVec.toNat_umod, hk]
  rw [show (64#64).toNat = 64 from rfl, Nat.mod_eq_of_lt h2]
theorem num_ushrL (x : Int64) (y : Int32) {k : Nat} (hk : (y &&& 0x3f).toInt64.toBitVec.toNat = k) (h1 : 0 < k) (h2 : k < 64) : (oushrL x y).toInt = x.toInt % 18446744073709551616 / 2 ^ k := by
  have e := congrArg BitVec.toNat (bv_ushrL x y hk h2)
  rw [BitVec.toNat_ushiftRight, Nat.shiftRight_eq_div_pow] at e
  have hp : 2 ≤ 2 ^ k := by
    obtain ⟨j, rfl⟩ : ∃ j, k = j + 1 := ⟨k - 1, by omega⟩
    have := Nat.one_le_two_pow (n := j)
    rw [Nat.pow_succ]; omega
  have hl : x.toBitVec.toNat / 2 ^ k ≤ x.toBitVec.toNat / 2 := Nat.div_le_div_left hp (by decide)
  have hx := x.toBitVec.isLt
  rw [small64 _ (by rw [e]; omega), e, ← nat64 x]
  simp
theorem own_rem32 {x y : Int32} (hx : 0 ≤ x.toInt) (hy : 0 < y.toInt) : (x - x / y * y).toInt = x.toInt % y.toInt := by
  have hd : (x / y).toInt = x.toInt / y.toInt := by rw [Jvm.Kit.i32_div (by omega), Int.tdiv_eq_ediv_of_nonneg hx]
  have hn : 0 ≤ x.toInt / y.toInt := Int.ediv_nonneg hx (by omega)
  have hm : 0 ≤ x.toInt / y.toInt * y.toInt := Int.mul_nonneg hn (by omega)
  have hl : x.toInt / y.toInt * y.toInt ≤ x.toInt := Int.ediv_mul_le _ (by omega)
  have hX := x.toInt_lt
  have e1 : (x / y * y).toInt = x.toInt / y.toInt * y.toInt := by rw [Jvm.Kit.i32_mul (by rw [hd]; omega) (by rw [hd]; omega), hd]
  rw [Jvm.Kit.i32_sub (by rw [e1]; omega) (by rw [e1]; omega), e1, Int.emod_def, Int.mul_comm]
theorem own_rem64 {x y : Int64} (hx : 0 ≤ x.toInt) : (x - x / y * y).toInt = x.toInt % y.toInt := Jvm.Kit.i64_rem_nonneg hx
theorem idx32 {j : Int32} {k : Nat} (h : j.toInt = k) : ¬ j < 0 ∧ j.toNatClampNeg = k := by
  refine ⟨fun q => ?_, ?_⟩
  · rw [Int32.lt_iff_toInt_lt] at q
    have t : (0 : Int32).toInt = 0 := rfl
    omega
  · show j.toInt.toNat = k
    omega
end Jvm.OwnRun
namespace Jvm.Pilot.@@N@@
open Jvm Jvm.ClassFile Sem Op Lib Jvm.Free Jvm.Stand Jvm.LawKit Jvm.RoadKit Bundle Jvm.Pilot.@@N@@.Jvm.D Jvm.OwnRun

theorem d1_0 : decode prog_71_method_4_code 0 = .ok (.lload_n 0, 1) := by decide +kernel
theorem d1_1 : decode prog_71_method_4_code 1 = .ok (.ldc2_w 21, 3) := by decide +kernel
theorem d1_4 : decode prog_71_method_4_code 4 = .ok (.ldiv, 1) := by decide +kernel
theorem d1_5 : decode prog_71_method_4_code 5 = .ok (.lstore_n 2, 1) := by decide +kernel
theorem d1_6 : decode prog_71_method_4_code 6 = .ok (.lload_n 0, 1) := by decide +kernel
theorem d1_7 : decode prog_71_method_4_code 7 = .ok (.ldc2_w 21, 3) := by decide +kernel
theorem d1_10 : decode prog_71_method_4_code 10 = .ok (.lrem, 1) := by decide +kernel
theorem d1_11 : decode prog_71_method_4_code 11 = .ok (.lstore 4, 2) := by decide +kernel
theorem d1_13 : decode prog_71_method_4_code 13 = .ok (.lload 4, 2) := by decide +kernel
theorem d1_15 : decode prog_71_method_4_code 15 = .ok (.lconst 0, 1) := by decide +kernel
theorem d1_16 : decode prog_71_method_4_code 16 = .ok (.lcmp, 1) := by decide +kernel
theorem d1_17 : decode prog_71_method_4_code 17 = .ok (.ifCond .ne 9, 3) := by decide +kernel
theorem d1_20 : decode prog_71_method_4_code 20 = .ok (.lload_n 2, 1) := by decide +kernel
theorem d1_21 : decode prog_71_method_4_code 21 = .ok (.ldc2_w 19, 3) := by decide +kernel
theorem d1_24 : decode prog_71_method_4_code 24 = .ok (.lmul, 1) := by decide +kernel
theorem d1_25 : decode prog_71_method_4_code 25 = .ok (.lreturn, 1) := by decide +kernel
theorem d1_26 : decode prog_71_method_4_code 26 = .ok (.lload 4, 2) := by decide +kernel
theorem d1_28 : decode prog_71_method_4_code 28 = .ok (.ldc2_w 17, 3) := by decide +kernel
theorem d1_31 : decode prog_71_method_4_code 31 = .ok (.lcmp, 1) := by decide +kernel
theorem d1_32 : decode prog_71_method_4_code 32 = .ok (.ifCond .gt 9, 3) := by decide +kernel
theorem d1_35 : decode prog_71_method_4_code 35 = .ok (.ldc2_w 23, 3) := by decide +kernel
theorem d1_38 : decode prog_71_method_4_code 38 = .ok (.goto 15, 3) := by decide +kernel
theorem d1_41 : decode prog_71_method_4_code 41 = .ok (.lload_n 2, 1) := by decide +kernel
theorem d1_42 : decode prog_71_method_4_code 42 = .ok (.ldc2_w 19, 3) := by decide +kernel
theorem d1_45 : decode prog_71_method_4_code 45 = .ok (.lmul, 1) := by decide +kernel
theorem d1_46 : decode prog_71_method_4_code 46 = .ok (.lload 4, 2) := by decide +kernel
theorem d1_48 : decode prog_71_method_4_code 48 = .ok (.ladd, 1) := by decide +kernel
theorem d1_49 : decode prog_71_method_4_code 49 = .ok (.ldc2_w 17, 3) := by decide +kernel
theorem d1_52 : decode prog_71_method_4_code 52 = .ok (.lsub, 1) := by decide +kernel
theorem d1_53 : decode prog_71_method_4_code 53 = .ok (.lreturn, 1) := by decide +kernel
theorem s_4100 : Int16.toInt32 4100 = 4100 := by decide
def ci0 : List (Nat × Int32) := [(13, 2147483647)]
def cj0 : List (Nat × Int64) := [(9, 2249602935818238), (11, 9223372036854775807), (14, 4100), (18, 4), (20, -1), (16, 4096)]
def ci1 : List (Nat × Int32) := []
def cj1 : List (Nat × Int64) := [(21, 4100), (17, 4), (23, -1), (19, 4096)]

theorem pn_0 : plainName "com/example/eliteset/eliteset/index/IndexFormatLengthPinLaw" = true := by first | (simp [plainName, overriddenIn]; done) | decide +kernel
theorem ef_0 (m : MethodId) (x0 : Int64) (x1 : Int32) : entryFrame m #[(.long x0), (.int x1)] maxLocals = mkF m 0 #[.val (.long x0), .second, .val (.int x1), .unset, .unset, .unset, .unset, .unset, .unset, .unset, .unset, .unset, .unset] [] := by first | (simp [entryFrame, mkF, argsToLocals, Value.category, maxLocals]; done) | rfl
theorem pn_1 : plainName "com/example/eliteset/eliteset/index/IndexFormat" = true := by first | (simp [plainName, overriddenIn]; done) | decide +kernel
theorem ef_1 (m : MethodId) (x0 : Int64) : entryFrame m #[(.long x0)] 6 = mkF m 0 #[.val (.long x0), .second, .unset, .unset, .unset, .unset] [] := by first | (simp [entryFrame, mkF, argsToLocals, Value.category]; done) | rfl
theorem pd_1 : parseMethodDescriptor "(J)J" = some ⟨[.long], some .long⟩ := by decide +kernel

/-! the plain functions -/
def own_len (s : Int64) : Int64 :=
  if s - s / 4100 * 4100 = 0 then s / 4100 * 4096 else if 4 < s - s / 4100 * 4100 then s / 4100 * 4096 + (s - s / 4100 * 4100) - 4 else -1
def own_exp (q r : Int64) : Int64 := if r = 0 then q * 4096 else if 4 < r then q * 4096 + (r - 4) else -1
def own_q (q0 : Int64) : Int64 := (q0 &&& 9223372036854775807) - (q0 &&& 9223372036854775807) / 2249602935818239 * 2249602935818239
def own_r (r0 : Int32) : Int64 := ((r0 &&& 2147483647) - (r0 &&& 2147483647) / 4100 * 4100).toInt64
theorem own_qb (q0 : Int64) : 0 ≤ (own_q q0).toInt ∧ (own_q q0).toInt ≤ 2249602935818238 := by
  have e : (q0 &&& 9223372036854775807).toInt = q0.toInt % 2 ^ 63 := Jvm.Kit.i64_mask q0 9223372036854775807 (k := 63) (by decide) (by decide)
  have h : (own_q q0).toInt = (q0 &&& 9223372036854775807).toInt % (2249602935818239 : Int64).toInt := own_rem64 (by omega)
  have t : (2249602935818239 : Int64).toInt = 2249602935818239 := by decide
  rw [t] at h
  omega
theorem own_rb (r0 : Int32) : 0 ≤ (own_r r0).toInt ∧ (own_r r0).toInt < 4100 := by
  have e : (r0 &&& 2147483647).toInt = r0.toInt % 2 ^ 31 := Jvm.Kit.i32_mask r0 2147483647 (k := 31) (by decide) (by decide)
  have h : ((r0 &&& 2147483647) - (r0 &&& 2147483647) / 4100 * 4100).toInt = (r0 &&& 2147483647).toInt % (4100 : Int32).toInt := own_rem32 (by omega) (by decide)
  have t : (4100 : Int32).toInt = 4100 := by decide
  unfold own_r
  rw [Jvm.Kit.i64_of_i32]
  rw [t] at h
  omega
theorem own_law {q r : Int64} (hq : 0 ≤ q.toInt ∧ q.toInt ≤ 2249602935818238) (hr : 0 ≤ r.toInt ∧ r.toInt < 4100) (hs : ¬ q * 4100 + r < 0) : own_len (q * 4100 + r) = own_exp q r := by
  have t1 : (4100 : Int64).toInt = 4100 := by decide
  have t2 : (4096 : Int64).toInt = 4096 := by decide
  have em : (q * 4100).toInt = q.toInt * 4100 := by rw [Jvm.Kit.i64_mul (by rw [t1]; omega) (by rw [t1]; omega), t1]
  have es : (q * 4100 + r).toInt = q.toInt * 4100 + r.toInt := by
    have h1 : (q * 4100 + r).toInt = ((q * 4100).toInt + r.toInt).bmod (2 ^ 64) := Int64.toInt_add _ _
    have h2 := bm64 ((q * 4100).toInt + r.toInt)
    rw [← h1, em] at h2
    have h3 : ¬ (q * 4100 + r).toInt < 0 := by rw [Int64.lt_iff_toInt_lt] at hs; exact hs
    have h4 := (q * 4100 + r).toInt_lt
    omega
  generalize q * 4100 + r = s at *
  have hs0 : 0 ≤ s.toInt := by omega
  have ed : (s / 4100).toInt = s.toInt / 4100 := by rw [Jvm.Kit.i64_div (by rw [t1]; omega), Int.tdiv_eq_ediv_of_nonneg hs0, t1]
  have edq : s / 4100 = q := Int64.toInt_inj.mp (by rw [ed]; omega)
  have er : s - s / 4100 * 4100 = r := Int64.toInt_inj.mp (by rw [own_rem64 hs0, t1]; omega)
  unfold own_len own_exp
  rw [er, edq]
  split
  · rfl
  · split
    · rw [Int64.sub_eq_add_neg, Int64.sub_eq_add_neg, Int64.add_assoc]
    · rfl
/-! the stretches -/
set_option maxRecDepth 65536 in
set_option maxHeartbeats 4000000 in
theorem wp_1 (s : Int64) : wpo prog_71_method_4_code ci1 cj1 [] 40 0 [.val (.long s), .second, .unset, .unset, .unset, .unset] [] (fun a _ u => decode prog_71_method_4_code a = .ok (.lreturn, 1) ∧ u = [.long (own_len s)]) := by
  simp only [r_wp0, r_wpS, r_nxt, r_stop0, r_stopS, r_go, r_goIf, r_fork, r_tgt, r_okO, r_gI, r_gJ, r_gA, r_pI, r_pJ, r_pA, r_p1r, r_p1i, r_pII, r_pJJ, r_pJI, r_fnd0, r_fndS, r_gC, r_gC0, r_gB, r_st1, r_st2, r_eq, r_ne, r_lt, r_ge, r_gt, r_le, r_eqL, r_neL, r_ltL, r_geL, r_gtL, r_leL, r_f0, r_f1, r_f2, r_f3, r_im1, r_i0, r_i1, r_i2, r_i3, r_i4, r_i5, r_i7, r_l0, r_l1, lget_z, lget_s, lput_z, lput_s, one_unset, one_int, one_ref, two_unset, two_long, cond_true, cond_false, true_and, and_true, not_true_eq_false, not_false_eq_true, true_implies, false_implies, implies_true, ne_eq, Classical.not_not, Int.cast_ofNat_Int, ite_true, seval, and_self, n_goto, n_ifCond, n_ladd, n_lcmp, n_lconst, n_ldc2_w, n_ldiv, n_lload, n_lload_n, n_lmul, n_lrem, n_lreturn, n_lstore, n_lstore_n, n_lsub, ci1, cj1, d1_0, d1_1, d1_4, d1_5, d1_6, d1_7, d1_10, d1_11, d1_13, d1_15, d1_16, d1_17, d1_20, d1_21, d1_24, d1_25, d1_26, d1_28, d1_31, d1_32, d1_35, d1_38, d1_41, d1_42, d1_45, d1_46, d1_48, d1_49, d1_52, d1_53, List.cons.injEq, Value.long.injEq]
  all_goals (repeat' (first | refine And.intro ?_ ?_ | intro _))
  all_goals simp [own_len, *]
set_option maxRecDepth 65536 in
set_option maxHeartbeats 4000000 in
theorem wp_A (q0 : Int64) (r0 : Int32) : wpo code ci0 cj0 [37] 40 0 [.val (.long q0), .second, .val (.int r0), .unset, .unset, .unset, .unset, .unset, .unset, .unset, .unset, .unset, .unset] [] (fun a M u => a = 37 ∧ M = [.val (.long q0), .second, .val (.int r0), .val (.long 2249602935818238), .second, .val (.long (own_q q0)), .second, .val (.long (own_r r0)), .second, .val (.long (own_q q0 * 4100 + own_r r0)), .second, .unset, .unset] ∧ u = []) := by
  simp only [r_wp0, r_wpS, r_nxt, r_stop0, r_stopS, r_go, r_goIf, r_fork, r_tgt, r_okO, r_gI, r_gJ, r_gA, r_pI, r_pJ, r_pA, r_p1r, r_p1i, r_pII, r_pJJ, r_pJI, r_fnd0, r_fndS, r_gC, r_gC0, r_gB, r_st1, r_st2, r_eq, r_ne, r_lt, r_ge, r_gt, r_le, r_eqL, r_neL, r_ltL, r_geL, r_gtL, r_leL, r_f0, r_f1, r_f2, r_f3, r_im1, r_i0, r_i1, r_i2, r_i3, r_i4, r_i5, r_i7, r_l0, r_l1, lget_z, lget_s, lput_z, lput_s, one_unset, one_int, one_ref, two_unset, two_long, cond_true, cond_false, true_and, and_true, not_true_eq_false, not_false_eq_true, true_implies, false_implies, implies_true, ne_eq, Classical.not_not, Int.cast_ofNat_Int, ite_true, seval, and_self, n_goto, n_i2l, n_iand, n_iconst, n_ifCond, n_iload_n, n_invokestatic, n_irem, n_ireturn, n_ladd, n_land, n_lcmp, n_lconst, n_ldc, n_ldc2_w, n_lload, n_lload_n, n_lmul, n_lrem, n_lstore, n_lstore_n, n_lsub, n_sipush, s_4100, ci0, cj0, at_0, at_3, at_4, at_5, at_8, at_9, at_10, at_11, at_12, at_13, at_15, at_16, at_18, at_19, at_22, at_23, at_24, at_26, at_28, at_31, at_32, at_34, at_35, at_37, at_39, at_40, at_41, at_44, at_45, at_46, at_48, at_49, at_50, at_53, at_55, at_58, at_59, at_61, at_64, at_66, at_69, at_70, at_73, at_76, at_78, at_81, at_83, at_86, at_87, at_89, at_92, at_93, at_94, at_96, at_98, at_101, at_103, at_104, at_107, at_108, at_111, at_112, own_q, own_r, List.cons.injEq, Slot.val.injEq, Value.long.injEq]
set_option maxRecDepth 65536 in
set_option maxHeartbeats 4000000 in
theorem wp_Z (v0 : Slot) (v2 : Slot) (v3 : Slot) (q r s : Int64) (hs : s < 0) : wpo code ci0 cj0 [] 40 37 [v0, .second, v2, v3, .second, .val (.long q), .second, .val (.long r), .second, .val (.long s), .second, .unset, .unset] [] (fun a _ u => decode code a = .ok (.ireturn, 1) ∧ u = [.int 1]) := by
  simp only [r_wp0, r_wpS, r_nxt, r_stop0, r_stopS, r_go, r_goIf, r_fork, r_tgt, r_okO, r_gI, r_gJ, r_gA, r_pI, r_pJ, r_pA, r_p1r, r_p1i, r_pII, r_pJJ, r_pJI, r_fnd0, r_fndS, r_gC, r_gC0, r_gB, r_st1, r_st2, r_eq, r_ne, r_lt, r_ge, r_gt, r_le, r_eqL, r_neL, r_ltL, r_geL, r_gtL, r_leL, r_f0, r_f1, r_f2, r_f3, r_im1, r_i0, r_i1, r_i2, r_i3, r_i4, r_i5, r_i7, r_l0, r_l1, lget_z, lget_s, lput_z, lput_s, one_unset, one_int, one_ref, two_unset, two_long, cond_true, cond_false, true_and, and_true, not_true_eq_false, not_false_eq_true, true_implies, false_implies, implies_true, ne_eq, Classical.not_not, Int.cast_ofNat_Int, ite_true, seval, and_self, n_goto, n_i2l, n_iand, n_iconst, n_ifCond, n_iload_n, n_invokestatic, n_irem, n_ireturn, n_ladd, n_land, n_lcmp, n_lconst, n_ldc, n_ldc2_w, n_lload, n_lload_n, n_lmul, n_lrem, n_lstore, n_lstore_n, n_lsub, n_sipush, s_4100, ci0, cj0, at_0, at_3, at_4, at_5, at_8, at_9, at_10, at_11, at_12, at_13, at_15, at_16, at_18, at_19, at_22, at_23, at_24, at_26, at_28, at_31, at_32, at_34, at_35, at_37, at_39, at_40, at_41, at_44, at_45, at_46, at_48, at_49, at_50, at_53, at_55, at_58, at_59, at_61, at_64, at_66, at_69, at_70, at_73, at_76, at_78, at_81, at_83, at_86, at_87, at_89, at_92, at_93, at_94, at_96, at_98, at_101, at_103, at_104, at_107, at_108, at_111, at_112, hs, List.cons.injEq, Value.int.injEq]
set_option maxRecDepth 65536 in
set_option maxHeartbeats 4000000 in
theorem wp_B (v0 : Slot) (v2 : Slot) (v3 : Slot) (q r s : Int64) (hs : ¬ s < 0) : wpo code ci0 cj0 [] 40 37 [v0, .second, v2, v3, .second, .val (.long q), .second, .val (.long r), .second, .val (.long s), .second, .unset, .unset] [] (fun a M u => a = 98 ∧ M = [v0, .second, v2, v3, .second, .val (.long q), .second, .val (.long r), .second, .val (.long s), .second, .val (.long (own_exp q r)), .second] ∧ u = [.long s]) := by
  simp only [r_wp0, r_wpS, r_nxt, r_stop0, r_stopS, r_go, r_goIf, r_fork, r_tgt, r_okO, r_gI, r_gJ, r_gA, r_pI, r_pJ, r_pA, r_p1r, r_p1i, r_pII, r_pJJ, r_pJI, r_fnd0, r_fndS, r_gC, r_gC0, r_gB, r_st1, r_st2, r_eq, r_ne, r_lt, r_ge, r_gt, r_le, r_eqL, r_neL, r_ltL, r_geL, r_gtL, r_leL, r_f0, r_f1, r_f2, r_f3, r_im1, r_i0, r_i1, r_i2, r_i3, r_i4, r_i5, r_i7, r_l0, r_l1, lget_z, lget_s, lput_z, lput_s, one_unset, one_int, one_ref, two_unset, two_long, cond_true, cond_false, true_and, and_true, not_true_eq_false, not_false_eq_true, true_implies, false_implies, implies_true, ne_eq, Classical.not_not, Int.cast_ofNat_Int, ite_true, seval, and_self, n_goto, n_i2l, n_iand, n_iconst, n_ifCond, n_iload_n, n_invokestatic, n_irem, n_ireturn, n_ladd, n_land, n_lcmp, n_lconst, n_ldc, n_ldc2_w, n_lload, n_lload_n, n_lmul, n_lrem, n_lstore, n_lstore_n, n_lsub, n_sipush, s_4100, ci0, cj0, at_0, at_3, at_4, at_5, at_8, at_9, at_10, at_11, at_12, at_13, at_15, at_16, at_18, at_19, at_22, at_23, at_24, at_26, at_28, at_31, at_32, at_34, at_35, at_37, at_39, at_40, at_41, at_44, at_45, at_46, at_48, at_49, at_50, at_53, at_55, at_58, at_59, at_61, at_64, at_66, at_69, at_70, at_73, at_76, at_78, at_81, at_83, at_86, at_87, at_89, at_92, at_93, at_94, at_96, at_98, at_101, at_103, at_104, at_107, at_108, at_111, at_112, hs, List.cons.injEq, Slot.val.injEq, Value.long.injEq]
  all_goals (repeat' (first | refine And.intro ?_ ?_ | intro _))
  all_goals simp [own_exp, *]
set_option maxRecDepth 65536 in
set_option maxHeartbeats 4000000 in
theorem wp_C (v0 : Slot) (v2 : Slot) (v3 : Slot) (q r s z : Int64) : wpo code ci0 cj0 [] 40 101 [v0, .second, v2, v3, .second, .val (.long q), .second, .val (.long r), .second, .val (.long s), .second, .val (.long z), .second] [.long z] (fun a _ u => decode code a = .ok (.ireturn, 1) ∧ u = [.int 1]) := by
  simp only [r_wp0, r_wpS, r_nxt, r_stop0, r_stopS, r_go, r_goIf, r_fork, r_tgt, r_okO, r_gI, r_gJ, r_gA, r_pI, r_pJ, r_pA, r_p1r, r_p1i, r_pII, r_pJJ, r_pJI, r_fnd0, r_fndS, r_gC, r_gC0, r_gB, r_st1, r_st2, r_eq, r_ne, r_lt, r_ge, r_gt, r_le, r_eqL, r_neL, r_ltL, r_geL, r_gtL, r_leL, r_f0, r_f1, r_f2, r_f3, r_im1, r_i0, r_i1, r_i2, r_i3, r_i4, r_i5, r_i7, r_l0, r_l1, lget_z, lget_s, lput_z, lput_s, one_unset, one_int, one_ref, two_unset, two_long, cond_true, cond_false, true_and, and_true, not_true_eq_false, not_false_eq_true, true_implies, false_implies, implies_true, ne_eq, Classical.not_not, Int.cast_ofNat_Int, ite_true, seval, and_self, n_goto, n_i2l, n_iand, n_iconst, n_ifCond, n_iload_n, n_invokestatic, n_irem, n_ireturn, n_ladd, n_land, n_lcmp, n_lconst, n_ldc, n_ldc2_w, n_lload, n_lload_n, n_lmul, n_lrem, n_lstore, n_lstore_n, n_lsub, n_sipush, s_4100, ci0, cj0, at_0, at_3, at_4, at_5, at_8, at_9, at_10, at_11, at_12, at_13, at_15, at_16, at_18, at_19, at_22, at_23, at_24, at_26, at_28, at_31, at_32, at_34, at_35, at_37, at_39, at_40, at_41, at_44, at_45, at_46, at_48, at_49, at_50, at_53, at_55, at_58, at_59, at_61, at_64, at_66, at_69, at_70, at_73, at_76, at_78, at_81, at_83, at_86, at_87, at_89, at_92, at_93, at_94, at_96, at_98, at_101, at_103, at_104, at_107, at_108, at_111, at_112, List.cons.injEq, Value.int.injEq]
set_option maxRecDepth 65536 in
set_option maxHeartbeats 40000000 in
theorem rm0 (l : Launch) (Z : State) (a0 : Array Value) (hw : ∀ d ∈ tables_1, d.before a0 Z = true) (ws : List Jvm.Cond) (q0 : Int64) (r0 : Int32) (h0 : Heap) (n0 : Nat) (Z0 : n0 ≤ h0.size) :
    MetFree l x (head1 (Jvm.Cond.code x code maxLocals ret :: ws) room_1) (fun a U => a = #[(.long q0), (.int r0)] ∧ Z.Warmed39 U.vm ∧ U.heap = h0) (fun _ _ _ _ _ => True) (fun _ U o U' => ∃ v L, o = .returned v ∧ (v = some (.int (1 : Int32)) ∧ Fr n0 L) ∧ FrameEnd U o U' L room_1.cells room_1.slots) := by
  refine MetFree.of_bodySF (plainFor_of_name pn_0) hisR ?_
  intro p e s m args below meth c s₁ Bd hml0 hP hK
  obtain ⟨rfl, hZ, hh⟩ := hP
  have hx := Bd.exec
  have hby := Bd.bytes
  have hml : c.maxLocals = 13 := hml0
  have hown : s.vm.findClass x.cls = some m.cls := findClass_of_methodNamed Bd.named
  have X0 : Stand p l e room_1 s m #[(.long q0), (.int r0)] below meth c s₁ [] 0 0 := Stand.of_body Bd
  have e0 : s₁.heap = h0 := by rw [← hh, Bd.state]; rfl
  have hI := cI (args := #[(.long q0), (.int r0)]) (s := s) (own := x.cls) (ci := ci0) hZ hw (by decide +kernel)
  have hJ := cJ (args := #[(.long q0), (.int r0)]) (s := s) (own := x.cls) (cj := cj0) hZ hw (by decide +kernel)
  by_cases hs : own_q q0 * 4100 + own_r r0 < 0
  · obtain ⟨fs, hr, hrun, hended, hW, hsame⟩ := X0.leave (v := some (.int (1 : Int32))) (fun h => by rw [Bd.returns] at h; cases h)
    refine ⟨_, _, castTop (ef_0 m q0 r0) ?_, hrun, hended, _, _, rfl, ⟨rfl, Fr.nil n0⟩, ⟨_, rfl⟩, hW, hsame.mono (by decide) (by decide)⟩
    refine sego X0 hx hby hown hI hJ (wp_A q0 r0) _ ?_
    exact endN X0 hx hby hown hI hJ (wp_Z _ _ _ _ _ _ hs) Bd.returns (by simp) hr
  · obtain ⟨T1, X1, e1, st1⟩ := callPure X0 hx hZ hown (y := (⟨"com/example/eliteset/eliteset/index/IndexFormat", "length", "(J)J"⟩ : MethodName)) (hw _ (List.mem_of_getElem? (i := 6) rfl)) (hw _ (List.mem_of_getElem? (i := 7) rfl)) (hw _ (List.mem_of_getElem? (i := 8) rfl)) (hw _ (List.mem_of_getElem? (i := 9) rfl)) (by decide) e0 (argsL := [.long (own_q q0 * 4100 + own_r r0)]) (rest := [])
      (pureJ pn_1 hw (ci := ci1) (cj := cj1) (by decide +kernel) (by decide +kernel) (fun m => ef_1 m (own_q q0 * 4100 + own_r r0)) rfl (wp_1 (own_q q0 * 4100 + own_r r0))) (W := 0) (by decide) (by decide) (by decide) (by decide) (pc := 98) (Ls := #[.val (.long q0), .second, .val (.int r0), .val (.long 2249602935818238), .second, .val (.long (own_q q0)), .second, .val (.long (own_r r0)), .second, .val (.long (own_q q0 * 4100 + own_r r0)), .second, .val (.long (own_exp (own_q q0) (own_r r0))), .second]) (by rw [hml]; rfl) (lenOf pd_1 rfl) rfl (by decide) (hb hby at_98)
    obtain ⟨fs, hr, hrun, hended, hW, hsame⟩ := X1.leave (v := some (.int (1 : Int32))) (fun h => by rw [Bd.returns] at h; cases h)
    refine ⟨_, _, castTop (ef_0 m q0 r0) ?_, hrun, hended, _, _, rfl, ⟨rfl, Fr.nil n0⟩, ⟨_, rfl⟩, hW, hsame.mono (by decide) (by decide)⟩
    refine sego X0 hx hby hown hI hJ (wp_A q0 r0) _ ?_
    refine sego X0 hx hby hown hI hJ (wp_B _ _ _ _ _ _ hs) _ ?_
    refine st1 _ ?_
    rw [own_law (own_qb q0) (own_rb r0) hs]
    exact endN X1 hx hby hown hI hJ (wp_C _ _ _ _ _ _ _) Bd.returns (by simp) hr
set_option maxRecDepth 65536 in
set_option maxHeartbeats 40000000 in
theorem comes_1 {Post : Tables → Env → Array Value → State → Outcome → State → Prop} (hpost : ∀ tb e args s v u, (limb_1_1.after args s (.returned v) u = true ∧ limb_1_2.after args s (.returned v) u = true ∧ True) → FrameEnd s (.returned v) u (Jvm.fieldLocs frame_1_writes args s ++ Jvm.arrayLocs frame_1_arrays args s ++ Jvm.staticLocs frame_1_statics s) 0 0 → Post tb e args s (.returned v) u) :
    ArmFor flags0 classFile x code maxLocals ret World_1 tables_1 room_1 Calls_1 rest_1 Pre_1 Post := by
  intro l hfl _ _ p e ha hc hk s m args below hf hA hF happ hP
  obtain ⟨hcalls, hrest, hpre⟩ := hP
  obtain ⟨-, -, -, hnamed, -, -, -, hat⟩ := (Spec.applies_iff hf).mp happ
  obtain ⟨hg, hn⟩ := and_e (Cond.before_iff.mp (show (Jvm.Cond.and given_1 narrow_1).before args s = true from hpre))
  obtain ⟨c0, g0⟩ := and_e hg
  obtain ⟨k0, g1⟩ := and_e g0
  obtain ⟨w0, w1, rfl⟩ : ∃ w0 w1 : Value, args = #[w0, w1] := by
    have hs : args.size = 2 := by simpa [Cond.value, given_1] using c0
    obtain ⟨L⟩ := args
    match L, hs with
    | [w0, w1], _ => exact ⟨w0, w1, rfl⟩
  have hw := fun d (hd : d ∈ tables_1) => atoms_spec (ws := Jvm.Cond.code x code maxLocals ret :: tables_1) hat d (List.mem_cons_of_mem _ hd)
  obtain ⟨i0, ei0⟩ := isL_v k0
  obtain rfl : w0 = (.long i0) := Option.some.inj ei0
  obtain ⟨i1, ei1⟩ := is_v g1
  obtain rfl : w1 = (.int i1) := Option.some.inj ei1
  obtain ⟨n, o, h1, h2, h3, _, L, rfl, ⟨rfl, N⟩, hq⟩ := rm0 l s _ hw tables_1 i0 i1 s.heap s.heap.size (Nat.le_refl _) p e ha hc hk s m _ below hf ((Spec.applies_iff_loose hf).mp happ).1 ⟨rfl, State.Warmed39.refl s, rfl⟩ trivial
  refine ⟨n, _, h1, h2, h3, hpost _ _ _ _ _ _ ⟨Cond.after_iff.mpr rfl, Cond.after_iff.mpr (eq_i res_at (Term.int_eval (1)) rfl), trivial⟩ ⟨hq.1, hq.2.1, (hq.2.2.sift fun y hy => Or.inr (N y hy)).mono (by decide) (by decide)⟩⟩
theorem main_1_1 : Claimed_1_1 := comes_1 fun _ _ _ _ _ _ h hF => ⟨h.1, hF⟩
theorem main_1_2 : Claimed_1_2 := comes_1 fun _ _ _ _ _ _ h hF => ⟨h.2.1, hF⟩

end Jvm.Pilot.@@N@@
namespace Jvm.Pilot.@@N@@
open Jvm Jvm.ClassFile Sem Op Lib Jvm.Free Jvm.Stand Jvm.Pilot.@@N@@.Jvm.D
/-! MADE BY PROGRAM (witnessworld.py) out of the Statement's table words and the real class files: 9 classes; the members and pool entries that the words name. The judged class is class 1, her method 1. -/
namespace start1
open Jvm.ClassFile
def u (s : String) : CpInfo := .utf8 (stringToUtf16 s)
/-- a pool by its gaps: so many unusable entries, then the entry; so many at the end -/
def gap : Nat → List CpInfo → List CpInfo
  | 0, r => r
  | n + 1, r => .unusable :: gap n r
def poolList (es : List (Nat × CpInfo)) (last : Nat) : List CpInfo := es.foldr (fun e r => gap e.1 (e.2 :: r)) (gap last [])
def pool (es : List (Nat × CpInfo)) (last : Nat) : Array CpInfo := ⟨poolList es last⟩
def fileOf (pool : Array CpInfo) (this : Nat) (attrs : Array Attribute := #[]) (ms : Array MethodInfo := #[]) (fl : Nat := 33) (sup : Nat := 0) (ifs : Array Nat := #[]) (fds : Array FieldInfo := #[]) : ClassFile where
  minorVersion := 0
  majorVersion := 65
  constantPool := pool
  accessFlags := fl
  thisClass := this
  superClass := sup
  interfaces := ifs
  fields := fds
  methods := ms
  attributes := attrs
def plain (name : String) (sup : Option ClassId) : Class where
  name := name
  kind := .ordinary
  loader := none
  accessFlags := 33
  super := sup
  interfaces := #[]
  cf := none
  fields := #[]
  methods := #[]
  instanceTypes := #[]
  staticTypes := #[]
  resolved := #[]
  callSites := []
  init := .initialized
  statics := none
  mirror := none

def pool0 : Array CpInfo := pool [(5, u "<init>"), (0, u "()V"), (1, .class_ 10), (1, u "java/lang/Object")] 113

def k0m0 : Method := { name := "<init>", desc := "()V", sig := { parameters := [], returnType := none }, accessFlags := 1, code := none }
/-- java/lang/Object -/
def k0 : Class := { plain "java/lang/Object" none with
  accessFlags := 33
  interfaces := #[]
  cf := some (fileOf pool0 8 #[] #[{ accessFlags := 1, nameIndex := 5, descriptorIndex := 6, attributes := #[] }] 33 0 #[] #[])
  fields := #[]
  methods := #[k0m0]
  instanceTypes := #[]
  staticTypes := #[]
  resolved := Array.replicate 124 none
  statics := none }

def pool1 : Array CpInfo := pool [(2, .class_ 4), (1, u "java/lang/Object"), (0, u "<init>"), (0, u "()V"), (2, .long 2249602935818238), (1, .long 9223372036854775807), (1, .integer 2147483647), (0, .long 4100), (1, .long 4096), (1, .long 4), (1, .long 18446744073709551615), (1, .methodref 23 24), (0, .class_ 25), (0, .nameAndType 26 27), (0, u "com/example/eliteset/eliteset/index/IndexFormat"), (0, u "length"), (0, u "(J)J"), (0, .class_ 29), (0, u "com/example/eliteset/eliteset/index/IndexFormatLengthPinLaw"), (2, u "law"), (0, u "(JI)Z")] 3

def k1m0 : Method := { name := "<init>", desc := "()V", sig := { parameters := [], returnType := none }, accessFlags := 2, code := none }
def k1c1 : Code := { maxStack := 6, maxLocals := 13, code := code, exceptionTable := #[], attributes := #[] }
def k1m1 : Method := { name := "law", desc := "(JI)Z", sig := { parameters := [.long, .int], returnType := some .boolean }, accessFlags := 9, code := some k1c1 }
/-- com/example/eliteset/eliteset/index/IndexFormatLengthPinLaw -/
def k1 : Class := { plain "com/example/eliteset/eliteset/index/IndexFormatLengthPinLaw" (some 0) with
  accessFlags := 49
  interfaces := #[]
  cf := some (fileOf pool1 28 #[] #[{ accessFlags := 2, nameIndex := 5, descriptorIndex := 6, attributes := #[] }, { accessFlags := 9, nameIndex := 32, descriptorIndex := 33, attributes := #[] }] 49 2 #[] #[])
  fields := #[]
  methods := #[k1m0, k1m1]
  instanceTypes := #[]
  staticTypes := #[]
  resolved := Array.replicate 37 none
  statics := none }

def pool2 : Array CpInfo := pool [(7, .class_ 8), (0, u "com/example/eliteset/eliteset/index/IndexFormat"), (8, .long 4), (1, .long 4096), (1, .long 4100), (1, .long 18446744073709551615), (5, u "<init>"), (0, u "()V"), (9, .class_ 41), (0, u "java/lang/Object"), (30, u "FILES"), (0, u "Ljava/util/List;"), (0, u "HEADER"), (0, u "Ljava/lang/String;"), (3, u "PAGE"), (0, u "I"), (1, u "CHECKSUM"), (1, u "MANIFEST"), (2, u "PARTIAL_MANIFEST"), (2, u "DOCUMENT_TERMS"), (0, u "DOCUMENTS"), (0, u "FIELDS"), (0, u "PASSAGES"), (0, u "SCOPES"), (0, u "LEXICON"), (0, u "POSTINGS"), (0, u "FIELD_POSTINGS"), (0, u "PASSAGE_POSTINGS"), (0, u "TERM_FIELDS"), (0, u "STOP_WORDS"), (2, u "SCRATCH"), (5, u "(J)J"), (0, u "length")] 21

def k2c0 : Code := { maxStack := 4, maxLocals := 6, code := prog_71_method_4_code, exceptionTable := #[], attributes := #[] }
def k2m0 : Method := { name := "length", desc := "(J)J", sig := { parameters := [.long], returnType := some .long }, accessFlags := 8, code := some k2c0 }
def k2m1 : Method := { name := "<init>", desc := "()V", sig := { parameters := [], returnType := none }, accessFlags := 2, code := none }
/-- com/example/eliteset/eliteset/index/IndexFormat -/
def k2 : Class := { plain "com/example/eliteset/eliteset/index/IndexFormat" (some 0) with
  accessFlags := 48
  interfaces := #[]
  cf := some (fileOf pool2 7 #[] #[{ accessFlags := 8, nameIndex := 110, descriptorIndex := 109, attributes := #[] }, { accessFlags := 2, nameIndex := 29, descriptorIndex := 30, attributes := #[] }] 48 40 #[] #[{ accessFlags := 24, nameIndex := 74, descriptorIndex := 75, attributes := #[] }, { accessFlags := 24, nameIndex := 79, descriptorIndex := 80, attributes := #[] }, { accessFlags := 24, nameIndex := 82, descriptorIndex := 80, attributes := #[] }, { accessFlags := 24, nameIndex := 84, descriptorIndex := 75, attributes := #[] }, { accessFlags := 24, nameIndex := 87, descriptorIndex := 75, attributes := #[] }, { accessFlags := 24, nameIndex := 90, descriptorIndex := 75, attributes := #[] }, { accessFlags := 24, nameIndex := 91, descriptorIndex := 75, attributes := #[] }, { accessFlags := 24, nameIndex := 92, descriptorIndex := 75, attributes := #[] }, { accessFlags := 24, nameIndex := 93, descriptorIndex := 75, attributes := #[] }, { accessFlags := 24, nameIndex := 94, descriptorIndex := 75, attributes := #[] }, { accessFlags := 24, nameIndex := 95, descriptorIndex := 75, attributes := #[] }, { accessFlags := 24, nameIndex := 96, descriptorIndex := 75, attributes := #[] }, { accessFlags := 24, nameIndex := 97, descriptorIndex := 75, attributes := #[] }, { accessFlags := 24, nameIndex := 98, descriptorIndex := 75, attributes := #[] }, { accessFlags := 24, nameIndex := 99, descriptorIndex := 75, attributes := #[] }, { accessFlags := 24, nameIndex := 100, descriptorIndex := 75, attributes := #[] }, { accessFlags := 24, nameIndex := 72, descriptorIndex := 73, attributes := #[] }, { accessFlags := 26, nameIndex := 103, descriptorIndex := 75, attributes := #[] }])
  fields := #[{ name := "HEADER", type := (.object "java/lang/String"), accessFlags := 24, slot := 0, constantValue := 0 }, { name := "PAGE", type := .int, accessFlags := 24, slot := 1, constantValue := 0 }, { name := "CHECKSUM", type := .int, accessFlags := 24, slot := 2, constantValue := 0 }, { name := "MANIFEST", type := (.object "java/lang/String"), accessFlags := 24, slot := 3, constantValue := 0 }, { name := "PARTIAL_MANIFEST", type := (.object "java/lang/String"), accessFlags := 24, slot := 4, constantValue := 0 }, { name := "DOCUMENT_TERMS", type := (.object "java/lang/String"), accessFlags := 24, slot := 5, constantValue := 0 }, { name := "DOCUMENTS", type := (.object "java/lang/String"), accessFlags := 24, slot := 6, constantValue := 0 }, { name := "FIELDS", type := (.object "java/lang/String"), accessFlags := 24, slot := 7, constantValue := 0 }, { name := "PASSAGES", type := (.object "java/lang/String"), accessFlags := 24, slot := 8, constantValue := 0 }, { name := "SCOPES", type := (.object "java/lang/String"), accessFlags := 24, slot := 9, constantValue := 0 }, { name := "LEXICON", type := (.object "java/lang/String"), accessFlags := 24, slot := 10, constantValue := 0 }, { name := "POSTINGS", type := (.object "java/lang/String"), accessFlags := 24, slot := 11, constantValue := 0 }, { name := "FIELD_POSTINGS", type := (.object "java/lang/String"), accessFlags := 24, slot := 12, constantValue := 0 }, { name := "PASSAGE_POSTINGS", type := (.object "java/lang/String"), accessFlags := 24, slot := 13, constantValue := 0 }, { name := "TERM_FIELDS", type := (.object "java/lang/String"), accessFlags := 24, slot := 14, constantValue := 0 }, { name := "STOP_WORDS", type := (.object "java/lang/String"), accessFlags := 24, slot := 15, constantValue := 0 }, { name := "FILES", type := (.object "java/util/List"), accessFlags := 24, slot := 16, constantValue := 0 }, { name := "SCRATCH", type := (.object "java/lang/String"), accessFlags := 26, slot := 17, constantValue := 0 }]
  methods := #[k2m0, k2m1]
  instanceTypes := #[]
  staticTypes := #[(.object "java/lang/String"), .int, .int, (.object "java/lang/String"), (.object "java/lang/String"), (.object "java/lang/String"), (.object "java/lang/String"), (.object "java/lang/String"), (.object "java/lang/String"), (.object "java/lang/String"), (.object "java/lang/String"), (.object "java/lang/String"), (.object "java/lang/String"), (.object "java/lang/String"), (.object "java/lang/String"), (.object "java/lang/String"), (.object "java/util/List"), (.object "java/lang/String")]
  resolved := Array.replicate 132 none
  statics := none }

def pool3 : Array CpInfo := pool [(1, u "java/lang/Cloneable"), (0, .class_ 1), (0, u "java/lang/Object"), (0, .class_ 3)] 3

/-- java/lang/Cloneable -/
def k3 : Class := { plain "java/lang/Cloneable" (some 0) with
  accessFlags := 1537
  interfaces := #[]
  cf := some (fileOf pool3 2 #[] #[] 1537 4 #[] #[])
  fields := #[]
  methods := #[]
  instanceTypes := #[]
  staticTypes := #[]
  resolved := Array.replicate 8 none
  statics := none }

def pool4 : Array CpInfo := pool [(1, u "java/io/Serializable"), (0, .class_ 1), (0, u "java/lang/Object"), (0, .class_ 3)] 3

/-- java/io/Serializable -/
def k4 : Class := { plain "java/io/Serializable" (some 0) with
  accessFlags := 1537
  interfaces := #[]
  cf := some (fileOf pool4 2 #[] #[] 1537 4 #[] #[])
  fields := #[]
  methods := #[]
  instanceTypes := #[]
  staticTypes := #[]
  resolved := Array.replicate 8 none
  statics := none }

/-- the primitive byte -/
def k5 : Class := { plain "byte" none with kind := .primitive 'B', accessFlags := 0x411 }
/-- [B -/
def k6 : Class := { plain "[B" (some 0) with kind := .array 5 .byte, interfaces := #[3, 4], accessFlags := 1041 }

/-- the primitive int -/
def k7 : Class := { plain "int" none with kind := .primitive 'I', accessFlags := 0x411 }
/-- [I -/
def k8 : Class := { plain "[I" (some 0) with kind := .array 7 .int, interfaces := #[3, 4], accessFlags := 1041 }

def heap : Heap := #[]
def classes : Array Class := #[k0, k1, k2, k3, k4, k5, k6, k7, k8]
def interned : List (Array UInt16 × Addr) := []
def slotsUsed : Nat := 0
def theMethod : MethodId := ⟨1, 1⟩
def args0 : Array Value := #[.long 5, .int 7]
def aboutOver (below : List Frame) : State where
  vm := { classes := classes, interned := interned.toArray }
  heap := heap
  slotsUsed := slotsUsed
  threads := #[{ frames := .invoking theMethod args0 :: below }]
def below0 : List Frame := [.native { method := ⟨0, 0⟩, args := #[] }]
def about1 : State := aboutOver below0
def p0 : Program := .bare "" "" ""
def e0 : Env := launch0.env 0 0 0
theorem w_frames : about1.frames = Frame.invoking theMethod args0 :: below0 := rfl
set_option maxRecDepth 65536 in
theorem w_args : argsFit about1.vm theMethod args0 = true := by decide +kernel
set_option maxRecDepth 65536 in
theorem w_heap : heapFits about1 = true := by decide +kernel
set_option maxRecDepth 65536 in
theorem w_runnable : about1.curStatus? = some .runnable := by decide +kernel
set_option maxRecDepth 65536 in
theorem w_alone : about1.alone = true := by decide +kernel
set_option maxRecDepth 65536 in
theorem w_named : about1.methodNamed? x = some theMethod := by decide +kernel
set_option maxRecDepth 65536 in
theorem w_hears : about1.hears theMethod below0 = true := by decide +kernel
set_option maxRecDepth 65536 in
theorem w_ripe : about1.ripe theMethod args0 below0 = true := by decide +kernel
theorem w_running : about1.status = .running := rfl
set_option maxRecDepth 65536 in
theorem w_room : about1.hasRoom e0.platform room_1 = true :=
  launch0.hasRoom_least _ room_1 (by decide +kernel) (by decide +kernel) (by decide +kernel) (by decide +kernel) (by decide +kernel) (by decide +kernel)
theorem allAtoms_all (ts : List Jvm.Cond) (a : Array Jvm.Value) (st : Jvm.State) : (allAtoms ts).before a st = ts.all (fun c => c.before a st) := by
  induction ts with
  | nil => rfl
  | cons c t ih =>
    show (Jvm.Cond.and c (allAtoms t)).before a st = _
    rw [Jvm.Cond.before_and, ih, List.all_cons]
def words1 : List Jvm.Cond := Jvm.Cond.code x code maxLocals ret :: tables_1
/-- a 'code' word, met by the world's own term for the bytes: nothing is compared byte by byte -/
theorem code_word {y : MethodName} {bytes : ByteArray} {mx : Nat} {rt : Option FieldType} {a : Array Value} {s : State} {m : MethodId} {meth : Method} {c : Code} (h1 : s.methodNamed? y = some m) (h2 : s.vm.method? m = some meth) (h3 : meth.code = some c) (h4 : c.code = bytes)
    (h5 : (c.maxLocals == mx && c.exceptionTable.isEmpty && decide (c.maxStack ≤ mostOperands) && decide (meth.sig.returnType = rt) && !meth.locks && decide (parseMethodDescriptor y.desc = some meth.sig)) = true) : (Jvm.Cond.code y bytes mx rt).before a s = true := by
  simp only [Bool.and_eq_true, beq_iff_eq, Bool.not_eq_true', decide_eq_true_eq] at h5
  obtain ⟨⟨⟨⟨⟨g1, g2⟩, g3⟩, g4⟩, g5⟩, g6⟩ := h5
  simp [Cond.before, Cond.holds, Cond.value, h1, h2, h3, h4, g1, g2, g3, g4, g5, g6]
def isCode : Jvm.Cond → Bool
  | .code _ _ _ _ => true
  | _ => false
theorem all_split {L : List Jvm.Cond} {P : Jvm.Cond → Bool} (h1 : L.all (fun c => isCode c || P c) = true) (h2 : ∀ c ∈ L.filter isCode, P c = true) : L.all P = true := by
  refine List.all_eq_true.mpr fun c hc => ?_
  have h := List.all_eq_true.mp h1 c hc
  rcases Bool.eq_false_or_eq_true (isCode c) with hi | hi
  · exact h2 c (List.mem_filter.mpr ⟨hc, hi⟩)
  · simpa [hi] using h
set_option maxRecDepth 65536 in
theorem w_c0 : (Jvm.Cond.code x code maxLocals ret).before args0 about1 = true := code_word (m := ⟨1, 1⟩) (meth := k1m1) (c := k1c1) (by decide +kernel) rfl rfl rfl (by decide +kernel)
set_option maxRecDepth 65536 in
theorem w_c1 : (Jvm.Cond.code ({ cls := "com/example/eliteset/eliteset/index/IndexFormat", name := "length", desc := "(J)J" } : Jvm.MethodName) prog_71_method_4_code (6 : Nat) (Option.some Jvm.ClassFile.FieldType.long)).before args0 about1 = true := code_word (m := ⟨2, 0⟩) (meth := k2m0) (c := k2c0) (by decide +kernel) rfl rfl rfl (by decide +kernel)
def codes1 : List Jvm.Cond := [Jvm.Cond.code x code maxLocals ret, Jvm.Cond.code ({ cls := "com/example/eliteset/eliteset/index/IndexFormat", name := "length", desc := "(J)J" } : Jvm.MethodName) prog_71_method_4_code (6 : Nat) (Option.some Jvm.ClassFile.FieldType.long)]
set_option maxRecDepth 65536 in
theorem codes_eq : words1.filter isCode = codes1 := rfl
theorem w_codes : ∀ c ∈ words1.filter isCode, c.before args0 about1 = true := by
  rw [codes_eq]
  intro c hc
  simp only [codes1, List.mem_cons, List.not_mem_nil, or_false] at hc
  rcases hc with rfl | rfl
  · exact w_c0
  · exact w_c1
set_option maxRecDepth 65536 in
theorem w_t1 : words1.all (fun c => isCode c || c.before args0 about1) = true := by decide +kernel
theorem w_tables : (allAtoms (Jvm.Cond.code x code maxLocals ret :: tables_1)).before args0 about1 = true := by
  rw [allAtoms_all]
  show words1.all (fun c => c.before args0 about1) = true
  refine all_split ?_ w_codes
  rw [w_t1]
set_option maxRecDepth 65536 in
theorem w_case : (Jvm.Cond.and given_1 narrow_1).before args0 about1 = true := by decide +kernel
theorem w_applies : (headSpec (Jvm.Cond.code x code maxLocals ret :: tables_1) room_1).applies x e0.platform about1 = true :=
  (Spec.applies_iff w_frames).mpr ⟨w_running, w_runnable, w_alone, w_named, w_hears, w_ripe, w_room, w_tables⟩
theorem atStart : AtStart classFile x code maxLocals ret World_1 tables_1 room_1 Calls_1 rest_1 Pre_1 launch0 p0 e0 about1 theMethod args0 below0 :=
  ⟨lists_1, trivial, launch0.admits_env _ _ _, launch0.least_env, fairChoices_fair.cas, fairChoices_fair.clock, w_frames, w_args, w_heap, w_applies, trivial, trivial, w_case⟩
end start1
theorem witness_1 : WitnessClaimed_1 := ⟨start1.p0, start1.e0, start1.about1, start1.theMethod, start1.args0, start1.below0, start1.atStart⟩
end Jvm.Pilot.@@N@@
