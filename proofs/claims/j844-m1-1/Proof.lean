import JvmDerived
import JvmDerived.Pilot.@@N@@Statement
import JvmDerived.Pilot.@@N@@Code
set_option linter.unusedVariables false
set_option linter.unusedSimpArgs false
@@BLOCK:NumsL.lean.txt@@
namespace Jvm.Pilot.@@N@@
open Jvm Jvm.ClassFile Sem Op Lib Jvm.Free Jvm.Stand Jvm.LawKit Jvm.RoadKit Bundle Jvm.Pilot.@@N@@.Jvm.D
/-! ### own layer 1: plain steps by evaluation over a list of decoded instructions -/
def own_iushr (x y : Int32) : Int32 := (x.toUInt32 >>> (y &&& 31).toUInt32).toInt32
def own_ishl (x y : Int32) : Int32 := x <<< (y &&& 31)
def own_ishr (x y : Int32) : Int32 := x >>> (y &&& 31)
def own_irem (x y : Int32) : Int32 := x - (x / y) * y
def own_lrem (x y : Int64) : Int64 := x - (x / y) * y
def own_lushr (x : Int64) (y : Int32) : Int64 := (x.toUInt64 >>> (y &&& 0x3f).toInt64.toUInt64).toInt64
def own_lshl (x : Int64) (y : Int32) : Int64 := x <<< (y &&& 0x3f).toInt64
def own_lshr (x : Int64) (y : Int32) : Int64 := x >>> (y &&& 0x3f).toInt64
def own_i2b (x : Int32) : Int32 := x.toInt8.toInt32

abbrev own_R : Type := Option (Array Slot × List Value)
def own_i2 (f : Int32 → Int32 → Int32) (ls : Array Slot) : List Value → own_R
  | .int y :: .int x :: r => some (ls, .int (f x y) :: r)
  | _ => none
def own_i1 (f : Int32 → Value) (ls : Array Slot) : List Value → own_R
  | .int x :: r => some (ls, f x :: r)
  | _ => none
def own_l2 (f : Int64 → Int64 → Int64) (ls : Array Slot) : List Value → own_R
  | .long y :: .long x :: r => some (ls, .long (f x y) :: r)
  | _ => none
def own_lS (f : Int64 → Int32 → Int64) (ls : Array Slot) : List Value → own_R
  | .int y :: .long x :: r => some (ls, .long (f x y) :: r)
  | _ => none
def own_l1 (f : Int64 → Value) (ls : Array Slot) : List Value → own_R
  | .long x :: r => some (ls, f x :: r)
  | _ => none
def own_li (ls : Array Slot) (k : Nat) (st : List Value) : own_R :=
  match ls[k]? with
  | some (.val (.int v)) => some (ls, .int v :: st)
  | _ => none
def own_ll (ls : Array Slot) (k : Nat) (st : List Value) : own_R :=
  match ls[k]? with
  | some (.val (.long v)) => some (ls, .long v :: st)
  | _ => none
def own_la (ls : Array Slot) (k : Nat) (st : List Value) : own_R :=
  match ls[k]? with
  | some (.val (.ref v)) => some (ls, .ref v :: st)
  | some (.val .null) => some (ls, .null :: st)
  | _ => none
def own_sv (ls : Array Slot) (k : Nat) (v : Value) (r : List Value) : own_R :=
  match storeLocals ls k v with
  | some l' => some (l', r)
  | none => none
def own_si (ls : Array Slot) (k : Nat) : List Value → own_R
  | .int x :: r => own_sv ls k (.int x) r
  | _ => none
def own_sl (ls : Array Slot) (k : Nat) : List Value → own_R
  | .long x :: r => own_sv ls k (.long x) r
  | _ => none
def own_sa (ls : Array Slot) (k : Nat) : List Value → own_R
  | .ref x :: r => own_sv ls k (.ref x) r
  | .null :: r => own_sv ls k .null r
  | _ => none
def own_inc (ls : Array Slot) (k : Nat) (d : Int) (st : List Value) : own_R :=
  match ls[k]? with
  | some (.val (.int v)) => own_sv ls k (.int (v + Int32.ofInt d)) st
  | _ => none
def own_dup (ls : Array Slot) : List Value → own_R
  | .int x :: r => some (ls, .int x :: .int x :: r)
  | .ref x :: r => some (ls, .ref x :: .ref x :: r)
  | _ => none
def own_dupX (ls : Array Slot) : List Value → own_R
  | .int x :: .ref y :: r => some (ls, .int x :: .ref y :: .int x :: r)
  | _ => none
def own_pop (ls : Array Slot) : List Value → own_R
  | .int _ :: r => some (ls, r)
  | .ref _ :: r => some (ls, r)
  | _ => none

def own_p (i : Instr) (n : Nat) (ls : Array Slot) (st : List Value) : own_R :=
  match i, n with
  | .iconst k, 1 => some (ls, .int (Int32.ofInt k) :: st)
  | .bipush k, 2 => some (ls, .int (Int8.ofInt k).toInt32 :: st)
  | .sipush k, 3 => some (ls, .int (Int16.ofInt k).toInt32 :: st)
  | .lconst k, 1 => some (ls, .long (Int64.ofNat k) :: st)
  | .aconst_null, 1 => some (ls, .null :: st)
  | .iload_n k, 1 => own_li ls k.val st
  | .iload k, 2 => own_li ls k st
  | .lload_n k, 1 => own_ll ls k.val st
  | .lload k, 2 => own_ll ls k st
  | .aload_n k, 1 => own_la ls k.val st
  | .aload k, 2 => own_la ls k st
  | .istore_n k, 1 => own_si ls k.val st
  | .istore k, 2 => own_si ls k st
  | .lstore_n k, 1 => own_sl ls k.val st
  | .lstore k, 2 => own_sl ls k st
  | .astore_n k, 1 => own_sa ls k.val st
  | .astore k, 2 => own_sa ls k st
  | .iinc k d, 3 => own_inc ls k d st
  | .iadd, 1 => own_i2 (· + ·) ls st
  | .isub, 1 => own_i2 (· - ·) ls st
  | .imul, 1 => own_i2 (· * ·) ls st
  | .iand, 1 => own_i2 (· &&& ·) ls st
  | .ior, 1 => own_i2 (· ||| ·) ls st
  | .ixor, 1 => own_i2 (· ^^^ ·) ls st
  | .ishl, 1 => own_i2 own_ishl ls st
  | .ishr, 1 => own_i2 own_ishr ls st
  | .iushr, 1 => own_i2 own_iushr ls st
  | .ladd, 1 => own_l2 (· + ·) ls st
  | .lsub, 1 => own_l2 (· - ·) ls st
  | .lmul, 1 => own_l2 (· * ·) ls st
  | .land, 1 => own_l2 (· &&& ·) ls st
  | .lor, 1 => own_l2 (· ||| ·) ls st
  | .lxor, 1 => own_l2 (· ^^^ ·) ls st
  | .lshl, 1 => own_lS own_lshl ls st
  | .lshr, 1 => own_lS own_lshr ls st
  | .lushr, 1 => own_lS own_lushr ls st
  | .i2b, 1 => own_i1 (fun x => .int (own_i2b x)) ls st
  | .i2l, 1 => own_i1 (fun x => .long x.toInt64) ls st
  | .l2i, 1 => own_l1 (fun x => .int x.toInt32) ls st
  | .dup, 1 => own_dup ls st
  | .dup_x1, 1 => own_dupX ls st
  | .pop, 1 => own_pop ls st
  | _, _ => none

section Inv
variable {ls ls' : Array Slot} {st st' : List Value}
theorem own_i2_inv {f : Int32 → Int32 → Int32} (h : own_i2 f ls st = some (ls', st')) : ∃ x y r, st = .int y :: .int x :: r ∧ ls' = ls ∧ st' = .int (f x y) :: r := by
  unfold own_i2 at h; split at h
  · cases h; exact ⟨_, _, _, rfl, rfl, rfl⟩
  · cases h
theorem own_i1_inv {f : Int32 → Value} (h : own_i1 f ls st = some (ls', st')) : ∃ x r, st = .int x :: r ∧ ls' = ls ∧ st' = f x :: r := by
  unfold own_i1 at h; split at h
  · cases h; exact ⟨_, _, rfl, rfl, rfl⟩
  · cases h
theorem own_l2_inv {f : Int64 → Int64 → Int64} (h : own_l2 f ls st = some (ls', st')) : ∃ x y r, st = .long y :: .long x :: r ∧ ls' = ls ∧ st' = .long (f x y) :: r := by
  unfold own_l2 at h; split at h
  · cases h; exact ⟨_, _, _, rfl, rfl, rfl⟩
  · cases h
theorem own_lS_inv {f : Int64 → Int32 → Int64} (h : own_lS f ls st = some (ls', st')) : ∃ x y r, st = .int y :: .long x :: r ∧ ls' = ls ∧ st' = .long (f x y) :: r := by
  unfold own_lS at h; split at h
  · cases h; exact ⟨_, _, _, rfl, rfl, rfl⟩
  · cases h
theorem own_l1_inv {f : Int64 → Value} (h : own_l1 f ls st = some (ls', st')) : ∃ x r, st = .long x :: r ∧ ls' = ls ∧ st' = f x :: r := by
  unfold own_l1 at h; split at h
  · cases h; exact ⟨_, _, rfl, rfl, rfl⟩
  · cases h
theorem own_li_inv {k : Nat} (h : own_li ls k st = some (ls', st')) : ∃ v, ls[k]? = some (.val (.int v)) ∧ ls' = ls ∧ st' = .int v :: st := by
  unfold own_li at h; split at h
  · rename_i q; cases h; exact ⟨_, q, rfl, rfl⟩
  · cases h
theorem own_ll_inv {k : Nat} (h : own_ll ls k st = some (ls', st')) : ∃ v, ls[k]? = some (.val (.long v)) ∧ ls' = ls ∧ st' = .long v :: st := by
  unfold own_ll at h; split at h
  · rename_i q; cases h; exact ⟨_, q, rfl, rfl⟩
  · cases h
theorem own_la_inv {k : Nat} (h : own_la ls k st = some (ls', st')) : ∃ v : Value, v.isRef = true ∧ ls[k]? = some (.val v) ∧ ls' = ls ∧ st' = v :: st := by
  unfold own_la at h; split at h
  · rename_i q; cases h; exact ⟨_, rfl, q, rfl, rfl⟩
  · rename_i q; cases h; exact ⟨_, rfl, q, rfl, rfl⟩
  · cases h
theorem own_sv_inv {k : Nat} {v : Value} {r : List Value} (h : own_sv ls k v r = some (ls', st')) : storeLocals ls k v = some ls' ∧ st' = r := by
  unfold own_sv at h; split at h
  · rename_i q; cases h; exact ⟨q, rfl⟩
  · cases h
theorem own_si_inv {k : Nat} (h : own_si ls k st = some (ls', st')) : ∃ x, st = .int x :: st' ∧ storeLocals ls k (.int x) = some ls' := by
  unfold own_si at h; split at h
  · obtain ⟨h1, h2⟩ := own_sv_inv h; subst h2; exact ⟨_, rfl, h1⟩
  · cases h
theorem own_sl_inv {k : Nat} (h : own_sl ls k st = some (ls', st')) : ∃ x, st = .long x :: st' ∧ storeLocals ls k (.long x) = some ls' := by
  unfold own_sl at h; split at h
  · obtain ⟨h1, h2⟩ := own_sv_inv h; subst h2; exact ⟨_, rfl, h1⟩
  · cases h
theorem own_sa_inv {k : Nat} (h : own_sa ls k st = some (ls', st')) : ∃ x : Value, x.isRef = true ∧ st = x :: st' ∧ storeLocals ls k x = some ls' := by
  unfold own_sa at h; split at h
  · obtain ⟨h1, h2⟩ := own_sv_inv h; subst h2; exact ⟨_, rfl, rfl, h1⟩
  · obtain ⟨h1, h2⟩ := own_sv_inv h; subst h2; exact ⟨_, rfl, rfl, h1⟩
  · cases h
theorem own_inc_inv {k : Nat} {d : Int} (h : own_inc ls k d st = some (ls', st')) : ∃ x, ls[k]? = some (.val (.int x)) ∧ storeLocals ls k (.int (x + Int32.ofInt d)) = some ls' ∧ st' = st := by
  unfold own_inc at h; split at h
  · rename_i q; obtain ⟨h1, h2⟩ := own_sv_inv h; exact ⟨_, q, h1, h2⟩
  · cases h
theorem own_dup_inv (h : own_dup ls st = some (ls', st')) : ∃ (x : Value) (r : List Value), st = x :: r ∧ x.category = 1 ∧ ls' = ls ∧ st' = x :: x :: r := by
  unfold own_dup at h; split at h
  · cases h; exact ⟨_, _, rfl, rfl, rfl, rfl⟩
  · cases h; exact ⟨_, _, rfl, rfl, rfl, rfl⟩
  · cases h
theorem own_dupX_inv (h : own_dupX ls st = some (ls', st')) : ∃ (x y : Value) (r : List Value), st = x :: y :: r ∧ x.category = 1 ∧ y.category = 1 ∧ ls' = ls ∧ st' = x :: y :: x :: r := by
  unfold own_dupX at h; split at h
  · cases h; exact ⟨_, _, _, rfl, rfl, rfl, rfl, rfl⟩
  · cases h
theorem own_pop_inv (h : own_pop ls st = some (ls', st')) : ∃ (x : Value), st = x :: st' ∧ x.category = 1 ∧ ls' = ls := by
  unfold own_pop at h; split at h
  · cases h; exact ⟨_, rfl, rfl, rfl⟩
  · cases h; exact ⟨_, rfl, rfl, rfl⟩
  · cases h
end Inv

set_option maxHeartbeats 4000000 in
theorem own_p_ok {tb : Tables} [Ours tb] {e : Env} {below : List Frame} {T t : State} {m : MethodId} {c : Code} (h : At T m c below) (hx : tb.exec = Jvm.exec) {i : Instr} {n pc : Nat} {ls ls' : Array Slot} {st st' : List Value}
    (hd : decode c.code pc = .ok (i, n)) (hp : own_p i n ls st = some (ls', st')) (hr : Steps tb e below (T.setTop (mkF m (pc + n) ls' st')) t) : Steps tb e below (T.setTop (mkF m pc ls st)) t := by
  unfold own_p at hp
  split at hp
  · cases hp; exact XS.iconst h hx rfl hd hr
  · cases hp; exact XS.bipush h hx rfl hd hr
  · cases hp; exact XS.sipush h hx rfl hd hr
  · cases hp; exact XS.lconst h hx rfl hd hr
  · cases hp; exact XS.aconstNull h hx rfl hd hr
  · obtain ⟨v, q, rfl, rfl⟩ := own_li_inv hp; exact XS.iloadN h hx rfl hd q hr
  · obtain ⟨v, q, rfl, rfl⟩ := own_li_inv hp; exact XS.iload h hx rfl hd q hr
  · obtain ⟨v, q, rfl, rfl⟩ := own_ll_inv hp; exact XS.lloadN h hx rfl hd q hr
  · obtain ⟨v, q, rfl, rfl⟩ := own_ll_inv hp; exact XS.lload h hx rfl hd q hr
  · obtain ⟨v, q0, q, rfl, rfl⟩ := own_la_inv hp; exact XS.aloadN h hx rfl hd q q0 hr
  · obtain ⟨v, q0, q, rfl, rfl⟩ := own_la_inv hp; exact XS.aload h hx rfl hd q q0 hr
  · obtain ⟨x, rfl, q⟩ := own_si_inv hp; exact XS.istoreN h hx rfl hd rfl q hr
  · obtain ⟨x, rfl, q⟩ := own_si_inv hp; exact XS.istore h hx rfl hd rfl q hr
  · obtain ⟨x, rfl, q⟩ := own_sl_inv hp; exact XS.lstoreN h hx rfl hd rfl q hr
  · obtain ⟨x, rfl, q⟩ := own_sl_inv hp; exact XS.lstore h hx rfl hd rfl q hr
  · obtain ⟨x, q0, rfl, q⟩ := own_sa_inv hp; exact XS.astoreN h hx rfl hd rfl q0 q hr
  · obtain ⟨x, q0, rfl, q⟩ := own_sa_inv hp; exact XS.astore h hx rfl hd rfl q0 q hr
  · obtain ⟨x, q1, q2, rfl⟩ := own_inc_inv hp; exact XS.iinc h hx rfl hd q1 q2 hr
  · obtain ⟨x, y, r, rfl, rfl, rfl⟩ := own_i2_inv hp; exact XS.iadd h hx rfl hd rfl hr
  · obtain ⟨x, y, r, rfl, rfl, rfl⟩ := own_i2_inv hp; exact XS.isub h hx rfl hd rfl hr
  · obtain ⟨x, y, r, rfl, rfl, rfl⟩ := own_i2_inv hp; exact XS.imul h hx rfl hd rfl hr
  · obtain ⟨x, y, r, rfl, rfl, rfl⟩ := own_i2_inv hp; exact XS.iand h hx rfl hd rfl hr
  · obtain ⟨x, y, r, rfl, rfl, rfl⟩ := own_i2_inv hp; exact XS.ior h hx rfl hd rfl hr
  · obtain ⟨x, y, r, rfl, rfl, rfl⟩ := own_i2_inv hp; exact XS.ixor h hx rfl hd rfl hr
  · obtain ⟨x, y, r, rfl, rfl, rfl⟩ := own_i2_inv hp; exact XS.ishl h hx rfl hd rfl hr
  · obtain ⟨x, y, r, rfl, rfl, rfl⟩ := own_i2_inv hp; exact XS.ishr h hx rfl hd rfl hr
  · obtain ⟨x, y, r, rfl, rfl, rfl⟩ := own_i2_inv hp; exact XS.iushr h hx rfl hd rfl hr
  · obtain ⟨x, y, r, rfl, rfl, rfl⟩ := own_l2_inv hp; exact XS.ladd h hx rfl hd rfl hr
  · obtain ⟨x, y, r, rfl, rfl, rfl⟩ := own_l2_inv hp; exact XS.lsub h hx rfl hd rfl hr
  · obtain ⟨x, y, r, rfl, rfl, rfl⟩ := own_l2_inv hp; exact XS.lmul h hx rfl hd rfl hr
  · obtain ⟨x, y, r, rfl, rfl, rfl⟩ := own_l2_inv hp; exact XS.land h hx rfl hd rfl hr
  · obtain ⟨x, y, r, rfl, rfl, rfl⟩ := own_l2_inv hp; exact XS.lor h hx rfl hd rfl hr
  · obtain ⟨x, y, r, rfl, rfl, rfl⟩ := own_l2_inv hp; exact XS.lxor h hx rfl hd rfl hr
  · obtain ⟨x, y, r, rfl, rfl, rfl⟩ := own_lS_inv hp; exact XS.lshl h hx rfl hd rfl hr
  · obtain ⟨x, y, r, rfl, rfl, rfl⟩ := own_lS_inv hp; exact XS.lshr h hx rfl hd rfl hr
  · obtain ⟨x, y, r, rfl, rfl, rfl⟩ := own_lS_inv hp; exact XS.lushr h hx rfl hd rfl hr
  · obtain ⟨x, r, rfl, rfl, rfl⟩ := own_i1_inv hp; exact XS.i2b h hx rfl hd rfl hr
  · obtain ⟨x, r, rfl, rfl, rfl⟩ := own_i1_inv hp; exact XS.i2l h hx rfl hd rfl hr
  · obtain ⟨x, r, rfl, rfl, rfl⟩ := own_l1_inv hp; exact XS.l2i h hx rfl hd rfl hr
  · obtain ⟨x, r, rfl, q, rfl, rfl⟩ := own_dup_inv hp; exact XS.dup h hx rfl hd rfl q hr
  · obtain ⟨x, y, r, rfl, q1, q2, rfl, rfl⟩ := own_dupX_inv hp; exact XS.dupX1 h hx rfl hd rfl q1 q2 hr
  · obtain ⟨x, rfl, q, rfl⟩ := own_pop_inv hp; exact XS.pop h hx rfl hd rfl q hr
  · cases hp

/-- the list lies in the code from pc on, up to pc' -/
def own_d (code : ByteArray) : Nat → List (Instr × Nat) → Nat → Bool
  | pc, [], pc' => pc == pc'
  | pc, (i, n) :: L, pc' => decide (decode code pc = .ok (i, n)) && own_d code (pc + n) L pc'
def own_x : List (Instr × Nat) → Array Slot → List Value → own_R
  | [], ls, st => some (ls, st)
  | (i, n) :: L, ls, st => match own_p i n ls st with
    | some (ls', st') => own_x L ls' st'
    | none => none
theorem own_x_ok {tb : Tables} [Ours tb] {e : Env} {below : List Frame} {T t : State} {m : MethodId} {c : Code} (h : At T m c below) (hx : tb.exec = Jvm.exec) : ∀ (L : List (Instr × Nat)) {pc pc' : Nat} {ls ls' : Array Slot} {st st' : List Value},
    own_d c.code pc L pc' = true → own_x L ls st = some (ls', st') → Steps tb e below (T.setTop (mkF m pc' ls' st')) t → Steps tb e below (T.setTop (mkF m pc ls st)) t
  | [], pc, pc', ls, ls', st, st', hd, hr, k => by
    have e1 : pc = pc' := by simpa [own_d] using hd
    subst e1
    cases hr
    exact k
  | (i, n) :: L, pc, pc', ls, ls', st, st', hd, hr, k => by
    simp only [own_d, Bool.and_eq_true, decide_eq_true_eq] at hd
    simp only [own_x] at hr
    cases hq : own_p i n ls st with
    | none => rw [hq] at hr; cases hr
    | some q =>
      obtain ⟨l1, s1⟩ := q
      rw [hq] at hr
      exact own_p_ok h hx hd.1 hq (own_x_ok h hx L hd.2 hr k)

/-! ### own layer 2: where a walk stands, and that it comes to its end -/
def own_G (p : Program) (e : Env) (below : List Frame) (A : State) (Q : Outcome → State → Prop) : Prop :=
  ∃ s₂ o, Steps p.tables e below A s₂ ∧ s₂.status = .running ∧ Ended s₂ below o ∧ Q o s₂
theorem own_st {p : Program} {e : Env} {below : List Frame} {A A' : State} {Q : Outcome → State → Prop} (st : ∀ t, Steps p.tables e below A' t → Steps p.tables e below A t) (g : own_G p e below A' Q) : own_G p e below A Q := by
  obtain ⟨s2, o, h1, h2⟩ := g
  exact ⟨s2, o, st _ h1, h2⟩
def own_E (s : State) (n0 : Nat) (P : Option Value → Heap → Prop) (C S : Nat) (o : Outcome) (U : State) : Prop := ∃ v L, o = .returned v ∧ (Fr n0 L ∧ P v U.heap) ∧ FrameEnd s o U L C S
def own_X (p : Program) (l : Launch) (e : Env) (R : Room) (s : State) (m : MethodId) (args : Array Value) (below : List Frame) (meth : Method) (c : Code) (Z : State) (bytes : ByteArray) (maxL : Nat) (ret : Option FieldType) (y : MethodName) (n0 : Nat) (h : Heap) (T : State) (k n : Nat) : Prop :=
  (p.tables.exec = Jvm.exec ∧ c.code = bytes ∧ c.maxLocals = maxL ∧ s.vm.findClass y.cls = some m.cls ∧ meth.name = y.name ∧ meth.sig.returnType = ret ∧ Z.Warmed39 s.vm ∧ meth.locks = false) ∧
    n0 ≤ h.size ∧ T.heap = h ∧ ∃ locs, Stand p l e R s m args below meth c T locs k n ∧ Fr n0 locs
/-- a body's contract: from these arguments and this heap it returns, and P says what, and what heap it leaves -/
def own_C (l : Launch) (Z : State) (y : MethodName) (bytes : ByteArray) (maxL : Nat) (ret : Option FieldType) (rm : Room) (as : Array Value) (h0 : Heap) (n0 : Nat) (P : Option Value → Heap → Prop) : Prop :=
  ∀ ws : List Jvm.Cond, MetFree l y (head1 (Jvm.Cond.code y bytes maxL ret :: ws) rm) (fun a U => a = as ∧ Z.Warmed39 U.vm ∧ U.heap = h0) (fun _ _ _ _ _ => True)
    (fun _ U o U' => ∃ v L, o = .returned v ∧ (Fr n0 L ∧ P v U'.heap) ∧ FrameEnd U o U' L rm.cells rm.slots)
theorem own_body {l : Launch} {Z : State} {y : MethodName} {bytes : ByteArray} {maxL : Nat} {ret : Option FieldType} {rm : Room} {as : Array Value} {h0 : Heap} {n0 : Nat} {P : Option Value → Heap → Prop} (hpl : plainFor y = true) (h0n : n0 ≤ h0.size) {ls : Array Slot} (hef : ∀ m, entryFrame m as maxL = mkF m 0 ls [])
    (k : ∀ p e s m below meth c T, own_X p l e rm s m as below meth c Z bytes maxL ret y n0 h0 T 0 0 → own_G p e below (T.setTop (mkF m 0 ls [])) (own_E s n0 P rm.cells rm.slots)) : own_C l Z y bytes maxL ret rm as h0 n0 P := by
  intro ws
  refine MetFree.of_bodySF hpl hisR ?_
  intro p e s m args below meth c s₁ Bd hml0 hP hK
  obtain ⟨rfl, hZ, hh⟩ := hP
  have e0 : s₁.heap = h0 := by rw [← hh, Bd.state]; rfl
  have X0 : Stand p l e rm s m args below meth c s₁ [] 0 0 := Stand.of_body Bd
  have g := k p e s m below meth c s₁ ⟨⟨Bd.exec, Bd.bytes, hml0, findClass_of_methodNamed Bd.named, (name_of_methodNamed Bd.named Bd.method).1, Bd.returns, hZ, Bd.notSynchronized⟩, h0n, e0, [], X0, Fr.nil n0⟩
  rw [← hef m] at g
  exact g

section Walk
variable {p : Program} {l : Launch} {e : Env} {R : Room} {s : State} {m : MethodId} {args : Array Value} {below : List Frame} {meth : Method} {c : Code} {Z : State} {bytes : ByteArray} {maxL : Nat} {ret : Option FieldType} {y : MethodName} {n0 : Nat} {h : Heap} {T : State} {k n : Nat} {Q : Outcome → State → Prop} {pc pc' : Nat} {ls ls' : Array Slot} {st st' : List Value} {a0 : Array Value}
theorem own_blk (X : own_X p l e R s m args below meth c Z bytes maxL ret y n0 h T k n) (L : List (Instr × Nat)) (hd : own_d bytes pc L pc' = true) (hr : own_x L ls st = some (ls', st')) (g : own_G p e below (T.setTop (mkF m pc' ls' st')) Q) : own_G p e below (T.setTop (mkF m pc ls st)) Q := by
  obtain ⟨⟨hx, hby, -⟩, -, -, locs, X, -⟩ := X
  subst hby
  exact own_st (fun t q => own_x_ok X.here hx L hd hr q) g
/-! branches -/
def own_tg (pc : Nat) (o : Int) (pc' : Nat) : Bool := decide (0 ≤ (pc : Int) + o) && decide (((pc : Int) + o).toNat = pc')
def own_cI : ClassFile.Cond → Int → Int → Prop
  | .eq, x, y => x = y
  | .ne, x, y => ¬ x = y
  | .lt, x, y => x < y
  | .ge, x, y => y ≤ x
  | .gt, x, y => y < x
  | .le, x, y => x ≤ y
theorem own_icmp_iff (cd : ClassFile.Cond) (x y : Int32) : if_icmp.holds cd x y = true ↔ own_cI cd x.toInt y.toInt := by
  cases cd <;> simp [if_icmp.holds, own_cI, Int32.lt_iff_toInt_lt, Int32.le_iff_toInt_le, Int32.toInt_inj]
theorem own_if_iff (cd : ClassFile.Cond) (x : Int32) : ifCond.holds cd x = true ↔ own_cI cd x.toInt 0 := by
  rw [if0]; exact own_icmp_iff cd x 0
theorem own_l_iff (cd : ClassFile.Cond) (x y : Int64) : ifCond.holds cd (if x > y then 1 else if x = y then 0 else -1) = true ↔ own_cI cd x.toInt y.toInt := by
  rw [own_if_iff]
  have e1 : (x > y) = (y.toInt < x.toInt) := by rw [gt_iff_lt, Int64.lt_iff_toInt_lt]
  have e2 : (x = y) = (x.toInt = y.toInt) := by rw [Int64.toInt_inj]
  simp only [e1, e2]
  by_cases q1 : y.toInt < x.toInt
  · simp only [q1, if_true]
    have e3 : (1 : Int32).toInt = 1 := rfl
    cases cd <;> simp only [own_cI, e3] <;> omega
  · by_cases q2 : x.toInt = y.toInt
    · simp only [q1, q2, if_true, if_false]
      have e3 : (0 : Int32).toInt = 0 := rfl
      cases cd <;> simp [own_cI]
    · simp only [q1, q2, if_false]
      have e3 : (-1 : Int32).toInt = -1 := rfl
      cases cd <;> simp only [own_cI, e3] <;> omega
theorem own_tg_s {o : Int} (hp : own_tg pc o pc' = true) : 0 ≤ (pc : Int) + o ∧ ((pc : Int) + o).toNat = pc' := by
  simpa [own_tg] using hp
theorem own_goto (X : own_X p l e R s m args below meth c Z bytes maxL ret y n0 h T k n) {o : Int} (hd : decode bytes pc = .ok (.goto o, 3)) (hp : own_tg pc o pc' = true) (g : own_G p e below (T.setTop (mkF m pc' ls st)) Q) : own_G p e below (T.setTop (mkF m pc ls st)) Q := by
  obtain ⟨⟨hx, hby, -⟩, -, -, locs, X, -⟩ := X
  subst hby
  exact own_st (fun t q => XS.goto X.here hx rfl rfl hd (own_tg_s hp).1 (own_tg_s hp).2 q) g
theorem own_icmp (X : own_X p l e R s m args below meth c Z bytes maxL ret y n0 h T k n) {cd : ClassFile.Cond} {o : Int} {v w : Int32} (hd : decode bytes pc = .ok (.if_icmp cd o, 3)) (hp : own_tg pc o pc' = true) (gT : own_cI cd v.toInt w.toInt → own_G p e below (T.setTop (mkF m pc' ls st)) Q) (gF : ¬ own_cI cd v.toInt w.toInt → own_G p e below (T.setTop (mkF m (pc + 3) ls st)) Q) :
    own_G p e below (T.setTop (mkF m pc ls (.int w :: .int v :: st))) Q := by
  obtain ⟨⟨hx, hby, -⟩, -, -, locs, X, -⟩ := X
  subst hby
  cases hc : if_icmp.holds cd v w with
  | true => exact own_st (fun t q => XS.icmpYes X.here hx rfl rfl hd rfl hc (own_tg_s hp).1 (own_tg_s hp).2 q) (gT ((own_icmp_iff cd v w).mp hc))
  | false => exact own_st (fun t q => XS.icmpNo X.here hx rfl hd rfl hc q) (gF fun q => by rw [(own_icmp_iff cd v w).mpr q] at hc; cases hc)
theorem own_if (X : own_X p l e R s m args below meth c Z bytes maxL ret y n0 h T k n) {cd : ClassFile.Cond} {o : Int} {v : Int32} (hd : decode bytes pc = .ok (.ifCond cd o, 3)) (hp : own_tg pc o pc' = true) (gT : own_cI cd v.toInt 0 → own_G p e below (T.setTop (mkF m pc' ls st)) Q) (gF : ¬ own_cI cd v.toInt 0 → own_G p e below (T.setTop (mkF m (pc + 3) ls st)) Q) :
    own_G p e below (T.setTop (mkF m pc ls (.int v :: st))) Q := by
  obtain ⟨⟨hx, hby, -⟩, -, -, locs, X, -⟩ := X
  subst hby
  cases hc : ifCond.holds cd v with
  | true => exact own_st (fun t q => XS.ifYes X.here hx rfl rfl hd rfl hc (own_tg_s hp).1 (own_tg_s hp).2 q) (gT ((own_if_iff cd v).mp hc))
  | false => exact own_st (fun t q => XS.ifNo X.here hx rfl hd rfl hc q) (gF fun q => by rw [(own_if_iff cd v).mpr q] at hc; cases hc)
theorem own_lif (X : own_X p l e R s m args below meth c Z bytes maxL ret y n0 h T k n) {cd : ClassFile.Cond} {o : Int} {v w : Int64} (hd1 : decode bytes pc = .ok (.lcmp, 1)) (hd : decode bytes (pc + 1) = .ok (.ifCond cd o, 3)) (hp : own_tg (pc + 1) o pc' = true) (gT : own_cI cd v.toInt w.toInt → own_G p e below (T.setTop (mkF m pc' ls st)) Q) (gF : ¬ own_cI cd v.toInt w.toInt → own_G p e below (T.setTop (mkF m (pc + 4) ls st)) Q) :
    own_G p e below (T.setTop (mkF m pc ls (.long w :: .long v :: st))) Q := by
  obtain ⟨⟨hx, hby, -⟩, -, -, locs, X, -⟩ := X
  subst hby
  refine own_st (fun t q => XS.lcmp X.here hx rfl hd1 rfl q) ?_
  show own_G p e below (T.setTop (mkF m (pc + 1) ls (.int (if v > w then 1 else if v = w then 0 else -1) :: st))) Q
  cases hc : ifCond.holds cd (if v > w then 1 else if v = w then 0 else -1) with
  | true => exact own_st (fun t q => XS.ifYes X.here hx rfl rfl hd rfl hc (own_tg_s hp).1 (own_tg_s hp).2 q) (gT ((own_l_iff cd v w).mp hc))
  | false => exact own_st (fun t q => XS.ifNo X.here hx rfl hd rfl hc q) (gF fun q => by rw [(own_l_iff cd v w).mpr q] at hc; cases hc)
/-! division -/
theorem own_idiv (X : own_X p l e R s m args below meth c Z bytes maxL ret y n0 h T k n) {v w : Int32} (hd : decode bytes pc = .ok (.idiv, 1)) (hw : w ≠ 0) (g : own_G p e below (T.setTop (mkF m (pc + 1) ls (.int (v / w) :: st))) Q) : own_G p e below (T.setTop (mkF m pc ls (.int w :: .int v :: st))) Q := by
  obtain ⟨⟨hx, hby, -⟩, -, -, locs, X, -⟩ := X
  subst hby
  exact own_st (fun t q => XS.idiv X.here hx rfl hd rfl hw q) g
theorem own_iremS (X : own_X p l e R s m args below meth c Z bytes maxL ret y n0 h T k n) {v w : Int32} (hd : decode bytes pc = .ok (.irem, 1)) (hw : w ≠ 0) (g : own_G p e below (T.setTop (mkF m (pc + 1) ls (.int (own_irem v w) :: st))) Q) : own_G p e below (T.setTop (mkF m pc ls (.int w :: .int v :: st))) Q := by
  obtain ⟨⟨hx, hby, -⟩, -, -, locs, X, -⟩ := X
  subst hby
  exact own_st (fun t q => XS.irem X.here hx rfl hd rfl hw q) g
theorem own_ldiv (X : own_X p l e R s m args below meth c Z bytes maxL ret y n0 h T k n) {v w : Int64} (hd : decode bytes pc = .ok (.ldiv, 1)) (hw : w ≠ 0) (g : own_G p e below (T.setTop (mkF m (pc + 1) ls (.long (v / w) :: st))) Q) : own_G p e below (T.setTop (mkF m pc ls (.long w :: .long v :: st))) Q := by
  obtain ⟨⟨hx, hby, -⟩, -, -, locs, X, -⟩ := X
  subst hby
  exact own_st (fun t q => XS.ldiv X.here hx rfl hd rfl hw q) g
theorem own_lremS (X : own_X p l e R s m args below meth c Z bytes maxL ret y n0 h T k n) {v w : Int64} (hd : decode bytes pc = .ok (.lrem, 1)) (hw : w ≠ 0) (g : own_G p e below (T.setTop (mkF m (pc + 1) ls (.long (own_lrem v w) :: st))) Q) : own_G p e below (T.setTop (mkF m pc ls (.long w :: .long v :: st))) Q := by
  obtain ⟨⟨hx, hby, -⟩, -, -, locs, X, -⟩ := X
  subst hby
  exact own_st (fun t q => XS.lrem X.here hx rfl hd rfl hw q) g
/-! constants of the pool -/
theorem own_ldc (X : own_X p l e R s m args below meth c Z bytes maxL ret y n0 h T k n) {i : Nat} {v : Int32} (w : (Jvm.Cond.constant y.cls i v).before a0 Z = true) (hd : decode bytes pc = .ok (.ldc i, 2)) (g : own_G p e below (T.setTop (mkF m (pc + 2) ls (.int v :: st))) Q) : own_G p e below (T.setTop (mkF m pc ls st)) Q := by
  obtain ⟨⟨hx, hby, hml, hown, hnm, hret, hZ, hlk⟩, -, -, locs, X, -⟩ := X
  subst hby
  exact own_st (fun t q => X.ldcInt hx hown (mvT hZ w) (g := mkF m pc ls st) rfl hd t q) g
theorem own_ldc2 (X : own_X p l e R s m args below meth c Z bytes maxL ret y n0 h T k n) {i : Nat} {v : Int64} (w : (Jvm.Cond.constantLong y.cls i v).before a0 Z = true) (hd : decode bytes pc = .ok (.ldc2_w i, 3)) (g : own_G p e below (T.setTop (mkF m (pc + 3) ls (.long v :: st))) Q) : own_G p e below (T.setTop (mkF m pc ls st)) Q := by
  obtain ⟨⟨hx, hby, hml, hown, hnm, hret, hZ, hlk⟩, -, -, locs, X, -⟩ := X
  subst hby
  exact own_st (fun t q => X.ldc2Long hx hown (mvT hZ w) (g := mkF m pc ls st) rfl hd t q) g
/-! returns -/
variable {P : Option Value → Heap → Prop} {C S : Nat}
theorem own_retI (X : own_X p l e R s m args below meth c Z bytes maxL (some .int) y n0 h T k n) (hd : decode bytes pc = .ok (.ireturn, 1)) {v : Int32} (hk : k ≤ C) (hn : n ≤ S) (hP : P (some (.int v)) h) : own_G p e below (T.setTop (mkF m pc ls (.int v :: st))) (own_E s n0 P C S) := by
  obtain ⟨⟨hx, hby, hml, hown, hnm, hret, hZ, hlk⟩, -, eT, locs, X, N⟩ := X
  subst hby
  obtain ⟨fs, hr, hrun, hended, hW, hsame⟩ := X.leave (v := some (.int v)) (fun q => by rw [hret] at q; cases q)
  refine ⟨_, _, ?_, hrun, hended, _, _, rfl, ⟨N, by show P _ T.heap; rw [eT]; exact hP⟩, ⟨_, rfl⟩, hW, hsame.mono hk hn⟩
  have hm' : T.vm.method? m = some meth := X.method'
  have hnn : narrow .int (.int v) = .int v := rfl
  show Steps p.tables e below (T.setTop { method := m, pc := pc, locals := ls, stack := _ :: st, locked := none }) _
  jvm_step X.here [X.here.top, hx, hd, hm', hret, hnn]
  first | (intro acts; rw [hr _ acts rfl rfl rfl]) | rw [hr _ _ rfl rfl rfl]
  exact Steps.refl _
theorem own_retN {t : FieldType} (X : own_X p l e R s m args below meth c Z bytes maxL (some t) y n0 h T k n) (ht : t = .boolean ∨ t = .byte ∨ t = .char ∨ t = .short) (hd : decode bytes pc = .ok (.ireturn, 1)) {v v' : Int32} (hv : nar t v = v') (hk : k ≤ C) (hn : n ≤ S) (hP : P (some (.int v')) h) : own_G p e below (T.setTop (mkF m pc ls (.int v :: st))) (own_E s n0 P C S) := by
  obtain ⟨⟨hx, hby, hml, hown, hnm, hret, hZ, hlk⟩, -, eT, locs, X, N⟩ := X
  subst hby hv
  obtain ⟨fs, hr, hrun, hended, hW, hsame⟩ := X.leave (v := some (.int (nar t v))) (fun q => by rw [hret] at q; cases q)
  exact ⟨_, _, retN X hx hret ht hd hr, hrun, hended, _, _, rfl, ⟨N, by show P _ T.heap; rw [eT]; exact hP⟩, ⟨_, rfl⟩, hW, hsame.mono hk hn⟩
theorem own_retL (X : own_X p l e R s m args below meth c Z bytes maxL (some .long) y n0 h T k n) (hd : decode bytes pc = .ok (.lreturn, 1)) {v : Int64} (hk : k ≤ C) (hn : n ≤ S) (hP : P (some (.long v)) h) : own_G p e below (T.setTop (mkF m pc ls [.long v])) (own_E s n0 P C S) := by
  obtain ⟨⟨hx, hby, hml, hown, hnm, hret, hZ, hlk⟩, -, eT, locs, X, N⟩ := X
  subst hby
  obtain ⟨fs, hr, hrun, hended, hW, hsame⟩ := X.leave (v := some (.long v)) (fun q => by rw [hret] at q; cases q)
  exact ⟨_, _, X.lreturnOut hx hret hd hr, hrun, hended, _, _, rfl, ⟨N, by show P _ T.heap; rw [eT]; exact hP⟩, ⟨_, rfl⟩, hW, hsame.mono hk hn⟩
theorem own_retA {t : FieldType} (X : own_X p l e R s m args below meth c Z bytes maxL (some t) y n0 h T k n) (ht : t.isReference = true) (hd : decode bytes pc = .ok (.areturn, 1)) {v : Addr} (hk : k ≤ C) (hn : n ≤ S) (hP : P (some (.ref v)) h) : own_G p e below (T.setTop (mkF m pc ls [.ref v])) (own_E s n0 P C S) := by
  obtain ⟨⟨hx, hby, hml, hown, hnm, hret, hZ, hlk⟩, -, eT, locs, X, N⟩ := X
  subst hby
  obtain ⟨fs, hr, hrun, hended, hW, hsame⟩ := X.leave (v := some (.ref v)) (fun q => by rw [hret] at q; cases q)
  exact ⟨_, _, X.areturnOut hx rfl hret ht hd hr, hrun, hended, _, _, rfl, ⟨N, by show P _ T.heap; rw [eT]; exact hP⟩, ⟨_, rfl⟩, hW, hsame.mono hk hn⟩
theorem own_retV (X : own_X p l e R s m args below meth c Z bytes maxL none y n0 h T k n) (hd : decode bytes pc = .ok (.return_, 1)) (hk : k ≤ C) (hn : n ≤ S) (hP : P none h) : own_G p e below (T.setTop (mkF m pc ls [])) (own_E s n0 P C S) := by
  obtain ⟨⟨hx, hby, hml, hown, hnm, hret, hZ, hlk⟩, -, eT, locs, X, N⟩ := X
  subst hby
  obtain ⟨fs, hr, hrun, hended, hW, hsame⟩ := X.leave (v := none) (fun _ => rfl)
  exact ⟨_, _, X.returnOut hx hret hd hr, hrun, hended, _, _, rfl, ⟨N, by show P _ T.heap; rw [eT]; exact hP⟩, ⟨_, rfl⟩, hW, hsame.mono hk hn⟩
/-! calls -/
theorem own_callS (X : own_X p l e R s m args below meth c Z bytes maxL ret y n0 h T k n) {i : Nat} {z : MethodName} {zb : ByteArray} {zl : Nat} {zr : Option FieldType} {rm : Room} {as : Array Value} {P : Option Value → Heap → Prop}
    (w1 : (Jvm.Cond.methodLink y.cls i z).before a0 Z = true) (w2 : (Jvm.Cond.static z).before a0 Z = true) (w3 : (Jvm.Cond.initialized z.cls).before a0 Z = true) (w4 : (Jvm.Cond.code z zb zl zr).before a0 Z = true) (hy : z.cls ≠ "java/lang/invoke/MethodHandle" ∧ z.cls ≠ "java/lang/invoke/VarHandle")
    (K : own_C l Z z zb zl zr rm as h n0 P) (hd : decode bytes pc = .ok (.invokestatic i, 3)) (argsL rest : List Value) (hst : st = argsL.reverse ++ rest) (has : argsL.toArray = as) {ps : List FieldType} {pr : Option FieldType} (hsg : parseMethodDescriptor z.desc = some ⟨ps, pr⟩) (hlen : argsL.length = ps.length) (hsz : ls.size = maxL)
    (hf : rm.frames + 1 ≤ R.frames) (hl : (rest.map fun v => v.category).sum + (zl + 11) + rm.locals ≤ R.locals) (hc : k + rm.cells ≤ R.cells) (hs : n + rm.slots ≤ R.slots) (hn : ∀ v h', P v h' → n0 ≤ h'.size)
    (g : ∀ v h' T', own_X p l e R s m args below meth c Z bytes maxL ret y n0 h' T' (k + rm.cells) (n + rm.slots) → P v h' → own_G p e below (T'.setTop (mkF m (pc + 3) ls (v.toList ++ rest))) Q) : own_G p e below (T.setTop (mkF m pc ls st)) Q := by
  obtain ⟨M, hn0, eT, locs, X, N⟩ := X
  have M' := M
  obtain ⟨hx, hby, hml, hown, hnm, hret, hZ, hlk⟩ := M'
  subst hby hst has
  obtain ⟨v, vm₁, B, -, X', ⟨L, hq, l1, l2, l3⟩, stp⟩ := Jvm.LawKit.callS X hx (y := z) hown (mvT hZ w1) (mvT hZ w2) (mvT hZ w3) (mvT hZ w4) hy (backOf (W := (rest.map fun v => v.category).sum) (Q := fun v h' L => Fr n0 L ∧ P v h') (K []) hZ w4 w3 hf hl) (g := mkF m pc ls (argsL.reverse ++ rest)) rfl (hsz.trans hml.symm) (argsL := argsL) (rest := rest)
    (lenOf hsg hlen) rfl (Nat.le_of_eq (Nat.zero_add _)) hd (fun _ _ => ⟨rfl, eT, hc, hs⟩)
  obtain ⟨U, Lc, k', n'⟩ := B
  dsimp only [Pt.U, Pt.locs, Pt.cells, Pt.slots] at X' hq l1 l2 l3 stp
  subst l1 l2 l3
  exact own_st stp (g v U.heap U ⟨M, hn v _ hq.2, rfl, _, X', Fr.app N hq.1⟩ hq.2)
theorem own_callP (X : own_X p l e R s m args below meth c Z bytes maxL ret y n0 h T k n) {i : Nat} {z : MethodName} {zb : ByteArray} {zl : Nat} {zr : Option FieldType} {rm : Room} {as : Array Value} {v : Option Value}
    (w1 : (Jvm.Cond.methodLink y.cls i z).before a0 Z = true) (w2 : (Jvm.Cond.static z).before a0 Z = true) (w3 : (Jvm.Cond.initialized z.cls).before a0 Z = true) (w4 : (Jvm.Cond.code z zb zl zr).before a0 Z = true) (hy : z.cls ≠ "java/lang/invoke/MethodHandle" ∧ z.cls ≠ "java/lang/invoke/VarHandle")
    (K : own_C l Z z zb zl zr rm as h n0 (fun v' h' => v' = v ∧ h' = h)) (hd : decode bytes pc = .ok (.invokestatic i, 3)) (argsL rest : List Value) (hst : st = argsL.reverse ++ rest) (has : argsL.toArray = as) {ps : List FieldType} {pr : Option FieldType} (hsg : parseMethodDescriptor z.desc = some ⟨ps, pr⟩) (hlen : argsL.length = ps.length) (hsz : ls.size = maxL)
    (hf : rm.frames + 1 ≤ R.frames) (hl : (rest.map fun v => v.category).sum + (zl + 11) + rm.locals ≤ R.locals) (hc : k + rm.cells ≤ R.cells) (hs : n + rm.slots ≤ R.slots)
    (g : ∀ T', own_X p l e R s m args below meth c Z bytes maxL ret y n0 h T' (k + rm.cells) (n + rm.slots) → own_G p e below (T'.setTop (mkF m (pc + 3) ls (v.toList ++ rest))) Q) : own_G p e below (T.setTop (mkF m pc ls st)) Q :=
  own_callS X w1 w2 w3 w4 hy K hd argsL rest hst has hsg hlen hsz hf hl hc hs (fun v h' q => by rw [q.2]; exact X.2.1) (fun v' h' T' X' q => by obtain ⟨q1, q2⟩ := q; subst q1; rw [q2] at X'; exact g T' X')
theorem own_callN (X : own_X p l e R s m args below meth c Z bytes maxL ret y n0 h T k n) {i : Nat} {z : MethodName} {zb : ByteArray} {zl : Nat} {rm : Room} {as : Array Value} {P : Option Value → Heap → Prop} (hz : z.name = "<init>")
    (w1 : (Jvm.Cond.methodLink y.cls i z).before a0 Z = true) (w2 : (Jvm.Cond.instanceMethod z).before a0 Z = true) (w3 : (Jvm.Cond.initialized z.cls).before a0 Z = true) (w4 : (Jvm.Cond.code z zb zl none).before a0 Z = true) (hy : z.cls ≠ "java/lang/invoke/MethodHandle" ∧ z.cls ≠ "java/lang/invoke/VarHandle")
    (K : own_C l Z z zb zl none rm as h n0 P) (hd : decode bytes pc = .ok (.invokespecial i, 3)) {a : Addr} (argsL rest : List Value) (hst : st = argsL.reverse ++ .ref a :: rest) (has : (.ref a :: argsL).toArray = as) {ps : List FieldType} {pr : Option FieldType} (hsg : parseMethodDescriptor z.desc = some ⟨ps, pr⟩) (hlen : argsL.length = ps.length) (hsz : ls.size = maxL)
    (hf : rm.frames + 1 ≤ R.frames) (hl : (rest.map fun v => v.category).sum + (zl + 11) + rm.locals ≤ R.locals) (hc : k + rm.cells ≤ R.cells) (hs : n + rm.slots ≤ R.slots) (hn : ∀ v h', P v h' → n0 ≤ h'.size)
    (g : ∀ v h' T', own_X p l e R s m args below meth c Z bytes maxL ret y n0 h' T' (k + rm.cells) (n + rm.slots) → P v h' → own_G p e below (T'.setTop (mkF m (pc + 3) ls (v.toList ++ rest))) Q) : own_G p e below (T.setTop (mkF m pc ls st)) Q := by
  obtain ⟨M, hn0, eT, locs, X, N⟩ := X
  have M' := M
  obtain ⟨hx, hby, hml, hown, hnm, hret, hZ, hlk⟩ := M'
  subst hby hst has
  obtain ⟨v, vm₁, B, -, X', ⟨L, hq, l1, l2, l3⟩, stp⟩ := X.specialBack hx (y := z) hz hown (mvT hZ w1) (mvT hZ w2) (mvT hZ w4) hy (backOf (W := (rest.map fun v => v.category).sum) (Q := fun v h' L => Fr n0 L ∧ P v h') (K []) hZ w4 w3 hf hl) (g := mkF m pc ls (argsL.reverse ++ .ref a :: rest)) rfl (hsz.trans hml.symm) (Steps.refl _) (a := a) (argsL := argsL) (rest := rest)
    (lenOf hsg hlen) rfl (Nat.le_of_eq (Nat.zero_add _)) hd (fun _ _ => ⟨rfl, eT, hc, hs⟩)
  obtain ⟨U, Lc, k', n'⟩ := B
  dsimp only [Pt.U, Pt.locs, Pt.cells, Pt.slots] at X' hq l1 l2 l3 stp
  subst l1 l2 l3
  exact own_st (fun t q => stp.trans q) (g v U.heap U ⟨M, hn v _ hq.2, rfl, _, X', Fr.app N hq.1⟩ hq.2)
theorem own_callV (X : own_X p l e R s m args below meth c Z bytes maxL ret y n0 h T k n) {i : Nat} {z : MethodName} {zb : ByteArray} {zl : Nat} {zr : Option FieldType} {rm : Room} {as : Array Value} {P : Option Value → Heap → Prop}
    (w1 : (Jvm.Cond.methodLink y.cls i z).before a0 Z = true) (w2 : (Jvm.Cond.declares z).before a0 Z = true) (w5 : (Jvm.Cond.selects z.cls z z).before a0 Z = true) (w6 : (Jvm.Cond.instanceMethod z).before a0 Z = true) (w3 : (Jvm.Cond.initialized z.cls).before a0 Z = true) (w4 : (Jvm.Cond.code z zb zl zr).before a0 Z = true) (hy : z.cls ≠ "java/lang/invoke/MethodHandle" ∧ z.cls ≠ "java/lang/invoke/VarHandle")
    {a : Addr} (E : Exa Z h a z.cls) (K : own_C l Z z zb zl zr rm as h n0 P) (hd : decode bytes pc = .ok (.invokevirtual i, 3)) (argsL rest : List Value) (hst : st = argsL.reverse ++ .ref a :: rest) (has : (.ref a :: argsL).toArray = as) {ps : List FieldType} {pr : Option FieldType} (hsg : parseMethodDescriptor z.desc = some ⟨ps, pr⟩) (hlen : argsL.length = ps.length) (hsz : ls.size = maxL)
    (hf : rm.frames + 1 ≤ R.frames) (hl : (rest.map fun v => v.category).sum + (zl + 11) + rm.locals ≤ R.locals) (hc : k + rm.cells ≤ R.cells) (hs : n + rm.slots ≤ R.slots) (hn : ∀ v h', P v h' → n0 ≤ h'.size)
    (g : ∀ v h' T', own_X p l e R s m args below meth c Z bytes maxL ret y n0 h' T' (k + rm.cells) (n + rm.slots) → P v h' → own_G p e below (T'.setTop (mkF m (pc + 3) ls (v.toList ++ rest))) Q) : own_G p e below (T.setTop (mkF m pc ls st)) Q := by
  obtain ⟨M, hn0, eT, locs, X, N⟩ := X
  have M' := M
  obtain ⟨hx, hby, hml, hown, hnm, hret, hZ, hlk⟩ := M'
  subst hby hst has
  obtain ⟨cq, kq, qa, qb, qc⟩ := isOf hZ eT E
  obtain ⟨v, vm₁, B, -, X', ⟨L, hq, l1, l2, l3⟩, stp⟩ := X.virtualBack hx (y := z) (z := z) hown (mvT hZ w1) (mvT hZ w2) (notFace_of_selects (args := #[]) (mvT hZ w5)) (mvT hZ w5) (mvT hZ w6) hy (backOf (W := (rest.map fun v => v.category).sum) (Q := fun v h' L => Fr n0 L ∧ P v h') (K []) hZ w4 w3 hf hl) qa qc (g := mkF m pc ls (argsL.reverse ++ .ref a :: rest)) rfl (hsz.trans hml.symm) (Steps.refl _) (argsL := argsL) (rest := rest)
    (lenOf hsg hlen) rfl (Nat.le_of_eq (Nat.zero_add _)) hd (fun _ _ => ⟨rfl, eT, hc, hs⟩)
  obtain ⟨U, Lc, k', n'⟩ := B
  dsimp only [Pt.U, Pt.locs, Pt.cells, Pt.slots] at X' hq l1 l2 l3 stp
  subst l1 l2 l3
  exact own_st (fun t q => stp.trans q) (g v U.heap U ⟨M, hn v _ hq.2, rfl, _, X', Fr.app N hq.1⟩ hq.2)
/-! fields -/
theorem own_getF (X : own_X p l e R s m args below meth c Z bytes maxL ret y n0 h T k n) {i : Nat} {O f d : String} (w : (Jvm.Cond.fieldLink y.cls i O f d).before a0 Z = true) {a : Addr} {v : Value} (F : Fld Z h a O f d v) (hd : decode bytes pc = .ok (.getfield i, 3))
    (g : ∀ T', own_X p l e R s m args below meth c Z bytes maxL ret y n0 h T' k n → own_G p e below (T'.setTop (mkF m (pc + 3) ls (v :: st))) Q) : own_G p e below (T.setTop (mkF m pc ls (.ref a :: st))) Q := by
  obtain ⟨M, hn0, eT, locs, X, N⟩ := X
  have M' := M
  obtain ⟨hx, hby, hml, hown, hnm, hret, hZ, hlk⟩ := M'
  subst hby
  obtain ⟨T', X', e', stp⟩ := getF X hx hZ hown (host := "") (Or.inl w) Via.refl eT F (g := mkF m pc ls (.ref a :: st)) rfl rfl hd
  exact own_st stp (g T' ⟨M, hn0, e', _, X', N⟩)
theorem own_putF (X : own_X p l e R s m args below meth c Z bytes maxL ret y n0 h T k n) {i kk : Nat} {O f d K : String} {ty : FieldType} (w : (Jvm.Cond.fieldLink y.cls i O f d).before a0 Z = true) {a : Addr} {v old : Value} (F : Fld Z h a O f d old) (E : Exa Z h a K) (L : (Jvm.Cond.lays K O f d).before a0 Z = true ∨ ((Jvm.Cond.laysFinal K O f d).before a0 Z = true ∧ y.cls = O ∧ y.name = "<init>")) (wi : (Jvm.Cond.instantiable K kk).before a0 Z = true)
    (hty : parseFieldDescriptor d = some ty) (hn : narrow ty v = v) (hf : fits ty v = true) (ha : n0 ≤ a) (hd : decode bytes pc = .ok (.putfield i, 3))
    (g : ∀ h' T', own_X p l e R s m args below meth c Z bytes maxL ret y n0 h' T' k n → Wr h h' a (Jvm.RoadKit.slotOf Z O f d) v → own_G p e below (T'.setTop (mkF m (pc + 3) ls st)) Q) : own_G p e below (T.setTop (mkF m pc ls (v :: .ref a :: st))) Q := by
  obtain ⟨M, hn0, eT, locs, X, N⟩ := X
  have M' := M
  obtain ⟨hx, hby, hml, hown, hnm, hret, hZ, hlk⟩ := M'
  subst hby
  obtain ⟨T', h', X', e', W', stp⟩ := putF X hx hZ hown (host := "") (Or.inl w) Via.refl eT F E (L.imp id fun q => ⟨q.1, q.2.1, hnm.trans q.2.2⟩) wi hty hn hf (g := mkF m pc ls (v :: .ref a :: st)) rfl rfl hd
  exact own_st stp (g h' T' ⟨M, by rw [W'.size]; exact hn0, e', _, X', Fr.snoc X' N ha⟩ W')
/-! new -/
theorem own_newO (X : own_X p l e R s m args below meth c Z bytes maxL ret y n0 h T k n) {i nn : Nat} {K : String} (w : (Jvm.Cond.classLink y.cls i K).before a0 Z = true) (wi : (Jvm.Cond.instantiable K nn).before a0 Z = true) (wz : (Jvm.Cond.initialized K).before a0 Z = true) (hd : decode bytes pc = .ok (.new i, 3)) (hc : k + 1 ≤ R.cells) (hs : n + nn ≤ R.slots)
    (g : ∀ h' T', own_X p l e R s m args below meth c Z bytes maxL ret y n0 h' T' (k + 1) (n + nn) → Ext h h' → Exa Z h' h.size K → (∀ {O nm d : String} {ty : FieldType}, Laid Z a0 K O nm d → parseFieldDescriptor d = some ty → Fld Z h' h.size O nm d (defaultValue ty)) → own_G p e below (T'.setTop (mkF m (pc + 3) ls (.ref h.size :: st))) Q) : own_G p e below (T.setTop (mkF m pc ls st)) Q := by
  obtain ⟨M, hn0, eT, locs, X, N⟩ := X
  have M' := M
  obtain ⟨hx, hby, hml, hown, hnm, hret, hZ, hlk⟩ := M'
  subst hby
  obtain ⟨T', h', X', e', E', A', D', -, stp⟩ := newO X hx hZ hown w wi wz eT (g := mkF m pc ls st) rfl hd hc hs
  exact own_st stp (g h' T' ⟨M, Nat.le_trans hn0 E'.1, e', _, X', N⟩ E' A' D')
end Walk
/-! ### own layer 3: arrays: the array at a has n places, place j holds f j -/
def own_A (Z : State) (h : Heap) (a : Addr) (ty : FieldType) (n : Nat) (f : Int → Value) : Prop := n < 2147483648 ∧ ∃ c : Cell, Arr Z h a c ty ∧ c.slots.size = n ∧ ∀ j : Nat, j < n → c.slots[j]? = some (f (j : Int))
def own_u {α : Type} (f : Int → α) (i : Int) (x : α) : Int → α := fun j => if j = i then x else f j
section Arrs
variable {Z : State} {h h' : Heap} {a b : Addr} {ty : FieldType} {n : Nat} {f : Int → Value}
theorem own_A_lt (A : own_A Z h a ty n f) : a < h.size := by obtain ⟨-, c, A, -⟩ := A; exact A.lt
theorem own_A_ext (A : own_A Z h a ty n f) (E : Ext h h') : own_A Z h' a ty n f := by obtain ⟨q, c, A, r⟩ := A; exact ⟨q, c, A.ext E, r⟩
theorem own_A_other (A : own_A Z h b ty n f) {sl : Nat} {v : Value} (W : Wr h h' a sl v) (q : b ≠ a) : own_A Z h' b ty n f := by obtain ⟨q1, c, A, r⟩ := A; exact ⟨q1, c, A.other W q, r⟩
theorem own_A_keep (A : own_A Z h a ty n f) {ws : List Addr} (K : Keep h h' ws) (q : a ∉ ws) : own_A Z h' a ty n f := by obtain ⟨q1, c, A, r⟩ := A; exact ⟨q1, c, ⟨K.2.1 a c A.1 q, A.2⟩, r⟩
theorem own_A_new {k : ClassId} {z : Int32} (A : Arr Z h a (newA k ty z) ty) (q : 0 ≤ z.toInt) : own_A Z h a ty z.toInt.toNat (fun _ => defaultValue ty) := by
  have := Int32.toInt_lt z
  refine ⟨by omega, _, A, by rw [sz_new]; rfl, fun j hj => ?_⟩
  have hj' : j < z.toNatClampNeg := hj
  simp [newA, hj']
theorem own_A_set {sl : Nat} {v : Value} (A : own_A Z h a ty n f) (W : Wr h h' a sl v) (i : Int) (hi : i = (sl : Int)) : own_A Z h' a ty n (own_u f i v) := by
  obtain ⟨q, c, A, S, H⟩ := A
  have W0 := W
  obtain ⟨c2, g1, -, g3, -⟩ := W0
  cases g1.symm.trans A.1
  refine ⟨q, _, A.same W, by rw [sz_set]; exact S, fun j hj => ?_⟩
  subst hi
  by_cases u : j = sl
  · subst u; simp [Cell.setSlot, own_u, g3]
  · have e1 : ¬ ((j : Int) = (sl : Int)) := by omega
    simp only [own_u, e1, if_false, Cell.setSlot]
    rw [Array.getElem?_setIfInBounds_ne (fun q => u q.symm)]
    exact H j hj
theorem own_A_eq {g : Int → Value} (A : own_A Z h a ty n f) (q : ∀ j : Int, 0 ≤ j → j < n → g j = f j) : own_A Z h a ty n g := by
  obtain ⟨q1, c, A, S, H⟩ := A
  exact ⟨q1, c, A, S, fun j hj => by rw [H j hj, q j (by omega) (by omega)]⟩
theorem own_tnc (j : Int32) : j.toNatClampNeg = j.toInt.toNat := rfl
theorem own_z32 : (0 : Int32).toInt = 0 := rfl
theorem own_idx {j : Int32} (h0 : 0 ≤ j.toInt) : ¬ j < 0 := by rw [Int32.lt_iff_toInt_lt, own_z32]; omega
theorem own_inb {j : Int32} {cl : Cell} (S : cl.slots.size = n) (h0 : 0 ≤ j.toInt) (h1 : j.toInt < n) : ¬ (j < 0 ∨ cl.slots.size ≤ j.toNatClampNeg) := by
  rw [Int32.lt_iff_toInt_lt, S, own_z32, own_tnc]; omega
theorem own_nat {j : Int32} (h0 : 0 ≤ j.toInt) : j.toInt = (j.toNatClampNeg : Int) := by rw [own_tnc]; omega
end Arrs
/-- the same, of ints -/
def own_I (Z : State) (h : Heap) (a : Addr) (ty : FieldType) (n : Nat) (g : Int → Int32) : Prop := own_A Z h a ty n (fun j => .int (g j))
theorem own_I_ext {Z : State} {h h' : Heap} {a : Addr} {ty : FieldType} {n : Nat} {g : Int → Int32} (A : own_I Z h a ty n g) (E : Ext h h') : own_I Z h' a ty n g := own_A_ext A E
theorem own_I_other {Z : State} {h h' : Heap} {a b : Addr} {ty : FieldType} {n : Nat} {g : Int → Int32} (A : own_I Z h b ty n g) {sl : Nat} {v : Value} (W : Wr h h' a sl v) (q : b ≠ a) : own_I Z h' b ty n g := own_A_other A W q
theorem own_I_keep {Z : State} {h h' : Heap} {a : Addr} {ty : FieldType} {n : Nat} {g : Int → Int32} (A : own_I Z h a ty n g) {ws : List Addr} (K : Keep h h' ws) (q : a ∉ ws) : own_I Z h' a ty n g := own_A_keep A K q
theorem own_I_eq {Z : State} {h : Heap} {a : Addr} {ty : FieldType} {n : Nat} {f g : Int → Int32} (A : own_I Z h a ty n f) (q : ∀ j : Int, 0 ≤ j → j < n → g j = f j) : own_I Z h a ty n g := own_A_eq A (fun j h0 h1 => by rw [q j h0 h1])
theorem own_I_set {Z : State} {h h' : Heap} {a : Addr} {ty : FieldType} {n : Nat} {g : Int → Int32} {sl : Nat} {x : Int32} (A : own_I Z h a ty n g) (W : Wr h h' a sl (.int x)) (i : Int) (hi : i = (sl : Int)) : own_I Z h' a ty n (own_u g i x) :=
  own_A_eq (own_A_set A W i hi) (fun j _ _ => by simp only [own_u]; split <;> rfl)
theorem own_u_ne {α : Type} {g : Int → α} {i j : Int} {x : α} (h : j ≠ i) : own_u g i x j = g j := if_neg h
theorem own_u_eq {α : Type} {g : Int → α} {i j : Int} {x : α} (h : j = i) : own_u g i x j = x := if_pos h
section Arrs2
variable {p : Program} {l : Launch} {e : Env} {R : Room} {s : State} {m : MethodId} {args : Array Value} {below : List Frame} {meth : Method} {c : Code} {Z : State} {bytes : ByteArray} {maxL : Nat} {ret : Option FieldType} {y : MethodName} {n0 : Nat} {h : Heap} {T : State} {k n : Nat} {Q : Outcome → State → Prop} {pc pc' : Nat} {ls ls' : Array Slot} {st st' : List Value} {a0 : Array Value} {a : Addr} {nn : Nat} {f : Int → Value} {gg : Int → Int32}
theorem own_len (X : own_X p l e R s m args below meth c Z bytes maxL ret y n0 h T k n) {ty : FieldType} (A : own_A Z h a ty nn f) (hd : decode bytes pc = .ok (.arraylength, 1)) (g : own_G p e below (T.setTop (mkF m (pc + 1) ls (.int (Int32.ofNat nn) :: st))) Q) : own_G p e below (T.setTop (mkF m pc ls (.ref a :: st))) Q := by
  obtain ⟨⟨hx, hby, hml, hown, hnm, hret, hZ, hlk⟩, hn0, eT, locs, X, N⟩ := X
  obtain ⟨q, cl, A, S, H⟩ := A
  subst hby
  refine own_st (fun t q => X.arraylength hx (by rw [eT]; exact A.1) (State.isArrayOf_alike hZ.alike A.2.1) (g := mkF m pc ls (.ref a :: st)) rfl rfl hd t q) ?_
  show own_G p e below (T.setTop (mkF m (pc + 1) ls (.int cl.slots.size.toInt32 :: st))) Q
  rw [S]
  exact g
theorem own_iald (X : own_X p l e R s m args below meth c Z bytes maxL ret y n0 h T k n) (A : own_I Z h a .int nn gg) (hd : decode bytes pc = .ok (.iaload, 1)) {j : Int32} (h0 : 0 ≤ j.toInt) (h1 : j.toInt < nn) (g : own_G p e below (T.setTop (mkF m (pc + 1) ls (.int (gg j.toInt) :: st))) Q) : own_G p e below (T.setTop (mkF m pc ls (.int j :: .ref a :: st))) Q := by
  obtain ⟨⟨hx, hby, hml, hown, hnm, hret, hZ, hlk⟩, hn0, eT, locs, X, N⟩ := X
  obtain ⟨q, cl, A, S, H⟩ := A
  subst hby
  have e1 := own_nat h0
  refine own_st (fun t q => X.iaload hx (by rw [eT]; exact A.1) (State.isArrayOf_alike hZ.alike A.2.1) A.2.2 (own_inb S h0 h1) (H _ (by omega)) (g := mkF m pc ls (.int j :: .ref a :: st)) rfl rfl hd t q) ?_
  show own_G p e below (T.setTop (mkF m (pc + 1) ls (.int (gg (j.toNatClampNeg : Int)) :: st))) Q
  rw [← e1]
  exact g
theorem own_bald (X : own_X p l e R s m args below meth c Z bytes maxL ret y n0 h T k n) (A : own_I Z h a .byte nn gg) (hd : decode bytes pc = .ok (.baload, 1)) {j : Int32} (h0 : 0 ≤ j.toInt) (h1 : j.toInt < nn) (g : own_G p e below (T.setTop (mkF m (pc + 1) ls (.int (gg j.toInt) :: st))) Q) : own_G p e below (T.setTop (mkF m pc ls (.int j :: .ref a :: st))) Q := by
  obtain ⟨⟨hx, hby, hml, hown, hnm, hret, hZ, hlk⟩, hn0, eT, locs, X, N⟩ := X
  obtain ⟨q, cl, A, S, H⟩ := A
  subst hby
  have e1 := own_nat h0
  refine own_st (fun t q => X.baloadBytes hx (by rw [eT]; exact A.1) (State.isArrayOf_alike hZ.alike A.2.1) A.2.2 (own_inb S h0 h1) (H _ (by omega)) (g := mkF m pc ls (.int j :: .ref a :: st)) rfl rfl hd t q) ?_
  show own_G p e below (T.setTop (mkF m (pc + 1) ls (.int (gg (j.toNatClampNeg : Int)) :: st))) Q
  rw [← e1]
  exact g
theorem own_zald (X : own_X p l e R s m args below meth c Z bytes maxL ret y n0 h T k n) (A : own_I Z h a .boolean nn gg) (hd : decode bytes pc = .ok (.baload, 1)) {j : Int32} (h0 : 0 ≤ j.toInt) (h1 : j.toInt < nn) (g : own_G p e below (T.setTop (mkF m (pc + 1) ls (.int (gg j.toInt) :: st))) Q) : own_G p e below (T.setTop (mkF m pc ls (.int j :: .ref a :: st))) Q := by
  obtain ⟨⟨hx, hby, hml, hown, hnm, hret, hZ, hlk⟩, hn0, eT, locs, X, N⟩ := X
  obtain ⟨q, cl, A, S, H⟩ := A
  subst hby
  have e1 := own_nat h0
  refine own_st (fun t q => X.baloadBooleans hx (by rw [eT]; exact A.1) (State.isArrayOf_alike hZ.alike A.2.1) A.2.2 (own_inb S h0 h1) (H _ (by omega)) (g := mkF m pc ls (.int j :: .ref a :: st)) rfl rfl hd t q) ?_
  show own_G p e below (T.setTop (mkF m (pc + 1) ls (.int (gg (j.toNatClampNeg : Int)) :: st))) Q
  rw [← e1]
  exact g
theorem own_iast (X : own_X p l e R s m args below meth c Z bytes maxL ret y n0 h T k n) (A : own_I Z h a .int nn gg) (ha : n0 ≤ a) (hd : decode bytes pc = .ok (.iastore, 1)) {j x : Int32} (h0 : 0 ≤ j.toInt) (h1 : j.toInt < nn)
    (g : ∀ h' T', own_X p l e R s m args below meth c Z bytes maxL ret y n0 h' T' k n → own_I Z h' a .int nn (own_u gg j.toInt x) → Wr h h' a j.toNatClampNeg (.int x) → own_G p e below (T'.setTop (mkF m (pc + 1) ls st)) Q) : own_G p e below (T.setTop (mkF m pc ls (.int x :: .int j :: .ref a :: st))) Q := by
  obtain ⟨M, hn0, eT, locs, X, N⟩ := X
  have M' := M
  obtain ⟨hx, hby, hml, hown, hnm, hret, hZ, hlk⟩ := M'
  have AA := A
  obtain ⟨q, cl, A, S, H⟩ := A
  subst hby
  obtain ⟨T', h', X', e', W', stp⟩ := stI X hx hZ eT A (own_inb S h0 h1) (g := mkF m pc ls (.int x :: .int j :: .ref a :: st)) rfl rfl hd
  exact own_st stp (g h' T' ⟨M, by rw [W'.size]; exact hn0, e', _, X', Fr.snoc X' N ha⟩ (own_I_set AA W' _ (own_nat h0)) W')
theorem own_bast (X : own_X p l e R s m args below meth c Z bytes maxL ret y n0 h T k n) (A : own_I Z h a .byte nn gg) (ha : n0 ≤ a) (hd : decode bytes pc = .ok (.bastore, 1)) {j x : Int32} (h0 : 0 ≤ j.toInt) (h1 : j.toInt < nn) (hx8 : x.toInt8.toInt32 = x)
    (g : ∀ h' T', own_X p l e R s m args below meth c Z bytes maxL ret y n0 h' T' k n → own_I Z h' a .byte nn (own_u gg j.toInt x) → Wr h h' a j.toNatClampNeg (.int x) → own_G p e below (T'.setTop (mkF m (pc + 1) ls st)) Q) : own_G p e below (T.setTop (mkF m pc ls (.int x :: .int j :: .ref a :: st))) Q := by
  obtain ⟨M, hn0, eT, locs, X, N⟩ := X
  have M' := M
  obtain ⟨hx, hby, hml, hown, hnm, hret, hZ, hlk⟩ := M'
  have AA := A
  obtain ⟨q, cl, A, S, H⟩ := A
  subst hby
  obtain ⟨T', h', X', e', W', stp⟩ := stB X hx hZ eT A (own_inb S h0 h1) (g := mkF m pc ls (.int x :: .int j :: .ref a :: st)) rfl rfl hd
  have W2 : Wr h h' a j.toNatClampNeg (.int x) := by have q := W'; simp only [nar, hx8] at q; exact q
  exact own_st stp (g h' T' ⟨M, by rw [W'.size]; exact hn0, e', _, X', Fr.snoc X' N ha⟩ (own_I_set AA W2 _ (own_nat h0)) W2)
theorem own_zast (X : own_X p l e R s m args below meth c Z bytes maxL ret y n0 h T k n) (A : own_I Z h a .boolean nn gg) (ha : n0 ≤ a) (hd : decode bytes pc = .ok (.bastore, 1)) {j x : Int32} (h0 : 0 ≤ j.toInt) (h1 : j.toInt < nn) (hx1 : x &&& 1 = x)
    (g : ∀ h' T', own_X p l e R s m args below meth c Z bytes maxL ret y n0 h' T' k n → own_I Z h' a .boolean nn (own_u gg j.toInt x) → Wr h h' a j.toNatClampNeg (.int x) → own_G p e below (T'.setTop (mkF m (pc + 1) ls st)) Q) : own_G p e below (T.setTop (mkF m pc ls (.int x :: .int j :: .ref a :: st))) Q := by
  obtain ⟨M, hn0, eT, locs, X, N⟩ := X
  have M' := M
  obtain ⟨hx, hby, hml, hown, hnm, hret, hZ, hlk⟩ := M'
  have AA := A
  obtain ⟨q, cl, A, S, H⟩ := A
  subst hby
  obtain ⟨T', h', X', e', W', stp⟩ := stZ X hx hZ eT A (own_inb S h0 h1) (g := mkF m pc ls (.int x :: .int j :: .ref a :: st)) rfl rfl hd
  have W2 : Wr h h' a j.toNatClampNeg (.int x) := by have q := W'; simp only [nar, hx1] at q; exact q
  exact own_st stp (g h' T' ⟨M, by rw [W'.size]; exact hn0, e', _, X', Fr.snoc X' N ha⟩ (own_I_set AA W2 _ (own_nat h0)) W2)
theorem own_jast (X : own_X p l e R s m args below meth c Z bytes maxL ret y n0 h T k n) (A : own_A Z h a .long nn f) (ha : n0 ≤ a) (hd : decode bytes pc = .ok (.lastore, 1)) {j : Int32} {x : Int64} (h0 : 0 ≤ j.toInt) (h1 : j.toInt < nn)
    (g : ∀ h' T', own_X p l e R s m args below meth c Z bytes maxL ret y n0 h' T' k n → own_A Z h' a .long nn (own_u f j.toInt (.long x)) → Wr h h' a j.toNatClampNeg (.long x) → own_G p e below (T'.setTop (mkF m (pc + 1) ls st)) Q) : own_G p e below (T.setTop (mkF m pc ls (.long x :: .int j :: .ref a :: st))) Q := by
  obtain ⟨M, hn0, eT, locs, X, N⟩ := X
  have M' := M
  obtain ⟨hx, hby, hml, hown, hnm, hret, hZ, hlk⟩ := M'
  have AA := A
  obtain ⟨q, cl, A, S, H⟩ := A
  subst hby
  obtain ⟨T', h', X', e', W', stp⟩ := stJ X hx hZ eT A (own_inb S h0 h1) (g := mkF m pc ls (.long x :: .int j :: .ref a :: st)) rfl rfl hd
  exact own_st stp (g h' T' ⟨M, by rw [W'.size]; exact hn0, e', _, X', Fr.snoc X' N ha⟩ (own_A_set AA W' _ (own_nat h0)) W')
theorem own_newP (X : own_X p l e R s m args below meth c Z bytes maxL ret y n0 h T k n) {aty : ArrayType} (w : (Jvm.Cond.arrayClass (newarray.typeOf aty)).before a0 Z = true) (hd : decode bytes pc = .ok (.newarray aty, 2)) {v : Int32} (h0 : 0 ≤ v.toInt) (cap : Nat) (hcap : v.toInt ≤ cap) (hb : cap * 8 ≤ 536870912) (hc : k + 1 ≤ R.cells) (hs : n + cap ≤ R.slots)
    (g : ∀ h' T', own_X p l e R s m args below meth c Z bytes maxL ret y n0 h' T' (k + 1) (n + cap) → Ext h h' → own_A Z h' h.size (newarray.typeOf aty) v.toInt.toNat (fun _ => defaultValue (newarray.typeOf aty)) → own_G p e below (T'.setTop (mkF m (pc + 2) ls (.ref h.size :: st))) Q) : own_G p e below (T.setTop (mkF m pc ls (.int v :: st))) Q := by
  obtain ⟨M, hn0, eT, locs, X, N⟩ := X
  have M' := M
  obtain ⟨hx, hby, hml, hown, hnm, hret, hZ, hlk⟩ := M'
  subst hby
  have e1 := own_nat h0
  obtain ⟨T', h', cA, X', e', E', A', stp⟩ := newP X hx hZ w eT (g := mkF m pc ls (.int v :: st)) rfl hd rfl (own_idx h0) (cap := cap) (by omega) hb hc hs
  exact own_st stp (g h' T' ⟨M, Nat.le_trans hn0 E'.1, e', _, X', N⟩ E' (own_A_new A' h0))
theorem own_newI (X : own_X p l e R s m args below meth c Z bytes maxL ret y n0 h T k n) {aty : ArrayType} (w : (Jvm.Cond.arrayClass (newarray.typeOf aty)).before a0 Z = true) (hdf : defaultValue (newarray.typeOf aty) = .int 0) (hd : decode bytes pc = .ok (.newarray aty, 2)) {v : Int32} (h0 : 0 ≤ v.toInt) (cap : Nat) (hcap : v.toInt ≤ cap) (hb : cap * 8 ≤ 536870912) (hc : k + 1 ≤ R.cells) (hs : n + cap ≤ R.slots)
    (g : ∀ h' T', own_X p l e R s m args below meth c Z bytes maxL ret y n0 h' T' (k + 1) (n + cap) → Ext h h' → own_I Z h' h.size (newarray.typeOf aty) v.toInt.toNat (fun _ => 0) → own_G p e below (T'.setTop (mkF m (pc + 2) ls (.ref h.size :: st))) Q) : own_G p e below (T.setTop (mkF m pc ls (.int v :: st))) Q :=
  own_newP X w hd h0 cap hcap hb hc hs (fun h' T' X' E A => g h' T' X' E (own_A_eq A fun _ _ _ => hdf.symm))
end Arrs2
/-! ### own numbers -/
theorem own_addc {x k : Int32} {d : Int} (hk : k.toInt = d) (h1 : -2147483648 ≤ x.toInt + d) (h2 : x.toInt + d < 2147483648) : (x + k).toInt = x.toInt + d := by
  subst hk; exact Jvm.Kit.i32_add (by omega) (by omega)
theorem own_subc {x k : Int32} {d : Int} (hk : k.toInt = d) (h1 : -2147483648 ≤ x.toInt - d) (h2 : x.toInt - d < 2147483648) : (x - k).toInt = x.toInt - d := by
  subst hk; exact Jvm.Kit.i32_sub (by omega) (by omega)
theorem own_mulc {x k : Int32} {d : Int} (hk : k.toInt = d) (h1 : -2147483648 ≤ x.toInt * d) (h2 : x.toInt * d < 2147483648) : (x * k).toInt = x.toInt * d := by
  subst hk; exact Jvm.Kit.i32_mul (by omega) (by omega)
theorem own_i2b_int (x : Int32) : (own_i2b x).toInt = x.toInt.bmod 256 := by
  simp [own_i2b, Int8.toInt_toInt32, Int32.toInt_toInt8]
theorem own_i2b_b (x : Int32) : -128 ≤ (own_i2b x).toInt ∧ (own_i2b x).toInt < 128 ∧ (own_i2b x).toInt % 256 = x.toInt % 256 := by
  rw [own_i2b_int]
  have h1 := Int.bmod_emod (x := x.toInt) (m := 256)
  have h2 := Int.le_bmod (x := x.toInt) (m := 256) (by decide)
  have h3 := Int.bmod_lt (x := x.toInt) (m := 256) (by decide)
  omega
theorem own_i2b_fix (x : Int32) : (own_i2b x).toInt8.toInt32 = own_i2b x := by
  simp [own_i2b]
theorem own_i2b_id {x : Int32} (h1 : -128 ≤ x.toInt) (h2 : x.toInt < 128) : own_i2b x = x := by
  apply Int32.toInt_inj.mp
  have := own_i2b_b x
  omega
theorem own_irem_int (x y : Int32) : (own_irem x y).toInt = x.toInt.tmod y.toInt := by
  have a := (x % y).toInt_lt; have b := (x % y).le_toInt
  rw [Int32.toInt_mod] at a b
  rw [own_irem, Int32.toInt_sub, Int32.toInt_mul, Int32.toInt_div, Int.bmod_mul_bmod, Int.sub_bmod_bmod, Int.mul_comm, ← Int.tmod_def]
  exact Jvm.Kit.bmod32 b a
theorem own_irem_pos {x y : Int32} (h : 0 ≤ x.toInt) : (own_irem x y).toInt = x.toInt % y.toInt := by rw [own_irem_int, Int.tmod_eq_emod_of_nonneg h]
theorem own_idiv_pos {x y : Int32} (h : 0 ≤ x.toInt) : (x / y).toInt = x.toInt / y.toInt := by
  have a := x.toInt_lt
  rw [Jvm.Kit.i32_div (by omega), Int.tdiv_eq_ediv_of_nonneg h]
theorem own_lrem_pos {x y : Int64} (h : 0 ≤ x.toInt) : (own_lrem x y).toInt = x.toInt % y.toInt := by rw [own_lrem]; exact Jvm.Kit.i64_rem_nonneg h
theorem own_ldiv_pos {x y : Int64} (h : 0 ≤ x.toInt) : (x / y).toInt = x.toInt / y.toInt := by
  have a := x.toInt_lt
  rw [Jvm.Kit.i64_div (by omega), Int.tdiv_eq_ediv_of_nonneg h]
/-! bits -/
theorem own_lushr_bv (x : Int64) (y : Int32) (k : Nat) (hk : ((y &&& 0x3f).toInt64.toBitVec % 64).toNat = k) : (own_lushr x y).toBitVec = x.toBitVec >>> k := by
  simp only [own_lushr, UInt64.toBitVec_toInt64, UInt64.toBitVec_shiftRight, Int64.toBitVec_toUInt64, BitVec.ushiftRight_eq', hk]
theorem own_lshl_bv (x : Int64) (y : Int32) (k : Nat) (hk : ((y &&& 0x3f).toInt64.toBitVec.smod 64#64).toNat = k) : (own_lshl x y).toBitVec = x.toBitVec <<< k := by
  have e : (own_lshl x y).toBitVec = x.toBitVec <<< ((y &&& 0x3f).toInt64.toBitVec.smod 64#64) := rfl
  rw [e, BitVec.shiftLeft_eq', hk]
theorem own_iushr_bv (x : Int32) (y : Int32) (k : Nat) (hk : ((y &&& 31).toBitVec % 32).toNat = k) : (own_iushr x y).toBitVec = x.toBitVec >>> k := by
  simp only [own_iushr, UInt32.toBitVec_toInt32, UInt32.toBitVec_shiftRight, Int32.toBitVec_toUInt32, BitVec.ushiftRight_eq', hk]
theorem own_iushr_int (x y : Int32) (k : Nat) (hk : ((y &&& 31).toBitVec % 32).toNat = k) (h : 0 ≤ x.toInt) : (own_iushr x y).toInt = x.toInt / 2 ^ k := by
  have e : (own_iushr x y).toInt = (own_iushr x y).toBitVec.toInt := rfl
  have e1 : x.toInt = x.toBitVec.toInt := rfl
  rw [e, own_iushr_bv x y k hk, e1]
  rw [e1] at h
  have h2 : x.toBitVec.toInt = (x.toBitVec.toNat : Int) := by
    rw [BitVec.toInt_eq_toNat_cond] at h ⊢
    split at h
    · rw [if_pos (by assumption)]
    · have := x.toBitVec.isLt; omega
  have h3 : 2 * x.toBitVec.toNat < 2 ^ 32 := by
    have := BitVec.toInt_lt (x := x.toBitVec); omega
  rw [BitVec.toInt_eq_toNat_cond, BitVec.toNat_ushiftRight, Nat.shiftRight_eq_div_pow]
  have h4 : x.toBitVec.toNat / 2 ^ k ≤ x.toBitVec.toNat := Nat.div_le_self _ _
  rw [if_pos (by omega), h2, Int.natCast_ediv, Int.natCast_pow]
  rfl
theorem own_pos_nat {x : Int32} (h : 0 ≤ x.toInt) : x.toInt = (x.toBitVec.toNat : Int) := by
  have e : x.toInt = x.toBitVec.toInt := rfl
  rw [e] at h ⊢
  rw [BitVec.toInt_eq_toNat_cond] at h ⊢
  have := x.toBitVec.isLt
  split at h
  · rw [if_pos (by assumption)]
  · omega
theorem own_nat_pos {x : Int32} {n : Nat} (h : x.toBitVec.toNat = n) (hn : n < 2147483648) : x.toInt = (n : Int) := by
  have e : x.toInt = x.toBitVec.toInt := rfl
  rw [e, BitVec.toInt_eq_toNat_cond, h, if_pos (by omega)]
/-- an or of a multiple of 2^k and what lies below 2^k is their sum -/
theorem own_or {x y : Int32} (k : Nat) (hx : 0 ≤ x.toInt) (hx2 : x.toInt % 2 ^ k = 0) (hy : 0 ≤ y.toInt) (hy2 : y.toInt < 2 ^ k) : (x ||| y).toInt = x.toInt + y.toInt := by
  have e1 := own_pos_nat hx
  have e2 := own_pos_nat hy
  have b1 := Int32.toInt_lt x
  have b2 := Int32.toInt_lt y
  have hm : x.toBitVec.toNat % 2 ^ k = 0 := by
    rw [e1] at hx2
    have : ((x.toBitVec.toNat % 2 ^ k : Nat) : Int) = 0 := by rw [Int.natCast_emod, Int.natCast_pow]; exact hx2
    omega
  have hl : y.toBitVec.toNat < 2 ^ k := by
    rw [e2] at hy2
    have : (y.toBitVec.toNat : Int) < ((2 ^ k : Nat) : Int) := by rw [Int.natCast_pow]; exact hy2
    omega
  have hd : x.toBitVec.toNat = 2 ^ k * (x.toBitVec.toNat / 2 ^ k) := by
    have := Nat.div_add_mod x.toBitVec.toNat (2 ^ k); omega
  have e3 : (x ||| y).toBitVec.toNat = x.toBitVec.toNat + y.toBitVec.toNat := by
    rw [Int32.toBitVec_or, BitVec.toNat_or]
    generalize y.toBitVec.toNat = b at *
    rw [hd, ← Nat.two_pow_add_eq_or_of_lt hl]
  have hlt : (x ||| y).toBitVec.toNat < 2147483648 := by
    rw [Int32.toBitVec_or, BitVec.toNat_or]
    exact Nat.or_lt_two_pow (n := 31) (by omega) (by omega)
  rw [own_nat_pos e3 (by omega)]
  omega
theorem own_mask (x m : Int32) (k : Nat) (hk : k < 32) (hm : m.toBitVec.toNat = 2 ^ k - 1) : (x &&& m).toInt = x.toInt % 2 ^ k := Jvm.Kit.i32_mask x m hk hm
/-! the high bits of a byte -/
theorem own_fin256 {x : Int32} (h0 : 0 ≤ x.toInt) (h1 : x.toInt < 256) : ∃ n : Fin 256, x = Int32.ofNat n.val ∧ x.toInt = (n.val : Int) := by
  refine ⟨⟨x.toInt.toNat, by omega⟩, ?_, by show x.toInt = (x.toInt.toNat : Int); omega⟩
  apply Int32.toInt_inj.mp
  rw [Int32.toInt_ofNat_of_lt (by show x.toInt.toNat < _; omega)]
  show x.toInt = (x.toInt.toNat : Int); omega
theorem own_f192 : ∀ n : Fin 256, (Int32.ofNat n.val &&& 192).toInt = (n.val : Int) - (n.val : Int) % 64 := by decide +kernel
theorem own_f224 : ∀ n : Fin 256, (Int32.ofNat n.val &&& 224).toInt = (n.val : Int) - (n.val : Int) % 32 := by decide +kernel
theorem own_f240 : ∀ n : Fin 256, (Int32.ofNat n.val &&& 240).toInt = (n.val : Int) - (n.val : Int) % 16 := by decide +kernel
theorem own_f248 : ∀ n : Fin 256, (Int32.ofNat n.val &&& 248).toInt = (n.val : Int) - (n.val : Int) % 8 := by decide +kernel
theorem own_h192 {x : Int32} (h0 : 0 ≤ x.toInt) (h1 : x.toInt < 256) : (x &&& 192).toInt = x.toInt - x.toInt % 64 := by
  obtain ⟨n, e1, e2⟩ := own_fin256 h0 h1; rw [e2, e1]; exact own_f192 n
theorem own_h224 {x : Int32} (h0 : 0 ≤ x.toInt) (h1 : x.toInt < 256) : (x &&& 224).toInt = x.toInt - x.toInt % 32 := by
  obtain ⟨n, e1, e2⟩ := own_fin256 h0 h1; rw [e2, e1]; exact own_f224 n
theorem own_h240 {x : Int32} (h0 : 0 ≤ x.toInt) (h1 : x.toInt < 256) : (x &&& 240).toInt = x.toInt - x.toInt % 16 := by
  obtain ⟨n, e1, e2⟩ := own_fin256 h0 h1; rw [e2, e1]; exact own_f240 n
theorem own_h248 {x : Int32} (h0 : 0 ≤ x.toInt) (h1 : x.toInt < 256) : (x &&& 248).toInt = x.toInt - x.toInt % 8 := by
  obtain ⟨n, e1, e2⟩ := own_fin256 h0 h1; rw [e2, e1]; exact own_f248 n
theorem own_m255 (x : Int32) : (x &&& 255).toInt = x.toInt % 256 := Jvm.Kit.i32_mask x 255 (k := 8) (by decide) (by decide)
theorem own_m63 (x : Int32) : (x &&& 63).toInt = x.toInt % 64 := Jvm.Kit.i32_mask x 63 (k := 6) (by decide) (by decide)
theorem own_l192 (x : Int32) : (x &&& 192).toInt = x.toInt % 256 - x.toInt % 64 := by
  have e : x &&& 192 = (x &&& 255) &&& 192 := by rw [Int32.and_assoc]; rfl
  have h := own_m255 x
  rw [e, own_h192 (by omega) (by omega), h]; omega
theorem own_shr (x y : Int32) (k : Nat) (hk : ((y &&& 31).toBitVec.smod 32).toNat = k) : (own_ishr x y).toInt = x.toInt / 2 ^ k := Jvm.Kit.i32_shr x _ hk
theorem own_shl (x y : Int32) (k : Nat) (hk : ((y &&& 31).toBitVec.smod 32).toNat = k) (h1 : -2147483648 ≤ x.toInt * 2 ^ k) (h2 : x.toInt * 2 ^ k < 2147483648) : (own_ishl x y).toInt = x.toInt * 2 ^ k := Jvm.Kit.i32_shl x _ hk (by omega) (by omega)
/-- an or with a constant that is a multiple of 2^k -/
theorem own_orc {x y : Int32} {d : Int} (k : Nat) (hx : x.toInt = d) (h0 : 0 ≤ d) (h1 : d % 2 ^ k = 0) (hy : 0 ≤ y.toInt) (hy2 : y.toInt < 2 ^ k) : (x ||| y).toInt = d + y.toInt := by
  subst hx; exact own_or k h0 h1 hy hy2
theorem own_b255 (x : Int32) : (own_i2b x &&& 255).toInt = x.toInt % 256 := by
  have h1 := own_m255 (own_i2b x)
  have h2 := own_i2b_b x
  omega
theorem own_ofNat {n : Nat} (h : n < 2147483648) : (Int32.ofNat n).toInt = (n : Int) := Int32.toInt_ofNat_of_lt (by omega)
def own_ic (u : Int32) : Int32 := if 128 ≤ u.toInt ∧ u.toInt ≤ 191 then 1 else 0
abbrev own_y2 : MethodName := ⟨"com/example/cesta/cesta/Utf8CodePointPinLaw", "isCont", "(I)Z"⟩
theorem pl2 : plainFor own_y2 = true := plainFor_of_name (by first | (simp [plainName, overriddenIn]; done) | decide +kernel)
def B2_0_4 : List (Instr × Nat) := [(.iload_n 0, 1), (.sipush 128, 3)]
theorem B2_0_4d : own_d method_2_code 0 B2_0_4 4 = true := by decide +kernel
theorem d2_4 : decode method_2_code 4 = .ok (.if_icmp .lt 14, 3) := by decide +kernel
def B2_18_19 : List (Instr × Nat) := [(.iconst 0, 1)]
theorem B2_18_19d : own_d method_2_code 18 B2_18_19 19 = true := by decide +kernel
theorem d2_19 : decode method_2_code 19 = .ok (.ireturn, 1) := by decide +kernel
def B2_7_11 : List (Instr × Nat) := [(.iload_n 0, 1), (.sipush 191, 3)]
theorem B2_7_11d : own_d method_2_code 7 B2_7_11 11 = true := by decide +kernel
theorem d2_11 : decode method_2_code 11 = .ok (.if_icmp .gt 7, 3) := by decide +kernel
def B2_14_15 : List (Instr × Nat) := [(.iconst 1, 1)]
theorem B2_14_15d : own_d method_2_code 14 B2_14_15 15 = true := by decide +kernel
theorem d2_15 : decode method_2_code 15 = .ok (.goto 4, 3) := by decide +kernel
set_option maxRecDepth 65536 in
set_option maxHeartbeats 40000000 in
theorem c_ic (l : Launch) (Z : State) (a0 : Array Value) (hw : ∀ d ∈ tables_1, d.before a0 Z = true) (u : Int32) (h0 : Heap) (n0 : Nat) (Z0 : n0 ≤ h0.size)  :
    own_C l Z own_y2 method_2_code 1 (some .boolean) ({ frames := 0, cells := 0, slots := 0, locals := 0 } : Room) #[(.int u)] h0 n0 (fun v h => v = some (.int (own_ic u)) ∧ h = h0) := by
  refine own_body pl2 Z0 (ls := #[.val (.int u)]) (fun m => by first | (simp [entryFrame, mkF, argsToLocals, Value.category]; done) | rfl) ?_
  intro p e s m below meth c T0 X0
  refine own_blk X0 B2_0_4 B2_0_4d (ls' := #[.val (.int u)]) (st' := [(.int (128 : Int32)), (.int u)]) rfl ?_
  refine own_icmp X0 d2_4 (pc' := 18) (by decide) (fun c4 => ?_) (fun c4 => ?_)
  · have c4 : u.toInt < 128 := c4
    refine own_blk X0 B2_18_19 B2_18_19d (ls' := #[.val (.int u)]) (st' := [(.int (0 : Int32))]) rfl ?_
    exact own_retN X0 (by simp) d2_19 (v' := (0 : Int32)) (rfl) (by decide) (by decide) (⟨by rw [own_ic, if_neg (by omega)], rfl⟩)
  · have c4 : ¬ (u.toInt < 128) := c4
    refine own_blk X0 B2_7_11 B2_7_11d (ls' := #[.val (.int u)]) (st' := [(.int (191 : Int32)), (.int u)]) rfl ?_
    refine own_icmp X0 d2_11 (pc' := 18) (by decide) (fun c11 => ?_) (fun c11 => ?_)
    · have c11 : 191 < u.toInt := c11
      refine own_blk X0 B2_18_19 B2_18_19d (ls' := #[.val (.int u)]) (st' := [(.int (0 : Int32))]) rfl ?_
      exact own_retN X0 (by simp) d2_19 (v' := (0 : Int32)) (rfl) (by decide) (by decide) (⟨by rw [own_ic, if_neg (by omega)], rfl⟩)
    · have c11 : ¬ (191 < u.toInt) := c11
      refine own_blk X0 B2_14_15 B2_14_15d (ls' := #[.val (.int u)]) (st' := [(.int (1 : Int32))]) rfl ?_
      refine own_goto X0 d2_15 (pc' := 19) (by decide) ?_
      exact own_retN X0 (by simp) d2_19 (v' := (1 : Int32)) (rfl) (by decide) (by decide) (⟨by rw [own_ic, if_pos (by omega)], rfl⟩)
theorem own_c1 {x y r : Int32} {M : Int} (k : Nat) (m : Int32) (hk : k < 32) (hm : m.toBitVec.toNat = 2 ^ k - 1) (hk5 : k ≤ 5) (hr : own_ishl (x &&& m) 6 ||| (y &&& 63) = r) (hM : x.toInt % 2 ^ k = M) (hM2 : 0 ≤ M ∧ M < 32) : r.toInt = M * 64 + y.toInt % 64 := by
  subst hr hM
  have h1 : (x &&& m).toInt = x.toInt % 2 ^ k := Jvm.Kit.i32_mask x m hk hm
  have h2 := own_m63 y
  have h3 : (own_ishl (x &&& m) 6).toInt = x.toInt % 2 ^ k * 64 := by
    rw [own_shl _ 6 6 (by decide) (by rw [h1]; omega) (by rw [h1]; omega), h1]; rfl
  rw [own_or 6 (by rw [h3]; omega) (by rw [h3]; omega) (by omega) (by omega), h2, h3]
theorem own_c2 {x y r : Int32} (hr : own_ishl x 6 ||| (y &&& 63) = r) (h0 : 0 ≤ x.toInt) (h1 : x.toInt < 1048576) : r.toInt = x.toInt * 64 + y.toInt % 64 := by
  subst hr
  have h2 := own_m63 y
  have h3 : (own_ishl x 6).toInt = x.toInt * 64 := by
    rw [own_shl _ 6 6 (by decide) (by omega) (by omega)]; rfl
  rw [own_or 6 (by rw [h3]; omega) (by rw [h3]; omega) (by omega) (by omega), h2, h3]
abbrev own_y1 : MethodName := ⟨"com/example/cesta/cesta/Utf8", "codePoint", "([BII)I"⟩
theorem pl1 : plainFor own_y1 = true := plainFor_of_name (by first | (simp [plainName, overriddenIn]; done) | decide +kernel)
def B1_0_4 : List (Instr × Nat) := [(.aload_n 0, 1), (.iload_n 1, 1), (.iconst 1, 1), (.iadd, 1)]
theorem B1_0_4d : own_d prog_135_method_5_code 0 B1_0_4 4 = true := by decide +kernel
theorem d1_4 : decode prog_135_method_5_code 4 = .ok (.baload, 1) := by decide +kernel
def B1_5_8 : List (Instr × Nat) := [(.istore_n 3, 1), (.aload_n 0, 1), (.iload_n 1, 1)]
theorem B1_5_8d : own_d prog_135_method_5_code 5 B1_5_8 8 = true := by decide +kernel
theorem d1_8 : decode prog_135_method_5_code 8 = .ok (.baload, 1) := by decide +kernel
def B1_9_24 : List (Instr × Nat) := [(.bipush 127, 2), (.iload_n 2, 1), (.ishr, 1), (.iand, 1), (.bipush 6, 2), (.ishl, 1), (.iload_n 3, 1), (.bipush 63, 2), (.iand, 1), (.ior, 1), (.istore 4, 2)]
theorem B1_9_24d : own_d prog_135_method_5_code 9 B1_9_24 24 = true := by decide +kernel
def B1_24_32 : List (Instr × Nat) := [(.iload_n 3, 1), (.sipush 192, 3), (.iand, 1), (.sipush 128, 3)]
theorem B1_24_32d : own_d prog_135_method_5_code 24 B1_24_32 32 = true := by decide +kernel
theorem d1_32 : decode prog_135_method_5_code 32 = .ok (.if_icmp .ne 7, 3) := by decide +kernel
def B1_39_44 : List (Instr × Nat) := [(.iconst 0, 1), (.istore 5, 2), (.iload_n 2, 1), (.iconst 2, 1)]
theorem B1_39_44d : own_d prog_135_method_5_code 39 B1_39_44 44 = true := by decide +kernel
theorem d1_44 : decode prog_135_method_5_code 44 = .ok (.if_icmp .le 45, 3) := by decide +kernel
def B1_89_91 : List (Instr × Nat) := [(.iload_n 2, 1), (.iconst 3, 1)]
theorem B1_89_91d : own_d prog_135_method_5_code 89 B1_89_91 91 = true := by decide +kernel
theorem d1_91 : decode prog_135_method_5_code 91 = .ok (.if_icmp .le 45, 3) := by decide +kernel
def B1_136_138 : List (Instr × Nat) := [(.iload_n 2, 1), (.iconst 2, 1)]
theorem B1_136_138d : own_d prog_135_method_5_code 136 B1_136_138 138 = true := by decide +kernel
theorem d1_138 : decode prog_135_method_5_code 138 = .ok (.if_icmp .ne 9, 3) := by decide +kernel
def B1_141_144 : List (Instr × Nat) := [(.sipush 128, 3)]
theorem B1_141_144d : own_d prog_135_method_5_code 141 B1_141_144 144 = true := by decide +kernel
theorem d1_144 : decode prog_135_method_5_code 144 = .ok (.goto 16, 3) := by decide +kernel
def B1_160_164 : List (Instr × Nat) := [(.istore 6, 2), (.iload 5, 2)]
theorem B1_160_164d : own_d prog_135_method_5_code 160 B1_160_164 164 = true := by decide +kernel
theorem d1_164 : decode prog_135_method_5_code 164 = .ok (.ifCond .eq 31, 3) := by decide +kernel
def B1_195_196 : List (Instr × Nat) := [(.iconst (-1), 1)]
theorem B1_195_196d : own_d prog_135_method_5_code 195 B1_195_196 196 = true := by decide +kernel
theorem d1_196 : decode prog_135_method_5_code 196 = .ok (.ireturn, 1) := by decide +kernel
def B1_35_36 : List (Instr × Nat) := [(.iconst 1, 1)]
theorem B1_35_36d : own_d prog_135_method_5_code 35 B1_35_36 36 = true := by decide +kernel
theorem d1_36 : decode prog_135_method_5_code 36 = .ok (.goto 4, 3) := by decide +kernel
def B1_40_44 : List (Instr × Nat) := [(.istore 5, 2), (.iload_n 2, 1), (.iconst 2, 1)]
theorem B1_40_44d : own_d prog_135_method_5_code 40 B1_40_44 44 = true := by decide +kernel
def B1_167_171 : List (Instr × Nat) := [(.iload 4, 2), (.iload 6, 2)]
theorem B1_167_171d : own_d prog_135_method_5_code 167 B1_167_171 171 = true := by decide +kernel
theorem d1_171 : decode prog_135_method_5_code 171 = .ok (.if_icmp .lt 24, 3) := by decide +kernel
def B1_174_176 : List (Instr × Nat) := [(.iload 4, 2)]
theorem B1_174_176d : own_d prog_135_method_5_code 174 B1_174_176 176 = true := by decide +kernel
theorem d1_176 : decode prog_135_method_5_code 176 = .ok (.ldc 24, 2) := by decide +kernel
theorem d1_178 : decode prog_135_method_5_code 178 = .ok (.if_icmp .gt 17, 3) := by decide +kernel
def B1_181_183 : List (Instr × Nat) := [(.iload 4, 2)]
theorem B1_181_183d : own_d prog_135_method_5_code 181 B1_181_183 183 = true := by decide +kernel
theorem d1_183 : decode prog_135_method_5_code 183 = .ok (.ldc 25, 2) := by decide +kernel
theorem d1_185 : decode prog_135_method_5_code 185 = .ok (.if_icmp .lt 12, 3) := by decide +kernel
def B1_197_199 : List (Instr × Nat) := [(.iload 4, 2)]
theorem B1_197_199d : own_d prog_135_method_5_code 197 B1_197_199 199 = true := by decide +kernel
theorem d1_199 : decode prog_135_method_5_code 199 = .ok (.ireturn, 1) := by decide +kernel
def B1_188_190 : List (Instr × Nat) := [(.iload 4, 2)]
theorem B1_188_190d : own_d prog_135_method_5_code 188 B1_188_190 190 = true := by decide +kernel
theorem d1_190 : decode prog_135_method_5_code 190 = .ok (.ldc 26, 2) := by decide +kernel
theorem d1_192 : decode prog_135_method_5_code 192 = .ok (.if_icmp .gt 5, 3) := by decide +kernel
set_option maxRecDepth 65536 in
set_option maxHeartbeats 40000000 in
theorem c_cp2 (l : Launch) (Z : State) (a0 : Array Value) (hw : ∀ d ∈ tables_1, d.before a0 Z = true) (b : Addr) (q : Int32) (g : Int → Int32) (h0 : Heap) (n0 : Nat) (Z0 : n0 ≤ h0.size) (A : own_I Z h0 b .byte 6 g) (hq : 0 ≤ q.toInt ∧ q.toInt ≤ 2) :
    own_C l Z own_y1 prog_135_method_5_code 7 (some .int) ({ frames := 0, cells := 0, slots := 0, locals := 0 } : Room) #[(.ref b), (.int q), (.int (2 : Int32))] h0 n0 (fun v h => ∃ z : Int32, v = some (.int z) ∧ h = h0 ∧ (((128 ≤ (g (q.toInt + 1)).toInt % 256 ∧ (g (q.toInt + 1)).toInt % 256 < 192 ∧ 128 ≤ (g q.toInt).toInt % 32 * 64 + (g (q.toInt + 1)).toInt % 64 ∧ (g q.toInt).toInt % 32 * 64 + (g (q.toInt + 1)).toInt % 64 ≤ 1114111 ∧ ¬ (55296 ≤ (g q.toInt).toInt % 32 * 64 + (g (q.toInt + 1)).toInt % 64 ∧ (g q.toInt).toInt % 32 * 64 + (g (q.toInt + 1)).toInt % 64 ≤ 57343)) ∧ z.toInt = (g q.toInt).toInt % 32 * 64 + (g (q.toInt + 1)).toInt % 64) ∨ (¬ (128 ≤ (g (q.toInt + 1)).toInt % 256 ∧ (g (q.toInt + 1)).toInt % 256 < 192 ∧ 128 ≤ (g q.toInt).toInt % 32 * 64 + (g (q.toInt + 1)).toInt % 64 ∧ (g q.toInt).toInt % 32 * 64 + (g (q.toInt + 1)).toInt % 64 ≤ 1114111 ∧ ¬ (55296 ≤ (g q.toInt).toInt % 32 * 64 + (g (q.toInt + 1)).toInt % 64 ∧ (g q.toInt).toInt % 32 * 64 + (g (q.toInt + 1)).toInt % 64 ≤ 57343)) ∧ z.toInt = -1))) := by
  refine own_body pl1 Z0 (ls := #[.val (.ref b), .val (.int q), .val (.int (2 : Int32)), .unset, .unset, .unset, .unset]) (fun m => by first | (simp [entryFrame, mkF, argsToLocals, Value.category]; done) | rfl) ?_
  intro p e s m below meth c T0 X0
  have i1 : (q + (1 : Int32)).toInt = q.toInt + 1 := own_addc rfl (by omega) (by omega)
  have i2 : (q + (2 : Int32)).toInt = q.toInt + 2 := own_addc rfl (by omega) (by omega)
  have i3 : (q + (3 : Int32)).toInt = q.toInt + 3 := own_addc rfl (by omega) (by omega)
  refine own_blk X0 B1_0_4 B1_0_4d (ls' := #[.val (.ref b), .val (.int q), .val (.int (2 : Int32)), .unset, .unset, .unset, .unset]) (st' := [(.int (q + (1 : Int32))), (.ref b)]) rfl ?_
  refine own_bald X0 A d1_4 (by omega) (by omega) ?_
  show own_G p e below (T0.setTop (mkF m 5 #[.val (.ref b), .val (.int q), .val (.int (2 : Int32)), .unset, .unset, .unset, .unset] [(.int (g (q + (1 : Int32)).toInt))])) _
  rw [i1]
  refine own_blk X0 B1_5_8 B1_5_8d (ls' := #[.val (.ref b), .val (.int q), .val (.int (2 : Int32)), .val (.int (g (q.toInt + 1))), .unset, .unset, .unset]) (st' := [(.int q), (.ref b)]) rfl ?_
  refine own_bald X0 A d1_8 (by omega) (by omega) ?_
  show own_G p e below (T0.setTop (mkF m 9 #[.val (.ref b), .val (.int q), .val (.int (2 : Int32)), .val (.int (g (q.toInt + 1))), .unset, .unset, .unset] [(.int (g q.toInt))])) _
  refine own_blk X0 B1_9_24 B1_9_24d (ls' := #[.val (.ref b), .val (.int q), .val (.int (2 : Int32)), .val (.int (g (q.toInt + 1))), .val (.int ((own_ishl ((g q.toInt) &&& (31 : Int32)) (6 : Int32)) ||| ((g (q.toInt + 1)) &&& (63 : Int32)))), .unset, .unset]) (st' := []) rfl ?_
  generalize ecp1 : ((own_ishl ((g q.toInt) &&& (31 : Int32)) (6 : Int32)) ||| ((g (q.toInt + 1)) &&& (63 : Int32))) = cp1
  have hc1 : cp1.toInt = (g q.toInt).toInt % 32 * 64 + (g (q.toInt + 1)).toInt % 64 := own_c1 5 31 (by decide) (by decide) (by decide) ecp1 rfl (by omega)
  have hl1 := own_l192 (g (q.toInt + 1))
  refine own_blk X0 B1_24_32 B1_24_32d (ls' := #[.val (.ref b), .val (.int q), .val (.int (2 : Int32)), .val (.int (g (q.toInt + 1))), .val (.int cp1), .unset, .unset]) (st' := [(.int (128 : Int32)), (.int ((g (q.toInt + 1)) &&& (192 : Int32)))]) rfl ?_
  refine own_icmp X0 d1_32 (pc' := 39) (by decide) (fun c32 => ?_) (fun c32 => ?_)
  · have c32 : ¬ ((g (q.toInt + 1)) &&& (192 : Int32)).toInt = 128 := c32
    refine own_blk X0 B1_39_44 B1_39_44d (ls' := #[.val (.ref b), .val (.int q), .val (.int (2 : Int32)), .val (.int (g (q.toInt + 1))), .val (.int cp1), .val (.int (0 : Int32)), .unset]) (st' := [(.int (2 : Int32)), (.int (2 : Int32))]) rfl ?_
    refine own_icmp X0 d1_44 (pc' := 89) (by decide) (fun c44 => ?_) (fun (c44 : ¬ ((2 : Int) ≤ 2)) => by exfalso; omega)
    have c44 : (2 : Int) ≤ 2 := c44
    refine own_blk X0 B1_89_91 B1_89_91d (ls' := #[.val (.ref b), .val (.int q), .val (.int (2 : Int32)), .val (.int (g (q.toInt + 1))), .val (.int cp1), .val (.int (0 : Int32)), .unset]) (st' := [(.int (3 : Int32)), (.int (2 : Int32))]) rfl ?_
    refine own_icmp X0 d1_91 (pc' := 136) (by decide) (fun c91 => ?_) (fun (c91 : ¬ ((2 : Int) ≤ 3)) => by exfalso; omega)
    have c91 : (2 : Int) ≤ 3 := c91
    refine own_blk X0 B1_136_138 B1_136_138d (ls' := #[.val (.ref b), .val (.int q), .val (.int (2 : Int32)), .val (.int (g (q.toInt + 1))), .val (.int cp1), .val (.int (0 : Int32)), .unset]) (st' := [(.int (2 : Int32)), (.int (2 : Int32))]) rfl ?_
    refine own_icmp X0 d1_138 (pc' := 147) (by decide) (fun (c138 : ¬ (2 : Int) = 2) => by exfalso; omega) (fun c138 => ?_)
    have c138 : ¬ (¬ (2 : Int) = 2) := c138
    refine own_blk X0 B1_141_144 B1_141_144d (ls' := #[.val (.ref b), .val (.int q), .val (.int (2 : Int32)), .val (.int (g (q.toInt + 1))), .val (.int cp1), .val (.int (0 : Int32)), .unset]) (st' := [(.int (128 : Int32))]) rfl ?_
    refine own_goto X0 d1_144 (pc' := 160) (by decide) ?_
    refine own_blk X0 B1_160_164 B1_160_164d (ls' := #[.val (.ref b), .val (.int q), .val (.int (2 : Int32)), .val (.int (g (q.toInt + 1))), .val (.int cp1), .val (.int (0 : Int32)), .val (.int (128 : Int32))]) (st' := [(.int (0 : Int32))]) rfl ?_
    refine own_if X0 d1_164 (pc' := 195) (by decide) (fun c164 => ?_) (fun (c164 : ¬ ((0 : Int) = 0)) => by exfalso; omega)
    have c164 : (0 : Int) = 0 := c164
    refine own_blk X0 B1_195_196 B1_195_196d (ls' := #[.val (.ref b), .val (.int q), .val (.int (2 : Int32)), .val (.int (g (q.toInt + 1))), .val (.int cp1), .val (.int (0 : Int32)), .val (.int (128 : Int32))]) (st' := [(.int (-1 : Int32))]) rfl ?_
    exact own_retI X0 d1_196 (by decide) (by decide) (⟨_, rfl, rfl, by show (_ ∧ (-1 : Int) = _) ∨ (_ ∧ (-1 : Int) = -1); omega⟩)
  · have c32 : ¬ (¬ ((g (q.toInt + 1)) &&& (192 : Int32)).toInt = 128) := c32
    refine own_blk X0 B1_35_36 B1_35_36d (ls' := #[.val (.ref b), .val (.int q), .val (.int (2 : Int32)), .val (.int (g (q.toInt + 1))), .val (.int cp1), .unset, .unset]) (st' := [(.int (1 : Int32))]) rfl ?_
    refine own_goto X0 d1_36 (pc' := 40) (by decide) ?_
    refine own_blk X0 B1_40_44 B1_40_44d (ls' := #[.val (.ref b), .val (.int q), .val (.int (2 : Int32)), .val (.int (g (q.toInt + 1))), .val (.int cp1), .val (.int (1 : Int32)), .unset]) (st' := [(.int (2 : Int32)), (.int (2 : Int32))]) rfl ?_
    refine own_icmp X0 d1_44 (pc' := 89) (by decide) (fun c44 => ?_) (fun (c44 : ¬ ((2 : Int) ≤ 2)) => by exfalso; omega)
    have c44 : (2 : Int) ≤ 2 := c44
    refine own_blk X0 B1_89_91 B1_89_91d (ls' := #[.val (.ref b), .val (.int q), .val (.int (2 : Int32)), .val (.int (g (q.toInt + 1))), .val (.int cp1), .val (.int (1 : Int32)), .unset]) (st' := [(.int (3 : Int32)), (.int (2 : Int32))]) rfl ?_
    refine own_icmp X0 d1_91 (pc' := 136) (by decide) (fun c91 => ?_) (fun (c91 : ¬ ((2 : Int) ≤ 3)) => by exfalso; omega)
    have c91 : (2 : Int) ≤ 3 := c91
    refine own_blk X0 B1_136_138 B1_136_138d (ls' := #[.val (.ref b), .val (.int q), .val (.int (2 : Int32)), .val (.int (g (q.toInt + 1))), .val (.int cp1), .val (.int (1 : Int32)), .unset]) (st' := [(.int (2 : Int32)), (.int (2 : Int32))]) rfl ?_
    refine own_icmp X0 d1_138 (pc' := 147) (by decide) (fun (c138 : ¬ (2 : Int) = 2) => by exfalso; omega) (fun c138 => ?_)
    have c138 : ¬ (¬ (2 : Int) = 2) := c138
    refine own_blk X0 B1_141_144 B1_141_144d (ls' := #[.val (.ref b), .val (.int q), .val (.int (2 : Int32)), .val (.int (g (q.toInt + 1))), .val (.int cp1), .val (.int (1 : Int32)), .unset]) (st' := [(.int (128 : Int32))]) rfl ?_
    refine own_goto X0 d1_144 (pc' := 160) (by decide) ?_
    refine own_blk X0 B1_160_164 B1_160_164d (ls' := #[.val (.ref b), .val (.int q), .val (.int (2 : Int32)), .val (.int (g (q.toInt + 1))), .val (.int cp1), .val (.int (1 : Int32)), .val (.int (128 : Int32))]) (st' := [(.int (1 : Int32))]) rfl ?_
    refine own_if X0 d1_164 (pc' := 195) (by decide) (fun (c164 : (1 : Int) = 0) => by exfalso; omega) (fun c164 => ?_)
    have c164 : ¬ ((1 : Int) = 0) := c164
    refine own_blk X0 B1_167_171 B1_167_171d (ls' := #[.val (.ref b), .val (.int q), .val (.int (2 : Int32)), .val (.int (g (q.toInt + 1))), .val (.int cp1), .val (.int (1 : Int32)), .val (.int (128 : Int32))]) (st' := [(.int (128 : Int32)), (.int cp1)]) rfl ?_
    refine own_icmp X0 d1_171 (pc' := 195) (by decide) (fun c171 => ?_) (fun c171 => ?_)
    · have c171 : cp1.toInt < 128 := c171
      refine own_blk X0 B1_195_196 B1_195_196d (ls' := #[.val (.ref b), .val (.int q), .val (.int (2 : Int32)), .val (.int (g (q.toInt + 1))), .val (.int cp1), .val (.int (1 : Int32)), .val (.int (128 : Int32))]) (st' := [(.int (-1 : Int32))]) rfl ?_
      exact own_retI X0 d1_196 (by decide) (by decide) (⟨_, rfl, rfl, by show (_ ∧ (-1 : Int) = _) ∨ (_ ∧ (-1 : Int) = -1); omega⟩)
    · have c171 : ¬ (cp1.toInt < 128) := c171
      refine own_blk X0 B1_174_176 B1_174_176d (ls' := #[.val (.ref b), .val (.int q), .val (.int (2 : Int32)), .val (.int (g (q.toInt + 1))), .val (.int cp1), .val (.int (1 : Int32)), .val (.int (128 : Int32))]) (st' := [(.int cp1)]) rfl ?_
      refine own_ldc X0 (hw _ (List.mem_of_getElem? (i := 7) rfl)) d1_176 ?_
      refine own_icmp X0 d1_178 (pc' := 195) (by decide) (fun c178 => ?_) (fun c178 => ?_)
      · have c178 : 1114111 < cp1.toInt := c178
        refine own_blk X0 B1_195_196 B1_195_196d (ls' := #[.val (.ref b), .val (.int q), .val (.int (2 : Int32)), .val (.int (g (q.toInt + 1))), .val (.int cp1), .val (.int (1 : Int32)), .val (.int (128 : Int32))]) (st' := [(.int (-1 : Int32))]) rfl ?_
        exact own_retI X0 d1_196 (by decide) (by decide) (⟨_, rfl, rfl, by show (_ ∧ (-1 : Int) = _) ∨ (_ ∧ (-1 : Int) = -1); omega⟩)
      · have c178 : ¬ (1114111 < cp1.toInt) := c178
        refine own_blk X0 B1_181_183 B1_181_183d (ls' := #[.val (.ref b), .val (.int q), .val (.int (2 : Int32)), .val (.int (g (q.toInt + 1))), .val (.int cp1), .val (.int (1 : Int32)), .val (.int (128 : Int32))]) (st' := [(.int cp1)]) rfl ?_
        refine own_ldc X0 (hw _ (List.mem_of_getElem? (i := 8) rfl)) d1_183 ?_
        refine own_icmp X0 d1_185 (pc' := 197) (by decide) (fun c185 => ?_) (fun c185 => ?_)
        · have c185 : cp1.toInt < 55296 := c185
          refine own_blk X0 B1_197_199 B1_197_199d (ls' := #[.val (.ref b), .val (.int q), .val (.int (2 : Int32)), .val (.int (g (q.toInt + 1))), .val (.int cp1), .val (.int (1 : Int32)), .val (.int (128 : Int32))]) (st' := [(.int cp1)]) rfl ?_
          exact own_retI X0 d1_199 (by decide) (by decide) (⟨_, rfl, rfl, by omega⟩)
        · have c185 : ¬ (cp1.toInt < 55296) := c185
          refine own_blk X0 B1_188_190 B1_188_190d (ls' := #[.val (.ref b), .val (.int q), .val (.int (2 : Int32)), .val (.int (g (q.toInt + 1))), .val (.int cp1), .val (.int (1 : Int32)), .val (.int (128 : Int32))]) (st' := [(.int cp1)]) rfl ?_
          refine own_ldc X0 (hw _ (List.mem_of_getElem? (i := 14) rfl)) d1_190 ?_
          refine own_icmp X0 d1_192 (pc' := 197) (by decide) (fun c192 => ?_) (fun c192 => ?_)
          · have c192 : 57343 < cp1.toInt := c192
            refine own_blk X0 B1_197_199 B1_197_199d (ls' := #[.val (.ref b), .val (.int q), .val (.int (2 : Int32)), .val (.int (g (q.toInt + 1))), .val (.int cp1), .val (.int (1 : Int32)), .val (.int (128 : Int32))]) (st' := [(.int cp1)]) rfl ?_
            exact own_retI X0 d1_199 (by decide) (by decide) (⟨_, rfl, rfl, by omega⟩)
          · have c192 : ¬ (57343 < cp1.toInt) := c192
            refine own_blk X0 B1_195_196 B1_195_196d (ls' := #[.val (.ref b), .val (.int q), .val (.int (2 : Int32)), .val (.int (g (q.toInt + 1))), .val (.int cp1), .val (.int (1 : Int32)), .val (.int (128 : Int32))]) (st' := [(.int (-1 : Int32))]) rfl ?_
            exact own_retI X0 d1_196 (by decide) (by decide) (⟨_, rfl, rfl, by show (_ ∧ (-1 : Int) = _) ∨ (_ ∧ (-1 : Int) = -1); omega⟩)
def B1_47_51 : List (Instr × Nat) := [(.aload_n 0, 1), (.iload_n 1, 1), (.iconst 2, 1), (.iadd, 1)]
theorem B1_47_51d : own_d prog_135_method_5_code 47 B1_47_51 51 = true := by decide +kernel
theorem d1_51 : decode prog_135_method_5_code 51 = .ok (.baload, 1) := by decide +kernel
def B1_52_67 : List (Instr × Nat) := [(.istore 6, 2), (.iload 4, 2), (.bipush 6, 2), (.ishl, 1), (.iload 6, 2), (.bipush 63, 2), (.iand, 1), (.ior, 1), (.istore 4, 2)]
theorem B1_52_67d : own_d prog_135_method_5_code 52 B1_52_67 67 = true := by decide +kernel
def B1_67_78 : List (Instr × Nat) := [(.iload 5, 2), (.iload 6, 2), (.sipush 192, 3), (.iand, 1), (.sipush 128, 3)]
theorem B1_67_78d : own_d prog_135_method_5_code 67 B1_67_78 78 = true := by decide +kernel
theorem d1_78 : decode prog_135_method_5_code 78 = .ok (.if_icmp .ne 7, 3) := by decide +kernel
def B1_85_91 : List (Instr × Nat) := [(.iconst 0, 1), (.iand, 1), (.istore 5, 2), (.iload_n 2, 1), (.iconst 3, 1)]
theorem B1_85_91d : own_d prog_135_method_5_code 85 B1_85_91 91 = true := by decide +kernel
def B1_147_149 : List (Instr × Nat) := [(.iload_n 2, 1), (.iconst 3, 1)]
theorem B1_147_149d : own_d prog_135_method_5_code 147 B1_147_149 149 = true := by decide +kernel
theorem d1_149 : decode prog_135_method_5_code 149 = .ok (.if_icmp .ne 9, 3) := by decide +kernel
def B1_152_155 : List (Instr × Nat) := [(.sipush 2048, 3)]
theorem B1_152_155d : own_d prog_135_method_5_code 152 B1_152_155 155 = true := by decide +kernel
theorem d1_155 : decode prog_135_method_5_code 155 = .ok (.goto 5, 3) := by decide +kernel
def B1_81_82 : List (Instr × Nat) := [(.iconst 1, 1)]
theorem B1_81_82d : own_d prog_135_method_5_code 81 B1_81_82 82 = true := by decide +kernel
theorem d1_82 : decode prog_135_method_5_code 82 = .ok (.goto 4, 3) := by decide +kernel
def B1_86_91 : List (Instr × Nat) := [(.iand, 1), (.istore 5, 2), (.iload_n 2, 1), (.iconst 3, 1)]
theorem B1_86_91d : own_d prog_135_method_5_code 86 B1_86_91 91 = true := by decide +kernel
set_option maxRecDepth 65536 in
set_option maxHeartbeats 40000000 in
theorem c_cp3 (l : Launch) (Z : State) (a0 : Array Value) (hw : ∀ d ∈ tables_1, d.before a0 Z = true) (b : Addr) (q : Int32) (g : Int → Int32) (h0 : Heap) (n0 : Nat) (Z0 : n0 ≤ h0.size) (A : own_I Z h0 b .byte 6 g) (hq : 0 ≤ q.toInt ∧ q.toInt ≤ 2) :
    own_C l Z own_y1 prog_135_method_5_code 7 (some .int) ({ frames := 0, cells := 0, slots := 0, locals := 0 } : Room) #[(.ref b), (.int q), (.int (3 : Int32))] h0 n0 (fun v h => ∃ z : Int32, v = some (.int z) ∧ h = h0 ∧ (((128 ≤ (g (q.toInt + 1)).toInt % 256 ∧ (g (q.toInt + 1)).toInt % 256 < 192 ∧ 128 ≤ (g (q.toInt + 2)).toInt % 256 ∧ (g (q.toInt + 2)).toInt % 256 < 192 ∧ 2048 ≤ ((g q.toInt).toInt % 16 * 64 + (g (q.toInt + 1)).toInt % 64) * 64 + (g (q.toInt + 2)).toInt % 64 ∧ ((g q.toInt).toInt % 16 * 64 + (g (q.toInt + 1)).toInt % 64) * 64 + (g (q.toInt + 2)).toInt % 64 ≤ 1114111 ∧ ¬ (55296 ≤ ((g q.toInt).toInt % 16 * 64 + (g (q.toInt + 1)).toInt % 64) * 64 + (g (q.toInt + 2)).toInt % 64 ∧ ((g q.toInt).toInt % 16 * 64 + (g (q.toInt + 1)).toInt % 64) * 64 + (g (q.toInt + 2)).toInt % 64 ≤ 57343)) ∧ z.toInt = ((g q.toInt).toInt % 16 * 64 + (g (q.toInt + 1)).toInt % 64) * 64 + (g (q.toInt + 2)).toInt % 64) ∨ (¬ (128 ≤ (g (q.toInt + 1)).toInt % 256 ∧ (g (q.toInt + 1)).toInt % 256 < 192 ∧ 128 ≤ (g (q.toInt + 2)).toInt % 256 ∧ (g (q.toInt + 2)).toInt % 256 < 192 ∧ 2048 ≤ ((g q.toInt).toInt % 16 * 64 + (g (q.toInt + 1)).toInt % 64) * 64 + (g (q.toInt + 2)).toInt % 64 ∧ ((g q.toInt).toInt % 16 * 64 + (g (q.toInt + 1)).toInt % 64) * 64 + (g (q.toInt + 2)).toInt % 64 ≤ 1114111 ∧ ¬ (55296 ≤ ((g q.toInt).toInt % 16 * 64 + (g (q.toInt + 1)).toInt % 64) * 64 + (g (q.toInt + 2)).toInt % 64 ∧ ((g q.toInt).toInt % 16 * 64 + (g (q.toInt + 1)).toInt % 64) * 64 + (g (q.toInt + 2)).toInt % 64 ≤ 57343)) ∧ z.toInt = -1))) := by
  refine own_body pl1 Z0 (ls := #[.val (.ref b), .val (.int q), .val (.int (3 : Int32)), .unset, .unset, .unset, .unset]) (fun m => by first | (simp [entryFrame, mkF, argsToLocals, Value.category]; done) | rfl) ?_
  intro p e s m below meth c T0 X0
  have i1 : (q + (1 : Int32)).toInt = q.toInt + 1 := own_addc rfl (by omega) (by omega)
  have i2 : (q + (2 : Int32)).toInt = q.toInt + 2 := own_addc rfl (by omega) (by omega)
  have i3 : (q + (3 : Int32)).toInt = q.toInt + 3 := own_addc rfl (by omega) (by omega)
  refine own_blk X0 B1_0_4 B1_0_4d (ls' := #[.val (.ref b), .val (.int q), .val (.int (3 : Int32)), .unset, .unset, .unset, .unset]) (st' := [(.int (q + (1 : Int32))), (.ref b)]) rfl ?_
  refine own_bald X0 A d1_4 (by omega) (by omega) ?_
  show own_G p e below (T0.setTop (mkF m 5 #[.val (.ref b), .val (.int q), .val (.int (3 : Int32)), .unset, .unset, .unset, .unset] [(.int (g (q + (1 : Int32)).toInt))])) _
  rw [i1]
  refine own_blk X0 B1_5_8 B1_5_8d (ls' := #[.val (.ref b), .val (.int q), .val (.int (3 : Int32)), .val (.int (g (q.toInt + 1))), .unset, .unset, .unset]) (st' := [(.int q), (.ref b)]) rfl ?_
  refine own_bald X0 A d1_8 (by omega) (by omega) ?_
  show own_G p e below (T0.setTop (mkF m 9 #[.val (.ref b), .val (.int q), .val (.int (3 : Int32)), .val (.int (g (q.toInt + 1))), .unset, .unset, .unset] [(.int (g q.toInt))])) _
  refine own_blk X0 B1_9_24 B1_9_24d (ls' := #[.val (.ref b), .val (.int q), .val (.int (3 : Int32)), .val (.int (g (q.toInt + 1))), .val (.int ((own_ishl ((g q.toInt) &&& (15 : Int32)) (6 : Int32)) ||| ((g (q.toInt + 1)) &&& (63 : Int32)))), .unset, .unset]) (st' := []) rfl ?_
  generalize ecp1 : ((own_ishl ((g q.toInt) &&& (15 : Int32)) (6 : Int32)) ||| ((g (q.toInt + 1)) &&& (63 : Int32))) = cp1
  have hc1 : cp1.toInt = (g q.toInt).toInt % 16 * 64 + (g (q.toInt + 1)).toInt % 64 := own_c1 4 15 (by decide) (by decide) (by decide) ecp1 rfl (by omega)
  have hl1 := own_l192 (g (q.toInt + 1))
  refine own_blk X0 B1_24_32 B1_24_32d (ls' := #[.val (.ref b), .val (.int q), .val (.int (3 : Int32)), .val (.int (g (q.toInt + 1))), .val (.int cp1), .unset, .unset]) (st' := [(.int (128 : Int32)), (.int ((g (q.toInt + 1)) &&& (192 : Int32)))]) rfl ?_
  refine own_icmp X0 d1_32 (pc' := 39) (by decide) (fun c32 => ?_) (fun c32 => ?_)
  · have c32 : ¬ ((g (q.toInt + 1)) &&& (192 : Int32)).toInt = 128 := c32
    refine own_blk X0 B1_39_44 B1_39_44d (ls' := #[.val (.ref b), .val (.int q), .val (.int (3 : Int32)), .val (.int (g (q.toInt + 1))), .val (.int cp1), .val (.int (0 : Int32)), .unset]) (st' := [(.int (2 : Int32)), (.int (3 : Int32))]) rfl ?_
    refine own_icmp X0 d1_44 (pc' := 89) (by decide) (fun (c44 : (3 : Int) ≤ 2) => by exfalso; omega) (fun c44 => ?_)
    have c44 : ¬ ((3 : Int) ≤ 2) := c44
    refine own_blk X0 B1_47_51 B1_47_51d (ls' := #[.val (.ref b), .val (.int q), .val (.int (3 : Int32)), .val (.int (g (q.toInt + 1))), .val (.int cp1), .val (.int (0 : Int32)), .unset]) (st' := [(.int (q + (2 : Int32))), (.ref b)]) rfl ?_
    refine own_bald X0 A d1_51 (by omega) (by omega) ?_
    show own_G p e below (T0.setTop (mkF m 52 #[.val (.ref b), .val (.int q), .val (.int (3 : Int32)), .val (.int (g (q.toInt + 1))), .val (.int cp1), .val (.int (0 : Int32)), .unset] [(.int (g (q + (2 : Int32)).toInt))])) _
    rw [i2]
    refine own_blk X0 B1_52_67 B1_52_67d (ls' := #[.val (.ref b), .val (.int q), .val (.int (3 : Int32)), .val (.int (g (q.toInt + 1))), .val (.int ((own_ishl cp1 (6 : Int32)) ||| ((g (q.toInt + 2)) &&& (63 : Int32)))), .val (.int (0 : Int32)), .val (.int (g (q.toInt + 2)))]) (st' := []) rfl ?_
    generalize ecp2 : ((own_ishl cp1 (6 : Int32)) ||| ((g (q.toInt + 2)) &&& (63 : Int32))) = cp2
    have hc2 := own_c2 ecp2 (by omega) (by omega)
    have hl2 := own_l192 (g (q.toInt + 2))
    refine own_blk X0 B1_67_78 B1_67_78d (ls' := #[.val (.ref b), .val (.int q), .val (.int (3 : Int32)), .val (.int (g (q.toInt + 1))), .val (.int cp2), .val (.int (0 : Int32)), .val (.int (g (q.toInt + 2)))]) (st' := [(.int (128 : Int32)), (.int ((g (q.toInt + 2)) &&& (192 : Int32))), (.int (0 : Int32))]) rfl ?_
    refine own_icmp X0 d1_78 (pc' := 85) (by decide) (fun c78 => ?_) (fun c78 => ?_)
    · have c78 : ¬ ((g (q.toInt + 2)) &&& (192 : Int32)).toInt = 128 := c78
      refine own_blk X0 B1_85_91 B1_85_91d (ls' := #[.val (.ref b), .val (.int q), .val (.int (3 : Int32)), .val (.int (g (q.toInt + 1))), .val (.int cp2), .val (.int (0 : Int32)), .val (.int (g (q.toInt + 2)))]) (st' := [(.int (3 : Int32)), (.int (3 : Int32))]) rfl ?_
      refine own_icmp X0 d1_91 (pc' := 136) (by decide) (fun c91 => ?_) (fun (c91 : ¬ ((3 : Int) ≤ 3)) => by exfalso; omega)
      have c91 : (3 : Int) ≤ 3 := c91
      refine own_blk X0 B1_136_138 B1_136_138d (ls' := #[.val (.ref b), .val (.int q), .val (.int (3 : Int32)), .val (.int (g (q.toInt + 1))), .val (.int cp2), .val (.int (0 : Int32)), .val (.int (g (q.toInt + 2)))]) (st' := [(.int (2 : Int32)), (.int (3 : Int32))]) rfl ?_
      refine own_icmp X0 d1_138 (pc' := 147) (by decide) (fun c138 => ?_) (fun (c138 : ¬ (¬ (3 : Int) = 2)) => by exfalso; omega)
      have c138 : ¬ (3 : Int) = 2 := c138
      refine own_blk X0 B1_147_149 B1_147_149d (ls' := #[.val (.ref b), .val (.int q), .val (.int (3 : Int32)), .val (.int (g (q.toInt + 1))), .val (.int cp2), .val (.int (0 : Int32)), .val (.int (g (q.toInt + 2)))]) (st' := [(.int (3 : Int32)), (.int (3 : Int32))]) rfl ?_
      refine own_icmp X0 d1_149 (pc' := 158) (by decide) (fun (c149 : ¬ (3 : Int) = 3) => by exfalso; omega) (fun c149 => ?_)
      have c149 : ¬ (¬ (3 : Int) = 3) := c149
      refine own_blk X0 B1_152_155 B1_152_155d (ls' := #[.val (.ref b), .val (.int q), .val (.int (3 : Int32)), .val (.int (g (q.toInt + 1))), .val (.int cp2), .val (.int (0 : Int32)), .val (.int (g (q.toInt + 2)))]) (st' := [(.int (2048 : Int32))]) rfl ?_
      refine own_goto X0 d1_155 (pc' := 160) (by decide) ?_
      refine own_blk X0 B1_160_164 B1_160_164d (ls' := #[.val (.ref b), .val (.int q), .val (.int (3 : Int32)), .val (.int (g (q.toInt + 1))), .val (.int cp2), .val (.int (0 : Int32)), .val (.int (2048 : Int32))]) (st' := [(.int (0 : Int32))]) rfl ?_
      refine own_if X0 d1_164 (pc' := 195) (by decide) (fun c164 => ?_) (fun (c164 : ¬ ((0 : Int) = 0)) => by exfalso; omega)
      have c164 : (0 : Int) = 0 := c164
      refine own_blk X0 B1_195_196 B1_195_196d (ls' := #[.val (.ref b), .val (.int q), .val (.int (3 : Int32)), .val (.int (g (q.toInt + 1))), .val (.int cp2), .val (.int (0 : Int32)), .val (.int (2048 : Int32))]) (st' := [(.int (-1 : Int32))]) rfl ?_
      exact own_retI X0 d1_196 (by decide) (by decide) (⟨_, rfl, rfl, by show (_ ∧ (-1 : Int) = _) ∨ (_ ∧ (-1 : Int) = -1); omega⟩)
    · have c78 : ¬ (¬ ((g (q.toInt + 2)) &&& (192 : Int32)).toInt = 128) := c78
      refine own_blk X0 B1_81_82 B1_81_82d (ls' := #[.val (.ref b), .val (.int q), .val (.int (3 : Int32)), .val (.int (g (q.toInt + 1))), .val (.int cp2), .val (.int (0 : Int32)), .val (.int (g (q.toInt + 2)))]) (st' := [(.int (1 : Int32)), (.int (0 : Int32))]) rfl ?_
      refine own_goto X0 d1_82 (pc' := 86) (by decide) ?_
      refine own_blk X0 B1_86_91 B1_86_91d (ls' := #[.val (.ref b), .val (.int q), .val (.int (3 : Int32)), .val (.int (g (q.toInt + 1))), .val (.int cp2), .val (.int (0 : Int32)), .val (.int (g (q.toInt + 2)))]) (st' := [(.int (3 : Int32)), (.int (3 : Int32))]) rfl ?_
      refine own_icmp X0 d1_91 (pc' := 136) (by decide) (fun c91 => ?_) (fun (c91 : ¬ ((3 : Int) ≤ 3)) => by exfalso; omega)
      have c91 : (3 : Int) ≤ 3 := c91
      refine own_blk X0 B1_136_138 B1_136_138d (ls' := #[.val (.ref b), .val (.int q), .val (.int (3 : Int32)), .val (.int (g (q.toInt + 1))), .val (.int cp2), .val (.int (0 : Int32)), .val (.int (g (q.toInt + 2)))]) (st' := [(.int (2 : Int32)), (.int (3 : Int32))]) rfl ?_
      refine own_icmp X0 d1_138 (pc' := 147) (by decide) (fun c138 => ?_) (fun (c138 : ¬ (¬ (3 : Int) = 2)) => by exfalso; omega)
      have c138 : ¬ (3 : Int) = 2 := c138
      refine own_blk X0 B1_147_149 B1_147_149d (ls' := #[.val (.ref b), .val (.int q), .val (.int (3 : Int32)), .val (.int (g (q.toInt + 1))), .val (.int cp2), .val (.int (0 : Int32)), .val (.int (g (q.toInt + 2)))]) (st' := [(.int (3 : Int32)), (.int (3 : Int32))]) rfl ?_
      refine own_icmp X0 d1_149 (pc' := 158) (by decide) (fun (c149 : ¬ (3 : Int) = 3) => by exfalso; omega) (fun c149 => ?_)
      have c149 : ¬ (¬ (3 : Int) = 3) := c149
      refine own_blk X0 B1_152_155 B1_152_155d (ls' := #[.val (.ref b), .val (.int q), .val (.int (3 : Int32)), .val (.int (g (q.toInt + 1))), .val (.int cp2), .val (.int (0 : Int32)), .val (.int (g (q.toInt + 2)))]) (st' := [(.int (2048 : Int32))]) rfl ?_
      refine own_goto X0 d1_155 (pc' := 160) (by decide) ?_
      refine own_blk X0 B1_160_164 B1_160_164d (ls' := #[.val (.ref b), .val (.int q), .val (.int (3 : Int32)), .val (.int (g (q.toInt + 1))), .val (.int cp2), .val (.int (0 : Int32)), .val (.int (2048 : Int32))]) (st' := [(.int (0 : Int32))]) rfl ?_
      refine own_if X0 d1_164 (pc' := 195) (by decide) (fun c164 => ?_) (fun (c164 : ¬ ((0 : Int) = 0)) => by exfalso; omega)
      have c164 : (0 : Int) = 0 := c164
      refine own_blk X0 B1_195_196 B1_195_196d (ls' := #[.val (.ref b), .val (.int q), .val (.int (3 : Int32)), .val (.int (g (q.toInt + 1))), .val (.int cp2), .val (.int (0 : Int32)), .val (.int (2048 : Int32))]) (st' := [(.int (-1 : Int32))]) rfl ?_
      exact own_retI X0 d1_196 (by decide) (by decide) (⟨_, rfl, rfl, by show (_ ∧ (-1 : Int) = _) ∨ (_ ∧ (-1 : Int) = -1); omega⟩)
  · have c32 : ¬ (¬ ((g (q.toInt + 1)) &&& (192 : Int32)).toInt = 128) := c32
    refine own_blk X0 B1_35_36 B1_35_36d (ls' := #[.val (.ref b), .val (.int q), .val (.int (3 : Int32)), .val (.int (g (q.toInt + 1))), .val (.int cp1), .unset, .unset]) (st' := [(.int (1 : Int32))]) rfl ?_
    refine own_goto X0 d1_36 (pc' := 40) (by decide) ?_
    refine own_blk X0 B1_40_44 B1_40_44d (ls' := #[.val (.ref b), .val (.int q), .val (.int (3 : Int32)), .val (.int (g (q.toInt + 1))), .val (.int cp1), .val (.int (1 : Int32)), .unset]) (st' := [(.int (2 : Int32)), (.int (3 : Int32))]) rfl ?_
    refine own_icmp X0 d1_44 (pc' := 89) (by decide) (fun (c44 : (3 : Int) ≤ 2) => by exfalso; omega) (fun c44 => ?_)
    have c44 : ¬ ((3 : Int) ≤ 2) := c44
    refine own_blk X0 B1_47_51 B1_47_51d (ls' := #[.val (.ref b), .val (.int q), .val (.int (3 : Int32)), .val (.int (g (q.toInt + 1))), .val (.int cp1), .val (.int (1 : Int32)), .unset]) (st' := [(.int (q + (2 : Int32))), (.ref b)]) rfl ?_
    refine own_bald X0 A d1_51 (by omega) (by omega) ?_
    show own_G p e below (T0.setTop (mkF m 52 #[.val (.ref b), .val (.int q), .val (.int (3 : Int32)), .val (.int (g (q.toInt + 1))), .val (.int cp1), .val (.int (1 : Int32)), .unset] [(.int (g (q + (2 : Int32)).toInt))])) _
    rw [i2]
    refine own_blk X0 B1_52_67 B1_52_67d (ls' := #[.val (.ref b), .val (.int q), .val (.int (3 : Int32)), .val (.int (g (q.toInt + 1))), .val (.int ((own_ishl cp1 (6 : Int32)) ||| ((g (q.toInt + 2)) &&& (63 : Int32)))), .val (.int (1 : Int32)), .val (.int (g (q.toInt + 2)))]) (st' := []) rfl ?_
    generalize ecp2 : ((own_ishl cp1 (6 : Int32)) ||| ((g (q.toInt + 2)) &&& (63 : Int32))) = cp2
    have hc2 := own_c2 ecp2 (by omega) (by omega)
    have hl2 := own_l192 (g (q.toInt + 2))
    refine own_blk X0 B1_67_78 B1_67_78d (ls' := #[.val (.ref b), .val (.int q), .val (.int (3 : Int32)), .val (.int (g (q.toInt + 1))), .val (.int cp2), .val (.int (1 : Int32)), .val (.int (g (q.toInt + 2)))]) (st' := [(.int (128 : Int32)), (.int ((g (q.toInt + 2)) &&& (192 : Int32))), (.int (1 : Int32))]) rfl ?_
    refine own_icmp X0 d1_78 (pc' := 85) (by decide) (fun c78 => ?_) (fun c78 => ?_)
    · have c78 : ¬ ((g (q.toInt + 2)) &&& (192 : Int32)).toInt = 128 := c78
      refine own_blk X0 B1_85_91 B1_85_91d (ls' := #[.val (.ref b), .val (.int q), .val (.int (3 : Int32)), .val (.int (g (q.toInt + 1))), .val (.int cp2), .val (.int (0 : Int32)), .val (.int (g (q.toInt + 2)))]) (st' := [(.int (3 : Int32)), (.int (3 : Int32))]) rfl ?_
      refine own_icmp X0 d1_91 (pc' := 136) (by decide) (fun c91 => ?_) (fun (c91 : ¬ ((3 : Int) ≤ 3)) => by exfalso; omega)
      have c91 : (3 : Int) ≤ 3 := c91
      refine own_blk X0 B1_136_138 B1_136_138d (ls' := #[.val (.ref b), .val (.int q), .val (.int (3 : Int32)), .val (.int (g (q.toInt + 1))), .val (.int cp2), .val (.int (0 : Int32)), .val (.int (g (q.toInt + 2)))]) (st' := [(.int (2 : Int32)), (.int (3 : Int32))]) rfl ?_
      refine own_icmp X0 d1_138 (pc' := 147) (by decide) (fun c138 => ?_) (fun (c138 : ¬ (¬ (3 : Int) = 2)) => by exfalso; omega)
      have c138 : ¬ (3 : Int) = 2 := c138
      refine own_blk X0 B1_147_149 B1_147_149d (ls' := #[.val (.ref b), .val (.int q), .val (.int (3 : Int32)), .val (.int (g (q.toInt + 1))), .val (.int cp2), .val (.int (0 : Int32)), .val (.int (g (q.toInt + 2)))]) (st' := [(.int (3 : Int32)), (.int (3 : Int32))]) rfl ?_
      refine own_icmp X0 d1_149 (pc' := 158) (by decide) (fun (c149 : ¬ (3 : Int) = 3) => by exfalso; omega) (fun c149 => ?_)
      have c149 : ¬ (¬ (3 : Int) = 3) := c149
      refine own_blk X0 B1_152_155 B1_152_155d (ls' := #[.val (.ref b), .val (.int q), .val (.int (3 : Int32)), .val (.int (g (q.toInt + 1))), .val (.int cp2), .val (.int (0 : Int32)), .val (.int (g (q.toInt + 2)))]) (st' := [(.int (2048 : Int32))]) rfl ?_
      refine own_goto X0 d1_155 (pc' := 160) (by decide) ?_
      refine own_blk X0 B1_160_164 B1_160_164d (ls' := #[.val (.ref b), .val (.int q), .val (.int (3 : Int32)), .val (.int (g (q.toInt + 1))), .val (.int cp2), .val (.int (0 : Int32)), .val (.int (2048 : Int32))]) (st' := [(.int (0 : Int32))]) rfl ?_
      refine own_if X0 d1_164 (pc' := 195) (by decide) (fun c164 => ?_) (fun (c164 : ¬ ((0 : Int) = 0)) => by exfalso; omega)
      have c164 : (0 : Int) = 0 := c164
      refine own_blk X0 B1_195_196 B1_195_196d (ls' := #[.val (.ref b), .val (.int q), .val (.int (3 : Int32)), .val (.int (g (q.toInt + 1))), .val (.int cp2), .val (.int (0 : Int32)), .val (.int (2048 : Int32))]) (st' := [(.int (-1 : Int32))]) rfl ?_
      exact own_retI X0 d1_196 (by decide) (by decide) (⟨_, rfl, rfl, by show (_ ∧ (-1 : Int) = _) ∨ (_ ∧ (-1 : Int) = -1); omega⟩)
    · have c78 : ¬ (¬ ((g (q.toInt + 2)) &&& (192 : Int32)).toInt = 128) := c78
      refine own_blk X0 B1_81_82 B1_81_82d (ls' := #[.val (.ref b), .val (.int q), .val (.int (3 : Int32)), .val (.int (g (q.toInt + 1))), .val (.int cp2), .val (.int (1 : Int32)), .val (.int (g (q.toInt + 2)))]) (st' := [(.int (1 : Int32)), (.int (1 : Int32))]) rfl ?_
      refine own_goto X0 d1_82 (pc' := 86) (by decide) ?_
      refine own_blk X0 B1_86_91 B1_86_91d (ls' := #[.val (.ref b), .val (.int q), .val (.int (3 : Int32)), .val (.int (g (q.toInt + 1))), .val (.int cp2), .val (.int (1 : Int32)), .val (.int (g (q.toInt + 2)))]) (st' := [(.int (3 : Int32)), (.int (3 : Int32))]) rfl ?_
      refine own_icmp X0 d1_91 (pc' := 136) (by decide) (fun c91 => ?_) (fun (c91 : ¬ ((3 : Int) ≤ 3)) => by exfalso; omega)
      have c91 : (3 : Int) ≤ 3 := c91
      refine own_blk X0 B1_136_138 B1_136_138d (ls' := #[.val (.ref b), .val (.int q), .val (.int (3 : Int32)), .val (.int (g (q.toInt + 1))), .val (.int cp2), .val (.int (1 : Int32)), .val (.int (g (q.toInt + 2)))]) (st' := [(.int (2 : Int32)), (.int (3 : Int32))]) rfl ?_
      refine own_icmp X0 d1_138 (pc' := 147) (by decide) (fun c138 => ?_) (fun (c138 : ¬ (¬ (3 : Int) = 2)) => by exfalso; omega)
      have c138 : ¬ (3 : Int) = 2 := c138
      refine own_blk X0 B1_147_149 B1_147_149d (ls' := #[.val (.ref b), .val (.int q), .val (.int (3 : Int32)), .val (.int (g (q.toInt + 1))), .val (.int cp2), .val (.int (1 : Int32)), .val (.int (g (q.toInt + 2)))]) (st' := [(.int (3 : Int32)), (.int (3 : Int32))]) rfl ?_
      refine own_icmp X0 d1_149 (pc' := 158) (by decide) (fun (c149 : ¬ (3 : Int) = 3) => by exfalso; omega) (fun c149 => ?_)
      have c149 : ¬ (¬ (3 : Int) = 3) := c149
      refine own_blk X0 B1_152_155 B1_152_155d (ls' := #[.val (.ref b), .val (.int q), .val (.int (3 : Int32)), .val (.int (g (q.toInt + 1))), .val (.int cp2), .val (.int (1 : Int32)), .val (.int (g (q.toInt + 2)))]) (st' := [(.int (2048 : Int32))]) rfl ?_
      refine own_goto X0 d1_155 (pc' := 160) (by decide) ?_
      refine own_blk X0 B1_160_164 B1_160_164d (ls' := #[.val (.ref b), .val (.int q), .val (.int (3 : Int32)), .val (.int (g (q.toInt + 1))), .val (.int cp2), .val (.int (1 : Int32)), .val (.int (2048 : Int32))]) (st' := [(.int (1 : Int32))]) rfl ?_
      refine own_if X0 d1_164 (pc' := 195) (by decide) (fun (c164 : (1 : Int) = 0) => by exfalso; omega) (fun c164 => ?_)
      have c164 : ¬ ((1 : Int) = 0) := c164
      refine own_blk X0 B1_167_171 B1_167_171d (ls' := #[.val (.ref b), .val (.int q), .val (.int (3 : Int32)), .val (.int (g (q.toInt + 1))), .val (.int cp2), .val (.int (1 : Int32)), .val (.int (2048 : Int32))]) (st' := [(.int (2048 : Int32)), (.int cp2)]) rfl ?_
      refine own_icmp X0 d1_171 (pc' := 195) (by decide) (fun c171 => ?_) (fun c171 => ?_)
      · have c171 : cp2.toInt < 2048 := c171
        refine own_blk X0 B1_195_196 B1_195_196d (ls' := #[.val (.ref b), .val (.int q), .val (.int (3 : Int32)), .val (.int (g (q.toInt + 1))), .val (.int cp2), .val (.int (1 : Int32)), .val (.int (2048 : Int32))]) (st' := [(.int (-1 : Int32))]) rfl ?_
        exact own_retI X0 d1_196 (by decide) (by decide) (⟨_, rfl, rfl, by show (_ ∧ (-1 : Int) = _) ∨ (_ ∧ (-1 : Int) = -1); omega⟩)
      · have c171 : ¬ (cp2.toInt < 2048) := c171
        refine own_blk X0 B1_174_176 B1_174_176d (ls' := #[.val (.ref b), .val (.int q), .val (.int (3 : Int32)), .val (.int (g (q.toInt + 1))), .val (.int cp2), .val (.int (1 : Int32)), .val (.int (2048 : Int32))]) (st' := [(.int cp2)]) rfl ?_
        refine own_ldc X0 (hw _ (List.mem_of_getElem? (i := 7) rfl)) d1_176 ?_
        refine own_icmp X0 d1_178 (pc' := 195) (by decide) (fun c178 => ?_) (fun c178 => ?_)
        · have c178 : 1114111 < cp2.toInt := c178
          refine own_blk X0 B1_195_196 B1_195_196d (ls' := #[.val (.ref b), .val (.int q), .val (.int (3 : Int32)), .val (.int (g (q.toInt + 1))), .val (.int cp2), .val (.int (1 : Int32)), .val (.int (2048 : Int32))]) (st' := [(.int (-1 : Int32))]) rfl ?_
          exact own_retI X0 d1_196 (by decide) (by decide) (⟨_, rfl, rfl, by show (_ ∧ (-1 : Int) = _) ∨ (_ ∧ (-1 : Int) = -1); omega⟩)
        · have c178 : ¬ (1114111 < cp2.toInt) := c178
          refine own_blk X0 B1_181_183 B1_181_183d (ls' := #[.val (.ref b), .val (.int q), .val (.int (3 : Int32)), .val (.int (g (q.toInt + 1))), .val (.int cp2), .val (.int (1 : Int32)), .val (.int (2048 : Int32))]) (st' := [(.int cp2)]) rfl ?_
          refine own_ldc X0 (hw _ (List.mem_of_getElem? (i := 8) rfl)) d1_183 ?_
          refine own_icmp X0 d1_185 (pc' := 197) (by decide) (fun c185 => ?_) (fun c185 => ?_)
          · have c185 : cp2.toInt < 55296 := c185
            refine own_blk X0 B1_197_199 B1_197_199d (ls' := #[.val (.ref b), .val (.int q), .val (.int (3 : Int32)), .val (.int (g (q.toInt + 1))), .val (.int cp2), .val (.int (1 : Int32)), .val (.int (2048 : Int32))]) (st' := [(.int cp2)]) rfl ?_
            exact own_retI X0 d1_199 (by decide) (by decide) (⟨_, rfl, rfl, by omega⟩)
          · have c185 : ¬ (cp2.toInt < 55296) := c185
            refine own_blk X0 B1_188_190 B1_188_190d (ls' := #[.val (.ref b), .val (.int q), .val (.int (3 : Int32)), .val (.int (g (q.toInt + 1))), .val (.int cp2), .val (.int (1 : Int32)), .val (.int (2048 : Int32))]) (st' := [(.int cp2)]) rfl ?_
            refine own_ldc X0 (hw _ (List.mem_of_getElem? (i := 14) rfl)) d1_190 ?_
            refine own_icmp X0 d1_192 (pc' := 197) (by decide) (fun c192 => ?_) (fun c192 => ?_)
            · have c192 : 57343 < cp2.toInt := c192
              refine own_blk X0 B1_197_199 B1_197_199d (ls' := #[.val (.ref b), .val (.int q), .val (.int (3 : Int32)), .val (.int (g (q.toInt + 1))), .val (.int cp2), .val (.int (1 : Int32)), .val (.int (2048 : Int32))]) (st' := [(.int cp2)]) rfl ?_
              exact own_retI X0 d1_199 (by decide) (by decide) (⟨_, rfl, rfl, by omega⟩)
            · have c192 : ¬ (57343 < cp2.toInt) := c192
              refine own_blk X0 B1_195_196 B1_195_196d (ls' := #[.val (.ref b), .val (.int q), .val (.int (3 : Int32)), .val (.int (g (q.toInt + 1))), .val (.int cp2), .val (.int (1 : Int32)), .val (.int (2048 : Int32))]) (st' := [(.int (-1 : Int32))]) rfl ?_
              exact own_retI X0 d1_196 (by decide) (by decide) (⟨_, rfl, rfl, by show (_ ∧ (-1 : Int) = _) ∨ (_ ∧ (-1 : Int) = -1); omega⟩)
def B1_94_98 : List (Instr × Nat) := [(.aload_n 0, 1), (.iload_n 1, 1), (.iconst 3, 1), (.iadd, 1)]
theorem B1_94_98d : own_d prog_135_method_5_code 94 B1_94_98 98 = true := by decide +kernel
theorem d1_98 : decode prog_135_method_5_code 98 = .ok (.baload, 1) := by decide +kernel
def B1_99_114 : List (Instr × Nat) := [(.istore 6, 2), (.iload 4, 2), (.bipush 6, 2), (.ishl, 1), (.iload 6, 2), (.bipush 63, 2), (.iand, 1), (.ior, 1), (.istore 4, 2)]
theorem B1_99_114d : own_d prog_135_method_5_code 99 B1_99_114 114 = true := by decide +kernel
def B1_114_125 : List (Instr × Nat) := [(.iload 5, 2), (.iload 6, 2), (.sipush 192, 3), (.iand, 1), (.sipush 128, 3)]
theorem B1_114_125d : own_d prog_135_method_5_code 114 B1_114_125 125 = true := by decide +kernel
theorem d1_125 : decode prog_135_method_5_code 125 = .ok (.if_icmp .ne 7, 3) := by decide +kernel
def B1_132_138 : List (Instr × Nat) := [(.iconst 0, 1), (.iand, 1), (.istore 5, 2), (.iload_n 2, 1), (.iconst 2, 1)]
theorem B1_132_138d : own_d prog_135_method_5_code 132 B1_132_138 138 = true := by decide +kernel
theorem d1_158 : decode prog_135_method_5_code 158 = .ok (.ldc 7, 2) := by decide +kernel
def B1_128_129 : List (Instr × Nat) := [(.iconst 1, 1)]
theorem B1_128_129d : own_d prog_135_method_5_code 128 B1_128_129 129 = true := by decide +kernel
theorem d1_129 : decode prog_135_method_5_code 129 = .ok (.goto 4, 3) := by decide +kernel
def B1_133_138 : List (Instr × Nat) := [(.iand, 1), (.istore 5, 2), (.iload_n 2, 1), (.iconst 2, 1)]
theorem B1_133_138d : own_d prog_135_method_5_code 133 B1_133_138 138 = true := by decide +kernel
set_option maxRecDepth 65536 in
set_option maxHeartbeats 40000000 in
theorem c_cp4 (l : Launch) (Z : State) (a0 : Array Value) (hw : ∀ d ∈ tables_1, d.before a0 Z = true) (b : Addr) (q : Int32) (g : Int → Int32) (h0 : Heap) (n0 : Nat) (Z0 : n0 ≤ h0.size) (A : own_I Z h0 b .byte 6 g) (hq : 0 ≤ q.toInt ∧ q.toInt ≤ 2) :
    own_C l Z own_y1 prog_135_method_5_code 7 (some .int) ({ frames := 0, cells := 0, slots := 0, locals := 0 } : Room) #[(.ref b), (.int q), (.int (4 : Int32))] h0 n0 (fun v h => ∃ z : Int32, v = some (.int z) ∧ h = h0 ∧ (((128 ≤ (g (q.toInt + 1)).toInt % 256 ∧ (g (q.toInt + 1)).toInt % 256 < 192 ∧ 128 ≤ (g (q.toInt + 2)).toInt % 256 ∧ (g (q.toInt + 2)).toInt % 256 < 192 ∧ 128 ≤ (g (q.toInt + 3)).toInt % 256 ∧ (g (q.toInt + 3)).toInt % 256 < 192 ∧ 65536 ≤ (((g q.toInt).toInt % 8 * 64 + (g (q.toInt + 1)).toInt % 64) * 64 + (g (q.toInt + 2)).toInt % 64) * 64 + (g (q.toInt + 3)).toInt % 64 ∧ (((g q.toInt).toInt % 8 * 64 + (g (q.toInt + 1)).toInt % 64) * 64 + (g (q.toInt + 2)).toInt % 64) * 64 + (g (q.toInt + 3)).toInt % 64 ≤ 1114111 ∧ ¬ (55296 ≤ (((g q.toInt).toInt % 8 * 64 + (g (q.toInt + 1)).toInt % 64) * 64 + (g (q.toInt + 2)).toInt % 64) * 64 + (g (q.toInt + 3)).toInt % 64 ∧ (((g q.toInt).toInt % 8 * 64 + (g (q.toInt + 1)).toInt % 64) * 64 + (g (q.toInt + 2)).toInt % 64) * 64 + (g (q.toInt + 3)).toInt % 64 ≤ 57343)) ∧ z.toInt = (((g q.toInt).toInt % 8 * 64 + (g (q.toInt + 1)).toInt % 64) * 64 + (g (q.toInt + 2)).toInt % 64) * 64 + (g (q.toInt + 3)).toInt % 64) ∨ (¬ (128 ≤ (g (q.toInt + 1)).toInt % 256 ∧ (g (q.toInt + 1)).toInt % 256 < 192 ∧ 128 ≤ (g (q.toInt + 2)).toInt % 256 ∧ (g (q.toInt + 2)).toInt % 256 < 192 ∧ 128 ≤ (g (q.toInt + 3)).toInt % 256 ∧ (g (q.toInt + 3)).toInt % 256 < 192 ∧ 65536 ≤ (((g q.toInt).toInt % 8 * 64 + (g (q.toInt + 1)).toInt % 64) * 64 + (g (q.toInt + 2)).toInt % 64) * 64 + (g (q.toInt + 3)).toInt % 64 ∧ (((g q.toInt).toInt % 8 * 64 + (g (q.toInt + 1)).toInt % 64) * 64 + (g (q.toInt + 2)).toInt % 64) * 64 + (g (q.toInt + 3)).toInt % 64 ≤ 1114111 ∧ ¬ (55296 ≤ (((g q.toInt).toInt % 8 * 64 + (g (q.toInt + 1)).toInt % 64) * 64 + (g (q.toInt + 2)).toInt % 64) * 64 + (g (q.toInt + 3)).toInt % 64 ∧ (((g q.toInt).toInt % 8 * 64 + (g (q.toInt + 1)).toInt % 64) * 64 + (g (q.toInt + 2)).toInt % 64) * 64 + (g (q.toInt + 3)).toInt % 64 ≤ 57343)) ∧ z.toInt = -1))) := by
  refine own_body pl1 Z0 (ls := #[.val (.ref b), .val (.int q), .val (.int (4 : Int32)), .unset, .unset, .unset, .unset]) (fun m => by first | (simp [entryFrame, mkF, argsToLocals, Value.category]; done) | rfl) ?_
  intro p e s m below meth c T0 X0
  have i1 : (q + (1 : Int32)).toInt = q.toInt + 1 := own_addc rfl (by omega) (by omega)
  have i2 : (q + (2 : Int32)).toInt = q.toInt + 2 := own_addc rfl (by omega) (by omega)
  have i3 : (q + (3 : Int32)).toInt = q.toInt + 3 := own_addc rfl (by omega) (by omega)
  refine own_blk X0 B1_0_4 B1_0_4d (ls' := #[.val (.ref b), .val (.int q), .val (.int (4 : Int32)), .unset, .unset, .unset, .unset]) (st' := [(.int (q + (1 : Int32))), (.ref b)]) rfl ?_
  refine own_bald X0 A d1_4 (by omega) (by omega) ?_
  show own_G p e below (T0.setTop (mkF m 5 #[.val (.ref b), .val (.int q), .val (.int (4 : Int32)), .unset, .unset, .unset, .unset] [(.int (g (q + (1 : Int32)).toInt))])) _
  rw [i1]
  refine own_blk X0 B1_5_8 B1_5_8d (ls' := #[.val (.ref b), .val (.int q), .val (.int (4 : Int32)), .val (.int (g (q.toInt + 1))), .unset, .unset, .unset]) (st' := [(.int q), (.ref b)]) rfl ?_
  refine own_bald X0 A d1_8 (by omega) (by omega) ?_
  show own_G p e below (T0.setTop (mkF m 9 #[.val (.ref b), .val (.int q), .val (.int (4 : Int32)), .val (.int (g (q.toInt + 1))), .unset, .unset, .unset] [(.int (g q.toInt))])) _
  refine own_blk X0 B1_9_24 B1_9_24d (ls' := #[.val (.ref b), .val (.int q), .val (.int (4 : Int32)), .val (.int (g (q.toInt + 1))), .val (.int ((own_ishl ((g q.toInt) &&& (7 : Int32)) (6 : Int32)) ||| ((g (q.toInt + 1)) &&& (63 : Int32)))), .unset, .unset]) (st' := []) rfl ?_
  generalize ecp1 : ((own_ishl ((g q.toInt) &&& (7 : Int32)) (6 : Int32)) ||| ((g (q.toInt + 1)) &&& (63 : Int32))) = cp1
  have hc1 : cp1.toInt = (g q.toInt).toInt % 8 * 64 + (g (q.toInt + 1)).toInt % 64 := own_c1 3 7 (by decide) (by decide) (by decide) ecp1 rfl (by omega)
  have hl1 := own_l192 (g (q.toInt + 1))
  refine own_blk X0 B1_24_32 B1_24_32d (ls' := #[.val (.ref b), .val (.int q), .val (.int (4 : Int32)), .val (.int (g (q.toInt + 1))), .val (.int cp1), .unset, .unset]) (st' := [(.int (128 : Int32)), (.int ((g (q.toInt + 1)) &&& (192 : Int32)))]) rfl ?_
  refine own_icmp X0 d1_32 (pc' := 39) (by decide) (fun c32 => ?_) (fun c32 => ?_)
  · have c32 : ¬ ((g (q.toInt + 1)) &&& (192 : Int32)).toInt = 128 := c32
    refine own_blk X0 B1_39_44 B1_39_44d (ls' := #[.val (.ref b), .val (.int q), .val (.int (4 : Int32)), .val (.int (g (q.toInt + 1))), .val (.int cp1), .val (.int (0 : Int32)), .unset]) (st' := [(.int (2 : Int32)), (.int (4 : Int32))]) rfl ?_
    refine own_icmp X0 d1_44 (pc' := 89) (by decide) (fun (c44 : (4 : Int) ≤ 2) => by exfalso; omega) (fun c44 => ?_)
    have c44 : ¬ ((4 : Int) ≤ 2) := c44
    refine own_blk X0 B1_47_51 B1_47_51d (ls' := #[.val (.ref b), .val (.int q), .val (.int (4 : Int32)), .val (.int (g (q.toInt + 1))), .val (.int cp1), .val (.int (0 : Int32)), .unset]) (st' := [(.int (q + (2 : Int32))), (.ref b)]) rfl ?_
    refine own_bald X0 A d1_51 (by omega) (by omega) ?_
    show own_G p e below (T0.setTop (mkF m 52 #[.val (.ref b), .val (.int q), .val (.int (4 : Int32)), .val (.int (g (q.toInt + 1))), .val (.int cp1), .val (.int (0 : Int32)), .unset] [(.int (g (q + (2 : Int32)).toInt))])) _
    rw [i2]
    refine own_blk X0 B1_52_67 B1_52_67d (ls' := #[.val (.ref b), .val (.int q), .val (.int (4 : Int32)), .val (.int (g (q.toInt + 1))), .val (.int ((own_ishl cp1 (6 : Int32)) ||| ((g (q.toInt + 2)) &&& (63 : Int32)))), .val (.int (0 : Int32)), .val (.int (g (q.toInt + 2)))]) (st' := []) rfl ?_
    generalize ecp2 : ((own_ishl cp1 (6 : Int32)) ||| ((g (q.toInt + 2)) &&& (63 : Int32))) = cp2
    have hc2 := own_c2 ecp2 (by omega) (by omega)
    have hl2 := own_l192 (g (q.toInt + 2))
    refine own_blk X0 B1_67_78 B1_67_78d (ls' := #[.val (.ref b), .val (.int q), .val (.int (4 : Int32)), .val (.int (g (q.toInt + 1))), .val (.int cp2), .val (.int (0 : Int32)), .val (.int (g (q.toInt + 2)))]) (st' := [(.int (128 : Int32)), (.int ((g (q.toInt + 2)) &&& (192 : Int32))), (.int (0 : Int32))]) rfl ?_
    refine own_icmp X0 d1_78 (pc' := 85) (by decide) (fun c78 => ?_) (fun c78 => ?_)
    · have c78 : ¬ ((g (q.toInt + 2)) &&& (192 : Int32)).toInt = 128 := c78
      refine own_blk X0 B1_85_91 B1_85_91d (ls' := #[.val (.ref b), .val (.int q), .val (.int (4 : Int32)), .val (.int (g (q.toInt + 1))), .val (.int cp2), .val (.int (0 : Int32)), .val (.int (g (q.toInt + 2)))]) (st' := [(.int (3 : Int32)), (.int (4 : Int32))]) rfl ?_
      refine own_icmp X0 d1_91 (pc' := 136) (by decide) (fun (c91 : (4 : Int) ≤ 3) => by exfalso; omega) (fun c91 => ?_)
      have c91 : ¬ ((4 : Int) ≤ 3) := c91
      refine own_blk X0 B1_94_98 B1_94_98d (ls' := #[.val (.ref b), .val (.int q), .val (.int (4 : Int32)), .val (.int (g (q.toInt + 1))), .val (.int cp2), .val (.int (0 : Int32)), .val (.int (g (q.toInt + 2)))]) (st' := [(.int (q + (3 : Int32))), (.ref b)]) rfl ?_
      refine own_bald X0 A d1_98 (by omega) (by omega) ?_
      show own_G p e below (T0.setTop (mkF m 99 #[.val (.ref b), .val (.int q), .val (.int (4 : Int32)), .val (.int (g (q.toInt + 1))), .val (.int cp2), .val (.int (0 : Int32)), .val (.int (g (q.toInt + 2)))] [(.int (g (q + (3 : Int32)).toInt))])) _
      rw [i3]
      refine own_blk X0 B1_99_114 B1_99_114d (ls' := #[.val (.ref b), .val (.int q), .val (.int (4 : Int32)), .val (.int (g (q.toInt + 1))), .val (.int ((own_ishl cp2 (6 : Int32)) ||| ((g (q.toInt + 3)) &&& (63 : Int32)))), .val (.int (0 : Int32)), .val (.int (g (q.toInt + 3)))]) (st' := []) rfl ?_
      generalize ecp3 : ((own_ishl cp2 (6 : Int32)) ||| ((g (q.toInt + 3)) &&& (63 : Int32))) = cp3
      have hc3 := own_c2 ecp3 (by omega) (by omega)
      have hl3 := own_l192 (g (q.toInt + 3))
      refine own_blk X0 B1_114_125 B1_114_125d (ls' := #[.val (.ref b), .val (.int q), .val (.int (4 : Int32)), .val (.int (g (q.toInt + 1))), .val (.int cp3), .val (.int (0 : Int32)), .val (.int (g (q.toInt + 3)))]) (st' := [(.int (128 : Int32)), (.int ((g (q.toInt + 3)) &&& (192 : Int32))), (.int (0 : Int32))]) rfl ?_
      refine own_icmp X0 d1_125 (pc' := 132) (by decide) (fun c125 => ?_) (fun c125 => ?_)
      · have c125 : ¬ ((g (q.toInt + 3)) &&& (192 : Int32)).toInt = 128 := c125
        refine own_blk X0 B1_132_138 B1_132_138d (ls' := #[.val (.ref b), .val (.int q), .val (.int (4 : Int32)), .val (.int (g (q.toInt + 1))), .val (.int cp3), .val (.int (0 : Int32)), .val (.int (g (q.toInt + 3)))]) (st' := [(.int (2 : Int32)), (.int (4 : Int32))]) rfl ?_
        refine own_icmp X0 d1_138 (pc' := 147) (by decide) (fun c138 => ?_) (fun (c138 : ¬ (¬ (4 : Int) = 2)) => by exfalso; omega)
        have c138 : ¬ (4 : Int) = 2 := c138
        refine own_blk X0 B1_147_149 B1_147_149d (ls' := #[.val (.ref b), .val (.int q), .val (.int (4 : Int32)), .val (.int (g (q.toInt + 1))), .val (.int cp3), .val (.int (0 : Int32)), .val (.int (g (q.toInt + 3)))]) (st' := [(.int (3 : Int32)), (.int (4 : Int32))]) rfl ?_
        refine own_icmp X0 d1_149 (pc' := 158) (by decide) (fun c149 => ?_) (fun (c149 : ¬ (¬ (4 : Int) = 3)) => by exfalso; omega)
        have c149 : ¬ (4 : Int) = 3 := c149
        refine own_ldc X0 (hw _ (List.mem_of_getElem? (i := 6) rfl)) d1_158 ?_
        refine own_blk X0 B1_160_164 B1_160_164d (ls' := #[.val (.ref b), .val (.int q), .val (.int (4 : Int32)), .val (.int (g (q.toInt + 1))), .val (.int cp3), .val (.int (0 : Int32)), .val (.int (65536 : Int32))]) (st' := [(.int (0 : Int32))]) rfl ?_
        refine own_if X0 d1_164 (pc' := 195) (by decide) (fun c164 => ?_) (fun (c164 : ¬ ((0 : Int) = 0)) => by exfalso; omega)
        have c164 : (0 : Int) = 0 := c164
        refine own_blk X0 B1_195_196 B1_195_196d (ls' := #[.val (.ref b), .val (.int q), .val (.int (4 : Int32)), .val (.int (g (q.toInt + 1))), .val (.int cp3), .val (.int (0 : Int32)), .val (.int (65536 : Int32))]) (st' := [(.int (-1 : Int32))]) rfl ?_
        exact own_retI X0 d1_196 (by decide) (by decide) (⟨_, rfl, rfl, by show (_ ∧ (-1 : Int) = _) ∨ (_ ∧ (-1 : Int) = -1); omega⟩)
      · have c125 : ¬ (¬ ((g (q.toInt + 3)) &&& (192 : Int32)).toInt = 128) := c125
        refine own_blk X0 B1_128_129 B1_128_129d (ls' := #[.val (.ref b), .val (.int q), .val (.int (4 : Int32)), .val (.int (g (q.toInt + 1))), .val (.int cp3), .val (.int (0 : Int32)), .val (.int (g (q.toInt + 3)))]) (st' := [(.int (1 : Int32)), (.int (0 : Int32))]) rfl ?_
        refine own_goto X0 d1_129 (pc' := 133) (by decide) ?_
        refine own_blk X0 B1_133_138 B1_133_138d (ls' := #[.val (.ref b), .val (.int q), .val (.int (4 : Int32)), .val (.int (g (q.toInt + 1))), .val (.int cp3), .val (.int (0 : Int32)), .val (.int (g (q.toInt + 3)))]) (st' := [(.int (2 : Int32)), (.int (4 : Int32))]) rfl ?_
        refine own_icmp X0 d1_138 (pc' := 147) (by decide) (fun c138 => ?_) (fun (c138 : ¬ (¬ (4 : Int) = 2)) => by exfalso; omega)
        have c138 : ¬ (4 : Int) = 2 := c138
        refine own_blk X0 B1_147_149 B1_147_149d (ls' := #[.val (.ref b), .val (.int q), .val (.int (4 : Int32)), .val (.int (g (q.toInt + 1))), .val (.int cp3), .val (.int (0 : Int32)), .val (.int (g (q.toInt + 3)))]) (st' := [(.int (3 : Int32)), (.int (4 : Int32))]) rfl ?_
        refine own_icmp X0 d1_149 (pc' := 158) (by decide) (fun c149 => ?_) (fun (c149 : ¬ (¬ (4 : Int) = 3)) => by exfalso; omega)
        have c149 : ¬ (4 : Int) = 3 := c149
        refine own_ldc X0 (hw _ (List.mem_of_getElem? (i := 6) rfl)) d1_158 ?_
        refine own_blk X0 B1_160_164 B1_160_164d (ls' := #[.val (.ref b), .val (.int q), .val (.int (4 : Int32)), .val (.int (g (q.toInt + 1))), .val (.int cp3), .val (.int (0 : Int32)), .val (.int (65536 : Int32))]) (st' := [(.int (0 : Int32))]) rfl ?_
        refine own_if X0 d1_164 (pc' := 195) (by decide) (fun c164 => ?_) (fun (c164 : ¬ ((0 : Int) = 0)) => by exfalso; omega)
        have c164 : (0 : Int) = 0 := c164
        refine own_blk X0 B1_195_196 B1_195_196d (ls' := #[.val (.ref b), .val (.int q), .val (.int (4 : Int32)), .val (.int (g (q.toInt + 1))), .val (.int cp3), .val (.int (0 : Int32)), .val (.int (65536 : Int32))]) (st' := [(.int (-1 : Int32))]) rfl ?_
        exact own_retI X0 d1_196 (by decide) (by decide) (⟨_, rfl, rfl, by show (_ ∧ (-1 : Int) = _) ∨ (_ ∧ (-1 : Int) = -1); omega⟩)
    · have c78 : ¬ (¬ ((g (q.toInt + 2)) &&& (192 : Int32)).toInt = 128) := c78
      refine own_blk X0 B1_81_82 B1_81_82d (ls' := #[.val (.ref b), .val (.int q), .val (.int (4 : Int32)), .val (.int (g (q.toInt + 1))), .val (.int cp2), .val (.int (0 : Int32)), .val (.int (g (q.toInt + 2)))]) (st' := [(.int (1 : Int32)), (.int (0 : Int32))]) rfl ?_
      refine own_goto X0 d1_82 (pc' := 86) (by decide) ?_
      refine own_blk X0 B1_86_91 B1_86_91d (ls' := #[.val (.ref b), .val (.int q), .val (.int (4 : Int32)), .val (.int (g (q.toInt + 1))), .val (.int cp2), .val (.int (0 : Int32)), .val (.int (g (q.toInt + 2)))]) (st' := [(.int (3 : Int32)), (.int (4 : Int32))]) rfl ?_
      refine own_icmp X0 d1_91 (pc' := 136) (by decide) (fun (c91 : (4 : Int) ≤ 3) => by exfalso; omega) (fun c91 => ?_)
      have c91 : ¬ ((4 : Int) ≤ 3) := c91
      refine own_blk X0 B1_94_98 B1_94_98d (ls' := #[.val (.ref b), .val (.int q), .val (.int (4 : Int32)), .val (.int (g (q.toInt + 1))), .val (.int cp2), .val (.int (0 : Int32)), .val (.int (g (q.toInt + 2)))]) (st' := [(.int (q + (3 : Int32))), (.ref b)]) rfl ?_
      refine own_bald X0 A d1_98 (by omega) (by omega) ?_
      show own_G p e below (T0.setTop (mkF m 99 #[.val (.ref b), .val (.int q), .val (.int (4 : Int32)), .val (.int (g (q.toInt + 1))), .val (.int cp2), .val (.int (0 : Int32)), .val (.int (g (q.toInt + 2)))] [(.int (g (q + (3 : Int32)).toInt))])) _
      rw [i3]
      refine own_blk X0 B1_99_114 B1_99_114d (ls' := #[.val (.ref b), .val (.int q), .val (.int (4 : Int32)), .val (.int (g (q.toInt + 1))), .val (.int ((own_ishl cp2 (6 : Int32)) ||| ((g (q.toInt + 3)) &&& (63 : Int32)))), .val (.int (0 : Int32)), .val (.int (g (q.toInt + 3)))]) (st' := []) rfl ?_
      generalize ecp3 : ((own_ishl cp2 (6 : Int32)) ||| ((g (q.toInt + 3)) &&& (63 : Int32))) = cp3
      have hc3 := own_c2 ecp3 (by omega) (by omega)
      have hl3 := own_l192 (g (q.toInt + 3))
      refine own_blk X0 B1_114_125 B1_114_125d (ls' := #[.val (.ref b), .val (.int q), .val (.int (4 : Int32)), .val (.int (g (q.toInt + 1))), .val (.int cp3), .val (.int (0 : Int32)), .val (.int (g (q.toInt + 3)))]) (st' := [(.int (128 : Int32)), (.int ((g (q.toInt + 3)) &&& (192 : Int32))), (.int (0 : Int32))]) rfl ?_
      refine own_icmp X0 d1_125 (pc' := 132) (by decide) (fun c125 => ?_) (fun c125 => ?_)
      · have c125 : ¬ ((g (q.toInt + 3)) &&& (192 : Int32)).toInt = 128 := c125
        refine own_blk X0 B1_132_138 B1_132_138d (ls' := #[.val (.ref b), .val (.int q), .val (.int (4 : Int32)), .val (.int (g (q.toInt + 1))), .val (.int cp3), .val (.int (0 : Int32)), .val (.int (g (q.toInt + 3)))]) (st' := [(.int (2 : Int32)), (.int (4 : Int32))]) rfl ?_
        refine own_icmp X0 d1_138 (pc' := 147) (by decide) (fun c138 => ?_) (fun (c138 : ¬ (¬ (4 : Int) = 2)) => by exfalso; omega)
        have c138 : ¬ (4 : Int) = 2 := c138
        refine own_blk X0 B1_147_149 B1_147_149d (ls' := #[.val (.ref b), .val (.int q), .val (.int (4 : Int32)), .val (.int (g (q.toInt + 1))), .val (.int cp3), .val (.int (0 : Int32)), .val (.int (g (q.toInt + 3)))]) (st' := [(.int (3 : Int32)), (.int (4 : Int32))]) rfl ?_
        refine own_icmp X0 d1_149 (pc' := 158) (by decide) (fun c149 => ?_) (fun (c149 : ¬ (¬ (4 : Int) = 3)) => by exfalso; omega)
        have c149 : ¬ (4 : Int) = 3 := c149
        refine own_ldc X0 (hw _ (List.mem_of_getElem? (i := 6) rfl)) d1_158 ?_
        refine own_blk X0 B1_160_164 B1_160_164d (ls' := #[.val (.ref b), .val (.int q), .val (.int (4 : Int32)), .val (.int (g (q.toInt + 1))), .val (.int cp3), .val (.int (0 : Int32)), .val (.int (65536 : Int32))]) (st' := [(.int (0 : Int32))]) rfl ?_
        refine own_if X0 d1_164 (pc' := 195) (by decide) (fun c164 => ?_) (fun (c164 : ¬ ((0 : Int) = 0)) => by exfalso; omega)
        have c164 : (0 : Int) = 0 := c164
        refine own_blk X0 B1_195_196 B1_195_196d (ls' := #[.val (.ref b), .val (.int q), .val (.int (4 : Int32)), .val (.int (g (q.toInt + 1))), .val (.int cp3), .val (.int (0 : Int32)), .val (.int (65536 : Int32))]) (st' := [(.int (-1 : Int32))]) rfl ?_
        exact own_retI X0 d1_196 (by decide) (by decide) (⟨_, rfl, rfl, by show (_ ∧ (-1 : Int) = _) ∨ (_ ∧ (-1 : Int) = -1); omega⟩)
      · have c125 : ¬ (¬ ((g (q.toInt + 3)) &&& (192 : Int32)).toInt = 128) := c125
        refine own_blk X0 B1_128_129 B1_128_129d (ls' := #[.val (.ref b), .val (.int q), .val (.int (4 : Int32)), .val (.int (g (q.toInt + 1))), .val (.int cp3), .val (.int (0 : Int32)), .val (.int (g (q.toInt + 3)))]) (st' := [(.int (1 : Int32)), (.int (0 : Int32))]) rfl ?_
        refine own_goto X0 d1_129 (pc' := 133) (by decide) ?_
        refine own_blk X0 B1_133_138 B1_133_138d (ls' := #[.val (.ref b), .val (.int q), .val (.int (4 : Int32)), .val (.int (g (q.toInt + 1))), .val (.int cp3), .val (.int (0 : Int32)), .val (.int (g (q.toInt + 3)))]) (st' := [(.int (2 : Int32)), (.int (4 : Int32))]) rfl ?_
        refine own_icmp X0 d1_138 (pc' := 147) (by decide) (fun c138 => ?_) (fun (c138 : ¬ (¬ (4 : Int) = 2)) => by exfalso; omega)
        have c138 : ¬ (4 : Int) = 2 := c138
        refine own_blk X0 B1_147_149 B1_147_149d (ls' := #[.val (.ref b), .val (.int q), .val (.int (4 : Int32)), .val (.int (g (q.toInt + 1))), .val (.int cp3), .val (.int (0 : Int32)), .val (.int (g (q.toInt + 3)))]) (st' := [(.int (3 : Int32)), (.int (4 : Int32))]) rfl ?_
        refine own_icmp X0 d1_149 (pc' := 158) (by decide) (fun c149 => ?_) (fun (c149 : ¬ (¬ (4 : Int) = 3)) => by exfalso; omega)
        have c149 : ¬ (4 : Int) = 3 := c149
        refine own_ldc X0 (hw _ (List.mem_of_getElem? (i := 6) rfl)) d1_158 ?_
        refine own_blk X0 B1_160_164 B1_160_164d (ls' := #[.val (.ref b), .val (.int q), .val (.int (4 : Int32)), .val (.int (g (q.toInt + 1))), .val (.int cp3), .val (.int (0 : Int32)), .val (.int (65536 : Int32))]) (st' := [(.int (0 : Int32))]) rfl ?_
        refine own_if X0 d1_164 (pc' := 195) (by decide) (fun c164 => ?_) (fun (c164 : ¬ ((0 : Int) = 0)) => by exfalso; omega)
        have c164 : (0 : Int) = 0 := c164
        refine own_blk X0 B1_195_196 B1_195_196d (ls' := #[.val (.ref b), .val (.int q), .val (.int (4 : Int32)), .val (.int (g (q.toInt + 1))), .val (.int cp3), .val (.int (0 : Int32)), .val (.int (65536 : Int32))]) (st' := [(.int (-1 : Int32))]) rfl ?_
        exact own_retI X0 d1_196 (by decide) (by decide) (⟨_, rfl, rfl, by show (_ ∧ (-1 : Int) = _) ∨ (_ ∧ (-1 : Int) = -1); omega⟩)
  · have c32 : ¬ (¬ ((g (q.toInt + 1)) &&& (192 : Int32)).toInt = 128) := c32
    refine own_blk X0 B1_35_36 B1_35_36d (ls' := #[.val (.ref b), .val (.int q), .val (.int (4 : Int32)), .val (.int (g (q.toInt + 1))), .val (.int cp1), .unset, .unset]) (st' := [(.int (1 : Int32))]) rfl ?_
    refine own_goto X0 d1_36 (pc' := 40) (by decide) ?_
    refine own_blk X0 B1_40_44 B1_40_44d (ls' := #[.val (.ref b), .val (.int q), .val (.int (4 : Int32)), .val (.int (g (q.toInt + 1))), .val (.int cp1), .val (.int (1 : Int32)), .unset]) (st' := [(.int (2 : Int32)), (.int (4 : Int32))]) rfl ?_
    refine own_icmp X0 d1_44 (pc' := 89) (by decide) (fun (c44 : (4 : Int) ≤ 2) => by exfalso; omega) (fun c44 => ?_)
    have c44 : ¬ ((4 : Int) ≤ 2) := c44
    refine own_blk X0 B1_47_51 B1_47_51d (ls' := #[.val (.ref b), .val (.int q), .val (.int (4 : Int32)), .val (.int (g (q.toInt + 1))), .val (.int cp1), .val (.int (1 : Int32)), .unset]) (st' := [(.int (q + (2 : Int32))), (.ref b)]) rfl ?_
    refine own_bald X0 A d1_51 (by omega) (by omega) ?_
    show own_G p e below (T0.setTop (mkF m 52 #[.val (.ref b), .val (.int q), .val (.int (4 : Int32)), .val (.int (g (q.toInt + 1))), .val (.int cp1), .val (.int (1 : Int32)), .unset] [(.int (g (q + (2 : Int32)).toInt))])) _
    rw [i2]
    refine own_blk X0 B1_52_67 B1_52_67d (ls' := #[.val (.ref b), .val (.int q), .val (.int (4 : Int32)), .val (.int (g (q.toInt + 1))), .val (.int ((own_ishl cp1 (6 : Int32)) ||| ((g (q.toInt + 2)) &&& (63 : Int32)))), .val (.int (1 : Int32)), .val (.int (g (q.toInt + 2)))]) (st' := []) rfl ?_
    generalize ecp2 : ((own_ishl cp1 (6 : Int32)) ||| ((g (q.toInt + 2)) &&& (63 : Int32))) = cp2
    have hc2 := own_c2 ecp2 (by omega) (by omega)
    have hl2 := own_l192 (g (q.toInt + 2))
    refine own_blk X0 B1_67_78 B1_67_78d (ls' := #[.val (.ref b), .val (.int q), .val (.int (4 : Int32)), .val (.int (g (q.toInt + 1))), .val (.int cp2), .val (.int (1 : Int32)), .val (.int (g (q.toInt + 2)))]) (st' := [(.int (128 : Int32)), (.int ((g (q.toInt + 2)) &&& (192 : Int32))), (.int (1 : Int32))]) rfl ?_
    refine own_icmp X0 d1_78 (pc' := 85) (by decide) (fun c78 => ?_) (fun c78 => ?_)
    · have c78 : ¬ ((g (q.toInt + 2)) &&& (192 : Int32)).toInt = 128 := c78
      refine own_blk X0 B1_85_91 B1_85_91d (ls' := #[.val (.ref b), .val (.int q), .val (.int (4 : Int32)), .val (.int (g (q.toInt + 1))), .val (.int cp2), .val (.int (0 : Int32)), .val (.int (g (q.toInt + 2)))]) (st' := [(.int (3 : Int32)), (.int (4 : Int32))]) rfl ?_
      refine own_icmp X0 d1_91 (pc' := 136) (by decide) (fun (c91 : (4 : Int) ≤ 3) => by exfalso; omega) (fun c91 => ?_)
      have c91 : ¬ ((4 : Int) ≤ 3) := c91
      refine own_blk X0 B1_94_98 B1_94_98d (ls' := #[.val (.ref b), .val (.int q), .val (.int (4 : Int32)), .val (.int (g (q.toInt + 1))), .val (.int cp2), .val (.int (0 : Int32)), .val (.int (g (q.toInt + 2)))]) (st' := [(.int (q + (3 : Int32))), (.ref b)]) rfl ?_
      refine own_bald X0 A d1_98 (by omega) (by omega) ?_
      show own_G p e below (T0.setTop (mkF m 99 #[.val (.ref b), .val (.int q), .val (.int (4 : Int32)), .val (.int (g (q.toInt + 1))), .val (.int cp2), .val (.int (0 : Int32)), .val (.int (g (q.toInt + 2)))] [(.int (g (q + (3 : Int32)).toInt))])) _
      rw [i3]
      refine own_blk X0 B1_99_114 B1_99_114d (ls' := #[.val (.ref b), .val (.int q), .val (.int (4 : Int32)), .val (.int (g (q.toInt + 1))), .val (.int ((own_ishl cp2 (6 : Int32)) ||| ((g (q.toInt + 3)) &&& (63 : Int32)))), .val (.int (0 : Int32)), .val (.int (g (q.toInt + 3)))]) (st' := []) rfl ?_
      generalize ecp3 : ((own_ishl cp2 (6 : Int32)) ||| ((g (q.toInt + 3)) &&& (63 : Int32))) = cp3
      have hc3 := own_c2 ecp3 (by omega) (by omega)
      have hl3 := own_l192 (g (q.toInt + 3))
      refine own_blk X0 B1_114_125 B1_114_125d (ls' := #[.val (.ref b), .val (.int q), .val (.int (4 : Int32)), .val (.int (g (q.toInt + 1))), .val (.int cp3), .val (.int (0 : Int32)), .val (.int (g (q.toInt + 3)))]) (st' := [(.int (128 : Int32)), (.int ((g (q.toInt + 3)) &&& (192 : Int32))), (.int (0 : Int32))]) rfl ?_
      refine own_icmp X0 d1_125 (pc' := 132) (by decide) (fun c125 => ?_) (fun c125 => ?_)
      · have c125 : ¬ ((g (q.toInt + 3)) &&& (192 : Int32)).toInt = 128 := c125
        refine own_blk X0 B1_132_138 B1_132_138d (ls' := #[.val (.ref b), .val (.int q), .val (.int (4 : Int32)), .val (.int (g (q.toInt + 1))), .val (.int cp3), .val (.int (0 : Int32)), .val (.int (g (q.toInt + 3)))]) (st' := [(.int (2 : Int32)), (.int (4 : Int32))]) rfl ?_
        refine own_icmp X0 d1_138 (pc' := 147) (by decide) (fun c138 => ?_) (fun (c138 : ¬ (¬ (4 : Int) = 2)) => by exfalso; omega)
        have c138 : ¬ (4 : Int) = 2 := c138
        refine own_blk X0 B1_147_149 B1_147_149d (ls' := #[.val (.ref b), .val (.int q), .val (.int (4 : Int32)), .val (.int (g (q.toInt + 1))), .val (.int cp3), .val (.int (0 : Int32)), .val (.int (g (q.toInt + 3)))]) (st' := [(.int (3 : Int32)), (.int (4 : Int32))]) rfl ?_
        refine own_icmp X0 d1_149 (pc' := 158) (by decide) (fun c149 => ?_) (fun (c149 : ¬ (¬ (4 : Int) = 3)) => by exfalso; omega)
        have c149 : ¬ (4 : Int) = 3 := c149
        refine own_ldc X0 (hw _ (List.mem_of_getElem? (i := 6) rfl)) d1_158 ?_
        refine own_blk X0 B1_160_164 B1_160_164d (ls' := #[.val (.ref b), .val (.int q), .val (.int (4 : Int32)), .val (.int (g (q.toInt + 1))), .val (.int cp3), .val (.int (0 : Int32)), .val (.int (65536 : Int32))]) (st' := [(.int (0 : Int32))]) rfl ?_
        refine own_if X0 d1_164 (pc' := 195) (by decide) (fun c164 => ?_) (fun (c164 : ¬ ((0 : Int) = 0)) => by exfalso; omega)
        have c164 : (0 : Int) = 0 := c164
        refine own_blk X0 B1_195_196 B1_195_196d (ls' := #[.val (.ref b), .val (.int q), .val (.int (4 : Int32)), .val (.int (g (q.toInt + 1))), .val (.int cp3), .val (.int (0 : Int32)), .val (.int (65536 : Int32))]) (st' := [(.int (-1 : Int32))]) rfl ?_
        exact own_retI X0 d1_196 (by decide) (by decide) (⟨_, rfl, rfl, by show (_ ∧ (-1 : Int) = _) ∨ (_ ∧ (-1 : Int) = -1); omega⟩)
      · have c125 : ¬ (¬ ((g (q.toInt + 3)) &&& (192 : Int32)).toInt = 128) := c125
        refine own_blk X0 B1_128_129 B1_128_129d (ls' := #[.val (.ref b), .val (.int q), .val (.int (4 : Int32)), .val (.int (g (q.toInt + 1))), .val (.int cp3), .val (.int (0 : Int32)), .val (.int (g (q.toInt + 3)))]) (st' := [(.int (1 : Int32)), (.int (0 : Int32))]) rfl ?_
        refine own_goto X0 d1_129 (pc' := 133) (by decide) ?_
        refine own_blk X0 B1_133_138 B1_133_138d (ls' := #[.val (.ref b), .val (.int q), .val (.int (4 : Int32)), .val (.int (g (q.toInt + 1))), .val (.int cp3), .val (.int (0 : Int32)), .val (.int (g (q.toInt + 3)))]) (st' := [(.int (2 : Int32)), (.int (4 : Int32))]) rfl ?_
        refine own_icmp X0 d1_138 (pc' := 147) (by decide) (fun c138 => ?_) (fun (c138 : ¬ (¬ (4 : Int) = 2)) => by exfalso; omega)
        have c138 : ¬ (4 : Int) = 2 := c138
        refine own_blk X0 B1_147_149 B1_147_149d (ls' := #[.val (.ref b), .val (.int q), .val (.int (4 : Int32)), .val (.int (g (q.toInt + 1))), .val (.int cp3), .val (.int (0 : Int32)), .val (.int (g (q.toInt + 3)))]) (st' := [(.int (3 : Int32)), (.int (4 : Int32))]) rfl ?_
        refine own_icmp X0 d1_149 (pc' := 158) (by decide) (fun c149 => ?_) (fun (c149 : ¬ (¬ (4 : Int) = 3)) => by exfalso; omega)
        have c149 : ¬ (4 : Int) = 3 := c149
        refine own_ldc X0 (hw _ (List.mem_of_getElem? (i := 6) rfl)) d1_158 ?_
        refine own_blk X0 B1_160_164 B1_160_164d (ls' := #[.val (.ref b), .val (.int q), .val (.int (4 : Int32)), .val (.int (g (q.toInt + 1))), .val (.int cp3), .val (.int (0 : Int32)), .val (.int (65536 : Int32))]) (st' := [(.int (0 : Int32))]) rfl ?_
        refine own_if X0 d1_164 (pc' := 195) (by decide) (fun c164 => ?_) (fun (c164 : ¬ ((0 : Int) = 0)) => by exfalso; omega)
        have c164 : (0 : Int) = 0 := c164
        refine own_blk X0 B1_195_196 B1_195_196d (ls' := #[.val (.ref b), .val (.int q), .val (.int (4 : Int32)), .val (.int (g (q.toInt + 1))), .val (.int cp3), .val (.int (0 : Int32)), .val (.int (65536 : Int32))]) (st' := [(.int (-1 : Int32))]) rfl ?_
        exact own_retI X0 d1_196 (by decide) (by decide) (⟨_, rfl, rfl, by show (_ ∧ (-1 : Int) = _) ∨ (_ ∧ (-1 : Int) = -1); omega⟩)
    · have c78 : ¬ (¬ ((g (q.toInt + 2)) &&& (192 : Int32)).toInt = 128) := c78
      refine own_blk X0 B1_81_82 B1_81_82d (ls' := #[.val (.ref b), .val (.int q), .val (.int (4 : Int32)), .val (.int (g (q.toInt + 1))), .val (.int cp2), .val (.int (1 : Int32)), .val (.int (g (q.toInt + 2)))]) (st' := [(.int (1 : Int32)), (.int (1 : Int32))]) rfl ?_
      refine own_goto X0 d1_82 (pc' := 86) (by decide) ?_
      refine own_blk X0 B1_86_91 B1_86_91d (ls' := #[.val (.ref b), .val (.int q), .val (.int (4 : Int32)), .val (.int (g (q.toInt + 1))), .val (.int cp2), .val (.int (1 : Int32)), .val (.int (g (q.toInt + 2)))]) (st' := [(.int (3 : Int32)), (.int (4 : Int32))]) rfl ?_
      refine own_icmp X0 d1_91 (pc' := 136) (by decide) (fun (c91 : (4 : Int) ≤ 3) => by exfalso; omega) (fun c91 => ?_)
      have c91 : ¬ ((4 : Int) ≤ 3) := c91
      refine own_blk X0 B1_94_98 B1_94_98d (ls' := #[.val (.ref b), .val (.int q), .val (.int (4 : Int32)), .val (.int (g (q.toInt + 1))), .val (.int cp2), .val (.int (1 : Int32)), .val (.int (g (q.toInt + 2)))]) (st' := [(.int (q + (3 : Int32))), (.ref b)]) rfl ?_
      refine own_bald X0 A d1_98 (by omega) (by omega) ?_
      show own_G p e below (T0.setTop (mkF m 99 #[.val (.ref b), .val (.int q), .val (.int (4 : Int32)), .val (.int (g (q.toInt + 1))), .val (.int cp2), .val (.int (1 : Int32)), .val (.int (g (q.toInt + 2)))] [(.int (g (q + (3 : Int32)).toInt))])) _
      rw [i3]
      refine own_blk X0 B1_99_114 B1_99_114d (ls' := #[.val (.ref b), .val (.int q), .val (.int (4 : Int32)), .val (.int (g (q.toInt + 1))), .val (.int ((own_ishl cp2 (6 : Int32)) ||| ((g (q.toInt + 3)) &&& (63 : Int32)))), .val (.int (1 : Int32)), .val (.int (g (q.toInt + 3)))]) (st' := []) rfl ?_
      generalize ecp3 : ((own_ishl cp2 (6 : Int32)) ||| ((g (q.toInt + 3)) &&& (63 : Int32))) = cp3
      have hc3 := own_c2 ecp3 (by omega) (by omega)
      have hl3 := own_l192 (g (q.toInt + 3))
      refine own_blk X0 B1_114_125 B1_114_125d (ls' := #[.val (.ref b), .val (.int q), .val (.int (4 : Int32)), .val (.int (g (q.toInt + 1))), .val (.int cp3), .val (.int (1 : Int32)), .val (.int (g (q.toInt + 3)))]) (st' := [(.int (128 : Int32)), (.int ((g (q.toInt + 3)) &&& (192 : Int32))), (.int (1 : Int32))]) rfl ?_
      refine own_icmp X0 d1_125 (pc' := 132) (by decide) (fun c125 => ?_) (fun c125 => ?_)
      · have c125 : ¬ ((g (q.toInt + 3)) &&& (192 : Int32)).toInt = 128 := c125
        refine own_blk X0 B1_132_138 B1_132_138d (ls' := #[.val (.ref b), .val (.int q), .val (.int (4 : Int32)), .val (.int (g (q.toInt + 1))), .val (.int cp3), .val (.int (0 : Int32)), .val (.int (g (q.toInt + 3)))]) (st' := [(.int (2 : Int32)), (.int (4 : Int32))]) rfl ?_
        refine own_icmp X0 d1_138 (pc' := 147) (by decide) (fun c138 => ?_) (fun (c138 : ¬ (¬ (4 : Int) = 2)) => by exfalso; omega)
        have c138 : ¬ (4 : Int) = 2 := c138
        refine own_blk X0 B1_147_149 B1_147_149d (ls' := #[.val (.ref b), .val (.int q), .val (.int (4 : Int32)), .val (.int (g (q.toInt + 1))), .val (.int cp3), .val (.int (0 : Int32)), .val (.int (g (q.toInt + 3)))]) (st' := [(.int (3 : Int32)), (.int (4 : Int32))]) rfl ?_
        refine own_icmp X0 d1_149 (pc' := 158) (by decide) (fun c149 => ?_) (fun (c149 : ¬ (¬ (4 : Int) = 3)) => by exfalso; omega)
        have c149 : ¬ (4 : Int) = 3 := c149
        refine own_ldc X0 (hw _ (List.mem_of_getElem? (i := 6) rfl)) d1_158 ?_
        refine own_blk X0 B1_160_164 B1_160_164d (ls' := #[.val (.ref b), .val (.int q), .val (.int (4 : Int32)), .val (.int (g (q.toInt + 1))), .val (.int cp3), .val (.int (0 : Int32)), .val (.int (65536 : Int32))]) (st' := [(.int (0 : Int32))]) rfl ?_
        refine own_if X0 d1_164 (pc' := 195) (by decide) (fun c164 => ?_) (fun (c164 : ¬ ((0 : Int) = 0)) => by exfalso; omega)
        have c164 : (0 : Int) = 0 := c164
        refine own_blk X0 B1_195_196 B1_195_196d (ls' := #[.val (.ref b), .val (.int q), .val (.int (4 : Int32)), .val (.int (g (q.toInt + 1))), .val (.int cp3), .val (.int (0 : Int32)), .val (.int (65536 : Int32))]) (st' := [(.int (-1 : Int32))]) rfl ?_
        exact own_retI X0 d1_196 (by decide) (by decide) (⟨_, rfl, rfl, by show (_ ∧ (-1 : Int) = _) ∨ (_ ∧ (-1 : Int) = -1); omega⟩)
      · have c125 : ¬ (¬ ((g (q.toInt + 3)) &&& (192 : Int32)).toInt = 128) := c125
        refine own_blk X0 B1_128_129 B1_128_129d (ls' := #[.val (.ref b), .val (.int q), .val (.int (4 : Int32)), .val (.int (g (q.toInt + 1))), .val (.int cp3), .val (.int (1 : Int32)), .val (.int (g (q.toInt + 3)))]) (st' := [(.int (1 : Int32)), (.int (1 : Int32))]) rfl ?_
        refine own_goto X0 d1_129 (pc' := 133) (by decide) ?_
        refine own_blk X0 B1_133_138 B1_133_138d (ls' := #[.val (.ref b), .val (.int q), .val (.int (4 : Int32)), .val (.int (g (q.toInt + 1))), .val (.int cp3), .val (.int (1 : Int32)), .val (.int (g (q.toInt + 3)))]) (st' := [(.int (2 : Int32)), (.int (4 : Int32))]) rfl ?_
        refine own_icmp X0 d1_138 (pc' := 147) (by decide) (fun c138 => ?_) (fun (c138 : ¬ (¬ (4 : Int) = 2)) => by exfalso; omega)
        have c138 : ¬ (4 : Int) = 2 := c138
        refine own_blk X0 B1_147_149 B1_147_149d (ls' := #[.val (.ref b), .val (.int q), .val (.int (4 : Int32)), .val (.int (g (q.toInt + 1))), .val (.int cp3), .val (.int (1 : Int32)), .val (.int (g (q.toInt + 3)))]) (st' := [(.int (3 : Int32)), (.int (4 : Int32))]) rfl ?_
        refine own_icmp X0 d1_149 (pc' := 158) (by decide) (fun c149 => ?_) (fun (c149 : ¬ (¬ (4 : Int) = 3)) => by exfalso; omega)
        have c149 : ¬ (4 : Int) = 3 := c149
        refine own_ldc X0 (hw _ (List.mem_of_getElem? (i := 6) rfl)) d1_158 ?_
        refine own_blk X0 B1_160_164 B1_160_164d (ls' := #[.val (.ref b), .val (.int q), .val (.int (4 : Int32)), .val (.int (g (q.toInt + 1))), .val (.int cp3), .val (.int (1 : Int32)), .val (.int (65536 : Int32))]) (st' := [(.int (1 : Int32))]) rfl ?_
        refine own_if X0 d1_164 (pc' := 195) (by decide) (fun (c164 : (1 : Int) = 0) => by exfalso; omega) (fun c164 => ?_)
        have c164 : ¬ ((1 : Int) = 0) := c164
        refine own_blk X0 B1_167_171 B1_167_171d (ls' := #[.val (.ref b), .val (.int q), .val (.int (4 : Int32)), .val (.int (g (q.toInt + 1))), .val (.int cp3), .val (.int (1 : Int32)), .val (.int (65536 : Int32))]) (st' := [(.int (65536 : Int32)), (.int cp3)]) rfl ?_
        refine own_icmp X0 d1_171 (pc' := 195) (by decide) (fun c171 => ?_) (fun c171 => ?_)
        · have c171 : cp3.toInt < 65536 := c171
          refine own_blk X0 B1_195_196 B1_195_196d (ls' := #[.val (.ref b), .val (.int q), .val (.int (4 : Int32)), .val (.int (g (q.toInt + 1))), .val (.int cp3), .val (.int (1 : Int32)), .val (.int (65536 : Int32))]) (st' := [(.int (-1 : Int32))]) rfl ?_
          exact own_retI X0 d1_196 (by decide) (by decide) (⟨_, rfl, rfl, by show (_ ∧ (-1 : Int) = _) ∨ (_ ∧ (-1 : Int) = -1); omega⟩)
        · have c171 : ¬ (cp3.toInt < 65536) := c171
          refine own_blk X0 B1_174_176 B1_174_176d (ls' := #[.val (.ref b), .val (.int q), .val (.int (4 : Int32)), .val (.int (g (q.toInt + 1))), .val (.int cp3), .val (.int (1 : Int32)), .val (.int (65536 : Int32))]) (st' := [(.int cp3)]) rfl ?_
          refine own_ldc X0 (hw _ (List.mem_of_getElem? (i := 7) rfl)) d1_176 ?_
          refine own_icmp X0 d1_178 (pc' := 195) (by decide) (fun c178 => ?_) (fun c178 => ?_)
          · have c178 : 1114111 < cp3.toInt := c178
            refine own_blk X0 B1_195_196 B1_195_196d (ls' := #[.val (.ref b), .val (.int q), .val (.int (4 : Int32)), .val (.int (g (q.toInt + 1))), .val (.int cp3), .val (.int (1 : Int32)), .val (.int (65536 : Int32))]) (st' := [(.int (-1 : Int32))]) rfl ?_
            exact own_retI X0 d1_196 (by decide) (by decide) (⟨_, rfl, rfl, by show (_ ∧ (-1 : Int) = _) ∨ (_ ∧ (-1 : Int) = -1); omega⟩)
          · have c178 : ¬ (1114111 < cp3.toInt) := c178
            refine own_blk X0 B1_181_183 B1_181_183d (ls' := #[.val (.ref b), .val (.int q), .val (.int (4 : Int32)), .val (.int (g (q.toInt + 1))), .val (.int cp3), .val (.int (1 : Int32)), .val (.int (65536 : Int32))]) (st' := [(.int cp3)]) rfl ?_
            refine own_ldc X0 (hw _ (List.mem_of_getElem? (i := 8) rfl)) d1_183 ?_
            refine own_icmp X0 d1_185 (pc' := 197) (by decide) (fun c185 => ?_) (fun c185 => ?_)
            · have c185 : cp3.toInt < 55296 := c185
              refine own_blk X0 B1_197_199 B1_197_199d (ls' := #[.val (.ref b), .val (.int q), .val (.int (4 : Int32)), .val (.int (g (q.toInt + 1))), .val (.int cp3), .val (.int (1 : Int32)), .val (.int (65536 : Int32))]) (st' := [(.int cp3)]) rfl ?_
              exact own_retI X0 d1_199 (by decide) (by decide) (⟨_, rfl, rfl, by omega⟩)
            · have c185 : ¬ (cp3.toInt < 55296) := c185
              refine own_blk X0 B1_188_190 B1_188_190d (ls' := #[.val (.ref b), .val (.int q), .val (.int (4 : Int32)), .val (.int (g (q.toInt + 1))), .val (.int cp3), .val (.int (1 : Int32)), .val (.int (65536 : Int32))]) (st' := [(.int cp3)]) rfl ?_
              refine own_ldc X0 (hw _ (List.mem_of_getElem? (i := 14) rfl)) d1_190 ?_
              refine own_icmp X0 d1_192 (pc' := 197) (by decide) (fun c192 => ?_) (fun c192 => ?_)
              · have c192 : 57343 < cp3.toInt := c192
                refine own_blk X0 B1_197_199 B1_197_199d (ls' := #[.val (.ref b), .val (.int q), .val (.int (4 : Int32)), .val (.int (g (q.toInt + 1))), .val (.int cp3), .val (.int (1 : Int32)), .val (.int (65536 : Int32))]) (st' := [(.int cp3)]) rfl ?_
                exact own_retI X0 d1_199 (by decide) (by decide) (⟨_, rfl, rfl, by omega⟩)
              · have c192 : ¬ (57343 < cp3.toInt) := c192
                refine own_blk X0 B1_195_196 B1_195_196d (ls' := #[.val (.ref b), .val (.int q), .val (.int (4 : Int32)), .val (.int (g (q.toInt + 1))), .val (.int cp3), .val (.int (1 : Int32)), .val (.int (65536 : Int32))]) (st' := [(.int (-1 : Int32))]) rfl ?_
                exact own_retI X0 d1_196 (by decide) (by decide) (⟨_, rfl, rfl, by show (_ ∧ (-1 : Int) = _) ∨ (_ ∧ (-1 : Int) = -1); omega⟩)
theorem pl0 : plainFor x = true := plainFor_of_name (by first | (simp [plainName, overriddenIn]; done) | decide +kernel)
theorem own_e2 {ld u1 : Int32} (h0 : 192 ≤ ld.toInt ∧ ld.toInt < 256) (h1 : 128 ≤ u1.toInt ∧ u1.toInt < 192) : ((ld - 192) * 64 + (u1 - 128)).toInt = (ld.toInt - 192) * 64 + (u1.toInt - 128) := by
  have a1 : (ld - 192).toInt = ld.toInt - 192 := own_subc rfl (by omega) (by omega)
  have a2 : (u1 - 128).toInt = u1.toInt - 128 := own_subc rfl (by omega) (by omega)
  have a3 : ((ld - 192) * 64).toInt = (ld.toInt - 192) * 64 := by rw [own_mulc (d := 64) rfl (by omega) (by omega), a1]
  rw [Jvm.Kit.i32_add (by omega) (by omega), a3, a2]
theorem own_e3 {ld u1 u2 : Int32} (h0 : 224 ≤ ld.toInt ∧ ld.toInt < 256) (h1 : 128 ≤ u1.toInt ∧ u1.toInt < 192) (h2 : 128 ≤ u2.toInt ∧ u2.toInt < 192) : ((ld - 224) * 4096 + (u1 - 128) * 64 + (u2 - 128)).toInt = (ld.toInt - 224) * 4096 + (u1.toInt - 128) * 64 + (u2.toInt - 128) := by
  have a1 : (ld - 224).toInt = ld.toInt - 224 := own_subc rfl (by omega) (by omega)
  have a2 : (u1 - 128).toInt = u1.toInt - 128 := own_subc rfl (by omega) (by omega)
  have a3 : ((ld - 224) * 4096).toInt = (ld.toInt - 224) * 4096 := by rw [own_mulc (d := 4096) rfl (by omega) (by omega), a1]
  have a4 : ((u1 - 128) * 64).toInt = (u1.toInt - 128) * 64 := by rw [own_mulc (d := 64) rfl (by omega) (by omega), a2]
  have a5 : (u2 - 128).toInt = u2.toInt - 128 := own_subc rfl (by omega) (by omega)
  have a6 : ((ld - 224) * 4096 + (u1 - 128) * 64).toInt = (ld.toInt - 224) * 4096 + (u1.toInt - 128) * 64 := by rw [Jvm.Kit.i32_add (by omega) (by omega), a3, a4]
  rw [Jvm.Kit.i32_add (by omega) (by omega), a6, a5]
theorem own_e4 {ld u1 u2 u3 : Int32} (h0 : 240 ≤ ld.toInt ∧ ld.toInt < 256) (h1 : 128 ≤ u1.toInt ∧ u1.toInt < 192) (h2 : 128 ≤ u2.toInt ∧ u2.toInt < 192) (h3 : 128 ≤ u3.toInt ∧ u3.toInt < 192) : ((ld - 240) * 262144 + (u1 - 128) * 4096 + (u2 - 128) * 64 + (u3 - 128)).toInt = (ld.toInt - 240) * 262144 + (u1.toInt - 128) * 4096 + (u2.toInt - 128) * 64 + (u3.toInt - 128) := by
  have a1 : (ld - 240).toInt = ld.toInt - 240 := own_subc rfl (by omega) (by omega)
  have a2 : (u1 - 128).toInt = u1.toInt - 128 := own_subc rfl (by omega) (by omega)
  have a3 : ((ld - 240) * 262144).toInt = (ld.toInt - 240) * 262144 := by rw [own_mulc (d := 262144) rfl (by omega) (by omega), a1]
  have a4 : ((u1 - 128) * 4096).toInt = (u1.toInt - 128) * 4096 := by rw [own_mulc (d := 4096) rfl (by omega) (by omega), a2]
  have a5 : (u2 - 128).toInt = u2.toInt - 128 := own_subc rfl (by omega) (by omega)
  have a5' : ((u2 - 128) * 64).toInt = (u2.toInt - 128) * 64 := by rw [own_mulc (d := 64) rfl (by omega) (by omega), a5]
  have a6 : ((ld - 240) * 262144 + (u1 - 128) * 4096).toInt = (ld.toInt - 240) * 262144 + (u1.toInt - 128) * 4096 := by rw [Jvm.Kit.i32_add (by omega) (by omega), a3, a4]
  have a7 : ((ld - 240) * 262144 + (u1 - 128) * 4096 + (u2 - 128) * 64).toInt = (ld.toInt - 240) * 262144 + (u1.toInt - 128) * 4096 + (u2.toInt - 128) * 64 := by rw [Jvm.Kit.i32_add (by omega) (by omega), a6, a5']
  have a8 : (u3 - 128).toInt = u3.toInt - 128 := own_subc rfl (by omega) (by omega)
  rw [Jvm.Kit.i32_add (by omega) (by omega), a7, a8]
def B0_0_1 : List (Instr × Nat) := [(.iload_n 0, 1)]
theorem B0_0_1d : own_d code 0 B0_0_1 1 = true := by decide +kernel
theorem d0_1 : decode code 1 = .ok (.ldc 7, 2) := by decide +kernel
def B0_3_10 : List (Instr × Nat) := [(.iand, 1), (.istore 6, 2), (.iconst 2, 1), (.iload 6, 2), (.iconst 3, 1)]
theorem B0_3_10d : own_d code 3 B0_3_10 10 = true := by decide +kernel
theorem d0_10 : decode code 10 = .ok (.irem, 1) := by decide +kernel
def B0_11_17 : List (Instr × Nat) := [(.iadd, 1), (.istore 7, 2), (.iload 6, 2), (.iconst 3, 1)]
theorem B0_11_17d : own_d code 11 B0_11_17 17 = true := by decide +kernel
theorem d0_17 : decode code 17 = .ok (.idiv, 1) := by decide +kernel
def B0_18_19 : List (Instr × Nat) := [(.iconst 3, 1)]
theorem B0_18_19d : own_d code 18 B0_18_19 19 = true := by decide +kernel
theorem d0_19 : decode code 19 = .ok (.irem, 1) := by decide +kernel
def B0_20_22 : List (Instr × Nat) := [(.istore 8, 2)]
theorem B0_20_22d : own_d code 20 B0_20_22 22 = true := by decide +kernel
def B0_22_25 : List (Instr × Nat) := [(.iload 7, 2), (.iconst 2, 1)]
theorem B0_22_25d : own_d code 22 B0_22_25 25 = true := by decide +kernel
theorem d0_25 : decode code 25 = .ok (.if_icmp .ne 19, 3) := by decide +kernel
def B0_28_32 : List (Instr × Nat) := [(.sipush 194, 3), (.iload_n 1, 1)]
theorem B0_28_32d : own_d code 28 B0_28_32 32 = true := by decide +kernel
theorem d0_32 : decode code 32 = .ok (.ldc 7, 2) := by decide +kernel
def B0_34_37 : List (Instr × Nat) := [(.iand, 1), (.bipush 30, 2)]
theorem B0_34_37d : own_d code 34 B0_34_37 37 = true := by decide +kernel
theorem d0_37 : decode code 37 = .ok (.irem, 1) := by decide +kernel
def B0_38_41 : List (Instr × Nat) := [(.iadd, 1), (.istore 9, 2)]
theorem B0_38_41d : own_d code 38 B0_38_41 41 = true := by decide +kernel
theorem d0_41 : decode code 41 = .ok (.goto 34, 3) := by decide +kernel
def B0_75_77 : List (Instr × Nat) := [(.bipush 6, 2)]
theorem B0_75_77d : own_d code 75 B0_75_77 77 = true := by decide +kernel
theorem d0_77 : decode code 77 = .ok (.newarray .byte, 2) := by decide +kernel
def B0_79_87 : List (Instr × Nat) := [(.astore 10, 2), (.aload 10, 2), (.iconst 0, 1), (.iload 5, 2), (.i2b, 1)]
theorem B0_79_87d : own_d code 79 B0_79_87 87 = true := by decide +kernel
theorem d0_87 : decode code 87 = .ok (.bastore, 1) := by decide +kernel
def B0_88_94 : List (Instr × Nat) := [(.aload 10, 2), (.iconst 1, 1), (.iload 5, 2), (.i2b, 1)]
theorem B0_88_94d : own_d code 88 B0_88_94 94 = true := by decide +kernel
theorem d0_94 : decode code 94 = .ok (.bastore, 1) := by decide +kernel
def B0_95_101 : List (Instr × Nat) := [(.aload 10, 2), (.iconst 2, 1), (.iload 5, 2), (.i2b, 1)]
theorem B0_95_101d : own_d code 95 B0_95_101 101 = true := by decide +kernel
theorem d0_101 : decode code 101 = .ok (.bastore, 1) := by decide +kernel
def B0_102_108 : List (Instr × Nat) := [(.aload 10, 2), (.iconst 3, 1), (.iload 5, 2), (.i2b, 1)]
theorem B0_102_108d : own_d code 102 B0_102_108 108 = true := by decide +kernel
theorem d0_108 : decode code 108 = .ok (.bastore, 1) := by decide +kernel
def B0_109_115 : List (Instr × Nat) := [(.aload 10, 2), (.iconst 4, 1), (.iload 5, 2), (.i2b, 1)]
theorem B0_109_115d : own_d code 109 B0_109_115 115 = true := by decide +kernel
theorem d0_115 : decode code 115 = .ok (.bastore, 1) := by decide +kernel
def B0_116_122 : List (Instr × Nat) := [(.aload 10, 2), (.iconst 5, 1), (.iload 5, 2), (.i2b, 1)]
theorem B0_116_122d : own_d code 116 B0_116_122 122 = true := by decide +kernel
theorem d0_122 : decode code 122 = .ok (.bastore, 1) := by decide +kernel
def B0_123_130 : List (Instr × Nat) := [(.aload 10, 2), (.iload 8, 2), (.iload 9, 2), (.i2b, 1)]
theorem B0_123_130d : own_d code 123 B0_123_130 130 = true := by decide +kernel
theorem d0_130 : decode code 130 = .ok (.bastore, 1) := by decide +kernel
def B0_131_139 : List (Instr × Nat) := [(.aload 10, 2), (.iload 8, 2), (.iconst 1, 1), (.iadd, 1), (.iload_n 2, 1), (.i2b, 1)]
theorem B0_131_139d : own_d code 131 B0_131_139 139 = true := by decide +kernel
theorem d0_139 : decode code 139 = .ok (.bastore, 1) := by decide +kernel
def B0_140_148 : List (Instr × Nat) := [(.aload 10, 2), (.iload 8, 2), (.iconst 2, 1), (.iadd, 1), (.iload_n 3, 1), (.i2b, 1)]
theorem B0_140_148d : own_d code 140 B0_140_148 148 = true := by decide +kernel
theorem d0_148 : decode code 148 = .ok (.bastore, 1) := by decide +kernel
def B0_149_158 : List (Instr × Nat) := [(.aload 10, 2), (.iload 8, 2), (.iconst 3, 1), (.iadd, 1), (.iload 4, 2), (.i2b, 1)]
theorem B0_149_158d : own_d code 149 B0_149_158 158 = true := by decide +kernel
theorem d0_158 : decode code 158 = .ok (.bastore, 1) := by decide +kernel
def B0_159_181 : List (Instr × Nat) := [(.iload_n 2, 1), (.sipush 255, 3), (.iand, 1), (.istore 11, 2), (.iload_n 3, 1), (.sipush 255, 3), (.iand, 1), (.istore 12, 2), (.iload 4, 2), (.sipush 255, 3), (.iand, 1), (.istore 13, 2)]
theorem B0_159_181d : own_d code 159 B0_159_181 181 = true := by decide +kernel
def B0_181_196 : List (Instr × Nat) := [(.sipush 128, 3), (.istore 14, 2), (.sipush 191, 3), (.istore 15, 2), (.iload 9, 2), (.sipush 224, 3)]
theorem B0_181_196d : own_d code 181 B0_181_196 196 = true := by decide +kernel
theorem d0_196 : decode code 196 = .ok (.if_icmp .ne 11, 3) := by decide +kernel
def B0_207_212 : List (Instr × Nat) := [(.iload 9, 2), (.sipush 237, 3)]
theorem B0_207_212d : own_d code 207 B0_207_212 212 = true := by decide +kernel
theorem d0_212 : decode code 212 = .ok (.if_icmp .ne 11, 3) := by decide +kernel
def B0_223_228 : List (Instr × Nat) := [(.iload 9, 2), (.sipush 240, 3)]
theorem B0_223_228d : own_d code 223 B0_223_228 228 = true := by decide +kernel
theorem d0_228 : decode code 228 = .ok (.if_icmp .ne 11, 3) := by decide +kernel
def B0_239_244 : List (Instr × Nat) := [(.iload 9, 2), (.sipush 244, 3)]
theorem B0_239_244d : own_d code 239 B0_239_244 244 = true := by decide +kernel
theorem d0_244 : decode code 244 = .ok (.if_icmp .ne 8, 3) := by decide +kernel
def B0_252_256 : List (Instr × Nat) := [(.iload 11, 2), (.iload 14, 2)]
theorem B0_252_256d : own_d code 252 B0_252_256 256 = true := by decide +kernel
theorem d0_256 : decode code 256 = .ok (.if_icmp .lt 14, 3) := by decide +kernel
def B0_270_276 : List (Instr × Nat) := [(.iconst 0, 1), (.istore 16, 2), (.iload 7, 2), (.iconst 2, 1)]
theorem B0_270_276d : own_d code 270 B0_270_276 276 = true := by decide +kernel
theorem d0_276 : decode code 276 = .ok (.if_icmp .le 23, 3) := by decide +kernel
def B0_299_302 : List (Instr × Nat) := [(.iload 7, 2), (.iconst 3, 1)]
theorem B0_299_302d : own_d code 299 B0_299_302 302 = true := by decide +kernel
theorem d0_302 : decode code 302 = .ok (.if_icmp .le 23, 3) := by decide +kernel
def B0_325_330 : List (Instr × Nat) := [(.iconst (-1), 1), (.istore 17, 2), (.iload 16, 2)]
theorem B0_325_330d : own_d code 325 B0_325_330 330 = true := by decide +kernel
theorem d0_330 : decode code 330 = .ok (.ifCond .eq 107, 3) := by decide +kernel
def B0_437_443 : List (Instr × Nat) := [(.aload 10, 2), (.iload 8, 2), (.iload 7, 2)]
theorem B0_437_443d : own_d code 437 B0_437_443 443 = true := by decide +kernel
theorem d0_443 : decode code 443 = .ok (.invokestatic 15, 3) := by decide +kernel
theorem pd1 : parseMethodDescriptor "([BII)I" = some ⟨[(.array .byte), .int, .int], some .int⟩ := by decide +kernel
def B0_446_448 : List (Instr × Nat) := [(.iload 17, 2)]
theorem B0_446_448d : own_d code 446 B0_446_448 448 = true := by decide +kernel
theorem d0_448 : decode code 448 = .ok (.if_icmp .ne 7, 3) := by decide +kernel
def B0_451_452 : List (Instr × Nat) := [(.iconst 1, 1)]
theorem B0_451_452d : own_d code 451 B0_451_452 452 = true := by decide +kernel
theorem d0_452 : decode code 452 = .ok (.goto 4, 3) := by decide +kernel
theorem d0_456 : decode code 456 = .ok (.ireturn, 1) := by decide +kernel
def B0_259_263 : List (Instr × Nat) := [(.iload 11, 2), (.iload 15, 2)]
theorem B0_259_263d : own_d code 259 B0_259_263 263 = true := by decide +kernel
theorem d0_263 : decode code 263 = .ok (.if_icmp .gt 7, 3) := by decide +kernel
def B0_266_267 : List (Instr × Nat) := [(.iconst 1, 1)]
theorem B0_266_267d : own_d code 266 B0_266_267 267 = true := by decide +kernel
theorem d0_267 : decode code 267 = .ok (.goto 4, 3) := by decide +kernel
def B0_271_276 : List (Instr × Nat) := [(.istore 16, 2), (.iload 7, 2), (.iconst 2, 1)]
theorem B0_271_276d : own_d code 271 B0_271_276 276 = true := by decide +kernel
def B0_333_336 : List (Instr × Nat) := [(.iload 7, 2), (.iconst 2, 1)]
theorem B0_333_336d : own_d code 333 B0_333_336 336 = true := by decide +kernel
theorem d0_336 : decode code 336 = .ok (.if_icmp .ne 24, 3) := by decide +kernel
def B0_339_357 : List (Instr × Nat) := [(.iload 9, 2), (.sipush 192, 3), (.isub, 1), (.bipush 64, 2), (.imul, 1), (.iload 11, 2), (.sipush 128, 3), (.isub, 1), (.iadd, 1), (.istore 17, 2)]
theorem B0_339_357d : own_d code 339 B0_339_357 357 = true := by decide +kernel
theorem d0_357 : decode code 357 = .ok (.goto 80, 3) := by decide +kernel
def B0_44_47 : List (Instr × Nat) := [(.iload 7, 2), (.iconst 3, 1)]
theorem B0_44_47d : own_d code 44 B0_44_47 47 = true := by decide +kernel
theorem d0_47 : decode code 47 = .ok (.if_icmp .ne 16, 3) := by decide +kernel
def B0_50_60 : List (Instr × Nat) := [(.sipush 224, 3), (.iload_n 1, 1), (.bipush 15, 2), (.iand, 1), (.iadd, 1), (.istore 9, 2)]
theorem B0_50_60d : own_d code 50 B0_50_60 60 = true := by decide +kernel
theorem d0_60 : decode code 60 = .ok (.goto 15, 3) := by decide +kernel
def B0_279_281 : List (Instr × Nat) := [(.iload 16, 2)]
theorem B0_279_281d : own_d code 279 B0_279_281 281 = true := by decide +kernel
theorem d0_281 : decode code 281 = .ok (.ifCond .eq 15, 3) := by decide +kernel
def B0_296_302 : List (Instr × Nat) := [(.iconst 0, 1), (.istore 16, 2), (.iload 7, 2), (.iconst 3, 1)]
theorem B0_296_302d : own_d code 296 B0_296_302 302 = true := by decide +kernel
def B0_284_286 : List (Instr × Nat) := [(.iload 12, 2)]
theorem B0_284_286d : own_d code 284 B0_284_286 286 = true := by decide +kernel
theorem d0_286 : decode code 286 = .ok (.invokestatic 8, 3) := by decide +kernel
theorem pd2 : parseMethodDescriptor "(I)Z" = some ⟨[.int], some .boolean⟩ := by decide +kernel
theorem d0_289 : decode code 289 = .ok (.ifCond .eq 7, 3) := by decide +kernel
def B0_292_293 : List (Instr × Nat) := [(.iconst 1, 1)]
theorem B0_292_293d : own_d code 292 B0_292_293 293 = true := by decide +kernel
theorem d0_293 : decode code 293 = .ok (.goto 4, 3) := by decide +kernel
def B0_297_302 : List (Instr × Nat) := [(.istore 16, 2), (.iload 7, 2), (.iconst 3, 1)]
theorem B0_297_302d : own_d code 297 B0_297_302 302 = true := by decide +kernel
def B0_360_363 : List (Instr × Nat) := [(.iload 7, 2), (.iconst 3, 1)]
theorem B0_360_363d : own_d code 360 B0_360_363 363 = true := by decide +kernel
theorem d0_363 : decode code 363 = .ok (.if_icmp .ne 35, 3) := by decide +kernel
def B0_366_395 : List (Instr × Nat) := [(.iload 9, 2), (.sipush 224, 3), (.isub, 1), (.sipush 4096, 3), (.imul, 1), (.iload 11, 2), (.sipush 128, 3), (.isub, 1), (.bipush 64, 2), (.imul, 1), (.iadd, 1), (.iload 12, 2), (.sipush 128, 3), (.isub, 1), (.iadd, 1), (.istore 17, 2)]
theorem B0_366_395d : own_d code 366 B0_366_395 395 = true := by decide +kernel
theorem d0_395 : decode code 395 = .ok (.goto 42, 3) := by decide +kernel
def B0_215_220 : List (Instr × Nat) := [(.sipush 159, 3), (.istore 15, 2)]
theorem B0_215_220d : own_d code 215 B0_215_220 220 = true := by decide +kernel
theorem d0_220 : decode code 220 = .ok (.goto 32, 3) := by decide +kernel
def B0_199_204 : List (Instr × Nat) := [(.sipush 160, 3), (.istore 14, 2)]
theorem B0_199_204d : own_d code 199 B0_199_204 204 = true := by decide +kernel
theorem d0_204 : decode code 204 = .ok (.goto 48, 3) := by decide +kernel
def B0_63_67 : List (Instr × Nat) := [(.sipush 240, 3), (.iload_n 1, 1)]
theorem B0_63_67d : own_d code 63 B0_63_67 67 = true := by decide +kernel
theorem d0_67 : decode code 67 = .ok (.ldc 7, 2) := by decide +kernel
def B0_69_71 : List (Instr × Nat) := [(.iand, 1), (.iconst 5, 1)]
theorem B0_69_71d : own_d code 69 B0_69_71 71 = true := by decide +kernel
theorem d0_71 : decode code 71 = .ok (.irem, 1) := by decide +kernel
def B0_72_75 : List (Instr × Nat) := [(.iadd, 1), (.istore 9, 2)]
theorem B0_72_75d : own_d code 72 B0_72_75 75 = true := by decide +kernel
def B0_305_307 : List (Instr × Nat) := [(.iload 16, 2)]
theorem B0_305_307d : own_d code 305 B0_305_307 307 = true := by decide +kernel
theorem d0_307 : decode code 307 = .ok (.ifCond .eq 15, 3) := by decide +kernel
def B0_322_330 : List (Instr × Nat) := [(.iconst 0, 1), (.istore 16, 2), (.iconst (-1), 1), (.istore 17, 2), (.iload 16, 2)]
theorem B0_322_330d : own_d code 322 B0_322_330 330 = true := by decide +kernel
def B0_310_312 : List (Instr × Nat) := [(.iload 13, 2)]
theorem B0_310_312d : own_d code 310 B0_310_312 312 = true := by decide +kernel
theorem d0_312 : decode code 312 = .ok (.invokestatic 8, 3) := by decide +kernel
theorem d0_315 : decode code 315 = .ok (.ifCond .eq 7, 3) := by decide +kernel
def B0_318_319 : List (Instr × Nat) := [(.iconst 1, 1)]
theorem B0_318_319d : own_d code 318 B0_318_319 319 = true := by decide +kernel
theorem d0_319 : decode code 319 = .ok (.goto 4, 3) := by decide +kernel
def B0_323_330 : List (Instr × Nat) := [(.istore 16, 2), (.iconst (-1), 1), (.istore 17, 2), (.iload 16, 2)]
theorem B0_323_330d : own_d code 323 B0_323_330 330 = true := by decide +kernel
def B0_398_404 : List (Instr × Nat) := [(.iload 9, 2), (.sipush 240, 3), (.isub, 1)]
theorem B0_398_404d : own_d code 398 B0_398_404 404 = true := by decide +kernel
theorem d0_404 : decode code 404 = .ok (.ldc 14, 2) := by decide +kernel
def B0_406_437 : List (Instr × Nat) := [(.imul, 1), (.iload 11, 2), (.sipush 128, 3), (.isub, 1), (.sipush 4096, 3), (.imul, 1), (.iadd, 1), (.iload 12, 2), (.sipush 128, 3), (.isub, 1), (.bipush 64, 2), (.imul, 1), (.iadd, 1), (.iload 13, 2), (.sipush 128, 3), (.isub, 1), (.iadd, 1), (.istore 17, 2)]
theorem B0_406_437d : own_d code 406 B0_406_437 437 = true := by decide +kernel
def B0_247_256 : List (Instr × Nat) := [(.sipush 143, 3), (.istore 15, 2), (.iload 11, 2), (.iload 14, 2)]
theorem B0_247_256d : own_d code 247 B0_247_256 256 = true := by decide +kernel
def B0_231_236 : List (Instr × Nat) := [(.sipush 144, 3), (.istore 14, 2)]
theorem B0_231_236d : own_d code 231 B0_231_236 236 = true := by decide +kernel
theorem d0_236 : decode code 236 = .ok (.goto 16, 3) := by decide +kernel
set_option maxRecDepth 65536 in
set_option maxHeartbeats 40000000 in
theorem c_law (l : Launch) (Z : State) (a0 : Array Value) (hw : ∀ d ∈ tables_1, d.before a0 Z = true) (z0 : Int32) (z1 : Int32) (z2 : Int32) (z3 : Int32) (z4 : Int32) (z5 : Int32) (h0 : Heap) (n0 : Nat) (Z0 : n0 ≤ h0.size)  :
    own_C l Z x code maxLocals ret room_1 #[(.int z0), (.int z1), (.int z2), (.int z3), (.int z4), (.int z5)] h0 n0 (fun v h => v = some (.int 1)) := by
  refine own_body pl0 Z0 (ls := #[.val (.int z0), .val (.int z1), .val (.int z2), .val (.int z3), .val (.int z4), .val (.int z5), .unset, .unset, .unset, .unset, .unset, .unset, .unset, .unset, .unset, .unset, .unset, .unset]) (fun m => by first | (simp [entryFrame, mkF, argsToLocals, Value.category, maxLocals]; done) | rfl) ?_
  intro p e s m below meth c T0 X0
  refine own_blk X0 B0_0_1 B0_0_1d (ls' := #[.val (.int z0), .val (.int z1), .val (.int z2), .val (.int z3), .val (.int z4), .val (.int z5), .unset, .unset, .unset, .unset, .unset, .unset, .unset, .unset, .unset, .unset, .unset, .unset]) (st' := [(.int z0)]) rfl ?_
  refine own_ldc X0 (hw _ (List.mem_of_getElem? (i := 0) rfl)) d0_1 ?_
  refine own_blk X0 B0_3_10 B0_3_10d (ls' := #[.val (.int z0), .val (.int z1), .val (.int z2), .val (.int z3), .val (.int z4), .val (.int z5), .val (.int (z0 &&& (2147483647 : Int32))), .unset, .unset, .unset, .unset, .unset, .unset, .unset, .unset, .unset, .unset, .unset]) (st' := [(.int (3 : Int32)), (.int (z0 &&& (2147483647 : Int32))), (.int (2 : Int32))]) rfl ?_
  refine own_iremS X0 d0_10 (by decide) ?_
  refine own_blk X0 B0_11_17 B0_11_17d (ls' := #[.val (.int z0), .val (.int z1), .val (.int z2), .val (.int z3), .val (.int z4), .val (.int z5), .val (.int (z0 &&& (2147483647 : Int32))), .val (.int ((2 : Int32) + (own_irem (z0 &&& (2147483647 : Int32)) (3 : Int32)))), .unset, .unset, .unset, .unset, .unset, .unset, .unset, .unset, .unset, .unset]) (st' := [(.int (3 : Int32)), (.int (z0 &&& (2147483647 : Int32)))]) rfl ?_
  refine own_idiv X0 d0_17 (by decide) ?_
  refine own_blk X0 B0_18_19 B0_18_19d (ls' := #[.val (.int z0), .val (.int z1), .val (.int z2), .val (.int z3), .val (.int z4), .val (.int z5), .val (.int (z0 &&& (2147483647 : Int32))), .val (.int ((2 : Int32) + (own_irem (z0 &&& (2147483647 : Int32)) (3 : Int32)))), .unset, .unset, .unset, .unset, .unset, .unset, .unset, .unset, .unset, .unset]) (st' := [(.int (3 : Int32)), (.int ((z0 &&& (2147483647 : Int32)) / (3 : Int32)))]) rfl ?_
  refine own_iremS X0 d0_19 (by decide) ?_
  refine own_blk X0 B0_20_22 B0_20_22d (ls' := #[.val (.int z0), .val (.int z1), .val (.int z2), .val (.int z3), .val (.int z4), .val (.int z5), .val (.int (z0 &&& (2147483647 : Int32))), .val (.int ((2 : Int32) + (own_irem (z0 &&& (2147483647 : Int32)) (3 : Int32)))), .val (.int (own_irem ((z0 &&& (2147483647 : Int32)) / (3 : Int32)) (3 : Int32))), .unset, .unset, .unset, .unset, .unset, .unset, .unset, .unset, .unset]) (st' := []) rfl ?_
  generalize ekk : (z0 &&& (2147483647 : Int32)) = kk
  have hkk : 0 ≤ kk.toInt := by rw [← ekk, own_mask _ _ 31 (by decide) (by decide)]; omega
  generalize eln : ((2 : Int32) + (own_irem kk (3 : Int32))) = ln
  generalize eq : (own_irem (kk / (3 : Int32)) (3 : Int32)) = q
  have hln : ln.toInt = 2 ∨ ln.toInt = 3 ∨ ln.toInt = 4 := by
    have h1 : (own_irem kk (3 : Int32)).toInt = kk.toInt % 3 := own_irem_pos hkk
    rw [← eln, Jvm.Kit.i32_add (by rw [h1]; show _ ≤ (2 : Int) + _; omega) (by rw [h1]; show (2 : Int) + _ < _; omega), h1]
    show (2 : Int) + _ = 2 ∨ (2 : Int) + _ = 3 ∨ (2 : Int) + _ = 4
    omega
  have hq : 0 ≤ q.toInt ∧ q.toInt ≤ 2 := by
    have h1 : (kk / (3 : Int32)).toInt = kk.toInt / 3 := own_idiv_pos hkk
    have h2 : (own_irem (kk / (3 : Int32)) (3 : Int32)).toInt = (kk / (3 : Int32)).toInt % 3 := own_irem_pos (by omega)
    rw [← eq, h2]; omega
  have i1 : (q + (1 : Int32)).toInt = q.toInt + 1 := own_addc rfl (by omega) (by omega)
  have i2 : (q + (2 : Int32)).toInt = q.toInt + 2 := own_addc rfl (by omega) (by omega)
  have i3 : (q + (3 : Int32)).toInt = q.toInt + 3 := own_addc rfl (by omega) (by omega)
  have hln2 : ln = 2 ∨ ln = 3 ∨ ln = 4 := by rcases hln with q1 | q1 | q1; exact Or.inl (Int32.toInt_inj.mp q1); exact Or.inr (Or.inl (Int32.toInt_inj.mp q1)); exact Or.inr (Or.inr (Int32.toInt_inj.mp q1))
  clear eln hln
  rcases hln2 with rfl | rfl | rfl
  · skip
    refine own_blk X0 B0_22_25 B0_22_25d (ls' := #[.val (.int z0), .val (.int z1), .val (.int z2), .val (.int z3), .val (.int z4), .val (.int z5), .val (.int kk), .val (.int (2 : Int32)), .val (.int q), .unset, .unset, .unset, .unset, .unset, .unset, .unset, .unset, .unset]) (st' := [(.int (2 : Int32)), (.int (2 : Int32))]) rfl ?_
    refine own_icmp X0 d0_25 (pc' := 44) (by decide) (fun (c25 : ¬ (2 : Int) = 2) => by exfalso; omega) (fun c25 => ?_)
    have c25 : ¬ (¬ (2 : Int) = 2) := c25
    refine own_blk X0 B0_28_32 B0_28_32d (ls' := #[.val (.int z0), .val (.int z1), .val (.int z2), .val (.int z3), .val (.int z4), .val (.int z5), .val (.int kk), .val (.int (2 : Int32)), .val (.int q), .unset, .unset, .unset, .unset, .unset, .unset, .unset, .unset, .unset]) (st' := [(.int z1), (.int (194 : Int32))]) rfl ?_
    refine own_ldc X0 (hw _ (List.mem_of_getElem? (i := 0) rfl)) d0_32 ?_
    refine own_blk X0 B0_34_37 B0_34_37d (ls' := #[.val (.int z0), .val (.int z1), .val (.int z2), .val (.int z3), .val (.int z4), .val (.int z5), .val (.int kk), .val (.int (2 : Int32)), .val (.int q), .unset, .unset, .unset, .unset, .unset, .unset, .unset, .unset, .unset]) (st' := [(.int (30 : Int32)), (.int (z1 &&& (2147483647 : Int32))), (.int (194 : Int32))]) rfl ?_
    refine own_iremS X0 d0_37 (by decide) ?_
    refine own_blk X0 B0_38_41 B0_38_41d (ls' := #[.val (.int z0), .val (.int z1), .val (.int z2), .val (.int z3), .val (.int z4), .val (.int z5), .val (.int kk), .val (.int (2 : Int32)), .val (.int q), .val (.int ((194 : Int32) + (own_irem (z1 &&& (2147483647 : Int32)) (30 : Int32)))), .unset, .unset, .unset, .unset, .unset, .unset, .unset, .unset]) (st' := []) rfl ?_
    refine own_goto X0 d0_41 (pc' := 75) (by decide) ?_
    generalize eld : ((194 : Int32) + (own_irem (z1 &&& (2147483647 : Int32)) (30 : Int32))) = ld
    have hld : 194 ≤ ld.toInt ∧ ld.toInt ≤ 223 := by
      have h0 : (z1 &&& 2147483647).toInt = z1.toInt % 2 ^ 31 := Jvm.Kit.i32_mask _ _ (by decide) (by decide)
      have h1 : (own_irem (z1 &&& 2147483647) (30 : Int32)).toInt = (z1 &&& 2147483647).toInt % 30 := own_irem_pos (by omega)
      rw [← eld, Jvm.Kit.i32_add (by rw [h1]; show _ ≤ (194 : Int) + _; omega) (by rw [h1]; show (194 : Int) + _ < _; omega), h1]
      show _ ≤ (194 : Int) + _ ∧ (194 : Int) + _ ≤ _
      omega
    refine own_blk X0 B0_75_77 B0_75_77d (ls' := #[.val (.int z0), .val (.int z1), .val (.int z2), .val (.int z3), .val (.int z4), .val (.int z5), .val (.int kk), .val (.int (2 : Int32)), .val (.int q), .val (.int ld), .unset, .unset, .unset, .unset, .unset, .unset, .unset, .unset]) (st' := [(.int (6 : Int32))]) rfl ?_
    refine own_newI X0 (hw _ (List.mem_of_getElem? (i := 1) rfl)) rfl d0_77 (by decide) 6 (by decide) (by decide) (by decide) (by decide) (fun h1 T1 X1 E1 A1 => ?_)
    have n_b : n0 ≤ h0.size := X0.2.1
    have A1 : own_I Z h1 h0.size .byte 6 (fun _ => (0 : Int32)) := A1
    generalize ez_b : h0.size = b at A1 n_b ⊢
    show own_G p e below (T1.setTop (mkF m 79 #[.val (.int z0), .val (.int z1), .val (.int z2), .val (.int z3), .val (.int z4), .val (.int z5), .val (.int kk), .val (.int (2 : Int32)), .val (.int q), .val (.int ld), .unset, .unset, .unset, .unset, .unset, .unset, .unset, .unset] [(.ref b)])) _
    refine own_blk X1 B0_79_87 B0_79_87d (ls' := #[.val (.int z0), .val (.int z1), .val (.int z2), .val (.int z3), .val (.int z4), .val (.int z5), .val (.int kk), .val (.int (2 : Int32)), .val (.int q), .val (.int ld), .val (.ref b), .unset, .unset, .unset, .unset, .unset, .unset, .unset]) (st' := [(.int (own_i2b z5)), (.int (0 : Int32)), (.ref b)]) rfl ?_
    refine own_bast X1 A1 n_b d0_87 (by decide) (by decide) (own_i2b_fix _) (fun h2 T2 X2 A2 W2 => ?_)
    have A2 : own_I Z h2 b .byte 6 (own_u (fun _ => (0 : Int32)) (0) (own_i2b z5)) := A2
    generalize eg2 : own_u (fun _ => (0 : Int32)) (0) (own_i2b z5) = g2 at A2
    refine own_blk X2 B0_88_94 B0_88_94d (ls' := #[.val (.int z0), .val (.int z1), .val (.int z2), .val (.int z3), .val (.int z4), .val (.int z5), .val (.int kk), .val (.int (2 : Int32)), .val (.int q), .val (.int ld), .val (.ref b), .unset, .unset, .unset, .unset, .unset, .unset, .unset]) (st' := [(.int (own_i2b z5)), (.int (1 : Int32)), (.ref b)]) rfl ?_
    refine own_bast X2 A2 n_b d0_94 (by decide) (by decide) (own_i2b_fix _) (fun h3 T3 X3 A3 W3 => ?_)
    have A3 : own_I Z h3 b .byte 6 (own_u g2 (1) (own_i2b z5)) := A3
    generalize eg3 : own_u g2 (1) (own_i2b z5) = g3 at A3
    refine own_blk X3 B0_95_101 B0_95_101d (ls' := #[.val (.int z0), .val (.int z1), .val (.int z2), .val (.int z3), .val (.int z4), .val (.int z5), .val (.int kk), .val (.int (2 : Int32)), .val (.int q), .val (.int ld), .val (.ref b), .unset, .unset, .unset, .unset, .unset, .unset, .unset]) (st' := [(.int (own_i2b z5)), (.int (2 : Int32)), (.ref b)]) rfl ?_
    refine own_bast X3 A3 n_b d0_101 (by decide) (by decide) (own_i2b_fix _) (fun h4 T4 X4 A4 W4 => ?_)
    have A4 : own_I Z h4 b .byte 6 (own_u g3 (2) (own_i2b z5)) := A4
    generalize eg4 : own_u g3 (2) (own_i2b z5) = g4 at A4
    refine own_blk X4 B0_102_108 B0_102_108d (ls' := #[.val (.int z0), .val (.int z1), .val (.int z2), .val (.int z3), .val (.int z4), .val (.int z5), .val (.int kk), .val (.int (2 : Int32)), .val (.int q), .val (.int ld), .val (.ref b), .unset, .unset, .unset, .unset, .unset, .unset, .unset]) (st' := [(.int (own_i2b z5)), (.int (3 : Int32)), (.ref b)]) rfl ?_
    refine own_bast X4 A4 n_b d0_108 (by decide) (by decide) (own_i2b_fix _) (fun h5 T5 X5 A5 W5 => ?_)
    have A5 : own_I Z h5 b .byte 6 (own_u g4 (3) (own_i2b z5)) := A5
    generalize eg5 : own_u g4 (3) (own_i2b z5) = g5 at A5
    refine own_blk X5 B0_109_115 B0_109_115d (ls' := #[.val (.int z0), .val (.int z1), .val (.int z2), .val (.int z3), .val (.int z4), .val (.int z5), .val (.int kk), .val (.int (2 : Int32)), .val (.int q), .val (.int ld), .val (.ref b), .unset, .unset, .unset, .unset, .unset, .unset, .unset]) (st' := [(.int (own_i2b z5)), (.int (4 : Int32)), (.ref b)]) rfl ?_
    refine own_bast X5 A5 n_b d0_115 (by decide) (by decide) (own_i2b_fix _) (fun h6 T6 X6 A6 W6 => ?_)
    have A6 : own_I Z h6 b .byte 6 (own_u g5 (4) (own_i2b z5)) := A6
    generalize eg6 : own_u g5 (4) (own_i2b z5) = g6 at A6
    refine own_blk X6 B0_116_122 B0_116_122d (ls' := #[.val (.int z0), .val (.int z1), .val (.int z2), .val (.int z3), .val (.int z4), .val (.int z5), .val (.int kk), .val (.int (2 : Int32)), .val (.int q), .val (.int ld), .val (.ref b), .unset, .unset, .unset, .unset, .unset, .unset, .unset]) (st' := [(.int (own_i2b z5)), (.int (5 : Int32)), (.ref b)]) rfl ?_
    refine own_bast X6 A6 n_b d0_122 (by decide) (by decide) (own_i2b_fix _) (fun h7 T7 X7 A7 W7 => ?_)
    have A7 : own_I Z h7 b .byte 6 (own_u g6 (5) (own_i2b z5)) := A7
    generalize eg7 : own_u g6 (5) (own_i2b z5) = g7 at A7
    refine own_blk X7 B0_123_130 B0_123_130d (ls' := #[.val (.int z0), .val (.int z1), .val (.int z2), .val (.int z3), .val (.int z4), .val (.int z5), .val (.int kk), .val (.int (2 : Int32)), .val (.int q), .val (.int ld), .val (.ref b), .unset, .unset, .unset, .unset, .unset, .unset, .unset]) (st' := [(.int (own_i2b ld)), (.int q), (.ref b)]) rfl ?_
    refine own_bast X7 A7 n_b d0_130 (by omega) (by omega) (own_i2b_fix _) (fun h8 T8 X8 A8 W8 => ?_)
    have A8 : own_I Z h8 b .byte 6 (own_u g7 (q.toInt) (own_i2b ld)) := A8
    generalize eg8 : own_u g7 (q.toInt) (own_i2b ld) = g8 at A8
    refine own_blk X8 B0_131_139 B0_131_139d (ls' := #[.val (.int z0), .val (.int z1), .val (.int z2), .val (.int z3), .val (.int z4), .val (.int z5), .val (.int kk), .val (.int (2 : Int32)), .val (.int q), .val (.int ld), .val (.ref b), .unset, .unset, .unset, .unset, .unset, .unset, .unset]) (st' := [(.int (own_i2b z2)), (.int (q + (1 : Int32))), (.ref b)]) rfl ?_
    refine own_bast X8 A8 n_b d0_139 (by omega) (by omega) (own_i2b_fix _) (fun h9 T9 X9 A9 W9 => ?_)
    have A9 : own_I Z h9 b .byte 6 (own_u g8 (q.toInt + 1) (own_i2b z2)) := by rw [← i1]; exact A9
    generalize eg9 : own_u g8 (q.toInt + 1) (own_i2b z2) = g9 at A9
    refine own_blk X9 B0_140_148 B0_140_148d (ls' := #[.val (.int z0), .val (.int z1), .val (.int z2), .val (.int z3), .val (.int z4), .val (.int z5), .val (.int kk), .val (.int (2 : Int32)), .val (.int q), .val (.int ld), .val (.ref b), .unset, .unset, .unset, .unset, .unset, .unset, .unset]) (st' := [(.int (own_i2b z3)), (.int (q + (2 : Int32))), (.ref b)]) rfl ?_
    refine own_bast X9 A9 n_b d0_148 (by omega) (by omega) (own_i2b_fix _) (fun h10 T10 X10 A10 W10 => ?_)
    have A10 : own_I Z h10 b .byte 6 (own_u g9 (q.toInt + 2) (own_i2b z3)) := by rw [← i2]; exact A10
    generalize eg10 : own_u g9 (q.toInt + 2) (own_i2b z3) = g10 at A10
    refine own_blk X10 B0_149_158 B0_149_158d (ls' := #[.val (.int z0), .val (.int z1), .val (.int z2), .val (.int z3), .val (.int z4), .val (.int z5), .val (.int kk), .val (.int (2 : Int32)), .val (.int q), .val (.int ld), .val (.ref b), .unset, .unset, .unset, .unset, .unset, .unset, .unset]) (st' := [(.int (own_i2b z4)), (.int (q + (3 : Int32))), (.ref b)]) rfl ?_
    refine own_bast X10 A10 n_b d0_158 (by omega) (by omega) (own_i2b_fix _) (fun h11 T11 X11 A11 W11 => ?_)
    have A11 : own_I Z h11 b .byte 6 (own_u g10 (q.toInt + 3) (own_i2b z4)) := by rw [← i3]; exact A11
    generalize eg11 : own_u g10 (q.toInt + 3) (own_i2b z4) = g11 at A11
    refine own_blk X11 B0_159_181 B0_159_181d (ls' := #[.val (.int z0), .val (.int z1), .val (.int z2), .val (.int z3), .val (.int z4), .val (.int z5), .val (.int kk), .val (.int (2 : Int32)), .val (.int q), .val (.int ld), .val (.ref b), .val (.int (z2 &&& (255 : Int32))), .val (.int (z3 &&& (255 : Int32))), .val (.int (z4 &&& (255 : Int32))), .unset, .unset, .unset, .unset]) (st' := []) rfl ?_
    have r0 : g11 (q.toInt) = own_i2b ld := by rw [← eg11, own_u_ne (by omega), ← eg10, own_u_ne (by omega), ← eg9, own_u_ne (by omega), ← eg8, own_u_eq (by omega)]
    have r1 : g11 (q.toInt + 1) = own_i2b z2 := by rw [← eg11, own_u_ne (by omega), ← eg10, own_u_ne (by omega), ← eg9, own_u_eq (by omega)]
    have r2 : g11 (q.toInt + 2) = own_i2b z3 := by rw [← eg11, own_u_ne (by omega), ← eg10, own_u_eq (by omega)]
    have r3 : g11 (q.toInt + 3) = own_i2b z4 := by rw [← eg11, own_u_eq (by omega)]
    have s0 := own_i2b_b ld
    have s1 := own_i2b_b z2
    have s2 := own_i2b_b z3
    have s3 := own_i2b_b z4
    generalize eu1 : (z2 &&& (255 : Int32)) = u1
    have hu1 : u1.toInt = z2.toInt % 256 := by rw [← eu1]; exact own_m255 _
    generalize eu2 : (z3 &&& (255 : Int32)) = u2
    have hu2 : u2.toInt = z3.toInt % 256 := by rw [← eu2]; exact own_m255 _
    generalize eu3 : (z4 &&& (255 : Int32)) = u3
    have hu3 : u3.toInt = z4.toInt % 256 := by rw [← eu3]; exact own_m255 _
    refine own_blk X11 B0_181_196 B0_181_196d (ls' := #[.val (.int z0), .val (.int z1), .val (.int z2), .val (.int z3), .val (.int z4), .val (.int z5), .val (.int kk), .val (.int (2 : Int32)), .val (.int q), .val (.int ld), .val (.ref b), .val (.int u1), .val (.int u2), .val (.int u3), .val (.int (128 : Int32)), .val (.int (191 : Int32)), .unset, .unset]) (st' := [(.int (224 : Int32)), (.int ld)]) rfl ?_
    refine own_icmp X11 d0_196 (pc' := 207) (by decide) (fun c196 => ?_) (fun (c196 : ¬ (¬ ld.toInt = 224)) => by exfalso; omega)
    have c196 : ¬ ld.toInt = 224 := c196
    refine own_blk X11 B0_207_212 B0_207_212d (ls' := #[.val (.int z0), .val (.int z1), .val (.int z2), .val (.int z3), .val (.int z4), .val (.int z5), .val (.int kk), .val (.int (2 : Int32)), .val (.int q), .val (.int ld), .val (.ref b), .val (.int u1), .val (.int u2), .val (.int u3), .val (.int (128 : Int32)), .val (.int (191 : Int32)), .unset, .unset]) (st' := [(.int (237 : Int32)), (.int ld)]) rfl ?_
    refine own_icmp X11 d0_212 (pc' := 223) (by decide) (fun c212 => ?_) (fun (c212 : ¬ (¬ ld.toInt = 237)) => by exfalso; omega)
    have c212 : ¬ ld.toInt = 237 := c212
    refine own_blk X11 B0_223_228 B0_223_228d (ls' := #[.val (.int z0), .val (.int z1), .val (.int z2), .val (.int z3), .val (.int z4), .val (.int z5), .val (.int kk), .val (.int (2 : Int32)), .val (.int q), .val (.int ld), .val (.ref b), .val (.int u1), .val (.int u2), .val (.int u3), .val (.int (128 : Int32)), .val (.int (191 : Int32)), .unset, .unset]) (st' := [(.int (240 : Int32)), (.int ld)]) rfl ?_
    refine own_icmp X11 d0_228 (pc' := 239) (by decide) (fun c228 => ?_) (fun (c228 : ¬ (¬ ld.toInt = 240)) => by exfalso; omega)
    have c228 : ¬ ld.toInt = 240 := c228
    refine own_blk X11 B0_239_244 B0_239_244d (ls' := #[.val (.int z0), .val (.int z1), .val (.int z2), .val (.int z3), .val (.int z4), .val (.int z5), .val (.int kk), .val (.int (2 : Int32)), .val (.int q), .val (.int ld), .val (.ref b), .val (.int u1), .val (.int u2), .val (.int u3), .val (.int (128 : Int32)), .val (.int (191 : Int32)), .unset, .unset]) (st' := [(.int (244 : Int32)), (.int ld)]) rfl ?_
    refine own_icmp X11 d0_244 (pc' := 252) (by decide) (fun c244 => ?_) (fun (c244 : ¬ (¬ ld.toInt = 244)) => by exfalso; omega)
    have c244 : ¬ ld.toInt = 244 := c244
    refine own_blk X11 B0_252_256 B0_252_256d (ls' := #[.val (.int z0), .val (.int z1), .val (.int z2), .val (.int z3), .val (.int z4), .val (.int z5), .val (.int kk), .val (.int (2 : Int32)), .val (.int q), .val (.int ld), .val (.ref b), .val (.int u1), .val (.int u2), .val (.int u3), .val (.int (128 : Int32)), .val (.int (191 : Int32)), .unset, .unset]) (st' := [(.int (128 : Int32)), (.int u1)]) rfl ?_
    refine own_icmp X11 d0_256 (pc' := 270) (by decide) (fun c256 => ?_) (fun c256 => ?_)
    · have c256 : u1.toInt < 128 := c256
      refine own_blk X11 B0_270_276 B0_270_276d (ls' := #[.val (.int z0), .val (.int z1), .val (.int z2), .val (.int z3), .val (.int z4), .val (.int z5), .val (.int kk), .val (.int (2 : Int32)), .val (.int q), .val (.int ld), .val (.ref b), .val (.int u1), .val (.int u2), .val (.int u3), .val (.int (128 : Int32)), .val (.int (191 : Int32)), .val (.int (0 : Int32)), .unset]) (st' := [(.int (2 : Int32)), (.int (2 : Int32))]) rfl ?_
      refine own_icmp X11 d0_276 (pc' := 299) (by decide) (fun c276 => ?_) (fun (c276 : ¬ ((2 : Int) ≤ 2)) => by exfalso; omega)
      have c276 : (2 : Int) ≤ 2 := c276
      refine own_blk X11 B0_299_302 B0_299_302d (ls' := #[.val (.int z0), .val (.int z1), .val (.int z2), .val (.int z3), .val (.int z4), .val (.int z5), .val (.int kk), .val (.int (2 : Int32)), .val (.int q), .val (.int ld), .val (.ref b), .val (.int u1), .val (.int u2), .val (.int u3), .val (.int (128 : Int32)), .val (.int (191 : Int32)), .val (.int (0 : Int32)), .unset]) (st' := [(.int (3 : Int32)), (.int (2 : Int32))]) rfl ?_
      refine own_icmp X11 d0_302 (pc' := 325) (by decide) (fun c302 => ?_) (fun (c302 : ¬ ((2 : Int) ≤ 3)) => by exfalso; omega)
      have c302 : (2 : Int) ≤ 3 := c302
      refine own_blk X11 B0_325_330 B0_325_330d (ls' := #[.val (.int z0), .val (.int z1), .val (.int z2), .val (.int z3), .val (.int z4), .val (.int z5), .val (.int kk), .val (.int (2 : Int32)), .val (.int q), .val (.int ld), .val (.ref b), .val (.int u1), .val (.int u2), .val (.int u3), .val (.int (128 : Int32)), .val (.int (191 : Int32)), .val (.int (0 : Int32)), .val (.int (-1 : Int32))]) (st' := [(.int (0 : Int32))]) rfl ?_
      refine own_if X11 d0_330 (pc' := 437) (by decide) (fun c330 => ?_) (fun (c330 : ¬ ((0 : Int) = 0)) => by exfalso; omega)
      have c330 : (0 : Int) = 0 := c330
      refine own_blk X11 B0_437_443 B0_437_443d (ls' := #[.val (.int z0), .val (.int z1), .val (.int z2), .val (.int z3), .val (.int z4), .val (.int z5), .val (.int kk), .val (.int (2 : Int32)), .val (.int q), .val (.int ld), .val (.ref b), .val (.int u1), .val (.int u2), .val (.int u3), .val (.int (128 : Int32)), .val (.int (191 : Int32)), .val (.int (0 : Int32)), .val (.int (-1 : Int32))]) (st' := [(.int (2 : Int32)), (.int q), (.ref b)]) rfl ?_
      refine own_callS X11 (hw _ (List.mem_of_getElem? (i := 2) rfl)) (hw _ (List.mem_of_getElem? (i := 3) rfl)) (hw _ (List.mem_of_getElem? (i := 4) rfl)) (hw _ (List.mem_of_getElem? (i := 5) rfl)) (by decide) (c_cp2 l Z a0 hw b q g11 h11 n0 X11.2.1 A11 hq) d0_443 [(.ref b), (.int q), (.int (2 : Int32))] [] rfl rfl pd1 rfl rfl (by decide) (Nat.le_of_ble_eq_true rfl) (by decide) (by decide) (fun _ _ q => by obtain ⟨_, _, q2, _⟩ := q; rw [q2]; exact X11.2.1) (fun v12 h12 T12 X12 q12 => ?_)
      obtain ⟨z12, rfl, e12, hz12⟩ := q12
      rw [e12] at X12
      show own_G p e below (T12.setTop (mkF m 446 #[.val (.int z0), .val (.int z1), .val (.int z2), .val (.int z3), .val (.int z4), .val (.int z5), .val (.int kk), .val (.int (2 : Int32)), .val (.int q), .val (.int ld), .val (.ref b), .val (.int u1), .val (.int u2), .val (.int u3), .val (.int (128 : Int32)), .val (.int (191 : Int32)), .val (.int (0 : Int32)), .val (.int (-1 : Int32))] [(.int z12)])) _
      rw [r0, r1] at hz12
      refine own_blk X12 B0_446_448 B0_446_448d (ls' := #[.val (.int z0), .val (.int z1), .val (.int z2), .val (.int z3), .val (.int z4), .val (.int z5), .val (.int kk), .val (.int (2 : Int32)), .val (.int q), .val (.int ld), .val (.ref b), .val (.int u1), .val (.int u2), .val (.int u3), .val (.int (128 : Int32)), .val (.int (191 : Int32)), .val (.int (0 : Int32)), .val (.int (-1 : Int32))]) (st' := [(.int (-1 : Int32)), (.int z12)]) rfl ?_
      refine own_icmp X12 d0_448 (pc' := 455) (by decide) (fun (c448 : ¬ z12.toInt = -1) => by exfalso; omega) (fun c448 => ?_)
      have c448 : ¬ (¬ z12.toInt = -1) := c448
      refine own_blk X12 B0_451_452 B0_451_452d (ls' := #[.val (.int z0), .val (.int z1), .val (.int z2), .val (.int z3), .val (.int z4), .val (.int z5), .val (.int kk), .val (.int (2 : Int32)), .val (.int q), .val (.int ld), .val (.ref b), .val (.int u1), .val (.int u2), .val (.int u3), .val (.int (128 : Int32)), .val (.int (191 : Int32)), .val (.int (0 : Int32)), .val (.int (-1 : Int32))]) (st' := [(.int (1 : Int32))]) rfl ?_
      refine own_goto X12 d0_452 (pc' := 456) (by decide) ?_
      exact own_retN X12 (by simp) d0_456 (v' := (1 : Int32)) (rfl) (by decide) (by decide) (rfl)
    · have c256 : ¬ (u1.toInt < 128) := c256
      refine own_blk X11 B0_259_263 B0_259_263d (ls' := #[.val (.int z0), .val (.int z1), .val (.int z2), .val (.int z3), .val (.int z4), .val (.int z5), .val (.int kk), .val (.int (2 : Int32)), .val (.int q), .val (.int ld), .val (.ref b), .val (.int u1), .val (.int u2), .val (.int u3), .val (.int (128 : Int32)), .val (.int (191 : Int32)), .unset, .unset]) (st' := [(.int (191 : Int32)), (.int u1)]) rfl ?_
      refine own_icmp X11 d0_263 (pc' := 270) (by decide) (fun c263 => ?_) (fun c263 => ?_)
      · have c263 : 191 < u1.toInt := c263
        refine own_blk X11 B0_270_276 B0_270_276d (ls' := #[.val (.int z0), .val (.int z1), .val (.int z2), .val (.int z3), .val (.int z4), .val (.int z5), .val (.int kk), .val (.int (2 : Int32)), .val (.int q), .val (.int ld), .val (.ref b), .val (.int u1), .val (.int u2), .val (.int u3), .val (.int (128 : Int32)), .val (.int (191 : Int32)), .val (.int (0 : Int32)), .unset]) (st' := [(.int (2 : Int32)), (.int (2 : Int32))]) rfl ?_
        refine own_icmp X11 d0_276 (pc' := 299) (by decide) (fun c276 => ?_) (fun (c276 : ¬ ((2 : Int) ≤ 2)) => by exfalso; omega)
        have c276 : (2 : Int) ≤ 2 := c276
        refine own_blk X11 B0_299_302 B0_299_302d (ls' := #[.val (.int z0), .val (.int z1), .val (.int z2), .val (.int z3), .val (.int z4), .val (.int z5), .val (.int kk), .val (.int (2 : Int32)), .val (.int q), .val (.int ld), .val (.ref b), .val (.int u1), .val (.int u2), .val (.int u3), .val (.int (128 : Int32)), .val (.int (191 : Int32)), .val (.int (0 : Int32)), .unset]) (st' := [(.int (3 : Int32)), (.int (2 : Int32))]) rfl ?_
        refine own_icmp X11 d0_302 (pc' := 325) (by decide) (fun c302 => ?_) (fun (c302 : ¬ ((2 : Int) ≤ 3)) => by exfalso; omega)
        have c302 : (2 : Int) ≤ 3 := c302
        refine own_blk X11 B0_325_330 B0_325_330d (ls' := #[.val (.int z0), .val (.int z1), .val (.int z2), .val (.int z3), .val (.int z4), .val (.int z5), .val (.int kk), .val (.int (2 : Int32)), .val (.int q), .val (.int ld), .val (.ref b), .val (.int u1), .val (.int u2), .val (.int u3), .val (.int (128 : Int32)), .val (.int (191 : Int32)), .val (.int (0 : Int32)), .val (.int (-1 : Int32))]) (st' := [(.int (0 : Int32))]) rfl ?_
        refine own_if X11 d0_330 (pc' := 437) (by decide) (fun c330 => ?_) (fun (c330 : ¬ ((0 : Int) = 0)) => by exfalso; omega)
        have c330 : (0 : Int) = 0 := c330
        refine own_blk X11 B0_437_443 B0_437_443d (ls' := #[.val (.int z0), .val (.int z1), .val (.int z2), .val (.int z3), .val (.int z4), .val (.int z5), .val (.int kk), .val (.int (2 : Int32)), .val (.int q), .val (.int ld), .val (.ref b), .val (.int u1), .val (.int u2), .val (.int u3), .val (.int (128 : Int32)), .val (.int (191 : Int32)), .val (.int (0 : Int32)), .val (.int (-1 : Int32))]) (st' := [(.int (2 : Int32)), (.int q), (.ref b)]) rfl ?_
        refine own_callS X11 (hw _ (List.mem_of_getElem? (i := 2) rfl)) (hw _ (List.mem_of_getElem? (i := 3) rfl)) (hw _ (List.mem_of_getElem? (i := 4) rfl)) (hw _ (List.mem_of_getElem? (i := 5) rfl)) (by decide) (c_cp2 l Z a0 hw b q g11 h11 n0 X11.2.1 A11 hq) d0_443 [(.ref b), (.int q), (.int (2 : Int32))] [] rfl rfl pd1 rfl rfl (by decide) (Nat.le_of_ble_eq_true rfl) (by decide) (by decide) (fun _ _ q => by obtain ⟨_, _, q2, _⟩ := q; rw [q2]; exact X11.2.1) (fun v13 h13 T13 X13 q13 => ?_)
        obtain ⟨z13, rfl, e13, hz13⟩ := q13
        rw [e13] at X13
        show own_G p e below (T13.setTop (mkF m 446 #[.val (.int z0), .val (.int z1), .val (.int z2), .val (.int z3), .val (.int z4), .val (.int z5), .val (.int kk), .val (.int (2 : Int32)), .val (.int q), .val (.int ld), .val (.ref b), .val (.int u1), .val (.int u2), .val (.int u3), .val (.int (128 : Int32)), .val (.int (191 : Int32)), .val (.int (0 : Int32)), .val (.int (-1 : Int32))] [(.int z13)])) _
        rw [r0, r1] at hz13
        refine own_blk X13 B0_446_448 B0_446_448d (ls' := #[.val (.int z0), .val (.int z1), .val (.int z2), .val (.int z3), .val (.int z4), .val (.int z5), .val (.int kk), .val (.int (2 : Int32)), .val (.int q), .val (.int ld), .val (.ref b), .val (.int u1), .val (.int u2), .val (.int u3), .val (.int (128 : Int32)), .val (.int (191 : Int32)), .val (.int (0 : Int32)), .val (.int (-1 : Int32))]) (st' := [(.int (-1 : Int32)), (.int z13)]) rfl ?_
        refine own_icmp X13 d0_448 (pc' := 455) (by decide) (fun (c448 : ¬ z13.toInt = -1) => by exfalso; omega) (fun c448 => ?_)
        have c448 : ¬ (¬ z13.toInt = -1) := c448
        refine own_blk X13 B0_451_452 B0_451_452d (ls' := #[.val (.int z0), .val (.int z1), .val (.int z2), .val (.int z3), .val (.int z4), .val (.int z5), .val (.int kk), .val (.int (2 : Int32)), .val (.int q), .val (.int ld), .val (.ref b), .val (.int u1), .val (.int u2), .val (.int u3), .val (.int (128 : Int32)), .val (.int (191 : Int32)), .val (.int (0 : Int32)), .val (.int (-1 : Int32))]) (st' := [(.int (1 : Int32))]) rfl ?_
        refine own_goto X13 d0_452 (pc' := 456) (by decide) ?_
        exact own_retN X13 (by simp) d0_456 (v' := (1 : Int32)) (rfl) (by decide) (by decide) (rfl)
      · have c263 : ¬ (191 < u1.toInt) := c263
        refine own_blk X11 B0_266_267 B0_266_267d (ls' := #[.val (.int z0), .val (.int z1), .val (.int z2), .val (.int z3), .val (.int z4), .val (.int z5), .val (.int kk), .val (.int (2 : Int32)), .val (.int q), .val (.int ld), .val (.ref b), .val (.int u1), .val (.int u2), .val (.int u3), .val (.int (128 : Int32)), .val (.int (191 : Int32)), .unset, .unset]) (st' := [(.int (1 : Int32))]) rfl ?_
        refine own_goto X11 d0_267 (pc' := 271) (by decide) ?_
        refine own_blk X11 B0_271_276 B0_271_276d (ls' := #[.val (.int z0), .val (.int z1), .val (.int z2), .val (.int z3), .val (.int z4), .val (.int z5), .val (.int kk), .val (.int (2 : Int32)), .val (.int q), .val (.int ld), .val (.ref b), .val (.int u1), .val (.int u2), .val (.int u3), .val (.int (128 : Int32)), .val (.int (191 : Int32)), .val (.int (1 : Int32)), .unset]) (st' := [(.int (2 : Int32)), (.int (2 : Int32))]) rfl ?_
        refine own_icmp X11 d0_276 (pc' := 299) (by decide) (fun c276 => ?_) (fun (c276 : ¬ ((2 : Int) ≤ 2)) => by exfalso; omega)
        have c276 : (2 : Int) ≤ 2 := c276
        refine own_blk X11 B0_299_302 B0_299_302d (ls' := #[.val (.int z0), .val (.int z1), .val (.int z2), .val (.int z3), .val (.int z4), .val (.int z5), .val (.int kk), .val (.int (2 : Int32)), .val (.int q), .val (.int ld), .val (.ref b), .val (.int u1), .val (.int u2), .val (.int u3), .val (.int (128 : Int32)), .val (.int (191 : Int32)), .val (.int (1 : Int32)), .unset]) (st' := [(.int (3 : Int32)), (.int (2 : Int32))]) rfl ?_
        refine own_icmp X11 d0_302 (pc' := 325) (by decide) (fun c302 => ?_) (fun (c302 : ¬ ((2 : Int) ≤ 3)) => by exfalso; omega)
        have c302 : (2 : Int) ≤ 3 := c302
        refine own_blk X11 B0_325_330 B0_325_330d (ls' := #[.val (.int z0), .val (.int z1), .val (.int z2), .val (.int z3), .val (.int z4), .val (.int z5), .val (.int kk), .val (.int (2 : Int32)), .val (.int q), .val (.int ld), .val (.ref b), .val (.int u1), .val (.int u2), .val (.int u3), .val (.int (128 : Int32)), .val (.int (191 : Int32)), .val (.int (1 : Int32)), .val (.int (-1 : Int32))]) (st' := [(.int (1 : Int32))]) rfl ?_
        refine own_if X11 d0_330 (pc' := 437) (by decide) (fun (c330 : (1 : Int) = 0) => by exfalso; omega) (fun c330 => ?_)
        have c330 : ¬ ((1 : Int) = 0) := c330
        refine own_blk X11 B0_333_336 B0_333_336d (ls' := #[.val (.int z0), .val (.int z1), .val (.int z2), .val (.int z3), .val (.int z4), .val (.int z5), .val (.int kk), .val (.int (2 : Int32)), .val (.int q), .val (.int ld), .val (.ref b), .val (.int u1), .val (.int u2), .val (.int u3), .val (.int (128 : Int32)), .val (.int (191 : Int32)), .val (.int (1 : Int32)), .val (.int (-1 : Int32))]) (st' := [(.int (2 : Int32)), (.int (2 : Int32))]) rfl ?_
        refine own_icmp X11 d0_336 (pc' := 360) (by decide) (fun (c336 : ¬ (2 : Int) = 2) => by exfalso; omega) (fun c336 => ?_)
        have c336 : ¬ (¬ (2 : Int) = 2) := c336
        refine own_blk X11 B0_339_357 B0_339_357d (ls' := #[.val (.int z0), .val (.int z1), .val (.int z2), .val (.int z3), .val (.int z4), .val (.int z5), .val (.int kk), .val (.int (2 : Int32)), .val (.int q), .val (.int ld), .val (.ref b), .val (.int u1), .val (.int u2), .val (.int u3), .val (.int (128 : Int32)), .val (.int (191 : Int32)), .val (.int (1 : Int32)), .val (.int (((ld - (192 : Int32)) * (64 : Int32)) + (u1 - (128 : Int32))))]) (st' := []) rfl ?_
        refine own_goto X11 d0_357 (pc' := 437) (by decide) ?_
        generalize eex : (((ld - (192 : Int32)) * (64 : Int32)) + (u1 - (128 : Int32))) = ex
        have hex := own_e2 (ld := ld) (u1 := u1) (by omega) (by omega)
        rw [eex] at hex
        refine own_blk X11 B0_437_443 B0_437_443d (ls' := #[.val (.int z0), .val (.int z1), .val (.int z2), .val (.int z3), .val (.int z4), .val (.int z5), .val (.int kk), .val (.int (2 : Int32)), .val (.int q), .val (.int ld), .val (.ref b), .val (.int u1), .val (.int u2), .val (.int u3), .val (.int (128 : Int32)), .val (.int (191 : Int32)), .val (.int (1 : Int32)), .val (.int ex)]) (st' := [(.int (2 : Int32)), (.int q), (.ref b)]) rfl ?_
        refine own_callS X11 (hw _ (List.mem_of_getElem? (i := 2) rfl)) (hw _ (List.mem_of_getElem? (i := 3) rfl)) (hw _ (List.mem_of_getElem? (i := 4) rfl)) (hw _ (List.mem_of_getElem? (i := 5) rfl)) (by decide) (c_cp2 l Z a0 hw b q g11 h11 n0 X11.2.1 A11 hq) d0_443 [(.ref b), (.int q), (.int (2 : Int32))] [] rfl rfl pd1 rfl rfl (by decide) (Nat.le_of_ble_eq_true rfl) (by decide) (by decide) (fun _ _ q => by obtain ⟨_, _, q2, _⟩ := q; rw [q2]; exact X11.2.1) (fun v14 h14 T14 X14 q14 => ?_)
        obtain ⟨z14, rfl, e14, hz14⟩ := q14
        rw [e14] at X14
        show own_G p e below (T14.setTop (mkF m 446 #[.val (.int z0), .val (.int z1), .val (.int z2), .val (.int z3), .val (.int z4), .val (.int z5), .val (.int kk), .val (.int (2 : Int32)), .val (.int q), .val (.int ld), .val (.ref b), .val (.int u1), .val (.int u2), .val (.int u3), .val (.int (128 : Int32)), .val (.int (191 : Int32)), .val (.int (1 : Int32)), .val (.int ex)] [(.int z14)])) _
        rw [r0, r1] at hz14
        refine own_blk X14 B0_446_448 B0_446_448d (ls' := #[.val (.int z0), .val (.int z1), .val (.int z2), .val (.int z3), .val (.int z4), .val (.int z5), .val (.int kk), .val (.int (2 : Int32)), .val (.int q), .val (.int ld), .val (.ref b), .val (.int u1), .val (.int u2), .val (.int u3), .val (.int (128 : Int32)), .val (.int (191 : Int32)), .val (.int (1 : Int32)), .val (.int ex)]) (st' := [(.int ex), (.int z14)]) rfl ?_
        refine own_icmp X14 d0_448 (pc' := 455) (by decide) (fun (c448 : ¬ z14.toInt = ex.toInt) => by exfalso; omega) (fun c448 => ?_)
        have c448 : ¬ (¬ z14.toInt = ex.toInt) := c448
        refine own_blk X14 B0_451_452 B0_451_452d (ls' := #[.val (.int z0), .val (.int z1), .val (.int z2), .val (.int z3), .val (.int z4), .val (.int z5), .val (.int kk), .val (.int (2 : Int32)), .val (.int q), .val (.int ld), .val (.ref b), .val (.int u1), .val (.int u2), .val (.int u3), .val (.int (128 : Int32)), .val (.int (191 : Int32)), .val (.int (1 : Int32)), .val (.int ex)]) (st' := [(.int (1 : Int32))]) rfl ?_
        refine own_goto X14 d0_452 (pc' := 456) (by decide) ?_
        exact own_retN X14 (by simp) d0_456 (v' := (1 : Int32)) (rfl) (by decide) (by decide) (rfl)
  · skip
    refine own_blk X0 B0_22_25 B0_22_25d (ls' := #[.val (.int z0), .val (.int z1), .val (.int z2), .val (.int z3), .val (.int z4), .val (.int z5), .val (.int kk), .val (.int (3 : Int32)), .val (.int q), .unset, .unset, .unset, .unset, .unset, .unset, .unset, .unset, .unset]) (st' := [(.int (2 : Int32)), (.int (3 : Int32))]) rfl ?_
    refine own_icmp X0 d0_25 (pc' := 44) (by decide) (fun c25 => ?_) (fun (c25 : ¬ (¬ (3 : Int) = 2)) => by exfalso; omega)
    have c25 : ¬ (3 : Int) = 2 := c25
    refine own_blk X0 B0_44_47 B0_44_47d (ls' := #[.val (.int z0), .val (.int z1), .val (.int z2), .val (.int z3), .val (.int z4), .val (.int z5), .val (.int kk), .val (.int (3 : Int32)), .val (.int q), .unset, .unset, .unset, .unset, .unset, .unset, .unset, .unset, .unset]) (st' := [(.int (3 : Int32)), (.int (3 : Int32))]) rfl ?_
    refine own_icmp X0 d0_47 (pc' := 63) (by decide) (fun (c47 : ¬ (3 : Int) = 3) => by exfalso; omega) (fun c47 => ?_)
    have c47 : ¬ (¬ (3 : Int) = 3) := c47
    refine own_blk X0 B0_50_60 B0_50_60d (ls' := #[.val (.int z0), .val (.int z1), .val (.int z2), .val (.int z3), .val (.int z4), .val (.int z5), .val (.int kk), .val (.int (3 : Int32)), .val (.int q), .val (.int ((224 : Int32) + (z1 &&& (15 : Int32)))), .unset, .unset, .unset, .unset, .unset, .unset, .unset, .unset]) (st' := []) rfl ?_
    refine own_goto X0 d0_60 (pc' := 75) (by decide) ?_
    generalize eld : ((224 : Int32) + (z1 &&& (15 : Int32))) = ld
    have hld : 224 ≤ ld.toInt ∧ ld.toInt ≤ 239 := by
      have h1 : (z1 &&& 15).toInt = z1.toInt % 2 ^ 4 := Jvm.Kit.i32_mask _ _ (by decide) (by decide)
      rw [← eld, Jvm.Kit.i32_add (by rw [h1]; show _ ≤ (224 : Int) + _; omega) (by rw [h1]; show (224 : Int) + _ < _; omega), h1]
      show _ ≤ (224 : Int) + _ ∧ (224 : Int) + _ ≤ _
      omega
    refine own_blk X0 B0_75_77 B0_75_77d (ls' := #[.val (.int z0), .val (.int z1), .val (.int z2), .val (.int z3), .val (.int z4), .val (.int z5), .val (.int kk), .val (.int (3 : Int32)), .val (.int q), .val (.int ld), .unset, .unset, .unset, .unset, .unset, .unset, .unset, .unset]) (st' := [(.int (6 : Int32))]) rfl ?_
    refine own_newI X0 (hw _ (List.mem_of_getElem? (i := 1) rfl)) rfl d0_77 (by decide) 6 (by decide) (by decide) (by decide) (by decide) (fun h15 T15 X15 E15 A15 => ?_)
    have n_b : n0 ≤ h0.size := X0.2.1
    have A15 : own_I Z h15 h0.size .byte 6 (fun _ => (0 : Int32)) := A15
    generalize ez_b : h0.size = b at A15 n_b ⊢
    show own_G p e below (T15.setTop (mkF m 79 #[.val (.int z0), .val (.int z1), .val (.int z2), .val (.int z3), .val (.int z4), .val (.int z5), .val (.int kk), .val (.int (3 : Int32)), .val (.int q), .val (.int ld), .unset, .unset, .unset, .unset, .unset, .unset, .unset, .unset] [(.ref b)])) _
    refine own_blk X15 B0_79_87 B0_79_87d (ls' := #[.val (.int z0), .val (.int z1), .val (.int z2), .val (.int z3), .val (.int z4), .val (.int z5), .val (.int kk), .val (.int (3 : Int32)), .val (.int q), .val (.int ld), .val (.ref b), .unset, .unset, .unset, .unset, .unset, .unset, .unset]) (st' := [(.int (own_i2b z5)), (.int (0 : Int32)), (.ref b)]) rfl ?_
    refine own_bast X15 A15 n_b d0_87 (by decide) (by decide) (own_i2b_fix _) (fun h16 T16 X16 A16 W16 => ?_)
    have A16 : own_I Z h16 b .byte 6 (own_u (fun _ => (0 : Int32)) (0) (own_i2b z5)) := A16
    generalize eg16 : own_u (fun _ => (0 : Int32)) (0) (own_i2b z5) = g16 at A16
    refine own_blk X16 B0_88_94 B0_88_94d (ls' := #[.val (.int z0), .val (.int z1), .val (.int z2), .val (.int z3), .val (.int z4), .val (.int z5), .val (.int kk), .val (.int (3 : Int32)), .val (.int q), .val (.int ld), .val (.ref b), .unset, .unset, .unset, .unset, .unset, .unset, .unset]) (st' := [(.int (own_i2b z5)), (.int (1 : Int32)), (.ref b)]) rfl ?_
    refine own_bast X16 A16 n_b d0_94 (by decide) (by decide) (own_i2b_fix _) (fun h17 T17 X17 A17 W17 => ?_)
    have A17 : own_I Z h17 b .byte 6 (own_u g16 (1) (own_i2b z5)) := A17
    generalize eg17 : own_u g16 (1) (own_i2b z5) = g17 at A17
    refine own_blk X17 B0_95_101 B0_95_101d (ls' := #[.val (.int z0), .val (.int z1), .val (.int z2), .val (.int z3), .val (.int z4), .val (.int z5), .val (.int kk), .val (.int (3 : Int32)), .val (.int q), .val (.int ld), .val (.ref b), .unset, .unset, .unset, .unset, .unset, .unset, .unset]) (st' := [(.int (own_i2b z5)), (.int (2 : Int32)), (.ref b)]) rfl ?_
    refine own_bast X17 A17 n_b d0_101 (by decide) (by decide) (own_i2b_fix _) (fun h18 T18 X18 A18 W18 => ?_)
    have A18 : own_I Z h18 b .byte 6 (own_u g17 (2) (own_i2b z5)) := A18
    generalize eg18 : own_u g17 (2) (own_i2b z5) = g18 at A18
    refine own_blk X18 B0_102_108 B0_102_108d (ls' := #[.val (.int z0), .val (.int z1), .val (.int z2), .val (.int z3), .val (.int z4), .val (.int z5), .val (.int kk), .val (.int (3 : Int32)), .val (.int q), .val (.int ld), .val (.ref b), .unset, .unset, .unset, .unset, .unset, .unset, .unset]) (st' := [(.int (own_i2b z5)), (.int (3 : Int32)), (.ref b)]) rfl ?_
    refine own_bast X18 A18 n_b d0_108 (by decide) (by decide) (own_i2b_fix _) (fun h19 T19 X19 A19 W19 => ?_)
    have A19 : own_I Z h19 b .byte 6 (own_u g18 (3) (own_i2b z5)) := A19
    generalize eg19 : own_u g18 (3) (own_i2b z5) = g19 at A19
    refine own_blk X19 B0_109_115 B0_109_115d (ls' := #[.val (.int z0), .val (.int z1), .val (.int z2), .val (.int z3), .val (.int z4), .val (.int z5), .val (.int kk), .val (.int (3 : Int32)), .val (.int q), .val (.int ld), .val (.ref b), .unset, .unset, .unset, .unset, .unset, .unset, .unset]) (st' := [(.int (own_i2b z5)), (.int (4 : Int32)), (.ref b)]) rfl ?_
    refine own_bast X19 A19 n_b d0_115 (by decide) (by decide) (own_i2b_fix _) (fun h20 T20 X20 A20 W20 => ?_)
    have A20 : own_I Z h20 b .byte 6 (own_u g19 (4) (own_i2b z5)) := A20
    generalize eg20 : own_u g19 (4) (own_i2b z5) = g20 at A20
    refine own_blk X20 B0_116_122 B0_116_122d (ls' := #[.val (.int z0), .val (.int z1), .val (.int z2), .val (.int z3), .val (.int z4), .val (.int z5), .val (.int kk), .val (.int (3 : Int32)), .val (.int q), .val (.int ld), .val (.ref b), .unset, .unset, .unset, .unset, .unset, .unset, .unset]) (st' := [(.int (own_i2b z5)), (.int (5 : Int32)), (.ref b)]) rfl ?_
    refine own_bast X20 A20 n_b d0_122 (by decide) (by decide) (own_i2b_fix _) (fun h21 T21 X21 A21 W21 => ?_)
    have A21 : own_I Z h21 b .byte 6 (own_u g20 (5) (own_i2b z5)) := A21
    generalize eg21 : own_u g20 (5) (own_i2b z5) = g21 at A21
    refine own_blk X21 B0_123_130 B0_123_130d (ls' := #[.val (.int z0), .val (.int z1), .val (.int z2), .val (.int z3), .val (.int z4), .val (.int z5), .val (.int kk), .val (.int (3 : Int32)), .val (.int q), .val (.int ld), .val (.ref b), .unset, .unset, .unset, .unset, .unset, .unset, .unset]) (st' := [(.int (own_i2b ld)), (.int q), (.ref b)]) rfl ?_
    refine own_bast X21 A21 n_b d0_130 (by omega) (by omega) (own_i2b_fix _) (fun h22 T22 X22 A22 W22 => ?_)
    have A22 : own_I Z h22 b .byte 6 (own_u g21 (q.toInt) (own_i2b ld)) := A22
    generalize eg22 : own_u g21 (q.toInt) (own_i2b ld) = g22 at A22
    refine own_blk X22 B0_131_139 B0_131_139d (ls' := #[.val (.int z0), .val (.int z1), .val (.int z2), .val (.int z3), .val (.int z4), .val (.int z5), .val (.int kk), .val (.int (3 : Int32)), .val (.int q), .val (.int ld), .val (.ref b), .unset, .unset, .unset, .unset, .unset, .unset, .unset]) (st' := [(.int (own_i2b z2)), (.int (q + (1 : Int32))), (.ref b)]) rfl ?_
    refine own_bast X22 A22 n_b d0_139 (by omega) (by omega) (own_i2b_fix _) (fun h23 T23 X23 A23 W23 => ?_)
    have A23 : own_I Z h23 b .byte 6 (own_u g22 (q.toInt + 1) (own_i2b z2)) := by rw [← i1]; exact A23
    generalize eg23 : own_u g22 (q.toInt + 1) (own_i2b z2) = g23 at A23
    refine own_blk X23 B0_140_148 B0_140_148d (ls' := #[.val (.int z0), .val (.int z1), .val (.int z2), .val (.int z3), .val (.int z4), .val (.int z5), .val (.int kk), .val (.int (3 : Int32)), .val (.int q), .val (.int ld), .val (.ref b), .unset, .unset, .unset, .unset, .unset, .unset, .unset]) (st' := [(.int (own_i2b z3)), (.int (q + (2 : Int32))), (.ref b)]) rfl ?_
    refine own_bast X23 A23 n_b d0_148 (by omega) (by omega) (own_i2b_fix _) (fun h24 T24 X24 A24 W24 => ?_)
    have A24 : own_I Z h24 b .byte 6 (own_u g23 (q.toInt + 2) (own_i2b z3)) := by rw [← i2]; exact A24
    generalize eg24 : own_u g23 (q.toInt + 2) (own_i2b z3) = g24 at A24
    refine own_blk X24 B0_149_158 B0_149_158d (ls' := #[.val (.int z0), .val (.int z1), .val (.int z2), .val (.int z3), .val (.int z4), .val (.int z5), .val (.int kk), .val (.int (3 : Int32)), .val (.int q), .val (.int ld), .val (.ref b), .unset, .unset, .unset, .unset, .unset, .unset, .unset]) (st' := [(.int (own_i2b z4)), (.int (q + (3 : Int32))), (.ref b)]) rfl ?_
    refine own_bast X24 A24 n_b d0_158 (by omega) (by omega) (own_i2b_fix _) (fun h25 T25 X25 A25 W25 => ?_)
    have A25 : own_I Z h25 b .byte 6 (own_u g24 (q.toInt + 3) (own_i2b z4)) := by rw [← i3]; exact A25
    generalize eg25 : own_u g24 (q.toInt + 3) (own_i2b z4) = g25 at A25
    refine own_blk X25 B0_159_181 B0_159_181d (ls' := #[.val (.int z0), .val (.int z1), .val (.int z2), .val (.int z3), .val (.int z4), .val (.int z5), .val (.int kk), .val (.int (3 : Int32)), .val (.int q), .val (.int ld), .val (.ref b), .val (.int (z2 &&& (255 : Int32))), .val (.int (z3 &&& (255 : Int32))), .val (.int (z4 &&& (255 : Int32))), .unset, .unset, .unset, .unset]) (st' := []) rfl ?_
    have r0 : g25 (q.toInt) = own_i2b ld := by rw [← eg25, own_u_ne (by omega), ← eg24, own_u_ne (by omega), ← eg23, own_u_ne (by omega), ← eg22, own_u_eq (by omega)]
    have r1 : g25 (q.toInt + 1) = own_i2b z2 := by rw [← eg25, own_u_ne (by omega), ← eg24, own_u_ne (by omega), ← eg23, own_u_eq (by omega)]
    have r2 : g25 (q.toInt + 2) = own_i2b z3 := by rw [← eg25, own_u_ne (by omega), ← eg24, own_u_eq (by omega)]
    have r3 : g25 (q.toInt + 3) = own_i2b z4 := by rw [← eg25, own_u_eq (by omega)]
    have s0 := own_i2b_b ld
    have s1 := own_i2b_b z2
    have s2 := own_i2b_b z3
    have s3 := own_i2b_b z4
    generalize eu1 : (z2 &&& (255 : Int32)) = u1
    have hu1 : u1.toInt = z2.toInt % 256 := by rw [← eu1]; exact own_m255 _
    generalize eu2 : (z3 &&& (255 : Int32)) = u2
    have hu2 : u2.toInt = z3.toInt % 256 := by rw [← eu2]; exact own_m255 _
    generalize eu3 : (z4 &&& (255 : Int32)) = u3
    have hu3 : u3.toInt = z4.toInt % 256 := by rw [← eu3]; exact own_m255 _
    refine own_blk X25 B0_181_196 B0_181_196d (ls' := #[.val (.int z0), .val (.int z1), .val (.int z2), .val (.int z3), .val (.int z4), .val (.int z5), .val (.int kk), .val (.int (3 : Int32)), .val (.int q), .val (.int ld), .val (.ref b), .val (.int u1), .val (.int u2), .val (.int u3), .val (.int (128 : Int32)), .val (.int (191 : Int32)), .unset, .unset]) (st' := [(.int (224 : Int32)), (.int ld)]) rfl ?_
    refine own_icmp X25 d0_196 (pc' := 207) (by decide) (fun c196 => ?_) (fun c196 => ?_)
    · have c196 : ¬ ld.toInt = 224 := c196
      refine own_blk X25 B0_207_212 B0_207_212d (ls' := #[.val (.int z0), .val (.int z1), .val (.int z2), .val (.int z3), .val (.int z4), .val (.int z5), .val (.int kk), .val (.int (3 : Int32)), .val (.int q), .val (.int ld), .val (.ref b), .val (.int u1), .val (.int u2), .val (.int u3), .val (.int (128 : Int32)), .val (.int (191 : Int32)), .unset, .unset]) (st' := [(.int (237 : Int32)), (.int ld)]) rfl ?_
      refine own_icmp X25 d0_212 (pc' := 223) (by decide) (fun c212 => ?_) (fun c212 => ?_)
      · have c212 : ¬ ld.toInt = 237 := c212
        refine own_blk X25 B0_223_228 B0_223_228d (ls' := #[.val (.int z0), .val (.int z1), .val (.int z2), .val (.int z3), .val (.int z4), .val (.int z5), .val (.int kk), .val (.int (3 : Int32)), .val (.int q), .val (.int ld), .val (.ref b), .val (.int u1), .val (.int u2), .val (.int u3), .val (.int (128 : Int32)), .val (.int (191 : Int32)), .unset, .unset]) (st' := [(.int (240 : Int32)), (.int ld)]) rfl ?_
        refine own_icmp X25 d0_228 (pc' := 239) (by decide) (fun c228 => ?_) (fun (c228 : ¬ (¬ ld.toInt = 240)) => by exfalso; omega)
        have c228 : ¬ ld.toInt = 240 := c228
        refine own_blk X25 B0_239_244 B0_239_244d (ls' := #[.val (.int z0), .val (.int z1), .val (.int z2), .val (.int z3), .val (.int z4), .val (.int z5), .val (.int kk), .val (.int (3 : Int32)), .val (.int q), .val (.int ld), .val (.ref b), .val (.int u1), .val (.int u2), .val (.int u3), .val (.int (128 : Int32)), .val (.int (191 : Int32)), .unset, .unset]) (st' := [(.int (244 : Int32)), (.int ld)]) rfl ?_
        refine own_icmp X25 d0_244 (pc' := 252) (by decide) (fun c244 => ?_) (fun (c244 : ¬ (¬ ld.toInt = 244)) => by exfalso; omega)
        have c244 : ¬ ld.toInt = 244 := c244
        refine own_blk X25 B0_252_256 B0_252_256d (ls' := #[.val (.int z0), .val (.int z1), .val (.int z2), .val (.int z3), .val (.int z4), .val (.int z5), .val (.int kk), .val (.int (3 : Int32)), .val (.int q), .val (.int ld), .val (.ref b), .val (.int u1), .val (.int u2), .val (.int u3), .val (.int (128 : Int32)), .val (.int (191 : Int32)), .unset, .unset]) (st' := [(.int (128 : Int32)), (.int u1)]) rfl ?_
        refine own_icmp X25 d0_256 (pc' := 270) (by decide) (fun c256 => ?_) (fun c256 => ?_)
        · have c256 : u1.toInt < 128 := c256
          refine own_blk X25 B0_270_276 B0_270_276d (ls' := #[.val (.int z0), .val (.int z1), .val (.int z2), .val (.int z3), .val (.int z4), .val (.int z5), .val (.int kk), .val (.int (3 : Int32)), .val (.int q), .val (.int ld), .val (.ref b), .val (.int u1), .val (.int u2), .val (.int u3), .val (.int (128 : Int32)), .val (.int (191 : Int32)), .val (.int (0 : Int32)), .unset]) (st' := [(.int (2 : Int32)), (.int (3 : Int32))]) rfl ?_
          refine own_icmp X25 d0_276 (pc' := 299) (by decide) (fun (c276 : (3 : Int) ≤ 2) => by exfalso; omega) (fun c276 => ?_)
          have c276 : ¬ ((3 : Int) ≤ 2) := c276
          refine own_blk X25 B0_279_281 B0_279_281d (ls' := #[.val (.int z0), .val (.int z1), .val (.int z2), .val (.int z3), .val (.int z4), .val (.int z5), .val (.int kk), .val (.int (3 : Int32)), .val (.int q), .val (.int ld), .val (.ref b), .val (.int u1), .val (.int u2), .val (.int u3), .val (.int (128 : Int32)), .val (.int (191 : Int32)), .val (.int (0 : Int32)), .unset]) (st' := [(.int (0 : Int32))]) rfl ?_
          refine own_if X25 d0_281 (pc' := 296) (by decide) (fun c281 => ?_) (fun (c281 : ¬ ((0 : Int) = 0)) => by exfalso; omega)
          have c281 : (0 : Int) = 0 := c281
          refine own_blk X25 B0_296_302 B0_296_302d (ls' := #[.val (.int z0), .val (.int z1), .val (.int z2), .val (.int z3), .val (.int z4), .val (.int z5), .val (.int kk), .val (.int (3 : Int32)), .val (.int q), .val (.int ld), .val (.ref b), .val (.int u1), .val (.int u2), .val (.int u3), .val (.int (128 : Int32)), .val (.int (191 : Int32)), .val (.int (0 : Int32)), .unset]) (st' := [(.int (3 : Int32)), (.int (3 : Int32))]) rfl ?_
          refine own_icmp X25 d0_302 (pc' := 325) (by decide) (fun c302 => ?_) (fun (c302 : ¬ ((3 : Int) ≤ 3)) => by exfalso; omega)
          have c302 : (3 : Int) ≤ 3 := c302
          refine own_blk X25 B0_325_330 B0_325_330d (ls' := #[.val (.int z0), .val (.int z1), .val (.int z2), .val (.int z3), .val (.int z4), .val (.int z5), .val (.int kk), .val (.int (3 : Int32)), .val (.int q), .val (.int ld), .val (.ref b), .val (.int u1), .val (.int u2), .val (.int u3), .val (.int (128 : Int32)), .val (.int (191 : Int32)), .val (.int (0 : Int32)), .val (.int (-1 : Int32))]) (st' := [(.int (0 : Int32))]) rfl ?_
          refine own_if X25 d0_330 (pc' := 437) (by decide) (fun c330 => ?_) (fun (c330 : ¬ ((0 : Int) = 0)) => by exfalso; omega)
          have c330 : (0 : Int) = 0 := c330
          refine own_blk X25 B0_437_443 B0_437_443d (ls' := #[.val (.int z0), .val (.int z1), .val (.int z2), .val (.int z3), .val (.int z4), .val (.int z5), .val (.int kk), .val (.int (3 : Int32)), .val (.int q), .val (.int ld), .val (.ref b), .val (.int u1), .val (.int u2), .val (.int u3), .val (.int (128 : Int32)), .val (.int (191 : Int32)), .val (.int (0 : Int32)), .val (.int (-1 : Int32))]) (st' := [(.int (3 : Int32)), (.int q), (.ref b)]) rfl ?_
          refine own_callS X25 (hw _ (List.mem_of_getElem? (i := 2) rfl)) (hw _ (List.mem_of_getElem? (i := 3) rfl)) (hw _ (List.mem_of_getElem? (i := 4) rfl)) (hw _ (List.mem_of_getElem? (i := 5) rfl)) (by decide) (c_cp3 l Z a0 hw b q g25 h25 n0 X25.2.1 A25 hq) d0_443 [(.ref b), (.int q), (.int (3 : Int32))] [] rfl rfl pd1 rfl rfl (by decide) (Nat.le_of_ble_eq_true rfl) (by decide) (by decide) (fun _ _ q => by obtain ⟨_, _, q2, _⟩ := q; rw [q2]; exact X25.2.1) (fun v26 h26 T26 X26 q26 => ?_)
          obtain ⟨z26, rfl, e26, hz26⟩ := q26
          rw [e26] at X26
          show own_G p e below (T26.setTop (mkF m 446 #[.val (.int z0), .val (.int z1), .val (.int z2), .val (.int z3), .val (.int z4), .val (.int z5), .val (.int kk), .val (.int (3 : Int32)), .val (.int q), .val (.int ld), .val (.ref b), .val (.int u1), .val (.int u2), .val (.int u3), .val (.int (128 : Int32)), .val (.int (191 : Int32)), .val (.int (0 : Int32)), .val (.int (-1 : Int32))] [(.int z26)])) _
          rw [r0, r1, r2] at hz26
          refine own_blk X26 B0_446_448 B0_446_448d (ls' := #[.val (.int z0), .val (.int z1), .val (.int z2), .val (.int z3), .val (.int z4), .val (.int z5), .val (.int kk), .val (.int (3 : Int32)), .val (.int q), .val (.int ld), .val (.ref b), .val (.int u1), .val (.int u2), .val (.int u3), .val (.int (128 : Int32)), .val (.int (191 : Int32)), .val (.int (0 : Int32)), .val (.int (-1 : Int32))]) (st' := [(.int (-1 : Int32)), (.int z26)]) rfl ?_
          refine own_icmp X26 d0_448 (pc' := 455) (by decide) (fun (c448 : ¬ z26.toInt = -1) => by exfalso; omega) (fun c448 => ?_)
          have c448 : ¬ (¬ z26.toInt = -1) := c448
          refine own_blk X26 B0_451_452 B0_451_452d (ls' := #[.val (.int z0), .val (.int z1), .val (.int z2), .val (.int z3), .val (.int z4), .val (.int z5), .val (.int kk), .val (.int (3 : Int32)), .val (.int q), .val (.int ld), .val (.ref b), .val (.int u1), .val (.int u2), .val (.int u3), .val (.int (128 : Int32)), .val (.int (191 : Int32)), .val (.int (0 : Int32)), .val (.int (-1 : Int32))]) (st' := [(.int (1 : Int32))]) rfl ?_
          refine own_goto X26 d0_452 (pc' := 456) (by decide) ?_
          exact own_retN X26 (by simp) d0_456 (v' := (1 : Int32)) (rfl) (by decide) (by decide) (rfl)
        · have c256 : ¬ (u1.toInt < 128) := c256
          refine own_blk X25 B0_259_263 B0_259_263d (ls' := #[.val (.int z0), .val (.int z1), .val (.int z2), .val (.int z3), .val (.int z4), .val (.int z5), .val (.int kk), .val (.int (3 : Int32)), .val (.int q), .val (.int ld), .val (.ref b), .val (.int u1), .val (.int u2), .val (.int u3), .val (.int (128 : Int32)), .val (.int (191 : Int32)), .unset, .unset]) (st' := [(.int (191 : Int32)), (.int u1)]) rfl ?_
          refine own_icmp X25 d0_263 (pc' := 270) (by decide) (fun c263 => ?_) (fun c263 => ?_)
          · have c263 : 191 < u1.toInt := c263
            refine own_blk X25 B0_270_276 B0_270_276d (ls' := #[.val (.int z0), .val (.int z1), .val (.int z2), .val (.int z3), .val (.int z4), .val (.int z5), .val (.int kk), .val (.int (3 : Int32)), .val (.int q), .val (.int ld), .val (.ref b), .val (.int u1), .val (.int u2), .val (.int u3), .val (.int (128 : Int32)), .val (.int (191 : Int32)), .val (.int (0 : Int32)), .unset]) (st' := [(.int (2 : Int32)), (.int (3 : Int32))]) rfl ?_
            refine own_icmp X25 d0_276 (pc' := 299) (by decide) (fun (c276 : (3 : Int) ≤ 2) => by exfalso; omega) (fun c276 => ?_)
            have c276 : ¬ ((3 : Int) ≤ 2) := c276
            refine own_blk X25 B0_279_281 B0_279_281d (ls' := #[.val (.int z0), .val (.int z1), .val (.int z2), .val (.int z3), .val (.int z4), .val (.int z5), .val (.int kk), .val (.int (3 : Int32)), .val (.int q), .val (.int ld), .val (.ref b), .val (.int u1), .val (.int u2), .val (.int u3), .val (.int (128 : Int32)), .val (.int (191 : Int32)), .val (.int (0 : Int32)), .unset]) (st' := [(.int (0 : Int32))]) rfl ?_
            refine own_if X25 d0_281 (pc' := 296) (by decide) (fun c281 => ?_) (fun (c281 : ¬ ((0 : Int) = 0)) => by exfalso; omega)
            have c281 : (0 : Int) = 0 := c281
            refine own_blk X25 B0_296_302 B0_296_302d (ls' := #[.val (.int z0), .val (.int z1), .val (.int z2), .val (.int z3), .val (.int z4), .val (.int z5), .val (.int kk), .val (.int (3 : Int32)), .val (.int q), .val (.int ld), .val (.ref b), .val (.int u1), .val (.int u2), .val (.int u3), .val (.int (128 : Int32)), .val (.int (191 : Int32)), .val (.int (0 : Int32)), .unset]) (st' := [(.int (3 : Int32)), (.int (3 : Int32))]) rfl ?_
            refine own_icmp X25 d0_302 (pc' := 325) (by decide) (fun c302 => ?_) (fun (c302 : ¬ ((3 : Int) ≤ 3)) => by exfalso; omega)
            have c302 : (3 : Int) ≤ 3 := c302
            refine own_blk X25 B0_325_330 B0_325_330d (ls' := #[.val (.int z0), .val (.int z1), .val (.int z2), .val (.int z3), .val (.int z4), .val (.int z5), .val (.int kk), .val (.int (3 : Int32)), .val (.int q), .val (.int ld), .val (.ref b), .val (.int u1), .val (.int u2), .val (.int u3), .val (.int (128 : Int32)), .val (.int (191 : Int32)), .val (.int (0 : Int32)), .val (.int (-1 : Int32))]) (st' := [(.int (0 : Int32))]) rfl ?_
            refine own_if X25 d0_330 (pc' := 437) (by decide) (fun c330 => ?_) (fun (c330 : ¬ ((0 : Int) = 0)) => by exfalso; omega)
            have c330 : (0 : Int) = 0 := c330
            refine own_blk X25 B0_437_443 B0_437_443d (ls' := #[.val (.int z0), .val (.int z1), .val (.int z2), .val (.int z3), .val (.int z4), .val (.int z5), .val (.int kk), .val (.int (3 : Int32)), .val (.int q), .val (.int ld), .val (.ref b), .val (.int u1), .val (.int u2), .val (.int u3), .val (.int (128 : Int32)), .val (.int (191 : Int32)), .val (.int (0 : Int32)), .val (.int (-1 : Int32))]) (st' := [(.int (3 : Int32)), (.int q), (.ref b)]) rfl ?_
            refine own_callS X25 (hw _ (List.mem_of_getElem? (i := 2) rfl)) (hw _ (List.mem_of_getElem? (i := 3) rfl)) (hw _ (List.mem_of_getElem? (i := 4) rfl)) (hw _ (List.mem_of_getElem? (i := 5) rfl)) (by decide) (c_cp3 l Z a0 hw b q g25 h25 n0 X25.2.1 A25 hq) d0_443 [(.ref b), (.int q), (.int (3 : Int32))] [] rfl rfl pd1 rfl rfl (by decide) (Nat.le_of_ble_eq_true rfl) (by decide) (by decide) (fun _ _ q => by obtain ⟨_, _, q2, _⟩ := q; rw [q2]; exact X25.2.1) (fun v27 h27 T27 X27 q27 => ?_)
            obtain ⟨z27, rfl, e27, hz27⟩ := q27
            rw [e27] at X27
            show own_G p e below (T27.setTop (mkF m 446 #[.val (.int z0), .val (.int z1), .val (.int z2), .val (.int z3), .val (.int z4), .val (.int z5), .val (.int kk), .val (.int (3 : Int32)), .val (.int q), .val (.int ld), .val (.ref b), .val (.int u1), .val (.int u2), .val (.int u3), .val (.int (128 : Int32)), .val (.int (191 : Int32)), .val (.int (0 : Int32)), .val (.int (-1 : Int32))] [(.int z27)])) _
            rw [r0, r1, r2] at hz27
            refine own_blk X27 B0_446_448 B0_446_448d (ls' := #[.val (.int z0), .val (.int z1), .val (.int z2), .val (.int z3), .val (.int z4), .val (.int z5), .val (.int kk), .val (.int (3 : Int32)), .val (.int q), .val (.int ld), .val (.ref b), .val (.int u1), .val (.int u2), .val (.int u3), .val (.int (128 : Int32)), .val (.int (191 : Int32)), .val (.int (0 : Int32)), .val (.int (-1 : Int32))]) (st' := [(.int (-1 : Int32)), (.int z27)]) rfl ?_
            refine own_icmp X27 d0_448 (pc' := 455) (by decide) (fun (c448 : ¬ z27.toInt = -1) => by exfalso; omega) (fun c448 => ?_)
            have c448 : ¬ (¬ z27.toInt = -1) := c448
            refine own_blk X27 B0_451_452 B0_451_452d (ls' := #[.val (.int z0), .val (.int z1), .val (.int z2), .val (.int z3), .val (.int z4), .val (.int z5), .val (.int kk), .val (.int (3 : Int32)), .val (.int q), .val (.int ld), .val (.ref b), .val (.int u1), .val (.int u2), .val (.int u3), .val (.int (128 : Int32)), .val (.int (191 : Int32)), .val (.int (0 : Int32)), .val (.int (-1 : Int32))]) (st' := [(.int (1 : Int32))]) rfl ?_
            refine own_goto X27 d0_452 (pc' := 456) (by decide) ?_
            exact own_retN X27 (by simp) d0_456 (v' := (1 : Int32)) (rfl) (by decide) (by decide) (rfl)
          · have c263 : ¬ (191 < u1.toInt) := c263
            refine own_blk X25 B0_266_267 B0_266_267d (ls' := #[.val (.int z0), .val (.int z1), .val (.int z2), .val (.int z3), .val (.int z4), .val (.int z5), .val (.int kk), .val (.int (3 : Int32)), .val (.int q), .val (.int ld), .val (.ref b), .val (.int u1), .val (.int u2), .val (.int u3), .val (.int (128 : Int32)), .val (.int (191 : Int32)), .unset, .unset]) (st' := [(.int (1 : Int32))]) rfl ?_
            refine own_goto X25 d0_267 (pc' := 271) (by decide) ?_
            refine own_blk X25 B0_271_276 B0_271_276d (ls' := #[.val (.int z0), .val (.int z1), .val (.int z2), .val (.int z3), .val (.int z4), .val (.int z5), .val (.int kk), .val (.int (3 : Int32)), .val (.int q), .val (.int ld), .val (.ref b), .val (.int u1), .val (.int u2), .val (.int u3), .val (.int (128 : Int32)), .val (.int (191 : Int32)), .val (.int (1 : Int32)), .unset]) (st' := [(.int (2 : Int32)), (.int (3 : Int32))]) rfl ?_
            refine own_icmp X25 d0_276 (pc' := 299) (by decide) (fun (c276 : (3 : Int) ≤ 2) => by exfalso; omega) (fun c276 => ?_)
            have c276 : ¬ ((3 : Int) ≤ 2) := c276
            refine own_blk X25 B0_279_281 B0_279_281d (ls' := #[.val (.int z0), .val (.int z1), .val (.int z2), .val (.int z3), .val (.int z4), .val (.int z5), .val (.int kk), .val (.int (3 : Int32)), .val (.int q), .val (.int ld), .val (.ref b), .val (.int u1), .val (.int u2), .val (.int u3), .val (.int (128 : Int32)), .val (.int (191 : Int32)), .val (.int (1 : Int32)), .unset]) (st' := [(.int (1 : Int32))]) rfl ?_
            refine own_if X25 d0_281 (pc' := 296) (by decide) (fun (c281 : (1 : Int) = 0) => by exfalso; omega) (fun c281 => ?_)
            have c281 : ¬ ((1 : Int) = 0) := c281
            refine own_blk X25 B0_284_286 B0_284_286d (ls' := #[.val (.int z0), .val (.int z1), .val (.int z2), .val (.int z3), .val (.int z4), .val (.int z5), .val (.int kk), .val (.int (3 : Int32)), .val (.int q), .val (.int ld), .val (.ref b), .val (.int u1), .val (.int u2), .val (.int u3), .val (.int (128 : Int32)), .val (.int (191 : Int32)), .val (.int (1 : Int32)), .unset]) (st' := [(.int u2)]) rfl ?_
            refine own_callP X25 (hw _ (List.mem_of_getElem? (i := 9) rfl)) (hw _ (List.mem_of_getElem? (i := 10) rfl)) (hw _ (List.mem_of_getElem? (i := 11) rfl)) (hw _ (List.mem_of_getElem? (i := 12) rfl)) (by decide) (c_ic l Z a0 hw u2 h25 n0 X25.2.1) d0_286 [(.int u2)] [] rfl rfl pd2 rfl rfl (by decide) (Nat.le_of_ble_eq_true rfl) (by decide) (by decide) (fun T28 X28 => ?_)
            show own_G p e below (T28.setTop (mkF m 289 #[.val (.int z0), .val (.int z1), .val (.int z2), .val (.int z3), .val (.int z4), .val (.int z5), .val (.int kk), .val (.int (3 : Int32)), .val (.int q), .val (.int ld), .val (.ref b), .val (.int u1), .val (.int u2), .val (.int u3), .val (.int (128 : Int32)), .val (.int (191 : Int32)), .val (.int (1 : Int32)), .unset] [(.int (own_ic u2))])) _
            by_cases hi_u2 : 128 ≤ u2.toInt ∧ u2.toInt ≤ 191
            · rw [own_ic, if_pos hi_u2]
              refine own_if X28 d0_289 (pc' := 296) (by decide) (fun (c289 : (1 : Int) = 0) => by exfalso; omega) (fun c289 => ?_)
              have c289 : ¬ ((1 : Int) = 0) := c289
              refine own_blk X28 B0_292_293 B0_292_293d (ls' := #[.val (.int z0), .val (.int z1), .val (.int z2), .val (.int z3), .val (.int z4), .val (.int z5), .val (.int kk), .val (.int (3 : Int32)), .val (.int q), .val (.int ld), .val (.ref b), .val (.int u1), .val (.int u2), .val (.int u3), .val (.int (128 : Int32)), .val (.int (191 : Int32)), .val (.int (1 : Int32)), .unset]) (st' := [(.int (1 : Int32))]) rfl ?_
              refine own_goto X28 d0_293 (pc' := 297) (by decide) ?_
              refine own_blk X28 B0_297_302 B0_297_302d (ls' := #[.val (.int z0), .val (.int z1), .val (.int z2), .val (.int z3), .val (.int z4), .val (.int z5), .val (.int kk), .val (.int (3 : Int32)), .val (.int q), .val (.int ld), .val (.ref b), .val (.int u1), .val (.int u2), .val (.int u3), .val (.int (128 : Int32)), .val (.int (191 : Int32)), .val (.int (1 : Int32)), .unset]) (st' := [(.int (3 : Int32)), (.int (3 : Int32))]) rfl ?_
              refine own_icmp X28 d0_302 (pc' := 325) (by decide) (fun c302 => ?_) (fun (c302 : ¬ ((3 : Int) ≤ 3)) => by exfalso; omega)
              have c302 : (3 : Int) ≤ 3 := c302
              refine own_blk X28 B0_325_330 B0_325_330d (ls' := #[.val (.int z0), .val (.int z1), .val (.int z2), .val (.int z3), .val (.int z4), .val (.int z5), .val (.int kk), .val (.int (3 : Int32)), .val (.int q), .val (.int ld), .val (.ref b), .val (.int u1), .val (.int u2), .val (.int u3), .val (.int (128 : Int32)), .val (.int (191 : Int32)), .val (.int (1 : Int32)), .val (.int (-1 : Int32))]) (st' := [(.int (1 : Int32))]) rfl ?_
              refine own_if X28 d0_330 (pc' := 437) (by decide) (fun (c330 : (1 : Int) = 0) => by exfalso; omega) (fun c330 => ?_)
              have c330 : ¬ ((1 : Int) = 0) := c330
              refine own_blk X28 B0_333_336 B0_333_336d (ls' := #[.val (.int z0), .val (.int z1), .val (.int z2), .val (.int z3), .val (.int z4), .val (.int z5), .val (.int kk), .val (.int (3 : Int32)), .val (.int q), .val (.int ld), .val (.ref b), .val (.int u1), .val (.int u2), .val (.int u3), .val (.int (128 : Int32)), .val (.int (191 : Int32)), .val (.int (1 : Int32)), .val (.int (-1 : Int32))]) (st' := [(.int (2 : Int32)), (.int (3 : Int32))]) rfl ?_
              refine own_icmp X28 d0_336 (pc' := 360) (by decide) (fun c336 => ?_) (fun (c336 : ¬ (¬ (3 : Int) = 2)) => by exfalso; omega)
              have c336 : ¬ (3 : Int) = 2 := c336
              refine own_blk X28 B0_360_363 B0_360_363d (ls' := #[.val (.int z0), .val (.int z1), .val (.int z2), .val (.int z3), .val (.int z4), .val (.int z5), .val (.int kk), .val (.int (3 : Int32)), .val (.int q), .val (.int ld), .val (.ref b), .val (.int u1), .val (.int u2), .val (.int u3), .val (.int (128 : Int32)), .val (.int (191 : Int32)), .val (.int (1 : Int32)), .val (.int (-1 : Int32))]) (st' := [(.int (3 : Int32)), (.int (3 : Int32))]) rfl ?_
              refine own_icmp X28 d0_363 (pc' := 398) (by decide) (fun (c363 : ¬ (3 : Int) = 3) => by exfalso; omega) (fun c363 => ?_)
              have c363 : ¬ (¬ (3 : Int) = 3) := c363
              refine own_blk X28 B0_366_395 B0_366_395d (ls' := #[.val (.int z0), .val (.int z1), .val (.int z2), .val (.int z3), .val (.int z4), .val (.int z5), .val (.int kk), .val (.int (3 : Int32)), .val (.int q), .val (.int ld), .val (.ref b), .val (.int u1), .val (.int u2), .val (.int u3), .val (.int (128 : Int32)), .val (.int (191 : Int32)), .val (.int (1 : Int32)), .val (.int ((((ld - (224 : Int32)) * (4096 : Int32)) + ((u1 - (128 : Int32)) * (64 : Int32))) + (u2 - (128 : Int32))))]) (st' := []) rfl ?_
              refine own_goto X28 d0_395 (pc' := 437) (by decide) ?_
              generalize eex : ((((ld - (224 : Int32)) * (4096 : Int32)) + ((u1 - (128 : Int32)) * (64 : Int32))) + (u2 - (128 : Int32))) = ex
              have hex := own_e3 (ld := ld) (u1 := u1) (u2 := u2) (by omega) (by omega) (by omega)
              rw [eex] at hex
              refine own_blk X28 B0_437_443 B0_437_443d (ls' := #[.val (.int z0), .val (.int z1), .val (.int z2), .val (.int z3), .val (.int z4), .val (.int z5), .val (.int kk), .val (.int (3 : Int32)), .val (.int q), .val (.int ld), .val (.ref b), .val (.int u1), .val (.int u2), .val (.int u3), .val (.int (128 : Int32)), .val (.int (191 : Int32)), .val (.int (1 : Int32)), .val (.int ex)]) (st' := [(.int (3 : Int32)), (.int q), (.ref b)]) rfl ?_
              refine own_callS X28 (hw _ (List.mem_of_getElem? (i := 2) rfl)) (hw _ (List.mem_of_getElem? (i := 3) rfl)) (hw _ (List.mem_of_getElem? (i := 4) rfl)) (hw _ (List.mem_of_getElem? (i := 5) rfl)) (by decide) (c_cp3 l Z a0 hw b q g25 h25 n0 X28.2.1 A25 hq) d0_443 [(.ref b), (.int q), (.int (3 : Int32))] [] rfl rfl pd1 rfl rfl (by decide) (Nat.le_of_ble_eq_true rfl) (by decide) (by decide) (fun _ _ q => by obtain ⟨_, _, q2, _⟩ := q; rw [q2]; exact X28.2.1) (fun v29 h29 T29 X29 q29 => ?_)
              obtain ⟨z29, rfl, e29, hz29⟩ := q29
              rw [e29] at X29
              show own_G p e below (T29.setTop (mkF m 446 #[.val (.int z0), .val (.int z1), .val (.int z2), .val (.int z3), .val (.int z4), .val (.int z5), .val (.int kk), .val (.int (3 : Int32)), .val (.int q), .val (.int ld), .val (.ref b), .val (.int u1), .val (.int u2), .val (.int u3), .val (.int (128 : Int32)), .val (.int (191 : Int32)), .val (.int (1 : Int32)), .val (.int ex)] [(.int z29)])) _
              rw [r0, r1, r2] at hz29
              refine own_blk X29 B0_446_448 B0_446_448d (ls' := #[.val (.int z0), .val (.int z1), .val (.int z2), .val (.int z3), .val (.int z4), .val (.int z5), .val (.int kk), .val (.int (3 : Int32)), .val (.int q), .val (.int ld), .val (.ref b), .val (.int u1), .val (.int u2), .val (.int u3), .val (.int (128 : Int32)), .val (.int (191 : Int32)), .val (.int (1 : Int32)), .val (.int ex)]) (st' := [(.int ex), (.int z29)]) rfl ?_
              refine own_icmp X29 d0_448 (pc' := 455) (by decide) (fun (c448 : ¬ z29.toInt = ex.toInt) => by exfalso; omega) (fun c448 => ?_)
              have c448 : ¬ (¬ z29.toInt = ex.toInt) := c448
              refine own_blk X29 B0_451_452 B0_451_452d (ls' := #[.val (.int z0), .val (.int z1), .val (.int z2), .val (.int z3), .val (.int z4), .val (.int z5), .val (.int kk), .val (.int (3 : Int32)), .val (.int q), .val (.int ld), .val (.ref b), .val (.int u1), .val (.int u2), .val (.int u3), .val (.int (128 : Int32)), .val (.int (191 : Int32)), .val (.int (1 : Int32)), .val (.int ex)]) (st' := [(.int (1 : Int32))]) rfl ?_
              refine own_goto X29 d0_452 (pc' := 456) (by decide) ?_
              exact own_retN X29 (by simp) d0_456 (v' := (1 : Int32)) (rfl) (by decide) (by decide) (rfl)
            · rw [own_ic, if_neg hi_u2]
              refine own_if X28 d0_289 (pc' := 296) (by decide) (fun c289 => ?_) (fun (c289 : ¬ ((0 : Int) = 0)) => by exfalso; omega)
              have c289 : (0 : Int) = 0 := c289
              refine own_blk X28 B0_296_302 B0_296_302d (ls' := #[.val (.int z0), .val (.int z1), .val (.int z2), .val (.int z3), .val (.int z4), .val (.int z5), .val (.int kk), .val (.int (3 : Int32)), .val (.int q), .val (.int ld), .val (.ref b), .val (.int u1), .val (.int u2), .val (.int u3), .val (.int (128 : Int32)), .val (.int (191 : Int32)), .val (.int (0 : Int32)), .unset]) (st' := [(.int (3 : Int32)), (.int (3 : Int32))]) rfl ?_
              refine own_icmp X28 d0_302 (pc' := 325) (by decide) (fun c302 => ?_) (fun (c302 : ¬ ((3 : Int) ≤ 3)) => by exfalso; omega)
              have c302 : (3 : Int) ≤ 3 := c302
              refine own_blk X28 B0_325_330 B0_325_330d (ls' := #[.val (.int z0), .val (.int z1), .val (.int z2), .val (.int z3), .val (.int z4), .val (.int z5), .val (.int kk), .val (.int (3 : Int32)), .val (.int q), .val (.int ld), .val (.ref b), .val (.int u1), .val (.int u2), .val (.int u3), .val (.int (128 : Int32)), .val (.int (191 : Int32)), .val (.int (0 : Int32)), .val (.int (-1 : Int32))]) (st' := [(.int (0 : Int32))]) rfl ?_
              refine own_if X28 d0_330 (pc' := 437) (by decide) (fun c330 => ?_) (fun (c330 : ¬ ((0 : Int) = 0)) => by exfalso; omega)
              have c330 : (0 : Int) = 0 := c330
              refine own_blk X28 B0_437_443 B0_437_443d (ls' := #[.val (.int z0), .val (.int z1), .val (.int z2), .val (.int z3), .val (.int z4), .val (.int z5), .val (.int kk), .val (.int (3 : Int32)), .val (.int q), .val (.int ld), .val (.ref b), .val (.int u1), .val (.int u2), .val (.int u3), .val (.int (128 : Int32)), .val (.int (191 : Int32)), .val (.int (0 : Int32)), .val (.int (-1 : Int32))]) (st' := [(.int (3 : Int32)), (.int q), (.ref b)]) rfl ?_
              refine own_callS X28 (hw _ (List.mem_of_getElem? (i := 2) rfl)) (hw _ (List.mem_of_getElem? (i := 3) rfl)) (hw _ (List.mem_of_getElem? (i := 4) rfl)) (hw _ (List.mem_of_getElem? (i := 5) rfl)) (by decide) (c_cp3 l Z a0 hw b q g25 h25 n0 X28.2.1 A25 hq) d0_443 [(.ref b), (.int q), (.int (3 : Int32))] [] rfl rfl pd1 rfl rfl (by decide) (Nat.le_of_ble_eq_true rfl) (by decide) (by decide) (fun _ _ q => by obtain ⟨_, _, q2, _⟩ := q; rw [q2]; exact X28.2.1) (fun v30 h30 T30 X30 q30 => ?_)
              obtain ⟨z30, rfl, e30, hz30⟩ := q30
              rw [e30] at X30
              show own_G p e below (T30.setTop (mkF m 446 #[.val (.int z0), .val (.int z1), .val (.int z2), .val (.int z3), .val (.int z4), .val (.int z5), .val (.int kk), .val (.int (3 : Int32)), .val (.int q), .val (.int ld), .val (.ref b), .val (.int u1), .val (.int u2), .val (.int u3), .val (.int (128 : Int32)), .val (.int (191 : Int32)), .val (.int (0 : Int32)), .val (.int (-1 : Int32))] [(.int z30)])) _
              rw [r0, r1, r2] at hz30
              refine own_blk X30 B0_446_448 B0_446_448d (ls' := #[.val (.int z0), .val (.int z1), .val (.int z2), .val (.int z3), .val (.int z4), .val (.int z5), .val (.int kk), .val (.int (3 : Int32)), .val (.int q), .val (.int ld), .val (.ref b), .val (.int u1), .val (.int u2), .val (.int u3), .val (.int (128 : Int32)), .val (.int (191 : Int32)), .val (.int (0 : Int32)), .val (.int (-1 : Int32))]) (st' := [(.int (-1 : Int32)), (.int z30)]) rfl ?_
              refine own_icmp X30 d0_448 (pc' := 455) (by decide) (fun (c448 : ¬ z30.toInt = -1) => by exfalso; omega) (fun c448 => ?_)
              have c448 : ¬ (¬ z30.toInt = -1) := c448
              refine own_blk X30 B0_451_452 B0_451_452d (ls' := #[.val (.int z0), .val (.int z1), .val (.int z2), .val (.int z3), .val (.int z4), .val (.int z5), .val (.int kk), .val (.int (3 : Int32)), .val (.int q), .val (.int ld), .val (.ref b), .val (.int u1), .val (.int u2), .val (.int u3), .val (.int (128 : Int32)), .val (.int (191 : Int32)), .val (.int (0 : Int32)), .val (.int (-1 : Int32))]) (st' := [(.int (1 : Int32))]) rfl ?_
              refine own_goto X30 d0_452 (pc' := 456) (by decide) ?_
              exact own_retN X30 (by simp) d0_456 (v' := (1 : Int32)) (rfl) (by decide) (by decide) (rfl)
      · have c212 : ¬ (¬ ld.toInt = 237) := c212
        refine own_blk X25 B0_215_220 B0_215_220d (ls' := #[.val (.int z0), .val (.int z1), .val (.int z2), .val (.int z3), .val (.int z4), .val (.int z5), .val (.int kk), .val (.int (3 : Int32)), .val (.int q), .val (.int ld), .val (.ref b), .val (.int u1), .val (.int u2), .val (.int u3), .val (.int (128 : Int32)), .val (.int (159 : Int32)), .unset, .unset]) (st' := []) rfl ?_
        refine own_goto X25 d0_220 (pc' := 252) (by decide) ?_
        refine own_blk X25 B0_252_256 B0_252_256d (ls' := #[.val (.int z0), .val (.int z1), .val (.int z2), .val (.int z3), .val (.int z4), .val (.int z5), .val (.int kk), .val (.int (3 : Int32)), .val (.int q), .val (.int ld), .val (.ref b), .val (.int u1), .val (.int u2), .val (.int u3), .val (.int (128 : Int32)), .val (.int (159 : Int32)), .unset, .unset]) (st' := [(.int (128 : Int32)), (.int u1)]) rfl ?_
        refine own_icmp X25 d0_256 (pc' := 270) (by decide) (fun c256 => ?_) (fun c256 => ?_)
        · have c256 : u1.toInt < 128 := c256
          refine own_blk X25 B0_270_276 B0_270_276d (ls' := #[.val (.int z0), .val (.int z1), .val (.int z2), .val (.int z3), .val (.int z4), .val (.int z5), .val (.int kk), .val (.int (3 : Int32)), .val (.int q), .val (.int ld), .val (.ref b), .val (.int u1), .val (.int u2), .val (.int u3), .val (.int (128 : Int32)), .val (.int (159 : Int32)), .val (.int (0 : Int32)), .unset]) (st' := [(.int (2 : Int32)), (.int (3 : Int32))]) rfl ?_
          refine own_icmp X25 d0_276 (pc' := 299) (by decide) (fun (c276 : (3 : Int) ≤ 2) => by exfalso; omega) (fun c276 => ?_)
          have c276 : ¬ ((3 : Int) ≤ 2) := c276
          refine own_blk X25 B0_279_281 B0_279_281d (ls' := #[.val (.int z0), .val (.int z1), .val (.int z2), .val (.int z3), .val (.int z4), .val (.int z5), .val (.int kk), .val (.int (3 : Int32)), .val (.int q), .val (.int ld), .val (.ref b), .val (.int u1), .val (.int u2), .val (.int u3), .val (.int (128 : Int32)), .val (.int (159 : Int32)), .val (.int (0 : Int32)), .unset]) (st' := [(.int (0 : Int32))]) rfl ?_
          refine own_if X25 d0_281 (pc' := 296) (by decide) (fun c281 => ?_) (fun (c281 : ¬ ((0 : Int) = 0)) => by exfalso; omega)
          have c281 : (0 : Int) = 0 := c281
          refine own_blk X25 B0_296_302 B0_296_302d (ls' := #[.val (.int z0), .val (.int z1), .val (.int z2), .val (.int z3), .val (.int z4), .val (.int z5), .val (.int kk), .val (.int (3 : Int32)), .val (.int q), .val (.int ld), .val (.ref b), .val (.int u1), .val (.int u2), .val (.int u3), .val (.int (128 : Int32)), .val (.int (159 : Int32)), .val (.int (0 : Int32)), .unset]) (st' := [(.int (3 : Int32)), (.int (3 : Int32))]) rfl ?_
          refine own_icmp X25 d0_302 (pc' := 325) (by decide) (fun c302 => ?_) (fun (c302 : ¬ ((3 : Int) ≤ 3)) => by exfalso; omega)
          have c302 : (3 : Int) ≤ 3 := c302
          refine own_blk X25 B0_325_330 B0_325_330d (ls' := #[.val (.int z0), .val (.int z1), .val (.int z2), .val (.int z3), .val (.int z4), .val (.int z5), .val (.int kk), .val (.int (3 : Int32)), .val (.int q), .val (.int ld), .val (.ref b), .val (.int u1), .val (.int u2), .val (.int u3), .val (.int (128 : Int32)), .val (.int (159 : Int32)), .val (.int (0 : Int32)), .val (.int (-1 : Int32))]) (st' := [(.int (0 : Int32))]) rfl ?_
          refine own_if X25 d0_330 (pc' := 437) (by decide) (fun c330 => ?_) (fun (c330 : ¬ ((0 : Int) = 0)) => by exfalso; omega)
          have c330 : (0 : Int) = 0 := c330
          refine own_blk X25 B0_437_443 B0_437_443d (ls' := #[.val (.int z0), .val (.int z1), .val (.int z2), .val (.int z3), .val (.int z4), .val (.int z5), .val (.int kk), .val (.int (3 : Int32)), .val (.int q), .val (.int ld), .val (.ref b), .val (.int u1), .val (.int u2), .val (.int u3), .val (.int (128 : Int32)), .val (.int (159 : Int32)), .val (.int (0 : Int32)), .val (.int (-1 : Int32))]) (st' := [(.int (3 : Int32)), (.int q), (.ref b)]) rfl ?_
          refine own_callS X25 (hw _ (List.mem_of_getElem? (i := 2) rfl)) (hw _ (List.mem_of_getElem? (i := 3) rfl)) (hw _ (List.mem_of_getElem? (i := 4) rfl)) (hw _ (List.mem_of_getElem? (i := 5) rfl)) (by decide) (c_cp3 l Z a0 hw b q g25 h25 n0 X25.2.1 A25 hq) d0_443 [(.ref b), (.int q), (.int (3 : Int32))] [] rfl rfl pd1 rfl rfl (by decide) (Nat.le_of_ble_eq_true rfl) (by decide) (by decide) (fun _ _ q => by obtain ⟨_, _, q2, _⟩ := q; rw [q2]; exact X25.2.1) (fun v31 h31 T31 X31 q31 => ?_)
          obtain ⟨z31, rfl, e31, hz31⟩ := q31
          rw [e31] at X31
          show own_G p e below (T31.setTop (mkF m 446 #[.val (.int z0), .val (.int z1), .val (.int z2), .val (.int z3), .val (.int z4), .val (.int z5), .val (.int kk), .val (.int (3 : Int32)), .val (.int q), .val (.int ld), .val (.ref b), .val (.int u1), .val (.int u2), .val (.int u3), .val (.int (128 : Int32)), .val (.int (159 : Int32)), .val (.int (0 : Int32)), .val (.int (-1 : Int32))] [(.int z31)])) _
          rw [r0, r1, r2] at hz31
          refine own_blk X31 B0_446_448 B0_446_448d (ls' := #[.val (.int z0), .val (.int z1), .val (.int z2), .val (.int z3), .val (.int z4), .val (.int z5), .val (.int kk), .val (.int (3 : Int32)), .val (.int q), .val (.int ld), .val (.ref b), .val (.int u1), .val (.int u2), .val (.int u3), .val (.int (128 : Int32)), .val (.int (159 : Int32)), .val (.int (0 : Int32)), .val (.int (-1 : Int32))]) (st' := [(.int (-1 : Int32)), (.int z31)]) rfl ?_
          refine own_icmp X31 d0_448 (pc' := 455) (by decide) (fun (c448 : ¬ z31.toInt = -1) => by exfalso; omega) (fun c448 => ?_)
          have c448 : ¬ (¬ z31.toInt = -1) := c448
          refine own_blk X31 B0_451_452 B0_451_452d (ls' := #[.val (.int z0), .val (.int z1), .val (.int z2), .val (.int z3), .val (.int z4), .val (.int z5), .val (.int kk), .val (.int (3 : Int32)), .val (.int q), .val (.int ld), .val (.ref b), .val (.int u1), .val (.int u2), .val (.int u3), .val (.int (128 : Int32)), .val (.int (159 : Int32)), .val (.int (0 : Int32)), .val (.int (-1 : Int32))]) (st' := [(.int (1 : Int32))]) rfl ?_
          refine own_goto X31 d0_452 (pc' := 456) (by decide) ?_
          exact own_retN X31 (by simp) d0_456 (v' := (1 : Int32)) (rfl) (by decide) (by decide) (rfl)
        · have c256 : ¬ (u1.toInt < 128) := c256
          refine own_blk X25 B0_259_263 B0_259_263d (ls' := #[.val (.int z0), .val (.int z1), .val (.int z2), .val (.int z3), .val (.int z4), .val (.int z5), .val (.int kk), .val (.int (3 : Int32)), .val (.int q), .val (.int ld), .val (.ref b), .val (.int u1), .val (.int u2), .val (.int u3), .val (.int (128 : Int32)), .val (.int (159 : Int32)), .unset, .unset]) (st' := [(.int (159 : Int32)), (.int u1)]) rfl ?_
          refine own_icmp X25 d0_263 (pc' := 270) (by decide) (fun c263 => ?_) (fun c263 => ?_)
          · have c263 : 159 < u1.toInt := c263
            refine own_blk X25 B0_270_276 B0_270_276d (ls' := #[.val (.int z0), .val (.int z1), .val (.int z2), .val (.int z3), .val (.int z4), .val (.int z5), .val (.int kk), .val (.int (3 : Int32)), .val (.int q), .val (.int ld), .val (.ref b), .val (.int u1), .val (.int u2), .val (.int u3), .val (.int (128 : Int32)), .val (.int (159 : Int32)), .val (.int (0 : Int32)), .unset]) (st' := [(.int (2 : Int32)), (.int (3 : Int32))]) rfl ?_
            refine own_icmp X25 d0_276 (pc' := 299) (by decide) (fun (c276 : (3 : Int) ≤ 2) => by exfalso; omega) (fun c276 => ?_)
            have c276 : ¬ ((3 : Int) ≤ 2) := c276
            refine own_blk X25 B0_279_281 B0_279_281d (ls' := #[.val (.int z0), .val (.int z1), .val (.int z2), .val (.int z3), .val (.int z4), .val (.int z5), .val (.int kk), .val (.int (3 : Int32)), .val (.int q), .val (.int ld), .val (.ref b), .val (.int u1), .val (.int u2), .val (.int u3), .val (.int (128 : Int32)), .val (.int (159 : Int32)), .val (.int (0 : Int32)), .unset]) (st' := [(.int (0 : Int32))]) rfl ?_
            refine own_if X25 d0_281 (pc' := 296) (by decide) (fun c281 => ?_) (fun (c281 : ¬ ((0 : Int) = 0)) => by exfalso; omega)
            have c281 : (0 : Int) = 0 := c281
            refine own_blk X25 B0_296_302 B0_296_302d (ls' := #[.val (.int z0), .val (.int z1), .val (.int z2), .val (.int z3), .val (.int z4), .val (.int z5), .val (.int kk), .val (.int (3 : Int32)), .val (.int q), .val (.int ld), .val (.ref b), .val (.int u1), .val (.int u2), .val (.int u3), .val (.int (128 : Int32)), .val (.int (159 : Int32)), .val (.int (0 : Int32)), .unset]) (st' := [(.int (3 : Int32)), (.int (3 : Int32))]) rfl ?_
            refine own_icmp X25 d0_302 (pc' := 325) (by decide) (fun c302 => ?_) (fun (c302 : ¬ ((3 : Int) ≤ 3)) => by exfalso; omega)
            have c302 : (3 : Int) ≤ 3 := c302
            refine own_blk X25 B0_325_330 B0_325_330d (ls' := #[.val (.int z0), .val (.int z1), .val (.int z2), .val (.int z3), .val (.int z4), .val (.int z5), .val (.int kk), .val (.int (3 : Int32)), .val (.int q), .val (.int ld), .val (.ref b), .val (.int u1), .val (.int u2), .val (.int u3), .val (.int (128 : Int32)), .val (.int (159 : Int32)), .val (.int (0 : Int32)), .val (.int (-1 : Int32))]) (st' := [(.int (0 : Int32))]) rfl ?_
            refine own_if X25 d0_330 (pc' := 437) (by decide) (fun c330 => ?_) (fun (c330 : ¬ ((0 : Int) = 0)) => by exfalso; omega)
            have c330 : (0 : Int) = 0 := c330
            refine own_blk X25 B0_437_443 B0_437_443d (ls' := #[.val (.int z0), .val (.int z1), .val (.int z2), .val (.int z3), .val (.int z4), .val (.int z5), .val (.int kk), .val (.int (3 : Int32)), .val (.int q), .val (.int ld), .val (.ref b), .val (.int u1), .val (.int u2), .val (.int u3), .val (.int (128 : Int32)), .val (.int (159 : Int32)), .val (.int (0 : Int32)), .val (.int (-1 : Int32))]) (st' := [(.int (3 : Int32)), (.int q), (.ref b)]) rfl ?_
            refine own_callS X25 (hw _ (List.mem_of_getElem? (i := 2) rfl)) (hw _ (List.mem_of_getElem? (i := 3) rfl)) (hw _ (List.mem_of_getElem? (i := 4) rfl)) (hw _ (List.mem_of_getElem? (i := 5) rfl)) (by decide) (c_cp3 l Z a0 hw b q g25 h25 n0 X25.2.1 A25 hq) d0_443 [(.ref b), (.int q), (.int (3 : Int32))] [] rfl rfl pd1 rfl rfl (by decide) (Nat.le_of_ble_eq_true rfl) (by decide) (by decide) (fun _ _ q => by obtain ⟨_, _, q2, _⟩ := q; rw [q2]; exact X25.2.1) (fun v32 h32 T32 X32 q32 => ?_)
            obtain ⟨z32, rfl, e32, hz32⟩ := q32
            rw [e32] at X32
            show own_G p e below (T32.setTop (mkF m 446 #[.val (.int z0), .val (.int z1), .val (.int z2), .val (.int z3), .val (.int z4), .val (.int z5), .val (.int kk), .val (.int (3 : Int32)), .val (.int q), .val (.int ld), .val (.ref b), .val (.int u1), .val (.int u2), .val (.int u3), .val (.int (128 : Int32)), .val (.int (159 : Int32)), .val (.int (0 : Int32)), .val (.int (-1 : Int32))] [(.int z32)])) _
            rw [r0, r1, r2] at hz32
            refine own_blk X32 B0_446_448 B0_446_448d (ls' := #[.val (.int z0), .val (.int z1), .val (.int z2), .val (.int z3), .val (.int z4), .val (.int z5), .val (.int kk), .val (.int (3 : Int32)), .val (.int q), .val (.int ld), .val (.ref b), .val (.int u1), .val (.int u2), .val (.int u3), .val (.int (128 : Int32)), .val (.int (159 : Int32)), .val (.int (0 : Int32)), .val (.int (-1 : Int32))]) (st' := [(.int (-1 : Int32)), (.int z32)]) rfl ?_
            refine own_icmp X32 d0_448 (pc' := 455) (by decide) (fun (c448 : ¬ z32.toInt = -1) => by exfalso; omega) (fun c448 => ?_)
            have c448 : ¬ (¬ z32.toInt = -1) := c448
            refine own_blk X32 B0_451_452 B0_451_452d (ls' := #[.val (.int z0), .val (.int z1), .val (.int z2), .val (.int z3), .val (.int z4), .val (.int z5), .val (.int kk), .val (.int (3 : Int32)), .val (.int q), .val (.int ld), .val (.ref b), .val (.int u1), .val (.int u2), .val (.int u3), .val (.int (128 : Int32)), .val (.int (159 : Int32)), .val (.int (0 : Int32)), .val (.int (-1 : Int32))]) (st' := [(.int (1 : Int32))]) rfl ?_
            refine own_goto X32 d0_452 (pc' := 456) (by decide) ?_
            exact own_retN X32 (by simp) d0_456 (v' := (1 : Int32)) (rfl) (by decide) (by decide) (rfl)
          · have c263 : ¬ (159 < u1.toInt) := c263
            refine own_blk X25 B0_266_267 B0_266_267d (ls' := #[.val (.int z0), .val (.int z1), .val (.int z2), .val (.int z3), .val (.int z4), .val (.int z5), .val (.int kk), .val (.int (3 : Int32)), .val (.int q), .val (.int ld), .val (.ref b), .val (.int u1), .val (.int u2), .val (.int u3), .val (.int (128 : Int32)), .val (.int (159 : Int32)), .unset, .unset]) (st' := [(.int (1 : Int32))]) rfl ?_
            refine own_goto X25 d0_267 (pc' := 271) (by decide) ?_
            refine own_blk X25 B0_271_276 B0_271_276d (ls' := #[.val (.int z0), .val (.int z1), .val (.int z2), .val (.int z3), .val (.int z4), .val (.int z5), .val (.int kk), .val (.int (3 : Int32)), .val (.int q), .val (.int ld), .val (.ref b), .val (.int u1), .val (.int u2), .val (.int u3), .val (.int (128 : Int32)), .val (.int (159 : Int32)), .val (.int (1 : Int32)), .unset]) (st' := [(.int (2 : Int32)), (.int (3 : Int32))]) rfl ?_
            refine own_icmp X25 d0_276 (pc' := 299) (by decide) (fun (c276 : (3 : Int) ≤ 2) => by exfalso; omega) (fun c276 => ?_)
            have c276 : ¬ ((3 : Int) ≤ 2) := c276
            refine own_blk X25 B0_279_281 B0_279_281d (ls' := #[.val (.int z0), .val (.int z1), .val (.int z2), .val (.int z3), .val (.int z4), .val (.int z5), .val (.int kk), .val (.int (3 : Int32)), .val (.int q), .val (.int ld), .val (.ref b), .val (.int u1), .val (.int u2), .val (.int u3), .val (.int (128 : Int32)), .val (.int (159 : Int32)), .val (.int (1 : Int32)), .unset]) (st' := [(.int (1 : Int32))]) rfl ?_
            refine own_if X25 d0_281 (pc' := 296) (by decide) (fun (c281 : (1 : Int) = 0) => by exfalso; omega) (fun c281 => ?_)
            have c281 : ¬ ((1 : Int) = 0) := c281
            refine own_blk X25 B0_284_286 B0_284_286d (ls' := #[.val (.int z0), .val (.int z1), .val (.int z2), .val (.int z3), .val (.int z4), .val (.int z5), .val (.int kk), .val (.int (3 : Int32)), .val (.int q), .val (.int ld), .val (.ref b), .val (.int u1), .val (.int u2), .val (.int u3), .val (.int (128 : Int32)), .val (.int (159 : Int32)), .val (.int (1 : Int32)), .unset]) (st' := [(.int u2)]) rfl ?_
            refine own_callP X25 (hw _ (List.mem_of_getElem? (i := 9) rfl)) (hw _ (List.mem_of_getElem? (i := 10) rfl)) (hw _ (List.mem_of_getElem? (i := 11) rfl)) (hw _ (List.mem_of_getElem? (i := 12) rfl)) (by decide) (c_ic l Z a0 hw u2 h25 n0 X25.2.1) d0_286 [(.int u2)] [] rfl rfl pd2 rfl rfl (by decide) (Nat.le_of_ble_eq_true rfl) (by decide) (by decide) (fun T33 X33 => ?_)
            show own_G p e below (T33.setTop (mkF m 289 #[.val (.int z0), .val (.int z1), .val (.int z2), .val (.int z3), .val (.int z4), .val (.int z5), .val (.int kk), .val (.int (3 : Int32)), .val (.int q), .val (.int ld), .val (.ref b), .val (.int u1), .val (.int u2), .val (.int u3), .val (.int (128 : Int32)), .val (.int (159 : Int32)), .val (.int (1 : Int32)), .unset] [(.int (own_ic u2))])) _
            by_cases hi_u2 : 128 ≤ u2.toInt ∧ u2.toInt ≤ 191
            · rw [own_ic, if_pos hi_u2]
              refine own_if X33 d0_289 (pc' := 296) (by decide) (fun (c289 : (1 : Int) = 0) => by exfalso; omega) (fun c289 => ?_)
              have c289 : ¬ ((1 : Int) = 0) := c289
              refine own_blk X33 B0_292_293 B0_292_293d (ls' := #[.val (.int z0), .val (.int z1), .val (.int z2), .val (.int z3), .val (.int z4), .val (.int z5), .val (.int kk), .val (.int (3 : Int32)), .val (.int q), .val (.int ld), .val (.ref b), .val (.int u1), .val (.int u2), .val (.int u3), .val (.int (128 : Int32)), .val (.int (159 : Int32)), .val (.int (1 : Int32)), .unset]) (st' := [(.int (1 : Int32))]) rfl ?_
              refine own_goto X33 d0_293 (pc' := 297) (by decide) ?_
              refine own_blk X33 B0_297_302 B0_297_302d (ls' := #[.val (.int z0), .val (.int z1), .val (.int z2), .val (.int z3), .val (.int z4), .val (.int z5), .val (.int kk), .val (.int (3 : Int32)), .val (.int q), .val (.int ld), .val (.ref b), .val (.int u1), .val (.int u2), .val (.int u3), .val (.int (128 : Int32)), .val (.int (159 : Int32)), .val (.int (1 : Int32)), .unset]) (st' := [(.int (3 : Int32)), (.int (3 : Int32))]) rfl ?_
              refine own_icmp X33 d0_302 (pc' := 325) (by decide) (fun c302 => ?_) (fun (c302 : ¬ ((3 : Int) ≤ 3)) => by exfalso; omega)
              have c302 : (3 : Int) ≤ 3 := c302
              refine own_blk X33 B0_325_330 B0_325_330d (ls' := #[.val (.int z0), .val (.int z1), .val (.int z2), .val (.int z3), .val (.int z4), .val (.int z5), .val (.int kk), .val (.int (3 : Int32)), .val (.int q), .val (.int ld), .val (.ref b), .val (.int u1), .val (.int u2), .val (.int u3), .val (.int (128 : Int32)), .val (.int (159 : Int32)), .val (.int (1 : Int32)), .val (.int (-1 : Int32))]) (st' := [(.int (1 : Int32))]) rfl ?_
              refine own_if X33 d0_330 (pc' := 437) (by decide) (fun (c330 : (1 : Int) = 0) => by exfalso; omega) (fun c330 => ?_)
              have c330 : ¬ ((1 : Int) = 0) := c330
              refine own_blk X33 B0_333_336 B0_333_336d (ls' := #[.val (.int z0), .val (.int z1), .val (.int z2), .val (.int z3), .val (.int z4), .val (.int z5), .val (.int kk), .val (.int (3 : Int32)), .val (.int q), .val (.int ld), .val (.ref b), .val (.int u1), .val (.int u2), .val (.int u3), .val (.int (128 : Int32)), .val (.int (159 : Int32)), .val (.int (1 : Int32)), .val (.int (-1 : Int32))]) (st' := [(.int (2 : Int32)), (.int (3 : Int32))]) rfl ?_
              refine own_icmp X33 d0_336 (pc' := 360) (by decide) (fun c336 => ?_) (fun (c336 : ¬ (¬ (3 : Int) = 2)) => by exfalso; omega)
              have c336 : ¬ (3 : Int) = 2 := c336
              refine own_blk X33 B0_360_363 B0_360_363d (ls' := #[.val (.int z0), .val (.int z1), .val (.int z2), .val (.int z3), .val (.int z4), .val (.int z5), .val (.int kk), .val (.int (3 : Int32)), .val (.int q), .val (.int ld), .val (.ref b), .val (.int u1), .val (.int u2), .val (.int u3), .val (.int (128 : Int32)), .val (.int (159 : Int32)), .val (.int (1 : Int32)), .val (.int (-1 : Int32))]) (st' := [(.int (3 : Int32)), (.int (3 : Int32))]) rfl ?_
              refine own_icmp X33 d0_363 (pc' := 398) (by decide) (fun (c363 : ¬ (3 : Int) = 3) => by exfalso; omega) (fun c363 => ?_)
              have c363 : ¬ (¬ (3 : Int) = 3) := c363
              refine own_blk X33 B0_366_395 B0_366_395d (ls' := #[.val (.int z0), .val (.int z1), .val (.int z2), .val (.int z3), .val (.int z4), .val (.int z5), .val (.int kk), .val (.int (3 : Int32)), .val (.int q), .val (.int ld), .val (.ref b), .val (.int u1), .val (.int u2), .val (.int u3), .val (.int (128 : Int32)), .val (.int (159 : Int32)), .val (.int (1 : Int32)), .val (.int ((((ld - (224 : Int32)) * (4096 : Int32)) + ((u1 - (128 : Int32)) * (64 : Int32))) + (u2 - (128 : Int32))))]) (st' := []) rfl ?_
              refine own_goto X33 d0_395 (pc' := 437) (by decide) ?_
              generalize eex : ((((ld - (224 : Int32)) * (4096 : Int32)) + ((u1 - (128 : Int32)) * (64 : Int32))) + (u2 - (128 : Int32))) = ex
              have hex := own_e3 (ld := ld) (u1 := u1) (u2 := u2) (by omega) (by omega) (by omega)
              rw [eex] at hex
              refine own_blk X33 B0_437_443 B0_437_443d (ls' := #[.val (.int z0), .val (.int z1), .val (.int z2), .val (.int z3), .val (.int z4), .val (.int z5), .val (.int kk), .val (.int (3 : Int32)), .val (.int q), .val (.int ld), .val (.ref b), .val (.int u1), .val (.int u2), .val (.int u3), .val (.int (128 : Int32)), .val (.int (159 : Int32)), .val (.int (1 : Int32)), .val (.int ex)]) (st' := [(.int (3 : Int32)), (.int q), (.ref b)]) rfl ?_
              refine own_callS X33 (hw _ (List.mem_of_getElem? (i := 2) rfl)) (hw _ (List.mem_of_getElem? (i := 3) rfl)) (hw _ (List.mem_of_getElem? (i := 4) rfl)) (hw _ (List.mem_of_getElem? (i := 5) rfl)) (by decide) (c_cp3 l Z a0 hw b q g25 h25 n0 X33.2.1 A25 hq) d0_443 [(.ref b), (.int q), (.int (3 : Int32))] [] rfl rfl pd1 rfl rfl (by decide) (Nat.le_of_ble_eq_true rfl) (by decide) (by decide) (fun _ _ q => by obtain ⟨_, _, q2, _⟩ := q; rw [q2]; exact X33.2.1) (fun v34 h34 T34 X34 q34 => ?_)
              obtain ⟨z34, rfl, e34, hz34⟩ := q34
              rw [e34] at X34
              show own_G p e below (T34.setTop (mkF m 446 #[.val (.int z0), .val (.int z1), .val (.int z2), .val (.int z3), .val (.int z4), .val (.int z5), .val (.int kk), .val (.int (3 : Int32)), .val (.int q), .val (.int ld), .val (.ref b), .val (.int u1), .val (.int u2), .val (.int u3), .val (.int (128 : Int32)), .val (.int (159 : Int32)), .val (.int (1 : Int32)), .val (.int ex)] [(.int z34)])) _
              rw [r0, r1, r2] at hz34
              refine own_blk X34 B0_446_448 B0_446_448d (ls' := #[.val (.int z0), .val (.int z1), .val (.int z2), .val (.int z3), .val (.int z4), .val (.int z5), .val (.int kk), .val (.int (3 : Int32)), .val (.int q), .val (.int ld), .val (.ref b), .val (.int u1), .val (.int u2), .val (.int u3), .val (.int (128 : Int32)), .val (.int (159 : Int32)), .val (.int (1 : Int32)), .val (.int ex)]) (st' := [(.int ex), (.int z34)]) rfl ?_
              refine own_icmp X34 d0_448 (pc' := 455) (by decide) (fun (c448 : ¬ z34.toInt = ex.toInt) => by exfalso; omega) (fun c448 => ?_)
              have c448 : ¬ (¬ z34.toInt = ex.toInt) := c448
              refine own_blk X34 B0_451_452 B0_451_452d (ls' := #[.val (.int z0), .val (.int z1), .val (.int z2), .val (.int z3), .val (.int z4), .val (.int z5), .val (.int kk), .val (.int (3 : Int32)), .val (.int q), .val (.int ld), .val (.ref b), .val (.int u1), .val (.int u2), .val (.int u3), .val (.int (128 : Int32)), .val (.int (159 : Int32)), .val (.int (1 : Int32)), .val (.int ex)]) (st' := [(.int (1 : Int32))]) rfl ?_
              refine own_goto X34 d0_452 (pc' := 456) (by decide) ?_
              exact own_retN X34 (by simp) d0_456 (v' := (1 : Int32)) (rfl) (by decide) (by decide) (rfl)
            · rw [own_ic, if_neg hi_u2]
              refine own_if X33 d0_289 (pc' := 296) (by decide) (fun c289 => ?_) (fun (c289 : ¬ ((0 : Int) = 0)) => by exfalso; omega)
              have c289 : (0 : Int) = 0 := c289
              refine own_blk X33 B0_296_302 B0_296_302d (ls' := #[.val (.int z0), .val (.int z1), .val (.int z2), .val (.int z3), .val (.int z4), .val (.int z5), .val (.int kk), .val (.int (3 : Int32)), .val (.int q), .val (.int ld), .val (.ref b), .val (.int u1), .val (.int u2), .val (.int u3), .val (.int (128 : Int32)), .val (.int (159 : Int32)), .val (.int (0 : Int32)), .unset]) (st' := [(.int (3 : Int32)), (.int (3 : Int32))]) rfl ?_
              refine own_icmp X33 d0_302 (pc' := 325) (by decide) (fun c302 => ?_) (fun (c302 : ¬ ((3 : Int) ≤ 3)) => by exfalso; omega)
              have c302 : (3 : Int) ≤ 3 := c302
              refine own_blk X33 B0_325_330 B0_325_330d (ls' := #[.val (.int z0), .val (.int z1), .val (.int z2), .val (.int z3), .val (.int z4), .val (.int z5), .val (.int kk), .val (.int (3 : Int32)), .val (.int q), .val (.int ld), .val (.ref b), .val (.int u1), .val (.int u2), .val (.int u3), .val (.int (128 : Int32)), .val (.int (159 : Int32)), .val (.int (0 : Int32)), .val (.int (-1 : Int32))]) (st' := [(.int (0 : Int32))]) rfl ?_
              refine own_if X33 d0_330 (pc' := 437) (by decide) (fun c330 => ?_) (fun (c330 : ¬ ((0 : Int) = 0)) => by exfalso; omega)
              have c330 : (0 : Int) = 0 := c330
              refine own_blk X33 B0_437_443 B0_437_443d (ls' := #[.val (.int z0), .val (.int z1), .val (.int z2), .val (.int z3), .val (.int z4), .val (.int z5), .val (.int kk), .val (.int (3 : Int32)), .val (.int q), .val (.int ld), .val (.ref b), .val (.int u1), .val (.int u2), .val (.int u3), .val (.int (128 : Int32)), .val (.int (159 : Int32)), .val (.int (0 : Int32)), .val (.int (-1 : Int32))]) (st' := [(.int (3 : Int32)), (.int q), (.ref b)]) rfl ?_
              refine own_callS X33 (hw _ (List.mem_of_getElem? (i := 2) rfl)) (hw _ (List.mem_of_getElem? (i := 3) rfl)) (hw _ (List.mem_of_getElem? (i := 4) rfl)) (hw _ (List.mem_of_getElem? (i := 5) rfl)) (by decide) (c_cp3 l Z a0 hw b q g25 h25 n0 X33.2.1 A25 hq) d0_443 [(.ref b), (.int q), (.int (3 : Int32))] [] rfl rfl pd1 rfl rfl (by decide) (Nat.le_of_ble_eq_true rfl) (by decide) (by decide) (fun _ _ q => by obtain ⟨_, _, q2, _⟩ := q; rw [q2]; exact X33.2.1) (fun v35 h35 T35 X35 q35 => ?_)
              obtain ⟨z35, rfl, e35, hz35⟩ := q35
              rw [e35] at X35
              show own_G p e below (T35.setTop (mkF m 446 #[.val (.int z0), .val (.int z1), .val (.int z2), .val (.int z3), .val (.int z4), .val (.int z5), .val (.int kk), .val (.int (3 : Int32)), .val (.int q), .val (.int ld), .val (.ref b), .val (.int u1), .val (.int u2), .val (.int u3), .val (.int (128 : Int32)), .val (.int (159 : Int32)), .val (.int (0 : Int32)), .val (.int (-1 : Int32))] [(.int z35)])) _
              rw [r0, r1, r2] at hz35
              refine own_blk X35 B0_446_448 B0_446_448d (ls' := #[.val (.int z0), .val (.int z1), .val (.int z2), .val (.int z3), .val (.int z4), .val (.int z5), .val (.int kk), .val (.int (3 : Int32)), .val (.int q), .val (.int ld), .val (.ref b), .val (.int u1), .val (.int u2), .val (.int u3), .val (.int (128 : Int32)), .val (.int (159 : Int32)), .val (.int (0 : Int32)), .val (.int (-1 : Int32))]) (st' := [(.int (-1 : Int32)), (.int z35)]) rfl ?_
              refine own_icmp X35 d0_448 (pc' := 455) (by decide) (fun (c448 : ¬ z35.toInt = -1) => by exfalso; omega) (fun c448 => ?_)
              have c448 : ¬ (¬ z35.toInt = -1) := c448
              refine own_blk X35 B0_451_452 B0_451_452d (ls' := #[.val (.int z0), .val (.int z1), .val (.int z2), .val (.int z3), .val (.int z4), .val (.int z5), .val (.int kk), .val (.int (3 : Int32)), .val (.int q), .val (.int ld), .val (.ref b), .val (.int u1), .val (.int u2), .val (.int u3), .val (.int (128 : Int32)), .val (.int (159 : Int32)), .val (.int (0 : Int32)), .val (.int (-1 : Int32))]) (st' := [(.int (1 : Int32))]) rfl ?_
              refine own_goto X35 d0_452 (pc' := 456) (by decide) ?_
              exact own_retN X35 (by simp) d0_456 (v' := (1 : Int32)) (rfl) (by decide) (by decide) (rfl)
    · have c196 : ¬ (¬ ld.toInt = 224) := c196
      refine own_blk X25 B0_199_204 B0_199_204d (ls' := #[.val (.int z0), .val (.int z1), .val (.int z2), .val (.int z3), .val (.int z4), .val (.int z5), .val (.int kk), .val (.int (3 : Int32)), .val (.int q), .val (.int ld), .val (.ref b), .val (.int u1), .val (.int u2), .val (.int u3), .val (.int (160 : Int32)), .val (.int (191 : Int32)), .unset, .unset]) (st' := []) rfl ?_
      refine own_goto X25 d0_204 (pc' := 252) (by decide) ?_
      refine own_blk X25 B0_252_256 B0_252_256d (ls' := #[.val (.int z0), .val (.int z1), .val (.int z2), .val (.int z3), .val (.int z4), .val (.int z5), .val (.int kk), .val (.int (3 : Int32)), .val (.int q), .val (.int ld), .val (.ref b), .val (.int u1), .val (.int u2), .val (.int u3), .val (.int (160 : Int32)), .val (.int (191 : Int32)), .unset, .unset]) (st' := [(.int (160 : Int32)), (.int u1)]) rfl ?_
      refine own_icmp X25 d0_256 (pc' := 270) (by decide) (fun c256 => ?_) (fun c256 => ?_)
      · have c256 : u1.toInt < 160 := c256
        refine own_blk X25 B0_270_276 B0_270_276d (ls' := #[.val (.int z0), .val (.int z1), .val (.int z2), .val (.int z3), .val (.int z4), .val (.int z5), .val (.int kk), .val (.int (3 : Int32)), .val (.int q), .val (.int ld), .val (.ref b), .val (.int u1), .val (.int u2), .val (.int u3), .val (.int (160 : Int32)), .val (.int (191 : Int32)), .val (.int (0 : Int32)), .unset]) (st' := [(.int (2 : Int32)), (.int (3 : Int32))]) rfl ?_
        refine own_icmp X25 d0_276 (pc' := 299) (by decide) (fun (c276 : (3 : Int) ≤ 2) => by exfalso; omega) (fun c276 => ?_)
        have c276 : ¬ ((3 : Int) ≤ 2) := c276
        refine own_blk X25 B0_279_281 B0_279_281d (ls' := #[.val (.int z0), .val (.int z1), .val (.int z2), .val (.int z3), .val (.int z4), .val (.int z5), .val (.int kk), .val (.int (3 : Int32)), .val (.int q), .val (.int ld), .val (.ref b), .val (.int u1), .val (.int u2), .val (.int u3), .val (.int (160 : Int32)), .val (.int (191 : Int32)), .val (.int (0 : Int32)), .unset]) (st' := [(.int (0 : Int32))]) rfl ?_
        refine own_if X25 d0_281 (pc' := 296) (by decide) (fun c281 => ?_) (fun (c281 : ¬ ((0 : Int) = 0)) => by exfalso; omega)
        have c281 : (0 : Int) = 0 := c281
        refine own_blk X25 B0_296_302 B0_296_302d (ls' := #[.val (.int z0), .val (.int z1), .val (.int z2), .val (.int z3), .val (.int z4), .val (.int z5), .val (.int kk), .val (.int (3 : Int32)), .val (.int q), .val (.int ld), .val (.ref b), .val (.int u1), .val (.int u2), .val (.int u3), .val (.int (160 : Int32)), .val (.int (191 : Int32)), .val (.int (0 : Int32)), .unset]) (st' := [(.int (3 : Int32)), (.int (3 : Int32))]) rfl ?_
        refine own_icmp X25 d0_302 (pc' := 325) (by decide) (fun c302 => ?_) (fun (c302 : ¬ ((3 : Int) ≤ 3)) => by exfalso; omega)
        have c302 : (3 : Int) ≤ 3 := c302
        refine own_blk X25 B0_325_330 B0_325_330d (ls' := #[.val (.int z0), .val (.int z1), .val (.int z2), .val (.int z3), .val (.int z4), .val (.int z5), .val (.int kk), .val (.int (3 : Int32)), .val (.int q), .val (.int ld), .val (.ref b), .val (.int u1), .val (.int u2), .val (.int u3), .val (.int (160 : Int32)), .val (.int (191 : Int32)), .val (.int (0 : Int32)), .val (.int (-1 : Int32))]) (st' := [(.int (0 : Int32))]) rfl ?_
        refine own_if X25 d0_330 (pc' := 437) (by decide) (fun c330 => ?_) (fun (c330 : ¬ ((0 : Int) = 0)) => by exfalso; omega)
        have c330 : (0 : Int) = 0 := c330
        refine own_blk X25 B0_437_443 B0_437_443d (ls' := #[.val (.int z0), .val (.int z1), .val (.int z2), .val (.int z3), .val (.int z4), .val (.int z5), .val (.int kk), .val (.int (3 : Int32)), .val (.int q), .val (.int ld), .val (.ref b), .val (.int u1), .val (.int u2), .val (.int u3), .val (.int (160 : Int32)), .val (.int (191 : Int32)), .val (.int (0 : Int32)), .val (.int (-1 : Int32))]) (st' := [(.int (3 : Int32)), (.int q), (.ref b)]) rfl ?_
        refine own_callS X25 (hw _ (List.mem_of_getElem? (i := 2) rfl)) (hw _ (List.mem_of_getElem? (i := 3) rfl)) (hw _ (List.mem_of_getElem? (i := 4) rfl)) (hw _ (List.mem_of_getElem? (i := 5) rfl)) (by decide) (c_cp3 l Z a0 hw b q g25 h25 n0 X25.2.1 A25 hq) d0_443 [(.ref b), (.int q), (.int (3 : Int32))] [] rfl rfl pd1 rfl rfl (by decide) (Nat.le_of_ble_eq_true rfl) (by decide) (by decide) (fun _ _ q => by obtain ⟨_, _, q2, _⟩ := q; rw [q2]; exact X25.2.1) (fun v36 h36 T36 X36 q36 => ?_)
        obtain ⟨z36, rfl, e36, hz36⟩ := q36
        rw [e36] at X36
        show own_G p e below (T36.setTop (mkF m 446 #[.val (.int z0), .val (.int z1), .val (.int z2), .val (.int z3), .val (.int z4), .val (.int z5), .val (.int kk), .val (.int (3 : Int32)), .val (.int q), .val (.int ld), .val (.ref b), .val (.int u1), .val (.int u2), .val (.int u3), .val (.int (160 : Int32)), .val (.int (191 : Int32)), .val (.int (0 : Int32)), .val (.int (-1 : Int32))] [(.int z36)])) _
        rw [r0, r1, r2] at hz36
        refine own_blk X36 B0_446_448 B0_446_448d (ls' := #[.val (.int z0), .val (.int z1), .val (.int z2), .val (.int z3), .val (.int z4), .val (.int z5), .val (.int kk), .val (.int (3 : Int32)), .val (.int q), .val (.int ld), .val (.ref b), .val (.int u1), .val (.int u2), .val (.int u3), .val (.int (160 : Int32)), .val (.int (191 : Int32)), .val (.int (0 : Int32)), .val (.int (-1 : Int32))]) (st' := [(.int (-1 : Int32)), (.int z36)]) rfl ?_
        refine own_icmp X36 d0_448 (pc' := 455) (by decide) (fun (c448 : ¬ z36.toInt = -1) => by exfalso; omega) (fun c448 => ?_)
        have c448 : ¬ (¬ z36.toInt = -1) := c448
        refine own_blk X36 B0_451_452 B0_451_452d (ls' := #[.val (.int z0), .val (.int z1), .val (.int z2), .val (.int z3), .val (.int z4), .val (.int z5), .val (.int kk), .val (.int (3 : Int32)), .val (.int q), .val (.int ld), .val (.ref b), .val (.int u1), .val (.int u2), .val (.int u3), .val (.int (160 : Int32)), .val (.int (191 : Int32)), .val (.int (0 : Int32)), .val (.int (-1 : Int32))]) (st' := [(.int (1 : Int32))]) rfl ?_
        refine own_goto X36 d0_452 (pc' := 456) (by decide) ?_
        exact own_retN X36 (by simp) d0_456 (v' := (1 : Int32)) (rfl) (by decide) (by decide) (rfl)
      · have c256 : ¬ (u1.toInt < 160) := c256
        refine own_blk X25 B0_259_263 B0_259_263d (ls' := #[.val (.int z0), .val (.int z1), .val (.int z2), .val (.int z3), .val (.int z4), .val (.int z5), .val (.int kk), .val (.int (3 : Int32)), .val (.int q), .val (.int ld), .val (.ref b), .val (.int u1), .val (.int u2), .val (.int u3), .val (.int (160 : Int32)), .val (.int (191 : Int32)), .unset, .unset]) (st' := [(.int (191 : Int32)), (.int u1)]) rfl ?_
        refine own_icmp X25 d0_263 (pc' := 270) (by decide) (fun c263 => ?_) (fun c263 => ?_)
        · have c263 : 191 < u1.toInt := c263
          refine own_blk X25 B0_270_276 B0_270_276d (ls' := #[.val (.int z0), .val (.int z1), .val (.int z2), .val (.int z3), .val (.int z4), .val (.int z5), .val (.int kk), .val (.int (3 : Int32)), .val (.int q), .val (.int ld), .val (.ref b), .val (.int u1), .val (.int u2), .val (.int u3), .val (.int (160 : Int32)), .val (.int (191 : Int32)), .val (.int (0 : Int32)), .unset]) (st' := [(.int (2 : Int32)), (.int (3 : Int32))]) rfl ?_
          refine own_icmp X25 d0_276 (pc' := 299) (by decide) (fun (c276 : (3 : Int) ≤ 2) => by exfalso; omega) (fun c276 => ?_)
          have c276 : ¬ ((3 : Int) ≤ 2) := c276
          refine own_blk X25 B0_279_281 B0_279_281d (ls' := #[.val (.int z0), .val (.int z1), .val (.int z2), .val (.int z3), .val (.int z4), .val (.int z5), .val (.int kk), .val (.int (3 : Int32)), .val (.int q), .val (.int ld), .val (.ref b), .val (.int u1), .val (.int u2), .val (.int u3), .val (.int (160 : Int32)), .val (.int (191 : Int32)), .val (.int (0 : Int32)), .unset]) (st' := [(.int (0 : Int32))]) rfl ?_
          refine own_if X25 d0_281 (pc' := 296) (by decide) (fun c281 => ?_) (fun (c281 : ¬ ((0 : Int) = 0)) => by exfalso; omega)
          have c281 : (0 : Int) = 0 := c281
          refine own_blk X25 B0_296_302 B0_296_302d (ls' := #[.val (.int z0), .val (.int z1), .val (.int z2), .val (.int z3), .val (.int z4), .val (.int z5), .val (.int kk), .val (.int (3 : Int32)), .val (.int q), .val (.int ld), .val (.ref b), .val (.int u1), .val (.int u2), .val (.int u3), .val (.int (160 : Int32)), .val (.int (191 : Int32)), .val (.int (0 : Int32)), .unset]) (st' := [(.int (3 : Int32)), (.int (3 : Int32))]) rfl ?_
          refine own_icmp X25 d0_302 (pc' := 325) (by decide) (fun c302 => ?_) (fun (c302 : ¬ ((3 : Int) ≤ 3)) => by exfalso; omega)
          have c302 : (3 : Int) ≤ 3 := c302
          refine own_blk X25 B0_325_330 B0_325_330d (ls' := #[.val (.int z0), .val (.int z1), .val (.int z2), .val (.int z3), .val (.int z4), .val (.int z5), .val (.int kk), .val (.int (3 : Int32)), .val (.int q), .val (.int ld), .val (.ref b), .val (.int u1), .val (.int u2), .val (.int u3), .val (.int (160 : Int32)), .val (.int (191 : Int32)), .val (.int (0 : Int32)), .val (.int (-1 : Int32))]) (st' := [(.int (0 : Int32))]) rfl ?_
          refine own_if X25 d0_330 (pc' := 437) (by decide) (fun c330 => ?_) (fun (c330 : ¬ ((0 : Int) = 0)) => by exfalso; omega)
          have c330 : (0 : Int) = 0 := c330
          refine own_blk X25 B0_437_443 B0_437_443d (ls' := #[.val (.int z0), .val (.int z1), .val (.int z2), .val (.int z3), .val (.int z4), .val (.int z5), .val (.int kk), .val (.int (3 : Int32)), .val (.int q), .val (.int ld), .val (.ref b), .val (.int u1), .val (.int u2), .val (.int u3), .val (.int (160 : Int32)), .val (.int (191 : Int32)), .val (.int (0 : Int32)), .val (.int (-1 : Int32))]) (st' := [(.int (3 : Int32)), (.int q), (.ref b)]) rfl ?_
          refine own_callS X25 (hw _ (List.mem_of_getElem? (i := 2) rfl)) (hw _ (List.mem_of_getElem? (i := 3) rfl)) (hw _ (List.mem_of_getElem? (i := 4) rfl)) (hw _ (List.mem_of_getElem? (i := 5) rfl)) (by decide) (c_cp3 l Z a0 hw b q g25 h25 n0 X25.2.1 A25 hq) d0_443 [(.ref b), (.int q), (.int (3 : Int32))] [] rfl rfl pd1 rfl rfl (by decide) (Nat.le_of_ble_eq_true rfl) (by decide) (by decide) (fun _ _ q => by obtain ⟨_, _, q2, _⟩ := q; rw [q2]; exact X25.2.1) (fun v37 h37 T37 X37 q37 => ?_)
          obtain ⟨z37, rfl, e37, hz37⟩ := q37
          rw [e37] at X37
          show own_G p e below (T37.setTop (mkF m 446 #[.val (.int z0), .val (.int z1), .val (.int z2), .val (.int z3), .val (.int z4), .val (.int z5), .val (.int kk), .val (.int (3 : Int32)), .val (.int q), .val (.int ld), .val (.ref b), .val (.int u1), .val (.int u2), .val (.int u3), .val (.int (160 : Int32)), .val (.int (191 : Int32)), .val (.int (0 : Int32)), .val (.int (-1 : Int32))] [(.int z37)])) _
          rw [r0, r1, r2] at hz37
          refine own_blk X37 B0_446_448 B0_446_448d (ls' := #[.val (.int z0), .val (.int z1), .val (.int z2), .val (.int z3), .val (.int z4), .val (.int z5), .val (.int kk), .val (.int (3 : Int32)), .val (.int q), .val (.int ld), .val (.ref b), .val (.int u1), .val (.int u2), .val (.int u3), .val (.int (160 : Int32)), .val (.int (191 : Int32)), .val (.int (0 : Int32)), .val (.int (-1 : Int32))]) (st' := [(.int (-1 : Int32)), (.int z37)]) rfl ?_
          refine own_icmp X37 d0_448 (pc' := 455) (by decide) (fun (c448 : ¬ z37.toInt = -1) => by exfalso; omega) (fun c448 => ?_)
          have c448 : ¬ (¬ z37.toInt = -1) := c448
          refine own_blk X37 B0_451_452 B0_451_452d (ls' := #[.val (.int z0), .val (.int z1), .val (.int z2), .val (.int z3), .val (.int z4), .val (.int z5), .val (.int kk), .val (.int (3 : Int32)), .val (.int q), .val (.int ld), .val (.ref b), .val (.int u1), .val (.int u2), .val (.int u3), .val (.int (160 : Int32)), .val (.int (191 : Int32)), .val (.int (0 : Int32)), .val (.int (-1 : Int32))]) (st' := [(.int (1 : Int32))]) rfl ?_
          refine own_goto X37 d0_452 (pc' := 456) (by decide) ?_
          exact own_retN X37 (by simp) d0_456 (v' := (1 : Int32)) (rfl) (by decide) (by decide) (rfl)
        · have c263 : ¬ (191 < u1.toInt) := c263
          refine own_blk X25 B0_266_267 B0_266_267d (ls' := #[.val (.int z0), .val (.int z1), .val (.int z2), .val (.int z3), .val (.int z4), .val (.int z5), .val (.int kk), .val (.int (3 : Int32)), .val (.int q), .val (.int ld), .val (.ref b), .val (.int u1), .val (.int u2), .val (.int u3), .val (.int (160 : Int32)), .val (.int (191 : Int32)), .unset, .unset]) (st' := [(.int (1 : Int32))]) rfl ?_
          refine own_goto X25 d0_267 (pc' := 271) (by decide) ?_
          refine own_blk X25 B0_271_276 B0_271_276d (ls' := #[.val (.int z0), .val (.int z1), .val (.int z2), .val (.int z3), .val (.int z4), .val (.int z5), .val (.int kk), .val (.int (3 : Int32)), .val (.int q), .val (.int ld), .val (.ref b), .val (.int u1), .val (.int u2), .val (.int u3), .val (.int (160 : Int32)), .val (.int (191 : Int32)), .val (.int (1 : Int32)), .unset]) (st' := [(.int (2 : Int32)), (.int (3 : Int32))]) rfl ?_
          refine own_icmp X25 d0_276 (pc' := 299) (by decide) (fun (c276 : (3 : Int) ≤ 2) => by exfalso; omega) (fun c276 => ?_)
          have c276 : ¬ ((3 : Int) ≤ 2) := c276
          refine own_blk X25 B0_279_281 B0_279_281d (ls' := #[.val (.int z0), .val (.int z1), .val (.int z2), .val (.int z3), .val (.int z4), .val (.int z5), .val (.int kk), .val (.int (3 : Int32)), .val (.int q), .val (.int ld), .val (.ref b), .val (.int u1), .val (.int u2), .val (.int u3), .val (.int (160 : Int32)), .val (.int (191 : Int32)), .val (.int (1 : Int32)), .unset]) (st' := [(.int (1 : Int32))]) rfl ?_
          refine own_if X25 d0_281 (pc' := 296) (by decide) (fun (c281 : (1 : Int) = 0) => by exfalso; omega) (fun c281 => ?_)
          have c281 : ¬ ((1 : Int) = 0) := c281
          refine own_blk X25 B0_284_286 B0_284_286d (ls' := #[.val (.int z0), .val (.int z1), .val (.int z2), .val (.int z3), .val (.int z4), .val (.int z5), .val (.int kk), .val (.int (3 : Int32)), .val (.int q), .val (.int ld), .val (.ref b), .val (.int u1), .val (.int u2), .val (.int u3), .val (.int (160 : Int32)), .val (.int (191 : Int32)), .val (.int (1 : Int32)), .unset]) (st' := [(.int u2)]) rfl ?_
          refine own_callP X25 (hw _ (List.mem_of_getElem? (i := 9) rfl)) (hw _ (List.mem_of_getElem? (i := 10) rfl)) (hw _ (List.mem_of_getElem? (i := 11) rfl)) (hw _ (List.mem_of_getElem? (i := 12) rfl)) (by decide) (c_ic l Z a0 hw u2 h25 n0 X25.2.1) d0_286 [(.int u2)] [] rfl rfl pd2 rfl rfl (by decide) (Nat.le_of_ble_eq_true rfl) (by decide) (by decide) (fun T38 X38 => ?_)
          show own_G p e below (T38.setTop (mkF m 289 #[.val (.int z0), .val (.int z1), .val (.int z2), .val (.int z3), .val (.int z4), .val (.int z5), .val (.int kk), .val (.int (3 : Int32)), .val (.int q), .val (.int ld), .val (.ref b), .val (.int u1), .val (.int u2), .val (.int u3), .val (.int (160 : Int32)), .val (.int (191 : Int32)), .val (.int (1 : Int32)), .unset] [(.int (own_ic u2))])) _
          by_cases hi_u2 : 128 ≤ u2.toInt ∧ u2.toInt ≤ 191
          · rw [own_ic, if_pos hi_u2]
            refine own_if X38 d0_289 (pc' := 296) (by decide) (fun (c289 : (1 : Int) = 0) => by exfalso; omega) (fun c289 => ?_)
            have c289 : ¬ ((1 : Int) = 0) := c289
            refine own_blk X38 B0_292_293 B0_292_293d (ls' := #[.val (.int z0), .val (.int z1), .val (.int z2), .val (.int z3), .val (.int z4), .val (.int z5), .val (.int kk), .val (.int (3 : Int32)), .val (.int q), .val (.int ld), .val (.ref b), .val (.int u1), .val (.int u2), .val (.int u3), .val (.int (160 : Int32)), .val (.int (191 : Int32)), .val (.int (1 : Int32)), .unset]) (st' := [(.int (1 : Int32))]) rfl ?_
            refine own_goto X38 d0_293 (pc' := 297) (by decide) ?_
            refine own_blk X38 B0_297_302 B0_297_302d (ls' := #[.val (.int z0), .val (.int z1), .val (.int z2), .val (.int z3), .val (.int z4), .val (.int z5), .val (.int kk), .val (.int (3 : Int32)), .val (.int q), .val (.int ld), .val (.ref b), .val (.int u1), .val (.int u2), .val (.int u3), .val (.int (160 : Int32)), .val (.int (191 : Int32)), .val (.int (1 : Int32)), .unset]) (st' := [(.int (3 : Int32)), (.int (3 : Int32))]) rfl ?_
            refine own_icmp X38 d0_302 (pc' := 325) (by decide) (fun c302 => ?_) (fun (c302 : ¬ ((3 : Int) ≤ 3)) => by exfalso; omega)
            have c302 : (3 : Int) ≤ 3 := c302
            refine own_blk X38 B0_325_330 B0_325_330d (ls' := #[.val (.int z0), .val (.int z1), .val (.int z2), .val (.int z3), .val (.int z4), .val (.int z5), .val (.int kk), .val (.int (3 : Int32)), .val (.int q), .val (.int ld), .val (.ref b), .val (.int u1), .val (.int u2), .val (.int u3), .val (.int (160 : Int32)), .val (.int (191 : Int32)), .val (.int (1 : Int32)), .val (.int (-1 : Int32))]) (st' := [(.int (1 : Int32))]) rfl ?_
            refine own_if X38 d0_330 (pc' := 437) (by decide) (fun (c330 : (1 : Int) = 0) => by exfalso; omega) (fun c330 => ?_)
            have c330 : ¬ ((1 : Int) = 0) := c330
            refine own_blk X38 B0_333_336 B0_333_336d (ls' := #[.val (.int z0), .val (.int z1), .val (.int z2), .val (.int z3), .val (.int z4), .val (.int z5), .val (.int kk), .val (.int (3 : Int32)), .val (.int q), .val (.int ld), .val (.ref b), .val (.int u1), .val (.int u2), .val (.int u3), .val (.int (160 : Int32)), .val (.int (191 : Int32)), .val (.int (1 : Int32)), .val (.int (-1 : Int32))]) (st' := [(.int (2 : Int32)), (.int (3 : Int32))]) rfl ?_
            refine own_icmp X38 d0_336 (pc' := 360) (by decide) (fun c336 => ?_) (fun (c336 : ¬ (¬ (3 : Int) = 2)) => by exfalso; omega)
            have c336 : ¬ (3 : Int) = 2 := c336
            refine own_blk X38 B0_360_363 B0_360_363d (ls' := #[.val (.int z0), .val (.int z1), .val (.int z2), .val (.int z3), .val (.int z4), .val (.int z5), .val (.int kk), .val (.int (3 : Int32)), .val (.int q), .val (.int ld), .val (.ref b), .val (.int u1), .val (.int u2), .val (.int u3), .val (.int (160 : Int32)), .val (.int (191 : Int32)), .val (.int (1 : Int32)), .val (.int (-1 : Int32))]) (st' := [(.int (3 : Int32)), (.int (3 : Int32))]) rfl ?_
            refine own_icmp X38 d0_363 (pc' := 398) (by decide) (fun (c363 : ¬ (3 : Int) = 3) => by exfalso; omega) (fun c363 => ?_)
            have c363 : ¬ (¬ (3 : Int) = 3) := c363
            refine own_blk X38 B0_366_395 B0_366_395d (ls' := #[.val (.int z0), .val (.int z1), .val (.int z2), .val (.int z3), .val (.int z4), .val (.int z5), .val (.int kk), .val (.int (3 : Int32)), .val (.int q), .val (.int ld), .val (.ref b), .val (.int u1), .val (.int u2), .val (.int u3), .val (.int (160 : Int32)), .val (.int (191 : Int32)), .val (.int (1 : Int32)), .val (.int ((((ld - (224 : Int32)) * (4096 : Int32)) + ((u1 - (128 : Int32)) * (64 : Int32))) + (u2 - (128 : Int32))))]) (st' := []) rfl ?_
            refine own_goto X38 d0_395 (pc' := 437) (by decide) ?_
            generalize eex : ((((ld - (224 : Int32)) * (4096 : Int32)) + ((u1 - (128 : Int32)) * (64 : Int32))) + (u2 - (128 : Int32))) = ex
            have hex := own_e3 (ld := ld) (u1 := u1) (u2 := u2) (by omega) (by omega) (by omega)
            rw [eex] at hex
            refine own_blk X38 B0_437_443 B0_437_443d (ls' := #[.val (.int z0), .val (.int z1), .val (.int z2), .val (.int z3), .val (.int z4), .val (.int z5), .val (.int kk), .val (.int (3 : Int32)), .val (.int q), .val (.int ld), .val (.ref b), .val (.int u1), .val (.int u2), .val (.int u3), .val (.int (160 : Int32)), .val (.int (191 : Int32)), .val (.int (1 : Int32)), .val (.int ex)]) (st' := [(.int (3 : Int32)), (.int q), (.ref b)]) rfl ?_
            refine own_callS X38 (hw _ (List.mem_of_getElem? (i := 2) rfl)) (hw _ (List.mem_of_getElem? (i := 3) rfl)) (hw _ (List.mem_of_getElem? (i := 4) rfl)) (hw _ (List.mem_of_getElem? (i := 5) rfl)) (by decide) (c_cp3 l Z a0 hw b q g25 h25 n0 X38.2.1 A25 hq) d0_443 [(.ref b), (.int q), (.int (3 : Int32))] [] rfl rfl pd1 rfl rfl (by decide) (Nat.le_of_ble_eq_true rfl) (by decide) (by decide) (fun _ _ q => by obtain ⟨_, _, q2, _⟩ := q; rw [q2]; exact X38.2.1) (fun v39 h39 T39 X39 q39 => ?_)
            obtain ⟨z39, rfl, e39, hz39⟩ := q39
            rw [e39] at X39
            show own_G p e below (T39.setTop (mkF m 446 #[.val (.int z0), .val (.int z1), .val (.int z2), .val (.int z3), .val (.int z4), .val (.int z5), .val (.int kk), .val (.int (3 : Int32)), .val (.int q), .val (.int ld), .val (.ref b), .val (.int u1), .val (.int u2), .val (.int u3), .val (.int (160 : Int32)), .val (.int (191 : Int32)), .val (.int (1 : Int32)), .val (.int ex)] [(.int z39)])) _
            rw [r0, r1, r2] at hz39
            refine own_blk X39 B0_446_448 B0_446_448d (ls' := #[.val (.int z0), .val (.int z1), .val (.int z2), .val (.int z3), .val (.int z4), .val (.int z5), .val (.int kk), .val (.int (3 : Int32)), .val (.int q), .val (.int ld), .val (.ref b), .val (.int u1), .val (.int u2), .val (.int u3), .val (.int (160 : Int32)), .val (.int (191 : Int32)), .val (.int (1 : Int32)), .val (.int ex)]) (st' := [(.int ex), (.int z39)]) rfl ?_
            refine own_icmp X39 d0_448 (pc' := 455) (by decide) (fun (c448 : ¬ z39.toInt = ex.toInt) => by exfalso; omega) (fun c448 => ?_)
            have c448 : ¬ (¬ z39.toInt = ex.toInt) := c448
            refine own_blk X39 B0_451_452 B0_451_452d (ls' := #[.val (.int z0), .val (.int z1), .val (.int z2), .val (.int z3), .val (.int z4), .val (.int z5), .val (.int kk), .val (.int (3 : Int32)), .val (.int q), .val (.int ld), .val (.ref b), .val (.int u1), .val (.int u2), .val (.int u3), .val (.int (160 : Int32)), .val (.int (191 : Int32)), .val (.int (1 : Int32)), .val (.int ex)]) (st' := [(.int (1 : Int32))]) rfl ?_
            refine own_goto X39 d0_452 (pc' := 456) (by decide) ?_
            exact own_retN X39 (by simp) d0_456 (v' := (1 : Int32)) (rfl) (by decide) (by decide) (rfl)
          · rw [own_ic, if_neg hi_u2]
            refine own_if X38 d0_289 (pc' := 296) (by decide) (fun c289 => ?_) (fun (c289 : ¬ ((0 : Int) = 0)) => by exfalso; omega)
            have c289 : (0 : Int) = 0 := c289
            refine own_blk X38 B0_296_302 B0_296_302d (ls' := #[.val (.int z0), .val (.int z1), .val (.int z2), .val (.int z3), .val (.int z4), .val (.int z5), .val (.int kk), .val (.int (3 : Int32)), .val (.int q), .val (.int ld), .val (.ref b), .val (.int u1), .val (.int u2), .val (.int u3), .val (.int (160 : Int32)), .val (.int (191 : Int32)), .val (.int (0 : Int32)), .unset]) (st' := [(.int (3 : Int32)), (.int (3 : Int32))]) rfl ?_
            refine own_icmp X38 d0_302 (pc' := 325) (by decide) (fun c302 => ?_) (fun (c302 : ¬ ((3 : Int) ≤ 3)) => by exfalso; omega)
            have c302 : (3 : Int) ≤ 3 := c302
            refine own_blk X38 B0_325_330 B0_325_330d (ls' := #[.val (.int z0), .val (.int z1), .val (.int z2), .val (.int z3), .val (.int z4), .val (.int z5), .val (.int kk), .val (.int (3 : Int32)), .val (.int q), .val (.int ld), .val (.ref b), .val (.int u1), .val (.int u2), .val (.int u3), .val (.int (160 : Int32)), .val (.int (191 : Int32)), .val (.int (0 : Int32)), .val (.int (-1 : Int32))]) (st' := [(.int (0 : Int32))]) rfl ?_
            refine own_if X38 d0_330 (pc' := 437) (by decide) (fun c330 => ?_) (fun (c330 : ¬ ((0 : Int) = 0)) => by exfalso; omega)
            have c330 : (0 : Int) = 0 := c330
            refine own_blk X38 B0_437_443 B0_437_443d (ls' := #[.val (.int z0), .val (.int z1), .val (.int z2), .val (.int z3), .val (.int z4), .val (.int z5), .val (.int kk), .val (.int (3 : Int32)), .val (.int q), .val (.int ld), .val (.ref b), .val (.int u1), .val (.int u2), .val (.int u3), .val (.int (160 : Int32)), .val (.int (191 : Int32)), .val (.int (0 : Int32)), .val (.int (-1 : Int32))]) (st' := [(.int (3 : Int32)), (.int q), (.ref b)]) rfl ?_
            refine own_callS X38 (hw _ (List.mem_of_getElem? (i := 2) rfl)) (hw _ (List.mem_of_getElem? (i := 3) rfl)) (hw _ (List.mem_of_getElem? (i := 4) rfl)) (hw _ (List.mem_of_getElem? (i := 5) rfl)) (by decide) (c_cp3 l Z a0 hw b q g25 h25 n0 X38.2.1 A25 hq) d0_443 [(.ref b), (.int q), (.int (3 : Int32))] [] rfl rfl pd1 rfl rfl (by decide) (Nat.le_of_ble_eq_true rfl) (by decide) (by decide) (fun _ _ q => by obtain ⟨_, _, q2, _⟩ := q; rw [q2]; exact X38.2.1) (fun v40 h40 T40 X40 q40 => ?_)
            obtain ⟨z40, rfl, e40, hz40⟩ := q40
            rw [e40] at X40
            show own_G p e below (T40.setTop (mkF m 446 #[.val (.int z0), .val (.int z1), .val (.int z2), .val (.int z3), .val (.int z4), .val (.int z5), .val (.int kk), .val (.int (3 : Int32)), .val (.int q), .val (.int ld), .val (.ref b), .val (.int u1), .val (.int u2), .val (.int u3), .val (.int (160 : Int32)), .val (.int (191 : Int32)), .val (.int (0 : Int32)), .val (.int (-1 : Int32))] [(.int z40)])) _
            rw [r0, r1, r2] at hz40
            refine own_blk X40 B0_446_448 B0_446_448d (ls' := #[.val (.int z0), .val (.int z1), .val (.int z2), .val (.int z3), .val (.int z4), .val (.int z5), .val (.int kk), .val (.int (3 : Int32)), .val (.int q), .val (.int ld), .val (.ref b), .val (.int u1), .val (.int u2), .val (.int u3), .val (.int (160 : Int32)), .val (.int (191 : Int32)), .val (.int (0 : Int32)), .val (.int (-1 : Int32))]) (st' := [(.int (-1 : Int32)), (.int z40)]) rfl ?_
            refine own_icmp X40 d0_448 (pc' := 455) (by decide) (fun (c448 : ¬ z40.toInt = -1) => by exfalso; omega) (fun c448 => ?_)
            have c448 : ¬ (¬ z40.toInt = -1) := c448
            refine own_blk X40 B0_451_452 B0_451_452d (ls' := #[.val (.int z0), .val (.int z1), .val (.int z2), .val (.int z3), .val (.int z4), .val (.int z5), .val (.int kk), .val (.int (3 : Int32)), .val (.int q), .val (.int ld), .val (.ref b), .val (.int u1), .val (.int u2), .val (.int u3), .val (.int (160 : Int32)), .val (.int (191 : Int32)), .val (.int (0 : Int32)), .val (.int (-1 : Int32))]) (st' := [(.int (1 : Int32))]) rfl ?_
            refine own_goto X40 d0_452 (pc' := 456) (by decide) ?_
            exact own_retN X40 (by simp) d0_456 (v' := (1 : Int32)) (rfl) (by decide) (by decide) (rfl)
  · skip
    refine own_blk X0 B0_22_25 B0_22_25d (ls' := #[.val (.int z0), .val (.int z1), .val (.int z2), .val (.int z3), .val (.int z4), .val (.int z5), .val (.int kk), .val (.int (4 : Int32)), .val (.int q), .unset, .unset, .unset, .unset, .unset, .unset, .unset, .unset, .unset]) (st' := [(.int (2 : Int32)), (.int (4 : Int32))]) rfl ?_
    refine own_icmp X0 d0_25 (pc' := 44) (by decide) (fun c25 => ?_) (fun (c25 : ¬ (¬ (4 : Int) = 2)) => by exfalso; omega)
    have c25 : ¬ (4 : Int) = 2 := c25
    refine own_blk X0 B0_44_47 B0_44_47d (ls' := #[.val (.int z0), .val (.int z1), .val (.int z2), .val (.int z3), .val (.int z4), .val (.int z5), .val (.int kk), .val (.int (4 : Int32)), .val (.int q), .unset, .unset, .unset, .unset, .unset, .unset, .unset, .unset, .unset]) (st' := [(.int (3 : Int32)), (.int (4 : Int32))]) rfl ?_
    refine own_icmp X0 d0_47 (pc' := 63) (by decide) (fun c47 => ?_) (fun (c47 : ¬ (¬ (4 : Int) = 3)) => by exfalso; omega)
    have c47 : ¬ (4 : Int) = 3 := c47
    refine own_blk X0 B0_63_67 B0_63_67d (ls' := #[.val (.int z0), .val (.int z1), .val (.int z2), .val (.int z3), .val (.int z4), .val (.int z5), .val (.int kk), .val (.int (4 : Int32)), .val (.int q), .unset, .unset, .unset, .unset, .unset, .unset, .unset, .unset, .unset]) (st' := [(.int z1), (.int (240 : Int32))]) rfl ?_
    refine own_ldc X0 (hw _ (List.mem_of_getElem? (i := 0) rfl)) d0_67 ?_
    refine own_blk X0 B0_69_71 B0_69_71d (ls' := #[.val (.int z0), .val (.int z1), .val (.int z2), .val (.int z3), .val (.int z4), .val (.int z5), .val (.int kk), .val (.int (4 : Int32)), .val (.int q), .unset, .unset, .unset, .unset, .unset, .unset, .unset, .unset, .unset]) (st' := [(.int (5 : Int32)), (.int (z1 &&& (2147483647 : Int32))), (.int (240 : Int32))]) rfl ?_
    refine own_iremS X0 d0_71 (by decide) ?_
    refine own_blk X0 B0_72_75 B0_72_75d (ls' := #[.val (.int z0), .val (.int z1), .val (.int z2), .val (.int z3), .val (.int z4), .val (.int z5), .val (.int kk), .val (.int (4 : Int32)), .val (.int q), .val (.int ((240 : Int32) + (own_irem (z1 &&& (2147483647 : Int32)) (5 : Int32)))), .unset, .unset, .unset, .unset, .unset, .unset, .unset, .unset]) (st' := []) rfl ?_
    generalize eld : ((240 : Int32) + (own_irem (z1 &&& (2147483647 : Int32)) (5 : Int32))) = ld
    have hld : 240 ≤ ld.toInt ∧ ld.toInt ≤ 244 := by
      have h0 : (z1 &&& 2147483647).toInt = z1.toInt % 2 ^ 31 := Jvm.Kit.i32_mask _ _ (by decide) (by decide)
      have h1 : (own_irem (z1 &&& 2147483647) (5 : Int32)).toInt = (z1 &&& 2147483647).toInt % 5 := own_irem_pos (by omega)
      rw [← eld, Jvm.Kit.i32_add (by rw [h1]; show _ ≤ (240 : Int) + _; omega) (by rw [h1]; show (240 : Int) + _ < _; omega), h1]
      show _ ≤ (240 : Int) + _ ∧ (240 : Int) + _ ≤ _
      omega
    refine own_blk X0 B0_75_77 B0_75_77d (ls' := #[.val (.int z0), .val (.int z1), .val (.int z2), .val (.int z3), .val (.int z4), .val (.int z5), .val (.int kk), .val (.int (4 : Int32)), .val (.int q), .val (.int ld), .unset, .unset, .unset, .unset, .unset, .unset, .unset, .unset]) (st' := [(.int (6 : Int32))]) rfl ?_
    refine own_newI X0 (hw _ (List.mem_of_getElem? (i := 1) rfl)) rfl d0_77 (by decide) 6 (by decide) (by decide) (by decide) (by decide) (fun h41 T41 X41 E41 A41 => ?_)
    have n_b : n0 ≤ h0.size := X0.2.1
    have A41 : own_I Z h41 h0.size .byte 6 (fun _ => (0 : Int32)) := A41
    generalize ez_b : h0.size = b at A41 n_b ⊢
    show own_G p e below (T41.setTop (mkF m 79 #[.val (.int z0), .val (.int z1), .val (.int z2), .val (.int z3), .val (.int z4), .val (.int z5), .val (.int kk), .val (.int (4 : Int32)), .val (.int q), .val (.int ld), .unset, .unset, .unset, .unset, .unset, .unset, .unset, .unset] [(.ref b)])) _
    refine own_blk X41 B0_79_87 B0_79_87d (ls' := #[.val (.int z0), .val (.int z1), .val (.int z2), .val (.int z3), .val (.int z4), .val (.int z5), .val (.int kk), .val (.int (4 : Int32)), .val (.int q), .val (.int ld), .val (.ref b), .unset, .unset, .unset, .unset, .unset, .unset, .unset]) (st' := [(.int (own_i2b z5)), (.int (0 : Int32)), (.ref b)]) rfl ?_
    refine own_bast X41 A41 n_b d0_87 (by decide) (by decide) (own_i2b_fix _) (fun h42 T42 X42 A42 W42 => ?_)
    have A42 : own_I Z h42 b .byte 6 (own_u (fun _ => (0 : Int32)) (0) (own_i2b z5)) := A42
    generalize eg42 : own_u (fun _ => (0 : Int32)) (0) (own_i2b z5) = g42 at A42
    refine own_blk X42 B0_88_94 B0_88_94d (ls' := #[.val (.int z0), .val (.int z1), .val (.int z2), .val (.int z3), .val (.int z4), .val (.int z5), .val (.int kk), .val (.int (4 : Int32)), .val (.int q), .val (.int ld), .val (.ref b), .unset, .unset, .unset, .unset, .unset, .unset, .unset]) (st' := [(.int (own_i2b z5)), (.int (1 : Int32)), (.ref b)]) rfl ?_
    refine own_bast X42 A42 n_b d0_94 (by decide) (by decide) (own_i2b_fix _) (fun h43 T43 X43 A43 W43 => ?_)
    have A43 : own_I Z h43 b .byte 6 (own_u g42 (1) (own_i2b z5)) := A43
    generalize eg43 : own_u g42 (1) (own_i2b z5) = g43 at A43
    refine own_blk X43 B0_95_101 B0_95_101d (ls' := #[.val (.int z0), .val (.int z1), .val (.int z2), .val (.int z3), .val (.int z4), .val (.int z5), .val (.int kk), .val (.int (4 : Int32)), .val (.int q), .val (.int ld), .val (.ref b), .unset, .unset, .unset, .unset, .unset, .unset, .unset]) (st' := [(.int (own_i2b z5)), (.int (2 : Int32)), (.ref b)]) rfl ?_
    refine own_bast X43 A43 n_b d0_101 (by decide) (by decide) (own_i2b_fix _) (fun h44 T44 X44 A44 W44 => ?_)
    have A44 : own_I Z h44 b .byte 6 (own_u g43 (2) (own_i2b z5)) := A44
    generalize eg44 : own_u g43 (2) (own_i2b z5) = g44 at A44
    refine own_blk X44 B0_102_108 B0_102_108d (ls' := #[.val (.int z0), .val (.int z1), .val (.int z2), .val (.int z3), .val (.int z4), .val (.int z5), .val (.int kk), .val (.int (4 : Int32)), .val (.int q), .val (.int ld), .val (.ref b), .unset, .unset, .unset, .unset, .unset, .unset, .unset]) (st' := [(.int (own_i2b z5)), (.int (3 : Int32)), (.ref b)]) rfl ?_
    refine own_bast X44 A44 n_b d0_108 (by decide) (by decide) (own_i2b_fix _) (fun h45 T45 X45 A45 W45 => ?_)
    have A45 : own_I Z h45 b .byte 6 (own_u g44 (3) (own_i2b z5)) := A45
    generalize eg45 : own_u g44 (3) (own_i2b z5) = g45 at A45
    refine own_blk X45 B0_109_115 B0_109_115d (ls' := #[.val (.int z0), .val (.int z1), .val (.int z2), .val (.int z3), .val (.int z4), .val (.int z5), .val (.int kk), .val (.int (4 : Int32)), .val (.int q), .val (.int ld), .val (.ref b), .unset, .unset, .unset, .unset, .unset, .unset, .unset]) (st' := [(.int (own_i2b z5)), (.int (4 : Int32)), (.ref b)]) rfl ?_
    refine own_bast X45 A45 n_b d0_115 (by decide) (by decide) (own_i2b_fix _) (fun h46 T46 X46 A46 W46 => ?_)
    have A46 : own_I Z h46 b .byte 6 (own_u g45 (4) (own_i2b z5)) := A46
    generalize eg46 : own_u g45 (4) (own_i2b z5) = g46 at A46
    refine own_blk X46 B0_116_122 B0_116_122d (ls' := #[.val (.int z0), .val (.int z1), .val (.int z2), .val (.int z3), .val (.int z4), .val (.int z5), .val (.int kk), .val (.int (4 : Int32)), .val (.int q), .val (.int ld), .val (.ref b), .unset, .unset, .unset, .unset, .unset, .unset, .unset]) (st' := [(.int (own_i2b z5)), (.int (5 : Int32)), (.ref b)]) rfl ?_
    refine own_bast X46 A46 n_b d0_122 (by decide) (by decide) (own_i2b_fix _) (fun h47 T47 X47 A47 W47 => ?_)
    have A47 : own_I Z h47 b .byte 6 (own_u g46 (5) (own_i2b z5)) := A47
    generalize eg47 : own_u g46 (5) (own_i2b z5) = g47 at A47
    refine own_blk X47 B0_123_130 B0_123_130d (ls' := #[.val (.int z0), .val (.int z1), .val (.int z2), .val (.int z3), .val (.int z4), .val (.int z5), .val (.int kk), .val (.int (4 : Int32)), .val (.int q), .val (.int ld), .val (.ref b), .unset, .unset, .unset, .unset, .unset, .unset, .unset]) (st' := [(.int (own_i2b ld)), (.int q), (.ref b)]) rfl ?_
    refine own_bast X47 A47 n_b d0_130 (by omega) (by omega) (own_i2b_fix _) (fun h48 T48 X48 A48 W48 => ?_)
    have A48 : own_I Z h48 b .byte 6 (own_u g47 (q.toInt) (own_i2b ld)) := A48
    generalize eg48 : own_u g47 (q.toInt) (own_i2b ld) = g48 at A48
    refine own_blk X48 B0_131_139 B0_131_139d (ls' := #[.val (.int z0), .val (.int z1), .val (.int z2), .val (.int z3), .val (.int z4), .val (.int z5), .val (.int kk), .val (.int (4 : Int32)), .val (.int q), .val (.int ld), .val (.ref b), .unset, .unset, .unset, .unset, .unset, .unset, .unset]) (st' := [(.int (own_i2b z2)), (.int (q + (1 : Int32))), (.ref b)]) rfl ?_
    refine own_bast X48 A48 n_b d0_139 (by omega) (by omega) (own_i2b_fix _) (fun h49 T49 X49 A49 W49 => ?_)
    have A49 : own_I Z h49 b .byte 6 (own_u g48 (q.toInt + 1) (own_i2b z2)) := by rw [← i1]; exact A49
    generalize eg49 : own_u g48 (q.toInt + 1) (own_i2b z2) = g49 at A49
    refine own_blk X49 B0_140_148 B0_140_148d (ls' := #[.val (.int z0), .val (.int z1), .val (.int z2), .val (.int z3), .val (.int z4), .val (.int z5), .val (.int kk), .val (.int (4 : Int32)), .val (.int q), .val (.int ld), .val (.ref b), .unset, .unset, .unset, .unset, .unset, .unset, .unset]) (st' := [(.int (own_i2b z3)), (.int (q + (2 : Int32))), (.ref b)]) rfl ?_
    refine own_bast X49 A49 n_b d0_148 (by omega) (by omega) (own_i2b_fix _) (fun h50 T50 X50 A50 W50 => ?_)
    have A50 : own_I Z h50 b .byte 6 (own_u g49 (q.toInt + 2) (own_i2b z3)) := by rw [← i2]; exact A50
    generalize eg50 : own_u g49 (q.toInt + 2) (own_i2b z3) = g50 at A50
    refine own_blk X50 B0_149_158 B0_149_158d (ls' := #[.val (.int z0), .val (.int z1), .val (.int z2), .val (.int z3), .val (.int z4), .val (.int z5), .val (.int kk), .val (.int (4 : Int32)), .val (.int q), .val (.int ld), .val (.ref b), .unset, .unset, .unset, .unset, .unset, .unset, .unset]) (st' := [(.int (own_i2b z4)), (.int (q + (3 : Int32))), (.ref b)]) rfl ?_
    refine own_bast X50 A50 n_b d0_158 (by omega) (by omega) (own_i2b_fix _) (fun h51 T51 X51 A51 W51 => ?_)
    have A51 : own_I Z h51 b .byte 6 (own_u g50 (q.toInt + 3) (own_i2b z4)) := by rw [← i3]; exact A51
    generalize eg51 : own_u g50 (q.toInt + 3) (own_i2b z4) = g51 at A51
    refine own_blk X51 B0_159_181 B0_159_181d (ls' := #[.val (.int z0), .val (.int z1), .val (.int z2), .val (.int z3), .val (.int z4), .val (.int z5), .val (.int kk), .val (.int (4 : Int32)), .val (.int q), .val (.int ld), .val (.ref b), .val (.int (z2 &&& (255 : Int32))), .val (.int (z3 &&& (255 : Int32))), .val (.int (z4 &&& (255 : Int32))), .unset, .unset, .unset, .unset]) (st' := []) rfl ?_
    have r0 : g51 (q.toInt) = own_i2b ld := by rw [← eg51, own_u_ne (by omega), ← eg50, own_u_ne (by omega), ← eg49, own_u_ne (by omega), ← eg48, own_u_eq (by omega)]
    have r1 : g51 (q.toInt + 1) = own_i2b z2 := by rw [← eg51, own_u_ne (by omega), ← eg50, own_u_ne (by omega), ← eg49, own_u_eq (by omega)]
    have r2 : g51 (q.toInt + 2) = own_i2b z3 := by rw [← eg51, own_u_ne (by omega), ← eg50, own_u_eq (by omega)]
    have r3 : g51 (q.toInt + 3) = own_i2b z4 := by rw [← eg51, own_u_eq (by omega)]
    have s0 := own_i2b_b ld
    have s1 := own_i2b_b z2
    have s2 := own_i2b_b z3
    have s3 := own_i2b_b z4
    generalize eu1 : (z2 &&& (255 : Int32)) = u1
    have hu1 : u1.toInt = z2.toInt % 256 := by rw [← eu1]; exact own_m255 _
    generalize eu2 : (z3 &&& (255 : Int32)) = u2
    have hu2 : u2.toInt = z3.toInt % 256 := by rw [← eu2]; exact own_m255 _
    generalize eu3 : (z4 &&& (255 : Int32)) = u3
    have hu3 : u3.toInt = z4.toInt % 256 := by rw [← eu3]; exact own_m255 _
    refine own_blk X51 B0_181_196 B0_181_196d (ls' := #[.val (.int z0), .val (.int z1), .val (.int z2), .val (.int z3), .val (.int z4), .val (.int z5), .val (.int kk), .val (.int (4 : Int32)), .val (.int q), .val (.int ld), .val (.ref b), .val (.int u1), .val (.int u2), .val (.int u3), .val (.int (128 : Int32)), .val (.int (191 : Int32)), .unset, .unset]) (st' := [(.int (224 : Int32)), (.int ld)]) rfl ?_
    refine own_icmp X51 d0_196 (pc' := 207) (by decide) (fun c196 => ?_) (fun (c196 : ¬ (¬ ld.toInt = 224)) => by exfalso; omega)
    have c196 : ¬ ld.toInt = 224 := c196
    refine own_blk X51 B0_207_212 B0_207_212d (ls' := #[.val (.int z0), .val (.int z1), .val (.int z2), .val (.int z3), .val (.int z4), .val (.int z5), .val (.int kk), .val (.int (4 : Int32)), .val (.int q), .val (.int ld), .val (.ref b), .val (.int u1), .val (.int u2), .val (.int u3), .val (.int (128 : Int32)), .val (.int (191 : Int32)), .unset, .unset]) (st' := [(.int (237 : Int32)), (.int ld)]) rfl ?_
    refine own_icmp X51 d0_212 (pc' := 223) (by decide) (fun c212 => ?_) (fun (c212 : ¬ (¬ ld.toInt = 237)) => by exfalso; omega)
    have c212 : ¬ ld.toInt = 237 := c212
    refine own_blk X51 B0_223_228 B0_223_228d (ls' := #[.val (.int z0), .val (.int z1), .val (.int z2), .val (.int z3), .val (.int z4), .val (.int z5), .val (.int kk), .val (.int (4 : Int32)), .val (.int q), .val (.int ld), .val (.ref b), .val (.int u1), .val (.int u2), .val (.int u3), .val (.int (128 : Int32)), .val (.int (191 : Int32)), .unset, .unset]) (st' := [(.int (240 : Int32)), (.int ld)]) rfl ?_
    refine own_icmp X51 d0_228 (pc' := 239) (by decide) (fun c228 => ?_) (fun c228 => ?_)
    · have c228 : ¬ ld.toInt = 240 := c228
      refine own_blk X51 B0_239_244 B0_239_244d (ls' := #[.val (.int z0), .val (.int z1), .val (.int z2), .val (.int z3), .val (.int z4), .val (.int z5), .val (.int kk), .val (.int (4 : Int32)), .val (.int q), .val (.int ld), .val (.ref b), .val (.int u1), .val (.int u2), .val (.int u3), .val (.int (128 : Int32)), .val (.int (191 : Int32)), .unset, .unset]) (st' := [(.int (244 : Int32)), (.int ld)]) rfl ?_
      refine own_icmp X51 d0_244 (pc' := 252) (by decide) (fun c244 => ?_) (fun c244 => ?_)
      · have c244 : ¬ ld.toInt = 244 := c244
        refine own_blk X51 B0_252_256 B0_252_256d (ls' := #[.val (.int z0), .val (.int z1), .val (.int z2), .val (.int z3), .val (.int z4), .val (.int z5), .val (.int kk), .val (.int (4 : Int32)), .val (.int q), .val (.int ld), .val (.ref b), .val (.int u1), .val (.int u2), .val (.int u3), .val (.int (128 : Int32)), .val (.int (191 : Int32)), .unset, .unset]) (st' := [(.int (128 : Int32)), (.int u1)]) rfl ?_
        refine own_icmp X51 d0_256 (pc' := 270) (by decide) (fun c256 => ?_) (fun c256 => ?_)
        · have c256 : u1.toInt < 128 := c256
          refine own_blk X51 B0_270_276 B0_270_276d (ls' := #[.val (.int z0), .val (.int z1), .val (.int z2), .val (.int z3), .val (.int z4), .val (.int z5), .val (.int kk), .val (.int (4 : Int32)), .val (.int q), .val (.int ld), .val (.ref b), .val (.int u1), .val (.int u2), .val (.int u3), .val (.int (128 : Int32)), .val (.int (191 : Int32)), .val (.int (0 : Int32)), .unset]) (st' := [(.int (2 : Int32)), (.int (4 : Int32))]) rfl ?_
          refine own_icmp X51 d0_276 (pc' := 299) (by decide) (fun (c276 : (4 : Int) ≤ 2) => by exfalso; omega) (fun c276 => ?_)
          have c276 : ¬ ((4 : Int) ≤ 2) := c276
          refine own_blk X51 B0_279_281 B0_279_281d (ls' := #[.val (.int z0), .val (.int z1), .val (.int z2), .val (.int z3), .val (.int z4), .val (.int z5), .val (.int kk), .val (.int (4 : Int32)), .val (.int q), .val (.int ld), .val (.ref b), .val (.int u1), .val (.int u2), .val (.int u3), .val (.int (128 : Int32)), .val (.int (191 : Int32)), .val (.int (0 : Int32)), .unset]) (st' := [(.int (0 : Int32))]) rfl ?_
          refine own_if X51 d0_281 (pc' := 296) (by decide) (fun c281 => ?_) (fun (c281 : ¬ ((0 : Int) = 0)) => by exfalso; omega)
          have c281 : (0 : Int) = 0 := c281
          refine own_blk X51 B0_296_302 B0_296_302d (ls' := #[.val (.int z0), .val (.int z1), .val (.int z2), .val (.int z3), .val (.int z4), .val (.int z5), .val (.int kk), .val (.int (4 : Int32)), .val (.int q), .val (.int ld), .val (.ref b), .val (.int u1), .val (.int u2), .val (.int u3), .val (.int (128 : Int32)), .val (.int (191 : Int32)), .val (.int (0 : Int32)), .unset]) (st' := [(.int (3 : Int32)), (.int (4 : Int32))]) rfl ?_
          refine own_icmp X51 d0_302 (pc' := 325) (by decide) (fun (c302 : (4 : Int) ≤ 3) => by exfalso; omega) (fun c302 => ?_)
          have c302 : ¬ ((4 : Int) ≤ 3) := c302
          refine own_blk X51 B0_305_307 B0_305_307d (ls' := #[.val (.int z0), .val (.int z1), .val (.int z2), .val (.int z3), .val (.int z4), .val (.int z5), .val (.int kk), .val (.int (4 : Int32)), .val (.int q), .val (.int ld), .val (.ref b), .val (.int u1), .val (.int u2), .val (.int u3), .val (.int (128 : Int32)), .val (.int (191 : Int32)), .val (.int (0 : Int32)), .unset]) (st' := [(.int (0 : Int32))]) rfl ?_
          refine own_if X51 d0_307 (pc' := 322) (by decide) (fun c307 => ?_) (fun (c307 : ¬ ((0 : Int) = 0)) => by exfalso; omega)
          have c307 : (0 : Int) = 0 := c307
          refine own_blk X51 B0_322_330 B0_322_330d (ls' := #[.val (.int z0), .val (.int z1), .val (.int z2), .val (.int z3), .val (.int z4), .val (.int z5), .val (.int kk), .val (.int (4 : Int32)), .val (.int q), .val (.int ld), .val (.ref b), .val (.int u1), .val (.int u2), .val (.int u3), .val (.int (128 : Int32)), .val (.int (191 : Int32)), .val (.int (0 : Int32)), .val (.int (-1 : Int32))]) (st' := [(.int (0 : Int32))]) rfl ?_
          refine own_if X51 d0_330 (pc' := 437) (by decide) (fun c330 => ?_) (fun (c330 : ¬ ((0 : Int) = 0)) => by exfalso; omega)
          have c330 : (0 : Int) = 0 := c330
          refine own_blk X51 B0_437_443 B0_437_443d (ls' := #[.val (.int z0), .val (.int z1), .val (.int z2), .val (.int z3), .val (.int z4), .val (.int z5), .val (.int kk), .val (.int (4 : Int32)), .val (.int q), .val (.int ld), .val (.ref b), .val (.int u1), .val (.int u2), .val (.int u3), .val (.int (128 : Int32)), .val (.int (191 : Int32)), .val (.int (0 : Int32)), .val (.int (-1 : Int32))]) (st' := [(.int (4 : Int32)), (.int q), (.ref b)]) rfl ?_
          refine own_callS X51 (hw _ (List.mem_of_getElem? (i := 2) rfl)) (hw _ (List.mem_of_getElem? (i := 3) rfl)) (hw _ (List.mem_of_getElem? (i := 4) rfl)) (hw _ (List.mem_of_getElem? (i := 5) rfl)) (by decide) (c_cp4 l Z a0 hw b q g51 h51 n0 X51.2.1 A51 hq) d0_443 [(.ref b), (.int q), (.int (4 : Int32))] [] rfl rfl pd1 rfl rfl (by decide) (Nat.le_of_ble_eq_true rfl) (by decide) (by decide) (fun _ _ q => by obtain ⟨_, _, q2, _⟩ := q; rw [q2]; exact X51.2.1) (fun v52 h52 T52 X52 q52 => ?_)
          obtain ⟨z52, rfl, e52, hz52⟩ := q52
          rw [e52] at X52
          show own_G p e below (T52.setTop (mkF m 446 #[.val (.int z0), .val (.int z1), .val (.int z2), .val (.int z3), .val (.int z4), .val (.int z5), .val (.int kk), .val (.int (4 : Int32)), .val (.int q), .val (.int ld), .val (.ref b), .val (.int u1), .val (.int u2), .val (.int u3), .val (.int (128 : Int32)), .val (.int (191 : Int32)), .val (.int (0 : Int32)), .val (.int (-1 : Int32))] [(.int z52)])) _
          rw [r0, r1, r2, r3] at hz52
          refine own_blk X52 B0_446_448 B0_446_448d (ls' := #[.val (.int z0), .val (.int z1), .val (.int z2), .val (.int z3), .val (.int z4), .val (.int z5), .val (.int kk), .val (.int (4 : Int32)), .val (.int q), .val (.int ld), .val (.ref b), .val (.int u1), .val (.int u2), .val (.int u3), .val (.int (128 : Int32)), .val (.int (191 : Int32)), .val (.int (0 : Int32)), .val (.int (-1 : Int32))]) (st' := [(.int (-1 : Int32)), (.int z52)]) rfl ?_
          refine own_icmp X52 d0_448 (pc' := 455) (by decide) (fun (c448 : ¬ z52.toInt = -1) => by exfalso; omega) (fun c448 => ?_)
          have c448 : ¬ (¬ z52.toInt = -1) := c448
          refine own_blk X52 B0_451_452 B0_451_452d (ls' := #[.val (.int z0), .val (.int z1), .val (.int z2), .val (.int z3), .val (.int z4), .val (.int z5), .val (.int kk), .val (.int (4 : Int32)), .val (.int q), .val (.int ld), .val (.ref b), .val (.int u1), .val (.int u2), .val (.int u3), .val (.int (128 : Int32)), .val (.int (191 : Int32)), .val (.int (0 : Int32)), .val (.int (-1 : Int32))]) (st' := [(.int (1 : Int32))]) rfl ?_
          refine own_goto X52 d0_452 (pc' := 456) (by decide) ?_
          exact own_retN X52 (by simp) d0_456 (v' := (1 : Int32)) (rfl) (by decide) (by decide) (rfl)
        · have c256 : ¬ (u1.toInt < 128) := c256
          refine own_blk X51 B0_259_263 B0_259_263d (ls' := #[.val (.int z0), .val (.int z1), .val (.int z2), .val (.int z3), .val (.int z4), .val (.int z5), .val (.int kk), .val (.int (4 : Int32)), .val (.int q), .val (.int ld), .val (.ref b), .val (.int u1), .val (.int u2), .val (.int u3), .val (.int (128 : Int32)), .val (.int (191 : Int32)), .unset, .unset]) (st' := [(.int (191 : Int32)), (.int u1)]) rfl ?_
          refine own_icmp X51 d0_263 (pc' := 270) (by decide) (fun c263 => ?_) (fun c263 => ?_)
          · have c263 : 191 < u1.toInt := c263
            refine own_blk X51 B0_270_276 B0_270_276d (ls' := #[.val (.int z0), .val (.int z1), .val (.int z2), .val (.int z3), .val (.int z4), .val (.int z5), .val (.int kk), .val (.int (4 : Int32)), .val (.int q), .val (.int ld), .val (.ref b), .val (.int u1), .val (.int u2), .val (.int u3), .val (.int (128 : Int32)), .val (.int (191 : Int32)), .val (.int (0 : Int32)), .unset]) (st' := [(.int (2 : Int32)), (.int (4 : Int32))]) rfl ?_
            refine own_icmp X51 d0_276 (pc' := 299) (by decide) (fun (c276 : (4 : Int) ≤ 2) => by exfalso; omega) (fun c276 => ?_)
            have c276 : ¬ ((4 : Int) ≤ 2) := c276
            refine own_blk X51 B0_279_281 B0_279_281d (ls' := #[.val (.int z0), .val (.int z1), .val (.int z2), .val (.int z3), .val (.int z4), .val (.int z5), .val (.int kk), .val (.int (4 : Int32)), .val (.int q), .val (.int ld), .val (.ref b), .val (.int u1), .val (.int u2), .val (.int u3), .val (.int (128 : Int32)), .val (.int (191 : Int32)), .val (.int (0 : Int32)), .unset]) (st' := [(.int (0 : Int32))]) rfl ?_
            refine own_if X51 d0_281 (pc' := 296) (by decide) (fun c281 => ?_) (fun (c281 : ¬ ((0 : Int) = 0)) => by exfalso; omega)
            have c281 : (0 : Int) = 0 := c281
            refine own_blk X51 B0_296_302 B0_296_302d (ls' := #[.val (.int z0), .val (.int z1), .val (.int z2), .val (.int z3), .val (.int z4), .val (.int z5), .val (.int kk), .val (.int (4 : Int32)), .val (.int q), .val (.int ld), .val (.ref b), .val (.int u1), .val (.int u2), .val (.int u3), .val (.int (128 : Int32)), .val (.int (191 : Int32)), .val (.int (0 : Int32)), .unset]) (st' := [(.int (3 : Int32)), (.int (4 : Int32))]) rfl ?_
            refine own_icmp X51 d0_302 (pc' := 325) (by decide) (fun (c302 : (4 : Int) ≤ 3) => by exfalso; omega) (fun c302 => ?_)
            have c302 : ¬ ((4 : Int) ≤ 3) := c302
            refine own_blk X51 B0_305_307 B0_305_307d (ls' := #[.val (.int z0), .val (.int z1), .val (.int z2), .val (.int z3), .val (.int z4), .val (.int z5), .val (.int kk), .val (.int (4 : Int32)), .val (.int q), .val (.int ld), .val (.ref b), .val (.int u1), .val (.int u2), .val (.int u3), .val (.int (128 : Int32)), .val (.int (191 : Int32)), .val (.int (0 : Int32)), .unset]) (st' := [(.int (0 : Int32))]) rfl ?_
            refine own_if X51 d0_307 (pc' := 322) (by decide) (fun c307 => ?_) (fun (c307 : ¬ ((0 : Int) = 0)) => by exfalso; omega)
            have c307 : (0 : Int) = 0 := c307
            refine own_blk X51 B0_322_330 B0_322_330d (ls' := #[.val (.int z0), .val (.int z1), .val (.int z2), .val (.int z3), .val (.int z4), .val (.int z5), .val (.int kk), .val (.int (4 : Int32)), .val (.int q), .val (.int ld), .val (.ref b), .val (.int u1), .val (.int u2), .val (.int u3), .val (.int (128 : Int32)), .val (.int (191 : Int32)), .val (.int (0 : Int32)), .val (.int (-1 : Int32))]) (st' := [(.int (0 : Int32))]) rfl ?_
            refine own_if X51 d0_330 (pc' := 437) (by decide) (fun c330 => ?_) (fun (c330 : ¬ ((0 : Int) = 0)) => by exfalso; omega)
            have c330 : (0 : Int) = 0 := c330
            refine own_blk X51 B0_437_443 B0_437_443d (ls' := #[.val (.int z0), .val (.int z1), .val (.int z2), .val (.int z3), .val (.int z4), .val (.int z5), .val (.int kk), .val (.int (4 : Int32)), .val (.int q), .val (.int ld), .val (.ref b), .val (.int u1), .val (.int u2), .val (.int u3), .val (.int (128 : Int32)), .val (.int (191 : Int32)), .val (.int (0 : Int32)), .val (.int (-1 : Int32))]) (st' := [(.int (4 : Int32)), (.int q), (.ref b)]) rfl ?_
            refine own_callS X51 (hw _ (List.mem_of_getElem? (i := 2) rfl)) (hw _ (List.mem_of_getElem? (i := 3) rfl)) (hw _ (List.mem_of_getElem? (i := 4) rfl)) (hw _ (List.mem_of_getElem? (i := 5) rfl)) (by decide) (c_cp4 l Z a0 hw b q g51 h51 n0 X51.2.1 A51 hq) d0_443 [(.ref b), (.int q), (.int (4 : Int32))] [] rfl rfl pd1 rfl rfl (by decide) (Nat.le_of_ble_eq_true rfl) (by decide) (by decide) (fun _ _ q => by obtain ⟨_, _, q2, _⟩ := q; rw [q2]; exact X51.2.1) (fun v53 h53 T53 X53 q53 => ?_)
            obtain ⟨z53, rfl, e53, hz53⟩ := q53
            rw [e53] at X53
            show own_G p e below (T53.setTop (mkF m 446 #[.val (.int z0), .val (.int z1), .val (.int z2), .val (.int z3), .val (.int z4), .val (.int z5), .val (.int kk), .val (.int (4 : Int32)), .val (.int q), .val (.int ld), .val (.ref b), .val (.int u1), .val (.int u2), .val (.int u3), .val (.int (128 : Int32)), .val (.int (191 : Int32)), .val (.int (0 : Int32)), .val (.int (-1 : Int32))] [(.int z53)])) _
            rw [r0, r1, r2, r3] at hz53
            refine own_blk X53 B0_446_448 B0_446_448d (ls' := #[.val (.int z0), .val (.int z1), .val (.int z2), .val (.int z3), .val (.int z4), .val (.int z5), .val (.int kk), .val (.int (4 : Int32)), .val (.int q), .val (.int ld), .val (.ref b), .val (.int u1), .val (.int u2), .val (.int u3), .val (.int (128 : Int32)), .val (.int (191 : Int32)), .val (.int (0 : Int32)), .val (.int (-1 : Int32))]) (st' := [(.int (-1 : Int32)), (.int z53)]) rfl ?_
            refine own_icmp X53 d0_448 (pc' := 455) (by decide) (fun (c448 : ¬ z53.toInt = -1) => by exfalso; omega) (fun c448 => ?_)
            have c448 : ¬ (¬ z53.toInt = -1) := c448
            refine own_blk X53 B0_451_452 B0_451_452d (ls' := #[.val (.int z0), .val (.int z1), .val (.int z2), .val (.int z3), .val (.int z4), .val (.int z5), .val (.int kk), .val (.int (4 : Int32)), .val (.int q), .val (.int ld), .val (.ref b), .val (.int u1), .val (.int u2), .val (.int u3), .val (.int (128 : Int32)), .val (.int (191 : Int32)), .val (.int (0 : Int32)), .val (.int (-1 : Int32))]) (st' := [(.int (1 : Int32))]) rfl ?_
            refine own_goto X53 d0_452 (pc' := 456) (by decide) ?_
            exact own_retN X53 (by simp) d0_456 (v' := (1 : Int32)) (rfl) (by decide) (by decide) (rfl)
          · have c263 : ¬ (191 < u1.toInt) := c263
            refine own_blk X51 B0_266_267 B0_266_267d (ls' := #[.val (.int z0), .val (.int z1), .val (.int z2), .val (.int z3), .val (.int z4), .val (.int z5), .val (.int kk), .val (.int (4 : Int32)), .val (.int q), .val (.int ld), .val (.ref b), .val (.int u1), .val (.int u2), .val (.int u3), .val (.int (128 : Int32)), .val (.int (191 : Int32)), .unset, .unset]) (st' := [(.int (1 : Int32))]) rfl ?_
            refine own_goto X51 d0_267 (pc' := 271) (by decide) ?_
            refine own_blk X51 B0_271_276 B0_271_276d (ls' := #[.val (.int z0), .val (.int z1), .val (.int z2), .val (.int z3), .val (.int z4), .val (.int z5), .val (.int kk), .val (.int (4 : Int32)), .val (.int q), .val (.int ld), .val (.ref b), .val (.int u1), .val (.int u2), .val (.int u3), .val (.int (128 : Int32)), .val (.int (191 : Int32)), .val (.int (1 : Int32)), .unset]) (st' := [(.int (2 : Int32)), (.int (4 : Int32))]) rfl ?_
            refine own_icmp X51 d0_276 (pc' := 299) (by decide) (fun (c276 : (4 : Int) ≤ 2) => by exfalso; omega) (fun c276 => ?_)
            have c276 : ¬ ((4 : Int) ≤ 2) := c276
            refine own_blk X51 B0_279_281 B0_279_281d (ls' := #[.val (.int z0), .val (.int z1), .val (.int z2), .val (.int z3), .val (.int z4), .val (.int z5), .val (.int kk), .val (.int (4 : Int32)), .val (.int q), .val (.int ld), .val (.ref b), .val (.int u1), .val (.int u2), .val (.int u3), .val (.int (128 : Int32)), .val (.int (191 : Int32)), .val (.int (1 : Int32)), .unset]) (st' := [(.int (1 : Int32))]) rfl ?_
            refine own_if X51 d0_281 (pc' := 296) (by decide) (fun (c281 : (1 : Int) = 0) => by exfalso; omega) (fun c281 => ?_)
            have c281 : ¬ ((1 : Int) = 0) := c281
            refine own_blk X51 B0_284_286 B0_284_286d (ls' := #[.val (.int z0), .val (.int z1), .val (.int z2), .val (.int z3), .val (.int z4), .val (.int z5), .val (.int kk), .val (.int (4 : Int32)), .val (.int q), .val (.int ld), .val (.ref b), .val (.int u1), .val (.int u2), .val (.int u3), .val (.int (128 : Int32)), .val (.int (191 : Int32)), .val (.int (1 : Int32)), .unset]) (st' := [(.int u2)]) rfl ?_
            refine own_callP X51 (hw _ (List.mem_of_getElem? (i := 9) rfl)) (hw _ (List.mem_of_getElem? (i := 10) rfl)) (hw _ (List.mem_of_getElem? (i := 11) rfl)) (hw _ (List.mem_of_getElem? (i := 12) rfl)) (by decide) (c_ic l Z a0 hw u2 h51 n0 X51.2.1) d0_286 [(.int u2)] [] rfl rfl pd2 rfl rfl (by decide) (Nat.le_of_ble_eq_true rfl) (by decide) (by decide) (fun T54 X54 => ?_)
            show own_G p e below (T54.setTop (mkF m 289 #[.val (.int z0), .val (.int z1), .val (.int z2), .val (.int z3), .val (.int z4), .val (.int z5), .val (.int kk), .val (.int (4 : Int32)), .val (.int q), .val (.int ld), .val (.ref b), .val (.int u1), .val (.int u2), .val (.int u3), .val (.int (128 : Int32)), .val (.int (191 : Int32)), .val (.int (1 : Int32)), .unset] [(.int (own_ic u2))])) _
            by_cases hi_u2 : 128 ≤ u2.toInt ∧ u2.toInt ≤ 191
            · rw [own_ic, if_pos hi_u2]
              refine own_if X54 d0_289 (pc' := 296) (by decide) (fun (c289 : (1 : Int) = 0) => by exfalso; omega) (fun c289 => ?_)
              have c289 : ¬ ((1 : Int) = 0) := c289
              refine own_blk X54 B0_292_293 B0_292_293d (ls' := #[.val (.int z0), .val (.int z1), .val (.int z2), .val (.int z3), .val (.int z4), .val (.int z5), .val (.int kk), .val (.int (4 : Int32)), .val (.int q), .val (.int ld), .val (.ref b), .val (.int u1), .val (.int u2), .val (.int u3), .val (.int (128 : Int32)), .val (.int (191 : Int32)), .val (.int (1 : Int32)), .unset]) (st' := [(.int (1 : Int32))]) rfl ?_
              refine own_goto X54 d0_293 (pc' := 297) (by decide) ?_
              refine own_blk X54 B0_297_302 B0_297_302d (ls' := #[.val (.int z0), .val (.int z1), .val (.int z2), .val (.int z3), .val (.int z4), .val (.int z5), .val (.int kk), .val (.int (4 : Int32)), .val (.int q), .val (.int ld), .val (.ref b), .val (.int u1), .val (.int u2), .val (.int u3), .val (.int (128 : Int32)), .val (.int (191 : Int32)), .val (.int (1 : Int32)), .unset]) (st' := [(.int (3 : Int32)), (.int (4 : Int32))]) rfl ?_
              refine own_icmp X54 d0_302 (pc' := 325) (by decide) (fun (c302 : (4 : Int) ≤ 3) => by exfalso; omega) (fun c302 => ?_)
              have c302 : ¬ ((4 : Int) ≤ 3) := c302
              refine own_blk X54 B0_305_307 B0_305_307d (ls' := #[.val (.int z0), .val (.int z1), .val (.int z2), .val (.int z3), .val (.int z4), .val (.int z5), .val (.int kk), .val (.int (4 : Int32)), .val (.int q), .val (.int ld), .val (.ref b), .val (.int u1), .val (.int u2), .val (.int u3), .val (.int (128 : Int32)), .val (.int (191 : Int32)), .val (.int (1 : Int32)), .unset]) (st' := [(.int (1 : Int32))]) rfl ?_
              refine own_if X54 d0_307 (pc' := 322) (by decide) (fun (c307 : (1 : Int) = 0) => by exfalso; omega) (fun c307 => ?_)
              have c307 : ¬ ((1 : Int) = 0) := c307
              refine own_blk X54 B0_310_312 B0_310_312d (ls' := #[.val (.int z0), .val (.int z1), .val (.int z2), .val (.int z3), .val (.int z4), .val (.int z5), .val (.int kk), .val (.int (4 : Int32)), .val (.int q), .val (.int ld), .val (.ref b), .val (.int u1), .val (.int u2), .val (.int u3), .val (.int (128 : Int32)), .val (.int (191 : Int32)), .val (.int (1 : Int32)), .unset]) (st' := [(.int u3)]) rfl ?_
              refine own_callP X54 (hw _ (List.mem_of_getElem? (i := 9) rfl)) (hw _ (List.mem_of_getElem? (i := 10) rfl)) (hw _ (List.mem_of_getElem? (i := 11) rfl)) (hw _ (List.mem_of_getElem? (i := 12) rfl)) (by decide) (c_ic l Z a0 hw u3 h51 n0 X54.2.1) d0_312 [(.int u3)] [] rfl rfl pd2 rfl rfl (by decide) (Nat.le_of_ble_eq_true rfl) (by decide) (by decide) (fun T55 X55 => ?_)
              show own_G p e below (T55.setTop (mkF m 315 #[.val (.int z0), .val (.int z1), .val (.int z2), .val (.int z3), .val (.int z4), .val (.int z5), .val (.int kk), .val (.int (4 : Int32)), .val (.int q), .val (.int ld), .val (.ref b), .val (.int u1), .val (.int u2), .val (.int u3), .val (.int (128 : Int32)), .val (.int (191 : Int32)), .val (.int (1 : Int32)), .unset] [(.int (own_ic u3))])) _
              by_cases hi_u3 : 128 ≤ u3.toInt ∧ u3.toInt ≤ 191
              · rw [own_ic, if_pos hi_u3]
                refine own_if X55 d0_315 (pc' := 322) (by decide) (fun (c315 : (1 : Int) = 0) => by exfalso; omega) (fun c315 => ?_)
                have c315 : ¬ ((1 : Int) = 0) := c315
                refine own_blk X55 B0_318_319 B0_318_319d (ls' := #[.val (.int z0), .val (.int z1), .val (.int z2), .val (.int z3), .val (.int z4), .val (.int z5), .val (.int kk), .val (.int (4 : Int32)), .val (.int q), .val (.int ld), .val (.ref b), .val (.int u1), .val (.int u2), .val (.int u3), .val (.int (128 : Int32)), .val (.int (191 : Int32)), .val (.int (1 : Int32)), .unset]) (st' := [(.int (1 : Int32))]) rfl ?_
                refine own_goto X55 d0_319 (pc' := 323) (by decide) ?_
                refine own_blk X55 B0_323_330 B0_323_330d (ls' := #[.val (.int z0), .val (.int z1), .val (.int z2), .val (.int z3), .val (.int z4), .val (.int z5), .val (.int kk), .val (.int (4 : Int32)), .val (.int q), .val (.int ld), .val (.ref b), .val (.int u1), .val (.int u2), .val (.int u3), .val (.int (128 : Int32)), .val (.int (191 : Int32)), .val (.int (1 : Int32)), .val (.int (-1 : Int32))]) (st' := [(.int (1 : Int32))]) rfl ?_
                refine own_if X55 d0_330 (pc' := 437) (by decide) (fun (c330 : (1 : Int) = 0) => by exfalso; omega) (fun c330 => ?_)
                have c330 : ¬ ((1 : Int) = 0) := c330
                refine own_blk X55 B0_333_336 B0_333_336d (ls' := #[.val (.int z0), .val (.int z1), .val (.int z2), .val (.int z3), .val (.int z4), .val (.int z5), .val (.int kk), .val (.int (4 : Int32)), .val (.int q), .val (.int ld), .val (.ref b), .val (.int u1), .val (.int u2), .val (.int u3), .val (.int (128 : Int32)), .val (.int (191 : Int32)), .val (.int (1 : Int32)), .val (.int (-1 : Int32))]) (st' := [(.int (2 : Int32)), (.int (4 : Int32))]) rfl ?_
                refine own_icmp X55 d0_336 (pc' := 360) (by decide) (fun c336 => ?_) (fun (c336 : ¬ (¬ (4 : Int) = 2)) => by exfalso; omega)
                have c336 : ¬ (4 : Int) = 2 := c336
                refine own_blk X55 B0_360_363 B0_360_363d (ls' := #[.val (.int z0), .val (.int z1), .val (.int z2), .val (.int z3), .val (.int z4), .val (.int z5), .val (.int kk), .val (.int (4 : Int32)), .val (.int q), .val (.int ld), .val (.ref b), .val (.int u1), .val (.int u2), .val (.int u3), .val (.int (128 : Int32)), .val (.int (191 : Int32)), .val (.int (1 : Int32)), .val (.int (-1 : Int32))]) (st' := [(.int (3 : Int32)), (.int (4 : Int32))]) rfl ?_
                refine own_icmp X55 d0_363 (pc' := 398) (by decide) (fun c363 => ?_) (fun (c363 : ¬ (¬ (4 : Int) = 3)) => by exfalso; omega)
                have c363 : ¬ (4 : Int) = 3 := c363
                refine own_blk X55 B0_398_404 B0_398_404d (ls' := #[.val (.int z0), .val (.int z1), .val (.int z2), .val (.int z3), .val (.int z4), .val (.int z5), .val (.int kk), .val (.int (4 : Int32)), .val (.int q), .val (.int ld), .val (.ref b), .val (.int u1), .val (.int u2), .val (.int u3), .val (.int (128 : Int32)), .val (.int (191 : Int32)), .val (.int (1 : Int32)), .val (.int (-1 : Int32))]) (st' := [(.int (ld - (240 : Int32)))]) rfl ?_
                refine own_ldc X55 (hw _ (List.mem_of_getElem? (i := 13) rfl)) d0_404 ?_
                refine own_blk X55 B0_406_437 B0_406_437d (ls' := #[.val (.int z0), .val (.int z1), .val (.int z2), .val (.int z3), .val (.int z4), .val (.int z5), .val (.int kk), .val (.int (4 : Int32)), .val (.int q), .val (.int ld), .val (.ref b), .val (.int u1), .val (.int u2), .val (.int u3), .val (.int (128 : Int32)), .val (.int (191 : Int32)), .val (.int (1 : Int32)), .val (.int (((((ld - (240 : Int32)) * (262144 : Int32)) + ((u1 - (128 : Int32)) * (4096 : Int32))) + ((u2 - (128 : Int32)) * (64 : Int32))) + (u3 - (128 : Int32))))]) (st' := []) rfl ?_
                generalize eex : (((((ld - (240 : Int32)) * (262144 : Int32)) + ((u1 - (128 : Int32)) * (4096 : Int32))) + ((u2 - (128 : Int32)) * (64 : Int32))) + (u3 - (128 : Int32))) = ex
                have hex := own_e4 (ld := ld) (u1 := u1) (u2 := u2) (u3 := u3) (by omega) (by omega) (by omega) (by omega)
                rw [eex] at hex
                refine own_blk X55 B0_437_443 B0_437_443d (ls' := #[.val (.int z0), .val (.int z1), .val (.int z2), .val (.int z3), .val (.int z4), .val (.int z5), .val (.int kk), .val (.int (4 : Int32)), .val (.int q), .val (.int ld), .val (.ref b), .val (.int u1), .val (.int u2), .val (.int u3), .val (.int (128 : Int32)), .val (.int (191 : Int32)), .val (.int (1 : Int32)), .val (.int ex)]) (st' := [(.int (4 : Int32)), (.int q), (.ref b)]) rfl ?_
                refine own_callS X55 (hw _ (List.mem_of_getElem? (i := 2) rfl)) (hw _ (List.mem_of_getElem? (i := 3) rfl)) (hw _ (List.mem_of_getElem? (i := 4) rfl)) (hw _ (List.mem_of_getElem? (i := 5) rfl)) (by decide) (c_cp4 l Z a0 hw b q g51 h51 n0 X55.2.1 A51 hq) d0_443 [(.ref b), (.int q), (.int (4 : Int32))] [] rfl rfl pd1 rfl rfl (by decide) (Nat.le_of_ble_eq_true rfl) (by decide) (by decide) (fun _ _ q => by obtain ⟨_, _, q2, _⟩ := q; rw [q2]; exact X55.2.1) (fun v56 h56 T56 X56 q56 => ?_)
                obtain ⟨z56, rfl, e56, hz56⟩ := q56
                rw [e56] at X56
                show own_G p e below (T56.setTop (mkF m 446 #[.val (.int z0), .val (.int z1), .val (.int z2), .val (.int z3), .val (.int z4), .val (.int z5), .val (.int kk), .val (.int (4 : Int32)), .val (.int q), .val (.int ld), .val (.ref b), .val (.int u1), .val (.int u2), .val (.int u3), .val (.int (128 : Int32)), .val (.int (191 : Int32)), .val (.int (1 : Int32)), .val (.int ex)] [(.int z56)])) _
                rw [r0, r1, r2, r3] at hz56
                refine own_blk X56 B0_446_448 B0_446_448d (ls' := #[.val (.int z0), .val (.int z1), .val (.int z2), .val (.int z3), .val (.int z4), .val (.int z5), .val (.int kk), .val (.int (4 : Int32)), .val (.int q), .val (.int ld), .val (.ref b), .val (.int u1), .val (.int u2), .val (.int u3), .val (.int (128 : Int32)), .val (.int (191 : Int32)), .val (.int (1 : Int32)), .val (.int ex)]) (st' := [(.int ex), (.int z56)]) rfl ?_
                refine own_icmp X56 d0_448 (pc' := 455) (by decide) (fun (c448 : ¬ z56.toInt = ex.toInt) => by exfalso; omega) (fun c448 => ?_)
                have c448 : ¬ (¬ z56.toInt = ex.toInt) := c448
                refine own_blk X56 B0_451_452 B0_451_452d (ls' := #[.val (.int z0), .val (.int z1), .val (.int z2), .val (.int z3), .val (.int z4), .val (.int z5), .val (.int kk), .val (.int (4 : Int32)), .val (.int q), .val (.int ld), .val (.ref b), .val (.int u1), .val (.int u2), .val (.int u3), .val (.int (128 : Int32)), .val (.int (191 : Int32)), .val (.int (1 : Int32)), .val (.int ex)]) (st' := [(.int (1 : Int32))]) rfl ?_
                refine own_goto X56 d0_452 (pc' := 456) (by decide) ?_
                exact own_retN X56 (by simp) d0_456 (v' := (1 : Int32)) (rfl) (by decide) (by decide) (rfl)
              · rw [own_ic, if_neg hi_u3]
                refine own_if X55 d0_315 (pc' := 322) (by decide) (fun c315 => ?_) (fun (c315 : ¬ ((0 : Int) = 0)) => by exfalso; omega)
                have c315 : (0 : Int) = 0 := c315
                refine own_blk X55 B0_322_330 B0_322_330d (ls' := #[.val (.int z0), .val (.int z1), .val (.int z2), .val (.int z3), .val (.int z4), .val (.int z5), .val (.int kk), .val (.int (4 : Int32)), .val (.int q), .val (.int ld), .val (.ref b), .val (.int u1), .val (.int u2), .val (.int u3), .val (.int (128 : Int32)), .val (.int (191 : Int32)), .val (.int (0 : Int32)), .val (.int (-1 : Int32))]) (st' := [(.int (0 : Int32))]) rfl ?_
                refine own_if X55 d0_330 (pc' := 437) (by decide) (fun c330 => ?_) (fun (c330 : ¬ ((0 : Int) = 0)) => by exfalso; omega)
                have c330 : (0 : Int) = 0 := c330
                refine own_blk X55 B0_437_443 B0_437_443d (ls' := #[.val (.int z0), .val (.int z1), .val (.int z2), .val (.int z3), .val (.int z4), .val (.int z5), .val (.int kk), .val (.int (4 : Int32)), .val (.int q), .val (.int ld), .val (.ref b), .val (.int u1), .val (.int u2), .val (.int u3), .val (.int (128 : Int32)), .val (.int (191 : Int32)), .val (.int (0 : Int32)), .val (.int (-1 : Int32))]) (st' := [(.int (4 : Int32)), (.int q), (.ref b)]) rfl ?_
                refine own_callS X55 (hw _ (List.mem_of_getElem? (i := 2) rfl)) (hw _ (List.mem_of_getElem? (i := 3) rfl)) (hw _ (List.mem_of_getElem? (i := 4) rfl)) (hw _ (List.mem_of_getElem? (i := 5) rfl)) (by decide) (c_cp4 l Z a0 hw b q g51 h51 n0 X55.2.1 A51 hq) d0_443 [(.ref b), (.int q), (.int (4 : Int32))] [] rfl rfl pd1 rfl rfl (by decide) (Nat.le_of_ble_eq_true rfl) (by decide) (by decide) (fun _ _ q => by obtain ⟨_, _, q2, _⟩ := q; rw [q2]; exact X55.2.1) (fun v57 h57 T57 X57 q57 => ?_)
                obtain ⟨z57, rfl, e57, hz57⟩ := q57
                rw [e57] at X57
                show own_G p e below (T57.setTop (mkF m 446 #[.val (.int z0), .val (.int z1), .val (.int z2), .val (.int z3), .val (.int z4), .val (.int z5), .val (.int kk), .val (.int (4 : Int32)), .val (.int q), .val (.int ld), .val (.ref b), .val (.int u1), .val (.int u2), .val (.int u3), .val (.int (128 : Int32)), .val (.int (191 : Int32)), .val (.int (0 : Int32)), .val (.int (-1 : Int32))] [(.int z57)])) _
                rw [r0, r1, r2, r3] at hz57
                refine own_blk X57 B0_446_448 B0_446_448d (ls' := #[.val (.int z0), .val (.int z1), .val (.int z2), .val (.int z3), .val (.int z4), .val (.int z5), .val (.int kk), .val (.int (4 : Int32)), .val (.int q), .val (.int ld), .val (.ref b), .val (.int u1), .val (.int u2), .val (.int u3), .val (.int (128 : Int32)), .val (.int (191 : Int32)), .val (.int (0 : Int32)), .val (.int (-1 : Int32))]) (st' := [(.int (-1 : Int32)), (.int z57)]) rfl ?_
                refine own_icmp X57 d0_448 (pc' := 455) (by decide) (fun (c448 : ¬ z57.toInt = -1) => by exfalso; omega) (fun c448 => ?_)
                have c448 : ¬ (¬ z57.toInt = -1) := c448
                refine own_blk X57 B0_451_452 B0_451_452d (ls' := #[.val (.int z0), .val (.int z1), .val (.int z2), .val (.int z3), .val (.int z4), .val (.int z5), .val (.int kk), .val (.int (4 : Int32)), .val (.int q), .val (.int ld), .val (.ref b), .val (.int u1), .val (.int u2), .val (.int u3), .val (.int (128 : Int32)), .val (.int (191 : Int32)), .val (.int (0 : Int32)), .val (.int (-1 : Int32))]) (st' := [(.int (1 : Int32))]) rfl ?_
                refine own_goto X57 d0_452 (pc' := 456) (by decide) ?_
                exact own_retN X57 (by simp) d0_456 (v' := (1 : Int32)) (rfl) (by decide) (by decide) (rfl)
            · rw [own_ic, if_neg hi_u2]
              refine own_if X54 d0_289 (pc' := 296) (by decide) (fun c289 => ?_) (fun (c289 : ¬ ((0 : Int) = 0)) => by exfalso; omega)
              have c289 : (0 : Int) = 0 := c289
              refine own_blk X54 B0_296_302 B0_296_302d (ls' := #[.val (.int z0), .val (.int z1), .val (.int z2), .val (.int z3), .val (.int z4), .val (.int z5), .val (.int kk), .val (.int (4 : Int32)), .val (.int q), .val (.int ld), .val (.ref b), .val (.int u1), .val (.int u2), .val (.int u3), .val (.int (128 : Int32)), .val (.int (191 : Int32)), .val (.int (0 : Int32)), .unset]) (st' := [(.int (3 : Int32)), (.int (4 : Int32))]) rfl ?_
              refine own_icmp X54 d0_302 (pc' := 325) (by decide) (fun (c302 : (4 : Int) ≤ 3) => by exfalso; omega) (fun c302 => ?_)
              have c302 : ¬ ((4 : Int) ≤ 3) := c302
              refine own_blk X54 B0_305_307 B0_305_307d (ls' := #[.val (.int z0), .val (.int z1), .val (.int z2), .val (.int z3), .val (.int z4), .val (.int z5), .val (.int kk), .val (.int (4 : Int32)), .val (.int q), .val (.int ld), .val (.ref b), .val (.int u1), .val (.int u2), .val (.int u3), .val (.int (128 : Int32)), .val (.int (191 : Int32)), .val (.int (0 : Int32)), .unset]) (st' := [(.int (0 : Int32))]) rfl ?_
              refine own_if X54 d0_307 (pc' := 322) (by decide) (fun c307 => ?_) (fun (c307 : ¬ ((0 : Int) = 0)) => by exfalso; omega)
              have c307 : (0 : Int) = 0 := c307
              refine own_blk X54 B0_322_330 B0_322_330d (ls' := #[.val (.int z0), .val (.int z1), .val (.int z2), .val (.int z3), .val (.int z4), .val (.int z5), .val (.int kk), .val (.int (4 : Int32)), .val (.int q), .val (.int ld), .val (.ref b), .val (.int u1), .val (.int u2), .val (.int u3), .val (.int (128 : Int32)), .val (.int (191 : Int32)), .val (.int (0 : Int32)), .val (.int (-1 : Int32))]) (st' := [(.int (0 : Int32))]) rfl ?_
              refine own_if X54 d0_330 (pc' := 437) (by decide) (fun c330 => ?_) (fun (c330 : ¬ ((0 : Int) = 0)) => by exfalso; omega)
              have c330 : (0 : Int) = 0 := c330
              refine own_blk X54 B0_437_443 B0_437_443d (ls' := #[.val (.int z0), .val (.int z1), .val (.int z2), .val (.int z3), .val (.int z4), .val (.int z5), .val (.int kk), .val (.int (4 : Int32)), .val (.int q), .val (.int ld), .val (.ref b), .val (.int u1), .val (.int u2), .val (.int u3), .val (.int (128 : Int32)), .val (.int (191 : Int32)), .val (.int (0 : Int32)), .val (.int (-1 : Int32))]) (st' := [(.int (4 : Int32)), (.int q), (.ref b)]) rfl ?_
              refine own_callS X54 (hw _ (List.mem_of_getElem? (i := 2) rfl)) (hw _ (List.mem_of_getElem? (i := 3) rfl)) (hw _ (List.mem_of_getElem? (i := 4) rfl)) (hw _ (List.mem_of_getElem? (i := 5) rfl)) (by decide) (c_cp4 l Z a0 hw b q g51 h51 n0 X54.2.1 A51 hq) d0_443 [(.ref b), (.int q), (.int (4 : Int32))] [] rfl rfl pd1 rfl rfl (by decide) (Nat.le_of_ble_eq_true rfl) (by decide) (by decide) (fun _ _ q => by obtain ⟨_, _, q2, _⟩ := q; rw [q2]; exact X54.2.1) (fun v58 h58 T58 X58 q58 => ?_)
              obtain ⟨z58, rfl, e58, hz58⟩ := q58
              rw [e58] at X58
              show own_G p e below (T58.setTop (mkF m 446 #[.val (.int z0), .val (.int z1), .val (.int z2), .val (.int z3), .val (.int z4), .val (.int z5), .val (.int kk), .val (.int (4 : Int32)), .val (.int q), .val (.int ld), .val (.ref b), .val (.int u1), .val (.int u2), .val (.int u3), .val (.int (128 : Int32)), .val (.int (191 : Int32)), .val (.int (0 : Int32)), .val (.int (-1 : Int32))] [(.int z58)])) _
              rw [r0, r1, r2, r3] at hz58
              refine own_blk X58 B0_446_448 B0_446_448d (ls' := #[.val (.int z0), .val (.int z1), .val (.int z2), .val (.int z3), .val (.int z4), .val (.int z5), .val (.int kk), .val (.int (4 : Int32)), .val (.int q), .val (.int ld), .val (.ref b), .val (.int u1), .val (.int u2), .val (.int u3), .val (.int (128 : Int32)), .val (.int (191 : Int32)), .val (.int (0 : Int32)), .val (.int (-1 : Int32))]) (st' := [(.int (-1 : Int32)), (.int z58)]) rfl ?_
              refine own_icmp X58 d0_448 (pc' := 455) (by decide) (fun (c448 : ¬ z58.toInt = -1) => by exfalso; omega) (fun c448 => ?_)
              have c448 : ¬ (¬ z58.toInt = -1) := c448
              refine own_blk X58 B0_451_452 B0_451_452d (ls' := #[.val (.int z0), .val (.int z1), .val (.int z2), .val (.int z3), .val (.int z4), .val (.int z5), .val (.int kk), .val (.int (4 : Int32)), .val (.int q), .val (.int ld), .val (.ref b), .val (.int u1), .val (.int u2), .val (.int u3), .val (.int (128 : Int32)), .val (.int (191 : Int32)), .val (.int (0 : Int32)), .val (.int (-1 : Int32))]) (st' := [(.int (1 : Int32))]) rfl ?_
              refine own_goto X58 d0_452 (pc' := 456) (by decide) ?_
              exact own_retN X58 (by simp) d0_456 (v' := (1 : Int32)) (rfl) (by decide) (by decide) (rfl)
      · have c244 : ¬ (¬ ld.toInt = 244) := c244
        refine own_blk X51 B0_247_256 B0_247_256d (ls' := #[.val (.int z0), .val (.int z1), .val (.int z2), .val (.int z3), .val (.int z4), .val (.int z5), .val (.int kk), .val (.int (4 : Int32)), .val (.int q), .val (.int ld), .val (.ref b), .val (.int u1), .val (.int u2), .val (.int u3), .val (.int (128 : Int32)), .val (.int (143 : Int32)), .unset, .unset]) (st' := [(.int (128 : Int32)), (.int u1)]) rfl ?_
        refine own_icmp X51 d0_256 (pc' := 270) (by decide) (fun c256 => ?_) (fun c256 => ?_)
        · have c256 : u1.toInt < 128 := c256
          refine own_blk X51 B0_270_276 B0_270_276d (ls' := #[.val (.int z0), .val (.int z1), .val (.int z2), .val (.int z3), .val (.int z4), .val (.int z5), .val (.int kk), .val (.int (4 : Int32)), .val (.int q), .val (.int ld), .val (.ref b), .val (.int u1), .val (.int u2), .val (.int u3), .val (.int (128 : Int32)), .val (.int (143 : Int32)), .val (.int (0 : Int32)), .unset]) (st' := [(.int (2 : Int32)), (.int (4 : Int32))]) rfl ?_
          refine own_icmp X51 d0_276 (pc' := 299) (by decide) (fun (c276 : (4 : Int) ≤ 2) => by exfalso; omega) (fun c276 => ?_)
          have c276 : ¬ ((4 : Int) ≤ 2) := c276
          refine own_blk X51 B0_279_281 B0_279_281d (ls' := #[.val (.int z0), .val (.int z1), .val (.int z2), .val (.int z3), .val (.int z4), .val (.int z5), .val (.int kk), .val (.int (4 : Int32)), .val (.int q), .val (.int ld), .val (.ref b), .val (.int u1), .val (.int u2), .val (.int u3), .val (.int (128 : Int32)), .val (.int (143 : Int32)), .val (.int (0 : Int32)), .unset]) (st' := [(.int (0 : Int32))]) rfl ?_
          refine own_if X51 d0_281 (pc' := 296) (by decide) (fun c281 => ?_) (fun (c281 : ¬ ((0 : Int) = 0)) => by exfalso; omega)
          have c281 : (0 : Int) = 0 := c281
          refine own_blk X51 B0_296_302 B0_296_302d (ls' := #[.val (.int z0), .val (.int z1), .val (.int z2), .val (.int z3), .val (.int z4), .val (.int z5), .val (.int kk), .val (.int (4 : Int32)), .val (.int q), .val (.int ld), .val (.ref b), .val (.int u1), .val (.int u2), .val (.int u3), .val (.int (128 : Int32)), .val (.int (143 : Int32)), .val (.int (0 : Int32)), .unset]) (st' := [(.int (3 : Int32)), (.int (4 : Int32))]) rfl ?_
          refine own_icmp X51 d0_302 (pc' := 325) (by decide) (fun (c302 : (4 : Int) ≤ 3) => by exfalso; omega) (fun c302 => ?_)
          have c302 : ¬ ((4 : Int) ≤ 3) := c302
          refine own_blk X51 B0_305_307 B0_305_307d (ls' := #[.val (.int z0), .val (.int z1), .val (.int z2), .val (.int z3), .val (.int z4), .val (.int z5), .val (.int kk), .val (.int (4 : Int32)), .val (.int q), .val (.int ld), .val (.ref b), .val (.int u1), .val (.int u2), .val (.int u3), .val (.int (128 : Int32)), .val (.int (143 : Int32)), .val (.int (0 : Int32)), .unset]) (st' := [(.int (0 : Int32))]) rfl ?_
          refine own_if X51 d0_307 (pc' := 322) (by decide) (fun c307 => ?_) (fun (c307 : ¬ ((0 : Int) = 0)) => by exfalso; omega)
          have c307 : (0 : Int) = 0 := c307
          refine own_blk X51 B0_322_330 B0_322_330d (ls' := #[.val (.int z0), .val (.int z1), .val (.int z2), .val (.int z3), .val (.int z4), .val (.int z5), .val (.int kk), .val (.int (4 : Int32)), .val (.int q), .val (.int ld), .val (.ref b), .val (.int u1), .val (.int u2), .val (.int u3), .val (.int (128 : Int32)), .val (.int (143 : Int32)), .val (.int (0 : Int32)), .val (.int (-1 : Int32))]) (st' := [(.int (0 : Int32))]) rfl ?_
          refine own_if X51 d0_330 (pc' := 437) (by decide) (fun c330 => ?_) (fun (c330 : ¬ ((0 : Int) = 0)) => by exfalso; omega)
          have c330 : (0 : Int) = 0 := c330
          refine own_blk X51 B0_437_443 B0_437_443d (ls' := #[.val (.int z0), .val (.int z1), .val (.int z2), .val (.int z3), .val (.int z4), .val (.int z5), .val (.int kk), .val (.int (4 : Int32)), .val (.int q), .val (.int ld), .val (.ref b), .val (.int u1), .val (.int u2), .val (.int u3), .val (.int (128 : Int32)), .val (.int (143 : Int32)), .val (.int (0 : Int32)), .val (.int (-1 : Int32))]) (st' := [(.int (4 : Int32)), (.int q), (.ref b)]) rfl ?_
          refine own_callS X51 (hw _ (List.mem_of_getElem? (i := 2) rfl)) (hw _ (List.mem_of_getElem? (i := 3) rfl)) (hw _ (List.mem_of_getElem? (i := 4) rfl)) (hw _ (List.mem_of_getElem? (i := 5) rfl)) (by decide) (c_cp4 l Z a0 hw b q g51 h51 n0 X51.2.1 A51 hq) d0_443 [(.ref b), (.int q), (.int (4 : Int32))] [] rfl rfl pd1 rfl rfl (by decide) (Nat.le_of_ble_eq_true rfl) (by decide) (by decide) (fun _ _ q => by obtain ⟨_, _, q2, _⟩ := q; rw [q2]; exact X51.2.1) (fun v59 h59 T59 X59 q59 => ?_)
          obtain ⟨z59, rfl, e59, hz59⟩ := q59
          rw [e59] at X59
          show own_G p e below (T59.setTop (mkF m 446 #[.val (.int z0), .val (.int z1), .val (.int z2), .val (.int z3), .val (.int z4), .val (.int z5), .val (.int kk), .val (.int (4 : Int32)), .val (.int q), .val (.int ld), .val (.ref b), .val (.int u1), .val (.int u2), .val (.int u3), .val (.int (128 : Int32)), .val (.int (143 : Int32)), .val (.int (0 : Int32)), .val (.int (-1 : Int32))] [(.int z59)])) _
          rw [r0, r1, r2, r3] at hz59
          refine own_blk X59 B0_446_448 B0_446_448d (ls' := #[.val (.int z0), .val (.int z1), .val (.int z2), .val (.int z3), .val (.int z4), .val (.int z5), .val (.int kk), .val (.int (4 : Int32)), .val (.int q), .val (.int ld), .val (.ref b), .val (.int u1), .val (.int u2), .val (.int u3), .val (.int (128 : Int32)), .val (.int (143 : Int32)), .val (.int (0 : Int32)), .val (.int (-1 : Int32))]) (st' := [(.int (-1 : Int32)), (.int z59)]) rfl ?_
          refine own_icmp X59 d0_448 (pc' := 455) (by decide) (fun (c448 : ¬ z59.toInt = -1) => by exfalso; omega) (fun c448 => ?_)
          have c448 : ¬ (¬ z59.toInt = -1) := c448
          refine own_blk X59 B0_451_452 B0_451_452d (ls' := #[.val (.int z0), .val (.int z1), .val (.int z2), .val (.int z3), .val (.int z4), .val (.int z5), .val (.int kk), .val (.int (4 : Int32)), .val (.int q), .val (.int ld), .val (.ref b), .val (.int u1), .val (.int u2), .val (.int u3), .val (.int (128 : Int32)), .val (.int (143 : Int32)), .val (.int (0 : Int32)), .val (.int (-1 : Int32))]) (st' := [(.int (1 : Int32))]) rfl ?_
          refine own_goto X59 d0_452 (pc' := 456) (by decide) ?_
          exact own_retN X59 (by simp) d0_456 (v' := (1 : Int32)) (rfl) (by decide) (by decide) (rfl)
        · have c256 : ¬ (u1.toInt < 128) := c256
          refine own_blk X51 B0_259_263 B0_259_263d (ls' := #[.val (.int z0), .val (.int z1), .val (.int z2), .val (.int z3), .val (.int z4), .val (.int z5), .val (.int kk), .val (.int (4 : Int32)), .val (.int q), .val (.int ld), .val (.ref b), .val (.int u1), .val (.int u2), .val (.int u3), .val (.int (128 : Int32)), .val (.int (143 : Int32)), .unset, .unset]) (st' := [(.int (143 : Int32)), (.int u1)]) rfl ?_
          refine own_icmp X51 d0_263 (pc' := 270) (by decide) (fun c263 => ?_) (fun c263 => ?_)
          · have c263 : 143 < u1.toInt := c263
            refine own_blk X51 B0_270_276 B0_270_276d (ls' := #[.val (.int z0), .val (.int z1), .val (.int z2), .val (.int z3), .val (.int z4), .val (.int z5), .val (.int kk), .val (.int (4 : Int32)), .val (.int q), .val (.int ld), .val (.ref b), .val (.int u1), .val (.int u2), .val (.int u3), .val (.int (128 : Int32)), .val (.int (143 : Int32)), .val (.int (0 : Int32)), .unset]) (st' := [(.int (2 : Int32)), (.int (4 : Int32))]) rfl ?_
            refine own_icmp X51 d0_276 (pc' := 299) (by decide) (fun (c276 : (4 : Int) ≤ 2) => by exfalso; omega) (fun c276 => ?_)
            have c276 : ¬ ((4 : Int) ≤ 2) := c276
            refine own_blk X51 B0_279_281 B0_279_281d (ls' := #[.val (.int z0), .val (.int z1), .val (.int z2), .val (.int z3), .val (.int z4), .val (.int z5), .val (.int kk), .val (.int (4 : Int32)), .val (.int q), .val (.int ld), .val (.ref b), .val (.int u1), .val (.int u2), .val (.int u3), .val (.int (128 : Int32)), .val (.int (143 : Int32)), .val (.int (0 : Int32)), .unset]) (st' := [(.int (0 : Int32))]) rfl ?_
            refine own_if X51 d0_281 (pc' := 296) (by decide) (fun c281 => ?_) (fun (c281 : ¬ ((0 : Int) = 0)) => by exfalso; omega)
            have c281 : (0 : Int) = 0 := c281
            refine own_blk X51 B0_296_302 B0_296_302d (ls' := #[.val (.int z0), .val (.int z1), .val (.int z2), .val (.int z3), .val (.int z4), .val (.int z5), .val (.int kk), .val (.int (4 : Int32)), .val (.int q), .val (.int ld), .val (.ref b), .val (.int u1), .val (.int u2), .val (.int u3), .val (.int (128 : Int32)), .val (.int (143 : Int32)), .val (.int (0 : Int32)), .unset]) (st' := [(.int (3 : Int32)), (.int (4 : Int32))]) rfl ?_
            refine own_icmp X51 d0_302 (pc' := 325) (by decide) (fun (c302 : (4 : Int) ≤ 3) => by exfalso; omega) (fun c302 => ?_)
            have c302 : ¬ ((4 : Int) ≤ 3) := c302
            refine own_blk X51 B0_305_307 B0_305_307d (ls' := #[.val (.int z0), .val (.int z1), .val (.int z2), .val (.int z3), .val (.int z4), .val (.int z5), .val (.int kk), .val (.int (4 : Int32)), .val (.int q), .val (.int ld), .val (.ref b), .val (.int u1), .val (.int u2), .val (.int u3), .val (.int (128 : Int32)), .val (.int (143 : Int32)), .val (.int (0 : Int32)), .unset]) (st' := [(.int (0 : Int32))]) rfl ?_
            refine own_if X51 d0_307 (pc' := 322) (by decide) (fun c307 => ?_) (fun (c307 : ¬ ((0 : Int) = 0)) => by exfalso; omega)
            have c307 : (0 : Int) = 0 := c307
            refine own_blk X51 B0_322_330 B0_322_330d (ls' := #[.val (.int z0), .val (.int z1), .val (.int z2), .val (.int z3), .val (.int z4), .val (.int z5), .val (.int kk), .val (.int (4 : Int32)), .val (.int q), .val (.int ld), .val (.ref b), .val (.int u1), .val (.int u2), .val (.int u3), .val (.int (128 : Int32)), .val (.int (143 : Int32)), .val (.int (0 : Int32)), .val (.int (-1 : Int32))]) (st' := [(.int (0 : Int32))]) rfl ?_
            refine own_if X51 d0_330 (pc' := 437) (by decide) (fun c330 => ?_) (fun (c330 : ¬ ((0 : Int) = 0)) => by exfalso; omega)
            have c330 : (0 : Int) = 0 := c330
            refine own_blk X51 B0_437_443 B0_437_443d (ls' := #[.val (.int z0), .val (.int z1), .val (.int z2), .val (.int z3), .val (.int z4), .val (.int z5), .val (.int kk), .val (.int (4 : Int32)), .val (.int q), .val (.int ld), .val (.ref b), .val (.int u1), .val (.int u2), .val (.int u3), .val (.int (128 : Int32)), .val (.int (143 : Int32)), .val (.int (0 : Int32)), .val (.int (-1 : Int32))]) (st' := [(.int (4 : Int32)), (.int q), (.ref b)]) rfl ?_
            refine own_callS X51 (hw _ (List.mem_of_getElem? (i := 2) rfl)) (hw _ (List.mem_of_getElem? (i := 3) rfl)) (hw _ (List.mem_of_getElem? (i := 4) rfl)) (hw _ (List.mem_of_getElem? (i := 5) rfl)) (by decide) (c_cp4 l Z a0 hw b q g51 h51 n0 X51.2.1 A51 hq) d0_443 [(.ref b), (.int q), (.int (4 : Int32))] [] rfl rfl pd1 rfl rfl (by decide) (Nat.le_of_ble_eq_true rfl) (by decide) (by decide) (fun _ _ q => by obtain ⟨_, _, q2, _⟩ := q; rw [q2]; exact X51.2.1) (fun v60 h60 T60 X60 q60 => ?_)
            obtain ⟨z60, rfl, e60, hz60⟩ := q60
            rw [e60] at X60
            show own_G p e below (T60.setTop (mkF m 446 #[.val (.int z0), .val (.int z1), .val (.int z2), .val (.int z3), .val (.int z4), .val (.int z5), .val (.int kk), .val (.int (4 : Int32)), .val (.int q), .val (.int ld), .val (.ref b), .val (.int u1), .val (.int u2), .val (.int u3), .val (.int (128 : Int32)), .val (.int (143 : Int32)), .val (.int (0 : Int32)), .val (.int (-1 : Int32))] [(.int z60)])) _
            rw [r0, r1, r2, r3] at hz60
            refine own_blk X60 B0_446_448 B0_446_448d (ls' := #[.val (.int z0), .val (.int z1), .val (.int z2), .val (.int z3), .val (.int z4), .val (.int z5), .val (.int kk), .val (.int (4 : Int32)), .val (.int q), .val (.int ld), .val (.ref b), .val (.int u1), .val (.int u2), .val (.int u3), .val (.int (128 : Int32)), .val (.int (143 : Int32)), .val (.int (0 : Int32)), .val (.int (-1 : Int32))]) (st' := [(.int (-1 : Int32)), (.int z60)]) rfl ?_
            refine own_icmp X60 d0_448 (pc' := 455) (by decide) (fun (c448 : ¬ z60.toInt = -1) => by exfalso; omega) (fun c448 => ?_)
            have c448 : ¬ (¬ z60.toInt = -1) := c448
            refine own_blk X60 B0_451_452 B0_451_452d (ls' := #[.val (.int z0), .val (.int z1), .val (.int z2), .val (.int z3), .val (.int z4), .val (.int z5), .val (.int kk), .val (.int (4 : Int32)), .val (.int q), .val (.int ld), .val (.ref b), .val (.int u1), .val (.int u2), .val (.int u3), .val (.int (128 : Int32)), .val (.int (143 : Int32)), .val (.int (0 : Int32)), .val (.int (-1 : Int32))]) (st' := [(.int (1 : Int32))]) rfl ?_
            refine own_goto X60 d0_452 (pc' := 456) (by decide) ?_
            exact own_retN X60 (by simp) d0_456 (v' := (1 : Int32)) (rfl) (by decide) (by decide) (rfl)
          · have c263 : ¬ (143 < u1.toInt) := c263
            refine own_blk X51 B0_266_267 B0_266_267d (ls' := #[.val (.int z0), .val (.int z1), .val (.int z2), .val (.int z3), .val (.int z4), .val (.int z5), .val (.int kk), .val (.int (4 : Int32)), .val (.int q), .val (.int ld), .val (.ref b), .val (.int u1), .val (.int u2), .val (.int u3), .val (.int (128 : Int32)), .val (.int (143 : Int32)), .unset, .unset]) (st' := [(.int (1 : Int32))]) rfl ?_
            refine own_goto X51 d0_267 (pc' := 271) (by decide) ?_
            refine own_blk X51 B0_271_276 B0_271_276d (ls' := #[.val (.int z0), .val (.int z1), .val (.int z2), .val (.int z3), .val (.int z4), .val (.int z5), .val (.int kk), .val (.int (4 : Int32)), .val (.int q), .val (.int ld), .val (.ref b), .val (.int u1), .val (.int u2), .val (.int u3), .val (.int (128 : Int32)), .val (.int (143 : Int32)), .val (.int (1 : Int32)), .unset]) (st' := [(.int (2 : Int32)), (.int (4 : Int32))]) rfl ?_
            refine own_icmp X51 d0_276 (pc' := 299) (by decide) (fun (c276 : (4 : Int) ≤ 2) => by exfalso; omega) (fun c276 => ?_)
            have c276 : ¬ ((4 : Int) ≤ 2) := c276
            refine own_blk X51 B0_279_281 B0_279_281d (ls' := #[.val (.int z0), .val (.int z1), .val (.int z2), .val (.int z3), .val (.int z4), .val (.int z5), .val (.int kk), .val (.int (4 : Int32)), .val (.int q), .val (.int ld), .val (.ref b), .val (.int u1), .val (.int u2), .val (.int u3), .val (.int (128 : Int32)), .val (.int (143 : Int32)), .val (.int (1 : Int32)), .unset]) (st' := [(.int (1 : Int32))]) rfl ?_
            refine own_if X51 d0_281 (pc' := 296) (by decide) (fun (c281 : (1 : Int) = 0) => by exfalso; omega) (fun c281 => ?_)
            have c281 : ¬ ((1 : Int) = 0) := c281
            refine own_blk X51 B0_284_286 B0_284_286d (ls' := #[.val (.int z0), .val (.int z1), .val (.int z2), .val (.int z3), .val (.int z4), .val (.int z5), .val (.int kk), .val (.int (4 : Int32)), .val (.int q), .val (.int ld), .val (.ref b), .val (.int u1), .val (.int u2), .val (.int u3), .val (.int (128 : Int32)), .val (.int (143 : Int32)), .val (.int (1 : Int32)), .unset]) (st' := [(.int u2)]) rfl ?_
            refine own_callP X51 (hw _ (List.mem_of_getElem? (i := 9) rfl)) (hw _ (List.mem_of_getElem? (i := 10) rfl)) (hw _ (List.mem_of_getElem? (i := 11) rfl)) (hw _ (List.mem_of_getElem? (i := 12) rfl)) (by decide) (c_ic l Z a0 hw u2 h51 n0 X51.2.1) d0_286 [(.int u2)] [] rfl rfl pd2 rfl rfl (by decide) (Nat.le_of_ble_eq_true rfl) (by decide) (by decide) (fun T61 X61 => ?_)
            show own_G p e below (T61.setTop (mkF m 289 #[.val (.int z0), .val (.int z1), .val (.int z2), .val (.int z3), .val (.int z4), .val (.int z5), .val (.int kk), .val (.int (4 : Int32)), .val (.int q), .val (.int ld), .val (.ref b), .val (.int u1), .val (.int u2), .val (.int u3), .val (.int (128 : Int32)), .val (.int (143 : Int32)), .val (.int (1 : Int32)), .unset] [(.int (own_ic u2))])) _
            by_cases hi_u2 : 128 ≤ u2.toInt ∧ u2.toInt ≤ 191
            · rw [own_ic, if_pos hi_u2]
              refine own_if X61 d0_289 (pc' := 296) (by decide) (fun (c289 : (1 : Int) = 0) => by exfalso; omega) (fun c289 => ?_)
              have c289 : ¬ ((1 : Int) = 0) := c289
              refine own_blk X61 B0_292_293 B0_292_293d (ls' := #[.val (.int z0), .val (.int z1), .val (.int z2), .val (.int z3), .val (.int z4), .val (.int z5), .val (.int kk), .val (.int (4 : Int32)), .val (.int q), .val (.int ld), .val (.ref b), .val (.int u1), .val (.int u2), .val (.int u3), .val (.int (128 : Int32)), .val (.int (143 : Int32)), .val (.int (1 : Int32)), .unset]) (st' := [(.int (1 : Int32))]) rfl ?_
              refine own_goto X61 d0_293 (pc' := 297) (by decide) ?_
              refine own_blk X61 B0_297_302 B0_297_302d (ls' := #[.val (.int z0), .val (.int z1), .val (.int z2), .val (.int z3), .val (.int z4), .val (.int z5), .val (.int kk), .val (.int (4 : Int32)), .val (.int q), .val (.int ld), .val (.ref b), .val (.int u1), .val (.int u2), .val (.int u3), .val (.int (128 : Int32)), .val (.int (143 : Int32)), .val (.int (1 : Int32)), .unset]) (st' := [(.int (3 : Int32)), (.int (4 : Int32))]) rfl ?_
              refine own_icmp X61 d0_302 (pc' := 325) (by decide) (fun (c302 : (4 : Int) ≤ 3) => by exfalso; omega) (fun c302 => ?_)
              have c302 : ¬ ((4 : Int) ≤ 3) := c302
              refine own_blk X61 B0_305_307 B0_305_307d (ls' := #[.val (.int z0), .val (.int z1), .val (.int z2), .val (.int z3), .val (.int z4), .val (.int z5), .val (.int kk), .val (.int (4 : Int32)), .val (.int q), .val (.int ld), .val (.ref b), .val (.int u1), .val (.int u2), .val (.int u3), .val (.int (128 : Int32)), .val (.int (143 : Int32)), .val (.int (1 : Int32)), .unset]) (st' := [(.int (1 : Int32))]) rfl ?_
              refine own_if X61 d0_307 (pc' := 322) (by decide) (fun (c307 : (1 : Int) = 0) => by exfalso; omega) (fun c307 => ?_)
              have c307 : ¬ ((1 : Int) = 0) := c307
              refine own_blk X61 B0_310_312 B0_310_312d (ls' := #[.val (.int z0), .val (.int z1), .val (.int z2), .val (.int z3), .val (.int z4), .val (.int z5), .val (.int kk), .val (.int (4 : Int32)), .val (.int q), .val (.int ld), .val (.ref b), .val (.int u1), .val (.int u2), .val (.int u3), .val (.int (128 : Int32)), .val (.int (143 : Int32)), .val (.int (1 : Int32)), .unset]) (st' := [(.int u3)]) rfl ?_
              refine own_callP X61 (hw _ (List.mem_of_getElem? (i := 9) rfl)) (hw _ (List.mem_of_getElem? (i := 10) rfl)) (hw _ (List.mem_of_getElem? (i := 11) rfl)) (hw _ (List.mem_of_getElem? (i := 12) rfl)) (by decide) (c_ic l Z a0 hw u3 h51 n0 X61.2.1) d0_312 [(.int u3)] [] rfl rfl pd2 rfl rfl (by decide) (Nat.le_of_ble_eq_true rfl) (by decide) (by decide) (fun T62 X62 => ?_)
              show own_G p e below (T62.setTop (mkF m 315 #[.val (.int z0), .val (.int z1), .val (.int z2), .val (.int z3), .val (.int z4), .val (.int z5), .val (.int kk), .val (.int (4 : Int32)), .val (.int q), .val (.int ld), .val (.ref b), .val (.int u1), .val (.int u2), .val (.int u3), .val (.int (128 : Int32)), .val (.int (143 : Int32)), .val (.int (1 : Int32)), .unset] [(.int (own_ic u3))])) _
              by_cases hi_u3 : 128 ≤ u3.toInt ∧ u3.toInt ≤ 191
              · rw [own_ic, if_pos hi_u3]
                refine own_if X62 d0_315 (pc' := 322) (by decide) (fun (c315 : (1 : Int) = 0) => by exfalso; omega) (fun c315 => ?_)
                have c315 : ¬ ((1 : Int) = 0) := c315
                refine own_blk X62 B0_318_319 B0_318_319d (ls' := #[.val (.int z0), .val (.int z1), .val (.int z2), .val (.int z3), .val (.int z4), .val (.int z5), .val (.int kk), .val (.int (4 : Int32)), .val (.int q), .val (.int ld), .val (.ref b), .val (.int u1), .val (.int u2), .val (.int u3), .val (.int (128 : Int32)), .val (.int (143 : Int32)), .val (.int (1 : Int32)), .unset]) (st' := [(.int (1 : Int32))]) rfl ?_
                refine own_goto X62 d0_319 (pc' := 323) (by decide) ?_
                refine own_blk X62 B0_323_330 B0_323_330d (ls' := #[.val (.int z0), .val (.int z1), .val (.int z2), .val (.int z3), .val (.int z4), .val (.int z5), .val (.int kk), .val (.int (4 : Int32)), .val (.int q), .val (.int ld), .val (.ref b), .val (.int u1), .val (.int u2), .val (.int u3), .val (.int (128 : Int32)), .val (.int (143 : Int32)), .val (.int (1 : Int32)), .val (.int (-1 : Int32))]) (st' := [(.int (1 : Int32))]) rfl ?_
                refine own_if X62 d0_330 (pc' := 437) (by decide) (fun (c330 : (1 : Int) = 0) => by exfalso; omega) (fun c330 => ?_)
                have c330 : ¬ ((1 : Int) = 0) := c330
                refine own_blk X62 B0_333_336 B0_333_336d (ls' := #[.val (.int z0), .val (.int z1), .val (.int z2), .val (.int z3), .val (.int z4), .val (.int z5), .val (.int kk), .val (.int (4 : Int32)), .val (.int q), .val (.int ld), .val (.ref b), .val (.int u1), .val (.int u2), .val (.int u3), .val (.int (128 : Int32)), .val (.int (143 : Int32)), .val (.int (1 : Int32)), .val (.int (-1 : Int32))]) (st' := [(.int (2 : Int32)), (.int (4 : Int32))]) rfl ?_
                refine own_icmp X62 d0_336 (pc' := 360) (by decide) (fun c336 => ?_) (fun (c336 : ¬ (¬ (4 : Int) = 2)) => by exfalso; omega)
                have c336 : ¬ (4 : Int) = 2 := c336
                refine own_blk X62 B0_360_363 B0_360_363d (ls' := #[.val (.int z0), .val (.int z1), .val (.int z2), .val (.int z3), .val (.int z4), .val (.int z5), .val (.int kk), .val (.int (4 : Int32)), .val (.int q), .val (.int ld), .val (.ref b), .val (.int u1), .val (.int u2), .val (.int u3), .val (.int (128 : Int32)), .val (.int (143 : Int32)), .val (.int (1 : Int32)), .val (.int (-1 : Int32))]) (st' := [(.int (3 : Int32)), (.int (4 : Int32))]) rfl ?_
                refine own_icmp X62 d0_363 (pc' := 398) (by decide) (fun c363 => ?_) (fun (c363 : ¬ (¬ (4 : Int) = 3)) => by exfalso; omega)
                have c363 : ¬ (4 : Int) = 3 := c363
                refine own_blk X62 B0_398_404 B0_398_404d (ls' := #[.val (.int z0), .val (.int z1), .val (.int z2), .val (.int z3), .val (.int z4), .val (.int z5), .val (.int kk), .val (.int (4 : Int32)), .val (.int q), .val (.int ld), .val (.ref b), .val (.int u1), .val (.int u2), .val (.int u3), .val (.int (128 : Int32)), .val (.int (143 : Int32)), .val (.int (1 : Int32)), .val (.int (-1 : Int32))]) (st' := [(.int (ld - (240 : Int32)))]) rfl ?_
                refine own_ldc X62 (hw _ (List.mem_of_getElem? (i := 13) rfl)) d0_404 ?_
                refine own_blk X62 B0_406_437 B0_406_437d (ls' := #[.val (.int z0), .val (.int z1), .val (.int z2), .val (.int z3), .val (.int z4), .val (.int z5), .val (.int kk), .val (.int (4 : Int32)), .val (.int q), .val (.int ld), .val (.ref b), .val (.int u1), .val (.int u2), .val (.int u3), .val (.int (128 : Int32)), .val (.int (143 : Int32)), .val (.int (1 : Int32)), .val (.int (((((ld - (240 : Int32)) * (262144 : Int32)) + ((u1 - (128 : Int32)) * (4096 : Int32))) + ((u2 - (128 : Int32)) * (64 : Int32))) + (u3 - (128 : Int32))))]) (st' := []) rfl ?_
                generalize eex : (((((ld - (240 : Int32)) * (262144 : Int32)) + ((u1 - (128 : Int32)) * (4096 : Int32))) + ((u2 - (128 : Int32)) * (64 : Int32))) + (u3 - (128 : Int32))) = ex
                have hex := own_e4 (ld := ld) (u1 := u1) (u2 := u2) (u3 := u3) (by omega) (by omega) (by omega) (by omega)
                rw [eex] at hex
                refine own_blk X62 B0_437_443 B0_437_443d (ls' := #[.val (.int z0), .val (.int z1), .val (.int z2), .val (.int z3), .val (.int z4), .val (.int z5), .val (.int kk), .val (.int (4 : Int32)), .val (.int q), .val (.int ld), .val (.ref b), .val (.int u1), .val (.int u2), .val (.int u3), .val (.int (128 : Int32)), .val (.int (143 : Int32)), .val (.int (1 : Int32)), .val (.int ex)]) (st' := [(.int (4 : Int32)), (.int q), (.ref b)]) rfl ?_
                refine own_callS X62 (hw _ (List.mem_of_getElem? (i := 2) rfl)) (hw _ (List.mem_of_getElem? (i := 3) rfl)) (hw _ (List.mem_of_getElem? (i := 4) rfl)) (hw _ (List.mem_of_getElem? (i := 5) rfl)) (by decide) (c_cp4 l Z a0 hw b q g51 h51 n0 X62.2.1 A51 hq) d0_443 [(.ref b), (.int q), (.int (4 : Int32))] [] rfl rfl pd1 rfl rfl (by decide) (Nat.le_of_ble_eq_true rfl) (by decide) (by decide) (fun _ _ q => by obtain ⟨_, _, q2, _⟩ := q; rw [q2]; exact X62.2.1) (fun v63 h63 T63 X63 q63 => ?_)
                obtain ⟨z63, rfl, e63, hz63⟩ := q63
                rw [e63] at X63
                show own_G p e below (T63.setTop (mkF m 446 #[.val (.int z0), .val (.int z1), .val (.int z2), .val (.int z3), .val (.int z4), .val (.int z5), .val (.int kk), .val (.int (4 : Int32)), .val (.int q), .val (.int ld), .val (.ref b), .val (.int u1), .val (.int u2), .val (.int u3), .val (.int (128 : Int32)), .val (.int (143 : Int32)), .val (.int (1 : Int32)), .val (.int ex)] [(.int z63)])) _
                rw [r0, r1, r2, r3] at hz63
                refine own_blk X63 B0_446_448 B0_446_448d (ls' := #[.val (.int z0), .val (.int z1), .val (.int z2), .val (.int z3), .val (.int z4), .val (.int z5), .val (.int kk), .val (.int (4 : Int32)), .val (.int q), .val (.int ld), .val (.ref b), .val (.int u1), .val (.int u2), .val (.int u3), .val (.int (128 : Int32)), .val (.int (143 : Int32)), .val (.int (1 : Int32)), .val (.int ex)]) (st' := [(.int ex), (.int z63)]) rfl ?_
                refine own_icmp X63 d0_448 (pc' := 455) (by decide) (fun (c448 : ¬ z63.toInt = ex.toInt) => by exfalso; omega) (fun c448 => ?_)
                have c448 : ¬ (¬ z63.toInt = ex.toInt) := c448
                refine own_blk X63 B0_451_452 B0_451_452d (ls' := #[.val (.int z0), .val (.int z1), .val (.int z2), .val (.int z3), .val (.int z4), .val (.int z5), .val (.int kk), .val (.int (4 : Int32)), .val (.int q), .val (.int ld), .val (.ref b), .val (.int u1), .val (.int u2), .val (.int u3), .val (.int (128 : Int32)), .val (.int (143 : Int32)), .val (.int (1 : Int32)), .val (.int ex)]) (st' := [(.int (1 : Int32))]) rfl ?_
                refine own_goto X63 d0_452 (pc' := 456) (by decide) ?_
                exact own_retN X63 (by simp) d0_456 (v' := (1 : Int32)) (rfl) (by decide) (by decide) (rfl)
              · rw [own_ic, if_neg hi_u3]
                refine own_if X62 d0_315 (pc' := 322) (by decide) (fun c315 => ?_) (fun (c315 : ¬ ((0 : Int) = 0)) => by exfalso; omega)
                have c315 : (0 : Int) = 0 := c315
                refine own_blk X62 B0_322_330 B0_322_330d (ls' := #[.val (.int z0), .val (.int z1), .val (.int z2), .val (.int z3), .val (.int z4), .val (.int z5), .val (.int kk), .val (.int (4 : Int32)), .val (.int q), .val (.int ld), .val (.ref b), .val (.int u1), .val (.int u2), .val (.int u3), .val (.int (128 : Int32)), .val (.int (143 : Int32)), .val (.int (0 : Int32)), .val (.int (-1 : Int32))]) (st' := [(.int (0 : Int32))]) rfl ?_
                refine own_if X62 d0_330 (pc' := 437) (by decide) (fun c330 => ?_) (fun (c330 : ¬ ((0 : Int) = 0)) => by exfalso; omega)
                have c330 : (0 : Int) = 0 := c330
                refine own_blk X62 B0_437_443 B0_437_443d (ls' := #[.val (.int z0), .val (.int z1), .val (.int z2), .val (.int z3), .val (.int z4), .val (.int z5), .val (.int kk), .val (.int (4 : Int32)), .val (.int q), .val (.int ld), .val (.ref b), .val (.int u1), .val (.int u2), .val (.int u3), .val (.int (128 : Int32)), .val (.int (143 : Int32)), .val (.int (0 : Int32)), .val (.int (-1 : Int32))]) (st' := [(.int (4 : Int32)), (.int q), (.ref b)]) rfl ?_
                refine own_callS X62 (hw _ (List.mem_of_getElem? (i := 2) rfl)) (hw _ (List.mem_of_getElem? (i := 3) rfl)) (hw _ (List.mem_of_getElem? (i := 4) rfl)) (hw _ (List.mem_of_getElem? (i := 5) rfl)) (by decide) (c_cp4 l Z a0 hw b q g51 h51 n0 X62.2.1 A51 hq) d0_443 [(.ref b), (.int q), (.int (4 : Int32))] [] rfl rfl pd1 rfl rfl (by decide) (Nat.le_of_ble_eq_true rfl) (by decide) (by decide) (fun _ _ q => by obtain ⟨_, _, q2, _⟩ := q; rw [q2]; exact X62.2.1) (fun v64 h64 T64 X64 q64 => ?_)
                obtain ⟨z64, rfl, e64, hz64⟩ := q64
                rw [e64] at X64
                show own_G p e below (T64.setTop (mkF m 446 #[.val (.int z0), .val (.int z1), .val (.int z2), .val (.int z3), .val (.int z4), .val (.int z5), .val (.int kk), .val (.int (4 : Int32)), .val (.int q), .val (.int ld), .val (.ref b), .val (.int u1), .val (.int u2), .val (.int u3), .val (.int (128 : Int32)), .val (.int (143 : Int32)), .val (.int (0 : Int32)), .val (.int (-1 : Int32))] [(.int z64)])) _
                rw [r0, r1, r2, r3] at hz64
                refine own_blk X64 B0_446_448 B0_446_448d (ls' := #[.val (.int z0), .val (.int z1), .val (.int z2), .val (.int z3), .val (.int z4), .val (.int z5), .val (.int kk), .val (.int (4 : Int32)), .val (.int q), .val (.int ld), .val (.ref b), .val (.int u1), .val (.int u2), .val (.int u3), .val (.int (128 : Int32)), .val (.int (143 : Int32)), .val (.int (0 : Int32)), .val (.int (-1 : Int32))]) (st' := [(.int (-1 : Int32)), (.int z64)]) rfl ?_
                refine own_icmp X64 d0_448 (pc' := 455) (by decide) (fun (c448 : ¬ z64.toInt = -1) => by exfalso; omega) (fun c448 => ?_)
                have c448 : ¬ (¬ z64.toInt = -1) := c448
                refine own_blk X64 B0_451_452 B0_451_452d (ls' := #[.val (.int z0), .val (.int z1), .val (.int z2), .val (.int z3), .val (.int z4), .val (.int z5), .val (.int kk), .val (.int (4 : Int32)), .val (.int q), .val (.int ld), .val (.ref b), .val (.int u1), .val (.int u2), .val (.int u3), .val (.int (128 : Int32)), .val (.int (143 : Int32)), .val (.int (0 : Int32)), .val (.int (-1 : Int32))]) (st' := [(.int (1 : Int32))]) rfl ?_
                refine own_goto X64 d0_452 (pc' := 456) (by decide) ?_
                exact own_retN X64 (by simp) d0_456 (v' := (1 : Int32)) (rfl) (by decide) (by decide) (rfl)
            · rw [own_ic, if_neg hi_u2]
              refine own_if X61 d0_289 (pc' := 296) (by decide) (fun c289 => ?_) (fun (c289 : ¬ ((0 : Int) = 0)) => by exfalso; omega)
              have c289 : (0 : Int) = 0 := c289
              refine own_blk X61 B0_296_302 B0_296_302d (ls' := #[.val (.int z0), .val (.int z1), .val (.int z2), .val (.int z3), .val (.int z4), .val (.int z5), .val (.int kk), .val (.int (4 : Int32)), .val (.int q), .val (.int ld), .val (.ref b), .val (.int u1), .val (.int u2), .val (.int u3), .val (.int (128 : Int32)), .val (.int (143 : Int32)), .val (.int (0 : Int32)), .unset]) (st' := [(.int (3 : Int32)), (.int (4 : Int32))]) rfl ?_
              refine own_icmp X61 d0_302 (pc' := 325) (by decide) (fun (c302 : (4 : Int) ≤ 3) => by exfalso; omega) (fun c302 => ?_)
              have c302 : ¬ ((4 : Int) ≤ 3) := c302
              refine own_blk X61 B0_305_307 B0_305_307d (ls' := #[.val (.int z0), .val (.int z1), .val (.int z2), .val (.int z3), .val (.int z4), .val (.int z5), .val (.int kk), .val (.int (4 : Int32)), .val (.int q), .val (.int ld), .val (.ref b), .val (.int u1), .val (.int u2), .val (.int u3), .val (.int (128 : Int32)), .val (.int (143 : Int32)), .val (.int (0 : Int32)), .unset]) (st' := [(.int (0 : Int32))]) rfl ?_
              refine own_if X61 d0_307 (pc' := 322) (by decide) (fun c307 => ?_) (fun (c307 : ¬ ((0 : Int) = 0)) => by exfalso; omega)
              have c307 : (0 : Int) = 0 := c307
              refine own_blk X61 B0_322_330 B0_322_330d (ls' := #[.val (.int z0), .val (.int z1), .val (.int z2), .val (.int z3), .val (.int z4), .val (.int z5), .val (.int kk), .val (.int (4 : Int32)), .val (.int q), .val (.int ld), .val (.ref b), .val (.int u1), .val (.int u2), .val (.int u3), .val (.int (128 : Int32)), .val (.int (143 : Int32)), .val (.int (0 : Int32)), .val (.int (-1 : Int32))]) (st' := [(.int (0 : Int32))]) rfl ?_
              refine own_if X61 d0_330 (pc' := 437) (by decide) (fun c330 => ?_) (fun (c330 : ¬ ((0 : Int) = 0)) => by exfalso; omega)
              have c330 : (0 : Int) = 0 := c330
              refine own_blk X61 B0_437_443 B0_437_443d (ls' := #[.val (.int z0), .val (.int z1), .val (.int z2), .val (.int z3), .val (.int z4), .val (.int z5), .val (.int kk), .val (.int (4 : Int32)), .val (.int q), .val (.int ld), .val (.ref b), .val (.int u1), .val (.int u2), .val (.int u3), .val (.int (128 : Int32)), .val (.int (143 : Int32)), .val (.int (0 : Int32)), .val (.int (-1 : Int32))]) (st' := [(.int (4 : Int32)), (.int q), (.ref b)]) rfl ?_
              refine own_callS X61 (hw _ (List.mem_of_getElem? (i := 2) rfl)) (hw _ (List.mem_of_getElem? (i := 3) rfl)) (hw _ (List.mem_of_getElem? (i := 4) rfl)) (hw _ (List.mem_of_getElem? (i := 5) rfl)) (by decide) (c_cp4 l Z a0 hw b q g51 h51 n0 X61.2.1 A51 hq) d0_443 [(.ref b), (.int q), (.int (4 : Int32))] [] rfl rfl pd1 rfl rfl (by decide) (Nat.le_of_ble_eq_true rfl) (by decide) (by decide) (fun _ _ q => by obtain ⟨_, _, q2, _⟩ := q; rw [q2]; exact X61.2.1) (fun v65 h65 T65 X65 q65 => ?_)
              obtain ⟨z65, rfl, e65, hz65⟩ := q65
              rw [e65] at X65
              show own_G p e below (T65.setTop (mkF m 446 #[.val (.int z0), .val (.int z1), .val (.int z2), .val (.int z3), .val (.int z4), .val (.int z5), .val (.int kk), .val (.int (4 : Int32)), .val (.int q), .val (.int ld), .val (.ref b), .val (.int u1), .val (.int u2), .val (.int u3), .val (.int (128 : Int32)), .val (.int (143 : Int32)), .val (.int (0 : Int32)), .val (.int (-1 : Int32))] [(.int z65)])) _
              rw [r0, r1, r2, r3] at hz65
              refine own_blk X65 B0_446_448 B0_446_448d (ls' := #[.val (.int z0), .val (.int z1), .val (.int z2), .val (.int z3), .val (.int z4), .val (.int z5), .val (.int kk), .val (.int (4 : Int32)), .val (.int q), .val (.int ld), .val (.ref b), .val (.int u1), .val (.int u2), .val (.int u3), .val (.int (128 : Int32)), .val (.int (143 : Int32)), .val (.int (0 : Int32)), .val (.int (-1 : Int32))]) (st' := [(.int (-1 : Int32)), (.int z65)]) rfl ?_
              refine own_icmp X65 d0_448 (pc' := 455) (by decide) (fun (c448 : ¬ z65.toInt = -1) => by exfalso; omega) (fun c448 => ?_)
              have c448 : ¬ (¬ z65.toInt = -1) := c448
              refine own_blk X65 B0_451_452 B0_451_452d (ls' := #[.val (.int z0), .val (.int z1), .val (.int z2), .val (.int z3), .val (.int z4), .val (.int z5), .val (.int kk), .val (.int (4 : Int32)), .val (.int q), .val (.int ld), .val (.ref b), .val (.int u1), .val (.int u2), .val (.int u3), .val (.int (128 : Int32)), .val (.int (143 : Int32)), .val (.int (0 : Int32)), .val (.int (-1 : Int32))]) (st' := [(.int (1 : Int32))]) rfl ?_
              refine own_goto X65 d0_452 (pc' := 456) (by decide) ?_
              exact own_retN X65 (by simp) d0_456 (v' := (1 : Int32)) (rfl) (by decide) (by decide) (rfl)
    · have c228 : ¬ (¬ ld.toInt = 240) := c228
      refine own_blk X51 B0_231_236 B0_231_236d (ls' := #[.val (.int z0), .val (.int z1), .val (.int z2), .val (.int z3), .val (.int z4), .val (.int z5), .val (.int kk), .val (.int (4 : Int32)), .val (.int q), .val (.int ld), .val (.ref b), .val (.int u1), .val (.int u2), .val (.int u3), .val (.int (144 : Int32)), .val (.int (191 : Int32)), .unset, .unset]) (st' := []) rfl ?_
      refine own_goto X51 d0_236 (pc' := 252) (by decide) ?_
      refine own_blk X51 B0_252_256 B0_252_256d (ls' := #[.val (.int z0), .val (.int z1), .val (.int z2), .val (.int z3), .val (.int z4), .val (.int z5), .val (.int kk), .val (.int (4 : Int32)), .val (.int q), .val (.int ld), .val (.ref b), .val (.int u1), .val (.int u2), .val (.int u3), .val (.int (144 : Int32)), .val (.int (191 : Int32)), .unset, .unset]) (st' := [(.int (144 : Int32)), (.int u1)]) rfl ?_
      refine own_icmp X51 d0_256 (pc' := 270) (by decide) (fun c256 => ?_) (fun c256 => ?_)
      · have c256 : u1.toInt < 144 := c256
        refine own_blk X51 B0_270_276 B0_270_276d (ls' := #[.val (.int z0), .val (.int z1), .val (.int z2), .val (.int z3), .val (.int z4), .val (.int z5), .val (.int kk), .val (.int (4 : Int32)), .val (.int q), .val (.int ld), .val (.ref b), .val (.int u1), .val (.int u2), .val (.int u3), .val (.int (144 : Int32)), .val (.int (191 : Int32)), .val (.int (0 : Int32)), .unset]) (st' := [(.int (2 : Int32)), (.int (4 : Int32))]) rfl ?_
        refine own_icmp X51 d0_276 (pc' := 299) (by decide) (fun (c276 : (4 : Int) ≤ 2) => by exfalso; omega) (fun c276 => ?_)
        have c276 : ¬ ((4 : Int) ≤ 2) := c276
        refine own_blk X51 B0_279_281 B0_279_281d (ls' := #[.val (.int z0), .val (.int z1), .val (.int z2), .val (.int z3), .val (.int z4), .val (.int z5), .val (.int kk), .val (.int (4 : Int32)), .val (.int q), .val (.int ld), .val (.ref b), .val (.int u1), .val (.int u2), .val (.int u3), .val (.int (144 : Int32)), .val (.int (191 : Int32)), .val (.int (0 : Int32)), .unset]) (st' := [(.int (0 : Int32))]) rfl ?_
        refine own_if X51 d0_281 (pc' := 296) (by decide) (fun c281 => ?_) (fun (c281 : ¬ ((0 : Int) = 0)) => by exfalso; omega)
        have c281 : (0 : Int) = 0 := c281
        refine own_blk X51 B0_296_302 B0_296_302d (ls' := #[.val (.int z0), .val (.int z1), .val (.int z2), .val (.int z3), .val (.int z4), .val (.int z5), .val (.int kk), .val (.int (4 : Int32)), .val (.int q), .val (.int ld), .val (.ref b), .val (.int u1), .val (.int u2), .val (.int u3), .val (.int (144 : Int32)), .val (.int (191 : Int32)), .val (.int (0 : Int32)), .unset]) (st' := [(.int (3 : Int32)), (.int (4 : Int32))]) rfl ?_
        refine own_icmp X51 d0_302 (pc' := 325) (by decide) (fun (c302 : (4 : Int) ≤ 3) => by exfalso; omega) (fun c302 => ?_)
        have c302 : ¬ ((4 : Int) ≤ 3) := c302
        refine own_blk X51 B0_305_307 B0_305_307d (ls' := #[.val (.int z0), .val (.int z1), .val (.int z2), .val (.int z3), .val (.int z4), .val (.int z5), .val (.int kk), .val (.int (4 : Int32)), .val (.int q), .val (.int ld), .val (.ref b), .val (.int u1), .val (.int u2), .val (.int u3), .val (.int (144 : Int32)), .val (.int (191 : Int32)), .val (.int (0 : Int32)), .unset]) (st' := [(.int (0 : Int32))]) rfl ?_
        refine own_if X51 d0_307 (pc' := 322) (by decide) (fun c307 => ?_) (fun (c307 : ¬ ((0 : Int) = 0)) => by exfalso; omega)
        have c307 : (0 : Int) = 0 := c307
        refine own_blk X51 B0_322_330 B0_322_330d (ls' := #[.val (.int z0), .val (.int z1), .val (.int z2), .val (.int z3), .val (.int z4), .val (.int z5), .val (.int kk), .val (.int (4 : Int32)), .val (.int q), .val (.int ld), .val (.ref b), .val (.int u1), .val (.int u2), .val (.int u3), .val (.int (144 : Int32)), .val (.int (191 : Int32)), .val (.int (0 : Int32)), .val (.int (-1 : Int32))]) (st' := [(.int (0 : Int32))]) rfl ?_
        refine own_if X51 d0_330 (pc' := 437) (by decide) (fun c330 => ?_) (fun (c330 : ¬ ((0 : Int) = 0)) => by exfalso; omega)
        have c330 : (0 : Int) = 0 := c330
        refine own_blk X51 B0_437_443 B0_437_443d (ls' := #[.val (.int z0), .val (.int z1), .val (.int z2), .val (.int z3), .val (.int z4), .val (.int z5), .val (.int kk), .val (.int (4 : Int32)), .val (.int q), .val (.int ld), .val (.ref b), .val (.int u1), .val (.int u2), .val (.int u3), .val (.int (144 : Int32)), .val (.int (191 : Int32)), .val (.int (0 : Int32)), .val (.int (-1 : Int32))]) (st' := [(.int (4 : Int32)), (.int q), (.ref b)]) rfl ?_
        refine own_callS X51 (hw _ (List.mem_of_getElem? (i := 2) rfl)) (hw _ (List.mem_of_getElem? (i := 3) rfl)) (hw _ (List.mem_of_getElem? (i := 4) rfl)) (hw _ (List.mem_of_getElem? (i := 5) rfl)) (by decide) (c_cp4 l Z a0 hw b q g51 h51 n0 X51.2.1 A51 hq) d0_443 [(.ref b), (.int q), (.int (4 : Int32))] [] rfl rfl pd1 rfl rfl (by decide) (Nat.le_of_ble_eq_true rfl) (by decide) (by decide) (fun _ _ q => by obtain ⟨_, _, q2, _⟩ := q; rw [q2]; exact X51.2.1) (fun v66 h66 T66 X66 q66 => ?_)
        obtain ⟨z66, rfl, e66, hz66⟩ := q66
        rw [e66] at X66
        show own_G p e below (T66.setTop (mkF m 446 #[.val (.int z0), .val (.int z1), .val (.int z2), .val (.int z3), .val (.int z4), .val (.int z5), .val (.int kk), .val (.int (4 : Int32)), .val (.int q), .val (.int ld), .val (.ref b), .val (.int u1), .val (.int u2), .val (.int u3), .val (.int (144 : Int32)), .val (.int (191 : Int32)), .val (.int (0 : Int32)), .val (.int (-1 : Int32))] [(.int z66)])) _
        rw [r0, r1, r2, r3] at hz66
        refine own_blk X66 B0_446_448 B0_446_448d (ls' := #[.val (.int z0), .val (.int z1), .val (.int z2), .val (.int z3), .val (.int z4), .val (.int z5), .val (.int kk), .val (.int (4 : Int32)), .val (.int q), .val (.int ld), .val (.ref b), .val (.int u1), .val (.int u2), .val (.int u3), .val (.int (144 : Int32)), .val (.int (191 : Int32)), .val (.int (0 : Int32)), .val (.int (-1 : Int32))]) (st' := [(.int (-1 : Int32)), (.int z66)]) rfl ?_
        refine own_icmp X66 d0_448 (pc' := 455) (by decide) (fun (c448 : ¬ z66.toInt = -1) => by exfalso; omega) (fun c448 => ?_)
        have c448 : ¬ (¬ z66.toInt = -1) := c448
        refine own_blk X66 B0_451_452 B0_451_452d (ls' := #[.val (.int z0), .val (.int z1), .val (.int z2), .val (.int z3), .val (.int z4), .val (.int z5), .val (.int kk), .val (.int (4 : Int32)), .val (.int q), .val (.int ld), .val (.ref b), .val (.int u1), .val (.int u2), .val (.int u3), .val (.int (144 : Int32)), .val (.int (191 : Int32)), .val (.int (0 : Int32)), .val (.int (-1 : Int32))]) (st' := [(.int (1 : Int32))]) rfl ?_
        refine own_goto X66 d0_452 (pc' := 456) (by decide) ?_
        exact own_retN X66 (by simp) d0_456 (v' := (1 : Int32)) (rfl) (by decide) (by decide) (rfl)
      · have c256 : ¬ (u1.toInt < 144) := c256
        refine own_blk X51 B0_259_263 B0_259_263d (ls' := #[.val (.int z0), .val (.int z1), .val (.int z2), .val (.int z3), .val (.int z4), .val (.int z5), .val (.int kk), .val (.int (4 : Int32)), .val (.int q), .val (.int ld), .val (.ref b), .val (.int u1), .val (.int u2), .val (.int u3), .val (.int (144 : Int32)), .val (.int (191 : Int32)), .unset, .unset]) (st' := [(.int (191 : Int32)), (.int u1)]) rfl ?_
        refine own_icmp X51 d0_263 (pc' := 270) (by decide) (fun c263 => ?_) (fun c263 => ?_)
        · have c263 : 191 < u1.toInt := c263
          refine own_blk X51 B0_270_276 B0_270_276d (ls' := #[.val (.int z0), .val (.int z1), .val (.int z2), .val (.int z3), .val (.int z4), .val (.int z5), .val (.int kk), .val (.int (4 : Int32)), .val (.int q), .val (.int ld), .val (.ref b), .val (.int u1), .val (.int u2), .val (.int u3), .val (.int (144 : Int32)), .val (.int (191 : Int32)), .val (.int (0 : Int32)), .unset]) (st' := [(.int (2 : Int32)), (.int (4 : Int32))]) rfl ?_
          refine own_icmp X51 d0_276 (pc' := 299) (by decide) (fun (c276 : (4 : Int) ≤ 2) => by exfalso; omega) (fun c276 => ?_)
          have c276 : ¬ ((4 : Int) ≤ 2) := c276
          refine own_blk X51 B0_279_281 B0_279_281d (ls' := #[.val (.int z0), .val (.int z1), .val (.int z2), .val (.int z3), .val (.int z4), .val (.int z5), .val (.int kk), .val (.int (4 : Int32)), .val (.int q), .val (.int ld), .val (.ref b), .val (.int u1), .val (.int u2), .val (.int u3), .val (.int (144 : Int32)), .val (.int (191 : Int32)), .val (.int (0 : Int32)), .unset]) (st' := [(.int (0 : Int32))]) rfl ?_
          refine own_if X51 d0_281 (pc' := 296) (by decide) (fun c281 => ?_) (fun (c281 : ¬ ((0 : Int) = 0)) => by exfalso; omega)
          have c281 : (0 : Int) = 0 := c281
          refine own_blk X51 B0_296_302 B0_296_302d (ls' := #[.val (.int z0), .val (.int z1), .val (.int z2), .val (.int z3), .val (.int z4), .val (.int z5), .val (.int kk), .val (.int (4 : Int32)), .val (.int q), .val (.int ld), .val (.ref b), .val (.int u1), .val (.int u2), .val (.int u3), .val (.int (144 : Int32)), .val (.int (191 : Int32)), .val (.int (0 : Int32)), .unset]) (st' := [(.int (3 : Int32)), (.int (4 : Int32))]) rfl ?_
          refine own_icmp X51 d0_302 (pc' := 325) (by decide) (fun (c302 : (4 : Int) ≤ 3) => by exfalso; omega) (fun c302 => ?_)
          have c302 : ¬ ((4 : Int) ≤ 3) := c302
          refine own_blk X51 B0_305_307 B0_305_307d (ls' := #[.val (.int z0), .val (.int z1), .val (.int z2), .val (.int z3), .val (.int z4), .val (.int z5), .val (.int kk), .val (.int (4 : Int32)), .val (.int q), .val (.int ld), .val (.ref b), .val (.int u1), .val (.int u2), .val (.int u3), .val (.int (144 : Int32)), .val (.int (191 : Int32)), .val (.int (0 : Int32)), .unset]) (st' := [(.int (0 : Int32))]) rfl ?_
          refine own_if X51 d0_307 (pc' := 322) (by decide) (fun c307 => ?_) (fun (c307 : ¬ ((0 : Int) = 0)) => by exfalso; omega)
          have c307 : (0 : Int) = 0 := c307
          refine own_blk X51 B0_322_330 B0_322_330d (ls' := #[.val (.int z0), .val (.int z1), .val (.int z2), .val (.int z3), .val (.int z4), .val (.int z5), .val (.int kk), .val (.int (4 : Int32)), .val (.int q), .val (.int ld), .val (.ref b), .val (.int u1), .val (.int u2), .val (.int u3), .val (.int (144 : Int32)), .val (.int (191 : Int32)), .val (.int (0 : Int32)), .val (.int (-1 : Int32))]) (st' := [(.int (0 : Int32))]) rfl ?_
          refine own_if X51 d0_330 (pc' := 437) (by decide) (fun c330 => ?_) (fun (c330 : ¬ ((0 : Int) = 0)) => by exfalso; omega)
          have c330 : (0 : Int) = 0 := c330
          refine own_blk X51 B0_437_443 B0_437_443d (ls' := #[.val (.int z0), .val (.int z1), .val (.int z2), .val (.int z3), .val (.int z4), .val (.int z5), .val (.int kk), .val (.int (4 : Int32)), .val (.int q), .val (.int ld), .val (.ref b), .val (.int u1), .val (.int u2), .val (.int u3), .val (.int (144 : Int32)), .val (.int (191 : Int32)), .val (.int (0 : Int32)), .val (.int (-1 : Int32))]) (st' := [(.int (4 : Int32)), (.int q), (.ref b)]) rfl ?_
          refine own_callS X51 (hw _ (List.mem_of_getElem? (i := 2) rfl)) (hw _ (List.mem_of_getElem? (i := 3) rfl)) (hw _ (List.mem_of_getElem? (i := 4) rfl)) (hw _ (List.mem_of_getElem? (i := 5) rfl)) (by decide) (c_cp4 l Z a0 hw b q g51 h51 n0 X51.2.1 A51 hq) d0_443 [(.ref b), (.int q), (.int (4 : Int32))] [] rfl rfl pd1 rfl rfl (by decide) (Nat.le_of_ble_eq_true rfl) (by decide) (by decide) (fun _ _ q => by obtain ⟨_, _, q2, _⟩ := q; rw [q2]; exact X51.2.1) (fun v67 h67 T67 X67 q67 => ?_)
          obtain ⟨z67, rfl, e67, hz67⟩ := q67
          rw [e67] at X67
          show own_G p e below (T67.setTop (mkF m 446 #[.val (.int z0), .val (.int z1), .val (.int z2), .val (.int z3), .val (.int z4), .val (.int z5), .val (.int kk), .val (.int (4 : Int32)), .val (.int q), .val (.int ld), .val (.ref b), .val (.int u1), .val (.int u2), .val (.int u3), .val (.int (144 : Int32)), .val (.int (191 : Int32)), .val (.int (0 : Int32)), .val (.int (-1 : Int32))] [(.int z67)])) _
          rw [r0, r1, r2, r3] at hz67
          refine own_blk X67 B0_446_448 B0_446_448d (ls' := #[.val (.int z0), .val (.int z1), .val (.int z2), .val (.int z3), .val (.int z4), .val (.int z5), .val (.int kk), .val (.int (4 : Int32)), .val (.int q), .val (.int ld), .val (.ref b), .val (.int u1), .val (.int u2), .val (.int u3), .val (.int (144 : Int32)), .val (.int (191 : Int32)), .val (.int (0 : Int32)), .val (.int (-1 : Int32))]) (st' := [(.int (-1 : Int32)), (.int z67)]) rfl ?_
          refine own_icmp X67 d0_448 (pc' := 455) (by decide) (fun (c448 : ¬ z67.toInt = -1) => by exfalso; omega) (fun c448 => ?_)
          have c448 : ¬ (¬ z67.toInt = -1) := c448
          refine own_blk X67 B0_451_452 B0_451_452d (ls' := #[.val (.int z0), .val (.int z1), .val (.int z2), .val (.int z3), .val (.int z4), .val (.int z5), .val (.int kk), .val (.int (4 : Int32)), .val (.int q), .val (.int ld), .val (.ref b), .val (.int u1), .val (.int u2), .val (.int u3), .val (.int (144 : Int32)), .val (.int (191 : Int32)), .val (.int (0 : Int32)), .val (.int (-1 : Int32))]) (st' := [(.int (1 : Int32))]) rfl ?_
          refine own_goto X67 d0_452 (pc' := 456) (by decide) ?_
          exact own_retN X67 (by simp) d0_456 (v' := (1 : Int32)) (rfl) (by decide) (by decide) (rfl)
        · have c263 : ¬ (191 < u1.toInt) := c263
          refine own_blk X51 B0_266_267 B0_266_267d (ls' := #[.val (.int z0), .val (.int z1), .val (.int z2), .val (.int z3), .val (.int z4), .val (.int z5), .val (.int kk), .val (.int (4 : Int32)), .val (.int q), .val (.int ld), .val (.ref b), .val (.int u1), .val (.int u2), .val (.int u3), .val (.int (144 : Int32)), .val (.int (191 : Int32)), .unset, .unset]) (st' := [(.int (1 : Int32))]) rfl ?_
          refine own_goto X51 d0_267 (pc' := 271) (by decide) ?_
          refine own_blk X51 B0_271_276 B0_271_276d (ls' := #[.val (.int z0), .val (.int z1), .val (.int z2), .val (.int z3), .val (.int z4), .val (.int z5), .val (.int kk), .val (.int (4 : Int32)), .val (.int q), .val (.int ld), .val (.ref b), .val (.int u1), .val (.int u2), .val (.int u3), .val (.int (144 : Int32)), .val (.int (191 : Int32)), .val (.int (1 : Int32)), .unset]) (st' := [(.int (2 : Int32)), (.int (4 : Int32))]) rfl ?_
          refine own_icmp X51 d0_276 (pc' := 299) (by decide) (fun (c276 : (4 : Int) ≤ 2) => by exfalso; omega) (fun c276 => ?_)
          have c276 : ¬ ((4 : Int) ≤ 2) := c276
          refine own_blk X51 B0_279_281 B0_279_281d (ls' := #[.val (.int z0), .val (.int z1), .val (.int z2), .val (.int z3), .val (.int z4), .val (.int z5), .val (.int kk), .val (.int (4 : Int32)), .val (.int q), .val (.int ld), .val (.ref b), .val (.int u1), .val (.int u2), .val (.int u3), .val (.int (144 : Int32)), .val (.int (191 : Int32)), .val (.int (1 : Int32)), .unset]) (st' := [(.int (1 : Int32))]) rfl ?_
          refine own_if X51 d0_281 (pc' := 296) (by decide) (fun (c281 : (1 : Int) = 0) => by exfalso; omega) (fun c281 => ?_)
          have c281 : ¬ ((1 : Int) = 0) := c281
          refine own_blk X51 B0_284_286 B0_284_286d (ls' := #[.val (.int z0), .val (.int z1), .val (.int z2), .val (.int z3), .val (.int z4), .val (.int z5), .val (.int kk), .val (.int (4 : Int32)), .val (.int q), .val (.int ld), .val (.ref b), .val (.int u1), .val (.int u2), .val (.int u3), .val (.int (144 : Int32)), .val (.int (191 : Int32)), .val (.int (1 : Int32)), .unset]) (st' := [(.int u2)]) rfl ?_
          refine own_callP X51 (hw _ (List.mem_of_getElem? (i := 9) rfl)) (hw _ (List.mem_of_getElem? (i := 10) rfl)) (hw _ (List.mem_of_getElem? (i := 11) rfl)) (hw _ (List.mem_of_getElem? (i := 12) rfl)) (by decide) (c_ic l Z a0 hw u2 h51 n0 X51.2.1) d0_286 [(.int u2)] [] rfl rfl pd2 rfl rfl (by decide) (Nat.le_of_ble_eq_true rfl) (by decide) (by decide) (fun T68 X68 => ?_)
          show own_G p e below (T68.setTop (mkF m 289 #[.val (.int z0), .val (.int z1), .val (.int z2), .val (.int z3), .val (.int z4), .val (.int z5), .val (.int kk), .val (.int (4 : Int32)), .val (.int q), .val (.int ld), .val (.ref b), .val (.int u1), .val (.int u2), .val (.int u3), .val (.int (144 : Int32)), .val (.int (191 : Int32)), .val (.int (1 : Int32)), .unset] [(.int (own_ic u2))])) _
          by_cases hi_u2 : 128 ≤ u2.toInt ∧ u2.toInt ≤ 191
          · rw [own_ic, if_pos hi_u2]
            refine own_if X68 d0_289 (pc' := 296) (by decide) (fun (c289 : (1 : Int) = 0) => by exfalso; omega) (fun c289 => ?_)
            have c289 : ¬ ((1 : Int) = 0) := c289
            refine own_blk X68 B0_292_293 B0_292_293d (ls' := #[.val (.int z0), .val (.int z1), .val (.int z2), .val (.int z3), .val (.int z4), .val (.int z5), .val (.int kk), .val (.int (4 : Int32)), .val (.int q), .val (.int ld), .val (.ref b), .val (.int u1), .val (.int u2), .val (.int u3), .val (.int (144 : Int32)), .val (.int (191 : Int32)), .val (.int (1 : Int32)), .unset]) (st' := [(.int (1 : Int32))]) rfl ?_
            refine own_goto X68 d0_293 (pc' := 297) (by decide) ?_
            refine own_blk X68 B0_297_302 B0_297_302d (ls' := #[.val (.int z0), .val (.int z1), .val (.int z2), .val (.int z3), .val (.int z4), .val (.int z5), .val (.int kk), .val (.int (4 : Int32)), .val (.int q), .val (.int ld), .val (.ref b), .val (.int u1), .val (.int u2), .val (.int u3), .val (.int (144 : Int32)), .val (.int (191 : Int32)), .val (.int (1 : Int32)), .unset]) (st' := [(.int (3 : Int32)), (.int (4 : Int32))]) rfl ?_
            refine own_icmp X68 d0_302 (pc' := 325) (by decide) (fun (c302 : (4 : Int) ≤ 3) => by exfalso; omega) (fun c302 => ?_)
            have c302 : ¬ ((4 : Int) ≤ 3) := c302
            refine own_blk X68 B0_305_307 B0_305_307d (ls' := #[.val (.int z0), .val (.int z1), .val (.int z2), .val (.int z3), .val (.int z4), .val (.int z5), .val (.int kk), .val (.int (4 : Int32)), .val (.int q), .val (.int ld), .val (.ref b), .val (.int u1), .val (.int u2), .val (.int u3), .val (.int (144 : Int32)), .val (.int (191 : Int32)), .val (.int (1 : Int32)), .unset]) (st' := [(.int (1 : Int32))]) rfl ?_
            refine own_if X68 d0_307 (pc' := 322) (by decide) (fun (c307 : (1 : Int) = 0) => by exfalso; omega) (fun c307 => ?_)
            have c307 : ¬ ((1 : Int) = 0) := c307
            refine own_blk X68 B0_310_312 B0_310_312d (ls' := #[.val (.int z0), .val (.int z1), .val (.int z2), .val (.int z3), .val (.int z4), .val (.int z5), .val (.int kk), .val (.int (4 : Int32)), .val (.int q), .val (.int ld), .val (.ref b), .val (.int u1), .val (.int u2), .val (.int u3), .val (.int (144 : Int32)), .val (.int (191 : Int32)), .val (.int (1 : Int32)), .unset]) (st' := [(.int u3)]) rfl ?_
            refine own_callP X68 (hw _ (List.mem_of_getElem? (i := 9) rfl)) (hw _ (List.mem_of_getElem? (i := 10) rfl)) (hw _ (List.mem_of_getElem? (i := 11) rfl)) (hw _ (List.mem_of_getElem? (i := 12) rfl)) (by decide) (c_ic l Z a0 hw u3 h51 n0 X68.2.1) d0_312 [(.int u3)] [] rfl rfl pd2 rfl rfl (by decide) (Nat.le_of_ble_eq_true rfl) (by decide) (by decide) (fun T69 X69 => ?_)
            show own_G p e below (T69.setTop (mkF m 315 #[.val (.int z0), .val (.int z1), .val (.int z2), .val (.int z3), .val (.int z4), .val (.int z5), .val (.int kk), .val (.int (4 : Int32)), .val (.int q), .val (.int ld), .val (.ref b), .val (.int u1), .val (.int u2), .val (.int u3), .val (.int (144 : Int32)), .val (.int (191 : Int32)), .val (.int (1 : Int32)), .unset] [(.int (own_ic u3))])) _
            by_cases hi_u3 : 128 ≤ u3.toInt ∧ u3.toInt ≤ 191
            · rw [own_ic, if_pos hi_u3]
              refine own_if X69 d0_315 (pc' := 322) (by decide) (fun (c315 : (1 : Int) = 0) => by exfalso; omega) (fun c315 => ?_)
              have c315 : ¬ ((1 : Int) = 0) := c315
              refine own_blk X69 B0_318_319 B0_318_319d (ls' := #[.val (.int z0), .val (.int z1), .val (.int z2), .val (.int z3), .val (.int z4), .val (.int z5), .val (.int kk), .val (.int (4 : Int32)), .val (.int q), .val (.int ld), .val (.ref b), .val (.int u1), .val (.int u2), .val (.int u3), .val (.int (144 : Int32)), .val (.int (191 : Int32)), .val (.int (1 : Int32)), .unset]) (st' := [(.int (1 : Int32))]) rfl ?_
              refine own_goto X69 d0_319 (pc' := 323) (by decide) ?_
              refine own_blk X69 B0_323_330 B0_323_330d (ls' := #[.val (.int z0), .val (.int z1), .val (.int z2), .val (.int z3), .val (.int z4), .val (.int z5), .val (.int kk), .val (.int (4 : Int32)), .val (.int q), .val (.int ld), .val (.ref b), .val (.int u1), .val (.int u2), .val (.int u3), .val (.int (144 : Int32)), .val (.int (191 : Int32)), .val (.int (1 : Int32)), .val (.int (-1 : Int32))]) (st' := [(.int (1 : Int32))]) rfl ?_
              refine own_if X69 d0_330 (pc' := 437) (by decide) (fun (c330 : (1 : Int) = 0) => by exfalso; omega) (fun c330 => ?_)
              have c330 : ¬ ((1 : Int) = 0) := c330
              refine own_blk X69 B0_333_336 B0_333_336d (ls' := #[.val (.int z0), .val (.int z1), .val (.int z2), .val (.int z3), .val (.int z4), .val (.int z5), .val (.int kk), .val (.int (4 : Int32)), .val (.int q), .val (.int ld), .val (.ref b), .val (.int u1), .val (.int u2), .val (.int u3), .val (.int (144 : Int32)), .val (.int (191 : Int32)), .val (.int (1 : Int32)), .val (.int (-1 : Int32))]) (st' := [(.int (2 : Int32)), (.int (4 : Int32))]) rfl ?_
              refine own_icmp X69 d0_336 (pc' := 360) (by decide) (fun c336 => ?_) (fun (c336 : ¬ (¬ (4 : Int) = 2)) => by exfalso; omega)
              have c336 : ¬ (4 : Int) = 2 := c336
              refine own_blk X69 B0_360_363 B0_360_363d (ls' := #[.val (.int z0), .val (.int z1), .val (.int z2), .val (.int z3), .val (.int z4), .val (.int z5), .val (.int kk), .val (.int (4 : Int32)), .val (.int q), .val (.int ld), .val (.ref b), .val (.int u1), .val (.int u2), .val (.int u3), .val (.int (144 : Int32)), .val (.int (191 : Int32)), .val (.int (1 : Int32)), .val (.int (-1 : Int32))]) (st' := [(.int (3 : Int32)), (.int (4 : Int32))]) rfl ?_
              refine own_icmp X69 d0_363 (pc' := 398) (by decide) (fun c363 => ?_) (fun (c363 : ¬ (¬ (4 : Int) = 3)) => by exfalso; omega)
              have c363 : ¬ (4 : Int) = 3 := c363
              refine own_blk X69 B0_398_404 B0_398_404d (ls' := #[.val (.int z0), .val (.int z1), .val (.int z2), .val (.int z3), .val (.int z4), .val (.int z5), .val (.int kk), .val (.int (4 : Int32)), .val (.int q), .val (.int ld), .val (.ref b), .val (.int u1), .val (.int u2), .val (.int u3), .val (.int (144 : Int32)), .val (.int (191 : Int32)), .val (.int (1 : Int32)), .val (.int (-1 : Int32))]) (st' := [(.int (ld - (240 : Int32)))]) rfl ?_
              refine own_ldc X69 (hw _ (List.mem_of_getElem? (i := 13) rfl)) d0_404 ?_
              refine own_blk X69 B0_406_437 B0_406_437d (ls' := #[.val (.int z0), .val (.int z1), .val (.int z2), .val (.int z3), .val (.int z4), .val (.int z5), .val (.int kk), .val (.int (4 : Int32)), .val (.int q), .val (.int ld), .val (.ref b), .val (.int u1), .val (.int u2), .val (.int u3), .val (.int (144 : Int32)), .val (.int (191 : Int32)), .val (.int (1 : Int32)), .val (.int (((((ld - (240 : Int32)) * (262144 : Int32)) + ((u1 - (128 : Int32)) * (4096 : Int32))) + ((u2 - (128 : Int32)) * (64 : Int32))) + (u3 - (128 : Int32))))]) (st' := []) rfl ?_
              generalize eex : (((((ld - (240 : Int32)) * (262144 : Int32)) + ((u1 - (128 : Int32)) * (4096 : Int32))) + ((u2 - (128 : Int32)) * (64 : Int32))) + (u3 - (128 : Int32))) = ex
              have hex := own_e4 (ld := ld) (u1 := u1) (u2 := u2) (u3 := u3) (by omega) (by omega) (by omega) (by omega)
              rw [eex] at hex
              refine own_blk X69 B0_437_443 B0_437_443d (ls' := #[.val (.int z0), .val (.int z1), .val (.int z2), .val (.int z3), .val (.int z4), .val (.int z5), .val (.int kk), .val (.int (4 : Int32)), .val (.int q), .val (.int ld), .val (.ref b), .val (.int u1), .val (.int u2), .val (.int u3), .val (.int (144 : Int32)), .val (.int (191 : Int32)), .val (.int (1 : Int32)), .val (.int ex)]) (st' := [(.int (4 : Int32)), (.int q), (.ref b)]) rfl ?_
              refine own_callS X69 (hw _ (List.mem_of_getElem? (i := 2) rfl)) (hw _ (List.mem_of_getElem? (i := 3) rfl)) (hw _ (List.mem_of_getElem? (i := 4) rfl)) (hw _ (List.mem_of_getElem? (i := 5) rfl)) (by decide) (c_cp4 l Z a0 hw b q g51 h51 n0 X69.2.1 A51 hq) d0_443 [(.ref b), (.int q), (.int (4 : Int32))] [] rfl rfl pd1 rfl rfl (by decide) (Nat.le_of_ble_eq_true rfl) (by decide) (by decide) (fun _ _ q => by obtain ⟨_, _, q2, _⟩ := q; rw [q2]; exact X69.2.1) (fun v70 h70 T70 X70 q70 => ?_)
              obtain ⟨z70, rfl, e70, hz70⟩ := q70
              rw [e70] at X70
              show own_G p e below (T70.setTop (mkF m 446 #[.val (.int z0), .val (.int z1), .val (.int z2), .val (.int z3), .val (.int z4), .val (.int z5), .val (.int kk), .val (.int (4 : Int32)), .val (.int q), .val (.int ld), .val (.ref b), .val (.int u1), .val (.int u2), .val (.int u3), .val (.int (144 : Int32)), .val (.int (191 : Int32)), .val (.int (1 : Int32)), .val (.int ex)] [(.int z70)])) _
              rw [r0, r1, r2, r3] at hz70
              refine own_blk X70 B0_446_448 B0_446_448d (ls' := #[.val (.int z0), .val (.int z1), .val (.int z2), .val (.int z3), .val (.int z4), .val (.int z5), .val (.int kk), .val (.int (4 : Int32)), .val (.int q), .val (.int ld), .val (.ref b), .val (.int u1), .val (.int u2), .val (.int u3), .val (.int (144 : Int32)), .val (.int (191 : Int32)), .val (.int (1 : Int32)), .val (.int ex)]) (st' := [(.int ex), (.int z70)]) rfl ?_
              refine own_icmp X70 d0_448 (pc' := 455) (by decide) (fun (c448 : ¬ z70.toInt = ex.toInt) => by exfalso; omega) (fun c448 => ?_)
              have c448 : ¬ (¬ z70.toInt = ex.toInt) := c448
              refine own_blk X70 B0_451_452 B0_451_452d (ls' := #[.val (.int z0), .val (.int z1), .val (.int z2), .val (.int z3), .val (.int z4), .val (.int z5), .val (.int kk), .val (.int (4 : Int32)), .val (.int q), .val (.int ld), .val (.ref b), .val (.int u1), .val (.int u2), .val (.int u3), .val (.int (144 : Int32)), .val (.int (191 : Int32)), .val (.int (1 : Int32)), .val (.int ex)]) (st' := [(.int (1 : Int32))]) rfl ?_
              refine own_goto X70 d0_452 (pc' := 456) (by decide) ?_
              exact own_retN X70 (by simp) d0_456 (v' := (1 : Int32)) (rfl) (by decide) (by decide) (rfl)
            · rw [own_ic, if_neg hi_u3]
              refine own_if X69 d0_315 (pc' := 322) (by decide) (fun c315 => ?_) (fun (c315 : ¬ ((0 : Int) = 0)) => by exfalso; omega)
              have c315 : (0 : Int) = 0 := c315
              refine own_blk X69 B0_322_330 B0_322_330d (ls' := #[.val (.int z0), .val (.int z1), .val (.int z2), .val (.int z3), .val (.int z4), .val (.int z5), .val (.int kk), .val (.int (4 : Int32)), .val (.int q), .val (.int ld), .val (.ref b), .val (.int u1), .val (.int u2), .val (.int u3), .val (.int (144 : Int32)), .val (.int (191 : Int32)), .val (.int (0 : Int32)), .val (.int (-1 : Int32))]) (st' := [(.int (0 : Int32))]) rfl ?_
              refine own_if X69 d0_330 (pc' := 437) (by decide) (fun c330 => ?_) (fun (c330 : ¬ ((0 : Int) = 0)) => by exfalso; omega)
              have c330 : (0 : Int) = 0 := c330
              refine own_blk X69 B0_437_443 B0_437_443d (ls' := #[.val (.int z0), .val (.int z1), .val (.int z2), .val (.int z3), .val (.int z4), .val (.int z5), .val (.int kk), .val (.int (4 : Int32)), .val (.int q), .val (.int ld), .val (.ref b), .val (.int u1), .val (.int u2), .val (.int u3), .val (.int (144 : Int32)), .val (.int (191 : Int32)), .val (.int (0 : Int32)), .val (.int (-1 : Int32))]) (st' := [(.int (4 : Int32)), (.int q), (.ref b)]) rfl ?_
              refine own_callS X69 (hw _ (List.mem_of_getElem? (i := 2) rfl)) (hw _ (List.mem_of_getElem? (i := 3) rfl)) (hw _ (List.mem_of_getElem? (i := 4) rfl)) (hw _ (List.mem_of_getElem? (i := 5) rfl)) (by decide) (c_cp4 l Z a0 hw b q g51 h51 n0 X69.2.1 A51 hq) d0_443 [(.ref b), (.int q), (.int (4 : Int32))] [] rfl rfl pd1 rfl rfl (by decide) (Nat.le_of_ble_eq_true rfl) (by decide) (by decide) (fun _ _ q => by obtain ⟨_, _, q2, _⟩ := q; rw [q2]; exact X69.2.1) (fun v71 h71 T71 X71 q71 => ?_)
              obtain ⟨z71, rfl, e71, hz71⟩ := q71
              rw [e71] at X71
              show own_G p e below (T71.setTop (mkF m 446 #[.val (.int z0), .val (.int z1), .val (.int z2), .val (.int z3), .val (.int z4), .val (.int z5), .val (.int kk), .val (.int (4 : Int32)), .val (.int q), .val (.int ld), .val (.ref b), .val (.int u1), .val (.int u2), .val (.int u3), .val (.int (144 : Int32)), .val (.int (191 : Int32)), .val (.int (0 : Int32)), .val (.int (-1 : Int32))] [(.int z71)])) _
              rw [r0, r1, r2, r3] at hz71
              refine own_blk X71 B0_446_448 B0_446_448d (ls' := #[.val (.int z0), .val (.int z1), .val (.int z2), .val (.int z3), .val (.int z4), .val (.int z5), .val (.int kk), .val (.int (4 : Int32)), .val (.int q), .val (.int ld), .val (.ref b), .val (.int u1), .val (.int u2), .val (.int u3), .val (.int (144 : Int32)), .val (.int (191 : Int32)), .val (.int (0 : Int32)), .val (.int (-1 : Int32))]) (st' := [(.int (-1 : Int32)), (.int z71)]) rfl ?_
              refine own_icmp X71 d0_448 (pc' := 455) (by decide) (fun (c448 : ¬ z71.toInt = -1) => by exfalso; omega) (fun c448 => ?_)
              have c448 : ¬ (¬ z71.toInt = -1) := c448
              refine own_blk X71 B0_451_452 B0_451_452d (ls' := #[.val (.int z0), .val (.int z1), .val (.int z2), .val (.int z3), .val (.int z4), .val (.int z5), .val (.int kk), .val (.int (4 : Int32)), .val (.int q), .val (.int ld), .val (.ref b), .val (.int u1), .val (.int u2), .val (.int u3), .val (.int (144 : Int32)), .val (.int (191 : Int32)), .val (.int (0 : Int32)), .val (.int (-1 : Int32))]) (st' := [(.int (1 : Int32))]) rfl ?_
              refine own_goto X71 d0_452 (pc' := 456) (by decide) ?_
              exact own_retN X71 (by simp) d0_456 (v' := (1 : Int32)) (rfl) (by decide) (by decide) (rfl)
          · rw [own_ic, if_neg hi_u2]
            refine own_if X68 d0_289 (pc' := 296) (by decide) (fun c289 => ?_) (fun (c289 : ¬ ((0 : Int) = 0)) => by exfalso; omega)
            have c289 : (0 : Int) = 0 := c289
            refine own_blk X68 B0_296_302 B0_296_302d (ls' := #[.val (.int z0), .val (.int z1), .val (.int z2), .val (.int z3), .val (.int z4), .val (.int z5), .val (.int kk), .val (.int (4 : Int32)), .val (.int q), .val (.int ld), .val (.ref b), .val (.int u1), .val (.int u2), .val (.int u3), .val (.int (144 : Int32)), .val (.int (191 : Int32)), .val (.int (0 : Int32)), .unset]) (st' := [(.int (3 : Int32)), (.int (4 : Int32))]) rfl ?_
            refine own_icmp X68 d0_302 (pc' := 325) (by decide) (fun (c302 : (4 : Int) ≤ 3) => by exfalso; omega) (fun c302 => ?_)
            have c302 : ¬ ((4 : Int) ≤ 3) := c302
            refine own_blk X68 B0_305_307 B0_305_307d (ls' := #[.val (.int z0), .val (.int z1), .val (.int z2), .val (.int z3), .val (.int z4), .val (.int z5), .val (.int kk), .val (.int (4 : Int32)), .val (.int q), .val (.int ld), .val (.ref b), .val (.int u1), .val (.int u2), .val (.int u3), .val (.int (144 : Int32)), .val (.int (191 : Int32)), .val (.int (0 : Int32)), .unset]) (st' := [(.int (0 : Int32))]) rfl ?_
            refine own_if X68 d0_307 (pc' := 322) (by decide) (fun c307 => ?_) (fun (c307 : ¬ ((0 : Int) = 0)) => by exfalso; omega)
            have c307 : (0 : Int) = 0 := c307
            refine own_blk X68 B0_322_330 B0_322_330d (ls' := #[.val (.int z0), .val (.int z1), .val (.int z2), .val (.int z3), .val (.int z4), .val (.int z5), .val (.int kk), .val (.int (4 : Int32)), .val (.int q), .val (.int ld), .val (.ref b), .val (.int u1), .val (.int u2), .val (.int u3), .val (.int (144 : Int32)), .val (.int (191 : Int32)), .val (.int (0 : Int32)), .val (.int (-1 : Int32))]) (st' := [(.int (0 : Int32))]) rfl ?_
            refine own_if X68 d0_330 (pc' := 437) (by decide) (fun c330 => ?_) (fun (c330 : ¬ ((0 : Int) = 0)) => by exfalso; omega)
            have c330 : (0 : Int) = 0 := c330
            refine own_blk X68 B0_437_443 B0_437_443d (ls' := #[.val (.int z0), .val (.int z1), .val (.int z2), .val (.int z3), .val (.int z4), .val (.int z5), .val (.int kk), .val (.int (4 : Int32)), .val (.int q), .val (.int ld), .val (.ref b), .val (.int u1), .val (.int u2), .val (.int u3), .val (.int (144 : Int32)), .val (.int (191 : Int32)), .val (.int (0 : Int32)), .val (.int (-1 : Int32))]) (st' := [(.int (4 : Int32)), (.int q), (.ref b)]) rfl ?_
            refine own_callS X68 (hw _ (List.mem_of_getElem? (i := 2) rfl)) (hw _ (List.mem_of_getElem? (i := 3) rfl)) (hw _ (List.mem_of_getElem? (i := 4) rfl)) (hw _ (List.mem_of_getElem? (i := 5) rfl)) (by decide) (c_cp4 l Z a0 hw b q g51 h51 n0 X68.2.1 A51 hq) d0_443 [(.ref b), (.int q), (.int (4 : Int32))] [] rfl rfl pd1 rfl rfl (by decide) (Nat.le_of_ble_eq_true rfl) (by decide) (by decide) (fun _ _ q => by obtain ⟨_, _, q2, _⟩ := q; rw [q2]; exact X68.2.1) (fun v72 h72 T72 X72 q72 => ?_)
            obtain ⟨z72, rfl, e72, hz72⟩ := q72
            rw [e72] at X72
            show own_G p e below (T72.setTop (mkF m 446 #[.val (.int z0), .val (.int z1), .val (.int z2), .val (.int z3), .val (.int z4), .val (.int z5), .val (.int kk), .val (.int (4 : Int32)), .val (.int q), .val (.int ld), .val (.ref b), .val (.int u1), .val (.int u2), .val (.int u3), .val (.int (144 : Int32)), .val (.int (191 : Int32)), .val (.int (0 : Int32)), .val (.int (-1 : Int32))] [(.int z72)])) _
            rw [r0, r1, r2, r3] at hz72
            refine own_blk X72 B0_446_448 B0_446_448d (ls' := #[.val (.int z0), .val (.int z1), .val (.int z2), .val (.int z3), .val (.int z4), .val (.int z5), .val (.int kk), .val (.int (4 : Int32)), .val (.int q), .val (.int ld), .val (.ref b), .val (.int u1), .val (.int u2), .val (.int u3), .val (.int (144 : Int32)), .val (.int (191 : Int32)), .val (.int (0 : Int32)), .val (.int (-1 : Int32))]) (st' := [(.int (-1 : Int32)), (.int z72)]) rfl ?_
            refine own_icmp X72 d0_448 (pc' := 455) (by decide) (fun (c448 : ¬ z72.toInt = -1) => by exfalso; omega) (fun c448 => ?_)
            have c448 : ¬ (¬ z72.toInt = -1) := c448
            refine own_blk X72 B0_451_452 B0_451_452d (ls' := #[.val (.int z0), .val (.int z1), .val (.int z2), .val (.int z3), .val (.int z4), .val (.int z5), .val (.int kk), .val (.int (4 : Int32)), .val (.int q), .val (.int ld), .val (.ref b), .val (.int u1), .val (.int u2), .val (.int u3), .val (.int (144 : Int32)), .val (.int (191 : Int32)), .val (.int (0 : Int32)), .val (.int (-1 : Int32))]) (st' := [(.int (1 : Int32))]) rfl ?_
            refine own_goto X72 d0_452 (pc' := 456) (by decide) ?_
            exact own_retN X72 (by simp) d0_456 (v' := (1 : Int32)) (rfl) (by decide) (by decide) (rfl)
set_option maxRecDepth 65536 in
set_option maxHeartbeats 40000000 in
theorem comes_1 {Post : Tables → Env → Array Value → State → Outcome → State → Prop} (hpost : ∀ tb e args s v u, (limb_1_1.after args s (.returned v) u = true ∧ limb_1_2.after args s (.returned v) u = true ∧ True) → FrameEnd s (.returned v) u (Jvm.fieldLocs frame_1_writes args s ++ Jvm.arrayLocs frame_1_arrays args s ++ Jvm.staticLocs frame_1_statics s) 16 128 → Post tb e args s (.returned v) u) :
    ArmFor flags0 classFile x code maxLocals ret World_1 tables_1 room_1 Calls_1 rest_1 Pre_1 Post := by
  intro l hfl _ _ p e ha hc hk s m args below hf hA hF happ hP
  obtain ⟨hcalls, hrest, hpre⟩ := hP
  obtain ⟨-, -, -, hnamed, -, -, -, hat⟩ := (Spec.applies_iff hf).mp happ
  obtain ⟨hg, hn⟩ := and_e (Cond.before_iff.mp (show (Jvm.Cond.and given_1 narrow_1).before args s = true from hpre))
  obtain ⟨gc, g0⟩ := and_e hg
  obtain ⟨q0, g1⟩ := and_e g0
  obtain ⟨q1, g2⟩ := and_e g1
  obtain ⟨q2, g3⟩ := and_e g2
  obtain ⟨q3, g4⟩ := and_e g3
  obtain ⟨q4, g5⟩ := and_e g4
  obtain ⟨w0, w1, w2, w3, w4, w5, rfl⟩ : ∃ w0 w1 w2 w3 w4 w5 : Value, args = #[w0, w1, w2, w3, w4, w5] := by
    have hs : args.size = 6 := by simpa [Cond.value, given_1] using gc
    obtain ⟨L⟩ := args
    match L, hs with
    | [w0, w1, w2, w3, w4, w5], _ => exact ⟨w0, w1, w2, w3, w4, w5, rfl⟩
  have hw := fun d (hd : d ∈ tables_1) => atoms_spec (ws := Jvm.Cond.code x code maxLocals ret :: tables_1) hat d (List.mem_cons_of_mem _ hd)
  obtain ⟨i0, ei0⟩ := is_v q0
  obtain rfl : w0 = (.int i0) := Option.some.inj ei0
  obtain ⟨i1, ei1⟩ := is_v q1
  obtain rfl : w1 = (.int i1) := Option.some.inj ei1
  obtain ⟨i2, ei2⟩ := is_v q2
  obtain rfl : w2 = (.int i2) := Option.some.inj ei2
  obtain ⟨i3, ei3⟩ := is_v q3
  obtain rfl : w3 = (.int i3) := Option.some.inj ei3
  obtain ⟨i4, ei4⟩ := is_v q4
  obtain rfl : w4 = (.int i4) := Option.some.inj ei4
  obtain ⟨i5, ei5⟩ := is_v g5
  obtain rfl : w5 = (.int i5) := Option.some.inj ei5
  obtain ⟨n, o, h1, h2, h3, _, L, rfl, ⟨N, rfl⟩, hq⟩ := c_law l s _ hw i0 i1 i2 i3 i4 i5 s.heap s.heap.size (Nat.le_refl _) tables_1 p e ha hc hk s m _ below hf ((Spec.applies_iff_loose hf).mp happ).1 ⟨rfl, State.Warmed39.refl s, rfl⟩ trivial
  refine ⟨n, _, h1, h2, h3, hpost _ _ _ _ _ _ ⟨Cond.after_iff.mpr rfl, Cond.after_iff.mpr (eq_i res_at (Term.int_eval (1)) rfl), trivial⟩ ⟨hq.1, hq.2.1, (hq.2.2.sift fun y hy => Or.inr (N y hy)).mono (by decide) (by decide)⟩⟩
theorem main_1_1 : Claimed_1_1 := comes_1 fun _ _ _ _ _ _ h hF => ⟨h.1, hF⟩
theorem main_1_2 : Claimed_1_2 := comes_1 fun _ _ _ _ _ _ h hF => ⟨h.2.1, hF⟩
end Jvm.Pilot.@@N@@
namespace Jvm.Pilot.@@N@@
open Jvm Jvm.ClassFile Sem Op Lib Jvm.Free Jvm.Stand Jvm.Pilot.@@N@@.Jvm.D
/-! MADE BY PROGRAM (witnessworld.py) out of the Statement's table words and the real class files: 9 classes; the members and pool entries that the words name. The judged class is class 1, her method 2. -/
namespace start1
open Jvm.ClassFile
def u (s : String) : CpInfo := .utf8 (stringToUtf16 s)
/-- a pool by its gaps: so many unusable entries, then the entry; so many at the end -/
def gap : Nat → List CpInfo → List CpInfo
  | 0, r => r
  | n + 1, r => .unusable :: gap n r
def poolList (es : List (Nat × CpInfo)) (last : Nat) : List CpInfo := es.foldr (fun e r => gap e.1 (e.2 :: r)) (gap last [])
def pool (es : List (Nat × CpInfo)) (last : Nat) : Array CpInfo := ⟨poolList es last⟩
def fileOf (pool : Array CpInfo) (this : Nat) (attrs : Array Attribute := #[]) (ms : Array MethodInfo := #[]) (fl : Nat := 33) (sup : Nat := 0) (ifs : Array Nat := #[]) (fds : Array FieldInfo := #[]) : ClassFile where
  minorVersion := 0
  majorVersion := 65
  constantPool := pool
  accessFlags := fl
  thisClass := this
  superClass := sup
  interfaces := ifs
  fields := fds
  methods := ms
  attributes := attrs
def plain (name : String) (sup : Option ClassId) : Class where
  name := name
  kind := .ordinary
  loader := none
  accessFlags := 33
  super := sup
  interfaces := #[]
  cf := none
  fields := #[]
  methods := #[]
  instanceTypes := #[]
  staticTypes := #[]
  resolved := #[]
  callSites := []
  init := .initialized
  statics := none
  mirror := none

def pool0 : Array CpInfo := pool [(5, u "<init>"), (0, u "()V"), (1, .class_ 10), (1, u "java/lang/Object")] 113

def k0m0 : Method := { name := "<init>", desc := "()V", sig := { parameters := [], returnType := none }, accessFlags := 1, code := none }
/-- java/lang/Object -/
def k0 : Class := { plain "java/lang/Object" none with
  accessFlags := 33
  interfaces := #[]
  cf := some (fileOf pool0 8 #[] #[{ accessFlags := 1, nameIndex := 5, descriptorIndex := 6, attributes := #[] }] 33 0 #[] #[])
  fields := #[]
  methods := #[k0m0]
  instanceTypes := #[]
  staticTypes := #[]
  resolved := Array.replicate 124 none
  statics := none }

def pool1 : Array CpInfo := pool [(2, .class_ 4), (1, u "java/lang/Object"), (0, u "<init>"), (0, u "()V"), (0, .integer 2147483647), (0, .methodref 9 10), (0, .class_ 11), (0, .nameAndType 12 13), (0, u "com/example/cesta/cesta/Utf8CodePointPinLaw"), (0, u "isCont"), (0, u "(I)Z"), (0, .integer 262144), (0, .methodref 16 17), (0, .class_ 18), (0, .nameAndType 19 20), (0, u "com/example/cesta/cesta/Utf8"), (0, u "codePoint"), (0, u "([BII)I"), (3, u "law"), (0, u "(IIIIII)Z")] 4

def k1m0 : Method := { name := "<init>", desc := "()V", sig := { parameters := [], returnType := none }, accessFlags := 2, code := none }
def k1c1 : Code := { maxStack := 2, maxLocals := 1, code := method_2_code, exceptionTable := #[], attributes := #[] }
def k1m1 : Method := { name := "isCont", desc := "(I)Z", sig := { parameters := [.int], returnType := some .boolean }, accessFlags := 10, code := some k1c1 }
def k1c2 : Code := { maxStack := 3, maxLocals := 18, code := code, exceptionTable := #[], attributes := #[] }
def k1m2 : Method := { name := "law", desc := "(IIIIII)Z", sig := { parameters := [.int, .int, .int, .int, .int, .int], returnType := some .boolean }, accessFlags := 9, code := some k1c2 }
/-- com/example/cesta/cesta/Utf8CodePointPinLaw -/
def k1 : Class := { plain "com/example/cesta/cesta/Utf8CodePointPinLaw" (some 0) with
  accessFlags := 49
  interfaces := #[]
  cf := some (fileOf pool1 9 #[] #[{ accessFlags := 2, nameIndex := 5, descriptorIndex := 6, attributes := #[] }, { accessFlags := 10, nameIndex := 12, descriptorIndex := 13, attributes := #[] }, { accessFlags := 9, nameIndex := 24, descriptorIndex := 25, attributes := #[] }] 49 2 #[] #[])
  fields := #[]
  methods := #[k1m0, k1m1, k1m2]
  instanceTypes := #[]
  staticTypes := #[]
  resolved := Array.replicate 30 none
  statics := none }

def pool2 : Array CpInfo := pool [(2, .class_ 4), (1, u "java/lang/Object"), (0, u "<init>"), (0, u "()V"), (0, .integer 65536), (11, .class_ 21), (1, u "com/example/cesta/cesta/Utf8"), (2, .integer 1114111), (0, .integer 55296), (0, .integer 57343), (0, u "MAX_LENGTH"), (0, u "I"), (2, u "MAX_CHAR_LENGTH"), (7, u "codePoint"), (0, u "([BII)I")] 4

def k2m0 : Method := { name := "<init>", desc := "()V", sig := { parameters := [], returnType := none }, accessFlags := 2, code := none }
def k2c1 : Code := { maxStack := 3, maxLocals := 7, code := prog_135_method_5_code, exceptionTable := #[], attributes := #[] }
def k2m1 : Method := { name := "codePoint", desc := "([BII)I", sig := { parameters := [(.array .byte), .int, .int], returnType := some .int }, accessFlags := 8, code := some k2c1 }
/-- com/example/cesta/cesta/Utf8 -/
def k2 : Class := { plain "com/example/cesta/cesta/Utf8" (some 0) with
  accessFlags := 48
  interfaces := #[]
  cf := some (fileOf pool2 19 #[] #[{ accessFlags := 2, nameIndex := 5, descriptorIndex := 6, attributes := #[] }, { accessFlags := 8, nameIndex := 39, descriptorIndex := 40, attributes := #[] }] 48 2 #[] #[{ accessFlags := 24, nameIndex := 27, descriptorIndex := 28, attributes := #[] }, { accessFlags := 24, nameIndex := 31, descriptorIndex := 28, attributes := #[] }])
  fields := #[{ name := "MAX_LENGTH", type := .int, accessFlags := 24, slot := 0, constantValue := 0 }, { name := "MAX_CHAR_LENGTH", type := .int, accessFlags := 24, slot := 1, constantValue := 0 }]
  methods := #[k2m0, k2m1]
  instanceTypes := #[]
  staticTypes := #[.int, .int]
  resolved := Array.replicate 45 none
  statics := none }

def pool3 : Array CpInfo := pool [(1, u "java/lang/Cloneable"), (0, .class_ 1), (0, u "java/lang/Object"), (0, .class_ 3)] 3

/-- java/lang/Cloneable -/
def k3 : Class := { plain "java/lang/Cloneable" (some 0) with
  accessFlags := 1537
  interfaces := #[]
  cf := some (fileOf pool3 2 #[] #[] 1537 4 #[] #[])
  fields := #[]
  methods := #[]
  instanceTypes := #[]
  staticTypes := #[]
  resolved := Array.replicate 8 none
  statics := none }

def pool4 : Array CpInfo := pool [(1, u "java/io/Serializable"), (0, .class_ 1), (0, u "java/lang/Object"), (0, .class_ 3)] 3

/-- java/io/Serializable -/
def k4 : Class := { plain "java/io/Serializable" (some 0) with
  accessFlags := 1537
  interfaces := #[]
  cf := some (fileOf pool4 2 #[] #[] 1537 4 #[] #[])
  fields := #[]
  methods := #[]
  instanceTypes := #[]
  staticTypes := #[]
  resolved := Array.replicate 8 none
  statics := none }

/-- the primitive byte -/
def k5 : Class := { plain "byte" none with kind := .primitive 'B', accessFlags := 0x411 }
/-- [B -/
def k6 : Class := { plain "[B" (some 0) with kind := .array 5 .byte, interfaces := #[3, 4], accessFlags := 1041 }

/-- the primitive int -/
def k7 : Class := { plain "int" none with kind := .primitive 'I', accessFlags := 0x411 }
/-- [I -/
def k8 : Class := { plain "[I" (some 0) with kind := .array 7 .int, interfaces := #[3, 4], accessFlags := 1041 }

def heap : Heap := #[]
def classes : Array Class := #[k0, k1, k2, k3, k4, k5, k6, k7, k8]
def interned : List (Array UInt16 × Addr) := []
def slotsUsed : Nat := 0
def theMethod : MethodId := ⟨1, 2⟩
def args0 : Array Value := #[.int 5, .int 6, .int 7, .int 8, .int 9, .int 10]
def aboutOver (below : List Frame) : State where
  vm := { classes := classes, interned := interned.toArray }
  heap := heap
  slotsUsed := slotsUsed
  threads := #[{ frames := .invoking theMethod args0 :: below }]
def below0 : List Frame := [.native { method := ⟨0, 0⟩, args := #[] }]
def about1 : State := aboutOver below0
def p0 : Program := .bare "" "" ""
def e0 : Env := launch0.env 0 0 0
theorem w_frames : about1.frames = Frame.invoking theMethod args0 :: below0 := rfl
set_option maxRecDepth 65536 in
theorem w_args : argsFit about1.vm theMethod args0 = true := by decide +kernel
set_option maxRecDepth 65536 in
theorem w_heap : heapFits about1 = true := by decide +kernel
set_option maxRecDepth 65536 in
theorem w_runnable : about1.curStatus? = some .runnable := by decide +kernel
set_option maxRecDepth 65536 in
theorem w_alone : about1.alone = true := by decide +kernel
set_option maxRecDepth 65536 in
theorem w_named : about1.methodNamed? x = some theMethod := by decide +kernel
set_option maxRecDepth 65536 in
theorem w_hears : about1.hears theMethod below0 = true := by decide +kernel
set_option maxRecDepth 65536 in
theorem w_ripe : about1.ripe theMethod args0 below0 = true := by decide +kernel
theorem w_running : about1.status = .running := rfl
set_option maxRecDepth 65536 in
theorem w_room : about1.hasRoom e0.platform room_1 = true :=
  launch0.hasRoom_least _ room_1 (by decide +kernel) (by decide +kernel) (by decide +kernel) (by decide +kernel) (by decide +kernel) (by decide +kernel)
theorem allAtoms_all (ts : List Jvm.Cond) (a : Array Jvm.Value) (st : Jvm.State) : (allAtoms ts).before a st = ts.all (fun c => c.before a st) := by
  induction ts with
  | nil => rfl
  | cons c t ih =>
    show (Jvm.Cond.and c (allAtoms t)).before a st = _
    rw [Jvm.Cond.before_and, ih, List.all_cons]
def words1 : List Jvm.Cond := Jvm.Cond.code x code maxLocals ret :: tables_1
/-- a 'code' word, met by the world's own term for the bytes: nothing is compared byte by byte -/
theorem code_word {y : MethodName} {bytes : ByteArray} {mx : Nat} {rt : Option FieldType} {a : Array Value} {s : State} {m : MethodId} {meth : Method} {c : Code} (h1 : s.methodNamed? y = some m) (h2 : s.vm.method? m = some meth) (h3 : meth.code = some c) (h4 : c.code = bytes)
    (h5 : (c.maxLocals == mx && c.exceptionTable.isEmpty && decide (c.maxStack ≤ mostOperands) && decide (meth.sig.returnType = rt) && !meth.locks && decide (parseMethodDescriptor y.desc = some meth.sig)) = true) : (Jvm.Cond.code y bytes mx rt).before a s = true := by
  simp only [Bool.and_eq_true, beq_iff_eq, Bool.not_eq_true', decide_eq_true_eq] at h5
  obtain ⟨⟨⟨⟨⟨g1, g2⟩, g3⟩, g4⟩, g5⟩, g6⟩ := h5
  simp [Cond.before, Cond.holds, Cond.value, h1, h2, h3, h4, g1, g2, g3, g4, g5, g6]
def isCode : Jvm.Cond → Bool
  | .code _ _ _ _ => true
  | _ => false
theorem all_split {L : List Jvm.Cond} {P : Jvm.Cond → Bool} (h1 : L.all (fun c => isCode c || P c) = true) (h2 : ∀ c ∈ L.filter isCode, P c = true) : L.all P = true := by
  refine List.all_eq_true.mpr fun c hc => ?_
  have h := List.all_eq_true.mp h1 c hc
  rcases Bool.eq_false_or_eq_true (isCode c) with hi | hi
  · exact h2 c (List.mem_filter.mpr ⟨hc, hi⟩)
  · simpa [hi] using h
set_option maxRecDepth 65536 in
theorem w_c0 : (Jvm.Cond.code x code maxLocals ret).before args0 about1 = true := code_word (m := ⟨1, 2⟩) (meth := k1m2) (c := k1c2) (by decide +kernel) rfl rfl rfl (by decide +kernel)
set_option maxRecDepth 65536 in
theorem w_c1 : (Jvm.Cond.code ({ cls := "com/example/cesta/cesta/Utf8", name := "codePoint", desc := "([BII)I" } : Jvm.MethodName) prog_135_method_5_code (7 : Nat) (Option.some Jvm.ClassFile.FieldType.int)).before args0 about1 = true := code_word (m := ⟨2, 1⟩) (meth := k2m1) (c := k2c1) (by decide +kernel) rfl rfl rfl (by decide +kernel)
set_option maxRecDepth 65536 in
theorem w_c2 : (Jvm.Cond.code ({ cls := "com/example/cesta/cesta/Utf8CodePointPinLaw", name := "isCont", desc := "(I)Z" } : Jvm.MethodName) method_2_code (1 : Nat) (Option.some Jvm.ClassFile.FieldType.boolean)).before args0 about1 = true := code_word (m := ⟨1, 1⟩) (meth := k1m1) (c := k1c1) (by decide +kernel) rfl rfl rfl (by decide +kernel)
def codes1 : List Jvm.Cond := [Jvm.Cond.code x code maxLocals ret, Jvm.Cond.code ({ cls := "com/example/cesta/cesta/Utf8", name := "codePoint", desc := "([BII)I" } : Jvm.MethodName) prog_135_method_5_code (7 : Nat) (Option.some Jvm.ClassFile.FieldType.int), Jvm.Cond.code ({ cls := "com/example/cesta/cesta/Utf8CodePointPinLaw", name := "isCont", desc := "(I)Z" } : Jvm.MethodName) method_2_code (1 : Nat) (Option.some Jvm.ClassFile.FieldType.boolean)]
set_option maxRecDepth 65536 in
theorem codes_eq : words1.filter isCode = codes1 := rfl
theorem w_codes : ∀ c ∈ words1.filter isCode, c.before args0 about1 = true := by
  rw [codes_eq]
  intro c hc
  simp only [codes1, List.mem_cons, List.not_mem_nil, or_false] at hc
  rcases hc with rfl | rfl | rfl
  · exact w_c0
  · exact w_c1
  · exact w_c2
set_option maxRecDepth 65536 in
theorem w_t1 : words1.all (fun c => isCode c || c.before args0 about1) = true := by decide +kernel
theorem w_tables : (allAtoms (Jvm.Cond.code x code maxLocals ret :: tables_1)).before args0 about1 = true := by
  rw [allAtoms_all]
  show words1.all (fun c => c.before args0 about1) = true
  refine all_split ?_ w_codes
  rw [w_t1]
set_option maxRecDepth 65536 in
theorem w_case : (Jvm.Cond.and given_1 narrow_1).before args0 about1 = true := by decide +kernel
theorem w_applies : (headSpec (Jvm.Cond.code x code maxLocals ret :: tables_1) room_1).applies x e0.platform about1 = true :=
  (Spec.applies_iff w_frames).mpr ⟨w_running, w_runnable, w_alone, w_named, w_hears, w_ripe, w_room, w_tables⟩
theorem atStart : AtStart classFile x code maxLocals ret World_1 tables_1 room_1 Calls_1 rest_1 Pre_1 launch0 p0 e0 about1 theMethod args0 below0 :=
  ⟨lists_1, trivial, launch0.admits_env _ _ _, launch0.least_env, fairChoices_fair.cas, fairChoices_fair.clock, w_frames, w_args, w_heap, w_applies, trivial, trivial, w_case⟩
end start1
theorem witness_1 : WitnessClaimed_1 := ⟨start1.p0, start1.e0, start1.about1, start1.theMethod, start1.args0, start1.below0, start1.atStart⟩
end Jvm.Pilot.@@N@@
