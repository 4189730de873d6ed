import JvmDerived
import JvmDerived.Pilot.@@N@@Statement
import JvmDerived.Pilot.@@N@@Code
set_option linter.unusedVariables false
set_option linter.unusedSimpArgs false
@@BLOCK:NumsL.lean.txt@@
namespace Jvm.Pilot.@@N@@
open Jvm Jvm.ClassFile Sem Op Lib Jvm.Free Jvm.Stand Jvm.LawKit Jvm.RoadKit Bundle Jvm.Pilot.@@N@@.Jvm.D
/-! ### own layer 1: plain steps by evaluation over a list of decoded instructions -/
def own_iushr (x y : Int32) : Int32 := (x.toUInt32 >>> (y &&& 31).toUInt32).toInt32
def own_ishl (x y : Int32) : Int32 := x <<< (y &&& 31)
def own_ishr (x y : Int32) : Int32 := x >>> (y &&& 31)
def own_irem (x y : Int32) : Int32 := x - (x / y) * y
def own_lrem (x y : Int64) : Int64 := x - (x / y) * y
def own_lushr (x : Int64) (y : Int32) : Int64 := (x.toUInt64 >>> (y &&& 0x3f).toInt64.toUInt64).toInt64
def own_lshl (x : Int64) (y : Int32) : Int64 := x <<< (y &&& 0x3f).toInt64
def own_lshr (x : Int64) (y : Int32) : Int64 := x >>> (y &&& 0x3f).toInt64
def own_i2b (x : Int32) : Int32 := x.toInt8.toInt32

abbrev own_R : Type := Option (Array Slot × List Value)
def own_i2 (f : Int32 → Int32 → Int32) (ls : Array Slot) : List Value → own_R
  | .int y :: .int x :: r => some (ls, .int (f x y) :: r)
  | _ => none
def own_i1 (f : Int32 → Value) (ls : Array Slot) : List Value → own_R
  | .int x :: r => some (ls, f x :: r)
  | _ => none
def own_l2 (f : Int64 → Int64 → Int64) (ls : Array Slot) : List Value → own_R
  | .long y :: .long x :: r => some (ls, .long (f x y) :: r)
  | _ => none
def own_lS (f : Int64 → Int32 → Int64) (ls : Array Slot) : List Value → own_R
  | .int y :: .long x :: r => some (ls, .long (f x y) :: r)
  | _ => none
def own_l1 (f : Int64 → Value) (ls : Array Slot) : List Value → own_R
  | .long x :: r => some (ls, f x :: r)
  | _ => none
def own_li (ls : Array Slot) (k : Nat) (st : List Value) : own_R :=
  match ls[k]? with
  | some (.val (.int v)) => some (ls, .int v :: st)
  | _ => none
def own_ll (ls : Array Slot) (k : Nat) (st : List Value) : own_R :=
  match ls[k]? with
  | some (.val (.long v)) => some (ls, .long v :: st)
  | _ => none
def own_la (ls : Array Slot) (k : Nat) (st : List Value) : own_R :=
  match ls[k]? with
  | some (.val (.ref v)) => some (ls, .ref v :: st)
  | some (.val .null) => some (ls, .null :: st)
  | _ => none
def own_sv (ls : Array Slot) (k : Nat) (v : Value) (r : List Value) : own_R :=
  match storeLocals ls k v with
  | some l' => some (l', r)
  | none => none
def own_si (ls : Array Slot) (k : Nat) : List Value → own_R
  | .int x :: r => own_sv ls k (.int x) r
  | _ => none
def own_sl (ls : Array Slot) (k : Nat) : List Value → own_R
  | .long x :: r => own_sv ls k (.long x) r
  | _ => none
def own_sa (ls : Array Slot) (k : Nat) : List Value → own_R
  | .ref x :: r => own_sv ls k (.ref x) r
  | .null :: r => own_sv ls k .null r
  | _ => none
def own_inc (ls : Array Slot) (k : Nat) (d : Int) (st : List Value) : own_R :=
  match ls[k]? with
  | some (.val (.int v)) => own_sv ls k (.int (v + Int32.ofInt d)) st
  | _ => none
def own_dup (ls : Array Slot) : List Value → own_R
  | .int x :: r => some (ls, .int x :: .int x :: r)
  | .ref x :: r => some (ls, .ref x :: .ref x :: r)
  | _ => none
def own_dupX (ls : Array Slot) : List Value → own_R
  | .int x :: .ref y :: r => some (ls, .int x :: .ref y :: .int x :: r)
  | _ => none
def own_pop (ls : Array Slot) : List Value → own_R
  | .int _ :: r => some (ls, r)
  | .ref _ :: r => some (ls, r)
  | _ => none

def own_p (i : Instr) (n : Nat) (ls : Array Slot) (st : List Value) : own_R :=
  match i, n with
  | .iconst k, 1 => some (ls, .int (Int32.ofInt k) :: st)
  | .bipush k, 2 => some (ls, .int (Int8.ofInt k).toInt32 :: st)
  | .sipush k, 3 => some (ls, .int (Int16.ofInt k).toInt32 :: st)
  | .lconst k, 1 => some (ls, .long (Int64.ofNat k) :: st)
  | .aconst_null, 1 => some (ls, .null :: st)
  | .iload_n k, 1 => own_li ls k.val st
  | .iload k, 2 => own_li ls k st
  | .lload_n k, 1 => own_ll ls k.val st
  | .lload k, 2 => own_ll ls k st
  | .aload_n k, 1 => own_la ls k.val st
  | .aload k, 2 => own_la ls k st
  | .istore_n k, 1 => own_si ls k.val st
  | .istore k, 2 => own_si ls k st
  | .lstore_n k, 1 => own_sl ls k.val st
  | .lstore k, 2 => own_sl ls k st
  | .astore_n k, 1 => own_sa ls k.val st
  | .astore k, 2 => own_sa ls k st
  | .iinc k d, 3 => own_inc ls k d st
  | .iadd, 1 => own_i2 (· + ·) ls st
  | .isub, 1 => own_i2 (· - ·) ls st
  | .imul, 1 => own_i2 (· * ·) ls st
  | .iand, 1 => own_i2 (· &&& ·) ls st
  | .ior, 1 => own_i2 (· ||| ·) ls st
  | .ixor, 1 => own_i2 (· ^^^ ·) ls st
  | .ishl, 1 => own_i2 own_ishl ls st
  | .ishr, 1 => own_i2 own_ishr ls st
  | .iushr, 1 => own_i2 own_iushr ls st
  | .ladd, 1 => own_l2 (· + ·) ls st
  | .lsub, 1 => own_l2 (· - ·) ls st
  | .lmul, 1 => own_l2 (· * ·) ls st
  | .land, 1 => own_l2 (· &&& ·) ls st
  | .lor, 1 => own_l2 (· ||| ·) ls st
  | .lxor, 1 => own_l2 (· ^^^ ·) ls st
  | .lshl, 1 => own_lS own_lshl ls st
  | .lshr, 1 => own_lS own_lshr ls st
  | .lushr, 1 => own_lS own_lushr ls st
  | .i2b, 1 => own_i1 (fun x => .int (own_i2b x)) ls st
  | .i2l, 1 => own_i1 (fun x => .long x.toInt64) ls st
  | .l2i, 1 => own_l1 (fun x => .int x.toInt32) ls st
  | .dup, 1 => own_dup ls st
  | .dup_x1, 1 => own_dupX ls st
  | .pop, 1 => own_pop ls st
  | _, _ => none

section Inv
variable {ls ls' : Array Slot} {st st' : List Value}
theorem own_i2_inv {f : Int32 → Int32 → Int32} (h : own_i2 f ls st = some (ls', st')) : ∃ x y r, st = .int y :: .int x :: r ∧ ls' = ls ∧ st' = .int (f x y) :: r := by
  unfold own_i2 at h; split at h
  · cases h; exact ⟨_, _, _, rfl, rfl, rfl⟩
  · cases h
theorem own_i1_inv {f : Int32 → Value} (h : own_i1 f ls st = some (ls', st')) : ∃ x r, st = .int x :: r ∧ ls' = ls ∧ st' = f x :: r := by
  unfold own_i1 at h; split at h
  · cases h; exact ⟨_, _, rfl, rfl, rfl⟩
  · cases h
theorem own_l2_inv {f : Int64 → Int64 → Int64} (h : own_l2 f ls st = some (ls', st')) : ∃ x y r, st = .long y :: .long x :: r ∧ ls' = ls ∧ st' = .long (f x y) :: r := by
  unfold own_l2 at h; split at h
  · cases h; exact ⟨_, _, _, rfl, rfl, rfl⟩
  · cases h
theorem own_lS_inv {f : Int64 → Int32 → Int64} (h : own_lS f ls st = some (ls', st')) : ∃ x y r, st = .int y :: .long x :: r ∧ ls' = ls ∧ st' = .long (f x y) :: r := by
  unfold own_lS at h; split at h
  · cases h; exact ⟨_, _, _, rfl, rfl, rfl⟩
  · cases h
theorem own_l1_inv {f : Int64 → Value} (h : own_l1 f ls st = some (ls', st')) : ∃ x r, st = .long x :: r ∧ ls' = ls ∧ st' = f x :: r := by
  unfold own_l1 at h; split at h
  · cases h; exact ⟨_, _, rfl, rfl, rfl⟩
  · cases h
theorem own_li_inv {k : Nat} (h : own_li ls k st = some (ls', st')) : ∃ v, ls[k]? = some (.val (.int v)) ∧ ls' = ls ∧ st' = .int v :: st := by
  unfold own_li at h; split at h
  · rename_i q; cases h; exact ⟨_, q, rfl, rfl⟩
  · cases h
theorem own_ll_inv {k : Nat} (h : own_ll ls k st = some (ls', st')) : ∃ v, ls[k]? = some (.val (.long v)) ∧ ls' = ls ∧ st' = .long v :: st := by
  unfold own_ll at h; split at h
  · rename_i q; cases h; exact ⟨_, q, rfl, rfl⟩
  · cases h
theorem own_la_inv {k : Nat} (h : own_la ls k st = some (ls', st')) : ∃ v : Value, v.isRef = true ∧ ls[k]? = some (.val v) ∧ ls' = ls ∧ st' = v :: st := by
  unfold own_la at h; split at h
  · rename_i q; cases h; exact ⟨_, rfl, q, rfl, rfl⟩
  · rename_i q; cases h; exact ⟨_, rfl, q, rfl, rfl⟩
  · cases h
theorem own_sv_inv {k : Nat} {v : Value} {r : List Value} (h : own_sv ls k v r = some (ls', st')) : storeLocals ls k v = some ls' ∧ st' = r := by
  unfold own_sv at h; split at h
  · rename_i q; cases h; exact ⟨q, rfl⟩
  · cases h
theorem own_si_inv {k : Nat} (h : own_si ls k st = some (ls', st')) : ∃ x, st = .int x :: st' ∧ storeLocals ls k (.int x) = some ls' := by
  unfold own_si at h; split at h
  · obtain ⟨h1, h2⟩ := own_sv_inv h; subst h2; exact ⟨_, rfl, h1⟩
  · cases h
theorem own_sl_inv {k : Nat} (h : own_sl ls k st = some (ls', st')) : ∃ x, st = .long x :: st' ∧ storeLocals ls k (.long x) = some ls' := by
  unfold own_sl at h; split at h
  · obtain ⟨h1, h2⟩ := own_sv_inv h; subst h2; exact ⟨_, rfl, h1⟩
  · cases h
theorem own_sa_inv {k : Nat} (h : own_sa ls k st = some (ls', st')) : ∃ x : Value, x.isRef = true ∧ st = x :: st' ∧ storeLocals ls k x = some ls' := by
  unfold own_sa at h; split at h
  · obtain ⟨h1, h2⟩ := own_sv_inv h; subst h2; exact ⟨_, rfl, rfl, h1⟩
  · obtain ⟨h1, h2⟩ := own_sv_inv h; subst h2; exact ⟨_, rfl, rfl, h1⟩
  · cases h
theorem own_inc_inv {k : Nat} {d : Int} (h : own_inc ls k d st = some (ls', st')) : ∃ x, ls[k]? = some (.val (.int x)) ∧ storeLocals ls k (.int (x + Int32.ofInt d)) = some ls' ∧ st' = st := by
  unfold own_inc at h; split at h
  · rename_i q; obtain ⟨h1, h2⟩ := own_sv_inv h; exact ⟨_, q, h1, h2⟩
  · cases h
theorem own_dup_inv (h : own_dup ls st = some (ls', st')) : ∃ (x : Value) (r : List Value), st = x :: r ∧ x.category = 1 ∧ ls' = ls ∧ st' = x :: x :: r := by
  unfold own_dup at h; split at h
  · cases h; exact ⟨_, _, rfl, rfl, rfl, rfl⟩
  · cases h; exact ⟨_, _, rfl, rfl, rfl, rfl⟩
  · cases h
theorem own_dupX_inv (h : own_dupX ls st = some (ls', st')) : ∃ (x y : Value) (r : List Value), st = x :: y :: r ∧ x.category = 1 ∧ y.category = 1 ∧ ls' = ls ∧ st' = x :: y :: x :: r := by
  unfold own_dupX at h; split at h
  · cases h; exact ⟨_, _, _, rfl, rfl, rfl, rfl, rfl⟩
  · cases h
theorem own_pop_inv (h : own_pop ls st = some (ls', st')) : ∃ (x : Value), st = x :: st' ∧ x.category = 1 ∧ ls' = ls := by
  unfold own_pop at h; split at h
  · cases h; exact ⟨_, rfl, rfl, rfl⟩
  · cases h; exact ⟨_, rfl, rfl, rfl⟩
  · cases h
end Inv

set_option maxHeartbeats 4000000 in
theorem own_p_ok {tb : Tables} [Ours tb] {e : Env} {below : List Frame} {T t : State} {m : MethodId} {c : Code} (h : At T m c below) (hx : tb.exec = Jvm.exec) {i : Instr} {n pc : Nat} {ls ls' : Array Slot} {st st' : List Value}
    (hd : decode c.code pc = .ok (i, n)) (hp : own_p i n ls st = some (ls', st')) (hr : Steps tb e below (T.setTop (mkF m (pc + n) ls' st')) t) : Steps tb e below (T.setTop (mkF m pc ls st)) t := by
  unfold own_p at hp
  split at hp
  · cases hp; exact XS.iconst h hx rfl hd hr
  · cases hp; exact XS.bipush h hx rfl hd hr
  · cases hp; exact XS.sipush h hx rfl hd hr
  · cases hp; exact XS.lconst h hx rfl hd hr
  · cases hp; exact XS.aconstNull h hx rfl hd hr
  · obtain ⟨v, q, rfl, rfl⟩ := own_li_inv hp; exact XS.iloadN h hx rfl hd q hr
  · obtain ⟨v, q, rfl, rfl⟩ := own_li_inv hp; exact XS.iload h hx rfl hd q hr
  · obtain ⟨v, q, rfl, rfl⟩ := own_ll_inv hp; exact XS.lloadN h hx rfl hd q hr
  · obtain ⟨v, q, rfl, rfl⟩ := own_ll_inv hp; exact XS.lload h hx rfl hd q hr
  · obtain ⟨v, q0, q, rfl, rfl⟩ := own_la_inv hp; exact XS.aloadN h hx rfl hd q q0 hr
  · obtain ⟨v, q0, q, rfl, rfl⟩ := own_la_inv hp; exact XS.aload h hx rfl hd q q0 hr
  · obtain ⟨x, rfl, q⟩ := own_si_inv hp; exact XS.istoreN h hx rfl hd rfl q hr
  · obtain ⟨x, rfl, q⟩ := own_si_inv hp; exact XS.istore h hx rfl hd rfl q hr
  · obtain ⟨x, rfl, q⟩ := own_sl_inv hp; exact XS.lstoreN h hx rfl hd rfl q hr
  · obtain ⟨x, rfl, q⟩ := own_sl_inv hp; exact XS.lstore h hx rfl hd rfl q hr
  · obtain ⟨x, q0, rfl, q⟩ := own_sa_inv hp; exact XS.astoreN h hx rfl hd rfl q0 q hr
  · obtain ⟨x, q0, rfl, q⟩ := own_sa_inv hp; exact XS.astore h hx rfl hd rfl q0 q hr
  · obtain ⟨x, q1, q2, rfl⟩ := own_inc_inv hp; exact XS.iinc h hx rfl hd q1 q2 hr
  · obtain ⟨x, y, r, rfl, rfl, rfl⟩ := own_i2_inv hp; exact XS.iadd h hx rfl hd rfl hr
  · obtain ⟨x, y, r, rfl, rfl, rfl⟩ := own_i2_inv hp; exact XS.isub h hx rfl hd rfl hr
  · obtain ⟨x, y, r, rfl, rfl, rfl⟩ := own_i2_inv hp; exact XS.imul h hx rfl hd rfl hr
  · obtain ⟨x, y, r, rfl, rfl, rfl⟩ := own_i2_inv hp; exact XS.iand h hx rfl hd rfl hr
  · obtain ⟨x, y, r, rfl, rfl, rfl⟩ := own_i2_inv hp; exact XS.ior h hx rfl hd rfl hr
  · obtain ⟨x, y, r, rfl, rfl, rfl⟩ := own_i2_inv hp; exact XS.ixor h hx rfl hd rfl hr
  · obtain ⟨x, y, r, rfl, rfl, rfl⟩ := own_i2_inv hp; exact XS.ishl h hx rfl hd rfl hr
  · obtain ⟨x, y, r, rfl, rfl, rfl⟩ := own_i2_inv hp; exact XS.ishr h hx rfl hd rfl hr
  · obtain ⟨x, y, r, rfl, rfl, rfl⟩ := own_i2_inv hp; exact XS.iushr h hx rfl hd rfl hr
  · obtain ⟨x, y, r, rfl, rfl, rfl⟩ := own_l2_inv hp; exact XS.ladd h hx rfl hd rfl hr
  · obtain ⟨x, y, r, rfl, rfl, rfl⟩ := own_l2_inv hp; exact XS.lsub h hx rfl hd rfl hr
  · obtain ⟨x, y, r, rfl, rfl, rfl⟩ := own_l2_inv hp; exact XS.lmul h hx rfl hd rfl hr
  · obtain ⟨x, y, r, rfl, rfl, rfl⟩ := own_l2_inv hp; exact XS.land h hx rfl hd rfl hr
  · obtain ⟨x, y, r, rfl, rfl, rfl⟩ := own_l2_inv hp; exact XS.lor h hx rfl hd rfl hr
  · obtain ⟨x, y, r, rfl, rfl, rfl⟩ := own_l2_inv hp; exact XS.lxor h hx rfl hd rfl hr
  · obtain ⟨x, y, r, rfl, rfl, rfl⟩ := own_lS_inv hp; exact XS.lshl h hx rfl hd rfl hr
  · obtain ⟨x, y, r, rfl, rfl, rfl⟩ := own_lS_inv hp; exact XS.lshr h hx rfl hd rfl hr
  · obtain ⟨x, y, r, rfl, rfl, rfl⟩ := own_lS_inv hp; exact XS.lushr h hx rfl hd rfl hr
  · obtain ⟨x, r, rfl, rfl, rfl⟩ := own_i1_inv hp; exact XS.i2b h hx rfl hd rfl hr
  · obtain ⟨x, r, rfl, rfl, rfl⟩ := own_i1_inv hp; exact XS.i2l h hx rfl hd rfl hr
  · obtain ⟨x, r, rfl, rfl, rfl⟩ := own_l1_inv hp; exact XS.l2i h hx rfl hd rfl hr
  · obtain ⟨x, r, rfl, q, rfl, rfl⟩ := own_dup_inv hp; exact XS.dup h hx rfl hd rfl q hr
  · obtain ⟨x, y, r, rfl, q1, q2, rfl, rfl⟩ := own_dupX_inv hp; exact XS.dupX1 h hx rfl hd rfl q1 q2 hr
  · obtain ⟨x, rfl, q, rfl⟩ := own_pop_inv hp; exact XS.pop h hx rfl hd rfl q hr
  · cases hp

/-- the list lies in the code from pc on, up to pc' -/
def own_d (code : ByteArray) : Nat → List (Instr × Nat) → Nat → Bool
  | pc, [], pc' => pc == pc'
  | pc, (i, n) :: L, pc' => decide (decode code pc = .ok (i, n)) && own_d code (pc + n) L pc'
def own_x : List (Instr × Nat) → Array Slot → List Value → own_R
  | [], ls, st => some (ls, st)
  | (i, n) :: L, ls, st => match own_p i n ls st with
    | some (ls', st') => own_x L ls' st'
    | none => none
theorem own_x_ok {tb : Tables} [Ours tb] {e : Env} {below : List Frame} {T t : State} {m : MethodId} {c : Code} (h : At T m c below) (hx : tb.exec = Jvm.exec) : ∀ (L : List (Instr × Nat)) {pc pc' : Nat} {ls ls' : Array Slot} {st st' : List Value},
    own_d c.code pc L pc' = true → own_x L ls st = some (ls', st') → Steps tb e below (T.setTop (mkF m pc' ls' st')) t → Steps tb e below (T.setTop (mkF m pc ls st)) t
  | [], pc, pc', ls, ls', st, st', hd, hr, k => by
    have e1 : pc = pc' := by simpa [own_d] using hd
    subst e1
    cases hr
    exact k
  | (i, n) :: L, pc, pc', ls, ls', st, st', hd, hr, k => by
    simp only [own_d, Bool.and_eq_true, decide_eq_true_eq] at hd
    simp only [own_x] at hr
    cases hq : own_p i n ls st with
    | none => rw [hq] at hr; cases hr
    | some q =>
      obtain ⟨l1, s1⟩ := q
      rw [hq] at hr
      exact own_p_ok h hx hd.1 hq (own_x_ok h hx L hd.2 hr k)

/-! ### own layer 2: where a walk stands, and that it comes to its end -/
def own_G (p : Program) (e : Env) (below : List Frame) (A : State) (Q : Outcome → State → Prop) : Prop :=
  ∃ s₂ o, Steps p.tables e below A s₂ ∧ s₂.status = .running ∧ Ended s₂ below o ∧ Q o s₂
theorem own_st {p : Program} {e : Env} {below : List Frame} {A A' : State} {Q : Outcome → State → Prop} (st : ∀ t, Steps p.tables e below A' t → Steps p.tables e below A t) (g : own_G p e below A' Q) : own_G p e below A Q := by
  obtain ⟨s2, o, h1, h2⟩ := g
  exact ⟨s2, o, st _ h1, h2⟩
def own_E (s : State) (n0 : Nat) (P : Option Value → Heap → Prop) (C S : Nat) (o : Outcome) (U : State) : Prop := ∃ v L, o = .returned v ∧ (Fr n0 L ∧ P v U.heap) ∧ FrameEnd s o U L C S
def own_X (p : Program) (l : Launch) (e : Env) (R : Room) (s : State) (m : MethodId) (args : Array Value) (below : List Frame) (meth : Method) (c : Code) (Z : State) (bytes : ByteArray) (maxL : Nat) (ret : Option FieldType) (y : MethodName) (n0 : Nat) (h : Heap) (T : State) (k n : Nat) : Prop :=
  (p.tables.exec = Jvm.exec ∧ c.code = bytes ∧ c.maxLocals = maxL ∧ s.vm.findClass y.cls = some m.cls ∧ meth.name = y.name ∧ meth.sig.returnType = ret ∧ Z.Warmed39 s.vm ∧ meth.locks = false) ∧
    n0 ≤ h.size ∧ T.heap = h ∧ ∃ locs, Stand p l e R s m args below meth c T locs k n ∧ Fr n0 locs
/-- a body's contract: from these arguments and this heap it returns, and P says what, and what heap it leaves -/
def own_C (l : Launch) (Z : State) (y : MethodName) (bytes : ByteArray) (maxL : Nat) (ret : Option FieldType) (rm : Room) (as : Array Value) (h0 : Heap) (n0 : Nat) (P : Option Value → Heap → Prop) : Prop :=
  ∀ ws : List Jvm.Cond, MetFree l y (head1 (Jvm.Cond.code y bytes maxL ret :: ws) rm) (fun a U => a = as ∧ Z.Warmed39 U.vm ∧ U.heap = h0) (fun _ _ _ _ _ => True)
    (fun _ U o U' => ∃ v L, o = .returned v ∧ (Fr n0 L ∧ P v U'.heap) ∧ FrameEnd U o U' L rm.cells rm.slots)
theorem own_body {l : Launch} {Z : State} {y : MethodName} {bytes : ByteArray} {maxL : Nat} {ret : Option FieldType} {rm : Room} {as : Array Value} {h0 : Heap} {n0 : Nat} {P : Option Value → Heap → Prop} (hpl : plainFor y = true) (h0n : n0 ≤ h0.size) {ls : Array Slot} (hef : ∀ m, entryFrame m as maxL = mkF m 0 ls [])
    (k : ∀ p e s m below meth c T, own_X p l e rm s m as below meth c Z bytes maxL ret y n0 h0 T 0 0 → own_G p e below (T.setTop (mkF m 0 ls [])) (own_E s n0 P rm.cells rm.slots)) : own_C l Z y bytes maxL ret rm as h0 n0 P := by
  intro ws
  refine MetFree.of_bodySF hpl hisR ?_
  intro p e s m args below meth c s₁ Bd hml0 hP hK
  obtain ⟨rfl, hZ, hh⟩ := hP
  have e0 : s₁.heap = h0 := by rw [← hh, Bd.state]; rfl
  have X0 : Stand p l e rm s m args below meth c s₁ [] 0 0 := Stand.of_body Bd
  have g := k p e s m below meth c s₁ ⟨⟨Bd.exec, Bd.bytes, hml0, findClass_of_methodNamed Bd.named, (name_of_methodNamed Bd.named Bd.method).1, Bd.returns, hZ, Bd.notSynchronized⟩, h0n, e0, [], X0, Fr.nil n0⟩
  rw [← hef m] at g
  exact g

section Walk
variable {p : Program} {l : Launch} {e : Env} {R : Room} {s : State} {m : MethodId} {args : Array Value} {below : List Frame} {meth : Method} {c : Code} {Z : State} {bytes : ByteArray} {maxL : Nat} {ret : Option FieldType} {y : MethodName} {n0 : Nat} {h : Heap} {T : State} {k n : Nat} {Q : Outcome → State → Prop} {pc pc' : Nat} {ls ls' : Array Slot} {st st' : List Value} {a0 : Array Value}
theorem own_blk (X : own_X p l e R s m args below meth c Z bytes maxL ret y n0 h T k n) (L : List (Instr × Nat)) (hd : own_d bytes pc L pc' = true) (hr : own_x L ls st = some (ls', st')) (g : own_G p e below (T.setTop (mkF m pc' ls' st')) Q) : own_G p e below (T.setTop (mkF m pc ls st)) Q := by
  obtain ⟨⟨hx, hby, -⟩, -, -, locs, X, -⟩ := X
  subst hby
  exact own_st (fun t q => own_x_ok X.here hx L hd hr q) g
/-! branches -/
def own_tg (pc : Nat) (o : Int) (pc' : Nat) : Bool := decide (0 ≤ (pc : Int) + o) && decide (((pc : Int) + o).toNat = pc')
def own_cI : ClassFile.Cond → Int → Int → Prop
  | .eq, x, y => x = y
  | .ne, x, y => ¬ x = y
  | .lt, x, y => x < y
  | .ge, x, y => y ≤ x
  | .gt, x, y => y < x
  | .le, x, y => x ≤ y
theorem own_icmp_iff (cd : ClassFile.Cond) (x y : Int32) : if_icmp.holds cd x y = true ↔ own_cI cd x.toInt y.toInt := by
  cases cd <;> simp [if_icmp.holds, own_cI, Int32.lt_iff_toInt_lt, Int32.le_iff_toInt_le, Int32.toInt_inj]
theorem own_if_iff (cd : ClassFile.Cond) (x : Int32) : ifCond.holds cd x = true ↔ own_cI cd x.toInt 0 := by
  rw [if0]; exact own_icmp_iff cd x 0
theorem own_l_iff (cd : ClassFile.Cond) (x y : Int64) : ifCond.holds cd (if x > y then 1 else if x = y then 0 else -1) = true ↔ own_cI cd x.toInt y.toInt := by
  rw [own_if_iff]
  have e1 : (x > y) = (y.toInt < x.toInt) := by rw [gt_iff_lt, Int64.lt_iff_toInt_lt]
  have e2 : (x = y) = (x.toInt = y.toInt) := by rw [Int64.toInt_inj]
  simp only [e1, e2]
  by_cases q1 : y.toInt < x.toInt
  · simp only [q1, if_true]
    have e3 : (1 : Int32).toInt = 1 := rfl
    cases cd <;> simp only [own_cI, e3] <;> omega
  · by_cases q2 : x.toInt = y.toInt
    · simp only [q1, q2, if_true, if_false]
      have e3 : (0 : Int32).toInt = 0 := rfl
      cases cd <;> simp [own_cI]
    · simp only [q1, q2, if_false]
      have e3 : (-1 : Int32).toInt = -1 := rfl
      cases cd <;> simp only [own_cI, e3] <;> omega
theorem own_tg_s {o : Int} (hp : own_tg pc o pc' = true) : 0 ≤ (pc : Int) + o ∧ ((pc : Int) + o).toNat = pc' := by
  simpa [own_tg] using hp
theorem own_goto (X : own_X p l e R s m args below meth c Z bytes maxL ret y n0 h T k n) {o : Int} (hd : decode bytes pc = .ok (.goto o, 3)) (hp : own_tg pc o pc' = true) (g : own_G p e below (T.setTop (mkF m pc' ls st)) Q) : own_G p e below (T.setTop (mkF m pc ls st)) Q := by
  obtain ⟨⟨hx, hby, -⟩, -, -, locs, X, -⟩ := X
  subst hby
  exact own_st (fun t q => XS.goto X.here hx rfl rfl hd (own_tg_s hp).1 (own_tg_s hp).2 q) g
theorem own_icmp (X : own_X p l e R s m args below meth c Z bytes maxL ret y n0 h T k n) {cd : ClassFile.Cond} {o : Int} {v w : Int32} (hd : decode bytes pc = .ok (.if_icmp cd o, 3)) (hp : own_tg pc o pc' = true) (gT : own_cI cd v.toInt w.toInt → own_G p e below (T.setTop (mkF m pc' ls st)) Q) (gF : ¬ own_cI cd v.toInt w.toInt → own_G p e below (T.setTop (mkF m (pc + 3) ls st)) Q) :
    own_G p e below (T.setTop (mkF m pc ls (.int w :: .int v :: st))) Q := by
  obtain ⟨⟨hx, hby, -⟩, -, -, locs, X, -⟩ := X
  subst hby
  cases hc : if_icmp.holds cd v w with
  | true => exact own_st (fun t q => XS.icmpYes X.here hx rfl rfl hd rfl hc (own_tg_s hp).1 (own_tg_s hp).2 q) (gT ((own_icmp_iff cd v w).mp hc))
  | false => exact own_st (fun t q => XS.icmpNo X.here hx rfl hd rfl hc q) (gF fun q => by rw [(own_icmp_iff cd v w).mpr q] at hc; cases hc)
theorem own_if (X : own_X p l e R s m args below meth c Z bytes maxL ret y n0 h T k n) {cd : ClassFile.Cond} {o : Int} {v : Int32} (hd : decode bytes pc = .ok (.ifCond cd o, 3)) (hp : own_tg pc o pc' = true) (gT : own_cI cd v.toInt 0 → own_G p e below (T.setTop (mkF m pc' ls st)) Q) (gF : ¬ own_cI cd v.toInt 0 → own_G p e below (T.setTop (mkF m (pc + 3) ls st)) Q) :
    own_G p e below (T.setTop (mkF m pc ls (.int v :: st))) Q := by
  obtain ⟨⟨hx, hby, -⟩, -, -, locs, X, -⟩ := X
  subst hby
  cases hc : ifCond.holds cd v with
  | true => exact own_st (fun t q => XS.ifYes X.here hx rfl rfl hd rfl hc (own_tg_s hp).1 (own_tg_s hp).2 q) (gT ((own_if_iff cd v).mp hc))
  | false => exact own_st (fun t q => XS.ifNo X.here hx rfl hd rfl hc q) (gF fun q => by rw [(own_if_iff cd v).mpr q] at hc; cases hc)
theorem own_lif (X : own_X p l e R s m args below meth c Z bytes maxL ret y n0 h T k n) {cd : ClassFile.Cond} {o : Int} {v w : Int64} (hd1 : decode bytes pc = .ok (.lcmp, 1)) (hd : decode bytes (pc + 1) = .ok (.ifCond cd o, 3)) (hp : own_tg (pc + 1) o pc' = true) (gT : own_cI cd v.toInt w.toInt → own_G p e below (T.setTop (mkF m pc' ls st)) Q) (gF : ¬ own_cI cd v.toInt w.toInt → own_G p e below (T.setTop (mkF m (pc + 4) ls st)) Q) :
    own_G p e below (T.setTop (mkF m pc ls (.long w :: .long v :: st))) Q := by
  obtain ⟨⟨hx, hby, -⟩, -, -, locs, X, -⟩ := X
  subst hby
  refine own_st (fun t q => XS.lcmp X.here hx rfl hd1 rfl q) ?_
  show own_G p e below (T.setTop (mkF m (pc + 1) ls (.int (if v > w then 1 else if v = w then 0 else -1) :: st))) Q
  cases hc : ifCond.holds cd (if v > w then 1 else if v = w then 0 else -1) with
  | true => exact own_st (fun t q => XS.ifYes X.here hx rfl rfl hd rfl hc (own_tg_s hp).1 (own_tg_s hp).2 q) (gT ((own_l_iff cd v w).mp hc))
  | false => exact own_st (fun t q => XS.ifNo X.here hx rfl hd rfl hc q) (gF fun q => by rw [(own_l_iff cd v w).mpr q] at hc; cases hc)
/-! division -/
theorem own_idiv (X : own_X p l e R s m args below meth c Z bytes maxL ret y n0 h T k n) {v w : Int32} (hd : decode bytes pc = .ok (.idiv, 1)) (hw : w ≠ 0) (g : own_G p e below (T.setTop (mkF m (pc + 1) ls (.int (v / w) :: st))) Q) : own_G p e below (T.setTop (mkF m pc ls (.int w :: .int v :: st))) Q := by
  obtain ⟨⟨hx, hby, -⟩, -, -, locs, X, -⟩ := X
  subst hby
  exact own_st (fun t q => XS.idiv X.here hx rfl hd rfl hw q) g
theorem own_iremS (X : own_X p l e R s m args below meth c Z bytes maxL ret y n0 h T k n) {v w : Int32} (hd : decode bytes pc = .ok (.irem, 1)) (hw : w ≠ 0) (g : own_G p e below (T.setTop (mkF m (pc + 1) ls (.int (own_irem v w) :: st))) Q) : own_G p e below (T.setTop (mkF m pc ls (.int w :: .int v :: st))) Q := by
  obtain ⟨⟨hx, hby, -⟩, -, -, locs, X, -⟩ := X
  subst hby
  exact own_st (fun t q => XS.irem X.here hx rfl hd rfl hw q) g
theorem own_ldiv (X : own_X p l e R s m args below meth c Z bytes maxL ret y n0 h T k n) {v w : Int64} (hd : decode bytes pc = .ok (.ldiv, 1)) (hw : w ≠ 0) (g : own_G p e below (T.setTop (mkF m (pc + 1) ls (.long (v / w) :: st))) Q) : own_G p e below (T.setTop (mkF m pc ls (.long w :: .long v :: st))) Q := by
  obtain ⟨⟨hx, hby, -⟩, -, -, locs, X, -⟩ := X
  subst hby
  exact own_st (fun t q => XS.ldiv X.here hx rfl hd rfl hw q) g
theorem own_lremS (X : own_X p l e R s m args below meth c Z bytes maxL ret y n0 h T k n) {v w : Int64} (hd : decode bytes pc = .ok (.lrem, 1)) (hw : w ≠ 0) (g : own_G p e below (T.setTop (mkF m (pc + 1) ls (.long (own_lrem v w) :: st))) Q) : own_G p e below (T.setTop (mkF m pc ls (.long w :: .long v :: st))) Q := by
  obtain ⟨⟨hx, hby, -⟩, -, -, locs, X, -⟩ := X
  subst hby
  exact own_st (fun t q => XS.lrem X.here hx rfl hd rfl hw q) g
/-! constants of the pool -/
theorem own_ldc (X : own_X p l e R s m args below meth c Z bytes maxL ret y n0 h T k n) {i : Nat} {v : Int32} (w : (Jvm.Cond.constant y.cls i v).before a0 Z = true) (hd : decode bytes pc = .ok (.ldc i, 2)) (g : own_G p e below (T.setTop (mkF m (pc + 2) ls (.int v :: st))) Q) : own_G p e below (T.setTop (mkF m pc ls st)) Q := by
  obtain ⟨⟨hx, hby, hml, hown, hnm, hret, hZ, hlk⟩, -, -, locs, X, -⟩ := X
  subst hby
  exact own_st (fun t q => X.ldcInt hx hown (mvT hZ w) (g := mkF m pc ls st) rfl hd t q) g
theorem own_ldc2 (X : own_X p l e R s m args below meth c Z bytes maxL ret y n0 h T k n) {i : Nat} {v : Int64} (w : (Jvm.Cond.constantLong y.cls i v).before a0 Z = true) (hd : decode bytes pc = .ok (.ldc2_w i, 3)) (g : own_G p e below (T.setTop (mkF m (pc + 3) ls (.long v :: st))) Q) : own_G p e below (T.setTop (mkF m pc ls st)) Q := by
  obtain ⟨⟨hx, hby, hml, hown, hnm, hret, hZ, hlk⟩, -, -, locs, X, -⟩ := X
  subst hby
  exact own_st (fun t q => X.ldc2Long hx hown (mvT hZ w) (g := mkF m pc ls st) rfl hd t q) g
/-! returns -/
variable {P : Option Value → Heap → Prop} {C S : Nat}
theorem own_retI (X : own_X p l e R s m args below meth c Z bytes maxL (some .int) y n0 h T k n) (hd : decode bytes pc = .ok (.ireturn, 1)) {v : Int32} (hk : k ≤ C) (hn : n ≤ S) (hP : P (some (.int v)) h) : own_G p e below (T.setTop (mkF m pc ls (.int v :: st))) (own_E s n0 P C S) := by
  obtain ⟨⟨hx, hby, hml, hown, hnm, hret, hZ, hlk⟩, -, eT, locs, X, N⟩ := X
  subst hby
  obtain ⟨fs, hr, hrun, hended, hW, hsame⟩ := X.leave (v := some (.int v)) (fun q => by rw [hret] at q; cases q)
  refine ⟨_, _, ?_, hrun, hended, _, _, rfl, ⟨N, by show P _ T.heap; rw [eT]; exact hP⟩, ⟨_, rfl⟩, hW, hsame.mono hk hn⟩
  have hm' : T.vm.method? m = some meth := X.method'
  have hnn : narrow .int (.int v) = .int v := rfl
  show Steps p.tables e below (T.setTop { method := m, pc := pc, locals := ls, stack := _ :: st, locked := none }) _
  jvm_step X.here [X.here.top, hx, hd, hm', hret, hnn]
  first | (intro acts; rw [hr _ acts rfl rfl rfl]) | rw [hr _ _ rfl rfl rfl]
  exact Steps.refl _
theorem own_retN {t : FieldType} (X : own_X p l e R s m args below meth c Z bytes maxL (some t) y n0 h T k n) (ht : t = .boolean ∨ t = .byte ∨ t = .char ∨ t = .short) (hd : decode bytes pc = .ok (.ireturn, 1)) {v v' : Int32} (hv : nar t v = v') (hk : k ≤ C) (hn : n ≤ S) (hP : P (some (.int v')) h) : own_G p e below (T.setTop (mkF m pc ls (.int v :: st))) (own_E s n0 P C S) := by
  obtain ⟨⟨hx, hby, hml, hown, hnm, hret, hZ, hlk⟩, -, eT, locs, X, N⟩ := X
  subst hby hv
  obtain ⟨fs, hr, hrun, hended, hW, hsame⟩ := X.leave (v := some (.int (nar t v))) (fun q => by rw [hret] at q; cases q)
  exact ⟨_, _, retN X hx hret ht hd hr, hrun, hended, _, _, rfl, ⟨N, by show P _ T.heap; rw [eT]; exact hP⟩, ⟨_, rfl⟩, hW, hsame.mono hk hn⟩
theorem own_retL (X : own_X p l e R s m args below meth c Z bytes maxL (some .long) y n0 h T k n) (hd : decode bytes pc = .ok (.lreturn, 1)) {v : Int64} (hk : k ≤ C) (hn : n ≤ S) (hP : P (some (.long v)) h) : own_G p e below (T.setTop (mkF m pc ls [.long v])) (own_E s n0 P C S) := by
  obtain ⟨⟨hx, hby, hml, hown, hnm, hret, hZ, hlk⟩, -, eT, locs, X, N⟩ := X
  subst hby
  obtain ⟨fs, hr, hrun, hended, hW, hsame⟩ := X.leave (v := some (.long v)) (fun q => by rw [hret] at q; cases q)
  exact ⟨_, _, X.lreturnOut hx hret hd hr, hrun, hended, _, _, rfl, ⟨N, by show P _ T.heap; rw [eT]; exact hP⟩, ⟨_, rfl⟩, hW, hsame.mono hk hn⟩
theorem own_retA {t : FieldType} (X : own_X p l e R s m args below meth c Z bytes maxL (some t) y n0 h T k n) (ht : t.isReference = true) (hd : decode bytes pc = .ok (.areturn, 1)) {v : Addr} (hk : k ≤ C) (hn : n ≤ S) (hP : P (some (.ref v)) h) : own_G p e below (T.setTop (mkF m pc ls [.ref v])) (own_E s n0 P C S) := by
  obtain ⟨⟨hx, hby, hml, hown, hnm, hret, hZ, hlk⟩, -, eT, locs, X, N⟩ := X
  subst hby
  obtain ⟨fs, hr, hrun, hended, hW, hsame⟩ := X.leave (v := some (.ref v)) (fun q => by rw [hret] at q; cases q)
  exact ⟨_, _, X.areturnOut hx rfl hret ht hd hr, hrun, hended, _, _, rfl, ⟨N, by show P _ T.heap; rw [eT]; exact hP⟩, ⟨_, rfl⟩, hW, hsame.mono hk hn⟩
theorem own_retV (X : own_X p l e R s m args below meth c Z bytes maxL none y n0 h T k n) (hd : decode bytes pc = .ok (.return_, 1)) (hk : k ≤ C) (hn : n ≤ S) (hP : P none h) : own_G p e below (T.setTop (mkF m pc ls [])) (own_E s n0 P C S) := by
  obtain ⟨⟨hx, hby, hml, hown, hnm, hret, hZ, hlk⟩, -, eT, locs, X, N⟩ := X
  subst hby
  obtain ⟨fs, hr, hrun, hended, hW, hsame⟩ := X.leave (v := none) (fun _ => rfl)
  exact ⟨_, _, X.returnOut hx hret hd hr, hrun, hended, _, _, rfl, ⟨N, by show P _ T.heap; rw [eT]; exact hP⟩, ⟨_, rfl⟩, hW, hsame.mono hk hn⟩
/-! calls -/
theorem own_callS (X : own_X p l e R s m args below meth c Z bytes maxL ret y n0 h T k n) {i : Nat} {z : MethodName} {zb : ByteArray} {zl : Nat} {zr : Option FieldType} {rm : Room} {as : Array Value} {P : Option Value → Heap → Prop}
    (w1 : (Jvm.Cond.methodLink y.cls i z).before a0 Z = true) (w2 : (Jvm.Cond.static z).before a0 Z = true) (w3 : (Jvm.Cond.initialized z.cls).before a0 Z = true) (w4 : (Jvm.Cond.code z zb zl zr).before a0 Z = true) (hy : z.cls ≠ "java/lang/invoke/MethodHandle" ∧ z.cls ≠ "java/lang/invoke/VarHandle")
    (K : own_C l Z z zb zl zr rm as h n0 P) (hd : decode bytes pc = .ok (.invokestatic i, 3)) (argsL rest : List Value) (hst : st = argsL.reverse ++ rest) (has : argsL.toArray = as) {ps : List FieldType} {pr : Option FieldType} (hsg : parseMethodDescriptor z.desc = some ⟨ps, pr⟩) (hlen : argsL.length = ps.length) (hsz : ls.size = maxL)
    (hf : rm.frames + 1 ≤ R.frames) (hl : (rest.map fun v => v.category).sum + (zl + 11) + rm.locals ≤ R.locals) (hc : k + rm.cells ≤ R.cells) (hs : n + rm.slots ≤ R.slots) (hn : ∀ v h', P v h' → n0 ≤ h'.size)
    (g : ∀ v h' T', own_X p l e R s m args below meth c Z bytes maxL ret y n0 h' T' (k + rm.cells) (n + rm.slots) → P v h' → own_G p e below (T'.setTop (mkF m (pc + 3) ls (v.toList ++ rest))) Q) : own_G p e below (T.setTop (mkF m pc ls st)) Q := by
  obtain ⟨M, hn0, eT, locs, X, N⟩ := X
  have M' := M
  obtain ⟨hx, hby, hml, hown, hnm, hret, hZ, hlk⟩ := M'
  subst hby hst has
  obtain ⟨v, vm₁, B, -, X', ⟨L, hq, l1, l2, l3⟩, stp⟩ := Jvm.LawKit.callS X hx (y := z) hown (mvT hZ w1) (mvT hZ w2) (mvT hZ w3) (mvT hZ w4) hy (backOf (W := (rest.map fun v => v.category).sum) (Q := fun v h' L => Fr n0 L ∧ P v h') (K []) hZ w4 w3 hf hl) (g := mkF m pc ls (argsL.reverse ++ rest)) rfl (hsz.trans hml.symm) (argsL := argsL) (rest := rest)
    (lenOf hsg hlen) rfl (Nat.le_of_eq (Nat.zero_add _)) hd (fun _ _ => ⟨rfl, eT, hc, hs⟩)
  obtain ⟨U, Lc, k', n'⟩ := B
  dsimp only [Pt.U, Pt.locs, Pt.cells, Pt.slots] at X' hq l1 l2 l3 stp
  subst l1 l2 l3
  exact own_st stp (g v U.heap U ⟨M, hn v _ hq.2, rfl, _, X', Fr.app N hq.1⟩ hq.2)
theorem own_callP (X : own_X p l e R s m args below meth c Z bytes maxL ret y n0 h T k n) {i : Nat} {z : MethodName} {zb : ByteArray} {zl : Nat} {zr : Option FieldType} {rm : Room} {as : Array Value} {v : Option Value}
    (w1 : (Jvm.Cond.methodLink y.cls i z).before a0 Z = true) (w2 : (Jvm.Cond.static z).before a0 Z = true) (w3 : (Jvm.Cond.initialized z.cls).before a0 Z = true) (w4 : (Jvm.Cond.code z zb zl zr).before a0 Z = true) (hy : z.cls ≠ "java/lang/invoke/MethodHandle" ∧ z.cls ≠ "java/lang/invoke/VarHandle")
    (K : own_C l Z z zb zl zr rm as h n0 (fun v' h' => v' = v ∧ h' = h)) (hd : decode bytes pc = .ok (.invokestatic i, 3)) (argsL rest : List Value) (hst : st = argsL.reverse ++ rest) (has : argsL.toArray = as) {ps : List FieldType} {pr : Option FieldType} (hsg : parseMethodDescriptor z.desc = some ⟨ps, pr⟩) (hlen : argsL.length = ps.length) (hsz : ls.size = maxL)
    (hf : rm.frames + 1 ≤ R.frames) (hl : (rest.map fun v => v.category).sum + (zl + 11) + rm.locals ≤ R.locals) (hc : k + rm.cells ≤ R.cells) (hs : n + rm.slots ≤ R.slots)
    (g : ∀ T', own_X p l e R s m args below meth c Z bytes maxL ret y n0 h T' (k + rm.cells) (n + rm.slots) → own_G p e below (T'.setTop (mkF m (pc + 3) ls (v.toList ++ rest))) Q) : own_G p e below (T.setTop (mkF m pc ls st)) Q :=
  own_callS X w1 w2 w3 w4 hy K hd argsL rest hst has hsg hlen hsz hf hl hc hs (fun v h' q => by rw [q.2]; exact X.2.1) (fun v' h' T' X' q => by obtain ⟨q1, q2⟩ := q; subst q1; rw [q2] at X'; exact g T' X')
theorem own_callN (X : own_X p l e R s m args below meth c Z bytes maxL ret y n0 h T k n) {i : Nat} {z : MethodName} {zb : ByteArray} {zl : Nat} {rm : Room} {as : Array Value} {P : Option Value → Heap → Prop} (hz : z.name = "<init>")
    (w1 : (Jvm.Cond.methodLink y.cls i z).before a0 Z = true) (w2 : (Jvm.Cond.instanceMethod z).before a0 Z = true) (w3 : (Jvm.Cond.initialized z.cls).before a0 Z = true) (w4 : (Jvm.Cond.code z zb zl none).before a0 Z = true) (hy : z.cls ≠ "java/lang/invoke/MethodHandle" ∧ z.cls ≠ "java/lang/invoke/VarHandle")
    (K : own_C l Z z zb zl none rm as h n0 P) (hd : decode bytes pc = .ok (.invokespecial i, 3)) {a : Addr} (argsL rest : List Value) (hst : st = argsL.reverse ++ .ref a :: rest) (has : (.ref a :: argsL).toArray = as) {ps : List FieldType} {pr : Option FieldType} (hsg : parseMethodDescriptor z.desc = some ⟨ps, pr⟩) (hlen : argsL.length = ps.length) (hsz : ls.size = maxL)
    (hf : rm.frames + 1 ≤ R.frames) (hl : (rest.map fun v => v.category).sum + (zl + 11) + rm.locals ≤ R.locals) (hc : k + rm.cells ≤ R.cells) (hs : n + rm.slots ≤ R.slots) (hn : ∀ v h', P v h' → n0 ≤ h'.size)
    (g : ∀ v h' T', own_X p l e R s m args below meth c Z bytes maxL ret y n0 h' T' (k + rm.cells) (n + rm.slots) → P v h' → own_G p e below (T'.setTop (mkF m (pc + 3) ls (v.toList ++ rest))) Q) : own_G p e below (T.setTop (mkF m pc ls st)) Q := by
  obtain ⟨M, hn0, eT, locs, X, N⟩ := X
  have M' := M
  obtain ⟨hx, hby, hml, hown, hnm, hret, hZ, hlk⟩ := M'
  subst hby hst has
  obtain ⟨v, vm₁, B, -, X', ⟨L, hq, l1, l2, l3⟩, stp⟩ := X.specialBack hx (y := z) hz hown (mvT hZ w1) (mvT hZ w2) (mvT hZ w4) hy (backOf (W := (rest.map fun v => v.category).sum) (Q := fun v h' L => Fr n0 L ∧ P v h') (K []) hZ w4 w3 hf hl) (g := mkF m pc ls (argsL.reverse ++ .ref a :: rest)) rfl (hsz.trans hml.symm) (Steps.refl _) (a := a) (argsL := argsL) (rest := rest)
    (lenOf hsg hlen) rfl (Nat.le_of_eq (Nat.zero_add _)) hd (fun _ _ => ⟨rfl, eT, hc, hs⟩)
  obtain ⟨U, Lc, k', n'⟩ := B
  dsimp only [Pt.U, Pt.locs, Pt.cells, Pt.slots] at X' hq l1 l2 l3 stp
  subst l1 l2 l3
  exact own_st (fun t q => stp.trans q) (g v U.heap U ⟨M, hn v _ hq.2, rfl, _, X', Fr.app N hq.1⟩ hq.2)
theorem own_callV (X : own_X p l e R s m args below meth c Z bytes maxL ret y n0 h T k n) {i : Nat} {z : MethodName} {zb : ByteArray} {zl : Nat} {zr : Option FieldType} {rm : Room} {as : Array Value} {P : Option Value → Heap → Prop}
    (w1 : (Jvm.Cond.methodLink y.cls i z).before a0 Z = true) (w2 : (Jvm.Cond.declares z).before a0 Z = true) (w5 : (Jvm.Cond.selects z.cls z z).before a0 Z = true) (w6 : (Jvm.Cond.instanceMethod z).before a0 Z = true) (w3 : (Jvm.Cond.initialized z.cls).before a0 Z = true) (w4 : (Jvm.Cond.code z zb zl zr).before a0 Z = true) (hy : z.cls ≠ "java/lang/invoke/MethodHandle" ∧ z.cls ≠ "java/lang/invoke/VarHandle")
    {a : Addr} (E : Exa Z h a z.cls) (K : own_C l Z z zb zl zr rm as h n0 P) (hd : decode bytes pc = .ok (.invokevirtual i, 3)) (argsL rest : List Value) (hst : st = argsL.reverse ++ .ref a :: rest) (has : (.ref a :: argsL).toArray = as) {ps : List FieldType} {pr : Option FieldType} (hsg : parseMethodDescriptor z.desc = some ⟨ps, pr⟩) (hlen : argsL.length = ps.length) (hsz : ls.size = maxL)
    (hf : rm.frames + 1 ≤ R.frames) (hl : (rest.map fun v => v.category).sum + (zl + 11) + rm.locals ≤ R.locals) (hc : k + rm.cells ≤ R.cells) (hs : n + rm.slots ≤ R.slots) (hn : ∀ v h', P v h' → n0 ≤ h'.size)
    (g : ∀ v h' T', own_X p l e R s m args below meth c Z bytes maxL ret y n0 h' T' (k + rm.cells) (n + rm.slots) → P v h' → own_G p e below (T'.setTop (mkF m (pc + 3) ls (v.toList ++ rest))) Q) : own_G p e below (T.setTop (mkF m pc ls st)) Q := by
  obtain ⟨M, hn0, eT, locs, X, N⟩ := X
  have M' := M
  obtain ⟨hx, hby, hml, hown, hnm, hret, hZ, hlk⟩ := M'
  subst hby hst has
  obtain ⟨cq, kq, qa, qb, qc⟩ := isOf hZ eT E
  obtain ⟨v, vm₁, B, -, X', ⟨L, hq, l1, l2, l3⟩, stp⟩ := X.virtualBack hx (y := z) (z := z) hown (mvT hZ w1) (mvT hZ w2) (notFace_of_selects (args := #[]) (mvT hZ w5)) (mvT hZ w5) (mvT hZ w6) hy (backOf (W := (rest.map fun v => v.category).sum) (Q := fun v h' L => Fr n0 L ∧ P v h') (K []) hZ w4 w3 hf hl) qa qc (g := mkF m pc ls (argsL.reverse ++ .ref a :: rest)) rfl (hsz.trans hml.symm) (Steps.refl _) (argsL := argsL) (rest := rest)
    (lenOf hsg hlen) rfl (Nat.le_of_eq (Nat.zero_add _)) hd (fun _ _ => ⟨rfl, eT, hc, hs⟩)
  obtain ⟨U, Lc, k', n'⟩ := B
  dsimp only [Pt.U, Pt.locs, Pt.cells, Pt.slots] at X' hq l1 l2 l3 stp
  subst l1 l2 l3
  exact own_st (fun t q => stp.trans q) (g v U.heap U ⟨M, hn v _ hq.2, rfl, _, X', Fr.app N hq.1⟩ hq.2)
/-! fields -/
theorem own_getF (X : own_X p l e R s m args below meth c Z bytes maxL ret y n0 h T k n) {i : Nat} {O f d : String} (w : (Jvm.Cond.fieldLink y.cls i O f d).before a0 Z = true) {a : Addr} {v : Value} (F : Fld Z h a O f d v) (hd : decode bytes pc = .ok (.getfield i, 3))
    (g : ∀ T', own_X p l e R s m args below meth c Z bytes maxL ret y n0 h T' k n → own_G p e below (T'.setTop (mkF m (pc + 3) ls (v :: st))) Q) : own_G p e below (T.setTop (mkF m pc ls (.ref a :: st))) Q := by
  obtain ⟨M, hn0, eT, locs, X, N⟩ := X
  have M' := M
  obtain ⟨hx, hby, hml, hown, hnm, hret, hZ, hlk⟩ := M'
  subst hby
  obtain ⟨T', X', e', stp⟩ := getF X hx hZ hown (host := "") (Or.inl w) Via.refl eT F (g := mkF m pc ls (.ref a :: st)) rfl rfl hd
  exact own_st stp (g T' ⟨M, hn0, e', _, X', N⟩)
theorem own_putF (X : own_X p l e R s m args below meth c Z bytes maxL ret y n0 h T k n) {i kk : Nat} {O f d K : String} {ty : FieldType} (w : (Jvm.Cond.fieldLink y.cls i O f d).before a0 Z = true) {a : Addr} {v old : Value} (F : Fld Z h a O f d old) (E : Exa Z h a K) (L : (Jvm.Cond.lays K O f d).before a0 Z = true ∨ ((Jvm.Cond.laysFinal K O f d).before a0 Z = true ∧ y.cls = O ∧ y.name = "<init>")) (wi : (Jvm.Cond.instantiable K kk).before a0 Z = true)
    (hty : parseFieldDescriptor d = some ty) (hn : narrow ty v = v) (hf : fits ty v = true) (ha : n0 ≤ a) (hd : decode bytes pc = .ok (.putfield i, 3))
    (g : ∀ h' T', own_X p l e R s m args below meth c Z bytes maxL ret y n0 h' T' k n → Wr h h' a (Jvm.RoadKit.slotOf Z O f d) v → own_G p e below (T'.setTop (mkF m (pc + 3) ls st)) Q) : own_G p e below (T.setTop (mkF m pc ls (v :: .ref a :: st))) Q := by
  obtain ⟨M, hn0, eT, locs, X, N⟩ := X
  have M' := M
  obtain ⟨hx, hby, hml, hown, hnm, hret, hZ, hlk⟩ := M'
  subst hby
  obtain ⟨T', h', X', e', W', stp⟩ := putF X hx hZ hown (host := "") (Or.inl w) Via.refl eT F E (L.imp id fun q => ⟨q.1, q.2.1, hnm.trans q.2.2⟩) wi hty hn hf (g := mkF m pc ls (v :: .ref a :: st)) rfl rfl hd
  exact own_st stp (g h' T' ⟨M, by rw [W'.size]; exact hn0, e', _, X', Fr.snoc X' N ha⟩ W')
/-! new -/
theorem own_newO (X : own_X p l e R s m args below meth c Z bytes maxL ret y n0 h T k n) {i nn : Nat} {K : String} (w : (Jvm.Cond.classLink y.cls i K).before a0 Z = true) (wi : (Jvm.Cond.instantiable K nn).before a0 Z = true) (wz : (Jvm.Cond.initialized K).before a0 Z = true) (hd : decode bytes pc = .ok (.new i, 3)) (hc : k + 1 ≤ R.cells) (hs : n + nn ≤ R.slots)
    (g : ∀ h' T', own_X p l e R s m args below meth c Z bytes maxL ret y n0 h' T' (k + 1) (n + nn) → Ext h h' → Exa Z h' h.size K → (∀ {O nm d : String} {ty : FieldType}, Laid Z a0 K O nm d → parseFieldDescriptor d = some ty → Fld Z h' h.size O nm d (defaultValue ty)) → own_G p e below (T'.setTop (mkF m (pc + 3) ls (.ref h.size :: st))) Q) : own_G p e below (T.setTop (mkF m pc ls st)) Q := by
  obtain ⟨M, hn0, eT, locs, X, N⟩ := X
  have M' := M
  obtain ⟨hx, hby, hml, hown, hnm, hret, hZ, hlk⟩ := M'
  subst hby
  obtain ⟨T', h', X', e', E', A', D', -, stp⟩ := newO X hx hZ hown w wi wz eT (g := mkF m pc ls st) rfl hd hc hs
  exact own_st stp (g h' T' ⟨M, Nat.le_trans hn0 E'.1, e', _, X', N⟩ E' A' D')
end Walk
/-! ### own layer 3: arrays: the array at a has n places, place j holds f j -/
def own_A (Z : State) (h : Heap) (a : Addr) (ty : FieldType) (n : Nat) (f : Int → Value) : Prop := n < 2147483648 ∧ ∃ c : Cell, Arr Z h a c ty ∧ c.slots.size = n ∧ ∀ j : Nat, j < n → c.slots[j]? = some (f (j : Int))
def own_u {α : Type} (f : Int → α) (i : Int) (x : α) : Int → α := fun j => if j = i then x else f j
section Arrs
variable {Z : State} {h h' : Heap} {a b : Addr} {ty : FieldType} {n : Nat} {f : Int → Value}
theorem own_A_lt (A : own_A Z h a ty n f) : a < h.size := by obtain ⟨-, c, A, -⟩ := A; exact A.lt
theorem own_A_ext (A : own_A Z h a ty n f) (E : Ext h h') : own_A Z h' a ty n f := by obtain ⟨q, c, A, r⟩ := A; exact ⟨q, c, A.ext E, r⟩
theorem own_A_other (A : own_A Z h b ty n f) {sl : Nat} {v : Value} (W : Wr h h' a sl v) (q : b ≠ a) : own_A Z h' b ty n f := by obtain ⟨q1, c, A, r⟩ := A; exact ⟨q1, c, A.other W q, r⟩
theorem own_A_keep (A : own_A Z h a ty n f) {ws : List Addr} (K : Keep h h' ws) (q : a ∉ ws) : own_A Z h' a ty n f := by obtain ⟨q1, c, A, r⟩ := A; exact ⟨q1, c, ⟨K.2.1 a c A.1 q, A.2⟩, r⟩
theorem own_A_new {k : ClassId} {z : Int32} (A : Arr Z h a (newA k ty z) ty) (q : 0 ≤ z.toInt) : own_A Z h a ty z.toInt.toNat (fun _ => defaultValue ty) := by
  have := Int32.toInt_lt z
  refine ⟨by omega, _, A, by rw [sz_new]; rfl, fun j hj => ?_⟩
  have hj' : j < z.toNatClampNeg := hj
  simp [newA, hj']
theorem own_A_set {sl : Nat} {v : Value} (A : own_A Z h a ty n f) (W : Wr h h' a sl v) (i : Int) (hi : i = (sl : Int)) : own_A Z h' a ty n (own_u f i v) := by
  obtain ⟨q, c, A, S, H⟩ := A
  have W0 := W
  obtain ⟨c2, g1, -, g3, -⟩ := W0
  cases g1.symm.trans A.1
  refine ⟨q, _, A.same W, by rw [sz_set]; exact S, fun j hj => ?_⟩
  subst hi
  by_cases u : j = sl
  · subst u; simp [Cell.setSlot, own_u, g3]
  · have e1 : ¬ ((j : Int) = (sl : Int)) := by omega
    simp only [own_u, e1, if_false, Cell.setSlot]
    rw [Array.getElem?_setIfInBounds_ne (fun q => u q.symm)]
    exact H j hj
theorem own_A_eq {g : Int → Value} (A : own_A Z h a ty n f) (q : ∀ j : Int, 0 ≤ j → j < n → g j = f j) : own_A Z h a ty n g := by
  obtain ⟨q1, c, A, S, H⟩ := A
  exact ⟨q1, c, A, S, fun j hj => by rw [H j hj, q j (by omega) (by omega)]⟩
theorem own_tnc (j : Int32) : j.toNatClampNeg = j.toInt.toNat := rfl
theorem own_z32 : (0 : Int32).toInt = 0 := rfl
theorem own_idx {j : Int32} (h0 : 0 ≤ j.toInt) : ¬ j < 0 := by rw [Int32.lt_iff_toInt_lt, own_z32]; omega
theorem own_inb {j : Int32} {cl : Cell} (S : cl.slots.size = n) (h0 : 0 ≤ j.toInt) (h1 : j.toInt < n) : ¬ (j < 0 ∨ cl.slots.size ≤ j.toNatClampNeg) := by
  rw [Int32.lt_iff_toInt_lt, S, own_z32, own_tnc]; omega
theorem own_nat {j : Int32} (h0 : 0 ≤ j.toInt) : j.toInt = (j.toNatClampNeg : Int) := by rw [own_tnc]; omega
end Arrs
/-- the same, of ints -/
def own_I (Z : State) (h : Heap) (a : Addr) (ty : FieldType) (n : Nat) (g : Int → Int32) : Prop := own_A Z h a ty n (fun j => .int (g j))
theorem own_I_ext {Z : State} {h h' : Heap} {a : Addr} {ty : FieldType} {n : Nat} {g : Int → Int32} (A : own_I Z h a ty n g) (E : Ext h h') : own_I Z h' a ty n g := own_A_ext A E
theorem own_I_other {Z : State} {h h' : Heap} {a b : Addr} {ty : FieldType} {n : Nat} {g : Int → Int32} (A : own_I Z h b ty n g) {sl : Nat} {v : Value} (W : Wr h h' a sl v) (q : b ≠ a) : own_I Z h' b ty n g := own_A_other A W q
theorem own_I_keep {Z : State} {h h' : Heap} {a : Addr} {ty : FieldType} {n : Nat} {g : Int → Int32} (A : own_I Z h a ty n g) {ws : List Addr} (K : Keep h h' ws) (q : a ∉ ws) : own_I Z h' a ty n g := own_A_keep A K q
theorem own_I_eq {Z : State} {h : Heap} {a : Addr} {ty : FieldType} {n : Nat} {f g : Int → Int32} (A : own_I Z h a ty n f) (q : ∀ j : Int, 0 ≤ j → j < n → g j = f j) : own_I Z h a ty n g := own_A_eq A (fun j h0 h1 => by rw [q j h0 h1])
theorem own_I_set {Z : State} {h h' : Heap} {a : Addr} {ty : FieldType} {n : Nat} {g : Int → Int32} {sl : Nat} {x : Int32} (A : own_I Z h a ty n g) (W : Wr h h' a sl (.int x)) (i : Int) (hi : i = (sl : Int)) : own_I Z h' a ty n (own_u g i x) :=
  own_A_eq (own_A_set A W i hi) (fun j _ _ => by simp only [own_u]; split <;> rfl)
theorem own_u_ne {α : Type} {g : Int → α} {i j : Int} {x : α} (h : j ≠ i) : own_u g i x j = g j := if_neg h
theorem own_u_eq {α : Type} {g : Int → α} {i j : Int} {x : α} (h : j = i) : own_u g i x j = x := if_pos h
section Arrs2
variable {p : Program} {l : Launch} {e : Env} {R : Room} {s : State} {m : MethodId} {args : Array Value} {below : List Frame} {meth : Method} {c : Code} {Z : State} {bytes : ByteArray} {maxL : Nat} {ret : Option FieldType} {y : MethodName} {n0 : Nat} {h : Heap} {T : State} {k n : Nat} {Q : Outcome → State → Prop} {pc pc' : Nat} {ls ls' : Array Slot} {st st' : List Value} {a0 : Array Value} {a : Addr} {nn : Nat} {f : Int → Value} {gg : Int → Int32}
theorem own_len (X : own_X p l e R s m args below meth c Z bytes maxL ret y n0 h T k n) {ty : FieldType} (A : own_A Z h a ty nn f) (hd : decode bytes pc = .ok (.arraylength, 1)) (g : own_G p e below (T.setTop (mkF m (pc + 1) ls (.int (Int32.ofNat nn) :: st))) Q) : own_G p e below (T.setTop (mkF m pc ls (.ref a :: st))) Q := by
  obtain ⟨⟨hx, hby, hml, hown, hnm, hret, hZ, hlk⟩, hn0, eT, locs, X, N⟩ := X
  obtain ⟨q, cl, A, S, H⟩ := A
  subst hby
  refine own_st (fun t q => X.arraylength hx (by rw [eT]; exact A.1) (State.isArrayOf_alike hZ.alike A.2.1) (g := mkF m pc ls (.ref a :: st)) rfl rfl hd t q) ?_
  show own_G p e below (T.setTop (mkF m (pc + 1) ls (.int cl.slots.size.toInt32 :: st))) Q
  rw [S]
  exact g
theorem own_iald (X : own_X p l e R s m args below meth c Z bytes maxL ret y n0 h T k n) (A : own_I Z h a .int nn gg) (hd : decode bytes pc = .ok (.iaload, 1)) {j : Int32} (h0 : 0 ≤ j.toInt) (h1 : j.toInt < nn) (g : own_G p e below (T.setTop (mkF m (pc + 1) ls (.int (gg j.toInt) :: st))) Q) : own_G p e below (T.setTop (mkF m pc ls (.int j :: .ref a :: st))) Q := by
  obtain ⟨⟨hx, hby, hml, hown, hnm, hret, hZ, hlk⟩, hn0, eT, locs, X, N⟩ := X
  obtain ⟨q, cl, A, S, H⟩ := A
  subst hby
  have e1 := own_nat h0
  refine own_st (fun t q => X.iaload hx (by rw [eT]; exact A.1) (State.isArrayOf_alike hZ.alike A.2.1) A.2.2 (own_inb S h0 h1) (H _ (by omega)) (g := mkF m pc ls (.int j :: .ref a :: st)) rfl rfl hd t q) ?_
  show own_G p e below (T.setTop (mkF m (pc + 1) ls (.int (gg (j.toNatClampNeg : Int)) :: st))) Q
  rw [← e1]
  exact g
theorem own_bald (X : own_X p l e R s m args below meth c Z bytes maxL ret y n0 h T k n) (A : own_I Z h a .byte nn gg) (hd : decode bytes pc = .ok (.baload, 1)) {j : Int32} (h0 : 0 ≤ j.toInt) (h1 : j.toInt < nn) (g : own_G p e below (T.setTop (mkF m (pc + 1) ls (.int (gg j.toInt) :: st))) Q) : own_G p e below (T.setTop (mkF m pc ls (.int j :: .ref a :: st))) Q := by
  obtain ⟨⟨hx, hby, hml, hown, hnm, hret, hZ, hlk⟩, hn0, eT, locs, X, N⟩ := X
  obtain ⟨q, cl, A, S, H⟩ := A
  subst hby
  have e1 := own_nat h0
  refine own_st (fun t q => X.baloadBytes hx (by rw [eT]; exact A.1) (State.isArrayOf_alike hZ.alike A.2.1) A.2.2 (own_inb S h0 h1) (H _ (by omega)) (g := mkF m pc ls (.int j :: .ref a :: st)) rfl rfl hd t q) ?_
  show own_G p e below (T.setTop (mkF m (pc + 1) ls (.int (gg (j.toNatClampNeg : Int)) :: st))) Q
  rw [← e1]
  exact g
theorem own_zald (X : own_X p l e R s m args below meth c Z bytes maxL ret y n0 h T k n) (A : own_I Z h a .boolean nn gg) (hd : decode bytes pc = .ok (.baload, 1)) {j : Int32} (h0 : 0 ≤ j.toInt) (h1 : j.toInt < nn) (g : own_G p e below (T.setTop (mkF m (pc + 1) ls (.int (gg j.toInt) :: st))) Q) : own_G p e below (T.setTop (mkF m pc ls (.int j :: .ref a :: st))) Q := by
  obtain ⟨⟨hx, hby, hml, hown, hnm, hret, hZ, hlk⟩, hn0, eT, locs, X, N⟩ := X
  obtain ⟨q, cl, A, S, H⟩ := A
  subst hby
  have e1 := own_nat h0
  refine own_st (fun t q => X.baloadBooleans hx (by rw [eT]; exact A.1) (State.isArrayOf_alike hZ.alike A.2.1) A.2.2 (own_inb S h0 h1) (H _ (by omega)) (g := mkF m pc ls (.int j :: .ref a :: st)) rfl rfl hd t q) ?_
  show own_G p e below (T.setTop (mkF m (pc + 1) ls (.int (gg (j.toNatClampNeg : Int)) :: st))) Q
  rw [← e1]
  exact g
theorem own_iast (X : own_X p l e R s m args below meth c Z bytes maxL ret y n0 h T k n) (A : own_I Z h a .int nn gg) (ha : n0 ≤ a) (hd : decode bytes pc = .ok (.iastore, 1)) {j x : Int32} (h0 : 0 ≤ j.toInt) (h1 : j.toInt < nn)
    (g : ∀ h' T', own_X p l e R s m args below meth c Z bytes maxL ret y n0 h' T' k n → own_I Z h' a .int nn (own_u gg j.toInt x) → Wr h h' a j.toNatClampNeg (.int x) → own_G p e below (T'.setTop (mkF m (pc + 1) ls st)) Q) : own_G p e below (T.setTop (mkF m pc ls (.int x :: .int j :: .ref a :: st))) Q := by
  obtain ⟨M, hn0, eT, locs, X, N⟩ := X
  have M' := M
  obtain ⟨hx, hby, hml, hown, hnm, hret, hZ, hlk⟩ := M'
  have AA := A
  obtain ⟨q, cl, A, S, H⟩ := A
  subst hby
  obtain ⟨T', h', X', e', W', stp⟩ := stI X hx hZ eT A (own_inb S h0 h1) (g := mkF m pc ls (.int x :: .int j :: .ref a :: st)) rfl rfl hd
  exact own_st stp (g h' T' ⟨M, by rw [W'.size]; exact hn0, e', _, X', Fr.snoc X' N ha⟩ (own_I_set AA W' _ (own_nat h0)) W')
theorem own_bast (X : own_X p l e R s m args below meth c Z bytes maxL ret y n0 h T k n) (A : own_I Z h a .byte nn gg) (ha : n0 ≤ a) (hd : decode bytes pc = .ok (.bastore, 1)) {j x : Int32} (h0 : 0 ≤ j.toInt) (h1 : j.toInt < nn) (hx8 : x.toInt8.toInt32 = x)
    (g : ∀ h' T', own_X p l e R s m args below meth c Z bytes maxL ret y n0 h' T' k n → own_I Z h' a .byte nn (own_u gg j.toInt x) → Wr h h' a j.toNatClampNeg (.int x) → own_G p e below (T'.setTop (mkF m (pc + 1) ls st)) Q) : own_G p e below (T.setTop (mkF m pc ls (.int x :: .int j :: .ref a :: st))) Q := by
  obtain ⟨M, hn0, eT, locs, X, N⟩ := X
  have M' := M
  obtain ⟨hx, hby, hml, hown, hnm, hret, hZ, hlk⟩ := M'
  have AA := A
  obtain ⟨q, cl, A, S, H⟩ := A
  subst hby
  obtain ⟨T', h', X', e', W', stp⟩ := stB X hx hZ eT A (own_inb S h0 h1) (g := mkF m pc ls (.int x :: .int j :: .ref a :: st)) rfl rfl hd
  have W2 : Wr h h' a j.toNatClampNeg (.int x) := by have q := W'; simp only [nar, hx8] at q; exact q
  exact own_st stp (g h' T' ⟨M, by rw [W'.size]; exact hn0, e', _, X', Fr.snoc X' N ha⟩ (own_I_set AA W2 _ (own_nat h0)) W2)
theorem own_zast (X : own_X p l e R s m args below meth c Z bytes maxL ret y n0 h T k n) (A : own_I Z h a .boolean nn gg) (ha : n0 ≤ a) (hd : decode bytes pc = .ok (.bastore, 1)) {j x : Int32} (h0 : 0 ≤ j.toInt) (h1 : j.toInt < nn) (hx1 : x &&& 1 = x)
    (g : ∀ h' T', own_X p l e R s m args below meth c Z bytes maxL ret y n0 h' T' k n → own_I Z h' a .boolean nn (own_u gg j.toInt x) → Wr h h' a j.toNatClampNeg (.int x) → own_G p e below (T'.setTop (mkF m (pc + 1) ls st)) Q) : own_G p e below (T.setTop (mkF m pc ls (.int x :: .int j :: .ref a :: st))) Q := by
  obtain ⟨M, hn0, eT, locs, X, N⟩ := X
  have M' := M
  obtain ⟨hx, hby, hml, hown, hnm, hret, hZ, hlk⟩ := M'
  have AA := A
  obtain ⟨q, cl, A, S, H⟩ := A
  subst hby
  obtain ⟨T', h', X', e', W', stp⟩ := stZ X hx hZ eT A (own_inb S h0 h1) (g := mkF m pc ls (.int x :: .int j :: .ref a :: st)) rfl rfl hd
  have W2 : Wr h h' a j.toNatClampNeg (.int x) := by have q := W'; simp only [nar, hx1] at q; exact q
  exact own_st stp (g h' T' ⟨M, by rw [W'.size]; exact hn0, e', _, X', Fr.snoc X' N ha⟩ (own_I_set AA W2 _ (own_nat h0)) W2)
theorem own_jast (X : own_X p l e R s m args below meth c Z bytes maxL ret y n0 h T k n) (A : own_A Z h a .long nn f) (ha : n0 ≤ a) (hd : decode bytes pc = .ok (.lastore, 1)) {j : Int32} {x : Int64} (h0 : 0 ≤ j.toInt) (h1 : j.toInt < nn)
    (g : ∀ h' T', own_X p l e R s m args below meth c Z bytes maxL ret y n0 h' T' k n → own_A Z h' a .long nn (own_u f j.toInt (.long x)) → Wr h h' a j.toNatClampNeg (.long x) → own_G p e below (T'.setTop (mkF m (pc + 1) ls st)) Q) : own_G p e below (T.setTop (mkF m pc ls (.long x :: .int j :: .ref a :: st))) Q := by
  obtain ⟨M, hn0, eT, locs, X, N⟩ := X
  have M' := M
  obtain ⟨hx, hby, hml, hown, hnm, hret, hZ, hlk⟩ := M'
  have AA := A
  obtain ⟨q, cl, A, S, H⟩ := A
  subst hby
  obtain ⟨T', h', X', e', W', stp⟩ := stJ X hx hZ eT A (own_inb S h0 h1) (g := mkF m pc ls (.long x :: .int j :: .ref a :: st)) rfl rfl hd
  exact own_st stp (g h' T' ⟨M, by rw [W'.size]; exact hn0, e', _, X', Fr.snoc X' N ha⟩ (own_A_set AA W' _ (own_nat h0)) W')
theorem own_newP (X : own_X p l e R s m args below meth c Z bytes maxL ret y n0 h T k n) {aty : ArrayType} (w : (Jvm.Cond.arrayClass (newarray.typeOf aty)).before a0 Z = true) (hd : decode bytes pc = .ok (.newarray aty, 2)) {v : Int32} (h0 : 0 ≤ v.toInt) (cap : Nat) (hcap : v.toInt ≤ cap) (hb : cap * 8 ≤ 536870912) (hc : k + 1 ≤ R.cells) (hs : n + cap ≤ R.slots)
    (g : ∀ h' T', own_X p l e R s m args below meth c Z bytes maxL ret y n0 h' T' (k + 1) (n + cap) → Ext h h' → own_A Z h' h.size (newarray.typeOf aty) v.toInt.toNat (fun _ => defaultValue (newarray.typeOf aty)) → own_G p e below (T'.setTop (mkF m (pc + 2) ls (.ref h.size :: st))) Q) : own_G p e below (T.setTop (mkF m pc ls (.int v :: st))) Q := by
  obtain ⟨M, hn0, eT, locs, X, N⟩ := X
  have M' := M
  obtain ⟨hx, hby, hml, hown, hnm, hret, hZ, hlk⟩ := M'
  subst hby
  have e1 := own_nat h0
  obtain ⟨T', h', cA, X', e', E', A', stp⟩ := newP X hx hZ w eT (g := mkF m pc ls (.int v :: st)) rfl hd rfl (own_idx h0) (cap := cap) (by omega) hb hc hs
  exact own_st stp (g h' T' ⟨M, Nat.le_trans hn0 E'.1, e', _, X', N⟩ E' (own_A_new A' h0))
theorem own_newI (X : own_X p l e R s m args below meth c Z bytes maxL ret y n0 h T k n) {aty : ArrayType} (w : (Jvm.Cond.arrayClass (newarray.typeOf aty)).before a0 Z = true) (hdf : defaultValue (newarray.typeOf aty) = .int 0) (hd : decode bytes pc = .ok (.newarray aty, 2)) {v : Int32} (h0 : 0 ≤ v.toInt) (cap : Nat) (hcap : v.toInt ≤ cap) (hb : cap * 8 ≤ 536870912) (hc : k + 1 ≤ R.cells) (hs : n + cap ≤ R.slots)
    (g : ∀ h' T', own_X p l e R s m args below meth c Z bytes maxL ret y n0 h' T' (k + 1) (n + cap) → Ext h h' → own_I Z h' h.size (newarray.typeOf aty) v.toInt.toNat (fun _ => 0) → own_G p e below (T'.setTop (mkF m (pc + 2) ls (.ref h.size :: st))) Q) : own_G p e below (T.setTop (mkF m pc ls (.int v :: st))) Q :=
  own_newP X w hd h0 cap hcap hb hc hs (fun h' T' X' E A => g h' T' X' E (own_A_eq A fun _ _ _ => hdf.symm))
end Arrs2
/-! ### own numbers -/
theorem own_addc {x k : Int32} {d : Int} (hk : k.toInt = d) (h1 : -2147483648 ≤ x.toInt + d) (h2 : x.toInt + d < 2147483648) : (x + k).toInt = x.toInt + d := by
  subst hk; exact Jvm.Kit.i32_add (by omega) (by omega)
theorem own_subc {x k : Int32} {d : Int} (hk : k.toInt = d) (h1 : -2147483648 ≤ x.toInt - d) (h2 : x.toInt - d < 2147483648) : (x - k).toInt = x.toInt - d := by
  subst hk; exact Jvm.Kit.i32_sub (by omega) (by omega)
theorem own_mulc {x k : Int32} {d : Int} (hk : k.toInt = d) (h1 : -2147483648 ≤ x.toInt * d) (h2 : x.toInt * d < 2147483648) : (x * k).toInt = x.toInt * d := by
  subst hk; exact Jvm.Kit.i32_mul (by omega) (by omega)
theorem own_i2b_int (x : Int32) : (own_i2b x).toInt = x.toInt.bmod 256 := by
  simp [own_i2b, Int8.toInt_toInt32, Int32.toInt_toInt8]
theorem own_i2b_b (x : Int32) : -128 ≤ (own_i2b x).toInt ∧ (own_i2b x).toInt < 128 ∧ (own_i2b x).toInt % 256 = x.toInt % 256 := by
  rw [own_i2b_int]
  have h1 := Int.bmod_emod (x := x.toInt) (m := 256)
  have h2 := Int.le_bmod (x := x.toInt) (m := 256) (by decide)
  have h3 := Int.bmod_lt (x := x.toInt) (m := 256) (by decide)
  omega
theorem own_i2b_fix (x : Int32) : (own_i2b x).toInt8.toInt32 = own_i2b x := by
  simp [own_i2b]
theorem own_i2b_id {x : Int32} (h1 : -128 ≤ x.toInt) (h2 : x.toInt < 128) : own_i2b x = x := by
  apply Int32.toInt_inj.mp
  have := own_i2b_b x
  omega
theorem own_irem_int (x y : Int32) : (own_irem x y).toInt = x.toInt.tmod y.toInt := by
  have a := (x % y).toInt_lt; have b := (x % y).le_toInt
  rw [Int32.toInt_mod] at a b
  rw [own_irem, Int32.toInt_sub, Int32.toInt_mul, Int32.toInt_div, Int.bmod_mul_bmod, Int.sub_bmod_bmod, Int.mul_comm, ← Int.tmod_def]
  exact Jvm.Kit.bmod32 b a
theorem own_irem_pos {x y : Int32} (h : 0 ≤ x.toInt) : (own_irem x y).toInt = x.toInt % y.toInt := by rw [own_irem_int, Int.tmod_eq_emod_of_nonneg h]
theorem own_idiv_pos {x y : Int32} (h : 0 ≤ x.toInt) : (x / y).toInt = x.toInt / y.toInt := by
  have a := x.toInt_lt
  rw [Jvm.Kit.i32_div (by omega), Int.tdiv_eq_ediv_of_nonneg h]
theorem own_lrem_pos {x y : Int64} (h : 0 ≤ x.toInt) : (own_lrem x y).toInt = x.toInt % y.toInt := by rw [own_lrem]; exact Jvm.Kit.i64_rem_nonneg h
theorem own_ldiv_pos {x y : Int64} (h : 0 ≤ x.toInt) : (x / y).toInt = x.toInt / y.toInt := by
  have a := x.toInt_lt
  rw [Jvm.Kit.i64_div (by omega), Int.tdiv_eq_ediv_of_nonneg h]
/-! bits -/
theorem own_lushr_bv (x : Int64) (y : Int32) (k : Nat) (hk : ((y &&& 0x3f).toInt64.toBitVec % 64).toNat = k) : (own_lushr x y).toBitVec = x.toBitVec >>> k := by
  simp only [own_lushr, UInt64.toBitVec_toInt64, UInt64.toBitVec_shiftRight, Int64.toBitVec_toUInt64, BitVec.ushiftRight_eq', hk]
theorem own_lshl_bv (x : Int64) (y : Int32) (k : Nat) (hk : ((y &&& 0x3f).toInt64.toBitVec.smod 64#64).toNat = k) : (own_lshl x y).toBitVec = x.toBitVec <<< k := by
  have e : (own_lshl x y).toBitVec = x.toBitVec <<< ((y &&& 0x3f).toInt64.toBitVec.smod 64#64) := rfl
  rw [e, BitVec.shiftLeft_eq', hk]
theorem own_iushr_bv (x : Int32) (y : Int32) (k : Nat) (hk : ((y &&& 31).toBitVec % 32).toNat = k) : (own_iushr x y).toBitVec = x.toBitVec >>> k := by
  simp only [own_iushr, UInt32.toBitVec_toInt32, UInt32.toBitVec_shiftRight, Int32.toBitVec_toUInt32, BitVec.ushiftRight_eq', hk]
theorem own_iushr_int (x y : Int32) (k : Nat) (hk : ((y &&& 31).toBitVec % 32).toNat = k) (h : 0 ≤ x.toInt) : (own_iushr x y).toInt = x.toInt / 2 ^ k := by
  have e : (own_iushr x y).toInt = (own_iushr x y).toBitVec.toInt := rfl
  have e1 : x.toInt = x.toBitVec.toInt := rfl
  rw [e, own_iushr_bv x y k hk, e1]
  rw [e1] at h
  have h2 : x.toBitVec.toInt = (x.toBitVec.toNat : Int) := by
    rw [BitVec.toInt_eq_toNat_cond] at h ⊢
    split at h
    · rw [if_pos (by assumption)]
    · have := x.toBitVec.isLt; omega
  have h3 : 2 * x.toBitVec.toNat < 2 ^ 32 := by
    have := BitVec.toInt_lt (x := x.toBitVec); omega
  rw [BitVec.toInt_eq_toNat_cond, BitVec.toNat_ushiftRight, Nat.shiftRight_eq_div_pow]
  have h4 : x.toBitVec.toNat / 2 ^ k ≤ x.toBitVec.toNat := Nat.div_le_self _ _
  rw [if_pos (by omega), h2, Int.natCast_ediv, Int.natCast_pow]
  rfl
theorem own_pos_nat {x : Int32} (h : 0 ≤ x.toInt) : x.toInt = (x.toBitVec.toNat : Int) := by
  have e : x.toInt = x.toBitVec.toInt := rfl
  rw [e] at h ⊢
  rw [BitVec.toInt_eq_toNat_cond] at h ⊢
  have := x.toBitVec.isLt
  split at h
  · rw [if_pos (by assumption)]
  · omega
theorem own_nat_pos {x : Int32} {n : Nat} (h : x.toBitVec.toNat = n) (hn : n < 2147483648) : x.toInt = (n : Int) := by
  have e : x.toInt = x.toBitVec.toInt := rfl
  rw [e, BitVec.toInt_eq_toNat_cond, h, if_pos (by omega)]
/-- an or of a multiple of 2^k and what lies below 2^k is their sum -/
theorem own_or {x y : Int32} (k : Nat) (hx : 0 ≤ x.toInt) (hx2 : x.toInt % 2 ^ k = 0) (hy : 0 ≤ y.toInt) (hy2 : y.toInt < 2 ^ k) : (x ||| y).toInt = x.toInt + y.toInt := by
  have e1 := own_pos_nat hx
  have e2 := own_pos_nat hy
  have b1 := Int32.toInt_lt x
  have b2 := Int32.toInt_lt y
  have hm : x.toBitVec.toNat % 2 ^ k = 0 := by
    rw [e1] at hx2
    have : ((x.toBitVec.toNat % 2 ^ k : Nat) : Int) = 0 := by rw [Int.natCast_emod, Int.natCast_pow]; exact hx2
    omega
  have hl : y.toBitVec.toNat < 2 ^ k := by
    rw [e2] at hy2
    have : (y.toBitVec.toNat : Int) < ((2 ^ k : Nat) : Int) := by rw [Int.natCast_pow]; exact hy2
    omega
  have hd : x.toBitVec.toNat = 2 ^ k * (x.toBitVec.toNat / 2 ^ k) := by
    have := Nat.div_add_mod x.toBitVec.toNat (2 ^ k); omega
  have e3 : (x ||| y).toBitVec.toNat = x.toBitVec.toNat + y.toBitVec.toNat := by
    rw [Int32.toBitVec_or, BitVec.toNat_or]
    generalize y.toBitVec.toNat = b at *
    rw [hd, ← Nat.two_pow_add_eq_or_of_lt hl]
  have hlt : (x ||| y).toBitVec.toNat < 2147483648 := by
    rw [Int32.toBitVec_or, BitVec.toNat_or]
    exact Nat.or_lt_two_pow (n := 31) (by omega) (by omega)
  rw [own_nat_pos e3 (by omega)]
  omega
theorem own_mask (x m : Int32) (k : Nat) (hk : k < 32) (hm : m.toBitVec.toNat = 2 ^ k - 1) : (x &&& m).toInt = x.toInt % 2 ^ k := Jvm.Kit.i32_mask x m hk hm
/-! the high bits of a byte -/
theorem own_fin256 {x : Int32} (h0 : 0 ≤ x.toInt) (h1 : x.toInt < 256) : ∃ n : Fin 256, x = Int32.ofNat n.val ∧ x.toInt = (n.val : Int) := by
  refine ⟨⟨x.toInt.toNat, by omega⟩, ?_, by show x.toInt = (x.toInt.toNat : Int); omega⟩
  apply Int32.toInt_inj.mp
  rw [Int32.toInt_ofNat_of_lt (by show x.toInt.toNat < _; omega)]
  show x.toInt = (x.toInt.toNat : Int); omega
theorem own_f192 : ∀ n : Fin 256, (Int32.ofNat n.val &&& 192).toInt = (n.val : Int) - (n.val : Int) % 64 := by decide +kernel
theorem own_f224 : ∀ n : Fin 256, (Int32.ofNat n.val &&& 224).toInt = (n.val : Int) - (n.val : Int) % 32 := by decide +kernel
theorem own_f240 : ∀ n : Fin 256, (Int32.ofNat n.val &&& 240).toInt = (n.val : Int) - (n.val : Int) % 16 := by decide +kernel
theorem own_f248 : ∀ n : Fin 256, (Int32.ofNat n.val &&& 248).toInt = (n.val : Int) - (n.val : Int) % 8 := by decide +kernel
theorem own_h192 {x : Int32} (h0 : 0 ≤ x.toInt) (h1 : x.toInt < 256) : (x &&& 192).toInt = x.toInt - x.toInt % 64 := by
  obtain ⟨n, e1, e2⟩ := own_fin256 h0 h1; rw [e2, e1]; exact own_f192 n
theorem own_h224 {x : Int32} (h0 : 0 ≤ x.toInt) (h1 : x.toInt < 256) : (x &&& 224).toInt = x.toInt - x.toInt % 32 := by
  obtain ⟨n, e1, e2⟩ := own_fin256 h0 h1; rw [e2, e1]; exact own_f224 n
theorem own_h240 {x : Int32} (h0 : 0 ≤ x.toInt) (h1 : x.toInt < 256) : (x &&& 240).toInt = x.toInt - x.toInt % 16 := by
  obtain ⟨n, e1, e2⟩ := own_fin256 h0 h1; rw [e2, e1]; exact own_f240 n
theorem own_h248 {x : Int32} (h0 : 0 ≤ x.toInt) (h1 : x.toInt < 256) : (x &&& 248).toInt = x.toInt - x.toInt % 8 := by
  obtain ⟨n, e1, e2⟩ := own_fin256 h0 h1; rw [e2, e1]; exact own_f248 n
theorem own_m255 (x : Int32) : (x &&& 255).toInt = x.toInt % 256 := Jvm.Kit.i32_mask x 255 (k := 8) (by decide) (by decide)
theorem own_m63 (x : Int32) : (x &&& 63).toInt = x.toInt % 64 := Jvm.Kit.i32_mask x 63 (k := 6) (by decide) (by decide)
theorem own_l192 (x : Int32) : (x &&& 192).toInt = x.toInt % 256 - x.toInt % 64 := by
  have e : x &&& 192 = (x &&& 255) &&& 192 := by rw [Int32.and_assoc]; rfl
  have h := own_m255 x
  rw [e, own_h192 (by omega) (by omega), h]; omega
theorem own_shr (x y : Int32) (k : Nat) (hk : ((y &&& 31).toBitVec.smod 32).toNat = k) : (own_ishr x y).toInt = x.toInt / 2 ^ k := Jvm.Kit.i32_shr x _ hk
theorem own_shl (x y : Int32) (k : Nat) (hk : ((y &&& 31).toBitVec.smod 32).toNat = k) (h1 : -2147483648 ≤ x.toInt * 2 ^ k) (h2 : x.toInt * 2 ^ k < 2147483648) : (own_ishl x y).toInt = x.toInt * 2 ^ k := Jvm.Kit.i32_shl x _ hk (by omega) (by omega)
/-- an or with a constant that is a multiple of 2^k -/
theorem own_orc {x y : Int32} {d : Int} (k : Nat) (hx : x.toInt = d) (h0 : 0 ≤ d) (h1 : d % 2 ^ k = 0) (hy : 0 ≤ y.toInt) (hy2 : y.toInt < 2 ^ k) : (x ||| y).toInt = d + y.toInt := by
  subst hx; exact own_or k h0 h1 hy hy2
theorem own_b255 (x : Int32) : (own_i2b x &&& 255).toInt = x.toInt % 256 := by
  have h1 := own_m255 (own_i2b x)
  have h2 := own_i2b_b x
  omega
theorem own_ofNat {n : Nat} (h : n < 2147483648) : (Int32.ofNat n).toInt = (n : Int) := Int32.toInt_ofNat_of_lt (by omega)
def own_wd (b0 b1 b2 b3 b4 b5 b6 b7 : Int32) : Int64 :=
  ((((((((b0.toInt64 &&& 255) ||| own_lshl (b1.toInt64 &&& 255) 8) ||| own_lshl (b2.toInt64 &&& 255) 16) ||| own_lshl (b3.toInt64 &&& 255) 24) ||| own_lshl (b4.toInt64 &&& 255) 32) ||| own_lshl (b5.toInt64 &&& 255) 40) ||| own_lshl (b6.toInt64 &&& 255) 48) ||| own_lshl (b7.toInt64 &&& 255) 56)
theorem own_byte (y : Int64) : ((own_i2b y.toInt32).toInt64 &&& 255) = y &&& 255 := by
  apply Int64.toInt_inj.mp
  rw [Jvm.Kit.i64_mask _ 255 (k := 8) (by decide) (by decide), Jvm.Kit.i64_mask _ 255 (k := 8) (by decide) (by decide), Jvm.Kit.i64_of_i32]
  have h1 := (own_i2b_b y.toInt32).2.2
  rw [Int64.toInt_toInt32] at h1
  have h2 := Int.bmod_emod (x := y.toInt) (m := 2 ^ 32)
  omega
theorem own_wd_eq (x : Int64) : own_wd (own_i2b x.toInt32) (own_i2b (own_lushr x 8).toInt32) (own_i2b (own_lushr x 16).toInt32) (own_i2b (own_lushr x 24).toInt32) (own_i2b (own_lushr x 32).toInt32) (own_i2b (own_lushr x 40).toInt32) (own_i2b (own_lushr x 48).toInt32) (own_i2b (own_lushr x 56).toInt32) = x := by
  simp only [own_wd, own_byte]
  apply Int64.toBitVec_inj.mp
  simp only [Int64.toBitVec_or, Int64.toBitVec_and, own_lshl_bv _ 8 8 (by decide), own_lshl_bv _ 16 16 (by decide), own_lshl_bv _ 24 24 (by decide), own_lshl_bv _ 32 32 (by decide), own_lshl_bv _ 40 40 (by decide), own_lshl_bv _ 48 48 (by decide), own_lshl_bv _ 56 56 (by decide), own_lushr_bv _ 8 8 (by decide), own_lushr_bv _ 16 16 (by decide), own_lushr_bv _ 24 24 (by decide), own_lushr_bv _ 32 32 (by decide), own_lushr_bv _ 40 40 (by decide), own_lushr_bv _ 48 48 (by decide), own_lushr_bv _ 56 56 (by decide)]
  have e : (255 : Int64).toBitVec = 255#64 := rfl
  rw [e]
  generalize x.toBitVec = v
  apply BitVec.eq_of_getLsbD_eq
  intro i hi
  have hc : i = 0 ∨ i = 1 ∨ i = 2 ∨ i = 3 ∨ i = 4 ∨ i = 5 ∨ i = 6 ∨ i = 7 ∨ i = 8 ∨ i = 9 ∨ i = 10 ∨ i = 11 ∨ i = 12 ∨ i = 13 ∨ i = 14 ∨ i = 15 ∨ i = 16 ∨ i = 17 ∨ i = 18 ∨ i = 19 ∨ i = 20 ∨ i = 21 ∨ i = 22 ∨ i = 23 ∨ i = 24 ∨ i = 25 ∨ i = 26 ∨ i = 27 ∨ i = 28 ∨ i = 29 ∨ i = 30 ∨ i = 31 ∨ i = 32 ∨ i = 33 ∨ i = 34 ∨ i = 35 ∨ i = 36 ∨ i = 37 ∨ i = 38 ∨ i = 39 ∨ i = 40 ∨ i = 41 ∨ i = 42 ∨ i = 43 ∨ i = 44 ∨ i = 45 ∨ i = 46 ∨ i = 47 ∨ i = 48 ∨ i = 49 ∨ i = 50 ∨ i = 51 ∨ i = 52 ∨ i = 53 ∨ i = 54 ∨ i = 55 ∨ i = 56 ∨ i = 57 ∨ i = 58 ∨ i = 59 ∨ i = 60 ∨ i = 61 ∨ i = 62 ∨ i = 63 := by omega
  simp only [BitVec.getLsbD_or, BitVec.getLsbD_shiftLeft, BitVec.getLsbD_and, BitVec.getLsbD_ushiftRight]
  rcases hc with rfl | rfl | rfl | rfl | rfl | rfl | rfl | rfl | rfl | rfl | rfl | rfl | rfl | rfl | rfl | rfl | rfl | rfl | rfl | rfl | rfl | rfl | rfl | rfl | rfl | rfl | rfl | rfl | rfl | rfl | rfl | rfl | rfl | rfl | rfl | rfl | rfl | rfl | rfl | rfl | rfl | rfl | rfl | rfl | rfl | rfl | rfl | rfl | rfl | rfl | rfl | rfl | rfl | rfl | rfl | rfl | rfl | rfl | rfl | rfl | rfl | rfl | rfl | rfl <;> simp
abbrev own_y1 : MethodName := ⟨"com/example/cesta/cesta/Words", "word", "([BI)J"⟩
theorem pl1 : plainFor own_y1 = true := plainFor_of_name (by first | (simp [plainName, overriddenIn]; done) | decide +kernel)
def B1_0_2 : List (Instr × Nat) := [(.aload_n 0, 1), (.iload_n 1, 1)]
theorem B1_0_2d : own_d prog_137_method_2_code 0 B1_0_2 2 = true := by decide +kernel
theorem d1_2 : decode prog_137_method_2_code 2 = .ok (.baload, 1) := by decide +kernel
def B1_3_4 : List (Instr × Nat) := [(.i2l, 1)]
theorem B1_3_4d : own_d prog_137_method_2_code 3 B1_3_4 4 = true := by decide +kernel
theorem d1_4 : decode prog_137_method_2_code 4 = .ok (.ldc2_w 7, 3) := by decide +kernel
def B1_7_12 : List (Instr × Nat) := [(.land, 1), (.aload_n 0, 1), (.iload_n 1, 1), (.iconst 1, 1), (.iadd, 1)]
theorem B1_7_12d : own_d prog_137_method_2_code 7 B1_7_12 12 = true := by decide +kernel
theorem d1_12 : decode prog_137_method_2_code 12 = .ok (.baload, 1) := by decide +kernel
def B1_13_14 : List (Instr × Nat) := [(.i2l, 1)]
theorem B1_13_14d : own_d prog_137_method_2_code 13 B1_13_14 14 = true := by decide +kernel
theorem d1_14 : decode prog_137_method_2_code 14 = .ok (.ldc2_w 7, 3) := by decide +kernel
def B1_17_26 : List (Instr × Nat) := [(.land, 1), (.bipush 8, 2), (.lshl, 1), (.lor, 1), (.aload_n 0, 1), (.iload_n 1, 1), (.iconst 2, 1), (.iadd, 1)]
theorem B1_17_26d : own_d prog_137_method_2_code 17 B1_17_26 26 = true := by decide +kernel
theorem d1_26 : decode prog_137_method_2_code 26 = .ok (.baload, 1) := by decide +kernel
def B1_27_28 : List (Instr × Nat) := [(.i2l, 1)]
theorem B1_27_28d : own_d prog_137_method_2_code 27 B1_27_28 28 = true := by decide +kernel
theorem d1_28 : decode prog_137_method_2_code 28 = .ok (.ldc2_w 7, 3) := by decide +kernel
def B1_31_40 : List (Instr × Nat) := [(.land, 1), (.bipush 16, 2), (.lshl, 1), (.lor, 1), (.aload_n 0, 1), (.iload_n 1, 1), (.iconst 3, 1), (.iadd, 1)]
theorem B1_31_40d : own_d prog_137_method_2_code 31 B1_31_40 40 = true := by decide +kernel
theorem d1_40 : decode prog_137_method_2_code 40 = .ok (.baload, 1) := by decide +kernel
def B1_41_42 : List (Instr × Nat) := [(.i2l, 1)]
theorem B1_41_42d : own_d prog_137_method_2_code 41 B1_41_42 42 = true := by decide +kernel
theorem d1_42 : decode prog_137_method_2_code 42 = .ok (.ldc2_w 7, 3) := by decide +kernel
def B1_45_54 : List (Instr × Nat) := [(.land, 1), (.bipush 24, 2), (.lshl, 1), (.lor, 1), (.aload_n 0, 1), (.iload_n 1, 1), (.iconst 4, 1), (.iadd, 1)]
theorem B1_45_54d : own_d prog_137_method_2_code 45 B1_45_54 54 = true := by decide +kernel
theorem d1_54 : decode prog_137_method_2_code 54 = .ok (.baload, 1) := by decide +kernel
def B1_55_56 : List (Instr × Nat) := [(.i2l, 1)]
theorem B1_55_56d : own_d prog_137_method_2_code 55 B1_55_56 56 = true := by decide +kernel
theorem d1_56 : decode prog_137_method_2_code 56 = .ok (.ldc2_w 7, 3) := by decide +kernel
def B1_59_68 : List (Instr × Nat) := [(.land, 1), (.bipush 32, 2), (.lshl, 1), (.lor, 1), (.aload_n 0, 1), (.iload_n 1, 1), (.iconst 5, 1), (.iadd, 1)]
theorem B1_59_68d : own_d prog_137_method_2_code 59 B1_59_68 68 = true := by decide +kernel
theorem d1_68 : decode prog_137_method_2_code 68 = .ok (.baload, 1) := by decide +kernel
def B1_69_70 : List (Instr × Nat) := [(.i2l, 1)]
theorem B1_69_70d : own_d prog_137_method_2_code 69 B1_69_70 70 = true := by decide +kernel
theorem d1_70 : decode prog_137_method_2_code 70 = .ok (.ldc2_w 7, 3) := by decide +kernel
def B1_73_83 : List (Instr × Nat) := [(.land, 1), (.bipush 40, 2), (.lshl, 1), (.lor, 1), (.aload_n 0, 1), (.iload_n 1, 1), (.bipush 6, 2), (.iadd, 1)]
theorem B1_73_83d : own_d prog_137_method_2_code 73 B1_73_83 83 = true := by decide +kernel
theorem d1_83 : decode prog_137_method_2_code 83 = .ok (.baload, 1) := by decide +kernel
def B1_84_85 : List (Instr × Nat) := [(.i2l, 1)]
theorem B1_84_85d : own_d prog_137_method_2_code 84 B1_84_85 85 = true := by decide +kernel
theorem d1_85 : decode prog_137_method_2_code 85 = .ok (.ldc2_w 7, 3) := by decide +kernel
def B1_88_98 : List (Instr × Nat) := [(.land, 1), (.bipush 48, 2), (.lshl, 1), (.lor, 1), (.aload_n 0, 1), (.iload_n 1, 1), (.bipush 7, 2), (.iadd, 1)]
theorem B1_88_98d : own_d prog_137_method_2_code 88 B1_88_98 98 = true := by decide +kernel
theorem d1_98 : decode prog_137_method_2_code 98 = .ok (.baload, 1) := by decide +kernel
def B1_99_100 : List (Instr × Nat) := [(.i2l, 1)]
theorem B1_99_100d : own_d prog_137_method_2_code 99 B1_99_100 100 = true := by decide +kernel
theorem d1_100 : decode prog_137_method_2_code 100 = .ok (.ldc2_w 7, 3) := by decide +kernel
def B1_103_108 : List (Instr × Nat) := [(.land, 1), (.bipush 56, 2), (.lshl, 1), (.lor, 1)]
theorem B1_103_108d : own_d prog_137_method_2_code 103 B1_103_108 108 = true := by decide +kernel
theorem d1_108 : decode prog_137_method_2_code 108 = .ok (.lreturn, 1) := by decide +kernel
set_option maxRecDepth 65536 in
set_option maxHeartbeats 40000000 in
theorem c_word (l : Launch) (Z : State) (a0 : Array Value) (hw : ∀ d ∈ tables_1, d.before a0 Z = true) (b : Addr) (q : Int32) (g : Int → Int32) (h0 : Heap) (n0 : Nat) (Z0 : n0 ≤ h0.size) (A : own_I Z h0 b .byte 12 g) (hq : 0 ≤ q.toInt ∧ q.toInt ≤ 3) :
    own_C l Z own_y1 prog_137_method_2_code 2 (some .long) ({ frames := 0, cells := 0, slots := 0, locals := 0 } : Room) #[(.ref b), (.int q)] h0 n0 (fun v h => v = some (.long (own_wd (g q.toInt) (g (q.toInt + 1)) (g (q.toInt + 2)) (g (q.toInt + 3)) (g (q.toInt + 4)) (g (q.toInt + 5)) (g (q.toInt + 6)) (g (q.toInt + 7)))) ∧ h = h0) := by
  refine own_body pl1 Z0 (ls := #[.val (.ref b), .val (.int q)]) (fun m => by first | (simp [entryFrame, mkF, argsToLocals, Value.category]; done) | rfl) ?_
  intro p e s m below meth c T0 X0
  have i1 : (q + (1 : Int32)).toInt = q.toInt + 1 := own_addc rfl (by omega) (by omega)
  have i2 : (q + (2 : Int32)).toInt = q.toInt + 2 := own_addc rfl (by omega) (by omega)
  have i3 : (q + (3 : Int32)).toInt = q.toInt + 3 := own_addc rfl (by omega) (by omega)
  have i4 : (q + (4 : Int32)).toInt = q.toInt + 4 := own_addc rfl (by omega) (by omega)
  have i5 : (q + (5 : Int32)).toInt = q.toInt + 5 := own_addc rfl (by omega) (by omega)
  have i6 : (q + (6 : Int32)).toInt = q.toInt + 6 := own_addc rfl (by omega) (by omega)
  have i7 : (q + (7 : Int32)).toInt = q.toInt + 7 := own_addc rfl (by omega) (by omega)
  refine own_blk X0 B1_0_2 B1_0_2d (ls' := #[.val (.ref b), .val (.int q)]) (st' := [(.int q), (.ref b)]) rfl ?_
  refine own_bald X0 A d1_2 (by omega) (by omega) ?_
  show own_G p e below (T0.setTop (mkF m 3 #[.val (.ref b), .val (.int q)] [(.int (g q.toInt))])) _
  refine own_blk X0 B1_3_4 B1_3_4d (ls' := #[.val (.ref b), .val (.int q)]) (st' := [(.long ((g q.toInt).toInt64))]) rfl ?_
  refine own_ldc2 X0 (hw _ (List.mem_of_getElem? (i := 5) rfl)) d1_4 ?_
  refine own_blk X0 B1_7_12 B1_7_12d (ls' := #[.val (.ref b), .val (.int q)]) (st' := [(.int (q + (1 : Int32))), (.ref b), (.long (((g q.toInt).toInt64) &&& (255 : Int64)))]) rfl ?_
  refine own_bald X0 A d1_12 (by omega) (by omega) ?_
  show own_G p e below (T0.setTop (mkF m 13 #[.val (.ref b), .val (.int q)] [(.int (g (q + (1 : Int32)).toInt)), (.long (((g q.toInt).toInt64) &&& (255 : Int64)))])) _
  refine own_blk X0 B1_13_14 B1_13_14d (ls' := #[.val (.ref b), .val (.int q)]) (st' := [(.long ((g (q + (1 : Int32)).toInt).toInt64)), (.long (((g q.toInt).toInt64) &&& (255 : Int64)))]) rfl ?_
  refine own_ldc2 X0 (hw _ (List.mem_of_getElem? (i := 5) rfl)) d1_14 ?_
  refine own_blk X0 B1_17_26 B1_17_26d (ls' := #[.val (.ref b), .val (.int q)]) (st' := [(.int (q + (2 : Int32))), (.ref b), (.long ((((g q.toInt).toInt64) &&& (255 : Int64)) ||| (own_lshl (((g (q + (1 : Int32)).toInt).toInt64) &&& (255 : Int64)) (8 : Int32))))]) rfl ?_
  refine own_bald X0 A d1_26 (by omega) (by omega) ?_
  show own_G p e below (T0.setTop (mkF m 27 #[.val (.ref b), .val (.int q)] [(.int (g (q + (2 : Int32)).toInt)), (.long ((((g q.toInt).toInt64) &&& (255 : Int64)) ||| (own_lshl (((g (q + (1 : Int32)).toInt).toInt64) &&& (255 : Int64)) (8 : Int32))))])) _
  refine own_blk X0 B1_27_28 B1_27_28d (ls' := #[.val (.ref b), .val (.int q)]) (st' := [(.long ((g (q + (2 : Int32)).toInt).toInt64)), (.long ((((g q.toInt).toInt64) &&& (255 : Int64)) ||| (own_lshl (((g (q + (1 : Int32)).toInt).toInt64) &&& (255 : Int64)) (8 : Int32))))]) rfl ?_
  refine own_ldc2 X0 (hw _ (List.mem_of_getElem? (i := 5) rfl)) d1_28 ?_
  refine own_blk X0 B1_31_40 B1_31_40d (ls' := #[.val (.ref b), .val (.int q)]) (st' := [(.int (q + (3 : Int32))), (.ref b), (.long (((((g q.toInt).toInt64) &&& (255 : Int64)) ||| (own_lshl (((g (q + (1 : Int32)).toInt).toInt64) &&& (255 : Int64)) (8 : Int32))) ||| (own_lshl (((g (q + (2 : Int32)).toInt).toInt64) &&& (255 : Int64)) (16 : Int32))))]) rfl ?_
  refine own_bald X0 A d1_40 (by omega) (by omega) ?_
  show own_G p e below (T0.setTop (mkF m 41 #[.val (.ref b), .val (.int q)] [(.int (g (q + (3 : Int32)).toInt)), (.long (((((g q.toInt).toInt64) &&& (255 : Int64)) ||| (own_lshl (((g (q + (1 : Int32)).toInt).toInt64) &&& (255 : Int64)) (8 : Int32))) ||| (own_lshl (((g (q + (2 : Int32)).toInt).toInt64) &&& (255 : Int64)) (16 : Int32))))])) _
  refine own_blk X0 B1_41_42 B1_41_42d (ls' := #[.val (.ref b), .val (.int q)]) (st' := [(.long ((g (q + (3 : Int32)).toInt).toInt64)), (.long (((((g q.toInt).toInt64) &&& (255 : Int64)) ||| (own_lshl (((g (q + (1 : Int32)).toInt).toInt64) &&& (255 : Int64)) (8 : Int32))) ||| (own_lshl (((g (q + (2 : Int32)).toInt).toInt64) &&& (255 : Int64)) (16 : Int32))))]) rfl ?_
  refine own_ldc2 X0 (hw _ (List.mem_of_getElem? (i := 5) rfl)) d1_42 ?_
  refine own_blk X0 B1_45_54 B1_45_54d (ls' := #[.val (.ref b), .val (.int q)]) (st' := [(.int (q + (4 : Int32))), (.ref b), (.long ((((((g q.toInt).toInt64) &&& (255 : Int64)) ||| (own_lshl (((g (q + (1 : Int32)).toInt).toInt64) &&& (255 : Int64)) (8 : Int32))) ||| (own_lshl (((g (q + (2 : Int32)).toInt).toInt64) &&& (255 : Int64)) (16 : Int32))) ||| (own_lshl (((g (q + (3 : Int32)).toInt).toInt64) &&& (255 : Int64)) (24 : Int32))))]) rfl ?_
  refine own_bald X0 A d1_54 (by omega) (by omega) ?_
  show own_G p e below (T0.setTop (mkF m 55 #[.val (.ref b), .val (.int q)] [(.int (g (q + (4 : Int32)).toInt)), (.long ((((((g q.toInt).toInt64) &&& (255 : Int64)) ||| (own_lshl (((g (q + (1 : Int32)).toInt).toInt64) &&& (255 : Int64)) (8 : Int32))) ||| (own_lshl (((g (q + (2 : Int32)).toInt).toInt64) &&& (255 : Int64)) (16 : Int32))) ||| (own_lshl (((g (q + (3 : Int32)).toInt).toInt64) &&& (255 : Int64)) (24 : Int32))))])) _
  refine own_blk X0 B1_55_56 B1_55_56d (ls' := #[.val (.ref b), .val (.int q)]) (st' := [(.long ((g (q + (4 : Int32)).toInt).toInt64)), (.long ((((((g q.toInt).toInt64) &&& (255 : Int64)) ||| (own_lshl (((g (q + (1 : Int32)).toInt).toInt64) &&& (255 : Int64)) (8 : Int32))) ||| (own_lshl (((g (q + (2 : Int32)).toInt).toInt64) &&& (255 : Int64)) (16 : Int32))) ||| (own_lshl (((g (q + (3 : Int32)).toInt).toInt64) &&& (255 : Int64)) (24 : Int32))))]) rfl ?_
  refine own_ldc2 X0 (hw _ (List.mem_of_getElem? (i := 5) rfl)) d1_56 ?_
  refine own_blk X0 B1_59_68 B1_59_68d (ls' := #[.val (.ref b), .val (.int q)]) (st' := [(.int (q + (5 : Int32))), (.ref b), (.long (((((((g q.toInt).toInt64) &&& (255 : Int64)) ||| (own_lshl (((g (q + (1 : Int32)).toInt).toInt64) &&& (255 : Int64)) (8 : Int32))) ||| (own_lshl (((g (q + (2 : Int32)).toInt).toInt64) &&& (255 : Int64)) (16 : Int32))) ||| (own_lshl (((g (q + (3 : Int32)).toInt).toInt64) &&& (255 : Int64)) (24 : Int32))) ||| (own_lshl (((g (q + (4 : Int32)).toInt).toInt64) &&& (255 : Int64)) (32 : Int32))))]) rfl ?_
  refine own_bald X0 A d1_68 (by omega) (by omega) ?_
  show own_G p e below (T0.setTop (mkF m 69 #[.val (.ref b), .val (.int q)] [(.int (g (q + (5 : Int32)).toInt)), (.long (((((((g q.toInt).toInt64) &&& (255 : Int64)) ||| (own_lshl (((g (q + (1 : Int32)).toInt).toInt64) &&& (255 : Int64)) (8 : Int32))) ||| (own_lshl (((g (q + (2 : Int32)).toInt).toInt64) &&& (255 : Int64)) (16 : Int32))) ||| (own_lshl (((g (q + (3 : Int32)).toInt).toInt64) &&& (255 : Int64)) (24 : Int32))) ||| (own_lshl (((g (q + (4 : Int32)).toInt).toInt64) &&& (255 : Int64)) (32 : Int32))))])) _
  refine own_blk X0 B1_69_70 B1_69_70d (ls' := #[.val (.ref b), .val (.int q)]) (st' := [(.long ((g (q + (5 : Int32)).toInt).toInt64)), (.long (((((((g q.toInt).toInt64) &&& (255 : Int64)) ||| (own_lshl (((g (q + (1 : Int32)).toInt).toInt64) &&& (255 : Int64)) (8 : Int32))) ||| (own_lshl (((g (q + (2 : Int32)).toInt).toInt64) &&& (255 : Int64)) (16 : Int32))) ||| (own_lshl (((g (q + (3 : Int32)).toInt).toInt64) &&& (255 : Int64)) (24 : Int32))) ||| (own_lshl (((g (q + (4 : Int32)).toInt).toInt64) &&& (255 : Int64)) (32 : Int32))))]) rfl ?_
  refine own_ldc2 X0 (hw _ (List.mem_of_getElem? (i := 5) rfl)) d1_70 ?_
  refine own_blk X0 B1_73_83 B1_73_83d (ls' := #[.val (.ref b), .val (.int q)]) (st' := [(.int (q + (6 : Int32))), (.ref b), (.long ((((((((g q.toInt).toInt64) &&& (255 : Int64)) ||| (own_lshl (((g (q + (1 : Int32)).toInt).toInt64) &&& (255 : Int64)) (8 : Int32))) ||| (own_lshl (((g (q + (2 : Int32)).toInt).toInt64) &&& (255 : Int64)) (16 : Int32))) ||| (own_lshl (((g (q + (3 : Int32)).toInt).toInt64) &&& (255 : Int64)) (24 : Int32))) ||| (own_lshl (((g (q + (4 : Int32)).toInt).toInt64) &&& (255 : Int64)) (32 : Int32))) ||| (own_lshl (((g (q + (5 : Int32)).toInt).toInt64) &&& (255 : Int64)) (40 : Int32))))]) rfl ?_
  refine own_bald X0 A d1_83 (by omega) (by omega) ?_
  show own_G p e below (T0.setTop (mkF m 84 #[.val (.ref b), .val (.int q)] [(.int (g (q + (6 : Int32)).toInt)), (.long ((((((((g q.toInt).toInt64) &&& (255 : Int64)) ||| (own_lshl (((g (q + (1 : Int32)).toInt).toInt64) &&& (255 : Int64)) (8 : Int32))) ||| (own_lshl (((g (q + (2 : Int32)).toInt).toInt64) &&& (255 : Int64)) (16 : Int32))) ||| (own_lshl (((g (q + (3 : Int32)).toInt).toInt64) &&& (255 : Int64)) (24 : Int32))) ||| (own_lshl (((g (q + (4 : Int32)).toInt).toInt64) &&& (255 : Int64)) (32 : Int32))) ||| (own_lshl (((g (q + (5 : Int32)).toInt).toInt64) &&& (255 : Int64)) (40 : Int32))))])) _
  refine own_blk X0 B1_84_85 B1_84_85d (ls' := #[.val (.ref b), .val (.int q)]) (st' := [(.long ((g (q + (6 : Int32)).toInt).toInt64)), (.long ((((((((g q.toInt).toInt64) &&& (255 : Int64)) ||| (own_lshl (((g (q + (1 : Int32)).toInt).toInt64) &&& (255 : Int64)) (8 : Int32))) ||| (own_lshl (((g (q + (2 : Int32)).toInt).toInt64) &&& (255 : Int64)) (16 : Int32))) ||| (own_lshl (((g (q + (3 : Int32)).toInt).toInt64) &&& (255 : Int64)) (24 : Int32))) ||| (own_lshl (((g (q + (4 : Int32)).toInt).toInt64) &&& (255 : Int64)) (32 : Int32))) ||| (own_lshl (((g (q + (5 : Int32)).toInt).toInt64) &&& (255 : Int64)) (40 : Int32))))]) rfl ?_
  refine own_ldc2 X0 (hw _ (List.mem_of_getElem? (i := 5) rfl)) d1_85 ?_
  refine own_blk X0 B1_88_98 B1_88_98d (ls' := #[.val (.ref b), .val (.int q)]) (st' := [(.int (q + (7 : Int32))), (.ref b), (.long (((((((((g q.toInt).toInt64) &&& (255 : Int64)) ||| (own_lshl (((g (q + (1 : Int32)).toInt).toInt64) &&& (255 : Int64)) (8 : Int32))) ||| (own_lshl (((g (q + (2 : Int32)).toInt).toInt64) &&& (255 : Int64)) (16 : Int32))) ||| (own_lshl (((g (q + (3 : Int32)).toInt).toInt64) &&& (255 : Int64)) (24 : Int32))) ||| (own_lshl (((g (q + (4 : Int32)).toInt).toInt64) &&& (255 : Int64)) (32 : Int32))) ||| (own_lshl (((g (q + (5 : Int32)).toInt).toInt64) &&& (255 : Int64)) (40 : Int32))) ||| (own_lshl (((g (q + (6 : Int32)).toInt).toInt64) &&& (255 : Int64)) (48 : Int32))))]) rfl ?_
  refine own_bald X0 A d1_98 (by omega) (by omega) ?_
  show own_G p e below (T0.setTop (mkF m 99 #[.val (.ref b), .val (.int q)] [(.int (g (q + (7 : Int32)).toInt)), (.long (((((((((g q.toInt).toInt64) &&& (255 : Int64)) ||| (own_lshl (((g (q + (1 : Int32)).toInt).toInt64) &&& (255 : Int64)) (8 : Int32))) ||| (own_lshl (((g (q + (2 : Int32)).toInt).toInt64) &&& (255 : Int64)) (16 : Int32))) ||| (own_lshl (((g (q + (3 : Int32)).toInt).toInt64) &&& (255 : Int64)) (24 : Int32))) ||| (own_lshl (((g (q + (4 : Int32)).toInt).toInt64) &&& (255 : Int64)) (32 : Int32))) ||| (own_lshl (((g (q + (5 : Int32)).toInt).toInt64) &&& (255 : Int64)) (40 : Int32))) ||| (own_lshl (((g (q + (6 : Int32)).toInt).toInt64) &&& (255 : Int64)) (48 : Int32))))])) _
  refine own_blk X0 B1_99_100 B1_99_100d (ls' := #[.val (.ref b), .val (.int q)]) (st' := [(.long ((g (q + (7 : Int32)).toInt).toInt64)), (.long (((((((((g q.toInt).toInt64) &&& (255 : Int64)) ||| (own_lshl (((g (q + (1 : Int32)).toInt).toInt64) &&& (255 : Int64)) (8 : Int32))) ||| (own_lshl (((g (q + (2 : Int32)).toInt).toInt64) &&& (255 : Int64)) (16 : Int32))) ||| (own_lshl (((g (q + (3 : Int32)).toInt).toInt64) &&& (255 : Int64)) (24 : Int32))) ||| (own_lshl (((g (q + (4 : Int32)).toInt).toInt64) &&& (255 : Int64)) (32 : Int32))) ||| (own_lshl (((g (q + (5 : Int32)).toInt).toInt64) &&& (255 : Int64)) (40 : Int32))) ||| (own_lshl (((g (q + (6 : Int32)).toInt).toInt64) &&& (255 : Int64)) (48 : Int32))))]) rfl ?_
  refine own_ldc2 X0 (hw _ (List.mem_of_getElem? (i := 5) rfl)) d1_100 ?_
  refine own_blk X0 B1_103_108 B1_103_108d (ls' := #[.val (.ref b), .val (.int q)]) (st' := [(.long ((((((((((g q.toInt).toInt64) &&& (255 : Int64)) ||| (own_lshl (((g (q + (1 : Int32)).toInt).toInt64) &&& (255 : Int64)) (8 : Int32))) ||| (own_lshl (((g (q + (2 : Int32)).toInt).toInt64) &&& (255 : Int64)) (16 : Int32))) ||| (own_lshl (((g (q + (3 : Int32)).toInt).toInt64) &&& (255 : Int64)) (24 : Int32))) ||| (own_lshl (((g (q + (4 : Int32)).toInt).toInt64) &&& (255 : Int64)) (32 : Int32))) ||| (own_lshl (((g (q + (5 : Int32)).toInt).toInt64) &&& (255 : Int64)) (40 : Int32))) ||| (own_lshl (((g (q + (6 : Int32)).toInt).toInt64) &&& (255 : Int64)) (48 : Int32))) ||| (own_lshl (((g (q + (7 : Int32)).toInt).toInt64) &&& (255 : Int64)) (56 : Int32))))]) rfl ?_
  exact own_retL X0 d1_108 (by decide) (by decide) (⟨by rw [i1, i2, i3, i4, i5, i6, i7]; rfl, rfl⟩)
theorem pl0 : plainFor x = true := plainFor_of_name (by first | (simp [plainName, overriddenIn]; done) | decide +kernel)
def B0_0_2 : List (Instr × Nat) := [(.bipush 12, 2)]
theorem B0_0_2d : own_d code 0 B0_0_2 2 = true := by decide +kernel
theorem d0_2 : decode code 2 = .ok (.newarray .byte, 2) := by decide +kernel
def B0_4_11 : List (Instr × Nat) := [(.astore 6, 2), (.aload 6, 2), (.iconst 0, 1), (.iload_n 3, 1), (.i2b, 1)]
theorem B0_4_11d : own_d code 4 B0_4_11 11 = true := by decide +kernel
theorem d0_11 : decode code 11 = .ok (.bastore, 1) := by decide +kernel
def B0_12_20 : List (Instr × Nat) := [(.aload 6, 2), (.iconst 1, 1), (.iload_n 3, 1), (.bipush 8, 2), (.iushr, 1), (.i2b, 1)]
theorem B0_12_20d : own_d code 12 B0_12_20 20 = true := by decide +kernel
theorem d0_20 : decode code 20 = .ok (.bastore, 1) := by decide +kernel
def B0_21_29 : List (Instr × Nat) := [(.aload 6, 2), (.iconst 2, 1), (.iload_n 3, 1), (.bipush 16, 2), (.iushr, 1), (.i2b, 1)]
theorem B0_21_29d : own_d code 21 B0_21_29 29 = true := by decide +kernel
theorem d0_29 : decode code 29 = .ok (.bastore, 1) := by decide +kernel
def B0_30_38 : List (Instr × Nat) := [(.aload 6, 2), (.iconst 3, 1), (.iload_n 3, 1), (.bipush 24, 2), (.iushr, 1), (.i2b, 1)]
theorem B0_30_38d : own_d code 30 B0_30_38 38 = true := by decide +kernel
theorem d0_38 : decode code 38 = .ok (.bastore, 1) := by decide +kernel
def B0_39_45 : List (Instr × Nat) := [(.aload 6, 2), (.iconst 4, 1), (.iload 4, 2), (.i2b, 1)]
theorem B0_39_45d : own_d code 39 B0_39_45 45 = true := by decide +kernel
theorem d0_45 : decode code 45 = .ok (.bastore, 1) := by decide +kernel
def B0_46_55 : List (Instr × Nat) := [(.aload 6, 2), (.iconst 5, 1), (.iload 4, 2), (.bipush 8, 2), (.iushr, 1), (.i2b, 1)]
theorem B0_46_55d : own_d code 46 B0_46_55 55 = true := by decide +kernel
theorem d0_55 : decode code 55 = .ok (.bastore, 1) := by decide +kernel
def B0_56_66 : List (Instr × Nat) := [(.aload 6, 2), (.bipush 6, 2), (.iload 4, 2), (.bipush 16, 2), (.iushr, 1), (.i2b, 1)]
theorem B0_56_66d : own_d code 56 B0_56_66 66 = true := by decide +kernel
theorem d0_66 : decode code 66 = .ok (.bastore, 1) := by decide +kernel
def B0_67_77 : List (Instr × Nat) := [(.aload 6, 2), (.bipush 7, 2), (.iload 4, 2), (.bipush 24, 2), (.iushr, 1), (.i2b, 1)]
theorem B0_67_77d : own_d code 67 B0_67_77 77 = true := by decide +kernel
theorem d0_77 : decode code 77 = .ok (.bastore, 1) := by decide +kernel
def B0_78_85 : List (Instr × Nat) := [(.aload 6, 2), (.bipush 8, 2), (.iload 5, 2), (.i2b, 1)]
theorem B0_78_85d : own_d code 78 B0_78_85 85 = true := by decide +kernel
theorem d0_85 : decode code 85 = .ok (.bastore, 1) := by decide +kernel
def B0_86_96 : List (Instr × Nat) := [(.aload 6, 2), (.bipush 9, 2), (.iload 5, 2), (.bipush 8, 2), (.iushr, 1), (.i2b, 1)]
theorem B0_86_96d : own_d code 86 B0_86_96 96 = true := by decide +kernel
theorem d0_96 : decode code 96 = .ok (.bastore, 1) := by decide +kernel
def B0_97_107 : List (Instr × Nat) := [(.aload 6, 2), (.bipush 10, 2), (.iload 5, 2), (.bipush 16, 2), (.iushr, 1), (.i2b, 1)]
theorem B0_97_107d : own_d code 97 B0_97_107 107 = true := by decide +kernel
theorem d0_107 : decode code 107 = .ok (.bastore, 1) := by decide +kernel
def B0_108_118 : List (Instr × Nat) := [(.aload 6, 2), (.bipush 11, 2), (.iload 5, 2), (.bipush 24, 2), (.iushr, 1), (.i2b, 1)]
theorem B0_108_118d : own_d code 108 B0_108_118 118 = true := by decide +kernel
theorem d0_118 : decode code 118 = .ok (.bastore, 1) := by decide +kernel
def B0_119_124 : List (Instr × Nat) := [(.iload_n 2, 1), (.iconst 3, 1), (.iand, 1), (.istore 7, 2)]
theorem B0_119_124d : own_d code 119 B0_119_124 124 = true := by decide +kernel
def B0_124_131 : List (Instr × Nat) := [(.aload 6, 2), (.iload 7, 2), (.lload_n 0, 1), (.l2i, 1), (.i2b, 1)]
theorem B0_124_131d : own_d code 124 B0_124_131 131 = true := by decide +kernel
theorem d0_131 : decode code 131 = .ok (.bastore, 1) := by decide +kernel
def B0_132_144 : List (Instr × Nat) := [(.aload 6, 2), (.iload 7, 2), (.iconst 1, 1), (.iadd, 1), (.lload_n 0, 1), (.bipush 8, 2), (.lushr, 1), (.l2i, 1), (.i2b, 1)]
theorem B0_132_144d : own_d code 132 B0_132_144 144 = true := by decide +kernel
theorem d0_144 : decode code 144 = .ok (.bastore, 1) := by decide +kernel
def B0_145_157 : List (Instr × Nat) := [(.aload 6, 2), (.iload 7, 2), (.iconst 2, 1), (.iadd, 1), (.lload_n 0, 1), (.bipush 16, 2), (.lushr, 1), (.l2i, 1), (.i2b, 1)]
theorem B0_145_157d : own_d code 145 B0_145_157 157 = true := by decide +kernel
theorem d0_157 : decode code 157 = .ok (.bastore, 1) := by decide +kernel
def B0_158_170 : List (Instr × Nat) := [(.aload 6, 2), (.iload 7, 2), (.iconst 3, 1), (.iadd, 1), (.lload_n 0, 1), (.bipush 24, 2), (.lushr, 1), (.l2i, 1), (.i2b, 1)]
theorem B0_158_170d : own_d code 158 B0_158_170 170 = true := by decide +kernel
theorem d0_170 : decode code 170 = .ok (.bastore, 1) := by decide +kernel
def B0_171_183 : List (Instr × Nat) := [(.aload 6, 2), (.iload 7, 2), (.iconst 4, 1), (.iadd, 1), (.lload_n 0, 1), (.bipush 32, 2), (.lushr, 1), (.l2i, 1), (.i2b, 1)]
theorem B0_171_183d : own_d code 171 B0_171_183 183 = true := by decide +kernel
theorem d0_183 : decode code 183 = .ok (.bastore, 1) := by decide +kernel
def B0_184_196 : List (Instr × Nat) := [(.aload 6, 2), (.iload 7, 2), (.iconst 5, 1), (.iadd, 1), (.lload_n 0, 1), (.bipush 40, 2), (.lushr, 1), (.l2i, 1), (.i2b, 1)]
theorem B0_184_196d : own_d code 184 B0_184_196 196 = true := by decide +kernel
theorem d0_196 : decode code 196 = .ok (.bastore, 1) := by decide +kernel
def B0_197_210 : List (Instr × Nat) := [(.aload 6, 2), (.iload 7, 2), (.bipush 6, 2), (.iadd, 1), (.lload_n 0, 1), (.bipush 48, 2), (.lushr, 1), (.l2i, 1), (.i2b, 1)]
theorem B0_197_210d : own_d code 197 B0_197_210 210 = true := by decide +kernel
theorem d0_210 : decode code 210 = .ok (.bastore, 1) := by decide +kernel
def B0_211_224 : List (Instr × Nat) := [(.aload 6, 2), (.iload 7, 2), (.bipush 7, 2), (.iadd, 1), (.lload_n 0, 1), (.bipush 56, 2), (.lushr, 1), (.l2i, 1), (.i2b, 1)]
theorem B0_211_224d : own_d code 211 B0_211_224 224 = true := by decide +kernel
theorem d0_224 : decode code 224 = .ok (.bastore, 1) := by decide +kernel
def B0_225_229 : List (Instr × Nat) := [(.aload 6, 2), (.iload 7, 2)]
theorem B0_225_229d : own_d code 225 B0_225_229 229 = true := by decide +kernel
theorem d0_229 : decode code 229 = .ok (.invokestatic 7, 3) := by decide +kernel
theorem pd1 : parseMethodDescriptor "([BI)J" = some ⟨[(.array .byte), .int], some .long⟩ := by decide +kernel
def B0_232_233 : List (Instr × Nat) := [(.lload_n 0, 1)]
theorem B0_232_233d : own_d code 232 B0_232_233 233 = true := by decide +kernel
theorem d0_233 : decode code 233 = .ok (.lcmp, 1) := by decide +kernel
theorem d0_234 : decode code 234 = .ok (.ifCond .ne 7, 3) := by decide +kernel
def B0_237_238 : List (Instr × Nat) := [(.iconst 1, 1)]
theorem B0_237_238d : own_d code 237 B0_237_238 238 = true := by decide +kernel
theorem d0_238 : decode code 238 = .ok (.goto 4, 3) := by decide +kernel
theorem d0_242 : decode code 242 = .ok (.ireturn, 1) := by decide +kernel
set_option maxRecDepth 65536 in
set_option maxHeartbeats 40000000 in
theorem c_law (l : Launch) (Z : State) (a0 : Array Value) (hw : ∀ d ∈ tables_1, d.before a0 Z = true) (x0 : Int64) (r : Int32) (j : Int32) (k : Int32) (mm : Int32) (h0 : Heap) (n0 : Nat) (Z0 : n0 ≤ h0.size)  :
    own_C l Z x code maxLocals ret room_1 #[(.long x0), (.int r), (.int j), (.int k), (.int mm)] h0 n0 (fun v h => v = some (.int 1)) := by
  refine own_body pl0 Z0 (ls := #[.val (.long x0), .second, .val (.int r), .val (.int j), .val (.int k), .val (.int mm), .unset, .unset]) (fun m => by first | (simp [entryFrame, mkF, argsToLocals, Value.category, maxLocals]; done) | rfl) ?_
  intro p e s m below meth c T0 X0
  refine own_blk X0 B0_0_2 B0_0_2d (ls' := #[.val (.long x0), .second, .val (.int r), .val (.int j), .val (.int k), .val (.int mm), .unset, .unset]) (st' := [(.int (12 : Int32))]) rfl ?_
  refine own_newI X0 (hw _ (List.mem_of_getElem? (i := 0) rfl)) rfl d0_2 (by decide) 12 (by decide) (by decide) (by decide) (by decide) (fun h1 T1 X1 E1 A1 => ?_)
  have n_b : n0 ≤ h0.size := X0.2.1
  have A1 : own_I Z h1 h0.size .byte 12 (fun _ => (0 : Int32)) := A1
  generalize ez_b : h0.size = b at A1 n_b ⊢
  show own_G p e below (T1.setTop (mkF m 4 #[.val (.long x0), .second, .val (.int r), .val (.int j), .val (.int k), .val (.int mm), .unset, .unset] [(.ref b)])) _
  refine own_blk X1 B0_4_11 B0_4_11d (ls' := #[.val (.long x0), .second, .val (.int r), .val (.int j), .val (.int k), .val (.int mm), .val (.ref b), .unset]) (st' := [(.int (own_i2b j)), (.int (0 : Int32)), (.ref b)]) rfl ?_
  refine own_bast X1 A1 n_b d0_11 (by decide) (by decide) (own_i2b_fix _) (fun h2 T2 X2 A2 W2 => ?_)
  have A2 : own_I Z h2 b .byte 12 (own_u (fun _ => (0 : Int32)) (0) (own_i2b j)) := A2
  generalize eg2 : own_u (fun _ => (0 : Int32)) (0) (own_i2b j) = g2 at A2
  refine own_blk X2 B0_12_20 B0_12_20d (ls' := #[.val (.long x0), .second, .val (.int r), .val (.int j), .val (.int k), .val (.int mm), .val (.ref b), .unset]) (st' := [(.int (own_i2b (own_iushr j (8 : Int32)))), (.int (1 : Int32)), (.ref b)]) rfl ?_
  refine own_bast X2 A2 n_b d0_20 (by decide) (by decide) (own_i2b_fix _) (fun h3 T3 X3 A3 W3 => ?_)
  have A3 : own_I Z h3 b .byte 12 (own_u g2 (1) (own_i2b (own_iushr j (8 : Int32)))) := A3
  generalize eg3 : own_u g2 (1) (own_i2b (own_iushr j (8 : Int32))) = g3 at A3
  refine own_blk X3 B0_21_29 B0_21_29d (ls' := #[.val (.long x0), .second, .val (.int r), .val (.int j), .val (.int k), .val (.int mm), .val (.ref b), .unset]) (st' := [(.int (own_i2b (own_iushr j (16 : Int32)))), (.int (2 : Int32)), (.ref b)]) rfl ?_
  refine own_bast X3 A3 n_b d0_29 (by decide) (by decide) (own_i2b_fix _) (fun h4 T4 X4 A4 W4 => ?_)
  have A4 : own_I Z h4 b .byte 12 (own_u g3 (2) (own_i2b (own_iushr j (16 : Int32)))) := A4
  generalize eg4 : own_u g3 (2) (own_i2b (own_iushr j (16 : Int32))) = g4 at A4
  refine own_blk X4 B0_30_38 B0_30_38d (ls' := #[.val (.long x0), .second, .val (.int r), .val (.int j), .val (.int k), .val (.int mm), .val (.ref b), .unset]) (st' := [(.int (own_i2b (own_iushr j (24 : Int32)))), (.int (3 : Int32)), (.ref b)]) rfl ?_
  refine own_bast X4 A4 n_b d0_38 (by decide) (by decide) (own_i2b_fix _) (fun h5 T5 X5 A5 W5 => ?_)
  have A5 : own_I Z h5 b .byte 12 (own_u g4 (3) (own_i2b (own_iushr j (24 : Int32)))) := A5
  generalize eg5 : own_u g4 (3) (own_i2b (own_iushr j (24 : Int32))) = g5 at A5
  refine own_blk X5 B0_39_45 B0_39_45d (ls' := #[.val (.long x0), .second, .val (.int r), .val (.int j), .val (.int k), .val (.int mm), .val (.ref b), .unset]) (st' := [(.int (own_i2b k)), (.int (4 : Int32)), (.ref b)]) rfl ?_
  refine own_bast X5 A5 n_b d0_45 (by decide) (by decide) (own_i2b_fix _) (fun h6 T6 X6 A6 W6 => ?_)
  have A6 : own_I Z h6 b .byte 12 (own_u g5 (4) (own_i2b k)) := A6
  generalize eg6 : own_u g5 (4) (own_i2b k) = g6 at A6
  refine own_blk X6 B0_46_55 B0_46_55d (ls' := #[.val (.long x0), .second, .val (.int r), .val (.int j), .val (.int k), .val (.int mm), .val (.ref b), .unset]) (st' := [(.int (own_i2b (own_iushr k (8 : Int32)))), (.int (5 : Int32)), (.ref b)]) rfl ?_
  refine own_bast X6 A6 n_b d0_55 (by decide) (by decide) (own_i2b_fix _) (fun h7 T7 X7 A7 W7 => ?_)
  have A7 : own_I Z h7 b .byte 12 (own_u g6 (5) (own_i2b (own_iushr k (8 : Int32)))) := A7
  generalize eg7 : own_u g6 (5) (own_i2b (own_iushr k (8 : Int32))) = g7 at A7
  refine own_blk X7 B0_56_66 B0_56_66d (ls' := #[.val (.long x0), .second, .val (.int r), .val (.int j), .val (.int k), .val (.int mm), .val (.ref b), .unset]) (st' := [(.int (own_i2b (own_iushr k (16 : Int32)))), (.int (6 : Int32)), (.ref b)]) rfl ?_
  refine own_bast X7 A7 n_b d0_66 (by decide) (by decide) (own_i2b_fix _) (fun h8 T8 X8 A8 W8 => ?_)
  have A8 : own_I Z h8 b .byte 12 (own_u g7 (6) (own_i2b (own_iushr k (16 : Int32)))) := A8
  generalize eg8 : own_u g7 (6) (own_i2b (own_iushr k (16 : Int32))) = g8 at A8
  refine own_blk X8 B0_67_77 B0_67_77d (ls' := #[.val (.long x0), .second, .val (.int r), .val (.int j), .val (.int k), .val (.int mm), .val (.ref b), .unset]) (st' := [(.int (own_i2b (own_iushr k (24 : Int32)))), (.int (7 : Int32)), (.ref b)]) rfl ?_
  refine own_bast X8 A8 n_b d0_77 (by decide) (by decide) (own_i2b_fix _) (fun h9 T9 X9 A9 W9 => ?_)
  have A9 : own_I Z h9 b .byte 12 (own_u g8 (7) (own_i2b (own_iushr k (24 : Int32)))) := A9
  generalize eg9 : own_u g8 (7) (own_i2b (own_iushr k (24 : Int32))) = g9 at A9
  refine own_blk X9 B0_78_85 B0_78_85d (ls' := #[.val (.long x0), .second, .val (.int r), .val (.int j), .val (.int k), .val (.int mm), .val (.ref b), .unset]) (st' := [(.int (own_i2b mm)), (.int (8 : Int32)), (.ref b)]) rfl ?_
  refine own_bast X9 A9 n_b d0_85 (by decide) (by decide) (own_i2b_fix _) (fun h10 T10 X10 A10 W10 => ?_)
  have A10 : own_I Z h10 b .byte 12 (own_u g9 (8) (own_i2b mm)) := A10
  generalize eg10 : own_u g9 (8) (own_i2b mm) = g10 at A10
  refine own_blk X10 B0_86_96 B0_86_96d (ls' := #[.val (.long x0), .second, .val (.int r), .val (.int j), .val (.int k), .val (.int mm), .val (.ref b), .unset]) (st' := [(.int (own_i2b (own_iushr mm (8 : Int32)))), (.int (9 : Int32)), (.ref b)]) rfl ?_
  refine own_bast X10 A10 n_b d0_96 (by decide) (by decide) (own_i2b_fix _) (fun h11 T11 X11 A11 W11 => ?_)
  have A11 : own_I Z h11 b .byte 12 (own_u g10 (9) (own_i2b (own_iushr mm (8 : Int32)))) := A11
  generalize eg11 : own_u g10 (9) (own_i2b (own_iushr mm (8 : Int32))) = g11 at A11
  refine own_blk X11 B0_97_107 B0_97_107d (ls' := #[.val (.long x0), .second, .val (.int r), .val (.int j), .val (.int k), .val (.int mm), .val (.ref b), .unset]) (st' := [(.int (own_i2b (own_iushr mm (16 : Int32)))), (.int (10 : Int32)), (.ref b)]) rfl ?_
  refine own_bast X11 A11 n_b d0_107 (by decide) (by decide) (own_i2b_fix _) (fun h12 T12 X12 A12 W12 => ?_)
  have A12 : own_I Z h12 b .byte 12 (own_u g11 (10) (own_i2b (own_iushr mm (16 : Int32)))) := A12
  generalize eg12 : own_u g11 (10) (own_i2b (own_iushr mm (16 : Int32))) = g12 at A12
  refine own_blk X12 B0_108_118 B0_108_118d (ls' := #[.val (.long x0), .second, .val (.int r), .val (.int j), .val (.int k), .val (.int mm), .val (.ref b), .unset]) (st' := [(.int (own_i2b (own_iushr mm (24 : Int32)))), (.int (11 : Int32)), (.ref b)]) rfl ?_
  refine own_bast X12 A12 n_b d0_118 (by decide) (by decide) (own_i2b_fix _) (fun h13 T13 X13 A13 W13 => ?_)
  have A13 : own_I Z h13 b .byte 12 (own_u g12 (11) (own_i2b (own_iushr mm (24 : Int32)))) := A13
  generalize eg13 : own_u g12 (11) (own_i2b (own_iushr mm (24 : Int32))) = g13 at A13
  refine own_blk X13 B0_119_124 B0_119_124d (ls' := #[.val (.long x0), .second, .val (.int r), .val (.int j), .val (.int k), .val (.int mm), .val (.ref b), .val (.int (r &&& (3 : Int32)))]) (st' := []) rfl ?_
  generalize eq : (r &&& (3 : Int32)) = q
  have hq : 0 ≤ q.toInt ∧ q.toInt ≤ 3 := by rw [← eq, own_mask _ 3 2 (by decide) (by decide)]; omega
  have i1 : (q + (1 : Int32)).toInt = q.toInt + 1 := own_addc rfl (by omega) (by omega)
  have i2 : (q + (2 : Int32)).toInt = q.toInt + 2 := own_addc rfl (by omega) (by omega)
  have i3 : (q + (3 : Int32)).toInt = q.toInt + 3 := own_addc rfl (by omega) (by omega)
  have i4 : (q + (4 : Int32)).toInt = q.toInt + 4 := own_addc rfl (by omega) (by omega)
  have i5 : (q + (5 : Int32)).toInt = q.toInt + 5 := own_addc rfl (by omega) (by omega)
  have i6 : (q + (6 : Int32)).toInt = q.toInt + 6 := own_addc rfl (by omega) (by omega)
  have i7 : (q + (7 : Int32)).toInt = q.toInt + 7 := own_addc rfl (by omega) (by omega)
  refine own_blk X13 B0_124_131 B0_124_131d (ls' := #[.val (.long x0), .second, .val (.int r), .val (.int j), .val (.int k), .val (.int mm), .val (.ref b), .val (.int q)]) (st' := [(.int (own_i2b (x0.toInt32))), (.int q), (.ref b)]) rfl ?_
  refine own_bast X13 A13 n_b d0_131 (by omega) (by omega) (own_i2b_fix _) (fun h14 T14 X14 A14 W14 => ?_)
  have A14 : own_I Z h14 b .byte 12 (own_u g13 (q.toInt) (own_i2b (x0.toInt32))) := A14
  generalize eg14 : own_u g13 (q.toInt) (own_i2b (x0.toInt32)) = g14 at A14
  refine own_blk X14 B0_132_144 B0_132_144d (ls' := #[.val (.long x0), .second, .val (.int r), .val (.int j), .val (.int k), .val (.int mm), .val (.ref b), .val (.int q)]) (st' := [(.int (own_i2b ((own_lushr x0 (8 : Int32)).toInt32))), (.int (q + (1 : Int32))), (.ref b)]) rfl ?_
  refine own_bast X14 A14 n_b d0_144 (by omega) (by omega) (own_i2b_fix _) (fun h15 T15 X15 A15 W15 => ?_)
  have A15 : own_I Z h15 b .byte 12 (own_u g14 (q.toInt + 1) (own_i2b ((own_lushr x0 (8 : Int32)).toInt32))) := by rw [← i1]; exact A15
  generalize eg15 : own_u g14 (q.toInt + 1) (own_i2b ((own_lushr x0 (8 : Int32)).toInt32)) = g15 at A15
  refine own_blk X15 B0_145_157 B0_145_157d (ls' := #[.val (.long x0), .second, .val (.int r), .val (.int j), .val (.int k), .val (.int mm), .val (.ref b), .val (.int q)]) (st' := [(.int (own_i2b ((own_lushr x0 (16 : Int32)).toInt32))), (.int (q + (2 : Int32))), (.ref b)]) rfl ?_
  refine own_bast X15 A15 n_b d0_157 (by omega) (by omega) (own_i2b_fix _) (fun h16 T16 X16 A16 W16 => ?_)
  have A16 : own_I Z h16 b .byte 12 (own_u g15 (q.toInt + 2) (own_i2b ((own_lushr x0 (16 : Int32)).toInt32))) := by rw [← i2]; exact A16
  generalize eg16 : own_u g15 (q.toInt + 2) (own_i2b ((own_lushr x0 (16 : Int32)).toInt32)) = g16 at A16
  refine own_blk X16 B0_158_170 B0_158_170d (ls' := #[.val (.long x0), .second, .val (.int r), .val (.int j), .val (.int k), .val (.int mm), .val (.ref b), .val (.int q)]) (st' := [(.int (own_i2b ((own_lushr x0 (24 : Int32)).toInt32))), (.int (q + (3 : Int32))), (.ref b)]) rfl ?_
  refine own_bast X16 A16 n_b d0_170 (by omega) (by omega) (own_i2b_fix _) (fun h17 T17 X17 A17 W17 => ?_)
  have A17 : own_I Z h17 b .byte 12 (own_u g16 (q.toInt + 3) (own_i2b ((own_lushr x0 (24 : Int32)).toInt32))) := by rw [← i3]; exact A17
  generalize eg17 : own_u g16 (q.toInt + 3) (own_i2b ((own_lushr x0 (24 : Int32)).toInt32)) = g17 at A17
  refine own_blk X17 B0_171_183 B0_171_183d (ls' := #[.val (.long x0), .second, .val (.int r), .val (.int j), .val (.int k), .val (.int mm), .val (.ref b), .val (.int q)]) (st' := [(.int (own_i2b ((own_lushr x0 (32 : Int32)).toInt32))), (.int (q + (4 : Int32))), (.ref b)]) rfl ?_
  refine own_bast X17 A17 n_b d0_183 (by omega) (by omega) (own_i2b_fix _) (fun h18 T18 X18 A18 W18 => ?_)
  have A18 : own_I Z h18 b .byte 12 (own_u g17 (q.toInt + 4) (own_i2b ((own_lushr x0 (32 : Int32)).toInt32))) := by rw [← i4]; exact A18
  generalize eg18 : own_u g17 (q.toInt + 4) (own_i2b ((own_lushr x0 (32 : Int32)).toInt32)) = g18 at A18
  refine own_blk X18 B0_184_196 B0_184_196d (ls' := #[.val (.long x0), .second, .val (.int r), .val (.int j), .val (.int k), .val (.int mm), .val (.ref b), .val (.int q)]) (st' := [(.int (own_i2b ((own_lushr x0 (40 : Int32)).toInt32))), (.int (q + (5 : Int32))), (.ref b)]) rfl ?_
  refine own_bast X18 A18 n_b d0_196 (by omega) (by omega) (own_i2b_fix _) (fun h19 T19 X19 A19 W19 => ?_)
  have A19 : own_I Z h19 b .byte 12 (own_u g18 (q.toInt + 5) (own_i2b ((own_lushr x0 (40 : Int32)).toInt32))) := by rw [← i5]; exact A19
  generalize eg19 : own_u g18 (q.toInt + 5) (own_i2b ((own_lushr x0 (40 : Int32)).toInt32)) = g19 at A19
  refine own_blk X19 B0_197_210 B0_197_210d (ls' := #[.val (.long x0), .second, .val (.int r), .val (.int j), .val (.int k), .val (.int mm), .val (.ref b), .val (.int q)]) (st' := [(.int (own_i2b ((own_lushr x0 (48 : Int32)).toInt32))), (.int (q + (6 : Int32))), (.ref b)]) rfl ?_
  refine own_bast X19 A19 n_b d0_210 (by omega) (by omega) (own_i2b_fix _) (fun h20 T20 X20 A20 W20 => ?_)
  have A20 : own_I Z h20 b .byte 12 (own_u g19 (q.toInt + 6) (own_i2b ((own_lushr x0 (48 : Int32)).toInt32))) := by rw [← i6]; exact A20
  generalize eg20 : own_u g19 (q.toInt + 6) (own_i2b ((own_lushr x0 (48 : Int32)).toInt32)) = g20 at A20
  refine own_blk X20 B0_211_224 B0_211_224d (ls' := #[.val (.long x0), .second, .val (.int r), .val (.int j), .val (.int k), .val (.int mm), .val (.ref b), .val (.int q)]) (st' := [(.int (own_i2b ((own_lushr x0 (56 : Int32)).toInt32))), (.int (q + (7 : Int32))), (.ref b)]) rfl ?_
  refine own_bast X20 A20 n_b d0_224 (by omega) (by omega) (own_i2b_fix _) (fun h21 T21 X21 A21 W21 => ?_)
  have A21 : own_I Z h21 b .byte 12 (own_u g20 (q.toInt + 7) (own_i2b ((own_lushr x0 (56 : Int32)).toInt32))) := by rw [← i7]; exact A21
  generalize eg21 : own_u g20 (q.toInt + 7) (own_i2b ((own_lushr x0 (56 : Int32)).toInt32)) = g21 at A21
  refine own_blk X21 B0_225_229 B0_225_229d (ls' := #[.val (.long x0), .second, .val (.int r), .val (.int j), .val (.int k), .val (.int mm), .val (.ref b), .val (.int q)]) (st' := [(.int q), (.ref b)]) rfl ?_
  have e0 : g21 (q.toInt) = own_i2b (x0.toInt32) := by rw [← eg21, own_u_ne (by omega), ← eg20, own_u_ne (by omega), ← eg19, own_u_ne (by omega), ← eg18, own_u_ne (by omega), ← eg17, own_u_ne (by omega), ← eg16, own_u_ne (by omega), ← eg15, own_u_ne (by omega), ← eg14, own_u_eq (by omega)]
  have e1 : g21 (q.toInt + 1) = own_i2b ((own_lushr x0 (8 : Int32)).toInt32) := by rw [← eg21, own_u_ne (by omega), ← eg20, own_u_ne (by omega), ← eg19, own_u_ne (by omega), ← eg18, own_u_ne (by omega), ← eg17, own_u_ne (by omega), ← eg16, own_u_ne (by omega), ← eg15, own_u_eq (by omega)]
  have e2 : g21 (q.toInt + 2) = own_i2b ((own_lushr x0 (16 : Int32)).toInt32) := by rw [← eg21, own_u_ne (by omega), ← eg20, own_u_ne (by omega), ← eg19, own_u_ne (by omega), ← eg18, own_u_ne (by omega), ← eg17, own_u_ne (by omega), ← eg16, own_u_eq (by omega)]
  have e3 : g21 (q.toInt + 3) = own_i2b ((own_lushr x0 (24 : Int32)).toInt32) := by rw [← eg21, own_u_ne (by omega), ← eg20, own_u_ne (by omega), ← eg19, own_u_ne (by omega), ← eg18, own_u_ne (by omega), ← eg17, own_u_eq (by omega)]
  have e4 : g21 (q.toInt + 4) = own_i2b ((own_lushr x0 (32 : Int32)).toInt32) := by rw [← eg21, own_u_ne (by omega), ← eg20, own_u_ne (by omega), ← eg19, own_u_ne (by omega), ← eg18, own_u_eq (by omega)]
  have e5 : g21 (q.toInt + 5) = own_i2b ((own_lushr x0 (40 : Int32)).toInt32) := by rw [← eg21, own_u_ne (by omega), ← eg20, own_u_ne (by omega), ← eg19, own_u_eq (by omega)]
  have e6 : g21 (q.toInt + 6) = own_i2b ((own_lushr x0 (48 : Int32)).toInt32) := by rw [← eg21, own_u_ne (by omega), ← eg20, own_u_eq (by omega)]
  have e7 : g21 (q.toInt + 7) = own_i2b ((own_lushr x0 (56 : Int32)).toInt32) := by rw [← eg21, own_u_eq (by omega)]
  refine own_callP X21 (hw _ (List.mem_of_getElem? (i := 1) rfl)) (hw _ (List.mem_of_getElem? (i := 2) rfl)) (hw _ (List.mem_of_getElem? (i := 3) rfl)) (hw _ (List.mem_of_getElem? (i := 4) rfl)) (by decide) (c_word l Z a0 hw b q g21 h21 n0 X21.2.1 A21 hq) d0_229 [(.ref b), (.int q)] [] rfl rfl pd1 rfl rfl (by decide) (Nat.le_of_ble_eq_true rfl) (by decide) (by decide) (fun T22 X22 => ?_)
  show own_G p e below (T22.setTop (mkF m 232 #[.val (.long x0), .second, .val (.int r), .val (.int j), .val (.int k), .val (.int mm), .val (.ref b), .val (.int q)] [(.long (own_wd (g21 q.toInt) (g21 (q.toInt + 1)) (g21 (q.toInt + 2)) (g21 (q.toInt + 3)) (g21 (q.toInt + 4)) (g21 (q.toInt + 5)) (g21 (q.toInt + 6)) (g21 (q.toInt + 7))))])) _
  refine own_blk X22 B0_232_233 B0_232_233d (ls' := #[.val (.long x0), .second, .val (.int r), .val (.int j), .val (.int k), .val (.int mm), .val (.ref b), .val (.int q)]) (st' := [(.long x0), (.long (own_wd (g21 q.toInt) (g21 (q.toInt + 1)) (g21 (q.toInt + 2)) (g21 (q.toInt + 3)) (g21 (q.toInt + 4)) (g21 (q.toInt + 5)) (g21 (q.toInt + 6)) (g21 (q.toInt + 7))))]) rfl ?_
  refine own_lif X22 d0_233 d0_234 (pc' := 241) (by decide) (fun (c233 : ¬ (own_wd (g21 q.toInt) (g21 (q.toInt + 1)) (g21 (q.toInt + 2)) (g21 (q.toInt + 3)) (g21 (q.toInt + 4)) (g21 (q.toInt + 5)) (g21 (q.toInt + 6)) (g21 (q.toInt + 7))).toInt = x0.toInt) => by exfalso; exact c233 (by rw [e0, e1, e2, e3, e4, e5, e6, e7, own_wd_eq])) (fun c233 => ?_)
  have c233 : ¬ (¬ (own_wd (g21 q.toInt) (g21 (q.toInt + 1)) (g21 (q.toInt + 2)) (g21 (q.toInt + 3)) (g21 (q.toInt + 4)) (g21 (q.toInt + 5)) (g21 (q.toInt + 6)) (g21 (q.toInt + 7))).toInt = x0.toInt) := c233
  refine own_blk X22 B0_237_238 B0_237_238d (ls' := #[.val (.long x0), .second, .val (.int r), .val (.int j), .val (.int k), .val (.int mm), .val (.ref b), .val (.int q)]) (st' := [(.int (1 : Int32))]) rfl ?_
  refine own_goto X22 d0_238 (pc' := 242) (by decide) ?_
  exact own_retN X22 (by simp) d0_242 (v' := (1 : Int32)) (rfl) (by decide) (by decide) (rfl)
set_option maxRecDepth 65536 in
set_option maxHeartbeats 40000000 in
theorem comes_1 {Post : Tables → Env → Array Value → State → Outcome → State → Prop} (hpost : ∀ tb e args s v u, (limb_1_1.after args s (.returned v) u = true ∧ limb_1_2.after args s (.returned v) u = true ∧ True) → FrameEnd s (.returned v) u (Jvm.fieldLocs frame_1_writes args s ++ Jvm.arrayLocs frame_1_arrays args s ++ Jvm.staticLocs frame_1_statics s) 16 128 → Post tb e args s (.returned v) u) :
    ArmFor flags0 classFile x code maxLocals ret World_1 tables_1 room_1 Calls_1 rest_1 Pre_1 Post := by
  intro l hfl _ _ p e ha hc hk s m args below hf hA hF happ hP
  obtain ⟨hcalls, hrest, hpre⟩ := hP
  obtain ⟨-, -, -, hnamed, -, -, -, hat⟩ := (Spec.applies_iff hf).mp happ
  obtain ⟨hg, hn⟩ := and_e (Cond.before_iff.mp (show (Jvm.Cond.and given_1 narrow_1).before args s = true from hpre))
  obtain ⟨gc, g0⟩ := and_e hg
  obtain ⟨q0, g1⟩ := and_e g0
  obtain ⟨q1, g2⟩ := and_e g1
  obtain ⟨q2, g3⟩ := and_e g2
  obtain ⟨q3, g4⟩ := and_e g3
  obtain ⟨w0, w1, w2, w3, w4, rfl⟩ : ∃ w0 w1 w2 w3 w4 : Value, args = #[w0, w1, w2, w3, w4] := by
    have hs : args.size = 5 := by simpa [Cond.value, given_1] using gc
    obtain ⟨L⟩ := args
    match L, hs with
    | [w0, w1, w2, w3, w4], _ => exact ⟨w0, w1, w2, w3, w4, rfl⟩
  have hw := fun d (hd : d ∈ tables_1) => atoms_spec (ws := Jvm.Cond.code x code maxLocals ret :: tables_1) hat d (List.mem_cons_of_mem _ hd)
  obtain ⟨i0, ei0⟩ := isL_v q0
  obtain rfl : w0 = (.long i0) := Option.some.inj ei0
  obtain ⟨i1, ei1⟩ := is_v q1
  obtain rfl : w1 = (.int i1) := Option.some.inj ei1
  obtain ⟨i2, ei2⟩ := is_v q2
  obtain rfl : w2 = (.int i2) := Option.some.inj ei2
  obtain ⟨i3, ei3⟩ := is_v q3
  obtain rfl : w3 = (.int i3) := Option.some.inj ei3
  obtain ⟨i4, ei4⟩ := is_v g4
  obtain rfl : w4 = (.int i4) := Option.some.inj ei4
  obtain ⟨n, o, h1, h2, h3, _, L, rfl, ⟨N, rfl⟩, hq⟩ := c_law l s _ hw i0 i1 i2 i3 i4 s.heap s.heap.size (Nat.le_refl _) tables_1 p e ha hc hk s m _ below hf ((Spec.applies_iff_loose hf).mp happ).1 ⟨rfl, State.Warmed39.refl s, rfl⟩ trivial
  refine ⟨n, _, h1, h2, h3, hpost _ _ _ _ _ _ ⟨Cond.after_iff.mpr rfl, Cond.after_iff.mpr (eq_i res_at (Term.int_eval (1)) rfl), trivial⟩ ⟨hq.1, hq.2.1, (hq.2.2.sift fun y hy => Or.inr (N y hy)).mono (by decide) (by decide)⟩⟩
theorem main_1_1 : Claimed_1_1 := comes_1 fun _ _ _ _ _ _ h hF => ⟨h.1, hF⟩
theorem main_1_2 : Claimed_1_2 := comes_1 fun _ _ _ _ _ _ h hF => ⟨h.2.1, hF⟩
end Jvm.Pilot.@@N@@
namespace Jvm.Pilot.@@N@@
open Jvm Jvm.ClassFile Sem Op Lib Jvm.Free Jvm.Stand Jvm.Pilot.@@N@@.Jvm.D
/-! MADE BY PROGRAM (witnessworld.py) out of the Statement's table words and the real class files: 9 classes; the members and pool entries that the words name. The judged class is class 1, her method 1. -/
namespace start1
open Jvm.ClassFile
def u (s : String) : CpInfo := .utf8 (stringToUtf16 s)
/-- a pool by its gaps: so many unusable entries, then the entry; so many at the end -/
def gap : Nat → List CpInfo → List CpInfo
  | 0, r => r
  | n + 1, r => .unusable :: gap n r
def poolList (es : List (Nat × CpInfo)) (last : Nat) : List CpInfo := es.foldr (fun e r => gap e.1 (e.2 :: r)) (gap last [])
def pool (es : List (Nat × CpInfo)) (last : Nat) : Array CpInfo := ⟨poolList es last⟩
def fileOf (pool : Array CpInfo) (this : Nat) (attrs : Array Attribute := #[]) (ms : Array MethodInfo := #[]) (fl : Nat := 33) (sup : Nat := 0) (ifs : Array Nat := #[]) (fds : Array FieldInfo := #[]) : ClassFile where
  minorVersion := 0
  majorVersion := 65
  constantPool := pool
  accessFlags := fl
  thisClass := this
  superClass := sup
  interfaces := ifs
  fields := fds
  methods := ms
  attributes := attrs
def plain (name : String) (sup : Option ClassId) : Class where
  name := name
  kind := .ordinary
  loader := none
  accessFlags := 33
  super := sup
  interfaces := #[]
  cf := none
  fields := #[]
  methods := #[]
  instanceTypes := #[]
  staticTypes := #[]
  resolved := #[]
  callSites := []
  init := .initialized
  statics := none
  mirror := none

def pool0 : Array CpInfo := pool [(5, u "<init>"), (0, u "()V"), (1, .class_ 10), (1, u "java/lang/Object")] 113

def k0m0 : Method := { name := "<init>", desc := "()V", sig := { parameters := [], returnType := none }, accessFlags := 1, code := none }
/-- java/lang/Object -/
def k0 : Class := { plain "java/lang/Object" none with
  accessFlags := 33
  interfaces := #[]
  cf := some (fileOf pool0 8 #[] #[{ accessFlags := 1, nameIndex := 5, descriptorIndex := 6, attributes := #[] }] 33 0 #[] #[])
  fields := #[]
  methods := #[k0m0]
  instanceTypes := #[]
  staticTypes := #[]
  resolved := Array.replicate 124 none
  statics := none }

def pool1 : Array CpInfo := pool [(2, .class_ 4), (1, u "java/lang/Object"), (0, u "<init>"), (0, u "()V"), (0, .methodref 8 9), (0, .class_ 10), (0, .nameAndType 11 12), (0, u "com/example/cesta/cesta/Words"), (0, u "word"), (0, u "([BI)J"), (0, .class_ 14), (0, u "com/example/cesta/cesta/WordsWordPinLaw"), (2, u "law"), (0, u "(JIIII)Z")] 5

def k1m0 : Method := { name := "<init>", desc := "()V", sig := { parameters := [], returnType := none }, accessFlags := 2, code := none }
def k1c1 : Code := { maxStack := 5, maxLocals := 8, code := code, exceptionTable := #[], attributes := #[] }
def k1m1 : Method := { name := "law", desc := "(JIIII)Z", sig := { parameters := [.long, .int, .int, .int, .int], returnType := some .boolean }, accessFlags := 9, code := some k1c1 }
/-- com/example/cesta/cesta/WordsWordPinLaw -/
def k1 : Class := { plain "com/example/cesta/cesta/WordsWordPinLaw" (some 0) with
  accessFlags := 49
  interfaces := #[]
  cf := some (fileOf pool1 13 #[] #[{ accessFlags := 2, nameIndex := 5, descriptorIndex := 6, attributes := #[] }, { accessFlags := 9, nameIndex := 17, descriptorIndex := 18, attributes := #[] }] 49 2 #[] #[])
  fields := #[]
  methods := #[k1m0, k1m1]
  instanceTypes := #[]
  staticTypes := #[]
  resolved := Array.replicate 24 none
  statics := none }

def pool2 : Array CpInfo := pool [(2, .class_ 4), (1, u "java/lang/Object"), (0, u "<init>"), (0, u "()V"), (0, .long 255), (1, .class_ 10), (0, u "com/example/cesta/cesta/Words"), (2, u "word"), (0, u "([BI)J")] 2

def k2m0 : Method := { name := "<init>", desc := "()V", sig := { parameters := [], returnType := none }, accessFlags := 2, code := none }
def k2c1 : Code := { maxStack := 6, maxLocals := 2, code := prog_137_method_2_code, exceptionTable := #[], attributes := #[] }
def k2m1 : Method := { name := "word", desc := "([BI)J", sig := { parameters := [(.array .byte), .int], returnType := some .long }, accessFlags := 8, code := some k2c1 }
/-- com/example/cesta/cesta/Words -/
def k2 : Class := { plain "com/example/cesta/cesta/Words" (some 0) with
  accessFlags := 48
  interfaces := #[]
  cf := some (fileOf pool2 9 #[] #[{ accessFlags := 2, nameIndex := 5, descriptorIndex := 6, attributes := #[] }, { accessFlags := 8, nameIndex := 13, descriptorIndex := 14, attributes := #[] }] 48 2 #[] #[])
  fields := #[]
  methods := #[k2m0, k2m1]
  instanceTypes := #[]
  staticTypes := #[]
  resolved := Array.replicate 17 none
  statics := none }

def pool3 : Array CpInfo := pool [(1, u "java/lang/Cloneable"), (0, .class_ 1), (0, u "java/lang/Object"), (0, .class_ 3)] 3

/-- java/lang/Cloneable -/
def k3 : Class := { plain "java/lang/Cloneable" (some 0) with
  accessFlags := 1537
  interfaces := #[]
  cf := some (fileOf pool3 2 #[] #[] 1537 4 #[] #[])
  fields := #[]
  methods := #[]
  instanceTypes := #[]
  staticTypes := #[]
  resolved := Array.replicate 8 none
  statics := none }

def pool4 : Array CpInfo := pool [(1, u "java/io/Serializable"), (0, .class_ 1), (0, u "java/lang/Object"), (0, .class_ 3)] 3

/-- java/io/Serializable -/
def k4 : Class := { plain "java/io/Serializable" (some 0) with
  accessFlags := 1537
  interfaces := #[]
  cf := some (fileOf pool4 2 #[] #[] 1537 4 #[] #[])
  fields := #[]
  methods := #[]
  instanceTypes := #[]
  staticTypes := #[]
  resolved := Array.replicate 8 none
  statics := none }

/-- the primitive byte -/
def k5 : Class := { plain "byte" none with kind := .primitive 'B', accessFlags := 0x411 }
/-- [B -/
def k6 : Class := { plain "[B" (some 0) with kind := .array 5 .byte, interfaces := #[3, 4], accessFlags := 1041 }

/-- the primitive int -/
def k7 : Class := { plain "int" none with kind := .primitive 'I', accessFlags := 0x411 }
/-- [I -/
def k8 : Class := { plain "[I" (some 0) with kind := .array 7 .int, interfaces := #[3, 4], accessFlags := 1041 }

def heap : Heap := #[]
def classes : Array Class := #[k0, k1, k2, k3, k4, k5, k6, k7, k8]
def interned : List (Array UInt16 × Addr) := []
def slotsUsed : Nat := 0
def theMethod : MethodId := ⟨1, 1⟩
def args0 : Array Value := #[.long 5, .int 6, .int 7, .int 8, .int 9]
def aboutOver (below : List Frame) : State where
  vm := { classes := classes, interned := interned.toArray }
  heap := heap
  slotsUsed := slotsUsed
  threads := #[{ frames := .invoking theMethod args0 :: below }]
def below0 : List Frame := [.native { method := ⟨0, 0⟩, args := #[] }]
def about1 : State := aboutOver below0
def p0 : Program := .bare "" "" ""
def e0 : Env := launch0.env 0 0 0
theorem w_frames : about1.frames = Frame.invoking theMethod args0 :: below0 := rfl
set_option maxRecDepth 65536 in
theorem w_args : argsFit about1.vm theMethod args0 = true := by decide +kernel
set_option maxRecDepth 65536 in
theorem w_heap : heapFits about1 = true := by decide +kernel
set_option maxRecDepth 65536 in
theorem w_runnable : about1.curStatus? = some .runnable := by decide +kernel
set_option maxRecDepth 65536 in
theorem w_alone : about1.alone = true := by decide +kernel
set_option maxRecDepth 65536 in
theorem w_named : about1.methodNamed? x = some theMethod := by decide +kernel
set_option maxRecDepth 65536 in
theorem w_hears : about1.hears theMethod below0 = true := by decide +kernel
set_option maxRecDepth 65536 in
theorem w_ripe : about1.ripe theMethod args0 below0 = true := by decide +kernel
theorem w_running : about1.status = .running := rfl
set_option maxRecDepth 65536 in
theorem w_room : about1.hasRoom e0.platform room_1 = true :=
  launch0.hasRoom_least _ room_1 (by decide +kernel) (by decide +kernel) (by decide +kernel) (by decide +kernel) (by decide +kernel) (by decide +kernel)
theorem allAtoms_all (ts : List Jvm.Cond) (a : Array Jvm.Value) (st : Jvm.State) : (allAtoms ts).before a st = ts.all (fun c => c.before a st) := by
  induction ts with
  | nil => rfl
  | cons c t ih =>
    show (Jvm.Cond.and c (allAtoms t)).before a st = _
    rw [Jvm.Cond.before_and, ih, List.all_cons]
def words1 : List Jvm.Cond := Jvm.Cond.code x code maxLocals ret :: tables_1
/-- a 'code' word, met by the world's own term for the bytes: nothing is compared byte by byte -/
theorem code_word {y : MethodName} {bytes : ByteArray} {mx : Nat} {rt : Option FieldType} {a : Array Value} {s : State} {m : MethodId} {meth : Method} {c : Code} (h1 : s.methodNamed? y = some m) (h2 : s.vm.method? m = some meth) (h3 : meth.code = some c) (h4 : c.code = bytes)
    (h5 : (c.maxLocals == mx && c.exceptionTable.isEmpty && decide (c.maxStack ≤ mostOperands) && decide (meth.sig.returnType = rt) && !meth.locks && decide (parseMethodDescriptor y.desc = some meth.sig)) = true) : (Jvm.Cond.code y bytes mx rt).before a s = true := by
  simp only [Bool.and_eq_true, beq_iff_eq, Bool.not_eq_true', decide_eq_true_eq] at h5
  obtain ⟨⟨⟨⟨⟨g1, g2⟩, g3⟩, g4⟩, g5⟩, g6⟩ := h5
  simp [Cond.before, Cond.holds, Cond.value, h1, h2, h3, h4, g1, g2, g3, g4, g5, g6]
def isCode : Jvm.Cond → Bool
  | .code _ _ _ _ => true
  | _ => false
theorem all_split {L : List Jvm.Cond} {P : Jvm.Cond → Bool} (h1 : L.all (fun c => isCode c || P c) = true) (h2 : ∀ c ∈ L.filter isCode, P c = true) : L.all P = true := by
  refine List.all_eq_true.mpr fun c hc => ?_
  have h := List.all_eq_true.mp h1 c hc
  rcases Bool.eq_false_or_eq_true (isCode c) with hi | hi
  · exact h2 c (List.mem_filter.mpr ⟨hc, hi⟩)
  · simpa [hi] using h
set_option maxRecDepth 65536 in
theorem w_c0 : (Jvm.Cond.code x code maxLocals ret).before args0 about1 = true := code_word (m := ⟨1, 1⟩) (meth := k1m1) (c := k1c1) (by decide +kernel) rfl rfl rfl (by decide +kernel)
set_option maxRecDepth 65536 in
theorem w_c1 : (Jvm.Cond.code ({ cls := "com/example/cesta/cesta/Words", name := "word", desc := "([BI)J" } : Jvm.MethodName) prog_137_method_2_code (2 : Nat) (Option.some Jvm.ClassFile.FieldType.long)).before args0 about1 = true := code_word (m := ⟨2, 1⟩) (meth := k2m1) (c := k2c1) (by decide +kernel) rfl rfl rfl (by decide +kernel)
def codes1 : List Jvm.Cond := [Jvm.Cond.code x code maxLocals ret, Jvm.Cond.code ({ cls := "com/example/cesta/cesta/Words", name := "word", desc := "([BI)J" } : Jvm.MethodName) prog_137_method_2_code (2 : Nat) (Option.some Jvm.ClassFile.FieldType.long)]
set_option maxRecDepth 65536 in
theorem codes_eq : words1.filter isCode = codes1 := rfl
theorem w_codes : ∀ c ∈ words1.filter isCode, c.before args0 about1 = true := by
  rw [codes_eq]
  intro c hc
  simp only [codes1, List.mem_cons, List.not_mem_nil, or_false] at hc
  rcases hc with rfl | rfl
  · exact w_c0
  · exact w_c1
set_option maxRecDepth 65536 in
theorem w_t1 : words1.all (fun c => isCode c || c.before args0 about1) = true := by decide +kernel
theorem w_tables : (allAtoms (Jvm.Cond.code x code maxLocals ret :: tables_1)).before args0 about1 = true := by
  rw [allAtoms_all]
  show words1.all (fun c => c.before args0 about1) = true
  refine all_split ?_ w_codes
  rw [w_t1]
set_option maxRecDepth 65536 in
theorem w_case : (Jvm.Cond.and given_1 narrow_1).before args0 about1 = true := by decide +kernel
theorem w_applies : (headSpec (Jvm.Cond.code x code maxLocals ret :: tables_1) room_1).applies x e0.platform about1 = true :=
  (Spec.applies_iff w_frames).mpr ⟨w_running, w_runnable, w_alone, w_named, w_hears, w_ripe, w_room, w_tables⟩
theorem atStart : AtStart classFile x code maxLocals ret World_1 tables_1 room_1 Calls_1 rest_1 Pre_1 launch0 p0 e0 about1 theMethod args0 below0 :=
  ⟨lists_1, trivial, launch0.admits_env _ _ _, launch0.least_env, fairChoices_fair.cas, fairChoices_fair.clock, w_frames, w_args, w_heap, w_applies, trivial, trivial, w_case⟩
end start1
theorem witness_1 : WitnessClaimed_1 := ⟨start1.p0, start1.e0, start1.about1, start1.theMethod, start1.args0, start1.below0, start1.atStart⟩
end Jvm.Pilot.@@N@@
