import JvmDerived
import JvmDerived.Pilot.@@N@@Statement
import JvmDerived.Pilot.@@N@@Code
set_option linter.unusedVariables false
set_option linter.unusedSimpArgs false
@@BLOCK:NumsL.lean.txt@@
namespace Jvm.Pilot.@@N@@
open Jvm Jvm.ClassFile Sem Op Lib Jvm.Free Jvm.Stand Jvm.LawKit Jvm.RoadKit Bundle Jvm.Pilot.@@N@@.Jvm.D
/-! ### own layer 1: plain steps by evaluation over a list of decoded instructions -/
def own_iushr (x y : Int32) : Int32 := (x.toUInt32 >>> (y &&& 31).toUInt32).toInt32
def own_ishl (x y : Int32) : Int32 := x <<< (y &&& 31)
def own_ishr (x y : Int32) : Int32 := x >>> (y &&& 31)
def own_irem (x y : Int32) : Int32 := x - (x / y) * y
def own_lrem (x y : Int64) : Int64 := x - (x / y) * y
def own_lushr (x : Int64) (y : Int32) : Int64 := (x.toUInt64 >>> (y &&& 0x3f).toInt64.toUInt64).toInt64
def own_lshl (x : Int64) (y : Int32) : Int64 := x <<< (y &&& 0x3f).toInt64
def own_lshr (x : Int64) (y : Int32) : Int64 := x >>> (y &&& 0x3f).toInt64
def own_i2b (x : Int32) : Int32 := x.toInt8.toInt32

abbrev own_R : Type := Option (Array Slot × List Value)
def own_i2 (f : Int32 → Int32 → Int32) (ls : Array Slot) : List Value → own_R
  | .int y :: .int x :: r => some (ls, .int (f x y) :: r)
  | _ => none
def own_i1 (f : Int32 → Value) (ls : Array Slot) : List Value → own_R
  | .int x :: r => some (ls, f x :: r)
  | _ => none
def own_l2 (f : Int64 → Int64 → Int64) (ls : Array Slot) : List Value → own_R
  | .long y :: .long x :: r => some (ls, .long (f x y) :: r)
  | _ => none
def own_lS (f : Int64 → Int32 → Int64) (ls : Array Slot) : List Value → own_R
  | .int y :: .long x :: r => some (ls, .long (f x y) :: r)
  | _ => none
def own_l1 (f : Int64 → Value) (ls : Array Slot) : List Value → own_R
  | .long x :: r => some (ls, f x :: r)
  | _ => none
def own_li (ls : Array Slot) (k : Nat) (st : List Value) : own_R :=
  match ls[k]? with
  | some (.val (.int v)) => some (ls, .int v :: st)
  | _ => none
def own_ll (ls : Array Slot) (k : Nat) (st : List Value) : own_R :=
  match ls[k]? with
  | some (.val (.long v)) => some (ls, .long v :: st)
  | _ => none
def own_la (ls : Array Slot) (k : Nat) (st : List Value) : own_R :=
  match ls[k]? with
  | some (.val (.ref v)) => some (ls, .ref v :: st)
  | some (.val .null) => some (ls, .null :: st)
  | _ => none
def own_sv (ls : Array Slot) (k : Nat) (v : Value) (r : List Value) : own_R :=
  match storeLocals ls k v with
  | some l' => some (l', r)
  | none => none
def own_si (ls : Array Slot) (k : Nat) : List Value → own_R
  | .int x :: r => own_sv ls k (.int x) r
  | _ => none
def own_sl (ls : Array Slot) (k : Nat) : List Value → own_R
  | .long x :: r => own_sv ls k (.long x) r
  | _ => none
def own_sa (ls : Array Slot) (k : Nat) : List Value → own_R
  | .ref x :: r => own_sv ls k (.ref x) r
  | .null :: r => own_sv ls k .null r
  | _ => none
def own_inc (ls : Array Slot) (k : Nat) (d : Int) (st : List Value) : own_R :=
  match ls[k]? with
  | some (.val (.int v)) => own_sv ls k (.int (v + Int32.ofInt d)) st
  | _ => none
def own_dup (ls : Array Slot) : List Value → own_R
  | .int x :: r => some (ls, .int x :: .int x :: r)
  | .ref x :: r => some (ls, .ref x :: .ref x :: r)
  | _ => none
def own_dupX (ls : Array Slot) : List Value → own_R
  | .int x :: .ref y :: r => some (ls, .int x :: .ref y :: .int x :: r)
  | _ => none
def own_pop (ls : Array Slot) : List Value → own_R
  | .int _ :: r => some (ls, r)
  | .ref _ :: r => some (ls, r)
  | _ => none

def own_p (i : Instr) (n : Nat) (ls : Array Slot) (st : List Value) : own_R :=
  match i, n with
  | .iconst k, 1 => some (ls, .int (Int32.ofInt k) :: st)
  | .bipush k, 2 => some (ls, .int (Int8.ofInt k).toInt32 :: st)
  | .sipush k, 3 => some (ls, .int (Int16.ofInt k).toInt32 :: st)
  | .lconst k, 1 => some (ls, .long (Int64.ofNat k) :: st)
  | .aconst_null, 1 => some (ls, .null :: st)
  | .iload_n k, 1 => own_li ls k.val st
  | .iload k, 2 => own_li ls k st
  | .lload_n k, 1 => own_ll ls k.val st
  | .lload k, 2 => own_ll ls k st
  | .aload_n k, 1 => own_la ls k.val st
  | .aload k, 2 => own_la ls k st
  | .istore_n k, 1 => own_si ls k.val st
  | .istore k, 2 => own_si ls k st
  | .lstore_n k, 1 => own_sl ls k.val st
  | .lstore k, 2 => own_sl ls k st
  | .astore_n k, 1 => own_sa ls k.val st
  | .astore k, 2 => own_sa ls k st
  | .iinc k d, 3 => own_inc ls k d st
  | .iadd, 1 => own_i2 (· + ·) ls st
  | .isub, 1 => own_i2 (· - ·) ls st
  | .imul, 1 => own_i2 (· * ·) ls st
  | .iand, 1 => own_i2 (· &&& ·) ls st
  | .ior, 1 => own_i2 (· ||| ·) ls st
  | .ixor, 1 => own_i2 (· ^^^ ·) ls st
  | .ishl, 1 => own_i2 own_ishl ls st
  | .ishr, 1 => own_i2 own_ishr ls st
  | .iushr, 1 => own_i2 own_iushr ls st
  | .ladd, 1 => own_l2 (· + ·) ls st
  | .lsub, 1 => own_l2 (· - ·) ls st
  | .lmul, 1 => own_l2 (· * ·) ls st
  | .land, 1 => own_l2 (· &&& ·) ls st
  | .lor, 1 => own_l2 (· ||| ·) ls st
  | .lxor, 1 => own_l2 (· ^^^ ·) ls st
  | .lshl, 1 => own_lS own_lshl ls st
  | .lshr, 1 => own_lS own_lshr ls st
  | .lushr, 1 => own_lS own_lushr ls st
  | .i2b, 1 => own_i1 (fun x => .int (own_i2b x)) ls st
  | .i2l, 1 => own_i1 (fun x => .long x.toInt64) ls st
  | .l2i, 1 => own_l1 (fun x => .int x.toInt32) ls st
  | .dup, 1 => own_dup ls st
  | .dup_x1, 1 => own_dupX ls st
  | .pop, 1 => own_pop ls st
  | _, _ => none

section Inv
variable {ls ls' : Array Slot} {st st' : List Value}
theorem own_i2_inv {f : Int32 → Int32 → Int32} (h : own_i2 f ls st = some (ls', st')) : ∃ x y r, st = .int y :: .int x :: r ∧ ls' = ls ∧ st' = .int (f x y) :: r := by
  unfold own_i2 at h; split at h
  · cases h; exact ⟨_, _, _, rfl, rfl, rfl⟩
  · cases h
theorem own_i1_inv {f : Int32 → Value} (h : own_i1 f ls st = some (ls', st')) : ∃ x r, st = .int x :: r ∧ ls' = ls ∧ st' = f x :: r := by
  unfold own_i1 at h; split at h
  · cases h; exact ⟨_, _, rfl, rfl, rfl⟩
  · cases h
theorem own_l2_inv {f : Int64 → Int64 → Int64} (h : own_l2 f ls st = some (ls', st')) : ∃ x y r, st = .long y :: .long x :: r ∧ ls' = ls ∧ st' = .long (f x y) :: r := by
  unfold own_l2 at h; split at h
  · cases h; exact ⟨_, _, _, rfl, rfl, rfl⟩
  · cases h
theorem own_lS_inv {f : Int64 → Int32 → Int64} (h : own_lS f ls st = some (ls', st')) : ∃ x y r, st = .int y :: .long x :: r ∧ ls' = ls ∧ st' = .long (f x y) :: r := by
  unfold own_lS at h; split at h
  · cases h; exact ⟨_, _, _, rfl, rfl, rfl⟩
  · cases h
theorem own_l1_inv {f : Int64 → Value} (h : own_l1 f ls st = some (ls', st')) : ∃ x r, st = .long x :: r ∧ ls' = ls ∧ st' = f x :: r := by
  unfold own_l1 at h; split at h
  · cases h; exact ⟨_, _, rfl, rfl, rfl⟩
  · cases h
theorem own_li_inv {k : Nat} (h : own_li ls k st = some (ls', st')) : ∃ v, ls[k]? = some (.val (.int v)) ∧ ls' = ls ∧ st' = .int v :: st := by
  unfold own_li at h; split at h
  · rename_i q; cases h; exact ⟨_, q, rfl, rfl⟩
  · cases h
theorem own_ll_inv {k : Nat} (h : own_ll ls k st = some (ls', st')) : ∃ v, ls[k]? = some (.val (.long v)) ∧ ls' = ls ∧ st' = .long v :: st := by
  unfold own_ll at h; split at h
  · rename_i q; cases h; exact ⟨_, q, rfl, rfl⟩
  · cases h
theorem own_la_inv {k : Nat} (h : own_la ls k st = some (ls', st')) : ∃ v : Value, v.isRef = true ∧ ls[k]? = some (.val v) ∧ ls' = ls ∧ st' = v :: st := by
  unfold own_la at h; split at h
  · rename_i q; cases h; exact ⟨_, rfl, q, rfl, rfl⟩
  · rename_i q; cases h; exact ⟨_, rfl, q, rfl, rfl⟩
  · cases h
theorem own_sv_inv {k : Nat} {v : Value} {r : List Value} (h : own_sv ls k v r = some (ls', st')) : storeLocals ls k v = some ls' ∧ st' = r := by
  unfold own_sv at h; split at h
  · rename_i q; cases h; exact ⟨q, rfl⟩
  · cases h
theorem own_si_inv {k : Nat} (h : own_si ls k st = some (ls', st')) : ∃ x, st = .int x :: st' ∧ storeLocals ls k (.int x) = some ls' := by
  unfold own_si at h; split at h
  · obtain ⟨h1, h2⟩ := own_sv_inv h; subst h2; exact ⟨_, rfl, h1⟩
  · cases h
theorem own_sl_inv {k : Nat} (h : own_sl ls k st = some (ls', st')) : ∃ x, st = .long x :: st' ∧ storeLocals ls k (.long x) = some ls' := by
  unfold own_sl at h; split at h
  · obtain ⟨h1, h2⟩ := own_sv_inv h; subst h2; exact ⟨_, rfl, h1⟩
  · cases h
theorem own_sa_inv {k : Nat} (h : own_sa ls k st = some (ls', st')) : ∃ x : Value, x.isRef = true ∧ st = x :: st' ∧ storeLocals ls k x = some ls' := by
  unfold own_sa at h; split at h
  · obtain ⟨h1, h2⟩ := own_sv_inv h; subst h2; exact ⟨_, rfl, rfl, h1⟩
  · obtain ⟨h1, h2⟩ := own_sv_inv h; subst h2; exact ⟨_, rfl, rfl, h1⟩
  · cases h
theorem own_inc_inv {k : Nat} {d : Int} (h : own_inc ls k d st = some (ls', st')) : ∃ x, ls[k]? = some (.val (.int x)) ∧ storeLocals ls k (.int (x + Int32.ofInt d)) = some ls' ∧ st' = st := by
  unfold own_inc at h; split at h
  · rename_i q; obtain ⟨h1, h2⟩ := own_sv_inv h; exact ⟨_, q, h1, h2⟩
  · cases h
theorem own_dup_inv (h : own_dup ls st = some (ls', st')) : ∃ (x : Value) (r : List Value), st = x :: r ∧ x.category = 1 ∧ ls' = ls ∧ st' = x :: x :: r := by
  unfold own_dup at h; split at h
  · cases h; exact ⟨_, _, rfl, rfl, rfl, rfl⟩
  · cases h; exact ⟨_, _, rfl, rfl, rfl, rfl⟩
  · cases h
theorem own_dupX_inv (h : own_dupX ls st = some (ls', st')) : ∃ (x y : Value) (r : List Value), st = x :: y :: r ∧ x.category = 1 ∧ y.category = 1 ∧ ls' = ls ∧ st' = x :: y :: x :: r := by
  unfold own_dupX at h; split at h
  · cases h; exact ⟨_, _, _, rfl, rfl, rfl, rfl, rfl⟩
  · cases h
theorem own_pop_inv (h : own_pop ls st = some (ls', st')) : ∃ (x : Value), st = x :: st' ∧ x.category = 1 ∧ ls' = ls := by
  unfold own_pop at h; split at h
  · cases h; exact ⟨_, rfl, rfl, rfl⟩
  · cases h; exact ⟨_, rfl, rfl, rfl⟩
  · cases h
end Inv

set_option maxHeartbeats 4000000 in
theorem own_p_ok {tb : Tables} [Ours tb] {e : Env} {below : List Frame} {T t : State} {m : MethodId} {c : Code} (h : At T m c below) (hx : tb.exec = Jvm.exec) {i : Instr} {n pc : Nat} {ls ls' : Array Slot} {st st' : List Value}
    (hd : decode c.code pc = .ok (i, n)) (hp : own_p i n ls st = some (ls', st')) (hr : Steps tb e below (T.setTop (mkF m (pc + n) ls' st')) t) : Steps tb e below (T.setTop (mkF m pc ls st)) t := by
  unfold own_p at hp
  split at hp
  · cases hp; exact XS.iconst h hx rfl hd hr
  · cases hp; exact XS.bipush h hx rfl hd hr
  · cases hp; exact XS.sipush h hx rfl hd hr
  · cases hp; exact XS.lconst h hx rfl hd hr
  · cases hp; exact XS.aconstNull h hx rfl hd hr
  · obtain ⟨v, q, rfl, rfl⟩ := own_li_inv hp; exact XS.iloadN h hx rfl hd q hr
  · obtain ⟨v, q, rfl, rfl⟩ := own_li_inv hp; exact XS.iload h hx rfl hd q hr
  · obtain ⟨v, q, rfl, rfl⟩ := own_ll_inv hp; exact XS.lloadN h hx rfl hd q hr
  · obtain ⟨v, q, rfl, rfl⟩ := own_ll_inv hp; exact XS.lload h hx rfl hd q hr
  · obtain ⟨v, q0, q, rfl, rfl⟩ := own_la_inv hp; exact XS.aloadN h hx rfl hd q q0 hr
  · obtain ⟨v, q0, q, rfl, rfl⟩ := own_la_inv hp; exact XS.aload h hx rfl hd q q0 hr
  · obtain ⟨x, rfl, q⟩ := own_si_inv hp; exact XS.istoreN h hx rfl hd rfl q hr
  · obtain ⟨x, rfl, q⟩ := own_si_inv hp; exact XS.istore h hx rfl hd rfl q hr
  · obtain ⟨x, rfl, q⟩ := own_sl_inv hp; exact XS.lstoreN h hx rfl hd rfl q hr
  · obtain ⟨x, rfl, q⟩ := own_sl_inv hp; exact XS.lstore h hx rfl hd rfl q hr
  · obtain ⟨x, q0, rfl, q⟩ := own_sa_inv hp; exact XS.astoreN h hx rfl hd rfl q0 q hr
  · obtain ⟨x, q0, rfl, q⟩ := own_sa_inv hp; exact XS.astore h hx rfl hd rfl q0 q hr
  · obtain ⟨x, q1, q2, rfl⟩ := own_inc_inv hp; exact XS.iinc h hx rfl hd q1 q2 hr
  · obtain ⟨x, y, r, rfl, rfl, rfl⟩ := own_i2_inv hp; exact XS.iadd h hx rfl hd rfl hr
  · obtain ⟨x, y, r, rfl, rfl, rfl⟩ := own_i2_inv hp; exact XS.isub h hx rfl hd rfl hr
  · obtain ⟨x, y, r, rfl, rfl, rfl⟩ := own_i2_inv hp; exact XS.imul h hx rfl hd rfl hr
  · obtain ⟨x, y, r, rfl, rfl, rfl⟩ := own_i2_inv hp; exact XS.iand h hx rfl hd rfl hr
  · obtain ⟨x, y, r, rfl, rfl, rfl⟩ := own_i2_inv hp; exact XS.ior h hx rfl hd rfl hr
  · obtain ⟨x, y, r, rfl, rfl, rfl⟩ := own_i2_inv hp; exact XS.ixor h hx rfl hd rfl hr
  · obtain ⟨x, y, r, rfl, rfl, rfl⟩ := own_i2_inv hp; exact XS.ishl h hx rfl hd rfl hr
  · obtain ⟨x, y, r, rfl, rfl, rfl⟩ := own_i2_inv hp; exact XS.ishr h hx rfl hd rfl hr
  · obtain ⟨x, y, r, rfl, rfl, rfl⟩ := own_i2_inv hp; exact XS.iushr h hx rfl hd rfl hr
  · obtain ⟨x, y, r, rfl, rfl, rfl⟩ := own_l2_inv hp; exact XS.ladd h hx rfl hd rfl hr
  · obtain ⟨x, y, r, rfl, rfl, rfl⟩ := own_l2_inv hp; exact XS.lsub h hx rfl hd rfl hr
  · obtain ⟨x, y, r, rfl, rfl, rfl⟩ := own_l2_inv hp; exact XS.lmul h hx rfl hd rfl hr
  · obtain ⟨x, y, r, rfl, rfl, rfl⟩ := own_l2_inv hp; exact XS.land h hx rfl hd rfl hr
  · obtain ⟨x, y, r, rfl, rfl, rfl⟩ := own_l2_inv hp; exact XS.lor h hx rfl hd rfl hr
  · obtain ⟨x, y, r, rfl, rfl, rfl⟩ := own_l2_inv hp; exact XS.lxor h hx rfl hd rfl hr
  · obtain ⟨x, y, r, rfl, rfl, rfl⟩ := own_lS_inv hp; exact XS.lshl h hx rfl hd rfl hr
  · obtain ⟨x, y, r, rfl, rfl, rfl⟩ := own_lS_inv hp; exact XS.lshr h hx rfl hd rfl hr
  · obtain ⟨x, y, r, rfl, rfl, rfl⟩ := own_lS_inv hp; exact XS.lushr h hx rfl hd rfl hr
  · obtain ⟨x, r, rfl, rfl, rfl⟩ := own_i1_inv hp; exact XS.i2b h hx rfl hd rfl hr
  · obtain ⟨x, r, rfl, rfl, rfl⟩ := own_i1_inv hp; exact XS.i2l h hx rfl hd rfl hr
  · obtain ⟨x, r, rfl, rfl, rfl⟩ := own_l1_inv hp; exact XS.l2i h hx rfl hd rfl hr
  · obtain ⟨x, r, rfl, q, rfl, rfl⟩ := own_dup_inv hp; exact XS.dup h hx rfl hd rfl q hr
  · obtain ⟨x, y, r, rfl, q1, q2, rfl, rfl⟩ := own_dupX_inv hp; exact XS.dupX1 h hx rfl hd rfl q1 q2 hr
  · obtain ⟨x, rfl, q, rfl⟩ := own_pop_inv hp; exact XS.pop h hx rfl hd rfl q hr
  · cases hp

/-- the list lies in the code from pc on, up to pc' -/
def own_d (code : ByteArray) : Nat → List (Instr × Nat) → Nat → Bool
  | pc, [], pc' => pc == pc'
  | pc, (i, n) :: L, pc' => decide (decode code pc = .ok (i, n)) && own_d code (pc + n) L pc'
def own_x : List (Instr × Nat) → Array Slot → List Value → own_R
  | [], ls, st => some (ls, st)
  | (i, n) :: L, ls, st => match own_p i n ls st with
    | some (ls', st') => own_x L ls' st'
    | none => none
theorem own_x_ok {tb : Tables} [Ours tb] {e : Env} {below : List Frame} {T t : State} {m : MethodId} {c : Code} (h : At T m c below) (hx : tb.exec = Jvm.exec) : ∀ (L : List (Instr × Nat)) {pc pc' : Nat} {ls ls' : Array Slot} {st st' : List Value},
    own_d c.code pc L pc' = true → own_x L ls st = some (ls', st') → Steps tb e below (T.setTop (mkF m pc' ls' st')) t → Steps tb e below (T.setTop (mkF m pc ls st)) t
  | [], pc, pc', ls, ls', st, st', hd, hr, k => by
    have e1 : pc = pc' := by simpa [own_d] using hd
    subst e1
    cases hr
    exact k
  | (i, n) :: L, pc, pc', ls, ls', st, st', hd, hr, k => by
    simp only [own_d, Bool.and_eq_true, decide_eq_true_eq] at hd
    simp only [own_x] at hr
    cases hq : own_p i n ls st with
    | none => rw [hq] at hr; cases hr
    | some q =>
      obtain ⟨l1, s1⟩ := q
      rw [hq] at hr
      exact own_p_ok h hx hd.1 hq (own_x_ok h hx L hd.2 hr k)

/-! ### own layer 2: where a walk stands, and that it comes to its end -/
def own_G (p : Program) (e : Env) (below : List Frame) (A : State) (Q : Outcome → State → Prop) : Prop :=
  ∃ s₂ o, Steps p.tables e below A s₂ ∧ s₂.status = .running ∧ Ended s₂ below o ∧ Q o s₂
theorem own_st {p : Program} {e : Env} {below : List Frame} {A A' : State} {Q : Outcome → State → Prop} (st : ∀ t, Steps p.tables e below A' t → Steps p.tables e below A t) (g : own_G p e below A' Q) : own_G p e below A Q := by
  obtain ⟨s2, o, h1, h2⟩ := g
  exact ⟨s2, o, st _ h1, h2⟩
def own_E (s : State) (n0 : Nat) (P : Option Value → Heap → Prop) (C S : Nat) (o : Outcome) (U : State) : Prop := ∃ v L, o = .returned v ∧ (Fr n0 L ∧ P v U.heap) ∧ FrameEnd s o U L C S
def own_X (p : Program) (l : Launch) (e : Env) (R : Room) (s : State) (m : MethodId) (args : Array Value) (below : List Frame) (meth : Method) (c : Code) (Z : State) (bytes : ByteArray) (maxL : Nat) (ret : Option FieldType) (y : MethodName) (n0 : Nat) (h : Heap) (T : State) (k n : Nat) : Prop :=
  (p.tables.exec = Jvm.exec ∧ c.code = bytes ∧ c.maxLocals = maxL ∧ s.vm.findClass y.cls = some m.cls ∧ meth.name = y.name ∧ meth.sig.returnType = ret ∧ Z.Warmed39 s.vm ∧ meth.locks = false) ∧
    n0 ≤ h.size ∧ T.heap = h ∧ ∃ locs, Stand p l e R s m args below meth c T locs k n ∧ Fr n0 locs
/-- a body's contract: from these arguments and this heap it returns, and P says what, and what heap it leaves -/
def own_C (l : Launch) (Z : State) (y : MethodName) (bytes : ByteArray) (maxL : Nat) (ret : Option FieldType) (rm : Room) (as : Array Value) (h0 : Heap) (n0 : Nat) (P : Option Value → Heap → Prop) : Prop :=
  ∀ ws : List Jvm.Cond, MetFree l y (head1 (Jvm.Cond.code y bytes maxL ret :: ws) rm) (fun a U => a = as ∧ Z.Warmed39 U.vm ∧ U.heap = h0) (fun _ _ _ _ _ => True)
    (fun _ U o U' => ∃ v L, o = .returned v ∧ (Fr n0 L ∧ P v U'.heap) ∧ FrameEnd U o U' L rm.cells rm.slots)
theorem own_body {l : Launch} {Z : State} {y : MethodName} {bytes : ByteArray} {maxL : Nat} {ret : Option FieldType} {rm : Room} {as : Array Value} {h0 : Heap} {n0 : Nat} {P : Option Value → Heap → Prop} (hpl : plainFor y = true) (h0n : n0 ≤ h0.size) {ls : Array Slot} (hef : ∀ m, entryFrame m as maxL = mkF m 0 ls [])
    (k : ∀ p e s m below meth c T, own_X p l e rm s m as below meth c Z bytes maxL ret y n0 h0 T 0 0 → own_G p e below (T.setTop (mkF m 0 ls [])) (own_E s n0 P rm.cells rm.slots)) : own_C l Z y bytes maxL ret rm as h0 n0 P := by
  intro ws
  refine MetFree.of_bodySF hpl hisR ?_
  intro p e s m args below meth c s₁ Bd hml0 hP hK
  obtain ⟨rfl, hZ, hh⟩ := hP
  have e0 : s₁.heap = h0 := by rw [← hh, Bd.state]; rfl
  have X0 : Stand p l e rm s m args below meth c s₁ [] 0 0 := Stand.of_body Bd
  have g := k p e s m below meth c s₁ ⟨⟨Bd.exec, Bd.bytes, hml0, findClass_of_methodNamed Bd.named, (name_of_methodNamed Bd.named Bd.method).1, Bd.returns, hZ, Bd.notSynchronized⟩, h0n, e0, [], X0, Fr.nil n0⟩
  rw [← hef m] at g
  exact g

section Walk
variable {p : Program} {l : Launch} {e : Env} {R : Room} {s : State} {m : MethodId} {args : Array Value} {below : List Frame} {meth : Method} {c : Code} {Z : State} {bytes : ByteArray} {maxL : Nat} {ret : Option FieldType} {y : MethodName} {n0 : Nat} {h : Heap} {T : State} {k n : Nat} {Q : Outcome → State → Prop} {pc pc' : Nat} {ls ls' : Array Slot} {st st' : List Value} {a0 : Array Value}
theorem own_blk (X : own_X p l e R s m args below meth c Z bytes maxL ret y n0 h T k n) (L : List (Instr × Nat)) (hd : own_d bytes pc L pc' = true) (hr : own_x L ls st = some (ls', st')) (g : own_G p e below (T.setTop (mkF m pc' ls' st')) Q) : own_G p e below (T.setTop (mkF m pc ls st)) Q := by
  obtain ⟨⟨hx, hby, -⟩, -, -, locs, X, -⟩ := X
  subst hby
  exact own_st (fun t q => own_x_ok X.here hx L hd hr q) g
/-! branches -/
def own_tg (pc : Nat) (o : Int) (pc' : Nat) : Bool := decide (0 ≤ (pc : Int) + o) && decide (((pc : Int) + o).toNat = pc')
def own_cI : ClassFile.Cond → Int → Int → Prop
  | .eq, x, y => x = y
  | .ne, x, y => ¬ x = y
  | .lt, x, y => x < y
  | .ge, x, y => y ≤ x
  | .gt, x, y => y < x
  | .le, x, y => x ≤ y
theorem own_icmp_iff (cd : ClassFile.Cond) (x y : Int32) : if_icmp.holds cd x y = true ↔ own_cI cd x.toInt y.toInt := by
  cases cd <;> simp [if_icmp.holds, own_cI, Int32.lt_iff_toInt_lt, Int32.le_iff_toInt_le, Int32.toInt_inj]
theorem own_if_iff (cd : ClassFile.Cond) (x : Int32) : ifCond.holds cd x = true ↔ own_cI cd x.toInt 0 := by
  rw [if0]; exact own_icmp_iff cd x 0
theorem own_l_iff (cd : ClassFile.Cond) (x y : Int64) : ifCond.holds cd (if x > y then 1 else if x = y then 0 else -1) = true ↔ own_cI cd x.toInt y.toInt := by
  rw [own_if_iff]
  have e1 : (x > y) = (y.toInt < x.toInt) := by rw [gt_iff_lt, Int64.lt_iff_toInt_lt]
  have e2 : (x = y) = (x.toInt = y.toInt) := by rw [Int64.toInt_inj]
  simp only [e1, e2]
  by_cases q1 : y.toInt < x.toInt
  · simp only [q1, if_true]
    have e3 : (1 : Int32).toInt = 1 := rfl
    cases cd <;> simp only [own_cI, e3] <;> omega
  · by_cases q2 : x.toInt = y.toInt
    · simp only [q1, q2, if_true, if_false]
      have e3 : (0 : Int32).toInt = 0 := rfl
      cases cd <;> simp [own_cI]
    · simp only [q1, q2, if_false]
      have e3 : (-1 : Int32).toInt = -1 := rfl
      cases cd <;> simp only [own_cI, e3] <;> omega
theorem own_tg_s {o : Int} (hp : own_tg pc o pc' = true) : 0 ≤ (pc : Int) + o ∧ ((pc : Int) + o).toNat = pc' := by
  simpa [own_tg] using hp
theorem own_goto (X : own_X p l e R s m args below meth c Z bytes maxL ret y n0 h T k n) {o : Int} (hd : decode bytes pc = .ok (.goto o, 3)) (hp : own_tg pc o pc' = true) (g : own_G p e below (T.setTop (mkF m pc' ls st)) Q) : own_G p e below (T.setTop (mkF m pc ls st)) Q := by
  obtain ⟨⟨hx, hby, -⟩, -, -, locs, X, -⟩ := X
  subst hby
  exact own_st (fun t q => XS.goto X.here hx rfl rfl hd (own_tg_s hp).1 (own_tg_s hp).2 q) g
theorem own_icmp (X : own_X p l e R s m args below meth c Z bytes maxL ret y n0 h T k n) {cd : ClassFile.Cond} {o : Int} {v w : Int32} (hd : decode bytes pc = .ok (.if_icmp cd o, 3)) (hp : own_tg pc o pc' = true) (gT : own_cI cd v.toInt w.toInt → own_G p e below (T.setTop (mkF m pc' ls st)) Q) (gF : ¬ own_cI cd v.toInt w.toInt → own_G p e below (T.setTop (mkF m (pc + 3) ls st)) Q) :
    own_G p e below (T.setTop (mkF m pc ls (.int w :: .int v :: st))) Q := by
  obtain ⟨⟨hx, hby, -⟩, -, -, locs, X, -⟩ := X
  subst hby
  cases hc : if_icmp.holds cd v w with
  | true => exact own_st (fun t q => XS.icmpYes X.here hx rfl rfl hd rfl hc (own_tg_s hp).1 (own_tg_s hp).2 q) (gT ((own_icmp_iff cd v w).mp hc))
  | false => exact own_st (fun t q => XS.icmpNo X.here hx rfl hd rfl hc q) (gF fun q => by rw [(own_icmp_iff cd v w).mpr q] at hc; cases hc)
theorem own_if (X : own_X p l e R s m args below meth c Z bytes maxL ret y n0 h T k n) {cd : ClassFile.Cond} {o : Int} {v : Int32} (hd : decode bytes pc = .ok (.ifCond cd o, 3)) (hp : own_tg pc o pc' = true) (gT : own_cI cd v.toInt 0 → own_G p e below (T.setTop (mkF m pc' ls st)) Q) (gF : ¬ own_cI cd v.toInt 0 → own_G p e below (T.setTop (mkF m (pc + 3) ls st)) Q) :
    own_G p e below (T.setTop (mkF m pc ls (.int v :: st))) Q := by
  obtain ⟨⟨hx, hby, -⟩, -, -, locs, X, -⟩ := X
  subst hby
  cases hc : ifCond.holds cd v with
  | true => exact own_st (fun t q => XS.ifYes X.here hx rfl rfl hd rfl hc (own_tg_s hp).1 (own_tg_s hp).2 q) (gT ((own_if_iff cd v).mp hc))
  | false => exact own_st (fun t q => XS.ifNo X.here hx rfl hd rfl hc q) (gF fun q => by rw [(own_if_iff cd v).mpr q] at hc; cases hc)
theorem own_lif (X : own_X p l e R s m args below meth c Z bytes maxL ret y n0 h T k n) {cd : ClassFile.Cond} {o : Int} {v w : Int64} (hd1 : decode bytes pc = .ok (.lcmp, 1)) (hd : decode bytes (pc + 1) = .ok (.ifCond cd o, 3)) (hp : own_tg (pc + 1) o pc' = true) (gT : own_cI cd v.toInt w.toInt → own_G p e below (T.setTop (mkF m pc' ls st)) Q) (gF : ¬ own_cI cd v.toInt w.toInt → own_G p e below (T.setTop (mkF m (pc + 4) ls st)) Q) :
    own_G p e below (T.setTop (mkF m pc ls (.long w :: .long v :: st))) Q := by
  obtain ⟨⟨hx, hby, -⟩, -, -, locs, X, -⟩ := X
  subst hby
  refine own_st (fun t q => XS.lcmp X.here hx rfl hd1 rfl q) ?_
  show own_G p e below (T.setTop (mkF m (pc + 1) ls (.int (if v > w then 1 else if v = w then 0 else -1) :: st))) Q
  cases hc : ifCond.holds cd (if v > w then 1 else if v = w then 0 else -1) with
  | true => exact own_st (fun t q => XS.ifYes X.here hx rfl rfl hd rfl hc (own_tg_s hp).1 (own_tg_s hp).2 q) (gT ((own_l_iff cd v w).mp hc))
  | false => exact own_st (fun t q => XS.ifNo X.here hx rfl hd rfl hc q) (gF fun q => by rw [(own_l_iff cd v w).mpr q] at hc; cases hc)
/-! division -/
theorem own_idiv (X : own_X p l e R s m args below meth c Z bytes maxL ret y n0 h T k n) {v w : Int32} (hd : decode bytes pc = .ok (.idiv, 1)) (hw : w ≠ 0) (g : own_G p e below (T.setTop (mkF m (pc + 1) ls (.int (v / w) :: st))) Q) : own_G p e below (T.setTop (mkF m pc ls (.int w :: .int v :: st))) Q := by
  obtain ⟨⟨hx, hby, -⟩, -, -, locs, X, -⟩ := X
  subst hby
  exact own_st (fun t q => XS.idiv X.here hx rfl hd rfl hw q) g
theorem own_iremS (X : own_X p l e R s m args below meth c Z bytes maxL ret y n0 h T k n) {v w : Int32} (hd : decode bytes pc = .ok (.irem, 1)) (hw : w ≠ 0) (g : own_G p e below (T.setTop (mkF m (pc + 1) ls (.int (own_irem v w) :: st))) Q) : own_G p e below (T.setTop (mkF m pc ls (.int w :: .int v :: st))) Q := by
  obtain ⟨⟨hx, hby, -⟩, -, -, locs, X, -⟩ := X
  subst hby
  exact own_st (fun t q => XS.irem X.here hx rfl hd rfl hw q) g
theorem own_ldiv (X : own_X p l e R s m args below meth c Z bytes maxL ret y n0 h T k n) {v w : Int64} (hd : decode bytes pc = .ok (.ldiv, 1)) (hw : w ≠ 0) (g : own_G p e below (T.setTop (mkF m (pc + 1) ls (.long (v / w) :: st))) Q) : own_G p e below (T.setTop (mkF m pc ls (.long w :: .long v :: st))) Q := by
  obtain ⟨⟨hx, hby, -⟩, -, -, locs, X, -⟩ := X
  subst hby
  exact own_st (fun t q => XS.ldiv X.here hx rfl hd rfl hw q) g
theorem own_lremS (X : own_X p l e R s m args below meth c Z bytes maxL ret y n0 h T k n) {v w : Int64} (hd : decode bytes pc = .ok (.lrem, 1)) (hw : w ≠ 0) (g : own_G p e below (T.setTop (mkF m (pc + 1) ls (.long (own_lrem v w) :: st))) Q) : own_G p e below (T.setTop (mkF m pc ls (.long w :: .long v :: st))) Q := by
  obtain ⟨⟨hx, hby, -⟩, -, -, locs, X, -⟩ := X
  subst hby
  exact own_st (fun t q => XS.lrem X.here hx rfl hd rfl hw q) g
/-! constants of the pool -/
theorem own_ldc (X : own_X p l e R s m args below meth c Z bytes maxL ret y n0 h T k n) {i : Nat} {v : Int32} (w : (Jvm.Cond.constant y.cls i v).before a0 Z = true) (hd : decode bytes pc = .ok (.ldc i, 2)) (g : own_G p e below (T.setTop (mkF m (pc + 2) ls (.int v :: st))) Q) : own_G p e below (T.setTop (mkF m pc ls st)) Q := by
  obtain ⟨⟨hx, hby, hml, hown, hnm, hret, hZ, hlk⟩, -, -, locs, X, -⟩ := X
  subst hby
  exact own_st (fun t q => X.ldcInt hx hown (mvT hZ w) (g := mkF m pc ls st) rfl hd t q) g
theorem own_ldc2 (X : own_X p l e R s m args below meth c Z bytes maxL ret y n0 h T k n) {i : Nat} {v : Int64} (w : (Jvm.Cond.constantLong y.cls i v).before a0 Z = true) (hd : decode bytes pc = .ok (.ldc2_w i, 3)) (g : own_G p e below (T.setTop (mkF m (pc + 3) ls (.long v :: st))) Q) : own_G p e below (T.setTop (mkF m pc ls st)) Q := by
  obtain ⟨⟨hx, hby, hml, hown, hnm, hret, hZ, hlk⟩, -, -, locs, X, -⟩ := X
  subst hby
  exact own_st (fun t q => X.ldc2Long hx hown (mvT hZ w) (g := mkF m pc ls st) rfl hd t q) g
/-! returns -/
variable {P : Option Value → Heap → Prop} {C S : Nat}
theorem own_retI (X : own_X p l e R s m args below meth c Z bytes maxL (some .int) y n0 h T k n) (hd : decode bytes pc = .ok (.ireturn, 1)) {v : Int32} (hk : k ≤ C) (hn : n ≤ S) (hP : P (some (.int v)) h) : own_G p e below (T.setTop (mkF m pc ls (.int v :: st))) (own_E s n0 P C S) := by
  obtain ⟨⟨hx, hby, hml, hown, hnm, hret, hZ, hlk⟩, -, eT, locs, X, N⟩ := X
  subst hby
  obtain ⟨fs, hr, hrun, hended, hW, hsame⟩ := X.leave (v := some (.int v)) (fun q => by rw [hret] at q; cases q)
  refine ⟨_, _, ?_, hrun, hended, _, _, rfl, ⟨N, by show P _ T.heap; rw [eT]; exact hP⟩, ⟨_, rfl⟩, hW, hsame.mono hk hn⟩
  have hm' : T.vm.method? m = some meth := X.method'
  have hnn : narrow .int (.int v) = .int v := rfl
  show Steps p.tables e below (T.setTop { method := m, pc := pc, locals := ls, stack := _ :: st, locked := none }) _
  jvm_step X.here [X.here.top, hx, hd, hm', hret, hnn]
  first | (intro acts; rw [hr _ acts rfl rfl rfl]) | rw [hr _ _ rfl rfl rfl]
  exact Steps.refl _
theorem own_retN {t : FieldType} (X : own_X p l e R s m args below meth c Z bytes maxL (some t) y n0 h T k n) (ht : t = .boolean ∨ t = .byte ∨ t = .char ∨ t = .short) (hd : decode bytes pc = .ok (.ireturn, 1)) {v v' : Int32} (hv : nar t v = v') (hk : k ≤ C) (hn : n ≤ S) (hP : P (some (.int v')) h) : own_G p e below (T.setTop (mkF m pc ls (.int v :: st))) (own_E s n0 P C S) := by
  obtain ⟨⟨hx, hby, hml, hown, hnm, hret, hZ, hlk⟩, -, eT, locs, X, N⟩ := X
  subst hby hv
  obtain ⟨fs, hr, hrun, hended, hW, hsame⟩ := X.leave (v := some (.int (nar t v))) (fun q => by rw [hret] at q; cases q)
  exact ⟨_, _, retN X hx hret ht hd hr, hrun, hended, _, _, rfl, ⟨N, by show P _ T.heap; rw [eT]; exact hP⟩, ⟨_, rfl⟩, hW, hsame.mono hk hn⟩
theorem own_retL (X : own_X p l e R s m args below meth c Z bytes maxL (some .long) y n0 h T k n) (hd : decode bytes pc = .ok (.lreturn, 1)) {v : Int64} (hk : k ≤ C) (hn : n ≤ S) (hP : P (some (.long v)) h) : own_G p e below (T.setTop (mkF m pc ls [.long v])) (own_E s n0 P C S) := by
  obtain ⟨⟨hx, hby, hml, hown, hnm, hret, hZ, hlk⟩, -, eT, locs, X, N⟩ := X
  subst hby
  obtain ⟨fs, hr, hrun, hended, hW, hsame⟩ := X.leave (v := some (.long v)) (fun q => by rw [hret] at q; cases q)
  exact ⟨_, _, X.lreturnOut hx hret hd hr, hrun, hended, _, _, rfl, ⟨N, by show P _ T.heap; rw [eT]; exact hP⟩, ⟨_, rfl⟩, hW, hsame.mono hk hn⟩
theorem own_retA {t : FieldType} (X : own_X p l e R s m args below meth c Z bytes maxL (some t) y n0 h T k n) (ht : t.isReference = true) (hd : decode bytes pc = .ok (.areturn, 1)) {v : Addr} (hk : k ≤ C) (hn : n ≤ S) (hP : P (some (.ref v)) h) : own_G p e below (T.setTop (mkF m pc ls [.ref v])) (own_E s n0 P C S) := by
  obtain ⟨⟨hx, hby, hml, hown, hnm, hret, hZ, hlk⟩, -, eT, locs, X, N⟩ := X
  subst hby
  obtain ⟨fs, hr, hrun, hended, hW, hsame⟩ := X.leave (v := some (.ref v)) (fun q => by rw [hret] at q; cases q)
  exact ⟨_, _, X.areturnOut hx rfl hret ht hd hr, hrun, hended, _, _, rfl, ⟨N, by show P _ T.heap; rw [eT]; exact hP⟩, ⟨_, rfl⟩, hW, hsame.mono hk hn⟩
theorem own_retV (X : own_X p l e R s m args below meth c Z bytes maxL none y n0 h T k n) (hd : decode bytes pc = .ok (.return_, 1)) (hk : k ≤ C) (hn : n ≤ S) (hP : P none h) : own_G p e below (T.setTop (mkF m pc ls [])) (own_E s n0 P C S) := by
  obtain ⟨⟨hx, hby, hml, hown, hnm, hret, hZ, hlk⟩, -, eT, locs, X, N⟩ := X
  subst hby
  obtain ⟨fs, hr, hrun, hended, hW, hsame⟩ := X.leave (v := none) (fun _ => rfl)
  exact ⟨_, _, X.returnOut hx hret hd hr, hrun, hended, _, _, rfl, ⟨N, by show P _ T.heap; rw [eT]; exact hP⟩, ⟨_, rfl⟩, hW, hsame.mono hk hn⟩
/-! calls -/
theorem own_callS (X : own_X p l e R s m args below meth c Z bytes maxL ret y n0 h T k n) {i : Nat} {z : MethodName} {zb : ByteArray} {zl : Nat} {zr : Option FieldType} {rm : Room} {as : Array Value} {P : Option Value → Heap → Prop}
    (w1 : (Jvm.Cond.methodLink y.cls i z).before a0 Z = true) (w2 : (Jvm.Cond.static z).before a0 Z = true) (w3 : (Jvm.Cond.initialized z.cls).before a0 Z = true) (w4 : (Jvm.Cond.code z zb zl zr).before a0 Z = true) (hy : z.cls ≠ "java/lang/invoke/MethodHandle" ∧ z.cls ≠ "java/lang/invoke/VarHandle")
    (K : own_C l Z z zb zl zr rm as h n0 P) (hd : decode bytes pc = .ok (.invokestatic i, 3)) (argsL rest : List Value) (hst : st = argsL.reverse ++ rest) (has : argsL.toArray = as) {ps : List FieldType} {pr : Option FieldType} (hsg : parseMethodDescriptor z.desc = some ⟨ps, pr⟩) (hlen : argsL.length = ps.length) (hsz : ls.size = maxL)
    (hf : rm.frames + 1 ≤ R.frames) (hl : (rest.map fun v => v.category).sum + (zl + 11) + rm.locals ≤ R.locals) (hc : k + rm.cells ≤ R.cells) (hs : n + rm.slots ≤ R.slots) (hn : ∀ v h', P v h' → n0 ≤ h'.size)
    (g : ∀ v h' T', own_X p l e R s m args below meth c Z bytes maxL ret y n0 h' T' (k + rm.cells) (n + rm.slots) → P v h' → own_G p e below (T'.setTop (mkF m (pc + 3) ls (v.toList ++ rest))) Q) : own_G p e below (T.setTop (mkF m pc ls st)) Q := by
  obtain ⟨M, hn0, eT, locs, X, N⟩ := X
  have M' := M
  obtain ⟨hx, hby, hml, hown, hnm, hret, hZ, hlk⟩ := M'
  subst hby hst has
  obtain ⟨v, vm₁, B, -, X', ⟨L, hq, l1, l2, l3⟩, stp⟩ := Jvm.LawKit.callS X hx (y := z) hown (mvT hZ w1) (mvT hZ w2) (mvT hZ w3) (mvT hZ w4) hy (backOf (W := (rest.map fun v => v.category).sum) (Q := fun v h' L => Fr n0 L ∧ P v h') (K []) hZ w4 w3 hf hl) (g := mkF m pc ls (argsL.reverse ++ rest)) rfl (hsz.trans hml.symm) (argsL := argsL) (rest := rest)
    (lenOf hsg hlen) rfl (Nat.le_of_eq (Nat.zero_add _)) hd (fun _ _ => ⟨rfl, eT, hc, hs⟩)
  obtain ⟨U, Lc, k', n'⟩ := B
  dsimp only [Pt.U, Pt.locs, Pt.cells, Pt.slots] at X' hq l1 l2 l3 stp
  subst l1 l2 l3
  exact own_st stp (g v U.heap U ⟨M, hn v _ hq.2, rfl, _, X', Fr.app N hq.1⟩ hq.2)
theorem own_callP (X : own_X p l e R s m args below meth c Z bytes maxL ret y n0 h T k n) {i : Nat} {z : MethodName} {zb : ByteArray} {zl : Nat} {zr : Option FieldType} {rm : Room} {as : Array Value} {v : Option Value}
    (w1 : (Jvm.Cond.methodLink y.cls i z).before a0 Z = true) (w2 : (Jvm.Cond.static z).before a0 Z = true) (w3 : (Jvm.Cond.initialized z.cls).before a0 Z = true) (w4 : (Jvm.Cond.code z zb zl zr).before a0 Z = true) (hy : z.cls ≠ "java/lang/invoke/MethodHandle" ∧ z.cls ≠ "java/lang/invoke/VarHandle")
    (K : own_C l Z z zb zl zr rm as h n0 (fun v' h' => v' = v ∧ h' = h)) (hd : decode bytes pc = .ok (.invokestatic i, 3)) (argsL rest : List Value) (hst : st = argsL.reverse ++ rest) (has : argsL.toArray = as) {ps : List FieldType} {pr : Option FieldType} (hsg : parseMethodDescriptor z.desc = some ⟨ps, pr⟩) (hlen : argsL.length = ps.length) (hsz : ls.size = maxL)
    (hf : rm.frames + 1 ≤ R.frames) (hl : (rest.map fun v => v.category).sum + (zl + 11) + rm.locals ≤ R.locals) (hc : k + rm.cells ≤ R.cells) (hs : n + rm.slots ≤ R.slots)
    (g : ∀ T', own_X p l e R s m args below meth c Z bytes maxL ret y n0 h T' (k + rm.cells) (n + rm.slots) → own_G p e below (T'.setTop (mkF m (pc + 3) ls (v.toList ++ rest))) Q) : own_G p e below (T.setTop (mkF m pc ls st)) Q :=
  own_callS X w1 w2 w3 w4 hy K hd argsL rest hst has hsg hlen hsz hf hl hc hs (fun v h' q => by rw [q.2]; exact X.2.1) (fun v' h' T' X' q => by obtain ⟨q1, q2⟩ := q; subst q1; rw [q2] at X'; exact g T' X')
theorem own_callN (X : own_X p l e R s m args below meth c Z bytes maxL ret y n0 h T k n) {i : Nat} {z : MethodName} {zb : ByteArray} {zl : Nat} {rm : Room} {as : Array Value} {P : Option Value → Heap → Prop} (hz : z.name = "<init>")
    (w1 : (Jvm.Cond.methodLink y.cls i z).before a0 Z = true) (w2 : (Jvm.Cond.instanceMethod z).before a0 Z = true) (w3 : (Jvm.Cond.initialized z.cls).before a0 Z = true) (w4 : (Jvm.Cond.code z zb zl none).before a0 Z = true) (hy : z.cls ≠ "java/lang/invoke/MethodHandle" ∧ z.cls ≠ "java/lang/invoke/VarHandle")
    (K : own_C l Z z zb zl none rm as h n0 P) (hd : decode bytes pc = .ok (.invokespecial i, 3)) {a : Addr} (argsL rest : List Value) (hst : st = argsL.reverse ++ .ref a :: rest) (has : (.ref a :: argsL).toArray = as) {ps : List FieldType} {pr : Option FieldType} (hsg : parseMethodDescriptor z.desc = some ⟨ps, pr⟩) (hlen : argsL.length = ps.length) (hsz : ls.size = maxL)
    (hf : rm.frames + 1 ≤ R.frames) (hl : (rest.map fun v => v.category).sum + (zl + 11) + rm.locals ≤ R.locals) (hc : k + rm.cells ≤ R.cells) (hs : n + rm.slots ≤ R.slots) (hn : ∀ v h', P v h' → n0 ≤ h'.size)
    (g : ∀ v h' T', own_X p l e R s m args below meth c Z bytes maxL ret y n0 h' T' (k + rm.cells) (n + rm.slots) → P v h' → own_G p e below (T'.setTop (mkF m (pc + 3) ls (v.toList ++ rest))) Q) : own_G p e below (T.setTop (mkF m pc ls st)) Q := by
  obtain ⟨M, hn0, eT, locs, X, N⟩ := X
  have M' := M
  obtain ⟨hx, hby, hml, hown, hnm, hret, hZ, hlk⟩ := M'
  subst hby hst has
  obtain ⟨v, vm₁, B, -, X', ⟨L, hq, l1, l2, l3⟩, stp⟩ := X.specialBack hx (y := z) hz hown (mvT hZ w1) (mvT hZ w2) (mvT hZ w4) hy (backOf (W := (rest.map fun v => v.category).sum) (Q := fun v h' L => Fr n0 L ∧ P v h') (K []) hZ w4 w3 hf hl) (g := mkF m pc ls (argsL.reverse ++ .ref a :: rest)) rfl (hsz.trans hml.symm) (Steps.refl _) (a := a) (argsL := argsL) (rest := rest)
    (lenOf hsg hlen) rfl (Nat.le_of_eq (Nat.zero_add _)) hd (fun _ _ => ⟨rfl, eT, hc, hs⟩)
  obtain ⟨U, Lc, k', n'⟩ := B
  dsimp only [Pt.U, Pt.locs, Pt.cells, Pt.slots] at X' hq l1 l2 l3 stp
  subst l1 l2 l3
  exact own_st (fun t q => stp.trans q) (g v U.heap U ⟨M, hn v _ hq.2, rfl, _, X', Fr.app N hq.1⟩ hq.2)
theorem own_callV (X : own_X p l e R s m args below meth c Z bytes maxL ret y n0 h T k n) {i : Nat} {z : MethodName} {zb : ByteArray} {zl : Nat} {zr : Option FieldType} {rm : Room} {as : Array Value} {P : Option Value → Heap → Prop}
    (w1 : (Jvm.Cond.methodLink y.cls i z).before a0 Z = true) (w2 : (Jvm.Cond.declares z).before a0 Z = true) (w5 : (Jvm.Cond.selects z.cls z z).before a0 Z = true) (w6 : (Jvm.Cond.instanceMethod z).before a0 Z = true) (w3 : (Jvm.Cond.initialized z.cls).before a0 Z = true) (w4 : (Jvm.Cond.code z zb zl zr).before a0 Z = true) (hy : z.cls ≠ "java/lang/invoke/MethodHandle" ∧ z.cls ≠ "java/lang/invoke/VarHandle")
    {a : Addr} (E : Exa Z h a z.cls) (K : own_C l Z z zb zl zr rm as h n0 P) (hd : decode bytes pc = .ok (.invokevirtual i, 3)) (argsL rest : List Value) (hst : st = argsL.reverse ++ .ref a :: rest) (has : (.ref a :: argsL).toArray = as) {ps : List FieldType} {pr : Option FieldType} (hsg : parseMethodDescriptor z.desc = some ⟨ps, pr⟩) (hlen : argsL.length = ps.length) (hsz : ls.size = maxL)
    (hf : rm.frames + 1 ≤ R.frames) (hl : (rest.map fun v => v.category).sum + (zl + 11) + rm.locals ≤ R.locals) (hc : k + rm.cells ≤ R.cells) (hs : n + rm.slots ≤ R.slots) (hn : ∀ v h', P v h' → n0 ≤ h'.size)
    (g : ∀ v h' T', own_X p l e R s m args below meth c Z bytes maxL ret y n0 h' T' (k + rm.cells) (n + rm.slots) → P v h' → own_G p e below (T'.setTop (mkF m (pc + 3) ls (v.toList ++ rest))) Q) : own_G p e below (T.setTop (mkF m pc ls st)) Q := by
  obtain ⟨M, hn0, eT, locs, X, N⟩ := X
  have M' := M
  obtain ⟨hx, hby, hml, hown, hnm, hret, hZ, hlk⟩ := M'
  subst hby hst has
  obtain ⟨cq, kq, qa, qb, qc⟩ := isOf hZ eT E
  obtain ⟨v, vm₁, B, -, X', ⟨L, hq, l1, l2, l3⟩, stp⟩ := X.virtualBack hx (y := z) (z := z) hown (mvT hZ w1) (mvT hZ w2) (notFace_of_selects (args := #[]) (mvT hZ w5)) (mvT hZ w5) (mvT hZ w6) hy (backOf (W := (rest.map fun v => v.category).sum) (Q := fun v h' L => Fr n0 L ∧ P v h') (K []) hZ w4 w3 hf hl) qa qc (g := mkF m pc ls (argsL.reverse ++ .ref a :: rest)) rfl (hsz.trans hml.symm) (Steps.refl _) (argsL := argsL) (rest := rest)
    (lenOf hsg hlen) rfl (Nat.le_of_eq (Nat.zero_add _)) hd (fun _ _ => ⟨rfl, eT, hc, hs⟩)
  obtain ⟨U, Lc, k', n'⟩ := B
  dsimp only [Pt.U, Pt.locs, Pt.cells, Pt.slots] at X' hq l1 l2 l3 stp
  subst l1 l2 l3
  exact own_st (fun t q => stp.trans q) (g v U.heap U ⟨M, hn v _ hq.2, rfl, _, X', Fr.app N hq.1⟩ hq.2)
/-! fields -/
theorem own_getF (X : own_X p l e R s m args below meth c Z bytes maxL ret y n0 h T k n) {i : Nat} {O f d : String} (w : (Jvm.Cond.fieldLink y.cls i O f d).before a0 Z = true) {a : Addr} {v : Value} (F : Fld Z h a O f d v) (hd : decode bytes pc = .ok (.getfield i, 3))
    (g : ∀ T', own_X p l e R s m args below meth c Z bytes maxL ret y n0 h T' k n → own_G p e below (T'.setTop (mkF m (pc + 3) ls (v :: st))) Q) : own_G p e below (T.setTop (mkF m pc ls (.ref a :: st))) Q := by
  obtain ⟨M, hn0, eT, locs, X, N⟩ := X
  have M' := M
  obtain ⟨hx, hby, hml, hown, hnm, hret, hZ, hlk⟩ := M'
  subst hby
  obtain ⟨T', X', e', stp⟩ := getF X hx hZ hown (host := "") (Or.inl w) Via.refl eT F (g := mkF m pc ls (.ref a :: st)) rfl rfl hd
  exact own_st stp (g T' ⟨M, hn0, e', _, X', N⟩)
theorem own_putF (X : own_X p l e R s m args below meth c Z bytes maxL ret y n0 h T k n) {i kk : Nat} {O f d K : String} {ty : FieldType} (w : (Jvm.Cond.fieldLink y.cls i O f d).before a0 Z = true) {a : Addr} {v old : Value} (F : Fld Z h a O f d old) (E : Exa Z h a K) (L : (Jvm.Cond.lays K O f d).before a0 Z = true ∨ ((Jvm.Cond.laysFinal K O f d).before a0 Z = true ∧ y.cls = O ∧ y.name = "<init>")) (wi : (Jvm.Cond.instantiable K kk).before a0 Z = true)
    (hty : parseFieldDescriptor d = some ty) (hn : narrow ty v = v) (hf : fits ty v = true) (ha : n0 ≤ a) (hd : decode bytes pc = .ok (.putfield i, 3))
    (g : ∀ h' T', own_X p l e R s m args below meth c Z bytes maxL ret y n0 h' T' k n → Wr h h' a (Jvm.RoadKit.slotOf Z O f d) v → own_G p e below (T'.setTop (mkF m (pc + 3) ls st)) Q) : own_G p e below (T.setTop (mkF m pc ls (v :: .ref a :: st))) Q := by
  obtain ⟨M, hn0, eT, locs, X, N⟩ := X
  have M' := M
  obtain ⟨hx, hby, hml, hown, hnm, hret, hZ, hlk⟩ := M'
  subst hby
  obtain ⟨T', h', X', e', W', stp⟩ := putF X hx hZ hown (host := "") (Or.inl w) Via.refl eT F E (L.imp id fun q => ⟨q.1, q.2.1, hnm.trans q.2.2⟩) wi hty hn hf (g := mkF m pc ls (v :: .ref a :: st)) rfl rfl hd
  exact own_st stp (g h' T' ⟨M, by rw [W'.size]; exact hn0, e', _, X', Fr.snoc X' N ha⟩ W')
/-! new -/
theorem own_newO (X : own_X p l e R s m args below meth c Z bytes maxL ret y n0 h T k n) {i nn : Nat} {K : String} (w : (Jvm.Cond.classLink y.cls i K).before a0 Z = true) (wi : (Jvm.Cond.instantiable K nn).before a0 Z = true) (wz : (Jvm.Cond.initialized K).before a0 Z = true) (hd : decode bytes pc = .ok (.new i, 3)) (hc : k + 1 ≤ R.cells) (hs : n + nn ≤ R.slots)
    (g : ∀ h' T', own_X p l e R s m args below meth c Z bytes maxL ret y n0 h' T' (k + 1) (n + nn) → Ext h h' → Exa Z h' h.size K → (∀ {O nm d : String} {ty : FieldType}, Laid Z a0 K O nm d → parseFieldDescriptor d = some ty → Fld Z h' h.size O nm d (defaultValue ty)) → own_G p e below (T'.setTop (mkF m (pc + 3) ls (.ref h.size :: st))) Q) : own_G p e below (T.setTop (mkF m pc ls st)) Q := by
  obtain ⟨M, hn0, eT, locs, X, N⟩ := X
  have M' := M
  obtain ⟨hx, hby, hml, hown, hnm, hret, hZ, hlk⟩ := M'
  subst hby
  obtain ⟨T', h', X', e', E', A', D', -, stp⟩ := newO X hx hZ hown w wi wz eT (g := mkF m pc ls st) rfl hd hc hs
  exact own_st stp (g h' T' ⟨M, Nat.le_trans hn0 E'.1, e', _, X', N⟩ E' A' D')
end Walk
/-! ### own layer 3: arrays: the array at a has n places, place j holds f j -/
def own_A (Z : State) (h : Heap) (a : Addr) (ty : FieldType) (n : Nat) (f : Int → Value) : Prop := n < 2147483648 ∧ ∃ c : Cell, Arr Z h a c ty ∧ c.slots.size = n ∧ ∀ j : Nat, j < n → c.slots[j]? = some (f (j : Int))
def own_u {α : Type} (f : Int → α) (i : Int) (x : α) : Int → α := fun j => if j = i then x else f j
section Arrs
variable {Z : State} {h h' : Heap} {a b : Addr} {ty : FieldType} {n : Nat} {f : Int → Value}
theorem own_A_lt (A : own_A Z h a ty n f) : a < h.size := by obtain ⟨-, c, A, -⟩ := A; exact A.lt
theorem own_A_ext (A : own_A Z h a ty n f) (E : Ext h h') : own_A Z h' a ty n f := by obtain ⟨q, c, A, r⟩ := A; exact ⟨q, c, A.ext E, r⟩
theorem own_A_other (A : own_A Z h b ty n f) {sl : Nat} {v : Value} (W : Wr h h' a sl v) (q : b ≠ a) : own_A Z h' b ty n f := by obtain ⟨q1, c, A, r⟩ := A; exact ⟨q1, c, A.other W q, r⟩
theorem own_A_keep (A : own_A Z h a ty n f) {ws : List Addr} (K : Keep h h' ws) (q : a ∉ ws) : own_A Z h' a ty n f := by obtain ⟨q1, c, A, r⟩ := A; exact ⟨q1, c, ⟨K.2.1 a c A.1 q, A.2⟩, r⟩
theorem own_A_new {k : ClassId} {z : Int32} (A : Arr Z h a (newA k ty z) ty) (q : 0 ≤ z.toInt) : own_A Z h a ty z.toInt.toNat (fun _ => defaultValue ty) := by
  have := Int32.toInt_lt z
  refine ⟨by omega, _, A, by rw [sz_new]; rfl, fun j hj => ?_⟩
  have hj' : j < z.toNatClampNeg := hj
  simp [newA, hj']
theorem own_A_set {sl : Nat} {v : Value} (A : own_A Z h a ty n f) (W : Wr h h' a sl v) (i : Int) (hi : i = (sl : Int)) : own_A Z h' a ty n (own_u f i v) := by
  obtain ⟨q, c, A, S, H⟩ := A
  have W0 := W
  obtain ⟨c2, g1, -, g3, -⟩ := W0
  cases g1.symm.trans A.1
  refine ⟨q, _, A.same W, by rw [sz_set]; exact S, fun j hj => ?_⟩
  subst hi
  by_cases u : j = sl
  · subst u; simp [Cell.setSlot, own_u, g3]
  · have e1 : ¬ ((j : Int) = (sl : Int)) := by omega
    simp only [own_u, e1, if_false, Cell.setSlot]
    rw [Array.getElem?_setIfInBounds_ne (fun q => u q.symm)]
    exact H j hj
theorem own_A_eq {g : Int → Value} (A : own_A Z h a ty n f) (q : ∀ j : Int, 0 ≤ j → j < n → g j = f j) : own_A Z h a ty n g := by
  obtain ⟨q1, c, A, S, H⟩ := A
  exact ⟨q1, c, A, S, fun j hj => by rw [H j hj, q j (by omega) (by omega)]⟩
theorem own_tnc (j : Int32) : j.toNatClampNeg = j.toInt.toNat := rfl
theorem own_z32 : (0 : Int32).toInt = 0 := rfl
theorem own_idx {j : Int32} (h0 : 0 ≤ j.toInt) : ¬ j < 0 := by rw [Int32.lt_iff_toInt_lt, own_z32]; omega
theorem own_inb {j : Int32} {cl : Cell} (S : cl.slots.size = n) (h0 : 0 ≤ j.toInt) (h1 : j.toInt < n) : ¬ (j < 0 ∨ cl.slots.size ≤ j.toNatClampNeg) := by
  rw [Int32.lt_iff_toInt_lt, S, own_z32, own_tnc]; omega
theorem own_nat {j : Int32} (h0 : 0 ≤ j.toInt) : j.toInt = (j.toNatClampNeg : Int) := by rw [own_tnc]; omega
end Arrs
/-- the same, of ints -/
def own_I (Z : State) (h : Heap) (a : Addr) (ty : FieldType) (n : Nat) (g : Int → Int32) : Prop := own_A Z h a ty n (fun j => .int (g j))
theorem own_I_ext {Z : State} {h h' : Heap} {a : Addr} {ty : FieldType} {n : Nat} {g : Int → Int32} (A : own_I Z h a ty n g) (E : Ext h h') : own_I Z h' a ty n g := own_A_ext A E
theorem own_I_other {Z : State} {h h' : Heap} {a b : Addr} {ty : FieldType} {n : Nat} {g : Int → Int32} (A : own_I Z h b ty n g) {sl : Nat} {v : Value} (W : Wr h h' a sl v) (q : b ≠ a) : own_I Z h' b ty n g := own_A_other A W q
theorem own_I_keep {Z : State} {h h' : Heap} {a : Addr} {ty : FieldType} {n : Nat} {g : Int → Int32} (A : own_I Z h a ty n g) {ws : List Addr} (K : Keep h h' ws) (q : a ∉ ws) : own_I Z h' a ty n g := own_A_keep A K q
theorem own_I_eq {Z : State} {h : Heap} {a : Addr} {ty : FieldType} {n : Nat} {f g : Int → Int32} (A : own_I Z h a ty n f) (q : ∀ j : Int, 0 ≤ j → j < n → g j = f j) : own_I Z h a ty n g := own_A_eq A (fun j h0 h1 => by rw [q j h0 h1])
theorem own_I_set {Z : State} {h h' : Heap} {a : Addr} {ty : FieldType} {n : Nat} {g : Int → Int32} {sl : Nat} {x : Int32} (A : own_I Z h a ty n g) (W : Wr h h' a sl (.int x)) (i : Int) (hi : i = (sl : Int)) : own_I Z h' a ty n (own_u g i x) :=
  own_A_eq (own_A_set A W i hi) (fun j _ _ => by simp only [own_u]; split <;> rfl)
theorem own_u_ne {α : Type} {g : Int → α} {i j : Int} {x : α} (h : j ≠ i) : own_u g i x j = g j := if_neg h
theorem own_u_eq {α : Type} {g : Int → α} {i j : Int} {x : α} (h : j = i) : own_u g i x j = x := if_pos h
section Arrs2
variable {p : Program} {l : Launch} {e : Env} {R : Room} {s : State} {m : MethodId} {args : Array Value} {below : List Frame} {meth : Method} {c : Code} {Z : State} {bytes : ByteArray} {maxL : Nat} {ret : Option FieldType} {y : MethodName} {n0 : Nat} {h : Heap} {T : State} {k n : Nat} {Q : Outcome → State → Prop} {pc pc' : Nat} {ls ls' : Array Slot} {st st' : List Value} {a0 : Array Value} {a : Addr} {nn : Nat} {f : Int → Value} {gg : Int → Int32}
theorem own_len (X : own_X p l e R s m args below meth c Z bytes maxL ret y n0 h T k n) {ty : FieldType} (A : own_A Z h a ty nn f) (hd : decode bytes pc = .ok (.arraylength, 1)) (g : own_G p e below (T.setTop (mkF m (pc + 1) ls (.int (Int32.ofNat nn) :: st))) Q) : own_G p e below (T.setTop (mkF m pc ls (.ref a :: st))) Q := by
  obtain ⟨⟨hx, hby, hml, hown, hnm, hret, hZ, hlk⟩, hn0, eT, locs, X, N⟩ := X
  obtain ⟨q, cl, A, S, H⟩ := A
  subst hby
  refine own_st (fun t q => X.arraylength hx (by rw [eT]; exact A.1) (State.isArrayOf_alike hZ.alike A.2.1) (g := mkF m pc ls (.ref a :: st)) rfl rfl hd t q) ?_
  show own_G p e below (T.setTop (mkF m (pc + 1) ls (.int cl.slots.size.toInt32 :: st))) Q
  rw [S]
  exact g
theorem own_iald (X : own_X p l e R s m args below meth c Z bytes maxL ret y n0 h T k n) (A : own_I Z h a .int nn gg) (hd : decode bytes pc = .ok (.iaload, 1)) {j : Int32} (h0 : 0 ≤ j.toInt) (h1 : j.toInt < nn) (g : own_G p e below (T.setTop (mkF m (pc + 1) ls (.int (gg j.toInt) :: st))) Q) : own_G p e below (T.setTop (mkF m pc ls (.int j :: .ref a :: st))) Q := by
  obtain ⟨⟨hx, hby, hml, hown, hnm, hret, hZ, hlk⟩, hn0, eT, locs, X, N⟩ := X
  obtain ⟨q, cl, A, S, H⟩ := A
  subst hby
  have e1 := own_nat h0
  refine own_st (fun t q => X.iaload hx (by rw [eT]; exact A.1) (State.isArrayOf_alike hZ.alike A.2.1) A.2.2 (own_inb S h0 h1) (H _ (by omega)) (g := mkF m pc ls (.int j :: .ref a :: st)) rfl rfl hd t q) ?_
  show own_G p e below (T.setTop (mkF m (pc + 1) ls (.int (gg (j.toNatClampNeg : Int)) :: st))) Q
  rw [← e1]
  exact g
theorem own_bald (X : own_X p l e R s m args below meth c Z bytes maxL ret y n0 h T k n) (A : own_I Z h a .byte nn gg) (hd : decode bytes pc = .ok (.baload, 1)) {j : Int32} (h0 : 0 ≤ j.toInt) (h1 : j.toInt < nn) (g : own_G p e below (T.setTop (mkF m (pc + 1) ls (.int (gg j.toInt) :: st))) Q) : own_G p e below (T.setTop (mkF m pc ls (.int j :: .ref a :: st))) Q := by
  obtain ⟨⟨hx, hby, hml, hown, hnm, hret, hZ, hlk⟩, hn0, eT, locs, X, N⟩ := X
  obtain ⟨q, cl, A, S, H⟩ := A
  subst hby
  have e1 := own_nat h0
  refine own_st (fun t q => X.baloadBytes hx (by rw [eT]; exact A.1) (State.isArrayOf_alike hZ.alike A.2.1) A.2.2 (own_inb S h0 h1) (H _ (by omega)) (g := mkF m pc ls (.int j :: .ref a :: st)) rfl rfl hd t q) ?_
  show own_G p e below (T.setTop (mkF m (pc + 1) ls (.int (gg (j.toNatClampNeg : Int)) :: st))) Q
  rw [← e1]
  exact g
theorem own_zald (X : own_X p l e R s m args below meth c Z bytes maxL ret y n0 h T k n) (A : own_I Z h a .boolean nn gg) (hd : decode bytes pc = .ok (.baload, 1)) {j : Int32} (h0 : 0 ≤ j.toInt) (h1 : j.toInt < nn) (g : own_G p e below (T.setTop (mkF m (pc + 1) ls (.int (gg j.toInt) :: st))) Q) : own_G p e below (T.setTop (mkF m pc ls (.int j :: .ref a :: st))) Q := by
  obtain ⟨⟨hx, hby, hml, hown, hnm, hret, hZ, hlk⟩, hn0, eT, locs, X, N⟩ := X
  obtain ⟨q, cl, A, S, H⟩ := A
  subst hby
  have e1 := own_nat h0
  refine own_st (fun t q => X.baloadBooleans hx (by rw [eT]; exact A.1) (State.isArrayOf_alike hZ.alike A.2.1) A.2.2 (own_inb S h0 h1) (H _ (by omega)) (g := mkF m pc ls (.int j :: .ref a :: st)) rfl rfl hd t q) ?_
  show own_G p e below (T.setTop (mkF m (pc + 1) ls (.int (gg (j.toNatClampNeg : Int)) :: st))) Q
  rw [← e1]
  exact g
theorem own_iast (X : own_X p l e R s m args below meth c Z bytes maxL ret y n0 h T k n) (A : own_I Z h a .int nn gg) (ha : n0 ≤ a) (hd : decode bytes pc = .ok (.iastore, 1)) {j x : Int32} (h0 : 0 ≤ j.toInt) (h1 : j.toInt < nn)
    (g : ∀ h' T', own_X p l e R s m args below meth c Z bytes maxL ret y n0 h' T' k n → own_I Z h' a .int nn (own_u gg j.toInt x) → Wr h h' a j.toNatClampNeg (.int x) → own_G p e below (T'.setTop (mkF m (pc + 1) ls st)) Q) : own_G p e below (T.setTop (mkF m pc ls (.int x :: .int j :: .ref a :: st))) Q := by
  obtain ⟨M, hn0, eT, locs, X, N⟩ := X
  have M' := M
  obtain ⟨hx, hby, hml, hown, hnm, hret, hZ, hlk⟩ := M'
  have AA := A
  obtain ⟨q, cl, A, S, H⟩ := A
  subst hby
  obtain ⟨T', h', X', e', W', stp⟩ := stI X hx hZ eT A (own_inb S h0 h1) (g := mkF m pc ls (.int x :: .int j :: .ref a :: st)) rfl rfl hd
  exact own_st stp (g h' T' ⟨M, by rw [W'.size]; exact hn0, e', _, X', Fr.snoc X' N ha⟩ (own_I_set AA W' _ (own_nat h0)) W')
theorem own_bast (X : own_X p l e R s m args below meth c Z bytes maxL ret y n0 h T k n) (A : own_I Z h a .byte nn gg) (ha : n0 ≤ a) (hd : decode bytes pc = .ok (.bastore, 1)) {j x : Int32} (h0 : 0 ≤ j.toInt) (h1 : j.toInt < nn) (hx8 : x.toInt8.toInt32 = x)
    (g : ∀ h' T', own_X p l e R s m args below meth c Z bytes maxL ret y n0 h' T' k n → own_I Z h' a .byte nn (own_u gg j.toInt x) → Wr h h' a j.toNatClampNeg (.int x) → own_G p e below (T'.setTop (mkF m (pc + 1) ls st)) Q) : own_G p e below (T.setTop (mkF m pc ls (.int x :: .int j :: .ref a :: st))) Q := by
  obtain ⟨M, hn0, eT, locs, X, N⟩ := X
  have M' := M
  obtain ⟨hx, hby, hml, hown, hnm, hret, hZ, hlk⟩ := M'
  have AA := A
  obtain ⟨q, cl, A, S, H⟩ := A
  subst hby
  obtain ⟨T', h', X', e', W', stp⟩ := stB X hx hZ eT A (own_inb S h0 h1) (g := mkF m pc ls (.int x :: .int j :: .ref a :: st)) rfl rfl hd
  have W2 : Wr h h' a j.toNatClampNeg (.int x) := by have q := W'; simp only [nar, hx8] at q; exact q
  exact own_st stp (g h' T' ⟨M, by rw [W'.size]; exact hn0, e', _, X', Fr.snoc X' N ha⟩ (own_I_set AA W2 _ (own_nat h0)) W2)
theorem own_zast (X : own_X p l e R s m args below meth c Z bytes maxL ret y n0 h T k n) (A : own_I Z h a .boolean nn gg) (ha : n0 ≤ a) (hd : decode bytes pc = .ok (.bastore, 1)) {j x : Int32} (h0 : 0 ≤ j.toInt) (h1 : j.toInt < nn) (hx1 : x &&& 1 = x)
    (g : ∀ h' T', own_X p l e R s m args below meth c Z bytes maxL ret y n0 h' T' k n → own_I Z h' a .boolean nn (own_u gg j.toInt x) → Wr h h' a j.toNatClampNeg (.int x) → own_G p e below (T'.setTop (mkF m (pc + 1) ls st)) Q) : own_G p e below (T.setTop (mkF m pc ls (.int x :: .int j :: .ref a :: st))) Q := by
  obtain ⟨M, hn0, eT, locs, X, N⟩ := X
  have M' := M
  obtain ⟨hx, hby, hml, hown, hnm, hret, hZ, hlk⟩ := M'
  have AA := A
  obtain ⟨q, cl, A, S, H⟩ := A
  subst hby
  obtain ⟨T', h', X', e', W', stp⟩ := stZ X hx hZ eT A (own_inb S h0 h1) (g := mkF m pc ls (.int x :: .int j :: .ref a :: st)) rfl rfl hd
  have W2 : Wr h h' a j.toNatClampNeg (.int x) := by have q := W'; simp only [nar, hx1] at q; exact q
  exact own_st stp (g h' T' ⟨M, by rw [W'.size]; exact hn0, e', _, X', Fr.snoc X' N ha⟩ (own_I_set AA W2 _ (own_nat h0)) W2)
theorem own_jast (X : own_X p l e R s m args below meth c Z bytes maxL ret y n0 h T k n) (A : own_A Z h a .long nn f) (ha : n0 ≤ a) (hd : decode bytes pc = .ok (.lastore, 1)) {j : Int32} {x : Int64} (h0 : 0 ≤ j.toInt) (h1 : j.toInt < nn)
    (g : ∀ h' T', own_X p l e R s m args below meth c Z bytes maxL ret y n0 h' T' k n → own_A Z h' a .long nn (own_u f j.toInt (.long x)) → Wr h h' a j.toNatClampNeg (.long x) → own_G p e below (T'.setTop (mkF m (pc + 1) ls st)) Q) : own_G p e below (T.setTop (mkF m pc ls (.long x :: .int j :: .ref a :: st))) Q := by
  obtain ⟨M, hn0, eT, locs, X, N⟩ := X
  have M' := M
  obtain ⟨hx, hby, hml, hown, hnm, hret, hZ, hlk⟩ := M'
  have AA := A
  obtain ⟨q, cl, A, S, H⟩ := A
  subst hby
  obtain ⟨T', h', X', e', W', stp⟩ := stJ X hx hZ eT A (own_inb S h0 h1) (g := mkF m pc ls (.long x :: .int j :: .ref a :: st)) rfl rfl hd
  exact own_st stp (g h' T' ⟨M, by rw [W'.size]; exact hn0, e', _, X', Fr.snoc X' N ha⟩ (own_A_set AA W' _ (own_nat h0)) W')
theorem own_newP (X : own_X p l e R s m args below meth c Z bytes maxL ret y n0 h T k n) {aty : ArrayType} (w : (Jvm.Cond.arrayClass (newarray.typeOf aty)).before a0 Z = true) (hd : decode bytes pc = .ok (.newarray aty, 2)) {v : Int32} (h0 : 0 ≤ v.toInt) (cap : Nat) (hcap : v.toInt ≤ cap) (hb : cap * 8 ≤ 536870912) (hc : k + 1 ≤ R.cells) (hs : n + cap ≤ R.slots)
    (g : ∀ h' T', own_X p l e R s m args below meth c Z bytes maxL ret y n0 h' T' (k + 1) (n + cap) → Ext h h' → own_A Z h' h.size (newarray.typeOf aty) v.toInt.toNat (fun _ => defaultValue (newarray.typeOf aty)) → own_G p e below (T'.setTop (mkF m (pc + 2) ls (.ref h.size :: st))) Q) : own_G p e below (T.setTop (mkF m pc ls (.int v :: st))) Q := by
  obtain ⟨M, hn0, eT, locs, X, N⟩ := X
  have M' := M
  obtain ⟨hx, hby, hml, hown, hnm, hret, hZ, hlk⟩ := M'
  subst hby
  have e1 := own_nat h0
  obtain ⟨T', h', cA, X', e', E', A', stp⟩ := newP X hx hZ w eT (g := mkF m pc ls (.int v :: st)) rfl hd rfl (own_idx h0) (cap := cap) (by omega) hb hc hs
  exact own_st stp (g h' T' ⟨M, Nat.le_trans hn0 E'.1, e', _, X', N⟩ E' (own_A_new A' h0))
theorem own_newI (X : own_X p l e R s m args below meth c Z bytes maxL ret y n0 h T k n) {aty : ArrayType} (w : (Jvm.Cond.arrayClass (newarray.typeOf aty)).before a0 Z = true) (hdf : defaultValue (newarray.typeOf aty) = .int 0) (hd : decode bytes pc = .ok (.newarray aty, 2)) {v : Int32} (h0 : 0 ≤ v.toInt) (cap : Nat) (hcap : v.toInt ≤ cap) (hb : cap * 8 ≤ 536870912) (hc : k + 1 ≤ R.cells) (hs : n + cap ≤ R.slots)
    (g : ∀ h' T', own_X p l e R s m args below meth c Z bytes maxL ret y n0 h' T' (k + 1) (n + cap) → Ext h h' → own_I Z h' h.size (newarray.typeOf aty) v.toInt.toNat (fun _ => 0) → own_G p e below (T'.setTop (mkF m (pc + 2) ls (.ref h.size :: st))) Q) : own_G p e below (T.setTop (mkF m pc ls (.int v :: st))) Q :=
  own_newP X w hd h0 cap hcap hb hc hs (fun h' T' X' E A => g h' T' X' E (own_A_eq A fun _ _ _ => hdf.symm))
end Arrs2
section Obj
variable {p : Program} {l : Launch} {e : Env} {R : Room} {s : State} {m : MethodId} {args : Array Value} {below : List Frame} {meth : Method} {c : Code} {Z : State} {bytes : ByteArray} {maxL : Nat} {ret : Option FieldType} {y : MethodName} {n0 : Nat} {h : Heap} {T : State} {k n : Nat} {Q : Outcome → State → Prop} {pc pc' : Nat} {ls ls' : Array Slot} {st st' : List Value} {a0 : Array Value}
/-- the constructor of Object -/
theorem own_init (X : own_X p l e R s m args below meth c Z bytes maxL ret y n0 h T k n) {i : Nat} (w1 : (Jvm.Cond.methodLink y.cls i Lib.objectInit).before a0 Z = true) (w2 : (Jvm.Cond.instanceMethod Lib.objectInit).before a0 Z = true) (w3 : (Jvm.Cond.code Lib.objectInit object_method_1_code 1 none).before a0 Z = true) (hd : decode bytes pc = .ok (.invokespecial i, 3)) {a : Addr} (hsz : ls.size = maxL) (hf : 1 ≤ R.frames) (hl : (st.map fun v => v.category).sum + 12 ≤ R.locals)
    (g : ∀ T', own_X p l e R s m args below meth c Z bytes maxL ret y n0 h T' k n → own_G p e below (T'.setTop (mkF m (pc + 3) ls st)) Q) : own_G p e below (T.setTop (mkF m pc ls (.ref a :: st))) Q := by
  obtain ⟨M, hn0, eT, locs, X, N⟩ := X
  have M' := M
  obtain ⟨hx, hby, hml, hown, hnm, hret, hZ, hlk⟩ := M'
  subst hby
  obtain ⟨T', X', e', stp⟩ := initO X hx hZ hown w1 w2 w3 eT (g := mkF m pc ls (.ref a :: st)) rfl (hsz.trans hml.symm) rfl hd hf (Nat.le_of_eq (Nat.zero_add _)) hl
  exact own_st stp (g T' ⟨M, hn0, e', _, X', N⟩)
end Obj
/-! ### own numbers -/
theorem own_addc {x k : Int32} {d : Int} (hk : k.toInt = d) (h1 : -2147483648 ≤ x.toInt + d) (h2 : x.toInt + d < 2147483648) : (x + k).toInt = x.toInt + d := by
  subst hk; exact Jvm.Kit.i32_add (by omega) (by omega)
theorem own_subc {x k : Int32} {d : Int} (hk : k.toInt = d) (h1 : -2147483648 ≤ x.toInt - d) (h2 : x.toInt - d < 2147483648) : (x - k).toInt = x.toInt - d := by
  subst hk; exact Jvm.Kit.i32_sub (by omega) (by omega)
theorem own_mulc {x k : Int32} {d : Int} (hk : k.toInt = d) (h1 : -2147483648 ≤ x.toInt * d) (h2 : x.toInt * d < 2147483648) : (x * k).toInt = x.toInt * d := by
  subst hk; exact Jvm.Kit.i32_mul (by omega) (by omega)
theorem own_i2b_int (x : Int32) : (own_i2b x).toInt = x.toInt.bmod 256 := by
  simp [own_i2b, Int8.toInt_toInt32, Int32.toInt_toInt8]
theorem own_i2b_b (x : Int32) : -128 ≤ (own_i2b x).toInt ∧ (own_i2b x).toInt < 128 ∧ (own_i2b x).toInt % 256 = x.toInt % 256 := by
  rw [own_i2b_int]
  have h1 := Int.bmod_emod (x := x.toInt) (m := 256)
  have h2 := Int.le_bmod (x := x.toInt) (m := 256) (by decide)
  have h3 := Int.bmod_lt (x := x.toInt) (m := 256) (by decide)
  omega
theorem own_i2b_fix (x : Int32) : (own_i2b x).toInt8.toInt32 = own_i2b x := by
  simp [own_i2b]
theorem own_i2b_id {x : Int32} (h1 : -128 ≤ x.toInt) (h2 : x.toInt < 128) : own_i2b x = x := by
  apply Int32.toInt_inj.mp
  have := own_i2b_b x
  omega
theorem own_irem_int (x y : Int32) : (own_irem x y).toInt = x.toInt.tmod y.toInt := by
  have a := (x % y).toInt_lt; have b := (x % y).le_toInt
  rw [Int32.toInt_mod] at a b
  rw [own_irem, Int32.toInt_sub, Int32.toInt_mul, Int32.toInt_div, Int.bmod_mul_bmod, Int.sub_bmod_bmod, Int.mul_comm, ← Int.tmod_def]
  exact Jvm.Kit.bmod32 b a
theorem own_irem_pos {x y : Int32} (h : 0 ≤ x.toInt) : (own_irem x y).toInt = x.toInt % y.toInt := by rw [own_irem_int, Int.tmod_eq_emod_of_nonneg h]
theorem own_idiv_pos {x y : Int32} (h : 0 ≤ x.toInt) : (x / y).toInt = x.toInt / y.toInt := by
  have a := x.toInt_lt
  rw [Jvm.Kit.i32_div (by omega), Int.tdiv_eq_ediv_of_nonneg h]
theorem own_lrem_pos {x y : Int64} (h : 0 ≤ x.toInt) : (own_lrem x y).toInt = x.toInt % y.toInt := by rw [own_lrem]; exact Jvm.Kit.i64_rem_nonneg h
theorem own_ldiv_pos {x y : Int64} (h : 0 ≤ x.toInt) : (x / y).toInt = x.toInt / y.toInt := by
  have a := x.toInt_lt
  rw [Jvm.Kit.i64_div (by omega), Int.tdiv_eq_ediv_of_nonneg h]
/-! bits -/
theorem own_lushr_bv (x : Int64) (y : Int32) (k : Nat) (hk : ((y &&& 0x3f).toInt64.toBitVec % 64).toNat = k) : (own_lushr x y).toBitVec = x.toBitVec >>> k := by
  simp only [own_lushr, UInt64.toBitVec_toInt64, UInt64.toBitVec_shiftRight, Int64.toBitVec_toUInt64, BitVec.ushiftRight_eq', hk]
theorem own_lshl_bv (x : Int64) (y : Int32) (k : Nat) (hk : ((y &&& 0x3f).toInt64.toBitVec.smod 64#64).toNat = k) : (own_lshl x y).toBitVec = x.toBitVec <<< k := by
  have e : (own_lshl x y).toBitVec = x.toBitVec <<< ((y &&& 0x3f).toInt64.toBitVec.smod 64#64) := rfl
  rw [e, BitVec.shiftLeft_eq', hk]
theorem own_iushr_bv (x : Int32) (y : Int32) (k : Nat) (hk : ((y &&& 31).toBitVec % 32).toNat = k) : (own_iushr x y).toBitVec = x.toBitVec >>> k := by
  simp only [own_iushr, UInt32.toBitVec_toInt32, UInt32.toBitVec_shiftRight, Int32.toBitVec_toUInt32, BitVec.ushiftRight_eq', hk]
theorem own_iushr_int (x y : Int32) (k : Nat) (hk : ((y &&& 31).toBitVec % 32).toNat = k) (h : 0 ≤ x.toInt) : (own_iushr x y).toInt = x.toInt / 2 ^ k := by
  have e : (own_iushr x y).toInt = (own_iushr x y).toBitVec.toInt := rfl
  have e1 : x.toInt = x.toBitVec.toInt := rfl
  rw [e, own_iushr_bv x y k hk, e1]
  rw [e1] at h
  have h2 : x.toBitVec.toInt = (x.toBitVec.toNat : Int) := by
    rw [BitVec.toInt_eq_toNat_cond] at h ⊢
    split at h
    · rw [if_pos (by assumption)]
    · have := x.toBitVec.isLt; omega
  have h3 : 2 * x.toBitVec.toNat < 2 ^ 32 := by
    have := BitVec.toInt_lt (x := x.toBitVec); omega
  rw [BitVec.toInt_eq_toNat_cond, BitVec.toNat_ushiftRight, Nat.shiftRight_eq_div_pow]
  have h4 : x.toBitVec.toNat / 2 ^ k ≤ x.toBitVec.toNat := Nat.div_le_self _ _
  rw [if_pos (by omega), h2, Int.natCast_ediv, Int.natCast_pow]
  rfl
theorem own_pos_nat {x : Int32} (h : 0 ≤ x.toInt) : x.toInt = (x.toBitVec.toNat : Int) := by
  have e : x.toInt = x.toBitVec.toInt := rfl
  rw [e] at h ⊢
  rw [BitVec.toInt_eq_toNat_cond] at h ⊢
  have := x.toBitVec.isLt
  split at h
  · rw [if_pos (by assumption)]
  · omega
theorem own_nat_pos {x : Int32} {n : Nat} (h : x.toBitVec.toNat = n) (hn : n < 2147483648) : x.toInt = (n : Int) := by
  have e : x.toInt = x.toBitVec.toInt := rfl
  rw [e, BitVec.toInt_eq_toNat_cond, h, if_pos (by omega)]
/-- an or of a multiple of 2^k and what lies below 2^k is their sum -/
theorem own_or {x y : Int32} (k : Nat) (hx : 0 ≤ x.toInt) (hx2 : x.toInt % 2 ^ k = 0) (hy : 0 ≤ y.toInt) (hy2 : y.toInt < 2 ^ k) : (x ||| y).toInt = x.toInt + y.toInt := by
  have e1 := own_pos_nat hx
  have e2 := own_pos_nat hy
  have b1 := Int32.toInt_lt x
  have b2 := Int32.toInt_lt y
  have hm : x.toBitVec.toNat % 2 ^ k = 0 := by
    rw [e1] at hx2
    have : ((x.toBitVec.toNat % 2 ^ k : Nat) : Int) = 0 := by rw [Int.natCast_emod, Int.natCast_pow]; exact hx2
    omega
  have hl : y.toBitVec.toNat < 2 ^ k := by
    rw [e2] at hy2
    have : (y.toBitVec.toNat : Int) < ((2 ^ k : Nat) : Int) := by rw [Int.natCast_pow]; exact hy2
    omega
  have hd : x.toBitVec.toNat = 2 ^ k * (x.toBitVec.toNat / 2 ^ k) := by
    have := Nat.div_add_mod x.toBitVec.toNat (2 ^ k); omega
  have e3 : (x ||| y).toBitVec.toNat = x.toBitVec.toNat + y.toBitVec.toNat := by
    rw [Int32.toBitVec_or, BitVec.toNat_or]
    generalize y.toBitVec.toNat = b at *
    rw [hd, ← Nat.two_pow_add_eq_or_of_lt hl]
  have hlt : (x ||| y).toBitVec.toNat < 2147483648 := by
    rw [Int32.toBitVec_or, BitVec.toNat_or]
    exact Nat.or_lt_two_pow (n := 31) (by omega) (by omega)
  rw [own_nat_pos e3 (by omega)]
  omega
theorem own_mask (x m : Int32) (k : Nat) (hk : k < 32) (hm : m.toBitVec.toNat = 2 ^ k - 1) : (x &&& m).toInt = x.toInt % 2 ^ k := Jvm.Kit.i32_mask x m hk hm
/-! the high bits of a byte -/
theorem own_fin256 {x : Int32} (h0 : 0 ≤ x.toInt) (h1 : x.toInt < 256) : ∃ n : Fin 256, x = Int32.ofNat n.val ∧ x.toInt = (n.val : Int) := by
  refine ⟨⟨x.toInt.toNat, by omega⟩, ?_, by show x.toInt = (x.toInt.toNat : Int); omega⟩
  apply Int32.toInt_inj.mp
  rw [Int32.toInt_ofNat_of_lt (by show x.toInt.toNat < _; omega)]
  show x.toInt = (x.toInt.toNat : Int); omega
theorem own_f192 : ∀ n : Fin 256, (Int32.ofNat n.val &&& 192).toInt = (n.val : Int) - (n.val : Int) % 64 := by decide +kernel
theorem own_f224 : ∀ n : Fin 256, (Int32.ofNat n.val &&& 224).toInt = (n.val : Int) - (n.val : Int) % 32 := by decide +kernel
theorem own_f240 : ∀ n : Fin 256, (Int32.ofNat n.val &&& 240).toInt = (n.val : Int) - (n.val : Int) % 16 := by decide +kernel
theorem own_f248 : ∀ n : Fin 256, (Int32.ofNat n.val &&& 248).toInt = (n.val : Int) - (n.val : Int) % 8 := by decide +kernel
theorem own_h192 {x : Int32} (h0 : 0 ≤ x.toInt) (h1 : x.toInt < 256) : (x &&& 192).toInt = x.toInt - x.toInt % 64 := by
  obtain ⟨n, e1, e2⟩ := own_fin256 h0 h1; rw [e2, e1]; exact own_f192 n
theorem own_h224 {x : Int32} (h0 : 0 ≤ x.toInt) (h1 : x.toInt < 256) : (x &&& 224).toInt = x.toInt - x.toInt % 32 := by
  obtain ⟨n, e1, e2⟩ := own_fin256 h0 h1; rw [e2, e1]; exact own_f224 n
theorem own_h240 {x : Int32} (h0 : 0 ≤ x.toInt) (h1 : x.toInt < 256) : (x &&& 240).toInt = x.toInt - x.toInt % 16 := by
  obtain ⟨n, e1, e2⟩ := own_fin256 h0 h1; rw [e2, e1]; exact own_f240 n
theorem own_h248 {x : Int32} (h0 : 0 ≤ x.toInt) (h1 : x.toInt < 256) : (x &&& 248).toInt = x.toInt - x.toInt % 8 := by
  obtain ⟨n, e1, e2⟩ := own_fin256 h0 h1; rw [e2, e1]; exact own_f248 n
theorem own_m255 (x : Int32) : (x &&& 255).toInt = x.toInt % 256 := Jvm.Kit.i32_mask x 255 (k := 8) (by decide) (by decide)
theorem own_m63 (x : Int32) : (x &&& 63).toInt = x.toInt % 64 := Jvm.Kit.i32_mask x 63 (k := 6) (by decide) (by decide)
theorem own_l192 (x : Int32) : (x &&& 192).toInt = x.toInt % 256 - x.toInt % 64 := by
  have e : x &&& 192 = (x &&& 255) &&& 192 := by rw [Int32.and_assoc]; rfl
  have h := own_m255 x
  rw [e, own_h192 (by omega) (by omega), h]; omega
theorem own_shr (x y : Int32) (k : Nat) (hk : ((y &&& 31).toBitVec.smod 32).toNat = k) : (own_ishr x y).toInt = x.toInt / 2 ^ k := Jvm.Kit.i32_shr x _ hk
theorem own_shl (x y : Int32) (k : Nat) (hk : ((y &&& 31).toBitVec.smod 32).toNat = k) (h1 : -2147483648 ≤ x.toInt * 2 ^ k) (h2 : x.toInt * 2 ^ k < 2147483648) : (own_ishl x y).toInt = x.toInt * 2 ^ k := Jvm.Kit.i32_shl x _ hk (by omega) (by omega)
/-- an or with a constant that is a multiple of 2^k -/
theorem own_orc {x y : Int32} {d : Int} (k : Nat) (hx : x.toInt = d) (h0 : 0 ≤ d) (h1 : d % 2 ^ k = 0) (hy : 0 ≤ y.toInt) (hy2 : y.toInt < 2 ^ k) : (x ||| y).toInt = d + y.toInt := by
  subst hx; exact own_or k h0 h1 hy hy2
theorem own_b255 (x : Int32) : (own_i2b x &&& 255).toInt = x.toInt % 256 := by
  have h1 := own_m255 (own_i2b x)
  have h2 := own_i2b_b x
  omega
theorem own_ofNat {n : Nat} (h : n < 2147483648) : (Int32.ofNat n).toInt = (n : Int) := Int32.toInt_ofNat_of_lt (by omega)
def own_pk (s i : Int32) (v : Int64) : Int64 := if ((own_iushr s i) &&& 1).toInt = 0 then v &&& 9223372036854775807 else v
def own_ok (f0 f1 f2 f3 f4 f5 f6 f7 f8 : Int64) : Int32 := if 0 ≤ f0.toInt ∧ 0 ≤ f1.toInt ∧ 0 ≤ f2.toInt ∧ 0 ≤ f3.toInt ∧ 0 ≤ f4.toInt ∧ 0 ≤ f5.toInt ∧ 0 ≤ f6.toInt ∧ 0 ≤ f7.toInt ∧ 0 ≤ f8.toInt then 1 else 0
theorem own_or_lt (a b : Int64) : (a ||| b).toInt < 0 ↔ a.toInt < 0 ∨ b.toInt < 0 := by
  have e (z : Int64) : z.toInt < 0 ↔ z.toBitVec.msb = true := by
    have : z.toInt = z.toBitVec.toInt := rfl
    rw [this, BitVec.msb_eq_toInt]; simp
  rw [e, e, e, Int64.toBitVec_or, BitVec.msb_or]; simp
abbrev own_y1 : MethodName := ⟨"com/example/deltastripe/deltastripe/TrafficIsValidPinLaw", "pick", "(IIJ)J"⟩
theorem pl1 : plainFor own_y1 = true := plainFor_of_name (by first | (simp [plainName, overriddenIn]; done) | decide +kernel)
def B1_0_5 : List (Instr × Nat) := [(.iload_n 0, 1), (.iload_n 1, 1), (.iushr, 1), (.iconst 1, 1), (.iand, 1)]
theorem B1_0_5d : own_d method_2_code 0 B1_0_5 5 = true := by decide +kernel
theorem d1_5 : decode method_2_code 5 = .ok (.ifCond .eq 7, 3) := by decide +kernel
def B1_12_13 : List (Instr × Nat) := [(.lload_n 2, 1)]
theorem B1_12_13d : own_d method_2_code 12 B1_12_13 13 = true := by decide +kernel
theorem d1_13 : decode method_2_code 13 = .ok (.ldc2_w 9, 3) := by decide +kernel
def B1_16_17 : List (Instr × Nat) := [(.land, 1)]
theorem B1_16_17d : own_d method_2_code 16 B1_16_17 17 = true := by decide +kernel
theorem d1_17 : decode method_2_code 17 = .ok (.lreturn, 1) := by decide +kernel
def B1_8_9 : List (Instr × Nat) := [(.lload_n 2, 1)]
theorem B1_8_9d : own_d method_2_code 8 B1_8_9 9 = true := by decide +kernel
theorem d1_9 : decode method_2_code 9 = .ok (.goto 8, 3) := by decide +kernel
set_option maxRecDepth 65536 in
set_option maxHeartbeats 40000000 in
theorem c_pick (l : Launch) (Z : State) (a0 : Array Value) (hw : ∀ d ∈ tables_1, d.before a0 Z = true) (s1 : Int32) (i : Int32) (v0 : Int64) (h0 : Heap) (n0 : Nat) (Z0 : n0 ≤ h0.size)  :
    own_C l Z own_y1 method_2_code 4 (some .long) ({ frames := 0, cells := 0, slots := 0, locals := 0 } : Room) #[(.int s1), (.int i), (.long v0)] h0 n0 (fun v h => v = some (.long (own_pk s1 i v0)) ∧ h = h0) := by
  refine own_body pl1 Z0 (ls := #[.val (.int s1), .val (.int i), .val (.long v0), .second]) (fun m => by first | (simp [entryFrame, mkF, argsToLocals, Value.category]; done) | rfl) ?_
  intro p e s m below meth c T0 X0
  refine own_blk X0 B1_0_5 B1_0_5d (ls' := #[.val (.int s1), .val (.int i), .val (.long v0), .second]) (st' := [(.int ((own_iushr s1 i) &&& (1 : Int32)))]) rfl ?_
  refine own_if X0 d1_5 (pc' := 12) (by decide) (fun c5 => ?_) (fun c5 => ?_)
  · have c5 : ((own_iushr s1 i) &&& (1 : Int32)).toInt = 0 := c5
    refine own_blk X0 B1_12_13 B1_12_13d (ls' := #[.val (.int s1), .val (.int i), .val (.long v0), .second]) (st' := [(.long v0)]) rfl ?_
    refine own_ldc2 X0 (hw _ (List.mem_of_getElem? (i := 4) rfl)) d1_13 ?_
    refine own_blk X0 B1_16_17 B1_16_17d (ls' := #[.val (.int s1), .val (.int i), .val (.long v0), .second]) (st' := [(.long (v0 &&& (9223372036854775807 : Int64)))]) rfl ?_
    exact own_retL X0 d1_17 (by decide) (by decide) (⟨by rw [own_pk, if_pos c5], rfl⟩)
  · have c5 : ¬ (((own_iushr s1 i) &&& (1 : Int32)).toInt = 0) := c5
    refine own_blk X0 B1_8_9 B1_8_9d (ls' := #[.val (.int s1), .val (.int i), .val (.long v0), .second]) (st' := [(.long v0)]) rfl ?_
    refine own_goto X0 d1_9 (pc' := 17) (by decide) ?_
    exact own_retL X0 d1_17 (by decide) (by decide) (⟨by rw [own_pk, if_neg c5], rfl⟩)
abbrev own_y3 : MethodName := ⟨"java/lang/Record", "<init>", "()V"⟩
theorem pl3 : plainFor own_y3 = true := plainFor_of_name (by first | (simp [plainName, overriddenIn]; done) | decide +kernel)
def B3_0_1 : List (Instr × Nat) := [(.aload_n 0, 1)]
theorem B3_0_1d : own_d jdk_30_method_1_code 0 B3_0_1 1 = true := by decide +kernel
theorem d3_1 : decode jdk_30_method_1_code 1 = .ok (.invokespecial 1, 3) := by decide +kernel
theorem d3_4 : decode jdk_30_method_1_code 4 = .ok (.return_, 1) := by decide +kernel
set_option maxRecDepth 65536 in
set_option maxHeartbeats 40000000 in
theorem c_rec (l : Launch) (Z : State) (a0 : Array Value) (hw : ∀ d ∈ tables_1, d.before a0 Z = true) (a : Addr) (h0 : Heap) (n0 : Nat) (Z0 : n0 ≤ h0.size)  :
    own_C l Z own_y3 jdk_30_method_1_code 1 none ({ frames := 1, cells := 0, slots := 0, locals := 12 } : Room) #[(.ref a)] h0 n0 (fun v h => v = none ∧ h = h0) := by
  refine own_body pl3 Z0 (ls := #[.val (.ref a)]) (fun m => by first | (simp [entryFrame, mkF, argsToLocals, Value.category]; done) | rfl) ?_
  intro p e s m below meth c T0 X0
  refine own_blk X0 B3_0_1 B3_0_1d (ls' := #[.val (.ref a)]) (st' := [(.ref a)]) rfl ?_
  refine own_init X0 (hw _ (List.mem_of_getElem? (i := 16) rfl)) (hw _ (List.mem_of_getElem? (i := 17) rfl)) (hw _ (List.mem_of_getElem? (i := 18) rfl)) d3_1 rfl (by decide) (Nat.le_of_ble_eq_true rfl) (fun T1 X1 => ?_)
  show own_G p e below (T1.setTop (mkF m 4 #[.val (.ref a)] [])) _
  exact own_retV X1 d3_4 (by decide) (by decide) (⟨rfl, rfl⟩)
abbrev own_y2 : MethodName := ⟨"com/example/deltastripe/deltastripe/Traffic", "<init>", "(JJJJJJJJJ)V"⟩
theorem pl2 : plainFor own_y2 = true := plainFor_of_name (by first | (simp [plainName, overriddenIn]; done) | decide +kernel)
def B2_0_1 : List (Instr × Nat) := [(.aload_n 0, 1)]
theorem B2_0_1d : own_d prog_106_method_1_code 0 B2_0_1 1 = true := by decide +kernel
theorem d2_1 : decode prog_106_method_1_code 1 = .ok (.invokespecial 7, 3) := by decide +kernel
theorem pd3 : parseMethodDescriptor "()V" = some ⟨[], none⟩ := by decide +kernel
def B2_4_6 : List (Instr × Nat) := [(.aload_n 0, 1), (.lload_n 1, 1)]
theorem B2_4_6d : own_d prog_106_method_1_code 4 B2_4_6 6 = true := by decide +kernel
theorem d2_6 : decode prog_106_method_1_code 6 = .ok (.putfield 13, 3) := by decide +kernel
def B2_9_11 : List (Instr × Nat) := [(.aload_n 0, 1), (.lload_n 3, 1)]
theorem B2_9_11d : own_d prog_106_method_1_code 9 B2_9_11 11 = true := by decide +kernel
theorem d2_11 : decode prog_106_method_1_code 11 = .ok (.putfield 17, 3) := by decide +kernel
def B2_14_17 : List (Instr × Nat) := [(.aload_n 0, 1), (.lload 5, 2)]
theorem B2_14_17d : own_d prog_106_method_1_code 14 B2_14_17 17 = true := by decide +kernel
theorem d2_17 : decode prog_106_method_1_code 17 = .ok (.putfield 20, 3) := by decide +kernel
def B2_20_23 : List (Instr × Nat) := [(.aload_n 0, 1), (.lload 7, 2)]
theorem B2_20_23d : own_d prog_106_method_1_code 20 B2_20_23 23 = true := by decide +kernel
theorem d2_23 : decode prog_106_method_1_code 23 = .ok (.putfield 23, 3) := by decide +kernel
def B2_26_29 : List (Instr × Nat) := [(.aload_n 0, 1), (.lload 9, 2)]
theorem B2_26_29d : own_d prog_106_method_1_code 26 B2_26_29 29 = true := by decide +kernel
theorem d2_29 : decode prog_106_method_1_code 29 = .ok (.putfield 26, 3) := by decide +kernel
def B2_32_35 : List (Instr × Nat) := [(.aload_n 0, 1), (.lload 11, 2)]
theorem B2_32_35d : own_d prog_106_method_1_code 32 B2_32_35 35 = true := by decide +kernel
theorem d2_35 : decode prog_106_method_1_code 35 = .ok (.putfield 29, 3) := by decide +kernel
def B2_38_41 : List (Instr × Nat) := [(.aload_n 0, 1), (.lload 13, 2)]
theorem B2_38_41d : own_d prog_106_method_1_code 38 B2_38_41 41 = true := by decide +kernel
theorem d2_41 : decode prog_106_method_1_code 41 = .ok (.putfield 32, 3) := by decide +kernel
def B2_44_47 : List (Instr × Nat) := [(.aload_n 0, 1), (.lload 15, 2)]
theorem B2_44_47d : own_d prog_106_method_1_code 44 B2_44_47 47 = true := by decide +kernel
theorem d2_47 : decode prog_106_method_1_code 47 = .ok (.putfield 35, 3) := by decide +kernel
def B2_50_53 : List (Instr × Nat) := [(.aload_n 0, 1), (.lload 17, 2)]
theorem B2_50_53d : own_d prog_106_method_1_code 50 B2_50_53 53 = true := by decide +kernel
theorem d2_53 : decode prog_106_method_1_code 53 = .ok (.putfield 38, 3) := by decide +kernel
theorem d2_56 : decode prog_106_method_1_code 56 = .ok (.return_, 1) := by decide +kernel
set_option maxRecDepth 65536 in
set_option maxHeartbeats 40000000 in
theorem c_init (l : Launch) (Z : State) (a0 : Array Value) (hw : ∀ d ∈ tables_1, d.before a0 Z = true) (a : Addr) (f0 : Int64) (f1 : Int64) (f2 : Int64) (f3 : Int64) (f4 : Int64) (f5 : Int64) (f6 : Int64) (f7 : Int64) (f8 : Int64) (h0 : Heap) (n0 : Nat) (Z0 : n0 ≤ h0.size) (n_a : n0 ≤ a) (E : Exa Z h0 a "com/example/deltastripe/deltastripe/Traffic") (P0 : (Fld Z h0 a "com/example/deltastripe/deltastripe/Traffic" "read" "J" (.long (0 : Int64)))) (P1 : (Fld Z h0 a "com/example/deltastripe/deltastripe/Traffic" "swap" "J" (.long (0 : Int64)))) (P2 : (Fld Z h0 a "com/example/deltastripe/deltastripe/Traffic" "add" "J" (.long (0 : Int64)))) (P3 : (Fld Z h0 a "com/example/deltastripe/deltastripe/Traffic" "collect" "J" (.long (0 : Int64)))) (P4 : (Fld Z h0 a "com/example/deltastripe/deltastripe/Traffic" "other" "J" (.long (0 : Int64)))) (P5 : (Fld Z h0 a "com/example/deltastripe/deltastripe/Traffic" "payloadIn" "J" (.long (0 : Int64)))) (P6 : (Fld Z h0 a "com/example/deltastripe/deltastripe/Traffic" "payloadOut" "J" (.long (0 : Int64)))) (P7 : (Fld Z h0 a "com/example/deltastripe/deltastripe/Traffic" "bytesIn" "J" (.long (0 : Int64)))) (P8 : (Fld Z h0 a "com/example/deltastripe/deltastripe/Traffic" "bytesOut" "J" (.long (0 : Int64)))) :
    own_C l Z own_y2 prog_106_method_1_code 19 none ({ frames := 2, cells := 0, slots := 0, locals := 24 } : Room) #[(.ref a), (.long f0), (.long f1), (.long f2), (.long f3), (.long f4), (.long f5), (.long f6), (.long f7), (.long f8)] h0 n0 (fun v h => v = none ∧ Keep h0 h [a] ∧ Exa Z h a "com/example/deltastripe/deltastripe/Traffic" ∧ (Fld Z h a "com/example/deltastripe/deltastripe/Traffic" "read" "J" (.long f0)) ∧ (Fld Z h a "com/example/deltastripe/deltastripe/Traffic" "swap" "J" (.long f1)) ∧ (Fld Z h a "com/example/deltastripe/deltastripe/Traffic" "add" "J" (.long f2)) ∧ (Fld Z h a "com/example/deltastripe/deltastripe/Traffic" "collect" "J" (.long f3)) ∧ (Fld Z h a "com/example/deltastripe/deltastripe/Traffic" "other" "J" (.long f4)) ∧ (Fld Z h a "com/example/deltastripe/deltastripe/Traffic" "payloadIn" "J" (.long f5)) ∧ (Fld Z h a "com/example/deltastripe/deltastripe/Traffic" "payloadOut" "J" (.long f6)) ∧ (Fld Z h a "com/example/deltastripe/deltastripe/Traffic" "bytesIn" "J" (.long f7)) ∧ (Fld Z h a "com/example/deltastripe/deltastripe/Traffic" "bytesOut" "J" (.long f8))) := by
  refine own_body pl2 Z0 (ls := #[.val (.ref a), .val (.long f0), .second, .val (.long f1), .second, .val (.long f2), .second, .val (.long f3), .second, .val (.long f4), .second, .val (.long f5), .second, .val (.long f6), .second, .val (.long f7), .second, .val (.long f8), .second]) (fun m => by first | (simp [entryFrame, mkF, argsToLocals, Value.category]; done) | rfl) ?_
  intro p e s m below meth c T0 X0
  have K0 : Keep h0 h0 [a] := Keep.refl _ _
  refine own_blk X0 B2_0_1 B2_0_1d (ls' := #[.val (.ref a), .val (.long f0), .second, .val (.long f1), .second, .val (.long f2), .second, .val (.long f3), .second, .val (.long f4), .second, .val (.long f5), .second, .val (.long f6), .second, .val (.long f7), .second, .val (.long f8), .second]) (st' := [(.ref a)]) rfl ?_
  refine own_callN X0 rfl (hw _ (List.mem_of_getElem? (i := 11) rfl)) (hw _ (List.mem_of_getElem? (i := 12) rfl)) (hw _ (List.mem_of_getElem? (i := 14) rfl)) (hw _ (List.mem_of_getElem? (i := 15) rfl)) (by decide) (c_rec l Z a0 hw a h0 n0 X0.2.1) d2_1 [] [] rfl rfl pd3 rfl rfl (by decide) (Nat.le_of_ble_eq_true rfl) (by decide) (by decide) (fun _ _ q => by rw [q.2]; exact X0.2.1) (fun v1 h1 T1 X1 q1 => ?_)
  obtain ⟨rfl, e1⟩ := q1
  rw [e1] at X1
  show own_G p e below (T1.setTop (mkF m 4 #[.val (.ref a), .val (.long f0), .second, .val (.long f1), .second, .val (.long f2), .second, .val (.long f3), .second, .val (.long f4), .second, .val (.long f5), .second, .val (.long f6), .second, .val (.long f7), .second, .val (.long f8), .second] [])) _
  refine own_blk X1 B2_4_6 B2_4_6d (ls' := #[.val (.ref a), .val (.long f0), .second, .val (.long f1), .second, .val (.long f2), .second, .val (.long f3), .second, .val (.long f4), .second, .val (.long f5), .second, .val (.long f6), .second, .val (.long f7), .second, .val (.long f8), .second]) (st' := [(.long f0), (.ref a)]) rfl ?_
  refine own_putF X1 (hw _ (List.mem_of_getElem? (i := 19) rfl)) P0 E (Or.inr ⟨(hw _ (List.mem_of_getElem? (i := 20) rfl)), rfl, rfl⟩) (hw _ (List.mem_of_getElem? (i := 6) rfl)) (ty := .long) (by decide) rfl rfl n_a d2_6 (fun h2 T2 X2 W2 => ?_)
  have K2 := K0.wr W2 (Or.inl (by simp))
  have G2_a_read := Fld.same W2 P0
  have G2_a_swap := Fld.other W2 P1 (Or.inr (slot_ne (Or.inr (hw _ (List.mem_of_getElem? (i := 22) rfl))) (Or.inr (hw _ (List.mem_of_getElem? (i := 20) rfl))) (by decide) (t := .long) (t' := .long) (by decide) (by decide)))
  have G2_a_add := Fld.other W2 P2 (Or.inr (slot_ne (Or.inr (hw _ (List.mem_of_getElem? (i := 24) rfl))) (Or.inr (hw _ (List.mem_of_getElem? (i := 20) rfl))) (by decide) (t := .long) (t' := .long) (by decide) (by decide)))
  have G2_a_collect := Fld.other W2 P3 (Or.inr (slot_ne (Or.inr (hw _ (List.mem_of_getElem? (i := 26) rfl))) (Or.inr (hw _ (List.mem_of_getElem? (i := 20) rfl))) (by decide) (t := .long) (t' := .long) (by decide) (by decide)))
  have G2_a_other := Fld.other W2 P4 (Or.inr (slot_ne (Or.inr (hw _ (List.mem_of_getElem? (i := 28) rfl))) (Or.inr (hw _ (List.mem_of_getElem? (i := 20) rfl))) (by decide) (t := .long) (t' := .long) (by decide) (by decide)))
  have G2_a_payloadIn := Fld.other W2 P5 (Or.inr (slot_ne (Or.inr (hw _ (List.mem_of_getElem? (i := 30) rfl))) (Or.inr (hw _ (List.mem_of_getElem? (i := 20) rfl))) (by decide) (t := .long) (t' := .long) (by decide) (by decide)))
  have G2_a_payloadOut := Fld.other W2 P6 (Or.inr (slot_ne (Or.inr (hw _ (List.mem_of_getElem? (i := 32) rfl))) (Or.inr (hw _ (List.mem_of_getElem? (i := 20) rfl))) (by decide) (t := .long) (t' := .long) (by decide) (by decide)))
  have G2_a_bytesIn := Fld.other W2 P7 (Or.inr (slot_ne (Or.inr (hw _ (List.mem_of_getElem? (i := 34) rfl))) (Or.inr (hw _ (List.mem_of_getElem? (i := 20) rfl))) (by decide) (t := .long) (t' := .long) (by decide) (by decide)))
  have G2_a_bytesOut := Fld.other W2 P8 (Or.inr (slot_ne (Or.inr (hw _ (List.mem_of_getElem? (i := 36) rfl))) (Or.inr (hw _ (List.mem_of_getElem? (i := 20) rfl))) (by decide) (t := .long) (t' := .long) (by decide) (by decide)))
  have Q2_a := Exa.wr W2 E
  show own_G p e below (T2.setTop (mkF m 9 #[.val (.ref a), .val (.long f0), .second, .val (.long f1), .second, .val (.long f2), .second, .val (.long f3), .second, .val (.long f4), .second, .val (.long f5), .second, .val (.long f6), .second, .val (.long f7), .second, .val (.long f8), .second] [])) _
  refine own_blk X2 B2_9_11 B2_9_11d (ls' := #[.val (.ref a), .val (.long f0), .second, .val (.long f1), .second, .val (.long f2), .second, .val (.long f3), .second, .val (.long f4), .second, .val (.long f5), .second, .val (.long f6), .second, .val (.long f7), .second, .val (.long f8), .second]) (st' := [(.long f1), (.ref a)]) rfl ?_
  refine own_putF X2 (hw _ (List.mem_of_getElem? (i := 21) rfl)) G2_a_swap Q2_a (Or.inr ⟨(hw _ (List.mem_of_getElem? (i := 22) rfl)), rfl, rfl⟩) (hw _ (List.mem_of_getElem? (i := 6) rfl)) (ty := .long) (by decide) rfl rfl n_a d2_11 (fun h3 T3 X3 W3 => ?_)
  have K3 := K2.wr W3 (Or.inl (by simp))
  have G3_a_read := Fld.other W3 G2_a_read (Or.inr (slot_ne (Or.inr (hw _ (List.mem_of_getElem? (i := 20) rfl))) (Or.inr (hw _ (List.mem_of_getElem? (i := 22) rfl))) (by decide) (t := .long) (t' := .long) (by decide) (by decide)))
  have G3_a_swap := Fld.same W3 G2_a_swap
  have G3_a_add := Fld.other W3 G2_a_add (Or.inr (slot_ne (Or.inr (hw _ (List.mem_of_getElem? (i := 24) rfl))) (Or.inr (hw _ (List.mem_of_getElem? (i := 22) rfl))) (by decide) (t := .long) (t' := .long) (by decide) (by decide)))
  have G3_a_collect := Fld.other W3 G2_a_collect (Or.inr (slot_ne (Or.inr (hw _ (List.mem_of_getElem? (i := 26) rfl))) (Or.inr (hw _ (List.mem_of_getElem? (i := 22) rfl))) (by decide) (t := .long) (t' := .long) (by decide) (by decide)))
  have G3_a_other := Fld.other W3 G2_a_other (Or.inr (slot_ne (Or.inr (hw _ (List.mem_of_getElem? (i := 28) rfl))) (Or.inr (hw _ (List.mem_of_getElem? (i := 22) rfl))) (by decide) (t := .long) (t' := .long) (by decide) (by decide)))
  have G3_a_payloadIn := Fld.other W3 G2_a_payloadIn (Or.inr (slot_ne (Or.inr (hw _ (List.mem_of_getElem? (i := 30) rfl))) (Or.inr (hw _ (List.mem_of_getElem? (i := 22) rfl))) (by decide) (t := .long) (t' := .long) (by decide) (by decide)))
  have G3_a_payloadOut := Fld.other W3 G2_a_payloadOut (Or.inr (slot_ne (Or.inr (hw _ (List.mem_of_getElem? (i := 32) rfl))) (Or.inr (hw _ (List.mem_of_getElem? (i := 22) rfl))) (by decide) (t := .long) (t' := .long) (by decide) (by decide)))
  have G3_a_bytesIn := Fld.other W3 G2_a_bytesIn (Or.inr (slot_ne (Or.inr (hw _ (List.mem_of_getElem? (i := 34) rfl))) (Or.inr (hw _ (List.mem_of_getElem? (i := 22) rfl))) (by decide) (t := .long) (t' := .long) (by decide) (by decide)))
  have G3_a_bytesOut := Fld.other W3 G2_a_bytesOut (Or.inr (slot_ne (Or.inr (hw _ (List.mem_of_getElem? (i := 36) rfl))) (Or.inr (hw _ (List.mem_of_getElem? (i := 22) rfl))) (by decide) (t := .long) (t' := .long) (by decide) (by decide)))
  have Q3_a := Exa.wr W3 Q2_a
  show own_G p e below (T3.setTop (mkF m 14 #[.val (.ref a), .val (.long f0), .second, .val (.long f1), .second, .val (.long f2), .second, .val (.long f3), .second, .val (.long f4), .second, .val (.long f5), .second, .val (.long f6), .second, .val (.long f7), .second, .val (.long f8), .second] [])) _
  refine own_blk X3 B2_14_17 B2_14_17d (ls' := #[.val (.ref a), .val (.long f0), .second, .val (.long f1), .second, .val (.long f2), .second, .val (.long f3), .second, .val (.long f4), .second, .val (.long f5), .second, .val (.long f6), .second, .val (.long f7), .second, .val (.long f8), .second]) (st' := [(.long f2), (.ref a)]) rfl ?_
  refine own_putF X3 (hw _ (List.mem_of_getElem? (i := 23) rfl)) G3_a_add Q3_a (Or.inr ⟨(hw _ (List.mem_of_getElem? (i := 24) rfl)), rfl, rfl⟩) (hw _ (List.mem_of_getElem? (i := 6) rfl)) (ty := .long) (by decide) rfl rfl n_a d2_17 (fun h4 T4 X4 W4 => ?_)
  have K4 := K3.wr W4 (Or.inl (by simp))
  have G4_a_read := Fld.other W4 G3_a_read (Or.inr (slot_ne (Or.inr (hw _ (List.mem_of_getElem? (i := 20) rfl))) (Or.inr (hw _ (List.mem_of_getElem? (i := 24) rfl))) (by decide) (t := .long) (t' := .long) (by decide) (by decide)))
  have G4_a_swap := Fld.other W4 G3_a_swap (Or.inr (slot_ne (Or.inr (hw _ (List.mem_of_getElem? (i := 22) rfl))) (Or.inr (hw _ (List.mem_of_getElem? (i := 24) rfl))) (by decide) (t := .long) (t' := .long) (by decide) (by decide)))
  have G4_a_add := Fld.same W4 G3_a_add
  have G4_a_collect := Fld.other W4 G3_a_collect (Or.inr (slot_ne (Or.inr (hw _ (List.mem_of_getElem? (i := 26) rfl))) (Or.inr (hw _ (List.mem_of_getElem? (i := 24) rfl))) (by decide) (t := .long) (t' := .long) (by decide) (by decide)))
  have G4_a_other := Fld.other W4 G3_a_other (Or.inr (slot_ne (Or.inr (hw _ (List.mem_of_getElem? (i := 28) rfl))) (Or.inr (hw _ (List.mem_of_getElem? (i := 24) rfl))) (by decide) (t := .long) (t' := .long) (by decide) (by decide)))
  have G4_a_payloadIn := Fld.other W4 G3_a_payloadIn (Or.inr (slot_ne (Or.inr (hw _ (List.mem_of_getElem? (i := 30) rfl))) (Or.inr (hw _ (List.mem_of_getElem? (i := 24) rfl))) (by decide) (t := .long) (t' := .long) (by decide) (by decide)))
  have G4_a_payloadOut := Fld.other W4 G3_a_payloadOut (Or.inr (slot_ne (Or.inr (hw _ (List.mem_of_getElem? (i := 32) rfl))) (Or.inr (hw _ (List.mem_of_getElem? (i := 24) rfl))) (by decide) (t := .long) (t' := .long) (by decide) (by decide)))
  have G4_a_bytesIn := Fld.other W4 G3_a_bytesIn (Or.inr (slot_ne (Or.inr (hw _ (List.mem_of_getElem? (i := 34) rfl))) (Or.inr (hw _ (List.mem_of_getElem? (i := 24) rfl))) (by decide) (t := .long) (t' := .long) (by decide) (by decide)))
  have G4_a_bytesOut := Fld.other W4 G3_a_bytesOut (Or.inr (slot_ne (Or.inr (hw _ (List.mem_of_getElem? (i := 36) rfl))) (Or.inr (hw _ (List.mem_of_getElem? (i := 24) rfl))) (by decide) (t := .long) (t' := .long) (by decide) (by decide)))
  have Q4_a := Exa.wr W4 Q3_a
  show own_G p e below (T4.setTop (mkF m 20 #[.val (.ref a), .val (.long f0), .second, .val (.long f1), .second, .val (.long f2), .second, .val (.long f3), .second, .val (.long f4), .second, .val (.long f5), .second, .val (.long f6), .second, .val (.long f7), .second, .val (.long f8), .second] [])) _
  refine own_blk X4 B2_20_23 B2_20_23d (ls' := #[.val (.ref a), .val (.long f0), .second, .val (.long f1), .second, .val (.long f2), .second, .val (.long f3), .second, .val (.long f4), .second, .val (.long f5), .second, .val (.long f6), .second, .val (.long f7), .second, .val (.long f8), .second]) (st' := [(.long f3), (.ref a)]) rfl ?_
  refine own_putF X4 (hw _ (List.mem_of_getElem? (i := 25) rfl)) G4_a_collect Q4_a (Or.inr ⟨(hw _ (List.mem_of_getElem? (i := 26) rfl)), rfl, rfl⟩) (hw _ (List.mem_of_getElem? (i := 6) rfl)) (ty := .long) (by decide) rfl rfl n_a d2_23 (fun h5 T5 X5 W5 => ?_)
  have K5 := K4.wr W5 (Or.inl (by simp))
  have G5_a_read := Fld.other W5 G4_a_read (Or.inr (slot_ne (Or.inr (hw _ (List.mem_of_getElem? (i := 20) rfl))) (Or.inr (hw _ (List.mem_of_getElem? (i := 26) rfl))) (by decide) (t := .long) (t' := .long) (by decide) (by decide)))
  have G5_a_swap := Fld.other W5 G4_a_swap (Or.inr (slot_ne (Or.inr (hw _ (List.mem_of_getElem? (i := 22) rfl))) (Or.inr (hw _ (List.mem_of_getElem? (i := 26) rfl))) (by decide) (t := .long) (t' := .long) (by decide) (by decide)))
  have G5_a_add := Fld.other W5 G4_a_add (Or.inr (slot_ne (Or.inr (hw _ (List.mem_of_getElem? (i := 24) rfl))) (Or.inr (hw _ (List.mem_of_getElem? (i := 26) rfl))) (by decide) (t := .long) (t' := .long) (by decide) (by decide)))
  have G5_a_collect := Fld.same W5 G4_a_collect
  have G5_a_other := Fld.other W5 G4_a_other (Or.inr (slot_ne (Or.inr (hw _ (List.mem_of_getElem? (i := 28) rfl))) (Or.inr (hw _ (List.mem_of_getElem? (i := 26) rfl))) (by decide) (t := .long) (t' := .long) (by decide) (by decide)))
  have G5_a_payloadIn := Fld.other W5 G4_a_payloadIn (Or.inr (slot_ne (Or.inr (hw _ (List.mem_of_getElem? (i := 30) rfl))) (Or.inr (hw _ (List.mem_of_getElem? (i := 26) rfl))) (by decide) (t := .long) (t' := .long) (by decide) (by decide)))
  have G5_a_payloadOut := Fld.other W5 G4_a_payloadOut (Or.inr (slot_ne (Or.inr (hw _ (List.mem_of_getElem? (i := 32) rfl))) (Or.inr (hw _ (List.mem_of_getElem? (i := 26) rfl))) (by decide) (t := .long) (t' := .long) (by decide) (by decide)))
  have G5_a_bytesIn := Fld.other W5 G4_a_bytesIn (Or.inr (slot_ne (Or.inr (hw _ (List.mem_of_getElem? (i := 34) rfl))) (Or.inr (hw _ (List.mem_of_getElem? (i := 26) rfl))) (by decide) (t := .long) (t' := .long) (by decide) (by decide)))
  have G5_a_bytesOut := Fld.other W5 G4_a_bytesOut (Or.inr (slot_ne (Or.inr (hw _ (List.mem_of_getElem? (i := 36) rfl))) (Or.inr (hw _ (List.mem_of_getElem? (i := 26) rfl))) (by decide) (t := .long) (t' := .long) (by decide) (by decide)))
  have Q5_a := Exa.wr W5 Q4_a
  show own_G p e below (T5.setTop (mkF m 26 #[.val (.ref a), .val (.long f0), .second, .val (.long f1), .second, .val (.long f2), .second, .val (.long f3), .second, .val (.long f4), .second, .val (.long f5), .second, .val (.long f6), .second, .val (.long f7), .second, .val (.long f8), .second] [])) _
  refine own_blk X5 B2_26_29 B2_26_29d (ls' := #[.val (.ref a), .val (.long f0), .second, .val (.long f1), .second, .val (.long f2), .second, .val (.long f3), .second, .val (.long f4), .second, .val (.long f5), .second, .val (.long f6), .second, .val (.long f7), .second, .val (.long f8), .second]) (st' := [(.long f4), (.ref a)]) rfl ?_
  refine own_putF X5 (hw _ (List.mem_of_getElem? (i := 27) rfl)) G5_a_other Q5_a (Or.inr ⟨(hw _ (List.mem_of_getElem? (i := 28) rfl)), rfl, rfl⟩) (hw _ (List.mem_of_getElem? (i := 6) rfl)) (ty := .long) (by decide) rfl rfl n_a d2_29 (fun h6 T6 X6 W6 => ?_)
  have K6 := K5.wr W6 (Or.inl (by simp))
  have G6_a_read := Fld.other W6 G5_a_read (Or.inr (slot_ne (Or.inr (hw _ (List.mem_of_getElem? (i := 20) rfl))) (Or.inr (hw _ (List.mem_of_getElem? (i := 28) rfl))) (by decide) (t := .long) (t' := .long) (by decide) (by decide)))
  have G6_a_swap := Fld.other W6 G5_a_swap (Or.inr (slot_ne (Or.inr (hw _ (List.mem_of_getElem? (i := 22) rfl))) (Or.inr (hw _ (List.mem_of_getElem? (i := 28) rfl))) (by decide) (t := .long) (t' := .long) (by decide) (by decide)))
  have G6_a_add := Fld.other W6 G5_a_add (Or.inr (slot_ne (Or.inr (hw _ (List.mem_of_getElem? (i := 24) rfl))) (Or.inr (hw _ (List.mem_of_getElem? (i := 28) rfl))) (by decide) (t := .long) (t' := .long) (by decide) (by decide)))
  have G6_a_collect := Fld.other W6 G5_a_collect (Or.inr (slot_ne (Or.inr (hw _ (List.mem_of_getElem? (i := 26) rfl))) (Or.inr (hw _ (List.mem_of_getElem? (i := 28) rfl))) (by decide) (t := .long) (t' := .long) (by decide) (by decide)))
  have G6_a_other := Fld.same W6 G5_a_other
  have G6_a_payloadIn := Fld.other W6 G5_a_payloadIn (Or.inr (slot_ne (Or.inr (hw _ (List.mem_of_getElem? (i := 30) rfl))) (Or.inr (hw _ (List.mem_of_getElem? (i := 28) rfl))) (by decide) (t := .long) (t' := .long) (by decide) (by decide)))
  have G6_a_payloadOut := Fld.other W6 G5_a_payloadOut (Or.inr (slot_ne (Or.inr (hw _ (List.mem_of_getElem? (i := 32) rfl))) (Or.inr (hw _ (List.mem_of_getElem? (i := 28) rfl))) (by decide) (t := .long) (t' := .long) (by decide) (by decide)))
  have G6_a_bytesIn := Fld.other W6 G5_a_bytesIn (Or.inr (slot_ne (Or.inr (hw _ (List.mem_of_getElem? (i := 34) rfl))) (Or.inr (hw _ (List.mem_of_getElem? (i := 28) rfl))) (by decide) (t := .long) (t' := .long) (by decide) (by decide)))
  have G6_a_bytesOut := Fld.other W6 G5_a_bytesOut (Or.inr (slot_ne (Or.inr (hw _ (List.mem_of_getElem? (i := 36) rfl))) (Or.inr (hw _ (List.mem_of_getElem? (i := 28) rfl))) (by decide) (t := .long) (t' := .long) (by decide) (by decide)))
  have Q6_a := Exa.wr W6 Q5_a
  show own_G p e below (T6.setTop (mkF m 32 #[.val (.ref a), .val (.long f0), .second, .val (.long f1), .second, .val (.long f2), .second, .val (.long f3), .second, .val (.long f4), .second, .val (.long f5), .second, .val (.long f6), .second, .val (.long f7), .second, .val (.long f8), .second] [])) _
  refine own_blk X6 B2_32_35 B2_32_35d (ls' := #[.val (.ref a), .val (.long f0), .second, .val (.long f1), .second, .val (.long f2), .second, .val (.long f3), .second, .val (.long f4), .second, .val (.long f5), .second, .val (.long f6), .second, .val (.long f7), .second, .val (.long f8), .second]) (st' := [(.long f5), (.ref a)]) rfl ?_
  refine own_putF X6 (hw _ (List.mem_of_getElem? (i := 29) rfl)) G6_a_payloadIn Q6_a (Or.inr ⟨(hw _ (List.mem_of_getElem? (i := 30) rfl)), rfl, rfl⟩) (hw _ (List.mem_of_getElem? (i := 6) rfl)) (ty := .long) (by decide) rfl rfl n_a d2_35 (fun h7 T7 X7 W7 => ?_)
  have K7 := K6.wr W7 (Or.inl (by simp))
  have G7_a_read := Fld.other W7 G6_a_read (Or.inr (slot_ne (Or.inr (hw _ (List.mem_of_getElem? (i := 20) rfl))) (Or.inr (hw _ (List.mem_of_getElem? (i := 30) rfl))) (by decide) (t := .long) (t' := .long) (by decide) (by decide)))
  have G7_a_swap := Fld.other W7 G6_a_swap (Or.inr (slot_ne (Or.inr (hw _ (List.mem_of_getElem? (i := 22) rfl))) (Or.inr (hw _ (List.mem_of_getElem? (i := 30) rfl))) (by decide) (t := .long) (t' := .long) (by decide) (by decide)))
  have G7_a_add := Fld.other W7 G6_a_add (Or.inr (slot_ne (Or.inr (hw _ (List.mem_of_getElem? (i := 24) rfl))) (Or.inr (hw _ (List.mem_of_getElem? (i := 30) rfl))) (by decide) (t := .long) (t' := .long) (by decide) (by decide)))
  have G7_a_collect := Fld.other W7 G6_a_collect (Or.inr (slot_ne (Or.inr (hw _ (List.mem_of_getElem? (i := 26) rfl))) (Or.inr (hw _ (List.mem_of_getElem? (i := 30) rfl))) (by decide) (t := .long) (t' := .long) (by decide) (by decide)))
  have G7_a_other := Fld.other W7 G6_a_other (Or.inr (slot_ne (Or.inr (hw _ (List.mem_of_getElem? (i := 28) rfl))) (Or.inr (hw _ (List.mem_of_getElem? (i := 30) rfl))) (by decide) (t := .long) (t' := .long) (by decide) (by decide)))
  have G7_a_payloadIn := Fld.same W7 G6_a_payloadIn
  have G7_a_payloadOut := Fld.other W7 G6_a_payloadOut (Or.inr (slot_ne (Or.inr (hw _ (List.mem_of_getElem? (i := 32) rfl))) (Or.inr (hw _ (List.mem_of_getElem? (i := 30) rfl))) (by decide) (t := .long) (t' := .long) (by decide) (by decide)))
  have G7_a_bytesIn := Fld.other W7 G6_a_bytesIn (Or.inr (slot_ne (Or.inr (hw _ (List.mem_of_getElem? (i := 34) rfl))) (Or.inr (hw _ (List.mem_of_getElem? (i := 30) rfl))) (by decide) (t := .long) (t' := .long) (by decide) (by decide)))
  have G7_a_bytesOut := Fld.other W7 G6_a_bytesOut (Or.inr (slot_ne (Or.inr (hw _ (List.mem_of_getElem? (i := 36) rfl))) (Or.inr (hw _ (List.mem_of_getElem? (i := 30) rfl))) (by decide) (t := .long) (t' := .long) (by decide) (by decide)))
  have Q7_a := Exa.wr W7 Q6_a
  show own_G p e below (T7.setTop (mkF m 38 #[.val (.ref a), .val (.long f0), .second, .val (.long f1), .second, .val (.long f2), .second, .val (.long f3), .second, .val (.long f4), .second, .val (.long f5), .second, .val (.long f6), .second, .val (.long f7), .second, .val (.long f8), .second] [])) _
  refine own_blk X7 B2_38_41 B2_38_41d (ls' := #[.val (.ref a), .val (.long f0), .second, .val (.long f1), .second, .val (.long f2), .second, .val (.long f3), .second, .val (.long f4), .second, .val (.long f5), .second, .val (.long f6), .second, .val (.long f7), .second, .val (.long f8), .second]) (st' := [(.long f6), (.ref a)]) rfl ?_
  refine own_putF X7 (hw _ (List.mem_of_getElem? (i := 31) rfl)) G7_a_payloadOut Q7_a (Or.inr ⟨(hw _ (List.mem_of_getElem? (i := 32) rfl)), rfl, rfl⟩) (hw _ (List.mem_of_getElem? (i := 6) rfl)) (ty := .long) (by decide) rfl rfl n_a d2_41 (fun h8 T8 X8 W8 => ?_)
  have K8 := K7.wr W8 (Or.inl (by simp))
  have G8_a_read := Fld.other W8 G7_a_read (Or.inr (slot_ne (Or.inr (hw _ (List.mem_of_getElem? (i := 20) rfl))) (Or.inr (hw _ (List.mem_of_getElem? (i := 32) rfl))) (by decide) (t := .long) (t' := .long) (by decide) (by decide)))
  have G8_a_swap := Fld.other W8 G7_a_swap (Or.inr (slot_ne (Or.inr (hw _ (List.mem_of_getElem? (i := 22) rfl))) (Or.inr (hw _ (List.mem_of_getElem? (i := 32) rfl))) (by decide) (t := .long) (t' := .long) (by decide) (by decide)))
  have G8_a_add := Fld.other W8 G7_a_add (Or.inr (slot_ne (Or.inr (hw _ (List.mem_of_getElem? (i := 24) rfl))) (Or.inr (hw _ (List.mem_of_getElem? (i := 32) rfl))) (by decide) (t := .long) (t' := .long) (by decide) (by decide)))
  have G8_a_collect := Fld.other W8 G7_a_collect (Or.inr (slot_ne (Or.inr (hw _ (List.mem_of_getElem? (i := 26) rfl))) (Or.inr (hw _ (List.mem_of_getElem? (i := 32) rfl))) (by decide) (t := .long) (t' := .long) (by decide) (by decide)))
  have G8_a_other := Fld.other W8 G7_a_other (Or.inr (slot_ne (Or.inr (hw _ (List.mem_of_getElem? (i := 28) rfl))) (Or.inr (hw _ (List.mem_of_getElem? (i := 32) rfl))) (by decide) (t := .long) (t' := .long) (by decide) (by decide)))
  have G8_a_payloadIn := Fld.other W8 G7_a_payloadIn (Or.inr (slot_ne (Or.inr (hw _ (List.mem_of_getElem? (i := 30) rfl))) (Or.inr (hw _ (List.mem_of_getElem? (i := 32) rfl))) (by decide) (t := .long) (t' := .long) (by decide) (by decide)))
  have G8_a_payloadOut := Fld.same W8 G7_a_payloadOut
  have G8_a_bytesIn := Fld.other W8 G7_a_bytesIn (Or.inr (slot_ne (Or.inr (hw _ (List.mem_of_getElem? (i := 34) rfl))) (Or.inr (hw _ (List.mem_of_getElem? (i := 32) rfl))) (by decide) (t := .long) (t' := .long) (by decide) (by decide)))
  have G8_a_bytesOut := Fld.other W8 G7_a_bytesOut (Or.inr (slot_ne (Or.inr (hw _ (List.mem_of_getElem? (i := 36) rfl))) (Or.inr (hw _ (List.mem_of_getElem? (i := 32) rfl))) (by decide) (t := .long) (t' := .long) (by decide) (by decide)))
  have Q8_a := Exa.wr W8 Q7_a
  show own_G p e below (T8.setTop (mkF m 44 #[.val (.ref a), .val (.long f0), .second, .val (.long f1), .second, .val (.long f2), .second, .val (.long f3), .second, .val (.long f4), .second, .val (.long f5), .second, .val (.long f6), .second, .val (.long f7), .second, .val (.long f8), .second] [])) _
  refine own_blk X8 B2_44_47 B2_44_47d (ls' := #[.val (.ref a), .val (.long f0), .second, .val (.long f1), .second, .val (.long f2), .second, .val (.long f3), .second, .val (.long f4), .second, .val (.long f5), .second, .val (.long f6), .second, .val (.long f7), .second, .val (.long f8), .second]) (st' := [(.long f7), (.ref a)]) rfl ?_
  refine own_putF X8 (hw _ (List.mem_of_getElem? (i := 33) rfl)) G8_a_bytesIn Q8_a (Or.inr ⟨(hw _ (List.mem_of_getElem? (i := 34) rfl)), rfl, rfl⟩) (hw _ (List.mem_of_getElem? (i := 6) rfl)) (ty := .long) (by decide) rfl rfl n_a d2_47 (fun h9 T9 X9 W9 => ?_)
  have K9 := K8.wr W9 (Or.inl (by simp))
  have G9_a_read := Fld.other W9 G8_a_read (Or.inr (slot_ne (Or.inr (hw _ (List.mem_of_getElem? (i := 20) rfl))) (Or.inr (hw _ (List.mem_of_getElem? (i := 34) rfl))) (by decide) (t := .long) (t' := .long) (by decide) (by decide)))
  have G9_a_swap := Fld.other W9 G8_a_swap (Or.inr (slot_ne (Or.inr (hw _ (List.mem_of_getElem? (i := 22) rfl))) (Or.inr (hw _ (List.mem_of_getElem? (i := 34) rfl))) (by decide) (t := .long) (t' := .long) (by decide) (by decide)))
  have G9_a_add := Fld.other W9 G8_a_add (Or.inr (slot_ne (Or.inr (hw _ (List.mem_of_getElem? (i := 24) rfl))) (Or.inr (hw _ (List.mem_of_getElem? (i := 34) rfl))) (by decide) (t := .long) (t' := .long) (by decide) (by decide)))
  have G9_a_collect := Fld.other W9 G8_a_collect (Or.inr (slot_ne (Or.inr (hw _ (List.mem_of_getElem? (i := 26) rfl))) (Or.inr (hw _ (List.mem_of_getElem? (i := 34) rfl))) (by decide) (t := .long) (t' := .long) (by decide) (by decide)))
  have G9_a_other := Fld.other W9 G8_a_other (Or.inr (slot_ne (Or.inr (hw _ (List.mem_of_getElem? (i := 28) rfl))) (Or.inr (hw _ (List.mem_of_getElem? (i := 34) rfl))) (by decide) (t := .long) (t' := .long) (by decide) (by decide)))
  have G9_a_payloadIn := Fld.other W9 G8_a_payloadIn (Or.inr (slot_ne (Or.inr (hw _ (List.mem_of_getElem? (i := 30) rfl))) (Or.inr (hw _ (List.mem_of_getElem? (i := 34) rfl))) (by decide) (t := .long) (t' := .long) (by decide) (by decide)))
  have G9_a_payloadOut := Fld.other W9 G8_a_payloadOut (Or.inr (slot_ne (Or.inr (hw _ (List.mem_of_getElem? (i := 32) rfl))) (Or.inr (hw _ (List.mem_of_getElem? (i := 34) rfl))) (by decide) (t := .long) (t' := .long) (by decide) (by decide)))
  have G9_a_bytesIn := Fld.same W9 G8_a_bytesIn
  have G9_a_bytesOut := Fld.other W9 G8_a_bytesOut (Or.inr (slot_ne (Or.inr (hw _ (List.mem_of_getElem? (i := 36) rfl))) (Or.inr (hw _ (List.mem_of_getElem? (i := 34) rfl))) (by decide) (t := .long) (t' := .long) (by decide) (by decide)))
  have Q9_a := Exa.wr W9 Q8_a
  show own_G p e below (T9.setTop (mkF m 50 #[.val (.ref a), .val (.long f0), .second, .val (.long f1), .second, .val (.long f2), .second, .val (.long f3), .second, .val (.long f4), .second, .val (.long f5), .second, .val (.long f6), .second, .val (.long f7), .second, .val (.long f8), .second] [])) _
  refine own_blk X9 B2_50_53 B2_50_53d (ls' := #[.val (.ref a), .val (.long f0), .second, .val (.long f1), .second, .val (.long f2), .second, .val (.long f3), .second, .val (.long f4), .second, .val (.long f5), .second, .val (.long f6), .second, .val (.long f7), .second, .val (.long f8), .second]) (st' := [(.long f8), (.ref a)]) rfl ?_
  refine own_putF X9 (hw _ (List.mem_of_getElem? (i := 35) rfl)) G9_a_bytesOut Q9_a (Or.inr ⟨(hw _ (List.mem_of_getElem? (i := 36) rfl)), rfl, rfl⟩) (hw _ (List.mem_of_getElem? (i := 6) rfl)) (ty := .long) (by decide) rfl rfl n_a d2_53 (fun h10 T10 X10 W10 => ?_)
  have K10 := K9.wr W10 (Or.inl (by simp))
  have G10_a_read := Fld.other W10 G9_a_read (Or.inr (slot_ne (Or.inr (hw _ (List.mem_of_getElem? (i := 20) rfl))) (Or.inr (hw _ (List.mem_of_getElem? (i := 36) rfl))) (by decide) (t := .long) (t' := .long) (by decide) (by decide)))
  have G10_a_swap := Fld.other W10 G9_a_swap (Or.inr (slot_ne (Or.inr (hw _ (List.mem_of_getElem? (i := 22) rfl))) (Or.inr (hw _ (List.mem_of_getElem? (i := 36) rfl))) (by decide) (t := .long) (t' := .long) (by decide) (by decide)))
  have G10_a_add := Fld.other W10 G9_a_add (Or.inr (slot_ne (Or.inr (hw _ (List.mem_of_getElem? (i := 24) rfl))) (Or.inr (hw _ (List.mem_of_getElem? (i := 36) rfl))) (by decide) (t := .long) (t' := .long) (by decide) (by decide)))
  have G10_a_collect := Fld.other W10 G9_a_collect (Or.inr (slot_ne (Or.inr (hw _ (List.mem_of_getElem? (i := 26) rfl))) (Or.inr (hw _ (List.mem_of_getElem? (i := 36) rfl))) (by decide) (t := .long) (t' := .long) (by decide) (by decide)))
  have G10_a_other := Fld.other W10 G9_a_other (Or.inr (slot_ne (Or.inr (hw _ (List.mem_of_getElem? (i := 28) rfl))) (Or.inr (hw _ (List.mem_of_getElem? (i := 36) rfl))) (by decide) (t := .long) (t' := .long) (by decide) (by decide)))
  have G10_a_payloadIn := Fld.other W10 G9_a_payloadIn (Or.inr (slot_ne (Or.inr (hw _ (List.mem_of_getElem? (i := 30) rfl))) (Or.inr (hw _ (List.mem_of_getElem? (i := 36) rfl))) (by decide) (t := .long) (t' := .long) (by decide) (by decide)))
  have G10_a_payloadOut := Fld.other W10 G9_a_payloadOut (Or.inr (slot_ne (Or.inr (hw _ (List.mem_of_getElem? (i := 32) rfl))) (Or.inr (hw _ (List.mem_of_getElem? (i := 36) rfl))) (by decide) (t := .long) (t' := .long) (by decide) (by decide)))
  have G10_a_bytesIn := Fld.other W10 G9_a_bytesIn (Or.inr (slot_ne (Or.inr (hw _ (List.mem_of_getElem? (i := 34) rfl))) (Or.inr (hw _ (List.mem_of_getElem? (i := 36) rfl))) (by decide) (t := .long) (t' := .long) (by decide) (by decide)))
  have G10_a_bytesOut := Fld.same W10 G9_a_bytesOut
  have Q10_a := Exa.wr W10 Q9_a
  show own_G p e below (T10.setTop (mkF m 56 #[.val (.ref a), .val (.long f0), .second, .val (.long f1), .second, .val (.long f2), .second, .val (.long f3), .second, .val (.long f4), .second, .val (.long f5), .second, .val (.long f6), .second, .val (.long f7), .second, .val (.long f8), .second] [])) _
  exact own_retV X10 d2_56 (by decide) (by decide) (⟨rfl, K10, Q10_a, G10_a_read, G10_a_swap, G10_a_add, G10_a_collect, G10_a_other, G10_a_payloadIn, G10_a_payloadOut, G10_a_bytesIn, G10_a_bytesOut⟩)
abbrev own_y5 : MethodName := ⟨"com/example/deltastripe/deltastripe/Traffic", "isValid", "()Z"⟩
theorem pl5 : plainFor own_y5 = true := plainFor_of_name (by first | (simp [plainName, overriddenIn]; done) | decide +kernel)
def B5_0_1 : List (Instr × Nat) := [(.aload_n 0, 1)]
theorem B5_0_1d : own_d prog_106_method_6_code 0 B5_0_1 1 = true := by decide +kernel
theorem d5_1 : decode prog_106_method_6_code 1 = .ok (.getfield 13, 3) := by decide +kernel
def B5_4_5 : List (Instr × Nat) := [(.lconst 0, 1)]
theorem B5_4_5d : own_d prog_106_method_6_code 4 B5_4_5 5 = true := by decide +kernel
theorem d5_5 : decode prog_106_method_6_code 5 = .ok (.lcmp, 1) := by decide +kernel
theorem d5_6 : decode prog_106_method_6_code 6 = .ok (.ifCond .lt 79, 3) := by decide +kernel
def B5_85_86 : List (Instr × Nat) := [(.iconst 0, 1)]
theorem B5_85_86d : own_d prog_106_method_6_code 85 B5_85_86 86 = true := by decide +kernel
theorem d5_86 : decode prog_106_method_6_code 86 = .ok (.ireturn, 1) := by decide +kernel
def B5_9_10 : List (Instr × Nat) := [(.aload_n 0, 1)]
theorem B5_9_10d : own_d prog_106_method_6_code 9 B5_9_10 10 = true := by decide +kernel
theorem d5_10 : decode prog_106_method_6_code 10 = .ok (.getfield 17, 3) := by decide +kernel
def B5_13_14 : List (Instr × Nat) := [(.lconst 0, 1)]
theorem B5_13_14d : own_d prog_106_method_6_code 13 B5_13_14 14 = true := by decide +kernel
theorem d5_14 : decode prog_106_method_6_code 14 = .ok (.lcmp, 1) := by decide +kernel
theorem d5_15 : decode prog_106_method_6_code 15 = .ok (.ifCond .lt 70, 3) := by decide +kernel
def B5_18_19 : List (Instr × Nat) := [(.aload_n 0, 1)]
theorem B5_18_19d : own_d prog_106_method_6_code 18 B5_18_19 19 = true := by decide +kernel
theorem d5_19 : decode prog_106_method_6_code 19 = .ok (.getfield 20, 3) := by decide +kernel
def B5_22_23 : List (Instr × Nat) := [(.lconst 0, 1)]
theorem B5_22_23d : own_d prog_106_method_6_code 22 B5_22_23 23 = true := by decide +kernel
theorem d5_23 : decode prog_106_method_6_code 23 = .ok (.lcmp, 1) := by decide +kernel
theorem d5_24 : decode prog_106_method_6_code 24 = .ok (.ifCond .lt 61, 3) := by decide +kernel
def B5_27_28 : List (Instr × Nat) := [(.aload_n 0, 1)]
theorem B5_27_28d : own_d prog_106_method_6_code 27 B5_27_28 28 = true := by decide +kernel
theorem d5_28 : decode prog_106_method_6_code 28 = .ok (.getfield 23, 3) := by decide +kernel
def B5_31_32 : List (Instr × Nat) := [(.lconst 0, 1)]
theorem B5_31_32d : own_d prog_106_method_6_code 31 B5_31_32 32 = true := by decide +kernel
theorem d5_32 : decode prog_106_method_6_code 32 = .ok (.lcmp, 1) := by decide +kernel
theorem d5_33 : decode prog_106_method_6_code 33 = .ok (.ifCond .lt 52, 3) := by decide +kernel
def B5_36_37 : List (Instr × Nat) := [(.aload_n 0, 1)]
theorem B5_36_37d : own_d prog_106_method_6_code 36 B5_36_37 37 = true := by decide +kernel
theorem d5_37 : decode prog_106_method_6_code 37 = .ok (.getfield 26, 3) := by decide +kernel
def B5_40_41 : List (Instr × Nat) := [(.lconst 0, 1)]
theorem B5_40_41d : own_d prog_106_method_6_code 40 B5_40_41 41 = true := by decide +kernel
theorem d5_41 : decode prog_106_method_6_code 41 = .ok (.lcmp, 1) := by decide +kernel
theorem d5_42 : decode prog_106_method_6_code 42 = .ok (.ifCond .lt 43, 3) := by decide +kernel
def B5_45_46 : List (Instr × Nat) := [(.aload_n 0, 1)]
theorem B5_45_46d : own_d prog_106_method_6_code 45 B5_45_46 46 = true := by decide +kernel
theorem d5_46 : decode prog_106_method_6_code 46 = .ok (.getfield 29, 3) := by decide +kernel
def B5_49_50 : List (Instr × Nat) := [(.lconst 0, 1)]
theorem B5_49_50d : own_d prog_106_method_6_code 49 B5_49_50 50 = true := by decide +kernel
theorem d5_50 : decode prog_106_method_6_code 50 = .ok (.lcmp, 1) := by decide +kernel
theorem d5_51 : decode prog_106_method_6_code 51 = .ok (.ifCond .lt 34, 3) := by decide +kernel
def B5_54_55 : List (Instr × Nat) := [(.aload_n 0, 1)]
theorem B5_54_55d : own_d prog_106_method_6_code 54 B5_54_55 55 = true := by decide +kernel
theorem d5_55 : decode prog_106_method_6_code 55 = .ok (.getfield 32, 3) := by decide +kernel
def B5_58_59 : List (Instr × Nat) := [(.lconst 0, 1)]
theorem B5_58_59d : own_d prog_106_method_6_code 58 B5_58_59 59 = true := by decide +kernel
theorem d5_59 : decode prog_106_method_6_code 59 = .ok (.lcmp, 1) := by decide +kernel
theorem d5_60 : decode prog_106_method_6_code 60 = .ok (.ifCond .lt 25, 3) := by decide +kernel
def B5_63_64 : List (Instr × Nat) := [(.aload_n 0, 1)]
theorem B5_63_64d : own_d prog_106_method_6_code 63 B5_63_64 64 = true := by decide +kernel
theorem d5_64 : decode prog_106_method_6_code 64 = .ok (.getfield 35, 3) := by decide +kernel
def B5_67_68 : List (Instr × Nat) := [(.lconst 0, 1)]
theorem B5_67_68d : own_d prog_106_method_6_code 67 B5_67_68 68 = true := by decide +kernel
theorem d5_68 : decode prog_106_method_6_code 68 = .ok (.lcmp, 1) := by decide +kernel
theorem d5_69 : decode prog_106_method_6_code 69 = .ok (.ifCond .lt 16, 3) := by decide +kernel
def B5_72_73 : List (Instr × Nat) := [(.aload_n 0, 1)]
theorem B5_72_73d : own_d prog_106_method_6_code 72 B5_72_73 73 = true := by decide +kernel
theorem d5_73 : decode prog_106_method_6_code 73 = .ok (.getfield 38, 3) := by decide +kernel
def B5_76_77 : List (Instr × Nat) := [(.lconst 0, 1)]
theorem B5_76_77d : own_d prog_106_method_6_code 76 B5_76_77 77 = true := by decide +kernel
theorem d5_77 : decode prog_106_method_6_code 77 = .ok (.lcmp, 1) := by decide +kernel
theorem d5_78 : decode prog_106_method_6_code 78 = .ok (.ifCond .lt 7, 3) := by decide +kernel
def B5_81_82 : List (Instr × Nat) := [(.iconst 1, 1)]
theorem B5_81_82d : own_d prog_106_method_6_code 81 B5_81_82 82 = true := by decide +kernel
theorem d5_82 : decode prog_106_method_6_code 82 = .ok (.goto 4, 3) := by decide +kernel
set_option maxRecDepth 65536 in
set_option maxHeartbeats 40000000 in
theorem c_valid (l : Launch) (Z : State) (a0 : Array Value) (hw : ∀ d ∈ tables_1, d.before a0 Z = true) (a : Addr) (f0 f1 f2 f3 f4 f5 f6 f7 f8 : Int64) (h0 : Heap) (n0 : Nat) (Z0 : n0 ≤ h0.size) (P0 : (Fld Z h0 a "com/example/deltastripe/deltastripe/Traffic" "read" "J" (.long f0))) (P1 : (Fld Z h0 a "com/example/deltastripe/deltastripe/Traffic" "swap" "J" (.long f1))) (P2 : (Fld Z h0 a "com/example/deltastripe/deltastripe/Traffic" "add" "J" (.long f2))) (P3 : (Fld Z h0 a "com/example/deltastripe/deltastripe/Traffic" "collect" "J" (.long f3))) (P4 : (Fld Z h0 a "com/example/deltastripe/deltastripe/Traffic" "other" "J" (.long f4))) (P5 : (Fld Z h0 a "com/example/deltastripe/deltastripe/Traffic" "payloadIn" "J" (.long f5))) (P6 : (Fld Z h0 a "com/example/deltastripe/deltastripe/Traffic" "payloadOut" "J" (.long f6))) (P7 : (Fld Z h0 a "com/example/deltastripe/deltastripe/Traffic" "bytesIn" "J" (.long f7))) (P8 : (Fld Z h0 a "com/example/deltastripe/deltastripe/Traffic" "bytesOut" "J" (.long f8))) :
    own_C l Z own_y5 prog_106_method_6_code 1 (some .boolean) ({ frames := 0, cells := 0, slots := 0, locals := 0 } : Room) #[(.ref a)] h0 n0 (fun v h => v = some (.int (own_ok f0 f1 f2 f3 f4 f5 f6 f7 f8)) ∧ h = h0) := by
  refine own_body pl5 Z0 (ls := #[.val (.ref a)]) (fun m => by first | (simp [entryFrame, mkF, argsToLocals, Value.category]; done) | rfl) ?_
  intro p e s m below meth c T0 X0
  refine own_blk X0 B5_0_1 B5_0_1d (ls' := #[.val (.ref a)]) (st' := [(.ref a)]) rfl ?_
  refine own_getF X0 (hw _ (List.mem_of_getElem? (i := 19) rfl)) P0 d5_1 (fun T1 X1 => ?_)
  refine own_blk X1 B5_4_5 B5_4_5d (ls' := #[.val (.ref a)]) (st' := [(.long (0 : Int64)), (.long f0)]) rfl ?_
  refine own_lif X1 d5_5 d5_6 (pc' := 85) (by decide) (fun c5 => ?_) (fun c5 => ?_)
  · have c5 : f0.toInt < 0 := c5
    refine own_blk X1 B5_85_86 B5_85_86d (ls' := #[.val (.ref a)]) (st' := [(.int (0 : Int32))]) rfl ?_
    exact own_retN X1 (by simp) d5_86 (v' := (0 : Int32)) (rfl) (by decide) (by decide) (⟨by rw [own_ok, if_neg (by omega)], rfl⟩)
  · have c5 : ¬ (f0.toInt < 0) := c5
    refine own_blk X1 B5_9_10 B5_9_10d (ls' := #[.val (.ref a)]) (st' := [(.ref a)]) rfl ?_
    refine own_getF X1 (hw _ (List.mem_of_getElem? (i := 21) rfl)) P1 d5_10 (fun T2 X2 => ?_)
    refine own_blk X2 B5_13_14 B5_13_14d (ls' := #[.val (.ref a)]) (st' := [(.long (0 : Int64)), (.long f1)]) rfl ?_
    refine own_lif X2 d5_14 d5_15 (pc' := 85) (by decide) (fun c14 => ?_) (fun c14 => ?_)
    · have c14 : f1.toInt < 0 := c14
      refine own_blk X2 B5_85_86 B5_85_86d (ls' := #[.val (.ref a)]) (st' := [(.int (0 : Int32))]) rfl ?_
      exact own_retN X2 (by simp) d5_86 (v' := (0 : Int32)) (rfl) (by decide) (by decide) (⟨by rw [own_ok, if_neg (by omega)], rfl⟩)
    · have c14 : ¬ (f1.toInt < 0) := c14
      refine own_blk X2 B5_18_19 B5_18_19d (ls' := #[.val (.ref a)]) (st' := [(.ref a)]) rfl ?_
      refine own_getF X2 (hw _ (List.mem_of_getElem? (i := 23) rfl)) P2 d5_19 (fun T3 X3 => ?_)
      refine own_blk X3 B5_22_23 B5_22_23d (ls' := #[.val (.ref a)]) (st' := [(.long (0 : Int64)), (.long f2)]) rfl ?_
      refine own_lif X3 d5_23 d5_24 (pc' := 85) (by decide) (fun c23 => ?_) (fun c23 => ?_)
      · have c23 : f2.toInt < 0 := c23
        refine own_blk X3 B5_85_86 B5_85_86d (ls' := #[.val (.ref a)]) (st' := [(.int (0 : Int32))]) rfl ?_
        exact own_retN X3 (by simp) d5_86 (v' := (0 : Int32)) (rfl) (by decide) (by decide) (⟨by rw [own_ok, if_neg (by omega)], rfl⟩)
      · have c23 : ¬ (f2.toInt < 0) := c23
        refine own_blk X3 B5_27_28 B5_27_28d (ls' := #[.val (.ref a)]) (st' := [(.ref a)]) rfl ?_
        refine own_getF X3 (hw _ (List.mem_of_getElem? (i := 25) rfl)) P3 d5_28 (fun T4 X4 => ?_)
        refine own_blk X4 B5_31_32 B5_31_32d (ls' := #[.val (.ref a)]) (st' := [(.long (0 : Int64)), (.long f3)]) rfl ?_
        refine own_lif X4 d5_32 d5_33 (pc' := 85) (by decide) (fun c32 => ?_) (fun c32 => ?_)
        · have c32 : f3.toInt < 0 := c32
          refine own_blk X4 B5_85_86 B5_85_86d (ls' := #[.val (.ref a)]) (st' := [(.int (0 : Int32))]) rfl ?_
          exact own_retN X4 (by simp) d5_86 (v' := (0 : Int32)) (rfl) (by decide) (by decide) (⟨by rw [own_ok, if_neg (by omega)], rfl⟩)
        · have c32 : ¬ (f3.toInt < 0) := c32
          refine own_blk X4 B5_36_37 B5_36_37d (ls' := #[.val (.ref a)]) (st' := [(.ref a)]) rfl ?_
          refine own_getF X4 (hw _ (List.mem_of_getElem? (i := 27) rfl)) P4 d5_37 (fun T5 X5 => ?_)
          refine own_blk X5 B5_40_41 B5_40_41d (ls' := #[.val (.ref a)]) (st' := [(.long (0 : Int64)), (.long f4)]) rfl ?_
          refine own_lif X5 d5_41 d5_42 (pc' := 85) (by decide) (fun c41 => ?_) (fun c41 => ?_)
          · have c41 : f4.toInt < 0 := c41
            refine own_blk X5 B5_85_86 B5_85_86d (ls' := #[.val (.ref a)]) (st' := [(.int (0 : Int32))]) rfl ?_
            exact own_retN X5 (by simp) d5_86 (v' := (0 : Int32)) (rfl) (by decide) (by decide) (⟨by rw [own_ok, if_neg (by omega)], rfl⟩)
          · have c41 : ¬ (f4.toInt < 0) := c41
            refine own_blk X5 B5_45_46 B5_45_46d (ls' := #[.val (.ref a)]) (st' := [(.ref a)]) rfl ?_
            refine own_getF X5 (hw _ (List.mem_of_getElem? (i := 29) rfl)) P5 d5_46 (fun T6 X6 => ?_)
            refine own_blk X6 B5_49_50 B5_49_50d (ls' := #[.val (.ref a)]) (st' := [(.long (0 : Int64)), (.long f5)]) rfl ?_
            refine own_lif X6 d5_50 d5_51 (pc' := 85) (by decide) (fun c50 => ?_) (fun c50 => ?_)
            · have c50 : f5.toInt < 0 := c50
              refine own_blk X6 B5_85_86 B5_85_86d (ls' := #[.val (.ref a)]) (st' := [(.int (0 : Int32))]) rfl ?_
              exact own_retN X6 (by simp) d5_86 (v' := (0 : Int32)) (rfl) (by decide) (by decide) (⟨by rw [own_ok, if_neg (by omega)], rfl⟩)
            · have c50 : ¬ (f5.toInt < 0) := c50
              refine own_blk X6 B5_54_55 B5_54_55d (ls' := #[.val (.ref a)]) (st' := [(.ref a)]) rfl ?_
              refine own_getF X6 (hw _ (List.mem_of_getElem? (i := 31) rfl)) P6 d5_55 (fun T7 X7 => ?_)
              refine own_blk X7 B5_58_59 B5_58_59d (ls' := #[.val (.ref a)]) (st' := [(.long (0 : Int64)), (.long f6)]) rfl ?_
              refine own_lif X7 d5_59 d5_60 (pc' := 85) (by decide) (fun c59 => ?_) (fun c59 => ?_)
              · have c59 : f6.toInt < 0 := c59
                refine own_blk X7 B5_85_86 B5_85_86d (ls' := #[.val (.ref a)]) (st' := [(.int (0 : Int32))]) rfl ?_
                exact own_retN X7 (by simp) d5_86 (v' := (0 : Int32)) (rfl) (by decide) (by decide) (⟨by rw [own_ok, if_neg (by omega)], rfl⟩)
              · have c59 : ¬ (f6.toInt < 0) := c59
                refine own_blk X7 B5_63_64 B5_63_64d (ls' := #[.val (.ref a)]) (st' := [(.ref a)]) rfl ?_
                refine own_getF X7 (hw _ (List.mem_of_getElem? (i := 33) rfl)) P7 d5_64 (fun T8 X8 => ?_)
                refine own_blk X8 B5_67_68 B5_67_68d (ls' := #[.val (.ref a)]) (st' := [(.long (0 : Int64)), (.long f7)]) rfl ?_
                refine own_lif X8 d5_68 d5_69 (pc' := 85) (by decide) (fun c68 => ?_) (fun c68 => ?_)
                · have c68 : f7.toInt < 0 := c68
                  refine own_blk X8 B5_85_86 B5_85_86d (ls' := #[.val (.ref a)]) (st' := [(.int (0 : Int32))]) rfl ?_
                  exact own_retN X8 (by simp) d5_86 (v' := (0 : Int32)) (rfl) (by decide) (by decide) (⟨by rw [own_ok, if_neg (by omega)], rfl⟩)
                · have c68 : ¬ (f7.toInt < 0) := c68
                  refine own_blk X8 B5_72_73 B5_72_73d (ls' := #[.val (.ref a)]) (st' := [(.ref a)]) rfl ?_
                  refine own_getF X8 (hw _ (List.mem_of_getElem? (i := 35) rfl)) P8 d5_73 (fun T9 X9 => ?_)
                  refine own_blk X9 B5_76_77 B5_76_77d (ls' := #[.val (.ref a)]) (st' := [(.long (0 : Int64)), (.long f8)]) rfl ?_
                  refine own_lif X9 d5_77 d5_78 (pc' := 85) (by decide) (fun c77 => ?_) (fun c77 => ?_)
                  · have c77 : f8.toInt < 0 := c77
                    refine own_blk X9 B5_85_86 B5_85_86d (ls' := #[.val (.ref a)]) (st' := [(.int (0 : Int32))]) rfl ?_
                    exact own_retN X9 (by simp) d5_86 (v' := (0 : Int32)) (rfl) (by decide) (by decide) (⟨by rw [own_ok, if_neg (by omega)], rfl⟩)
                  · have c77 : ¬ (f8.toInt < 0) := c77
                    refine own_blk X9 B5_81_82 B5_81_82d (ls' := #[.val (.ref a)]) (st' := [(.int (1 : Int32))]) rfl ?_
                    refine own_goto X9 d5_82 (pc' := 86) (by decide) ?_
                    exact own_retN X9 (by simp) d5_86 (v' := (1 : Int32)) (rfl) (by decide) (by decide) (⟨by rw [own_ok, if_pos (by omega)], rfl⟩)
theorem pl0 : plainFor x = true := plainFor_of_name (by first | (simp [plainName, overriddenIn]; done) | decide +kernel)
def B0_0_4 : List (Instr × Nat) := [(.iload 10, 2), (.iconst 0, 1), (.lload_n 0, 1)]
theorem B0_0_4d : own_d code 0 B0_0_4 4 = true := by decide +kernel
theorem d0_4 : decode code 4 = .ok (.invokestatic 11, 3) := by decide +kernel
theorem pd1 : parseMethodDescriptor "(IIJ)J" = some ⟨[.int, .int, .long], some .long⟩ := by decide +kernel
def B0_7_13 : List (Instr × Nat) := [(.lstore 11, 2), (.iload 10, 2), (.iconst 1, 1), (.lload_n 2, 1)]
theorem B0_7_13d : own_d code 7 B0_7_13 13 = true := by decide +kernel
theorem d0_13 : decode code 13 = .ok (.invokestatic 11, 3) := by decide +kernel
def B0_16_23 : List (Instr × Nat) := [(.lstore 13, 2), (.iload 10, 2), (.iconst 2, 1), (.lload 4, 2)]
theorem B0_16_23d : own_d code 16 B0_16_23 23 = true := by decide +kernel
theorem d0_23 : decode code 23 = .ok (.invokestatic 11, 3) := by decide +kernel
def B0_26_33 : List (Instr × Nat) := [(.lstore 15, 2), (.iload 10, 2), (.iconst 3, 1), (.lload 6, 2)]
theorem B0_26_33d : own_d code 26 B0_26_33 33 = true := by decide +kernel
theorem d0_33 : decode code 33 = .ok (.invokestatic 11, 3) := by decide +kernel
def B0_36_43 : List (Instr × Nat) := [(.lstore 17, 2), (.iload 10, 2), (.iconst 4, 1), (.lload 8, 2)]
theorem B0_36_43d : own_d code 36 B0_36_43 43 = true := by decide +kernel
theorem d0_43 : decode code 43 = .ok (.invokestatic 11, 3) := by decide +kernel
def B0_46_52 : List (Instr × Nat) := [(.lstore 19, 2), (.iload 10, 2), (.iconst 5, 1), (.lload_n 0, 1)]
theorem B0_46_52d : own_d code 46 B0_46_52 52 = true := by decide +kernel
theorem d0_52 : decode code 52 = .ok (.invokestatic 11, 3) := by decide +kernel
def B0_55_62 : List (Instr × Nat) := [(.lstore 21, 2), (.iload 10, 2), (.bipush 6, 2), (.lload_n 2, 1)]
theorem B0_55_62d : own_d code 55 B0_55_62 62 = true := by decide +kernel
theorem d0_62 : decode code 62 = .ok (.invokestatic 11, 3) := by decide +kernel
def B0_65_73 : List (Instr × Nat) := [(.lstore 23, 2), (.iload 10, 2), (.bipush 7, 2), (.lload 4, 2)]
theorem B0_65_73d : own_d code 65 B0_65_73 73 = true := by decide +kernel
theorem d0_73 : decode code 73 = .ok (.invokestatic 11, 3) := by decide +kernel
def B0_76_84 : List (Instr × Nat) := [(.lstore 25, 2), (.iload 10, 2), (.bipush 8, 2), (.lload 6, 2)]
theorem B0_76_84d : own_d code 76 B0_76_84 84 = true := by decide +kernel
theorem d0_84 : decode code 84 = .ok (.invokestatic 11, 3) := by decide +kernel
def B0_87_89 : List (Instr × Nat) := [(.lstore 27, 2)]
theorem B0_87_89d : own_d code 87 B0_87_89 89 = true := by decide +kernel
theorem d0_89 : decode code 89 = .ok (.new 17, 3) := by decide +kernel
def B0_92_111 : List (Instr × Nat) := [(.dup, 1), (.lload 11, 2), (.lload 13, 2), (.lload 15, 2), (.lload 17, 2), (.lload 19, 2), (.lload 21, 2), (.lload 23, 2), (.lload 25, 2), (.lload 27, 2)]
theorem B0_92_111d : own_d code 92 B0_92_111 111 = true := by decide +kernel
theorem d0_111 : decode code 111 = .ok (.invokespecial 19, 3) := by decide +kernel
theorem pd2 : parseMethodDescriptor "(JJJJJJJJJ)V" = some ⟨[.long, .long, .long, .long, .long, .long, .long, .long, .long], none⟩ := by decide +kernel
def B0_114_143 : List (Instr × Nat) := [(.astore 29, 2), (.lload 11, 2), (.lload 13, 2), (.lor, 1), (.lload 15, 2), (.lor, 1), (.lload 17, 2), (.lor, 1), (.lload 19, 2), (.lor, 1), (.lload 21, 2), (.lor, 1), (.lload 23, 2), (.lor, 1), (.lload 25, 2), (.lor, 1), (.lload 27, 2), (.lor, 1), (.lconst 0, 1)]
theorem B0_114_143d : own_d code 114 B0_114_143 143 = true := by decide +kernel
theorem d0_143 : decode code 143 = .ok (.lcmp, 1) := by decide +kernel
theorem d0_144 : decode code 144 = .ok (.ifCond .lt 7, 3) := by decide +kernel
def B0_151_156 : List (Instr × Nat) := [(.iconst 0, 1), (.istore 30, 2), (.aload 29, 2)]
theorem B0_151_156d : own_d code 151 B0_151_156 156 = true := by decide +kernel
theorem d0_156 : decode code 156 = .ok (.invokevirtual 22, 3) := by decide +kernel
theorem pd5 : parseMethodDescriptor "()Z" = some ⟨[], some .boolean⟩ := by decide +kernel
def B0_159_161 : List (Instr × Nat) := [(.iload 30, 2)]
theorem B0_159_161d : own_d code 159 B0_159_161 161 = true := by decide +kernel
theorem d0_161 : decode code 161 = .ok (.if_icmp .ne 7, 3) := by decide +kernel
def B0_164_165 : List (Instr × Nat) := [(.iconst 1, 1)]
theorem B0_164_165d : own_d code 164 B0_164_165 165 = true := by decide +kernel
theorem d0_165 : decode code 165 = .ok (.goto 4, 3) := by decide +kernel
theorem d0_169 : decode code 169 = .ok (.ireturn, 1) := by decide +kernel
def B0_147_148 : List (Instr × Nat) := [(.iconst 1, 1)]
theorem B0_147_148d : own_d code 147 B0_147_148 148 = true := by decide +kernel
theorem d0_148 : decode code 148 = .ok (.goto 4, 3) := by decide +kernel
def B0_152_156 : List (Instr × Nat) := [(.istore 30, 2), (.aload 29, 2)]
theorem B0_152_156d : own_d code 152 B0_152_156 156 = true := by decide +kernel
set_option maxRecDepth 65536 in
set_option maxHeartbeats 40000000 in
theorem c_law (l : Launch) (Z : State) (a0 : Array Value) (hw : ∀ d ∈ tables_1, d.before a0 Z = true) (v0 : Int64) (v1 : Int64) (v2 : Int64) (v3 : Int64) (v4 : Int64) (sel : Int32) (h0 : Heap) (n0 : Nat) (Z0 : n0 ≤ h0.size)  :
    own_C l Z x code maxLocals ret room_1 #[(.long v0), (.long v1), (.long v2), (.long v3), (.long v4), (.int sel)] h0 n0 (fun v h => v = some (.int 1)) := by
  refine own_body pl0 Z0 (ls := #[.val (.long v0), .second, .val (.long v1), .second, .val (.long v2), .second, .val (.long v3), .second, .val (.long v4), .second, .val (.int sel), .unset, .unset, .unset, .unset, .unset, .unset, .unset, .unset, .unset, .unset, .unset, .unset, .unset, .unset, .unset, .unset, .unset, .unset, .unset, .unset]) (fun m => by first | (simp [entryFrame, mkF, argsToLocals, Value.category, maxLocals]; done) | rfl) ?_
  intro p e s m below meth c T0 X0
  refine own_blk X0 B0_0_4 B0_0_4d (ls' := #[.val (.long v0), .second, .val (.long v1), .second, .val (.long v2), .second, .val (.long v3), .second, .val (.long v4), .second, .val (.int sel), .unset, .unset, .unset, .unset, .unset, .unset, .unset, .unset, .unset, .unset, .unset, .unset, .unset, .unset, .unset, .unset, .unset, .unset, .unset, .unset]) (st' := [(.long v0), (.int (0 : Int32)), (.int sel)]) rfl ?_
  refine own_callP X0 (hw _ (List.mem_of_getElem? (i := 0) rfl)) (hw _ (List.mem_of_getElem? (i := 1) rfl)) (hw _ (List.mem_of_getElem? (i := 2) rfl)) (hw _ (List.mem_of_getElem? (i := 3) rfl)) (by decide) (c_pick l Z a0 hw sel (0 : Int32) v0 h0 n0 X0.2.1) d0_4 [(.int sel), (.int (0 : Int32)), (.long v0)] [] rfl rfl pd1 rfl rfl (by decide) (Nat.le_of_ble_eq_true rfl) (by decide) (by decide) (fun T1 X1 => ?_)
  show own_G p e below (T1.setTop (mkF m 7 #[.val (.long v0), .second, .val (.long v1), .second, .val (.long v2), .second, .val (.long v3), .second, .val (.long v4), .second, .val (.int sel), .unset, .unset, .unset, .unset, .unset, .unset, .unset, .unset, .unset, .unset, .unset, .unset, .unset, .unset, .unset, .unset, .unset, .unset, .unset, .unset] [(.long (own_pk sel (0 : Int32) v0))])) _
  generalize ef0 : (own_pk sel (0 : Int32) v0) = f0
  refine own_blk X1 B0_7_13 B0_7_13d (ls' := #[.val (.long v0), .second, .val (.long v1), .second, .val (.long v2), .second, .val (.long v3), .second, .val (.long v4), .second, .val (.int sel), .val (.long f0), .second, .unset, .unset, .unset, .unset, .unset, .unset, .unset, .unset, .unset, .unset, .unset, .unset, .unset, .unset, .unset, .unset, .unset, .unset]) (st' := [(.long v1), (.int (1 : Int32)), (.int sel)]) rfl ?_
  refine own_callP X1 (hw _ (List.mem_of_getElem? (i := 0) rfl)) (hw _ (List.mem_of_getElem? (i := 1) rfl)) (hw _ (List.mem_of_getElem? (i := 2) rfl)) (hw _ (List.mem_of_getElem? (i := 3) rfl)) (by decide) (c_pick l Z a0 hw sel (1 : Int32) v1 h0 n0 X1.2.1) d0_13 [(.int sel), (.int (1 : Int32)), (.long v1)] [] rfl rfl pd1 rfl rfl (by decide) (Nat.le_of_ble_eq_true rfl) (by decide) (by decide) (fun T2 X2 => ?_)
  show own_G p e below (T2.setTop (mkF m 16 #[.val (.long v0), .second, .val (.long v1), .second, .val (.long v2), .second, .val (.long v3), .second, .val (.long v4), .second, .val (.int sel), .val (.long f0), .second, .unset, .unset, .unset, .unset, .unset, .unset, .unset, .unset, .unset, .unset, .unset, .unset, .unset, .unset, .unset, .unset, .unset, .unset] [(.long (own_pk sel (1 : Int32) v1))])) _
  generalize ef1 : (own_pk sel (1 : Int32) v1) = f1
  refine own_blk X2 B0_16_23 B0_16_23d (ls' := #[.val (.long v0), .second, .val (.long v1), .second, .val (.long v2), .second, .val (.long v3), .second, .val (.long v4), .second, .val (.int sel), .val (.long f0), .second, .val (.long f1), .second, .unset, .unset, .unset, .unset, .unset, .unset, .unset, .unset, .unset, .unset, .unset, .unset, .unset, .unset, .unset, .unset]) (st' := [(.long v2), (.int (2 : Int32)), (.int sel)]) rfl ?_
  refine own_callP X2 (hw _ (List.mem_of_getElem? (i := 0) rfl)) (hw _ (List.mem_of_getElem? (i := 1) rfl)) (hw _ (List.mem_of_getElem? (i := 2) rfl)) (hw _ (List.mem_of_getElem? (i := 3) rfl)) (by decide) (c_pick l Z a0 hw sel (2 : Int32) v2 h0 n0 X2.2.1) d0_23 [(.int sel), (.int (2 : Int32)), (.long v2)] [] rfl rfl pd1 rfl rfl (by decide) (Nat.le_of_ble_eq_true rfl) (by decide) (by decide) (fun T3 X3 => ?_)
  show own_G p e below (T3.setTop (mkF m 26 #[.val (.long v0), .second, .val (.long v1), .second, .val (.long v2), .second, .val (.long v3), .second, .val (.long v4), .second, .val (.int sel), .val (.long f0), .second, .val (.long f1), .second, .unset, .unset, .unset, .unset, .unset, .unset, .unset, .unset, .unset, .unset, .unset, .unset, .unset, .unset, .unset, .unset] [(.long (own_pk sel (2 : Int32) v2))])) _
  generalize ef2 : (own_pk sel (2 : Int32) v2) = f2
  refine own_blk X3 B0_26_33 B0_26_33d (ls' := #[.val (.long v0), .second, .val (.long v1), .second, .val (.long v2), .second, .val (.long v3), .second, .val (.long v4), .second, .val (.int sel), .val (.long f0), .second, .val (.long f1), .second, .val (.long f2), .second, .unset, .unset, .unset, .unset, .unset, .unset, .unset, .unset, .unset, .unset, .unset, .unset, .unset, .unset]) (st' := [(.long v3), (.int (3 : Int32)), (.int sel)]) rfl ?_
  refine own_callP X3 (hw _ (List.mem_of_getElem? (i := 0) rfl)) (hw _ (List.mem_of_getElem? (i := 1) rfl)) (hw _ (List.mem_of_getElem? (i := 2) rfl)) (hw _ (List.mem_of_getElem? (i := 3) rfl)) (by decide) (c_pick l Z a0 hw sel (3 : Int32) v3 h0 n0 X3.2.1) d0_33 [(.int sel), (.int (3 : Int32)), (.long v3)] [] rfl rfl pd1 rfl rfl (by decide) (Nat.le_of_ble_eq_true rfl) (by decide) (by decide) (fun T4 X4 => ?_)
  show own_G p e below (T4.setTop (mkF m 36 #[.val (.long v0), .second, .val (.long v1), .second, .val (.long v2), .second, .val (.long v3), .second, .val (.long v4), .second, .val (.int sel), .val (.long f0), .second, .val (.long f1), .second, .val (.long f2), .second, .unset, .unset, .unset, .unset, .unset, .unset, .unset, .unset, .unset, .unset, .unset, .unset, .unset, .unset] [(.long (own_pk sel (3 : Int32) v3))])) _
  generalize ef3 : (own_pk sel (3 : Int32) v3) = f3
  refine own_blk X4 B0_36_43 B0_36_43d (ls' := #[.val (.long v0), .second, .val (.long v1), .second, .val (.long v2), .second, .val (.long v3), .second, .val (.long v4), .second, .val (.int sel), .val (.long f0), .second, .val (.long f1), .second, .val (.long f2), .second, .val (.long f3), .second, .unset, .unset, .unset, .unset, .unset, .unset, .unset, .unset, .unset, .unset, .unset, .unset]) (st' := [(.long v4), (.int (4 : Int32)), (.int sel)]) rfl ?_
  refine own_callP X4 (hw _ (List.mem_of_getElem? (i := 0) rfl)) (hw _ (List.mem_of_getElem? (i := 1) rfl)) (hw _ (List.mem_of_getElem? (i := 2) rfl)) (hw _ (List.mem_of_getElem? (i := 3) rfl)) (by decide) (c_pick l Z a0 hw sel (4 : Int32) v4 h0 n0 X4.2.1) d0_43 [(.int sel), (.int (4 : Int32)), (.long v4)] [] rfl rfl pd1 rfl rfl (by decide) (Nat.le_of_ble_eq_true rfl) (by decide) (by decide) (fun T5 X5 => ?_)
  show own_G p e below (T5.setTop (mkF m 46 #[.val (.long v0), .second, .val (.long v1), .second, .val (.long v2), .second, .val (.long v3), .second, .val (.long v4), .second, .val (.int sel), .val (.long f0), .second, .val (.long f1), .second, .val (.long f2), .second, .val (.long f3), .second, .unset, .unset, .unset, .unset, .unset, .unset, .unset, .unset, .unset, .unset, .unset, .unset] [(.long (own_pk sel (4 : Int32) v4))])) _
  generalize ef4 : (own_pk sel (4 : Int32) v4) = f4
  refine own_blk X5 B0_46_52 B0_46_52d (ls' := #[.val (.long v0), .second, .val (.long v1), .second, .val (.long v2), .second, .val (.long v3), .second, .val (.long v4), .second, .val (.int sel), .val (.long f0), .second, .val (.long f1), .second, .val (.long f2), .second, .val (.long f3), .second, .val (.long f4), .second, .unset, .unset, .unset, .unset, .unset, .unset, .unset, .unset, .unset, .unset]) (st' := [(.long v0), (.int (5 : Int32)), (.int sel)]) rfl ?_
  refine own_callP X5 (hw _ (List.mem_of_getElem? (i := 0) rfl)) (hw _ (List.mem_of_getElem? (i := 1) rfl)) (hw _ (List.mem_of_getElem? (i := 2) rfl)) (hw _ (List.mem_of_getElem? (i := 3) rfl)) (by decide) (c_pick l Z a0 hw sel (5 : Int32) v0 h0 n0 X5.2.1) d0_52 [(.int sel), (.int (5 : Int32)), (.long v0)] [] rfl rfl pd1 rfl rfl (by decide) (Nat.le_of_ble_eq_true rfl) (by decide) (by decide) (fun T6 X6 => ?_)
  show own_G p e below (T6.setTop (mkF m 55 #[.val (.long v0), .second, .val (.long v1), .second, .val (.long v2), .second, .val (.long v3), .second, .val (.long v4), .second, .val (.int sel), .val (.long f0), .second, .val (.long f1), .second, .val (.long f2), .second, .val (.long f3), .second, .val (.long f4), .second, .unset, .unset, .unset, .unset, .unset, .unset, .unset, .unset, .unset, .unset] [(.long (own_pk sel (5 : Int32) v0))])) _
  generalize ef5 : (own_pk sel (5 : Int32) v0) = f5
  refine own_blk X6 B0_55_62 B0_55_62d (ls' := #[.val (.long v0), .second, .val (.long v1), .second, .val (.long v2), .second, .val (.long v3), .second, .val (.long v4), .second, .val (.int sel), .val (.long f0), .second, .val (.long f1), .second, .val (.long f2), .second, .val (.long f3), .second, .val (.long f4), .second, .val (.long f5), .second, .unset, .unset, .unset, .unset, .unset, .unset, .unset, .unset]) (st' := [(.long v1), (.int (6 : Int32)), (.int sel)]) rfl ?_
  refine own_callP X6 (hw _ (List.mem_of_getElem? (i := 0) rfl)) (hw _ (List.mem_of_getElem? (i := 1) rfl)) (hw _ (List.mem_of_getElem? (i := 2) rfl)) (hw _ (List.mem_of_getElem? (i := 3) rfl)) (by decide) (c_pick l Z a0 hw sel (6 : Int32) v1 h0 n0 X6.2.1) d0_62 [(.int sel), (.int (6 : Int32)), (.long v1)] [] rfl rfl pd1 rfl rfl (by decide) (Nat.le_of_ble_eq_true rfl) (by decide) (by decide) (fun T7 X7 => ?_)
  show own_G p e below (T7.setTop (mkF m 65 #[.val (.long v0), .second, .val (.long v1), .second, .val (.long v2), .second, .val (.long v3), .second, .val (.long v4), .second, .val (.int sel), .val (.long f0), .second, .val (.long f1), .second, .val (.long f2), .second, .val (.long f3), .second, .val (.long f4), .second, .val (.long f5), .second, .unset, .unset, .unset, .unset, .unset, .unset, .unset, .unset] [(.long (own_pk sel (6 : Int32) v1))])) _
  generalize ef6 : (own_pk sel (6 : Int32) v1) = f6
  refine own_blk X7 B0_65_73 B0_65_73d (ls' := #[.val (.long v0), .second, .val (.long v1), .second, .val (.long v2), .second, .val (.long v3), .second, .val (.long v4), .second, .val (.int sel), .val (.long f0), .second, .val (.long f1), .second, .val (.long f2), .second, .val (.long f3), .second, .val (.long f4), .second, .val (.long f5), .second, .val (.long f6), .second, .unset, .unset, .unset, .unset, .unset, .unset]) (st' := [(.long v2), (.int (7 : Int32)), (.int sel)]) rfl ?_
  refine own_callP X7 (hw _ (List.mem_of_getElem? (i := 0) rfl)) (hw _ (List.mem_of_getElem? (i := 1) rfl)) (hw _ (List.mem_of_getElem? (i := 2) rfl)) (hw _ (List.mem_of_getElem? (i := 3) rfl)) (by decide) (c_pick l Z a0 hw sel (7 : Int32) v2 h0 n0 X7.2.1) d0_73 [(.int sel), (.int (7 : Int32)), (.long v2)] [] rfl rfl pd1 rfl rfl (by decide) (Nat.le_of_ble_eq_true rfl) (by decide) (by decide) (fun T8 X8 => ?_)
  show own_G p e below (T8.setTop (mkF m 76 #[.val (.long v0), .second, .val (.long v1), .second, .val (.long v2), .second, .val (.long v3), .second, .val (.long v4), .second, .val (.int sel), .val (.long f0), .second, .val (.long f1), .second, .val (.long f2), .second, .val (.long f3), .second, .val (.long f4), .second, .val (.long f5), .second, .val (.long f6), .second, .unset, .unset, .unset, .unset, .unset, .unset] [(.long (own_pk sel (7 : Int32) v2))])) _
  generalize ef7 : (own_pk sel (7 : Int32) v2) = f7
  refine own_blk X8 B0_76_84 B0_76_84d (ls' := #[.val (.long v0), .second, .val (.long v1), .second, .val (.long v2), .second, .val (.long v3), .second, .val (.long v4), .second, .val (.int sel), .val (.long f0), .second, .val (.long f1), .second, .val (.long f2), .second, .val (.long f3), .second, .val (.long f4), .second, .val (.long f5), .second, .val (.long f6), .second, .val (.long f7), .second, .unset, .unset, .unset, .unset]) (st' := [(.long v3), (.int (8 : Int32)), (.int sel)]) rfl ?_
  refine own_callP X8 (hw _ (List.mem_of_getElem? (i := 0) rfl)) (hw _ (List.mem_of_getElem? (i := 1) rfl)) (hw _ (List.mem_of_getElem? (i := 2) rfl)) (hw _ (List.mem_of_getElem? (i := 3) rfl)) (by decide) (c_pick l Z a0 hw sel (8 : Int32) v3 h0 n0 X8.2.1) d0_84 [(.int sel), (.int (8 : Int32)), (.long v3)] [] rfl rfl pd1 rfl rfl (by decide) (Nat.le_of_ble_eq_true rfl) (by decide) (by decide) (fun T9 X9 => ?_)
  show own_G p e below (T9.setTop (mkF m 87 #[.val (.long v0), .second, .val (.long v1), .second, .val (.long v2), .second, .val (.long v3), .second, .val (.long v4), .second, .val (.int sel), .val (.long f0), .second, .val (.long f1), .second, .val (.long f2), .second, .val (.long f3), .second, .val (.long f4), .second, .val (.long f5), .second, .val (.long f6), .second, .val (.long f7), .second, .unset, .unset, .unset, .unset] [(.long (own_pk sel (8 : Int32) v3))])) _
  generalize ef8 : (own_pk sel (8 : Int32) v3) = f8
  refine own_blk X9 B0_87_89 B0_87_89d (ls' := #[.val (.long v0), .second, .val (.long v1), .second, .val (.long v2), .second, .val (.long v3), .second, .val (.long v4), .second, .val (.int sel), .val (.long f0), .second, .val (.long f1), .second, .val (.long f2), .second, .val (.long f3), .second, .val (.long f4), .second, .val (.long f5), .second, .val (.long f6), .second, .val (.long f7), .second, .val (.long f8), .second, .unset, .unset]) (st' := []) rfl ?_
  refine own_newO X9 (hw _ (List.mem_of_getElem? (i := 5) rfl)) (hw _ (List.mem_of_getElem? (i := 6) rfl)) (hw _ (List.mem_of_getElem? (i := 7) rfl)) d0_89 (by decide) (by decide) (fun h10 T10 X10 E10 Q10 D10 => ?_)
  have n_a : n0 ≤ h0.size := X9.2.1
  have F10_read : Fld Z h10 h0.size "com/example/deltastripe/deltastripe/Traffic" "read" "J" (.long (0 : Int64)) := D10 (Or.inr (hw _ (List.mem_of_getElem? (i := 20) rfl))) (ty := .long) (by decide)
  have F10_swap : Fld Z h10 h0.size "com/example/deltastripe/deltastripe/Traffic" "swap" "J" (.long (0 : Int64)) := D10 (Or.inr (hw _ (List.mem_of_getElem? (i := 22) rfl))) (ty := .long) (by decide)
  have F10_add : Fld Z h10 h0.size "com/example/deltastripe/deltastripe/Traffic" "add" "J" (.long (0 : Int64)) := D10 (Or.inr (hw _ (List.mem_of_getElem? (i := 24) rfl))) (ty := .long) (by decide)
  have F10_collect : Fld Z h10 h0.size "com/example/deltastripe/deltastripe/Traffic" "collect" "J" (.long (0 : Int64)) := D10 (Or.inr (hw _ (List.mem_of_getElem? (i := 26) rfl))) (ty := .long) (by decide)
  have F10_other : Fld Z h10 h0.size "com/example/deltastripe/deltastripe/Traffic" "other" "J" (.long (0 : Int64)) := D10 (Or.inr (hw _ (List.mem_of_getElem? (i := 28) rfl))) (ty := .long) (by decide)
  have F10_payloadIn : Fld Z h10 h0.size "com/example/deltastripe/deltastripe/Traffic" "payloadIn" "J" (.long (0 : Int64)) := D10 (Or.inr (hw _ (List.mem_of_getElem? (i := 30) rfl))) (ty := .long) (by decide)
  have F10_payloadOut : Fld Z h10 h0.size "com/example/deltastripe/deltastripe/Traffic" "payloadOut" "J" (.long (0 : Int64)) := D10 (Or.inr (hw _ (List.mem_of_getElem? (i := 32) rfl))) (ty := .long) (by decide)
  have F10_bytesIn : Fld Z h10 h0.size "com/example/deltastripe/deltastripe/Traffic" "bytesIn" "J" (.long (0 : Int64)) := D10 (Or.inr (hw _ (List.mem_of_getElem? (i := 34) rfl))) (ty := .long) (by decide)
  have F10_bytesOut : Fld Z h10 h0.size "com/example/deltastripe/deltastripe/Traffic" "bytesOut" "J" (.long (0 : Int64)) := D10 (Or.inr (hw _ (List.mem_of_getElem? (i := 36) rfl))) (ty := .long) (by decide)
  clear D10
  generalize ez_a : h0.size = a at Q10 n_a F10_read F10_swap F10_add F10_collect F10_other F10_payloadIn F10_payloadOut F10_bytesIn F10_bytesOut ⊢
  show own_G p e below (T10.setTop (mkF m 92 #[.val (.long v0), .second, .val (.long v1), .second, .val (.long v2), .second, .val (.long v3), .second, .val (.long v4), .second, .val (.int sel), .val (.long f0), .second, .val (.long f1), .second, .val (.long f2), .second, .val (.long f3), .second, .val (.long f4), .second, .val (.long f5), .second, .val (.long f6), .second, .val (.long f7), .second, .val (.long f8), .second, .unset, .unset] [(.ref a)])) _
  refine own_blk X10 B0_92_111 B0_92_111d (ls' := #[.val (.long v0), .second, .val (.long v1), .second, .val (.long v2), .second, .val (.long v3), .second, .val (.long v4), .second, .val (.int sel), .val (.long f0), .second, .val (.long f1), .second, .val (.long f2), .second, .val (.long f3), .second, .val (.long f4), .second, .val (.long f5), .second, .val (.long f6), .second, .val (.long f7), .second, .val (.long f8), .second, .unset, .unset]) (st' := [(.long f8), (.long f7), (.long f6), (.long f5), (.long f4), (.long f3), (.long f2), (.long f1), (.long f0), (.ref a), (.ref a)]) rfl ?_
  refine own_callN X10 rfl (hw _ (List.mem_of_getElem? (i := 8) rfl)) (hw _ (List.mem_of_getElem? (i := 9) rfl)) (hw _ (List.mem_of_getElem? (i := 7) rfl)) (hw _ (List.mem_of_getElem? (i := 10) rfl)) (by decide) (c_init l Z a0 hw a f0 f1 f2 f3 f4 f5 f6 f7 f8 h10 n0 X10.2.1 n_a Q10 F10_read F10_swap F10_add F10_collect F10_other F10_payloadIn F10_payloadOut F10_bytesIn F10_bytesOut) d0_111 [(.long f0), (.long f1), (.long f2), (.long f3), (.long f4), (.long f5), (.long f6), (.long f7), (.long f8)] [(.ref a)] rfl rfl pd2 rfl rfl (by decide) (Nat.le_of_ble_eq_true rfl) (by decide) (by decide) (fun _ _ q => Nat.le_trans X10.2.1 q.2.1.1) (fun v11 h11 T11 X11 q11 => ?_)
  obtain ⟨rfl, K11, Q11, P11_0, P11_1, P11_2, P11_3, P11_4, P11_5, P11_6, P11_7, P11_8⟩ := q11
  show own_G p e below (T11.setTop (mkF m 114 #[.val (.long v0), .second, .val (.long v1), .second, .val (.long v2), .second, .val (.long v3), .second, .val (.long v4), .second, .val (.int sel), .val (.long f0), .second, .val (.long f1), .second, .val (.long f2), .second, .val (.long f3), .second, .val (.long f4), .second, .val (.long f5), .second, .val (.long f6), .second, .val (.long f7), .second, .val (.long f8), .second, .unset, .unset] [(.ref a)])) _
  refine own_blk X11 B0_114_143 B0_114_143d (ls' := #[.val (.long v0), .second, .val (.long v1), .second, .val (.long v2), .second, .val (.long v3), .second, .val (.long v4), .second, .val (.int sel), .val (.long f0), .second, .val (.long f1), .second, .val (.long f2), .second, .val (.long f3), .second, .val (.long f4), .second, .val (.long f5), .second, .val (.long f6), .second, .val (.long f7), .second, .val (.long f8), .second, .val (.ref a), .unset]) (st' := [(.long (0 : Int64)), (.long ((((((((f0 ||| f1) ||| f2) ||| f3) ||| f4) ||| f5) ||| f6) ||| f7) ||| f8))]) rfl ?_
  refine own_lif X11 d0_143 d0_144 (pc' := 151) (by decide) (fun c143 => ?_) (fun c143 => ?_)
  · have c143 : ((((((((f0 ||| f1) ||| f2) ||| f3) ||| f4) ||| f5) ||| f6) ||| f7) ||| f8).toInt < 0 := c143
    refine own_blk X11 B0_151_156 B0_151_156d (ls' := #[.val (.long v0), .second, .val (.long v1), .second, .val (.long v2), .second, .val (.long v3), .second, .val (.long v4), .second, .val (.int sel), .val (.long f0), .second, .val (.long f1), .second, .val (.long f2), .second, .val (.long f3), .second, .val (.long f4), .second, .val (.long f5), .second, .val (.long f6), .second, .val (.long f7), .second, .val (.long f8), .second, .val (.ref a), .val (.int (0 : Int32))]) (st' := [(.ref a)]) rfl ?_
    refine own_callV X11 (hw _ (List.mem_of_getElem? (i := 37) rfl)) (hw _ (List.mem_of_getElem? (i := 38) rfl)) (hw _ (List.mem_of_getElem? (i := 40) rfl)) (hw _ (List.mem_of_getElem? (i := 39) rfl)) (hw _ (List.mem_of_getElem? (i := 7) rfl)) (hw _ (List.mem_of_getElem? (i := 41) rfl)) (by decide) Q11 (c_valid l Z a0 hw a f0 f1 f2 f3 f4 f5 f6 f7 f8 h11 n0 X11.2.1 P11_0 P11_1 P11_2 P11_3 P11_4 P11_5 P11_6 P11_7 P11_8) d0_156 [] [] rfl rfl pd5 rfl rfl (by decide) (Nat.le_of_ble_eq_true rfl) (by decide) (by decide) (fun _ _ q => by rw [q.2]; exact X11.2.1) (fun v12 h12 T12 X12 q12 => ?_)
    obtain ⟨rfl, e12⟩ := q12
    rw [e12] at X12
    show own_G p e below (T12.setTop (mkF m 159 #[.val (.long v0), .second, .val (.long v1), .second, .val (.long v2), .second, .val (.long v3), .second, .val (.long v4), .second, .val (.int sel), .val (.long f0), .second, .val (.long f1), .second, .val (.long f2), .second, .val (.long f3), .second, .val (.long f4), .second, .val (.long f5), .second, .val (.long f6), .second, .val (.long f7), .second, .val (.long f8), .second, .val (.ref a), .val (.int (0 : Int32))] [(.int (own_ok f0 f1 f2 f3 f4 f5 f6 f7 f8))])) _
    refine own_blk X12 B0_159_161 B0_159_161d (ls' := #[.val (.long v0), .second, .val (.long v1), .second, .val (.long v2), .second, .val (.long v3), .second, .val (.long v4), .second, .val (.int sel), .val (.long f0), .second, .val (.long f1), .second, .val (.long f2), .second, .val (.long f3), .second, .val (.long f4), .second, .val (.long f5), .second, .val (.long f6), .second, .val (.long f7), .second, .val (.long f8), .second, .val (.ref a), .val (.int (0 : Int32))]) (st' := [(.int (0 : Int32)), (.int (own_ok f0 f1 f2 f3 f4 f5 f6 f7 f8))]) rfl ?_
    refine own_icmp X12 d0_161 (pc' := 168) (by decide) (fun (c161 : ¬ (own_ok f0 f1 f2 f3 f4 f5 f6 f7 f8).toInt = 0) => by exfalso; simp only [own_or_lt] at c143; unfold own_ok at c161; split at c161 <;> simp at c161 <;> omega) (fun c161 => ?_)
    have c161 : ¬ (¬ (own_ok f0 f1 f2 f3 f4 f5 f6 f7 f8).toInt = 0) := c161
    refine own_blk X12 B0_164_165 B0_164_165d (ls' := #[.val (.long v0), .second, .val (.long v1), .second, .val (.long v2), .second, .val (.long v3), .second, .val (.long v4), .second, .val (.int sel), .val (.long f0), .second, .val (.long f1), .second, .val (.long f2), .second, .val (.long f3), .second, .val (.long f4), .second, .val (.long f5), .second, .val (.long f6), .second, .val (.long f7), .second, .val (.long f8), .second, .val (.ref a), .val (.int (0 : Int32))]) (st' := [(.int (1 : Int32))]) rfl ?_
    refine own_goto X12 d0_165 (pc' := 169) (by decide) ?_
    exact own_retN X12 (by simp) d0_169 (v' := (1 : Int32)) (rfl) (by decide) (by decide) (rfl)
  · have c143 : ¬ (((((((((f0 ||| f1) ||| f2) ||| f3) ||| f4) ||| f5) ||| f6) ||| f7) ||| f8).toInt < 0) := c143
    refine own_blk X11 B0_147_148 B0_147_148d (ls' := #[.val (.long v0), .second, .val (.long v1), .second, .val (.long v2), .second, .val (.long v3), .second, .val (.long v4), .second, .val (.int sel), .val (.long f0), .second, .val (.long f1), .second, .val (.long f2), .second, .val (.long f3), .second, .val (.long f4), .second, .val (.long f5), .second, .val (.long f6), .second, .val (.long f7), .second, .val (.long f8), .second, .val (.ref a), .unset]) (st' := [(.int (1 : Int32))]) rfl ?_
    refine own_goto X11 d0_148 (pc' := 152) (by decide) ?_
    refine own_blk X11 B0_152_156 B0_152_156d (ls' := #[.val (.long v0), .second, .val (.long v1), .second, .val (.long v2), .second, .val (.long v3), .second, .val (.long v4), .second, .val (.int sel), .val (.long f0), .second, .val (.long f1), .second, .val (.long f2), .second, .val (.long f3), .second, .val (.long f4), .second, .val (.long f5), .second, .val (.long f6), .second, .val (.long f7), .second, .val (.long f8), .second, .val (.ref a), .val (.int (1 : Int32))]) (st' := [(.ref a)]) rfl ?_
    refine own_callV X11 (hw _ (List.mem_of_getElem? (i := 37) rfl)) (hw _ (List.mem_of_getElem? (i := 38) rfl)) (hw _ (List.mem_of_getElem? (i := 40) rfl)) (hw _ (List.mem_of_getElem? (i := 39) rfl)) (hw _ (List.mem_of_getElem? (i := 7) rfl)) (hw _ (List.mem_of_getElem? (i := 41) rfl)) (by decide) Q11 (c_valid l Z a0 hw a f0 f1 f2 f3 f4 f5 f6 f7 f8 h11 n0 X11.2.1 P11_0 P11_1 P11_2 P11_3 P11_4 P11_5 P11_6 P11_7 P11_8) d0_156 [] [] rfl rfl pd5 rfl rfl (by decide) (Nat.le_of_ble_eq_true rfl) (by decide) (by decide) (fun _ _ q => by rw [q.2]; exact X11.2.1) (fun v13 h13 T13 X13 q13 => ?_)
    obtain ⟨rfl, e13⟩ := q13
    rw [e13] at X13
    show own_G p e below (T13.setTop (mkF m 159 #[.val (.long v0), .second, .val (.long v1), .second, .val (.long v2), .second, .val (.long v3), .second, .val (.long v4), .second, .val (.int sel), .val (.long f0), .second, .val (.long f1), .second, .val (.long f2), .second, .val (.long f3), .second, .val (.long f4), .second, .val (.long f5), .second, .val (.long f6), .second, .val (.long f7), .second, .val (.long f8), .second, .val (.ref a), .val (.int (1 : Int32))] [(.int (own_ok f0 f1 f2 f3 f4 f5 f6 f7 f8))])) _
    refine own_blk X13 B0_159_161 B0_159_161d (ls' := #[.val (.long v0), .second, .val (.long v1), .second, .val (.long v2), .second, .val (.long v3), .second, .val (.long v4), .second, .val (.int sel), .val (.long f0), .second, .val (.long f1), .second, .val (.long f2), .second, .val (.long f3), .second, .val (.long f4), .second, .val (.long f5), .second, .val (.long f6), .second, .val (.long f7), .second, .val (.long f8), .second, .val (.ref a), .val (.int (1 : Int32))]) (st' := [(.int (1 : Int32)), (.int (own_ok f0 f1 f2 f3 f4 f5 f6 f7 f8))]) rfl ?_
    refine own_icmp X13 d0_161 (pc' := 168) (by decide) (fun (c161 : ¬ (own_ok f0 f1 f2 f3 f4 f5 f6 f7 f8).toInt = 1) => by exfalso; simp only [own_or_lt] at c143; unfold own_ok at c161; split at c161 <;> simp at c161 <;> omega) (fun c161 => ?_)
    have c161 : ¬ (¬ (own_ok f0 f1 f2 f3 f4 f5 f6 f7 f8).toInt = 1) := c161
    refine own_blk X13 B0_164_165 B0_164_165d (ls' := #[.val (.long v0), .second, .val (.long v1), .second, .val (.long v2), .second, .val (.long v3), .second, .val (.long v4), .second, .val (.int sel), .val (.long f0), .second, .val (.long f1), .second, .val (.long f2), .second, .val (.long f3), .second, .val (.long f4), .second, .val (.long f5), .second, .val (.long f6), .second, .val (.long f7), .second, .val (.long f8), .second, .val (.ref a), .val (.int (1 : Int32))]) (st' := [(.int (1 : Int32))]) rfl ?_
    refine own_goto X13 d0_165 (pc' := 169) (by decide) ?_
    exact own_retN X13 (by simp) d0_169 (v' := (1 : Int32)) (rfl) (by decide) (by decide) (rfl)
set_option maxRecDepth 65536 in
set_option maxHeartbeats 40000000 in
theorem comes_1 {Post : Tables → Env → Array Value → State → Outcome → State → Prop} (hpost : ∀ tb e args s v u, (limb_1_1.after args s (.returned v) u = true ∧ limb_1_2.after args s (.returned v) u = true ∧ True) → FrameEnd s (.returned v) u (Jvm.fieldLocs frame_1_writes args s ++ Jvm.arrayLocs frame_1_arrays args s ++ Jvm.staticLocs frame_1_statics s) 16 128 → Post tb e args s (.returned v) u) :
    ArmFor flags0 classFile x code maxLocals ret World_1 tables_1 room_1 Calls_1 rest_1 Pre_1 Post := by
  intro l hfl _ _ p e ha hc hk s m args below hf hA hF happ hP
  obtain ⟨hcalls, hrest, hpre⟩ := hP
  obtain ⟨-, -, -, hnamed, -, -, -, hat⟩ := (Spec.applies_iff hf).mp happ
  obtain ⟨hg, hn⟩ := and_e (Cond.before_iff.mp (show (Jvm.Cond.and given_1 narrow_1).before args s = true from hpre))
  obtain ⟨gc, g0⟩ := and_e hg
  obtain ⟨q0, g1⟩ := and_e g0
  obtain ⟨q1, g2⟩ := and_e g1
  obtain ⟨q2, g3⟩ := and_e g2
  obtain ⟨q3, g4⟩ := and_e g3
  obtain ⟨q4, g5⟩ := and_e g4
  obtain ⟨w0, w1, w2, w3, w4, w5, rfl⟩ : ∃ w0 w1 w2 w3 w4 w5 : Value, args = #[w0, w1, w2, w3, w4, w5] := by
    have hs : args.size = 6 := by simpa [Cond.value, given_1] using gc
    obtain ⟨L⟩ := args
    match L, hs with
    | [w0, w1, w2, w3, w4, w5], _ => exact ⟨w0, w1, w2, w3, w4, w5, rfl⟩
  have hw := fun d (hd : d ∈ tables_1) => atoms_spec (ws := Jvm.Cond.code x code maxLocals ret :: tables_1) hat d (List.mem_cons_of_mem _ hd)
  obtain ⟨i0, ei0⟩ := isL_v q0
  obtain rfl : w0 = (.long i0) := Option.some.inj ei0
  obtain ⟨i1, ei1⟩ := isL_v q1
  obtain rfl : w1 = (.long i1) := Option.some.inj ei1
  obtain ⟨i2, ei2⟩ := isL_v q2
  obtain rfl : w2 = (.long i2) := Option.some.inj ei2
  obtain ⟨i3, ei3⟩ := isL_v q3
  obtain rfl : w3 = (.long i3) := Option.some.inj ei3
  obtain ⟨i4, ei4⟩ := isL_v q4
  obtain rfl : w4 = (.long i4) := Option.some.inj ei4
  obtain ⟨i5, ei5⟩ := is_v g5
  obtain rfl : w5 = (.int i5) := Option.some.inj ei5
  obtain ⟨n, o, h1, h2, h3, _, L, rfl, ⟨N, rfl⟩, hq⟩ := c_law l s _ hw i0 i1 i2 i3 i4 i5 s.heap s.heap.size (Nat.le_refl _) tables_1 p e ha hc hk s m _ below hf ((Spec.applies_iff_loose hf).mp happ).1 ⟨rfl, State.Warmed39.refl s, rfl⟩ trivial
  refine ⟨n, _, h1, h2, h3, hpost _ _ _ _ _ _ ⟨Cond.after_iff.mpr rfl, Cond.after_iff.mpr (eq_i res_at (Term.int_eval (1)) rfl), trivial⟩ ⟨hq.1, hq.2.1, (hq.2.2.sift fun y hy => Or.inr (N y hy)).mono (by decide) (by decide)⟩⟩
theorem main_1_1 : Claimed_1_1 := comes_1 fun _ _ _ _ _ _ h hF => ⟨h.1, hF⟩
theorem main_1_2 : Claimed_1_2 := comes_1 fun _ _ _ _ _ _ h hF => ⟨h.2.1, hF⟩
end Jvm.Pilot.@@N@@
namespace Jvm.Pilot.@@N@@
open Jvm Jvm.ClassFile Sem Op Lib Jvm.Free Jvm.Stand Jvm.Pilot.@@N@@.Jvm.D
/-! MADE BY PROGRAM (witnessworld.py) out of the Statement's table words and the real class files: 10 classes; the members and pool entries that the words name. The judged class is class 1, her method 2. -/
namespace start1
open Jvm.ClassFile
def u (s : String) : CpInfo := .utf8 (stringToUtf16 s)
/-- a pool by its gaps: so many unusable entries, then the entry; so many at the end -/
def gap : Nat → List CpInfo → List CpInfo
  | 0, r => r
  | n + 1, r => .unusable :: gap n r
def poolList (es : List (Nat × CpInfo)) (last : Nat) : List CpInfo := es.foldr (fun e r => gap e.1 (e.2 :: r)) (gap last [])
def pool (es : List (Nat × CpInfo)) (last : Nat) : Array CpInfo := ⟨poolList es last⟩
def fileOf (pool : Array CpInfo) (this : Nat) (attrs : Array Attribute := #[]) (ms : Array MethodInfo := #[]) (fl : Nat := 33) (sup : Nat := 0) (ifs : Array Nat := #[]) (fds : Array FieldInfo := #[]) : ClassFile where
  minorVersion := 0
  majorVersion := 65
  constantPool := pool
  accessFlags := fl
  thisClass := this
  superClass := sup
  interfaces := ifs
  fields := fds
  methods := ms
  attributes := attrs
def plain (name : String) (sup : Option ClassId) : Class where
  name := name
  kind := .ordinary
  loader := none
  accessFlags := 33
  super := sup
  interfaces := #[]
  cf := none
  fields := #[]
  methods := #[]
  instanceTypes := #[]
  staticTypes := #[]
  resolved := #[]
  callSites := []
  init := .initialized
  statics := none
  mirror := none

def pool0 : Array CpInfo := pool [(5, u "<init>"), (0, u "()V"), (1, .class_ 10), (1, u "java/lang/Object")] 113

def k0c0 : Code := { maxStack := 0, maxLocals := 1, code := object_method_1_code, exceptionTable := #[], attributes := #[] }
def k0m0 : Method := { name := "<init>", desc := "()V", sig := { parameters := [], returnType := none }, accessFlags := 1, code := some k0c0 }
/-- java/lang/Object -/
def k0 : Class := { plain "java/lang/Object" none with
  accessFlags := 33
  interfaces := #[]
  cf := some (fileOf pool0 8 #[] #[{ accessFlags := 1, nameIndex := 5, descriptorIndex := 6, attributes := #[] }] 33 0 #[] #[])
  fields := #[]
  methods := #[k0m0]
  instanceTypes := #[]
  staticTypes := #[]
  resolved := Array.replicate 124 none
  statics := none }

def pool1 : Array CpInfo := pool [(2, .class_ 4), (1, u "java/lang/Object"), (0, u "<init>"), (0, u "()V"), (2, .long 9223372036854775807), (1, .methodref 12 13), (0, .class_ 14), (0, .nameAndType 15 16), (0, u "com/example/deltastripe/deltastripe/TrafficIsValidPinLaw"), (0, u "pick"), (0, u "(IIJ)J"), (0, .class_ 18), (0, u "com/example/deltastripe/deltastripe/Traffic"), (0, .methodref 17 20), (0, .nameAndType 5 21), (0, u "(JJJJJJJJJ)V"), (0, .methodref 17 23), (0, .nameAndType 24 25), (0, u "isValid"), (0, u "()Z"), (3, u "law"), (0, u "(JJJJJI)Z")] 2

def k1m0 : Method := { name := "<init>", desc := "()V", sig := { parameters := [], returnType := none }, accessFlags := 2, code := none }
def k1c1 : Code := { maxStack := 4, maxLocals := 4, code := method_2_code, exceptionTable := #[], attributes := #[] }
def k1m1 : Method := { name := "pick", desc := "(IIJ)J", sig := { parameters := [.int, .int, .long], returnType := some .long }, accessFlags := 10, code := some k1c1 }
def k1c2 : Code := { maxStack := 20, maxLocals := 31, code := code, exceptionTable := #[], attributes := #[] }
def k1m2 : Method := { name := "law", desc := "(JJJJJI)Z", sig := { parameters := [.long, .long, .long, .long, .long, .int], returnType := some .boolean }, accessFlags := 9, code := some k1c2 }
/-- com/example/deltastripe/deltastripe/TrafficIsValidPinLaw -/
def k1 : Class := { plain "com/example/deltastripe/deltastripe/TrafficIsValidPinLaw" (some 0) with
  accessFlags := 49
  interfaces := #[]
  cf := some (fileOf pool1 12 #[] #[{ accessFlags := 2, nameIndex := 5, descriptorIndex := 6, attributes := #[] }, { accessFlags := 10, nameIndex := 15, descriptorIndex := 16, attributes := #[] }, { accessFlags := 9, nameIndex := 29, descriptorIndex := 30, attributes := #[] }] 49 2 #[] #[])
  fields := #[]
  methods := #[k1m0, k1m1, k1m2]
  instanceTypes := #[]
  staticTypes := #[]
  resolved := Array.replicate 33 none
  statics := none }

def pool2 : Array CpInfo := pool [(1, .methodref 2 3), (0, .class_ 4), (0, .nameAndType 5 6), (0, u "java/lang/Object"), (0, u "<init>"), (0, u "()V"), (0, .class_ 8), (0, u "java/lang/Record")] 13

def k2c0 : Code := { maxStack := 1, maxLocals := 1, code := jdk_30_method_1_code, exceptionTable := #[], attributes := #[] }
def k2m0 : Method := { name := "<init>", desc := "()V", sig := { parameters := [], returnType := none }, accessFlags := 4, code := some k2c0 }
/-- java/lang/Record -/
def k2 : Class := { plain "java/lang/Record" (some 0) with
  accessFlags := 1057
  interfaces := #[]
  cf := some (fileOf pool2 7 #[] #[{ accessFlags := 4, nameIndex := 5, descriptorIndex := 6, attributes := #[] }] 1057 2 #[] #[])
  fields := #[]
  methods := #[k2m0]
  instanceTypes := #[]
  staticTypes := #[]
  resolved := Array.replicate 22 none
  statics := none }

def pool3 : Array CpInfo := pool [(5, .class_ 6), (0, u "com/example/deltastripe/deltastripe/Traffic"), (0, .methodref 8 9), (0, .class_ 10), (0, .nameAndType 11 12), (0, u "java/lang/Record"), (0, u "<init>"), (0, u "()V"), (0, .fieldref 5 14), (0, .nameAndType 15 16), (0, u "read"), (0, u "J"), (0, .fieldref 5 18), (0, .nameAndType 19 16), (0, u "swap"), (0, .fieldref 5 21), (0, .nameAndType 22 16), (0, u "add"), (0, .fieldref 5 24), (0, .nameAndType 25 16), (0, u "collect"), (0, .fieldref 5 27), (0, .nameAndType 28 16), (0, u "other"), (0, .fieldref 5 30), (0, .nameAndType 31 16), (0, u "payloadIn"), (0, .fieldref 5 33), (0, .nameAndType 34 16), (0, u "payloadOut"), (0, .fieldref 5 36), (0, .nameAndType 37 16), (0, u "bytesIn"), (0, .fieldref 5 39), (0, .nameAndType 40 16), (0, u "bytesOut"), (12, u "(JJJJJJJJJ)V"), (8, u "NONE"), (0, u "Lcom/example/deltastripe/deltastripe/Traffic;"), (30, u "BYTES"), (0, u "I"), (2, u "SWAP_HEAD"), (1, u "ADD_HEAD"), (1, u "LENGTH_BYTES"), (13, u "isValid"), (0, u "()Z")] 40

def k3c0 : Code := { maxStack := 3, maxLocals := 19, code := prog_106_method_1_code, exceptionTable := #[], attributes := #[] }
def k3m0 : Method := { name := "<init>", desc := "(JJJJJJJJJ)V", sig := { parameters := [.long, .long, .long, .long, .long, .long, .long, .long, .long], returnType := none }, accessFlags := 0, code := some k3c0 }
def k3c1 : Code := { maxStack := 4, maxLocals := 1, code := prog_106_method_6_code, exceptionTable := #[], attributes := #[] }
def k3m1 : Method := { name := "isValid", desc := "()Z", sig := { parameters := [], returnType := some .boolean }, accessFlags := 0, code := some k3c1 }
/-- com/example/deltastripe/deltastripe/Traffic -/
def k3 : Class := { plain "com/example/deltastripe/deltastripe/Traffic" (some 2) with
  accessFlags := 48
  interfaces := #[]
  cf := some (fileOf pool3 5 #[] #[{ accessFlags := 0, nameIndex := 11, descriptorIndex := 53, attributes := #[] }, { accessFlags := 0, nameIndex := 116, descriptorIndex := 117, attributes := #[] }] 48 8 #[] #[{ accessFlags := 18, nameIndex := 15, descriptorIndex := 16, attributes := #[] }, { accessFlags := 18, nameIndex := 19, descriptorIndex := 16, attributes := #[] }, { accessFlags := 18, nameIndex := 22, descriptorIndex := 16, attributes := #[] }, { accessFlags := 18, nameIndex := 25, descriptorIndex := 16, attributes := #[] }, { accessFlags := 18, nameIndex := 28, descriptorIndex := 16, attributes := #[] }, { accessFlags := 18, nameIndex := 31, descriptorIndex := 16, attributes := #[] }, { accessFlags := 18, nameIndex := 34, descriptorIndex := 16, attributes := #[] }, { accessFlags := 18, nameIndex := 37, descriptorIndex := 16, attributes := #[] }, { accessFlags := 18, nameIndex := 40, descriptorIndex := 16, attributes := #[] }, { accessFlags := 24, nameIndex := 62, descriptorIndex := 63, attributes := #[] }, { accessFlags := 24, nameIndex := 94, descriptorIndex := 95, attributes := #[] }, { accessFlags := 26, nameIndex := 98, descriptorIndex := 95, attributes := #[] }, { accessFlags := 26, nameIndex := 100, descriptorIndex := 95, attributes := #[] }, { accessFlags := 26, nameIndex := 102, descriptorIndex := 95, attributes := #[] }])
  fields := #[{ name := "read", type := .long, accessFlags := 18, slot := 0, constantValue := 0 }, { name := "swap", type := .long, accessFlags := 18, slot := 1, constantValue := 0 }, { name := "add", type := .long, accessFlags := 18, slot := 2, constantValue := 0 }, { name := "collect", type := .long, accessFlags := 18, slot := 3, constantValue := 0 }, { name := "other", type := .long, accessFlags := 18, slot := 4, constantValue := 0 }, { name := "payloadIn", type := .long, accessFlags := 18, slot := 5, constantValue := 0 }, { name := "payloadOut", type := .long, accessFlags := 18, slot := 6, constantValue := 0 }, { name := "bytesIn", type := .long, accessFlags := 18, slot := 7, constantValue := 0 }, { name := "bytesOut", type := .long, accessFlags := 18, slot := 8, constantValue := 0 }, { name := "NONE", type := (.object "com/example/deltastripe/deltastripe/Traffic"), accessFlags := 24, slot := 0, constantValue := 0 }, { name := "BYTES", type := .int, accessFlags := 24, slot := 1, constantValue := 0 }, { name := "SWAP_HEAD", type := .int, accessFlags := 26, slot := 2, constantValue := 0 }, { name := "ADD_HEAD", type := .int, accessFlags := 26, slot := 3, constantValue := 0 }, { name := "LENGTH_BYTES", type := .int, accessFlags := 26, slot := 4, constantValue := 0 }]
  methods := #[k3m0, k3m1]
  instanceTypes := #[.long, .long, .long, .long, .long, .long, .long, .long, .long]
  staticTypes := #[(.object "com/example/deltastripe/deltastripe/Traffic"), .int, .int, .int, .int]
  resolved := Array.replicate 158 none
  statics := none }

def pool4 : Array CpInfo := pool [(1, u "java/lang/Cloneable"), (0, .class_ 1), (0, u "java/lang/Object"), (0, .class_ 3)] 3

/-- java/lang/Cloneable -/
def k4 : Class := { plain "java/lang/Cloneable" (some 0) with
  accessFlags := 1537
  interfaces := #[]
  cf := some (fileOf pool4 2 #[] #[] 1537 4 #[] #[])
  fields := #[]
  methods := #[]
  instanceTypes := #[]
  staticTypes := #[]
  resolved := Array.replicate 8 none
  statics := none }

def pool5 : Array CpInfo := pool [(1, u "java/io/Serializable"), (0, .class_ 1), (0, u "java/lang/Object"), (0, .class_ 3)] 3

/-- java/io/Serializable -/
def k5 : Class := { plain "java/io/Serializable" (some 0) with
  accessFlags := 1537
  interfaces := #[]
  cf := some (fileOf pool5 2 #[] #[] 1537 4 #[] #[])
  fields := #[]
  methods := #[]
  instanceTypes := #[]
  staticTypes := #[]
  resolved := Array.replicate 8 none
  statics := none }

/-- the primitive byte -/
def k6 : Class := { plain "byte" none with kind := .primitive 'B', accessFlags := 0x411 }
/-- [B -/
def k7 : Class := { plain "[B" (some 0) with kind := .array 6 .byte, interfaces := #[4, 5], accessFlags := 1041 }

/-- the primitive int -/
def k8 : Class := { plain "int" none with kind := .primitive 'I', accessFlags := 0x411 }
/-- [I -/
def k9 : Class := { plain "[I" (some 0) with kind := .array 8 .int, interfaces := #[4, 5], accessFlags := 1041 }

def heap : Heap := #[]
def classes : Array Class := #[k0, k1, k2, k3, k4, k5, k6, k7, k8, k9]
def interned : List (Array UInt16 × Addr) := []
def slotsUsed : Nat := 0
def theMethod : MethodId := ⟨1, 2⟩
def args0 : Array Value := #[.long 5, .long 6, .long 7, .long 8, .long 9, .int 10]
def aboutOver (below : List Frame) : State where
  vm := { classes := classes, interned := interned.toArray }
  heap := heap
  slotsUsed := slotsUsed
  threads := #[{ frames := .invoking theMethod args0 :: below }]
def below0 : List Frame := [.native { method := ⟨0, 0⟩, args := #[] }]
def about1 : State := aboutOver below0
def p0 : Program := .bare "" "" ""
def e0 : Env := launch0.env 0 0 0
theorem w_frames : about1.frames = Frame.invoking theMethod args0 :: below0 := rfl
set_option maxRecDepth 65536 in
theorem w_args : argsFit about1.vm theMethod args0 = true := by decide +kernel
set_option maxRecDepth 65536 in
theorem w_heap : heapFits about1 = true := by decide +kernel
set_option maxRecDepth 65536 in
theorem w_runnable : about1.curStatus? = some .runnable := by decide +kernel
set_option maxRecDepth 65536 in
theorem w_alone : about1.alone = true := by decide +kernel
set_option maxRecDepth 65536 in
theorem w_named : about1.methodNamed? x = some theMethod := by decide +kernel
set_option maxRecDepth 65536 in
theorem w_hears : about1.hears theMethod below0 = true := by decide +kernel
set_option maxRecDepth 65536 in
theorem w_ripe : about1.ripe theMethod args0 below0 = true := by decide +kernel
theorem w_running : about1.status = .running := rfl
set_option maxRecDepth 65536 in
theorem w_room : about1.hasRoom e0.platform room_1 = true :=
  launch0.hasRoom_least _ room_1 (by decide +kernel) (by decide +kernel) (by decide +kernel) (by decide +kernel) (by decide +kernel) (by decide +kernel)
theorem allAtoms_all (ts : List Jvm.Cond) (a : Array Jvm.Value) (st : Jvm.State) : (allAtoms ts).before a st = ts.all (fun c => c.before a st) := by
  induction ts with
  | nil => rfl
  | cons c t ih =>
    show (Jvm.Cond.and c (allAtoms t)).before a st = _
    rw [Jvm.Cond.before_and, ih, List.all_cons]
def words1 : List Jvm.Cond := Jvm.Cond.code x code maxLocals ret :: tables_1
/-- a 'code' word, met by the world's own term for the bytes: nothing is compared byte by byte -/
theorem code_word {y : MethodName} {bytes : ByteArray} {mx : Nat} {rt : Option FieldType} {a : Array Value} {s : State} {m : MethodId} {meth : Method} {c : Code} (h1 : s.methodNamed? y = some m) (h2 : s.vm.method? m = some meth) (h3 : meth.code = some c) (h4 : c.code = bytes)
    (h5 : (c.maxLocals == mx && c.exceptionTable.isEmpty && decide (c.maxStack ≤ mostOperands) && decide (meth.sig.returnType = rt) && !meth.locks && decide (parseMethodDescriptor y.desc = some meth.sig)) = true) : (Jvm.Cond.code y bytes mx rt).before a s = true := by
  simp only [Bool.and_eq_true, beq_iff_eq, Bool.not_eq_true', decide_eq_true_eq] at h5
  obtain ⟨⟨⟨⟨⟨g1, g2⟩, g3⟩, g4⟩, g5⟩, g6⟩ := h5
  simp [Cond.before, Cond.holds, Cond.value, h1, h2, h3, h4, g1, g2, g3, g4, g5, g6]
def isCode : Jvm.Cond → Bool
  | .code _ _ _ _ => true
  | _ => false
theorem all_split {L : List Jvm.Cond} {P : Jvm.Cond → Bool} (h1 : L.all (fun c => isCode c || P c) = true) (h2 : ∀ c ∈ L.filter isCode, P c = true) : L.all P = true := by
  refine List.all_eq_true.mpr fun c hc => ?_
  have h := List.all_eq_true.mp h1 c hc
  rcases Bool.eq_false_or_eq_true (isCode c) with hi | hi
  · exact h2 c (List.mem_filter.mpr ⟨hc, hi⟩)
  · simpa [hi] using h
set_option maxRecDepth 65536 in
theorem w_c0 : (Jvm.Cond.code x code maxLocals ret).before args0 about1 = true := code_word (m := ⟨1, 2⟩) (meth := k1m2) (c := k1c2) (by decide +kernel) rfl rfl rfl (by decide +kernel)
set_option maxRecDepth 65536 in
theorem w_c1 : (Jvm.Cond.code ({ cls := "com/example/deltastripe/deltastripe/TrafficIsValidPinLaw", name := "pick", desc := "(IIJ)J" } : Jvm.MethodName) method_2_code (4 : Nat) (Option.some Jvm.ClassFile.FieldType.long)).before args0 about1 = true := code_word (m := ⟨1, 1⟩) (meth := k1m1) (c := k1c1) (by decide +kernel) rfl rfl rfl (by decide +kernel)
set_option maxRecDepth 65536 in
theorem w_c2 : (Jvm.Cond.code ({ cls := "com/example/deltastripe/deltastripe/Traffic", name := "<init>", desc := "(JJJJJJJJJ)V" } : Jvm.MethodName) prog_106_method_1_code (19 : Nat) (Option.none : Option Jvm.ClassFile.FieldType)).before args0 about1 = true := code_word (m := ⟨3, 0⟩) (meth := k3m0) (c := k3c0) (by decide +kernel) rfl rfl rfl (by decide +kernel)
set_option maxRecDepth 65536 in
theorem w_c3 : (Jvm.Cond.code ({ cls := "java/lang/Record", name := "<init>", desc := "()V" } : Jvm.MethodName) jdk_30_method_1_code (1 : Nat) (Option.none : Option Jvm.ClassFile.FieldType)).before args0 about1 = true := code_word (m := ⟨2, 0⟩) (meth := k2m0) (c := k2c0) (by decide +kernel) rfl rfl rfl (by decide +kernel)
set_option maxRecDepth 65536 in
theorem w_c4 : (Jvm.Cond.code ({ cls := "java/lang/Object", name := "<init>", desc := "()V" } : Jvm.MethodName) object_method_1_code (1 : Nat) (Option.none : Option Jvm.ClassFile.FieldType)).before args0 about1 = true := code_word (m := ⟨0, 0⟩) (meth := k0m0) (c := k0c0) (by decide +kernel) rfl rfl rfl (by decide +kernel)
set_option maxRecDepth 65536 in
theorem w_c5 : (Jvm.Cond.code ({ cls := "com/example/deltastripe/deltastripe/Traffic", name := "isValid", desc := "()Z" } : Jvm.MethodName) prog_106_method_6_code (1 : Nat) (Option.some Jvm.ClassFile.FieldType.boolean)).before args0 about1 = true := code_word (m := ⟨3, 1⟩) (meth := k3m1) (c := k3c1) (by decide +kernel) rfl rfl rfl (by decide +kernel)
def codes1 : List Jvm.Cond := [Jvm.Cond.code x code maxLocals ret, Jvm.Cond.code ({ cls := "com/example/deltastripe/deltastripe/TrafficIsValidPinLaw", name := "pick", desc := "(IIJ)J" } : Jvm.MethodName) method_2_code (4 : Nat) (Option.some Jvm.ClassFile.FieldType.long), Jvm.Cond.code ({ cls := "com/example/deltastripe/deltastripe/Traffic", name := "<init>", desc := "(JJJJJJJJJ)V" } : Jvm.MethodName) prog_106_method_1_code (19 : Nat) (Option.none : Option Jvm.ClassFile.FieldType), Jvm.Cond.code ({ cls := "java/lang/Record", name := "<init>", desc := "()V" } : Jvm.MethodName) jdk_30_method_1_code (1 : Nat) (Option.none : Option Jvm.ClassFile.FieldType), Jvm.Cond.code ({ cls := "java/lang/Object", name := "<init>", desc := "()V" } : Jvm.MethodName) object_method_1_code (1 : Nat) (Option.none : Option Jvm.ClassFile.FieldType), Jvm.Cond.code ({ cls := "com/example/deltastripe/deltastripe/Traffic", name := "isValid", desc := "()Z" } : Jvm.MethodName) prog_106_method_6_code (1 : Nat) (Option.some Jvm.ClassFile.FieldType.boolean)]
set_option maxRecDepth 65536 in
theorem codes_eq : words1.filter isCode = codes1 := rfl
theorem w_codes : ∀ c ∈ words1.filter isCode, c.before args0 about1 = true := by
  rw [codes_eq]
  intro c hc
  simp only [codes1, List.mem_cons, List.not_mem_nil, or_false] at hc
  rcases hc with rfl | rfl | rfl | rfl | rfl | rfl
  · exact w_c0
  · exact w_c1
  · exact w_c2
  · exact w_c3
  · exact w_c4
  · exact w_c5
set_option maxRecDepth 65536 in
theorem w_t1 : (words1.take 24).all (fun c => isCode c || c.before args0 about1) = true := by decide +kernel
set_option maxRecDepth 65536 in
theorem w_t2 : (words1.drop 24).all (fun c => isCode c || c.before args0 about1) = true := by decide +kernel
theorem w_tables : (allAtoms (Jvm.Cond.code x code maxLocals ret :: tables_1)).before args0 about1 = true := by
  rw [allAtoms_all]
  show words1.all (fun c => c.before args0 about1) = true
  refine all_split ?_ w_codes
  rw [← List.take_append_drop 24 words1, List.all_append, w_t1, w_t2]
  rfl
set_option maxRecDepth 65536 in
theorem w_case : (Jvm.Cond.and given_1 narrow_1).before args0 about1 = true := by decide +kernel
theorem w_applies : (headSpec (Jvm.Cond.code x code maxLocals ret :: tables_1) room_1).applies x e0.platform about1 = true :=
  (Spec.applies_iff w_frames).mpr ⟨w_running, w_runnable, w_alone, w_named, w_hears, w_ripe, w_room, w_tables⟩
theorem atStart : AtStart classFile x code maxLocals ret World_1 tables_1 room_1 Calls_1 rest_1 Pre_1 launch0 p0 e0 about1 theMethod args0 below0 :=
  ⟨lists_1, trivial, launch0.admits_env _ _ _, launch0.least_env, fairChoices_fair.cas, fairChoices_fair.clock, w_frames, w_args, w_heap, w_applies, trivial, trivial, w_case⟩
end start1
theorem witness_1 : WitnessClaimed_1 := ⟨start1.p0, start1.e0, start1.about1, start1.theMethod, start1.args0, start1.below0, start1.atStart⟩
end Jvm.Pilot.@@N@@
