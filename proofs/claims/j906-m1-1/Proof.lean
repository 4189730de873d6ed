import JvmDerived
import JvmDerived.Pilot.@@N@@Statement
import JvmDerived.Pilot.@@N@@Code
set_option linter.unusedVariables false
set_option linter.unusedSimpArgs false
@@BLOCK:NumsL.lean.txt@@
namespace Jvm.Pilot.@@N@@
open Jvm Jvm.ClassFile Sem Op Lib Jvm.Free Jvm.Stand Jvm.LawKit Jvm.RoadKit Bundle Jvm.Pilot.@@N@@.Jvm.D
/-! ### own layer 1: plain steps by evaluation over a list of decoded instructions -/
def own_iushr (x y : Int32) : Int32 := (x.toUInt32 >>> (y &&& 31).toUInt32).toInt32
def own_ishl (x y : Int32) : Int32 := x <<< (y &&& 31)
def own_ishr (x y : Int32) : Int32 := x >>> (y &&& 31)
def own_irem (x y : Int32) : Int32 := x - (x / y) * y
def own_lrem (x y : Int64) : Int64 := x - (x / y) * y
def own_lushr (x : Int64) (y : Int32) : Int64 := (x.toUInt64 >>> (y &&& 0x3f).toInt64.toUInt64).toInt64
def own_lshl (x : Int64) (y : Int32) : Int64 := x <<< (y &&& 0x3f).toInt64
def own_lshr (x : Int64) (y : Int32) : Int64 := x >>> (y &&& 0x3f).toInt64
def own_i2b (x : Int32) : Int32 := x.toInt8.toInt32

abbrev own_R : Type := Option (Array Slot × List Value)
def own_i2 (f : Int32 → Int32 → Int32) (ls : Array Slot) : List Value → own_R
  | .int y :: .int x :: r => some (ls, .int (f x y) :: r)
  | _ => none
def own_i1 (f : Int32 → Value) (ls : Array Slot) : List Value → own_R
  | .int x :: r => some (ls, f x :: r)
  | _ => none
def own_l2 (f : Int64 → Int64 → Int64) (ls : Array Slot) : List Value → own_R
  | .long y :: .long x :: r => some (ls, .long (f x y) :: r)
  | _ => none
def own_lS (f : Int64 → Int32 → Int64) (ls : Array Slot) : List Value → own_R
  | .int y :: .long x :: r => some (ls, .long (f x y) :: r)
  | _ => none
def own_l1 (f : Int64 → Value) (ls : Array Slot) : List Value → own_R
  | .long x :: r => some (ls, f x :: r)
  | _ => none
def own_li (ls : Array Slot) (k : Nat) (st : List Value) : own_R :=
  match ls[k]? with
  | some (.val (.int v)) => some (ls, .int v :: st)
  | _ => none
def own_ll (ls : Array Slot) (k : Nat) (st : List Value) : own_R :=
  match ls[k]? with
  | some (.val (.long v)) => some (ls, .long v :: st)
  | _ => none
def own_la (ls : Array Slot) (k : Nat) (st : List Value) : own_R :=
  match ls[k]? with
  | some (.val (.ref v)) => some (ls, .ref v :: st)
  | some (.val .null) => some (ls, .null :: st)
  | _ => none
def own_sv (ls : Array Slot) (k : Nat) (v : Value) (r : List Value) : own_R :=
  match storeLocals ls k v with
  | some l' => some (l', r)
  | none => none
def own_si (ls : Array Slot) (k : Nat) : List Value → own_R
  | .int x :: r => own_sv ls k (.int x) r
  | _ => none
def own_sl (ls : Array Slot) (k : Nat) : List Value → own_R
  | .long x :: r => own_sv ls k (.long x) r
  | _ => none
def own_sa (ls : Array Slot) (k : Nat) : List Value → own_R
  | .ref x :: r => own_sv ls k (.ref x) r
  | .null :: r => own_sv ls k .null r
  | _ => none
def own_inc (ls : Array Slot) (k : Nat) (d : Int) (st : List Value) : own_R :=
  match ls[k]? with
  | some (.val (.int v)) => own_sv ls k (.int (v + Int32.ofInt d)) st
  | _ => none
def own_dup (ls : Array Slot) : List Value → own_R
  | .int x :: r => some (ls, .int x :: .int x :: r)
  | .ref x :: r => some (ls, .ref x :: .ref x :: r)
  | _ => none
def own_dupX (ls : Array Slot) : List Value → own_R
  | .int x :: .ref y :: r => some (ls, .int x :: .ref y :: .int x :: r)
  | _ => none
def own_pop (ls : Array Slot) : List Value → own_R
  | .int _ :: r => some (ls, r)
  | .ref _ :: r => some (ls, r)
  | _ => none

def own_p (i : Instr) (n : Nat) (ls : Array Slot) (st : List Value) : own_R :=
  match i, n with
  | .iconst k, 1 => some (ls, .int (Int32.ofInt k) :: st)
  | .bipush k, 2 => some (ls, .int (Int8.ofInt k).toInt32 :: st)
  | .sipush k, 3 => some (ls, .int (Int16.ofInt k).toInt32 :: st)
  | .lconst k, 1 => some (ls, .long (Int64.ofNat k) :: st)
  | .aconst_null, 1 => some (ls, .null :: st)
  | .iload_n k, 1 => own_li ls k.val st
  | .iload k, 2 => own_li ls k st
  | .lload_n k, 1 => own_ll ls k.val st
  | .lload k, 2 => own_ll ls k st
  | .aload_n k, 1 => own_la ls k.val st
  | .aload k, 2 => own_la ls k st
  | .istore_n k, 1 => own_si ls k.val st
  | .istore k, 2 => own_si ls k st
  | .lstore_n k, 1 => own_sl ls k.val st
  | .lstore k, 2 => own_sl ls k st
  | .astore_n k, 1 => own_sa ls k.val st
  | .astore k, 2 => own_sa ls k st
  | .iinc k d, 3 => own_inc ls k d st
  | .iadd, 1 => own_i2 (· + ·) ls st
  | .isub, 1 => own_i2 (· - ·) ls st
  | .imul, 1 => own_i2 (· * ·) ls st
  | .iand, 1 => own_i2 (· &&& ·) ls st
  | .ior, 1 => own_i2 (· ||| ·) ls st
  | .ixor, 1 => own_i2 (· ^^^ ·) ls st
  | .ishl, 1 => own_i2 own_ishl ls st
  | .ishr, 1 => own_i2 own_ishr ls st
  | .iushr, 1 => own_i2 own_iushr ls st
  | .ladd, 1 => own_l2 (· + ·) ls st
  | .lsub, 1 => own_l2 (· - ·) ls st
  | .lmul, 1 => own_l2 (· * ·) ls st
  | .land, 1 => own_l2 (· &&& ·) ls st
  | .lor, 1 => own_l2 (· ||| ·) ls st
  | .lxor, 1 => own_l2 (· ^^^ ·) ls st
  | .lshl, 1 => own_lS own_lshl ls st
  | .lshr, 1 => own_lS own_lshr ls st
  | .lushr, 1 => own_lS own_lushr ls st
  | .i2b, 1 => own_i1 (fun x => .int (own_i2b x)) ls st
  | .i2l, 1 => own_i1 (fun x => .long x.toInt64) ls st
  | .l2i, 1 => own_l1 (fun x => .int x.toInt32) ls st
  | .dup, 1 => own_dup ls st
  | .dup_x1, 1 => own_dupX ls st
  | .pop, 1 => own_pop ls st
  | _, _ => none

section Inv
variable {ls ls' : Array Slot} {st st' : List Value}
theorem own_i2_inv {f : Int32 → Int32 → Int32} (h : own_i2 f ls st = some (ls', st')) : ∃ x y r, st = .int y :: .int x :: r ∧ ls' = ls ∧ st' = .int (f x y) :: r := by
  unfold own_i2 at h; split at h
  · cases h; exact ⟨_, _, _, rfl, rfl, rfl⟩
  · cases h
theorem own_i1_inv {f : Int32 → Value} (h : own_i1 f ls st = some (ls', st')) : ∃ x r, st = .int x :: r ∧ ls' = ls ∧ st' = f x :: r := by
  unfold own_i1 at h; split at h
  · cases h; exact ⟨_, _, rfl, rfl, rfl⟩
  · cases h
theorem own_l2_inv {f : Int64 → Int64 → Int64} (h : own_l2 f ls st = some (ls', st')) : ∃ x y r, st = .long y :: .long x :: r ∧ ls' = ls ∧ st' = .long (f x y) :: r := by
  unfold own_l2 at h; split at h
  · cases h; exact ⟨_, _, _, rfl, rfl, rfl⟩
  · cases h
theorem own_lS_inv {f : Int64 → Int32 → Int64} (h : own_lS f ls st = some (ls', st')) : ∃ x y r, st = .int y :: .long x :: r ∧ ls' = ls ∧ st' = .long (f x y) :: r := by
  unfold own_lS at h; split at h
  · cases h; exact ⟨_, _, _, rfl, rfl, rfl⟩
  · cases h
theorem own_l1_inv {f : Int64 → Value} (h : own_l1 f ls st = some (ls', st')) : ∃ x r, st = .long x :: r ∧ ls' = ls ∧ st' = f x :: r := by
  unfold own_l1 at h; split at h
  · cases h; exact ⟨_, _, rfl, rfl, rfl⟩
  · cases h
theorem own_li_inv {k : Nat} (h : own_li ls k st = some (ls', st')) : ∃ v, ls[k]? = some (.val (.int v)) ∧ ls' = ls ∧ st' = .int v :: st := by
  unfold own_li at h; split at h
  · rename_i q; cases h; exact ⟨_, q, rfl, rfl⟩
  · cases h
theorem own_ll_inv {k : Nat} (h : own_ll ls k st = some (ls', st')) : ∃ v, ls[k]? = some (.val (.long v)) ∧ ls' = ls ∧ st' = .long v :: st := by
  unfold own_ll at h; split at h
  · rename_i q; cases h; exact ⟨_, q, rfl, rfl⟩
  · cases h
theorem own_la_inv {k : Nat} (h : own_la ls k st = some (ls', st')) : ∃ v : Value, v.isRef = true ∧ ls[k]? = some (.val v) ∧ ls' = ls ∧ st' = v :: st := by
  unfold own_la at h; split at h
  · rename_i q; cases h; exact ⟨_, rfl, q, rfl, rfl⟩
  · rename_i q; cases h; exact ⟨_, rfl, q, rfl, rfl⟩
  · cases h
theorem own_sv_inv {k : Nat} {v : Value} {r : List Value} (h : own_sv ls k v r = some (ls', st')) : storeLocals ls k v = some ls' ∧ st' = r := by
  unfold own_sv at h; split at h
  · rename_i q; cases h; exact ⟨q, rfl⟩
  · cases h
theorem own_si_inv {k : Nat} (h : own_si ls k st = some (ls', st')) : ∃ x, st = .int x :: st' ∧ storeLocals ls k (.int x) = some ls' := by
  unfold own_si at h; split at h
  · obtain ⟨h1, h2⟩ := own_sv_inv h; subst h2; exact ⟨_, rfl, h1⟩
  · cases h
theorem own_sl_inv {k : Nat} (h : own_sl ls k st = some (ls', st')) : ∃ x, st = .long x :: st' ∧ storeLocals ls k (.long x) = some ls' := by
  unfold own_sl at h; split at h
  · obtain ⟨h1, h2⟩ := own_sv_inv h; subst h2; exact ⟨_, rfl, h1⟩
  · cases h
theorem own_sa_inv {k : Nat} (h : own_sa ls k st = some (ls', st')) : ∃ x : Value, x.isRef = true ∧ st = x :: st' ∧ storeLocals ls k x = some ls' := by
  unfold own_sa at h; split at h
  · obtain ⟨h1, h2⟩ := own_sv_inv h; subst h2; exact ⟨_, rfl, rfl, h1⟩
  · obtain ⟨h1, h2⟩ := own_sv_inv h; subst h2; exact ⟨_, rfl, rfl, h1⟩
  · cases h
theorem own_inc_inv {k : Nat} {d : Int} (h : own_inc ls k d st = some (ls', st')) : ∃ x, ls[k]? = some (.val (.int x)) ∧ storeLocals ls k (.int (x + Int32.ofInt d)) = some ls' ∧ st' = st := by
  unfold own_inc at h; split at h
  · rename_i q; obtain ⟨h1, h2⟩ := own_sv_inv h; exact ⟨_, q, h1, h2⟩
  · cases h
theorem own_dup_inv (h : own_dup ls st = some (ls', st')) : ∃ (x : Value) (r : List Value), st = x :: r ∧ x.category = 1 ∧ ls' = ls ∧ st' = x :: x :: r := by
  unfold own_dup at h; split at h
  · cases h; exact ⟨_, _, rfl, rfl, rfl, rfl⟩
  · cases h; exact ⟨_, _, rfl, rfl, rfl, rfl⟩
  · cases h
theorem own_dupX_inv (h : own_dupX ls st = some (ls', st')) : ∃ (x y : Value) (r : List Value), st = x :: y :: r ∧ x.category = 1 ∧ y.category = 1 ∧ ls' = ls ∧ st' = x :: y :: x :: r := by
  unfold own_dupX at h; split at h
  · cases h; exact ⟨_, _, _, rfl, rfl, rfl, rfl, rfl⟩
  · cases h
theorem own_pop_inv (h : own_pop ls st = some (ls', st')) : ∃ (x : Value), st = x :: st' ∧ x.category = 1 ∧ ls' = ls := by
  unfold own_pop at h; split at h
  · cases h; exact ⟨_, rfl, rfl, rfl⟩
  · cases h; exact ⟨_, rfl, rfl, rfl⟩
  · cases h
end Inv

set_option maxHeartbeats 4000000 in
theorem own_p_ok {tb : Tables} [Ours tb] {e : Env} {below : List Frame} {T t : State} {m : MethodId} {c : Code} (h : At T m c below) (hx : tb.exec = Jvm.exec) {i : Instr} {n pc : Nat} {ls ls' : Array Slot} {st st' : List Value}
    (hd : decode c.code pc = .ok (i, n)) (hp : own_p i n ls st = some (ls', st')) (hr : Steps tb e below (T.setTop (mkF m (pc + n) ls' st')) t) : Steps tb e below (T.setTop (mkF m pc ls st)) t := by
  unfold own_p at hp
  split at hp
  · cases hp; exact XS.iconst h hx rfl hd hr
  · cases hp; exact XS.bipush h hx rfl hd hr
  · cases hp; exact XS.sipush h hx rfl hd hr
  · cases hp; exact XS.lconst h hx rfl hd hr
  · cases hp; exact XS.aconstNull h hx rfl hd hr
  · obtain ⟨v, q, rfl, rfl⟩ := own_li_inv hp; exact XS.iloadN h hx rfl hd q hr
  · obtain ⟨v, q, rfl, rfl⟩ := own_li_inv hp; exact XS.iload h hx rfl hd q hr
  · obtain ⟨v, q, rfl, rfl⟩ := own_ll_inv hp; exact XS.lloadN h hx rfl hd q hr
  · obtain ⟨v, q, rfl, rfl⟩ := own_ll_inv hp; exact XS.lload h hx rfl hd q hr
  · obtain ⟨v, q0, q, rfl, rfl⟩ := own_la_inv hp; exact XS.aloadN h hx rfl hd q q0 hr
  · obtain ⟨v, q0, q, rfl, rfl⟩ := own_la_inv hp; exact XS.aload h hx rfl hd q q0 hr
  · obtain ⟨x, rfl, q⟩ := own_si_inv hp; exact XS.istoreN h hx rfl hd rfl q hr
  · obtain ⟨x, rfl, q⟩ := own_si_inv hp; exact XS.istore h hx rfl hd rfl q hr
  · obtain ⟨x, rfl, q⟩ := own_sl_inv hp; exact XS.lstoreN h hx rfl hd rfl q hr
  · obtain ⟨x, rfl, q⟩ := own_sl_inv hp; exact XS.lstore h hx rfl hd rfl q hr
  · obtain ⟨x, q0, rfl, q⟩ := own_sa_inv hp; exact XS.astoreN h hx rfl hd rfl q0 q hr
  · obtain ⟨x, q0, rfl, q⟩ := own_sa_inv hp; exact XS.astore h hx rfl hd rfl q0 q hr
  · obtain ⟨x, q1, q2, rfl⟩ := own_inc_inv hp; exact XS.iinc h hx rfl hd q1 q2 hr
  · obtain ⟨x, y, r, rfl, rfl, rfl⟩ := own_i2_inv hp; exact XS.iadd h hx rfl hd rfl hr
  · obtain ⟨x, y, r, rfl, rfl, rfl⟩ := own_i2_inv hp; exact XS.isub h hx rfl hd rfl hr
  · obtain ⟨x, y, r, rfl, rfl, rfl⟩ := own_i2_inv hp; exact XS.imul h hx rfl hd rfl hr
  · obtain ⟨x, y, r, rfl, rfl, rfl⟩ := own_i2_inv hp; exact XS.iand h hx rfl hd rfl hr
  · obtain ⟨x, y, r, rfl, rfl, rfl⟩ := own_i2_inv hp; exact XS.ior h hx rfl hd rfl hr
  · obtain ⟨x, y, r, rfl, rfl, rfl⟩ := own_i2_inv hp; exact XS.ixor h hx rfl hd rfl hr
  · obtain ⟨x, y, r, rfl, rfl, rfl⟩ := own_i2_inv hp; exact XS.ishl h hx rfl hd rfl hr
  · obtain ⟨x, y, r, rfl, rfl, rfl⟩ := own_i2_inv hp; exact XS.ishr h hx rfl hd rfl hr
  · obtain ⟨x, y, r, rfl, rfl, rfl⟩ := own_i2_inv hp; exact XS.iushr h hx rfl hd rfl hr
  · obtain ⟨x, y, r, rfl, rfl, rfl⟩ := own_l2_inv hp; exact XS.ladd h hx rfl hd rfl hr
  · obtain ⟨x, y, r, rfl, rfl, rfl⟩ := own_l2_inv hp; exact XS.lsub h hx rfl hd rfl hr
  · obtain ⟨x, y, r, rfl, rfl, rfl⟩ := own_l2_inv hp; exact XS.lmul h hx rfl hd rfl hr
  · obtain ⟨x, y, r, rfl, rfl, rfl⟩ := own_l2_inv hp; exact XS.land h hx rfl hd rfl hr
  · obtain ⟨x, y, r, rfl, rfl, rfl⟩ := own_l2_inv hp; exact XS.lor h hx rfl hd rfl hr
  · obtain ⟨x, y, r, rfl, rfl, rfl⟩ := own_l2_inv hp; exact XS.lxor h hx rfl hd rfl hr
  · obtain ⟨x, y, r, rfl, rfl, rfl⟩ := own_lS_inv hp; exact XS.lshl h hx rfl hd rfl hr
  · obtain ⟨x, y, r, rfl, rfl, rfl⟩ := own_lS_inv hp; exact XS.lshr h hx rfl hd rfl hr
  · obtain ⟨x, y, r, rfl, rfl, rfl⟩ := own_lS_inv hp; exact XS.lushr h hx rfl hd rfl hr
  · obtain ⟨x, r, rfl, rfl, rfl⟩ := own_i1_inv hp; exact XS.i2b h hx rfl hd rfl hr
  · obtain ⟨x, r, rfl, rfl, rfl⟩ := own_i1_inv hp; exact XS.i2l h hx rfl hd rfl hr
  · obtain ⟨x, r, rfl, rfl, rfl⟩ := own_l1_inv hp; exact XS.l2i h hx rfl hd rfl hr
  · obtain ⟨x, r, rfl, q, rfl, rfl⟩ := own_dup_inv hp; exact XS.dup h hx rfl hd rfl q hr
  · obtain ⟨x, y, r, rfl, q1, q2, rfl, rfl⟩ := own_dupX_inv hp; exact XS.dupX1 h hx rfl hd rfl q1 q2 hr
  · obtain ⟨x, rfl, q, rfl⟩ := own_pop_inv hp; exact XS.pop h hx rfl hd rfl q hr
  · cases hp

/-- the list lies in the code from pc on, up to pc' -/
def own_d (code : ByteArray) : Nat → List (Instr × Nat) → Nat → Bool
  | pc, [], pc' => pc == pc'
  | pc, (i, n) :: L, pc' => decide (decode code pc = .ok (i, n)) && own_d code (pc + n) L pc'
def own_x : List (Instr × Nat) → Array Slot → List Value → own_R
  | [], ls, st => some (ls, st)
  | (i, n) :: L, ls, st => match own_p i n ls st with
    | some (ls', st') => own_x L ls' st'
    | none => none
theorem own_x_ok {tb : Tables} [Ours tb] {e : Env} {below : List Frame} {T t : State} {m : MethodId} {c : Code} (h : At T m c below) (hx : tb.exec = Jvm.exec) : ∀ (L : List (Instr × Nat)) {pc pc' : Nat} {ls ls' : Array Slot} {st st' : List Value},
    own_d c.code pc L pc' = true → own_x L ls st = some (ls', st') → Steps tb e below (T.setTop (mkF m pc' ls' st')) t → Steps tb e below (T.setTop (mkF m pc ls st)) t
  | [], pc, pc', ls, ls', st, st', hd, hr, k => by
    have e1 : pc = pc' := by simpa [own_d] using hd
    subst e1
    cases hr
    exact k
  | (i, n) :: L, pc, pc', ls, ls', st, st', hd, hr, k => by
    simp only [own_d, Bool.and_eq_true, decide_eq_true_eq] at hd
    simp only [own_x] at hr
    cases hq : own_p i n ls st with
    | none => rw [hq] at hr; cases hr
    | some q =>
      obtain ⟨l1, s1⟩ := q
      rw [hq] at hr
      exact own_p_ok h hx hd.1 hq (own_x_ok h hx L hd.2 hr k)

/-! ### own layer 2: where a walk stands, and that it comes to its end -/
def own_G (p : Program) (e : Env) (below : List Frame) (A : State) (Q : Outcome → State → Prop) : Prop :=
  ∃ s₂ o, Steps p.tables e below A s₂ ∧ s₂.status = .running ∧ Ended s₂ below o ∧ Q o s₂
theorem own_st {p : Program} {e : Env} {below : List Frame} {A A' : State} {Q : Outcome → State → Prop} (st : ∀ t, Steps p.tables e below A' t → Steps p.tables e below A t) (g : own_G p e below A' Q) : own_G p e below A Q := by
  obtain ⟨s2, o, h1, h2⟩ := g
  exact ⟨s2, o, st _ h1, h2⟩
def own_E (s : State) (n0 : Nat) (P : Option Value → Heap → Prop) (C S : Nat) (o : Outcome) (U : State) : Prop := ∃ v L, o = .returned v ∧ (Fr n0 L ∧ P v U.heap) ∧ FrameEnd s o U L C S
def own_X (p : Program) (l : Launch) (e : Env) (R : Room) (s : State) (m : MethodId) (args : Array Value) (below : List Frame) (meth : Method) (c : Code) (Z : State) (bytes : ByteArray) (maxL : Nat) (ret : Option FieldType) (y : MethodName) (n0 : Nat) (h : Heap) (T : State) (k n : Nat) : Prop :=
  (p.tables.exec = Jvm.exec ∧ c.code = bytes ∧ c.maxLocals = maxL ∧ s.vm.findClass y.cls = some m.cls ∧ meth.name = y.name ∧ meth.sig.returnType = ret ∧ Z.Warmed39 s.vm ∧ meth.locks = false) ∧
    n0 ≤ h.size ∧ T.heap = h ∧ ∃ locs, Stand p l e R s m args below meth c T locs k n ∧ Fr n0 locs
/-- a body's contract: from these arguments and this heap it returns, and P says what, and what heap it leaves -/
def own_C (l : Launch) (Z : State) (y : MethodName) (bytes : ByteArray) (maxL : Nat) (ret : Option FieldType) (rm : Room) (as : Array Value) (h0 : Heap) (n0 : Nat) (P : Option Value → Heap → Prop) : Prop :=
  ∀ ws : List Jvm.Cond, MetFree l y (head1 (Jvm.Cond.code y bytes maxL ret :: ws) rm) (fun a U => a = as ∧ Z.Warmed39 U.vm ∧ U.heap = h0) (fun _ _ _ _ _ => True)
    (fun _ U o U' => ∃ v L, o = .returned v ∧ (Fr n0 L ∧ P v U'.heap) ∧ FrameEnd U o U' L rm.cells rm.slots)
theorem own_body {l : Launch} {Z : State} {y : MethodName} {bytes : ByteArray} {maxL : Nat} {ret : Option FieldType} {rm : Room} {as : Array Value} {h0 : Heap} {n0 : Nat} {P : Option Value → Heap → Prop} (hpl : plainFor y = true) (h0n : n0 ≤ h0.size) {ls : Array Slot} (hef : ∀ m, entryFrame m as maxL = mkF m 0 ls [])
    (k : ∀ p e s m below meth c T, own_X p l e rm s m as below meth c Z bytes maxL ret y n0 h0 T 0 0 → own_G p e below (T.setTop (mkF m 0 ls [])) (own_E s n0 P rm.cells rm.slots)) : own_C l Z y bytes maxL ret rm as h0 n0 P := by
  intro ws
  refine MetFree.of_bodySF hpl hisR ?_
  intro p e s m args below meth c s₁ Bd hml0 hP hK
  obtain ⟨rfl, hZ, hh⟩ := hP
  have e0 : s₁.heap = h0 := by rw [← hh, Bd.state]; rfl
  have X0 : Stand p l e rm s m args below meth c s₁ [] 0 0 := Stand.of_body Bd
  have g := k p e s m below meth c s₁ ⟨⟨Bd.exec, Bd.bytes, hml0, findClass_of_methodNamed Bd.named, (name_of_methodNamed Bd.named Bd.method).1, Bd.returns, hZ, Bd.notSynchronized⟩, h0n, e0, [], X0, Fr.nil n0⟩
  rw [← hef m] at g
  exact g

section Walk
variable {p : Program} {l : Launch} {e : Env} {R : Room} {s : State} {m : MethodId} {args : Array Value} {below : List Frame} {meth : Method} {c : Code} {Z : State} {bytes : ByteArray} {maxL : Nat} {ret : Option FieldType} {y : MethodName} {n0 : Nat} {h : Heap} {T : State} {k n : Nat} {Q : Outcome → State → Prop} {pc pc' : Nat} {ls ls' : Array Slot} {st st' : List Value} {a0 : Array Value}
theorem own_blk (X : own_X p l e R s m args below meth c Z bytes maxL ret y n0 h T k n) (L : List (Instr × Nat)) (hd : own_d bytes pc L pc' = true) (hr : own_x L ls st = some (ls', st')) (g : own_G p e below (T.setTop (mkF m pc' ls' st')) Q) : own_G p e below (T.setTop (mkF m pc ls st)) Q := by
  obtain ⟨⟨hx, hby, -⟩, -, -, locs, X, -⟩ := X
  subst hby
  exact own_st (fun t q => own_x_ok X.here hx L hd hr q) g
/-! branches -/
def own_tg (pc : Nat) (o : Int) (pc' : Nat) : Bool := decide (0 ≤ (pc : Int) + o) && decide (((pc : Int) + o).toNat = pc')
def own_cI : ClassFile.Cond → Int → Int → Prop
  | .eq, x, y => x = y
  | .ne, x, y => ¬ x = y
  | .lt, x, y => x < y
  | .ge, x, y => y ≤ x
  | .gt, x, y => y < x
  | .le, x, y => x ≤ y
theorem own_icmp_iff (cd : ClassFile.Cond) (x y : Int32) : if_icmp.holds cd x y = true ↔ own_cI cd x.toInt y.toInt := by
  cases cd <;> simp [if_icmp.holds, own_cI, Int32.lt_iff_toInt_lt, Int32.le_iff_toInt_le, Int32.toInt_inj]
theorem own_if_iff (cd : ClassFile.Cond) (x : Int32) : ifCond.holds cd x = true ↔ own_cI cd x.toInt 0 := by
  rw [if0]; exact own_icmp_iff cd x 0
theorem own_l_iff (cd : ClassFile.Cond) (x y : Int64) : ifCond.holds cd (if x > y then 1 else if x = y then 0 else -1) = true ↔ own_cI cd x.toInt y.toInt := by
  rw [own_if_iff]
  have e1 : (x > y) = (y.toInt < x.toInt) := by rw [gt_iff_lt, Int64.lt_iff_toInt_lt]
  have e2 : (x = y) = (x.toInt = y.toInt) := by rw [Int64.toInt_inj]
  simp only [e1, e2]
  by_cases q1 : y.toInt < x.toInt
  · simp only [q1, if_true]
    have e3 : (1 : Int32).toInt = 1 := rfl
    cases cd <;> simp only [own_cI, e3] <;> omega
  · by_cases q2 : x.toInt = y.toInt
    · simp only [q1, q2, if_true, if_false]
      have e3 : (0 : Int32).toInt = 0 := rfl
      cases cd <;> simp [own_cI]
    · simp only [q1, q2, if_false]
      have e3 : (-1 : Int32).toInt = -1 := rfl
      cases cd <;> simp only [own_cI, e3] <;> omega
theorem own_tg_s {o : Int} (hp : own_tg pc o pc' = true) : 0 ≤ (pc : Int) + o ∧ ((pc : Int) + o).toNat = pc' := by
  simpa [own_tg] using hp
theorem own_goto (X : own_X p l e R s m args below meth c Z bytes maxL ret y n0 h T k n) {o : Int} (hd : decode bytes pc = .ok (.goto o, 3)) (hp : own_tg pc o pc' = true) (g : own_G p e below (T.setTop (mkF m pc' ls st)) Q) : own_G p e below (T.setTop (mkF m pc ls st)) Q := by
  obtain ⟨⟨hx, hby, -⟩, -, -, locs, X, -⟩ := X
  subst hby
  exact own_st (fun t q => XS.goto X.here hx rfl rfl hd (own_tg_s hp).1 (own_tg_s hp).2 q) g
theorem own_icmp (X : own_X p l e R s m args below meth c Z bytes maxL ret y n0 h T k n) {cd : ClassFile.Cond} {o : Int} {v w : Int32} (hd : decode bytes pc = .ok (.if_icmp cd o, 3)) (hp : own_tg pc o pc' = true) (gT : own_cI cd v.toInt w.toInt → own_G p e below (T.setTop (mkF m pc' ls st)) Q) (gF : ¬ own_cI cd v.toInt w.toInt → own_G p e below (T.setTop (mkF m (pc + 3) ls st)) Q) :
    own_G p e below (T.setTop (mkF m pc ls (.int w :: .int v :: st))) Q := by
  obtain ⟨⟨hx, hby, -⟩, -, -, locs, X, -⟩ := X
  subst hby
  cases hc : if_icmp.holds cd v w with
  | true => exact own_st (fun t q => XS.icmpYes X.here hx rfl rfl hd rfl hc (own_tg_s hp).1 (own_tg_s hp).2 q) (gT ((own_icmp_iff cd v w).mp hc))
  | false => exact own_st (fun t q => XS.icmpNo X.here hx rfl hd rfl hc q) (gF fun q => by rw [(own_icmp_iff cd v w).mpr q] at hc; cases hc)
theorem own_if (X : own_X p l e R s m args below meth c Z bytes maxL ret y n0 h T k n) {cd : ClassFile.Cond} {o : Int} {v : Int32} (hd : decode bytes pc = .ok (.ifCond cd o, 3)) (hp : own_tg pc o pc' = true) (gT : own_cI cd v.toInt 0 → own_G p e below (T.setTop (mkF m pc' ls st)) Q) (gF : ¬ own_cI cd v.toInt 0 → own_G p e below (T.setTop (mkF m (pc + 3) ls st)) Q) :
    own_G p e below (T.setTop (mkF m pc ls (.int v :: st))) Q := by
  obtain ⟨⟨hx, hby, -⟩, -, -, locs, X, -⟩ := X
  subst hby
  cases hc : ifCond.holds cd v with
  | true => exact own_st (fun t q => XS.ifYes X.here hx rfl rfl hd rfl hc (own_tg_s hp).1 (own_tg_s hp).2 q) (gT ((own_if_iff cd v).mp hc))
  | false => exact own_st (fun t q => XS.ifNo X.here hx rfl hd rfl hc q) (gF fun q => by rw [(own_if_iff cd v).mpr q] at hc; cases hc)
theorem own_lif (X : own_X p l e R s m args below meth c Z bytes maxL ret y n0 h T k n) {cd : ClassFile.Cond} {o : Int} {v w : Int64} (hd1 : decode bytes pc = .ok (.lcmp, 1)) (hd : decode bytes (pc + 1) = .ok (.ifCond cd o, 3)) (hp : own_tg (pc + 1) o pc' = true) (gT : own_cI cd v.toInt w.toInt → own_G p e below (T.setTop (mkF m pc' ls st)) Q) (gF : ¬ own_cI cd v.toInt w.toInt → own_G p e below (T.setTop (mkF m (pc + 4) ls st)) Q) :
    own_G p e below (T.setTop (mkF m pc ls (.long w :: .long v :: st))) Q := by
  obtain ⟨⟨hx, hby, -⟩, -, -, locs, X, -⟩ := X
  subst hby
  refine own_st (fun t q => XS.lcmp X.here hx rfl hd1 rfl q) ?_
  show own_G p e below (T.setTop (mkF m (pc + 1) ls (.int (if v > w then 1 else if v = w then 0 else -1) :: st))) Q
  cases hc : ifCond.holds cd (if v > w then 1 else if v = w then 0 else -1) with
  | true => exact own_st (fun t q => XS.ifYes X.here hx rfl rfl hd rfl hc (own_tg_s hp).1 (own_tg_s hp).2 q) (gT ((own_l_iff cd v w).mp hc))
  | false => exact own_st (fun t q => XS.ifNo X.here hx rfl hd rfl hc q) (gF fun q => by rw [(own_l_iff cd v w).mpr q] at hc; cases hc)
/-! division -/
theorem own_idiv (X : own_X p l e R s m args below meth c Z bytes maxL ret y n0 h T k n) {v w : Int32} (hd : decode bytes pc = .ok (.idiv, 1)) (hw : w ≠ 0) (g : own_G p e below (T.setTop (mkF m (pc + 1) ls (.int (v / w) :: st))) Q) : own_G p e below (T.setTop (mkF m pc ls (.int w :: .int v :: st))) Q := by
  obtain ⟨⟨hx, hby, -⟩, -, -, locs, X, -⟩ := X
  subst hby
  exact own_st (fun t q => XS.idiv X.here hx rfl hd rfl hw q) g
theorem own_iremS (X : own_X p l e R s m args below meth c Z bytes maxL ret y n0 h T k n) {v w : Int32} (hd : decode bytes pc = .ok (.irem, 1)) (hw : w ≠ 0) (g : own_G p e below (T.setTop (mkF m (pc + 1) ls (.int (own_irem v w) :: st))) Q) : own_G p e below (T.setTop (mkF m pc ls (.int w :: .int v :: st))) Q := by
  obtain ⟨⟨hx, hby, -⟩, -, -, locs, X, -⟩ := X
  subst hby
  exact own_st (fun t q => XS.irem X.here hx rfl hd rfl hw q) g
theorem own_ldiv (X : own_X p l e R s m args below meth c Z bytes maxL ret y n0 h T k n) {v w : Int64} (hd : decode bytes pc = .ok (.ldiv, 1)) (hw : w ≠ 0) (g : own_G p e below (T.setTop (mkF m (pc + 1) ls (.long (v / w) :: st))) Q) : own_G p e below (T.setTop (mkF m pc ls (.long w :: .long v :: st))) Q := by
  obtain ⟨⟨hx, hby, -⟩, -, -, locs, X, -⟩ := X
  subst hby
  exact own_st (fun t q => XS.ldiv X.here hx rfl hd rfl hw q) g
theorem own_lremS (X : own_X p l e R s m args below meth c Z bytes maxL ret y n0 h T k n) {v w : Int64} (hd : decode bytes pc = .ok (.lrem, 1)) (hw : w ≠ 0) (g : own_G p e below (T.setTop (mkF m (pc + 1) ls (.long (own_lrem v w) :: st))) Q) : own_G p e below (T.setTop (mkF m pc ls (.long w :: .long v :: st))) Q := by
  obtain ⟨⟨hx, hby, -⟩, -, -, locs, X, -⟩ := X
  subst hby
  exact own_st (fun t q => XS.lrem X.here hx rfl hd rfl hw q) g
/-! constants of the pool -/
theorem own_ldc (X : own_X p l e R s m args below meth c Z bytes maxL ret y n0 h T k n) {i : Nat} {v : Int32} (w : (Jvm.Cond.constant y.cls i v).before a0 Z = true) (hd : decode bytes pc = .ok (.ldc i, 2)) (g : own_G p e below (T.setTop (mkF m (pc + 2) ls (.int v :: st))) Q) : own_G p e below (T.setTop (mkF m pc ls st)) Q := by
  obtain ⟨⟨hx, hby, hml, hown, hnm, hret, hZ, hlk⟩, -, -, locs, X, -⟩ := X
  subst hby
  exact own_st (fun t q => X.ldcInt hx hown (mvT hZ w) (g := mkF m pc ls st) rfl hd t q) g
theorem own_ldc2 (X : own_X p l e R s m args below meth c Z bytes maxL ret y n0 h T k n) {i : Nat} {v : Int64} (w : (Jvm.Cond.constantLong y.cls i v).before a0 Z = true) (hd : decode bytes pc = .ok (.ldc2_w i, 3)) (g : own_G p e below (T.setTop (mkF m (pc + 3) ls (.long v :: st))) Q) : own_G p e below (T.setTop (mkF m pc ls st)) Q := by
  obtain ⟨⟨hx, hby, hml, hown, hnm, hret, hZ, hlk⟩, -, -, locs, X, -⟩ := X
  subst hby
  exact own_st (fun t q => X.ldc2Long hx hown (mvT hZ w) (g := mkF m pc ls st) rfl hd t q) g
/-! returns -/
variable {P : Option Value → Heap → Prop} {C S : Nat}
theorem own_retI (X : own_X p l e R s m args below meth c Z bytes maxL (some .int) y n0 h T k n) (hd : decode bytes pc = .ok (.ireturn, 1)) {v : Int32} (hk : k ≤ C) (hn : n ≤ S) (hP : P (some (.int v)) h) : own_G p e below (T.setTop (mkF m pc ls (.int v :: st))) (own_E s n0 P C S) := by
  obtain ⟨⟨hx, hby, hml, hown, hnm, hret, hZ, hlk⟩, -, eT, locs, X, N⟩ := X
  subst hby
  obtain ⟨fs, hr, hrun, hended, hW, hsame⟩ := X.leave (v := some (.int v)) (fun q => by rw [hret] at q; cases q)
  refine ⟨_, _, ?_, hrun, hended, _, _, rfl, ⟨N, by show P _ T.heap; rw [eT]; exact hP⟩, ⟨_, rfl⟩, hW, hsame.mono hk hn⟩
  have hm' : T.vm.method? m = some meth := X.method'
  have hnn : narrow .int (.int v) = .int v := rfl
  show Steps p.tables e below (T.setTop { method := m, pc := pc, locals := ls, stack := _ :: st, locked := none }) _
  jvm_step X.here [X.here.top, hx, hd, hm', hret, hnn]
  first | (intro acts; rw [hr _ acts rfl rfl rfl]) | rw [hr _ _ rfl rfl rfl]
  exact Steps.refl _
theorem own_retN {t : FieldType} (X : own_X p l e R s m args below meth c Z bytes maxL (some t) y n0 h T k n) (ht : t = .boolean ∨ t = .byte ∨ t = .char ∨ t = .short) (hd : decode bytes pc = .ok (.ireturn, 1)) {v v' : Int32} (hv : nar t v = v') (hk : k ≤ C) (hn : n ≤ S) (hP : P (some (.int v')) h) : own_G p e below (T.setTop (mkF m pc ls (.int v :: st))) (own_E s n0 P C S) := by
  obtain ⟨⟨hx, hby, hml, hown, hnm, hret, hZ, hlk⟩, -, eT, locs, X, N⟩ := X
  subst hby hv
  obtain ⟨fs, hr, hrun, hended, hW, hsame⟩ := X.leave (v := some (.int (nar t v))) (fun q => by rw [hret] at q; cases q)
  exact ⟨_, _, retN X hx hret ht hd hr, hrun, hended, _, _, rfl, ⟨N, by show P _ T.heap; rw [eT]; exact hP⟩, ⟨_, rfl⟩, hW, hsame.mono hk hn⟩
theorem own_retL (X : own_X p l e R s m args below meth c Z bytes maxL (some .long) y n0 h T k n) (hd : decode bytes pc = .ok (.lreturn, 1)) {v : Int64} (hk : k ≤ C) (hn : n ≤ S) (hP : P (some (.long v)) h) : own_G p e below (T.setTop (mkF m pc ls [.long v])) (own_E s n0 P C S) := by
  obtain ⟨⟨hx, hby, hml, hown, hnm, hret, hZ, hlk⟩, -, eT, locs, X, N⟩ := X
  subst hby
  obtain ⟨fs, hr, hrun, hended, hW, hsame⟩ := X.leave (v := some (.long v)) (fun q => by rw [hret] at q; cases q)
  exact ⟨_, _, X.lreturnOut hx hret hd hr, hrun, hended, _, _, rfl, ⟨N, by show P _ T.heap; rw [eT]; exact hP⟩, ⟨_, rfl⟩, hW, hsame.mono hk hn⟩
theorem own_retA {t : FieldType} (X : own_X p l e R s m args below meth c Z bytes maxL (some t) y n0 h T k n) (ht : t.isReference = true) (hd : decode bytes pc = .ok (.areturn, 1)) {v : Addr} (hk : k ≤ C) (hn : n ≤ S) (hP : P (some (.ref v)) h) : own_G p e below (T.setTop (mkF m pc ls [.ref v])) (own_E s n0 P C S) := by
  obtain ⟨⟨hx, hby, hml, hown, hnm, hret, hZ, hlk⟩, -, eT, locs, X, N⟩ := X
  subst hby
  obtain ⟨fs, hr, hrun, hended, hW, hsame⟩ := X.leave (v := some (.ref v)) (fun q => by rw [hret] at q; cases q)
  exact ⟨_, _, X.areturnOut hx rfl hret ht hd hr, hrun, hended, _, _, rfl, ⟨N, by show P _ T.heap; rw [eT]; exact hP⟩, ⟨_, rfl⟩, hW, hsame.mono hk hn⟩
theorem own_retV (X : own_X p l e R s m args below meth c Z bytes maxL none y n0 h T k n) (hd : decode bytes pc = .ok (.return_, 1)) (hk : k ≤ C) (hn : n ≤ S) (hP : P none h) : own_G p e below (T.setTop (mkF m pc ls [])) (own_E s n0 P C S) := by
  obtain ⟨⟨hx, hby, hml, hown, hnm, hret, hZ, hlk⟩, -, eT, locs, X, N⟩ := X
  subst hby
  obtain ⟨fs, hr, hrun, hended, hW, hsame⟩ := X.leave (v := none) (fun _ => rfl)
  exact ⟨_, _, X.returnOut hx hret hd hr, hrun, hended, _, _, rfl, ⟨N, by show P _ T.heap; rw [eT]; exact hP⟩, ⟨_, rfl⟩, hW, hsame.mono hk hn⟩
/-! calls -/
theorem own_callS (X : own_X p l e R s m args below meth c Z bytes maxL ret y n0 h T k n) {i : Nat} {z : MethodName} {zb : ByteArray} {zl : Nat} {zr : Option FieldType} {rm : Room} {as : Array Value} {P : Option Value → Heap → Prop}
    (w1 : (Jvm.Cond.methodLink y.cls i z).before a0 Z = true) (w2 : (Jvm.Cond.static z).before a0 Z = true) (w3 : (Jvm.Cond.initialized z.cls).before a0 Z = true) (w4 : (Jvm.Cond.code z zb zl zr).before a0 Z = true) (hy : z.cls ≠ "java/lang/invoke/MethodHandle" ∧ z.cls ≠ "java/lang/invoke/VarHandle")
    (K : own_C l Z z zb zl zr rm as h n0 P) (hd : decode bytes pc = .ok (.invokestatic i, 3)) (argsL rest : List Value) (hst : st = argsL.reverse ++ rest) (has : argsL.toArray = as) {ps : List FieldType} {pr : Option FieldType} (hsg : parseMethodDescriptor z.desc = some ⟨ps, pr⟩) (hlen : argsL.length = ps.length) (hsz : ls.size = maxL)
    (hf : rm.frames + 1 ≤ R.frames) (hl : (rest.map fun v => v.category).sum + (zl + 11) + rm.locals ≤ R.locals) (hc : k + rm.cells ≤ R.cells) (hs : n + rm.slots ≤ R.slots) (hn : ∀ v h', P v h' → n0 ≤ h'.size)
    (g : ∀ v h' T', own_X p l e R s m args below meth c Z bytes maxL ret y n0 h' T' (k + rm.cells) (n + rm.slots) → P v h' → own_G p e below (T'.setTop (mkF m (pc + 3) ls (v.toList ++ rest))) Q) : own_G p e below (T.setTop (mkF m pc ls st)) Q := by
  obtain ⟨M, hn0, eT, locs, X, N⟩ := X
  have M' := M
  obtain ⟨hx, hby, hml, hown, hnm, hret, hZ, hlk⟩ := M'
  subst hby hst has
  obtain ⟨v, vm₁, B, -, X', ⟨L, hq, l1, l2, l3⟩, stp⟩ := Jvm.LawKit.callS X hx (y := z) hown (mvT hZ w1) (mvT hZ w2) (mvT hZ w3) (mvT hZ w4) hy (backOf (W := (rest.map fun v => v.category).sum) (Q := fun v h' L => Fr n0 L ∧ P v h') (K []) hZ w4 w3 hf hl) (g := mkF m pc ls (argsL.reverse ++ rest)) rfl (hsz.trans hml.symm) (argsL := argsL) (rest := rest)
    (lenOf hsg hlen) rfl (Nat.le_of_eq (Nat.zero_add _)) hd (fun _ _ => ⟨rfl, eT, hc, hs⟩)
  obtain ⟨U, Lc, k', n'⟩ := B
  dsimp only [Pt.U, Pt.locs, Pt.cells, Pt.slots] at X' hq l1 l2 l3 stp
  subst l1 l2 l3
  exact own_st stp (g v U.heap U ⟨M, hn v _ hq.2, rfl, _, X', Fr.app N hq.1⟩ hq.2)
theorem own_callP (X : own_X p l e R s m args below meth c Z bytes maxL ret y n0 h T k n) {i : Nat} {z : MethodName} {zb : ByteArray} {zl : Nat} {zr : Option FieldType} {rm : Room} {as : Array Value} {v : Option Value}
    (w1 : (Jvm.Cond.methodLink y.cls i z).before a0 Z = true) (w2 : (Jvm.Cond.static z).before a0 Z = true) (w3 : (Jvm.Cond.initialized z.cls).before a0 Z = true) (w4 : (Jvm.Cond.code z zb zl zr).before a0 Z = true) (hy : z.cls ≠ "java/lang/invoke/MethodHandle" ∧ z.cls ≠ "java/lang/invoke/VarHandle")
    (K : own_C l Z z zb zl zr rm as h n0 (fun v' h' => v' = v ∧ h' = h)) (hd : decode bytes pc = .ok (.invokestatic i, 3)) (argsL rest : List Value) (hst : st = argsL.reverse ++ rest) (has : argsL.toArray = as) {ps : List FieldType} {pr : Option FieldType} (hsg : parseMethodDescriptor z.desc = some ⟨ps, pr⟩) (hlen : argsL.length = ps.length) (hsz : ls.size = maxL)
    (hf : rm.frames + 1 ≤ R.frames) (hl : (rest.map fun v => v.category).sum + (zl + 11) + rm.locals ≤ R.locals) (hc : k + rm.cells ≤ R.cells) (hs : n + rm.slots ≤ R.slots)
    (g : ∀ T', own_X p l e R s m args below meth c Z bytes maxL ret y n0 h T' (k + rm.cells) (n + rm.slots) → own_G p e below (T'.setTop (mkF m (pc + 3) ls (v.toList ++ rest))) Q) : own_G p e below (T.setTop (mkF m pc ls st)) Q :=
  own_callS X w1 w2 w3 w4 hy K hd argsL rest hst has hsg hlen hsz hf hl hc hs (fun v h' q => by rw [q.2]; exact X.2.1) (fun v' h' T' X' q => by obtain ⟨q1, q2⟩ := q; subst q1; rw [q2] at X'; exact g T' X')
theorem own_callN (X : own_X p l e R s m args below meth c Z bytes maxL ret y n0 h T k n) {i : Nat} {z : MethodName} {zb : ByteArray} {zl : Nat} {rm : Room} {as : Array Value} {P : Option Value → Heap → Prop} (hz : z.name = "<init>")
    (w1 : (Jvm.Cond.methodLink y.cls i z).before a0 Z = true) (w2 : (Jvm.Cond.instanceMethod z).before a0 Z = true) (w3 : (Jvm.Cond.initialized z.cls).before a0 Z = true) (w4 : (Jvm.Cond.code z zb zl none).before a0 Z = true) (hy : z.cls ≠ "java/lang/invoke/MethodHandle" ∧ z.cls ≠ "java/lang/invoke/VarHandle")
    (K : own_C l Z z zb zl none rm as h n0 P) (hd : decode bytes pc = .ok (.invokespecial i, 3)) {a : Addr} (argsL rest : List Value) (hst : st = argsL.reverse ++ .ref a :: rest) (has : (.ref a :: argsL).toArray = as) {ps : List FieldType} {pr : Option FieldType} (hsg : parseMethodDescriptor z.desc = some ⟨ps, pr⟩) (hlen : argsL.length = ps.length) (hsz : ls.size = maxL)
    (hf : rm.frames + 1 ≤ R.frames) (hl : (rest.map fun v => v.category).sum + (zl + 11) + rm.locals ≤ R.locals) (hc : k + rm.cells ≤ R.cells) (hs : n + rm.slots ≤ R.slots) (hn : ∀ v h', P v h' → n0 ≤ h'.size)
    (g : ∀ v h' T', own_X p l e R s m args below meth c Z bytes maxL ret y n0 h' T' (k + rm.cells) (n + rm.slots) → P v h' → own_G p e below (T'.setTop (mkF m (pc + 3) ls (v.toList ++ rest))) Q) : own_G p e below (T.setTop (mkF m pc ls st)) Q := by
  obtain ⟨M, hn0, eT, locs, X, N⟩ := X
  have M' := M
  obtain ⟨hx, hby, hml, hown, hnm, hret, hZ, hlk⟩ := M'
  subst hby hst has
  obtain ⟨v, vm₁, B, -, X', ⟨L, hq, l1, l2, l3⟩, stp⟩ := X.specialBack hx (y := z) hz hown (mvT hZ w1) (mvT hZ w2) (mvT hZ w4) hy (backOf (W := (rest.map fun v => v.category).sum) (Q := fun v h' L => Fr n0 L ∧ P v h') (K []) hZ w4 w3 hf hl) (g := mkF m pc ls (argsL.reverse ++ .ref a :: rest)) rfl (hsz.trans hml.symm) (Steps.refl _) (a := a) (argsL := argsL) (rest := rest)
    (lenOf hsg hlen) rfl (Nat.le_of_eq (Nat.zero_add _)) hd (fun _ _ => ⟨rfl, eT, hc, hs⟩)
  obtain ⟨U, Lc, k', n'⟩ := B
  dsimp only [Pt.U, Pt.locs, Pt.cells, Pt.slots] at X' hq l1 l2 l3 stp
  subst l1 l2 l3
  exact own_st (fun t q => stp.trans q) (g v U.heap U ⟨M, hn v _ hq.2, rfl, _, X', Fr.app N hq.1⟩ hq.2)
theorem own_callV (X : own_X p l e R s m args below meth c Z bytes maxL ret y n0 h T k n) {i : Nat} {z : MethodName} {zb : ByteArray} {zl : Nat} {zr : Option FieldType} {rm : Room} {as : Array Value} {P : Option Value → Heap → Prop}
    (w1 : (Jvm.Cond.methodLink y.cls i z).before a0 Z = true) (w2 : (Jvm.Cond.declares z).before a0 Z = true) (w5 : (Jvm.Cond.selects z.cls z z).before a0 Z = true) (w6 : (Jvm.Cond.instanceMethod z).before a0 Z = true) (w3 : (Jvm.Cond.initialized z.cls).before a0 Z = true) (w4 : (Jvm.Cond.code z zb zl zr).before a0 Z = true) (hy : z.cls ≠ "java/lang/invoke/MethodHandle" ∧ z.cls ≠ "java/lang/invoke/VarHandle")
    {a : Addr} (E : Exa Z h a z.cls) (K : own_C l Z z zb zl zr rm as h n0 P) (hd : decode bytes pc = .ok (.invokevirtual i, 3)) (argsL rest : List Value) (hst : st = argsL.reverse ++ .ref a :: rest) (has : (.ref a :: argsL).toArray = as) {ps : List FieldType} {pr : Option FieldType} (hsg : parseMethodDescriptor z.desc = some ⟨ps, pr⟩) (hlen : argsL.length = ps.length) (hsz : ls.size = maxL)
    (hf : rm.frames + 1 ≤ R.frames) (hl : (rest.map fun v => v.category).sum + (zl + 11) + rm.locals ≤ R.locals) (hc : k + rm.cells ≤ R.cells) (hs : n + rm.slots ≤ R.slots) (hn : ∀ v h', P v h' → n0 ≤ h'.size)
    (g : ∀ v h' T', own_X p l e R s m args below meth c Z bytes maxL ret y n0 h' T' (k + rm.cells) (n + rm.slots) → P v h' → own_G p e below (T'.setTop (mkF m (pc + 3) ls (v.toList ++ rest))) Q) : own_G p e below (T.setTop (mkF m pc ls st)) Q := by
  obtain ⟨M, hn0, eT, locs, X, N⟩ := X
  have M' := M
  obtain ⟨hx, hby, hml, hown, hnm, hret, hZ, hlk⟩ := M'
  subst hby hst has
  obtain ⟨cq, kq, qa, qb, qc⟩ := isOf hZ eT E
  obtain ⟨v, vm₁, B, -, X', ⟨L, hq, l1, l2, l3⟩, stp⟩ := X.virtualBack hx (y := z) (z := z) hown (mvT hZ w1) (mvT hZ w2) (notFace_of_selects (args := #[]) (mvT hZ w5)) (mvT hZ w5) (mvT hZ w6) hy (backOf (W := (rest.map fun v => v.category).sum) (Q := fun v h' L => Fr n0 L ∧ P v h') (K []) hZ w4 w3 hf hl) qa qc (g := mkF m pc ls (argsL.reverse ++ .ref a :: rest)) rfl (hsz.trans hml.symm) (Steps.refl _) (argsL := argsL) (rest := rest)
    (lenOf hsg hlen) rfl (Nat.le_of_eq (Nat.zero_add _)) hd (fun _ _ => ⟨rfl, eT, hc, hs⟩)
  obtain ⟨U, Lc, k', n'⟩ := B
  dsimp only [Pt.U, Pt.locs, Pt.cells, Pt.slots] at X' hq l1 l2 l3 stp
  subst l1 l2 l3
  exact own_st (fun t q => stp.trans q) (g v U.heap U ⟨M, hn v _ hq.2, rfl, _, X', Fr.app N hq.1⟩ hq.2)
/-! fields -/
theorem own_getF (X : own_X p l e R s m args below meth c Z bytes maxL ret y n0 h T k n) {i : Nat} {O f d : String} (w : (Jvm.Cond.fieldLink y.cls i O f d).before a0 Z = true) {a : Addr} {v : Value} (F : Fld Z h a O f d v) (hd : decode bytes pc = .ok (.getfield i, 3))
    (g : ∀ T', own_X p l e R s m args below meth c Z bytes maxL ret y n0 h T' k n → own_G p e below (T'.setTop (mkF m (pc + 3) ls (v :: st))) Q) : own_G p e below (T.setTop (mkF m pc ls (.ref a :: st))) Q := by
  obtain ⟨M, hn0, eT, locs, X, N⟩ := X
  have M' := M
  obtain ⟨hx, hby, hml, hown, hnm, hret, hZ, hlk⟩ := M'
  subst hby
  obtain ⟨T', X', e', stp⟩ := getF X hx hZ hown (host := "") (Or.inl w) Via.refl eT F (g := mkF m pc ls (.ref a :: st)) rfl rfl hd
  exact own_st stp (g T' ⟨M, hn0, e', _, X', N⟩)
theorem own_putF (X : own_X p l e R s m args below meth c Z bytes maxL ret y n0 h T k n) {i kk : Nat} {O f d K : String} {ty : FieldType} (w : (Jvm.Cond.fieldLink y.cls i O f d).before a0 Z = true) {a : Addr} {v old : Value} (F : Fld Z h a O f d old) (E : Exa Z h a K) (L : (Jvm.Cond.lays K O f d).before a0 Z = true ∨ ((Jvm.Cond.laysFinal K O f d).before a0 Z = true ∧ y.cls = O ∧ y.name = "<init>")) (wi : (Jvm.Cond.instantiable K kk).before a0 Z = true)
    (hty : parseFieldDescriptor d = some ty) (hn : narrow ty v = v) (hf : fits ty v = true) (ha : n0 ≤ a) (hd : decode bytes pc = .ok (.putfield i, 3))
    (g : ∀ h' T', own_X p l e R s m args below meth c Z bytes maxL ret y n0 h' T' k n → Wr h h' a (Jvm.RoadKit.slotOf Z O f d) v → own_G p e below (T'.setTop (mkF m (pc + 3) ls st)) Q) : own_G p e below (T.setTop (mkF m pc ls (v :: .ref a :: st))) Q := by
  obtain ⟨M, hn0, eT, locs, X, N⟩ := X
  have M' := M
  obtain ⟨hx, hby, hml, hown, hnm, hret, hZ, hlk⟩ := M'
  subst hby
  obtain ⟨T', h', X', e', W', stp⟩ := putF X hx hZ hown (host := "") (Or.inl w) Via.refl eT F E (L.imp id fun q => ⟨q.1, q.2.1, hnm.trans q.2.2⟩) wi hty hn hf (g := mkF m pc ls (v :: .ref a :: st)) rfl rfl hd
  exact own_st stp (g h' T' ⟨M, by rw [W'.size]; exact hn0, e', _, X', Fr.snoc X' N ha⟩ W')
/-! new -/
theorem own_newO (X : own_X p l e R s m args below meth c Z bytes maxL ret y n0 h T k n) {i nn : Nat} {K : String} (w : (Jvm.Cond.classLink y.cls i K).before a0 Z = true) (wi : (Jvm.Cond.instantiable K nn).before a0 Z = true) (wz : (Jvm.Cond.initialized K).before a0 Z = true) (hd : decode bytes pc = .ok (.new i, 3)) (hc : k + 1 ≤ R.cells) (hs : n + nn ≤ R.slots)
    (g : ∀ h' T', own_X p l e R s m args below meth c Z bytes maxL ret y n0 h' T' (k + 1) (n + nn) → Ext h h' → Exa Z h' h.size K → (∀ {O nm d : String} {ty : FieldType}, Laid Z a0 K O nm d → parseFieldDescriptor d = some ty → Fld Z h' h.size O nm d (defaultValue ty)) → own_G p e below (T'.setTop (mkF m (pc + 3) ls (.ref h.size :: st))) Q) : own_G p e below (T.setTop (mkF m pc ls st)) Q := by
  obtain ⟨M, hn0, eT, locs, X, N⟩ := X
  have M' := M
  obtain ⟨hx, hby, hml, hown, hnm, hret, hZ, hlk⟩ := M'
  subst hby
  obtain ⟨T', h', X', e', E', A', D', -, stp⟩ := newO X hx hZ hown w wi wz eT (g := mkF m pc ls st) rfl hd hc hs
  exact own_st stp (g h' T' ⟨M, Nat.le_trans hn0 E'.1, e', _, X', N⟩ E' A' D')
end Walk
/-! ### own layer 3: arrays: the array at a has n places, place j holds f j -/
def own_A (Z : State) (h : Heap) (a : Addr) (ty : FieldType) (n : Nat) (f : Int → Value) : Prop := n < 2147483648 ∧ ∃ c : Cell, Arr Z h a c ty ∧ c.slots.size = n ∧ ∀ j : Nat, j < n → c.slots[j]? = some (f (j : Int))
def own_u {α : Type} (f : Int → α) (i : Int) (x : α) : Int → α := fun j => if j = i then x else f j
section Arrs
variable {Z : State} {h h' : Heap} {a b : Addr} {ty : FieldType} {n : Nat} {f : Int → Value}
theorem own_A_lt (A : own_A Z h a ty n f) : a < h.size := by obtain ⟨-, c, A, -⟩ := A; exact A.lt
theorem own_A_ext (A : own_A Z h a ty n f) (E : Ext h h') : own_A Z h' a ty n f := by obtain ⟨q, c, A, r⟩ := A; exact ⟨q, c, A.ext E, r⟩
theorem own_A_other (A : own_A Z h b ty n f) {sl : Nat} {v : Value} (W : Wr h h' a sl v) (q : b ≠ a) : own_A Z h' b ty n f := by obtain ⟨q1, c, A, r⟩ := A; exact ⟨q1, c, A.other W q, r⟩
theorem own_A_keep (A : own_A Z h a ty n f) {ws : List Addr} (K : Keep h h' ws) (q : a ∉ ws) : own_A Z h' a ty n f := by obtain ⟨q1, c, A, r⟩ := A; exact ⟨q1, c, ⟨K.2.1 a c A.1 q, A.2⟩, r⟩
theorem own_A_new {k : ClassId} {z : Int32} (A : Arr Z h a (newA k ty z) ty) (q : 0 ≤ z.toInt) : own_A Z h a ty z.toInt.toNat (fun _ => defaultValue ty) := by
  have := Int32.toInt_lt z
  refine ⟨by omega, _, A, by rw [sz_new]; rfl, fun j hj => ?_⟩
  have hj' : j < z.toNatClampNeg := hj
  simp [newA, hj']
theorem own_A_set {sl : Nat} {v : Value} (A : own_A Z h a ty n f) (W : Wr h h' a sl v) (i : Int) (hi : i = (sl : Int)) : own_A Z h' a ty n (own_u f i v) := by
  obtain ⟨q, c, A, S, H⟩ := A
  have W0 := W
  obtain ⟨c2, g1, -, g3, -⟩ := W0
  cases g1.symm.trans A.1
  refine ⟨q, _, A.same W, by rw [sz_set]; exact S, fun j hj => ?_⟩
  subst hi
  by_cases u : j = sl
  · subst u; simp [Cell.setSlot, own_u, g3]
  · have e1 : ¬ ((j : Int) = (sl : Int)) := by omega
    simp only [own_u, e1, if_false, Cell.setSlot]
    rw [Array.getElem?_setIfInBounds_ne (fun q => u q.symm)]
    exact H j hj
theorem own_A_eq {g : Int → Value} (A : own_A Z h a ty n f) (q : ∀ j : Int, 0 ≤ j → j < n → g j = f j) : own_A Z h a ty n g := by
  obtain ⟨q1, c, A, S, H⟩ := A
  exact ⟨q1, c, A, S, fun j hj => by rw [H j hj, q j (by omega) (by omega)]⟩
theorem own_tnc (j : Int32) : j.toNatClampNeg = j.toInt.toNat := rfl
theorem own_z32 : (0 : Int32).toInt = 0 := rfl
theorem own_idx {j : Int32} (h0 : 0 ≤ j.toInt) : ¬ j < 0 := by rw [Int32.lt_iff_toInt_lt, own_z32]; omega
theorem own_inb {j : Int32} {cl : Cell} (S : cl.slots.size = n) (h0 : 0 ≤ j.toInt) (h1 : j.toInt < n) : ¬ (j < 0 ∨ cl.slots.size ≤ j.toNatClampNeg) := by
  rw [Int32.lt_iff_toInt_lt, S, own_z32, own_tnc]; omega
theorem own_nat {j : Int32} (h0 : 0 ≤ j.toInt) : j.toInt = (j.toNatClampNeg : Int) := by rw [own_tnc]; omega
end Arrs
/-- the same, of ints -/
def own_I (Z : State) (h : Heap) (a : Addr) (ty : FieldType) (n : Nat) (g : Int → Int32) : Prop := own_A Z h a ty n (fun j => .int (g j))
theorem own_I_ext {Z : State} {h h' : Heap} {a : Addr} {ty : FieldType} {n : Nat} {g : Int → Int32} (A : own_I Z h a ty n g) (E : Ext h h') : own_I Z h' a ty n g := own_A_ext A E
theorem own_I_other {Z : State} {h h' : Heap} {a b : Addr} {ty : FieldType} {n : Nat} {g : Int → Int32} (A : own_I Z h b ty n g) {sl : Nat} {v : Value} (W : Wr h h' a sl v) (q : b ≠ a) : own_I Z h' b ty n g := own_A_other A W q
theorem own_I_keep {Z : State} {h h' : Heap} {a : Addr} {ty : FieldType} {n : Nat} {g : Int → Int32} (A : own_I Z h a ty n g) {ws : List Addr} (K : Keep h h' ws) (q : a ∉ ws) : own_I Z h' a ty n g := own_A_keep A K q
theorem own_I_eq {Z : State} {h : Heap} {a : Addr} {ty : FieldType} {n : Nat} {f g : Int → Int32} (A : own_I Z h a ty n f) (q : ∀ j : Int, 0 ≤ j → j < n → g j = f j) : own_I Z h a ty n g := own_A_eq A (fun j h0 h1 => by rw [q j h0 h1])
theorem own_I_set {Z : State} {h h' : Heap} {a : Addr} {ty : FieldType} {n : Nat} {g : Int → Int32} {sl : Nat} {x : Int32} (A : own_I Z h a ty n g) (W : Wr h h' a sl (.int x)) (i : Int) (hi : i = (sl : Int)) : own_I Z h' a ty n (own_u g i x) :=
  own_A_eq (own_A_set A W i hi) (fun j _ _ => by simp only [own_u]; split <;> rfl)
theorem own_u_ne {α : Type} {g : Int → α} {i j : Int} {x : α} (h : j ≠ i) : own_u g i x j = g j := if_neg h
theorem own_u_eq {α : Type} {g : Int → α} {i j : Int} {x : α} (h : j = i) : own_u g i x j = x := if_pos h
section Arrs2
variable {p : Program} {l : Launch} {e : Env} {R : Room} {s : State} {m : MethodId} {args : Array Value} {below : List Frame} {meth : Method} {c : Code} {Z : State} {bytes : ByteArray} {maxL : Nat} {ret : Option FieldType} {y : MethodName} {n0 : Nat} {h : Heap} {T : State} {k n : Nat} {Q : Outcome → State → Prop} {pc pc' : Nat} {ls ls' : Array Slot} {st st' : List Value} {a0 : Array Value} {a : Addr} {nn : Nat} {f : Int → Value} {gg : Int → Int32}
theorem own_len (X : own_X p l e R s m args below meth c Z bytes maxL ret y n0 h T k n) {ty : FieldType} (A : own_A Z h a ty nn f) (hd : decode bytes pc = .ok (.arraylength, 1)) (g : own_G p e below (T.setTop (mkF m (pc + 1) ls (.int (Int32.ofNat nn) :: st))) Q) : own_G p e below (T.setTop (mkF m pc ls (.ref a :: st))) Q := by
  obtain ⟨⟨hx, hby, hml, hown, hnm, hret, hZ, hlk⟩, hn0, eT, locs, X, N⟩ := X
  obtain ⟨q, cl, A, S, H⟩ := A
  subst hby
  refine own_st (fun t q => X.arraylength hx (by rw [eT]; exact A.1) (State.isArrayOf_alike hZ.alike A.2.1) (g := mkF m pc ls (.ref a :: st)) rfl rfl hd t q) ?_
  show own_G p e below (T.setTop (mkF m (pc + 1) ls (.int cl.slots.size.toInt32 :: st))) Q
  rw [S]
  exact g
theorem own_iald (X : own_X p l e R s m args below meth c Z bytes maxL ret y n0 h T k n) (A : own_I Z h a .int nn gg) (hd : decode bytes pc = .ok (.iaload, 1)) {j : Int32} (h0 : 0 ≤ j.toInt) (h1 : j.toInt < nn) (g : own_G p e below (T.setTop (mkF m (pc + 1) ls (.int (gg j.toInt) :: st))) Q) : own_G p e below (T.setTop (mkF m pc ls (.int j :: .ref a :: st))) Q := by
  obtain ⟨⟨hx, hby, hml, hown, hnm, hret, hZ, hlk⟩, hn0, eT, locs, X, N⟩ := X
  obtain ⟨q, cl, A, S, H⟩ := A
  subst hby
  have e1 := own_nat h0
  refine own_st (fun t q => X.iaload hx (by rw [eT]; exact A.1) (State.isArrayOf_alike hZ.alike A.2.1) A.2.2 (own_inb S h0 h1) (H _ (by omega)) (g := mkF m pc ls (.int j :: .ref a :: st)) rfl rfl hd t q) ?_
  show own_G p e below (T.setTop (mkF m (pc + 1) ls (.int (gg (j.toNatClampNeg : Int)) :: st))) Q
  rw [← e1]
  exact g
theorem own_bald (X : own_X p l e R s m args below meth c Z bytes maxL ret y n0 h T k n) (A : own_I Z h a .byte nn gg) (hd : decode bytes pc = .ok (.baload, 1)) {j : Int32} (h0 : 0 ≤ j.toInt) (h1 : j.toInt < nn) (g : own_G p e below (T.setTop (mkF m (pc + 1) ls (.int (gg j.toInt) :: st))) Q) : own_G p e below (T.setTop (mkF m pc ls (.int j :: .ref a :: st))) Q := by
  obtain ⟨⟨hx, hby, hml, hown, hnm, hret, hZ, hlk⟩, hn0, eT, locs, X, N⟩ := X
  obtain ⟨q, cl, A, S, H⟩ := A
  subst hby
  have e1 := own_nat h0
  refine own_st (fun t q => X.baloadBytes hx (by rw [eT]; exact A.1) (State.isArrayOf_alike hZ.alike A.2.1) A.2.2 (own_inb S h0 h1) (H _ (by omega)) (g := mkF m pc ls (.int j :: .ref a :: st)) rfl rfl hd t q) ?_
  show own_G p e below (T.setTop (mkF m (pc + 1) ls (.int (gg (j.toNatClampNeg : Int)) :: st))) Q
  rw [← e1]
  exact g
theorem own_zald (X : own_X p l e R s m args below meth c Z bytes maxL ret y n0 h T k n) (A : own_I Z h a .boolean nn gg) (hd : decode bytes pc = .ok (.baload, 1)) {j : Int32} (h0 : 0 ≤ j.toInt) (h1 : j.toInt < nn) (g : own_G p e below (T.setTop (mkF m (pc + 1) ls (.int (gg j.toInt) :: st))) Q) : own_G p e below (T.setTop (mkF m pc ls (.int j :: .ref a :: st))) Q := by
  obtain ⟨⟨hx, hby, hml, hown, hnm, hret, hZ, hlk⟩, hn0, eT, locs, X, N⟩ := X
  obtain ⟨q, cl, A, S, H⟩ := A
  subst hby
  have e1 := own_nat h0
  refine own_st (fun t q => X.baloadBooleans hx (by rw [eT]; exact A.1) (State.isArrayOf_alike hZ.alike A.2.1) A.2.2 (own_inb S h0 h1) (H _ (by omega)) (g := mkF m pc ls (.int j :: .ref a :: st)) rfl rfl hd t q) ?_
  show own_G p e below (T.setTop (mkF m (pc + 1) ls (.int (gg (j.toNatClampNeg : Int)) :: st))) Q
  rw [← e1]
  exact g
theorem own_iast (X : own_X p l e R s m args below meth c Z bytes maxL ret y n0 h T k n) (A : own_I Z h a .int nn gg) (ha : n0 ≤ a) (hd : decode bytes pc = .ok (.iastore, 1)) {j x : Int32} (h0 : 0 ≤ j.toInt) (h1 : j.toInt < nn)
    (g : ∀ h' T', own_X p l e R s m args below meth c Z bytes maxL ret y n0 h' T' k n → own_I Z h' a .int nn (own_u gg j.toInt x) → Wr h h' a j.toNatClampNeg (.int x) → own_G p e below (T'.setTop (mkF m (pc + 1) ls st)) Q) : own_G p e below (T.setTop (mkF m pc ls (.int x :: .int j :: .ref a :: st))) Q := by
  obtain ⟨M, hn0, eT, locs, X, N⟩ := X
  have M' := M
  obtain ⟨hx, hby, hml, hown, hnm, hret, hZ, hlk⟩ := M'
  have AA := A
  obtain ⟨q, cl, A, S, H⟩ := A
  subst hby
  obtain ⟨T', h', X', e', W', stp⟩ := stI X hx hZ eT A (own_inb S h0 h1) (g := mkF m pc ls (.int x :: .int j :: .ref a :: st)) rfl rfl hd
  exact own_st stp (g h' T' ⟨M, by rw [W'.size]; exact hn0, e', _, X', Fr.snoc X' N ha⟩ (own_I_set AA W' _ (own_nat h0)) W')
theorem own_bast (X : own_X p l e R s m args below meth c Z bytes maxL ret y n0 h T k n) (A : own_I Z h a .byte nn gg) (ha : n0 ≤ a) (hd : decode bytes pc = .ok (.bastore, 1)) {j x : Int32} (h0 : 0 ≤ j.toInt) (h1 : j.toInt < nn) (hx8 : x.toInt8.toInt32 = x)
    (g : ∀ h' T', own_X p l e R s m args below meth c Z bytes maxL ret y n0 h' T' k n → own_I Z h' a .byte nn (own_u gg j.toInt x) → Wr h h' a j.toNatClampNeg (.int x) → own_G p e below (T'.setTop (mkF m (pc + 1) ls st)) Q) : own_G p e below (T.setTop (mkF m pc ls (.int x :: .int j :: .ref a :: st))) Q := by
  obtain ⟨M, hn0, eT, locs, X, N⟩ := X
  have M' := M
  obtain ⟨hx, hby, hml, hown, hnm, hret, hZ, hlk⟩ := M'
  have AA := A
  obtain ⟨q, cl, A, S, H⟩ := A
  subst hby
  obtain ⟨T', h', X', e', W', stp⟩ := stB X hx hZ eT A (own_inb S h0 h1) (g := mkF m pc ls (.int x :: .int j :: .ref a :: st)) rfl rfl hd
  have W2 : Wr h h' a j.toNatClampNeg (.int x) := by have q := W'; simp only [nar, hx8] at q; exact q
  exact own_st stp (g h' T' ⟨M, by rw [W'.size]; exact hn0, e', _, X', Fr.snoc X' N ha⟩ (own_I_set AA W2 _ (own_nat h0)) W2)
theorem own_zast (X : own_X p l e R s m args below meth c Z bytes maxL ret y n0 h T k n) (A : own_I Z h a .boolean nn gg) (ha : n0 ≤ a) (hd : decode bytes pc = .ok (.bastore, 1)) {j x : Int32} (h0 : 0 ≤ j.toInt) (h1 : j.toInt < nn) (hx1 : x &&& 1 = x)
    (g : ∀ h' T', own_X p l e R s m args below meth c Z bytes maxL ret y n0 h' T' k n → own_I Z h' a .boolean nn (own_u gg j.toInt x) → Wr h h' a j.toNatClampNeg (.int x) → own_G p e below (T'.setTop (mkF m (pc + 1) ls st)) Q) : own_G p e below (T.setTop (mkF m pc ls (.int x :: .int j :: .ref a :: st))) Q := by
  obtain ⟨M, hn0, eT, locs, X, N⟩ := X
  have M' := M
  obtain ⟨hx, hby, hml, hown, hnm, hret, hZ, hlk⟩ := M'
  have AA := A
  obtain ⟨q, cl, A, S, H⟩ := A
  subst hby
  obtain ⟨T', h', X', e', W', stp⟩ := stZ X hx hZ eT A (own_inb S h0 h1) (g := mkF m pc ls (.int x :: .int j :: .ref a :: st)) rfl rfl hd
  have W2 : Wr h h' a j.toNatClampNeg (.int x) := by have q := W'; simp only [nar, hx1] at q; exact q
  exact own_st stp (g h' T' ⟨M, by rw [W'.size]; exact hn0, e', _, X', Fr.snoc X' N ha⟩ (own_I_set AA W2 _ (own_nat h0)) W2)
theorem own_jast (X : own_X p l e R s m args below meth c Z bytes maxL ret y n0 h T k n) (A : own_A Z h a .long nn f) (ha : n0 ≤ a) (hd : decode bytes pc = .ok (.lastore, 1)) {j : Int32} {x : Int64} (h0 : 0 ≤ j.toInt) (h1 : j.toInt < nn)
    (g : ∀ h' T', own_X p l e R s m args below meth c Z bytes maxL ret y n0 h' T' k n → own_A Z h' a .long nn (own_u f j.toInt (.long x)) → Wr h h' a j.toNatClampNeg (.long x) → own_G p e below (T'.setTop (mkF m (pc + 1) ls st)) Q) : own_G p e below (T.setTop (mkF m pc ls (.long x :: .int j :: .ref a :: st))) Q := by
  obtain ⟨M, hn0, eT, locs, X, N⟩ := X
  have M' := M
  obtain ⟨hx, hby, hml, hown, hnm, hret, hZ, hlk⟩ := M'
  have AA := A
  obtain ⟨q, cl, A, S, H⟩ := A
  subst hby
  obtain ⟨T', h', X', e', W', stp⟩ := stJ X hx hZ eT A (own_inb S h0 h1) (g := mkF m pc ls (.long x :: .int j :: .ref a :: st)) rfl rfl hd
  exact own_st stp (g h' T' ⟨M, by rw [W'.size]; exact hn0, e', _, X', Fr.snoc X' N ha⟩ (own_A_set AA W' _ (own_nat h0)) W')
theorem own_newP (X : own_X p l e R s m args below meth c Z bytes maxL ret y n0 h T k n) {aty : ArrayType} (w : (Jvm.Cond.arrayClass (newarray.typeOf aty)).before a0 Z = true) (hd : decode bytes pc = .ok (.newarray aty, 2)) {v : Int32} (h0 : 0 ≤ v.toInt) (cap : Nat) (hcap : v.toInt ≤ cap) (hb : cap * 8 ≤ 536870912) (hc : k + 1 ≤ R.cells) (hs : n + cap ≤ R.slots)
    (g : ∀ h' T', own_X p l e R s m args below meth c Z bytes maxL ret y n0 h' T' (k + 1) (n + cap) → Ext h h' → own_A Z h' h.size (newarray.typeOf aty) v.toInt.toNat (fun _ => defaultValue (newarray.typeOf aty)) → own_G p e below (T'.setTop (mkF m (pc + 2) ls (.ref h.size :: st))) Q) : own_G p e below (T.setTop (mkF m pc ls (.int v :: st))) Q := by
  obtain ⟨M, hn0, eT, locs, X, N⟩ := X
  have M' := M
  obtain ⟨hx, hby, hml, hown, hnm, hret, hZ, hlk⟩ := M'
  subst hby
  have e1 := own_nat h0
  obtain ⟨T', h', cA, X', e', E', A', stp⟩ := newP X hx hZ w eT (g := mkF m pc ls (.int v :: st)) rfl hd rfl (own_idx h0) (cap := cap) (by omega) hb hc hs
  exact own_st stp (g h' T' ⟨M, Nat.le_trans hn0 E'.1, e', _, X', N⟩ E' (own_A_new A' h0))
theorem own_newI (X : own_X p l e R s m args below meth c Z bytes maxL ret y n0 h T k n) {aty : ArrayType} (w : (Jvm.Cond.arrayClass (newarray.typeOf aty)).before a0 Z = true) (hdf : defaultValue (newarray.typeOf aty) = .int 0) (hd : decode bytes pc = .ok (.newarray aty, 2)) {v : Int32} (h0 : 0 ≤ v.toInt) (cap : Nat) (hcap : v.toInt ≤ cap) (hb : cap * 8 ≤ 536870912) (hc : k + 1 ≤ R.cells) (hs : n + cap ≤ R.slots)
    (g : ∀ h' T', own_X p l e R s m args below meth c Z bytes maxL ret y n0 h' T' (k + 1) (n + cap) → Ext h h' → own_I Z h' h.size (newarray.typeOf aty) v.toInt.toNat (fun _ => 0) → own_G p e below (T'.setTop (mkF m (pc + 2) ls (.ref h.size :: st))) Q) : own_G p e below (T.setTop (mkF m pc ls (.int v :: st))) Q :=
  own_newP X w hd h0 cap hcap hb hc hs (fun h' T' X' E A => g h' T' X' E (own_A_eq A fun _ _ _ => hdf.symm))
end Arrs2
/-! ### own numbers -/
theorem own_addc {x k : Int32} {d : Int} (hk : k.toInt = d) (h1 : -2147483648 ≤ x.toInt + d) (h2 : x.toInt + d < 2147483648) : (x + k).toInt = x.toInt + d := by
  subst hk; exact Jvm.Kit.i32_add (by omega) (by omega)
theorem own_subc {x k : Int32} {d : Int} (hk : k.toInt = d) (h1 : -2147483648 ≤ x.toInt - d) (h2 : x.toInt - d < 2147483648) : (x - k).toInt = x.toInt - d := by
  subst hk; exact Jvm.Kit.i32_sub (by omega) (by omega)
theorem own_mulc {x k : Int32} {d : Int} (hk : k.toInt = d) (h1 : -2147483648 ≤ x.toInt * d) (h2 : x.toInt * d < 2147483648) : (x * k).toInt = x.toInt * d := by
  subst hk; exact Jvm.Kit.i32_mul (by omega) (by omega)
theorem own_i2b_int (x : Int32) : (own_i2b x).toInt = x.toInt.bmod 256 := by
  simp [own_i2b, Int8.toInt_toInt32, Int32.toInt_toInt8]
theorem own_i2b_b (x : Int32) : -128 ≤ (own_i2b x).toInt ∧ (own_i2b x).toInt < 128 ∧ (own_i2b x).toInt % 256 = x.toInt % 256 := by
  rw [own_i2b_int]
  have h1 := Int.bmod_emod (x := x.toInt) (m := 256)
  have h2 := Int.le_bmod (x := x.toInt) (m := 256) (by decide)
  have h3 := Int.bmod_lt (x := x.toInt) (m := 256) (by decide)
  omega
theorem own_i2b_fix (x : Int32) : (own_i2b x).toInt8.toInt32 = own_i2b x := by
  simp [own_i2b]
theorem own_i2b_id {x : Int32} (h1 : -128 ≤ x.toInt) (h2 : x.toInt < 128) : own_i2b x = x := by
  apply Int32.toInt_inj.mp
  have := own_i2b_b x
  omega
theorem own_irem_int (x y : Int32) : (own_irem x y).toInt = x.toInt.tmod y.toInt := by
  have a := (x % y).toInt_lt; have b := (x % y).le_toInt
  rw [Int32.toInt_mod] at a b
  rw [own_irem, Int32.toInt_sub, Int32.toInt_mul, Int32.toInt_div, Int.bmod_mul_bmod, Int.sub_bmod_bmod, Int.mul_comm, ← Int.tmod_def]
  exact Jvm.Kit.bmod32 b a
theorem own_irem_pos {x y : Int32} (h : 0 ≤ x.toInt) : (own_irem x y).toInt = x.toInt % y.toInt := by rw [own_irem_int, Int.tmod_eq_emod_of_nonneg h]
theorem own_idiv_pos {x y : Int32} (h : 0 ≤ x.toInt) : (x / y).toInt = x.toInt / y.toInt := by
  have a := x.toInt_lt
  rw [Jvm.Kit.i32_div (by omega), Int.tdiv_eq_ediv_of_nonneg h]
theorem own_lrem_pos {x y : Int64} (h : 0 ≤ x.toInt) : (own_lrem x y).toInt = x.toInt % y.toInt := by rw [own_lrem]; exact Jvm.Kit.i64_rem_nonneg h
theorem own_ldiv_pos {x y : Int64} (h : 0 ≤ x.toInt) : (x / y).toInt = x.toInt / y.toInt := by
  have a := x.toInt_lt
  rw [Jvm.Kit.i64_div (by omega), Int.tdiv_eq_ediv_of_nonneg h]
/-! bits -/
theorem own_lushr_bv (x : Int64) (y : Int32) (k : Nat) (hk : ((y &&& 0x3f).toInt64.toBitVec % 64).toNat = k) : (own_lushr x y).toBitVec = x.toBitVec >>> k := by
  simp only [own_lushr, UInt64.toBitVec_toInt64, UInt64.toBitVec_shiftRight, Int64.toBitVec_toUInt64, BitVec.ushiftRight_eq', hk]
theorem own_lshl_bv (x : Int64) (y : Int32) (k : Nat) (hk : ((y &&& 0x3f).toInt64.toBitVec.smod 64#64).toNat = k) : (own_lshl x y).toBitVec = x.toBitVec <<< k := by
  have e : (own_lshl x y).toBitVec = x.toBitVec <<< ((y &&& 0x3f).toInt64.toBitVec.smod 64#64) := rfl
  rw [e, BitVec.shiftLeft_eq', hk]
theorem own_iushr_bv (x : Int32) (y : Int32) (k : Nat) (hk : ((y &&& 31).toBitVec % 32).toNat = k) : (own_iushr x y).toBitVec = x.toBitVec >>> k := by
  simp only [own_iushr, UInt32.toBitVec_toInt32, UInt32.toBitVec_shiftRight, Int32.toBitVec_toUInt32, BitVec.ushiftRight_eq', hk]
theorem own_iushr_int (x y : Int32) (k : Nat) (hk : ((y &&& 31).toBitVec % 32).toNat = k) (h : 0 ≤ x.toInt) : (own_iushr x y).toInt = x.toInt / 2 ^ k := by
  have e : (own_iushr x y).toInt = (own_iushr x y).toBitVec.toInt := rfl
  have e1 : x.toInt = x.toBitVec.toInt := rfl
  rw [e, own_iushr_bv x y k hk, e1]
  rw [e1] at h
  have h2 : x.toBitVec.toInt = (x.toBitVec.toNat : Int) := by
    rw [BitVec.toInt_eq_toNat_cond] at h ⊢
    split at h
    · rw [if_pos (by assumption)]
    · have := x.toBitVec.isLt; omega
  have h3 : 2 * x.toBitVec.toNat < 2 ^ 32 := by
    have := BitVec.toInt_lt (x := x.toBitVec); omega
  rw [BitVec.toInt_eq_toNat_cond, BitVec.toNat_ushiftRight, Nat.shiftRight_eq_div_pow]
  have h4 : x.toBitVec.toNat / 2 ^ k ≤ x.toBitVec.toNat := Nat.div_le_self _ _
  rw [if_pos (by omega), h2, Int.natCast_ediv, Int.natCast_pow]
  rfl
theorem own_pos_nat {x : Int32} (h : 0 ≤ x.toInt) : x.toInt = (x.toBitVec.toNat : Int) := by
  have e : x.toInt = x.toBitVec.toInt := rfl
  rw [e] at h ⊢
  rw [BitVec.toInt_eq_toNat_cond] at h ⊢
  have := x.toBitVec.isLt
  split at h
  · rw [if_pos (by assumption)]
  · omega
theorem own_nat_pos {x : Int32} {n : Nat} (h : x.toBitVec.toNat = n) (hn : n < 2147483648) : x.toInt = (n : Int) := by
  have e : x.toInt = x.toBitVec.toInt := rfl
  rw [e, BitVec.toInt_eq_toNat_cond, h, if_pos (by omega)]
/-- an or of a multiple of 2^k and what lies below 2^k is their sum -/
theorem own_or {x y : Int32} (k : Nat) (hx : 0 ≤ x.toInt) (hx2 : x.toInt % 2 ^ k = 0) (hy : 0 ≤ y.toInt) (hy2 : y.toInt < 2 ^ k) : (x ||| y).toInt = x.toInt + y.toInt := by
  have e1 := own_pos_nat hx
  have e2 := own_pos_nat hy
  have b1 := Int32.toInt_lt x
  have b2 := Int32.toInt_lt y
  have hm : x.toBitVec.toNat % 2 ^ k = 0 := by
    rw [e1] at hx2
    have : ((x.toBitVec.toNat % 2 ^ k : Nat) : Int) = 0 := by rw [Int.natCast_emod, Int.natCast_pow]; exact hx2
    omega
  have hl : y.toBitVec.toNat < 2 ^ k := by
    rw [e2] at hy2
    have : (y.toBitVec.toNat : Int) < ((2 ^ k : Nat) : Int) := by rw [Int.natCast_pow]; exact hy2
    omega
  have hd : x.toBitVec.toNat = 2 ^ k * (x.toBitVec.toNat / 2 ^ k) := by
    have := Nat.div_add_mod x.toBitVec.toNat (2 ^ k); omega
  have e3 : (x ||| y).toBitVec.toNat = x.toBitVec.toNat + y.toBitVec.toNat := by
    rw [Int32.toBitVec_or, BitVec.toNat_or]
    generalize y.toBitVec.toNat = b at *
    rw [hd, ← Nat.two_pow_add_eq_or_of_lt hl]
  have hlt : (x ||| y).toBitVec.toNat < 2147483648 := by
    rw [Int32.toBitVec_or, BitVec.toNat_or]
    exact Nat.or_lt_two_pow (n := 31) (by omega) (by omega)
  rw [own_nat_pos e3 (by omega)]
  omega
theorem own_mask (x m : Int32) (k : Nat) (hk : k < 32) (hm : m.toBitVec.toNat = 2 ^ k - 1) : (x &&& m).toInt = x.toInt % 2 ^ k := Jvm.Kit.i32_mask x m hk hm
/-! the high bits of a byte -/
theorem own_fin256 {x : Int32} (h0 : 0 ≤ x.toInt) (h1 : x.toInt < 256) : ∃ n : Fin 256, x = Int32.ofNat n.val ∧ x.toInt = (n.val : Int) := by
  refine ⟨⟨x.toInt.toNat, by omega⟩, ?_, by show x.toInt = (x.toInt.toNat : Int); omega⟩
  apply Int32.toInt_inj.mp
  rw [Int32.toInt_ofNat_of_lt (by show x.toInt.toNat < _; omega)]
  show x.toInt = (x.toInt.toNat : Int); omega
theorem own_f192 : ∀ n : Fin 256, (Int32.ofNat n.val &&& 192).toInt = (n.val : Int) - (n.val : Int) % 64 := by decide +kernel
theorem own_f224 : ∀ n : Fin 256, (Int32.ofNat n.val &&& 224).toInt = (n.val : Int) - (n.val : Int) % 32 := by decide +kernel
theorem own_f240 : ∀ n : Fin 256, (Int32.ofNat n.val &&& 240).toInt = (n.val : Int) - (n.val : Int) % 16 := by decide +kernel
theorem own_f248 : ∀ n : Fin 256, (Int32.ofNat n.val &&& 248).toInt = (n.val : Int) - (n.val : Int) % 8 := by decide +kernel
theorem own_h192 {x : Int32} (h0 : 0 ≤ x.toInt) (h1 : x.toInt < 256) : (x &&& 192).toInt = x.toInt - x.toInt % 64 := by
  obtain ⟨n, e1, e2⟩ := own_fin256 h0 h1; rw [e2, e1]; exact own_f192 n
theorem own_h224 {x : Int32} (h0 : 0 ≤ x.toInt) (h1 : x.toInt < 256) : (x &&& 224).toInt = x.toInt - x.toInt % 32 := by
  obtain ⟨n, e1, e2⟩ := own_fin256 h0 h1; rw [e2, e1]; exact own_f224 n
theorem own_h240 {x : Int32} (h0 : 0 ≤ x.toInt) (h1 : x.toInt < 256) : (x &&& 240).toInt = x.toInt - x.toInt % 16 := by
  obtain ⟨n, e1, e2⟩ := own_fin256 h0 h1; rw [e2, e1]; exact own_f240 n
theorem own_h248 {x : Int32} (h0 : 0 ≤ x.toInt) (h1 : x.toInt < 256) : (x &&& 248).toInt = x.toInt - x.toInt % 8 := by
  obtain ⟨n, e1, e2⟩ := own_fin256 h0 h1; rw [e2, e1]; exact own_f248 n
theorem own_m255 (x : Int32) : (x &&& 255).toInt = x.toInt % 256 := Jvm.Kit.i32_mask x 255 (k := 8) (by decide) (by decide)
theorem own_m63 (x : Int32) : (x &&& 63).toInt = x.toInt % 64 := Jvm.Kit.i32_mask x 63 (k := 6) (by decide) (by decide)
theorem own_l192 (x : Int32) : (x &&& 192).toInt = x.toInt % 256 - x.toInt % 64 := by
  have e : x &&& 192 = (x &&& 255) &&& 192 := by rw [Int32.and_assoc]; rfl
  have h := own_m255 x
  rw [e, own_h192 (by omega) (by omega), h]; omega
theorem own_shr (x y : Int32) (k : Nat) (hk : ((y &&& 31).toBitVec.smod 32).toNat = k) : (own_ishr x y).toInt = x.toInt / 2 ^ k := Jvm.Kit.i32_shr x _ hk
theorem own_shl (x y : Int32) (k : Nat) (hk : ((y &&& 31).toBitVec.smod 32).toNat = k) (h1 : -2147483648 ≤ x.toInt * 2 ^ k) (h2 : x.toInt * 2 ^ k < 2147483648) : (own_ishl x y).toInt = x.toInt * 2 ^ k := Jvm.Kit.i32_shl x _ hk (by omega) (by omega)
/-- an or with a constant that is a multiple of 2^k -/
theorem own_orc {x y : Int32} {d : Int} (k : Nat) (hx : x.toInt = d) (h0 : 0 ≤ d) (h1 : d % 2 ^ k = 0) (hy : 0 ≤ y.toInt) (hy2 : y.toInt < 2 ^ k) : (x ||| y).toInt = d + y.toInt := by
  subst hx; exact own_or k h0 h1 hy hy2
theorem own_b255 (x : Int32) : (own_i2b x &&& 255).toInt = x.toInt % 256 := by
  have h1 := own_m255 (own_i2b x)
  have h2 := own_i2b_b x
  omega
theorem own_ofNat {n : Nat} (h : n < 2147483648) : (Int32.ofNat n).toInt = (n : Int) := Int32.toInt_ofNat_of_lt (by omega)
def own_p10 (e : Int32) : Int32 := if e.toInt = 0 then 1 else if e.toInt = 1 then 10 else if e.toInt = 2 then 100 else if e.toInt = 3 then 1000 else if e.toInt = 4 then 10000 else if e.toInt = 5 then 100000 else if e.toInt = 6 then 1000000 else if e.toInt = 7 then 10000000 else if e.toInt = 8 then 100000000 else if e.toInt = 9 then 1000000000 else 1
theorem own_p10_pow {e : Int32} (h0 : 0 ≤ e.toInt) (h1 : e.toInt ≤ 9) : (own_p10 e).toInt = 10 ^ e.toInt.toNat := by
  have hc : e.toInt = 0 ∨ e.toInt = 1 ∨ e.toInt = 2 ∨ e.toInt = 3 ∨ e.toInt = 4 ∨ e.toInt = 5 ∨ e.toInt = 6 ∨ e.toInt = 7 ∨ e.toInt = 8 ∨ e.toInt = 9 := by omega
  rcases hc with h | h | h | h | h | h | h | h | h | h <;> simp [own_p10, h]
theorem own_p10_ne (e : Int32) : own_p10 e ≠ 0 := by
  unfold own_p10
  repeat' split
  all_goals decide
def own_dg (m d k : Int32) : Int32 := own_i2b (48 + own_irem (m / own_p10 ((d - 1) - k)) 10)
theorem own_dg_v {m d k : Int32} {k0 : Nat} (hk : k.toInt = (k0 : Int)) (hm : 0 ≤ m.toInt) (h1 : (k0 : Int) < d.toInt) (h2 : d.toInt ≤ 9) : (own_dg m d k).toInt = 48 + m.toInt / 10 ^ (d.toInt.toNat - 1 - k0) % 10 := by
  have e1 : (d - 1).toInt = d.toInt - 1 := own_subc rfl (by omega) (by omega)
  have e2 : ((d - 1) - k).toInt = d.toInt - 1 - k0 := by rw [own_subc (d := (k0 : Int)) hk (by omega) (by omega), e1]
  have e3 := own_p10_pow (e := (d - 1) - k) (by omega) (by omega)
  have e4 : ((d - 1) - k).toInt.toNat = d.toInt.toNat - 1 - k0 := by omega
  rw [e4] at e3
  have e5 : (m / own_p10 ((d - 1) - k)).toInt = m.toInt / 10 ^ (d.toInt.toNat - 1 - k0) := by rw [own_idiv_pos hm, e3]
  have e6 : 0 ≤ m.toInt / 10 ^ (d.toInt.toNat - 1 - k0) := Int.ediv_nonneg hm (Int.le_of_lt (Int.pow_pos (by decide)))
  have e7 : (own_irem (m / own_p10 ((d - 1) - k)) 10).toInt = m.toInt / 10 ^ (d.toInt.toNat - 1 - k0) % 10 := by rw [own_irem_pos (by rw [e5]; exact e6), e5]; rfl
  have e8 : (48 + own_irem (m / own_p10 ((d - 1) - k)) 10).toInt = 48 + m.toInt / 10 ^ (d.toInt.toNat - 1 - k0) % 10 := by
    rw [Jvm.Kit.i32_add (by rw [e7]; show _ ≤ (48 : Int) + _; omega) (by rw [e7]; show (48 : Int) + _ < _; omega), e7]; rfl
  rw [own_dg, own_i2b_id (by rw [e8]; omega) (by rw [e8]; omega), e8]
def own_vl (g : Int → Int32) (q : Int) : Nat → Int
  | 0 => 0
  | k + 1 => own_vl g q k * 10 + (g (q + (k : Int))).toInt - 48
def own_okd (g : Int → Int32) (q : Int) (k : Nat) : Prop := ∀ j : Nat, j < k → 48 ≤ (g (q + (j : Int))).toInt ∧ (g (q + (j : Int))).toInt ≤ 57
theorem own_okd_s {g : Int → Int32} {q : Int} {k : Nat} (h : own_okd g q k) (h2 : 48 ≤ (g (q + (k : Int))).toInt ∧ (g (q + (k : Int))).toInt ≤ 57) : own_okd g q (k + 1) := by
  intro j hj
  by_cases e : j = k
  · subst e; exact h2
  · exact h j (by omega)
theorem own_vl_b {g : Int → Int32} {q : Int} : ∀ k : Nat, own_okd g q k → 0 ≤ own_vl g q k ∧ own_vl g q k < 10 ^ k
  | 0, _ => by simp [own_vl]
  | k + 1, h => by
    have ih := own_vl_b k (fun j hj => h j (by omega))
    have h1 := h k (by omega)
    rw [own_vl, Int.pow_succ]
    generalize (10 : Int) ^ k = P at *
    omega
theorem own_vl_eq {g : Int → Int32} {q m : Int} {n : Nat} (h0 : 0 ≤ m) (h1 : m < 10 ^ n) (hf : ∀ j : Nat, j < n → (g (q + (j : Int))).toInt = 48 + m / 10 ^ (n - 1 - j) % 10) : ∀ k : Nat, k ≤ n → own_vl g q k = m / 10 ^ (n - k)
  | 0, _ => by rw [own_vl, Nat.sub_zero, Int.ediv_eq_zero_of_lt h0 h1]
  | k + 1, hk => by
    rw [own_vl, own_vl_eq h0 h1 hf k (by omega), hf k (by omega)]
    have e1 : n - k = (n - 1 - k) + 1 := by omega
    have e2 : n - (k + 1) = n - 1 - k := by omega
    rw [e1, e2, Int.pow_succ, ← Int.ediv_ediv_of_nonneg (Int.le_of_lt (Int.pow_pos (by decide)))]
    generalize m / 10 ^ (n - 1 - k) = P
    omega
abbrev own_y1 : MethodName := ⟨"com/example/vedette/vedette/model/Iso2709NumberPinLaw", "pow10", "(I)I"⟩
theorem pl1 : plainFor own_y1 = true := plainFor_of_name (by first | (simp [plainName, overriddenIn]; done) | decide +kernel)
def B1_0_1 : List (Instr × Nat) := [(.iload_n 0, 1)]
theorem B1_0_1d : own_d method_2_code 0 B1_0_1 1 = true := by decide +kernel
theorem d1_1 : decode method_2_code 1 = .ok (.ifCond .ne 5, 3) := by decide +kernel
def B1_6_8 : List (Instr × Nat) := [(.iload_n 0, 1), (.iconst 1, 1)]
theorem B1_6_8d : own_d method_2_code 6 B1_6_8 8 = true := by decide +kernel
theorem d1_8 : decode method_2_code 8 = .ok (.if_icmp .ne 6, 3) := by decide +kernel
def B1_14_16 : List (Instr × Nat) := [(.iload_n 0, 1), (.iconst 2, 1)]
theorem B1_14_16d : own_d method_2_code 14 B1_14_16 16 = true := by decide +kernel
theorem d1_16 : decode method_2_code 16 = .ok (.if_icmp .ne 6, 3) := by decide +kernel
def B1_22_24 : List (Instr × Nat) := [(.iload_n 0, 1), (.iconst 3, 1)]
theorem B1_22_24d : own_d method_2_code 22 B1_22_24 24 = true := by decide +kernel
theorem d1_24 : decode method_2_code 24 = .ok (.if_icmp .ne 7, 3) := by decide +kernel
def B1_31_33 : List (Instr × Nat) := [(.iload_n 0, 1), (.iconst 4, 1)]
theorem B1_31_33d : own_d method_2_code 31 B1_31_33 33 = true := by decide +kernel
theorem d1_33 : decode method_2_code 33 = .ok (.if_icmp .ne 7, 3) := by decide +kernel
def B1_40_42 : List (Instr × Nat) := [(.iload_n 0, 1), (.iconst 5, 1)]
theorem B1_40_42d : own_d method_2_code 40 B1_40_42 42 = true := by decide +kernel
theorem d1_42 : decode method_2_code 42 = .ok (.if_icmp .ne 6, 3) := by decide +kernel
def B1_48_51 : List (Instr × Nat) := [(.iload_n 0, 1), (.bipush 6, 2)]
theorem B1_48_51d : own_d method_2_code 48 B1_48_51 51 = true := by decide +kernel
theorem d1_51 : decode method_2_code 51 = .ok (.if_icmp .ne 6, 3) := by decide +kernel
def B1_57_60 : List (Instr × Nat) := [(.iload_n 0, 1), (.bipush 7, 2)]
theorem B1_57_60d : own_d method_2_code 57 B1_57_60 60 = true := by decide +kernel
theorem d1_60 : decode method_2_code 60 = .ok (.if_icmp .ne 6, 3) := by decide +kernel
def B1_66_69 : List (Instr × Nat) := [(.iload_n 0, 1), (.bipush 8, 2)]
theorem B1_66_69d : own_d method_2_code 66 B1_66_69 69 = true := by decide +kernel
theorem d1_69 : decode method_2_code 69 = .ok (.if_icmp .ne 6, 3) := by decide +kernel
def B1_75_78 : List (Instr × Nat) := [(.iload_n 0, 1), (.bipush 9, 2)]
theorem B1_75_78d : own_d method_2_code 75 B1_75_78 78 = true := by decide +kernel
theorem d1_78 : decode method_2_code 78 = .ok (.if_icmp .ne 6, 3) := by decide +kernel
def B1_84_85 : List (Instr × Nat) := [(.iconst 1, 1)]
theorem B1_84_85d : own_d method_2_code 84 B1_84_85 85 = true := by decide +kernel
theorem d1_85 : decode method_2_code 85 = .ok (.ireturn, 1) := by decide +kernel
theorem d1_81 : decode method_2_code 81 = .ok (.ldc 11, 2) := by decide +kernel
theorem d1_83 : decode method_2_code 83 = .ok (.ireturn, 1) := by decide +kernel
theorem d1_72 : decode method_2_code 72 = .ok (.ldc 10, 2) := by decide +kernel
theorem d1_74 : decode method_2_code 74 = .ok (.ireturn, 1) := by decide +kernel
theorem d1_63 : decode method_2_code 63 = .ok (.ldc 9, 2) := by decide +kernel
theorem d1_65 : decode method_2_code 65 = .ok (.ireturn, 1) := by decide +kernel
theorem d1_54 : decode method_2_code 54 = .ok (.ldc 8, 2) := by decide +kernel
theorem d1_56 : decode method_2_code 56 = .ok (.ireturn, 1) := by decide +kernel
theorem d1_45 : decode method_2_code 45 = .ok (.ldc 7, 2) := by decide +kernel
theorem d1_47 : decode method_2_code 47 = .ok (.ireturn, 1) := by decide +kernel
def B1_36_39 : List (Instr × Nat) := [(.sipush 10000, 3)]
theorem B1_36_39d : own_d method_2_code 36 B1_36_39 39 = true := by decide +kernel
theorem d1_39 : decode method_2_code 39 = .ok (.ireturn, 1) := by decide +kernel
def B1_27_30 : List (Instr × Nat) := [(.sipush 1000, 3)]
theorem B1_27_30d : own_d method_2_code 27 B1_27_30 30 = true := by decide +kernel
theorem d1_30 : decode method_2_code 30 = .ok (.ireturn, 1) := by decide +kernel
def B1_19_21 : List (Instr × Nat) := [(.bipush 100, 2)]
theorem B1_19_21d : own_d method_2_code 19 B1_19_21 21 = true := by decide +kernel
theorem d1_21 : decode method_2_code 21 = .ok (.ireturn, 1) := by decide +kernel
def B1_11_13 : List (Instr × Nat) := [(.bipush 10, 2)]
theorem B1_11_13d : own_d method_2_code 11 B1_11_13 13 = true := by decide +kernel
theorem d1_13 : decode method_2_code 13 = .ok (.ireturn, 1) := by decide +kernel
def B1_4_5 : List (Instr × Nat) := [(.iconst 1, 1)]
theorem B1_4_5d : own_d method_2_code 4 B1_4_5 5 = true := by decide +kernel
theorem d1_5 : decode method_2_code 5 = .ok (.ireturn, 1) := by decide +kernel
set_option maxRecDepth 65536 in
set_option maxHeartbeats 40000000 in
theorem c_p10 (l : Launch) (Z : State) (a0 : Array Value) (hw : ∀ d ∈ tables_1, d.before a0 Z = true) (a : Int32) (h0 : Heap) (n0 : Nat) (Z0 : n0 ≤ h0.size)  :
    own_C l Z own_y1 method_2_code 1 (some .int) ({ frames := 0, cells := 0, slots := 0, locals := 0 } : Room) #[(.int a)] h0 n0 (fun v h => v = some (.int (own_p10 a)) ∧ h = h0) := by
  refine own_body pl1 Z0 (ls := #[.val (.int a)]) (fun m => by first | (simp [entryFrame, mkF, argsToLocals, Value.category]; done) | rfl) ?_
  intro p e s m below meth c T0 X0
  refine own_blk X0 B1_0_1 B1_0_1d (ls' := #[.val (.int a)]) (st' := [(.int a)]) rfl ?_
  refine own_if X0 d1_1 (pc' := 6) (by decide) (fun c1 => ?_) (fun c1 => ?_)
  · have c1 : ¬ a.toInt = 0 := c1
    refine own_blk X0 B1_6_8 B1_6_8d (ls' := #[.val (.int a)]) (st' := [(.int (1 : Int32)), (.int a)]) rfl ?_
    refine own_icmp X0 d1_8 (pc' := 14) (by decide) (fun c8 => ?_) (fun c8 => ?_)
    · have c8 : ¬ a.toInt = 1 := c8
      refine own_blk X0 B1_14_16 B1_14_16d (ls' := #[.val (.int a)]) (st' := [(.int (2 : Int32)), (.int a)]) rfl ?_
      refine own_icmp X0 d1_16 (pc' := 22) (by decide) (fun c16 => ?_) (fun c16 => ?_)
      · have c16 : ¬ a.toInt = 2 := c16
        refine own_blk X0 B1_22_24 B1_22_24d (ls' := #[.val (.int a)]) (st' := [(.int (3 : Int32)), (.int a)]) rfl ?_
        refine own_icmp X0 d1_24 (pc' := 31) (by decide) (fun c24 => ?_) (fun c24 => ?_)
        · have c24 : ¬ a.toInt = 3 := c24
          refine own_blk X0 B1_31_33 B1_31_33d (ls' := #[.val (.int a)]) (st' := [(.int (4 : Int32)), (.int a)]) rfl ?_
          refine own_icmp X0 d1_33 (pc' := 40) (by decide) (fun c33 => ?_) (fun c33 => ?_)
          · have c33 : ¬ a.toInt = 4 := c33
            refine own_blk X0 B1_40_42 B1_40_42d (ls' := #[.val (.int a)]) (st' := [(.int (5 : Int32)), (.int a)]) rfl ?_
            refine own_icmp X0 d1_42 (pc' := 48) (by decide) (fun c42 => ?_) (fun c42 => ?_)
            · have c42 : ¬ a.toInt = 5 := c42
              refine own_blk X0 B1_48_51 B1_48_51d (ls' := #[.val (.int a)]) (st' := [(.int (6 : Int32)), (.int a)]) rfl ?_
              refine own_icmp X0 d1_51 (pc' := 57) (by decide) (fun c51 => ?_) (fun c51 => ?_)
              · have c51 : ¬ a.toInt = 6 := c51
                refine own_blk X0 B1_57_60 B1_57_60d (ls' := #[.val (.int a)]) (st' := [(.int (7 : Int32)), (.int a)]) rfl ?_
                refine own_icmp X0 d1_60 (pc' := 66) (by decide) (fun c60 => ?_) (fun c60 => ?_)
                · have c60 : ¬ a.toInt = 7 := c60
                  refine own_blk X0 B1_66_69 B1_66_69d (ls' := #[.val (.int a)]) (st' := [(.int (8 : Int32)), (.int a)]) rfl ?_
                  refine own_icmp X0 d1_69 (pc' := 75) (by decide) (fun c69 => ?_) (fun c69 => ?_)
                  · have c69 : ¬ a.toInt = 8 := c69
                    refine own_blk X0 B1_75_78 B1_75_78d (ls' := #[.val (.int a)]) (st' := [(.int (9 : Int32)), (.int a)]) rfl ?_
                    refine own_icmp X0 d1_78 (pc' := 84) (by decide) (fun c78 => ?_) (fun c78 => ?_)
                    · have c78 : ¬ a.toInt = 9 := c78
                      refine own_blk X0 B1_84_85 B1_84_85d (ls' := #[.val (.int a)]) (st' := [(.int (1 : Int32))]) rfl ?_
                      exact own_retI X0 d1_85 (by decide) (by decide) (⟨by rw [own_p10, if_neg (by omega), if_neg (by omega), if_neg (by omega), if_neg (by omega), if_neg (by omega), if_neg (by omega), if_neg (by omega), if_neg (by omega), if_neg (by omega), if_neg (by omega)], rfl⟩)
                    · have c78 : ¬ (¬ a.toInt = 9) := c78
                      refine own_ldc X0 (hw _ (List.mem_of_getElem? (i := 17) rfl)) d1_81 ?_
                      exact own_retI X0 d1_83 (by decide) (by decide) (⟨by rw [own_p10, if_neg (by omega), if_neg (by omega), if_neg (by omega), if_neg (by omega), if_neg (by omega), if_neg (by omega), if_neg (by omega), if_neg (by omega), if_neg (by omega), if_pos (by omega)], rfl⟩)
                  · have c69 : ¬ (¬ a.toInt = 8) := c69
                    refine own_ldc X0 (hw _ (List.mem_of_getElem? (i := 18) rfl)) d1_72 ?_
                    exact own_retI X0 d1_74 (by decide) (by decide) (⟨by rw [own_p10, if_neg (by omega), if_neg (by omega), if_neg (by omega), if_neg (by omega), if_neg (by omega), if_neg (by omega), if_neg (by omega), if_neg (by omega), if_pos (by omega)], rfl⟩)
                · have c60 : ¬ (¬ a.toInt = 7) := c60
                  refine own_ldc X0 (hw _ (List.mem_of_getElem? (i := 14) rfl)) d1_63 ?_
                  exact own_retI X0 d1_65 (by decide) (by decide) (⟨by rw [own_p10, if_neg (by omega), if_neg (by omega), if_neg (by omega), if_neg (by omega), if_neg (by omega), if_neg (by omega), if_neg (by omega), if_pos (by omega)], rfl⟩)
              · have c51 : ¬ (¬ a.toInt = 6) := c51
                refine own_ldc X0 (hw _ (List.mem_of_getElem? (i := 15) rfl)) d1_54 ?_
                exact own_retI X0 d1_56 (by decide) (by decide) (⟨by rw [own_p10, if_neg (by omega), if_neg (by omega), if_neg (by omega), if_neg (by omega), if_neg (by omega), if_neg (by omega), if_pos (by omega)], rfl⟩)
            · have c42 : ¬ (¬ a.toInt = 5) := c42
              refine own_ldc X0 (hw _ (List.mem_of_getElem? (i := 16) rfl)) d1_45 ?_
              exact own_retI X0 d1_47 (by decide) (by decide) (⟨by rw [own_p10, if_neg (by omega), if_neg (by omega), if_neg (by omega), if_neg (by omega), if_neg (by omega), if_pos (by omega)], rfl⟩)
          · have c33 : ¬ (¬ a.toInt = 4) := c33
            refine own_blk X0 B1_36_39 B1_36_39d (ls' := #[.val (.int a)]) (st' := [(.int (10000 : Int32))]) rfl ?_
            exact own_retI X0 d1_39 (by decide) (by decide) (⟨by rw [own_p10, if_neg (by omega), if_neg (by omega), if_neg (by omega), if_neg (by omega), if_pos (by omega)], rfl⟩)
        · have c24 : ¬ (¬ a.toInt = 3) := c24
          refine own_blk X0 B1_27_30 B1_27_30d (ls' := #[.val (.int a)]) (st' := [(.int (1000 : Int32))]) rfl ?_
          exact own_retI X0 d1_30 (by decide) (by decide) (⟨by rw [own_p10, if_neg (by omega), if_neg (by omega), if_neg (by omega), if_pos (by omega)], rfl⟩)
      · have c16 : ¬ (¬ a.toInt = 2) := c16
        refine own_blk X0 B1_19_21 B1_19_21d (ls' := #[.val (.int a)]) (st' := [(.int (100 : Int32))]) rfl ?_
        exact own_retI X0 d1_21 (by decide) (by decide) (⟨by rw [own_p10, if_neg (by omega), if_neg (by omega), if_pos (by omega)], rfl⟩)
    · have c8 : ¬ (¬ a.toInt = 1) := c8
      refine own_blk X0 B1_11_13 B1_11_13d (ls' := #[.val (.int a)]) (st' := [(.int (10 : Int32))]) rfl ?_
      exact own_retI X0 d1_13 (by decide) (by decide) (⟨by rw [own_p10, if_neg (by omega), if_pos (by omega)], rfl⟩)
  · have c1 : ¬ (¬ a.toInt = 0) := c1
    refine own_blk X0 B1_4_5 B1_4_5d (ls' := #[.val (.int a)]) (st' := [(.int (1 : Int32))]) rfl ?_
    exact own_retI X0 d1_5 (by decide) (by decide) (⟨by rw [own_p10, if_pos (by omega)], rfl⟩)
abbrev own_y2 : MethodName := ⟨"com/example/vedette/vedette/model/Iso2709NumberPinLaw", "digit", "(III)B"⟩
theorem pl2 : plainFor own_y2 = true := plainFor_of_name (by first | (simp [plainName, overriddenIn]; done) | decide +kernel)
def B2_0_8 : List (Instr × Nat) := [(.bipush 48, 2), (.iload_n 0, 1), (.iload_n 1, 1), (.iconst 1, 1), (.isub, 1), (.iload_n 2, 1), (.isub, 1)]
theorem B2_0_8d : own_d method_3_code 0 B2_0_8 8 = true := by decide +kernel
theorem d2_8 : decode method_3_code 8 = .ok (.invokestatic 12, 3) := by decide +kernel
theorem pd1 : parseMethodDescriptor "(I)I" = some ⟨[.int], some .int⟩ := by decide +kernel
theorem d2_11 : decode method_3_code 11 = .ok (.idiv, 1) := by decide +kernel
def B2_12_14 : List (Instr × Nat) := [(.bipush 10, 2)]
theorem B2_12_14d : own_d method_3_code 12 B2_12_14 14 = true := by decide +kernel
theorem d2_14 : decode method_3_code 14 = .ok (.irem, 1) := by decide +kernel
def B2_15_17 : List (Instr × Nat) := [(.iadd, 1), (.i2b, 1)]
theorem B2_15_17d : own_d method_3_code 15 B2_15_17 17 = true := by decide +kernel
theorem d2_17 : decode method_3_code 17 = .ok (.ireturn, 1) := by decide +kernel
set_option maxRecDepth 65536 in
set_option maxHeartbeats 40000000 in
theorem c_dig (l : Launch) (Z : State) (a0 : Array Value) (hw : ∀ d ∈ tables_1, d.before a0 Z = true) (a : Int32) (d : Int32) (i : Int32) (h0 : Heap) (n0 : Nat) (Z0 : n0 ≤ h0.size)  :
    own_C l Z own_y2 method_3_code 3 (some .byte) ({ frames := 1, cells := 0, slots := 0, locals := 16 } : Room) #[(.int a), (.int d), (.int i)] h0 n0 (fun v h => v = some (.int (own_dg a d i)) ∧ h = h0) := by
  refine own_body pl2 Z0 (ls := #[.val (.int a), .val (.int d), .val (.int i)]) (fun m => by first | (simp [entryFrame, mkF, argsToLocals, Value.category]; done) | rfl) ?_
  intro p e s m below meth c T0 X0
  refine own_blk X0 B2_0_8 B2_0_8d (ls' := #[.val (.int a), .val (.int d), .val (.int i)]) (st' := [(.int ((d - (1 : Int32)) - i)), (.int a), (.int (48 : Int32))]) rfl ?_
  refine own_callP X0 (hw _ (List.mem_of_getElem? (i := 2) rfl)) (hw _ (List.mem_of_getElem? (i := 3) rfl)) (hw _ (List.mem_of_getElem? (i := 4) rfl)) (hw _ (List.mem_of_getElem? (i := 5) rfl)) (by decide) (c_p10 l Z a0 hw ((d - (1 : Int32)) - i) h0 n0 X0.2.1) d2_8 [(.int ((d - (1 : Int32)) - i))] [(.int a), (.int (48 : Int32))] rfl rfl pd1 rfl rfl (by decide) (Nat.le_of_ble_eq_true rfl) (by decide) (by decide) (fun T1 X1 => ?_)
  show own_G p e below (T1.setTop (mkF m 11 #[.val (.int a), .val (.int d), .val (.int i)] [(.int (own_p10 ((d - (1 : Int32)) - i))), (.int a), (.int (48 : Int32))])) _
  refine own_idiv X1 d2_11 (own_p10_ne _) ?_
  refine own_blk X1 B2_12_14 B2_12_14d (ls' := #[.val (.int a), .val (.int d), .val (.int i)]) (st' := [(.int (10 : Int32)), (.int (a / (own_p10 ((d - (1 : Int32)) - i)))), (.int (48 : Int32))]) rfl ?_
  refine own_iremS X1 d2_14 (by decide) ?_
  refine own_blk X1 B2_15_17 B2_15_17d (ls' := #[.val (.int a), .val (.int d), .val (.int i)]) (st' := [(.int (own_i2b ((48 : Int32) + (own_irem (a / (own_p10 ((d - (1 : Int32)) - i))) (10 : Int32)))))]) rfl ?_
  exact own_retN X1 (by simp) d2_17 (v' := (own_i2b ((48 : Int32) + (own_irem (a / (own_p10 ((d - (1 : Int32)) - i))) (10 : Int32))))) (own_i2b_fix _) (by decide) (by decide) (⟨rfl, rfl⟩)
abbrev own_y3 : MethodName := ⟨"com/example/vedette/vedette/model/Iso2709", "number", "([BII)I"⟩
theorem pl3 : plainFor own_y3 = true := plainFor_of_name (by first | (simp [plainName, overriddenIn]; done) | decide +kernel)
theorem own_pw {k : Nat} (h : k ≤ 8) : (10 : Int) ^ k ≤ 100000000 := by
  have hc : k = 0 ∨ k = 1 ∨ k = 2 ∨ k = 3 ∨ k = 4 ∨ k = 5 ∨ k = 6 ∨ k = 7 ∨ k = 8 := by omega
  rcases hc with rfl | rfl | rfl | rfl | rfl | rfl | rfl | rfl | rfl <;> decide
def B3_0_5 : List (Instr × Nat) := [(.iconst 0, 1), (.istore_n 3, 1), (.iload_n 1, 1), (.istore 4, 2)]
theorem B3_0_5d : own_d prog_73_method_3_code 0 B3_0_5 5 = true := by decide +kernel
def B3_5_10 : List (Instr × Nat) := [(.iload 4, 2), (.iload_n 1, 1), (.iload_n 2, 1), (.iadd, 1)]
theorem B3_5_10d : own_d prog_73_method_3_code 5 B3_5_10 10 = true := by decide +kernel
theorem d3_10 : decode prog_73_method_3_code 10 = .ok (.if_icmp .ge 42, 3) := by decide +kernel
def B3_52_53 : List (Instr × Nat) := [(.iload_n 3, 1)]
theorem B3_52_53d : own_d prog_73_method_3_code 52 B3_52_53 53 = true := by decide +kernel
theorem d3_53 : decode prog_73_method_3_code 53 = .ok (.ireturn, 1) := by decide +kernel
def B3_13_16 : List (Instr × Nat) := [(.aload_n 0, 1), (.iload 4, 2)]
theorem B3_13_16d : own_d prog_73_method_3_code 13 B3_13_16 16 = true := by decide +kernel
theorem d3_16 : decode prog_73_method_3_code 16 = .ok (.baload, 1) := by decide +kernel
def B3_17_19 : List (Instr × Nat) := [(.bipush 48, 2)]
theorem B3_17_19d : own_d prog_73_method_3_code 17 B3_17_19 19 = true := by decide +kernel
theorem d3_19 : decode prog_73_method_3_code 19 = .ok (.if_icmp .lt 12, 3) := by decide +kernel
def B3_31_32 : List (Instr × Nat) := [(.iconst (-1), 1)]
theorem B3_31_32d : own_d prog_73_method_3_code 31 B3_31_32 32 = true := by decide +kernel
theorem d3_32 : decode prog_73_method_3_code 32 = .ok (.ireturn, 1) := by decide +kernel
def B3_22_25 : List (Instr × Nat) := [(.aload_n 0, 1), (.iload 4, 2)]
theorem B3_22_25d : own_d prog_73_method_3_code 22 B3_22_25 25 = true := by decide +kernel
theorem d3_25 : decode prog_73_method_3_code 25 = .ok (.baload, 1) := by decide +kernel
def B3_26_28 : List (Instr × Nat) := [(.bipush 57, 2)]
theorem B3_26_28d : own_d prog_73_method_3_code 26 B3_26_28 28 = true := by decide +kernel
theorem d3_28 : decode prog_73_method_3_code 28 = .ok (.if_icmp .le 5, 3) := by decide +kernel
def B3_33_40 : List (Instr × Nat) := [(.iload_n 3, 1), (.bipush 10, 2), (.imul, 1), (.aload_n 0, 1), (.iload 4, 2)]
theorem B3_33_40d : own_d prog_73_method_3_code 33 B3_33_40 40 = true := by decide +kernel
theorem d3_40 : decode prog_73_method_3_code 40 = .ok (.baload, 1) := by decide +kernel
def B3_41_46 : List (Instr × Nat) := [(.iadd, 1), (.bipush 48, 2), (.isub, 1), (.istore_n 3, 1)]
theorem B3_41_46d : own_d prog_73_method_3_code 41 B3_41_46 46 = true := by decide +kernel
def B3_46_49 : List (Instr × Nat) := [(.iinc 4 1, 3)]
theorem B3_46_49d : own_d prog_73_method_3_code 46 B3_46_49 49 = true := by decide +kernel
theorem d3_49 : decode prog_73_method_3_code 49 = .ok (.goto (-44), 3) := by decide +kernel
set_option maxRecDepth 65536 in
set_option maxHeartbeats 40000000 in
theorem c_num (l : Launch) (Z : State) (a0 : Array Value) (hw : ∀ d ∈ tables_1, d.before a0 Z = true) (b : Addr) (q dg : Int32) (g : Int → Int32) (h0 : Heap) (n0 : Nat) (Z0 : n0 ≤ h0.size) (A : own_I Z h0 b .byte 12 g) (hq : 0 ≤ q.toInt ∧ q.toInt ≤ 2) (hd : 0 ≤ dg.toInt ∧ dg.toInt ≤ 9) :
    own_C l Z own_y3 prog_73_method_3_code 5 (some .int) ({ frames := 0, cells := 0, slots := 0, locals := 0 } : Room) #[(.ref b), (.int q), (.int dg)] h0 n0 (fun v h => ∃ z : Int32, v = some (.int z) ∧ h = h0 ∧ ((own_okd g q.toInt dg.toInt.toNat ∧ z.toInt = own_vl g q.toInt dg.toInt.toNat) ∨ (¬ own_okd g q.toInt dg.toInt.toNat ∧ z.toInt = -1))) := by
  refine own_body pl3 Z0 (ls := #[.val (.ref b), .val (.int q), .val (.int dg), .unset, .unset]) (fun m => by first | (simp [entryFrame, mkF, argsToLocals, Value.category]; done) | rfl) ?_
  intro p e s m below meth c T0 X0
  refine own_blk X0 B3_0_5 B3_0_5d (ls' := #[.val (.ref b), .val (.int q), .val (.int dg), .val (.int (0 : Int32)), .val (.int q)]) (st' := []) rfl ?_
  have hqd : (q + dg).toInt = q.toInt + dg.toInt := Jvm.Kit.i32_add (by omega) (by omega)
  obtain ⟨n, hn⟩ : ∃ n : Nat, n = dg.toInt.toNat := ⟨_, rfl⟩
  have L : ∀ (k : Nat) (i acc : Int32), k ≤ n → i.toInt = q.toInt + ((n - k : Nat) : Int) → own_okd g q.toInt (n - k) → acc.toInt = own_vl g q.toInt (n - k) → own_G p e below (T0.setTop (mkF m 5 #[.val (.ref b), .val (.int q), .val (.int dg), .val (.int acc), .val (.int i)] [])) (own_E s n0 (fun v h => ∃ z : Int32, v = some (.int z) ∧ h = h0 ∧ ((own_okd g q.toInt dg.toInt.toNat ∧ z.toInt = own_vl g q.toInt dg.toInt.toNat) ∨ (¬ own_okd g q.toInt dg.toInt.toNat ∧ z.toInt = -1))) ({ frames := 0, cells := 0, slots := 0, locals := 0 } : Room).cells ({ frames := 0, cells := 0, slots := 0, locals := 0 } : Room).slots) := by
    intro k
    induction k with
    | zero =>
      intro i acc hk hi hok ha
      refine own_blk X0 B3_5_10 B3_5_10d (ls' := #[.val (.ref b), .val (.int q), .val (.int dg), .val (.int acc), .val (.int i)]) (st' := [(.int (q + dg)), (.int i)]) rfl ?_
      refine own_icmp X0 d3_10 (pc' := 52) (by decide) (fun c10 => ?_) (fun (c10 : ¬ ((q + dg).toInt ≤ i.toInt)) => by exfalso; omega)
      have c10 : (q + dg).toInt ≤ i.toInt := c10
      refine own_blk X0 B3_52_53 B3_52_53d (ls' := #[.val (.ref b), .val (.int q), .val (.int dg), .val (.int acc), .val (.int i)]) (st' := [(.int acc)]) rfl ?_
      exact own_retI X0 d3_53 (by decide) (by decide) (⟨_, rfl, rfl, Or.inl (by rw [← hn]; exact ⟨hok, ha⟩)⟩)
    | succ k ih =>
      intro i acc hk hi hok ha
      have hi' : q.toInt + ((n - (k + 1) : Nat) : Int) = i.toInt := by omega
      have en : n - k = (n - (k + 1)) + 1 := by omega
      have hb := own_vl_b _ hok
      have hp : (10 : Int) ^ (n - (k + 1)) ≤ 100000000 := own_pw (by omega)
      refine own_blk X0 B3_5_10 B3_5_10d (ls' := #[.val (.ref b), .val (.int q), .val (.int dg), .val (.int acc), .val (.int i)]) (st' := [(.int (q + dg)), (.int i)]) rfl ?_
      refine own_icmp X0 d3_10 (pc' := 52) (by decide) (fun (c10 : (q + dg).toInt ≤ i.toInt) => by exfalso; omega) (fun c10 => ?_)
      have c10 : ¬ ((q + dg).toInt ≤ i.toInt) := c10
      refine own_blk X0 B3_13_16 B3_13_16d (ls' := #[.val (.ref b), .val (.int q), .val (.int dg), .val (.int acc), .val (.int i)]) (st' := [(.int i), (.ref b)]) rfl ?_
      refine own_bald X0 A d3_16 (by omega) (by omega) ?_
      show own_G p e below (T0.setTop (mkF m 17 #[.val (.ref b), .val (.int q), .val (.int dg), .val (.int acc), .val (.int i)] [(.int (g i.toInt))])) _
      refine own_blk X0 B3_17_19 B3_17_19d (ls' := #[.val (.ref b), .val (.int q), .val (.int dg), .val (.int acc), .val (.int i)]) (st' := [(.int (48 : Int32)), (.int (g i.toInt))]) rfl ?_
      refine own_icmp X0 d3_19 (pc' := 31) (by decide) (fun c19 => ?_) (fun c19 => ?_)
      · have c19 : (g i.toInt).toInt < 48 := c19
        refine own_blk X0 B3_31_32 B3_31_32d (ls' := #[.val (.ref b), .val (.int q), .val (.int dg), .val (.int acc), .val (.int i)]) (st' := [(.int (-1 : Int32))]) rfl ?_
        exact own_retI X0 d3_32 (by decide) (by decide) (⟨_, rfl, rfl, Or.inr (by rw [← hn]; exact ⟨fun q1 => by have q2 := q1 (n - (k + 1)) (by omega); rw [hi'] at q2; omega, rfl⟩)⟩)
      · have c19 : ¬ ((g i.toInt).toInt < 48) := c19
        refine own_blk X0 B3_22_25 B3_22_25d (ls' := #[.val (.ref b), .val (.int q), .val (.int dg), .val (.int acc), .val (.int i)]) (st' := [(.int i), (.ref b)]) rfl ?_
        refine own_bald X0 A d3_25 (by omega) (by omega) ?_
        show own_G p e below (T0.setTop (mkF m 26 #[.val (.ref b), .val (.int q), .val (.int dg), .val (.int acc), .val (.int i)] [(.int (g i.toInt))])) _
        refine own_blk X0 B3_26_28 B3_26_28d (ls' := #[.val (.ref b), .val (.int q), .val (.int dg), .val (.int acc), .val (.int i)]) (st' := [(.int (57 : Int32)), (.int (g i.toInt))]) rfl ?_
        refine own_icmp X0 d3_28 (pc' := 33) (by decide) (fun c28 => ?_) (fun c28 => ?_)
        · have c28 : (g i.toInt).toInt ≤ 57 := c28
          refine own_blk X0 B3_33_40 B3_33_40d (ls' := #[.val (.ref b), .val (.int q), .val (.int dg), .val (.int acc), .val (.int i)]) (st' := [(.int i), (.ref b), (.int (acc * (10 : Int32)))]) rfl ?_
          refine own_bald X0 A d3_40 (by omega) (by omega) ?_
          show own_G p e below (T0.setTop (mkF m 41 #[.val (.ref b), .val (.int q), .val (.int dg), .val (.int acc), .val (.int i)] [(.int (g i.toInt)), (.int (acc * (10 : Int32)))])) _
          refine own_blk X0 B3_41_46 B3_41_46d (ls' := #[.val (.ref b), .val (.int q), .val (.int dg), .val (.int (((acc * (10 : Int32)) + (g i.toInt)) - (48 : Int32))), .val (.int i)]) (st' := []) rfl ?_
          have ha1 : (acc * (10 : Int32)).toInt = acc.toInt * 10 := own_mulc rfl (by omega) (by omega)
          have ha3 : ((acc * (10 : Int32)) + (g i.toInt)).toInt = acc.toInt * 10 + (g i.toInt).toInt := by rw [Jvm.Kit.i32_add (by omega) (by omega), ha1]
          have ha2 : (((acc * (10 : Int32)) + (g i.toInt)) - (48 : Int32)).toInt = acc.toInt * 10 + (g i.toInt).toInt - 48 := by rw [own_subc (d := 48) rfl (by omega) (by omega), ha3]
          refine own_blk X0 B3_46_49 B3_46_49d (ls' := #[.val (.ref b), .val (.int q), .val (.int dg), .val (.int (((acc * (10 : Int32)) + (g i.toInt)) - (48 : Int32))), .val (.int (i + (1 : Int32)))]) (st' := []) rfl ?_
          refine own_goto X0 d3_49 (pc' := 5) (by decide) ?_
          exact ih _ _ (by omega) (by rw [own_addc (d := 1) rfl (by omega) (by omega)]; omega) (by rw [en]; exact own_okd_s hok (by rw [hi']; omega)) (by rw [en, own_vl, hi', ha2]; omega)
        · have c28 : ¬ ((g i.toInt).toInt ≤ 57) := c28
          refine own_blk X0 B3_31_32 B3_31_32d (ls' := #[.val (.ref b), .val (.int q), .val (.int dg), .val (.int acc), .val (.int i)]) (st' := [(.int (-1 : Int32))]) rfl ?_
          exact own_retI X0 d3_32 (by decide) (by decide) (⟨_, rfl, rfl, Or.inr (by rw [← hn]; exact ⟨fun q1 => by have q2 := q1 (n - (k + 1)) (by omega); rw [hi'] at q2; omega, rfl⟩)⟩)
  exact L n _ _ (Nat.le_refl _) (by rw [Nat.sub_self]; show _ = _ + (0 : Int); omega) (by rw [Nat.sub_self]; intro j hj; omega) (by rw [Nat.sub_self]; rfl)
theorem pl0 : plainFor x = true := plainFor_of_name (by first | (simp [plainName, overriddenIn]; done) | decide +kernel)
def B0_0_1 : List (Instr × Nat) := [(.iload_n 1, 1)]
theorem B0_0_1d : own_d code 0 B0_0_1 1 = true := by decide +kernel
theorem d0_1 : decode code 1 = .ok (.ldc 18, 2) := by decide +kernel
def B0_3_5 : List (Instr × Nat) := [(.iand, 1), (.iconst 3, 1)]
theorem B0_3_5d : own_d code 3 B0_3_5 5 = true := by decide +kernel
theorem d0_5 : decode code 5 = .ok (.irem, 1) := by decide +kernel
def B0_6_9 : List (Instr × Nat) := [(.istore 7, 2), (.iload_n 2, 1)]
theorem B0_6_9d : own_d code 6 B0_6_9 9 = true := by decide +kernel
theorem d0_9 : decode code 9 = .ok (.ldc 18, 2) := by decide +kernel
def B0_11_14 : List (Instr × Nat) := [(.iand, 1), (.bipush 10, 2)]
theorem B0_11_14d : own_d code 11 B0_11_14 14 = true := by decide +kernel
theorem d0_14 : decode code 14 = .ok (.irem, 1) := by decide +kernel
def B0_15_17 : List (Instr × Nat) := [(.istore 8, 2)]
theorem B0_15_17d : own_d code 15 B0_15_17 17 = true := by decide +kernel
def B0_17_19 : List (Instr × Nat) := [(.bipush 12, 2)]
theorem B0_17_19d : own_d code 17 B0_17_19 19 = true := by decide +kernel
theorem d0_19 : decode code 19 = .ok (.newarray .byte, 2) := by decide +kernel
def B0_21_30 : List (Instr × Nat) := [(.astore 9, 2), (.aload 9, 2), (.iconst 0, 1), (.lload 5, 2), (.l2i, 1), (.i2b, 1)]
theorem B0_21_30d : own_d code 21 B0_21_30 30 = true := by decide +kernel
theorem d0_30 : decode code 30 = .ok (.bastore, 1) := by decide +kernel
def B0_31_41 : List (Instr × Nat) := [(.aload 9, 2), (.iconst 1, 1), (.lload 5, 2), (.bipush 8, 2), (.lushr, 1), (.l2i, 1), (.i2b, 1)]
theorem B0_31_41d : own_d code 31 B0_31_41 41 = true := by decide +kernel
theorem d0_41 : decode code 41 = .ok (.bastore, 1) := by decide +kernel
def B0_42_52 : List (Instr × Nat) := [(.aload 9, 2), (.iconst 2, 1), (.lload 5, 2), (.bipush 16, 2), (.lushr, 1), (.l2i, 1), (.i2b, 1)]
theorem B0_42_52d : own_d code 42 B0_42_52 52 = true := by decide +kernel
theorem d0_52 : decode code 52 = .ok (.bastore, 1) := by decide +kernel
def B0_53_63 : List (Instr × Nat) := [(.aload 9, 2), (.iconst 3, 1), (.lload 5, 2), (.bipush 24, 2), (.lushr, 1), (.l2i, 1), (.i2b, 1)]
theorem B0_53_63d : own_d code 53 B0_53_63 63 = true := by decide +kernel
theorem d0_63 : decode code 63 = .ok (.bastore, 1) := by decide +kernel
def B0_64_74 : List (Instr × Nat) := [(.aload 9, 2), (.iconst 4, 1), (.lload 5, 2), (.bipush 32, 2), (.lushr, 1), (.l2i, 1), (.i2b, 1)]
theorem B0_64_74d : own_d code 64 B0_64_74 74 = true := by decide +kernel
theorem d0_74 : decode code 74 = .ok (.bastore, 1) := by decide +kernel
def B0_75_85 : List (Instr × Nat) := [(.aload 9, 2), (.iconst 5, 1), (.lload 5, 2), (.bipush 40, 2), (.lushr, 1), (.l2i, 1), (.i2b, 1)]
theorem B0_75_85d : own_d code 75 B0_75_85 85 = true := by decide +kernel
theorem d0_85 : decode code 85 = .ok (.bastore, 1) := by decide +kernel
def B0_86_97 : List (Instr × Nat) := [(.aload 9, 2), (.bipush 6, 2), (.lload 5, 2), (.bipush 48, 2), (.lushr, 1), (.l2i, 1), (.i2b, 1)]
theorem B0_86_97d : own_d code 86 B0_86_97 97 = true := by decide +kernel
theorem d0_97 : decode code 97 = .ok (.bastore, 1) := by decide +kernel
def B0_98_109 : List (Instr × Nat) := [(.aload 9, 2), (.bipush 7, 2), (.lload 5, 2), (.bipush 56, 2), (.lushr, 1), (.l2i, 1), (.i2b, 1)]
theorem B0_98_109d : own_d code 98 B0_98_109 109 = true := by decide +kernel
theorem d0_109 : decode code 109 = .ok (.bastore, 1) := by decide +kernel
def B0_110_120 : List (Instr × Nat) := [(.aload 9, 2), (.bipush 8, 2), (.lload 5, 2), (.iconst 4, 1), (.lushr, 1), (.l2i, 1), (.i2b, 1)]
theorem B0_110_120d : own_d code 110 B0_110_120 120 = true := by decide +kernel
theorem d0_120 : decode code 120 = .ok (.bastore, 1) := by decide +kernel
def B0_121_132 : List (Instr × Nat) := [(.aload 9, 2), (.bipush 9, 2), (.lload 5, 2), (.bipush 12, 2), (.lushr, 1), (.l2i, 1), (.i2b, 1)]
theorem B0_121_132d : own_d code 121 B0_121_132 132 = true := by decide +kernel
theorem d0_132 : decode code 132 = .ok (.bastore, 1) := by decide +kernel
def B0_133_144 : List (Instr × Nat) := [(.aload 9, 2), (.bipush 10, 2), (.lload 5, 2), (.bipush 20, 2), (.lushr, 1), (.l2i, 1), (.i2b, 1)]
theorem B0_133_144d : own_d code 133 B0_133_144 144 = true := by decide +kernel
theorem d0_144 : decode code 144 = .ok (.bastore, 1) := by decide +kernel
def B0_145_156 : List (Instr × Nat) := [(.aload 9, 2), (.bipush 11, 2), (.lload 5, 2), (.bipush 28, 2), (.lushr, 1), (.l2i, 1), (.i2b, 1)]
theorem B0_145_156d : own_d code 145 B0_145_156 156 = true := by decide +kernel
theorem d0_156 : decode code 156 = .ok (.bastore, 1) := by decide +kernel
def B0_157_158 : List (Instr × Nat) := [(.iload_n 0, 1)]
theorem B0_157_158d : own_d code 157 B0_157_158 158 = true := by decide +kernel
theorem d0_158 : decode code 158 = .ok (.ldc 18, 2) := by decide +kernel
def B0_160_163 : List (Instr × Nat) := [(.iand, 1), (.iload 8, 2)]
theorem B0_160_163d : own_d code 160 B0_160_163 163 = true := by decide +kernel
theorem d0_163 : decode code 163 = .ok (.invokestatic 12, 3) := by decide +kernel
theorem d0_166 : decode code 166 = .ok (.irem, 1) := by decide +kernel
def B0_167_169 : List (Instr × Nat) := [(.istore 10, 2)]
theorem B0_167_169d : own_d code 167 B0_167_169 169 = true := by decide +kernel
def B0_364_367 : List (Instr × Nat) := [(.iload_n 3, 1), (.iconst 1, 1), (.iand, 1)]
theorem B0_364_367d : own_d code 364 B0_364_367 367 = true := by decide +kernel
theorem d0_367 : decode code 367 = .ok (.ifCond .eq 12, 3) := by decide +kernel
def B0_379_384 : List (Instr × Nat) := [(.iconst 0, 1), (.istore 11, 2), (.iload 11, 2)]
theorem B0_379_384d : own_d code 379 B0_379_384 384 = true := by decide +kernel
theorem d0_384 : decode code 384 = .ok (.ifCond .eq 51, 3) := by decide +kernel
def B0_435_437 : List (Instr × Nat) := [(.iload 11, 2)]
theorem B0_435_437d : own_d code 435 B0_435_437 437 = true := by decide +kernel
theorem d0_437 : decode code 437 = .ok (.ifCond .eq 7, 3) := by decide +kernel
def B0_444_454 : List (Instr × Nat) := [(.iload 10, 2), (.istore 12, 2), (.aload 9, 2), (.iload 7, 2), (.iload 8, 2)]
theorem B0_444_454d : own_d code 444 B0_444_454 454 = true := by decide +kernel
theorem d0_454 : decode code 454 = .ok (.invokestatic 24, 3) := by decide +kernel
theorem pd3 : parseMethodDescriptor "([BII)I" = some ⟨[(.array .byte), .int, .int], some .int⟩ := by decide +kernel
def B0_457_459 : List (Instr × Nat) := [(.iload 12, 2)]
theorem B0_457_459d : own_d code 457 B0_457_459 459 = true := by decide +kernel
theorem d0_459 : decode code 459 = .ok (.if_icmp .ne 7, 3) := by decide +kernel
def B0_462_463 : List (Instr × Nat) := [(.iconst 1, 1)]
theorem B0_462_463d : own_d code 462 B0_462_463 463 = true := by decide +kernel
theorem d0_463 : decode code 463 = .ok (.goto 4, 3) := by decide +kernel
theorem d0_467 : decode code 467 = .ok (.ireturn, 1) := by decide +kernel
def B0_370_372 : List (Instr × Nat) := [(.iload 8, 2)]
theorem B0_370_372d : own_d code 370 B0_370_372 372 = true := by decide +kernel
theorem d0_372 : decode code 372 = .ok (.ifCond .le 7, 3) := by decide +kernel
def B0_375_376 : List (Instr × Nat) := [(.iconst 1, 1)]
theorem B0_375_376d : own_d code 375 B0_375_376 376 = true := by decide +kernel
theorem d0_376 : decode code 376 = .ok (.goto 4, 3) := by decide +kernel
def B0_380_384 : List (Instr × Nat) := [(.istore 11, 2), (.iload 11, 2)]
theorem B0_380_384d : own_d code 380 B0_380_384 384 = true := by decide +kernel
def B0_387_390 : List (Instr × Nat) := [(.iload_n 3, 1), (.iconst 1, 1), (.iushr, 1)]
theorem B0_387_390d : own_d code 387 B0_387_390 390 = true := by decide +kernel
theorem d0_390 : decode code 390 = .ok (.ldc 23, 2) := by decide +kernel
def B0_392_395 : List (Instr × Nat) := [(.iand, 1), (.iload 8, 2)]
theorem B0_392_395d : own_d code 392 B0_392_395 395 = true := by decide +kernel
theorem d0_395 : decode code 395 = .ok (.irem, 1) := by decide +kernel
def B0_396_398 : List (Instr × Nat) := [(.istore 12, 2)]
theorem B0_396_398d : own_d code 396 B0_396_398 398 = true := by decide +kernel
def B0_398_403 : List (Instr × Nat) := [(.iload 4, 2), (.i2b, 1), (.istore 13, 2)]
theorem B0_398_403d : own_d code 398 B0_398_403 403 = true := by decide +kernel
def B0_403_407 : List (Instr × Nat) := [(.iload 13, 2), (.bipush 48, 2)]
theorem B0_403_407d : own_d code 403 B0_403_407 407 = true := by decide +kernel
theorem d0_407 : decode code 407 = .ok (.if_icmp .lt 18, 3) := by decide +kernel
def B0_425_434 : List (Instr × Nat) := [(.aload 9, 2), (.iload 7, 2), (.iload 12, 2), (.iadd, 1), (.iload 13, 2)]
theorem B0_425_434d : own_d code 425 B0_425_434 434 = true := by decide +kernel
theorem d0_434 : decode code 434 = .ok (.bastore, 1) := by decide +kernel
def B0_440_441 : List (Instr × Nat) := [(.iconst (-1), 1)]
theorem B0_440_441d : own_d code 440 B0_440_441 441 = true := by decide +kernel
theorem d0_441 : decode code 441 = .ok (.goto 5, 3) := by decide +kernel
def B0_446_454 : List (Instr × Nat) := [(.istore 12, 2), (.aload 9, 2), (.iload 7, 2), (.iload 8, 2)]
theorem B0_446_454d : own_d code 446 B0_446_454 454 = true := by decide +kernel
def B0_410_414 : List (Instr × Nat) := [(.iload 13, 2), (.bipush 57, 2)]
theorem B0_410_414d : own_d code 410 B0_410_414 414 = true := by decide +kernel
theorem d0_414 : decode code 414 = .ok (.if_icmp .gt 11, 3) := by decide +kernel
def B0_417_434 : List (Instr × Nat) := [(.iload 13, 2), (.bipush 10, 2), (.isub, 1), (.i2b, 1), (.istore 13, 2), (.aload 9, 2), (.iload 7, 2), (.iload 12, 2), (.iadd, 1), (.iload 13, 2)]
theorem B0_417_434d : own_d code 417 B0_417_434 434 = true := by decide +kernel
def B0_340_344 : List (Instr × Nat) := [(.iload 8, 2), (.bipush 8, 2)]
theorem B0_340_344d : own_d code 340 B0_340_344 344 = true := by decide +kernel
theorem d0_344 : decode code 344 = .ok (.if_icmp .le 20, 3) := by decide +kernel
def B0_347_360 : List (Instr × Nat) := [(.aload 9, 2), (.iload 7, 2), (.bipush 8, 2), (.iadd, 1), (.iload 10, 2), (.iload 8, 2), (.bipush 8, 2)]
theorem B0_347_360d : own_d code 347 B0_347_360 360 = true := by decide +kernel
theorem d0_360 : decode code 360 = .ok (.invokestatic 19, 3) := by decide +kernel
theorem pd2 : parseMethodDescriptor "(III)B" = some ⟨[.int, .int, .int], some .byte⟩ := by decide +kernel
theorem d0_363 : decode code 363 = .ok (.bastore, 1) := by decide +kernel
def B0_316_320 : List (Instr × Nat) := [(.iload 8, 2), (.bipush 7, 2)]
theorem B0_316_320d : own_d code 316 B0_316_320 320 = true := by decide +kernel
theorem d0_320 : decode code 320 = .ok (.if_icmp .le 20, 3) := by decide +kernel
def B0_323_336 : List (Instr × Nat) := [(.aload 9, 2), (.iload 7, 2), (.bipush 7, 2), (.iadd, 1), (.iload 10, 2), (.iload 8, 2), (.bipush 7, 2)]
theorem B0_323_336d : own_d code 323 B0_323_336 336 = true := by decide +kernel
theorem d0_336 : decode code 336 = .ok (.invokestatic 19, 3) := by decide +kernel
theorem d0_339 : decode code 339 = .ok (.bastore, 1) := by decide +kernel
def B0_292_296 : List (Instr × Nat) := [(.iload 8, 2), (.bipush 6, 2)]
theorem B0_292_296d : own_d code 292 B0_292_296 296 = true := by decide +kernel
theorem d0_296 : decode code 296 = .ok (.if_icmp .le 20, 3) := by decide +kernel
def B0_299_312 : List (Instr × Nat) := [(.aload 9, 2), (.iload 7, 2), (.bipush 6, 2), (.iadd, 1), (.iload 10, 2), (.iload 8, 2), (.bipush 6, 2)]
theorem B0_299_312d : own_d code 299 B0_299_312 312 = true := by decide +kernel
theorem d0_312 : decode code 312 = .ok (.invokestatic 19, 3) := by decide +kernel
theorem d0_315 : decode code 315 = .ok (.bastore, 1) := by decide +kernel
def B0_271_274 : List (Instr × Nat) := [(.iload 8, 2), (.iconst 5, 1)]
theorem B0_271_274d : own_d code 271 B0_271_274 274 = true := by decide +kernel
theorem d0_274 : decode code 274 = .ok (.if_icmp .le 18, 3) := by decide +kernel
def B0_277_288 : List (Instr × Nat) := [(.aload 9, 2), (.iload 7, 2), (.iconst 5, 1), (.iadd, 1), (.iload 10, 2), (.iload 8, 2), (.iconst 5, 1)]
theorem B0_277_288d : own_d code 277 B0_277_288 288 = true := by decide +kernel
theorem d0_288 : decode code 288 = .ok (.invokestatic 19, 3) := by decide +kernel
theorem d0_291 : decode code 291 = .ok (.bastore, 1) := by decide +kernel
def B0_250_253 : List (Instr × Nat) := [(.iload 8, 2), (.iconst 4, 1)]
theorem B0_250_253d : own_d code 250 B0_250_253 253 = true := by decide +kernel
theorem d0_253 : decode code 253 = .ok (.if_icmp .le 18, 3) := by decide +kernel
def B0_256_267 : List (Instr × Nat) := [(.aload 9, 2), (.iload 7, 2), (.iconst 4, 1), (.iadd, 1), (.iload 10, 2), (.iload 8, 2), (.iconst 4, 1)]
theorem B0_256_267d : own_d code 256 B0_256_267 267 = true := by decide +kernel
theorem d0_267 : decode code 267 = .ok (.invokestatic 19, 3) := by decide +kernel
theorem d0_270 : decode code 270 = .ok (.bastore, 1) := by decide +kernel
def B0_229_232 : List (Instr × Nat) := [(.iload 8, 2), (.iconst 3, 1)]
theorem B0_229_232d : own_d code 229 B0_229_232 232 = true := by decide +kernel
theorem d0_232 : decode code 232 = .ok (.if_icmp .le 18, 3) := by decide +kernel
def B0_235_246 : List (Instr × Nat) := [(.aload 9, 2), (.iload 7, 2), (.iconst 3, 1), (.iadd, 1), (.iload 10, 2), (.iload 8, 2), (.iconst 3, 1)]
theorem B0_235_246d : own_d code 235 B0_235_246 246 = true := by decide +kernel
theorem d0_246 : decode code 246 = .ok (.invokestatic 19, 3) := by decide +kernel
theorem d0_249 : decode code 249 = .ok (.bastore, 1) := by decide +kernel
def B0_208_211 : List (Instr × Nat) := [(.iload 8, 2), (.iconst 2, 1)]
theorem B0_208_211d : own_d code 208 B0_208_211 211 = true := by decide +kernel
theorem d0_211 : decode code 211 = .ok (.if_icmp .le 18, 3) := by decide +kernel
def B0_214_225 : List (Instr × Nat) := [(.aload 9, 2), (.iload 7, 2), (.iconst 2, 1), (.iadd, 1), (.iload 10, 2), (.iload 8, 2), (.iconst 2, 1)]
theorem B0_214_225d : own_d code 214 B0_214_225 225 = true := by decide +kernel
theorem d0_225 : decode code 225 = .ok (.invokestatic 19, 3) := by decide +kernel
theorem d0_228 : decode code 228 = .ok (.bastore, 1) := by decide +kernel
def B0_187_190 : List (Instr × Nat) := [(.iload 8, 2), (.iconst 1, 1)]
theorem B0_187_190d : own_d code 187 B0_187_190 190 = true := by decide +kernel
theorem d0_190 : decode code 190 = .ok (.if_icmp .le 18, 3) := by decide +kernel
def B0_193_204 : List (Instr × Nat) := [(.aload 9, 2), (.iload 7, 2), (.iconst 1, 1), (.iadd, 1), (.iload 10, 2), (.iload 8, 2), (.iconst 1, 1)]
theorem B0_193_204d : own_d code 193 B0_193_204 204 = true := by decide +kernel
theorem d0_204 : decode code 204 = .ok (.invokestatic 19, 3) := by decide +kernel
theorem d0_207 : decode code 207 = .ok (.bastore, 1) := by decide +kernel
def B0_169_171 : List (Instr × Nat) := [(.iload 8, 2)]
theorem B0_169_171d : own_d code 169 B0_169_171 171 = true := by decide +kernel
theorem d0_171 : decode code 171 = .ok (.ifCond .le 16, 3) := by decide +kernel
def B0_174_183 : List (Instr × Nat) := [(.aload 9, 2), (.iload 7, 2), (.iload 10, 2), (.iload 8, 2), (.iconst 0, 1)]
theorem B0_174_183d : own_d code 174 B0_174_183 183 = true := by decide +kernel
theorem d0_183 : decode code 183 = .ok (.invokestatic 19, 3) := by decide +kernel
theorem d0_186 : decode code 186 = .ok (.bastore, 1) := by decide +kernel
set_option maxRecDepth 65536 in
set_option maxHeartbeats 40000000 in
theorem c_law (l : Launch) (Z : State) (a0 : Array Value) (hw : ∀ d ∈ tables_1, d.before a0 Z = true) (z0 : Int32) (z1 : Int32) (z2 : Int32) (z3 : Int32) (z4 : Int32) (ns : Int64) (h0 : Heap) (n0 : Nat) (Z0 : n0 ≤ h0.size)  :
    own_C l Z x code maxLocals ret room_1 #[(.int z0), (.int z1), (.int z2), (.int z3), (.int z4), (.long ns)] h0 n0 (fun v h => v = some (.int 1)) := by
  refine own_body pl0 Z0 (ls := #[.val (.int z0), .val (.int z1), .val (.int z2), .val (.int z3), .val (.int z4), .val (.long ns), .second, .unset, .unset, .unset, .unset, .unset, .unset, .unset]) (fun m => by first | (simp [entryFrame, mkF, argsToLocals, Value.category, maxLocals]; done) | rfl) ?_
  intro p e s m below meth c T0 X0
  refine own_blk X0 B0_0_1 B0_0_1d (ls' := #[.val (.int z0), .val (.int z1), .val (.int z2), .val (.int z3), .val (.int z4), .val (.long ns), .second, .unset, .unset, .unset, .unset, .unset, .unset, .unset]) (st' := [(.int z1)]) rfl ?_
  refine own_ldc X0 (hw _ (List.mem_of_getElem? (i := 0) rfl)) d0_1 ?_
  refine own_blk X0 B0_3_5 B0_3_5d (ls' := #[.val (.int z0), .val (.int z1), .val (.int z2), .val (.int z3), .val (.int z4), .val (.long ns), .second, .unset, .unset, .unset, .unset, .unset, .unset, .unset]) (st' := [(.int (3 : Int32)), (.int (z1 &&& (2147483647 : Int32)))]) rfl ?_
  refine own_iremS X0 d0_5 (by decide) ?_
  refine own_blk X0 B0_6_9 B0_6_9d (ls' := #[.val (.int z0), .val (.int z1), .val (.int z2), .val (.int z3), .val (.int z4), .val (.long ns), .second, .val (.int (own_irem (z1 &&& (2147483647 : Int32)) (3 : Int32))), .unset, .unset, .unset, .unset, .unset, .unset]) (st' := [(.int z2)]) rfl ?_
  refine own_ldc X0 (hw _ (List.mem_of_getElem? (i := 0) rfl)) d0_9 ?_
  refine own_blk X0 B0_11_14 B0_11_14d (ls' := #[.val (.int z0), .val (.int z1), .val (.int z2), .val (.int z3), .val (.int z4), .val (.long ns), .second, .val (.int (own_irem (z1 &&& (2147483647 : Int32)) (3 : Int32))), .unset, .unset, .unset, .unset, .unset, .unset]) (st' := [(.int (10 : Int32)), (.int (z2 &&& (2147483647 : Int32)))]) rfl ?_
  refine own_iremS X0 d0_14 (by decide) ?_
  refine own_blk X0 B0_15_17 B0_15_17d (ls' := #[.val (.int z0), .val (.int z1), .val (.int z2), .val (.int z3), .val (.int z4), .val (.long ns), .second, .val (.int (own_irem (z1 &&& (2147483647 : Int32)) (3 : Int32))), .val (.int (own_irem (z2 &&& (2147483647 : Int32)) (10 : Int32))), .unset, .unset, .unset, .unset, .unset]) (st' := []) rfl ?_
  generalize eq : (own_irem (z1 &&& (2147483647 : Int32)) (3 : Int32)) = q
  generalize edg : (own_irem (z2 &&& (2147483647 : Int32)) (10 : Int32)) = dg
  have hq : 0 ≤ q.toInt ∧ q.toInt ≤ 2 := by
    have h1 := own_mask z1 2147483647 31 (by decide) (by decide)
    rw [← eq, own_irem_pos (by omega)]
    show 0 ≤ _ % (3 : Int) ∧ _ % (3 : Int) ≤ 2
    omega
  have hd : 0 ≤ dg.toInt ∧ dg.toInt ≤ 9 := by
    have h1 := own_mask z2 2147483647 31 (by decide) (by decide)
    rw [← edg, own_irem_pos (by omega)]
    show 0 ≤ _ % (10 : Int) ∧ _ % (10 : Int) ≤ 9
    omega
  have i0 : q.toInt = q.toInt + 0 := (Int.add_zero _).symm
  have i1 : (q + (1 : Int32)).toInt = q.toInt + 1 := own_addc rfl (by omega) (by omega)
  have i2 : (q + (2 : Int32)).toInt = q.toInt + 2 := own_addc rfl (by omega) (by omega)
  have i3 : (q + (3 : Int32)).toInt = q.toInt + 3 := own_addc rfl (by omega) (by omega)
  have i4 : (q + (4 : Int32)).toInt = q.toInt + 4 := own_addc rfl (by omega) (by omega)
  have i5 : (q + (5 : Int32)).toInt = q.toInt + 5 := own_addc rfl (by omega) (by omega)
  have i6 : (q + (6 : Int32)).toInt = q.toInt + 6 := own_addc rfl (by omega) (by omega)
  have i7 : (q + (7 : Int32)).toInt = q.toInt + 7 := own_addc rfl (by omega) (by omega)
  have i8 : (q + (8 : Int32)).toInt = q.toInt + 8 := own_addc rfl (by omega) (by omega)
  refine own_blk X0 B0_17_19 B0_17_19d (ls' := #[.val (.int z0), .val (.int z1), .val (.int z2), .val (.int z3), .val (.int z4), .val (.long ns), .second, .val (.int q), .val (.int dg), .unset, .unset, .unset, .unset, .unset]) (st' := [(.int (12 : Int32))]) rfl ?_
  refine own_newI X0 (hw _ (List.mem_of_getElem? (i := 1) rfl)) rfl d0_19 (by decide) 12 (by decide) (by decide) (by decide) (by decide) (fun h1 T1 X1 E1 A1 => ?_)
  have n_b : n0 ≤ h0.size := X0.2.1
  have A1 : own_I Z h1 h0.size .byte 12 (fun _ => (0 : Int32)) := A1
  generalize ez_b : h0.size = b at A1 n_b ⊢
  show own_G p e below (T1.setTop (mkF m 21 #[.val (.int z0), .val (.int z1), .val (.int z2), .val (.int z3), .val (.int z4), .val (.long ns), .second, .val (.int q), .val (.int dg), .unset, .unset, .unset, .unset, .unset] [(.ref b)])) _
  refine own_blk X1 B0_21_30 B0_21_30d (ls' := #[.val (.int z0), .val (.int z1), .val (.int z2), .val (.int z3), .val (.int z4), .val (.long ns), .second, .val (.int q), .val (.int dg), .val (.ref b), .unset, .unset, .unset, .unset]) (st' := [(.int (own_i2b (ns.toInt32))), (.int (0 : Int32)), (.ref b)]) rfl ?_
  refine own_bast X1 A1 n_b d0_30 (by decide) (by decide) (own_i2b_fix _) (fun h2 T2 X2 A2 W2 => ?_)
  have A2 : own_I Z h2 b .byte 12 (own_u (fun _ => (0 : Int32)) (0) (own_i2b (ns.toInt32))) := A2
  generalize eg2 : own_u (fun _ => (0 : Int32)) (0) (own_i2b (ns.toInt32)) = g2 at A2
  refine own_blk X2 B0_31_41 B0_31_41d (ls' := #[.val (.int z0), .val (.int z1), .val (.int z2), .val (.int z3), .val (.int z4), .val (.long ns), .second, .val (.int q), .val (.int dg), .val (.ref b), .unset, .unset, .unset, .unset]) (st' := [(.int (own_i2b ((own_lushr ns (8 : Int32)).toInt32))), (.int (1 : Int32)), (.ref b)]) rfl ?_
  refine own_bast X2 A2 n_b d0_41 (by decide) (by decide) (own_i2b_fix _) (fun h3 T3 X3 A3 W3 => ?_)
  have A3 : own_I Z h3 b .byte 12 (own_u g2 (1) (own_i2b ((own_lushr ns (8 : Int32)).toInt32))) := A3
  generalize eg3 : own_u g2 (1) (own_i2b ((own_lushr ns (8 : Int32)).toInt32)) = g3 at A3
  refine own_blk X3 B0_42_52 B0_42_52d (ls' := #[.val (.int z0), .val (.int z1), .val (.int z2), .val (.int z3), .val (.int z4), .val (.long ns), .second, .val (.int q), .val (.int dg), .val (.ref b), .unset, .unset, .unset, .unset]) (st' := [(.int (own_i2b ((own_lushr ns (16 : Int32)).toInt32))), (.int (2 : Int32)), (.ref b)]) rfl ?_
  refine own_bast X3 A3 n_b d0_52 (by decide) (by decide) (own_i2b_fix _) (fun h4 T4 X4 A4 W4 => ?_)
  have A4 : own_I Z h4 b .byte 12 (own_u g3 (2) (own_i2b ((own_lushr ns (16 : Int32)).toInt32))) := A4
  generalize eg4 : own_u g3 (2) (own_i2b ((own_lushr ns (16 : Int32)).toInt32)) = g4 at A4
  refine own_blk X4 B0_53_63 B0_53_63d (ls' := #[.val (.int z0), .val (.int z1), .val (.int z2), .val (.int z3), .val (.int z4), .val (.long ns), .second, .val (.int q), .val (.int dg), .val (.ref b), .unset, .unset, .unset, .unset]) (st' := [(.int (own_i2b ((own_lushr ns (24 : Int32)).toInt32))), (.int (3 : Int32)), (.ref b)]) rfl ?_
  refine own_bast X4 A4 n_b d0_63 (by decide) (by decide) (own_i2b_fix _) (fun h5 T5 X5 A5 W5 => ?_)
  have A5 : own_I Z h5 b .byte 12 (own_u g4 (3) (own_i2b ((own_lushr ns (24 : Int32)).toInt32))) := A5
  generalize eg5 : own_u g4 (3) (own_i2b ((own_lushr ns (24 : Int32)).toInt32)) = g5 at A5
  refine own_blk X5 B0_64_74 B0_64_74d (ls' := #[.val (.int z0), .val (.int z1), .val (.int z2), .val (.int z3), .val (.int z4), .val (.long ns), .second, .val (.int q), .val (.int dg), .val (.ref b), .unset, .unset, .unset, .unset]) (st' := [(.int (own_i2b ((own_lushr ns (32 : Int32)).toInt32))), (.int (4 : Int32)), (.ref b)]) rfl ?_
  refine own_bast X5 A5 n_b d0_74 (by decide) (by decide) (own_i2b_fix _) (fun h6 T6 X6 A6 W6 => ?_)
  have A6 : own_I Z h6 b .byte 12 (own_u g5 (4) (own_i2b ((own_lushr ns (32 : Int32)).toInt32))) := A6
  generalize eg6 : own_u g5 (4) (own_i2b ((own_lushr ns (32 : Int32)).toInt32)) = g6 at A6
  refine own_blk X6 B0_75_85 B0_75_85d (ls' := #[.val (.int z0), .val (.int z1), .val (.int z2), .val (.int z3), .val (.int z4), .val (.long ns), .second, .val (.int q), .val (.int dg), .val (.ref b), .unset, .unset, .unset, .unset]) (st' := [(.int (own_i2b ((own_lushr ns (40 : Int32)).toInt32))), (.int (5 : Int32)), (.ref b)]) rfl ?_
  refine own_bast X6 A6 n_b d0_85 (by decide) (by decide) (own_i2b_fix _) (fun h7 T7 X7 A7 W7 => ?_)
  have A7 : own_I Z h7 b .byte 12 (own_u g6 (5) (own_i2b ((own_lushr ns (40 : Int32)).toInt32))) := A7
  generalize eg7 : own_u g6 (5) (own_i2b ((own_lushr ns (40 : Int32)).toInt32)) = g7 at A7
  refine own_blk X7 B0_86_97 B0_86_97d (ls' := #[.val (.int z0), .val (.int z1), .val (.int z2), .val (.int z3), .val (.int z4), .val (.long ns), .second, .val (.int q), .val (.int dg), .val (.ref b), .unset, .unset, .unset, .unset]) (st' := [(.int (own_i2b ((own_lushr ns (48 : Int32)).toInt32))), (.int (6 : Int32)), (.ref b)]) rfl ?_
  refine own_bast X7 A7 n_b d0_97 (by decide) (by decide) (own_i2b_fix _) (fun h8 T8 X8 A8 W8 => ?_)
  have A8 : own_I Z h8 b .byte 12 (own_u g7 (6) (own_i2b ((own_lushr ns (48 : Int32)).toInt32))) := A8
  generalize eg8 : own_u g7 (6) (own_i2b ((own_lushr ns (48 : Int32)).toInt32)) = g8 at A8
  refine own_blk X8 B0_98_109 B0_98_109d (ls' := #[.val (.int z0), .val (.int z1), .val (.int z2), .val (.int z3), .val (.int z4), .val (.long ns), .second, .val (.int q), .val (.int dg), .val (.ref b), .unset, .unset, .unset, .unset]) (st' := [(.int (own_i2b ((own_lushr ns (56 : Int32)).toInt32))), (.int (7 : Int32)), (.ref b)]) rfl ?_
  refine own_bast X8 A8 n_b d0_109 (by decide) (by decide) (own_i2b_fix _) (fun h9 T9 X9 A9 W9 => ?_)
  have A9 : own_I Z h9 b .byte 12 (own_u g8 (7) (own_i2b ((own_lushr ns (56 : Int32)).toInt32))) := A9
  generalize eg9 : own_u g8 (7) (own_i2b ((own_lushr ns (56 : Int32)).toInt32)) = g9 at A9
  refine own_blk X9 B0_110_120 B0_110_120d (ls' := #[.val (.int z0), .val (.int z1), .val (.int z2), .val (.int z3), .val (.int z4), .val (.long ns), .second, .val (.int q), .val (.int dg), .val (.ref b), .unset, .unset, .unset, .unset]) (st' := [(.int (own_i2b ((own_lushr ns (4 : Int32)).toInt32))), (.int (8 : Int32)), (.ref b)]) rfl ?_
  refine own_bast X9 A9 n_b d0_120 (by decide) (by decide) (own_i2b_fix _) (fun h10 T10 X10 A10 W10 => ?_)
  have A10 : own_I Z h10 b .byte 12 (own_u g9 (8) (own_i2b ((own_lushr ns (4 : Int32)).toInt32))) := A10
  generalize eg10 : own_u g9 (8) (own_i2b ((own_lushr ns (4 : Int32)).toInt32)) = g10 at A10
  refine own_blk X10 B0_121_132 B0_121_132d (ls' := #[.val (.int z0), .val (.int z1), .val (.int z2), .val (.int z3), .val (.int z4), .val (.long ns), .second, .val (.int q), .val (.int dg), .val (.ref b), .unset, .unset, .unset, .unset]) (st' := [(.int (own_i2b ((own_lushr ns (12 : Int32)).toInt32))), (.int (9 : Int32)), (.ref b)]) rfl ?_
  refine own_bast X10 A10 n_b d0_132 (by decide) (by decide) (own_i2b_fix _) (fun h11 T11 X11 A11 W11 => ?_)
  have A11 : own_I Z h11 b .byte 12 (own_u g10 (9) (own_i2b ((own_lushr ns (12 : Int32)).toInt32))) := A11
  generalize eg11 : own_u g10 (9) (own_i2b ((own_lushr ns (12 : Int32)).toInt32)) = g11 at A11
  refine own_blk X11 B0_133_144 B0_133_144d (ls' := #[.val (.int z0), .val (.int z1), .val (.int z2), .val (.int z3), .val (.int z4), .val (.long ns), .second, .val (.int q), .val (.int dg), .val (.ref b), .unset, .unset, .unset, .unset]) (st' := [(.int (own_i2b ((own_lushr ns (20 : Int32)).toInt32))), (.int (10 : Int32)), (.ref b)]) rfl ?_
  refine own_bast X11 A11 n_b d0_144 (by decide) (by decide) (own_i2b_fix _) (fun h12 T12 X12 A12 W12 => ?_)
  have A12 : own_I Z h12 b .byte 12 (own_u g11 (10) (own_i2b ((own_lushr ns (20 : Int32)).toInt32))) := A12
  generalize eg12 : own_u g11 (10) (own_i2b ((own_lushr ns (20 : Int32)).toInt32)) = g12 at A12
  refine own_blk X12 B0_145_156 B0_145_156d (ls' := #[.val (.int z0), .val (.int z1), .val (.int z2), .val (.int z3), .val (.int z4), .val (.long ns), .second, .val (.int q), .val (.int dg), .val (.ref b), .unset, .unset, .unset, .unset]) (st' := [(.int (own_i2b ((own_lushr ns (28 : Int32)).toInt32))), (.int (11 : Int32)), (.ref b)]) rfl ?_
  refine own_bast X12 A12 n_b d0_156 (by decide) (by decide) (own_i2b_fix _) (fun h13 T13 X13 A13 W13 => ?_)
  have A13 : own_I Z h13 b .byte 12 (own_u g12 (11) (own_i2b ((own_lushr ns (28 : Int32)).toInt32))) := A13
  generalize eg13 : own_u g12 (11) (own_i2b ((own_lushr ns (28 : Int32)).toInt32)) = g13 at A13
  refine own_blk X13 B0_157_158 B0_157_158d (ls' := #[.val (.int z0), .val (.int z1), .val (.int z2), .val (.int z3), .val (.int z4), .val (.long ns), .second, .val (.int q), .val (.int dg), .val (.ref b), .unset, .unset, .unset, .unset]) (st' := [(.int z0)]) rfl ?_
  refine own_ldc X13 (hw _ (List.mem_of_getElem? (i := 0) rfl)) d0_158 ?_
  refine own_blk X13 B0_160_163 B0_160_163d (ls' := #[.val (.int z0), .val (.int z1), .val (.int z2), .val (.int z3), .val (.int z4), .val (.long ns), .second, .val (.int q), .val (.int dg), .val (.ref b), .unset, .unset, .unset, .unset]) (st' := [(.int dg), (.int (z0 &&& (2147483647 : Int32)))]) rfl ?_
  refine own_callP X13 (hw _ (List.mem_of_getElem? (i := 2) rfl)) (hw _ (List.mem_of_getElem? (i := 3) rfl)) (hw _ (List.mem_of_getElem? (i := 4) rfl)) (hw _ (List.mem_of_getElem? (i := 5) rfl)) (by decide) (c_p10 l Z a0 hw dg h13 n0 X13.2.1) d0_163 [(.int dg)] [(.int (z0 &&& (2147483647 : Int32)))] rfl rfl pd1 rfl rfl (by decide) (Nat.le_of_ble_eq_true rfl) (by decide) (by decide) (fun T14 X14 => ?_)
  show own_G p e below (T14.setTop (mkF m 166 #[.val (.int z0), .val (.int z1), .val (.int z2), .val (.int z3), .val (.int z4), .val (.long ns), .second, .val (.int q), .val (.int dg), .val (.ref b), .unset, .unset, .unset, .unset] [(.int (own_p10 dg)), (.int (z0 &&& (2147483647 : Int32)))])) _
  refine own_iremS X14 d0_166 (own_p10_ne _) ?_
  refine own_blk X14 B0_167_169 B0_167_169d (ls' := #[.val (.int z0), .val (.int z1), .val (.int z2), .val (.int z3), .val (.int z4), .val (.long ns), .second, .val (.int q), .val (.int dg), .val (.ref b), .val (.int (own_irem (z0 &&& (2147483647 : Int32)) (own_p10 dg))), .unset, .unset, .unset]) (st' := []) rfl ?_
  generalize emm : (own_irem (z0 &&& (2147483647 : Int32)) (own_p10 dg)) = mm
  have hmm : 0 ≤ mm.toInt ∧ mm.toInt < 10 ^ dg.toInt.toNat := by
    have h1 := own_mask z0 2147483647 31 (by decide) (by decide)
    rw [← emm, own_irem_pos (by omega), own_p10_pow hd.1 hd.2]
    have h2 : (0 : Int) < 10 ^ dg.toInt.toNat := Int.pow_pos (by decide)
    exact ⟨Int.emod_nonneg _ (by omega), Int.emod_lt_of_pos _ h2⟩
  have J9 : ∀ (hJ : Heap) (TJ : State) (gJ : Int → Int32), own_X p l e room_1 s m #[(.int z0), (.int z1), (.int z2), (.int z3), (.int z4), (.long ns)] below meth c Z code maxLocals ret x n0 hJ TJ 1 12 → own_I Z hJ b .byte 12 gJ → (0 < dg.toInt → gJ (q.toInt + 0) = own_dg mm dg (0 : Int32)) → (1 < dg.toInt → gJ (q.toInt + 1) = own_dg mm dg (1 : Int32)) → (2 < dg.toInt → gJ (q.toInt + 2) = own_dg mm dg (2 : Int32)) → (3 < dg.toInt → gJ (q.toInt + 3) = own_dg mm dg (3 : Int32)) → (4 < dg.toInt → gJ (q.toInt + 4) = own_dg mm dg (4 : Int32)) → (5 < dg.toInt → gJ (q.toInt + 5) = own_dg mm dg (5 : Int32)) → (6 < dg.toInt → gJ (q.toInt + 6) = own_dg mm dg (6 : Int32)) → (7 < dg.toInt → gJ (q.toInt + 7) = own_dg mm dg (7 : Int32)) → (8 < dg.toInt → gJ (q.toInt + 8) = own_dg mm dg (8 : Int32)) → own_G p e below (TJ.setTop (mkF m 364 #[.val (.int z0), .val (.int z1), .val (.int z2), .val (.int z3), .val (.int z4), .val (.long ns), .second, .val (.int q), .val (.int dg), .val (.ref b), .val (.int mm), .unset, .unset, .unset] [])) (own_E s n0 (fun v h => v = some (.int 1)) room_1.cells room_1.slots) := by
    intro hJ TJ gJ XJ AJ f0 f1 f2 f3 f4 f5 f6 f7 f8
    have hf : ∀ j : Nat, j < dg.toInt.toNat → (gJ (q.toInt + (j : Int))).toInt = 48 + mm.toInt / 10 ^ (dg.toInt.toNat - 1 - j) % 10 := by
      intro j hj
      have hc : j = 0 ∨ j = 1 ∨ j = 2 ∨ j = 3 ∨ j = 4 ∨ j = 5 ∨ j = 6 ∨ j = 7 ∨ j = 8 := by omega
      rcases hc with rfl | rfl | rfl | rfl | rfl | rfl | rfl | rfl | rfl
      · have q1 := f0 (by omega); show (gJ (q.toInt + 0)).toInt = _; rw [q1]; exact own_dg_v (k0 := 0) rfl hmm.1 (by show (0 : Int) < _; omega) hd.2
      · have q1 := f1 (by omega); show (gJ (q.toInt + 1)).toInt = _; rw [q1]; exact own_dg_v (k0 := 1) rfl hmm.1 (by show (1 : Int) < _; omega) hd.2
      · have q1 := f2 (by omega); show (gJ (q.toInt + 2)).toInt = _; rw [q1]; exact own_dg_v (k0 := 2) rfl hmm.1 (by show (2 : Int) < _; omega) hd.2
      · have q1 := f3 (by omega); show (gJ (q.toInt + 3)).toInt = _; rw [q1]; exact own_dg_v (k0 := 3) rfl hmm.1 (by show (3 : Int) < _; omega) hd.2
      · have q1 := f4 (by omega); show (gJ (q.toInt + 4)).toInt = _; rw [q1]; exact own_dg_v (k0 := 4) rfl hmm.1 (by show (4 : Int) < _; omega) hd.2
      · have q1 := f5 (by omega); show (gJ (q.toInt + 5)).toInt = _; rw [q1]; exact own_dg_v (k0 := 5) rfl hmm.1 (by show (5 : Int) < _; omega) hd.2
      · have q1 := f6 (by omega); show (gJ (q.toInt + 6)).toInt = _; rw [q1]; exact own_dg_v (k0 := 6) rfl hmm.1 (by show (6 : Int) < _; omega) hd.2
      · have q1 := f7 (by omega); show (gJ (q.toInt + 7)).toInt = _; rw [q1]; exact own_dg_v (k0 := 7) rfl hmm.1 (by show (7 : Int) < _; omega) hd.2
      · have q1 := f8 (by omega); show (gJ (q.toInt + 8)).toInt = _; rw [q1]; exact own_dg_v (k0 := 8) rfl hmm.1 (by show (8 : Int) < _; omega) hd.2
    refine own_blk XJ B0_364_367 B0_364_367d (ls' := #[.val (.int z0), .val (.int z1), .val (.int z2), .val (.int z3), .val (.int z4), .val (.long ns), .second, .val (.int q), .val (.int dg), .val (.ref b), .val (.int mm), .unset, .unset, .unset]) (st' := [(.int (z3 &&& (1 : Int32)))]) rfl ?_
    refine own_if XJ d0_367 (pc' := 379) (by decide) (fun c367 => ?_) (fun c367 => ?_)
    · have c367 : (z3 &&& (1 : Int32)).toInt = 0 := c367
      refine own_blk XJ B0_379_384 B0_379_384d (ls' := #[.val (.int z0), .val (.int z1), .val (.int z2), .val (.int z3), .val (.int z4), .val (.long ns), .second, .val (.int q), .val (.int dg), .val (.ref b), .val (.int mm), .val (.int (0 : Int32)), .unset, .unset]) (st' := [(.int (0 : Int32))]) rfl ?_
      refine own_if XJ d0_384 (pc' := 435) (by decide) (fun c384 => ?_) (fun (c384 : ¬ ((0 : Int) = 0)) => by exfalso; omega)
      have c384 : (0 : Int) = 0 := c384
      refine own_blk XJ B0_435_437 B0_435_437d (ls' := #[.val (.int z0), .val (.int z1), .val (.int z2), .val (.int z3), .val (.int z4), .val (.long ns), .second, .val (.int q), .val (.int dg), .val (.ref b), .val (.int mm), .val (.int (0 : Int32)), .unset, .unset]) (st' := [(.int (0 : Int32))]) rfl ?_
      refine own_if XJ d0_437 (pc' := 444) (by decide) (fun c437 => ?_) (fun (c437 : ¬ ((0 : Int) = 0)) => by exfalso; omega)
      have c437 : (0 : Int) = 0 := c437
      refine own_blk XJ B0_444_454 B0_444_454d (ls' := #[.val (.int z0), .val (.int z1), .val (.int z2), .val (.int z3), .val (.int z4), .val (.long ns), .second, .val (.int q), .val (.int dg), .val (.ref b), .val (.int mm), .val (.int (0 : Int32)), .val (.int mm), .unset]) (st' := [(.int dg), (.int q), (.ref b)]) rfl ?_
      refine own_callS XJ (hw _ (List.mem_of_getElem? (i := 10) rfl)) (hw _ (List.mem_of_getElem? (i := 11) rfl)) (hw _ (List.mem_of_getElem? (i := 12) rfl)) (hw _ (List.mem_of_getElem? (i := 13) rfl)) (by decide) (c_num l Z a0 hw b q dg gJ hJ n0 XJ.2.1 AJ hq hd) d0_454 [(.ref b), (.int q), (.int dg)] [] rfl rfl pd3 rfl rfl (by decide) (Nat.le_of_ble_eq_true rfl) (by decide) (by decide) (fun _ _ q => by obtain ⟨_, _, q2, _⟩ := q; rw [q2]; exact XJ.2.1) (fun v15 h15 T15 X15 q15 => ?_)
      obtain ⟨z15, rfl, e15, hz15⟩ := q15
      rw [e15] at X15
      show own_G p e below (T15.setTop (mkF m 457 #[.val (.int z0), .val (.int z1), .val (.int z2), .val (.int z3), .val (.int z4), .val (.long ns), .second, .val (.int q), .val (.int dg), .val (.ref b), .val (.int mm), .val (.int (0 : Int32)), .val (.int mm), .unset] [(.int z15)])) _
      refine own_blk X15 B0_457_459 B0_457_459d (ls' := #[.val (.int z0), .val (.int z1), .val (.int z2), .val (.int z3), .val (.int z4), .val (.long ns), .second, .val (.int q), .val (.int dg), .val (.ref b), .val (.int mm), .val (.int (0 : Int32)), .val (.int mm), .unset]) (st' := [(.int mm), (.int z15)]) rfl ?_
      refine own_icmp X15 d0_459 (pc' := 466) (by decide) (fun (c459 : ¬ z15.toInt = mm.toInt) => by exfalso; rcases hz15 with q1 | q1; exact c459 (by rw [q1.2, own_vl_eq hmm.1 hmm.2 hf _ (Nat.le_refl _), Nat.sub_self]; simp); exact q1.1 (fun j hj => by rw [hf j hj]; omega)) (fun c459 => ?_)
      have c459 : ¬ (¬ z15.toInt = mm.toInt) := c459
      refine own_blk X15 B0_462_463 B0_462_463d (ls' := #[.val (.int z0), .val (.int z1), .val (.int z2), .val (.int z3), .val (.int z4), .val (.long ns), .second, .val (.int q), .val (.int dg), .val (.ref b), .val (.int mm), .val (.int (0 : Int32)), .val (.int mm), .unset]) (st' := [(.int (1 : Int32))]) rfl ?_
      refine own_goto X15 d0_463 (pc' := 467) (by decide) ?_
      exact own_retN X15 (by simp) d0_467 (v' := (1 : Int32)) (rfl) (by decide) (by decide) (rfl)
    · have c367 : ¬ ((z3 &&& (1 : Int32)).toInt = 0) := c367
      refine own_blk XJ B0_370_372 B0_370_372d (ls' := #[.val (.int z0), .val (.int z1), .val (.int z2), .val (.int z3), .val (.int z4), .val (.long ns), .second, .val (.int q), .val (.int dg), .val (.ref b), .val (.int mm), .unset, .unset, .unset]) (st' := [(.int dg)]) rfl ?_
      refine own_if XJ d0_372 (pc' := 379) (by decide) (fun c372 => ?_) (fun c372 => ?_)
      · have c372 : dg.toInt ≤ 0 := c372
        refine own_blk XJ B0_379_384 B0_379_384d (ls' := #[.val (.int z0), .val (.int z1), .val (.int z2), .val (.int z3), .val (.int z4), .val (.long ns), .second, .val (.int q), .val (.int dg), .val (.ref b), .val (.int mm), .val (.int (0 : Int32)), .unset, .unset]) (st' := [(.int (0 : Int32))]) rfl ?_
        refine own_if XJ d0_384 (pc' := 435) (by decide) (fun c384 => ?_) (fun (c384 : ¬ ((0 : Int) = 0)) => by exfalso; omega)
        have c384 : (0 : Int) = 0 := c384
        refine own_blk XJ B0_435_437 B0_435_437d (ls' := #[.val (.int z0), .val (.int z1), .val (.int z2), .val (.int z3), .val (.int z4), .val (.long ns), .second, .val (.int q), .val (.int dg), .val (.ref b), .val (.int mm), .val (.int (0 : Int32)), .unset, .unset]) (st' := [(.int (0 : Int32))]) rfl ?_
        refine own_if XJ d0_437 (pc' := 444) (by decide) (fun c437 => ?_) (fun (c437 : ¬ ((0 : Int) = 0)) => by exfalso; omega)
        have c437 : (0 : Int) = 0 := c437
        refine own_blk XJ B0_444_454 B0_444_454d (ls' := #[.val (.int z0), .val (.int z1), .val (.int z2), .val (.int z3), .val (.int z4), .val (.long ns), .second, .val (.int q), .val (.int dg), .val (.ref b), .val (.int mm), .val (.int (0 : Int32)), .val (.int mm), .unset]) (st' := [(.int dg), (.int q), (.ref b)]) rfl ?_
        refine own_callS XJ (hw _ (List.mem_of_getElem? (i := 10) rfl)) (hw _ (List.mem_of_getElem? (i := 11) rfl)) (hw _ (List.mem_of_getElem? (i := 12) rfl)) (hw _ (List.mem_of_getElem? (i := 13) rfl)) (by decide) (c_num l Z a0 hw b q dg gJ hJ n0 XJ.2.1 AJ hq hd) d0_454 [(.ref b), (.int q), (.int dg)] [] rfl rfl pd3 rfl rfl (by decide) (Nat.le_of_ble_eq_true rfl) (by decide) (by decide) (fun _ _ q => by obtain ⟨_, _, q2, _⟩ := q; rw [q2]; exact XJ.2.1) (fun v16 h16 T16 X16 q16 => ?_)
        obtain ⟨z16, rfl, e16, hz16⟩ := q16
        rw [e16] at X16
        show own_G p e below (T16.setTop (mkF m 457 #[.val (.int z0), .val (.int z1), .val (.int z2), .val (.int z3), .val (.int z4), .val (.long ns), .second, .val (.int q), .val (.int dg), .val (.ref b), .val (.int mm), .val (.int (0 : Int32)), .val (.int mm), .unset] [(.int z16)])) _
        refine own_blk X16 B0_457_459 B0_457_459d (ls' := #[.val (.int z0), .val (.int z1), .val (.int z2), .val (.int z3), .val (.int z4), .val (.long ns), .second, .val (.int q), .val (.int dg), .val (.ref b), .val (.int mm), .val (.int (0 : Int32)), .val (.int mm), .unset]) (st' := [(.int mm), (.int z16)]) rfl ?_
        refine own_icmp X16 d0_459 (pc' := 466) (by decide) (fun (c459 : ¬ z16.toInt = mm.toInt) => by exfalso; rcases hz16 with q1 | q1; exact c459 (by rw [q1.2, own_vl_eq hmm.1 hmm.2 hf _ (Nat.le_refl _), Nat.sub_self]; simp); exact q1.1 (fun j hj => by rw [hf j hj]; omega)) (fun c459 => ?_)
        have c459 : ¬ (¬ z16.toInt = mm.toInt) := c459
        refine own_blk X16 B0_462_463 B0_462_463d (ls' := #[.val (.int z0), .val (.int z1), .val (.int z2), .val (.int z3), .val (.int z4), .val (.long ns), .second, .val (.int q), .val (.int dg), .val (.ref b), .val (.int mm), .val (.int (0 : Int32)), .val (.int mm), .unset]) (st' := [(.int (1 : Int32))]) rfl ?_
        refine own_goto X16 d0_463 (pc' := 467) (by decide) ?_
        exact own_retN X16 (by simp) d0_467 (v' := (1 : Int32)) (rfl) (by decide) (by decide) (rfl)
      · have c372 : ¬ (dg.toInt ≤ 0) := c372
        refine own_blk XJ B0_375_376 B0_375_376d (ls' := #[.val (.int z0), .val (.int z1), .val (.int z2), .val (.int z3), .val (.int z4), .val (.long ns), .second, .val (.int q), .val (.int dg), .val (.ref b), .val (.int mm), .unset, .unset, .unset]) (st' := [(.int (1 : Int32))]) rfl ?_
        refine own_goto XJ d0_376 (pc' := 380) (by decide) ?_
        refine own_blk XJ B0_380_384 B0_380_384d (ls' := #[.val (.int z0), .val (.int z1), .val (.int z2), .val (.int z3), .val (.int z4), .val (.long ns), .second, .val (.int q), .val (.int dg), .val (.ref b), .val (.int mm), .val (.int (1 : Int32)), .unset, .unset]) (st' := [(.int (1 : Int32))]) rfl ?_
        refine own_if XJ d0_384 (pc' := 435) (by decide) (fun (c384 : (1 : Int) = 0) => by exfalso; omega) (fun c384 => ?_)
        have c384 : ¬ ((1 : Int) = 0) := c384
        refine own_blk XJ B0_387_390 B0_387_390d (ls' := #[.val (.int z0), .val (.int z1), .val (.int z2), .val (.int z3), .val (.int z4), .val (.long ns), .second, .val (.int q), .val (.int dg), .val (.ref b), .val (.int mm), .val (.int (1 : Int32)), .unset, .unset]) (st' := [(.int (own_iushr z3 (1 : Int32)))]) rfl ?_
        refine own_ldc XJ (hw _ (List.mem_of_getElem? (i := 9) rfl)) d0_390 ?_
        refine own_blk XJ B0_392_395 B0_392_395d (ls' := #[.val (.int z0), .val (.int z1), .val (.int z2), .val (.int z3), .val (.int z4), .val (.long ns), .second, .val (.int q), .val (.int dg), .val (.ref b), .val (.int mm), .val (.int (1 : Int32)), .unset, .unset]) (st' := [(.int dg), (.int ((own_iushr z3 (1 : Int32)) &&& (1073741823 : Int32)))]) rfl ?_
        refine own_iremS XJ d0_395 (by rintro rfl; simp at c372) ?_
        refine own_blk XJ B0_396_398 B0_396_398d (ls' := #[.val (.int z0), .val (.int z1), .val (.int z2), .val (.int z3), .val (.int z4), .val (.long ns), .second, .val (.int q), .val (.int dg), .val (.ref b), .val (.int mm), .val (.int (1 : Int32)), .val (.int (own_irem ((own_iushr z3 (1 : Int32)) &&& (1073741823 : Int32)) dg)), .unset]) (st' := []) rfl ?_
        generalize epp : (own_irem ((own_iushr z3 (1 : Int32)) &&& (1073741823 : Int32)) dg) = pp
        have hpp : 0 ≤ pp.toInt ∧ pp.toInt < dg.toInt := by
          have h1 := own_mask (own_iushr z3 1) 1073741823 30 (by decide) (by decide)
          rw [← epp, own_irem_pos (by omega)]
          exact ⟨Int.emod_nonneg _ (by omega), Int.emod_lt_of_pos _ (by omega)⟩
        have ip : (q + pp).toInt = q.toInt + pp.toInt := Jvm.Kit.i32_add (by omega) (by omega)
        refine own_blk XJ B0_398_403 B0_398_403d (ls' := #[.val (.int z0), .val (.int z1), .val (.int z2), .val (.int z3), .val (.int z4), .val (.long ns), .second, .val (.int q), .val (.int dg), .val (.ref b), .val (.int mm), .val (.int (1 : Int32)), .val (.int pp), .val (.int (own_i2b z4))]) (st' := []) rfl ?_
        generalize ejk : (own_i2b z4) = jk
        have hjk := own_i2b_b z4
        rw [ejk] at hjk
        refine own_blk XJ B0_403_407 B0_403_407d (ls' := #[.val (.int z0), .val (.int z1), .val (.int z2), .val (.int z3), .val (.int z4), .val (.long ns), .second, .val (.int q), .val (.int dg), .val (.ref b), .val (.int mm), .val (.int (1 : Int32)), .val (.int pp), .val (.int jk)]) (st' := [(.int (48 : Int32)), (.int jk)]) rfl ?_
        refine own_icmp XJ d0_407 (pc' := 425) (by decide) (fun c407 => ?_) (fun c407 => ?_)
        · have c407 : jk.toInt < 48 := c407
          refine own_blk XJ B0_425_434 B0_425_434d (ls' := #[.val (.int z0), .val (.int z1), .val (.int z2), .val (.int z3), .val (.int z4), .val (.long ns), .second, .val (.int q), .val (.int dg), .val (.ref b), .val (.int mm), .val (.int (1 : Int32)), .val (.int pp), .val (.int jk)]) (st' := [(.int jk), (.int (q + pp)), (.ref b)]) rfl ?_
          have hx : jk.toInt < 48 ∨ 57 < jk.toInt := by omega
          have hx8 : jk.toInt8.toInt32 = jk := by rw [← ejk]; exact own_i2b_fix _
          refine own_bast XJ AJ n_b d0_434 (by omega) (by omega) hx8 (fun h17 T17 X17 A17 W17 => ?_)
          have A17 : own_I Z h17 b .byte 12 (own_u gJ (q.toInt + pp.toInt) jk) := by rw [← ip]; exact A17
          generalize eg17 : own_u gJ (q.toInt + pp.toInt) jk = g17 at A17
          have hbr : ¬ own_okd g17 q.toInt dg.toInt.toNat := by
            intro q1
            have q2 := q1 pp.toInt.toNat (by omega)
            have q3 : ((pp.toInt.toNat : Nat) : Int) = pp.toInt := by omega
            rw [q3, ← eg17, own_u_eq rfl] at q2
            omega
          refine own_blk X17 B0_435_437 B0_435_437d (ls' := #[.val (.int z0), .val (.int z1), .val (.int z2), .val (.int z3), .val (.int z4), .val (.long ns), .second, .val (.int q), .val (.int dg), .val (.ref b), .val (.int mm), .val (.int (1 : Int32)), .val (.int pp), .val (.int jk)]) (st' := [(.int (1 : Int32))]) rfl ?_
          refine own_if X17 d0_437 (pc' := 444) (by decide) (fun (c437 : (1 : Int) = 0) => by exfalso; omega) (fun c437 => ?_)
          have c437 : ¬ ((1 : Int) = 0) := c437
          refine own_blk X17 B0_440_441 B0_440_441d (ls' := #[.val (.int z0), .val (.int z1), .val (.int z2), .val (.int z3), .val (.int z4), .val (.long ns), .second, .val (.int q), .val (.int dg), .val (.ref b), .val (.int mm), .val (.int (1 : Int32)), .val (.int pp), .val (.int jk)]) (st' := [(.int (-1 : Int32))]) rfl ?_
          refine own_goto X17 d0_441 (pc' := 446) (by decide) ?_
          refine own_blk X17 B0_446_454 B0_446_454d (ls' := #[.val (.int z0), .val (.int z1), .val (.int z2), .val (.int z3), .val (.int z4), .val (.long ns), .second, .val (.int q), .val (.int dg), .val (.ref b), .val (.int mm), .val (.int (1 : Int32)), .val (.int (-1 : Int32)), .val (.int jk)]) (st' := [(.int dg), (.int q), (.ref b)]) rfl ?_
          refine own_callS X17 (hw _ (List.mem_of_getElem? (i := 10) rfl)) (hw _ (List.mem_of_getElem? (i := 11) rfl)) (hw _ (List.mem_of_getElem? (i := 12) rfl)) (hw _ (List.mem_of_getElem? (i := 13) rfl)) (by decide) (c_num l Z a0 hw b q dg g17 h17 n0 X17.2.1 A17 hq hd) d0_454 [(.ref b), (.int q), (.int dg)] [] rfl rfl pd3 rfl rfl (by decide) (Nat.le_of_ble_eq_true rfl) (by decide) (by decide) (fun _ _ q => by obtain ⟨_, _, q2, _⟩ := q; rw [q2]; exact X17.2.1) (fun v18 h18 T18 X18 q18 => ?_)
          obtain ⟨z18, rfl, e18, hz18⟩ := q18
          rw [e18] at X18
          show own_G p e below (T18.setTop (mkF m 457 #[.val (.int z0), .val (.int z1), .val (.int z2), .val (.int z3), .val (.int z4), .val (.long ns), .second, .val (.int q), .val (.int dg), .val (.ref b), .val (.int mm), .val (.int (1 : Int32)), .val (.int (-1 : Int32)), .val (.int jk)] [(.int z18)])) _
          refine own_blk X18 B0_457_459 B0_457_459d (ls' := #[.val (.int z0), .val (.int z1), .val (.int z2), .val (.int z3), .val (.int z4), .val (.long ns), .second, .val (.int q), .val (.int dg), .val (.ref b), .val (.int mm), .val (.int (1 : Int32)), .val (.int (-1 : Int32)), .val (.int jk)]) (st' := [(.int (-1 : Int32)), (.int z18)]) rfl ?_
          refine own_icmp X18 d0_459 (pc' := 466) (by decide) (fun (c459 : ¬ z18.toInt = -1) => by exfalso; rcases hz18 with q1 | q1; exact hbr q1.1; exact c459 q1.2) (fun c459 => ?_)
          have c459 : ¬ (¬ z18.toInt = -1) := c459
          refine own_blk X18 B0_462_463 B0_462_463d (ls' := #[.val (.int z0), .val (.int z1), .val (.int z2), .val (.int z3), .val (.int z4), .val (.long ns), .second, .val (.int q), .val (.int dg), .val (.ref b), .val (.int mm), .val (.int (1 : Int32)), .val (.int (-1 : Int32)), .val (.int jk)]) (st' := [(.int (1 : Int32))]) rfl ?_
          refine own_goto X18 d0_463 (pc' := 467) (by decide) ?_
          exact own_retN X18 (by simp) d0_467 (v' := (1 : Int32)) (rfl) (by decide) (by decide) (rfl)
        · have c407 : ¬ (jk.toInt < 48) := c407
          refine own_blk XJ B0_410_414 B0_410_414d (ls' := #[.val (.int z0), .val (.int z1), .val (.int z2), .val (.int z3), .val (.int z4), .val (.long ns), .second, .val (.int q), .val (.int dg), .val (.ref b), .val (.int mm), .val (.int (1 : Int32)), .val (.int pp), .val (.int jk)]) (st' := [(.int (57 : Int32)), (.int jk)]) rfl ?_
          refine own_icmp XJ d0_414 (pc' := 425) (by decide) (fun c414 => ?_) (fun c414 => ?_)
          · have c414 : 57 < jk.toInt := c414
            refine own_blk XJ B0_425_434 B0_425_434d (ls' := #[.val (.int z0), .val (.int z1), .val (.int z2), .val (.int z3), .val (.int z4), .val (.long ns), .second, .val (.int q), .val (.int dg), .val (.ref b), .val (.int mm), .val (.int (1 : Int32)), .val (.int pp), .val (.int jk)]) (st' := [(.int jk), (.int (q + pp)), (.ref b)]) rfl ?_
            have hx : jk.toInt < 48 ∨ 57 < jk.toInt := by omega
            have hx8 : jk.toInt8.toInt32 = jk := by rw [← ejk]; exact own_i2b_fix _
            refine own_bast XJ AJ n_b d0_434 (by omega) (by omega) hx8 (fun h19 T19 X19 A19 W19 => ?_)
            have A19 : own_I Z h19 b .byte 12 (own_u gJ (q.toInt + pp.toInt) jk) := by rw [← ip]; exact A19
            generalize eg19 : own_u gJ (q.toInt + pp.toInt) jk = g19 at A19
            have hbr : ¬ own_okd g19 q.toInt dg.toInt.toNat := by
              intro q1
              have q2 := q1 pp.toInt.toNat (by omega)
              have q3 : ((pp.toInt.toNat : Nat) : Int) = pp.toInt := by omega
              rw [q3, ← eg19, own_u_eq rfl] at q2
              omega
            refine own_blk X19 B0_435_437 B0_435_437d (ls' := #[.val (.int z0), .val (.int z1), .val (.int z2), .val (.int z3), .val (.int z4), .val (.long ns), .second, .val (.int q), .val (.int dg), .val (.ref b), .val (.int mm), .val (.int (1 : Int32)), .val (.int pp), .val (.int jk)]) (st' := [(.int (1 : Int32))]) rfl ?_
            refine own_if X19 d0_437 (pc' := 444) (by decide) (fun (c437 : (1 : Int) = 0) => by exfalso; omega) (fun c437 => ?_)
            have c437 : ¬ ((1 : Int) = 0) := c437
            refine own_blk X19 B0_440_441 B0_440_441d (ls' := #[.val (.int z0), .val (.int z1), .val (.int z2), .val (.int z3), .val (.int z4), .val (.long ns), .second, .val (.int q), .val (.int dg), .val (.ref b), .val (.int mm), .val (.int (1 : Int32)), .val (.int pp), .val (.int jk)]) (st' := [(.int (-1 : Int32))]) rfl ?_
            refine own_goto X19 d0_441 (pc' := 446) (by decide) ?_
            refine own_blk X19 B0_446_454 B0_446_454d (ls' := #[.val (.int z0), .val (.int z1), .val (.int z2), .val (.int z3), .val (.int z4), .val (.long ns), .second, .val (.int q), .val (.int dg), .val (.ref b), .val (.int mm), .val (.int (1 : Int32)), .val (.int (-1 : Int32)), .val (.int jk)]) (st' := [(.int dg), (.int q), (.ref b)]) rfl ?_
            refine own_callS X19 (hw _ (List.mem_of_getElem? (i := 10) rfl)) (hw _ (List.mem_of_getElem? (i := 11) rfl)) (hw _ (List.mem_of_getElem? (i := 12) rfl)) (hw _ (List.mem_of_getElem? (i := 13) rfl)) (by decide) (c_num l Z a0 hw b q dg g19 h19 n0 X19.2.1 A19 hq hd) d0_454 [(.ref b), (.int q), (.int dg)] [] rfl rfl pd3 rfl rfl (by decide) (Nat.le_of_ble_eq_true rfl) (by decide) (by decide) (fun _ _ q => by obtain ⟨_, _, q2, _⟩ := q; rw [q2]; exact X19.2.1) (fun v20 h20 T20 X20 q20 => ?_)
            obtain ⟨z20, rfl, e20, hz20⟩ := q20
            rw [e20] at X20
            show own_G p e below (T20.setTop (mkF m 457 #[.val (.int z0), .val (.int z1), .val (.int z2), .val (.int z3), .val (.int z4), .val (.long ns), .second, .val (.int q), .val (.int dg), .val (.ref b), .val (.int mm), .val (.int (1 : Int32)), .val (.int (-1 : Int32)), .val (.int jk)] [(.int z20)])) _
            refine own_blk X20 B0_457_459 B0_457_459d (ls' := #[.val (.int z0), .val (.int z1), .val (.int z2), .val (.int z3), .val (.int z4), .val (.long ns), .second, .val (.int q), .val (.int dg), .val (.ref b), .val (.int mm), .val (.int (1 : Int32)), .val (.int (-1 : Int32)), .val (.int jk)]) (st' := [(.int (-1 : Int32)), (.int z20)]) rfl ?_
            refine own_icmp X20 d0_459 (pc' := 466) (by decide) (fun (c459 : ¬ z20.toInt = -1) => by exfalso; rcases hz20 with q1 | q1; exact hbr q1.1; exact c459 q1.2) (fun c459 => ?_)
            have c459 : ¬ (¬ z20.toInt = -1) := c459
            refine own_blk X20 B0_462_463 B0_462_463d (ls' := #[.val (.int z0), .val (.int z1), .val (.int z2), .val (.int z3), .val (.int z4), .val (.long ns), .second, .val (.int q), .val (.int dg), .val (.ref b), .val (.int mm), .val (.int (1 : Int32)), .val (.int (-1 : Int32)), .val (.int jk)]) (st' := [(.int (1 : Int32))]) rfl ?_
            refine own_goto X20 d0_463 (pc' := 467) (by decide) ?_
            exact own_retN X20 (by simp) d0_467 (v' := (1 : Int32)) (rfl) (by decide) (by decide) (rfl)
          · have c414 : ¬ (57 < jk.toInt) := c414
            refine own_blk XJ B0_417_434 B0_417_434d (ls' := #[.val (.int z0), .val (.int z1), .val (.int z2), .val (.int z3), .val (.int z4), .val (.long ns), .second, .val (.int q), .val (.int dg), .val (.ref b), .val (.int mm), .val (.int (1 : Int32)), .val (.int pp), .val (.int (own_i2b (jk - (10 : Int32))))]) (st' := [(.int (own_i2b (jk - (10 : Int32)))), (.int (q + pp)), (.ref b)]) rfl ?_
            have hx1 : (jk - (10 : Int32)).toInt = jk.toInt - 10 := own_subc rfl (by omega) (by omega)
            have hx : (own_i2b (jk - (10 : Int32))).toInt < 48 ∨ 57 < (own_i2b (jk - (10 : Int32))).toInt := by rw [own_i2b_id (by omega) (by omega)]; omega
            have hx8 := own_i2b_fix (jk - (10 : Int32))
            refine own_bast XJ AJ n_b d0_434 (by omega) (by omega) hx8 (fun h21 T21 X21 A21 W21 => ?_)
            have A21 : own_I Z h21 b .byte 12 (own_u gJ (q.toInt + pp.toInt) (own_i2b (jk - (10 : Int32)))) := by rw [← ip]; exact A21
            generalize eg21 : own_u gJ (q.toInt + pp.toInt) (own_i2b (jk - (10 : Int32))) = g21 at A21
            have hbr : ¬ own_okd g21 q.toInt dg.toInt.toNat := by
              intro q1
              have q2 := q1 pp.toInt.toNat (by omega)
              have q3 : ((pp.toInt.toNat : Nat) : Int) = pp.toInt := by omega
              rw [q3, ← eg21, own_u_eq rfl] at q2
              omega
            refine own_blk X21 B0_435_437 B0_435_437d (ls' := #[.val (.int z0), .val (.int z1), .val (.int z2), .val (.int z3), .val (.int z4), .val (.long ns), .second, .val (.int q), .val (.int dg), .val (.ref b), .val (.int mm), .val (.int (1 : Int32)), .val (.int pp), .val (.int (own_i2b (jk - (10 : Int32))))]) (st' := [(.int (1 : Int32))]) rfl ?_
            refine own_if X21 d0_437 (pc' := 444) (by decide) (fun (c437 : (1 : Int) = 0) => by exfalso; omega) (fun c437 => ?_)
            have c437 : ¬ ((1 : Int) = 0) := c437
            refine own_blk X21 B0_440_441 B0_440_441d (ls' := #[.val (.int z0), .val (.int z1), .val (.int z2), .val (.int z3), .val (.int z4), .val (.long ns), .second, .val (.int q), .val (.int dg), .val (.ref b), .val (.int mm), .val (.int (1 : Int32)), .val (.int pp), .val (.int (own_i2b (jk - (10 : Int32))))]) (st' := [(.int (-1 : Int32))]) rfl ?_
            refine own_goto X21 d0_441 (pc' := 446) (by decide) ?_
            refine own_blk X21 B0_446_454 B0_446_454d (ls' := #[.val (.int z0), .val (.int z1), .val (.int z2), .val (.int z3), .val (.int z4), .val (.long ns), .second, .val (.int q), .val (.int dg), .val (.ref b), .val (.int mm), .val (.int (1 : Int32)), .val (.int (-1 : Int32)), .val (.int (own_i2b (jk - (10 : Int32))))]) (st' := [(.int dg), (.int q), (.ref b)]) rfl ?_
            refine own_callS X21 (hw _ (List.mem_of_getElem? (i := 10) rfl)) (hw _ (List.mem_of_getElem? (i := 11) rfl)) (hw _ (List.mem_of_getElem? (i := 12) rfl)) (hw _ (List.mem_of_getElem? (i := 13) rfl)) (by decide) (c_num l Z a0 hw b q dg g21 h21 n0 X21.2.1 A21 hq hd) d0_454 [(.ref b), (.int q), (.int dg)] [] rfl rfl pd3 rfl rfl (by decide) (Nat.le_of_ble_eq_true rfl) (by decide) (by decide) (fun _ _ q => by obtain ⟨_, _, q2, _⟩ := q; rw [q2]; exact X21.2.1) (fun v22 h22 T22 X22 q22 => ?_)
            obtain ⟨z22, rfl, e22, hz22⟩ := q22
            rw [e22] at X22
            show own_G p e below (T22.setTop (mkF m 457 #[.val (.int z0), .val (.int z1), .val (.int z2), .val (.int z3), .val (.int z4), .val (.long ns), .second, .val (.int q), .val (.int dg), .val (.ref b), .val (.int mm), .val (.int (1 : Int32)), .val (.int (-1 : Int32)), .val (.int (own_i2b (jk - (10 : Int32))))] [(.int z22)])) _
            refine own_blk X22 B0_457_459 B0_457_459d (ls' := #[.val (.int z0), .val (.int z1), .val (.int z2), .val (.int z3), .val (.int z4), .val (.long ns), .second, .val (.int q), .val (.int dg), .val (.ref b), .val (.int mm), .val (.int (1 : Int32)), .val (.int (-1 : Int32)), .val (.int (own_i2b (jk - (10 : Int32))))]) (st' := [(.int (-1 : Int32)), (.int z22)]) rfl ?_
            refine own_icmp X22 d0_459 (pc' := 466) (by decide) (fun (c459 : ¬ z22.toInt = -1) => by exfalso; rcases hz22 with q1 | q1; exact hbr q1.1; exact c459 q1.2) (fun c459 => ?_)
            have c459 : ¬ (¬ z22.toInt = -1) := c459
            refine own_blk X22 B0_462_463 B0_462_463d (ls' := #[.val (.int z0), .val (.int z1), .val (.int z2), .val (.int z3), .val (.int z4), .val (.long ns), .second, .val (.int q), .val (.int dg), .val (.ref b), .val (.int mm), .val (.int (1 : Int32)), .val (.int (-1 : Int32)), .val (.int (own_i2b (jk - (10 : Int32))))]) (st' := [(.int (1 : Int32))]) rfl ?_
            refine own_goto X22 d0_463 (pc' := 467) (by decide) ?_
            exact own_retN X22 (by simp) d0_467 (v' := (1 : Int32)) (rfl) (by decide) (by decide) (rfl)
  have J8 : ∀ (hJ : Heap) (TJ : State) (gJ : Int → Int32), own_X p l e room_1 s m #[(.int z0), (.int z1), (.int z2), (.int z3), (.int z4), (.long ns)] below meth c Z code maxLocals ret x n0 hJ TJ 1 12 → own_I Z hJ b .byte 12 gJ → (0 < dg.toInt → gJ (q.toInt + 0) = own_dg mm dg (0 : Int32)) → (1 < dg.toInt → gJ (q.toInt + 1) = own_dg mm dg (1 : Int32)) → (2 < dg.toInt → gJ (q.toInt + 2) = own_dg mm dg (2 : Int32)) → (3 < dg.toInt → gJ (q.toInt + 3) = own_dg mm dg (3 : Int32)) → (4 < dg.toInt → gJ (q.toInt + 4) = own_dg mm dg (4 : Int32)) → (5 < dg.toInt → gJ (q.toInt + 5) = own_dg mm dg (5 : Int32)) → (6 < dg.toInt → gJ (q.toInt + 6) = own_dg mm dg (6 : Int32)) → (7 < dg.toInt → gJ (q.toInt + 7) = own_dg mm dg (7 : Int32)) → own_G p e below (TJ.setTop (mkF m 340 #[.val (.int z0), .val (.int z1), .val (.int z2), .val (.int z3), .val (.int z4), .val (.long ns), .second, .val (.int q), .val (.int dg), .val (.ref b), .val (.int mm), .unset, .unset, .unset] [])) (own_E s n0 (fun v h => v = some (.int 1)) room_1.cells room_1.slots) := by
    intro hJ TJ gJ XJ AJ f0 f1 f2 f3 f4 f5 f6 f7
    refine own_blk XJ B0_340_344 B0_340_344d (ls' := #[.val (.int z0), .val (.int z1), .val (.int z2), .val (.int z3), .val (.int z4), .val (.long ns), .second, .val (.int q), .val (.int dg), .val (.ref b), .val (.int mm), .unset, .unset, .unset]) (st' := [(.int (8 : Int32)), (.int dg)]) rfl ?_
    refine own_icmp XJ d0_344 (pc' := 364) (by decide) (fun c344 => ?_) (fun c344 => ?_)
    · have c344 : dg.toInt ≤ 8 := c344
      exact J9 _ _ _ XJ AJ f0 f1 f2 f3 f4 f5 f6 f7 (fun q1 => absurd q1 (by omega))
    · have c344 : ¬ (dg.toInt ≤ 8) := c344
      refine own_blk XJ B0_347_360 B0_347_360d (ls' := #[.val (.int z0), .val (.int z1), .val (.int z2), .val (.int z3), .val (.int z4), .val (.long ns), .second, .val (.int q), .val (.int dg), .val (.ref b), .val (.int mm), .unset, .unset, .unset]) (st' := [(.int (8 : Int32)), (.int dg), (.int mm), (.int (q + (8 : Int32))), (.ref b)]) rfl ?_
      refine own_callP XJ (hw _ (List.mem_of_getElem? (i := 6) rfl)) (hw _ (List.mem_of_getElem? (i := 7) rfl)) (hw _ (List.mem_of_getElem? (i := 4) rfl)) (hw _ (List.mem_of_getElem? (i := 8) rfl)) (by decide) (c_dig l Z a0 hw mm dg (8 : Int32) hJ n0 XJ.2.1) d0_360 [(.int mm), (.int dg), (.int (8 : Int32))] [(.int (q + (8 : Int32))), (.ref b)] rfl rfl pd2 rfl rfl (by decide) (Nat.le_of_ble_eq_true rfl) (by decide) (by decide) (fun T23 X23 => ?_)
      show own_G p e below (T23.setTop (mkF m 363 #[.val (.int z0), .val (.int z1), .val (.int z2), .val (.int z3), .val (.int z4), .val (.long ns), .second, .val (.int q), .val (.int dg), .val (.ref b), .val (.int mm), .unset, .unset, .unset] [(.int (own_dg mm dg (8 : Int32))), (.int (q + (8 : Int32))), (.ref b)])) _
      refine own_bast X23 AJ n_b d0_363 (by omega) (by omega) (own_i2b_fix _) (fun h24 T24 X24 A24 W24 => ?_)
      have A24 : own_I Z h24 b .byte 12 (own_u gJ (q.toInt + 8) (own_dg mm dg (8 : Int32))) := by rw [← i8]; exact A24
      generalize eg24 : own_u gJ (q.toInt + 8) (own_dg mm dg (8 : Int32)) = g24 at A24
      exact J9 _ _ _ X24 A24 (fun q1 => by rw [← eg24, own_u_ne (by omega)]; exact f0 q1) (fun q1 => by rw [← eg24, own_u_ne (by omega)]; exact f1 q1) (fun q1 => by rw [← eg24, own_u_ne (by omega)]; exact f2 q1) (fun q1 => by rw [← eg24, own_u_ne (by omega)]; exact f3 q1) (fun q1 => by rw [← eg24, own_u_ne (by omega)]; exact f4 q1) (fun q1 => by rw [← eg24, own_u_ne (by omega)]; exact f5 q1) (fun q1 => by rw [← eg24, own_u_ne (by omega)]; exact f6 q1) (fun q1 => by rw [← eg24, own_u_ne (by omega)]; exact f7 q1) (fun _ => by rw [← eg24, own_u_eq rfl])
  have J7 : ∀ (hJ : Heap) (TJ : State) (gJ : Int → Int32), own_X p l e room_1 s m #[(.int z0), (.int z1), (.int z2), (.int z3), (.int z4), (.long ns)] below meth c Z code maxLocals ret x n0 hJ TJ 1 12 → own_I Z hJ b .byte 12 gJ → (0 < dg.toInt → gJ (q.toInt + 0) = own_dg mm dg (0 : Int32)) → (1 < dg.toInt → gJ (q.toInt + 1) = own_dg mm dg (1 : Int32)) → (2 < dg.toInt → gJ (q.toInt + 2) = own_dg mm dg (2 : Int32)) → (3 < dg.toInt → gJ (q.toInt + 3) = own_dg mm dg (3 : Int32)) → (4 < dg.toInt → gJ (q.toInt + 4) = own_dg mm dg (4 : Int32)) → (5 < dg.toInt → gJ (q.toInt + 5) = own_dg mm dg (5 : Int32)) → (6 < dg.toInt → gJ (q.toInt + 6) = own_dg mm dg (6 : Int32)) → own_G p e below (TJ.setTop (mkF m 316 #[.val (.int z0), .val (.int z1), .val (.int z2), .val (.int z3), .val (.int z4), .val (.long ns), .second, .val (.int q), .val (.int dg), .val (.ref b), .val (.int mm), .unset, .unset, .unset] [])) (own_E s n0 (fun v h => v = some (.int 1)) room_1.cells room_1.slots) := by
    intro hJ TJ gJ XJ AJ f0 f1 f2 f3 f4 f5 f6
    refine own_blk XJ B0_316_320 B0_316_320d (ls' := #[.val (.int z0), .val (.int z1), .val (.int z2), .val (.int z3), .val (.int z4), .val (.long ns), .second, .val (.int q), .val (.int dg), .val (.ref b), .val (.int mm), .unset, .unset, .unset]) (st' := [(.int (7 : Int32)), (.int dg)]) rfl ?_
    refine own_icmp XJ d0_320 (pc' := 340) (by decide) (fun c320 => ?_) (fun c320 => ?_)
    · have c320 : dg.toInt ≤ 7 := c320
      exact J8 _ _ _ XJ AJ f0 f1 f2 f3 f4 f5 f6 (fun q1 => absurd q1 (by omega))
    · have c320 : ¬ (dg.toInt ≤ 7) := c320
      refine own_blk XJ B0_323_336 B0_323_336d (ls' := #[.val (.int z0), .val (.int z1), .val (.int z2), .val (.int z3), .val (.int z4), .val (.long ns), .second, .val (.int q), .val (.int dg), .val (.ref b), .val (.int mm), .unset, .unset, .unset]) (st' := [(.int (7 : Int32)), (.int dg), (.int mm), (.int (q + (7 : Int32))), (.ref b)]) rfl ?_
      refine own_callP XJ (hw _ (List.mem_of_getElem? (i := 6) rfl)) (hw _ (List.mem_of_getElem? (i := 7) rfl)) (hw _ (List.mem_of_getElem? (i := 4) rfl)) (hw _ (List.mem_of_getElem? (i := 8) rfl)) (by decide) (c_dig l Z a0 hw mm dg (7 : Int32) hJ n0 XJ.2.1) d0_336 [(.int mm), (.int dg), (.int (7 : Int32))] [(.int (q + (7 : Int32))), (.ref b)] rfl rfl pd2 rfl rfl (by decide) (Nat.le_of_ble_eq_true rfl) (by decide) (by decide) (fun T25 X25 => ?_)
      show own_G p e below (T25.setTop (mkF m 339 #[.val (.int z0), .val (.int z1), .val (.int z2), .val (.int z3), .val (.int z4), .val (.long ns), .second, .val (.int q), .val (.int dg), .val (.ref b), .val (.int mm), .unset, .unset, .unset] [(.int (own_dg mm dg (7 : Int32))), (.int (q + (7 : Int32))), (.ref b)])) _
      refine own_bast X25 AJ n_b d0_339 (by omega) (by omega) (own_i2b_fix _) (fun h26 T26 X26 A26 W26 => ?_)
      have A26 : own_I Z h26 b .byte 12 (own_u gJ (q.toInt + 7) (own_dg mm dg (7 : Int32))) := by rw [← i7]; exact A26
      generalize eg26 : own_u gJ (q.toInt + 7) (own_dg mm dg (7 : Int32)) = g26 at A26
      exact J8 _ _ _ X26 A26 (fun q1 => by rw [← eg26, own_u_ne (by omega)]; exact f0 q1) (fun q1 => by rw [← eg26, own_u_ne (by omega)]; exact f1 q1) (fun q1 => by rw [← eg26, own_u_ne (by omega)]; exact f2 q1) (fun q1 => by rw [← eg26, own_u_ne (by omega)]; exact f3 q1) (fun q1 => by rw [← eg26, own_u_ne (by omega)]; exact f4 q1) (fun q1 => by rw [← eg26, own_u_ne (by omega)]; exact f5 q1) (fun q1 => by rw [← eg26, own_u_ne (by omega)]; exact f6 q1) (fun _ => by rw [← eg26, own_u_eq rfl])
  have J6 : ∀ (hJ : Heap) (TJ : State) (gJ : Int → Int32), own_X p l e room_1 s m #[(.int z0), (.int z1), (.int z2), (.int z3), (.int z4), (.long ns)] below meth c Z code maxLocals ret x n0 hJ TJ 1 12 → own_I Z hJ b .byte 12 gJ → (0 < dg.toInt → gJ (q.toInt + 0) = own_dg mm dg (0 : Int32)) → (1 < dg.toInt → gJ (q.toInt + 1) = own_dg mm dg (1 : Int32)) → (2 < dg.toInt → gJ (q.toInt + 2) = own_dg mm dg (2 : Int32)) → (3 < dg.toInt → gJ (q.toInt + 3) = own_dg mm dg (3 : Int32)) → (4 < dg.toInt → gJ (q.toInt + 4) = own_dg mm dg (4 : Int32)) → (5 < dg.toInt → gJ (q.toInt + 5) = own_dg mm dg (5 : Int32)) → own_G p e below (TJ.setTop (mkF m 292 #[.val (.int z0), .val (.int z1), .val (.int z2), .val (.int z3), .val (.int z4), .val (.long ns), .second, .val (.int q), .val (.int dg), .val (.ref b), .val (.int mm), .unset, .unset, .unset] [])) (own_E s n0 (fun v h => v = some (.int 1)) room_1.cells room_1.slots) := by
    intro hJ TJ gJ XJ AJ f0 f1 f2 f3 f4 f5
    refine own_blk XJ B0_292_296 B0_292_296d (ls' := #[.val (.int z0), .val (.int z1), .val (.int z2), .val (.int z3), .val (.int z4), .val (.long ns), .second, .val (.int q), .val (.int dg), .val (.ref b), .val (.int mm), .unset, .unset, .unset]) (st' := [(.int (6 : Int32)), (.int dg)]) rfl ?_
    refine own_icmp XJ d0_296 (pc' := 316) (by decide) (fun c296 => ?_) (fun c296 => ?_)
    · have c296 : dg.toInt ≤ 6 := c296
      exact J7 _ _ _ XJ AJ f0 f1 f2 f3 f4 f5 (fun q1 => absurd q1 (by omega))
    · have c296 : ¬ (dg.toInt ≤ 6) := c296
      refine own_blk XJ B0_299_312 B0_299_312d (ls' := #[.val (.int z0), .val (.int z1), .val (.int z2), .val (.int z3), .val (.int z4), .val (.long ns), .second, .val (.int q), .val (.int dg), .val (.ref b), .val (.int mm), .unset, .unset, .unset]) (st' := [(.int (6 : Int32)), (.int dg), (.int mm), (.int (q + (6 : Int32))), (.ref b)]) rfl ?_
      refine own_callP XJ (hw _ (List.mem_of_getElem? (i := 6) rfl)) (hw _ (List.mem_of_getElem? (i := 7) rfl)) (hw _ (List.mem_of_getElem? (i := 4) rfl)) (hw _ (List.mem_of_getElem? (i := 8) rfl)) (by decide) (c_dig l Z a0 hw mm dg (6 : Int32) hJ n0 XJ.2.1) d0_312 [(.int mm), (.int dg), (.int (6 : Int32))] [(.int (q + (6 : Int32))), (.ref b)] rfl rfl pd2 rfl rfl (by decide) (Nat.le_of_ble_eq_true rfl) (by decide) (by decide) (fun T27 X27 => ?_)
      show own_G p e below (T27.setTop (mkF m 315 #[.val (.int z0), .val (.int z1), .val (.int z2), .val (.int z3), .val (.int z4), .val (.long ns), .second, .val (.int q), .val (.int dg), .val (.ref b), .val (.int mm), .unset, .unset, .unset] [(.int (own_dg mm dg (6 : Int32))), (.int (q + (6 : Int32))), (.ref b)])) _
      refine own_bast X27 AJ n_b d0_315 (by omega) (by omega) (own_i2b_fix _) (fun h28 T28 X28 A28 W28 => ?_)
      have A28 : own_I Z h28 b .byte 12 (own_u gJ (q.toInt + 6) (own_dg mm dg (6 : Int32))) := by rw [← i6]; exact A28
      generalize eg28 : own_u gJ (q.toInt + 6) (own_dg mm dg (6 : Int32)) = g28 at A28
      exact J7 _ _ _ X28 A28 (fun q1 => by rw [← eg28, own_u_ne (by omega)]; exact f0 q1) (fun q1 => by rw [← eg28, own_u_ne (by omega)]; exact f1 q1) (fun q1 => by rw [← eg28, own_u_ne (by omega)]; exact f2 q1) (fun q1 => by rw [← eg28, own_u_ne (by omega)]; exact f3 q1) (fun q1 => by rw [← eg28, own_u_ne (by omega)]; exact f4 q1) (fun q1 => by rw [← eg28, own_u_ne (by omega)]; exact f5 q1) (fun _ => by rw [← eg28, own_u_eq rfl])
  have J5 : ∀ (hJ : Heap) (TJ : State) (gJ : Int → Int32), own_X p l e room_1 s m #[(.int z0), (.int z1), (.int z2), (.int z3), (.int z4), (.long ns)] below meth c Z code maxLocals ret x n0 hJ TJ 1 12 → own_I Z hJ b .byte 12 gJ → (0 < dg.toInt → gJ (q.toInt + 0) = own_dg mm dg (0 : Int32)) → (1 < dg.toInt → gJ (q.toInt + 1) = own_dg mm dg (1 : Int32)) → (2 < dg.toInt → gJ (q.toInt + 2) = own_dg mm dg (2 : Int32)) → (3 < dg.toInt → gJ (q.toInt + 3) = own_dg mm dg (3 : Int32)) → (4 < dg.toInt → gJ (q.toInt + 4) = own_dg mm dg (4 : Int32)) → own_G p e below (TJ.setTop (mkF m 271 #[.val (.int z0), .val (.int z1), .val (.int z2), .val (.int z3), .val (.int z4), .val (.long ns), .second, .val (.int q), .val (.int dg), .val (.ref b), .val (.int mm), .unset, .unset, .unset] [])) (own_E s n0 (fun v h => v = some (.int 1)) room_1.cells room_1.slots) := by
    intro hJ TJ gJ XJ AJ f0 f1 f2 f3 f4
    refine own_blk XJ B0_271_274 B0_271_274d (ls' := #[.val (.int z0), .val (.int z1), .val (.int z2), .val (.int z3), .val (.int z4), .val (.long ns), .second, .val (.int q), .val (.int dg), .val (.ref b), .val (.int mm), .unset, .unset, .unset]) (st' := [(.int (5 : Int32)), (.int dg)]) rfl ?_
    refine own_icmp XJ d0_274 (pc' := 292) (by decide) (fun c274 => ?_) (fun c274 => ?_)
    · have c274 : dg.toInt ≤ 5 := c274
      exact J6 _ _ _ XJ AJ f0 f1 f2 f3 f4 (fun q1 => absurd q1 (by omega))
    · have c274 : ¬ (dg.toInt ≤ 5) := c274
      refine own_blk XJ B0_277_288 B0_277_288d (ls' := #[.val (.int z0), .val (.int z1), .val (.int z2), .val (.int z3), .val (.int z4), .val (.long ns), .second, .val (.int q), .val (.int dg), .val (.ref b), .val (.int mm), .unset, .unset, .unset]) (st' := [(.int (5 : Int32)), (.int dg), (.int mm), (.int (q + (5 : Int32))), (.ref b)]) rfl ?_
      refine own_callP XJ (hw _ (List.mem_of_getElem? (i := 6) rfl)) (hw _ (List.mem_of_getElem? (i := 7) rfl)) (hw _ (List.mem_of_getElem? (i := 4) rfl)) (hw _ (List.mem_of_getElem? (i := 8) rfl)) (by decide) (c_dig l Z a0 hw mm dg (5 : Int32) hJ n0 XJ.2.1) d0_288 [(.int mm), (.int dg), (.int (5 : Int32))] [(.int (q + (5 : Int32))), (.ref b)] rfl rfl pd2 rfl rfl (by decide) (Nat.le_of_ble_eq_true rfl) (by decide) (by decide) (fun T29 X29 => ?_)
      show own_G p e below (T29.setTop (mkF m 291 #[.val (.int z0), .val (.int z1), .val (.int z2), .val (.int z3), .val (.int z4), .val (.long ns), .second, .val (.int q), .val (.int dg), .val (.ref b), .val (.int mm), .unset, .unset, .unset] [(.int (own_dg mm dg (5 : Int32))), (.int (q + (5 : Int32))), (.ref b)])) _
      refine own_bast X29 AJ n_b d0_291 (by omega) (by omega) (own_i2b_fix _) (fun h30 T30 X30 A30 W30 => ?_)
      have A30 : own_I Z h30 b .byte 12 (own_u gJ (q.toInt + 5) (own_dg mm dg (5 : Int32))) := by rw [← i5]; exact A30
      generalize eg30 : own_u gJ (q.toInt + 5) (own_dg mm dg (5 : Int32)) = g30 at A30
      exact J6 _ _ _ X30 A30 (fun q1 => by rw [← eg30, own_u_ne (by omega)]; exact f0 q1) (fun q1 => by rw [← eg30, own_u_ne (by omega)]; exact f1 q1) (fun q1 => by rw [← eg30, own_u_ne (by omega)]; exact f2 q1) (fun q1 => by rw [← eg30, own_u_ne (by omega)]; exact f3 q1) (fun q1 => by rw [← eg30, own_u_ne (by omega)]; exact f4 q1) (fun _ => by rw [← eg30, own_u_eq rfl])
  have J4 : ∀ (hJ : Heap) (TJ : State) (gJ : Int → Int32), own_X p l e room_1 s m #[(.int z0), (.int z1), (.int z2), (.int z3), (.int z4), (.long ns)] below meth c Z code maxLocals ret x n0 hJ TJ 1 12 → own_I Z hJ b .byte 12 gJ → (0 < dg.toInt → gJ (q.toInt + 0) = own_dg mm dg (0 : Int32)) → (1 < dg.toInt → gJ (q.toInt + 1) = own_dg mm dg (1 : Int32)) → (2 < dg.toInt → gJ (q.toInt + 2) = own_dg mm dg (2 : Int32)) → (3 < dg.toInt → gJ (q.toInt + 3) = own_dg mm dg (3 : Int32)) → own_G p e below (TJ.setTop (mkF m 250 #[.val (.int z0), .val (.int z1), .val (.int z2), .val (.int z3), .val (.int z4), .val (.long ns), .second, .val (.int q), .val (.int dg), .val (.ref b), .val (.int mm), .unset, .unset, .unset] [])) (own_E s n0 (fun v h => v = some (.int 1)) room_1.cells room_1.slots) := by
    intro hJ TJ gJ XJ AJ f0 f1 f2 f3
    refine own_blk XJ B0_250_253 B0_250_253d (ls' := #[.val (.int z0), .val (.int z1), .val (.int z2), .val (.int z3), .val (.int z4), .val (.long ns), .second, .val (.int q), .val (.int dg), .val (.ref b), .val (.int mm), .unset, .unset, .unset]) (st' := [(.int (4 : Int32)), (.int dg)]) rfl ?_
    refine own_icmp XJ d0_253 (pc' := 271) (by decide) (fun c253 => ?_) (fun c253 => ?_)
    · have c253 : dg.toInt ≤ 4 := c253
      exact J5 _ _ _ XJ AJ f0 f1 f2 f3 (fun q1 => absurd q1 (by omega))
    · have c253 : ¬ (dg.toInt ≤ 4) := c253
      refine own_blk XJ B0_256_267 B0_256_267d (ls' := #[.val (.int z0), .val (.int z1), .val (.int z2), .val (.int z3), .val (.int z4), .val (.long ns), .second, .val (.int q), .val (.int dg), .val (.ref b), .val (.int mm), .unset, .unset, .unset]) (st' := [(.int (4 : Int32)), (.int dg), (.int mm), (.int (q + (4 : Int32))), (.ref b)]) rfl ?_
      refine own_callP XJ (hw _ (List.mem_of_getElem? (i := 6) rfl)) (hw _ (List.mem_of_getElem? (i := 7) rfl)) (hw _ (List.mem_of_getElem? (i := 4) rfl)) (hw _ (List.mem_of_getElem? (i := 8) rfl)) (by decide) (c_dig l Z a0 hw mm dg (4 : Int32) hJ n0 XJ.2.1) d0_267 [(.int mm), (.int dg), (.int (4 : Int32))] [(.int (q + (4 : Int32))), (.ref b)] rfl rfl pd2 rfl rfl (by decide) (Nat.le_of_ble_eq_true rfl) (by decide) (by decide) (fun T31 X31 => ?_)
      show own_G p e below (T31.setTop (mkF m 270 #[.val (.int z0), .val (.int z1), .val (.int z2), .val (.int z3), .val (.int z4), .val (.long ns), .second, .val (.int q), .val (.int dg), .val (.ref b), .val (.int mm), .unset, .unset, .unset] [(.int (own_dg mm dg (4 : Int32))), (.int (q + (4 : Int32))), (.ref b)])) _
      refine own_bast X31 AJ n_b d0_270 (by omega) (by omega) (own_i2b_fix _) (fun h32 T32 X32 A32 W32 => ?_)
      have A32 : own_I Z h32 b .byte 12 (own_u gJ (q.toInt + 4) (own_dg mm dg (4 : Int32))) := by rw [← i4]; exact A32
      generalize eg32 : own_u gJ (q.toInt + 4) (own_dg mm dg (4 : Int32)) = g32 at A32
      exact J5 _ _ _ X32 A32 (fun q1 => by rw [← eg32, own_u_ne (by omega)]; exact f0 q1) (fun q1 => by rw [← eg32, own_u_ne (by omega)]; exact f1 q1) (fun q1 => by rw [← eg32, own_u_ne (by omega)]; exact f2 q1) (fun q1 => by rw [← eg32, own_u_ne (by omega)]; exact f3 q1) (fun _ => by rw [← eg32, own_u_eq rfl])
  have J3 : ∀ (hJ : Heap) (TJ : State) (gJ : Int → Int32), own_X p l e room_1 s m #[(.int z0), (.int z1), (.int z2), (.int z3), (.int z4), (.long ns)] below meth c Z code maxLocals ret x n0 hJ TJ 1 12 → own_I Z hJ b .byte 12 gJ → (0 < dg.toInt → gJ (q.toInt + 0) = own_dg mm dg (0 : Int32)) → (1 < dg.toInt → gJ (q.toInt + 1) = own_dg mm dg (1 : Int32)) → (2 < dg.toInt → gJ (q.toInt + 2) = own_dg mm dg (2 : Int32)) → own_G p e below (TJ.setTop (mkF m 229 #[.val (.int z0), .val (.int z1), .val (.int z2), .val (.int z3), .val (.int z4), .val (.long ns), .second, .val (.int q), .val (.int dg), .val (.ref b), .val (.int mm), .unset, .unset, .unset] [])) (own_E s n0 (fun v h => v = some (.int 1)) room_1.cells room_1.slots) := by
    intro hJ TJ gJ XJ AJ f0 f1 f2
    refine own_blk XJ B0_229_232 B0_229_232d (ls' := #[.val (.int z0), .val (.int z1), .val (.int z2), .val (.int z3), .val (.int z4), .val (.long ns), .second, .val (.int q), .val (.int dg), .val (.ref b), .val (.int mm), .unset, .unset, .unset]) (st' := [(.int (3 : Int32)), (.int dg)]) rfl ?_
    refine own_icmp XJ d0_232 (pc' := 250) (by decide) (fun c232 => ?_) (fun c232 => ?_)
    · have c232 : dg.toInt ≤ 3 := c232
      exact J4 _ _ _ XJ AJ f0 f1 f2 (fun q1 => absurd q1 (by omega))
    · have c232 : ¬ (dg.toInt ≤ 3) := c232
      refine own_blk XJ B0_235_246 B0_235_246d (ls' := #[.val (.int z0), .val (.int z1), .val (.int z2), .val (.int z3), .val (.int z4), .val (.long ns), .second, .val (.int q), .val (.int dg), .val (.ref b), .val (.int mm), .unset, .unset, .unset]) (st' := [(.int (3 : Int32)), (.int dg), (.int mm), (.int (q + (3 : Int32))), (.ref b)]) rfl ?_
      refine own_callP XJ (hw _ (List.mem_of_getElem? (i := 6) rfl)) (hw _ (List.mem_of_getElem? (i := 7) rfl)) (hw _ (List.mem_of_getElem? (i := 4) rfl)) (hw _ (List.mem_of_getElem? (i := 8) rfl)) (by decide) (c_dig l Z a0 hw mm dg (3 : Int32) hJ n0 XJ.2.1) d0_246 [(.int mm), (.int dg), (.int (3 : Int32))] [(.int (q + (3 : Int32))), (.ref b)] rfl rfl pd2 rfl rfl (by decide) (Nat.le_of_ble_eq_true rfl) (by decide) (by decide) (fun T33 X33 => ?_)
      show own_G p e below (T33.setTop (mkF m 249 #[.val (.int z0), .val (.int z1), .val (.int z2), .val (.int z3), .val (.int z4), .val (.long ns), .second, .val (.int q), .val (.int dg), .val (.ref b), .val (.int mm), .unset, .unset, .unset] [(.int (own_dg mm dg (3 : Int32))), (.int (q + (3 : Int32))), (.ref b)])) _
      refine own_bast X33 AJ n_b d0_249 (by omega) (by omega) (own_i2b_fix _) (fun h34 T34 X34 A34 W34 => ?_)
      have A34 : own_I Z h34 b .byte 12 (own_u gJ (q.toInt + 3) (own_dg mm dg (3 : Int32))) := by rw [← i3]; exact A34
      generalize eg34 : own_u gJ (q.toInt + 3) (own_dg mm dg (3 : Int32)) = g34 at A34
      exact J4 _ _ _ X34 A34 (fun q1 => by rw [← eg34, own_u_ne (by omega)]; exact f0 q1) (fun q1 => by rw [← eg34, own_u_ne (by omega)]; exact f1 q1) (fun q1 => by rw [← eg34, own_u_ne (by omega)]; exact f2 q1) (fun _ => by rw [← eg34, own_u_eq rfl])
  have J2 : ∀ (hJ : Heap) (TJ : State) (gJ : Int → Int32), own_X p l e room_1 s m #[(.int z0), (.int z1), (.int z2), (.int z3), (.int z4), (.long ns)] below meth c Z code maxLocals ret x n0 hJ TJ 1 12 → own_I Z hJ b .byte 12 gJ → (0 < dg.toInt → gJ (q.toInt + 0) = own_dg mm dg (0 : Int32)) → (1 < dg.toInt → gJ (q.toInt + 1) = own_dg mm dg (1 : Int32)) → own_G p e below (TJ.setTop (mkF m 208 #[.val (.int z0), .val (.int z1), .val (.int z2), .val (.int z3), .val (.int z4), .val (.long ns), .second, .val (.int q), .val (.int dg), .val (.ref b), .val (.int mm), .unset, .unset, .unset] [])) (own_E s n0 (fun v h => v = some (.int 1)) room_1.cells room_1.slots) := by
    intro hJ TJ gJ XJ AJ f0 f1
    refine own_blk XJ B0_208_211 B0_208_211d (ls' := #[.val (.int z0), .val (.int z1), .val (.int z2), .val (.int z3), .val (.int z4), .val (.long ns), .second, .val (.int q), .val (.int dg), .val (.ref b), .val (.int mm), .unset, .unset, .unset]) (st' := [(.int (2 : Int32)), (.int dg)]) rfl ?_
    refine own_icmp XJ d0_211 (pc' := 229) (by decide) (fun c211 => ?_) (fun c211 => ?_)
    · have c211 : dg.toInt ≤ 2 := c211
      exact J3 _ _ _ XJ AJ f0 f1 (fun q1 => absurd q1 (by omega))
    · have c211 : ¬ (dg.toInt ≤ 2) := c211
      refine own_blk XJ B0_214_225 B0_214_225d (ls' := #[.val (.int z0), .val (.int z1), .val (.int z2), .val (.int z3), .val (.int z4), .val (.long ns), .second, .val (.int q), .val (.int dg), .val (.ref b), .val (.int mm), .unset, .unset, .unset]) (st' := [(.int (2 : Int32)), (.int dg), (.int mm), (.int (q + (2 : Int32))), (.ref b)]) rfl ?_
      refine own_callP XJ (hw _ (List.mem_of_getElem? (i := 6) rfl)) (hw _ (List.mem_of_getElem? (i := 7) rfl)) (hw _ (List.mem_of_getElem? (i := 4) rfl)) (hw _ (List.mem_of_getElem? (i := 8) rfl)) (by decide) (c_dig l Z a0 hw mm dg (2 : Int32) hJ n0 XJ.2.1) d0_225 [(.int mm), (.int dg), (.int (2 : Int32))] [(.int (q + (2 : Int32))), (.ref b)] rfl rfl pd2 rfl rfl (by decide) (Nat.le_of_ble_eq_true rfl) (by decide) (by decide) (fun T35 X35 => ?_)
      show own_G p e below (T35.setTop (mkF m 228 #[.val (.int z0), .val (.int z1), .val (.int z2), .val (.int z3), .val (.int z4), .val (.long ns), .second, .val (.int q), .val (.int dg), .val (.ref b), .val (.int mm), .unset, .unset, .unset] [(.int (own_dg mm dg (2 : Int32))), (.int (q + (2 : Int32))), (.ref b)])) _
      refine own_bast X35 AJ n_b d0_228 (by omega) (by omega) (own_i2b_fix _) (fun h36 T36 X36 A36 W36 => ?_)
      have A36 : own_I Z h36 b .byte 12 (own_u gJ (q.toInt + 2) (own_dg mm dg (2 : Int32))) := by rw [← i2]; exact A36
      generalize eg36 : own_u gJ (q.toInt + 2) (own_dg mm dg (2 : Int32)) = g36 at A36
      exact J3 _ _ _ X36 A36 (fun q1 => by rw [← eg36, own_u_ne (by omega)]; exact f0 q1) (fun q1 => by rw [← eg36, own_u_ne (by omega)]; exact f1 q1) (fun _ => by rw [← eg36, own_u_eq rfl])
  have J1 : ∀ (hJ : Heap) (TJ : State) (gJ : Int → Int32), own_X p l e room_1 s m #[(.int z0), (.int z1), (.int z2), (.int z3), (.int z4), (.long ns)] below meth c Z code maxLocals ret x n0 hJ TJ 1 12 → own_I Z hJ b .byte 12 gJ → (0 < dg.toInt → gJ (q.toInt + 0) = own_dg mm dg (0 : Int32)) → own_G p e below (TJ.setTop (mkF m 187 #[.val (.int z0), .val (.int z1), .val (.int z2), .val (.int z3), .val (.int z4), .val (.long ns), .second, .val (.int q), .val (.int dg), .val (.ref b), .val (.int mm), .unset, .unset, .unset] [])) (own_E s n0 (fun v h => v = some (.int 1)) room_1.cells room_1.slots) := by
    intro hJ TJ gJ XJ AJ f0
    refine own_blk XJ B0_187_190 B0_187_190d (ls' := #[.val (.int z0), .val (.int z1), .val (.int z2), .val (.int z3), .val (.int z4), .val (.long ns), .second, .val (.int q), .val (.int dg), .val (.ref b), .val (.int mm), .unset, .unset, .unset]) (st' := [(.int (1 : Int32)), (.int dg)]) rfl ?_
    refine own_icmp XJ d0_190 (pc' := 208) (by decide) (fun c190 => ?_) (fun c190 => ?_)
    · have c190 : dg.toInt ≤ 1 := c190
      exact J2 _ _ _ XJ AJ f0 (fun q1 => absurd q1 (by omega))
    · have c190 : ¬ (dg.toInt ≤ 1) := c190
      refine own_blk XJ B0_193_204 B0_193_204d (ls' := #[.val (.int z0), .val (.int z1), .val (.int z2), .val (.int z3), .val (.int z4), .val (.long ns), .second, .val (.int q), .val (.int dg), .val (.ref b), .val (.int mm), .unset, .unset, .unset]) (st' := [(.int (1 : Int32)), (.int dg), (.int mm), (.int (q + (1 : Int32))), (.ref b)]) rfl ?_
      refine own_callP XJ (hw _ (List.mem_of_getElem? (i := 6) rfl)) (hw _ (List.mem_of_getElem? (i := 7) rfl)) (hw _ (List.mem_of_getElem? (i := 4) rfl)) (hw _ (List.mem_of_getElem? (i := 8) rfl)) (by decide) (c_dig l Z a0 hw mm dg (1 : Int32) hJ n0 XJ.2.1) d0_204 [(.int mm), (.int dg), (.int (1 : Int32))] [(.int (q + (1 : Int32))), (.ref b)] rfl rfl pd2 rfl rfl (by decide) (Nat.le_of_ble_eq_true rfl) (by decide) (by decide) (fun T37 X37 => ?_)
      show own_G p e below (T37.setTop (mkF m 207 #[.val (.int z0), .val (.int z1), .val (.int z2), .val (.int z3), .val (.int z4), .val (.long ns), .second, .val (.int q), .val (.int dg), .val (.ref b), .val (.int mm), .unset, .unset, .unset] [(.int (own_dg mm dg (1 : Int32))), (.int (q + (1 : Int32))), (.ref b)])) _
      refine own_bast X37 AJ n_b d0_207 (by omega) (by omega) (own_i2b_fix _) (fun h38 T38 X38 A38 W38 => ?_)
      have A38 : own_I Z h38 b .byte 12 (own_u gJ (q.toInt + 1) (own_dg mm dg (1 : Int32))) := by rw [← i1]; exact A38
      generalize eg38 : own_u gJ (q.toInt + 1) (own_dg mm dg (1 : Int32)) = g38 at A38
      exact J2 _ _ _ X38 A38 (fun q1 => by rw [← eg38, own_u_ne (by omega)]; exact f0 q1) (fun _ => by rw [← eg38, own_u_eq rfl])
  refine own_blk X14 B0_169_171 B0_169_171d (ls' := #[.val (.int z0), .val (.int z1), .val (.int z2), .val (.int z3), .val (.int z4), .val (.long ns), .second, .val (.int q), .val (.int dg), .val (.ref b), .val (.int mm), .unset, .unset, .unset]) (st' := [(.int dg)]) rfl ?_
  refine own_if X14 d0_171 (pc' := 187) (by decide) (fun c171 => ?_) (fun c171 => ?_)
  · have c171 : dg.toInt ≤ 0 := c171
    exact J1 _ _ _ X14 A13 (fun q1 => absurd q1 (by omega))
  · have c171 : ¬ (dg.toInt ≤ 0) := c171
    refine own_blk X14 B0_174_183 B0_174_183d (ls' := #[.val (.int z0), .val (.int z1), .val (.int z2), .val (.int z3), .val (.int z4), .val (.long ns), .second, .val (.int q), .val (.int dg), .val (.ref b), .val (.int mm), .unset, .unset, .unset]) (st' := [(.int (0 : Int32)), (.int dg), (.int mm), (.int q), (.ref b)]) rfl ?_
    refine own_callP X14 (hw _ (List.mem_of_getElem? (i := 6) rfl)) (hw _ (List.mem_of_getElem? (i := 7) rfl)) (hw _ (List.mem_of_getElem? (i := 4) rfl)) (hw _ (List.mem_of_getElem? (i := 8) rfl)) (by decide) (c_dig l Z a0 hw mm dg (0 : Int32) h13 n0 X14.2.1) d0_183 [(.int mm), (.int dg), (.int (0 : Int32))] [(.int q), (.ref b)] rfl rfl pd2 rfl rfl (by decide) (Nat.le_of_ble_eq_true rfl) (by decide) (by decide) (fun T39 X39 => ?_)
    show own_G p e below (T39.setTop (mkF m 186 #[.val (.int z0), .val (.int z1), .val (.int z2), .val (.int z3), .val (.int z4), .val (.long ns), .second, .val (.int q), .val (.int dg), .val (.ref b), .val (.int mm), .unset, .unset, .unset] [(.int (own_dg mm dg (0 : Int32))), (.int q), (.ref b)])) _
    refine own_bast X39 A13 n_b d0_186 (by omega) (by omega) (own_i2b_fix _) (fun h40 T40 X40 A40 W40 => ?_)
    have A40 : own_I Z h40 b .byte 12 (own_u g13 (q.toInt + 0) (own_dg mm dg (0 : Int32))) := by rw [← i0]; exact A40
    generalize eg40 : own_u g13 (q.toInt + 0) (own_dg mm dg (0 : Int32)) = g40 at A40
    exact J1 _ _ _ X40 A40 (fun _ => by rw [← eg40, own_u_eq rfl])
set_option maxRecDepth 65536 in
set_option maxHeartbeats 40000000 in
theorem comes_1 {Post : Tables → Env → Array Value → State → Outcome → State → Prop} (hpost : ∀ tb e args s v u, (limb_1_1.after args s (.returned v) u = true ∧ limb_1_2.after args s (.returned v) u = true ∧ True) → FrameEnd s (.returned v) u (Jvm.fieldLocs frame_1_writes args s ++ Jvm.arrayLocs frame_1_arrays args s ++ Jvm.staticLocs frame_1_statics s) 16 128 → Post tb e args s (.returned v) u) :
    ArmFor flags0 classFile x code maxLocals ret World_1 tables_1 room_1 Calls_1 rest_1 Pre_1 Post := by
  intro l hfl _ _ p e ha hc hk s m args below hf hA hF happ hP
  obtain ⟨hcalls, hrest, hpre⟩ := hP
  obtain ⟨-, -, -, hnamed, -, -, -, hat⟩ := (Spec.applies_iff hf).mp happ
  obtain ⟨hg, hn⟩ := and_e (Cond.before_iff.mp (show (Jvm.Cond.and given_1 narrow_1).before args s = true from hpre))
  obtain ⟨gc, g0⟩ := and_e hg
  obtain ⟨q0, g1⟩ := and_e g0
  obtain ⟨q1, g2⟩ := and_e g1
  obtain ⟨q2, g3⟩ := and_e g2
  obtain ⟨q3, g4⟩ := and_e g3
  obtain ⟨q4, g5⟩ := and_e g4
  obtain ⟨w0, w1, w2, w3, w4, w5, rfl⟩ : ∃ w0 w1 w2 w3 w4 w5 : Value, args = #[w0, w1, w2, w3, w4, w5] := by
    have hs : args.size = 6 := by simpa [Cond.value, given_1] using gc
    obtain ⟨L⟩ := args
    match L, hs with
    | [w0, w1, w2, w3, w4, w5], _ => exact ⟨w0, w1, w2, w3, w4, w5, rfl⟩
  have hw := fun d (hd : d ∈ tables_1) => atoms_spec (ws := Jvm.Cond.code x code maxLocals ret :: tables_1) hat d (List.mem_cons_of_mem _ hd)
  obtain ⟨i0, ei0⟩ := is_v q0
  obtain rfl : w0 = (.int i0) := Option.some.inj ei0
  obtain ⟨i1, ei1⟩ := is_v q1
  obtain rfl : w1 = (.int i1) := Option.some.inj ei1
  obtain ⟨i2, ei2⟩ := is_v q2
  obtain rfl : w2 = (.int i2) := Option.some.inj ei2
  obtain ⟨i3, ei3⟩ := is_v q3
  obtain rfl : w3 = (.int i3) := Option.some.inj ei3
  obtain ⟨i4, ei4⟩ := is_v q4
  obtain rfl : w4 = (.int i4) := Option.some.inj ei4
  obtain ⟨i5, ei5⟩ := isL_v g5
  obtain rfl : w5 = (.long i5) := Option.some.inj ei5
  obtain ⟨n, o, h1, h2, h3, _, L, rfl, ⟨N, rfl⟩, hq⟩ := c_law l s _ hw i0 i1 i2 i3 i4 i5 s.heap s.heap.size (Nat.le_refl _) tables_1 p e ha hc hk s m _ below hf ((Spec.applies_iff_loose hf).mp happ).1 ⟨rfl, State.Warmed39.refl s, rfl⟩ trivial
  refine ⟨n, _, h1, h2, h3, hpost _ _ _ _ _ _ ⟨Cond.after_iff.mpr rfl, Cond.after_iff.mpr (eq_i res_at (Term.int_eval (1)) rfl), trivial⟩ ⟨hq.1, hq.2.1, (hq.2.2.sift fun y hy => Or.inr (N y hy)).mono (by decide) (by decide)⟩⟩
theorem main_1_1 : Claimed_1_1 := comes_1 fun _ _ _ _ _ _ h hF => ⟨h.1, hF⟩
theorem main_1_2 : Claimed_1_2 := comes_1 fun _ _ _ _ _ _ h hF => ⟨h.2.1, hF⟩
end Jvm.Pilot.@@N@@
namespace Jvm.Pilot.@@N@@
open Jvm Jvm.ClassFile Sem Op Lib Jvm.Free Jvm.Stand Jvm.Pilot.@@N@@.Jvm.D
/-! MADE BY PROGRAM (witnessworld.py) out of the Statement's table words and the real class files: 9 classes; the members and pool entries that the words name. The judged class is class 1, her method 3. -/
namespace start1
open Jvm.ClassFile
def u (s : String) : CpInfo := .utf8 (stringToUtf16 s)
/-- a pool by its gaps: so many unusable entries, then the entry; so many at the end -/
def gap : Nat → List CpInfo → List CpInfo
  | 0, r => r
  | n + 1, r => .unusable :: gap n r
def poolList (es : List (Nat × CpInfo)) (last : Nat) : List CpInfo := es.foldr (fun e r => gap e.1 (e.2 :: r)) (gap last [])
def pool (es : List (Nat × CpInfo)) (last : Nat) : Array CpInfo := ⟨poolList es last⟩
def fileOf (pool : Array CpInfo) (this : Nat) (attrs : Array Attribute := #[]) (ms : Array MethodInfo := #[]) (fl : Nat := 33) (sup : Nat := 0) (ifs : Array Nat := #[]) (fds : Array FieldInfo := #[]) : ClassFile where
  minorVersion := 0
  majorVersion := 65
  constantPool := pool
  accessFlags := fl
  thisClass := this
  superClass := sup
  interfaces := ifs
  fields := fds
  methods := ms
  attributes := attrs
def plain (name : String) (sup : Option ClassId) : Class where
  name := name
  kind := .ordinary
  loader := none
  accessFlags := 33
  super := sup
  interfaces := #[]
  cf := none
  fields := #[]
  methods := #[]
  instanceTypes := #[]
  staticTypes := #[]
  resolved := #[]
  callSites := []
  init := .initialized
  statics := none
  mirror := none

def pool0 : Array CpInfo := pool [(5, u "<init>"), (0, u "()V"), (1, .class_ 10), (1, u "java/lang/Object")] 113

def k0m0 : Method := { name := "<init>", desc := "()V", sig := { parameters := [], returnType := none }, accessFlags := 1, code := none }
/-- java/lang/Object -/
def k0 : Class := { plain "java/lang/Object" none with
  accessFlags := 33
  interfaces := #[]
  cf := some (fileOf pool0 8 #[] #[{ accessFlags := 1, nameIndex := 5, descriptorIndex := 6, attributes := #[] }] 33 0 #[] #[])
  fields := #[]
  methods := #[k0m0]
  instanceTypes := #[]
  staticTypes := #[]
  resolved := Array.replicate 124 none
  statics := none }

def pool1 : Array CpInfo := pool [(2, .class_ 4), (1, u "java/lang/Object"), (0, u "<init>"), (0, u "()V"), (0, .integer 100000), (0, .integer 1000000), (0, .integer 10000000), (0, .integer 100000000), (0, .integer 1000000000), (0, .methodref 13 14), (0, .class_ 15), (0, .nameAndType 16 17), (0, u "com/example/vedette/vedette/model/Iso2709NumberPinLaw"), (0, u "pow10"), (0, u "(I)I"), (0, .integer 2147483647), (0, .methodref 13 20), (0, .nameAndType 21 22), (0, u "digit"), (0, u "(III)B"), (0, .integer 1073741823), (0, .methodref 25 26), (0, .class_ 27), (0, .nameAndType 28 29), (0, u "com/example/vedette/vedette/model/Iso2709"), (0, u "number"), (0, u "([BII)I"), (3, u "law"), (0, u "(IIIIIJ)Z")] 4

def k1m0 : Method := { name := "<init>", desc := "()V", sig := { parameters := [], returnType := none }, accessFlags := 1, code := none }
def k1c1 : Code := { maxStack := 2, maxLocals := 1, code := method_2_code, exceptionTable := #[], attributes := #[] }
def k1m1 : Method := { name := "pow10", desc := "(I)I", sig := { parameters := [.int], returnType := some .int }, accessFlags := 10, code := some k1c1 }
def k1c2 : Code := { maxStack := 4, maxLocals := 3, code := method_3_code, exceptionTable := #[], attributes := #[] }
def k1m2 : Method := { name := "digit", desc := "(III)B", sig := { parameters := [.int, .int, .int], returnType := some .byte }, accessFlags := 10, code := some k1c2 }
def k1c3 : Code := { maxStack := 5, maxLocals := 14, code := code, exceptionTable := #[], attributes := #[] }
def k1m3 : Method := { name := "law", desc := "(IIIIIJ)Z", sig := { parameters := [.int, .int, .int, .int, .int, .long], returnType := some .boolean }, accessFlags := 9, code := some k1c3 }
/-- com/example/vedette/vedette/model/Iso2709NumberPinLaw -/
def k1 : Class := { plain "com/example/vedette/vedette/model/Iso2709NumberPinLaw" (some 0) with
  accessFlags := 49
  interfaces := #[]
  cf := some (fileOf pool1 13 #[] #[{ accessFlags := 1, nameIndex := 5, descriptorIndex := 6, attributes := #[] }, { accessFlags := 10, nameIndex := 16, descriptorIndex := 17, attributes := #[] }, { accessFlags := 10, nameIndex := 21, descriptorIndex := 22, attributes := #[] }, { accessFlags := 9, nameIndex := 33, descriptorIndex := 34, attributes := #[] }] 49 2 #[] #[])
  fields := #[]
  methods := #[k1m0, k1m1, k1m2, k1m3]
  instanceTypes := #[]
  staticTypes := #[]
  resolved := Array.replicate 39 none
  statics := none }

def pool2 : Array CpInfo := pool [(2, .class_ 4), (1, u "java/lang/Object"), (0, u "<init>"), (0, u "()V"), (0, .class_ 8), (0, u "com/example/vedette/vedette/model/Iso2709"), (0, u "RECORD_TERMINATOR"), (0, u "B"), (2, u "FIELD_TERMINATOR"), (1, u "DELIMITER"), (1, u "MAX_RECORD_LENGTH"), (0, u "I"), (1, u "MAX_FIELD_LENGTH"), (1, u "RECORD_LENGTH_AT"), (1, u "RECORD_LENGTH_DIGITS"), (1, u "BASE_ADDRESS_AT"), (1, u "BASE_ADDRESS_DIGITS"), (0, u "ENTRY_LENGTH"), (0, u "TAG_LENGTH"), (1, u "FIELD_LENGTH_DIGITS"), (1, u "FIELD_START_DIGITS"), (5, u "number"), (0, u "([BII)I")] 4

def k2m0 : Method := { name := "<init>", desc := "()V", sig := { parameters := [], returnType := none }, accessFlags := 2, code := none }
def k2c1 : Code := { maxStack := 3, maxLocals := 5, code := prog_73_method_3_code, exceptionTable := #[], attributes := #[] }
def k2m1 : Method := { name := "number", desc := "([BII)I", sig := { parameters := [(.array .byte), .int, .int], returnType := some .int }, accessFlags := 8, code := some k2c1 }
/-- com/example/vedette/vedette/model/Iso2709 -/
def k2 : Class := { plain "com/example/vedette/vedette/model/Iso2709" (some 0) with
  accessFlags := 48
  interfaces := #[]
  cf := some (fileOf pool2 7 #[] #[{ accessFlags := 2, nameIndex := 5, descriptorIndex := 6, attributes := #[] }, { accessFlags := 8, nameIndex := 40, descriptorIndex := 41, attributes := #[] }] 48 2 #[] #[{ accessFlags := 24, nameIndex := 9, descriptorIndex := 10, attributes := #[] }, { accessFlags := 24, nameIndex := 13, descriptorIndex := 10, attributes := #[] }, { accessFlags := 24, nameIndex := 15, descriptorIndex := 10, attributes := #[] }, { accessFlags := 24, nameIndex := 17, descriptorIndex := 18, attributes := #[] }, { accessFlags := 24, nameIndex := 20, descriptorIndex := 18, attributes := #[] }, { accessFlags := 24, nameIndex := 22, descriptorIndex := 18, attributes := #[] }, { accessFlags := 24, nameIndex := 24, descriptorIndex := 18, attributes := #[] }, { accessFlags := 24, nameIndex := 26, descriptorIndex := 18, attributes := #[] }, { accessFlags := 24, nameIndex := 28, descriptorIndex := 18, attributes := #[] }, { accessFlags := 24, nameIndex := 29, descriptorIndex := 18, attributes := #[] }, { accessFlags := 24, nameIndex := 30, descriptorIndex := 18, attributes := #[] }, { accessFlags := 24, nameIndex := 32, descriptorIndex := 18, attributes := #[] }, { accessFlags := 24, nameIndex := 34, descriptorIndex := 18, attributes := #[] }])
  fields := #[{ name := "RECORD_TERMINATOR", type := .byte, accessFlags := 24, slot := 0, constantValue := 0 }, { name := "FIELD_TERMINATOR", type := .byte, accessFlags := 24, slot := 1, constantValue := 0 }, { name := "DELIMITER", type := .byte, accessFlags := 24, slot := 2, constantValue := 0 }, { name := "MAX_RECORD_LENGTH", type := .int, accessFlags := 24, slot := 3, constantValue := 0 }, { name := "MAX_FIELD_LENGTH", type := .int, accessFlags := 24, slot := 4, constantValue := 0 }, { name := "RECORD_LENGTH_AT", type := .int, accessFlags := 24, slot := 5, constantValue := 0 }, { name := "RECORD_LENGTH_DIGITS", type := .int, accessFlags := 24, slot := 6, constantValue := 0 }, { name := "BASE_ADDRESS_AT", type := .int, accessFlags := 24, slot := 7, constantValue := 0 }, { name := "BASE_ADDRESS_DIGITS", type := .int, accessFlags := 24, slot := 8, constantValue := 0 }, { name := "ENTRY_LENGTH", type := .int, accessFlags := 24, slot := 9, constantValue := 0 }, { name := "TAG_LENGTH", type := .int, accessFlags := 24, slot := 10, constantValue := 0 }, { name := "FIELD_LENGTH_DIGITS", type := .int, accessFlags := 24, slot := 11, constantValue := 0 }, { name := "FIELD_START_DIGITS", type := .int, accessFlags := 24, slot := 12, constantValue := 0 }]
  methods := #[k2m0, k2m1]
  instanceTypes := #[]
  staticTypes := #[.byte, .byte, .byte, .int, .int, .int, .int, .int, .int, .int, .int, .int, .int]
  resolved := Array.replicate 46 none
  statics := none }

def pool3 : Array CpInfo := pool [(1, u "java/lang/Cloneable"), (0, .class_ 1), (0, u "java/lang/Object"), (0, .class_ 3)] 3

/-- java/lang/Cloneable -/
def k3 : Class := { plain "java/lang/Cloneable" (some 0) with
  accessFlags := 1537
  interfaces := #[]
  cf := some (fileOf pool3 2 #[] #[] 1537 4 #[] #[])
  fields := #[]
  methods := #[]
  instanceTypes := #[]
  staticTypes := #[]
  resolved := Array.replicate 8 none
  statics := none }

def pool4 : Array CpInfo := pool [(1, u "java/io/Serializable"), (0, .class_ 1), (0, u "java/lang/Object"), (0, .class_ 3)] 3

/-- java/io/Serializable -/
def k4 : Class := { plain "java/io/Serializable" (some 0) with
  accessFlags := 1537
  interfaces := #[]
  cf := some (fileOf pool4 2 #[] #[] 1537 4 #[] #[])
  fields := #[]
  methods := #[]
  instanceTypes := #[]
  staticTypes := #[]
  resolved := Array.replicate 8 none
  statics := none }

/-- the primitive byte -/
def k5 : Class := { plain "byte" none with kind := .primitive 'B', accessFlags := 0x411 }
/-- [B -/
def k6 : Class := { plain "[B" (some 0) with kind := .array 5 .byte, interfaces := #[3, 4], accessFlags := 1041 }

/-- the primitive int -/
def k7 : Class := { plain "int" none with kind := .primitive 'I', accessFlags := 0x411 }
/-- [I -/
def k8 : Class := { plain "[I" (some 0) with kind := .array 7 .int, interfaces := #[3, 4], accessFlags := 1041 }

def heap : Heap := #[]
def classes : Array Class := #[k0, k1, k2, k3, k4, k5, k6, k7, k8]
def interned : List (Array UInt16 × Addr) := []
def slotsUsed : Nat := 0
def theMethod : MethodId := ⟨1, 3⟩
def args0 : Array Value := #[.int 5, .int 6, .int 7, .int 8, .int 9, .long 10]
def aboutOver (below : List Frame) : State where
  vm := { classes := classes, interned := interned.toArray }
  heap := heap
  slotsUsed := slotsUsed
  threads := #[{ frames := .invoking theMethod args0 :: below }]
def below0 : List Frame := [.native { method := ⟨0, 0⟩, args := #[] }]
def about1 : State := aboutOver below0
def p0 : Program := .bare "" "" ""
def e0 : Env := launch0.env 0 0 0
theorem w_frames : about1.frames = Frame.invoking theMethod args0 :: below0 := rfl
set_option maxRecDepth 65536 in
theorem w_args : argsFit about1.vm theMethod args0 = true := by decide +kernel
set_option maxRecDepth 65536 in
theorem w_heap : heapFits about1 = true := by decide +kernel
set_option maxRecDepth 65536 in
theorem w_runnable : about1.curStatus? = some .runnable := by decide +kernel
set_option maxRecDepth 65536 in
theorem w_alone : about1.alone = true := by decide +kernel
set_option maxRecDepth 65536 in
theorem w_named : about1.methodNamed? x = some theMethod := by decide +kernel
set_option maxRecDepth 65536 in
theorem w_hears : about1.hears theMethod below0 = true := by decide +kernel
set_option maxRecDepth 65536 in
theorem w_ripe : about1.ripe theMethod args0 below0 = true := by decide +kernel
theorem w_running : about1.status = .running := rfl
set_option maxRecDepth 65536 in
theorem w_room : about1.hasRoom e0.platform room_1 = true :=
  launch0.hasRoom_least _ room_1 (by decide +kernel) (by decide +kernel) (by decide +kernel) (by decide +kernel) (by decide +kernel) (by decide +kernel)
theorem allAtoms_all (ts : List Jvm.Cond) (a : Array Jvm.Value) (st : Jvm.State) : (allAtoms ts).before a st = ts.all (fun c => c.before a st) := by
  induction ts with
  | nil => rfl
  | cons c t ih =>
    show (Jvm.Cond.and c (allAtoms t)).before a st = _
    rw [Jvm.Cond.before_and, ih, List.all_cons]
def words1 : List Jvm.Cond := Jvm.Cond.code x code maxLocals ret :: tables_1
/-- a 'code' word, met by the world's own term for the bytes: nothing is compared byte by byte -/
theorem code_word {y : MethodName} {bytes : ByteArray} {mx : Nat} {rt : Option FieldType} {a : Array Value} {s : State} {m : MethodId} {meth : Method} {c : Code} (h1 : s.methodNamed? y = some m) (h2 : s.vm.method? m = some meth) (h3 : meth.code = some c) (h4 : c.code = bytes)
    (h5 : (c.maxLocals == mx && c.exceptionTable.isEmpty && decide (c.maxStack ≤ mostOperands) && decide (meth.sig.returnType = rt) && !meth.locks && decide (parseMethodDescriptor y.desc = some meth.sig)) = true) : (Jvm.Cond.code y bytes mx rt).before a s = true := by
  simp only [Bool.and_eq_true, beq_iff_eq, Bool.not_eq_true', decide_eq_true_eq] at h5
  obtain ⟨⟨⟨⟨⟨g1, g2⟩, g3⟩, g4⟩, g5⟩, g6⟩ := h5
  simp [Cond.before, Cond.holds, Cond.value, h1, h2, h3, h4, g1, g2, g3, g4, g5, g6]
def isCode : Jvm.Cond → Bool
  | .code _ _ _ _ => true
  | _ => false
theorem all_split {L : List Jvm.Cond} {P : Jvm.Cond → Bool} (h1 : L.all (fun c => isCode c || P c) = true) (h2 : ∀ c ∈ L.filter isCode, P c = true) : L.all P = true := by
  refine List.all_eq_true.mpr fun c hc => ?_
  have h := List.all_eq_true.mp h1 c hc
  rcases Bool.eq_false_or_eq_true (isCode c) with hi | hi
  · exact h2 c (List.mem_filter.mpr ⟨hc, hi⟩)
  · simpa [hi] using h
set_option maxRecDepth 65536 in
theorem w_c0 : (Jvm.Cond.code x code maxLocals ret).before args0 about1 = true := code_word (m := ⟨1, 3⟩) (meth := k1m3) (c := k1c3) (by decide +kernel) rfl rfl rfl (by decide +kernel)
set_option maxRecDepth 65536 in
theorem w_c1 : (Jvm.Cond.code ({ cls := "com/example/vedette/vedette/model/Iso2709NumberPinLaw", name := "pow10", desc := "(I)I" } : Jvm.MethodName) method_2_code (1 : Nat) (Option.some Jvm.ClassFile.FieldType.int)).before args0 about1 = true := code_word (m := ⟨1, 1⟩) (meth := k1m1) (c := k1c1) (by decide +kernel) rfl rfl rfl (by decide +kernel)
set_option maxRecDepth 65536 in
theorem w_c2 : (Jvm.Cond.code ({ cls := "com/example/vedette/vedette/model/Iso2709NumberPinLaw", name := "digit", desc := "(III)B" } : Jvm.MethodName) method_3_code (3 : Nat) (Option.some Jvm.ClassFile.FieldType.byte)).before args0 about1 = true := code_word (m := ⟨1, 2⟩) (meth := k1m2) (c := k1c2) (by decide +kernel) rfl rfl rfl (by decide +kernel)
set_option maxRecDepth 65536 in
theorem w_c3 : (Jvm.Cond.code ({ cls := "com/example/vedette/vedette/model/Iso2709", name := "number", desc := "([BII)I" } : Jvm.MethodName) prog_73_method_3_code (5 : Nat) (Option.some Jvm.ClassFile.FieldType.int)).before args0 about1 = true := code_word (m := ⟨2, 1⟩) (meth := k2m1) (c := k2c1) (by decide +kernel) rfl rfl rfl (by decide +kernel)
def codes1 : List Jvm.Cond := [Jvm.Cond.code x code maxLocals ret, Jvm.Cond.code ({ cls := "com/example/vedette/vedette/model/Iso2709NumberPinLaw", name := "pow10", desc := "(I)I" } : Jvm.MethodName) method_2_code (1 : Nat) (Option.some Jvm.ClassFile.FieldType.int), Jvm.Cond.code ({ cls := "com/example/vedette/vedette/model/Iso2709NumberPinLaw", name := "digit", desc := "(III)B" } : Jvm.MethodName) method_3_code (3 : Nat) (Option.some Jvm.ClassFile.FieldType.byte), Jvm.Cond.code ({ cls := "com/example/vedette/vedette/model/Iso2709", name := "number", desc := "([BII)I" } : Jvm.MethodName) prog_73_method_3_code (5 : Nat) (Option.some Jvm.ClassFile.FieldType.int)]
set_option maxRecDepth 65536 in
theorem codes_eq : words1.filter isCode = codes1 := rfl
theorem w_codes : ∀ c ∈ words1.filter isCode, c.before args0 about1 = true := by
  rw [codes_eq]
  intro c hc
  simp only [codes1, List.mem_cons, List.not_mem_nil, or_false] at hc
  rcases hc with rfl | rfl | rfl | rfl
  · exact w_c0
  · exact w_c1
  · exact w_c2
  · exact w_c3
set_option maxRecDepth 65536 in
theorem w_t1 : words1.all (fun c => isCode c || c.before args0 about1) = true := by decide +kernel
theorem w_tables : (allAtoms (Jvm.Cond.code x code maxLocals ret :: tables_1)).before args0 about1 = true := by
  rw [allAtoms_all]
  show words1.all (fun c => c.before args0 about1) = true
  refine all_split ?_ w_codes
  rw [w_t1]
set_option maxRecDepth 65536 in
theorem w_case : (Jvm.Cond.and given_1 narrow_1).before args0 about1 = true := by decide +kernel
theorem w_applies : (headSpec (Jvm.Cond.code x code maxLocals ret :: tables_1) room_1).applies x e0.platform about1 = true :=
  (Spec.applies_iff w_frames).mpr ⟨w_running, w_runnable, w_alone, w_named, w_hears, w_ripe, w_room, w_tables⟩
theorem atStart : AtStart classFile x code maxLocals ret World_1 tables_1 room_1 Calls_1 rest_1 Pre_1 launch0 p0 e0 about1 theMethod args0 below0 :=
  ⟨lists_1, trivial, launch0.admits_env _ _ _, launch0.least_env, fairChoices_fair.cas, fairChoices_fair.clock, w_frames, w_args, w_heap, w_applies, trivial, trivial, w_case⟩
end start1
theorem witness_1 : WitnessClaimed_1 := ⟨start1.p0, start1.e0, start1.about1, start1.theMethod, start1.args0, start1.below0, start1.atStart⟩
end Jvm.Pilot.@@N@@
