import JvmDerived
import JvmDerived.Pilot.@@N@@Statement
import JvmDerived.Pilot.@@N@@Code
set_option linter.unusedVariables false
set_option linter.unusedSimpArgs false
@@BLOCK:NumsL.lean.txt@@
namespace Jvm.Pilot.@@N@@
open Jvm Jvm.ClassFile Sem Op Lib Jvm.Free Jvm.Stand Jvm.LawKit Jvm.RoadKit Bundle Jvm.Pilot.@@N@@.Jvm.D
/-! ### own layer 1: plain steps by evaluation over a list of decoded instructions -/
def own_iushr (x y : Int32) : Int32 := (x.toUInt32 >>> (y &&& 31).toUInt32).toInt32
def own_ishl (x y : Int32) : Int32 := x <<< (y &&& 31)
def own_ishr (x y : Int32) : Int32 := x >>> (y &&& 31)
def own_irem (x y : Int32) : Int32 := x - (x / y) * y
def own_lrem (x y : Int64) : Int64 := x - (x / y) * y
def own_lushr (x : Int64) (y : Int32) : Int64 := (x.toUInt64 >>> (y &&& 0x3f).toInt64.toUInt64).toInt64
def own_lshl (x : Int64) (y : Int32) : Int64 := x <<< (y &&& 0x3f).toInt64
def own_lshr (x : Int64) (y : Int32) : Int64 := x >>> (y &&& 0x3f).toInt64
def own_i2b (x : Int32) : Int32 := x.toInt8.toInt32

abbrev own_R : Type := Option (Array Slot × List Value)
def own_i2 (f : Int32 → Int32 → Int32) (ls : Array Slot) : List Value → own_R
  | .int y :: .int x :: r => some (ls, .int (f x y) :: r)
  | _ => none
def own_i1 (f : Int32 → Value) (ls : Array Slot) : List Value → own_R
  | .int x :: r => some (ls, f x :: r)
  | _ => none
def own_l2 (f : Int64 → Int64 → Int64) (ls : Array Slot) : List Value → own_R
  | .long y :: .long x :: r => some (ls, .long (f x y) :: r)
  | _ => none
def own_lS (f : Int64 → Int32 → Int64) (ls : Array Slot) : List Value → own_R
  | .int y :: .long x :: r => some (ls, .long (f x y) :: r)
  | _ => none
def own_l1 (f : Int64 → Value) (ls : Array Slot) : List Value → own_R
  | .long x :: r => some (ls, f x :: r)
  | _ => none
def own_li (ls : Array Slot) (k : Nat) (st : List Value) : own_R :=
  match ls[k]? with
  | some (.val (.int v)) => some (ls, .int v :: st)
  | _ => none
def own_ll (ls : Array Slot) (k : Nat) (st : List Value) : own_R :=
  match ls[k]? with
  | some (.val (.long v)) => some (ls, .long v :: st)
  | _ => none
def own_la (ls : Array Slot) (k : Nat) (st : List Value) : own_R :=
  match ls[k]? with
  | some (.val (.ref v)) => some (ls, .ref v :: st)
  | some (.val .null) => some (ls, .null :: st)
  | _ => none
def own_sv (ls : Array Slot) (k : Nat) (v : Value) (r : List Value) : own_R :=
  match storeLocals ls k v with
  | some l' => some (l', r)
  | none => none
def own_si (ls : Array Slot) (k : Nat) : List Value → own_R
  | .int x :: r => own_sv ls k (.int x) r
  | _ => none
def own_sl (ls : Array Slot) (k : Nat) : List Value → own_R
  | .long x :: r => own_sv ls k (.long x) r
  | _ => none
def own_sa (ls : Array Slot) (k : Nat) : List Value → own_R
  | .ref x :: r => own_sv ls k (.ref x) r
  | .null :: r => own_sv ls k .null r
  | _ => none
def own_inc (ls : Array Slot) (k : Nat) (d : Int) (st : List Value) : own_R :=
  match ls[k]? with
  | some (.val (.int v)) => own_sv ls k (.int (v + Int32.ofInt d)) st
  | _ => none
def own_dup (ls : Array Slot) : List Value → own_R
  | .int x :: r => some (ls, .int x :: .int x :: r)
  | .ref x :: r => some (ls, .ref x :: .ref x :: r)
  | _ => none
def own_dupX (ls : Array Slot) : List Value → own_R
  | .int x :: .ref y :: r => some (ls, .int x :: .ref y :: .int x :: r)
  | _ => none
def own_pop (ls : Array Slot) : List Value → own_R
  | .int _ :: r => some (ls, r)
  | .ref _ :: r => some (ls, r)
  | _ => none

def own_p (i : Instr) (n : Nat) (ls : Array Slot) (st : List Value) : own_R :=
  match i, n with
  | .iconst k, 1 => some (ls, .int (Int32.ofInt k) :: st)
  | .bipush k, 2 => some (ls, .int (Int8.ofInt k).toInt32 :: st)
  | .sipush k, 3 => some (ls, .int (Int16.ofInt k).toInt32 :: st)
  | .lconst k, 1 => some (ls, .long (Int64.ofNat k) :: st)
  | .aconst_null, 1 => some (ls, .null :: st)
  | .iload_n k, 1 => own_li ls k.val st
  | .iload k, 2 => own_li ls k st
  | .lload_n k, 1 => own_ll ls k.val st
  | .lload k, 2 => own_ll ls k st
  | .aload_n k, 1 => own_la ls k.val st
  | .aload k, 2 => own_la ls k st
  | .istore_n k, 1 => own_si ls k.val st
  | .istore k, 2 => own_si ls k st
  | .lstore_n k, 1 => own_sl ls k.val st
  | .lstore k, 2 => own_sl ls k st
  | .astore_n k, 1 => own_sa ls k.val st
  | .astore k, 2 => own_sa ls k st
  | .iinc k d, 3 => own_inc ls k d st
  | .iadd, 1 => own_i2 (· + ·) ls st
  | .isub, 1 => own_i2 (· - ·) ls st
  | .imul, 1 => own_i2 (· * ·) ls st
  | .iand, 1 => own_i2 (· &&& ·) ls st
  | .ior, 1 => own_i2 (· ||| ·) ls st
  | .ixor, 1 => own_i2 (· ^^^ ·) ls st
  | .ishl, 1 => own_i2 own_ishl ls st
  | .ishr, 1 => own_i2 own_ishr ls st
  | .iushr, 1 => own_i2 own_iushr ls st
  | .ladd, 1 => own_l2 (· + ·) ls st
  | .lsub, 1 => own_l2 (· - ·) ls st
  | .lmul, 1 => own_l2 (· * ·) ls st
  | .land, 1 => own_l2 (· &&& ·) ls st
  | .lor, 1 => own_l2 (· ||| ·) ls st
  | .lxor, 1 => own_l2 (· ^^^ ·) ls st
  | .lshl, 1 => own_lS own_lshl ls st
  | .lshr, 1 => own_lS own_lshr ls st
  | .lushr, 1 => own_lS own_lushr ls st
  | .i2b, 1 => own_i1 (fun x => .int (own_i2b x)) ls st
  | .i2l, 1 => own_i1 (fun x => .long x.toInt64) ls st
  | .l2i, 1 => own_l1 (fun x => .int x.toInt32) ls st
  | .dup, 1 => own_dup ls st
  | .dup_x1, 1 => own_dupX ls st
  | .pop, 1 => own_pop ls st
  | _, _ => none

section Inv
variable {ls ls' : Array Slot} {st st' : List Value}
theorem own_i2_inv {f : Int32 → Int32 → Int32} (h : own_i2 f ls st = some (ls', st')) : ∃ x y r, st = .int y :: .int x :: r ∧ ls' = ls ∧ st' = .int (f x y) :: r := by
  unfold own_i2 at h; split at h
  · cases h; exact ⟨_, _, _, rfl, rfl, rfl⟩
  · cases h
theorem own_i1_inv {f : Int32 → Value} (h : own_i1 f ls st = some (ls', st')) : ∃ x r, st = .int x :: r ∧ ls' = ls ∧ st' = f x :: r := by
  unfold own_i1 at h; split at h
  · cases h; exact ⟨_, _, rfl, rfl, rfl⟩
  · cases h
theorem own_l2_inv {f : Int64 → Int64 → Int64} (h : own_l2 f ls st = some (ls', st')) : ∃ x y r, st = .long y :: .long x :: r ∧ ls' = ls ∧ st' = .long (f x y) :: r := by
  unfold own_l2 at h; split at h
  · cases h; exact ⟨_, _, _, rfl, rfl, rfl⟩
  · cases h
theorem own_lS_inv {f : Int64 → Int32 → Int64} (h : own_lS f ls st = some (ls', st')) : ∃ x y r, st = .int y :: .long x :: r ∧ ls' = ls ∧ st' = .long (f x y) :: r := by
  unfold own_lS at h; split at h
  · cases h; exact ⟨_, _, _, rfl, rfl, rfl⟩
  · cases h
theorem own_l1_inv {f : Int64 → Value} (h : own_l1 f ls st = some (ls', st')) : ∃ x r, st = .long x :: r ∧ ls' = ls ∧ st' = f x :: r := by
  unfold own_l1 at h; split at h
  · cases h; exact ⟨_, _, rfl, rfl, rfl⟩
  · cases h
theorem own_li_inv {k : Nat} (h : own_li ls k st = some (ls', st')) : ∃ v, ls[k]? = some (.val (.int v)) ∧ ls' = ls ∧ st' = .int v :: st := by
  unfold own_li at h; split at h
  · rename_i q; cases h; exact ⟨_, q, rfl, rfl⟩
  · cases h
theorem own_ll_inv {k : Nat} (h : own_ll ls k st = some (ls', st')) : ∃ v, ls[k]? = some (.val (.long v)) ∧ ls' = ls ∧ st' = .long v :: st := by
  unfold own_ll at h; split at h
  · rename_i q; cases h; exact ⟨_, q, rfl, rfl⟩
  · cases h
theorem own_la_inv {k : Nat} (h : own_la ls k st = some (ls', st')) : ∃ v : Value, v.isRef = true ∧ ls[k]? = some (.val v) ∧ ls' = ls ∧ st' = v :: st := by
  unfold own_la at h; split at h
  · rename_i q; cases h; exact ⟨_, rfl, q, rfl, rfl⟩
  · rename_i q; cases h; exact ⟨_, rfl, q, rfl, rfl⟩
  · cases h
theorem own_sv_inv {k : Nat} {v : Value} {r : List Value} (h : own_sv ls k v r = some (ls', st')) : storeLocals ls k v = some ls' ∧ st' = r := by
  unfold own_sv at h; split at h
  · rename_i q; cases h; exact ⟨q, rfl⟩
  · cases h
theorem own_si_inv {k : Nat} (h : own_si ls k st = some (ls', st')) : ∃ x, st = .int x :: st' ∧ storeLocals ls k (.int x) = some ls' := by
  unfold own_si at h; split at h
  · obtain ⟨h1, h2⟩ := own_sv_inv h; subst h2; exact ⟨_, rfl, h1⟩
  · cases h
theorem own_sl_inv {k : Nat} (h : own_sl ls k st = some (ls', st')) : ∃ x, st = .long x :: st' ∧ storeLocals ls k (.long x) = some ls' := by
  unfold own_sl at h; split at h
  · obtain ⟨h1, h2⟩ := own_sv_inv h; subst h2; exact ⟨_, rfl, h1⟩
  · cases h
theorem own_sa_inv {k : Nat} (h : own_sa ls k st = some (ls', st')) : ∃ x : Value, x.isRef = true ∧ st = x :: st' ∧ storeLocals ls k x = some ls' := by
  unfold own_sa at h; split at h
  · obtain ⟨h1, h2⟩ := own_sv_inv h; subst h2; exact ⟨_, rfl, rfl, h1⟩
  · obtain ⟨h1, h2⟩ := own_sv_inv h; subst h2; exact ⟨_, rfl, rfl, h1⟩
  · cases h
theorem own_inc_inv {k : Nat} {d : Int} (h : own_inc ls k d st = some (ls', st')) : ∃ x, ls[k]? = some (.val (.int x)) ∧ storeLocals ls k (.int (x + Int32.ofInt d)) = some ls' ∧ st' = st := by
  unfold own_inc at h; split at h
  · rename_i q; obtain ⟨h1, h2⟩ := own_sv_inv h; exact ⟨_, q, h1, h2⟩
  · cases h
theorem own_dup_inv (h : own_dup ls st = some (ls', st')) : ∃ (x : Value) (r : List Value), st = x :: r ∧ x.category = 1 ∧ ls' = ls ∧ st' = x :: x :: r := by
  unfold own_dup at h; split at h
  · cases h; exact ⟨_, _, rfl, rfl, rfl, rfl⟩
  · cases h; exact ⟨_, _, rfl, rfl, rfl, rfl⟩
  · cases h
theorem own_dupX_inv (h : own_dupX ls st = some (ls', st')) : ∃ (x y : Value) (r : List Value), st = x :: y :: r ∧ x.category = 1 ∧ y.category = 1 ∧ ls' = ls ∧ st' = x :: y :: x :: r := by
  unfold own_dupX at h; split at h
  · cases h; exact ⟨_, _, _, rfl, rfl, rfl, rfl, rfl⟩
  · cases h
theorem own_pop_inv (h : own_pop ls st = some (ls', st')) : ∃ (x : Value), st = x :: st' ∧ x.category = 1 ∧ ls' = ls := by
  unfold own_pop at h; split at h
  · cases h; exact ⟨_, rfl, rfl, rfl⟩
  · cases h; exact ⟨_, rfl, rfl, rfl⟩
  · cases h
end Inv

set_option maxHeartbeats 4000000 in
theorem own_p_ok {tb : Tables} [Ours tb] {e : Env} {below : List Frame} {T t : State} {m : MethodId} {c : Code} (h : At T m c below) (hx : tb.exec = Jvm.exec) {i : Instr} {n pc : Nat} {ls ls' : Array Slot} {st st' : List Value}
    (hd : decode c.code pc = .ok (i, n)) (hp : own_p i n ls st = some (ls', st')) (hr : Steps tb e below (T.setTop (mkF m (pc + n) ls' st')) t) : Steps tb e below (T.setTop (mkF m pc ls st)) t := by
  unfold own_p at hp
  split at hp
  · cases hp; exact XS.iconst h hx rfl hd hr
  · cases hp; exact XS.bipush h hx rfl hd hr
  · cases hp; exact XS.sipush h hx rfl hd hr
  · cases hp; exact XS.lconst h hx rfl hd hr
  · cases hp; exact XS.aconstNull h hx rfl hd hr
  · obtain ⟨v, q, rfl, rfl⟩ := own_li_inv hp; exact XS.iloadN h hx rfl hd q hr
  · obtain ⟨v, q, rfl, rfl⟩ := own_li_inv hp; exact XS.iload h hx rfl hd q hr
  · obtain ⟨v, q, rfl, rfl⟩ := own_ll_inv hp; exact XS.lloadN h hx rfl hd q hr
  · obtain ⟨v, q, rfl, rfl⟩ := own_ll_inv hp; exact XS.lload h hx rfl hd q hr
  · obtain ⟨v, q0, q, rfl, rfl⟩ := own_la_inv hp; exact XS.aloadN h hx rfl hd q q0 hr
  · obtain ⟨v, q0, q, rfl, rfl⟩ := own_la_inv hp; exact XS.aload h hx rfl hd q q0 hr
  · obtain ⟨x, rfl, q⟩ := own_si_inv hp; exact XS.istoreN h hx rfl hd rfl q hr
  · obtain ⟨x, rfl, q⟩ := own_si_inv hp; exact XS.istore h hx rfl hd rfl q hr
  · obtain ⟨x, rfl, q⟩ := own_sl_inv hp; exact XS.lstoreN h hx rfl hd rfl q hr
  · obtain ⟨x, rfl, q⟩ := own_sl_inv hp; exact XS.lstore h hx rfl hd rfl q hr
  · obtain ⟨x, q0, rfl, q⟩ := own_sa_inv hp; exact XS.astoreN h hx rfl hd rfl q0 q hr
  · obtain ⟨x, q0, rfl, q⟩ := own_sa_inv hp; exact XS.astore h hx rfl hd rfl q0 q hr
  · obtain ⟨x, q1, q2, rfl⟩ := own_inc_inv hp; exact XS.iinc h hx rfl hd q1 q2 hr
  · obtain ⟨x, y, r, rfl, rfl, rfl⟩ := own_i2_inv hp; exact XS.iadd h hx rfl hd rfl hr
  · obtain ⟨x, y, r, rfl, rfl, rfl⟩ := own_i2_inv hp; exact XS.isub h hx rfl hd rfl hr
  · obtain ⟨x, y, r, rfl, rfl, rfl⟩ := own_i2_inv hp; exact XS.imul h hx rfl hd rfl hr
  · obtain ⟨x, y, r, rfl, rfl, rfl⟩ := own_i2_inv hp; exact XS.iand h hx rfl hd rfl hr
  · obtain ⟨x, y, r, rfl, rfl, rfl⟩ := own_i2_inv hp; exact XS.ior h hx rfl hd rfl hr
  · obtain ⟨x, y, r, rfl, rfl, rfl⟩ := own_i2_inv hp; exact XS.ixor h hx rfl hd rfl hr
  · obtain ⟨x, y, r, rfl, rfl, rfl⟩ := own_i2_inv hp; exact XS.ishl h hx rfl hd rfl hr
  · obtain ⟨x, y, r, rfl, rfl, rfl⟩ := own_i2_inv hp; exact XS.ishr h hx rfl hd rfl hr
  · obtain ⟨x, y, r, rfl, rfl, rfl⟩ := own_i2_inv hp; exact XS.iushr h hx rfl hd rfl hr
  · obtain ⟨x, y, r, rfl, rfl, rfl⟩ := own_l2_inv hp; exact XS.ladd h hx rfl hd rfl hr
  · obtain ⟨x, y, r, rfl, rfl, rfl⟩ := own_l2_inv hp; exact XS.lsub h hx rfl hd rfl hr
  · obtain ⟨x, y, r, rfl, rfl, rfl⟩ := own_l2_inv hp; exact XS.lmul h hx rfl hd rfl hr
  · obtain ⟨x, y, r, rfl, rfl, rfl⟩ := own_l2_inv hp; exact XS.land h hx rfl hd rfl hr
  · obtain ⟨x, y, r, rfl, rfl, rfl⟩ := own_l2_inv hp; exact XS.lor h hx rfl hd rfl hr
  · obtain ⟨x, y, r, rfl, rfl, rfl⟩ := own_l2_inv hp; exact XS.lxor h hx rfl hd rfl hr
  · obtain ⟨x, y, r, rfl, rfl, rfl⟩ := own_lS_inv hp; exact XS.lshl h hx rfl hd rfl hr
  · obtain ⟨x, y, r, rfl, rfl, rfl⟩ := own_lS_inv hp; exact XS.lshr h hx rfl hd rfl hr
  · obtain ⟨x, y, r, rfl, rfl, rfl⟩ := own_lS_inv hp; exact XS.lushr h hx rfl hd rfl hr
  · obtain ⟨x, r, rfl, rfl, rfl⟩ := own_i1_inv hp; exact XS.i2b h hx rfl hd rfl hr
  · obtain ⟨x, r, rfl, rfl, rfl⟩ := own_i1_inv hp; exact XS.i2l h hx rfl hd rfl hr
  · obtain ⟨x, r, rfl, rfl, rfl⟩ := own_l1_inv hp; exact XS.l2i h hx rfl hd rfl hr
  · obtain ⟨x, r, rfl, q, rfl, rfl⟩ := own_dup_inv hp; exact XS.dup h hx rfl hd rfl q hr
  · obtain ⟨x, y, r, rfl, q1, q2, rfl, rfl⟩ := own_dupX_inv hp; exact XS.dupX1 h hx rfl hd rfl q1 q2 hr
  · obtain ⟨x, rfl, q, rfl⟩ := own_pop_inv hp; exact XS.pop h hx rfl hd rfl q hr
  · cases hp

/-- the list lies in the code from pc on, up to pc' -/
def own_d (code : ByteArray) : Nat → List (Instr × Nat) → Nat → Bool
  | pc, [], pc' => pc == pc'
  | pc, (i, n) :: L, pc' => decide (decode code pc = .ok (i, n)) && own_d code (pc + n) L pc'
def own_x : List (Instr × Nat) → Array Slot → List Value → own_R
  | [], ls, st => some (ls, st)
  | (i, n) :: L, ls, st => match own_p i n ls st with
    | some (ls', st') => own_x L ls' st'
    | none => none
theorem own_x_ok {tb : Tables} [Ours tb] {e : Env} {below : List Frame} {T t : State} {m : MethodId} {c : Code} (h : At T m c below) (hx : tb.exec = Jvm.exec) : ∀ (L : List (Instr × Nat)) {pc pc' : Nat} {ls ls' : Array Slot} {st st' : List Value},
    own_d c.code pc L pc' = true → own_x L ls st = some (ls', st') → Steps tb e below (T.setTop (mkF m pc' ls' st')) t → Steps tb e below (T.setTop (mkF m pc ls st)) t
  | [], pc, pc', ls, ls', st, st', hd, hr, k => by
    have e1 : pc = pc' := by simpa [own_d] using hd
    subst e1
    cases hr
    exact k
  | (i, n) :: L, pc, pc', ls, ls', st, st', hd, hr, k => by
    simp only [own_d, Bool.and_eq_true, decide_eq_true_eq] at hd
    simp only [own_x] at hr
    cases hq : own_p i n ls st with
    | none => rw [hq] at hr; cases hr
    | some q =>
      obtain ⟨l1, s1⟩ := q
      rw [hq] at hr
      exact own_p_ok h hx hd.1 hq (own_x_ok h hx L hd.2 hr k)

/-! ### own layer 2: where a walk stands, and that it comes to its end -/
def own_G (p : Program) (e : Env) (below : List Frame) (A : State) (Q : Outcome → State → Prop) : Prop :=
  ∃ s₂ o, Steps p.tables e below A s₂ ∧ s₂.status = .running ∧ Ended s₂ below o ∧ Q o s₂
theorem own_st {p : Program} {e : Env} {below : List Frame} {A A' : State} {Q : Outcome → State → Prop} (st : ∀ t, Steps p.tables e below A' t → Steps p.tables e below A t) (g : own_G p e below A' Q) : own_G p e below A Q := by
  obtain ⟨s2, o, h1, h2⟩ := g
  exact ⟨s2, o, st _ h1, h2⟩
def own_E (s : State) (n0 : Nat) (P : Option Value → Heap → Prop) (C S : Nat) (o : Outcome) (U : State) : Prop := ∃ v L, o = .returned v ∧ (Fr n0 L ∧ P v U.heap) ∧ FrameEnd s o U L C S
def own_X (p : Program) (l : Launch) (e : Env) (R : Room) (s : State) (m : MethodId) (args : Array Value) (below : List Frame) (meth : Method) (c : Code) (Z : State) (bytes : ByteArray) (maxL : Nat) (ret : Option FieldType) (y : MethodName) (n0 : Nat) (h : Heap) (T : State) (k n : Nat) : Prop :=
  (p.tables.exec = Jvm.exec ∧ c.code = bytes ∧ c.maxLocals = maxL ∧ s.vm.findClass y.cls = some m.cls ∧ meth.name = y.name ∧ meth.sig.returnType = ret ∧ Z.Warmed39 s.vm ∧ meth.locks = false) ∧
    n0 ≤ h.size ∧ T.heap = h ∧ ∃ locs, Stand p l e R s m args below meth c T locs k n ∧ Fr n0 locs
/-- a body's contract: from these arguments and this heap it returns, and P says what, and what heap it leaves -/
def own_C (l : Launch) (Z : State) (y : MethodName) (bytes : ByteArray) (maxL : Nat) (ret : Option FieldType) (rm : Room) (as : Array Value) (h0 : Heap) (n0 : Nat) (P : Option Value → Heap → Prop) : Prop :=
  ∀ ws : List Jvm.Cond, MetFree l y (head1 (Jvm.Cond.code y bytes maxL ret :: ws) rm) (fun a U => a = as ∧ Z.Warmed39 U.vm ∧ U.heap = h0) (fun _ _ _ _ _ => True)
    (fun _ U o U' => ∃ v L, o = .returned v ∧ (Fr n0 L ∧ P v U'.heap) ∧ FrameEnd U o U' L rm.cells rm.slots)
theorem own_body {l : Launch} {Z : State} {y : MethodName} {bytes : ByteArray} {maxL : Nat} {ret : Option FieldType} {rm : Room} {as : Array Value} {h0 : Heap} {n0 : Nat} {P : Option Value → Heap → Prop} (hpl : plainFor y = true) (h0n : n0 ≤ h0.size) {ls : Array Slot} (hef : ∀ m, entryFrame m as maxL = mkF m 0 ls [])
    (k : ∀ p e s m below meth c T, own_X p l e rm s m as below meth c Z bytes maxL ret y n0 h0 T 0 0 → own_G p e below (T.setTop (mkF m 0 ls [])) (own_E s n0 P rm.cells rm.slots)) : own_C l Z y bytes maxL ret rm as h0 n0 P := by
  intro ws
  refine MetFree.of_bodySF hpl hisR ?_
  intro p e s m args below meth c s₁ Bd hml0 hP hK
  obtain ⟨rfl, hZ, hh⟩ := hP
  have e0 : s₁.heap = h0 := by rw [← hh, Bd.state]; rfl
  have X0 : Stand p l e rm s m args below meth c s₁ [] 0 0 := Stand.of_body Bd
  have g := k p e s m below meth c s₁ ⟨⟨Bd.exec, Bd.bytes, hml0, findClass_of_methodNamed Bd.named, (name_of_methodNamed Bd.named Bd.method).1, Bd.returns, hZ, Bd.notSynchronized⟩, h0n, e0, [], X0, Fr.nil n0⟩
  rw [← hef m] at g
  exact g

section Walk
variable {p : Program} {l : Launch} {e : Env} {R : Room} {s : State} {m : MethodId} {args : Array Value} {below : List Frame} {meth : Method} {c : Code} {Z : State} {bytes : ByteArray} {maxL : Nat} {ret : Option FieldType} {y : MethodName} {n0 : Nat} {h : Heap} {T : State} {k n : Nat} {Q : Outcome → State → Prop} {pc pc' : Nat} {ls ls' : Array Slot} {st st' : List Value} {a0 : Array Value}
theorem own_blk (X : own_X p l e R s m args below meth c Z bytes maxL ret y n0 h T k n) (L : List (Instr × Nat)) (hd : own_d bytes pc L pc' = true) (hr : own_x L ls st = some (ls', st')) (g : own_G p e below (T.setTop (mkF m pc' ls' st')) Q) : own_G p e below (T.setTop (mkF m pc ls st)) Q := by
  obtain ⟨⟨hx, hby, -⟩, -, -, locs, X, -⟩ := X
  subst hby
  exact own_st (fun t q => own_x_ok X.here hx L hd hr q) g
/-! branches -/
def own_tg (pc : Nat) (o : Int) (pc' : Nat) : Bool := decide (0 ≤ (pc : Int) + o) && decide (((pc : Int) + o).toNat = pc')
def own_cI : ClassFile.Cond → Int → Int → Prop
  | .eq, x, y => x = y
  | .ne, x, y => ¬ x = y
  | .lt, x, y => x < y
  | .ge, x, y => y ≤ x
  | .gt, x, y => y < x
  | .le, x, y => x ≤ y
theorem own_icmp_iff (cd : ClassFile.Cond) (x y : Int32) : if_icmp.holds cd x y = true ↔ own_cI cd x.toInt y.toInt := by
  cases cd <;> simp [if_icmp.holds, own_cI, Int32.lt_iff_toInt_lt, Int32.le_iff_toInt_le, Int32.toInt_inj]
theorem own_if_iff (cd : ClassFile.Cond) (x : Int32) : ifCond.holds cd x = true ↔ own_cI cd x.toInt 0 := by
  rw [if0]; exact own_icmp_iff cd x 0
theorem own_l_iff (cd : ClassFile.Cond) (x y : Int64) : ifCond.holds cd (if x > y then 1 else if x = y then 0 else -1) = true ↔ own_cI cd x.toInt y.toInt := by
  rw [own_if_iff]
  have e1 : (x > y) = (y.toInt < x.toInt) := by rw [gt_iff_lt, Int64.lt_iff_toInt_lt]
  have e2 : (x = y) = (x.toInt = y.toInt) := by rw [Int64.toInt_inj]
  simp only [e1, e2]
  by_cases q1 : y.toInt < x.toInt
  · simp only [q1, if_true]
    have e3 : (1 : Int32).toInt = 1 := rfl
    cases cd <;> simp only [own_cI, e3] <;> omega
  · by_cases q2 : x.toInt = y.toInt
    · simp only [q1, q2, if_true, if_false]
      have e3 : (0 : Int32).toInt = 0 := rfl
      cases cd <;> simp [own_cI]
    · simp only [q1, q2, if_false]
      have e3 : (-1 : Int32).toInt = -1 := rfl
      cases cd <;> simp only [own_cI, e3] <;> omega
theorem own_tg_s {o : Int} (hp : own_tg pc o pc' = true) : 0 ≤ (pc : Int) + o ∧ ((pc : Int) + o).toNat = pc' := by
  simpa [own_tg] using hp
theorem own_goto (X : own_X p l e R s m args below meth c Z bytes maxL ret y n0 h T k n) {o : Int} (hd : decode bytes pc = .ok (.goto o, 3)) (hp : own_tg pc o pc' = true) (g : own_G p e below (T.setTop (mkF m pc' ls st)) Q) : own_G p e below (T.setTop (mkF m pc ls st)) Q := by
  obtain ⟨⟨hx, hby, -⟩, -, -, locs, X, -⟩ := X
  subst hby
  exact own_st (fun t q => XS.goto X.here hx rfl rfl hd (own_tg_s hp).1 (own_tg_s hp).2 q) g
theorem own_icmp (X : own_X p l e R s m args below meth c Z bytes maxL ret y n0 h T k n) {cd : ClassFile.Cond} {o : Int} {v w : Int32} (hd : decode bytes pc = .ok (.if_icmp cd o, 3)) (hp : own_tg pc o pc' = true) (gT : own_cI cd v.toInt w.toInt → own_G p e below (T.setTop (mkF m pc' ls st)) Q) (gF : ¬ own_cI cd v.toInt w.toInt → own_G p e below (T.setTop (mkF m (pc + 3) ls st)) Q) :
    own_G p e below (T.setTop (mkF m pc ls (.int w :: .int v :: st))) Q := by
  obtain ⟨⟨hx, hby, -⟩, -, -, locs, X, -⟩ := X
  subst hby
  cases hc : if_icmp.holds cd v w with
  | true => exact own_st (fun t q => XS.icmpYes X.here hx rfl rfl hd rfl hc (own_tg_s hp).1 (own_tg_s hp).2 q) (gT ((own_icmp_iff cd v w).mp hc))
  | false => exact own_st (fun t q => XS.icmpNo X.here hx rfl hd rfl hc q) (gF fun q => by rw [(own_icmp_iff cd v w).mpr q] at hc; cases hc)
theorem own_if (X : own_X p l e R s m args below meth c Z bytes maxL ret y n0 h T k n) {cd : ClassFile.Cond} {o : Int} {v : Int32} (hd : decode bytes pc = .ok (.ifCond cd o, 3)) (hp : own_tg pc o pc' = true) (gT : own_cI cd v.toInt 0 → own_G p e below (T.setTop (mkF m pc' ls st)) Q) (gF : ¬ own_cI cd v.toInt 0 → own_G p e below (T.setTop (mkF m (pc + 3) ls st)) Q) :
    own_G p e below (T.setTop (mkF m pc ls (.int v :: st))) Q := by
  obtain ⟨⟨hx, hby, -⟩, -, -, locs, X, -⟩ := X
  subst hby
  cases hc : ifCond.holds cd v with
  | true => exact own_st (fun t q => XS.ifYes X.here hx rfl rfl hd rfl hc (own_tg_s hp).1 (own_tg_s hp).2 q) (gT ((own_if_iff cd v).mp hc))
  | false => exact own_st (fun t q => XS.ifNo X.here hx rfl hd rfl hc q) (gF fun q => by rw [(own_if_iff cd v).mpr q] at hc; cases hc)
theorem own_lif (X : own_X p l e R s m args below meth c Z bytes maxL ret y n0 h T k n) {cd : ClassFile.Cond} {o : Int} {v w : Int64} (hd1 : decode bytes pc = .ok (.lcmp, 1)) (hd : decode bytes (pc + 1) = .ok (.ifCond cd o, 3)) (hp : own_tg (pc + 1) o pc' = true) (gT : own_cI cd v.toInt w.toInt → own_G p e below (T.setTop (mkF m pc' ls st)) Q) (gF : ¬ own_cI cd v.toInt w.toInt → own_G p e below (T.setTop (mkF m (pc + 4) ls st)) Q) :
    own_G p e below (T.setTop (mkF m pc ls (.long w :: .long v :: st))) Q := by
  obtain ⟨⟨hx, hby, -⟩, -, -, locs, X, -⟩ := X
  subst hby
  refine own_st (fun t q => XS.lcmp X.here hx rfl hd1 rfl q) ?_
  show own_G p e below (T.setTop (mkF m (pc + 1) ls (.int (if v > w then 1 else if v = w then 0 else -1) :: st))) Q
  cases hc : ifCond.holds cd (if v > w then 1 else if v = w then 0 else -1) with
  | true => exact own_st (fun t q => XS.ifYes X.here hx rfl rfl hd rfl hc (own_tg_s hp).1 (own_tg_s hp).2 q) (gT ((own_l_iff cd v w).mp hc))
  | false => exact own_st (fun t q => XS.ifNo X.here hx rfl hd rfl hc q) (gF fun q => by rw [(own_l_iff cd v w).mpr q] at hc; cases hc)
/-! division -/
theorem own_idiv (X : own_X p l e R s m args below meth c Z bytes maxL ret y n0 h T k n) {v w : Int32} (hd : decode bytes pc = .ok (.idiv, 1)) (hw : w ≠ 0) (g : own_G p e below (T.setTop (mkF m (pc + 1) ls (.int (v / w) :: st))) Q) : own_G p e below (T.setTop (mkF m pc ls (.int w :: .int v :: st))) Q := by
  obtain ⟨⟨hx, hby, -⟩, -, -, locs, X, -⟩ := X
  subst hby
  exact own_st (fun t q => XS.idiv X.here hx rfl hd rfl hw q) g
theorem own_iremS (X : own_X p l e R s m args below meth c Z bytes maxL ret y n0 h T k n) {v w : Int32} (hd : decode bytes pc = .ok (.irem, 1)) (hw : w ≠ 0) (g : own_G p e below (T.setTop (mkF m (pc + 1) ls (.int (own_irem v w) :: st))) Q) : own_G p e below (T.setTop (mkF m pc ls (.int w :: .int v :: st))) Q := by
  obtain ⟨⟨hx, hby, -⟩, -, -, locs, X, -⟩ := X
  subst hby
  exact own_st (fun t q => XS.irem X.here hx rfl hd rfl hw q) g
theorem own_ldiv (X : own_X p l e R s m args below meth c Z bytes maxL ret y n0 h T k n) {v w : Int64} (hd : decode bytes pc = .ok (.ldiv, 1)) (hw : w ≠ 0) (g : own_G p e below (T.setTop (mkF m (pc + 1) ls (.long (v / w) :: st))) Q) : own_G p e below (T.setTop (mkF m pc ls (.long w :: .long v :: st))) Q := by
  obtain ⟨⟨hx, hby, -⟩, -, -, locs, X, -⟩ := X
  subst hby
  exact own_st (fun t q => XS.ldiv X.here hx rfl hd rfl hw q) g
theorem own_lremS (X : own_X p l e R s m args below meth c Z bytes maxL ret y n0 h T k n) {v w : Int64} (hd : decode bytes pc = .ok (.lrem, 1)) (hw : w ≠ 0) (g : own_G p e below (T.setTop (mkF m (pc + 1) ls (.long (own_lrem v w) :: st))) Q) : own_G p e below (T.setTop (mkF m pc ls (.long w :: .long v :: st))) Q := by
  obtain ⟨⟨hx, hby, -⟩, -, -, locs, X, -⟩ := X
  subst hby
  exact own_st (fun t q => XS.lrem X.here hx rfl hd rfl hw q) g
/-! constants of the pool -/
theorem own_ldc (X : own_X p l e R s m args below meth c Z bytes maxL ret y n0 h T k n) {i : Nat} {v : Int32} (w : (Jvm.Cond.constant y.cls i v).before a0 Z = true) (hd : decode bytes pc = .ok (.ldc i, 2)) (g : own_G p e below (T.setTop (mkF m (pc + 2) ls (.int v :: st))) Q) : own_G p e below (T.setTop (mkF m pc ls st)) Q := by
  obtain ⟨⟨hx, hby, hml, hown, hnm, hret, hZ, hlk⟩, -, -, locs, X, -⟩ := X
  subst hby
  exact own_st (fun t q => X.ldcInt hx hown (mvT hZ w) (g := mkF m pc ls st) rfl hd t q) g
theorem own_ldc2 (X : own_X p l e R s m args below meth c Z bytes maxL ret y n0 h T k n) {i : Nat} {v : Int64} (w : (Jvm.Cond.constantLong y.cls i v).before a0 Z = true) (hd : decode bytes pc = .ok (.ldc2_w i, 3)) (g : own_G p e below (T.setTop (mkF m (pc + 3) ls (.long v :: st))) Q) : own_G p e below (T.setTop (mkF m pc ls st)) Q := by
  obtain ⟨⟨hx, hby, hml, hown, hnm, hret, hZ, hlk⟩, -, -, locs, X, -⟩ := X
  subst hby
  exact own_st (fun t q => X.ldc2Long hx hown (mvT hZ w) (g := mkF m pc ls st) rfl hd t q) g
/-! returns -/
variable {P : Option Value → Heap → Prop} {C S : Nat}
theorem own_retI (X : own_X p l e R s m args below meth c Z bytes maxL (some .int) y n0 h T k n) (hd : decode bytes pc = .ok (.ireturn, 1)) {v : Int32} (hk : k ≤ C) (hn : n ≤ S) (hP : P (some (.int v)) h) : own_G p e below (T.setTop (mkF m pc ls (.int v :: st))) (own_E s n0 P C S) := by
  obtain ⟨⟨hx, hby, hml, hown, hnm, hret, hZ, hlk⟩, -, eT, locs, X, N⟩ := X
  subst hby
  obtain ⟨fs, hr, hrun, hended, hW, hsame⟩ := X.leave (v := some (.int v)) (fun q => by rw [hret] at q; cases q)
  refine ⟨_, _, ?_, hrun, hended, _, _, rfl, ⟨N, by show P _ T.heap; rw [eT]; exact hP⟩, ⟨_, rfl⟩, hW, hsame.mono hk hn⟩
  have hm' : T.vm.method? m = some meth := X.method'
  have hnn : narrow .int (.int v) = .int v := rfl
  show Steps p.tables e below (T.setTop { method := m, pc := pc, locals := ls, stack := _ :: st, locked := none }) _
  jvm_step X.here [X.here.top, hx, hd, hm', hret, hnn]
  first | (intro acts; rw [hr _ acts rfl rfl rfl]) | rw [hr _ _ rfl rfl rfl]
  exact Steps.refl _
theorem own_retN {t : FieldType} (X : own_X p l e R s m args below meth c Z bytes maxL (some t) y n0 h T k n) (ht : t = .boolean ∨ t = .byte ∨ t = .char ∨ t = .short) (hd : decode bytes pc = .ok (.ireturn, 1)) {v v' : Int32} (hv : nar t v = v') (hk : k ≤ C) (hn : n ≤ S) (hP : P (some (.int v')) h) : own_G p e below (T.setTop (mkF m pc ls (.int v :: st))) (own_E s n0 P C S) := by
  obtain ⟨⟨hx, hby, hml, hown, hnm, hret, hZ, hlk⟩, -, eT, locs, X, N⟩ := X
  subst hby hv
  obtain ⟨fs, hr, hrun, hended, hW, hsame⟩ := X.leave (v := some (.int (nar t v))) (fun q => by rw [hret] at q; cases q)
  exact ⟨_, _, retN X hx hret ht hd hr, hrun, hended, _, _, rfl, ⟨N, by show P _ T.heap; rw [eT]; exact hP⟩, ⟨_, rfl⟩, hW, hsame.mono hk hn⟩
theorem own_retL (X : own_X p l e R s m args below meth c Z bytes maxL (some .long) y n0 h T k n) (hd : decode bytes pc = .ok (.lreturn, 1)) {v : Int64} (hk : k ≤ C) (hn : n ≤ S) (hP : P (some (.long v)) h) : own_G p e below (T.setTop (mkF m pc ls [.long v])) (own_E s n0 P C S) := by
  obtain ⟨⟨hx, hby, hml, hown, hnm, hret, hZ, hlk⟩, -, eT, locs, X, N⟩ := X
  subst hby
  obtain ⟨fs, hr, hrun, hended, hW, hsame⟩ := X.leave (v := some (.long v)) (fun q => by rw [hret] at q; cases q)
  exact ⟨_, _, X.lreturnOut hx hret hd hr, hrun, hended, _, _, rfl, ⟨N, by show P _ T.heap; rw [eT]; exact hP⟩, ⟨_, rfl⟩, hW, hsame.mono hk hn⟩
theorem own_retA {t : FieldType} (X : own_X p l e R s m args below meth c Z bytes maxL (some t) y n0 h T k n) (ht : t.isReference = true) (hd : decode bytes pc = .ok (.areturn, 1)) {v : Addr} (hk : k ≤ C) (hn : n ≤ S) (hP : P (some (.ref v)) h) : own_G p e below (T.setTop (mkF m pc ls [.ref v])) (own_E s n0 P C S) := by
  obtain ⟨⟨hx, hby, hml, hown, hnm, hret, hZ, hlk⟩, -, eT, locs, X, N⟩ := X
  subst hby
  obtain ⟨fs, hr, hrun, hended, hW, hsame⟩ := X.leave (v := some (.ref v)) (fun q => by rw [hret] at q; cases q)
  exact ⟨_, _, X.areturnOut hx rfl hret ht hd hr, hrun, hended, _, _, rfl, ⟨N, by show P _ T.heap; rw [eT]; exact hP⟩, ⟨_, rfl⟩, hW, hsame.mono hk hn⟩
theorem own_retV (X : own_X p l e R s m args below meth c Z bytes maxL none y n0 h T k n) (hd : decode bytes pc = .ok (.return_, 1)) (hk : k ≤ C) (hn : n ≤ S) (hP : P none h) : own_G p e below (T.setTop (mkF m pc ls [])) (own_E s n0 P C S) := by
  obtain ⟨⟨hx, hby, hml, hown, hnm, hret, hZ, hlk⟩, -, eT, locs, X, N⟩ := X
  subst hby
  obtain ⟨fs, hr, hrun, hended, hW, hsame⟩ := X.leave (v := none) (fun _ => rfl)
  exact ⟨_, _, X.returnOut hx hret hd hr, hrun, hended, _, _, rfl, ⟨N, by show P _ T.heap; rw [eT]; exact hP⟩, ⟨_, rfl⟩, hW, hsame.mono hk hn⟩
/-! calls -/
theorem own_callS (X : own_X p l e R s m args below meth c Z bytes maxL ret y n0 h T k n) {i : Nat} {z : MethodName} {zb : ByteArray} {zl : Nat} {zr : Option FieldType} {rm : Room} {as : Array Value} {P : Option Value → Heap → Prop}
    (w1 : (Jvm.Cond.methodLink y.cls i z).before a0 Z = true) (w2 : (Jvm.Cond.static z).before a0 Z = true) (w3 : (Jvm.Cond.initialized z.cls).before a0 Z = true) (w4 : (Jvm.Cond.code z zb zl zr).before a0 Z = true) (hy : z.cls ≠ "java/lang/invoke/MethodHandle" ∧ z.cls ≠ "java/lang/invoke/VarHandle")
    (K : own_C l Z z zb zl zr rm as h n0 P) (hd : decode bytes pc = .ok (.invokestatic i, 3)) (argsL rest : List Value) (hst : st = argsL.reverse ++ rest) (has : argsL.toArray = as) {ps : List FieldType} {pr : Option FieldType} (hsg : parseMethodDescriptor z.desc = some ⟨ps, pr⟩) (hlen : argsL.length = ps.length) (hsz : ls.size = maxL)
    (hf : rm.frames + 1 ≤ R.frames) (hl : (rest.map fun v => v.category).sum + (zl + 11) + rm.locals ≤ R.locals) (hc : k + rm.cells ≤ R.cells) (hs : n + rm.slots ≤ R.slots) (hn : ∀ v h', P v h' → n0 ≤ h'.size)
    (g : ∀ v h' T', own_X p l e R s m args below meth c Z bytes maxL ret y n0 h' T' (k + rm.cells) (n + rm.slots) → P v h' → own_G p e below (T'.setTop (mkF m (pc + 3) ls (v.toList ++ rest))) Q) : own_G p e below (T.setTop (mkF m pc ls st)) Q := by
  obtain ⟨M, hn0, eT, locs, X, N⟩ := X
  have M' := M
  obtain ⟨hx, hby, hml, hown, hnm, hret, hZ, hlk⟩ := M'
  subst hby hst has
  obtain ⟨v, vm₁, B, -, X', ⟨L, hq, l1, l2, l3⟩, stp⟩ := Jvm.LawKit.callS X hx (y := z) hown (mvT hZ w1) (mvT hZ w2) (mvT hZ w3) (mvT hZ w4) hy (backOf (W := (rest.map fun v => v.category).sum) (Q := fun v h' L => Fr n0 L ∧ P v h') (K []) hZ w4 w3 hf hl) (g := mkF m pc ls (argsL.reverse ++ rest)) rfl (hsz.trans hml.symm) (argsL := argsL) (rest := rest)
    (lenOf hsg hlen) rfl (Nat.le_of_eq (Nat.zero_add _)) hd (fun _ _ => ⟨rfl, eT, hc, hs⟩)
  obtain ⟨U, Lc, k', n'⟩ := B
  dsimp only [Pt.U, Pt.locs, Pt.cells, Pt.slots] at X' hq l1 l2 l3 stp
  subst l1 l2 l3
  exact own_st stp (g v U.heap U ⟨M, hn v _ hq.2, rfl, _, X', Fr.app N hq.1⟩ hq.2)
theorem own_callP (X : own_X p l e R s m args below meth c Z bytes maxL ret y n0 h T k n) {i : Nat} {z : MethodName} {zb : ByteArray} {zl : Nat} {zr : Option FieldType} {rm : Room} {as : Array Value} {v : Option Value}
    (w1 : (Jvm.Cond.methodLink y.cls i z).before a0 Z = true) (w2 : (Jvm.Cond.static z).before a0 Z = true) (w3 : (Jvm.Cond.initialized z.cls).before a0 Z = true) (w4 : (Jvm.Cond.code z zb zl zr).before a0 Z = true) (hy : z.cls ≠ "java/lang/invoke/MethodHandle" ∧ z.cls ≠ "java/lang/invoke/VarHandle")
    (K : own_C l Z z zb zl zr rm as h n0 (fun v' h' => v' = v ∧ h' = h)) (hd : decode bytes pc = .ok (.invokestatic i, 3)) (argsL rest : List Value) (hst : st = argsL.reverse ++ rest) (has : argsL.toArray = as) {ps : List FieldType} {pr : Option FieldType} (hsg : parseMethodDescriptor z.desc = some ⟨ps, pr⟩) (hlen : argsL.length = ps.length) (hsz : ls.size = maxL)
    (hf : rm.frames + 1 ≤ R.frames) (hl : (rest.map fun v => v.category).sum + (zl + 11) + rm.locals ≤ R.locals) (hc : k + rm.cells ≤ R.cells) (hs : n + rm.slots ≤ R.slots)
    (g : ∀ T', own_X p l e R s m args below meth c Z bytes maxL ret y n0 h T' (k + rm.cells) (n + rm.slots) → own_G p e below (T'.setTop (mkF m (pc + 3) ls (v.toList ++ rest))) Q) : own_G p e below (T.setTop (mkF m pc ls st)) Q :=
  own_callS X w1 w2 w3 w4 hy K hd argsL rest hst has hsg hlen hsz hf hl hc hs (fun v h' q => by rw [q.2]; exact X.2.1) (fun v' h' T' X' q => by obtain ⟨q1, q2⟩ := q; subst q1; rw [q2] at X'; exact g T' X')
theorem own_callN (X : own_X p l e R s m args below meth c Z bytes maxL ret y n0 h T k n) {i : Nat} {z : MethodName} {zb : ByteArray} {zl : Nat} {rm : Room} {as : Array Value} {P : Option Value → Heap → Prop} (hz : z.name = "<init>")
    (w1 : (Jvm.Cond.methodLink y.cls i z).before a0 Z = true) (w2 : (Jvm.Cond.instanceMethod z).before a0 Z = true) (w3 : (Jvm.Cond.initialized z.cls).before a0 Z = true) (w4 : (Jvm.Cond.code z zb zl none).before a0 Z = true) (hy : z.cls ≠ "java/lang/invoke/MethodHandle" ∧ z.cls ≠ "java/lang/invoke/VarHandle")
    (K : own_C l Z z zb zl none rm as h n0 P) (hd : decode bytes pc = .ok (.invokespecial i, 3)) {a : Addr} (argsL rest : List Value) (hst : st = argsL.reverse ++ .ref a :: rest) (has : (.ref a :: argsL).toArray = as) {ps : List FieldType} {pr : Option FieldType} (hsg : parseMethodDescriptor z.desc = some ⟨ps, pr⟩) (hlen : argsL.length = ps.length) (hsz : ls.size = maxL)
    (hf : rm.frames + 1 ≤ R.frames) (hl : (rest.map fun v => v.category).sum + (zl + 11) + rm.locals ≤ R.locals) (hc : k + rm.cells ≤ R.cells) (hs : n + rm.slots ≤ R.slots) (hn : ∀ v h', P v h' → n0 ≤ h'.size)
    (g : ∀ v h' T', own_X p l e R s m args below meth c Z bytes maxL ret y n0 h' T' (k + rm.cells) (n + rm.slots) → P v h' → own_G p e below (T'.setTop (mkF m (pc + 3) ls (v.toList ++ rest))) Q) : own_G p e below (T.setTop (mkF m pc ls st)) Q := by
  obtain ⟨M, hn0, eT, locs, X, N⟩ := X
  have M' := M
  obtain ⟨hx, hby, hml, hown, hnm, hret, hZ, hlk⟩ := M'
  subst hby hst has
  obtain ⟨v, vm₁, B, -, X', ⟨L, hq, l1, l2, l3⟩, stp⟩ := X.specialBack hx (y := z) hz hown (mvT hZ w1) (mvT hZ w2) (mvT hZ w4) hy (backOf (W := (rest.map fun v => v.category).sum) (Q := fun v h' L => Fr n0 L ∧ P v h') (K []) hZ w4 w3 hf hl) (g := mkF m pc ls (argsL.reverse ++ .ref a :: rest)) rfl (hsz.trans hml.symm) (Steps.refl _) (a := a) (argsL := argsL) (rest := rest)
    (lenOf hsg hlen) rfl (Nat.le_of_eq (Nat.zero_add _)) hd (fun _ _ => ⟨rfl, eT, hc, hs⟩)
  obtain ⟨U, Lc, k', n'⟩ := B
  dsimp only [Pt.U, Pt.locs, Pt.cells, Pt.slots] at X' hq l1 l2 l3 stp
  subst l1 l2 l3
  exact own_st (fun t q => stp.trans q) (g v U.heap U ⟨M, hn v _ hq.2, rfl, _, X', Fr.app N hq.1⟩ hq.2)
theorem own_callV (X : own_X p l e R s m args below meth c Z bytes maxL ret y n0 h T k n) {i : Nat} {z : MethodName} {zb : ByteArray} {zl : Nat} {zr : Option FieldType} {rm : Room} {as : Array Value} {P : Option Value → Heap → Prop}
    (w1 : (Jvm.Cond.methodLink y.cls i z).before a0 Z = true) (w2 : (Jvm.Cond.declares z).before a0 Z = true) (w5 : (Jvm.Cond.selects z.cls z z).before a0 Z = true) (w6 : (Jvm.Cond.instanceMethod z).before a0 Z = true) (w3 : (Jvm.Cond.initialized z.cls).before a0 Z = true) (w4 : (Jvm.Cond.code z zb zl zr).before a0 Z = true) (hy : z.cls ≠ "java/lang/invoke/MethodHandle" ∧ z.cls ≠ "java/lang/invoke/VarHandle")
    {a : Addr} (E : Exa Z h a z.cls) (K : own_C l Z z zb zl zr rm as h n0 P) (hd : decode bytes pc = .ok (.invokevirtual i, 3)) (argsL rest : List Value) (hst : st = argsL.reverse ++ .ref a :: rest) (has : (.ref a :: argsL).toArray = as) {ps : List FieldType} {pr : Option FieldType} (hsg : parseMethodDescriptor z.desc = some ⟨ps, pr⟩) (hlen : argsL.length = ps.length) (hsz : ls.size = maxL)
    (hf : rm.frames + 1 ≤ R.frames) (hl : (rest.map fun v => v.category).sum + (zl + 11) + rm.locals ≤ R.locals) (hc : k + rm.cells ≤ R.cells) (hs : n + rm.slots ≤ R.slots) (hn : ∀ v h', P v h' → n0 ≤ h'.size)
    (g : ∀ v h' T', own_X p l e R s m args below meth c Z bytes maxL ret y n0 h' T' (k + rm.cells) (n + rm.slots) → P v h' → own_G p e below (T'.setTop (mkF m (pc + 3) ls (v.toList ++ rest))) Q) : own_G p e below (T.setTop (mkF m pc ls st)) Q := by
  obtain ⟨M, hn0, eT, locs, X, N⟩ := X
  have M' := M
  obtain ⟨hx, hby, hml, hown, hnm, hret, hZ, hlk⟩ := M'
  subst hby hst has
  obtain ⟨cq, kq, qa, qb, qc⟩ := isOf hZ eT E
  obtain ⟨v, vm₁, B, -, X', ⟨L, hq, l1, l2, l3⟩, stp⟩ := X.virtualBack hx (y := z) (z := z) hown (mvT hZ w1) (mvT hZ w2) (notFace_of_selects (args := #[]) (mvT hZ w5)) (mvT hZ w5) (mvT hZ w6) hy (backOf (W := (rest.map fun v => v.category).sum) (Q := fun v h' L => Fr n0 L ∧ P v h') (K []) hZ w4 w3 hf hl) qa qc (g := mkF m pc ls (argsL.reverse ++ .ref a :: rest)) rfl (hsz.trans hml.symm) (Steps.refl _) (argsL := argsL) (rest := rest)
    (lenOf hsg hlen) rfl (Nat.le_of_eq (Nat.zero_add _)) hd (fun _ _ => ⟨rfl, eT, hc, hs⟩)
  obtain ⟨U, Lc, k', n'⟩ := B
  dsimp only [Pt.U, Pt.locs, Pt.cells, Pt.slots] at X' hq l1 l2 l3 stp
  subst l1 l2 l3
  exact own_st (fun t q => stp.trans q) (g v U.heap U ⟨M, hn v _ hq.2, rfl, _, X', Fr.app N hq.1⟩ hq.2)
/-! fields -/
theorem own_getF (X : own_X p l e R s m args below meth c Z bytes maxL ret y n0 h T k n) {i : Nat} {O f d : String} (w : (Jvm.Cond.fieldLink y.cls i O f d).before a0 Z = true) {a : Addr} {v : Value} (F : Fld Z h a O f d v) (hd : decode bytes pc = .ok (.getfield i, 3))
    (g : ∀ T', own_X p l e R s m args below meth c Z bytes maxL ret y n0 h T' k n → own_G p e below (T'.setTop (mkF m (pc + 3) ls (v :: st))) Q) : own_G p e below (T.setTop (mkF m pc ls (.ref a :: st))) Q := by
  obtain ⟨M, hn0, eT, locs, X, N⟩ := X
  have M' := M
  obtain ⟨hx, hby, hml, hown, hnm, hret, hZ, hlk⟩ := M'
  subst hby
  obtain ⟨T', X', e', stp⟩ := getF X hx hZ hown (host := "") (Or.inl w) Via.refl eT F (g := mkF m pc ls (.ref a :: st)) rfl rfl hd
  exact own_st stp (g T' ⟨M, hn0, e', _, X', N⟩)
theorem own_putF (X : own_X p l e R s m args below meth c Z bytes maxL ret y n0 h T k n) {i kk : Nat} {O f d K : String} {ty : FieldType} (w : (Jvm.Cond.fieldLink y.cls i O f d).before a0 Z = true) {a : Addr} {v old : Value} (F : Fld Z h a O f d old) (E : Exa Z h a K) (L : (Jvm.Cond.lays K O f d).before a0 Z = true ∨ ((Jvm.Cond.laysFinal K O f d).before a0 Z = true ∧ y.cls = O ∧ y.name = "<init>")) (wi : (Jvm.Cond.instantiable K kk).before a0 Z = true)
    (hty : parseFieldDescriptor d = some ty) (hn : narrow ty v = v) (hf : fits ty v = true) (ha : n0 ≤ a) (hd : decode bytes pc = .ok (.putfield i, 3))
    (g : ∀ h' T', own_X p l e R s m args below meth c Z bytes maxL ret y n0 h' T' k n → Wr h h' a (Jvm.RoadKit.slotOf Z O f d) v → own_G p e below (T'.setTop (mkF m (pc + 3) ls st)) Q) : own_G p e below (T.setTop (mkF m pc ls (v :: .ref a :: st))) Q := by
  obtain ⟨M, hn0, eT, locs, X, N⟩ := X
  have M' := M
  obtain ⟨hx, hby, hml, hown, hnm, hret, hZ, hlk⟩ := M'
  subst hby
  obtain ⟨T', h', X', e', W', stp⟩ := putF X hx hZ hown (host := "") (Or.inl w) Via.refl eT F E (L.imp id fun q => ⟨q.1, q.2.1, hnm.trans q.2.2⟩) wi hty hn hf (g := mkF m pc ls (v :: .ref a :: st)) rfl rfl hd
  exact own_st stp (g h' T' ⟨M, by rw [W'.size]; exact hn0, e', _, X', Fr.snoc X' N ha⟩ W')
/-! new -/
theorem own_newO (X : own_X p l e R s m args below meth c Z bytes maxL ret y n0 h T k n) {i nn : Nat} {K : String} (w : (Jvm.Cond.classLink y.cls i K).before a0 Z = true) (wi : (Jvm.Cond.instantiable K nn).before a0 Z = true) (wz : (Jvm.Cond.initialized K).before a0 Z = true) (hd : decode bytes pc = .ok (.new i, 3)) (hc : k + 1 ≤ R.cells) (hs : n + nn ≤ R.slots)
    (g : ∀ h' T', own_X p l e R s m args below meth c Z bytes maxL ret y n0 h' T' (k + 1) (n + nn) → Ext h h' → Exa Z h' h.size K → (∀ {O nm d : String} {ty : FieldType}, Laid Z a0 K O nm d → parseFieldDescriptor d = some ty → Fld Z h' h.size O nm d (defaultValue ty)) → own_G p e below (T'.setTop (mkF m (pc + 3) ls (.ref h.size :: st))) Q) : own_G p e below (T.setTop (mkF m pc ls st)) Q := by
  obtain ⟨M, hn0, eT, locs, X, N⟩ := X
  have M' := M
  obtain ⟨hx, hby, hml, hown, hnm, hret, hZ, hlk⟩ := M'
  subst hby
  obtain ⟨T', h', X', e', E', A', D', -, stp⟩ := newO X hx hZ hown w wi wz eT (g := mkF m pc ls st) rfl hd hc hs
  exact own_st stp (g h' T' ⟨M, Nat.le_trans hn0 E'.1, e', _, X', N⟩ E' A' D')
end Walk
/-! ### own layer 3: arrays: the array at a has n places, place j holds f j -/
def own_A (Z : State) (h : Heap) (a : Addr) (ty : FieldType) (n : Nat) (f : Int → Value) : Prop := n < 2147483648 ∧ ∃ c : Cell, Arr Z h a c ty ∧ c.slots.size = n ∧ ∀ j : Nat, j < n → c.slots[j]? = some (f (j : Int))
def own_u {α : Type} (f : Int → α) (i : Int) (x : α) : Int → α := fun j => if j = i then x else f j
section Arrs
variable {Z : State} {h h' : Heap} {a b : Addr} {ty : FieldType} {n : Nat} {f : Int → Value}
theorem own_A_lt (A : own_A Z h a ty n f) : a < h.size := by obtain ⟨-, c, A, -⟩ := A; exact A.lt
theorem own_A_ext (A : own_A Z h a ty n f) (E : Ext h h') : own_A Z h' a ty n f := by obtain ⟨q, c, A, r⟩ := A; exact ⟨q, c, A.ext E, r⟩
theorem own_A_other (A : own_A Z h b ty n f) {sl : Nat} {v : Value} (W : Wr h h' a sl v) (q : b ≠ a) : own_A Z h' b ty n f := by obtain ⟨q1, c, A, r⟩ := A; exact ⟨q1, c, A.other W q, r⟩
theorem own_A_keep (A : own_A Z h a ty n f) {ws : List Addr} (K : Keep h h' ws) (q : a ∉ ws) : own_A Z h' a ty n f := by obtain ⟨q1, c, A, r⟩ := A; exact ⟨q1, c, ⟨K.2.1 a c A.1 q, A.2⟩, r⟩
theorem own_A_new {k : ClassId} {z : Int32} (A : Arr Z h a (newA k ty z) ty) (q : 0 ≤ z.toInt) : own_A Z h a ty z.toInt.toNat (fun _ => defaultValue ty) := by
  have := Int32.toInt_lt z
  refine ⟨by omega, _, A, by rw [sz_new]; rfl, fun j hj => ?_⟩
  have hj' : j < z.toNatClampNeg := hj
  simp [newA, hj']
theorem own_A_set {sl : Nat} {v : Value} (A : own_A Z h a ty n f) (W : Wr h h' a sl v) (i : Int) (hi : i = (sl : Int)) : own_A Z h' a ty n (own_u f i v) := by
  obtain ⟨q, c, A, S, H⟩ := A
  have W0 := W
  obtain ⟨c2, g1, -, g3, -⟩ := W0
  cases g1.symm.trans A.1
  refine ⟨q, _, A.same W, by rw [sz_set]; exact S, fun j hj => ?_⟩
  subst hi
  by_cases u : j = sl
  · subst u; simp [Cell.setSlot, own_u, g3]
  · have e1 : ¬ ((j : Int) = (sl : Int)) := by omega
    simp only [own_u, e1, if_false, Cell.setSlot]
    rw [Array.getElem?_setIfInBounds_ne (fun q => u q.symm)]
    exact H j hj
theorem own_A_eq {g : Int → Value} (A : own_A Z h a ty n f) (q : ∀ j : Int, 0 ≤ j → j < n → g j = f j) : own_A Z h a ty n g := by
  obtain ⟨q1, c, A, S, H⟩ := A
  exact ⟨q1, c, A, S, fun j hj => by rw [H j hj, q j (by omega) (by omega)]⟩
theorem own_tnc (j : Int32) : j.toNatClampNeg = j.toInt.toNat := rfl
theorem own_z32 : (0 : Int32).toInt = 0 := rfl
theorem own_idx {j : Int32} (h0 : 0 ≤ j.toInt) : ¬ j < 0 := by rw [Int32.lt_iff_toInt_lt, own_z32]; omega
theorem own_inb {j : Int32} {cl : Cell} (S : cl.slots.size = n) (h0 : 0 ≤ j.toInt) (h1 : j.toInt < n) : ¬ (j < 0 ∨ cl.slots.size ≤ j.toNatClampNeg) := by
  rw [Int32.lt_iff_toInt_lt, S, own_z32, own_tnc]; omega
theorem own_nat {j : Int32} (h0 : 0 ≤ j.toInt) : j.toInt = (j.toNatClampNeg : Int) := by rw [own_tnc]; omega
end Arrs
/-- the same, of ints -/
def own_I (Z : State) (h : Heap) (a : Addr) (ty : FieldType) (n : Nat) (g : Int → Int32) : Prop := own_A Z h a ty n (fun j => .int (g j))
theorem own_I_ext {Z : State} {h h' : Heap} {a : Addr} {ty : FieldType} {n : Nat} {g : Int → Int32} (A : own_I Z h a ty n g) (E : Ext h h') : own_I Z h' a ty n g := own_A_ext A E
theorem own_I_other {Z : State} {h h' : Heap} {a b : Addr} {ty : FieldType} {n : Nat} {g : Int → Int32} (A : own_I Z h b ty n g) {sl : Nat} {v : Value} (W : Wr h h' a sl v) (q : b ≠ a) : own_I Z h' b ty n g := own_A_other A W q
theorem own_I_keep {Z : State} {h h' : Heap} {a : Addr} {ty : FieldType} {n : Nat} {g : Int → Int32} (A : own_I Z h a ty n g) {ws : List Addr} (K : Keep h h' ws) (q : a ∉ ws) : own_I Z h' a ty n g := own_A_keep A K q
theorem own_I_eq {Z : State} {h : Heap} {a : Addr} {ty : FieldType} {n : Nat} {f g : Int → Int32} (A : own_I Z h a ty n f) (q : ∀ j : Int, 0 ≤ j → j < n → g j = f j) : own_I Z h a ty n g := own_A_eq A (fun j h0 h1 => by rw [q j h0 h1])
theorem own_I_set {Z : State} {h h' : Heap} {a : Addr} {ty : FieldType} {n : Nat} {g : Int → Int32} {sl : Nat} {x : Int32} (A : own_I Z h a ty n g) (W : Wr h h' a sl (.int x)) (i : Int) (hi : i = (sl : Int)) : own_I Z h' a ty n (own_u g i x) :=
  own_A_eq (own_A_set A W i hi) (fun j _ _ => by simp only [own_u]; split <;> rfl)
theorem own_u_ne {α : Type} {g : Int → α} {i j : Int} {x : α} (h : j ≠ i) : own_u g i x j = g j := if_neg h
theorem own_u_eq {α : Type} {g : Int → α} {i j : Int} {x : α} (h : j = i) : own_u g i x j = x := if_pos h
section Arrs2
variable {p : Program} {l : Launch} {e : Env} {R : Room} {s : State} {m : MethodId} {args : Array Value} {below : List Frame} {meth : Method} {c : Code} {Z : State} {bytes : ByteArray} {maxL : Nat} {ret : Option FieldType} {y : MethodName} {n0 : Nat} {h : Heap} {T : State} {k n : Nat} {Q : Outcome → State → Prop} {pc pc' : Nat} {ls ls' : Array Slot} {st st' : List Value} {a0 : Array Value} {a : Addr} {nn : Nat} {f : Int → Value} {gg : Int → Int32}
theorem own_len (X : own_X p l e R s m args below meth c Z bytes maxL ret y n0 h T k n) {ty : FieldType} (A : own_A Z h a ty nn f) (hd : decode bytes pc = .ok (.arraylength, 1)) (g : own_G p e below (T.setTop (mkF m (pc + 1) ls (.int (Int32.ofNat nn) :: st))) Q) : own_G p e below (T.setTop (mkF m pc ls (.ref a :: st))) Q := by
  obtain ⟨⟨hx, hby, hml, hown, hnm, hret, hZ, hlk⟩, hn0, eT, locs, X, N⟩ := X
  obtain ⟨q, cl, A, S, H⟩ := A
  subst hby
  refine own_st (fun t q => X.arraylength hx (by rw [eT]; exact A.1) (State.isArrayOf_alike hZ.alike A.2.1) (g := mkF m pc ls (.ref a :: st)) rfl rfl hd t q) ?_
  show own_G p e below (T.setTop (mkF m (pc + 1) ls (.int cl.slots.size.toInt32 :: st))) Q
  rw [S]
  exact g
theorem own_iald (X : own_X p l e R s m args below meth c Z bytes maxL ret y n0 h T k n) (A : own_I Z h a .int nn gg) (hd : decode bytes pc = .ok (.iaload, 1)) {j : Int32} (h0 : 0 ≤ j.toInt) (h1 : j.toInt < nn) (g : own_G p e below (T.setTop (mkF m (pc + 1) ls (.int (gg j.toInt) :: st))) Q) : own_G p e below (T.setTop (mkF m pc ls (.int j :: .ref a :: st))) Q := by
  obtain ⟨⟨hx, hby, hml, hown, hnm, hret, hZ, hlk⟩, hn0, eT, locs, X, N⟩ := X
  obtain ⟨q, cl, A, S, H⟩ := A
  subst hby
  have e1 := own_nat h0
  refine own_st (fun t q => X.iaload hx (by rw [eT]; exact A.1) (State.isArrayOf_alike hZ.alike A.2.1) A.2.2 (own_inb S h0 h1) (H _ (by omega)) (g := mkF m pc ls (.int j :: .ref a :: st)) rfl rfl hd t q) ?_
  show own_G p e below (T.setTop (mkF m (pc + 1) ls (.int (gg (j.toNatClampNeg : Int)) :: st))) Q
  rw [← e1]
  exact g
theorem own_bald (X : own_X p l e R s m args below meth c Z bytes maxL ret y n0 h T k n) (A : own_I Z h a .byte nn gg) (hd : decode bytes pc = .ok (.baload, 1)) {j : Int32} (h0 : 0 ≤ j.toInt) (h1 : j.toInt < nn) (g : own_G p e below (T.setTop (mkF m (pc + 1) ls (.int (gg j.toInt) :: st))) Q) : own_G p e below (T.setTop (mkF m pc ls (.int j :: .ref a :: st))) Q := by
  obtain ⟨⟨hx, hby, hml, hown, hnm, hret, hZ, hlk⟩, hn0, eT, locs, X, N⟩ := X
  obtain ⟨q, cl, A, S, H⟩ := A
  subst hby
  have e1 := own_nat h0
  refine own_st (fun t q => X.baloadBytes hx (by rw [eT]; exact A.1) (State.isArrayOf_alike hZ.alike A.2.1) A.2.2 (own_inb S h0 h1) (H _ (by omega)) (g := mkF m pc ls (.int j :: .ref a :: st)) rfl rfl hd t q) ?_
  show own_G p e below (T.setTop (mkF m (pc + 1) ls (.int (gg (j.toNatClampNeg : Int)) :: st))) Q
  rw [← e1]
  exact g
theorem own_zald (X : own_X p l e R s m args below meth c Z bytes maxL ret y n0 h T k n) (A : own_I Z h a .boolean nn gg) (hd : decode bytes pc = .ok (.baload, 1)) {j : Int32} (h0 : 0 ≤ j.toInt) (h1 : j.toInt < nn) (g : own_G p e below (T.setTop (mkF m (pc + 1) ls (.int (gg j.toInt) :: st))) Q) : own_G p e below (T.setTop (mkF m pc ls (.int j :: .ref a :: st))) Q := by
  obtain ⟨⟨hx, hby, hml, hown, hnm, hret, hZ, hlk⟩, hn0, eT, locs, X, N⟩ := X
  obtain ⟨q, cl, A, S, H⟩ := A
  subst hby
  have e1 := own_nat h0
  refine own_st (fun t q => X.baloadBooleans hx (by rw [eT]; exact A.1) (State.isArrayOf_alike hZ.alike A.2.1) A.2.2 (own_inb S h0 h1) (H _ (by omega)) (g := mkF m pc ls (.int j :: .ref a :: st)) rfl rfl hd t q) ?_
  show own_G p e below (T.setTop (mkF m (pc + 1) ls (.int (gg (j.toNatClampNeg : Int)) :: st))) Q
  rw [← e1]
  exact g
theorem own_iast (X : own_X p l e R s m args below meth c Z bytes maxL ret y n0 h T k n) (A : own_I Z h a .int nn gg) (ha : n0 ≤ a) (hd : decode bytes pc = .ok (.iastore, 1)) {j x : Int32} (h0 : 0 ≤ j.toInt) (h1 : j.toInt < nn)
    (g : ∀ h' T', own_X p l e R s m args below meth c Z bytes maxL ret y n0 h' T' k n → own_I Z h' a .int nn (own_u gg j.toInt x) → Wr h h' a j.toNatClampNeg (.int x) → own_G p e below (T'.setTop (mkF m (pc + 1) ls st)) Q) : own_G p e below (T.setTop (mkF m pc ls (.int x :: .int j :: .ref a :: st))) Q := by
  obtain ⟨M, hn0, eT, locs, X, N⟩ := X
  have M' := M
  obtain ⟨hx, hby, hml, hown, hnm, hret, hZ, hlk⟩ := M'
  have AA := A
  obtain ⟨q, cl, A, S, H⟩ := A
  subst hby
  obtain ⟨T', h', X', e', W', stp⟩ := stI X hx hZ eT A (own_inb S h0 h1) (g := mkF m pc ls (.int x :: .int j :: .ref a :: st)) rfl rfl hd
  exact own_st stp (g h' T' ⟨M, by rw [W'.size]; exact hn0, e', _, X', Fr.snoc X' N ha⟩ (own_I_set AA W' _ (own_nat h0)) W')
theorem own_bast (X : own_X p l e R s m args below meth c Z bytes maxL ret y n0 h T k n) (A : own_I Z h a .byte nn gg) (ha : n0 ≤ a) (hd : decode bytes pc = .ok (.bastore, 1)) {j x : Int32} (h0 : 0 ≤ j.toInt) (h1 : j.toInt < nn) (hx8 : x.toInt8.toInt32 = x)
    (g : ∀ h' T', own_X p l e R s m args below meth c Z bytes maxL ret y n0 h' T' k n → own_I Z h' a .byte nn (own_u gg j.toInt x) → Wr h h' a j.toNatClampNeg (.int x) → own_G p e below (T'.setTop (mkF m (pc + 1) ls st)) Q) : own_G p e below (T.setTop (mkF m pc ls (.int x :: .int j :: .ref a :: st))) Q := by
  obtain ⟨M, hn0, eT, locs, X, N⟩ := X
  have M' := M
  obtain ⟨hx, hby, hml, hown, hnm, hret, hZ, hlk⟩ := M'
  have AA := A
  obtain ⟨q, cl, A, S, H⟩ := A
  subst hby
  obtain ⟨T', h', X', e', W', stp⟩ := stB X hx hZ eT A (own_inb S h0 h1) (g := mkF m pc ls (.int x :: .int j :: .ref a :: st)) rfl rfl hd
  have W2 : Wr h h' a j.toNatClampNeg (.int x) := by have q := W'; simp only [nar, hx8] at q; exact q
  exact own_st stp (g h' T' ⟨M, by rw [W'.size]; exact hn0, e', _, X', Fr.snoc X' N ha⟩ (own_I_set AA W2 _ (own_nat h0)) W2)
theorem own_zast (X : own_X p l e R s m args below meth c Z bytes maxL ret y n0 h T k n) (A : own_I Z h a .boolean nn gg) (ha : n0 ≤ a) (hd : decode bytes pc = .ok (.bastore, 1)) {j x : Int32} (h0 : 0 ≤ j.toInt) (h1 : j.toInt < nn) (hx1 : x &&& 1 = x)
    (g : ∀ h' T', own_X p l e R s m args below meth c Z bytes maxL ret y n0 h' T' k n → own_I Z h' a .boolean nn (own_u gg j.toInt x) → Wr h h' a j.toNatClampNeg (.int x) → own_G p e below (T'.setTop (mkF m (pc + 1) ls st)) Q) : own_G p e below (T.setTop (mkF m pc ls (.int x :: .int j :: .ref a :: st))) Q := by
  obtain ⟨M, hn0, eT, locs, X, N⟩ := X
  have M' := M
  obtain ⟨hx, hby, hml, hown, hnm, hret, hZ, hlk⟩ := M'
  have AA := A
  obtain ⟨q, cl, A, S, H⟩ := A
  subst hby
  obtain ⟨T', h', X', e', W', stp⟩ := stZ X hx hZ eT A (own_inb S h0 h1) (g := mkF m pc ls (.int x :: .int j :: .ref a :: st)) rfl rfl hd
  have W2 : Wr h h' a j.toNatClampNeg (.int x) := by have q := W'; simp only [nar, hx1] at q; exact q
  exact own_st stp (g h' T' ⟨M, by rw [W'.size]; exact hn0, e', _, X', Fr.snoc X' N ha⟩ (own_I_set AA W2 _ (own_nat h0)) W2)
theorem own_jast (X : own_X p l e R s m args below meth c Z bytes maxL ret y n0 h T k n) (A : own_A Z h a .long nn f) (ha : n0 ≤ a) (hd : decode bytes pc = .ok (.lastore, 1)) {j : Int32} {x : Int64} (h0 : 0 ≤ j.toInt) (h1 : j.toInt < nn)
    (g : ∀ h' T', own_X p l e R s m args below meth c Z bytes maxL ret y n0 h' T' k n → own_A Z h' a .long nn (own_u f j.toInt (.long x)) → Wr h h' a j.toNatClampNeg (.long x) → own_G p e below (T'.setTop (mkF m (pc + 1) ls st)) Q) : own_G p e below (T.setTop (mkF m pc ls (.long x :: .int j :: .ref a :: st))) Q := by
  obtain ⟨M, hn0, eT, locs, X, N⟩ := X
  have M' := M
  obtain ⟨hx, hby, hml, hown, hnm, hret, hZ, hlk⟩ := M'
  have AA := A
  obtain ⟨q, cl, A, S, H⟩ := A
  subst hby
  obtain ⟨T', h', X', e', W', stp⟩ := stJ X hx hZ eT A (own_inb S h0 h1) (g := mkF m pc ls (.long x :: .int j :: .ref a :: st)) rfl rfl hd
  exact own_st stp (g h' T' ⟨M, by rw [W'.size]; exact hn0, e', _, X', Fr.snoc X' N ha⟩ (own_A_set AA W' _ (own_nat h0)) W')
theorem own_newP (X : own_X p l e R s m args below meth c Z bytes maxL ret y n0 h T k n) {aty : ArrayType} (w : (Jvm.Cond.arrayClass (newarray.typeOf aty)).before a0 Z = true) (hd : decode bytes pc = .ok (.newarray aty, 2)) {v : Int32} (h0 : 0 ≤ v.toInt) (cap : Nat) (hcap : v.toInt ≤ cap) (hb : cap * 8 ≤ 536870912) (hc : k + 1 ≤ R.cells) (hs : n + cap ≤ R.slots)
    (g : ∀ h' T', own_X p l e R s m args below meth c Z bytes maxL ret y n0 h' T' (k + 1) (n + cap) → Ext h h' → own_A Z h' h.size (newarray.typeOf aty) v.toInt.toNat (fun _ => defaultValue (newarray.typeOf aty)) → own_G p e below (T'.setTop (mkF m (pc + 2) ls (.ref h.size :: st))) Q) : own_G p e below (T.setTop (mkF m pc ls (.int v :: st))) Q := by
  obtain ⟨M, hn0, eT, locs, X, N⟩ := X
  have M' := M
  obtain ⟨hx, hby, hml, hown, hnm, hret, hZ, hlk⟩ := M'
  subst hby
  have e1 := own_nat h0
  obtain ⟨T', h', cA, X', e', E', A', stp⟩ := newP X hx hZ w eT (g := mkF m pc ls (.int v :: st)) rfl hd rfl (own_idx h0) (cap := cap) (by omega) hb hc hs
  exact own_st stp (g h' T' ⟨M, Nat.le_trans hn0 E'.1, e', _, X', N⟩ E' (own_A_new A' h0))
theorem own_newI (X : own_X p l e R s m args below meth c Z bytes maxL ret y n0 h T k n) {aty : ArrayType} (w : (Jvm.Cond.arrayClass (newarray.typeOf aty)).before a0 Z = true) (hdf : defaultValue (newarray.typeOf aty) = .int 0) (hd : decode bytes pc = .ok (.newarray aty, 2)) {v : Int32} (h0 : 0 ≤ v.toInt) (cap : Nat) (hcap : v.toInt ≤ cap) (hb : cap * 8 ≤ 536870912) (hc : k + 1 ≤ R.cells) (hs : n + cap ≤ R.slots)
    (g : ∀ h' T', own_X p l e R s m args below meth c Z bytes maxL ret y n0 h' T' (k + 1) (n + cap) → Ext h h' → own_I Z h' h.size (newarray.typeOf aty) v.toInt.toNat (fun _ => 0) → own_G p e below (T'.setTop (mkF m (pc + 2) ls (.ref h.size :: st))) Q) : own_G p e below (T.setTop (mkF m pc ls (.int v :: st))) Q :=
  own_newP X w hd h0 cap hcap hb hc hs (fun h' T' X' E A => g h' T' X' E (own_A_eq A fun _ _ _ => hdf.symm))
end Arrs2
section Obj
variable {p : Program} {l : Launch} {e : Env} {R : Room} {s : State} {m : MethodId} {args : Array Value} {below : List Frame} {meth : Method} {c : Code} {Z : State} {bytes : ByteArray} {maxL : Nat} {ret : Option FieldType} {y : MethodName} {n0 : Nat} {h : Heap} {T : State} {k n : Nat} {Q : Outcome → State → Prop} {pc pc' : Nat} {ls ls' : Array Slot} {st st' : List Value} {a0 : Array Value}
/-- the constructor of Object -/
theorem own_init (X : own_X p l e R s m args below meth c Z bytes maxL ret y n0 h T k n) {i : Nat} (w1 : (Jvm.Cond.methodLink y.cls i Lib.objectInit).before a0 Z = true) (w2 : (Jvm.Cond.instanceMethod Lib.objectInit).before a0 Z = true) (w3 : (Jvm.Cond.code Lib.objectInit object_method_1_code 1 none).before a0 Z = true) (hd : decode bytes pc = .ok (.invokespecial i, 3)) {a : Addr} (hsz : ls.size = maxL) (hf : 1 ≤ R.frames) (hl : (st.map fun v => v.category).sum + 12 ≤ R.locals)
    (g : ∀ T', own_X p l e R s m args below meth c Z bytes maxL ret y n0 h T' k n → own_G p e below (T'.setTop (mkF m (pc + 3) ls st)) Q) : own_G p e below (T.setTop (mkF m pc ls (.ref a :: st))) Q := by
  obtain ⟨M, hn0, eT, locs, X, N⟩ := X
  have M' := M
  obtain ⟨hx, hby, hml, hown, hnm, hret, hZ, hlk⟩ := M'
  subst hby
  obtain ⟨T', X', e', stp⟩ := initO X hx hZ hown w1 w2 w3 eT (g := mkF m pc ls (.ref a :: st)) rfl (hsz.trans hml.symm) rfl hd hf (Nat.le_of_eq (Nat.zero_add _)) hl
  exact own_st stp (g T' ⟨M, hn0, e', _, X', N⟩)
end Obj
/-! ### own numbers -/
theorem own_addc {x k : Int32} {d : Int} (hk : k.toInt = d) (h1 : -2147483648 ≤ x.toInt + d) (h2 : x.toInt + d < 2147483648) : (x + k).toInt = x.toInt + d := by
  subst hk; exact Jvm.Kit.i32_add (by omega) (by omega)
theorem own_subc {x k : Int32} {d : Int} (hk : k.toInt = d) (h1 : -2147483648 ≤ x.toInt - d) (h2 : x.toInt - d < 2147483648) : (x - k).toInt = x.toInt - d := by
  subst hk; exact Jvm.Kit.i32_sub (by omega) (by omega)
theorem own_mulc {x k : Int32} {d : Int} (hk : k.toInt = d) (h1 : -2147483648 ≤ x.toInt * d) (h2 : x.toInt * d < 2147483648) : (x * k).toInt = x.toInt * d := by
  subst hk; exact Jvm.Kit.i32_mul (by omega) (by omega)
theorem own_i2b_int (x : Int32) : (own_i2b x).toInt = x.toInt.bmod 256 := by
  simp [own_i2b, Int8.toInt_toInt32, Int32.toInt_toInt8]
theorem own_i2b_b (x : Int32) : -128 ≤ (own_i2b x).toInt ∧ (own_i2b x).toInt < 128 ∧ (own_i2b x).toInt % 256 = x.toInt % 256 := by
  rw [own_i2b_int]
  have h1 := Int.bmod_emod (x := x.toInt) (m := 256)
  have h2 := Int.le_bmod (x := x.toInt) (m := 256) (by decide)
  have h3 := Int.bmod_lt (x := x.toInt) (m := 256) (by decide)
  omega
theorem own_i2b_fix (x : Int32) : (own_i2b x).toInt8.toInt32 = own_i2b x := by
  simp [own_i2b]
theorem own_i2b_id {x : Int32} (h1 : -128 ≤ x.toInt) (h2 : x.toInt < 128) : own_i2b x = x := by
  apply Int32.toInt_inj.mp
  have := own_i2b_b x
  omega
theorem own_irem_int (x y : Int32) : (own_irem x y).toInt = x.toInt.tmod y.toInt := by
  have a := (x % y).toInt_lt; have b := (x % y).le_toInt
  rw [Int32.toInt_mod] at a b
  rw [own_irem, Int32.toInt_sub, Int32.toInt_mul, Int32.toInt_div, Int.bmod_mul_bmod, Int.sub_bmod_bmod, Int.mul_comm, ← Int.tmod_def]
  exact Jvm.Kit.bmod32 b a
theorem own_irem_pos {x y : Int32} (h : 0 ≤ x.toInt) : (own_irem x y).toInt = x.toInt % y.toInt := by rw [own_irem_int, Int.tmod_eq_emod_of_nonneg h]
theorem own_idiv_pos {x y : Int32} (h : 0 ≤ x.toInt) : (x / y).toInt = x.toInt / y.toInt := by
  have a := x.toInt_lt
  rw [Jvm.Kit.i32_div (by omega), Int.tdiv_eq_ediv_of_nonneg h]
theorem own_lrem_pos {x y : Int64} (h : 0 ≤ x.toInt) : (own_lrem x y).toInt = x.toInt % y.toInt := by rw [own_lrem]; exact Jvm.Kit.i64_rem_nonneg h
theorem own_ldiv_pos {x y : Int64} (h : 0 ≤ x.toInt) : (x / y).toInt = x.toInt / y.toInt := by
  have a := x.toInt_lt
  rw [Jvm.Kit.i64_div (by omega), Int.tdiv_eq_ediv_of_nonneg h]
/-! bits -/
theorem own_lushr_bv (x : Int64) (y : Int32) (k : Nat) (hk : ((y &&& 0x3f).toInt64.toBitVec % 64).toNat = k) : (own_lushr x y).toBitVec = x.toBitVec >>> k := by
  simp only [own_lushr, UInt64.toBitVec_toInt64, UInt64.toBitVec_shiftRight, Int64.toBitVec_toUInt64, BitVec.ushiftRight_eq', hk]
theorem own_lshl_bv (x : Int64) (y : Int32) (k : Nat) (hk : ((y &&& 0x3f).toInt64.toBitVec.smod 64#64).toNat = k) : (own_lshl x y).toBitVec = x.toBitVec <<< k := by
  have e : (own_lshl x y).toBitVec = x.toBitVec <<< ((y &&& 0x3f).toInt64.toBitVec.smod 64#64) := rfl
  rw [e, BitVec.shiftLeft_eq', hk]
theorem own_iushr_bv (x : Int32) (y : Int32) (k : Nat) (hk : ((y &&& 31).toBitVec % 32).toNat = k) : (own_iushr x y).toBitVec = x.toBitVec >>> k := by
  simp only [own_iushr, UInt32.toBitVec_toInt32, UInt32.toBitVec_shiftRight, Int32.toBitVec_toUInt32, BitVec.ushiftRight_eq', hk]
theorem own_iushr_int (x y : Int32) (k : Nat) (hk : ((y &&& 31).toBitVec % 32).toNat = k) (h : 0 ≤ x.toInt) : (own_iushr x y).toInt = x.toInt / 2 ^ k := by
  have e : (own_iushr x y).toInt = (own_iushr x y).toBitVec.toInt := rfl
  have e1 : x.toInt = x.toBitVec.toInt := rfl
  rw [e, own_iushr_bv x y k hk, e1]
  rw [e1] at h
  have h2 : x.toBitVec.toInt = (x.toBitVec.toNat : Int) := by
    rw [BitVec.toInt_eq_toNat_cond] at h ⊢
    split at h
    · rw [if_pos (by assumption)]
    · have := x.toBitVec.isLt; omega
  have h3 : 2 * x.toBitVec.toNat < 2 ^ 32 := by
    have := BitVec.toInt_lt (x := x.toBitVec); omega
  rw [BitVec.toInt_eq_toNat_cond, BitVec.toNat_ushiftRight, Nat.shiftRight_eq_div_pow]
  have h4 : x.toBitVec.toNat / 2 ^ k ≤ x.toBitVec.toNat := Nat.div_le_self _ _
  rw [if_pos (by omega), h2, Int.natCast_ediv, Int.natCast_pow]
  rfl
theorem own_pos_nat {x : Int32} (h : 0 ≤ x.toInt) : x.toInt = (x.toBitVec.toNat : Int) := by
  have e : x.toInt = x.toBitVec.toInt := rfl
  rw [e] at h ⊢
  rw [BitVec.toInt_eq_toNat_cond] at h ⊢
  have := x.toBitVec.isLt
  split at h
  · rw [if_pos (by assumption)]
  · omega
theorem own_nat_pos {x : Int32} {n : Nat} (h : x.toBitVec.toNat = n) (hn : n < 2147483648) : x.toInt = (n : Int) := by
  have e : x.toInt = x.toBitVec.toInt := rfl
  rw [e, BitVec.toInt_eq_toNat_cond, h, if_pos (by omega)]
/-- an or of a multiple of 2^k and what lies below 2^k is their sum -/
theorem own_or {x y : Int32} (k : Nat) (hx : 0 ≤ x.toInt) (hx2 : x.toInt % 2 ^ k = 0) (hy : 0 ≤ y.toInt) (hy2 : y.toInt < 2 ^ k) : (x ||| y).toInt = x.toInt + y.toInt := by
  have e1 := own_pos_nat hx
  have e2 := own_pos_nat hy
  have b1 := Int32.toInt_lt x
  have b2 := Int32.toInt_lt y
  have hm : x.toBitVec.toNat % 2 ^ k = 0 := by
    rw [e1] at hx2
    have : ((x.toBitVec.toNat % 2 ^ k : Nat) : Int) = 0 := by rw [Int.natCast_emod, Int.natCast_pow]; exact hx2
    omega
  have hl : y.toBitVec.toNat < 2 ^ k := by
    rw [e2] at hy2
    have : (y.toBitVec.toNat : Int) < ((2 ^ k : Nat) : Int) := by rw [Int.natCast_pow]; exact hy2
    omega
  have hd : x.toBitVec.toNat = 2 ^ k * (x.toBitVec.toNat / 2 ^ k) := by
    have := Nat.div_add_mod x.toBitVec.toNat (2 ^ k); omega
  have e3 : (x ||| y).toBitVec.toNat = x.toBitVec.toNat + y.toBitVec.toNat := by
    rw [Int32.toBitVec_or, BitVec.toNat_or]
    generalize y.toBitVec.toNat = b at *
    rw [hd, ← Nat.two_pow_add_eq_or_of_lt hl]
  have hlt : (x ||| y).toBitVec.toNat < 2147483648 := by
    rw [Int32.toBitVec_or, BitVec.toNat_or]
    exact Nat.or_lt_two_pow (n := 31) (by omega) (by omega)
  rw [own_nat_pos e3 (by omega)]
  omega
theorem own_mask (x m : Int32) (k : Nat) (hk : k < 32) (hm : m.toBitVec.toNat = 2 ^ k - 1) : (x &&& m).toInt = x.toInt % 2 ^ k := Jvm.Kit.i32_mask x m hk hm
/-! the high bits of a byte -/
theorem own_fin256 {x : Int32} (h0 : 0 ≤ x.toInt) (h1 : x.toInt < 256) : ∃ n : Fin 256, x = Int32.ofNat n.val ∧ x.toInt = (n.val : Int) := by
  refine ⟨⟨x.toInt.toNat, by omega⟩, ?_, by show x.toInt = (x.toInt.toNat : Int); omega⟩
  apply Int32.toInt_inj.mp
  rw [Int32.toInt_ofNat_of_lt (by show x.toInt.toNat < _; omega)]
  show x.toInt = (x.toInt.toNat : Int); omega
theorem own_f192 : ∀ n : Fin 256, (Int32.ofNat n.val &&& 192).toInt = (n.val : Int) - (n.val : Int) % 64 := by decide +kernel
theorem own_f224 : ∀ n : Fin 256, (Int32.ofNat n.val &&& 224).toInt = (n.val : Int) - (n.val : Int) % 32 := by decide +kernel
theorem own_f240 : ∀ n : Fin 256, (Int32.ofNat n.val &&& 240).toInt = (n.val : Int) - (n.val : Int) % 16 := by decide +kernel
theorem own_f248 : ∀ n : Fin 256, (Int32.ofNat n.val &&& 248).toInt = (n.val : Int) - (n.val : Int) % 8 := by decide +kernel
theorem own_h192 {x : Int32} (h0 : 0 ≤ x.toInt) (h1 : x.toInt < 256) : (x &&& 192).toInt = x.toInt - x.toInt % 64 := by
  obtain ⟨n, e1, e2⟩ := own_fin256 h0 h1; rw [e2, e1]; exact own_f192 n
theorem own_h224 {x : Int32} (h0 : 0 ≤ x.toInt) (h1 : x.toInt < 256) : (x &&& 224).toInt = x.toInt - x.toInt % 32 := by
  obtain ⟨n, e1, e2⟩ := own_fin256 h0 h1; rw [e2, e1]; exact own_f224 n
theorem own_h240 {x : Int32} (h0 : 0 ≤ x.toInt) (h1 : x.toInt < 256) : (x &&& 240).toInt = x.toInt - x.toInt % 16 := by
  obtain ⟨n, e1, e2⟩ := own_fin256 h0 h1; rw [e2, e1]; exact own_f240 n
theorem own_h248 {x : Int32} (h0 : 0 ≤ x.toInt) (h1 : x.toInt < 256) : (x &&& 248).toInt = x.toInt - x.toInt % 8 := by
  obtain ⟨n, e1, e2⟩ := own_fin256 h0 h1; rw [e2, e1]; exact own_f248 n
theorem own_m255 (x : Int32) : (x &&& 255).toInt = x.toInt % 256 := Jvm.Kit.i32_mask x 255 (k := 8) (by decide) (by decide)
theorem own_m63 (x : Int32) : (x &&& 63).toInt = x.toInt % 64 := Jvm.Kit.i32_mask x 63 (k := 6) (by decide) (by decide)
theorem own_l192 (x : Int32) : (x &&& 192).toInt = x.toInt % 256 - x.toInt % 64 := by
  have e : x &&& 192 = (x &&& 255) &&& 192 := by rw [Int32.and_assoc]; rfl
  have h := own_m255 x
  rw [e, own_h192 (by omega) (by omega), h]; omega
theorem own_shr (x y : Int32) (k : Nat) (hk : ((y &&& 31).toBitVec.smod 32).toNat = k) : (own_ishr x y).toInt = x.toInt / 2 ^ k := Jvm.Kit.i32_shr x _ hk
theorem own_shl (x y : Int32) (k : Nat) (hk : ((y &&& 31).toBitVec.smod 32).toNat = k) (h1 : -2147483648 ≤ x.toInt * 2 ^ k) (h2 : x.toInt * 2 ^ k < 2147483648) : (own_ishl x y).toInt = x.toInt * 2 ^ k := Jvm.Kit.i32_shl x _ hk (by omega) (by omega)
/-- an or with a constant that is a multiple of 2^k -/
theorem own_orc {x y : Int32} {d : Int} (k : Nat) (hx : x.toInt = d) (h0 : 0 ≤ d) (h1 : d % 2 ^ k = 0) (hy : 0 ≤ y.toInt) (hy2 : y.toInt < 2 ^ k) : (x ||| y).toInt = d + y.toInt := by
  subst hx; exact own_or k h0 h1 hy hy2
theorem own_b255 (x : Int32) : (own_i2b x &&& 255).toInt = x.toInt % 256 := by
  have h1 := own_m255 (own_i2b x)
  have h2 := own_i2b_b x
  omega
theorem own_ofNat {n : Nat} (h : n < 2147483648) : (Int32.ofNat n).toInt = (n : Int) := Int32.toInt_ofNat_of_lt (by omega)
/-! ### own layer 4: System.arraycopy between arrays of one primitive kind -/
theorem own_fits8 {x : Int32} (h : x.toInt8.toInt32 = x) : fits .byte (.int x) = true := by rw [← h]; exact fits_nar_byte x
theorem own_clamp {n : Nat} (h : n < 2147483648) : (Int32.ofNat n).toNatClampNeg = n := by
  have e := own_ofNat h
  rw [own_tnc, e]; omega
theorem own_rng_getD (f : Int → Value) (n k : Nat) (d : Value) (hk : k < n) : ((List.range n).map fun (j : Nat) => f (j : Int)).getD k d = f (k : Int) := by
  simp [List.getD_eq_getElem?_getD, List.getElem?_map, List.getElem?_range hk]
theorem own_A_arv {Z : State} {h : Heap} {a : Addr} {ty : FieldType} {n : Nat} {f : Int → Value} (A : own_A Z h a ty n f) (hf : ∀ j : Int, 0 ≤ j → j < n → fits ty (f j) = true) (d : Value) : ∃ k, Arv Z h a k ty (Int32.ofNat n) ((List.range n).map fun (j : Nat) => f (j : Int)) d := by
  obtain ⟨q, c, A, S, H⟩ := A
  refine ⟨c.cls, c, A, rfl, by rw [own_clamp q, S], own_idx (by rw [own_ofNat q]; omega), fun k hk => ?_, fun k hk => ?_⟩
  · rw [S] at hk; rw [own_rng_getD f n k d hk]; exact H k hk
  · rw [S] at hk; rw [own_rng_getD f n k d hk]; exact hf k (by omega) (by omega)
theorem own_cp_getD (fa fb : Int → Value) (na nb sp dp nn : Nat) (d : Value) (h1 : sp + nn ≤ na) (h2 : dp + nn ≤ nb) (j : Nat) (hj : j < nb) :
    (((List.range nb).map fun (j : Nat) => fb (j : Int)).take dp ++ ((List.range nn).map fun (i : Nat) => ((List.range na).map fun (j : Nat) => fa (j : Int)).getD (sp + i) d) ++ ((List.range nb).map fun (j : Nat) => fb (j : Int)).drop (dp + nn)).getD j d = if (dp : Int) ≤ (j : Int) ∧ (j : Int) < (dp : Int) + nn then fa ((sp : Int) + ((j : Int) - dp)) else fb (j : Int) := by
  have lt : (((List.range nb).map fun (j : Nat) => fb (j : Int)).take dp).length = dp := by rw [List.length_take, List.length_map, List.length_range]; omega
  have lu : ((List.range nn).map fun (i : Nat) => ((List.range na).map fun (j : Nat) => fa (j : Int)).getD (sp + i) d).length = nn := by rw [List.length_map, List.length_range]
  rw [List.getD_eq_getElem?_getD]
  by_cases c1 : j < dp
  · rw [if_neg (by omega), List.append_assoc, List.getElem?_append_left (by omega), List.getElem?_take_of_lt c1, ← List.getD_eq_getElem?_getD, own_rng_getD fb nb j d hj]
  · by_cases c2 : j < dp + nn
    · rw [if_pos (by omega), List.getElem?_append_left (by rw [List.length_append]; omega), List.getElem?_append_right (by omega), lt, List.getElem?_map, List.getElem?_range (by omega)]
      show ((List.range na).map fun (j : Nat) => fa (j : Int)).getD (sp + (j - dp)) d = _
      rw [own_rng_getD fa na _ d (by omega)]
      congr 1; omega
    · rw [if_neg (by omega), List.getElem?_append_right (by rw [List.length_append]; omega), List.length_append, lt, lu, List.getElem?_drop, show dp + nn + (j - (dp + nn)) = j by omega, ← List.getD_eq_getElem?_getD, own_rng_getD fb nb j d hj]
theorem own_u_fix {g : Int → Int32} (h : ∀ j, (g j).toInt8.toInt32 = g j) {i : Int} {x : Int32} (hx : x.toInt8.toInt32 = x) : ∀ j, (own_u g i x j).toInt8.toInt32 = own_u g i x j := by
  intro j
  by_cases e : j = i
  · rw [own_u_eq e]; exact hx
  · rw [own_u_ne e]; exact h j
section Copy
variable {p : Program} {l : Launch} {e : Env} {R : Room} {s : State} {m : MethodId} {args : Array Value} {below : List Frame} {meth : Method} {c : Code} {Z : State} {bytes : ByteArray} {maxL : Nat} {ret : Option FieldType} {y : MethodName} {n0 : Nat} {h : Heap} {T : State} {k n : Nat} {Q : Outcome → State → Prop} {pc : Nat} {ls : Array Slot} {st : List Value} {a0 : Array Value}
theorem own_acopy (X : own_X p l e R s m args below meth c Z bytes maxL ret y n0 h T k n) {i : Nat} (w1 : (Jvm.Cond.methodLink y.cls i Jvm.Stand.acN).before a0 Z = true) (w2 : (Jvm.Cond.native Jvm.Stand.acN).before a0 Z = true) (w3 : (Jvm.Cond.static Jvm.Stand.acN).before a0 Z = true) (w4 : (Jvm.Cond.initialized "java/lang/System").before a0 Z = true)
    {a b : Addr} {ty : FieldType} {na nb : Nat} {fa fb : Int → Value} (A : own_A Z h a ty na fa) (B : own_A Z h b ty nb fb) (hr : refKind ty = false) (fA : ∀ j : Int, 0 ≤ j → j < na → fits ty (fa j) = true) (fB : ∀ j : Int, 0 ≤ j → j < nb → fits ty (fb j) = true)
    {sp dp nn : Int32} (h1 : 0 ≤ sp.toInt) (h2 : 0 ≤ dp.toInt) (h3 : 0 ≤ nn.toInt) (h4 : sp.toInt + nn.toInt ≤ na) (h5 : dp.toInt + nn.toInt ≤ nb) (ge : n0 ≤ b) (hd : decode bytes pc = .ok (.invokestatic i, 3)) (hsz : ls.size = maxL) (hf : 1 ≤ R.frames) (hlo : (st.map fun v => v.category).sum + (nativeFrameWords "java/lang/System" "arraycopy" 5 + 11) ≤ R.locals)
    (g : ∀ h' T', own_X p l e R s m args below meth c Z bytes maxL ret y n0 h' T' k n → Keep h h' [b] → own_A Z h' b ty nb (fun j => if dp.toInt ≤ j ∧ j < dp.toInt + nn.toInt then fa (sp.toInt + (j - dp.toInt)) else fb j) → own_G p e below (T'.setTop (mkF m (pc + 3) ls st)) Q) :
    own_G p e below (T.setTop (mkF m pc ls (.int nn :: .int dp :: .ref b :: .int sp :: .ref a :: st))) Q := by
  obtain ⟨M, hn0, eT, locs, X, N⟩ := X
  have M' := M
  obtain ⟨hx, hby, hml, hown, hnm, hret, hZ, hlk⟩ := M'
  subst hby
  have qa := A.1
  have qb := B.1
  obtain ⟨ka, VA⟩ := own_A_arv A fA .null
  obtain ⟨kb, VB⟩ := own_A_arv B fB .null
  have e1 := own_nat h1
  have e2 := own_nat h2
  have e3 := own_nat h3
  obtain ⟨T', h', L, X', e', N', K', V', stp⟩ := cpA X hx hZ hown w1 w2 w3 w4 eT VA VB (Or.inl ⟨rfl, hr⟩) (own_idx h1) (own_idx h2) (own_idx h3) (by rw [own_clamp qa]; omega) (by rw [own_clamp qb]; omega) rfl (by rw [List.length_map, List.length_range]; omega) N ge (g := mkF m pc ls (.int nn :: .int dp :: .ref b :: .int sp :: .ref a :: st)) rfl (hsz.trans hml.symm) rfl hd hf (Nat.le_of_eq (Nat.zero_add _)) hlo
  refine own_st stp (g h' T' ⟨M, Nat.le_trans hn0 K'.1, e', _, X', N'⟩ K' ⟨qb, ?_⟩)
  obtain ⟨cc, A', -, S', -, H', -⟩ := V'
  rw [own_clamp qb] at S'
  refine ⟨cc, A', S', fun j hj => ?_⟩
  rw [H' j (by omega), own_cp_getD fa fb na nb _ _ _ .null (by omega) (by omega) j hj, e1, e2, e3]
end Copy
section Acmp
variable {p : Program} {l : Launch} {e : Env} {R : Room} {s : State} {m : MethodId} {args : Array Value} {below : List Frame} {meth : Method} {c : Code} {Z : State} {bytes : ByteArray} {maxL : Nat} {ret : Option FieldType} {y : MethodName} {n0 : Nat} {h : Heap} {T : State} {k n : Nat} {Q : Outcome → State → Prop} {pc : Nat} {ls : Array Slot} {st : List Value}
/-- if_acmpne of one and the same reference: on -/
theorem own_acmpSame (X : own_X p l e R s m args below meth c Z bytes maxL ret y n0 h T k n) {o : Int} {a : Addr} (hd : decode bytes pc = .ok (.if_acmp .ne o, 3)) (g : own_G p e below (T.setTop (mkF m (pc + 3) ls st)) Q) : own_G p e below (T.setTop (mkF m pc ls (.ref a :: .ref a :: st))) Q := by
  obtain ⟨⟨hx, hby, -⟩, -, -, locs, X, -⟩ := X
  subst hby
  exact own_st (fun t q => XS.acmpNo X.here hx rfl hd rfl (by simp [if_acmp.holds]) q) g
end Acmp
def own_min (a b : Int32) : Int32 := if b.toInt < a.toInt then b else a
abbrev own_y10 : MethodName := ⟨"java/lang/Math", "min", "(II)I"⟩
theorem pl10 : plainFor own_y10 = true := Jvm.Free.JP.mathPlain rfl (by decide +kernel)
def B10_0_2 : List (Instr × Nat) := [(.iload_n 0, 1), (.iload_n 1, 1)]
theorem B10_0_2d : own_d jdk_29_method_69_code 0 B10_0_2 2 = true := by decide +kernel
theorem d10_2 : decode jdk_29_method_69_code 2 = .ok (.if_icmp .gt 7, 3) := by decide +kernel
def B10_9_10 : List (Instr × Nat) := [(.iload_n 1, 1)]
theorem B10_9_10d : own_d jdk_29_method_69_code 9 B10_9_10 10 = true := by decide +kernel
theorem d10_10 : decode jdk_29_method_69_code 10 = .ok (.ireturn, 1) := by decide +kernel
def B10_5_6 : List (Instr × Nat) := [(.iload_n 0, 1)]
theorem B10_5_6d : own_d jdk_29_method_69_code 5 B10_5_6 6 = true := by decide +kernel
theorem d10_6 : decode jdk_29_method_69_code 6 = .ok (.goto 4, 3) := by decide +kernel
set_option maxRecDepth 65536 in
set_option maxHeartbeats 40000000 in
theorem c_min (l : Launch) (Z : State) (a0 : Array Value) (hw : ∀ d ∈ tables_1, d.before a0 Z = true) (a : Int32) (b : Int32) (h0 : Heap) (n0 : Nat) (Z0 : n0 ≤ h0.size)  :
    own_C l Z own_y10 jdk_29_method_69_code 2 (some .int) ({ frames := 0, cells := 0, slots := 0, locals := 0 } : Room) #[(.int a), (.int b)] h0 n0 (fun v h => v = some (.int (own_min a b)) ∧ h = h0) := by
  refine own_body pl10 Z0 (ls := #[.val (.int a), .val (.int b)]) (fun m => by first | (simp [entryFrame, mkF, argsToLocals, Value.category]; done) | rfl) ?_
  intro p e s m below meth c T0 X0
  refine own_blk X0 B10_0_2 B10_0_2d (ls' := #[.val (.int a), .val (.int b)]) (st' := [(.int b), (.int a)]) rfl ?_
  refine own_icmp X0 d10_2 (pc' := 9) (by decide) (fun c2 => ?_) (fun c2 => ?_)
  · have c2 : b.toInt < a.toInt := c2
    refine own_blk X0 B10_9_10 B10_9_10d (ls' := #[.val (.int a), .val (.int b)]) (st' := [(.int b)]) rfl ?_
    exact own_retI X0 d10_10 (by decide) (by decide) (⟨by rw [own_min, if_pos (by omega)], rfl⟩)
  · have c2 : ¬ (b.toInt < a.toInt) := c2
    refine own_blk X0 B10_5_6 B10_5_6d (ls' := #[.val (.int a), .val (.int b)]) (st' := [(.int a)]) rfl ?_
    refine own_goto X0 d10_6 (pc' := 10) (by decide) ?_
    exact own_retI X0 d10_10 (by decide) (by decide) (⟨by rw [own_min, if_neg (by omega)], rfl⟩)
abbrev own_y1 : MethodName := ⟨"com/example/vedette/vedette/core/ZoneBytes$Writer", "<init>", "()V"⟩
theorem pl1 : plainFor own_y1 = true := plainFor_of_name (by first | (simp [plainName, overriddenIn]; done) | decide +kernel)
def B1_0_1 : List (Instr × Nat) := [(.aload_n 0, 1)]
theorem B1_0_1d : own_d prog_61_method_1_code 0 B1_0_1 1 = true := by decide +kernel
theorem d1_1 : decode prog_61_method_1_code 1 = .ok (.invokespecial 3, 3) := by decide +kernel
def B1_4_8 : List (Instr × Nat) := [(.aload_n 0, 1), (.sipush 256, 3)]
theorem B1_4_8d : own_d prog_61_method_1_code 4 B1_4_8 8 = true := by decide +kernel
theorem d1_8 : decode prog_61_method_1_code 8 = .ok (.newarray .byte, 2) := by decide +kernel
theorem d1_10 : decode prog_61_method_1_code 10 = .ok (.putfield 9, 3) := by decide +kernel
theorem d1_13 : decode prog_61_method_1_code 13 = .ok (.return_, 1) := by decide +kernel
set_option maxRecDepth 65536 in
set_option maxHeartbeats 40000000 in
theorem c_init (l : Launch) (Z : State) (a0 : Array Value) (hw : ∀ d ∈ tables_1, d.before a0 Z = true) (w : Addr) (h0 : Heap) (n0 : Nat) (Z0 : n0 ≤ h0.size) (n_w : n0 ≤ w) (E : Exa Z h0 w "com/example/vedette/vedette/core/ZoneBytes$Writer") (Pb : Fld Z h0 w "com/example/vedette/vedette/core/ZoneBytes$Writer" "bytes" "[B" .null) (Pl : Fld Z h0 w "com/example/vedette/vedette/core/ZoneBytes$Writer" "length" "I" (.int (0 : Int32))) :
    own_C l Z own_y1 prog_61_method_1_code 1 none ({ frames := 1, cells := 1, slots := 256, locals := 12 } : Room) #[(.ref w)] h0 n0 (fun v h => v = none ∧ ∃ b : Addr, n0 ≤ h.size ∧ n0 ≤ b ∧ w ≠ b ∧ Exa Z h w "com/example/vedette/vedette/core/ZoneBytes$Writer" ∧ Fld Z h w "com/example/vedette/vedette/core/ZoneBytes$Writer" "bytes" "[B" (.ref b) ∧ Fld Z h w "com/example/vedette/vedette/core/ZoneBytes$Writer" "length" "I" (.int 0) ∧ own_I Z h b .byte 256 (fun _ => 0)) := by
  refine own_body pl1 Z0 (ls := #[.val (.ref w)]) (fun m => by first | (simp [entryFrame, mkF, argsToLocals, Value.category]; done) | rfl) ?_
  intro p e s m below meth c T0 X0
  refine own_blk X0 B1_0_1 B1_0_1d (ls' := #[.val (.ref w)]) (st' := [(.ref w)]) rfl ?_
  refine own_init X0 (hw _ (List.mem_of_getElem? (i := 7) rfl)) (hw _ (List.mem_of_getElem? (i := 8) rfl)) (hw _ (List.mem_of_getElem? (i := 9) rfl)) d1_1 rfl (by decide) (Nat.le_of_ble_eq_true rfl) (fun T1 X1 => ?_)
  show own_G p e below (T1.setTop (mkF m 4 #[.val (.ref w)] [])) _
  refine own_blk X1 B1_4_8 B1_4_8d (ls' := #[.val (.ref w)]) (st' := [(.int (256 : Int32)), (.ref w)]) rfl ?_
  have lt_w := Exa.lt E
  refine own_newI X1 (hw _ (List.mem_of_getElem? (i := 10) rfl)) rfl d1_8 (by decide) 256 (by decide) (by decide) (by decide) (by decide) (fun h2 T2 X2 E2 A2 => ?_)
  have n_b : n0 ≤ h0.size := X1.2.1
  have A2 : own_I Z h2 h0.size .byte 256 (fun _ => (0 : Int32)) := A2
  generalize ez_b : h0.size = b at A2 n_b lt_w ⊢
  have F3 := Fld.ext E2 Pb
  have F4 := Fld.ext E2 Pl
  have Q5 := Exa.ext E2 E
  have ne_w_b : w ≠ b := Nat.ne_of_lt lt_w
  show own_G p e below (T2.setTop (mkF m 10 #[.val (.ref w)] [(.ref b), (.ref w)])) _
  refine own_putF X2 (hw _ (List.mem_of_getElem? (i := 11) rfl)) F3 Q5 (Or.inl (hw _ (List.mem_of_getElem? (i := 12) rfl))) (hw _ (List.mem_of_getElem? (i := 2) rfl)) (ty := (.array .byte)) (by decide) rfl rfl n_w d1_10 (fun h6 T6 X6 W6 => ?_)
  have G6_w_bytes := Fld.same W6 F3
  have G6_w_length := Fld.other W6 F4 (Or.inr (slot_ne (Or.inl (hw _ (List.mem_of_getElem? (i := 29) rfl))) (Or.inl (hw _ (List.mem_of_getElem? (i := 12) rfl))) (by decide) (t := .int) (t' := (.array .byte)) (by decide) (by decide)))
  have Q6_w := Exa.wr W6 Q5
  have A6_b := own_I_other A2 W6 (by first | exact ne_b_w | exact fun q => ne_w_b q.symm)
  show own_G p e below (T6.setTop (mkF m 13 #[.val (.ref w)] [])) _
  exact own_retV X6 d1_13 (by decide) (by decide) (⟨rfl, b, X6.2.1, n_b, ne_w_b, Q6_w, G6_w_bytes, G6_w_length, A6_b⟩)
abbrev own_y5 : MethodName := ⟨"com/example/vedette/vedette/core/ZoneBytes$Writer", "writeByte", "(I)Lcom/example/vedette/vedette/core/ZoneBytes$Writer;"⟩
theorem pl5 : plainFor own_y5 = true := plainFor_of_name (by first | (simp [plainName, overriddenIn]; done) | decide +kernel)
def B5_0_1 : List (Instr × Nat) := [(.aload_n 0, 1)]
theorem B5_0_1d : own_d prog_61_method_2_code 0 B5_0_1 1 = true := by decide +kernel
theorem d5_1 : decode prog_61_method_2_code 1 = .ok (.getfield 15, 3) := by decide +kernel
def B5_4_5 : List (Instr × Nat) := [(.aload_n 0, 1)]
theorem B5_4_5d : own_d prog_61_method_2_code 4 B5_4_5 5 = true := by decide +kernel
theorem d5_5 : decode prog_61_method_2_code 5 = .ok (.getfield 9, 3) := by decide +kernel
theorem d5_8 : decode prog_61_method_2_code 8 = .ok (.arraylength, 1) := by decide +kernel
theorem d5_9 : decode prog_61_method_2_code 9 = .ok (.if_icmp .ne 20, 3) := by decide +kernel
def B5_29_30 : List (Instr × Nat) := [(.aload_n 0, 1)]
theorem B5_29_30d : own_d prog_61_method_2_code 29 B5_29_30 30 = true := by decide +kernel
theorem d5_30 : decode prog_61_method_2_code 30 = .ok (.getfield 9, 3) := by decide +kernel
def B5_33_35 : List (Instr × Nat) := [(.aload_n 0, 1), (.dup, 1)]
theorem B5_33_35d : own_d prog_61_method_2_code 33 B5_33_35 35 = true := by decide +kernel
theorem d5_35 : decode prog_61_method_2_code 35 = .ok (.getfield 15, 3) := by decide +kernel
def B5_38_41 : List (Instr × Nat) := [(.dup_x1, 1), (.iconst 1, 1), (.iadd, 1)]
theorem B5_38_41d : own_d prog_61_method_2_code 38 B5_38_41 41 = true := by decide +kernel
theorem d5_41 : decode prog_61_method_2_code 41 = .ok (.putfield 15, 3) := by decide +kernel
def B5_44_46 : List (Instr × Nat) := [(.iload_n 1, 1), (.i2b, 1)]
theorem B5_44_46d : own_d prog_61_method_2_code 44 B5_44_46 46 = true := by decide +kernel
theorem d5_46 : decode prog_61_method_2_code 46 = .ok (.bastore, 1) := by decide +kernel
def B5_47_48 : List (Instr × Nat) := [(.aload_n 0, 1)]
theorem B5_47_48d : own_d prog_61_method_2_code 47 B5_47_48 48 = true := by decide +kernel
theorem d5_48 : decode prog_61_method_2_code 48 = .ok (.areturn, 1) := by decide +kernel
set_option maxRecDepth 65536 in
set_option maxHeartbeats 40000000 in
theorem c_wb (l : Launch) (Z : State) (a0 : Array Value) (hw : ∀ d ∈ tables_1, d.before a0 Z = true) (w b : Addr) (n v0 : Int32) (g : Int → Int32) (h0 : Heap) (n0 : Nat) (Z0 : n0 ≤ h0.size) (n_w : n0 ≤ w) (n_b : n0 ≤ b) (ne_w_b : w ≠ b) (E : Exa Z h0 w "com/example/vedette/vedette/core/ZoneBytes$Writer") (Fb : Fld Z h0 w "com/example/vedette/vedette/core/ZoneBytes$Writer" "bytes" "[B" (.ref b)) (Fl : Fld Z h0 w "com/example/vedette/vedette/core/ZoneBytes$Writer" "length" "I" (.int n)) (A : own_I Z h0 b .byte 256 g) (hn : 0 ≤ n.toInt ∧ n.toInt < 256) :
    own_C l Z own_y5 prog_61_method_2_code 2 (some (.object "com/example/vedette/vedette/core/ZoneBytes$Writer")) ({ frames := 0, cells := 0, slots := 0, locals := 0 } : Room) #[(.ref w), (.int v0)] h0 n0 (fun v h => v = some (.ref w) ∧ n0 ≤ h.size ∧ Exa Z h w "com/example/vedette/vedette/core/ZoneBytes$Writer" ∧ Fld Z h w "com/example/vedette/vedette/core/ZoneBytes$Writer" "bytes" "[B" (.ref b) ∧ Fld Z h w "com/example/vedette/vedette/core/ZoneBytes$Writer" "length" "I" (.int (n + 1)) ∧ own_I Z h b .byte 256 (own_u g n.toInt (own_i2b v0))) := by
  refine own_body pl5 Z0 (ls := #[.val (.ref w), .val (.int v0)]) (fun m => by first | (simp [entryFrame, mkF, argsToLocals, Value.category]; done) | rfl) ?_
  intro p e s m below meth c T0 X0
  refine own_blk X0 B5_0_1 B5_0_1d (ls' := #[.val (.ref w), .val (.int v0)]) (st' := [(.ref w)]) rfl ?_
  refine own_getF X0 (hw _ (List.mem_of_getElem? (i := 28) rfl)) Fl d5_1 (fun T1 X1 => ?_)
  refine own_blk X1 B5_4_5 B5_4_5d (ls' := #[.val (.ref w), .val (.int v0)]) (st' := [(.ref w), (.int n)]) rfl ?_
  refine own_getF X1 (hw _ (List.mem_of_getElem? (i := 11) rfl)) Fb d5_5 (fun T2 X2 => ?_)
  refine own_len X2 A d5_8 ?_
  show own_G p e below (T2.setTop (mkF m 9 #[.val (.ref w), .val (.int v0)] [(.int (256 : Int32)), (.int n)])) _
  refine own_icmp X2 d5_9 (pc' := 29) (by decide) (fun c9 => ?_) (fun (c9 : ¬ (¬ n.toInt = 256)) => by exfalso; omega)
  have c9 : ¬ n.toInt = 256 := c9
  refine own_blk X2 B5_29_30 B5_29_30d (ls' := #[.val (.ref w), .val (.int v0)]) (st' := [(.ref w)]) rfl ?_
  refine own_getF X2 (hw _ (List.mem_of_getElem? (i := 11) rfl)) Fb d5_30 (fun T3 X3 => ?_)
  refine own_blk X3 B5_33_35 B5_33_35d (ls' := #[.val (.ref w), .val (.int v0)]) (st' := [(.ref w), (.ref w), (.ref b)]) rfl ?_
  refine own_getF X3 (hw _ (List.mem_of_getElem? (i := 28) rfl)) Fl d5_35 (fun T4 X4 => ?_)
  refine own_blk X4 B5_38_41 B5_38_41d (ls' := #[.val (.ref w), .val (.int v0)]) (st' := [(.int (n + (1 : Int32))), (.ref w), (.int n), (.ref b)]) rfl ?_
  refine own_putF X4 (hw _ (List.mem_of_getElem? (i := 28) rfl)) Fl E (Or.inl (hw _ (List.mem_of_getElem? (i := 29) rfl))) (hw _ (List.mem_of_getElem? (i := 2) rfl)) (ty := .int) (by decide) rfl rfl n_w d5_41 (fun h5 T5 X5 W5 => ?_)
  have G5_w_bytes := Fld.other W5 Fb (Or.inr (slot_ne (Or.inl (hw _ (List.mem_of_getElem? (i := 12) rfl))) (Or.inl (hw _ (List.mem_of_getElem? (i := 29) rfl))) (by decide) (t := (.array .byte)) (t' := .int) (by decide) (by decide)))
  have G5_w_length := Fld.same W5 Fl
  have Q5_w := Exa.wr W5 E
  have A5_b := own_I_other A W5 (by first | exact ne_b_w | exact fun q => ne_w_b q.symm)
  show own_G p e below (T5.setTop (mkF m 44 #[.val (.ref w), .val (.int v0)] [(.int n), (.ref b)])) _
  refine own_blk X5 B5_44_46 B5_44_46d (ls' := #[.val (.ref w), .val (.int v0)]) (st' := [(.int (own_i2b v0)), (.int n), (.ref b)]) rfl ?_
  refine own_bast X5 A5_b n_b d5_46 (by omega) (by omega) (own_i2b_fix _) (fun h6 T6 X6 A6 W6 => ?_)
  have A6 : own_I Z h6 b .byte 256 (own_u g (n.toInt) (own_i2b v0)) := A6
  generalize eg6 : own_u g (n.toInt) (own_i2b v0) = g6 at A6
  have F6_w_bytes := Fld.other W6 G5_w_bytes (Or.inl (by first | exact ne_w_b | exact fun q => ne_b_w q.symm))
  have F6_w_length := Fld.other W6 G5_w_length (Or.inl (by first | exact ne_w_b | exact fun q => ne_b_w q.symm))
  have Q6_w := Exa.wr W6 Q5_w
  refine own_blk X6 B5_47_48 B5_47_48d (ls' := #[.val (.ref w), .val (.int v0)]) (st' := [(.ref w)]) rfl ?_
  exact own_retA X6 rfl d5_48 (by decide) (by decide) (⟨rfl, X6.2.1, Q6_w, F6_w_bytes, F6_w_length, by subst eg6; exact A6⟩)
abbrev own_y4 : MethodName := ⟨"com/example/vedette/vedette/core/ZoneBytes$Writer", "writeInt", "(I)Lcom/example/vedette/vedette/core/ZoneBytes$Writer;"⟩
theorem pl4 : plainFor own_y4 = true := plainFor_of_name (by first | (simp [plainName, overriddenIn]; done) | decide +kernel)
def B4_0_4 : List (Instr × Nat) := [(.bipush 24, 2), (.istore_n 2, 1), (.iload_n 2, 1)]
theorem B4_0_4d : own_d prog_61_method_3_code 0 B4_0_4 4 = true := by decide +kernel
theorem d4_4 : decode prog_61_method_3_code 4 = .ok (.ifCond .lt 17, 3) := by decide +kernel
def B4_7_11 : List (Instr × Nat) := [(.aload_n 0, 1), (.iload_n 1, 1), (.iload_n 2, 1), (.iushr, 1)]
theorem B4_7_11d : own_d prog_61_method_3_code 7 B4_7_11 11 = true := by decide +kernel
theorem d4_11 : decode prog_61_method_3_code 11 = .ok (.invokevirtual 29, 3) := by decide +kernel
theorem pd5 : parseMethodDescriptor "(I)Lcom/example/vedette/vedette/core/ZoneBytes$Writer;" = some ⟨[.int], some (.object "com/example/vedette/vedette/core/ZoneBytes$Writer")⟩ := by decide +kernel
def B4_14_18 : List (Instr × Nat) := [(.pop, 1), (.iinc 2 (-8), 3)]
theorem B4_14_18d : own_d prog_61_method_3_code 14 B4_14_18 18 = true := by decide +kernel
theorem d4_18 : decode prog_61_method_3_code 18 = .ok (.goto (-15), 3) := by decide +kernel
def B4_3_4 : List (Instr × Nat) := [(.iload_n 2, 1)]
theorem B4_3_4d : own_d prog_61_method_3_code 3 B4_3_4 4 = true := by decide +kernel
def B4_21_22 : List (Instr × Nat) := [(.aload_n 0, 1)]
theorem B4_21_22d : own_d prog_61_method_3_code 21 B4_21_22 22 = true := by decide +kernel
theorem d4_22 : decode prog_61_method_3_code 22 = .ok (.areturn, 1) := by decide +kernel
set_option maxRecDepth 65536 in
set_option maxHeartbeats 40000000 in
theorem c_wi0 (l : Launch) (Z : State) (a0 : Array Value) (hw : ∀ d ∈ tables_1, d.before a0 Z = true) (w b : Addr) (v0 : Int32) (g : Int → Int32) (h0 : Heap) (n0 : Nat) (Z0 : n0 ≤ h0.size) (n_w : n0 ≤ w) (n_b : n0 ≤ b) (ne_w_b : w ≠ b) (E : Exa Z h0 w "com/example/vedette/vedette/core/ZoneBytes$Writer") (Fb : Fld Z h0 w "com/example/vedette/vedette/core/ZoneBytes$Writer" "bytes" "[B" (.ref b)) (Fl : Fld Z h0 w "com/example/vedette/vedette/core/ZoneBytes$Writer" "length" "I" (.int (0 : Int32))) (A : own_I Z h0 b .byte 256 g) :
    own_C l Z own_y4 prog_61_method_3_code 3 (some (.object "com/example/vedette/vedette/core/ZoneBytes$Writer")) ({ frames := 1, cells := 0, slots := 0, locals := 16 } : Room) #[(.ref w), (.int v0)] h0 n0 (fun v h => v = some (.ref w) ∧ n0 ≤ h.size ∧ Exa Z h w "com/example/vedette/vedette/core/ZoneBytes$Writer" ∧ Fld Z h w "com/example/vedette/vedette/core/ZoneBytes$Writer" "bytes" "[B" (.ref b) ∧ Fld Z h w "com/example/vedette/vedette/core/ZoneBytes$Writer" "length" "I" (.int (4 : Int32)) ∧ own_I Z h b .byte 256 (own_u (own_u (own_u (own_u g 0 (own_i2b (own_iushr v0 (24 : Int32)))) 1 (own_i2b (own_iushr v0 (16 : Int32)))) 2 (own_i2b (own_iushr v0 (8 : Int32)))) 3 (own_i2b (own_iushr v0 (0 : Int32))))) := by
  refine own_body pl4 Z0 (ls := #[.val (.ref w), .val (.int v0), .unset]) (fun m => by first | (simp [entryFrame, mkF, argsToLocals, Value.category]; done) | rfl) ?_
  intro p e s m below meth c T0 X0
  refine own_blk X0 B4_0_4 B4_0_4d (ls' := #[.val (.ref w), .val (.int v0), .val (.int (24 : Int32))]) (st' := [(.int (24 : Int32))]) rfl ?_
  refine own_if X0 d4_4 (pc' := 21) (by decide) (fun (c4 : (24 : Int) < 0) => by exfalso; omega) (fun c4 => ?_)
  have c4 : ¬ ((24 : Int) < 0) := c4
  refine own_blk X0 B4_7_11 B4_7_11d (ls' := #[.val (.ref w), .val (.int v0), .val (.int (24 : Int32))]) (st' := [(.int (own_iushr v0 (24 : Int32))), (.ref w)]) rfl ?_
  refine own_callV X0 (hw _ (List.mem_of_getElem? (i := 23) rfl)) (hw _ (List.mem_of_getElem? (i := 24) rfl)) (hw _ (List.mem_of_getElem? (i := 26) rfl)) (hw _ (List.mem_of_getElem? (i := 25) rfl)) (hw _ (List.mem_of_getElem? (i := 3) rfl)) (hw _ (List.mem_of_getElem? (i := 27) rfl)) (by decide) E (c_wb l Z a0 hw w b (0 : Int32) (own_iushr v0 (24 : Int32)) g h0 n0 X0.2.1 n_w n_b ne_w_b E Fb Fl A (by decide)) d4_11 [(.int (own_iushr v0 (24 : Int32)))] [] rfl rfl pd5 rfl rfl (by decide) (Nat.le_of_ble_eq_true rfl) (by decide) (by decide) (fun _ _ q => q.2.1) (fun v1 h1 T1 X1 q1 => ?_)
  obtain ⟨rfl, _, Q1, Fb1, Fl1, A1⟩ := q1
  show own_G p e below (T1.setTop (mkF m 14 #[.val (.ref w), .val (.int v0), .val (.int (24 : Int32))] [(.ref w)])) _
  have Fl1 : Fld Z h1 w "com/example/vedette/vedette/core/ZoneBytes$Writer" "length" "I" (.int (1 : Int32)) := Fl1
  have A1 : own_I Z h1 b .byte 256 (own_u g 0 (own_i2b (own_iushr v0 (24 : Int32)))) := A1
  generalize eg1 : (own_u g 0 (own_i2b (own_iushr v0 (24 : Int32)))) = g1 at A1
  refine own_blk X1 B4_14_18 B4_14_18d (ls' := #[.val (.ref w), .val (.int v0), .val (.int (16 : Int32))]) (st' := []) rfl ?_
  refine own_goto X1 d4_18 (pc' := 3) (by decide) ?_
  refine own_blk X1 B4_3_4 B4_3_4d (ls' := #[.val (.ref w), .val (.int v0), .val (.int (16 : Int32))]) (st' := [(.int (16 : Int32))]) rfl ?_
  refine own_if X1 d4_4 (pc' := 21) (by decide) (fun (c4 : (16 : Int) < 0) => by exfalso; omega) (fun c4 => ?_)
  have c4 : ¬ ((16 : Int) < 0) := c4
  refine own_blk X1 B4_7_11 B4_7_11d (ls' := #[.val (.ref w), .val (.int v0), .val (.int (16 : Int32))]) (st' := [(.int (own_iushr v0 (16 : Int32))), (.ref w)]) rfl ?_
  refine own_callV X1 (hw _ (List.mem_of_getElem? (i := 23) rfl)) (hw _ (List.mem_of_getElem? (i := 24) rfl)) (hw _ (List.mem_of_getElem? (i := 26) rfl)) (hw _ (List.mem_of_getElem? (i := 25) rfl)) (hw _ (List.mem_of_getElem? (i := 3) rfl)) (hw _ (List.mem_of_getElem? (i := 27) rfl)) (by decide) Q1 (c_wb l Z a0 hw w b (1 : Int32) (own_iushr v0 (16 : Int32)) g1 h1 n0 X1.2.1 n_w n_b ne_w_b Q1 Fb1 Fl1 A1 (by decide)) d4_11 [(.int (own_iushr v0 (16 : Int32)))] [] rfl rfl pd5 rfl rfl (by decide) (Nat.le_of_ble_eq_true rfl) (by decide) (by decide) (fun _ _ q => q.2.1) (fun v2 h2 T2 X2 q2 => ?_)
  obtain ⟨rfl, _, Q2, Fb2, Fl2, A2⟩ := q2
  show own_G p e below (T2.setTop (mkF m 14 #[.val (.ref w), .val (.int v0), .val (.int (16 : Int32))] [(.ref w)])) _
  have Fl2 : Fld Z h2 w "com/example/vedette/vedette/core/ZoneBytes$Writer" "length" "I" (.int (2 : Int32)) := Fl2
  have A2 : own_I Z h2 b .byte 256 (own_u g1 1 (own_i2b (own_iushr v0 (16 : Int32)))) := A2
  generalize eg2 : (own_u g1 1 (own_i2b (own_iushr v0 (16 : Int32)))) = g2 at A2
  refine own_blk X2 B4_14_18 B4_14_18d (ls' := #[.val (.ref w), .val (.int v0), .val (.int (8 : Int32))]) (st' := []) rfl ?_
  refine own_goto X2 d4_18 (pc' := 3) (by decide) ?_
  refine own_blk X2 B4_3_4 B4_3_4d (ls' := #[.val (.ref w), .val (.int v0), .val (.int (8 : Int32))]) (st' := [(.int (8 : Int32))]) rfl ?_
  refine own_if X2 d4_4 (pc' := 21) (by decide) (fun (c4 : (8 : Int) < 0) => by exfalso; omega) (fun c4 => ?_)
  have c4 : ¬ ((8 : Int) < 0) := c4
  refine own_blk X2 B4_7_11 B4_7_11d (ls' := #[.val (.ref w), .val (.int v0), .val (.int (8 : Int32))]) (st' := [(.int (own_iushr v0 (8 : Int32))), (.ref w)]) rfl ?_
  refine own_callV X2 (hw _ (List.mem_of_getElem? (i := 23) rfl)) (hw _ (List.mem_of_getElem? (i := 24) rfl)) (hw _ (List.mem_of_getElem? (i := 26) rfl)) (hw _ (List.mem_of_getElem? (i := 25) rfl)) (hw _ (List.mem_of_getElem? (i := 3) rfl)) (hw _ (List.mem_of_getElem? (i := 27) rfl)) (by decide) Q2 (c_wb l Z a0 hw w b (2 : Int32) (own_iushr v0 (8 : Int32)) g2 h2 n0 X2.2.1 n_w n_b ne_w_b Q2 Fb2 Fl2 A2 (by decide)) d4_11 [(.int (own_iushr v0 (8 : Int32)))] [] rfl rfl pd5 rfl rfl (by decide) (Nat.le_of_ble_eq_true rfl) (by decide) (by decide) (fun _ _ q => q.2.1) (fun v3 h3 T3 X3 q3 => ?_)
  obtain ⟨rfl, _, Q3, Fb3, Fl3, A3⟩ := q3
  show own_G p e below (T3.setTop (mkF m 14 #[.val (.ref w), .val (.int v0), .val (.int (8 : Int32))] [(.ref w)])) _
  have Fl3 : Fld Z h3 w "com/example/vedette/vedette/core/ZoneBytes$Writer" "length" "I" (.int (3 : Int32)) := Fl3
  have A3 : own_I Z h3 b .byte 256 (own_u g2 2 (own_i2b (own_iushr v0 (8 : Int32)))) := A3
  generalize eg3 : (own_u g2 2 (own_i2b (own_iushr v0 (8 : Int32)))) = g3 at A3
  refine own_blk X3 B4_14_18 B4_14_18d (ls' := #[.val (.ref w), .val (.int v0), .val (.int (0 : Int32))]) (st' := []) rfl ?_
  refine own_goto X3 d4_18 (pc' := 3) (by decide) ?_
  refine own_blk X3 B4_3_4 B4_3_4d (ls' := #[.val (.ref w), .val (.int v0), .val (.int (0 : Int32))]) (st' := [(.int (0 : Int32))]) rfl ?_
  refine own_if X3 d4_4 (pc' := 21) (by decide) (fun (c4 : (0 : Int) < 0) => by exfalso; omega) (fun c4 => ?_)
  have c4 : ¬ ((0 : Int) < 0) := c4
  refine own_blk X3 B4_7_11 B4_7_11d (ls' := #[.val (.ref w), .val (.int v0), .val (.int (0 : Int32))]) (st' := [(.int (own_iushr v0 (0 : Int32))), (.ref w)]) rfl ?_
  refine own_callV X3 (hw _ (List.mem_of_getElem? (i := 23) rfl)) (hw _ (List.mem_of_getElem? (i := 24) rfl)) (hw _ (List.mem_of_getElem? (i := 26) rfl)) (hw _ (List.mem_of_getElem? (i := 25) rfl)) (hw _ (List.mem_of_getElem? (i := 3) rfl)) (hw _ (List.mem_of_getElem? (i := 27) rfl)) (by decide) Q3 (c_wb l Z a0 hw w b (3 : Int32) (own_iushr v0 (0 : Int32)) g3 h3 n0 X3.2.1 n_w n_b ne_w_b Q3 Fb3 Fl3 A3 (by decide)) d4_11 [(.int (own_iushr v0 (0 : Int32)))] [] rfl rfl pd5 rfl rfl (by decide) (Nat.le_of_ble_eq_true rfl) (by decide) (by decide) (fun _ _ q => q.2.1) (fun v4 h4 T4 X4 q4 => ?_)
  obtain ⟨rfl, _, Q4, Fb4, Fl4, A4⟩ := q4
  show own_G p e below (T4.setTop (mkF m 14 #[.val (.ref w), .val (.int v0), .val (.int (0 : Int32))] [(.ref w)])) _
  have Fl4 : Fld Z h4 w "com/example/vedette/vedette/core/ZoneBytes$Writer" "length" "I" (.int (4 : Int32)) := Fl4
  have A4 : own_I Z h4 b .byte 256 (own_u g3 3 (own_i2b (own_iushr v0 (0 : Int32)))) := A4
  generalize eg4 : (own_u g3 3 (own_i2b (own_iushr v0 (0 : Int32)))) = g4 at A4
  refine own_blk X4 B4_14_18 B4_14_18d (ls' := #[.val (.ref w), .val (.int v0), .val (.int (-8 : Int32))]) (st' := []) rfl ?_
  refine own_goto X4 d4_18 (pc' := 3) (by decide) ?_
  refine own_blk X4 B4_3_4 B4_3_4d (ls' := #[.val (.ref w), .val (.int v0), .val (.int (-8 : Int32))]) (st' := [(.int (-8 : Int32))]) rfl ?_
  refine own_if X4 d4_4 (pc' := 21) (by decide) (fun c4 => ?_) (fun (c4 : ¬ ((-8 : Int) < 0)) => by exfalso; omega)
  have c4 : (-8 : Int) < 0 := c4
  refine own_blk X4 B4_21_22 B4_21_22d (ls' := #[.val (.ref w), .val (.int v0), .val (.int (-8 : Int32))]) (st' := [(.ref w)]) rfl ?_
  exact own_retA X4 rfl d4_22 (by decide) (by decide) (⟨rfl, X4.2.1, Q4, Fb4, Fl4, by subst eg1; subst eg2; subst eg3; subst eg4; exact A4⟩)
set_option maxRecDepth 65536 in
set_option maxHeartbeats 40000000 in
theorem c_wi4 (l : Launch) (Z : State) (a0 : Array Value) (hw : ∀ d ∈ tables_1, d.before a0 Z = true) (w b : Addr) (v0 : Int32) (g : Int → Int32) (h0 : Heap) (n0 : Nat) (Z0 : n0 ≤ h0.size) (n_w : n0 ≤ w) (n_b : n0 ≤ b) (ne_w_b : w ≠ b) (E : Exa Z h0 w "com/example/vedette/vedette/core/ZoneBytes$Writer") (Fb : Fld Z h0 w "com/example/vedette/vedette/core/ZoneBytes$Writer" "bytes" "[B" (.ref b)) (Fl : Fld Z h0 w "com/example/vedette/vedette/core/ZoneBytes$Writer" "length" "I" (.int (4 : Int32))) (A : own_I Z h0 b .byte 256 g) :
    own_C l Z own_y4 prog_61_method_3_code 3 (some (.object "com/example/vedette/vedette/core/ZoneBytes$Writer")) ({ frames := 1, cells := 0, slots := 0, locals := 16 } : Room) #[(.ref w), (.int v0)] h0 n0 (fun v h => v = some (.ref w) ∧ n0 ≤ h.size ∧ Exa Z h w "com/example/vedette/vedette/core/ZoneBytes$Writer" ∧ Fld Z h w "com/example/vedette/vedette/core/ZoneBytes$Writer" "bytes" "[B" (.ref b) ∧ Fld Z h w "com/example/vedette/vedette/core/ZoneBytes$Writer" "length" "I" (.int (8 : Int32)) ∧ own_I Z h b .byte 256 (own_u (own_u (own_u (own_u g 4 (own_i2b (own_iushr v0 (24 : Int32)))) 5 (own_i2b (own_iushr v0 (16 : Int32)))) 6 (own_i2b (own_iushr v0 (8 : Int32)))) 7 (own_i2b (own_iushr v0 (0 : Int32))))) := by
  refine own_body pl4 Z0 (ls := #[.val (.ref w), .val (.int v0), .unset]) (fun m => by first | (simp [entryFrame, mkF, argsToLocals, Value.category]; done) | rfl) ?_
  intro p e s m below meth c T0 X0
  refine own_blk X0 B4_0_4 B4_0_4d (ls' := #[.val (.ref w), .val (.int v0), .val (.int (24 : Int32))]) (st' := [(.int (24 : Int32))]) rfl ?_
  refine own_if X0 d4_4 (pc' := 21) (by decide) (fun (c4 : (24 : Int) < 0) => by exfalso; omega) (fun c4 => ?_)
  have c4 : ¬ ((24 : Int) < 0) := c4
  refine own_blk X0 B4_7_11 B4_7_11d (ls' := #[.val (.ref w), .val (.int v0), .val (.int (24 : Int32))]) (st' := [(.int (own_iushr v0 (24 : Int32))), (.ref w)]) rfl ?_
  refine own_callV X0 (hw _ (List.mem_of_getElem? (i := 23) rfl)) (hw _ (List.mem_of_getElem? (i := 24) rfl)) (hw _ (List.mem_of_getElem? (i := 26) rfl)) (hw _ (List.mem_of_getElem? (i := 25) rfl)) (hw _ (List.mem_of_getElem? (i := 3) rfl)) (hw _ (List.mem_of_getElem? (i := 27) rfl)) (by decide) E (c_wb l Z a0 hw w b (4 : Int32) (own_iushr v0 (24 : Int32)) g h0 n0 X0.2.1 n_w n_b ne_w_b E Fb Fl A (by decide)) d4_11 [(.int (own_iushr v0 (24 : Int32)))] [] rfl rfl pd5 rfl rfl (by decide) (Nat.le_of_ble_eq_true rfl) (by decide) (by decide) (fun _ _ q => q.2.1) (fun v1 h1 T1 X1 q1 => ?_)
  obtain ⟨rfl, _, Q1, Fb1, Fl1, A1⟩ := q1
  show own_G p e below (T1.setTop (mkF m 14 #[.val (.ref w), .val (.int v0), .val (.int (24 : Int32))] [(.ref w)])) _
  have Fl1 : Fld Z h1 w "com/example/vedette/vedette/core/ZoneBytes$Writer" "length" "I" (.int (5 : Int32)) := Fl1
  have A1 : own_I Z h1 b .byte 256 (own_u g 4 (own_i2b (own_iushr v0 (24 : Int32)))) := A1
  generalize eg1 : (own_u g 4 (own_i2b (own_iushr v0 (24 : Int32)))) = g1 at A1
  refine own_blk X1 B4_14_18 B4_14_18d (ls' := #[.val (.ref w), .val (.int v0), .val (.int (16 : Int32))]) (st' := []) rfl ?_
  refine own_goto X1 d4_18 (pc' := 3) (by decide) ?_
  refine own_blk X1 B4_3_4 B4_3_4d (ls' := #[.val (.ref w), .val (.int v0), .val (.int (16 : Int32))]) (st' := [(.int (16 : Int32))]) rfl ?_
  refine own_if X1 d4_4 (pc' := 21) (by decide) (fun (c4 : (16 : Int) < 0) => by exfalso; omega) (fun c4 => ?_)
  have c4 : ¬ ((16 : Int) < 0) := c4
  refine own_blk X1 B4_7_11 B4_7_11d (ls' := #[.val (.ref w), .val (.int v0), .val (.int (16 : Int32))]) (st' := [(.int (own_iushr v0 (16 : Int32))), (.ref w)]) rfl ?_
  refine own_callV X1 (hw _ (List.mem_of_getElem? (i := 23) rfl)) (hw _ (List.mem_of_getElem? (i := 24) rfl)) (hw _ (List.mem_of_getElem? (i := 26) rfl)) (hw _ (List.mem_of_getElem? (i := 25) rfl)) (hw _ (List.mem_of_getElem? (i := 3) rfl)) (hw _ (List.mem_of_getElem? (i := 27) rfl)) (by decide) Q1 (c_wb l Z a0 hw w b (5 : Int32) (own_iushr v0 (16 : Int32)) g1 h1 n0 X1.2.1 n_w n_b ne_w_b Q1 Fb1 Fl1 A1 (by decide)) d4_11 [(.int (own_iushr v0 (16 : Int32)))] [] rfl rfl pd5 rfl rfl (by decide) (Nat.le_of_ble_eq_true rfl) (by decide) (by decide) (fun _ _ q => q.2.1) (fun v2 h2 T2 X2 q2 => ?_)
  obtain ⟨rfl, _, Q2, Fb2, Fl2, A2⟩ := q2
  show own_G p e below (T2.setTop (mkF m 14 #[.val (.ref w), .val (.int v0), .val (.int (16 : Int32))] [(.ref w)])) _
  have Fl2 : Fld Z h2 w "com/example/vedette/vedette/core/ZoneBytes$Writer" "length" "I" (.int (6 : Int32)) := Fl2
  have A2 : own_I Z h2 b .byte 256 (own_u g1 5 (own_i2b (own_iushr v0 (16 : Int32)))) := A2
  generalize eg2 : (own_u g1 5 (own_i2b (own_iushr v0 (16 : Int32)))) = g2 at A2
  refine own_blk X2 B4_14_18 B4_14_18d (ls' := #[.val (.ref w), .val (.int v0), .val (.int (8 : Int32))]) (st' := []) rfl ?_
  refine own_goto X2 d4_18 (pc' := 3) (by decide) ?_
  refine own_blk X2 B4_3_4 B4_3_4d (ls' := #[.val (.ref w), .val (.int v0), .val (.int (8 : Int32))]) (st' := [(.int (8 : Int32))]) rfl ?_
  refine own_if X2 d4_4 (pc' := 21) (by decide) (fun (c4 : (8 : Int) < 0) => by exfalso; omega) (fun c4 => ?_)
  have c4 : ¬ ((8 : Int) < 0) := c4
  refine own_blk X2 B4_7_11 B4_7_11d (ls' := #[.val (.ref w), .val (.int v0), .val (.int (8 : Int32))]) (st' := [(.int (own_iushr v0 (8 : Int32))), (.ref w)]) rfl ?_
  refine own_callV X2 (hw _ (List.mem_of_getElem? (i := 23) rfl)) (hw _ (List.mem_of_getElem? (i := 24) rfl)) (hw _ (List.mem_of_getElem? (i := 26) rfl)) (hw _ (List.mem_of_getElem? (i := 25) rfl)) (hw _ (List.mem_of_getElem? (i := 3) rfl)) (hw _ (List.mem_of_getElem? (i := 27) rfl)) (by decide) Q2 (c_wb l Z a0 hw w b (6 : Int32) (own_iushr v0 (8 : Int32)) g2 h2 n0 X2.2.1 n_w n_b ne_w_b Q2 Fb2 Fl2 A2 (by decide)) d4_11 [(.int (own_iushr v0 (8 : Int32)))] [] rfl rfl pd5 rfl rfl (by decide) (Nat.le_of_ble_eq_true rfl) (by decide) (by decide) (fun _ _ q => q.2.1) (fun v3 h3 T3 X3 q3 => ?_)
  obtain ⟨rfl, _, Q3, Fb3, Fl3, A3⟩ := q3
  show own_G p e below (T3.setTop (mkF m 14 #[.val (.ref w), .val (.int v0), .val (.int (8 : Int32))] [(.ref w)])) _
  have Fl3 : Fld Z h3 w "com/example/vedette/vedette/core/ZoneBytes$Writer" "length" "I" (.int (7 : Int32)) := Fl3
  have A3 : own_I Z h3 b .byte 256 (own_u g2 6 (own_i2b (own_iushr v0 (8 : Int32)))) := A3
  generalize eg3 : (own_u g2 6 (own_i2b (own_iushr v0 (8 : Int32)))) = g3 at A3
  refine own_blk X3 B4_14_18 B4_14_18d (ls' := #[.val (.ref w), .val (.int v0), .val (.int (0 : Int32))]) (st' := []) rfl ?_
  refine own_goto X3 d4_18 (pc' := 3) (by decide) ?_
  refine own_blk X3 B4_3_4 B4_3_4d (ls' := #[.val (.ref w), .val (.int v0), .val (.int (0 : Int32))]) (st' := [(.int (0 : Int32))]) rfl ?_
  refine own_if X3 d4_4 (pc' := 21) (by decide) (fun (c4 : (0 : Int) < 0) => by exfalso; omega) (fun c4 => ?_)
  have c4 : ¬ ((0 : Int) < 0) := c4
  refine own_blk X3 B4_7_11 B4_7_11d (ls' := #[.val (.ref w), .val (.int v0), .val (.int (0 : Int32))]) (st' := [(.int (own_iushr v0 (0 : Int32))), (.ref w)]) rfl ?_
  refine own_callV X3 (hw _ (List.mem_of_getElem? (i := 23) rfl)) (hw _ (List.mem_of_getElem? (i := 24) rfl)) (hw _ (List.mem_of_getElem? (i := 26) rfl)) (hw _ (List.mem_of_getElem? (i := 25) rfl)) (hw _ (List.mem_of_getElem? (i := 3) rfl)) (hw _ (List.mem_of_getElem? (i := 27) rfl)) (by decide) Q3 (c_wb l Z a0 hw w b (7 : Int32) (own_iushr v0 (0 : Int32)) g3 h3 n0 X3.2.1 n_w n_b ne_w_b Q3 Fb3 Fl3 A3 (by decide)) d4_11 [(.int (own_iushr v0 (0 : Int32)))] [] rfl rfl pd5 rfl rfl (by decide) (Nat.le_of_ble_eq_true rfl) (by decide) (by decide) (fun _ _ q => q.2.1) (fun v4 h4 T4 X4 q4 => ?_)
  obtain ⟨rfl, _, Q4, Fb4, Fl4, A4⟩ := q4
  show own_G p e below (T4.setTop (mkF m 14 #[.val (.ref w), .val (.int v0), .val (.int (0 : Int32))] [(.ref w)])) _
  have Fl4 : Fld Z h4 w "com/example/vedette/vedette/core/ZoneBytes$Writer" "length" "I" (.int (8 : Int32)) := Fl4
  have A4 : own_I Z h4 b .byte 256 (own_u g3 7 (own_i2b (own_iushr v0 (0 : Int32)))) := A4
  generalize eg4 : (own_u g3 7 (own_i2b (own_iushr v0 (0 : Int32)))) = g4 at A4
  refine own_blk X4 B4_14_18 B4_14_18d (ls' := #[.val (.ref w), .val (.int v0), .val (.int (-8 : Int32))]) (st' := []) rfl ?_
  refine own_goto X4 d4_18 (pc' := 3) (by decide) ?_
  refine own_blk X4 B4_3_4 B4_3_4d (ls' := #[.val (.ref w), .val (.int v0), .val (.int (-8 : Int32))]) (st' := [(.int (-8 : Int32))]) rfl ?_
  refine own_if X4 d4_4 (pc' := 21) (by decide) (fun c4 => ?_) (fun (c4 : ¬ ((-8 : Int) < 0)) => by exfalso; omega)
  have c4 : (-8 : Int) < 0 := c4
  refine own_blk X4 B4_21_22 B4_21_22d (ls' := #[.val (.ref w), .val (.int v0), .val (.int (-8 : Int32))]) (st' := [(.ref w)]) rfl ?_
  exact own_retA X4 rfl d4_22 (by decide) (by decide) (⟨rfl, X4.2.1, Q4, Fb4, Fl4, by subst eg1; subst eg2; subst eg3; subst eg4; exact A4⟩)
abbrev own_y3 : MethodName := ⟨"com/example/vedette/vedette/core/ZoneBytes$Writer", "writeLong", "(J)Lcom/example/vedette/vedette/core/ZoneBytes$Writer;"⟩
theorem pl3 : plainFor own_y3 = true := plainFor_of_name (by first | (simp [plainName, overriddenIn]; done) | decide +kernel)
def B3_0_6 : List (Instr × Nat) := [(.aload_n 0, 1), (.lload_n 1, 1), (.bipush 32, 2), (.lushr, 1), (.l2i, 1)]
theorem B3_0_6d : own_d prog_61_method_4_code 0 B3_0_6 6 = true := by decide +kernel
theorem d3_6 : decode prog_61_method_4_code 6 = .ok (.invokevirtual 33, 3) := by decide +kernel
theorem pd4 : parseMethodDescriptor "(I)Lcom/example/vedette/vedette/core/ZoneBytes$Writer;" = some ⟨[.int], some (.object "com/example/vedette/vedette/core/ZoneBytes$Writer")⟩ := by decide +kernel
def B3_9_11 : List (Instr × Nat) := [(.lload_n 1, 1), (.l2i, 1)]
theorem B3_9_11d : own_d prog_61_method_4_code 9 B3_9_11 11 = true := by decide +kernel
theorem d3_11 : decode prog_61_method_4_code 11 = .ok (.invokevirtual 33, 3) := by decide +kernel
theorem d3_14 : decode prog_61_method_4_code 14 = .ok (.areturn, 1) := by decide +kernel
set_option maxRecDepth 65536 in
set_option maxHeartbeats 40000000 in
theorem c_wl (l : Launch) (Z : State) (a0 : Array Value) (hw : ∀ d ∈ tables_1, d.before a0 Z = true) (w b : Addr) (v0 : Int64) (g : Int → Int32) (h0 : Heap) (n0 : Nat) (Z0 : n0 ≤ h0.size) (n_w : n0 ≤ w) (n_b : n0 ≤ b) (ne_w_b : w ≠ b) (E : Exa Z h0 w "com/example/vedette/vedette/core/ZoneBytes$Writer") (Fb : Fld Z h0 w "com/example/vedette/vedette/core/ZoneBytes$Writer" "bytes" "[B" (.ref b)) (Fl : Fld Z h0 w "com/example/vedette/vedette/core/ZoneBytes$Writer" "length" "I" (.int (0 : Int32))) (A : own_I Z h0 b .byte 256 g) :
    own_C l Z own_y3 prog_61_method_4_code 3 (some (.object "com/example/vedette/vedette/core/ZoneBytes$Writer")) ({ frames := 2, cells := 0, slots := 0, locals := 32 } : Room) #[(.ref w), (.long v0)] h0 n0 (fun v h => v = some (.ref w) ∧ n0 ≤ h.size ∧ Exa Z h w "com/example/vedette/vedette/core/ZoneBytes$Writer" ∧ Fld Z h w "com/example/vedette/vedette/core/ZoneBytes$Writer" "bytes" "[B" (.ref b) ∧ Fld Z h w "com/example/vedette/vedette/core/ZoneBytes$Writer" "length" "I" (.int (8 : Int32)) ∧ own_I Z h b .byte 256 (own_u (own_u (own_u (own_u (own_u (own_u (own_u (own_u g 0 (own_i2b (own_iushr ((own_lushr v0 (32 : Int32)).toInt32) (24 : Int32)))) 1 (own_i2b (own_iushr ((own_lushr v0 (32 : Int32)).toInt32) (16 : Int32)))) 2 (own_i2b (own_iushr ((own_lushr v0 (32 : Int32)).toInt32) (8 : Int32)))) 3 (own_i2b (own_iushr ((own_lushr v0 (32 : Int32)).toInt32) (0 : Int32)))) 4 (own_i2b (own_iushr (v0.toInt32) (24 : Int32)))) 5 (own_i2b (own_iushr (v0.toInt32) (16 : Int32)))) 6 (own_i2b (own_iushr (v0.toInt32) (8 : Int32)))) 7 (own_i2b (own_iushr (v0.toInt32) (0 : Int32))))) := by
  refine own_body pl3 Z0 (ls := #[.val (.ref w), .val (.long v0), .second]) (fun m => by first | (simp [entryFrame, mkF, argsToLocals, Value.category]; done) | rfl) ?_
  intro p e s m below meth c T0 X0
  refine own_blk X0 B3_0_6 B3_0_6d (ls' := #[.val (.ref w), .val (.long v0), .second]) (st' := [(.int ((own_lushr v0 (32 : Int32)).toInt32)), (.ref w)]) rfl ?_
  refine own_callV X0 (hw _ (List.mem_of_getElem? (i := 18) rfl)) (hw _ (List.mem_of_getElem? (i := 19) rfl)) (hw _ (List.mem_of_getElem? (i := 21) rfl)) (hw _ (List.mem_of_getElem? (i := 20) rfl)) (hw _ (List.mem_of_getElem? (i := 3) rfl)) (hw _ (List.mem_of_getElem? (i := 22) rfl)) (by decide) E (c_wi0 l Z a0 hw w b ((own_lushr v0 (32 : Int32)).toInt32) g h0 n0 X0.2.1 n_w n_b ne_w_b E Fb Fl A) d3_6 [(.int ((own_lushr v0 (32 : Int32)).toInt32))] [] rfl rfl pd4 rfl rfl (by decide) (Nat.le_of_ble_eq_true rfl) (by decide) (by decide) (fun _ _ q => q.2.1) (fun v1 h1 T1 X1 q1 => ?_)
  obtain ⟨rfl, _, Q1, Fb1, Fl1, A1⟩ := q1
  show own_G p e below (T1.setTop (mkF m 9 #[.val (.ref w), .val (.long v0), .second] [(.ref w)])) _
  have Fl1 : Fld Z h1 w "com/example/vedette/vedette/core/ZoneBytes$Writer" "length" "I" (.int (4 : Int32)) := Fl1
  have A1 : own_I Z h1 b .byte 256 (own_u (own_u (own_u (own_u g 0 (own_i2b (own_iushr ((own_lushr v0 (32 : Int32)).toInt32) (24 : Int32)))) 1 (own_i2b (own_iushr ((own_lushr v0 (32 : Int32)).toInt32) (16 : Int32)))) 2 (own_i2b (own_iushr ((own_lushr v0 (32 : Int32)).toInt32) (8 : Int32)))) 3 (own_i2b (own_iushr ((own_lushr v0 (32 : Int32)).toInt32) (0 : Int32)))) := A1
  generalize eg1 : (own_u (own_u (own_u (own_u g 0 (own_i2b (own_iushr ((own_lushr v0 (32 : Int32)).toInt32) (24 : Int32)))) 1 (own_i2b (own_iushr ((own_lushr v0 (32 : Int32)).toInt32) (16 : Int32)))) 2 (own_i2b (own_iushr ((own_lushr v0 (32 : Int32)).toInt32) (8 : Int32)))) 3 (own_i2b (own_iushr ((own_lushr v0 (32 : Int32)).toInt32) (0 : Int32)))) = g1 at A1
  refine own_blk X1 B3_9_11 B3_9_11d (ls' := #[.val (.ref w), .val (.long v0), .second]) (st' := [(.int (v0.toInt32)), (.ref w)]) rfl ?_
  refine own_callV X1 (hw _ (List.mem_of_getElem? (i := 18) rfl)) (hw _ (List.mem_of_getElem? (i := 19) rfl)) (hw _ (List.mem_of_getElem? (i := 21) rfl)) (hw _ (List.mem_of_getElem? (i := 20) rfl)) (hw _ (List.mem_of_getElem? (i := 3) rfl)) (hw _ (List.mem_of_getElem? (i := 22) rfl)) (by decide) Q1 (c_wi4 l Z a0 hw w b (v0.toInt32) g1 h1 n0 X1.2.1 n_w n_b ne_w_b Q1 Fb1 Fl1 A1) d3_11 [(.int (v0.toInt32))] [] rfl rfl pd4 rfl rfl (by decide) (Nat.le_of_ble_eq_true rfl) (by decide) (by decide) (fun _ _ q => q.2.1) (fun v2 h2 T2 X2 q2 => ?_)
  obtain ⟨rfl, _, Q2, Fb2, Fl2, A2⟩ := q2
  show own_G p e below (T2.setTop (mkF m 14 #[.val (.ref w), .val (.long v0), .second] [(.ref w)])) _
  have Fl2 : Fld Z h2 w "com/example/vedette/vedette/core/ZoneBytes$Writer" "length" "I" (.int (8 : Int32)) := Fl2
  have A2 : own_I Z h2 b .byte 256 (own_u (own_u (own_u (own_u g1 4 (own_i2b (own_iushr (v0.toInt32) (24 : Int32)))) 5 (own_i2b (own_iushr (v0.toInt32) (16 : Int32)))) 6 (own_i2b (own_iushr (v0.toInt32) (8 : Int32)))) 7 (own_i2b (own_iushr (v0.toInt32) (0 : Int32)))) := A2
  generalize eg2 : (own_u (own_u (own_u (own_u g1 4 (own_i2b (own_iushr (v0.toInt32) (24 : Int32)))) 5 (own_i2b (own_iushr (v0.toInt32) (16 : Int32)))) 6 (own_i2b (own_iushr (v0.toInt32) (8 : Int32)))) 7 (own_i2b (own_iushr (v0.toInt32) (0 : Int32)))) = g2 at A2
  exact own_retA X2 rfl d3_14 (by decide) (by decide) (⟨rfl, X2.2.1, Q2, Fb2, Fl2, by subst eg1; subst eg2; exact A2⟩)
abbrev own_y6 : MethodName := ⟨"com/example/vedette/vedette/core/ZoneBytes$Writer", "putInt", "(II)Lcom/example/vedette/vedette/core/ZoneBytes$Writer;"⟩
theorem pl6 : plainFor own_y6 = true := plainFor_of_name (by first | (simp [plainName, overriddenIn]; done) | decide +kernel)
def B6_0_4 : List (Instr × Nat) := [(.iconst 0, 1), (.istore_n 3, 1), (.iload_n 3, 1), (.iconst 4, 1)]
theorem B6_0_4d : own_d prog_61_method_8_code 0 B6_0_4 4 = true := by decide +kernel
theorem d6_4 : decode prog_61_method_8_code 4 = .ok (.if_icmp .ge 29, 3) := by decide +kernel
def B6_7_8 : List (Instr × Nat) := [(.aload_n 0, 1)]
theorem B6_7_8d : own_d prog_61_method_8_code 7 B6_7_8 8 = true := by decide +kernel
theorem d6_8 : decode prog_61_method_8_code 8 = .ok (.getfield 9, 3) := by decide +kernel
def B6_11_26 : List (Instr × Nat) := [(.iload_n 1, 1), (.iload_n 3, 1), (.iadd, 1), (.iload_n 2, 1), (.bipush 32, 2), (.bipush 8, 2), (.iload_n 3, 1), (.iconst 1, 1), (.iadd, 1), (.imul, 1), (.isub, 1), (.iushr, 1), (.i2b, 1)]
theorem B6_11_26d : own_d prog_61_method_8_code 11 B6_11_26 26 = true := by decide +kernel
theorem d6_26 : decode prog_61_method_8_code 26 = .ok (.bastore, 1) := by decide +kernel
def B6_27_30 : List (Instr × Nat) := [(.iinc 3 1, 3)]
theorem B6_27_30d : own_d prog_61_method_8_code 27 B6_27_30 30 = true := by decide +kernel
theorem d6_30 : decode prog_61_method_8_code 30 = .ok (.goto (-28), 3) := by decide +kernel
def B6_2_4 : List (Instr × Nat) := [(.iload_n 3, 1), (.iconst 4, 1)]
theorem B6_2_4d : own_d prog_61_method_8_code 2 B6_2_4 4 = true := by decide +kernel
def B6_33_34 : List (Instr × Nat) := [(.aload_n 0, 1)]
theorem B6_33_34d : own_d prog_61_method_8_code 33 B6_33_34 34 = true := by decide +kernel
theorem d6_34 : decode prog_61_method_8_code 34 = .ok (.areturn, 1) := by decide +kernel
set_option maxRecDepth 65536 in
set_option maxHeartbeats 40000000 in
theorem c_pi (l : Launch) (Z : State) (a0 : Array Value) (hw : ∀ d ∈ tables_1, d.before a0 Z = true) (w b : Addr) (q v0 n : Int32) (g : Int → Int32) (h0 : Heap) (n0 : Nat) (Z0 : n0 ≤ h0.size) (n_w : n0 ≤ w) (n_b : n0 ≤ b) (ne_w_b : w ≠ b) (E : Exa Z h0 w "com/example/vedette/vedette/core/ZoneBytes$Writer") (Fb : Fld Z h0 w "com/example/vedette/vedette/core/ZoneBytes$Writer" "bytes" "[B" (.ref b)) (Fl : Fld Z h0 w "com/example/vedette/vedette/core/ZoneBytes$Writer" "length" "I" (.int n)) (A : own_I Z h0 b .byte 256 g) (hq : 0 ≤ q.toInt ∧ q.toInt ≤ 4) :
    own_C l Z own_y6 prog_61_method_8_code 4 (some (.object "com/example/vedette/vedette/core/ZoneBytes$Writer")) ({ frames := 0, cells := 0, slots := 0, locals := 0 } : Room) #[(.ref w), (.int q), (.int v0)] h0 n0 (fun v h => v = some (.ref w) ∧ n0 ≤ h.size ∧ Exa Z h w "com/example/vedette/vedette/core/ZoneBytes$Writer" ∧ Fld Z h w "com/example/vedette/vedette/core/ZoneBytes$Writer" "bytes" "[B" (.ref b) ∧ Fld Z h w "com/example/vedette/vedette/core/ZoneBytes$Writer" "length" "I" (.int n) ∧ own_I Z h b .byte 256 (own_u (own_u (own_u (own_u g (q.toInt + 0) (own_i2b (own_iushr v0 (24 : Int32)))) (q.toInt + 1) (own_i2b (own_iushr v0 (16 : Int32)))) (q.toInt + 2) (own_i2b (own_iushr v0 (8 : Int32)))) (q.toInt + 3) (own_i2b (own_iushr v0 (0 : Int32))))) := by
  refine own_body pl6 Z0 (ls := #[.val (.ref w), .val (.int q), .val (.int v0), .unset]) (fun m => by first | (simp [entryFrame, mkF, argsToLocals, Value.category]; done) | rfl) ?_
  intro p e s m below meth c T0 X0
  have i0 : (q + (0 : Int32)).toInt = q.toInt + 0 := own_addc rfl (by omega) (by omega)
  have i1 : (q + (1 : Int32)).toInt = q.toInt + 1 := own_addc rfl (by omega) (by omega)
  have i2 : (q + (2 : Int32)).toInt = q.toInt + 2 := own_addc rfl (by omega) (by omega)
  have i3 : (q + (3 : Int32)).toInt = q.toInt + 3 := own_addc rfl (by omega) (by omega)
  refine own_blk X0 B6_0_4 B6_0_4d (ls' := #[.val (.ref w), .val (.int q), .val (.int v0), .val (.int (0 : Int32))]) (st' := [(.int (4 : Int32)), (.int (0 : Int32))]) rfl ?_
  refine own_icmp X0 d6_4 (pc' := 33) (by decide) (fun (c4 : 4 ≤ (0 : Int)) => by exfalso; omega) (fun c4 => ?_)
  have c4 : ¬ (4 ≤ (0 : Int)) := c4
  refine own_blk X0 B6_7_8 B6_7_8d (ls' := #[.val (.ref w), .val (.int q), .val (.int v0), .val (.int (0 : Int32))]) (st' := [(.ref w)]) rfl ?_
  refine own_getF X0 (hw _ (List.mem_of_getElem? (i := 11) rfl)) Fb d6_8 (fun T1 X1 => ?_)
  refine own_blk X1 B6_11_26 B6_11_26d (ls' := #[.val (.ref w), .val (.int q), .val (.int v0), .val (.int (0 : Int32))]) (st' := [(.int (own_i2b (own_iushr v0 (24 : Int32)))), (.int (q + (0 : Int32))), (.ref b)]) rfl ?_
  refine own_bast X1 A n_b d6_26 (by omega) (by omega) (own_i2b_fix _) (fun h2 T2 X2 A2 W2 => ?_)
  have A2 : own_I Z h2 b .byte 256 (own_u g (q.toInt + 0) (own_i2b (own_iushr v0 (24 : Int32)))) := by rw [← i0]; exact A2
  generalize eg2 : own_u g (q.toInt + 0) (own_i2b (own_iushr v0 (24 : Int32))) = g2 at A2
  have F2_w_bytes := Fld.other W2 Fb (Or.inl (by first | exact ne_w_b | exact fun q => ne_b_w q.symm))
  have F2_w_length := Fld.other W2 Fl (Or.inl (by first | exact ne_w_b | exact fun q => ne_b_w q.symm))
  have Q2_w := Exa.wr W2 E
  refine own_blk X2 B6_27_30 B6_27_30d (ls' := #[.val (.ref w), .val (.int q), .val (.int v0), .val (.int (1 : Int32))]) (st' := []) rfl ?_
  refine own_goto X2 d6_30 (pc' := 2) (by decide) ?_
  refine own_blk X2 B6_2_4 B6_2_4d (ls' := #[.val (.ref w), .val (.int q), .val (.int v0), .val (.int (1 : Int32))]) (st' := [(.int (4 : Int32)), (.int (1 : Int32))]) rfl ?_
  refine own_icmp X2 d6_4 (pc' := 33) (by decide) (fun (c4 : 4 ≤ (1 : Int)) => by exfalso; omega) (fun c4 => ?_)
  have c4 : ¬ (4 ≤ (1 : Int)) := c4
  refine own_blk X2 B6_7_8 B6_7_8d (ls' := #[.val (.ref w), .val (.int q), .val (.int v0), .val (.int (1 : Int32))]) (st' := [(.ref w)]) rfl ?_
  refine own_getF X2 (hw _ (List.mem_of_getElem? (i := 11) rfl)) F2_w_bytes d6_8 (fun T3 X3 => ?_)
  refine own_blk X3 B6_11_26 B6_11_26d (ls' := #[.val (.ref w), .val (.int q), .val (.int v0), .val (.int (1 : Int32))]) (st' := [(.int (own_i2b (own_iushr v0 (16 : Int32)))), (.int (q + (1 : Int32))), (.ref b)]) rfl ?_
  refine own_bast X3 A2 n_b d6_26 (by omega) (by omega) (own_i2b_fix _) (fun h4 T4 X4 A4 W4 => ?_)
  have A4 : own_I Z h4 b .byte 256 (own_u g2 (q.toInt + 1) (own_i2b (own_iushr v0 (16 : Int32)))) := by rw [← i1]; exact A4
  generalize eg4 : own_u g2 (q.toInt + 1) (own_i2b (own_iushr v0 (16 : Int32))) = g4 at A4
  have F4_w_bytes := Fld.other W4 F2_w_bytes (Or.inl (by first | exact ne_w_b | exact fun q => ne_b_w q.symm))
  have F4_w_length := Fld.other W4 F2_w_length (Or.inl (by first | exact ne_w_b | exact fun q => ne_b_w q.symm))
  have Q4_w := Exa.wr W4 Q2_w
  refine own_blk X4 B6_27_30 B6_27_30d (ls' := #[.val (.ref w), .val (.int q), .val (.int v0), .val (.int (2 : Int32))]) (st' := []) rfl ?_
  refine own_goto X4 d6_30 (pc' := 2) (by decide) ?_
  refine own_blk X4 B6_2_4 B6_2_4d (ls' := #[.val (.ref w), .val (.int q), .val (.int v0), .val (.int (2 : Int32))]) (st' := [(.int (4 : Int32)), (.int (2 : Int32))]) rfl ?_
  refine own_icmp X4 d6_4 (pc' := 33) (by decide) (fun (c4 : 4 ≤ (2 : Int)) => by exfalso; omega) (fun c4 => ?_)
  have c4 : ¬ (4 ≤ (2 : Int)) := c4
  refine own_blk X4 B6_7_8 B6_7_8d (ls' := #[.val (.ref w), .val (.int q), .val (.int v0), .val (.int (2 : Int32))]) (st' := [(.ref w)]) rfl ?_
  refine own_getF X4 (hw _ (List.mem_of_getElem? (i := 11) rfl)) F4_w_bytes d6_8 (fun T5 X5 => ?_)
  refine own_blk X5 B6_11_26 B6_11_26d (ls' := #[.val (.ref w), .val (.int q), .val (.int v0), .val (.int (2 : Int32))]) (st' := [(.int (own_i2b (own_iushr v0 (8 : Int32)))), (.int (q + (2 : Int32))), (.ref b)]) rfl ?_
  refine own_bast X5 A4 n_b d6_26 (by omega) (by omega) (own_i2b_fix _) (fun h6 T6 X6 A6 W6 => ?_)
  have A6 : own_I Z h6 b .byte 256 (own_u g4 (q.toInt + 2) (own_i2b (own_iushr v0 (8 : Int32)))) := by rw [← i2]; exact A6
  generalize eg6 : own_u g4 (q.toInt + 2) (own_i2b (own_iushr v0 (8 : Int32))) = g6 at A6
  have F6_w_bytes := Fld.other W6 F4_w_bytes (Or.inl (by first | exact ne_w_b | exact fun q => ne_b_w q.symm))
  have F6_w_length := Fld.other W6 F4_w_length (Or.inl (by first | exact ne_w_b | exact fun q => ne_b_w q.symm))
  have Q6_w := Exa.wr W6 Q4_w
  refine own_blk X6 B6_27_30 B6_27_30d (ls' := #[.val (.ref w), .val (.int q), .val (.int v0), .val (.int (3 : Int32))]) (st' := []) rfl ?_
  refine own_goto X6 d6_30 (pc' := 2) (by decide) ?_
  refine own_blk X6 B6_2_4 B6_2_4d (ls' := #[.val (.ref w), .val (.int q), .val (.int v0), .val (.int (3 : Int32))]) (st' := [(.int (4 : Int32)), (.int (3 : Int32))]) rfl ?_
  refine own_icmp X6 d6_4 (pc' := 33) (by decide) (fun (c4 : 4 ≤ (3 : Int)) => by exfalso; omega) (fun c4 => ?_)
  have c4 : ¬ (4 ≤ (3 : Int)) := c4
  refine own_blk X6 B6_7_8 B6_7_8d (ls' := #[.val (.ref w), .val (.int q), .val (.int v0), .val (.int (3 : Int32))]) (st' := [(.ref w)]) rfl ?_
  refine own_getF X6 (hw _ (List.mem_of_getElem? (i := 11) rfl)) F6_w_bytes d6_8 (fun T7 X7 => ?_)
  refine own_blk X7 B6_11_26 B6_11_26d (ls' := #[.val (.ref w), .val (.int q), .val (.int v0), .val (.int (3 : Int32))]) (st' := [(.int (own_i2b (own_iushr v0 (0 : Int32)))), (.int (q + (3 : Int32))), (.ref b)]) rfl ?_
  refine own_bast X7 A6 n_b d6_26 (by omega) (by omega) (own_i2b_fix _) (fun h8 T8 X8 A8 W8 => ?_)
  have A8 : own_I Z h8 b .byte 256 (own_u g6 (q.toInt + 3) (own_i2b (own_iushr v0 (0 : Int32)))) := by rw [← i3]; exact A8
  generalize eg8 : own_u g6 (q.toInt + 3) (own_i2b (own_iushr v0 (0 : Int32))) = g8 at A8
  have F8_w_bytes := Fld.other W8 F6_w_bytes (Or.inl (by first | exact ne_w_b | exact fun q => ne_b_w q.symm))
  have F8_w_length := Fld.other W8 F6_w_length (Or.inl (by first | exact ne_w_b | exact fun q => ne_b_w q.symm))
  have Q8_w := Exa.wr W8 Q6_w
  refine own_blk X8 B6_27_30 B6_27_30d (ls' := #[.val (.ref w), .val (.int q), .val (.int v0), .val (.int (4 : Int32))]) (st' := []) rfl ?_
  refine own_goto X8 d6_30 (pc' := 2) (by decide) ?_
  refine own_blk X8 B6_2_4 B6_2_4d (ls' := #[.val (.ref w), .val (.int q), .val (.int v0), .val (.int (4 : Int32))]) (st' := [(.int (4 : Int32)), (.int (4 : Int32))]) rfl ?_
  refine own_icmp X8 d6_4 (pc' := 33) (by decide) (fun c4 => ?_) (fun (c4 : ¬ (4 ≤ (4 : Int))) => by exfalso; omega)
  have c4 : 4 ≤ (4 : Int) := c4
  refine own_blk X8 B6_33_34 B6_33_34d (ls' := #[.val (.ref w), .val (.int q), .val (.int v0), .val (.int (4 : Int32))]) (st' := [(.ref w)]) rfl ?_
  exact own_retA X8 rfl d6_34 (by decide) (by decide) (⟨rfl, X8.2.1, Q8_w, F8_w_bytes, F8_w_length, by subst eg2; subst eg4; subst eg6; subst eg8; exact A8⟩)
abbrev own_y7 : MethodName := ⟨"com/example/vedette/vedette/core/ZoneBytes$Writer", "length", "()I"⟩
theorem pl7 : plainFor own_y7 = true := plainFor_of_name (by first | (simp [plainName, overriddenIn]; done) | decide +kernel)
def B7_0_1 : List (Instr × Nat) := [(.aload_n 0, 1)]
theorem B7_0_1d : own_d prog_61_method_9_code 0 B7_0_1 1 = true := by decide +kernel
theorem d7_1 : decode prog_61_method_9_code 1 = .ok (.getfield 15, 3) := by decide +kernel
theorem d7_4 : decode prog_61_method_9_code 4 = .ok (.ireturn, 1) := by decide +kernel
set_option maxRecDepth 65536 in
set_option maxHeartbeats 40000000 in
theorem c_len (l : Launch) (Z : State) (a0 : Array Value) (hw : ∀ d ∈ tables_1, d.before a0 Z = true) (w : Addr) (n : Int32) (h0 : Heap) (n0 : Nat) (Z0 : n0 ≤ h0.size) (Fl : Fld Z h0 w "com/example/vedette/vedette/core/ZoneBytes$Writer" "length" "I" (.int n)) :
    own_C l Z own_y7 prog_61_method_9_code 1 (some .int) ({ frames := 0, cells := 0, slots := 0, locals := 0 } : Room) #[(.ref w)] h0 n0 (fun v h => v = some (.int n) ∧ h = h0) := by
  refine own_body pl7 Z0 (ls := #[.val (.ref w)]) (fun m => by first | (simp [entryFrame, mkF, argsToLocals, Value.category]; done) | rfl) ?_
  intro p e s m below meth c T0 X0
  refine own_blk X0 B7_0_1 B7_0_1d (ls' := #[.val (.ref w)]) (st' := [(.ref w)]) rfl ?_
  refine own_getF X0 (hw _ (List.mem_of_getElem? (i := 28) rfl)) Fl d7_1 (fun T1 X1 => ?_)
  exact own_retI X1 d7_4 (by decide) (by decide) (⟨rfl, rfl⟩)
abbrev own_y9 : MethodName := ⟨"java/util/Arrays", "copyOf", "([BI)[B"⟩
theorem pl9 : plainFor own_y9 = true := plainFor_of_name (by first | (simp [plainName, overriddenIn]; done) | decide +kernel)
def B9_0_2 : List (Instr × Nat) := [(.iload_n 1, 1), (.aload_n 0, 1)]
theorem B9_0_2d : own_d jdk_65_method_121_code 0 B9_0_2 2 = true := by decide +kernel
theorem d9_2 : decode jdk_65_method_121_code 2 = .ok (.arraylength, 1) := by decide +kernel
theorem d9_3 : decode jdk_65_method_121_code 3 = .ok (.if_icmp .ne 11, 3) := by decide +kernel
def B9_14_15 : List (Instr × Nat) := [(.iload_n 1, 1)]
theorem B9_14_15d : own_d jdk_65_method_121_code 14 B9_14_15 15 = true := by decide +kernel
theorem d9_15 : decode jdk_65_method_121_code 15 = .ok (.newarray .byte, 2) := by decide +kernel
def B9_17_23 : List (Instr × Nat) := [(.astore_n 2, 1), (.aload_n 0, 1), (.iconst 0, 1), (.aload_n 2, 1), (.iconst 0, 1), (.aload_n 0, 1)]
theorem B9_17_23d : own_d jdk_65_method_121_code 17 B9_17_23 23 = true := by decide +kernel
theorem d9_23 : decode jdk_65_method_121_code 23 = .ok (.arraylength, 1) := by decide +kernel
def B9_24_25 : List (Instr × Nat) := [(.iload_n 1, 1)]
theorem B9_24_25d : own_d jdk_65_method_121_code 24 B9_24_25 25 = true := by decide +kernel
theorem d9_25 : decode jdk_65_method_121_code 25 = .ok (.invokestatic 304, 3) := by decide +kernel
theorem pd10 : parseMethodDescriptor "(II)I" = some ⟨[.int, .int], some .int⟩ := by decide +kernel
theorem d9_28 : decode jdk_65_method_121_code 28 = .ok (.invokestatic 150, 3) := by decide +kernel
def B9_31_32 : List (Instr × Nat) := [(.aload_n 2, 1)]
theorem B9_31_32d : own_d jdk_65_method_121_code 31 B9_31_32 32 = true := by decide +kernel
theorem d9_32 : decode jdk_65_method_121_code 32 = .ok (.areturn, 1) := by decide +kernel
set_option maxRecDepth 65536 in
set_option maxHeartbeats 40000000 in
theorem c_cpo (l : Launch) (Z : State) (a0 : Array Value) (hw : ∀ d ∈ tables_1, d.before a0 Z = true) (b : Addr) (g : Int → Int32) (h0 : Heap) (n0 : Nat) (Z0 : n0 ≤ h0.size) (A : own_I Z h0 b .byte 256 g) (hg : ∀ j, (g j).toInt8.toInt32 = g j) :
    own_C l Z own_y9 jdk_65_method_121_code 3 (some (.array .byte)) ({ frames := 1, cells := 1, slots := 8, locals := 20 } : Room) #[(.ref b), (.int (8 : Int32))] h0 n0 (fun v h => ∃ a : Addr, v = some (.ref a) ∧ n0 ≤ h.size ∧ own_I Z h a .byte 8 g) := by
  refine own_body pl9 Z0 (ls := #[.val (.ref b), .val (.int (8 : Int32)), .unset]) (fun m => by first | (simp [entryFrame, mkF, argsToLocals, Value.category]; done) | rfl) ?_
  intro p e s m below meth c T0 X0
  refine own_blk X0 B9_0_2 B9_0_2d (ls' := #[.val (.ref b), .val (.int (8 : Int32)), .unset]) (st' := [(.ref b), (.int (8 : Int32))]) rfl ?_
  refine own_len X0 A d9_2 ?_
  show own_G p e below (T0.setTop (mkF m 3 #[.val (.ref b), .val (.int (8 : Int32)), .unset] [(.int (256 : Int32)), (.int (8 : Int32))])) _
  refine own_icmp X0 d9_3 (pc' := 14) (by decide) (fun c3 => ?_) (fun (c3 : ¬ (¬ (8 : Int) = 256)) => by exfalso; omega)
  have c3 : ¬ (8 : Int) = 256 := c3
  refine own_blk X0 B9_14_15 B9_14_15d (ls' := #[.val (.ref b), .val (.int (8 : Int32)), .unset]) (st' := [(.int (8 : Int32))]) rfl ?_
  have lt_b := own_A_lt A
  refine own_newI X0 (hw _ (List.mem_of_getElem? (i := 10) rfl)) rfl d9_15 (by decide) 8 (by decide) (by decide) (by decide) (by decide) (fun h1 T1 X1 E1 A1 => ?_)
  have n_a : n0 ≤ h0.size := X0.2.1
  have A1 : own_I Z h1 h0.size .byte 8 (fun _ => (0 : Int32)) := A1
  generalize ez_a : h0.size = a at A1 n_a lt_b ⊢
  have A2 := own_I_ext A E1
  have ne_b_a : b ≠ a := Nat.ne_of_lt lt_b
  show own_G p e below (T1.setTop (mkF m 17 #[.val (.ref b), .val (.int (8 : Int32)), .unset] [(.ref a)])) _
  refine own_blk X1 B9_17_23 B9_17_23d (ls' := #[.val (.ref b), .val (.int (8 : Int32)), .val (.ref a)]) (st' := [(.ref b), (.int (0 : Int32)), (.ref a), (.int (0 : Int32)), (.ref b)]) rfl ?_
  refine own_len X1 A2 d9_23 ?_
  show own_G p e below (T1.setTop (mkF m 24 #[.val (.ref b), .val (.int (8 : Int32)), .val (.ref a)] [(.int (256 : Int32)), (.int (0 : Int32)), (.ref a), (.int (0 : Int32)), (.ref b)])) _
  refine own_blk X1 B9_24_25 B9_24_25d (ls' := #[.val (.ref b), .val (.int (8 : Int32)), .val (.ref a)]) (st' := [(.int (8 : Int32)), (.int (256 : Int32)), (.int (0 : Int32)), (.ref a), (.int (0 : Int32)), (.ref b)]) rfl ?_
  refine own_callP X1 (hw _ (List.mem_of_getElem? (i := 49) rfl)) (hw _ (List.mem_of_getElem? (i := 50) rfl)) (hw _ (List.mem_of_getElem? (i := 51) rfl)) (hw _ (List.mem_of_getElem? (i := 52) rfl)) (by decide) (c_min l Z a0 hw (256 : Int32) (8 : Int32) h1 n0 X1.2.1) d9_25 [(.int (256 : Int32)), (.int (8 : Int32))] [(.int (0 : Int32)), (.ref a), (.int (0 : Int32)), (.ref b)] rfl rfl pd10 rfl rfl (by decide) (Nat.le_of_ble_eq_true rfl) (by decide) (by decide) (fun T3 X3 => ?_)
  show own_G p e below (T3.setTop (mkF m 28 #[.val (.ref b), .val (.int (8 : Int32)), .val (.ref a)] [(.int (own_min (256 : Int32) (8 : Int32))), (.int (0 : Int32)), (.ref a), (.int (0 : Int32)), (.ref b)])) _
  rw [show own_min (256 : Int32) (8 : Int32) = (8 : Int32) from by decide]
  refine own_acopy X3 (hw _ (List.mem_of_getElem? (i := 53) rfl)) (hw _ (List.mem_of_getElem? (i := 56) rfl)) (hw _ (List.mem_of_getElem? (i := 54) rfl)) (hw _ (List.mem_of_getElem? (i := 55) rfl)) (ty := .byte) A2 A1 rfl (fun j _ _ => own_fits8 (hg j)) (fun _ _ _ => rfl) (by decide) (by decide) (by decide) (by decide) (by decide) n_a d9_28 rfl (by decide) (Nat.le_of_ble_eq_true rfl) (fun h4 T4 X4 K4 A4 => ?_)
  have B4 : own_I Z h4 a .byte 8 g := own_A_eq A4 (fun j q0 q1 => by
    have q2 : (0 : Int32).toInt ≤ j ∧ j < (0 : Int32).toInt + (8 : Int32).toInt := ⟨q0, by show j < (0 : Int) + 8; omega⟩
    rw [if_pos q2]; show Value.int (g j) = Value.int (g ((0 : Int) + (j - 0))); congr 2; omega)
  show own_G p e below (T4.setTop (mkF m 31 #[.val (.ref b), .val (.int (8 : Int32)), .val (.ref a)] [])) _
  refine own_blk X4 B9_31_32 B9_31_32d (ls' := #[.val (.ref b), .val (.int (8 : Int32)), .val (.ref a)]) (st' := [(.ref a)]) rfl ?_
  exact own_retA X4 rfl d9_32 (by decide) (by decide) (⟨a, rfl, X4.2.1, B4⟩)
abbrev own_y8 : MethodName := ⟨"com/example/vedette/vedette/core/ZoneBytes$Writer", "bytes", "()[B"⟩
theorem pl8 : plainFor own_y8 = true := plainFor_of_name (by first | (simp [plainName, overriddenIn]; done) | decide +kernel)
def B8_0_1 : List (Instr × Nat) := [(.aload_n 0, 1)]
theorem B8_0_1d : own_d prog_61_method_10_code 0 B8_0_1 1 = true := by decide +kernel
theorem d8_1 : decode prog_61_method_10_code 1 = .ok (.getfield 9, 3) := by decide +kernel
def B8_4_5 : List (Instr × Nat) := [(.aload_n 0, 1)]
theorem B8_4_5d : own_d prog_61_method_10_code 4 B8_4_5 5 = true := by decide +kernel
theorem d8_5 : decode prog_61_method_10_code 5 = .ok (.getfield 15, 3) := by decide +kernel
theorem d8_8 : decode prog_61_method_10_code 8 = .ok (.invokestatic 19, 3) := by decide +kernel
theorem pd9 : parseMethodDescriptor "([BI)[B" = some ⟨[(.array .byte), .int], some (.array .byte)⟩ := by decide +kernel
theorem d8_11 : decode prog_61_method_10_code 11 = .ok (.areturn, 1) := by decide +kernel
set_option maxRecDepth 65536 in
set_option maxHeartbeats 40000000 in
theorem c_by (l : Launch) (Z : State) (a0 : Array Value) (hw : ∀ d ∈ tables_1, d.before a0 Z = true) (w b : Addr) (g : Int → Int32) (h0 : Heap) (n0 : Nat) (Z0 : n0 ≤ h0.size) (Fb : Fld Z h0 w "com/example/vedette/vedette/core/ZoneBytes$Writer" "bytes" "[B" (.ref b)) (Fl : Fld Z h0 w "com/example/vedette/vedette/core/ZoneBytes$Writer" "length" "I" (.int (8 : Int32))) (A : own_I Z h0 b .byte 256 g) (hg : ∀ j, (g j).toInt8.toInt32 = g j) :
    own_C l Z own_y8 prog_61_method_10_code 1 (some (.array .byte)) ({ frames := 2, cells := 1, slots := 8, locals := 36 } : Room) #[(.ref w)] h0 n0 (fun v h => ∃ a : Addr, v = some (.ref a) ∧ n0 ≤ h.size ∧ own_I Z h a .byte 8 g) := by
  refine own_body pl8 Z0 (ls := #[.val (.ref w)]) (fun m => by first | (simp [entryFrame, mkF, argsToLocals, Value.category]; done) | rfl) ?_
  intro p e s m below meth c T0 X0
  refine own_blk X0 B8_0_1 B8_0_1d (ls' := #[.val (.ref w)]) (st' := [(.ref w)]) rfl ?_
  refine own_getF X0 (hw _ (List.mem_of_getElem? (i := 11) rfl)) Fb d8_1 (fun T1 X1 => ?_)
  refine own_blk X1 B8_4_5 B8_4_5d (ls' := #[.val (.ref w)]) (st' := [(.ref w), (.ref b)]) rfl ?_
  refine own_getF X1 (hw _ (List.mem_of_getElem? (i := 28) rfl)) Fl d8_5 (fun T2 X2 => ?_)
  refine own_callS X2 (hw _ (List.mem_of_getElem? (i := 45) rfl)) (hw _ (List.mem_of_getElem? (i := 46) rfl)) (hw _ (List.mem_of_getElem? (i := 47) rfl)) (hw _ (List.mem_of_getElem? (i := 48) rfl)) (by decide) (c_cpo l Z a0 hw b g h0 n0 X2.2.1 A hg) d8_8 [(.ref b), (.int (8 : Int32))] [] rfl rfl pd9 rfl rfl (by decide) (Nat.le_of_ble_eq_true rfl) (by decide) (by decide) (fun _ _ q => by obtain ⟨_, _, q2, _⟩ := q; exact q2) (fun v3 h3 T3 X3 q3 => ?_)
  obtain ⟨a, rfl, hs3, A3⟩ := q3
  show own_G p e below (T3.setTop (mkF m 11 #[.val (.ref w)] [(.ref a)])) _
  exact own_retA X3 rfl d8_11 (by decide) (by decide) (⟨a, rfl, X3.2.1, A3⟩)
abbrev own_y11 : MethodName := ⟨"com/example/vedette/vedette/core/WriterPutIntPinLaw", "same", "([BIJ)Z"⟩
theorem pl11 : plainFor own_y11 = true := plainFor_of_name (by first | (simp [plainName, overriddenIn]; done) | decide +kernel)
def B11_0_2 : List (Instr × Nat) := [(.aload_n 0, 1), (.iload_n 1, 1)]
theorem B11_0_2d : own_d method_3_code 0 B11_0_2 2 = true := by decide +kernel
theorem d11_2 : decode method_3_code 2 = .ok (.baload, 1) := by decide +kernel
def B11_3_14 : List (Instr × Nat) := [(.lload_n 2, 1), (.bipush 56, 2), (.bipush 8, 2), (.iload_n 1, 1), (.imul, 1), (.isub, 1), (.lushr, 1), (.l2i, 1), (.i2b, 1)]
theorem B11_3_14d : own_d method_3_code 3 B11_3_14 14 = true := by decide +kernel
theorem d11_14 : decode method_3_code 14 = .ok (.if_icmp .ne 7, 3) := by decide +kernel
def B11_17_18 : List (Instr × Nat) := [(.iconst 1, 1)]
theorem B11_17_18d : own_d method_3_code 17 B11_17_18 18 = true := by decide +kernel
theorem d11_18 : decode method_3_code 18 = .ok (.goto 4, 3) := by decide +kernel
theorem d11_22 : decode method_3_code 22 = .ok (.ireturn, 1) := by decide +kernel
set_option maxRecDepth 65536 in
set_option maxHeartbeats 40000000 in
theorem c_same0 (l : Launch) (Z : State) (a0 : Array Value) (hw : ∀ d ∈ tables_1, d.before a0 Z = true) (a : Addr) (wt : Int64) (g : Int → Int32) (h0 : Heap) (n0 : Nat) (Z0 : n0 ≤ h0.size) (A : own_I Z h0 a .byte 8 g) (hs : g 0 = (own_i2b ((own_lushr wt (56 : Int32)).toInt32))) :
    own_C l Z own_y11 method_3_code 4 (some .boolean) ({ frames := 0, cells := 0, slots := 0, locals := 0 } : Room) #[(.ref a), (.int (0 : Int32)), (.long wt)] h0 n0 (fun v h => v = some (.int 1) ∧ h = h0) := by
  refine own_body pl11 Z0 (ls := #[.val (.ref a), .val (.int (0 : Int32)), .val (.long wt), .second]) (fun m => by first | (simp [entryFrame, mkF, argsToLocals, Value.category]; done) | rfl) ?_
  intro p e s m below meth c T0 X0
  refine own_blk X0 B11_0_2 B11_0_2d (ls' := #[.val (.ref a), .val (.int (0 : Int32)), .val (.long wt), .second]) (st' := [(.int (0 : Int32)), (.ref a)]) rfl ?_
  refine own_bald X0 A d11_2 (by decide) (by decide) ?_
  show own_G p e below (T0.setTop (mkF m 3 #[.val (.ref a), .val (.int (0 : Int32)), .val (.long wt), .second] [(.int (g 0))])) _
  refine own_blk X0 B11_3_14 B11_3_14d (ls' := #[.val (.ref a), .val (.int (0 : Int32)), .val (.long wt), .second]) (st' := [(.int (own_i2b ((own_lushr wt (56 : Int32)).toInt32))), (.int (g 0))]) rfl ?_
  refine own_icmp X0 d11_14 (pc' := 21) (by decide) (fun (c14 : ¬ (g 0).toInt = (own_i2b ((own_lushr wt (56 : Int32)).toInt32)).toInt) => by exfalso; exact c14 (by rw [hs])) (fun c14 => ?_)
  have c14 : ¬ (¬ (g 0).toInt = (own_i2b ((own_lushr wt (56 : Int32)).toInt32)).toInt) := c14
  refine own_blk X0 B11_17_18 B11_17_18d (ls' := #[.val (.ref a), .val (.int (0 : Int32)), .val (.long wt), .second]) (st' := [(.int (1 : Int32))]) rfl ?_
  refine own_goto X0 d11_18 (pc' := 22) (by decide) ?_
  exact own_retN X0 (by simp) d11_22 (v' := (1 : Int32)) (rfl) (by decide) (by decide) (⟨rfl, rfl⟩)
set_option maxRecDepth 65536 in
set_option maxHeartbeats 40000000 in
theorem c_same1 (l : Launch) (Z : State) (a0 : Array Value) (hw : ∀ d ∈ tables_1, d.before a0 Z = true) (a : Addr) (wt : Int64) (g : Int → Int32) (h0 : Heap) (n0 : Nat) (Z0 : n0 ≤ h0.size) (A : own_I Z h0 a .byte 8 g) (hs : g 1 = (own_i2b ((own_lushr wt (48 : Int32)).toInt32))) :
    own_C l Z own_y11 method_3_code 4 (some .boolean) ({ frames := 0, cells := 0, slots := 0, locals := 0 } : Room) #[(.ref a), (.int (1 : Int32)), (.long wt)] h0 n0 (fun v h => v = some (.int 1) ∧ h = h0) := by
  refine own_body pl11 Z0 (ls := #[.val (.ref a), .val (.int (1 : Int32)), .val (.long wt), .second]) (fun m => by first | (simp [entryFrame, mkF, argsToLocals, Value.category]; done) | rfl) ?_
  intro p e s m below meth c T0 X0
  refine own_blk X0 B11_0_2 B11_0_2d (ls' := #[.val (.ref a), .val (.int (1 : Int32)), .val (.long wt), .second]) (st' := [(.int (1 : Int32)), (.ref a)]) rfl ?_
  refine own_bald X0 A d11_2 (by decide) (by decide) ?_
  show own_G p e below (T0.setTop (mkF m 3 #[.val (.ref a), .val (.int (1 : Int32)), .val (.long wt), .second] [(.int (g 1))])) _
  refine own_blk X0 B11_3_14 B11_3_14d (ls' := #[.val (.ref a), .val (.int (1 : Int32)), .val (.long wt), .second]) (st' := [(.int (own_i2b ((own_lushr wt (48 : Int32)).toInt32))), (.int (g 1))]) rfl ?_
  refine own_icmp X0 d11_14 (pc' := 21) (by decide) (fun (c14 : ¬ (g 1).toInt = (own_i2b ((own_lushr wt (48 : Int32)).toInt32)).toInt) => by exfalso; exact c14 (by rw [hs])) (fun c14 => ?_)
  have c14 : ¬ (¬ (g 1).toInt = (own_i2b ((own_lushr wt (48 : Int32)).toInt32)).toInt) := c14
  refine own_blk X0 B11_17_18 B11_17_18d (ls' := #[.val (.ref a), .val (.int (1 : Int32)), .val (.long wt), .second]) (st' := [(.int (1 : Int32))]) rfl ?_
  refine own_goto X0 d11_18 (pc' := 22) (by decide) ?_
  exact own_retN X0 (by simp) d11_22 (v' := (1 : Int32)) (rfl) (by decide) (by decide) (⟨rfl, rfl⟩)
set_option maxRecDepth 65536 in
set_option maxHeartbeats 40000000 in
theorem c_same2 (l : Launch) (Z : State) (a0 : Array Value) (hw : ∀ d ∈ tables_1, d.before a0 Z = true) (a : Addr) (wt : Int64) (g : Int → Int32) (h0 : Heap) (n0 : Nat) (Z0 : n0 ≤ h0.size) (A : own_I Z h0 a .byte 8 g) (hs : g 2 = (own_i2b ((own_lushr wt (40 : Int32)).toInt32))) :
    own_C l Z own_y11 method_3_code 4 (some .boolean) ({ frames := 0, cells := 0, slots := 0, locals := 0 } : Room) #[(.ref a), (.int (2 : Int32)), (.long wt)] h0 n0 (fun v h => v = some (.int 1) ∧ h = h0) := by
  refine own_body pl11 Z0 (ls := #[.val (.ref a), .val (.int (2 : Int32)), .val (.long wt), .second]) (fun m => by first | (simp [entryFrame, mkF, argsToLocals, Value.category]; done) | rfl) ?_
  intro p e s m below meth c T0 X0
  refine own_blk X0 B11_0_2 B11_0_2d (ls' := #[.val (.ref a), .val (.int (2 : Int32)), .val (.long wt), .second]) (st' := [(.int (2 : Int32)), (.ref a)]) rfl ?_
  refine own_bald X0 A d11_2 (by decide) (by decide) ?_
  show own_G p e below (T0.setTop (mkF m 3 #[.val (.ref a), .val (.int (2 : Int32)), .val (.long wt), .second] [(.int (g 2))])) _
  refine own_blk X0 B11_3_14 B11_3_14d (ls' := #[.val (.ref a), .val (.int (2 : Int32)), .val (.long wt), .second]) (st' := [(.int (own_i2b ((own_lushr wt (40 : Int32)).toInt32))), (.int (g 2))]) rfl ?_
  refine own_icmp X0 d11_14 (pc' := 21) (by decide) (fun (c14 : ¬ (g 2).toInt = (own_i2b ((own_lushr wt (40 : Int32)).toInt32)).toInt) => by exfalso; exact c14 (by rw [hs])) (fun c14 => ?_)
  have c14 : ¬ (¬ (g 2).toInt = (own_i2b ((own_lushr wt (40 : Int32)).toInt32)).toInt) := c14
  refine own_blk X0 B11_17_18 B11_17_18d (ls' := #[.val (.ref a), .val (.int (2 : Int32)), .val (.long wt), .second]) (st' := [(.int (1 : Int32))]) rfl ?_
  refine own_goto X0 d11_18 (pc' := 22) (by decide) ?_
  exact own_retN X0 (by simp) d11_22 (v' := (1 : Int32)) (rfl) (by decide) (by decide) (⟨rfl, rfl⟩)
set_option maxRecDepth 65536 in
set_option maxHeartbeats 40000000 in
theorem c_same3 (l : Launch) (Z : State) (a0 : Array Value) (hw : ∀ d ∈ tables_1, d.before a0 Z = true) (a : Addr) (wt : Int64) (g : Int → Int32) (h0 : Heap) (n0 : Nat) (Z0 : n0 ≤ h0.size) (A : own_I Z h0 a .byte 8 g) (hs : g 3 = (own_i2b ((own_lushr wt (32 : Int32)).toInt32))) :
    own_C l Z own_y11 method_3_code 4 (some .boolean) ({ frames := 0, cells := 0, slots := 0, locals := 0 } : Room) #[(.ref a), (.int (3 : Int32)), (.long wt)] h0 n0 (fun v h => v = some (.int 1) ∧ h = h0) := by
  refine own_body pl11 Z0 (ls := #[.val (.ref a), .val (.int (3 : Int32)), .val (.long wt), .second]) (fun m => by first | (simp [entryFrame, mkF, argsToLocals, Value.category]; done) | rfl) ?_
  intro p e s m below meth c T0 X0
  refine own_blk X0 B11_0_2 B11_0_2d (ls' := #[.val (.ref a), .val (.int (3 : Int32)), .val (.long wt), .second]) (st' := [(.int (3 : Int32)), (.ref a)]) rfl ?_
  refine own_bald X0 A d11_2 (by decide) (by decide) ?_
  show own_G p e below (T0.setTop (mkF m 3 #[.val (.ref a), .val (.int (3 : Int32)), .val (.long wt), .second] [(.int (g 3))])) _
  refine own_blk X0 B11_3_14 B11_3_14d (ls' := #[.val (.ref a), .val (.int (3 : Int32)), .val (.long wt), .second]) (st' := [(.int (own_i2b ((own_lushr wt (32 : Int32)).toInt32))), (.int (g 3))]) rfl ?_
  refine own_icmp X0 d11_14 (pc' := 21) (by decide) (fun (c14 : ¬ (g 3).toInt = (own_i2b ((own_lushr wt (32 : Int32)).toInt32)).toInt) => by exfalso; exact c14 (by rw [hs])) (fun c14 => ?_)
  have c14 : ¬ (¬ (g 3).toInt = (own_i2b ((own_lushr wt (32 : Int32)).toInt32)).toInt) := c14
  refine own_blk X0 B11_17_18 B11_17_18d (ls' := #[.val (.ref a), .val (.int (3 : Int32)), .val (.long wt), .second]) (st' := [(.int (1 : Int32))]) rfl ?_
  refine own_goto X0 d11_18 (pc' := 22) (by decide) ?_
  exact own_retN X0 (by simp) d11_22 (v' := (1 : Int32)) (rfl) (by decide) (by decide) (⟨rfl, rfl⟩)
set_option maxRecDepth 65536 in
set_option maxHeartbeats 40000000 in
theorem c_same4 (l : Launch) (Z : State) (a0 : Array Value) (hw : ∀ d ∈ tables_1, d.before a0 Z = true) (a : Addr) (wt : Int64) (g : Int → Int32) (h0 : Heap) (n0 : Nat) (Z0 : n0 ≤ h0.size) (A : own_I Z h0 a .byte 8 g) (hs : g 4 = (own_i2b ((own_lushr wt (24 : Int32)).toInt32))) :
    own_C l Z own_y11 method_3_code 4 (some .boolean) ({ frames := 0, cells := 0, slots := 0, locals := 0 } : Room) #[(.ref a), (.int (4 : Int32)), (.long wt)] h0 n0 (fun v h => v = some (.int 1) ∧ h = h0) := by
  refine own_body pl11 Z0 (ls := #[.val (.ref a), .val (.int (4 : Int32)), .val (.long wt), .second]) (fun m => by first | (simp [entryFrame, mkF, argsToLocals, Value.category]; done) | rfl) ?_
  intro p e s m below meth c T0 X0
  refine own_blk X0 B11_0_2 B11_0_2d (ls' := #[.val (.ref a), .val (.int (4 : Int32)), .val (.long wt), .second]) (st' := [(.int (4 : Int32)), (.ref a)]) rfl ?_
  refine own_bald X0 A d11_2 (by decide) (by decide) ?_
  show own_G p e below (T0.setTop (mkF m 3 #[.val (.ref a), .val (.int (4 : Int32)), .val (.long wt), .second] [(.int (g 4))])) _
  refine own_blk X0 B11_3_14 B11_3_14d (ls' := #[.val (.ref a), .val (.int (4 : Int32)), .val (.long wt), .second]) (st' := [(.int (own_i2b ((own_lushr wt (24 : Int32)).toInt32))), (.int (g 4))]) rfl ?_
  refine own_icmp X0 d11_14 (pc' := 21) (by decide) (fun (c14 : ¬ (g 4).toInt = (own_i2b ((own_lushr wt (24 : Int32)).toInt32)).toInt) => by exfalso; exact c14 (by rw [hs])) (fun c14 => ?_)
  have c14 : ¬ (¬ (g 4).toInt = (own_i2b ((own_lushr wt (24 : Int32)).toInt32)).toInt) := c14
  refine own_blk X0 B11_17_18 B11_17_18d (ls' := #[.val (.ref a), .val (.int (4 : Int32)), .val (.long wt), .second]) (st' := [(.int (1 : Int32))]) rfl ?_
  refine own_goto X0 d11_18 (pc' := 22) (by decide) ?_
  exact own_retN X0 (by simp) d11_22 (v' := (1 : Int32)) (rfl) (by decide) (by decide) (⟨rfl, rfl⟩)
set_option maxRecDepth 65536 in
set_option maxHeartbeats 40000000 in
theorem c_same5 (l : Launch) (Z : State) (a0 : Array Value) (hw : ∀ d ∈ tables_1, d.before a0 Z = true) (a : Addr) (wt : Int64) (g : Int → Int32) (h0 : Heap) (n0 : Nat) (Z0 : n0 ≤ h0.size) (A : own_I Z h0 a .byte 8 g) (hs : g 5 = (own_i2b ((own_lushr wt (16 : Int32)).toInt32))) :
    own_C l Z own_y11 method_3_code 4 (some .boolean) ({ frames := 0, cells := 0, slots := 0, locals := 0 } : Room) #[(.ref a), (.int (5 : Int32)), (.long wt)] h0 n0 (fun v h => v = some (.int 1) ∧ h = h0) := by
  refine own_body pl11 Z0 (ls := #[.val (.ref a), .val (.int (5 : Int32)), .val (.long wt), .second]) (fun m => by first | (simp [entryFrame, mkF, argsToLocals, Value.category]; done) | rfl) ?_
  intro p e s m below meth c T0 X0
  refine own_blk X0 B11_0_2 B11_0_2d (ls' := #[.val (.ref a), .val (.int (5 : Int32)), .val (.long wt), .second]) (st' := [(.int (5 : Int32)), (.ref a)]) rfl ?_
  refine own_bald X0 A d11_2 (by decide) (by decide) ?_
  show own_G p e below (T0.setTop (mkF m 3 #[.val (.ref a), .val (.int (5 : Int32)), .val (.long wt), .second] [(.int (g 5))])) _
  refine own_blk X0 B11_3_14 B11_3_14d (ls' := #[.val (.ref a), .val (.int (5 : Int32)), .val (.long wt), .second]) (st' := [(.int (own_i2b ((own_lushr wt (16 : Int32)).toInt32))), (.int (g 5))]) rfl ?_
  refine own_icmp X0 d11_14 (pc' := 21) (by decide) (fun (c14 : ¬ (g 5).toInt = (own_i2b ((own_lushr wt (16 : Int32)).toInt32)).toInt) => by exfalso; exact c14 (by rw [hs])) (fun c14 => ?_)
  have c14 : ¬ (¬ (g 5).toInt = (own_i2b ((own_lushr wt (16 : Int32)).toInt32)).toInt) := c14
  refine own_blk X0 B11_17_18 B11_17_18d (ls' := #[.val (.ref a), .val (.int (5 : Int32)), .val (.long wt), .second]) (st' := [(.int (1 : Int32))]) rfl ?_
  refine own_goto X0 d11_18 (pc' := 22) (by decide) ?_
  exact own_retN X0 (by simp) d11_22 (v' := (1 : Int32)) (rfl) (by decide) (by decide) (⟨rfl, rfl⟩)
set_option maxRecDepth 65536 in
set_option maxHeartbeats 40000000 in
theorem c_same6 (l : Launch) (Z : State) (a0 : Array Value) (hw : ∀ d ∈ tables_1, d.before a0 Z = true) (a : Addr) (wt : Int64) (g : Int → Int32) (h0 : Heap) (n0 : Nat) (Z0 : n0 ≤ h0.size) (A : own_I Z h0 a .byte 8 g) (hs : g 6 = (own_i2b ((own_lushr wt (8 : Int32)).toInt32))) :
    own_C l Z own_y11 method_3_code 4 (some .boolean) ({ frames := 0, cells := 0, slots := 0, locals := 0 } : Room) #[(.ref a), (.int (6 : Int32)), (.long wt)] h0 n0 (fun v h => v = some (.int 1) ∧ h = h0) := by
  refine own_body pl11 Z0 (ls := #[.val (.ref a), .val (.int (6 : Int32)), .val (.long wt), .second]) (fun m => by first | (simp [entryFrame, mkF, argsToLocals, Value.category]; done) | rfl) ?_
  intro p e s m below meth c T0 X0
  refine own_blk X0 B11_0_2 B11_0_2d (ls' := #[.val (.ref a), .val (.int (6 : Int32)), .val (.long wt), .second]) (st' := [(.int (6 : Int32)), (.ref a)]) rfl ?_
  refine own_bald X0 A d11_2 (by decide) (by decide) ?_
  show own_G p e below (T0.setTop (mkF m 3 #[.val (.ref a), .val (.int (6 : Int32)), .val (.long wt), .second] [(.int (g 6))])) _
  refine own_blk X0 B11_3_14 B11_3_14d (ls' := #[.val (.ref a), .val (.int (6 : Int32)), .val (.long wt), .second]) (st' := [(.int (own_i2b ((own_lushr wt (8 : Int32)).toInt32))), (.int (g 6))]) rfl ?_
  refine own_icmp X0 d11_14 (pc' := 21) (by decide) (fun (c14 : ¬ (g 6).toInt = (own_i2b ((own_lushr wt (8 : Int32)).toInt32)).toInt) => by exfalso; exact c14 (by rw [hs])) (fun c14 => ?_)
  have c14 : ¬ (¬ (g 6).toInt = (own_i2b ((own_lushr wt (8 : Int32)).toInt32)).toInt) := c14
  refine own_blk X0 B11_17_18 B11_17_18d (ls' := #[.val (.ref a), .val (.int (6 : Int32)), .val (.long wt), .second]) (st' := [(.int (1 : Int32))]) rfl ?_
  refine own_goto X0 d11_18 (pc' := 22) (by decide) ?_
  exact own_retN X0 (by simp) d11_22 (v' := (1 : Int32)) (rfl) (by decide) (by decide) (⟨rfl, rfl⟩)
set_option maxRecDepth 65536 in
set_option maxHeartbeats 40000000 in
theorem c_same7 (l : Launch) (Z : State) (a0 : Array Value) (hw : ∀ d ∈ tables_1, d.before a0 Z = true) (a : Addr) (wt : Int64) (g : Int → Int32) (h0 : Heap) (n0 : Nat) (Z0 : n0 ≤ h0.size) (A : own_I Z h0 a .byte 8 g) (hs : g 7 = (own_i2b ((own_lushr wt (0 : Int32)).toInt32))) :
    own_C l Z own_y11 method_3_code 4 (some .boolean) ({ frames := 0, cells := 0, slots := 0, locals := 0 } : Room) #[(.ref a), (.int (7 : Int32)), (.long wt)] h0 n0 (fun v h => v = some (.int 1) ∧ h = h0) := by
  refine own_body pl11 Z0 (ls := #[.val (.ref a), .val (.int (7 : Int32)), .val (.long wt), .second]) (fun m => by first | (simp [entryFrame, mkF, argsToLocals, Value.category]; done) | rfl) ?_
  intro p e s m below meth c T0 X0
  refine own_blk X0 B11_0_2 B11_0_2d (ls' := #[.val (.ref a), .val (.int (7 : Int32)), .val (.long wt), .second]) (st' := [(.int (7 : Int32)), (.ref a)]) rfl ?_
  refine own_bald X0 A d11_2 (by decide) (by decide) ?_
  show own_G p e below (T0.setTop (mkF m 3 #[.val (.ref a), .val (.int (7 : Int32)), .val (.long wt), .second] [(.int (g 7))])) _
  refine own_blk X0 B11_3_14 B11_3_14d (ls' := #[.val (.ref a), .val (.int (7 : Int32)), .val (.long wt), .second]) (st' := [(.int (own_i2b ((own_lushr wt (0 : Int32)).toInt32))), (.int (g 7))]) rfl ?_
  refine own_icmp X0 d11_14 (pc' := 21) (by decide) (fun (c14 : ¬ (g 7).toInt = (own_i2b ((own_lushr wt (0 : Int32)).toInt32)).toInt) => by exfalso; exact c14 (by rw [hs])) (fun c14 => ?_)
  have c14 : ¬ (¬ (g 7).toInt = (own_i2b ((own_lushr wt (0 : Int32)).toInt32)).toInt) := c14
  refine own_blk X0 B11_17_18 B11_17_18d (ls' := #[.val (.ref a), .val (.int (7 : Int32)), .val (.long wt), .second]) (st' := [(.int (1 : Int32))]) rfl ?_
  refine own_goto X0 d11_18 (pc' := 22) (by decide) ?_
  exact own_retN X0 (by simp) d11_22 (v' := (1 : Int32)) (rfl) (by decide) (by decide) (⟨rfl, rfl⟩)
theorem own_b8 {x y : Int32} (h : ∀ i, i < 8 → x.toBitVec.getLsbD i = y.toBitVec.getLsbD i) : own_i2b x = own_i2b y := by
  have e : x.toInt8 = y.toInt8 := by
    apply Int8.toBitVec_inj.mp
    show x.toBitVec.signExtend 8 = y.toBitVec.signExtend 8
    rw [BitVec.signExtend_eq_setWidth_of_le _ (by decide), BitVec.signExtend_eq_setWidth_of_le _ (by decide)]
    apply BitVec.eq_of_getLsbD_eq
    intro i hi
    simp [BitVec.getLsbD_setWidth, hi, h i hi]
  rw [own_i2b, own_i2b, e]
theorem own_l2i_bit (x : Int64) (i : Nat) (hi : i < 32) : x.toInt32.toBitVec.getLsbD i = x.toBitVec.getLsbD i := by
  show (x.toBitVec.signExtend 32).getLsbD i = _
  rw [BitVec.signExtend_eq_setWidth_of_le _ (by decide)]
  simp [BitVec.getLsbD_setWidth, hi]
theorem own_i2l_bit (x : Int32) (i : Nat) (hi : i < 32) : x.toInt64.toBitVec.getLsbD i = x.toBitVec.getLsbD i := by
  show (x.toBitVec.signExtend 64).getLsbD i = _
  rw [BitVec.getLsbD_signExtend]
  simp [hi, show i < 64 by omega]
def own_wt (before : Int64) (value sh : Int32) : Int64 := (before &&& (own_lshl 4294967295 sh ^^^ (-1))) ||| own_lshl (value.toInt64 &&& 4294967295) sh
theorem own_wt_bit {before : Int64} {value sh : Int32} {t : Nat} (ht : ((sh &&& 0x3f).toInt64.toBitVec.smod 64#64).toNat = t) (h32 : t ≤ 32) (i : Nat) (hi : i < 64) : (own_wt before value sh).toBitVec.getLsbD i = if t ≤ i ∧ i < t + 32 then value.toBitVec.getLsbD (i - t) else before.toBitVec.getLsbD i := by
  have e1 : (4294967295 : Int64).toBitVec = 4294967295#64 := rfl
  have e2 : (-1 : Int64).toBitVec = BitVec.allOnes 64 := rfl
  have e3 (k : Nat) : (4294967295#64).getLsbD k = decide (k < 32) := by
    have : (4294967295#64) = (BitVec.allOnes 32).setWidth 64 := by decide
    rw [this, BitVec.getLsbD_setWidth, BitVec.getLsbD_allOnes]
    by_cases hk : k < 32
    · simp [hk, show k < 64 by omega]
    · simp [hk]
  simp only [own_wt, Int64.toBitVec_or, Int64.toBitVec_and, Int64.toBitVec_xor, own_lshl_bv _ sh t ht, e1, e2, BitVec.getLsbD_or, BitVec.getLsbD_and, BitVec.getLsbD_xor, BitVec.getLsbD_shiftLeft, BitVec.getLsbD_allOnes, e3, hi, decide_true, Bool.true_and]
  by_cases c1 : t ≤ i ∧ i < t + 32
  · have a1 : ¬ i < t := by omega
    have a2 : i - t < 32 := by omega
    rw [if_pos c1, own_i2l_bit _ _ a2]
    simp [a1, a2]
  · rw [if_neg c1]
    by_cases a1 : i < t
    · simp [a1]
    · have a2 : ¬ i - t < 32 := by omega
      simp [a1, a2]
theorem own_bk {before : Int64} {value sh : Int32} {t : Nat} (ht : ((sh &&& 0x3f).toInt64.toBitVec.smod 64#64).toNat = t) (h32 : t ≤ 32) {s1 s2 : Int32} {u r : Nat} (hu : ((s1 &&& 0x3f).toInt64.toBitVec % 64).toNat = u) (hr : ((s2 &&& 31).toBitVec % 32).toNat = r) (hu2 : u ≤ 56) (hr2 : r ≤ 24) (c1 : t ≤ u) (c2 : u + 8 ≤ t + 32) (c3 : r = u - t) : own_i2b (own_iushr value s2) = own_i2b ((own_lushr (own_wt before value sh) s1).toInt32) := by
  apply own_b8
  intro i hi
  rw [own_iushr_bv value s2 r hr, own_l2i_bit _ _ (by omega), own_lushr_bv _ s1 u hu, BitVec.getLsbD_ushiftRight, BitVec.getLsbD_ushiftRight, own_wt_bit ht h32 _ (by omega), if_pos (by omega)]
  congr 1; omega
theorem own_bh {before : Int64} {value sh : Int32} {t : Nat} (ht : ((sh &&& 0x3f).toInt64.toBitVec.smod 64#64).toNat = t) (h32 : t ≤ 32) {s1 s2 : Int32} {u r : Nat} (hu : ((s1 &&& 0x3f).toInt64.toBitVec % 64).toNat = u) (hr : ((s2 &&& 31).toBitVec % 32).toNat = r) (hu2 : u ≤ 56) (hr2 : r ≤ 24) (c1 : u + 8 ≤ t ∨ t + 32 ≤ u) (c3 : u = r + 32) : own_i2b (own_iushr (own_lushr before 32).toInt32 s2) = own_i2b ((own_lushr (own_wt before value sh) s1).toInt32) := by
  apply own_b8
  intro i hi
  rw [own_iushr_bv _ s2 r hr, own_l2i_bit _ _ (by omega), own_lushr_bv _ s1 u hu, BitVec.getLsbD_ushiftRight, BitVec.getLsbD_ushiftRight, own_wt_bit ht h32 _ (by omega), if_neg (by omega), own_l2i_bit _ _ (by omega), own_lushr_bv _ 32 32 (by decide), BitVec.getLsbD_ushiftRight]
  congr 1; omega
theorem own_bl {before : Int64} {value sh : Int32} {t : Nat} (ht : ((sh &&& 0x3f).toInt64.toBitVec.smod 64#64).toNat = t) (h32 : t ≤ 32) {s1 s2 : Int32} {u r : Nat} (hu : ((s1 &&& 0x3f).toInt64.toBitVec % 64).toNat = u) (hr : ((s2 &&& 31).toBitVec % 32).toNat = r) (hu2 : u ≤ 56) (hr2 : r ≤ 24) (c1 : u + 8 ≤ t ∨ t + 32 ≤ u) (c3 : u = r) : own_i2b (own_iushr before.toInt32 s2) = own_i2b ((own_lushr (own_wt before value sh) s1).toInt32) := by
  apply own_b8
  intro i hi
  rw [own_iushr_bv _ s2 r hr, own_l2i_bit _ _ (by omega), own_lushr_bv _ s1 u hu, BitVec.getLsbD_ushiftRight, BitVec.getLsbD_ushiftRight, own_wt_bit ht h32 _ (by omega), if_neg (by omega), own_l2i_bit _ _ (by omega)]
  congr 1; omega
theorem own_s0 {bf : Int64} {vl q sh : Int32} {g0 : Int → Int32} (hq : 0 ≤ q.toInt ∧ q.toInt ≤ 4) (hsh : sh.toInt = 32 - 8 * q.toInt) : (own_u (own_u (own_u (own_u (own_u (own_u (own_u (own_u (own_u (own_u (own_u (own_u g0 0 (own_i2b (own_iushr ((own_lushr bf (32 : Int32)).toInt32) (24 : Int32)))) 1 (own_i2b (own_iushr ((own_lushr bf (32 : Int32)).toInt32) (16 : Int32)))) 2 (own_i2b (own_iushr ((own_lushr bf (32 : Int32)).toInt32) (8 : Int32)))) 3 (own_i2b (own_iushr ((own_lushr bf (32 : Int32)).toInt32) (0 : Int32)))) 4 (own_i2b (own_iushr (bf.toInt32) (24 : Int32)))) 5 (own_i2b (own_iushr (bf.toInt32) (16 : Int32)))) 6 (own_i2b (own_iushr (bf.toInt32) (8 : Int32)))) 7 (own_i2b (own_iushr (bf.toInt32) (0 : Int32)))) (q.toInt + 0) (own_i2b (own_iushr vl (24 : Int32)))) (q.toInt + 1) (own_i2b (own_iushr vl (16 : Int32)))) (q.toInt + 2) (own_i2b (own_iushr vl (8 : Int32)))) (q.toInt + 3) (own_i2b (own_iushr vl (0 : Int32)))) 0 = own_i2b ((own_lushr (own_wt bf vl sh) (56 : Int32)).toInt32) := by
  have hqc : q.toInt = 0 ∨ q.toInt = 1 ∨ q.toInt = 2 ∨ q.toInt = 3 ∨ q.toInt = 4 := by omega
  rcases hqc with hh | hh | hh | hh | hh
  · have e1 : sh = 32 := Int32.toInt_inj.mp (by rw [hsh, hh]; rfl)
    subst e1
    rw [own_u_ne (by omega), own_u_ne (by omega), own_u_ne (by omega), own_u_eq (by omega)]
    exact own_bk (t := 32) (u := 56) (r := 24) (by decide) (by decide) (by decide) (by decide) (by decide) (by decide) (by decide) (by decide) (by decide)
  · have e1 : sh = 24 := Int32.toInt_inj.mp (by rw [hsh, hh]; rfl)
    subst e1
    rw [own_u_ne (by omega), own_u_ne (by omega), own_u_ne (by omega), own_u_ne (by omega), own_u_ne (by decide), own_u_ne (by decide), own_u_ne (by decide), own_u_ne (by decide), own_u_ne (by decide), own_u_ne (by decide), own_u_ne (by decide), own_u_eq rfl]
    exact own_bh (t := 24) (u := 56) (r := 24) (by decide) (by decide) (by decide) (by decide) (by decide) (by decide) (by decide) (by decide)
  · have e1 : sh = 16 := Int32.toInt_inj.mp (by rw [hsh, hh]; rfl)
    subst e1
    rw [own_u_ne (by omega), own_u_ne (by omega), own_u_ne (by omega), own_u_ne (by omega), own_u_ne (by decide), own_u_ne (by decide), own_u_ne (by decide), own_u_ne (by decide), own_u_ne (by decide), own_u_ne (by decide), own_u_ne (by decide), own_u_eq rfl]
    exact own_bh (t := 16) (u := 56) (r := 24) (by decide) (by decide) (by decide) (by decide) (by decide) (by decide) (by decide) (by decide)
  · have e1 : sh = 8 := Int32.toInt_inj.mp (by rw [hsh, hh]; rfl)
    subst e1
    rw [own_u_ne (by omega), own_u_ne (by omega), own_u_ne (by omega), own_u_ne (by omega), own_u_ne (by decide), own_u_ne (by decide), own_u_ne (by decide), own_u_ne (by decide), own_u_ne (by decide), own_u_ne (by decide), own_u_ne (by decide), own_u_eq rfl]
    exact own_bh (t := 8) (u := 56) (r := 24) (by decide) (by decide) (by decide) (by decide) (by decide) (by decide) (by decide) (by decide)
  · have e1 : sh = 0 := Int32.toInt_inj.mp (by rw [hsh, hh]; rfl)
    subst e1
    rw [own_u_ne (by omega), own_u_ne (by omega), own_u_ne (by omega), own_u_ne (by omega), own_u_ne (by decide), own_u_ne (by decide), own_u_ne (by decide), own_u_ne (by decide), own_u_ne (by decide), own_u_ne (by decide), own_u_ne (by decide), own_u_eq rfl]
    exact own_bh (t := 0) (u := 56) (r := 24) (by decide) (by decide) (by decide) (by decide) (by decide) (by decide) (by decide) (by decide)
theorem own_s1 {bf : Int64} {vl q sh : Int32} {g0 : Int → Int32} (hq : 0 ≤ q.toInt ∧ q.toInt ≤ 4) (hsh : sh.toInt = 32 - 8 * q.toInt) : (own_u (own_u (own_u (own_u (own_u (own_u (own_u (own_u (own_u (own_u (own_u (own_u g0 0 (own_i2b (own_iushr ((own_lushr bf (32 : Int32)).toInt32) (24 : Int32)))) 1 (own_i2b (own_iushr ((own_lushr bf (32 : Int32)).toInt32) (16 : Int32)))) 2 (own_i2b (own_iushr ((own_lushr bf (32 : Int32)).toInt32) (8 : Int32)))) 3 (own_i2b (own_iushr ((own_lushr bf (32 : Int32)).toInt32) (0 : Int32)))) 4 (own_i2b (own_iushr (bf.toInt32) (24 : Int32)))) 5 (own_i2b (own_iushr (bf.toInt32) (16 : Int32)))) 6 (own_i2b (own_iushr (bf.toInt32) (8 : Int32)))) 7 (own_i2b (own_iushr (bf.toInt32) (0 : Int32)))) (q.toInt + 0) (own_i2b (own_iushr vl (24 : Int32)))) (q.toInt + 1) (own_i2b (own_iushr vl (16 : Int32)))) (q.toInt + 2) (own_i2b (own_iushr vl (8 : Int32)))) (q.toInt + 3) (own_i2b (own_iushr vl (0 : Int32)))) 1 = own_i2b ((own_lushr (own_wt bf vl sh) (48 : Int32)).toInt32) := by
  have hqc : q.toInt = 0 ∨ q.toInt = 1 ∨ q.toInt = 2 ∨ q.toInt = 3 ∨ q.toInt = 4 := by omega
  rcases hqc with hh | hh | hh | hh | hh
  · have e1 : sh = 32 := Int32.toInt_inj.mp (by rw [hsh, hh]; rfl)
    subst e1
    rw [own_u_ne (by omega), own_u_ne (by omega), own_u_eq (by omega)]
    exact own_bk (t := 32) (u := 48) (r := 16) (by decide) (by decide) (by decide) (by decide) (by decide) (by decide) (by decide) (by decide) (by decide)
  · have e1 : sh = 24 := Int32.toInt_inj.mp (by rw [hsh, hh]; rfl)
    subst e1
    rw [own_u_ne (by omega), own_u_ne (by omega), own_u_ne (by omega), own_u_eq (by omega)]
    exact own_bk (t := 24) (u := 48) (r := 24) (by decide) (by decide) (by decide) (by decide) (by decide) (by decide) (by decide) (by decide) (by decide)
  · have e1 : sh = 16 := Int32.toInt_inj.mp (by rw [hsh, hh]; rfl)
    subst e1
    rw [own_u_ne (by omega), own_u_ne (by omega), own_u_ne (by omega), own_u_ne (by omega), own_u_ne (by decide), own_u_ne (by decide), own_u_ne (by decide), own_u_ne (by decide), own_u_ne (by decide), own_u_ne (by decide), own_u_eq rfl]
    exact own_bh (t := 16) (u := 48) (r := 16) (by decide) (by decide) (by decide) (by decide) (by decide) (by decide) (by decide) (by decide)
  · have e1 : sh = 8 := Int32.toInt_inj.mp (by rw [hsh, hh]; rfl)
    subst e1
    rw [own_u_ne (by omega), own_u_ne (by omega), own_u_ne (by omega), own_u_ne (by omega), own_u_ne (by decide), own_u_ne (by decide), own_u_ne (by decide), own_u_ne (by decide), own_u_ne (by decide), own_u_ne (by decide), own_u_eq rfl]
    exact own_bh (t := 8) (u := 48) (r := 16) (by decide) (by decide) (by decide) (by decide) (by decide) (by decide) (by decide) (by decide)
  · have e1 : sh = 0 := Int32.toInt_inj.mp (by rw [hsh, hh]; rfl)
    subst e1
    rw [own_u_ne (by omega), own_u_ne (by omega), own_u_ne (by omega), own_u_ne (by omega), own_u_ne (by decide), own_u_ne (by decide), own_u_ne (by decide), own_u_ne (by decide), own_u_ne (by decide), own_u_ne (by decide), own_u_eq rfl]
    exact own_bh (t := 0) (u := 48) (r := 16) (by decide) (by decide) (by decide) (by decide) (by decide) (by decide) (by decide) (by decide)
theorem own_s2 {bf : Int64} {vl q sh : Int32} {g0 : Int → Int32} (hq : 0 ≤ q.toInt ∧ q.toInt ≤ 4) (hsh : sh.toInt = 32 - 8 * q.toInt) : (own_u (own_u (own_u (own_u (own_u (own_u (own_u (own_u (own_u (own_u (own_u (own_u g0 0 (own_i2b (own_iushr ((own_lushr bf (32 : Int32)).toInt32) (24 : Int32)))) 1 (own_i2b (own_iushr ((own_lushr bf (32 : Int32)).toInt32) (16 : Int32)))) 2 (own_i2b (own_iushr ((own_lushr bf (32 : Int32)).toInt32) (8 : Int32)))) 3 (own_i2b (own_iushr ((own_lushr bf (32 : Int32)).toInt32) (0 : Int32)))) 4 (own_i2b (own_iushr (bf.toInt32) (24 : Int32)))) 5 (own_i2b (own_iushr (bf.toInt32) (16 : Int32)))) 6 (own_i2b (own_iushr (bf.toInt32) (8 : Int32)))) 7 (own_i2b (own_iushr (bf.toInt32) (0 : Int32)))) (q.toInt + 0) (own_i2b (own_iushr vl (24 : Int32)))) (q.toInt + 1) (own_i2b (own_iushr vl (16 : Int32)))) (q.toInt + 2) (own_i2b (own_iushr vl (8 : Int32)))) (q.toInt + 3) (own_i2b (own_iushr vl (0 : Int32)))) 2 = own_i2b ((own_lushr (own_wt bf vl sh) (40 : Int32)).toInt32) := by
  have hqc : q.toInt = 0 ∨ q.toInt = 1 ∨ q.toInt = 2 ∨ q.toInt = 3 ∨ q.toInt = 4 := by omega
  rcases hqc with hh | hh | hh | hh | hh
  · have e1 : sh = 32 := Int32.toInt_inj.mp (by rw [hsh, hh]; rfl)
    subst e1
    rw [own_u_ne (by omega), own_u_eq (by omega)]
    exact own_bk (t := 32) (u := 40) (r := 8) (by decide) (by decide) (by decide) (by decide) (by decide) (by decide) (by decide) (by decide) (by decide)
  · have e1 : sh = 24 := Int32.toInt_inj.mp (by rw [hsh, hh]; rfl)
    subst e1
    rw [own_u_ne (by omega), own_u_ne (by omega), own_u_eq (by omega)]
    exact own_bk (t := 24) (u := 40) (r := 16) (by decide) (by decide) (by decide) (by decide) (by decide) (by decide) (by decide) (by decide) (by decide)
  · have e1 : sh = 16 := Int32.toInt_inj.mp (by rw [hsh, hh]; rfl)
    subst e1
    rw [own_u_ne (by omega), own_u_ne (by omega), own_u_ne (by omega), own_u_eq (by omega)]
    exact own_bk (t := 16) (u := 40) (r := 24) (by decide) (by decide) (by decide) (by decide) (by decide) (by decide) (by decide) (by decide) (by decide)
  · have e1 : sh = 8 := Int32.toInt_inj.mp (by rw [hsh, hh]; rfl)
    subst e1
    rw [own_u_ne (by omega), own_u_ne (by omega), own_u_ne (by omega), own_u_ne (by omega), own_u_ne (by decide), own_u_ne (by decide), own_u_ne (by decide), own_u_ne (by decide), own_u_ne (by decide), own_u_eq rfl]
    exact own_bh (t := 8) (u := 40) (r := 8) (by decide) (by decide) (by decide) (by decide) (by decide) (by decide) (by decide) (by decide)
  · have e1 : sh = 0 := Int32.toInt_inj.mp (by rw [hsh, hh]; rfl)
    subst e1
    rw [own_u_ne (by omega), own_u_ne (by omega), own_u_ne (by omega), own_u_ne (by omega), own_u_ne (by decide), own_u_ne (by decide), own_u_ne (by decide), own_u_ne (by decide), own_u_ne (by decide), own_u_eq rfl]
    exact own_bh (t := 0) (u := 40) (r := 8) (by decide) (by decide) (by decide) (by decide) (by decide) (by decide) (by decide) (by decide)
theorem own_s3 {bf : Int64} {vl q sh : Int32} {g0 : Int → Int32} (hq : 0 ≤ q.toInt ∧ q.toInt ≤ 4) (hsh : sh.toInt = 32 - 8 * q.toInt) : (own_u (own_u (own_u (own_u (own_u (own_u (own_u (own_u (own_u (own_u (own_u (own_u g0 0 (own_i2b (own_iushr ((own_lushr bf (32 : Int32)).toInt32) (24 : Int32)))) 1 (own_i2b (own_iushr ((own_lushr bf (32 : Int32)).toInt32) (16 : Int32)))) 2 (own_i2b (own_iushr ((own_lushr bf (32 : Int32)).toInt32) (8 : Int32)))) 3 (own_i2b (own_iushr ((own_lushr bf (32 : Int32)).toInt32) (0 : Int32)))) 4 (own_i2b (own_iushr (bf.toInt32) (24 : Int32)))) 5 (own_i2b (own_iushr (bf.toInt32) (16 : Int32)))) 6 (own_i2b (own_iushr (bf.toInt32) (8 : Int32)))) 7 (own_i2b (own_iushr (bf.toInt32) (0 : Int32)))) (q.toInt + 0) (own_i2b (own_iushr vl (24 : Int32)))) (q.toInt + 1) (own_i2b (own_iushr vl (16 : Int32)))) (q.toInt + 2) (own_i2b (own_iushr vl (8 : Int32)))) (q.toInt + 3) (own_i2b (own_iushr vl (0 : Int32)))) 3 = own_i2b ((own_lushr (own_wt bf vl sh) (32 : Int32)).toInt32) := by
  have hqc : q.toInt = 0 ∨ q.toInt = 1 ∨ q.toInt = 2 ∨ q.toInt = 3 ∨ q.toInt = 4 := by omega
  rcases hqc with hh | hh | hh | hh | hh
  · have e1 : sh = 32 := Int32.toInt_inj.mp (by rw [hsh, hh]; rfl)
    subst e1
    rw [own_u_eq (by omega)]
    exact own_bk (t := 32) (u := 32) (r := 0) (by decide) (by decide) (by decide) (by decide) (by decide) (by decide) (by decide) (by decide) (by decide)
  · have e1 : sh = 24 := Int32.toInt_inj.mp (by rw [hsh, hh]; rfl)
    subst e1
    rw [own_u_ne (by omega), own_u_eq (by omega)]
    exact own_bk (t := 24) (u := 32) (r := 8) (by decide) (by decide) (by decide) (by decide) (by decide) (by decide) (by decide) (by decide) (by decide)
  · have e1 : sh = 16 := Int32.toInt_inj.mp (by rw [hsh, hh]; rfl)
    subst e1
    rw [own_u_ne (by omega), own_u_ne (by omega), own_u_eq (by omega)]
    exact own_bk (t := 16) (u := 32) (r := 16) (by decide) (by decide) (by decide) (by decide) (by decide) (by decide) (by decide) (by decide) (by decide)
  · have e1 : sh = 8 := Int32.toInt_inj.mp (by rw [hsh, hh]; rfl)
    subst e1
    rw [own_u_ne (by omega), own_u_ne (by omega), own_u_ne (by omega), own_u_eq (by omega)]
    exact own_bk (t := 8) (u := 32) (r := 24) (by decide) (by decide) (by decide) (by decide) (by decide) (by decide) (by decide) (by decide) (by decide)
  · have e1 : sh = 0 := Int32.toInt_inj.mp (by rw [hsh, hh]; rfl)
    subst e1
    rw [own_u_ne (by omega), own_u_ne (by omega), own_u_ne (by omega), own_u_ne (by omega), own_u_ne (by decide), own_u_ne (by decide), own_u_ne (by decide), own_u_ne (by decide), own_u_eq rfl]
    exact own_bh (t := 0) (u := 32) (r := 0) (by decide) (by decide) (by decide) (by decide) (by decide) (by decide) (by decide) (by decide)
theorem own_s4 {bf : Int64} {vl q sh : Int32} {g0 : Int → Int32} (hq : 0 ≤ q.toInt ∧ q.toInt ≤ 4) (hsh : sh.toInt = 32 - 8 * q.toInt) : (own_u (own_u (own_u (own_u (own_u (own_u (own_u (own_u (own_u (own_u (own_u (own_u g0 0 (own_i2b (own_iushr ((own_lushr bf (32 : Int32)).toInt32) (24 : Int32)))) 1 (own_i2b (own_iushr ((own_lushr bf (32 : Int32)).toInt32) (16 : Int32)))) 2 (own_i2b (own_iushr ((own_lushr bf (32 : Int32)).toInt32) (8 : Int32)))) 3 (own_i2b (own_iushr ((own_lushr bf (32 : Int32)).toInt32) (0 : Int32)))) 4 (own_i2b (own_iushr (bf.toInt32) (24 : Int32)))) 5 (own_i2b (own_iushr (bf.toInt32) (16 : Int32)))) 6 (own_i2b (own_iushr (bf.toInt32) (8 : Int32)))) 7 (own_i2b (own_iushr (bf.toInt32) (0 : Int32)))) (q.toInt + 0) (own_i2b (own_iushr vl (24 : Int32)))) (q.toInt + 1) (own_i2b (own_iushr vl (16 : Int32)))) (q.toInt + 2) (own_i2b (own_iushr vl (8 : Int32)))) (q.toInt + 3) (own_i2b (own_iushr vl (0 : Int32)))) 4 = own_i2b ((own_lushr (own_wt bf vl sh) (24 : Int32)).toInt32) := by
  have hqc : q.toInt = 0 ∨ q.toInt = 1 ∨ q.toInt = 2 ∨ q.toInt = 3 ∨ q.toInt = 4 := by omega
  rcases hqc with hh | hh | hh | hh | hh
  · have e1 : sh = 32 := Int32.toInt_inj.mp (by rw [hsh, hh]; rfl)
    subst e1
    rw [own_u_ne (by omega), own_u_ne (by omega), own_u_ne (by omega), own_u_ne (by omega), own_u_ne (by decide), own_u_ne (by decide), own_u_ne (by decide), own_u_eq rfl]
    exact own_bl (t := 32) (u := 24) (r := 24) (by decide) (by decide) (by decide) (by decide) (by decide) (by decide) (by decide) (by decide)
  · have e1 : sh = 24 := Int32.toInt_inj.mp (by rw [hsh, hh]; rfl)
    subst e1
    rw [own_u_eq (by omega)]
    exact own_bk (t := 24) (u := 24) (r := 0) (by decide) (by decide) (by decide) (by decide) (by decide) (by decide) (by decide) (by decide) (by decide)
  · have e1 : sh = 16 := Int32.toInt_inj.mp (by rw [hsh, hh]; rfl)
    subst e1
    rw [own_u_ne (by omega), own_u_eq (by omega)]
    exact own_bk (t := 16) (u := 24) (r := 8) (by decide) (by decide) (by decide) (by decide) (by decide) (by decide) (by decide) (by decide) (by decide)
  · have e1 : sh = 8 := Int32.toInt_inj.mp (by rw [hsh, hh]; rfl)
    subst e1
    rw [own_u_ne (by omega), own_u_ne (by omega), own_u_eq (by omega)]
    exact own_bk (t := 8) (u := 24) (r := 16) (by decide) (by decide) (by decide) (by decide) (by decide) (by decide) (by decide) (by decide) (by decide)
  · have e1 : sh = 0 := Int32.toInt_inj.mp (by rw [hsh, hh]; rfl)
    subst e1
    rw [own_u_ne (by omega), own_u_ne (by omega), own_u_ne (by omega), own_u_eq (by omega)]
    exact own_bk (t := 0) (u := 24) (r := 24) (by decide) (by decide) (by decide) (by decide) (by decide) (by decide) (by decide) (by decide) (by decide)
theorem own_s5 {bf : Int64} {vl q sh : Int32} {g0 : Int → Int32} (hq : 0 ≤ q.toInt ∧ q.toInt ≤ 4) (hsh : sh.toInt = 32 - 8 * q.toInt) : (own_u (own_u (own_u (own_u (own_u (own_u (own_u (own_u (own_u (own_u (own_u (own_u g0 0 (own_i2b (own_iushr ((own_lushr bf (32 : Int32)).toInt32) (24 : Int32)))) 1 (own_i2b (own_iushr ((own_lushr bf (32 : Int32)).toInt32) (16 : Int32)))) 2 (own_i2b (own_iushr ((own_lushr bf (32 : Int32)).toInt32) (8 : Int32)))) 3 (own_i2b (own_iushr ((own_lushr bf (32 : Int32)).toInt32) (0 : Int32)))) 4 (own_i2b (own_iushr (bf.toInt32) (24 : Int32)))) 5 (own_i2b (own_iushr (bf.toInt32) (16 : Int32)))) 6 (own_i2b (own_iushr (bf.toInt32) (8 : Int32)))) 7 (own_i2b (own_iushr (bf.toInt32) (0 : Int32)))) (q.toInt + 0) (own_i2b (own_iushr vl (24 : Int32)))) (q.toInt + 1) (own_i2b (own_iushr vl (16 : Int32)))) (q.toInt + 2) (own_i2b (own_iushr vl (8 : Int32)))) (q.toInt + 3) (own_i2b (own_iushr vl (0 : Int32)))) 5 = own_i2b ((own_lushr (own_wt bf vl sh) (16 : Int32)).toInt32) := by
  have hqc : q.toInt = 0 ∨ q.toInt = 1 ∨ q.toInt = 2 ∨ q.toInt = 3 ∨ q.toInt = 4 := by omega
  rcases hqc with hh | hh | hh | hh | hh
  · have e1 : sh = 32 := Int32.toInt_inj.mp (by rw [hsh, hh]; rfl)
    subst e1
    rw [own_u_ne (by omega), own_u_ne (by omega), own_u_ne (by omega), own_u_ne (by omega), own_u_ne (by decide), own_u_ne (by decide), own_u_eq rfl]
    exact own_bl (t := 32) (u := 16) (r := 16) (by decide) (by decide) (by decide) (by decide) (by decide) (by decide) (by decide) (by decide)
  · have e1 : sh = 24 := Int32.toInt_inj.mp (by rw [hsh, hh]; rfl)
    subst e1
    rw [own_u_ne (by omega), own_u_ne (by omega), own_u_ne (by omega), own_u_ne (by omega), own_u_ne (by decide), own_u_ne (by decide), own_u_eq rfl]
    exact own_bl (t := 24) (u := 16) (r := 16) (by decide) (by decide) (by decide) (by decide) (by decide) (by decide) (by decide) (by decide)
  · have e1 : sh = 16 := Int32.toInt_inj.mp (by rw [hsh, hh]; rfl)
    subst e1
    rw [own_u_eq (by omega)]
    exact own_bk (t := 16) (u := 16) (r := 0) (by decide) (by decide) (by decide) (by decide) (by decide) (by decide) (by decide) (by decide) (by decide)
  · have e1 : sh = 8 := Int32.toInt_inj.mp (by rw [hsh, hh]; rfl)
    subst e1
    rw [own_u_ne (by omega), own_u_eq (by omega)]
    exact own_bk (t := 8) (u := 16) (r := 8) (by decide) (by decide) (by decide) (by decide) (by decide) (by decide) (by decide) (by decide) (by decide)
  · have e1 : sh = 0 := Int32.toInt_inj.mp (by rw [hsh, hh]; rfl)
    subst e1
    rw [own_u_ne (by omega), own_u_ne (by omega), own_u_eq (by omega)]
    exact own_bk (t := 0) (u := 16) (r := 16) (by decide) (by decide) (by decide) (by decide) (by decide) (by decide) (by decide) (by decide) (by decide)
theorem own_s6 {bf : Int64} {vl q sh : Int32} {g0 : Int → Int32} (hq : 0 ≤ q.toInt ∧ q.toInt ≤ 4) (hsh : sh.toInt = 32 - 8 * q.toInt) : (own_u (own_u (own_u (own_u (own_u (own_u (own_u (own_u (own_u (own_u (own_u (own_u g0 0 (own_i2b (own_iushr ((own_lushr bf (32 : Int32)).toInt32) (24 : Int32)))) 1 (own_i2b (own_iushr ((own_lushr bf (32 : Int32)).toInt32) (16 : Int32)))) 2 (own_i2b (own_iushr ((own_lushr bf (32 : Int32)).toInt32) (8 : Int32)))) 3 (own_i2b (own_iushr ((own_lushr bf (32 : Int32)).toInt32) (0 : Int32)))) 4 (own_i2b (own_iushr (bf.toInt32) (24 : Int32)))) 5 (own_i2b (own_iushr (bf.toInt32) (16 : Int32)))) 6 (own_i2b (own_iushr (bf.toInt32) (8 : Int32)))) 7 (own_i2b (own_iushr (bf.toInt32) (0 : Int32)))) (q.toInt + 0) (own_i2b (own_iushr vl (24 : Int32)))) (q.toInt + 1) (own_i2b (own_iushr vl (16 : Int32)))) (q.toInt + 2) (own_i2b (own_iushr vl (8 : Int32)))) (q.toInt + 3) (own_i2b (own_iushr vl (0 : Int32)))) 6 = own_i2b ((own_lushr (own_wt bf vl sh) (8 : Int32)).toInt32) := by
  have hqc : q.toInt = 0 ∨ q.toInt = 1 ∨ q.toInt = 2 ∨ q.toInt = 3 ∨ q.toInt = 4 := by omega
  rcases hqc with hh | hh | hh | hh | hh
  · have e1 : sh = 32 := Int32.toInt_inj.mp (by rw [hsh, hh]; rfl)
    subst e1
    rw [own_u_ne (by omega), own_u_ne (by omega), own_u_ne (by omega), own_u_ne (by omega), own_u_ne (by decide), own_u_eq rfl]
    exact own_bl (t := 32) (u := 8) (r := 8) (by decide) (by decide) (by decide) (by decide) (by decide) (by decide) (by decide) (by decide)
  · have e1 : sh = 24 := Int32.toInt_inj.mp (by rw [hsh, hh]; rfl)
    subst e1
    rw [own_u_ne (by omega), own_u_ne (by omega), own_u_ne (by omega), own_u_ne (by omega), own_u_ne (by decide), own_u_eq rfl]
    exact own_bl (t := 24) (u := 8) (r := 8) (by decide) (by decide) (by decide) (by decide) (by decide) (by decide) (by decide) (by decide)
  · have e1 : sh = 16 := Int32.toInt_inj.mp (by rw [hsh, hh]; rfl)
    subst e1
    rw [own_u_ne (by omega), own_u_ne (by omega), own_u_ne (by omega), own_u_ne (by omega), own_u_ne (by decide), own_u_eq rfl]
    exact own_bl (t := 16) (u := 8) (r := 8) (by decide) (by decide) (by decide) (by decide) (by decide) (by decide) (by decide) (by decide)
  · have e1 : sh = 8 := Int32.toInt_inj.mp (by rw [hsh, hh]; rfl)
    subst e1
    rw [own_u_eq (by omega)]
    exact own_bk (t := 8) (u := 8) (r := 0) (by decide) (by decide) (by decide) (by decide) (by decide) (by decide) (by decide) (by decide) (by decide)
  · have e1 : sh = 0 := Int32.toInt_inj.mp (by rw [hsh, hh]; rfl)
    subst e1
    rw [own_u_ne (by omega), own_u_eq (by omega)]
    exact own_bk (t := 0) (u := 8) (r := 8) (by decide) (by decide) (by decide) (by decide) (by decide) (by decide) (by decide) (by decide) (by decide)
theorem own_s7 {bf : Int64} {vl q sh : Int32} {g0 : Int → Int32} (hq : 0 ≤ q.toInt ∧ q.toInt ≤ 4) (hsh : sh.toInt = 32 - 8 * q.toInt) : (own_u (own_u (own_u (own_u (own_u (own_u (own_u (own_u (own_u (own_u (own_u (own_u g0 0 (own_i2b (own_iushr ((own_lushr bf (32 : Int32)).toInt32) (24 : Int32)))) 1 (own_i2b (own_iushr ((own_lushr bf (32 : Int32)).toInt32) (16 : Int32)))) 2 (own_i2b (own_iushr ((own_lushr bf (32 : Int32)).toInt32) (8 : Int32)))) 3 (own_i2b (own_iushr ((own_lushr bf (32 : Int32)).toInt32) (0 : Int32)))) 4 (own_i2b (own_iushr (bf.toInt32) (24 : Int32)))) 5 (own_i2b (own_iushr (bf.toInt32) (16 : Int32)))) 6 (own_i2b (own_iushr (bf.toInt32) (8 : Int32)))) 7 (own_i2b (own_iushr (bf.toInt32) (0 : Int32)))) (q.toInt + 0) (own_i2b (own_iushr vl (24 : Int32)))) (q.toInt + 1) (own_i2b (own_iushr vl (16 : Int32)))) (q.toInt + 2) (own_i2b (own_iushr vl (8 : Int32)))) (q.toInt + 3) (own_i2b (own_iushr vl (0 : Int32)))) 7 = own_i2b ((own_lushr (own_wt bf vl sh) (0 : Int32)).toInt32) := by
  have hqc : q.toInt = 0 ∨ q.toInt = 1 ∨ q.toInt = 2 ∨ q.toInt = 3 ∨ q.toInt = 4 := by omega
  rcases hqc with hh | hh | hh | hh | hh
  · have e1 : sh = 32 := Int32.toInt_inj.mp (by rw [hsh, hh]; rfl)
    subst e1
    rw [own_u_ne (by omega), own_u_ne (by omega), own_u_ne (by omega), own_u_ne (by omega), own_u_eq rfl]
    exact own_bl (t := 32) (u := 0) (r := 0) (by decide) (by decide) (by decide) (by decide) (by decide) (by decide) (by decide) (by decide)
  · have e1 : sh = 24 := Int32.toInt_inj.mp (by rw [hsh, hh]; rfl)
    subst e1
    rw [own_u_ne (by omega), own_u_ne (by omega), own_u_ne (by omega), own_u_ne (by omega), own_u_eq rfl]
    exact own_bl (t := 24) (u := 0) (r := 0) (by decide) (by decide) (by decide) (by decide) (by decide) (by decide) (by decide) (by decide)
  · have e1 : sh = 16 := Int32.toInt_inj.mp (by rw [hsh, hh]; rfl)
    subst e1
    rw [own_u_ne (by omega), own_u_ne (by omega), own_u_ne (by omega), own_u_ne (by omega), own_u_eq rfl]
    exact own_bl (t := 16) (u := 0) (r := 0) (by decide) (by decide) (by decide) (by decide) (by decide) (by decide) (by decide) (by decide)
  · have e1 : sh = 8 := Int32.toInt_inj.mp (by rw [hsh, hh]; rfl)
    subst e1
    rw [own_u_ne (by omega), own_u_ne (by omega), own_u_ne (by omega), own_u_ne (by omega), own_u_eq rfl]
    exact own_bl (t := 8) (u := 0) (r := 0) (by decide) (by decide) (by decide) (by decide) (by decide) (by decide) (by decide) (by decide)
  · have e1 : sh = 0 := Int32.toInt_inj.mp (by rw [hsh, hh]; rfl)
    subst e1
    rw [own_u_eq (by omega)]
    exact own_bk (t := 0) (u := 0) (r := 0) (by decide) (by decide) (by decide) (by decide) (by decide) (by decide) (by decide) (by decide) (by decide)
theorem pl0 : plainFor x = true := plainFor_of_name (by first | (simp [plainName, overriddenIn]; done) | decide +kernel)
def B0_0_1 : List (Instr × Nat) := [(.iload_n 2, 1)]
theorem B0_0_1d : own_d code 0 B0_0_1 1 = true := by decide +kernel
theorem d0_1 : decode code 1 = .ok (.ldc 7, 2) := by decide +kernel
def B0_3_5 : List (Instr × Nat) := [(.iand, 1), (.iconst 5, 1)]
theorem B0_3_5d : own_d code 3 B0_3_5 5 = true := by decide +kernel
theorem d0_5 : decode code 5 = .ok (.irem, 1) := by decide +kernel
def B0_6_8 : List (Instr × Nat) := [(.istore 4, 2)]
theorem B0_6_8d : own_d code 6 B0_6_8 8 = true := by decide +kernel
theorem d0_8 : decode code 8 = .ok (.new 8, 3) := by decide +kernel
def B0_11_12 : List (Instr × Nat) := [(.dup, 1)]
theorem B0_11_12d : own_d code 11 B0_11_12 12 = true := by decide +kernel
theorem d0_12 : decode code 12 = .ok (.invokespecial 10, 3) := by decide +kernel
theorem pd1 : parseMethodDescriptor "()V" = some ⟨[], none⟩ := by decide +kernel
def B0_15_20 : List (Instr × Nat) := [(.astore 5, 2), (.aload 5, 2), (.lload_n 0, 1)]
theorem B0_15_20d : own_d code 15 B0_15_20 20 = true := by decide +kernel
theorem d0_20 : decode code 20 = .ok (.invokevirtual 11, 3) := by decide +kernel
theorem pd3 : parseMethodDescriptor "(J)Lcom/example/vedette/vedette/core/ZoneBytes$Writer;" = some ⟨[.long], some (.object "com/example/vedette/vedette/core/ZoneBytes$Writer")⟩ := by decide +kernel
def B0_23_29 : List (Instr × Nat) := [(.pop, 1), (.aload 5, 2), (.iload 4, 2), (.iload_n 3, 1)]
theorem B0_23_29d : own_d code 23 B0_23_29 29 = true := by decide +kernel
theorem d0_29 : decode code 29 = .ok (.invokevirtual 15, 3) := by decide +kernel
theorem pd6 : parseMethodDescriptor "(II)Lcom/example/vedette/vedette/core/ZoneBytes$Writer;" = some ⟨[.int, .int], some (.object "com/example/vedette/vedette/core/ZoneBytes$Writer")⟩ := by decide +kernel
def B0_32_36 : List (Instr × Nat) := [(.astore 6, 2), (.aload 5, 2)]
theorem B0_32_36d : own_d code 32 B0_32_36 36 = true := by decide +kernel
theorem d0_36 : decode code 36 = .ok (.invokevirtual 19, 3) := by decide +kernel
theorem pd7 : parseMethodDescriptor "()I" = some ⟨[], some .int⟩ := by decide +kernel
def B0_39_43 : List (Instr × Nat) := [(.istore 7, 2), (.aload 5, 2)]
theorem B0_39_43d : own_d code 39 B0_39_43 43 = true := by decide +kernel
theorem d0_43 : decode code 43 = .ok (.invokevirtual 23, 3) := by decide +kernel
theorem pd8 : parseMethodDescriptor "()[B" = some ⟨[], some (.array .byte)⟩ := by decide +kernel
def B0_46_52 : List (Instr × Nat) := [(.astore 8, 2), (.aload 6, 2), (.aload 5, 2)]
theorem B0_46_52d : own_d code 46 B0_46_52 52 = true := by decide +kernel
theorem d0_52 : decode code 52 = .ok (.if_acmp .ne 18, 3) := by decide +kernel
def B0_55_59 : List (Instr × Nat) := [(.iload 7, 2), (.bipush 8, 2)]
theorem B0_55_59d : own_d code 55 B0_55_59 59 = true := by decide +kernel
theorem d0_59 : decode code 59 = .ok (.if_icmp .ne 11, 3) := by decide +kernel
def B0_62_64 : List (Instr × Nat) := [(.aload 8, 2)]
theorem B0_62_64d : own_d code 62 B0_62_64 64 = true := by decide +kernel
theorem d0_64 : decode code 64 = .ok (.arraylength, 1) := by decide +kernel
def B0_65_67 : List (Instr × Nat) := [(.bipush 8, 2)]
theorem B0_65_67d : own_d code 65 B0_65_67 67 = true := by decide +kernel
theorem d0_67 : decode code 67 = .ok (.if_icmp .eq 5, 3) := by decide +kernel
def B0_72_82 : List (Instr × Nat) := [(.bipush 32, 2), (.bipush 8, 2), (.iload 4, 2), (.imul, 1), (.isub, 1), (.istore 9, 2)]
theorem B0_72_82d : own_d code 72 B0_72_82 82 = true := by decide +kernel
theorem d0_82 : decode code 82 = .ok (.ldc2_w 27, 3) := by decide +kernel
def B0_85_93 : List (Instr × Nat) := [(.iload 9, 2), (.lshl, 1), (.lstore 10, 2), (.lload_n 0, 1), (.lload 10, 2)]
theorem B0_85_93d : own_d code 85 B0_85_93 93 = true := by decide +kernel
theorem d0_93 : decode code 93 = .ok (.ldc2_w 29, 3) := by decide +kernel
def B0_96_100 : List (Instr × Nat) := [(.lxor, 1), (.land, 1), (.iload_n 3, 1), (.i2l, 1)]
theorem B0_96_100d : own_d code 96 B0_96_100 100 = true := by decide +kernel
theorem d0_100 : decode code 100 = .ok (.ldc2_w 27, 3) := by decide +kernel
def B0_103_110 : List (Instr × Nat) := [(.land, 1), (.iload 9, 2), (.lshl, 1), (.lor, 1), (.lstore 12, 2)]
theorem B0_103_110d : own_d code 103 B0_103_110 110 = true := by decide +kernel
def B0_110_115 : List (Instr × Nat) := [(.aload 8, 2), (.iconst 0, 1), (.lload 12, 2)]
theorem B0_110_115d : own_d code 110 B0_110_115 115 = true := by decide +kernel
theorem d0_115 : decode code 115 = .ok (.invokestatic 31, 3) := by decide +kernel
theorem pd11 : parseMethodDescriptor "([BIJ)Z" = some ⟨[(.array .byte), .int, .long], some .boolean⟩ := by decide +kernel
theorem d0_118 : decode code 118 = .ok (.ifCond .eq 86, 3) := by decide +kernel
def B0_121_126 : List (Instr × Nat) := [(.aload 8, 2), (.iconst 1, 1), (.lload 12, 2)]
theorem B0_121_126d : own_d code 121 B0_121_126 126 = true := by decide +kernel
theorem d0_126 : decode code 126 = .ok (.invokestatic 31, 3) := by decide +kernel
theorem d0_129 : decode code 129 = .ok (.ifCond .eq 75, 3) := by decide +kernel
def B0_132_137 : List (Instr × Nat) := [(.aload 8, 2), (.iconst 2, 1), (.lload 12, 2)]
theorem B0_132_137d : own_d code 132 B0_132_137 137 = true := by decide +kernel
theorem d0_137 : decode code 137 = .ok (.invokestatic 31, 3) := by decide +kernel
theorem d0_140 : decode code 140 = .ok (.ifCond .eq 64, 3) := by decide +kernel
def B0_143_148 : List (Instr × Nat) := [(.aload 8, 2), (.iconst 3, 1), (.lload 12, 2)]
theorem B0_143_148d : own_d code 143 B0_143_148 148 = true := by decide +kernel
theorem d0_148 : decode code 148 = .ok (.invokestatic 31, 3) := by decide +kernel
theorem d0_151 : decode code 151 = .ok (.ifCond .eq 53, 3) := by decide +kernel
def B0_154_159 : List (Instr × Nat) := [(.aload 8, 2), (.iconst 4, 1), (.lload 12, 2)]
theorem B0_154_159d : own_d code 154 B0_154_159 159 = true := by decide +kernel
theorem d0_159 : decode code 159 = .ok (.invokestatic 31, 3) := by decide +kernel
theorem d0_162 : decode code 162 = .ok (.ifCond .eq 42, 3) := by decide +kernel
def B0_165_170 : List (Instr × Nat) := [(.aload 8, 2), (.iconst 5, 1), (.lload 12, 2)]
theorem B0_165_170d : own_d code 165 B0_165_170 170 = true := by decide +kernel
theorem d0_170 : decode code 170 = .ok (.invokestatic 31, 3) := by decide +kernel
theorem d0_173 : decode code 173 = .ok (.ifCond .eq 31, 3) := by decide +kernel
def B0_176_182 : List (Instr × Nat) := [(.aload 8, 2), (.bipush 6, 2), (.lload 12, 2)]
theorem B0_176_182d : own_d code 176 B0_176_182 182 = true := by decide +kernel
theorem d0_182 : decode code 182 = .ok (.invokestatic 31, 3) := by decide +kernel
theorem d0_185 : decode code 185 = .ok (.ifCond .eq 19, 3) := by decide +kernel
def B0_188_194 : List (Instr × Nat) := [(.aload 8, 2), (.bipush 7, 2), (.lload 12, 2)]
theorem B0_188_194d : own_d code 188 B0_188_194 194 = true := by decide +kernel
theorem d0_194 : decode code 194 = .ok (.invokestatic 31, 3) := by decide +kernel
theorem d0_197 : decode code 197 = .ok (.ifCond .eq 7, 3) := by decide +kernel
def B0_200_201 : List (Instr × Nat) := [(.iconst 1, 1)]
theorem B0_200_201d : own_d code 200 B0_200_201 201 = true := by decide +kernel
theorem d0_201 : decode code 201 = .ok (.goto 4, 3) := by decide +kernel
theorem d0_205 : decode code 205 = .ok (.ireturn, 1) := by decide +kernel
set_option maxRecDepth 65536 in
set_option maxHeartbeats 40000000 in
theorem c_law (l : Launch) (Z : State) (a0 : Array Value) (hw : ∀ d ∈ tables_1, d.before a0 Z = true) (bf : Int64) (z1 : Int32) (vl : Int32) (h0 : Heap) (n0 : Nat) (Z0 : n0 ≤ h0.size)  :
    own_C l Z x code maxLocals ret room_1 #[(.long bf), (.int z1), (.int vl)] h0 n0 (fun v h => v = some (.int 1)) := by
  refine own_body pl0 Z0 (ls := #[.val (.long bf), .second, .val (.int z1), .val (.int vl), .unset, .unset, .unset, .unset, .unset, .unset, .unset, .unset, .unset, .unset]) (fun m => by first | (simp [entryFrame, mkF, argsToLocals, Value.category, maxLocals]; done) | rfl) ?_
  intro p e s m below meth c T0 X0
  refine own_blk X0 B0_0_1 B0_0_1d (ls' := #[.val (.long bf), .second, .val (.int z1), .val (.int vl), .unset, .unset, .unset, .unset, .unset, .unset, .unset, .unset, .unset, .unset]) (st' := [(.int z1)]) rfl ?_
  refine own_ldc X0 (hw _ (List.mem_of_getElem? (i := 0) rfl)) d0_1 ?_
  refine own_blk X0 B0_3_5 B0_3_5d (ls' := #[.val (.long bf), .second, .val (.int z1), .val (.int vl), .unset, .unset, .unset, .unset, .unset, .unset, .unset, .unset, .unset, .unset]) (st' := [(.int (5 : Int32)), (.int (z1 &&& (2147483647 : Int32)))]) rfl ?_
  refine own_iremS X0 d0_5 (by decide) ?_
  refine own_blk X0 B0_6_8 B0_6_8d (ls' := #[.val (.long bf), .second, .val (.int z1), .val (.int vl), .val (.int (own_irem (z1 &&& (2147483647 : Int32)) (5 : Int32))), .unset, .unset, .unset, .unset, .unset, .unset, .unset, .unset, .unset]) (st' := []) rfl ?_
  generalize eq : (own_irem (z1 &&& (2147483647 : Int32)) (5 : Int32)) = q
  have hq : 0 ≤ q.toInt ∧ q.toInt ≤ 4 := by
    have h1 := own_mask z1 2147483647 31 (by decide) (by decide)
    rw [← eq, own_irem_pos (by omega)]
    show 0 ≤ _ % (5 : Int) ∧ _ % (5 : Int) ≤ 4
    omega
  refine own_newO X0 (hw _ (List.mem_of_getElem? (i := 1) rfl)) (hw _ (List.mem_of_getElem? (i := 2) rfl)) (hw _ (List.mem_of_getElem? (i := 3) rfl)) d0_8 (by decide) (by decide) (fun h1 T1 X1 E1 Q1 D1 => ?_)
  have n_w : n0 ≤ h0.size := X0.2.1
  have F1_bytes : Fld Z h1 h0.size "com/example/vedette/vedette/core/ZoneBytes$Writer" "bytes" "[B" .null := D1 (Or.inl (hw _ (List.mem_of_getElem? (i := 12) rfl))) (ty := (.array .byte)) (by decide)
  have F1_length : Fld Z h1 h0.size "com/example/vedette/vedette/core/ZoneBytes$Writer" "length" "I" (.int (0 : Int32)) := D1 (Or.inl (hw _ (List.mem_of_getElem? (i := 29) rfl))) (ty := .int) (by decide)
  clear D1
  generalize ez_w : h0.size = w at Q1 n_w F1_bytes F1_length ⊢
  show own_G p e below (T1.setTop (mkF m 11 #[.val (.long bf), .second, .val (.int z1), .val (.int vl), .val (.int q), .unset, .unset, .unset, .unset, .unset, .unset, .unset, .unset, .unset] [(.ref w)])) _
  refine own_blk X1 B0_11_12 B0_11_12d (ls' := #[.val (.long bf), .second, .val (.int z1), .val (.int vl), .val (.int q), .unset, .unset, .unset, .unset, .unset, .unset, .unset, .unset, .unset]) (st' := [(.ref w), (.ref w)]) rfl ?_
  refine own_callN X1 rfl (hw _ (List.mem_of_getElem? (i := 4) rfl)) (hw _ (List.mem_of_getElem? (i := 5) rfl)) (hw _ (List.mem_of_getElem? (i := 3) rfl)) (hw _ (List.mem_of_getElem? (i := 6) rfl)) (by decide) (c_init l Z a0 hw w h1 n0 X1.2.1 n_w Q1 F1_bytes F1_length) d0_12 [] [(.ref w)] rfl rfl pd1 rfl rfl (by decide) (Nat.le_of_ble_eq_true rfl) (by decide) (by decide) (fun _ _ q => by obtain ⟨_, _, q2, _⟩ := q; exact q2) (fun v2 h2 T2 X2 q2 => ?_)
  obtain ⟨rfl, b, _, n_b, ne_w_b, Q2, Fb2, Fl2, A2⟩ := q2
  show own_G p e below (T2.setTop (mkF m 15 #[.val (.long bf), .second, .val (.int z1), .val (.int vl), .val (.int q), .unset, .unset, .unset, .unset, .unset, .unset, .unset, .unset, .unset] [(.ref w)])) _
  refine own_blk X2 B0_15_20 B0_15_20d (ls' := #[.val (.long bf), .second, .val (.int z1), .val (.int vl), .val (.int q), .val (.ref w), .unset, .unset, .unset, .unset, .unset, .unset, .unset, .unset]) (st' := [(.long bf), (.ref w)]) rfl ?_
  refine own_callV X2 (hw _ (List.mem_of_getElem? (i := 13) rfl)) (hw _ (List.mem_of_getElem? (i := 14) rfl)) (hw _ (List.mem_of_getElem? (i := 16) rfl)) (hw _ (List.mem_of_getElem? (i := 15) rfl)) (hw _ (List.mem_of_getElem? (i := 3) rfl)) (hw _ (List.mem_of_getElem? (i := 17) rfl)) (by decide) Q2 (c_wl l Z a0 hw w b bf (fun _ => (0 : Int32)) h2 n0 X2.2.1 n_w n_b ne_w_b Q2 Fb2 Fl2 A2) d0_20 [(.long bf)] [] rfl rfl pd3 rfl rfl (by decide) (Nat.le_of_ble_eq_true rfl) (by decide) (by decide) (fun _ _ q => q.2.1) (fun v3 h3 T3 X3 q3 => ?_)
  obtain ⟨rfl, _, Q3, Fb3, Fl3, A3⟩ := q3
  show own_G p e below (T3.setTop (mkF m 23 #[.val (.long bf), .second, .val (.int z1), .val (.int vl), .val (.int q), .val (.ref w), .unset, .unset, .unset, .unset, .unset, .unset, .unset, .unset] [(.ref w)])) _
  have Fl3 : Fld Z h3 w "com/example/vedette/vedette/core/ZoneBytes$Writer" "length" "I" (.int (8 : Int32)) := Fl3
  have A3 : own_I Z h3 b .byte 256 (own_u (own_u (own_u (own_u (own_u (own_u (own_u (own_u (fun _ => (0 : Int32)) 0 (own_i2b (own_iushr ((own_lushr bf (32 : Int32)).toInt32) (24 : Int32)))) 1 (own_i2b (own_iushr ((own_lushr bf (32 : Int32)).toInt32) (16 : Int32)))) 2 (own_i2b (own_iushr ((own_lushr bf (32 : Int32)).toInt32) (8 : Int32)))) 3 (own_i2b (own_iushr ((own_lushr bf (32 : Int32)).toInt32) (0 : Int32)))) 4 (own_i2b (own_iushr (bf.toInt32) (24 : Int32)))) 5 (own_i2b (own_iushr (bf.toInt32) (16 : Int32)))) 6 (own_i2b (own_iushr (bf.toInt32) (8 : Int32)))) 7 (own_i2b (own_iushr (bf.toInt32) (0 : Int32)))) := A3
  generalize eg3 : (own_u (own_u (own_u (own_u (own_u (own_u (own_u (own_u (fun _ => (0 : Int32)) 0 (own_i2b (own_iushr ((own_lushr bf (32 : Int32)).toInt32) (24 : Int32)))) 1 (own_i2b (own_iushr ((own_lushr bf (32 : Int32)).toInt32) (16 : Int32)))) 2 (own_i2b (own_iushr ((own_lushr bf (32 : Int32)).toInt32) (8 : Int32)))) 3 (own_i2b (own_iushr ((own_lushr bf (32 : Int32)).toInt32) (0 : Int32)))) 4 (own_i2b (own_iushr (bf.toInt32) (24 : Int32)))) 5 (own_i2b (own_iushr (bf.toInt32) (16 : Int32)))) 6 (own_i2b (own_iushr (bf.toInt32) (8 : Int32)))) 7 (own_i2b (own_iushr (bf.toInt32) (0 : Int32)))) = g3 at A3
  refine own_blk X3 B0_23_29 B0_23_29d (ls' := #[.val (.long bf), .second, .val (.int z1), .val (.int vl), .val (.int q), .val (.ref w), .unset, .unset, .unset, .unset, .unset, .unset, .unset, .unset]) (st' := [(.int vl), (.int q), (.ref w)]) rfl ?_
  refine own_callV X3 (hw _ (List.mem_of_getElem? (i := 30) rfl)) (hw _ (List.mem_of_getElem? (i := 31) rfl)) (hw _ (List.mem_of_getElem? (i := 33) rfl)) (hw _ (List.mem_of_getElem? (i := 32) rfl)) (hw _ (List.mem_of_getElem? (i := 3) rfl)) (hw _ (List.mem_of_getElem? (i := 34) rfl)) (by decide) Q3 (c_pi l Z a0 hw w b q vl (8 : Int32) g3 h3 n0 X3.2.1 n_w n_b ne_w_b Q3 Fb3 Fl3 A3 hq) d0_29 [(.int q), (.int vl)] [] rfl rfl pd6 rfl rfl (by decide) (Nat.le_of_ble_eq_true rfl) (by decide) (by decide) (fun _ _ q => q.2.1) (fun v4 h4 T4 X4 q4 => ?_)
  obtain ⟨rfl, _, Q4, Fb4, Fl4, A4⟩ := q4
  show own_G p e below (T4.setTop (mkF m 32 #[.val (.long bf), .second, .val (.int z1), .val (.int vl), .val (.int q), .val (.ref w), .unset, .unset, .unset, .unset, .unset, .unset, .unset, .unset] [(.ref w)])) _
  have Fl4 : Fld Z h4 w "com/example/vedette/vedette/core/ZoneBytes$Writer" "length" "I" (.int (8 : Int32)) := Fl4
  have A4 : own_I Z h4 b .byte 256 (own_u (own_u (own_u (own_u g3 (q.toInt + 0) (own_i2b (own_iushr vl (24 : Int32)))) (q.toInt + 1) (own_i2b (own_iushr vl (16 : Int32)))) (q.toInt + 2) (own_i2b (own_iushr vl (8 : Int32)))) (q.toInt + 3) (own_i2b (own_iushr vl (0 : Int32)))) := A4
  generalize eg4 : (own_u (own_u (own_u (own_u g3 (q.toInt + 0) (own_i2b (own_iushr vl (24 : Int32)))) (q.toInt + 1) (own_i2b (own_iushr vl (16 : Int32)))) (q.toInt + 2) (own_i2b (own_iushr vl (8 : Int32)))) (q.toInt + 3) (own_i2b (own_iushr vl (0 : Int32)))) = g4 at A4
  refine own_blk X4 B0_32_36 B0_32_36d (ls' := #[.val (.long bf), .second, .val (.int z1), .val (.int vl), .val (.int q), .val (.ref w), .val (.ref w), .unset, .unset, .unset, .unset, .unset, .unset, .unset]) (st' := [(.ref w)]) rfl ?_
  refine own_callV X4 (hw _ (List.mem_of_getElem? (i := 35) rfl)) (hw _ (List.mem_of_getElem? (i := 36) rfl)) (hw _ (List.mem_of_getElem? (i := 38) rfl)) (hw _ (List.mem_of_getElem? (i := 37) rfl)) (hw _ (List.mem_of_getElem? (i := 3) rfl)) (hw _ (List.mem_of_getElem? (i := 39) rfl)) (by decide) Q4 (c_len l Z a0 hw w (8 : Int32) h4 n0 X4.2.1 Fl4) d0_36 [] [] rfl rfl pd7 rfl rfl (by decide) (Nat.le_of_ble_eq_true rfl) (by decide) (by decide) (fun _ _ q => by rw [q.2]; exact X4.2.1) (fun v5 h5 T5 X5 q5 => ?_)
  obtain ⟨rfl, e5⟩ := q5
  rw [e5] at X5
  show own_G p e below (T5.setTop (mkF m 39 #[.val (.long bf), .second, .val (.int z1), .val (.int vl), .val (.int q), .val (.ref w), .val (.ref w), .unset, .unset, .unset, .unset, .unset, .unset, .unset] [(.int (8 : Int32))])) _
  refine own_blk X5 B0_39_43 B0_39_43d (ls' := #[.val (.long bf), .second, .val (.int z1), .val (.int vl), .val (.int q), .val (.ref w), .val (.ref w), .val (.int (8 : Int32)), .unset, .unset, .unset, .unset, .unset, .unset]) (st' := [(.ref w)]) rfl ?_
  have hg : ∀ j, (g4 j).toInt8.toInt32 = g4 j := by rw [← eg4, ← eg3]; exact (own_u_fix (own_u_fix (own_u_fix (own_u_fix (own_u_fix (own_u_fix (own_u_fix (own_u_fix (own_u_fix (own_u_fix (own_u_fix (own_u_fix (fun _ => rfl) (own_i2b_fix _)) (own_i2b_fix _)) (own_i2b_fix _)) (own_i2b_fix _)) (own_i2b_fix _)) (own_i2b_fix _)) (own_i2b_fix _)) (own_i2b_fix _)) (own_i2b_fix _)) (own_i2b_fix _)) (own_i2b_fix _)) (own_i2b_fix _))
  refine own_callV X5 (hw _ (List.mem_of_getElem? (i := 40) rfl)) (hw _ (List.mem_of_getElem? (i := 41) rfl)) (hw _ (List.mem_of_getElem? (i := 43) rfl)) (hw _ (List.mem_of_getElem? (i := 42) rfl)) (hw _ (List.mem_of_getElem? (i := 3) rfl)) (hw _ (List.mem_of_getElem? (i := 44) rfl)) (by decide) Q4 (c_by l Z a0 hw w b g4 h4 n0 X5.2.1 Fb4 Fl4 A4 hg) d0_43 [] [] rfl rfl pd8 rfl rfl (by decide) (Nat.le_of_ble_eq_true rfl) (by decide) (by decide) (fun _ _ q => by obtain ⟨_, _, q2, _⟩ := q; exact q2) (fun v6 h6 T6 X6 q6 => ?_)
  obtain ⟨a, rfl, _, A6⟩ := q6
  show own_G p e below (T6.setTop (mkF m 46 #[.val (.long bf), .second, .val (.int z1), .val (.int vl), .val (.int q), .val (.ref w), .val (.ref w), .val (.int (8 : Int32)), .unset, .unset, .unset, .unset, .unset, .unset] [(.ref a)])) _
  refine own_blk X6 B0_46_52 B0_46_52d (ls' := #[.val (.long bf), .second, .val (.int z1), .val (.int vl), .val (.int q), .val (.ref w), .val (.ref w), .val (.int (8 : Int32)), .val (.ref a), .unset, .unset, .unset, .unset, .unset]) (st' := [(.ref w), (.ref w)]) rfl ?_
  refine own_acmpSame X6 d0_52 ?_
  refine own_blk X6 B0_55_59 B0_55_59d (ls' := #[.val (.long bf), .second, .val (.int z1), .val (.int vl), .val (.int q), .val (.ref w), .val (.ref w), .val (.int (8 : Int32)), .val (.ref a), .unset, .unset, .unset, .unset, .unset]) (st' := [(.int (8 : Int32)), (.int (8 : Int32))]) rfl ?_
  refine own_icmp X6 d0_59 (pc' := 70) (by decide) (fun (c59 : ¬ (8 : Int) = 8) => by exfalso; omega) (fun c59 => ?_)
  have c59 : ¬ (¬ (8 : Int) = 8) := c59
  refine own_blk X6 B0_62_64 B0_62_64d (ls' := #[.val (.long bf), .second, .val (.int z1), .val (.int vl), .val (.int q), .val (.ref w), .val (.ref w), .val (.int (8 : Int32)), .val (.ref a), .unset, .unset, .unset, .unset, .unset]) (st' := [(.ref a)]) rfl ?_
  refine own_len X6 A6 d0_64 ?_
  show own_G p e below (T6.setTop (mkF m 65 #[.val (.long bf), .second, .val (.int z1), .val (.int vl), .val (.int q), .val (.ref w), .val (.ref w), .val (.int (8 : Int32)), .val (.ref a), .unset, .unset, .unset, .unset, .unset] [(.int (8 : Int32))])) _
  refine own_blk X6 B0_65_67 B0_65_67d (ls' := #[.val (.long bf), .second, .val (.int z1), .val (.int vl), .val (.int q), .val (.ref w), .val (.ref w), .val (.int (8 : Int32)), .val (.ref a), .unset, .unset, .unset, .unset, .unset]) (st' := [(.int (8 : Int32)), (.int (8 : Int32))]) rfl ?_
  refine own_icmp X6 d0_67 (pc' := 72) (by decide) (fun c67 => ?_) (fun (c67 : ¬ ((8 : Int) = 8)) => by exfalso; omega)
  have c67 : (8 : Int) = 8 := c67
  refine own_blk X6 B0_72_82 B0_72_82d (ls' := #[.val (.long bf), .second, .val (.int z1), .val (.int vl), .val (.int q), .val (.ref w), .val (.ref w), .val (.int (8 : Int32)), .val (.ref a), .val (.int ((32 : Int32) - ((8 : Int32) * q))), .unset, .unset, .unset, .unset]) (st' := []) rfl ?_
  generalize esh : ((32 : Int32) - ((8 : Int32) * q)) = sh
  have hsh : sh.toInt = 32 - 8 * q.toInt := by
    have h1 : ((8 : Int32) * q).toInt = 8 * q.toInt := Jvm.Kit.i32_mul (by show _ ≤ (8 : Int) * _; omega) (by show (8 : Int) * _ < _; omega)
    rw [← esh, Jvm.Kit.i32_sub (by rw [h1]; show _ ≤ (32 : Int) - _; omega) (by rw [h1]; show (32 : Int) - _ < _; omega), h1]; rfl
  refine own_ldc2 X6 (hw _ (List.mem_of_getElem? (i := 57) rfl)) d0_82 ?_
  refine own_blk X6 B0_85_93 B0_85_93d (ls' := #[.val (.long bf), .second, .val (.int z1), .val (.int vl), .val (.int q), .val (.ref w), .val (.ref w), .val (.int (8 : Int32)), .val (.ref a), .val (.int sh), .val (.long (own_lshl (4294967295 : Int64) sh)), .second, .unset, .unset]) (st' := [(.long (own_lshl (4294967295 : Int64) sh)), (.long bf)]) rfl ?_
  refine own_ldc2 X6 (hw _ (List.mem_of_getElem? (i := 58) rfl)) d0_93 ?_
  refine own_blk X6 B0_96_100 B0_96_100d (ls' := #[.val (.long bf), .second, .val (.int z1), .val (.int vl), .val (.int q), .val (.ref w), .val (.ref w), .val (.int (8 : Int32)), .val (.ref a), .val (.int sh), .val (.long (own_lshl (4294967295 : Int64) sh)), .second, .unset, .unset]) (st' := [(.long (vl.toInt64)), (.long (bf &&& ((own_lshl (4294967295 : Int64) sh) ^^^ (-1 : Int64))))]) rfl ?_
  refine own_ldc2 X6 (hw _ (List.mem_of_getElem? (i := 57) rfl)) d0_100 ?_
  refine own_blk X6 B0_103_110 B0_103_110d (ls' := #[.val (.long bf), .second, .val (.int z1), .val (.int vl), .val (.int q), .val (.ref w), .val (.ref w), .val (.int (8 : Int32)), .val (.ref a), .val (.int sh), .val (.long (own_lshl (4294967295 : Int64) sh)), .second, .val (.long ((bf &&& ((own_lshl (4294967295 : Int64) sh) ^^^ (-1 : Int64))) ||| (own_lshl ((vl.toInt64) &&& (4294967295 : Int64)) sh))), .second]) (st' := []) rfl ?_
  have ewt : ((bf &&& ((own_lshl (4294967295 : Int64) sh) ^^^ (-1 : Int64))) ||| (own_lshl ((vl.toInt64) &&& (4294967295 : Int64)) sh)) = own_wt bf vl sh := rfl
  rw [ewt]
  have s0 : g4 0 = own_i2b ((own_lushr (own_wt bf vl sh) (56 : Int32)).toInt32) := by rw [← eg4, ← eg3]; exact own_s0 hq hsh
  have s1 : g4 1 = own_i2b ((own_lushr (own_wt bf vl sh) (48 : Int32)).toInt32) := by rw [← eg4, ← eg3]; exact own_s1 hq hsh
  have s2 : g4 2 = own_i2b ((own_lushr (own_wt bf vl sh) (40 : Int32)).toInt32) := by rw [← eg4, ← eg3]; exact own_s2 hq hsh
  have s3 : g4 3 = own_i2b ((own_lushr (own_wt bf vl sh) (32 : Int32)).toInt32) := by rw [← eg4, ← eg3]; exact own_s3 hq hsh
  have s4 : g4 4 = own_i2b ((own_lushr (own_wt bf vl sh) (24 : Int32)).toInt32) := by rw [← eg4, ← eg3]; exact own_s4 hq hsh
  have s5 : g4 5 = own_i2b ((own_lushr (own_wt bf vl sh) (16 : Int32)).toInt32) := by rw [← eg4, ← eg3]; exact own_s5 hq hsh
  have s6 : g4 6 = own_i2b ((own_lushr (own_wt bf vl sh) (8 : Int32)).toInt32) := by rw [← eg4, ← eg3]; exact own_s6 hq hsh
  have s7 : g4 7 = own_i2b ((own_lushr (own_wt bf vl sh) (0 : Int32)).toInt32) := by rw [← eg4, ← eg3]; exact own_s7 hq hsh
  refine own_blk X6 B0_110_115 B0_110_115d (ls' := #[.val (.long bf), .second, .val (.int z1), .val (.int vl), .val (.int q), .val (.ref w), .val (.ref w), .val (.int (8 : Int32)), .val (.ref a), .val (.int sh), .val (.long (own_lshl (4294967295 : Int64) sh)), .second, .val (.long (own_wt bf vl sh)), .second]) (st' := [(.long (own_wt bf vl sh)), (.int (0 : Int32)), (.ref a)]) rfl ?_
  refine own_callP X6 (hw _ (List.mem_of_getElem? (i := 59) rfl)) (hw _ (List.mem_of_getElem? (i := 60) rfl)) (hw _ (List.mem_of_getElem? (i := 61) rfl)) (hw _ (List.mem_of_getElem? (i := 62) rfl)) (by decide) (c_same0 l Z a0 hw a (own_wt bf vl sh) g4 h6 n0 X6.2.1 A6 s0) d0_115 [(.ref a), (.int (0 : Int32)), (.long (own_wt bf vl sh))] [] rfl rfl pd11 rfl rfl (by decide) (Nat.le_of_ble_eq_true rfl) (by decide) (by decide) (fun T7 X7 => ?_)
  show own_G p e below (T7.setTop (mkF m 118 #[.val (.long bf), .second, .val (.int z1), .val (.int vl), .val (.int q), .val (.ref w), .val (.ref w), .val (.int (8 : Int32)), .val (.ref a), .val (.int sh), .val (.long (own_lshl (4294967295 : Int64) sh)), .second, .val (.long (own_wt bf vl sh)), .second] [(.int (1 : Int32))])) _
  refine own_if X7 d0_118 (pc' := 204) (by decide) (fun (c118 : (1 : Int) = 0) => by exfalso; omega) (fun c118 => ?_)
  have c118 : ¬ ((1 : Int) = 0) := c118
  refine own_blk X7 B0_121_126 B0_121_126d (ls' := #[.val (.long bf), .second, .val (.int z1), .val (.int vl), .val (.int q), .val (.ref w), .val (.ref w), .val (.int (8 : Int32)), .val (.ref a), .val (.int sh), .val (.long (own_lshl (4294967295 : Int64) sh)), .second, .val (.long (own_wt bf vl sh)), .second]) (st' := [(.long (own_wt bf vl sh)), (.int (1 : Int32)), (.ref a)]) rfl ?_
  refine own_callP X7 (hw _ (List.mem_of_getElem? (i := 59) rfl)) (hw _ (List.mem_of_getElem? (i := 60) rfl)) (hw _ (List.mem_of_getElem? (i := 61) rfl)) (hw _ (List.mem_of_getElem? (i := 62) rfl)) (by decide) (c_same1 l Z a0 hw a (own_wt bf vl sh) g4 h6 n0 X7.2.1 A6 s1) d0_126 [(.ref a), (.int (1 : Int32)), (.long (own_wt bf vl sh))] [] rfl rfl pd11 rfl rfl (by decide) (Nat.le_of_ble_eq_true rfl) (by decide) (by decide) (fun T8 X8 => ?_)
  show own_G p e below (T8.setTop (mkF m 129 #[.val (.long bf), .second, .val (.int z1), .val (.int vl), .val (.int q), .val (.ref w), .val (.ref w), .val (.int (8 : Int32)), .val (.ref a), .val (.int sh), .val (.long (own_lshl (4294967295 : Int64) sh)), .second, .val (.long (own_wt bf vl sh)), .second] [(.int (1 : Int32))])) _
  refine own_if X8 d0_129 (pc' := 204) (by decide) (fun (c129 : (1 : Int) = 0) => by exfalso; omega) (fun c129 => ?_)
  have c129 : ¬ ((1 : Int) = 0) := c129
  refine own_blk X8 B0_132_137 B0_132_137d (ls' := #[.val (.long bf), .second, .val (.int z1), .val (.int vl), .val (.int q), .val (.ref w), .val (.ref w), .val (.int (8 : Int32)), .val (.ref a), .val (.int sh), .val (.long (own_lshl (4294967295 : Int64) sh)), .second, .val (.long (own_wt bf vl sh)), .second]) (st' := [(.long (own_wt bf vl sh)), (.int (2 : Int32)), (.ref a)]) rfl ?_
  refine own_callP X8 (hw _ (List.mem_of_getElem? (i := 59) rfl)) (hw _ (List.mem_of_getElem? (i := 60) rfl)) (hw _ (List.mem_of_getElem? (i := 61) rfl)) (hw _ (List.mem_of_getElem? (i := 62) rfl)) (by decide) (c_same2 l Z a0 hw a (own_wt bf vl sh) g4 h6 n0 X8.2.1 A6 s2) d0_137 [(.ref a), (.int (2 : Int32)), (.long (own_wt bf vl sh))] [] rfl rfl pd11 rfl rfl (by decide) (Nat.le_of_ble_eq_true rfl) (by decide) (by decide) (fun T9 X9 => ?_)
  show own_G p e below (T9.setTop (mkF m 140 #[.val (.long bf), .second, .val (.int z1), .val (.int vl), .val (.int q), .val (.ref w), .val (.ref w), .val (.int (8 : Int32)), .val (.ref a), .val (.int sh), .val (.long (own_lshl (4294967295 : Int64) sh)), .second, .val (.long (own_wt bf vl sh)), .second] [(.int (1 : Int32))])) _
  refine own_if X9 d0_140 (pc' := 204) (by decide) (fun (c140 : (1 : Int) = 0) => by exfalso; omega) (fun c140 => ?_)
  have c140 : ¬ ((1 : Int) = 0) := c140
  refine own_blk X9 B0_143_148 B0_143_148d (ls' := #[.val (.long bf), .second, .val (.int z1), .val (.int vl), .val (.int q), .val (.ref w), .val (.ref w), .val (.int (8 : Int32)), .val (.ref a), .val (.int sh), .val (.long (own_lshl (4294967295 : Int64) sh)), .second, .val (.long (own_wt bf vl sh)), .second]) (st' := [(.long (own_wt bf vl sh)), (.int (3 : Int32)), (.ref a)]) rfl ?_
  refine own_callP X9 (hw _ (List.mem_of_getElem? (i := 59) rfl)) (hw _ (List.mem_of_getElem? (i := 60) rfl)) (hw _ (List.mem_of_getElem? (i := 61) rfl)) (hw _ (List.mem_of_getElem? (i := 62) rfl)) (by decide) (c_same3 l Z a0 hw a (own_wt bf vl sh) g4 h6 n0 X9.2.1 A6 s3) d0_148 [(.ref a), (.int (3 : Int32)), (.long (own_wt bf vl sh))] [] rfl rfl pd11 rfl rfl (by decide) (Nat.le_of_ble_eq_true rfl) (by decide) (by decide) (fun T10 X10 => ?_)
  show own_G p e below (T10.setTop (mkF m 151 #[.val (.long bf), .second, .val (.int z1), .val (.int vl), .val (.int q), .val (.ref w), .val (.ref w), .val (.int (8 : Int32)), .val (.ref a), .val (.int sh), .val (.long (own_lshl (4294967295 : Int64) sh)), .second, .val (.long (own_wt bf vl sh)), .second] [(.int (1 : Int32))])) _
  refine own_if X10 d0_151 (pc' := 204) (by decide) (fun (c151 : (1 : Int) = 0) => by exfalso; omega) (fun c151 => ?_)
  have c151 : ¬ ((1 : Int) = 0) := c151
  refine own_blk X10 B0_154_159 B0_154_159d (ls' := #[.val (.long bf), .second, .val (.int z1), .val (.int vl), .val (.int q), .val (.ref w), .val (.ref w), .val (.int (8 : Int32)), .val (.ref a), .val (.int sh), .val (.long (own_lshl (4294967295 : Int64) sh)), .second, .val (.long (own_wt bf vl sh)), .second]) (st' := [(.long (own_wt bf vl sh)), (.int (4 : Int32)), (.ref a)]) rfl ?_
  refine own_callP X10 (hw _ (List.mem_of_getElem? (i := 59) rfl)) (hw _ (List.mem_of_getElem? (i := 60) rfl)) (hw _ (List.mem_of_getElem? (i := 61) rfl)) (hw _ (List.mem_of_getElem? (i := 62) rfl)) (by decide) (c_same4 l Z a0 hw a (own_wt bf vl sh) g4 h6 n0 X10.2.1 A6 s4) d0_159 [(.ref a), (.int (4 : Int32)), (.long (own_wt bf vl sh))] [] rfl rfl pd11 rfl rfl (by decide) (Nat.le_of_ble_eq_true rfl) (by decide) (by decide) (fun T11 X11 => ?_)
  show own_G p e below (T11.setTop (mkF m 162 #[.val (.long bf), .second, .val (.int z1), .val (.int vl), .val (.int q), .val (.ref w), .val (.ref w), .val (.int (8 : Int32)), .val (.ref a), .val (.int sh), .val (.long (own_lshl (4294967295 : Int64) sh)), .second, .val (.long (own_wt bf vl sh)), .second] [(.int (1 : Int32))])) _
  refine own_if X11 d0_162 (pc' := 204) (by decide) (fun (c162 : (1 : Int) = 0) => by exfalso; omega) (fun c162 => ?_)
  have c162 : ¬ ((1 : Int) = 0) := c162
  refine own_blk X11 B0_165_170 B0_165_170d (ls' := #[.val (.long bf), .second, .val (.int z1), .val (.int vl), .val (.int q), .val (.ref w), .val (.ref w), .val (.int (8 : Int32)), .val (.ref a), .val (.int sh), .val (.long (own_lshl (4294967295 : Int64) sh)), .second, .val (.long (own_wt bf vl sh)), .second]) (st' := [(.long (own_wt bf vl sh)), (.int (5 : Int32)), (.ref a)]) rfl ?_
  refine own_callP X11 (hw _ (List.mem_of_getElem? (i := 59) rfl)) (hw _ (List.mem_of_getElem? (i := 60) rfl)) (hw _ (List.mem_of_getElem? (i := 61) rfl)) (hw _ (List.mem_of_getElem? (i := 62) rfl)) (by decide) (c_same5 l Z a0 hw a (own_wt bf vl sh) g4 h6 n0 X11.2.1 A6 s5) d0_170 [(.ref a), (.int (5 : Int32)), (.long (own_wt bf vl sh))] [] rfl rfl pd11 rfl rfl (by decide) (Nat.le_of_ble_eq_true rfl) (by decide) (by decide) (fun T12 X12 => ?_)
  show own_G p e below (T12.setTop (mkF m 173 #[.val (.long bf), .second, .val (.int z1), .val (.int vl), .val (.int q), .val (.ref w), .val (.ref w), .val (.int (8 : Int32)), .val (.ref a), .val (.int sh), .val (.long (own_lshl (4294967295 : Int64) sh)), .second, .val (.long (own_wt bf vl sh)), .second] [(.int (1 : Int32))])) _
  refine own_if X12 d0_173 (pc' := 204) (by decide) (fun (c173 : (1 : Int) = 0) => by exfalso; omega) (fun c173 => ?_)
  have c173 : ¬ ((1 : Int) = 0) := c173
  refine own_blk X12 B0_176_182 B0_176_182d (ls' := #[.val (.long bf), .second, .val (.int z1), .val (.int vl), .val (.int q), .val (.ref w), .val (.ref w), .val (.int (8 : Int32)), .val (.ref a), .val (.int sh), .val (.long (own_lshl (4294967295 : Int64) sh)), .second, .val (.long (own_wt bf vl sh)), .second]) (st' := [(.long (own_wt bf vl sh)), (.int (6 : Int32)), (.ref a)]) rfl ?_
  refine own_callP X12 (hw _ (List.mem_of_getElem? (i := 59) rfl)) (hw _ (List.mem_of_getElem? (i := 60) rfl)) (hw _ (List.mem_of_getElem? (i := 61) rfl)) (hw _ (List.mem_of_getElem? (i := 62) rfl)) (by decide) (c_same6 l Z a0 hw a (own_wt bf vl sh) g4 h6 n0 X12.2.1 A6 s6) d0_182 [(.ref a), (.int (6 : Int32)), (.long (own_wt bf vl sh))] [] rfl rfl pd11 rfl rfl (by decide) (Nat.le_of_ble_eq_true rfl) (by decide) (by decide) (fun T13 X13 => ?_)
  show own_G p e below (T13.setTop (mkF m 185 #[.val (.long bf), .second, .val (.int z1), .val (.int vl), .val (.int q), .val (.ref w), .val (.ref w), .val (.int (8 : Int32)), .val (.ref a), .val (.int sh), .val (.long (own_lshl (4294967295 : Int64) sh)), .second, .val (.long (own_wt bf vl sh)), .second] [(.int (1 : Int32))])) _
  refine own_if X13 d0_185 (pc' := 204) (by decide) (fun (c185 : (1 : Int) = 0) => by exfalso; omega) (fun c185 => ?_)
  have c185 : ¬ ((1 : Int) = 0) := c185
  refine own_blk X13 B0_188_194 B0_188_194d (ls' := #[.val (.long bf), .second, .val (.int z1), .val (.int vl), .val (.int q), .val (.ref w), .val (.ref w), .val (.int (8 : Int32)), .val (.ref a), .val (.int sh), .val (.long (own_lshl (4294967295 : Int64) sh)), .second, .val (.long (own_wt bf vl sh)), .second]) (st' := [(.long (own_wt bf vl sh)), (.int (7 : Int32)), (.ref a)]) rfl ?_
  refine own_callP X13 (hw _ (List.mem_of_getElem? (i := 59) rfl)) (hw _ (List.mem_of_getElem? (i := 60) rfl)) (hw _ (List.mem_of_getElem? (i := 61) rfl)) (hw _ (List.mem_of_getElem? (i := 62) rfl)) (by decide) (c_same7 l Z a0 hw a (own_wt bf vl sh) g4 h6 n0 X13.2.1 A6 s7) d0_194 [(.ref a), (.int (7 : Int32)), (.long (own_wt bf vl sh))] [] rfl rfl pd11 rfl rfl (by decide) (Nat.le_of_ble_eq_true rfl) (by decide) (by decide) (fun T14 X14 => ?_)
  show own_G p e below (T14.setTop (mkF m 197 #[.val (.long bf), .second, .val (.int z1), .val (.int vl), .val (.int q), .val (.ref w), .val (.ref w), .val (.int (8 : Int32)), .val (.ref a), .val (.int sh), .val (.long (own_lshl (4294967295 : Int64) sh)), .second, .val (.long (own_wt bf vl sh)), .second] [(.int (1 : Int32))])) _
  refine own_if X14 d0_197 (pc' := 204) (by decide) (fun (c197 : (1 : Int) = 0) => by exfalso; omega) (fun c197 => ?_)
  have c197 : ¬ ((1 : Int) = 0) := c197
  refine own_blk X14 B0_200_201 B0_200_201d (ls' := #[.val (.long bf), .second, .val (.int z1), .val (.int vl), .val (.int q), .val (.ref w), .val (.ref w), .val (.int (8 : Int32)), .val (.ref a), .val (.int sh), .val (.long (own_lshl (4294967295 : Int64) sh)), .second, .val (.long (own_wt bf vl sh)), .second]) (st' := [(.int (1 : Int32))]) rfl ?_
  refine own_goto X14 d0_201 (pc' := 205) (by decide) ?_
  exact own_retN X14 (by simp) d0_205 (v' := (1 : Int32)) (rfl) (by decide) (by decide) (rfl)
set_option maxRecDepth 65536 in
set_option maxHeartbeats 40000000 in
theorem comes_1 {Post : Tables → Env → Array Value → State → Outcome → State → Prop} (hpost : ∀ tb e args s v u, (limb_1_1.after args s (.returned v) u = true ∧ limb_1_2.after args s (.returned v) u = true ∧ True) → FrameEnd s (.returned v) u (Jvm.fieldLocs frame_1_writes args s ++ Jvm.arrayLocs frame_1_arrays args s ++ Jvm.staticLocs frame_1_statics s) 16 640 → Post tb e args s (.returned v) u) :
    ArmFor flags0 classFile x code maxLocals ret World_1 tables_1 room_1 Calls_1 rest_1 Pre_1 Post := by
  intro l hfl _ _ p e ha hc hk s m args below hf hA hF happ hP
  obtain ⟨hcalls, hrest, hpre⟩ := hP
  obtain ⟨-, -, -, hnamed, -, -, -, hat⟩ := (Spec.applies_iff hf).mp happ
  obtain ⟨hg, hn⟩ := and_e (Cond.before_iff.mp (show (Jvm.Cond.and given_1 narrow_1).before args s = true from hpre))
  obtain ⟨gc, g0⟩ := and_e hg
  obtain ⟨q0, g1⟩ := and_e g0
  obtain ⟨q1, g2⟩ := and_e g1
  obtain ⟨w0, w1, w2, rfl⟩ : ∃ w0 w1 w2 : Value, args = #[w0, w1, w2] := by
    have hs : args.size = 3 := by simpa [Cond.value, given_1] using gc
    obtain ⟨L⟩ := args
    match L, hs with
    | [w0, w1, w2], _ => exact ⟨w0, w1, w2, rfl⟩
  have hw := fun d (hd : d ∈ tables_1) => atoms_spec (ws := Jvm.Cond.code x code maxLocals ret :: tables_1) hat d (List.mem_cons_of_mem _ hd)
  obtain ⟨i0, ei0⟩ := isL_v q0
  obtain rfl : w0 = (.long i0) := Option.some.inj ei0
  obtain ⟨i1, ei1⟩ := is_v q1
  obtain rfl : w1 = (.int i1) := Option.some.inj ei1
  obtain ⟨i2, ei2⟩ := is_v g2
  obtain rfl : w2 = (.int i2) := Option.some.inj ei2
  obtain ⟨n, o, h1, h2, h3, _, L, rfl, ⟨N, rfl⟩, hq⟩ := c_law l s _ hw i0 i1 i2 s.heap s.heap.size (Nat.le_refl _) tables_1 p e ha hc hk s m _ below hf ((Spec.applies_iff_loose hf).mp happ).1 ⟨rfl, State.Warmed39.refl s, rfl⟩ trivial
  refine ⟨n, _, h1, h2, h3, hpost _ _ _ _ _ _ ⟨Cond.after_iff.mpr rfl, Cond.after_iff.mpr (eq_i res_at (Term.int_eval (1)) rfl), trivial⟩ ⟨hq.1, hq.2.1, (hq.2.2.sift fun y hy => Or.inr (N y hy)).mono (by decide) (by decide)⟩⟩
theorem main_1_1 : Claimed_1_1 := comes_1 fun _ _ _ _ _ _ h hF => ⟨h.1, hF⟩
theorem main_1_2 : Claimed_1_2 := comes_1 fun _ _ _ _ _ _ h hF => ⟨h.2.1, hF⟩
end Jvm.Pilot.@@N@@
namespace Jvm.Pilot.@@N@@
open Jvm Jvm.ClassFile Sem Op Lib Jvm.Free Jvm.Stand Jvm.Pilot.@@N@@.Jvm.D
/-! MADE BY PROGRAM (witnessworld.py) out of the Statement's table words and the real class files: 12 classes; the members and pool entries that the words name. The judged class is class 1, her method 1. -/
namespace start1
open Jvm.ClassFile
def u (s : String) : CpInfo := .utf8 (stringToUtf16 s)
/-- a pool by its gaps: so many unusable entries, then the entry; so many at the end -/
def gap : Nat → List CpInfo → List CpInfo
  | 0, r => r
  | n + 1, r => .unusable :: gap n r
def poolList (es : List (Nat × CpInfo)) (last : Nat) : List CpInfo := es.foldr (fun e r => gap e.1 (e.2 :: r)) (gap last [])
def pool (es : List (Nat × CpInfo)) (last : Nat) : Array CpInfo := ⟨poolList es last⟩
def fileOf (pool : Array CpInfo) (this : Nat) (attrs : Array Attribute := #[]) (ms : Array MethodInfo := #[]) (fl : Nat := 33) (sup : Nat := 0) (ifs : Array Nat := #[]) (fds : Array FieldInfo := #[]) : ClassFile where
  minorVersion := 0
  majorVersion := 65
  constantPool := pool
  accessFlags := fl
  thisClass := this
  superClass := sup
  interfaces := ifs
  fields := fds
  methods := ms
  attributes := attrs
def plain (name : String) (sup : Option ClassId) : Class where
  name := name
  kind := .ordinary
  loader := none
  accessFlags := 33
  super := sup
  interfaces := #[]
  cf := none
  fields := #[]
  methods := #[]
  instanceTypes := #[]
  staticTypes := #[]
  resolved := #[]
  callSites := []
  init := .initialized
  statics := none
  mirror := none

def pool0 : Array CpInfo := pool [(5, u "<init>"), (0, u "()V"), (1, .class_ 10), (1, u "java/lang/Object")] 113

def k0c0 : Code := { maxStack := 0, maxLocals := 1, code := object_method_1_code, exceptionTable := #[], attributes := #[] }
def k0m0 : Method := { name := "<init>", desc := "()V", sig := { parameters := [], returnType := none }, accessFlags := 1, code := some k0c0 }
/-- java/lang/Object -/
def k0 : Class := { plain "java/lang/Object" none with
  accessFlags := 33
  interfaces := #[]
  cf := some (fileOf pool0 8 #[] #[{ accessFlags := 1, nameIndex := 5, descriptorIndex := 6, attributes := #[] }] 33 0 #[] #[])
  fields := #[]
  methods := #[k0m0]
  instanceTypes := #[]
  staticTypes := #[]
  resolved := Array.replicate 124 none
  statics := none }

def pool1 : Array CpInfo := pool [(2, .class_ 4), (0, .nameAndType 5 6), (0, u "java/lang/Object"), (0, u "<init>"), (0, u "()V"), (0, .integer 2147483647), (0, .class_ 9), (0, u "com/example/vedette/vedette/core/ZoneBytes$Writer"), (0, .methodref 8 3), (0, .methodref 8 12), (0, .nameAndType 13 14), (0, u "writeLong"), (0, u "(J)Lcom/example/vedette/vedette/core/ZoneBytes$Writer;"), (0, .methodref 8 16), (0, .nameAndType 17 18), (0, u "putInt"), (0, u "(II)Lcom/example/vedette/vedette/core/ZoneBytes$Writer;"), (0, .methodref 8 20), (0, .nameAndType 21 22), (0, u "length"), (0, u "()I"), (0, .methodref 8 24), (0, .nameAndType 25 26), (0, u "bytes"), (0, u "()[B"), (0, .long 4294967295), (1, .long 18446744073709551615), (1, .methodref 32 33), (0, .class_ 34), (0, .nameAndType 35 36), (0, u "com/example/vedette/vedette/core/WriterPutIntPinLaw"), (0, u "same"), (0, u "([BIJ)Z"), (2, u "law"), (0, u "(JII)Z")] 9

def k1m0 : Method := { name := "<init>", desc := "()V", sig := { parameters := [], returnType := none }, accessFlags := 1, code := none }
def k1c1 : Code := { maxStack := 6, maxLocals := 14, code := code, exceptionTable := #[], attributes := #[] }
def k1m1 : Method := { name := "law", desc := "(JII)Z", sig := { parameters := [.long, .int, .int], returnType := some .boolean }, accessFlags := 9, code := some k1c1 }
def k1c2 : Code := { maxStack := 6, maxLocals := 4, code := method_3_code, exceptionTable := #[], attributes := #[] }
def k1m2 : Method := { name := "same", desc := "([BIJ)Z", sig := { parameters := [(.array .byte), .int, .long], returnType := some .boolean }, accessFlags := 10, code := some k1c2 }
/-- com/example/vedette/vedette/core/WriterPutIntPinLaw -/
def k1 : Class := { plain "com/example/vedette/vedette/core/WriterPutIntPinLaw" (some 0) with
  accessFlags := 49
  interfaces := #[]
  cf := some (fileOf pool1 32 #[] #[{ accessFlags := 1, nameIndex := 5, descriptorIndex := 6, attributes := #[] }, { accessFlags := 9, nameIndex := 39, descriptorIndex := 40, attributes := #[] }, { accessFlags := 10, nameIndex := 35, descriptorIndex := 36, attributes := #[] }] 49 2 #[] #[])
  fields := #[]
  methods := #[k1m0, k1m1, k1m2]
  instanceTypes := #[]
  staticTypes := #[]
  resolved := Array.replicate 50 none
  statics := none }

def pool2 : Array CpInfo := pool [(1, .class_ 2), (0, u "com/example/vedette/vedette/core/ZoneBytes"), (0, .methodref 4 5), (0, .class_ 6), (0, .nameAndType 7 8), (0, u "java/lang/Object"), (0, u "<init>"), (0, u "()V"), (0, .fieldref 10 11), (0, .class_ 12), (0, .nameAndType 13 14), (0, u "com/example/vedette/vedette/core/ZoneBytes$Writer"), (0, u "bytes"), (0, u "[B"), (0, .fieldref 10 16), (0, .nameAndType 17 18), (0, u "length"), (0, u "I"), (0, .methodref 20 21), (0, .class_ 22), (0, .nameAndType 23 24), (0, u "java/util/Arrays"), (0, u "copyOf"), (0, u "([BI)[B"), (4, .methodref 10 30), (0, .nameAndType 31 32), (0, u "writeByte"), (0, u "(I)Lcom/example/vedette/vedette/core/ZoneBytes$Writer;"), (0, .methodref 10 34), (0, .nameAndType 35 32), (0, u "writeInt"), (4, u "()I"), (58, u "writeLong"), (0, u "(J)Lcom/example/vedette/vedette/core/ZoneBytes$Writer;"), (2, u "putInt"), (0, u "(II)Lcom/example/vedette/vedette/core/ZoneBytes$Writer;"), (0, u "()[B")] 5

def k2c0 : Code := { maxStack := 2, maxLocals := 1, code := prog_61_method_1_code, exceptionTable := #[], attributes := #[] }
def k2m0 : Method := { name := "<init>", desc := "()V", sig := { parameters := [], returnType := none }, accessFlags := 0, code := some k2c0 }
def k2c1 : Code := { maxStack := 5, maxLocals := 2, code := prog_61_method_2_code, exceptionTable := #[], attributes := #[] }
def k2m1 : Method := { name := "writeByte", desc := "(I)Lcom/example/vedette/vedette/core/ZoneBytes$Writer;", sig := { parameters := [.int], returnType := some (.object "com/example/vedette/vedette/core/ZoneBytes$Writer") }, accessFlags := 0, code := some k2c1 }
def k2c2 : Code := { maxStack := 3, maxLocals := 3, code := prog_61_method_3_code, exceptionTable := #[], attributes := #[] }
def k2m2 : Method := { name := "writeInt", desc := "(I)Lcom/example/vedette/vedette/core/ZoneBytes$Writer;", sig := { parameters := [.int], returnType := some (.object "com/example/vedette/vedette/core/ZoneBytes$Writer") }, accessFlags := 0, code := some k2c2 }
def k2c3 : Code := { maxStack := 4, maxLocals := 3, code := prog_61_method_4_code, exceptionTable := #[], attributes := #[] }
def k2m3 : Method := { name := "writeLong", desc := "(J)Lcom/example/vedette/vedette/core/ZoneBytes$Writer;", sig := { parameters := [.long], returnType := some (.object "com/example/vedette/vedette/core/ZoneBytes$Writer") }, accessFlags := 0, code := some k2c3 }
def k2c4 : Code := { maxStack := 7, maxLocals := 4, code := prog_61_method_8_code, exceptionTable := #[], attributes := #[] }
def k2m4 : Method := { name := "putInt", desc := "(II)Lcom/example/vedette/vedette/core/ZoneBytes$Writer;", sig := { parameters := [.int, .int], returnType := some (.object "com/example/vedette/vedette/core/ZoneBytes$Writer") }, accessFlags := 0, code := some k2c4 }
def k2c5 : Code := { maxStack := 1, maxLocals := 1, code := prog_61_method_9_code, exceptionTable := #[], attributes := #[] }
def k2m5 : Method := { name := "length", desc := "()I", sig := { parameters := [], returnType := some .int }, accessFlags := 0, code := some k2c5 }
def k2c6 : Code := { maxStack := 2, maxLocals := 1, code := prog_61_method_10_code, exceptionTable := #[], attributes := #[] }
def k2m6 : Method := { name := "bytes", desc := "()[B", sig := { parameters := [], returnType := some (.array .byte) }, accessFlags := 0, code := some k2c6 }
/-- com/example/vedette/vedette/core/ZoneBytes$Writer -/
def k2 : Class := { plain "com/example/vedette/vedette/core/ZoneBytes$Writer" (some 0) with
  accessFlags := 48
  interfaces := #[]
  cf := some (fileOf pool2 10 #[.nestHost 1] #[{ accessFlags := 0, nameIndex := 7, descriptorIndex := 8, attributes := #[] }, { accessFlags := 0, nameIndex := 31, descriptorIndex := 32, attributes := #[] }, { accessFlags := 0, nameIndex := 35, descriptorIndex := 32, attributes := #[] }, { accessFlags := 0, nameIndex := 99, descriptorIndex := 100, attributes := #[] }, { accessFlags := 0, nameIndex := 103, descriptorIndex := 104, attributes := #[] }, { accessFlags := 0, nameIndex := 17, descriptorIndex := 40, attributes := #[] }, { accessFlags := 0, nameIndex := 13, descriptorIndex := 105, attributes := #[] }] 48 4 #[] #[{ accessFlags := 2, nameIndex := 13, descriptorIndex := 14, attributes := #[] }, { accessFlags := 2, nameIndex := 17, descriptorIndex := 18, attributes := #[] }])
  fields := #[{ name := "bytes", type := (.array .byte), accessFlags := 2, slot := 0, constantValue := 0 }, { name := "length", type := .int, accessFlags := 2, slot := 1, constantValue := 0 }]
  methods := #[k2m0, k2m1, k2m2, k2m3, k2m4, k2m5, k2m6]
  instanceTypes := #[(.array .byte), .int]
  staticTypes := #[]
  resolved := Array.replicate 111 none
  statics := none }

def pool3 : Array CpInfo := pool [(2, .class_ 4), (1, u "java/lang/Object"), (0, u "<init>"), (0, u "()V"), (7, .class_ 16), (1, u "java/util/Arrays"), (57, .class_ 76), (1, u "java/util/Arrays$NaturalOrder"), (36, .class_ 115), (1, u "java/util/Arrays$LegacyMergeSort"), (1, u "Z"), (32, .methodref 151 152), (0, .class_ 153), (0, .nameAndType 154 155), (0, u "java/lang/System"), (0, u "arraycopy"), (0, u "(Ljava/lang/Object;ILjava/lang/Object;II)V"), (146, u "copyOf"), (1, .methodref 305 306), (0, .class_ 307), (0, .nameAndType 308 309), (0, u "java/lang/Math"), (0, u "min"), (0, u "(II)I"), (65, .class_ 376), (0, u "java/util/Arrays$ArrayList"), (68, u "$assertionsDisabled"), (269, u "MIN_ARRAY_SORT_GRAN"), (0, u "I"), (2, u "INSERTIONSORT_THRESHOLD"), (149, u "([BI)[B"), (105, .class_ 976), (0, u "java/util/Arrays$ArrayItr")] 52

def k3m0 : Method := { name := "<init>", desc := "()V", sig := { parameters := [], returnType := none }, accessFlags := 2, code := none }
def k3c1 : Code := { maxStack := 6, maxLocals := 3, code := jdk_65_method_121_code, exceptionTable := #[], attributes := #[] }
def k3m1 : Method := { name := "copyOf", desc := "([BI)[B", sig := { parameters := [(.array .byte), .int], returnType := some (.array .byte) }, accessFlags := 9, code := some k3c1 }
/-- java/util/Arrays -/
def k3 : Class := { plain "java/util/Arrays" (some 0) with
  accessFlags := 49
  interfaces := #[]
  cf := some (fileOf pool3 14 #[.nestMembers #[975, 375, 113, 74]] #[{ accessFlags := 2, nameIndex := 5, descriptorIndex := 6, attributes := #[] }, { accessFlags := 9, nameIndex := 302, descriptorIndex := 869, attributes := #[] }] 49 2 #[] #[{ accessFlags := 26, nameIndex := 715, descriptorIndex := 716, attributes := #[] }, { accessFlags := 26, nameIndex := 719, descriptorIndex := 716, attributes := #[] }, { accessFlags := 4120, nameIndex := 445, descriptorIndex := 117, attributes := #[] }])
  fields := #[{ name := "MIN_ARRAY_SORT_GRAN", type := .int, accessFlags := 26, slot := 0, constantValue := 0 }, { name := "INSERTIONSORT_THRESHOLD", type := .int, accessFlags := 26, slot := 1, constantValue := 0 }, { name := "$assertionsDisabled", type := .boolean, accessFlags := 4120, slot := 2, constantValue := 0 }]
  methods := #[k3m0, k3m1]
  instanceTypes := #[]
  staticTypes := #[.int, .int, .boolean]
  resolved := Array.replicate 1029 none
  statics := none }

def pool4 : Array CpInfo := pool [(1, .class_ 2), (0, u "java/lang/Math"), (1, .class_ 6), (1, u "java/lang/Object"), (0, u "<init>"), (0, u "()V"), (89, .class_ 100), (1, u "java/lang/Math$RandomNumberGeneratorHolder"), (71, u "negativeZeroFloatBits"), (0, u "J"), (2, u "negativeZeroDoubleBits"), (24, u "min"), (43, u "$assertionsDisabled"), (0, u "Z"), (88, u "(II)I"), (2, u "twoToTheDoubleScaleDown"), (0, u "D"), (4, u "twoToTheDoubleScaleUp"), (9, u "E"), (3, u "PI"), (2, u "TAU"), (2, u "DEGREES_TO_RADIANS"), (0, u "RADIANS_TO_DEGREES")] 94

def k4m0 : Method := { name := "<init>", desc := "()V", sig := { parameters := [], returnType := none }, accessFlags := 2, code := none }
def k4c1 : Code := { maxStack := 2, maxLocals := 2, code := jdk_29_method_69_code, exceptionTable := #[], attributes := #[] }
def k4m1 : Method := { name := "min", desc := "(II)I", sig := { parameters := [.int, .int], returnType := some .int }, accessFlags := 9, code := some k4c1 }
/-- java/lang/Math -/
def k4 : Class := { plain "java/lang/Math" (some 0) with
  accessFlags := 49
  interfaces := #[]
  cf := some (fileOf pool4 1 #[.nestMembers #[98]] #[{ accessFlags := 2, nameIndex := 7, descriptorIndex := 8, attributes := #[] }, { accessFlags := 9, nameIndex := 201, descriptorIndex := 335, attributes := #[] }] 49 4 #[] #[{ accessFlags := 25, nameIndex := 354, descriptorIndex := 339, attributes := #[] }, { accessFlags := 25, nameIndex := 358, descriptorIndex := 339, attributes := #[] }, { accessFlags := 25, nameIndex := 361, descriptorIndex := 339, attributes := #[] }, { accessFlags := 26, nameIndex := 364, descriptorIndex := 339, attributes := #[] }, { accessFlags := 26, nameIndex := 365, descriptorIndex := 339, attributes := #[] }, { accessFlags := 26, nameIndex := 172, descriptorIndex := 173, attributes := #[] }, { accessFlags := 26, nameIndex := 176, descriptorIndex := 173, attributes := #[] }, { accessFlags := 8, nameIndex := 344, descriptorIndex := 339, attributes := #[] }, { accessFlags := 8, nameIndex := 338, descriptorIndex := 339, attributes := #[] }, { accessFlags := 4120, nameIndex := 245, descriptorIndex := 246, attributes := #[] }])
  fields := #[{ name := "E", type := .double, accessFlags := 25, slot := 0, constantValue := 0 }, { name := "PI", type := .double, accessFlags := 25, slot := 1, constantValue := 0 }, { name := "TAU", type := .double, accessFlags := 25, slot := 2, constantValue := 0 }, { name := "DEGREES_TO_RADIANS", type := .double, accessFlags := 26, slot := 3, constantValue := 0 }, { name := "RADIANS_TO_DEGREES", type := .double, accessFlags := 26, slot := 4, constantValue := 0 }, { name := "negativeZeroFloatBits", type := .long, accessFlags := 26, slot := 5, constantValue := 0 }, { name := "negativeZeroDoubleBits", type := .long, accessFlags := 26, slot := 6, constantValue := 0 }, { name := "twoToTheDoubleScaleUp", type := .double, accessFlags := 8, slot := 7, constantValue := 0 }, { name := "twoToTheDoubleScaleDown", type := .double, accessFlags := 8, slot := 8, constantValue := 0 }, { name := "$assertionsDisabled", type := .boolean, accessFlags := 4120, slot := 9, constantValue := 0 }]
  methods := #[k4m0, k4m1]
  instanceTypes := #[]
  staticTypes := #[.double, .double, .double, .double, .double, .long, .long, .double, .double, .boolean]
  resolved := Array.replicate 460 none
  statics := none }

def pool5 : Array CpInfo := pool [(2, .class_ 4), (1, u "java/lang/Object"), (0, u "<init>"), (0, u "()V"), (1, .class_ 10), (1, u "java/lang/System"), (0, u "allowSecurityManager"), (0, u "I"), (16, u "cons"), (0, u "Ljava/io/Console;"), (77, .class_ 110), (1, u "java/lang/System$CallersHolder"), (43, u "initialErrStream"), (0, u "Ljava/io/PrintStream;"), (19, u "security"), (0, u "Ljava/lang/SecurityManager;"), (31, .class_ 209), (0, u "java/lang/System$1"), (7, u "props"), (0, u "Ljava/util/Properties;"), (2, u "lineSeparator"), (0, u "Ljava/lang/String;"), (96, .class_ 321), (1, u "java/lang/System$LoggerFinder"), (5, .class_ 328), (0, u "java/lang/System$Logger"), (67, u "err"), (2, u "out"), (91, u "notSupportedJnuEncoding"), (15, u "in"), (17, u "initialIn"), (0, u "Ljava/io/InputStream;"), (35, u "bootLayer"), (0, u "Ljava/lang/ModuleLayer;"), (99, .class_ 664), (0, u "java/lang/System$2"), (9, u "NEVER"), (2, u "MAYBE"), (49, u "arraycopy"), (0, u "(Ljava/lang/Object;ILjava/lang/Object;II)V"), (72, .class_ 802), (0, u "java/lang/System$Logger$Level")] 31

def k5m0 : Method := { name := "<init>", desc := "()V", sig := { parameters := [], returnType := none }, accessFlags := 2, code := none }
def k5m1 : Method := { name := "arraycopy", desc := "(Ljava/lang/Object;ILjava/lang/Object;II)V", sig := { parameters := [(.object "java/lang/Object"), .int, (.object "java/lang/Object"), .int, .int], returnType := none }, accessFlags := 265, code := none }
/-- java/lang/System -/
def k5 : Class := { plain "java/lang/System" (some 0) with
  accessFlags := 49
  interfaces := #[]
  cf := some (fileOf pool5 8 #[.nestMembers #[319, 327, 801, 108, 663, 208]] #[{ accessFlags := 2, nameIndex := 5, descriptorIndex := 6, attributes := #[] }, { accessFlags := 265, nameIndex := 727, descriptorIndex := 728, attributes := #[] }] 49 2 #[] #[{ accessFlags := 25, nameIndex := 507, descriptorIndex := 526, attributes := #[] }, { accessFlags := 25, nameIndex := 399, descriptorIndex := 155, attributes := #[] }, { accessFlags := 25, nameIndex := 396, descriptorIndex := 155, attributes := #[] }, { accessFlags := 10, nameIndex := 525, descriptorIndex := 526, attributes := #[] }, { accessFlags := 26, nameIndex := 674, descriptorIndex := 12, attributes := #[] }, { accessFlags := 26, nameIndex := 677, descriptorIndex := 12, attributes := #[] }, { accessFlags := 10, nameIndex := 11, descriptorIndex := 12, attributes := #[] }, { accessFlags := 74, nameIndex := 175, descriptorIndex := 176, attributes := #[] }, { accessFlags := 10, nameIndex := 491, descriptorIndex := 222, attributes := #[] }, { accessFlags := 74, nameIndex := 29, descriptorIndex := 30, attributes := #[] }, { accessFlags := 74, nameIndex := 154, descriptorIndex := 155, attributes := #[] }, { accessFlags := 10, nameIndex := 217, descriptorIndex := 218, attributes := #[] }, { accessFlags := 10, nameIndex := 221, descriptorIndex := 222, attributes := #[] }, { accessFlags := 8, nameIndex := 562, descriptorIndex := 563, attributes := #[] }])
  fields := #[{ name := "in", type := (.object "java/io/InputStream"), accessFlags := 25, slot := 0, constantValue := 0 }, { name := "out", type := (.object "java/io/PrintStream"), accessFlags := 25, slot := 1, constantValue := 0 }, { name := "err", type := (.object "java/io/PrintStream"), accessFlags := 25, slot := 2, constantValue := 0 }, { name := "initialIn", type := (.object "java/io/InputStream"), accessFlags := 10, slot := 3, constantValue := 0 }, { name := "NEVER", type := .int, accessFlags := 26, slot := 4, constantValue := 0 }, { name := "MAYBE", type := .int, accessFlags := 26, slot := 5, constantValue := 0 }, { name := "allowSecurityManager", type := .int, accessFlags := 10, slot := 6, constantValue := 0 }, { name := "security", type := (.object "java/lang/SecurityManager"), accessFlags := 74, slot := 7, constantValue := 0 }, { name := "notSupportedJnuEncoding", type := (.object "java/lang/String"), accessFlags := 10, slot := 8, constantValue := 0 }, { name := "cons", type := (.object "java/io/Console"), accessFlags := 74, slot := 9, constantValue := 0 }, { name := "initialErrStream", type := (.object "java/io/PrintStream"), accessFlags := 74, slot := 10, constantValue := 0 }, { name := "props", type := (.object "java/util/Properties"), accessFlags := 10, slot := 11, constantValue := 0 }, { name := "lineSeparator", type := (.object "java/lang/String"), accessFlags := 10, slot := 12, constantValue := 0 }, { name := "bootLayer", type := (.object "java/lang/ModuleLayer"), accessFlags := 8, slot := 13, constantValue := 0 }]
  methods := #[k5m0, k5m1]
  instanceTypes := #[]
  staticTypes := #[(.object "java/io/InputStream"), (.object "java/io/PrintStream"), (.object "java/io/PrintStream"), (.object "java/io/InputStream"), .int, .int, .int, (.object "java/lang/SecurityManager"), (.object "java/lang/String"), (.object "java/io/Console"), (.object "java/io/PrintStream"), (.object "java/util/Properties"), (.object "java/lang/String"), (.object "java/lang/ModuleLayer")]
  resolved := Array.replicate 834 none
  statics := none }

def pool6 : Array CpInfo := pool [(1, u "java/lang/Cloneable"), (0, .class_ 1), (0, u "java/lang/Object"), (0, .class_ 3)] 3

/-- java/lang/Cloneable -/
def k6 : Class := { plain "java/lang/Cloneable" (some 0) with
  accessFlags := 1537
  interfaces := #[]
  cf := some (fileOf pool6 2 #[] #[] 1537 4 #[] #[])
  fields := #[]
  methods := #[]
  instanceTypes := #[]
  staticTypes := #[]
  resolved := Array.replicate 8 none
  statics := none }

def pool7 : Array CpInfo := pool [(1, u "java/io/Serializable"), (0, .class_ 1), (0, u "java/lang/Object"), (0, .class_ 3)] 3

/-- java/io/Serializable -/
def k7 : Class := { plain "java/io/Serializable" (some 0) with
  accessFlags := 1537
  interfaces := #[]
  cf := some (fileOf pool7 2 #[] #[] 1537 4 #[] #[])
  fields := #[]
  methods := #[]
  instanceTypes := #[]
  staticTypes := #[]
  resolved := Array.replicate 8 none
  statics := none }

/-- the primitive byte -/
def k8 : Class := { plain "byte" none with kind := .primitive 'B', accessFlags := 0x411 }
/-- [B -/
def k9 : Class := { plain "[B" (some 0) with kind := .array 8 .byte, interfaces := #[6, 7], accessFlags := 1041 }

/-- the primitive int -/
def k10 : Class := { plain "int" none with kind := .primitive 'I', accessFlags := 0x411 }
/-- [I -/
def k11 : Class := { plain "[I" (some 0) with kind := .array 10 .int, interfaces := #[6, 7], accessFlags := 1041 }

def heap : Heap := #[]
def classes : Array Class := #[k0, k1, k2, k3, k4, k5, k6, k7, k8, k9, k10, k11]
def interned : List (Array UInt16 × Addr) := []
def slotsUsed : Nat := 0
def theMethod : MethodId := ⟨1, 1⟩
def args0 : Array Value := #[.long 5, .int 6, .int 7]
def aboutOver (below : List Frame) : State where
  vm := { classes := classes, interned := interned.toArray }
  heap := heap
  slotsUsed := slotsUsed
  threads := #[{ frames := .invoking theMethod args0 :: below }]
def below0 : List Frame := [.native { method := ⟨0, 0⟩, args := #[] }]
def about1 : State := aboutOver below0
def p0 : Program := .bare "" "" ""
def e0 : Env := launch0.env 0 0 0
theorem w_frames : about1.frames = Frame.invoking theMethod args0 :: below0 := rfl
set_option maxRecDepth 65536 in
theorem w_args : argsFit about1.vm theMethod args0 = true := by decide +kernel
set_option maxRecDepth 65536 in
theorem w_heap : heapFits about1 = true := by decide +kernel
set_option maxRecDepth 65536 in
theorem w_runnable : about1.curStatus? = some .runnable := by decide +kernel
set_option maxRecDepth 65536 in
theorem w_alone : about1.alone = true := by decide +kernel
set_option maxRecDepth 65536 in
theorem w_named : about1.methodNamed? x = some theMethod := by decide +kernel
set_option maxRecDepth 65536 in
theorem w_hears : about1.hears theMethod below0 = true := by decide +kernel
set_option maxRecDepth 65536 in
theorem w_ripe : about1.ripe theMethod args0 below0 = true := by decide +kernel
theorem w_running : about1.status = .running := rfl
set_option maxRecDepth 65536 in
theorem w_room : about1.hasRoom e0.platform room_1 = true :=
  launch0.hasRoom_least _ room_1 (by decide +kernel) (by decide +kernel) (by decide +kernel) (by decide +kernel) (by decide +kernel) (by decide +kernel)
theorem allAtoms_all (ts : List Jvm.Cond) (a : Array Jvm.Value) (st : Jvm.State) : (allAtoms ts).before a st = ts.all (fun c => c.before a st) := by
  induction ts with
  | nil => rfl
  | cons c t ih =>
    show (Jvm.Cond.and c (allAtoms t)).before a st = _
    rw [Jvm.Cond.before_and, ih, List.all_cons]
def words1 : List Jvm.Cond := Jvm.Cond.code x code maxLocals ret :: tables_1
/-- a 'code' word, met by the world's own term for the bytes: nothing is compared byte by byte -/
theorem code_word {y : MethodName} {bytes : ByteArray} {mx : Nat} {rt : Option FieldType} {a : Array Value} {s : State} {m : MethodId} {meth : Method} {c : Code} (h1 : s.methodNamed? y = some m) (h2 : s.vm.method? m = some meth) (h3 : meth.code = some c) (h4 : c.code = bytes)
    (h5 : (c.maxLocals == mx && c.exceptionTable.isEmpty && decide (c.maxStack ≤ mostOperands) && decide (meth.sig.returnType = rt) && !meth.locks && decide (parseMethodDescriptor y.desc = some meth.sig)) = true) : (Jvm.Cond.code y bytes mx rt).before a s = true := by
  simp only [Bool.and_eq_true, beq_iff_eq, Bool.not_eq_true', decide_eq_true_eq] at h5
  obtain ⟨⟨⟨⟨⟨g1, g2⟩, g3⟩, g4⟩, g5⟩, g6⟩ := h5
  simp [Cond.before, Cond.holds, Cond.value, h1, h2, h3, h4, g1, g2, g3, g4, g5, g6]
def isCode : Jvm.Cond → Bool
  | .code _ _ _ _ => true
  | _ => false
theorem all_split {L : List Jvm.Cond} {P : Jvm.Cond → Bool} (h1 : L.all (fun c => isCode c || P c) = true) (h2 : ∀ c ∈ L.filter isCode, P c = true) : L.all P = true := by
  refine List.all_eq_true.mpr fun c hc => ?_
  have h := List.all_eq_true.mp h1 c hc
  rcases Bool.eq_false_or_eq_true (isCode c) with hi | hi
  · exact h2 c (List.mem_filter.mpr ⟨hc, hi⟩)
  · simpa [hi] using h
set_option maxRecDepth 65536 in
theorem w_c0 : (Jvm.Cond.code x code maxLocals ret).before args0 about1 = true := code_word (m := ⟨1, 1⟩) (meth := k1m1) (c := k1c1) (by decide +kernel) rfl rfl rfl (by decide +kernel)
set_option maxRecDepth 65536 in
theorem w_c1 : (Jvm.Cond.code ({ cls := "com/example/vedette/vedette/core/ZoneBytes$Writer", name := "<init>", desc := "()V" } : Jvm.MethodName) prog_61_method_1_code (1 : Nat) (Option.none : Option Jvm.ClassFile.FieldType)).before args0 about1 = true := code_word (m := ⟨2, 0⟩) (meth := k2m0) (c := k2c0) (by decide +kernel) rfl rfl rfl (by decide +kernel)
set_option maxRecDepth 65536 in
theorem w_c2 : (Jvm.Cond.code ({ cls := "java/lang/Object", name := "<init>", desc := "()V" } : Jvm.MethodName) object_method_1_code (1 : Nat) (Option.none : Option Jvm.ClassFile.FieldType)).before args0 about1 = true := code_word (m := ⟨0, 0⟩) (meth := k0m0) (c := k0c0) (by decide +kernel) rfl rfl rfl (by decide +kernel)
set_option maxRecDepth 65536 in
theorem w_c3 : (Jvm.Cond.code ({ cls := "com/example/vedette/vedette/core/ZoneBytes$Writer", name := "writeLong", desc := "(J)Lcom/example/vedette/vedette/core/ZoneBytes$Writer;" } : Jvm.MethodName) prog_61_method_4_code (3 : Nat) (Option.some (Jvm.ClassFile.FieldType.object "com/example/vedette/vedette/core/ZoneBytes$Writer"))).before args0 about1 = true := code_word (m := ⟨2, 3⟩) (meth := k2m3) (c := k2c3) (by decide +kernel) rfl rfl rfl (by decide +kernel)
set_option maxRecDepth 65536 in
theorem w_c4 : (Jvm.Cond.code ({ cls := "com/example/vedette/vedette/core/ZoneBytes$Writer", name := "writeInt", desc := "(I)Lcom/example/vedette/vedette/core/ZoneBytes$Writer;" } : Jvm.MethodName) prog_61_method_3_code (3 : Nat) (Option.some (Jvm.ClassFile.FieldType.object "com/example/vedette/vedette/core/ZoneBytes$Writer"))).before args0 about1 = true := code_word (m := ⟨2, 2⟩) (meth := k2m2) (c := k2c2) (by decide +kernel) rfl rfl rfl (by decide +kernel)
set_option maxRecDepth 65536 in
theorem w_c5 : (Jvm.Cond.code ({ cls := "com/example/vedette/vedette/core/ZoneBytes$Writer", name := "writeByte", desc := "(I)Lcom/example/vedette/vedette/core/ZoneBytes$Writer;" } : Jvm.MethodName) prog_61_method_2_code (2 : Nat) (Option.some (Jvm.ClassFile.FieldType.object "com/example/vedette/vedette/core/ZoneBytes$Writer"))).before args0 about1 = true := code_word (m := ⟨2, 1⟩) (meth := k2m1) (c := k2c1) (by decide +kernel) rfl rfl rfl (by decide +kernel)
set_option maxRecDepth 65536 in
theorem w_c6 : (Jvm.Cond.code ({ cls := "com/example/vedette/vedette/core/ZoneBytes$Writer", name := "putInt", desc := "(II)Lcom/example/vedette/vedette/core/ZoneBytes$Writer;" } : Jvm.MethodName) prog_61_method_8_code (4 : Nat) (Option.some (Jvm.ClassFile.FieldType.object "com/example/vedette/vedette/core/ZoneBytes$Writer"))).before args0 about1 = true := code_word (m := ⟨2, 4⟩) (meth := k2m4) (c := k2c4) (by decide +kernel) rfl rfl rfl (by decide +kernel)
set_option maxRecDepth 65536 in
theorem w_c7 : (Jvm.Cond.code ({ cls := "com/example/vedette/vedette/core/ZoneBytes$Writer", name := "length", desc := "()I" } : Jvm.MethodName) prog_61_method_9_code (1 : Nat) (Option.some Jvm.ClassFile.FieldType.int)).before args0 about1 = true := code_word (m := ⟨2, 5⟩) (meth := k2m5) (c := k2c5) (by decide +kernel) rfl rfl rfl (by decide +kernel)
set_option maxRecDepth 65536 in
theorem w_c8 : (Jvm.Cond.code ({ cls := "com/example/vedette/vedette/core/ZoneBytes$Writer", name := "bytes", desc := "()[B" } : Jvm.MethodName) prog_61_method_10_code (1 : Nat) (Option.some (Jvm.ClassFile.FieldType.array Jvm.ClassFile.FieldType.byte))).before args0 about1 = true := code_word (m := ⟨2, 6⟩) (meth := k2m6) (c := k2c6) (by decide +kernel) rfl rfl rfl (by decide +kernel)
set_option maxRecDepth 65536 in
theorem w_c9 : (Jvm.Cond.code ({ cls := "java/util/Arrays", name := "copyOf", desc := "([BI)[B" } : Jvm.MethodName) jdk_65_method_121_code (3 : Nat) (Option.some (Jvm.ClassFile.FieldType.array Jvm.ClassFile.FieldType.byte))).before args0 about1 = true := code_word (m := ⟨3, 1⟩) (meth := k3m1) (c := k3c1) (by decide +kernel) rfl rfl rfl (by decide +kernel)
set_option maxRecDepth 65536 in
theorem w_c10 : (Jvm.Cond.code ({ cls := "java/lang/Math", name := "min", desc := "(II)I" } : Jvm.MethodName) jdk_29_method_69_code (2 : Nat) (Option.some Jvm.ClassFile.FieldType.int)).before args0 about1 = true := code_word (m := ⟨4, 1⟩) (meth := k4m1) (c := k4c1) (by decide +kernel) rfl rfl rfl (by decide +kernel)
set_option maxRecDepth 65536 in
theorem w_c11 : (Jvm.Cond.code ({ cls := "com/example/vedette/vedette/core/WriterPutIntPinLaw", name := "same", desc := "([BIJ)Z" } : Jvm.MethodName) method_3_code (4 : Nat) (Option.some Jvm.ClassFile.FieldType.boolean)).before args0 about1 = true := code_word (m := ⟨1, 2⟩) (meth := k1m2) (c := k1c2) (by decide +kernel) rfl rfl rfl (by decide +kernel)
def codes1 : List Jvm.Cond := [Jvm.Cond.code x code maxLocals ret, Jvm.Cond.code ({ cls := "com/example/vedette/vedette/core/ZoneBytes$Writer", name := "<init>", desc := "()V" } : Jvm.MethodName) prog_61_method_1_code (1 : Nat) (Option.none : Option Jvm.ClassFile.FieldType), Jvm.Cond.code ({ cls := "java/lang/Object", name := "<init>", desc := "()V" } : Jvm.MethodName) object_method_1_code (1 : Nat) (Option.none : Option Jvm.ClassFile.FieldType), Jvm.Cond.code ({ cls := "com/example/vedette/vedette/core/ZoneBytes$Writer", name := "writeLong", desc := "(J)Lcom/example/vedette/vedette/core/ZoneBytes$Writer;" } : Jvm.MethodName) prog_61_method_4_code (3 : Nat) (Option.some (Jvm.ClassFile.FieldType.object "com/example/vedette/vedette/core/ZoneBytes$Writer")), Jvm.Cond.code ({ cls := "com/example/vedette/vedette/core/ZoneBytes$Writer", name := "writeInt", desc := "(I)Lcom/example/vedette/vedette/core/ZoneBytes$Writer;" } : Jvm.MethodName) prog_61_method_3_code (3 : Nat) (Option.some (Jvm.ClassFile.FieldType.object "com/example/vedette/vedette/core/ZoneBytes$Writer")), Jvm.Cond.code ({ cls := "com/example/vedette/vedette/core/ZoneBytes$Writer", name := "writeByte", desc := "(I)Lcom/example/vedette/vedette/core/ZoneBytes$Writer;" } : Jvm.MethodName) prog_61_method_2_code (2 : Nat) (Option.some (Jvm.ClassFile.FieldType.object "com/example/vedette/vedette/core/ZoneBytes$Writer")), Jvm.Cond.code ({ cls := "com/example/vedette/vedette/core/ZoneBytes$Writer", name := "putInt", desc := "(II)Lcom/example/vedette/vedette/core/ZoneBytes$Writer;" } : Jvm.MethodName) prog_61_method_8_code (4 : Nat) (Option.some (Jvm.ClassFile.FieldType.object "com/example/vedette/vedette/core/ZoneBytes$Writer")), Jvm.Cond.code ({ cls := "com/example/vedette/vedette/core/ZoneBytes$Writer", name := "length", desc := "()I" } : Jvm.MethodName) prog_61_method_9_code (1 : Nat) (Option.some Jvm.ClassFile.FieldType.int), Jvm.Cond.code ({ cls := "com/example/vedette/vedette/core/ZoneBytes$Writer", name := "bytes", desc := "()[B" } : Jvm.MethodName) prog_61_method_10_code (1 : Nat) (Option.some (Jvm.ClassFile.FieldType.array Jvm.ClassFile.FieldType.byte)), Jvm.Cond.code ({ cls := "java/util/Arrays", name := "copyOf", desc := "([BI)[B" } : Jvm.MethodName) jdk_65_method_121_code (3 : Nat) (Option.some (Jvm.ClassFile.FieldType.array Jvm.ClassFile.FieldType.byte)), Jvm.Cond.code ({ cls := "java/lang/Math", name := "min", desc := "(II)I" } : Jvm.MethodName) jdk_29_method_69_code (2 : Nat) (Option.some Jvm.ClassFile.FieldType.int), Jvm.Cond.code ({ cls := "com/example/vedette/vedette/core/WriterPutIntPinLaw", name := "same", desc := "([BIJ)Z" } : Jvm.MethodName) method_3_code (4 : Nat) (Option.some Jvm.ClassFile.FieldType.boolean)]
set_option maxRecDepth 65536 in
theorem codes_eq : words1.filter isCode = codes1 := rfl
theorem w_codes : ∀ c ∈ words1.filter isCode, c.before args0 about1 = true := by
  rw [codes_eq]
  intro c hc
  simp only [codes1, List.mem_cons, List.not_mem_nil, or_false] at hc
  rcases hc with rfl | rfl | rfl | rfl | rfl | rfl | rfl | rfl | rfl | rfl | rfl | rfl
  · exact w_c0
  · exact w_c1
  · exact w_c2
  · exact w_c3
  · exact w_c4
  · exact w_c5
  · exact w_c6
  · exact w_c7
  · exact w_c8
  · exact w_c9
  · exact w_c10
  · exact w_c11
set_option maxRecDepth 65536 in
theorem w_t1 : (words1.take 24).all (fun c => isCode c || c.before args0 about1) = true := by decide +kernel
set_option maxRecDepth 65536 in
theorem w_t2 : ((words1.drop 24).take 24).all (fun c => isCode c || c.before args0 about1) = true := by decide +kernel
set_option maxRecDepth 65536 in
theorem w_t3 : ((words1.drop 24).drop 24).all (fun c => isCode c || c.before args0 about1) = true := by decide +kernel
theorem w_tables : (allAtoms (Jvm.Cond.code x code maxLocals ret :: tables_1)).before args0 about1 = true := by
  rw [allAtoms_all]
  show words1.all (fun c => c.before args0 about1) = true
  refine all_split ?_ w_codes
  rw [← List.take_append_drop 24 words1, List.all_append, w_t1, ← List.take_append_drop 24 (words1.drop 24), List.all_append, w_t2, w_t3]
  rfl
set_option maxRecDepth 65536 in
theorem w_case : (Jvm.Cond.and given_1 narrow_1).before args0 about1 = true := by decide +kernel
theorem w_applies : (headSpec (Jvm.Cond.code x code maxLocals ret :: tables_1) room_1).applies x e0.platform about1 = true :=
  (Spec.applies_iff w_frames).mpr ⟨w_running, w_runnable, w_alone, w_named, w_hears, w_ripe, w_room, w_tables⟩
theorem atStart : AtStart classFile x code maxLocals ret World_1 tables_1 room_1 Calls_1 rest_1 Pre_1 launch0 p0 e0 about1 theMethod args0 below0 :=
  ⟨lists_1, trivial, launch0.admits_env _ _ _, launch0.least_env, fairChoices_fair.cas, fairChoices_fair.clock, w_frames, w_args, w_heap, w_applies, trivial, trivial, w_case⟩
end start1
theorem witness_1 : WitnessClaimed_1 := ⟨start1.p0, start1.e0, start1.about1, start1.theMethod, start1.args0, start1.below0, start1.atStart⟩
end Jvm.Pilot.@@N@@
