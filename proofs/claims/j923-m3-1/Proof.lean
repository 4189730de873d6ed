import JvmDerived
import JvmDerived.Pilot.@@N@@Statement
import JvmDerived.Pilot.@@N@@Code
set_option linter.unusedVariables false
set_option linter.unusedSimpArgs false
@@BLOCK:NumsL.lean.txt@@
namespace Jvm.Pilot.@@N@@
open Jvm Jvm.ClassFile Sem Op Lib Jvm.Free Jvm.Stand Jvm.LawKit Jvm.RoadKit Bundle Jvm.Pilot.@@N@@.Jvm.D
/-! ### own layer 1: plain steps by evaluation over a list of decoded instructions -/
def own_iushr (x y : Int32) : Int32 := (x.toUInt32 >>> (y &&& 31).toUInt32).toInt32
def own_ishl (x y : Int32) : Int32 := x <<< (y &&& 31)
def own_ishr (x y : Int32) : Int32 := x >>> (y &&& 31)
def own_irem (x y : Int32) : Int32 := x - (x / y) * y
def own_lrem (x y : Int64) : Int64 := x - (x / y) * y
def own_lushr (x : Int64) (y : Int32) : Int64 := (x.toUInt64 >>> (y &&& 0x3f).toInt64.toUInt64).toInt64
def own_lshl (x : Int64) (y : Int32) : Int64 := x <<< (y &&& 0x3f).toInt64
def own_lshr (x : Int64) (y : Int32) : Int64 := x >>> (y &&& 0x3f).toInt64
def own_i2b (x : Int32) : Int32 := x.toInt8.toInt32

abbrev own_R : Type := Option (Array Slot × List Value)
def own_i2 (f : Int32 → Int32 → Int32) (ls : Array Slot) : List Value → own_R
  | .int y :: .int x :: r => some (ls, .int (f x y) :: r)
  | _ => none
def own_i1 (f : Int32 → Value) (ls : Array Slot) : List Value → own_R
  | .int x :: r => some (ls, f x :: r)
  | _ => none
def own_l2 (f : Int64 → Int64 → Int64) (ls : Array Slot) : List Value → own_R
  | .long y :: .long x :: r => some (ls, .long (f x y) :: r)
  | _ => none
def own_lS (f : Int64 → Int32 → Int64) (ls : Array Slot) : List Value → own_R
  | .int y :: .long x :: r => some (ls, .long (f x y) :: r)
  | _ => none
def own_l1 (f : Int64 → Value) (ls : Array Slot) : List Value → own_R
  | .long x :: r => some (ls, f x :: r)
  | _ => none
def own_li (ls : Array Slot) (k : Nat) (st : List Value) : own_R :=
  match ls[k]? with
  | some (.val (.int v)) => some (ls, .int v :: st)
  | _ => none
def own_ll (ls : Array Slot) (k : Nat) (st : List Value) : own_R :=
  match ls[k]? with
  | some (.val (.long v)) => some (ls, .long v :: st)
  | _ => none
def own_la (ls : Array Slot) (k : Nat) (st : List Value) : own_R :=
  match ls[k]? with
  | some (.val (.ref v)) => some (ls, .ref v :: st)
  | some (.val .null) => some (ls, .null :: st)
  | _ => none
def own_sv (ls : Array Slot) (k : Nat) (v : Value) (r : List Value) : own_R :=
  match storeLocals ls k v with
  | some l' => some (l', r)
  | none => none
def own_si (ls : Array Slot) (k : Nat) : List Value → own_R
  | .int x :: r => own_sv ls k (.int x) r
  | _ => none
def own_sl (ls : Array Slot) (k : Nat) : List Value → own_R
  | .long x :: r => own_sv ls k (.long x) r
  | _ => none
def own_sa (ls : Array Slot) (k : Nat) : List Value → own_R
  | .ref x :: r => own_sv ls k (.ref x) r
  | .null :: r => own_sv ls k .null r
  | _ => none
def own_inc (ls : Array Slot) (k : Nat) (d : Int) (st : List Value) : own_R :=
  match ls[k]? with
  | some (.val (.int v)) => own_sv ls k (.int (v + Int32.ofInt d)) st
  | _ => none
def own_dup (ls : Array Slot) : List Value → own_R
  | .int x :: r => some (ls, .int x :: .int x :: r)
  | .ref x :: r => some (ls, .ref x :: .ref x :: r)
  | _ => none
def own_dupX (ls : Array Slot) : List Value → own_R
  | .int x :: .ref y :: r => some (ls, .int x :: .ref y :: .int x :: r)
  | _ => none
def own_pop (ls : Array Slot) : List Value → own_R
  | .int _ :: r => some (ls, r)
  | .ref _ :: r => some (ls, r)
  | _ => none

def own_p (i : Instr) (n : Nat) (ls : Array Slot) (st : List Value) : own_R :=
  match i, n with
  | .iconst k, 1 => some (ls, .int (Int32.ofInt k) :: st)
  | .bipush k, 2 => some (ls, .int (Int8.ofInt k).toInt32 :: st)
  | .sipush k, 3 => some (ls, .int (Int16.ofInt k).toInt32 :: st)
  | .lconst k, 1 => some (ls, .long (Int64.ofNat k) :: st)
  | .aconst_null, 1 => some (ls, .null :: st)
  | .iload_n k, 1 => own_li ls k.val st
  | .iload k, 2 => own_li ls k st
  | .lload_n k, 1 => own_ll ls k.val st
  | .lload k, 2 => own_ll ls k st
  | .aload_n k, 1 => own_la ls k.val st
  | .aload k, 2 => own_la ls k st
  | .istore_n k, 1 => own_si ls k.val st
  | .istore k, 2 => own_si ls k st
  | .lstore_n k, 1 => own_sl ls k.val st
  | .lstore k, 2 => own_sl ls k st
  | .astore_n k, 1 => own_sa ls k.val st
  | .astore k, 2 => own_sa ls k st
  | .iinc k d, 3 => own_inc ls k d st
  | .iadd, 1 => own_i2 (· + ·) ls st
  | .isub, 1 => own_i2 (· - ·) ls st
  | .imul, 1 => own_i2 (· * ·) ls st
  | .iand, 1 => own_i2 (· &&& ·) ls st
  | .ior, 1 => own_i2 (· ||| ·) ls st
  | .ixor, 1 => own_i2 (· ^^^ ·) ls st
  | .ishl, 1 => own_i2 own_ishl ls st
  | .ishr, 1 => own_i2 own_ishr ls st
  | .iushr, 1 => own_i2 own_iushr ls st
  | .ladd, 1 => own_l2 (· + ·) ls st
  | .lsub, 1 => own_l2 (· - ·) ls st
  | .lmul, 1 => own_l2 (· * ·) ls st
  | .land, 1 => own_l2 (· &&& ·) ls st
  | .lor, 1 => own_l2 (· ||| ·) ls st
  | .lxor, 1 => own_l2 (· ^^^ ·) ls st
  | .lshl, 1 => own_lS own_lshl ls st
  | .lshr, 1 => own_lS own_lshr ls st
  | .lushr, 1 => own_lS own_lushr ls st
  | .i2b, 1 => own_i1 (fun x => .int (own_i2b x)) ls st
  | .i2l, 1 => own_i1 (fun x => .long x.toInt64) ls st
  | .l2i, 1 => own_l1 (fun x => .int x.toInt32) ls st
  | .dup, 1 => own_dup ls st
  | .dup_x1, 1 => own_dupX ls st
  | .pop, 1 => own_pop ls st
  | _, _ => none

section Inv
variable {ls ls' : Array Slot} {st st' : List Value}
theorem own_i2_inv {f : Int32 → Int32 → Int32} (h : own_i2 f ls st = some (ls', st')) : ∃ x y r, st = .int y :: .int x :: r ∧ ls' = ls ∧ st' = .int (f x y) :: r := by
  unfold own_i2 at h; split at h
  · cases h; exact ⟨_, _, _, rfl, rfl, rfl⟩
  · cases h
theorem own_i1_inv {f : Int32 → Value} (h : own_i1 f ls st = some (ls', st')) : ∃ x r, st = .int x :: r ∧ ls' = ls ∧ st' = f x :: r := by
  unfold own_i1 at h; split at h
  · cases h; exact ⟨_, _, rfl, rfl, rfl⟩
  · cases h
theorem own_l2_inv {f : Int64 → Int64 → Int64} (h : own_l2 f ls st = some (ls', st')) : ∃ x y r, st = .long y :: .long x :: r ∧ ls' = ls ∧ st' = .long (f x y) :: r := by
  unfold own_l2 at h; split at h
  · cases h; exact ⟨_, _, _, rfl, rfl, rfl⟩
  · cases h
theorem own_lS_inv {f : Int64 → Int32 → Int64} (h : own_lS f ls st = some (ls', st')) : ∃ x y r, st = .int y :: .long x :: r ∧ ls' = ls ∧ st' = .long (f x y) :: r := by
  unfold own_lS at h; split at h
  · cases h; exact ⟨_, _, _, rfl, rfl, rfl⟩
  · cases h
theorem own_l1_inv {f : Int64 → Value} (h : own_l1 f ls st = some (ls', st')) : ∃ x r, st = .long x :: r ∧ ls' = ls ∧ st' = f x :: r := by
  unfold own_l1 at h; split at h
  · cases h; exact ⟨_, _, rfl, rfl, rfl⟩
  · cases h
theorem own_li_inv {k : Nat} (h : own_li ls k st = some (ls', st')) : ∃ v, ls[k]? = some (.val (.int v)) ∧ ls' = ls ∧ st' = .int v :: st := by
  unfold own_li at h; split at h
  · rename_i q; cases h; exact ⟨_, q, rfl, rfl⟩
  · cases h
theorem own_ll_inv {k : Nat} (h : own_ll ls k st = some (ls', st')) : ∃ v, ls[k]? = some (.val (.long v)) ∧ ls' = ls ∧ st' = .long v :: st := by
  unfold own_ll at h; split at h
  · rename_i q; cases h; exact ⟨_, q, rfl, rfl⟩
  · cases h
theorem own_la_inv {k : Nat} (h : own_la ls k st = some (ls', st')) : ∃ v : Value, v.isRef = true ∧ ls[k]? = some (.val v) ∧ ls' = ls ∧ st' = v :: st := by
  unfold own_la at h; split at h
  · rename_i q; cases h; exact ⟨_, rfl, q, rfl, rfl⟩
  · rename_i q; cases h; exact ⟨_, rfl, q, rfl, rfl⟩
  · cases h
theorem own_sv_inv {k : Nat} {v : Value} {r : List Value} (h : own_sv ls k v r = some (ls', st')) : storeLocals ls k v = some ls' ∧ st' = r := by
  unfold own_sv at h; split at h
  · rename_i q; cases h; exact ⟨q, rfl⟩
  · cases h
theorem own_si_inv {k : Nat} (h : own_si ls k st = some (ls', st')) : ∃ x, st = .int x :: st' ∧ storeLocals ls k (.int x) = some ls' := by
  unfold own_si at h; split at h
  · obtain ⟨h1, h2⟩ := own_sv_inv h; subst h2; exact ⟨_, rfl, h1⟩
  · cases h
theorem own_sl_inv {k : Nat} (h : own_sl ls k st = some (ls', st')) : ∃ x, st = .long x :: st' ∧ storeLocals ls k (.long x) = some ls' := by
  unfold own_sl at h; split at h
  · obtain ⟨h1, h2⟩ := own_sv_inv h; subst h2; exact ⟨_, rfl, h1⟩
  · cases h
theorem own_sa_inv {k : Nat} (h : own_sa ls k st = some (ls', st')) : ∃ x : Value, x.isRef = true ∧ st = x :: st' ∧ storeLocals ls k x = some ls' := by
  unfold own_sa at h; split at h
  · obtain ⟨h1, h2⟩ := own_sv_inv h; subst h2; exact ⟨_, rfl, rfl, h1⟩
  · obtain ⟨h1, h2⟩ := own_sv_inv h; subst h2; exact ⟨_, rfl, rfl, h1⟩
  · cases h
theorem own_inc_inv {k : Nat} {d : Int} (h : own_inc ls k d st = some (ls', st')) : ∃ x, ls[k]? = some (.val (.int x)) ∧ storeLocals ls k (.int (x + Int32.ofInt d)) = some ls' ∧ st' = st := by
  unfold own_inc at h; split at h
  · rename_i q; obtain ⟨h1, h2⟩ := own_sv_inv h; exact ⟨_, q, h1, h2⟩
  · cases h
theorem own_dup_inv (h : own_dup ls st = some (ls', st')) : ∃ (x : Value) (r : List Value), st = x :: r ∧ x.category = 1 ∧ ls' = ls ∧ st' = x :: x :: r := by
  unfold own_dup at h; split at h
  · cases h; exact ⟨_, _, rfl, rfl, rfl, rfl⟩
  · cases h; exact ⟨_, _, rfl, rfl, rfl, rfl⟩
  · cases h
theorem own_dupX_inv (h : own_dupX ls st = some (ls', st')) : ∃ (x y : Value) (r : List Value), st = x :: y :: r ∧ x.category = 1 ∧ y.category = 1 ∧ ls' = ls ∧ st' = x :: y :: x :: r := by
  unfold own_dupX at h; split at h
  · cases h; exact ⟨_, _, _, rfl, rfl, rfl, rfl, rfl⟩
  · cases h
theorem own_pop_inv (h : own_pop ls st = some (ls', st')) : ∃ (x : Value), st = x :: st' ∧ x.category = 1 ∧ ls' = ls := by
  unfold own_pop at h; split at h
  · cases h; exact ⟨_, rfl, rfl, rfl⟩
  · cases h; exact ⟨_, rfl, rfl, rfl⟩
  · cases h
end Inv

set_option maxHeartbeats 4000000 in
theorem own_p_ok {tb : Tables} [Ours tb] {e : Env} {below : List Frame} {T t : State} {m : MethodId} {c : Code} (h : At T m c below) (hx : tb.exec = Jvm.exec) {i : Instr} {n pc : Nat} {ls ls' : Array Slot} {st st' : List Value}
    (hd : decode c.code pc = .ok (i, n)) (hp : own_p i n ls st = some (ls', st')) (hr : Steps tb e below (T.setTop (mkF m (pc + n) ls' st')) t) : Steps tb e below (T.setTop (mkF m pc ls st)) t := by
  unfold own_p at hp
  split at hp
  · cases hp; exact XS.iconst h hx rfl hd hr
  · cases hp; exact XS.bipush h hx rfl hd hr
  · cases hp; exact XS.sipush h hx rfl hd hr
  · cases hp; exact XS.lconst h hx rfl hd hr
  · cases hp; exact XS.aconstNull h hx rfl hd hr
  · obtain ⟨v, q, rfl, rfl⟩ := own_li_inv hp; exact XS.iloadN h hx rfl hd q hr
  · obtain ⟨v, q, rfl, rfl⟩ := own_li_inv hp; exact XS.iload h hx rfl hd q hr
  · obtain ⟨v, q, rfl, rfl⟩ := own_ll_inv hp; exact XS.lloadN h hx rfl hd q hr
  · obtain ⟨v, q, rfl, rfl⟩ := own_ll_inv hp; exact XS.lload h hx rfl hd q hr
  · obtain ⟨v, q0, q, rfl, rfl⟩ := own_la_inv hp; exact XS.aloadN h hx rfl hd q q0 hr
  · obtain ⟨v, q0, q, rfl, rfl⟩ := own_la_inv hp; exact XS.aload h hx rfl hd q q0 hr
  · obtain ⟨x, rfl, q⟩ := own_si_inv hp; exact XS.istoreN h hx rfl hd rfl q hr
  · obtain ⟨x, rfl, q⟩ := own_si_inv hp; exact XS.istore h hx rfl hd rfl q hr
  · obtain ⟨x, rfl, q⟩ := own_sl_inv hp; exact XS.lstoreN h hx rfl hd rfl q hr
  · obtain ⟨x, rfl, q⟩ := own_sl_inv hp; exact XS.lstore h hx rfl hd rfl q hr
  · obtain ⟨x, q0, rfl, q⟩ := own_sa_inv hp; exact XS.astoreN h hx rfl hd rfl q0 q hr
  · obtain ⟨x, q0, rfl, q⟩ := own_sa_inv hp; exact XS.astore h hx rfl hd rfl q0 q hr
  · obtain ⟨x, q1, q2, rfl⟩ := own_inc_inv hp; exact XS.iinc h hx rfl hd q1 q2 hr
  · obtain ⟨x, y, r, rfl, rfl, rfl⟩ := own_i2_inv hp; exact XS.iadd h hx rfl hd rfl hr
  · obtain ⟨x, y, r, rfl, rfl, rfl⟩ := own_i2_inv hp; exact XS.isub h hx rfl hd rfl hr
  · obtain ⟨x, y, r, rfl, rfl, rfl⟩ := own_i2_inv hp; exact XS.imul h hx rfl hd rfl hr
  · obtain ⟨x, y, r, rfl, rfl, rfl⟩ := own_i2_inv hp; exact XS.iand h hx rfl hd rfl hr
  · obtain ⟨x, y, r, rfl, rfl, rfl⟩ := own_i2_inv hp; exact XS.ior h hx rfl hd rfl hr
  · obtain ⟨x, y, r, rfl, rfl, rfl⟩ := own_i2_inv hp; exact XS.ixor h hx rfl hd rfl hr
  · obtain ⟨x, y, r, rfl, rfl, rfl⟩ := own_i2_inv hp; exact XS.ishl h hx rfl hd rfl hr
  · obtain ⟨x, y, r, rfl, rfl, rfl⟩ := own_i2_inv hp; exact XS.ishr h hx rfl hd rfl hr
  · obtain ⟨x, y, r, rfl, rfl, rfl⟩ := own_i2_inv hp; exact XS.iushr h hx rfl hd rfl hr
  · obtain ⟨x, y, r, rfl, rfl, rfl⟩ := own_l2_inv hp; exact XS.ladd h hx rfl hd rfl hr
  · obtain ⟨x, y, r, rfl, rfl, rfl⟩ := own_l2_inv hp; exact XS.lsub h hx rfl hd rfl hr
  · obtain ⟨x, y, r, rfl, rfl, rfl⟩ := own_l2_inv hp; exact XS.lmul h hx rfl hd rfl hr
  · obtain ⟨x, y, r, rfl, rfl, rfl⟩ := own_l2_inv hp; exact XS.land h hx rfl hd rfl hr
  · obtain ⟨x, y, r, rfl, rfl, rfl⟩ := own_l2_inv hp; exact XS.lor h hx rfl hd rfl hr
  · obtain ⟨x, y, r, rfl, rfl, rfl⟩ := own_l2_inv hp; exact XS.lxor h hx rfl hd rfl hr
  · obtain ⟨x, y, r, rfl, rfl, rfl⟩ := own_lS_inv hp; exact XS.lshl h hx rfl hd rfl hr
  · obtain ⟨x, y, r, rfl, rfl, rfl⟩ := own_lS_inv hp; exact XS.lshr h hx rfl hd rfl hr
  · obtain ⟨x, y, r, rfl, rfl, rfl⟩ := own_lS_inv hp; exact XS.lushr h hx rfl hd rfl hr
  · obtain ⟨x, r, rfl, rfl, rfl⟩ := own_i1_inv hp; exact XS.i2b h hx rfl hd rfl hr
  · obtain ⟨x, r, rfl, rfl, rfl⟩ := own_i1_inv hp; exact XS.i2l h hx rfl hd rfl hr
  · obtain ⟨x, r, rfl, rfl, rfl⟩ := own_l1_inv hp; exact XS.l2i h hx rfl hd rfl hr
  · obtain ⟨x, r, rfl, q, rfl, rfl⟩ := own_dup_inv hp; exact XS.dup h hx rfl hd rfl q hr
  · obtain ⟨x, y, r, rfl, q1, q2, rfl, rfl⟩ := own_dupX_inv hp; exact XS.dupX1 h hx rfl hd rfl q1 q2 hr
  · obtain ⟨x, rfl, q, rfl⟩ := own_pop_inv hp; exact XS.pop h hx rfl hd rfl q hr
  · cases hp

/-- the list lies in the code from pc on, up to pc' -/
def own_d (code : ByteArray) : Nat → List (Instr × Nat) → Nat → Bool
  | pc, [], pc' => pc == pc'
  | pc, (i, n) :: L, pc' => decide (decode code pc = .ok (i, n)) && own_d code (pc + n) L pc'
def own_x : List (Instr × Nat) → Array Slot → List Value → own_R
  | [], ls, st => some (ls, st)
  | (i, n) :: L, ls, st => match own_p i n ls st with
    | some (ls', st') => own_x L ls' st'
    | none => none
theorem own_x_ok {tb : Tables} [Ours tb] {e : Env} {below : List Frame} {T t : State} {m : MethodId} {c : Code} (h : At T m c below) (hx : tb.exec = Jvm.exec) : ∀ (L : List (Instr × Nat)) {pc pc' : Nat} {ls ls' : Array Slot} {st st' : List Value},
    own_d c.code pc L pc' = true → own_x L ls st = some (ls', st') → Steps tb e below (T.setTop (mkF m pc' ls' st')) t → Steps tb e below (T.setTop (mkF m pc ls st)) t
  | [], pc, pc', ls, ls', st, st', hd, hr, k => by
    have e1 : pc = pc' := by simpa [own_d] using hd
    subst e1
    cases hr
    exact k
  | (i, n) :: L, pc, pc', ls, ls', st, st', hd, hr, k => by
    simp only [own_d, Bool.and_eq_true, decide_eq_true_eq] at hd
    simp only [own_x] at hr
    cases hq : own_p i n ls st with
    | none => rw [hq] at hr; cases hr
    | some q =>
      obtain ⟨l1, s1⟩ := q
      rw [hq] at hr
      exact own_p_ok h hx hd.1 hq (own_x_ok h hx L hd.2 hr k)

/-! ### own layer 2: where a walk stands, and that it comes to its end -/
def own_G (p : Program) (e : Env) (below : List Frame) (A : State) (Q : Outcome → State → Prop) : Prop :=
  ∃ s₂ o, Steps p.tables e below A s₂ ∧ s₂.status = .running ∧ Ended s₂ below o ∧ Q o s₂
theorem own_st {p : Program} {e : Env} {below : List Frame} {A A' : State} {Q : Outcome → State → Prop} (st : ∀ t, Steps p.tables e below A' t → Steps p.tables e below A t) (g : own_G p e below A' Q) : own_G p e below A Q := by
  obtain ⟨s2, o, h1, h2⟩ := g
  exact ⟨s2, o, st _ h1, h2⟩
def own_E (s : State) (n0 : Nat) (P : Option Value → Heap → Prop) (C S : Nat) (o : Outcome) (U : State) : Prop := ∃ v L, o = .returned v ∧ (Fr n0 L ∧ P v U.heap) ∧ FrameEnd s o U L C S
def own_X (p : Program) (l : Launch) (e : Env) (R : Room) (s : State) (m : MethodId) (args : Array Value) (below : List Frame) (meth : Method) (c : Code) (Z : State) (bytes : ByteArray) (maxL : Nat) (ret : Option FieldType) (y : MethodName) (n0 : Nat) (h : Heap) (T : State) (k n : Nat) : Prop :=
  (p.tables.exec = Jvm.exec ∧ c.code = bytes ∧ c.maxLocals = maxL ∧ s.vm.findClass y.cls = some m.cls ∧ meth.name = y.name ∧ meth.sig.returnType = ret ∧ Z.Warmed39 s.vm ∧ meth.locks = false) ∧
    n0 ≤ h.size ∧ T.heap = h ∧ ∃ locs, Stand p l e R s m args below meth c T locs k n ∧ Fr n0 locs
/-- a body's contract: from these arguments and this heap it returns, and P says what, and what heap it leaves -/
def own_C (l : Launch) (Z : State) (y : MethodName) (bytes : ByteArray) (maxL : Nat) (ret : Option FieldType) (rm : Room) (as : Array Value) (h0 : Heap) (n0 : Nat) (P : Option Value → Heap → Prop) : Prop :=
  ∀ ws : List Jvm.Cond, MetFree l y (head1 (Jvm.Cond.code y bytes maxL ret :: ws) rm) (fun a U => a = as ∧ Z.Warmed39 U.vm ∧ U.heap = h0) (fun _ _ _ _ _ => True)
    (fun _ U o U' => ∃ v L, o = .returned v ∧ (Fr n0 L ∧ P v U'.heap) ∧ FrameEnd U o U' L rm.cells rm.slots)
theorem own_body {l : Launch} {Z : State} {y : MethodName} {bytes : ByteArray} {maxL : Nat} {ret : Option FieldType} {rm : Room} {as : Array Value} {h0 : Heap} {n0 : Nat} {P : Option Value → Heap → Prop} (hpl : plainFor y = true) (h0n : n0 ≤ h0.size) {ls : Array Slot} (hef : ∀ m, entryFrame m as maxL = mkF m 0 ls [])
    (k : ∀ p e s m below meth c T, own_X p l e rm s m as below meth c Z bytes maxL ret y n0 h0 T 0 0 → own_G p e below (T.setTop (mkF m 0 ls [])) (own_E s n0 P rm.cells rm.slots)) : own_C l Z y bytes maxL ret rm as h0 n0 P := by
  intro ws
  refine MetFree.of_bodySF hpl hisR ?_
  intro p e s m args below meth c s₁ Bd hml0 hP hK
  obtain ⟨rfl, hZ, hh⟩ := hP
  have e0 : s₁.heap = h0 := by rw [← hh, Bd.state]; rfl
  have X0 : Stand p l e rm s m args below meth c s₁ [] 0 0 := Stand.of_body Bd
  have g := k p e s m below meth c s₁ ⟨⟨Bd.exec, Bd.bytes, hml0, findClass_of_methodNamed Bd.named, (name_of_methodNamed Bd.named Bd.method).1, Bd.returns, hZ, Bd.notSynchronized⟩, h0n, e0, [], X0, Fr.nil n0⟩
  rw [← hef m] at g
  exact g

section Walk
variable {p : Program} {l : Launch} {e : Env} {R : Room} {s : State} {m : MethodId} {args : Array Value} {below : List Frame} {meth : Method} {c : Code} {Z : State} {bytes : ByteArray} {maxL : Nat} {ret : Option FieldType} {y : MethodName} {n0 : Nat} {h : Heap} {T : State} {k n : Nat} {Q : Outcome → State → Prop} {pc pc' : Nat} {ls ls' : Array Slot} {st st' : List Value} {a0 : Array Value}
theorem own_blk (X : own_X p l e R s m args below meth c Z bytes maxL ret y n0 h T k n) (L : List (Instr × Nat)) (hd : own_d bytes pc L pc' = true) (hr : own_x L ls st = some (ls', st')) (g : own_G p e below (T.setTop (mkF m pc' ls' st')) Q) : own_G p e below (T.setTop (mkF m pc ls st)) Q := by
  obtain ⟨⟨hx, hby, -⟩, -, -, locs, X, -⟩ := X
  subst hby
  exact own_st (fun t q => own_x_ok X.here hx L hd hr q) g
/-! branches -/
def own_tg (pc : Nat) (o : Int) (pc' : Nat) : Bool := decide (0 ≤ (pc : Int) + o) && decide (((pc : Int) + o).toNat = pc')
def own_cI : ClassFile.Cond → Int → Int → Prop
  | .eq, x, y => x = y
  | .ne, x, y => ¬ x = y
  | .lt, x, y => x < y
  | .ge, x, y => y ≤ x
  | .gt, x, y => y < x
  | .le, x, y => x ≤ y
theorem own_icmp_iff (cd : ClassFile.Cond) (x y : Int32) : if_icmp.holds cd x y = true ↔ own_cI cd x.toInt y.toInt := by
  cases cd <;> simp [if_icmp.holds, own_cI, Int32.lt_iff_toInt_lt, Int32.le_iff_toInt_le, Int32.toInt_inj]
theorem own_if_iff (cd : ClassFile.Cond) (x : Int32) : ifCond.holds cd x = true ↔ own_cI cd x.toInt 0 := by
  rw [if0]; exact own_icmp_iff cd x 0
theorem own_l_iff (cd : ClassFile.Cond) (x y : Int64) : ifCond.holds cd (if x > y then 1 else if x = y then 0 else -1) = true ↔ own_cI cd x.toInt y.toInt := by
  rw [own_if_iff]
  have e1 : (x > y) = (y.toInt < x.toInt) := by rw [gt_iff_lt, Int64.lt_iff_toInt_lt]
  have e2 : (x = y) = (x.toInt = y.toInt) := by rw [Int64.toInt_inj]
  simp only [e1, e2]
  by_cases q1 : y.toInt < x.toInt
  · simp only [q1, if_true]
    have e3 : (1 : Int32).toInt = 1 := rfl
    cases cd <;> simp only [own_cI, e3] <;> omega
  · by_cases q2 : x.toInt = y.toInt
    · simp only [q1, q2, if_true, if_false]
      have e3 : (0 : Int32).toInt = 0 := rfl
      cases cd <;> simp [own_cI]
    · simp only [q1, q2, if_false]
      have e3 : (-1 : Int32).toInt = -1 := rfl
      cases cd <;> simp only [own_cI, e3] <;> omega
theorem own_tg_s {o : Int} (hp : own_tg pc o pc' = true) : 0 ≤ (pc : Int) + o ∧ ((pc : Int) + o).toNat = pc' := by
  simpa [own_tg] using hp
theorem own_goto (X : own_X p l e R s m args below meth c Z bytes maxL ret y n0 h T k n) {o : Int} (hd : decode bytes pc = .ok (.goto o, 3)) (hp : own_tg pc o pc' = true) (g : own_G p e below (T.setTop (mkF m pc' ls st)) Q) : own_G p e below (T.setTop (mkF m pc ls st)) Q := by
  obtain ⟨⟨hx, hby, -⟩, -, -, locs, X, -⟩ := X
  subst hby
  exact own_st (fun t q => XS.goto X.here hx rfl rfl hd (own_tg_s hp).1 (own_tg_s hp).2 q) g
theorem own_icmp (X : own_X p l e R s m args below meth c Z bytes maxL ret y n0 h T k n) {cd : ClassFile.Cond} {o : Int} {v w : Int32} (hd : decode bytes pc = .ok (.if_icmp cd o, 3)) (hp : own_tg pc o pc' = true) (gT : own_cI cd v.toInt w.toInt → own_G p e below (T.setTop (mkF m pc' ls st)) Q) (gF : ¬ own_cI cd v.toInt w.toInt → own_G p e below (T.setTop (mkF m (pc + 3) ls st)) Q) :
    own_G p e below (T.setTop (mkF m pc ls (.int w :: .int v :: st))) Q := by
  obtain ⟨⟨hx, hby, -⟩, -, -, locs, X, -⟩ := X
  subst hby
  cases hc : if_icmp.holds cd v w with
  | true => exact own_st (fun t q => XS.icmpYes X.here hx rfl rfl hd rfl hc (own_tg_s hp).1 (own_tg_s hp).2 q) (gT ((own_icmp_iff cd v w).mp hc))
  | false => exact own_st (fun t q => XS.icmpNo X.here hx rfl hd rfl hc q) (gF fun q => by rw [(own_icmp_iff cd v w).mpr q] at hc; cases hc)
theorem own_if (X : own_X p l e R s m args below meth c Z bytes maxL ret y n0 h T k n) {cd : ClassFile.Cond} {o : Int} {v : Int32} (hd : decode bytes pc = .ok (.ifCond cd o, 3)) (hp : own_tg pc o pc' = true) (gT : own_cI cd v.toInt 0 → own_G p e below (T.setTop (mkF m pc' ls st)) Q) (gF : ¬ own_cI cd v.toInt 0 → own_G p e below (T.setTop (mkF m (pc + 3) ls st)) Q) :
    own_G p e below (T.setTop (mkF m pc ls (.int v :: st))) Q := by
  obtain ⟨⟨hx, hby, -⟩, -, -, locs, X, -⟩ := X
  subst hby
  cases hc : ifCond.holds cd v with
  | true => exact own_st (fun t q => XS.ifYes X.here hx rfl rfl hd rfl hc (own_tg_s hp).1 (own_tg_s hp).2 q) (gT ((own_if_iff cd v).mp hc))
  | false => exact own_st (fun t q => XS.ifNo X.here hx rfl hd rfl hc q) (gF fun q => by rw [(own_if_iff cd v).mpr q] at hc; cases hc)
theorem own_lif (X : own_X p l e R s m args below meth c Z bytes maxL ret y n0 h T k n) {cd : ClassFile.Cond} {o : Int} {v w : Int64} (hd1 : decode bytes pc = .ok (.lcmp, 1)) (hd : decode bytes (pc + 1) = .ok (.ifCond cd o, 3)) (hp : own_tg (pc + 1) o pc' = true) (gT : own_cI cd v.toInt w.toInt → own_G p e below (T.setTop (mkF m pc' ls st)) Q) (gF : ¬ own_cI cd v.toInt w.toInt → own_G p e below (T.setTop (mkF m (pc + 4) ls st)) Q) :
    own_G p e below (T.setTop (mkF m pc ls (.long w :: .long v :: st))) Q := by
  obtain ⟨⟨hx, hby, -⟩, -, -, locs, X, -⟩ := X
  subst hby
  refine own_st (fun t q => XS.lcmp X.here hx rfl hd1 rfl q) ?_
  show own_G p e below (T.setTop (mkF m (pc + 1) ls (.int (if v > w then 1 else if v = w then 0 else -1) :: st))) Q
  cases hc : ifCond.holds cd (if v > w then 1 else if v = w then 0 else -1) with
  | true => exact own_st (fun t q => XS.ifYes X.here hx rfl rfl hd rfl hc (own_tg_s hp).1 (own_tg_s hp).2 q) (gT ((own_l_iff cd v w).mp hc))
  | false => exact own_st (fun t q => XS.ifNo X.here hx rfl hd rfl hc q) (gF fun q => by rw [(own_l_iff cd v w).mpr q] at hc; cases hc)
/-! division -/
theorem own_idiv (X : own_X p l e R s m args below meth c Z bytes maxL ret y n0 h T k n) {v w : Int32} (hd : decode bytes pc = .ok (.idiv, 1)) (hw : w ≠ 0) (g : own_G p e below (T.setTop (mkF m (pc + 1) ls (.int (v / w) :: st))) Q) : own_G p e below (T.setTop (mkF m pc ls (.int w :: .int v :: st))) Q := by
  obtain ⟨⟨hx, hby, -⟩, -, -, locs, X, -⟩ := X
  subst hby
  exact own_st (fun t q => XS.idiv X.here hx rfl hd rfl hw q) g
theorem own_iremS (X : own_X p l e R s m args below meth c Z bytes maxL ret y n0 h T k n) {v w : Int32} (hd : decode bytes pc = .ok (.irem, 1)) (hw : w ≠ 0) (g : own_G p e below (T.setTop (mkF m (pc + 1) ls (.int (own_irem v w) :: st))) Q) : own_G p e below (T.setTop (mkF m pc ls (.int w :: .int v :: st))) Q := by
  obtain ⟨⟨hx, hby, -⟩, -, -, locs, X, -⟩ := X
  subst hby
  exact own_st (fun t q => XS.irem X.here hx rfl hd rfl hw q) g
theorem own_ldiv (X : own_X p l e R s m args below meth c Z bytes maxL ret y n0 h T k n) {v w : Int64} (hd : decode bytes pc = .ok (.ldiv, 1)) (hw : w ≠ 0) (g : own_G p e below (T.setTop (mkF m (pc + 1) ls (.long (v / w) :: st))) Q) : own_G p e below (T.setTop (mkF m pc ls (.long w :: .long v :: st))) Q := by
  obtain ⟨⟨hx, hby, -⟩, -, -, locs, X, -⟩ := X
  subst hby
  exact own_st (fun t q => XS.ldiv X.here hx rfl hd rfl hw q) g
theorem own_lremS (X : own_X p l e R s m args below meth c Z bytes maxL ret y n0 h T k n) {v w : Int64} (hd : decode bytes pc = .ok (.lrem, 1)) (hw : w ≠ 0) (g : own_G p e below (T.setTop (mkF m (pc + 1) ls (.long (own_lrem v w) :: st))) Q) : own_G p e below (T.setTop (mkF m pc ls (.long w :: .long v :: st))) Q := by
  obtain ⟨⟨hx, hby, -⟩, -, -, locs, X, -⟩ := X
  subst hby
  exact own_st (fun t q => XS.lrem X.here hx rfl hd rfl hw q) g
/-! constants of the pool -/
theorem own_ldc (X : own_X p l e R s m args below meth c Z bytes maxL ret y n0 h T k n) {i : Nat} {v : Int32} (w : (Jvm.Cond.constant y.cls i v).before a0 Z = true) (hd : decode bytes pc = .ok (.ldc i, 2)) (g : own_G p e below (T.setTop (mkF m (pc + 2) ls (.int v :: st))) Q) : own_G p e below (T.setTop (mkF m pc ls st)) Q := by
  obtain ⟨⟨hx, hby, hml, hown, hnm, hret, hZ, hlk⟩, -, -, locs, X, -⟩ := X
  subst hby
  exact own_st (fun t q => X.ldcInt hx hown (mvT hZ w) (g := mkF m pc ls st) rfl hd t q) g
theorem own_ldc2 (X : own_X p l e R s m args below meth c Z bytes maxL ret y n0 h T k n) {i : Nat} {v : Int64} (w : (Jvm.Cond.constantLong y.cls i v).before a0 Z = true) (hd : decode bytes pc = .ok (.ldc2_w i, 3)) (g : own_G p e below (T.setTop (mkF m (pc + 3) ls (.long v :: st))) Q) : own_G p e below (T.setTop (mkF m pc ls st)) Q := by
  obtain ⟨⟨hx, hby, hml, hown, hnm, hret, hZ, hlk⟩, -, -, locs, X, -⟩ := X
  subst hby
  exact own_st (fun t q => X.ldc2Long hx hown (mvT hZ w) (g := mkF m pc ls st) rfl hd t q) g
/-! returns -/
variable {P : Option Value → Heap → Prop} {C S : Nat}
theorem own_retI (X : own_X p l e R s m args below meth c Z bytes maxL (some .int) y n0 h T k n) (hd : decode bytes pc = .ok (.ireturn, 1)) {v : Int32} (hk : k ≤ C) (hn : n ≤ S) (hP : P (some (.int v)) h) : own_G p e below (T.setTop (mkF m pc ls (.int v :: st))) (own_E s n0 P C S) := by
  obtain ⟨⟨hx, hby, hml, hown, hnm, hret, hZ, hlk⟩, -, eT, locs, X, N⟩ := X
  subst hby
  obtain ⟨fs, hr, hrun, hended, hW, hsame⟩ := X.leave (v := some (.int v)) (fun q => by rw [hret] at q; cases q)
  refine ⟨_, _, ?_, hrun, hended, _, _, rfl, ⟨N, by show P _ T.heap; rw [eT]; exact hP⟩, ⟨_, rfl⟩, hW, hsame.mono hk hn⟩
  have hm' : T.vm.method? m = some meth := X.method'
  have hnn : narrow .int (.int v) = .int v := rfl
  show Steps p.tables e below (T.setTop { method := m, pc := pc, locals := ls, stack := _ :: st, locked := none }) _
  jvm_step X.here [X.here.top, hx, hd, hm', hret, hnn]
  first | (intro acts; rw [hr _ acts rfl rfl rfl]) | rw [hr _ _ rfl rfl rfl]
  exact Steps.refl _
theorem own_retN {t : FieldType} (X : own_X p l e R s m args below meth c Z bytes maxL (some t) y n0 h T k n) (ht : t = .boolean ∨ t = .byte ∨ t = .char ∨ t = .short) (hd : decode bytes pc = .ok (.ireturn, 1)) {v v' : Int32} (hv : nar t v = v') (hk : k ≤ C) (hn : n ≤ S) (hP : P (some (.int v')) h) : own_G p e below (T.setTop (mkF m pc ls (.int v :: st))) (own_E s n0 P C S) := by
  obtain ⟨⟨hx, hby, hml, hown, hnm, hret, hZ, hlk⟩, -, eT, locs, X, N⟩ := X
  subst hby hv
  obtain ⟨fs, hr, hrun, hended, hW, hsame⟩ := X.leave (v := some (.int (nar t v))) (fun q => by rw [hret] at q; cases q)
  exact ⟨_, _, retN X hx hret ht hd hr, hrun, hended, _, _, rfl, ⟨N, by show P _ T.heap; rw [eT]; exact hP⟩, ⟨_, rfl⟩, hW, hsame.mono hk hn⟩
theorem own_retL (X : own_X p l e R s m args below meth c Z bytes maxL (some .long) y n0 h T k n) (hd : decode bytes pc = .ok (.lreturn, 1)) {v : Int64} (hk : k ≤ C) (hn : n ≤ S) (hP : P (some (.long v)) h) : own_G p e below (T.setTop (mkF m pc ls [.long v])) (own_E s n0 P C S) := by
  obtain ⟨⟨hx, hby, hml, hown, hnm, hret, hZ, hlk⟩, -, eT, locs, X, N⟩ := X
  subst hby
  obtain ⟨fs, hr, hrun, hended, hW, hsame⟩ := X.leave (v := some (.long v)) (fun q => by rw [hret] at q; cases q)
  exact ⟨_, _, X.lreturnOut hx hret hd hr, hrun, hended, _, _, rfl, ⟨N, by show P _ T.heap; rw [eT]; exact hP⟩, ⟨_, rfl⟩, hW, hsame.mono hk hn⟩
theorem own_retA {t : FieldType} (X : own_X p l e R s m args below meth c Z bytes maxL (some t) y n0 h T k n) (ht : t.isReference = true) (hd : decode bytes pc = .ok (.areturn, 1)) {v : Addr} (hk : k ≤ C) (hn : n ≤ S) (hP : P (some (.ref v)) h) : own_G p e below (T.setTop (mkF m pc ls [.ref v])) (own_E s n0 P C S) := by
  obtain ⟨⟨hx, hby, hml, hown, hnm, hret, hZ, hlk⟩, -, eT, locs, X, N⟩ := X
  subst hby
  obtain ⟨fs, hr, hrun, hended, hW, hsame⟩ := X.leave (v := some (.ref v)) (fun q => by rw [hret] at q; cases q)
  exact ⟨_, _, X.areturnOut hx rfl hret ht hd hr, hrun, hended, _, _, rfl, ⟨N, by show P _ T.heap; rw [eT]; exact hP⟩, ⟨_, rfl⟩, hW, hsame.mono hk hn⟩
theorem own_retV (X : own_X p l e R s m args below meth c Z bytes maxL none y n0 h T k n) (hd : decode bytes pc = .ok (.return_, 1)) (hk : k ≤ C) (hn : n ≤ S) (hP : P none h) : own_G p e below (T.setTop (mkF m pc ls [])) (own_E s n0 P C S) := by
  obtain ⟨⟨hx, hby, hml, hown, hnm, hret, hZ, hlk⟩, -, eT, locs, X, N⟩ := X
  subst hby
  obtain ⟨fs, hr, hrun, hended, hW, hsame⟩ := X.leave (v := none) (fun _ => rfl)
  exact ⟨_, _, X.returnOut hx hret hd hr, hrun, hended, _, _, rfl, ⟨N, by show P _ T.heap; rw [eT]; exact hP⟩, ⟨_, rfl⟩, hW, hsame.mono hk hn⟩
/-! calls -/
theorem own_callS (X : own_X p l e R s m args below meth c Z bytes maxL ret y n0 h T k n) {i : Nat} {z : MethodName} {zb : ByteArray} {zl : Nat} {zr : Option FieldType} {rm : Room} {as : Array Value} {P : Option Value → Heap → Prop}
    (w1 : (Jvm.Cond.methodLink y.cls i z).before a0 Z = true) (w2 : (Jvm.Cond.static z).before a0 Z = true) (w3 : (Jvm.Cond.initialized z.cls).before a0 Z = true) (w4 : (Jvm.Cond.code z zb zl zr).before a0 Z = true) (hy : z.cls ≠ "java/lang/invoke/MethodHandle" ∧ z.cls ≠ "java/lang/invoke/VarHandle")
    (K : own_C l Z z zb zl zr rm as h n0 P) (hd : decode bytes pc = .ok (.invokestatic i, 3)) (argsL rest : List Value) (hst : st = argsL.reverse ++ rest) (has : argsL.toArray = as) {ps : List FieldType} {pr : Option FieldType} (hsg : parseMethodDescriptor z.desc = some ⟨ps, pr⟩) (hlen : argsL.length = ps.length) (hsz : ls.size = maxL)
    (hf : rm.frames + 1 ≤ R.frames) (hl : (rest.map fun v => v.category).sum + (zl + 11) + rm.locals ≤ R.locals) (hc : k + rm.cells ≤ R.cells) (hs : n + rm.slots ≤ R.slots) (hn : ∀ v h', P v h' → n0 ≤ h'.size)
    (g : ∀ v h' T', own_X p l e R s m args below meth c Z bytes maxL ret y n0 h' T' (k + rm.cells) (n + rm.slots) → P v h' → own_G p e below (T'.setTop (mkF m (pc + 3) ls (v.toList ++ rest))) Q) : own_G p e below (T.setTop (mkF m pc ls st)) Q := by
  obtain ⟨M, hn0, eT, locs, X, N⟩ := X
  have M' := M
  obtain ⟨hx, hby, hml, hown, hnm, hret, hZ, hlk⟩ := M'
  subst hby hst has
  obtain ⟨v, vm₁, B, -, X', ⟨L, hq, l1, l2, l3⟩, stp⟩ := Jvm.LawKit.callS X hx (y := z) hown (mvT hZ w1) (mvT hZ w2) (mvT hZ w3) (mvT hZ w4) hy (backOf (W := (rest.map fun v => v.category).sum) (Q := fun v h' L => Fr n0 L ∧ P v h') (K []) hZ w4 w3 hf hl) (g := mkF m pc ls (argsL.reverse ++ rest)) rfl (hsz.trans hml.symm) (argsL := argsL) (rest := rest)
    (lenOf hsg hlen) rfl (Nat.le_of_eq (Nat.zero_add _)) hd (fun _ _ => ⟨rfl, eT, hc, hs⟩)
  obtain ⟨U, Lc, k', n'⟩ := B
  dsimp only [Pt.U, Pt.locs, Pt.cells, Pt.slots] at X' hq l1 l2 l3 stp
  subst l1 l2 l3
  exact own_st stp (g v U.heap U ⟨M, hn v _ hq.2, rfl, _, X', Fr.app N hq.1⟩ hq.2)
theorem own_callP (X : own_X p l e R s m args below meth c Z bytes maxL ret y n0 h T k n) {i : Nat} {z : MethodName} {zb : ByteArray} {zl : Nat} {zr : Option FieldType} {rm : Room} {as : Array Value} {v : Option Value}
    (w1 : (Jvm.Cond.methodLink y.cls i z).before a0 Z = true) (w2 : (Jvm.Cond.static z).before a0 Z = true) (w3 : (Jvm.Cond.initialized z.cls).before a0 Z = true) (w4 : (Jvm.Cond.code z zb zl zr).before a0 Z = true) (hy : z.cls ≠ "java/lang/invoke/MethodHandle" ∧ z.cls ≠ "java/lang/invoke/VarHandle")
    (K : own_C l Z z zb zl zr rm as h n0 (fun v' h' => v' = v ∧ h' = h)) (hd : decode bytes pc = .ok (.invokestatic i, 3)) (argsL rest : List Value) (hst : st = argsL.reverse ++ rest) (has : argsL.toArray = as) {ps : List FieldType} {pr : Option FieldType} (hsg : parseMethodDescriptor z.desc = some ⟨ps, pr⟩) (hlen : argsL.length = ps.length) (hsz : ls.size = maxL)
    (hf : rm.frames + 1 ≤ R.frames) (hl : (rest.map fun v => v.category).sum + (zl + 11) + rm.locals ≤ R.locals) (hc : k + rm.cells ≤ R.cells) (hs : n + rm.slots ≤ R.slots)
    (g : ∀ T', own_X p l e R s m args below meth c Z bytes maxL ret y n0 h T' (k + rm.cells) (n + rm.slots) → own_G p e below (T'.setTop (mkF m (pc + 3) ls (v.toList ++ rest))) Q) : own_G p e below (T.setTop (mkF m pc ls st)) Q :=
  own_callS X w1 w2 w3 w4 hy K hd argsL rest hst has hsg hlen hsz hf hl hc hs (fun v h' q => by rw [q.2]; exact X.2.1) (fun v' h' T' X' q => by obtain ⟨q1, q2⟩ := q; subst q1; rw [q2] at X'; exact g T' X')
theorem own_callN (X : own_X p l e R s m args below meth c Z bytes maxL ret y n0 h T k n) {i : Nat} {z : MethodName} {zb : ByteArray} {zl : Nat} {rm : Room} {as : Array Value} {P : Option Value → Heap → Prop} (hz : z.name = "<init>")
    (w1 : (Jvm.Cond.methodLink y.cls i z).before a0 Z = true) (w2 : (Jvm.Cond.instanceMethod z).before a0 Z = true) (w3 : (Jvm.Cond.initialized z.cls).before a0 Z = true) (w4 : (Jvm.Cond.code z zb zl none).before a0 Z = true) (hy : z.cls ≠ "java/lang/invoke/MethodHandle" ∧ z.cls ≠ "java/lang/invoke/VarHandle")
    (K : own_C l Z z zb zl none rm as h n0 P) (hd : decode bytes pc = .ok (.invokespecial i, 3)) {a : Addr} (argsL rest : List Value) (hst : st = argsL.reverse ++ .ref a :: rest) (has : (.ref a :: argsL).toArray = as) {ps : List FieldType} {pr : Option FieldType} (hsg : parseMethodDescriptor z.desc = some ⟨ps, pr⟩) (hlen : argsL.length = ps.length) (hsz : ls.size = maxL)
    (hf : rm.frames + 1 ≤ R.frames) (hl : (rest.map fun v => v.category).sum + (zl + 11) + rm.locals ≤ R.locals) (hc : k + rm.cells ≤ R.cells) (hs : n + rm.slots ≤ R.slots) (hn : ∀ v h', P v h' → n0 ≤ h'.size)
    (g : ∀ v h' T', own_X p l e R s m args below meth c Z bytes maxL ret y n0 h' T' (k + rm.cells) (n + rm.slots) → P v h' → own_G p e below (T'.setTop (mkF m (pc + 3) ls (v.toList ++ rest))) Q) : own_G p e below (T.setTop (mkF m pc ls st)) Q := by
  obtain ⟨M, hn0, eT, locs, X, N⟩ := X
  have M' := M
  obtain ⟨hx, hby, hml, hown, hnm, hret, hZ, hlk⟩ := M'
  subst hby hst has
  obtain ⟨v, vm₁, B, -, X', ⟨L, hq, l1, l2, l3⟩, stp⟩ := X.specialBack hx (y := z) hz hown (mvT hZ w1) (mvT hZ w2) (mvT hZ w4) hy (backOf (W := (rest.map fun v => v.category).sum) (Q := fun v h' L => Fr n0 L ∧ P v h') (K []) hZ w4 w3 hf hl) (g := mkF m pc ls (argsL.reverse ++ .ref a :: rest)) rfl (hsz.trans hml.symm) (Steps.refl _) (a := a) (argsL := argsL) (rest := rest)
    (lenOf hsg hlen) rfl (Nat.le_of_eq (Nat.zero_add _)) hd (fun _ _ => ⟨rfl, eT, hc, hs⟩)
  obtain ⟨U, Lc, k', n'⟩ := B
  dsimp only [Pt.U, Pt.locs, Pt.cells, Pt.slots] at X' hq l1 l2 l3 stp
  subst l1 l2 l3
  exact own_st (fun t q => stp.trans q) (g v U.heap U ⟨M, hn v _ hq.2, rfl, _, X', Fr.app N hq.1⟩ hq.2)
theorem own_callV (X : own_X p l e R s m args below meth c Z bytes maxL ret y n0 h T k n) {i : Nat} {z : MethodName} {zb : ByteArray} {zl : Nat} {zr : Option FieldType} {rm : Room} {as : Array Value} {P : Option Value → Heap → Prop}
    (w1 : (Jvm.Cond.methodLink y.cls i z).before a0 Z = true) (w2 : (Jvm.Cond.declares z).before a0 Z = true) (w5 : (Jvm.Cond.selects z.cls z z).before a0 Z = true) (w6 : (Jvm.Cond.instanceMethod z).before a0 Z = true) (w3 : (Jvm.Cond.initialized z.cls).before a0 Z = true) (w4 : (Jvm.Cond.code z zb zl zr).before a0 Z = true) (hy : z.cls ≠ "java/lang/invoke/MethodHandle" ∧ z.cls ≠ "java/lang/invoke/VarHandle")
    {a : Addr} (E : Exa Z h a z.cls) (K : own_C l Z z zb zl zr rm as h n0 P) (hd : decode bytes pc = .ok (.invokevirtual i, 3)) (argsL rest : List Value) (hst : st = argsL.reverse ++ .ref a :: rest) (has : (.ref a :: argsL).toArray = as) {ps : List FieldType} {pr : Option FieldType} (hsg : parseMethodDescriptor z.desc = some ⟨ps, pr⟩) (hlen : argsL.length = ps.length) (hsz : ls.size = maxL)
    (hf : rm.frames + 1 ≤ R.frames) (hl : (rest.map fun v => v.category).sum + (zl + 11) + rm.locals ≤ R.locals) (hc : k + rm.cells ≤ R.cells) (hs : n + rm.slots ≤ R.slots) (hn : ∀ v h', P v h' → n0 ≤ h'.size)
    (g : ∀ v h' T', own_X p l e R s m args below meth c Z bytes maxL ret y n0 h' T' (k + rm.cells) (n + rm.slots) → P v h' → own_G p e below (T'.setTop (mkF m (pc + 3) ls (v.toList ++ rest))) Q) : own_G p e below (T.setTop (mkF m pc ls st)) Q := by
  obtain ⟨M, hn0, eT, locs, X, N⟩ := X
  have M' := M
  obtain ⟨hx, hby, hml, hown, hnm, hret, hZ, hlk⟩ := M'
  subst hby hst has
  obtain ⟨cq, kq, qa, qb, qc⟩ := isOf hZ eT E
  obtain ⟨v, vm₁, B, -, X', ⟨L, hq, l1, l2, l3⟩, stp⟩ := X.virtualBack hx (y := z) (z := z) hown (mvT hZ w1) (mvT hZ w2) (notFace_of_selects (args := #[]) (mvT hZ w5)) (mvT hZ w5) (mvT hZ w6) hy (backOf (W := (rest.map fun v => v.category).sum) (Q := fun v h' L => Fr n0 L ∧ P v h') (K []) hZ w4 w3 hf hl) qa qc (g := mkF m pc ls (argsL.reverse ++ .ref a :: rest)) rfl (hsz.trans hml.symm) (Steps.refl _) (argsL := argsL) (rest := rest)
    (lenOf hsg hlen) rfl (Nat.le_of_eq (Nat.zero_add _)) hd (fun _ _ => ⟨rfl, eT, hc, hs⟩)
  obtain ⟨U, Lc, k', n'⟩ := B
  dsimp only [Pt.U, Pt.locs, Pt.cells, Pt.slots] at X' hq l1 l2 l3 stp
  subst l1 l2 l3
  exact own_st (fun t q => stp.trans q) (g v U.heap U ⟨M, hn v _ hq.2, rfl, _, X', Fr.app N hq.1⟩ hq.2)
/-! fields -/
theorem own_getF (X : own_X p l e R s m args below meth c Z bytes maxL ret y n0 h T k n) {i : Nat} {O f d : String} (w : (Jvm.Cond.fieldLink y.cls i O f d).before a0 Z = true) {a : Addr} {v : Value} (F : Fld Z h a O f d v) (hd : decode bytes pc = .ok (.getfield i, 3))
    (g : ∀ T', own_X p l e R s m args below meth c Z bytes maxL ret y n0 h T' k n → own_G p e below (T'.setTop (mkF m (pc + 3) ls (v :: st))) Q) : own_G p e below (T.setTop (mkF m pc ls (.ref a :: st))) Q := by
  obtain ⟨M, hn0, eT, locs, X, N⟩ := X
  have M' := M
  obtain ⟨hx, hby, hml, hown, hnm, hret, hZ, hlk⟩ := M'
  subst hby
  obtain ⟨T', X', e', stp⟩ := getF X hx hZ hown (host := "") (Or.inl w) Via.refl eT F (g := mkF m pc ls (.ref a :: st)) rfl rfl hd
  exact own_st stp (g T' ⟨M, hn0, e', _, X', N⟩)
theorem own_putF (X : own_X p l e R s m args below meth c Z bytes maxL ret y n0 h T k n) {i kk : Nat} {O f d K : String} {ty : FieldType} (w : (Jvm.Cond.fieldLink y.cls i O f d).before a0 Z = true) {a : Addr} {v old : Value} (F : Fld Z h a O f d old) (E : Exa Z h a K) (L : (Jvm.Cond.lays K O f d).before a0 Z = true ∨ ((Jvm.Cond.laysFinal K O f d).before a0 Z = true ∧ y.cls = O ∧ y.name = "<init>")) (wi : (Jvm.Cond.instantiable K kk).before a0 Z = true)
    (hty : parseFieldDescriptor d = some ty) (hn : narrow ty v = v) (hf : fits ty v = true) (ha : n0 ≤ a) (hd : decode bytes pc = .ok (.putfield i, 3))
    (g : ∀ h' T', own_X p l e R s m args below meth c Z bytes maxL ret y n0 h' T' k n → Wr h h' a (Jvm.RoadKit.slotOf Z O f d) v → own_G p e below (T'.setTop (mkF m (pc + 3) ls st)) Q) : own_G p e below (T.setTop (mkF m pc ls (v :: .ref a :: st))) Q := by
  obtain ⟨M, hn0, eT, locs, X, N⟩ := X
  have M' := M
  obtain ⟨hx, hby, hml, hown, hnm, hret, hZ, hlk⟩ := M'
  subst hby
  obtain ⟨T', h', X', e', W', stp⟩ := putF X hx hZ hown (host := "") (Or.inl w) Via.refl eT F E (L.imp id fun q => ⟨q.1, q.2.1, hnm.trans q.2.2⟩) wi hty hn hf (g := mkF m pc ls (v :: .ref a :: st)) rfl rfl hd
  exact own_st stp (g h' T' ⟨M, by rw [W'.size]; exact hn0, e', _, X', Fr.snoc X' N ha⟩ W')
/-! new -/
theorem own_newO (X : own_X p l e R s m args below meth c Z bytes maxL ret y n0 h T k n) {i nn : Nat} {K : String} (w : (Jvm.Cond.classLink y.cls i K).before a0 Z = true) (wi : (Jvm.Cond.instantiable K nn).before a0 Z = true) (wz : (Jvm.Cond.initialized K).before a0 Z = true) (hd : decode bytes pc = .ok (.new i, 3)) (hc : k + 1 ≤ R.cells) (hs : n + nn ≤ R.slots)
    (g : ∀ h' T', own_X p l e R s m args below meth c Z bytes maxL ret y n0 h' T' (k + 1) (n + nn) → Ext h h' → Exa Z h' h.size K → (∀ {O nm d : String} {ty : FieldType}, Laid Z a0 K O nm d → parseFieldDescriptor d = some ty → Fld Z h' h.size O nm d (defaultValue ty)) → own_G p e below (T'.setTop (mkF m (pc + 3) ls (.ref h.size :: st))) Q) : own_G p e below (T.setTop (mkF m pc ls st)) Q := by
  obtain ⟨M, hn0, eT, locs, X, N⟩ := X
  have M' := M
  obtain ⟨hx, hby, hml, hown, hnm, hret, hZ, hlk⟩ := M'
  subst hby
  obtain ⟨T', h', X', e', E', A', D', -, stp⟩ := newO X hx hZ hown w wi wz eT (g := mkF m pc ls st) rfl hd hc hs
  exact own_st stp (g h' T' ⟨M, Nat.le_trans hn0 E'.1, e', _, X', N⟩ E' A' D')
end Walk
/-! ### own layer 3: arrays: the array at a has n places, place j holds f j -/
def own_A (Z : State) (h : Heap) (a : Addr) (ty : FieldType) (n : Nat) (f : Int → Value) : Prop := n < 2147483648 ∧ ∃ c : Cell, Arr Z h a c ty ∧ c.slots.size = n ∧ ∀ j : Nat, j < n → c.slots[j]? = some (f (j : Int))
def own_u {α : Type} (f : Int → α) (i : Int) (x : α) : Int → α := fun j => if j = i then x else f j
section Arrs
variable {Z : State} {h h' : Heap} {a b : Addr} {ty : FieldType} {n : Nat} {f : Int → Value}
theorem own_A_lt (A : own_A Z h a ty n f) : a < h.size := by obtain ⟨-, c, A, -⟩ := A; exact A.lt
theorem own_A_ext (A : own_A Z h a ty n f) (E : Ext h h') : own_A Z h' a ty n f := by obtain ⟨q, c, A, r⟩ := A; exact ⟨q, c, A.ext E, r⟩
theorem own_A_other (A : own_A Z h b ty n f) {sl : Nat} {v : Value} (W : Wr h h' a sl v) (q : b ≠ a) : own_A Z h' b ty n f := by obtain ⟨q1, c, A, r⟩ := A; exact ⟨q1, c, A.other W q, r⟩
theorem own_A_keep (A : own_A Z h a ty n f) {ws : List Addr} (K : Keep h h' ws) (q : a ∉ ws) : own_A Z h' a ty n f := by obtain ⟨q1, c, A, r⟩ := A; exact ⟨q1, c, ⟨K.2.1 a c A.1 q, A.2⟩, r⟩
theorem own_A_new {k : ClassId} {z : Int32} (A : Arr Z h a (newA k ty z) ty) (q : 0 ≤ z.toInt) : own_A Z h a ty z.toInt.toNat (fun _ => defaultValue ty) := by
  have := Int32.toInt_lt z
  refine ⟨by omega, _, A, by rw [sz_new]; rfl, fun j hj => ?_⟩
  have hj' : j < z.toNatClampNeg := hj
  simp [newA, hj']
theorem own_A_set {sl : Nat} {v : Value} (A : own_A Z h a ty n f) (W : Wr h h' a sl v) (i : Int) (hi : i = (sl : Int)) : own_A Z h' a ty n (own_u f i v) := by
  obtain ⟨q, c, A, S, H⟩ := A
  have W0 := W
  obtain ⟨c2, g1, -, g3, -⟩ := W0
  cases g1.symm.trans A.1
  refine ⟨q, _, A.same W, by rw [sz_set]; exact S, fun j hj => ?_⟩
  subst hi
  by_cases u : j = sl
  · subst u; simp [Cell.setSlot, own_u, g3]
  · have e1 : ¬ ((j : Int) = (sl : Int)) := by omega
    simp only [own_u, e1, if_false, Cell.setSlot]
    rw [Array.getElem?_setIfInBounds_ne (fun q => u q.symm)]
    exact H j hj
theorem own_A_eq {g : Int → Value} (A : own_A Z h a ty n f) (q : ∀ j : Int, 0 ≤ j → j < n → g j = f j) : own_A Z h a ty n g := by
  obtain ⟨q1, c, A, S, H⟩ := A
  exact ⟨q1, c, A, S, fun j hj => by rw [H j hj, q j (by omega) (by omega)]⟩
theorem own_tnc (j : Int32) : j.toNatClampNeg = j.toInt.toNat := rfl
theorem own_z32 : (0 : Int32).toInt = 0 := rfl
theorem own_idx {j : Int32} (h0 : 0 ≤ j.toInt) : ¬ j < 0 := by rw [Int32.lt_iff_toInt_lt, own_z32]; omega
theorem own_inb {j : Int32} {cl : Cell} (S : cl.slots.size = n) (h0 : 0 ≤ j.toInt) (h1 : j.toInt < n) : ¬ (j < 0 ∨ cl.slots.size ≤ j.toNatClampNeg) := by
  rw [Int32.lt_iff_toInt_lt, S, own_z32, own_tnc]; omega
theorem own_nat {j : Int32} (h0 : 0 ≤ j.toInt) : j.toInt = (j.toNatClampNeg : Int) := by rw [own_tnc]; omega
end Arrs
/-- the same, of ints -/
def own_I (Z : State) (h : Heap) (a : Addr) (ty : FieldType) (n : Nat) (g : Int → Int32) : Prop := own_A Z h a ty n (fun j => .int (g j))
theorem own_I_ext {Z : State} {h h' : Heap} {a : Addr} {ty : FieldType} {n : Nat} {g : Int → Int32} (A : own_I Z h a ty n g) (E : Ext h h') : own_I Z h' a ty n g := own_A_ext A E
theorem own_I_other {Z : State} {h h' : Heap} {a b : Addr} {ty : FieldType} {n : Nat} {g : Int → Int32} (A : own_I Z h b ty n g) {sl : Nat} {v : Value} (W : Wr h h' a sl v) (q : b ≠ a) : own_I Z h' b ty n g := own_A_other A W q
theorem own_I_keep {Z : State} {h h' : Heap} {a : Addr} {ty : FieldType} {n : Nat} {g : Int → Int32} (A : own_I Z h a ty n g) {ws : List Addr} (K : Keep h h' ws) (q : a ∉ ws) : own_I Z h' a ty n g := own_A_keep A K q
theorem own_I_eq {Z : State} {h : Heap} {a : Addr} {ty : FieldType} {n : Nat} {f g : Int → Int32} (A : own_I Z h a ty n f) (q : ∀ j : Int, 0 ≤ j → j < n → g j = f j) : own_I Z h a ty n g := own_A_eq A (fun j h0 h1 => by rw [q j h0 h1])
theorem own_I_set {Z : State} {h h' : Heap} {a : Addr} {ty : FieldType} {n : Nat} {g : Int → Int32} {sl : Nat} {x : Int32} (A : own_I Z h a ty n g) (W : Wr h h' a sl (.int x)) (i : Int) (hi : i = (sl : Int)) : own_I Z h' a ty n (own_u g i x) :=
  own_A_eq (own_A_set A W i hi) (fun j _ _ => by simp only [own_u]; split <;> rfl)
theorem own_u_ne {α : Type} {g : Int → α} {i j : Int} {x : α} (h : j ≠ i) : own_u g i x j = g j := if_neg h
theorem own_u_eq {α : Type} {g : Int → α} {i j : Int} {x : α} (h : j = i) : own_u g i x j = x := if_pos h
section Arrs2
variable {p : Program} {l : Launch} {e : Env} {R : Room} {s : State} {m : MethodId} {args : Array Value} {below : List Frame} {meth : Method} {c : Code} {Z : State} {bytes : ByteArray} {maxL : Nat} {ret : Option FieldType} {y : MethodName} {n0 : Nat} {h : Heap} {T : State} {k n : Nat} {Q : Outcome → State → Prop} {pc pc' : Nat} {ls ls' : Array Slot} {st st' : List Value} {a0 : Array Value} {a : Addr} {nn : Nat} {f : Int → Value} {gg : Int → Int32}
theorem own_len (X : own_X p l e R s m args below meth c Z bytes maxL ret y n0 h T k n) {ty : FieldType} (A : own_A Z h a ty nn f) (hd : decode bytes pc = .ok (.arraylength, 1)) (g : own_G p e below (T.setTop (mkF m (pc + 1) ls (.int (Int32.ofNat nn) :: st))) Q) : own_G p e below (T.setTop (mkF m pc ls (.ref a :: st))) Q := by
  obtain ⟨⟨hx, hby, hml, hown, hnm, hret, hZ, hlk⟩, hn0, eT, locs, X, N⟩ := X
  obtain ⟨q, cl, A, S, H⟩ := A
  subst hby
  refine own_st (fun t q => X.arraylength hx (by rw [eT]; exact A.1) (State.isArrayOf_alike hZ.alike A.2.1) (g := mkF m pc ls (.ref a :: st)) rfl rfl hd t q) ?_
  show own_G p e below (T.setTop (mkF m (pc + 1) ls (.int cl.slots.size.toInt32 :: st))) Q
  rw [S]
  exact g
theorem own_iald (X : own_X p l e R s m args below meth c Z bytes maxL ret y n0 h T k n) (A : own_I Z h a .int nn gg) (hd : decode bytes pc = .ok (.iaload, 1)) {j : Int32} (h0 : 0 ≤ j.toInt) (h1 : j.toInt < nn) (g : own_G p e below (T.setTop (mkF m (pc + 1) ls (.int (gg j.toInt) :: st))) Q) : own_G p e below (T.setTop (mkF m pc ls (.int j :: .ref a :: st))) Q := by
  obtain ⟨⟨hx, hby, hml, hown, hnm, hret, hZ, hlk⟩, hn0, eT, locs, X, N⟩ := X
  obtain ⟨q, cl, A, S, H⟩ := A
  subst hby
  have e1 := own_nat h0
  refine own_st (fun t q => X.iaload hx (by rw [eT]; exact A.1) (State.isArrayOf_alike hZ.alike A.2.1) A.2.2 (own_inb S h0 h1) (H _ (by omega)) (g := mkF m pc ls (.int j :: .ref a :: st)) rfl rfl hd t q) ?_
  show own_G p e below (T.setTop (mkF m (pc + 1) ls (.int (gg (j.toNatClampNeg : Int)) :: st))) Q
  rw [← e1]
  exact g
theorem own_bald (X : own_X p l e R s m args below meth c Z bytes maxL ret y n0 h T k n) (A : own_I Z h a .byte nn gg) (hd : decode bytes pc = .ok (.baload, 1)) {j : Int32} (h0 : 0 ≤ j.toInt) (h1 : j.toInt < nn) (g : own_G p e below (T.setTop (mkF m (pc + 1) ls (.int (gg j.toInt) :: st))) Q) : own_G p e below (T.setTop (mkF m pc ls (.int j :: .ref a :: st))) Q := by
  obtain ⟨⟨hx, hby, hml, hown, hnm, hret, hZ, hlk⟩, hn0, eT, locs, X, N⟩ := X
  obtain ⟨q, cl, A, S, H⟩ := A
  subst hby
  have e1 := own_nat h0
  refine own_st (fun t q => X.baloadBytes hx (by rw [eT]; exact A.1) (State.isArrayOf_alike hZ.alike A.2.1) A.2.2 (own_inb S h0 h1) (H _ (by omega)) (g := mkF m pc ls (.int j :: .ref a :: st)) rfl rfl hd t q) ?_
  show own_G p e below (T.setTop (mkF m (pc + 1) ls (.int (gg (j.toNatClampNeg : Int)) :: st))) Q
  rw [← e1]
  exact g
theorem own_zald (X : own_X p l e R s m args below meth c Z bytes maxL ret y n0 h T k n) (A : own_I Z h a .boolean nn gg) (hd : decode bytes pc = .ok (.baload, 1)) {j : Int32} (h0 : 0 ≤ j.toInt) (h1 : j.toInt < nn) (g : own_G p e below (T.setTop (mkF m (pc + 1) ls (.int (gg j.toInt) :: st))) Q) : own_G p e below (T.setTop (mkF m pc ls (.int j :: .ref a :: st))) Q := by
  obtain ⟨⟨hx, hby, hml, hown, hnm, hret, hZ, hlk⟩, hn0, eT, locs, X, N⟩ := X
  obtain ⟨q, cl, A, S, H⟩ := A
  subst hby
  have e1 := own_nat h0
  refine own_st (fun t q => X.baloadBooleans hx (by rw [eT]; exact A.1) (State.isArrayOf_alike hZ.alike A.2.1) A.2.2 (own_inb S h0 h1) (H _ (by omega)) (g := mkF m pc ls (.int j :: .ref a :: st)) rfl rfl hd t q) ?_
  show own_G p e below (T.setTop (mkF m (pc + 1) ls (.int (gg (j.toNatClampNeg : Int)) :: st))) Q
  rw [← e1]
  exact g
theorem own_iast (X : own_X p l e R s m args below meth c Z bytes maxL ret y n0 h T k n) (A : own_I Z h a .int nn gg) (ha : n0 ≤ a) (hd : decode bytes pc = .ok (.iastore, 1)) {j x : Int32} (h0 : 0 ≤ j.toInt) (h1 : j.toInt < nn)
    (g : ∀ h' T', own_X p l e R s m args below meth c Z bytes maxL ret y n0 h' T' k n → own_I Z h' a .int nn (own_u gg j.toInt x) → Wr h h' a j.toNatClampNeg (.int x) → own_G p e below (T'.setTop (mkF m (pc + 1) ls st)) Q) : own_G p e below (T.setTop (mkF m pc ls (.int x :: .int j :: .ref a :: st))) Q := by
  obtain ⟨M, hn0, eT, locs, X, N⟩ := X
  have M' := M
  obtain ⟨hx, hby, hml, hown, hnm, hret, hZ, hlk⟩ := M'
  have AA := A
  obtain ⟨q, cl, A, S, H⟩ := A
  subst hby
  obtain ⟨T', h', X', e', W', stp⟩ := stI X hx hZ eT A (own_inb S h0 h1) (g := mkF m pc ls (.int x :: .int j :: .ref a :: st)) rfl rfl hd
  exact own_st stp (g h' T' ⟨M, by rw [W'.size]; exact hn0, e', _, X', Fr.snoc X' N ha⟩ (own_I_set AA W' _ (own_nat h0)) W')
theorem own_bast (X : own_X p l e R s m args below meth c Z bytes maxL ret y n0 h T k n) (A : own_I Z h a .byte nn gg) (ha : n0 ≤ a) (hd : decode bytes pc = .ok (.bastore, 1)) {j x : Int32} (h0 : 0 ≤ j.toInt) (h1 : j.toInt < nn) (hx8 : x.toInt8.toInt32 = x)
    (g : ∀ h' T', own_X p l e R s m args below meth c Z bytes maxL ret y n0 h' T' k n → own_I Z h' a .byte nn (own_u gg j.toInt x) → Wr h h' a j.toNatClampNeg (.int x) → own_G p e below (T'.setTop (mkF m (pc + 1) ls st)) Q) : own_G p e below (T.setTop (mkF m pc ls (.int x :: .int j :: .ref a :: st))) Q := by
  obtain ⟨M, hn0, eT, locs, X, N⟩ := X
  have M' := M
  obtain ⟨hx, hby, hml, hown, hnm, hret, hZ, hlk⟩ := M'
  have AA := A
  obtain ⟨q, cl, A, S, H⟩ := A
  subst hby
  obtain ⟨T', h', X', e', W', stp⟩ := stB X hx hZ eT A (own_inb S h0 h1) (g := mkF m pc ls (.int x :: .int j :: .ref a :: st)) rfl rfl hd
  have W2 : Wr h h' a j.toNatClampNeg (.int x) := by have q := W'; simp only [nar, hx8] at q; exact q
  exact own_st stp (g h' T' ⟨M, by rw [W'.size]; exact hn0, e', _, X', Fr.snoc X' N ha⟩ (own_I_set AA W2 _ (own_nat h0)) W2)
theorem own_zast (X : own_X p l e R s m args below meth c Z bytes maxL ret y n0 h T k n) (A : own_I Z h a .boolean nn gg) (ha : n0 ≤ a) (hd : decode bytes pc = .ok (.bastore, 1)) {j x : Int32} (h0 : 0 ≤ j.toInt) (h1 : j.toInt < nn) (hx1 : x &&& 1 = x)
    (g : ∀ h' T', own_X p l e R s m args below meth c Z bytes maxL ret y n0 h' T' k n → own_I Z h' a .boolean nn (own_u gg j.toInt x) → Wr h h' a j.toNatClampNeg (.int x) → own_G p e below (T'.setTop (mkF m (pc + 1) ls st)) Q) : own_G p e below (T.setTop (mkF m pc ls (.int x :: .int j :: .ref a :: st))) Q := by
  obtain ⟨M, hn0, eT, locs, X, N⟩ := X
  have M' := M
  obtain ⟨hx, hby, hml, hown, hnm, hret, hZ, hlk⟩ := M'
  have AA := A
  obtain ⟨q, cl, A, S, H⟩ := A
  subst hby
  obtain ⟨T', h', X', e', W', stp⟩ := stZ X hx hZ eT A (own_inb S h0 h1) (g := mkF m pc ls (.int x :: .int j :: .ref a :: st)) rfl rfl hd
  have W2 : Wr h h' a j.toNatClampNeg (.int x) := by have q := W'; simp only [nar, hx1] at q; exact q
  exact own_st stp (g h' T' ⟨M, by rw [W'.size]; exact hn0, e', _, X', Fr.snoc X' N ha⟩ (own_I_set AA W2 _ (own_nat h0)) W2)
theorem own_jast (X : own_X p l e R s m args below meth c Z bytes maxL ret y n0 h T k n) (A : own_A Z h a .long nn f) (ha : n0 ≤ a) (hd : decode bytes pc = .ok (.lastore, 1)) {j : Int32} {x : Int64} (h0 : 0 ≤ j.toInt) (h1 : j.toInt < nn)
    (g : ∀ h' T', own_X p l e R s m args below meth c Z bytes maxL ret y n0 h' T' k n → own_A Z h' a .long nn (own_u f j.toInt (.long x)) → Wr h h' a j.toNatClampNeg (.long x) → own_G p e below (T'.setTop (mkF m (pc + 1) ls st)) Q) : own_G p e below (T.setTop (mkF m pc ls (.long x :: .int j :: .ref a :: st))) Q := by
  obtain ⟨M, hn0, eT, locs, X, N⟩ := X
  have M' := M
  obtain ⟨hx, hby, hml, hown, hnm, hret, hZ, hlk⟩ := M'
  have AA := A
  obtain ⟨q, cl, A, S, H⟩ := A
  subst hby
  obtain ⟨T', h', X', e', W', stp⟩ := stJ X hx hZ eT A (own_inb S h0 h1) (g := mkF m pc ls (.long x :: .int j :: .ref a :: st)) rfl rfl hd
  exact own_st stp (g h' T' ⟨M, by rw [W'.size]; exact hn0, e', _, X', Fr.snoc X' N ha⟩ (own_A_set AA W' _ (own_nat h0)) W')
theorem own_newP (X : own_X p l e R s m args below meth c Z bytes maxL ret y n0 h T k n) {aty : ArrayType} (w : (Jvm.Cond.arrayClass (newarray.typeOf aty)).before a0 Z = true) (hd : decode bytes pc = .ok (.newarray aty, 2)) {v : Int32} (h0 : 0 ≤ v.toInt) (cap : Nat) (hcap : v.toInt ≤ cap) (hb : cap * 8 ≤ 536870912) (hc : k + 1 ≤ R.cells) (hs : n + cap ≤ R.slots)
    (g : ∀ h' T', own_X p l e R s m args below meth c Z bytes maxL ret y n0 h' T' (k + 1) (n + cap) → Ext h h' → own_A Z h' h.size (newarray.typeOf aty) v.toInt.toNat (fun _ => defaultValue (newarray.typeOf aty)) → own_G p e below (T'.setTop (mkF m (pc + 2) ls (.ref h.size :: st))) Q) : own_G p e below (T.setTop (mkF m pc ls (.int v :: st))) Q := by
  obtain ⟨M, hn0, eT, locs, X, N⟩ := X
  have M' := M
  obtain ⟨hx, hby, hml, hown, hnm, hret, hZ, hlk⟩ := M'
  subst hby
  have e1 := own_nat h0
  obtain ⟨T', h', cA, X', e', E', A', stp⟩ := newP X hx hZ w eT (g := mkF m pc ls (.int v :: st)) rfl hd rfl (own_idx h0) (cap := cap) (by omega) hb hc hs
  exact own_st stp (g h' T' ⟨M, Nat.le_trans hn0 E'.1, e', _, X', N⟩ E' (own_A_new A' h0))
theorem own_newI (X : own_X p l e R s m args below meth c Z bytes maxL ret y n0 h T k n) {aty : ArrayType} (w : (Jvm.Cond.arrayClass (newarray.typeOf aty)).before a0 Z = true) (hdf : defaultValue (newarray.typeOf aty) = .int 0) (hd : decode bytes pc = .ok (.newarray aty, 2)) {v : Int32} (h0 : 0 ≤ v.toInt) (cap : Nat) (hcap : v.toInt ≤ cap) (hb : cap * 8 ≤ 536870912) (hc : k + 1 ≤ R.cells) (hs : n + cap ≤ R.slots)
    (g : ∀ h' T', own_X p l e R s m args below meth c Z bytes maxL ret y n0 h' T' (k + 1) (n + cap) → Ext h h' → own_I Z h' h.size (newarray.typeOf aty) v.toInt.toNat (fun _ => 0) → own_G p e below (T'.setTop (mkF m (pc + 2) ls (.ref h.size :: st))) Q) : own_G p e below (T.setTop (mkF m pc ls (.int v :: st))) Q :=
  own_newP X w hd h0 cap hcap hb hc hs (fun h' T' X' E A => g h' T' X' E (own_A_eq A fun _ _ _ => hdf.symm))
end Arrs2
section Obj
variable {p : Program} {l : Launch} {e : Env} {R : Room} {s : State} {m : MethodId} {args : Array Value} {below : List Frame} {meth : Method} {c : Code} {Z : State} {bytes : ByteArray} {maxL : Nat} {ret : Option FieldType} {y : MethodName} {n0 : Nat} {h : Heap} {T : State} {k n : Nat} {Q : Outcome → State → Prop} {pc pc' : Nat} {ls ls' : Array Slot} {st st' : List Value} {a0 : Array Value}
/-- the constructor of Object -/
theorem own_init (X : own_X p l e R s m args below meth c Z bytes maxL ret y n0 h T k n) {i : Nat} (w1 : (Jvm.Cond.methodLink y.cls i Lib.objectInit).before a0 Z = true) (w2 : (Jvm.Cond.instanceMethod Lib.objectInit).before a0 Z = true) (w3 : (Jvm.Cond.code Lib.objectInit object_method_1_code 1 none).before a0 Z = true) (hd : decode bytes pc = .ok (.invokespecial i, 3)) {a : Addr} (hsz : ls.size = maxL) (hf : 1 ≤ R.frames) (hl : (st.map fun v => v.category).sum + 12 ≤ R.locals)
    (g : ∀ T', own_X p l e R s m args below meth c Z bytes maxL ret y n0 h T' k n → own_G p e below (T'.setTop (mkF m (pc + 3) ls st)) Q) : own_G p e below (T.setTop (mkF m pc ls (.ref a :: st))) Q := by
  obtain ⟨M, hn0, eT, locs, X, N⟩ := X
  have M' := M
  obtain ⟨hx, hby, hml, hown, hnm, hret, hZ, hlk⟩ := M'
  subst hby
  obtain ⟨T', X', e', stp⟩ := initO X hx hZ hown w1 w2 w3 eT (g := mkF m pc ls (.ref a :: st)) rfl (hsz.trans hml.symm) rfl hd hf (Nat.le_of_eq (Nat.zero_add _)) hl
  exact own_st stp (g T' ⟨M, hn0, e', _, X', N⟩)
end Obj
/-! ### own numbers -/
theorem own_addc {x k : Int32} {d : Int} (hk : k.toInt = d) (h1 : -2147483648 ≤ x.toInt + d) (h2 : x.toInt + d < 2147483648) : (x + k).toInt = x.toInt + d := by
  subst hk; exact Jvm.Kit.i32_add (by omega) (by omega)
theorem own_subc {x k : Int32} {d : Int} (hk : k.toInt = d) (h1 : -2147483648 ≤ x.toInt - d) (h2 : x.toInt - d < 2147483648) : (x - k).toInt = x.toInt - d := by
  subst hk; exact Jvm.Kit.i32_sub (by omega) (by omega)
theorem own_mulc {x k : Int32} {d : Int} (hk : k.toInt = d) (h1 : -2147483648 ≤ x.toInt * d) (h2 : x.toInt * d < 2147483648) : (x * k).toInt = x.toInt * d := by
  subst hk; exact Jvm.Kit.i32_mul (by omega) (by omega)
theorem own_i2b_int (x : Int32) : (own_i2b x).toInt = x.toInt.bmod 256 := by
  simp [own_i2b, Int8.toInt_toInt32, Int32.toInt_toInt8]
theorem own_i2b_b (x : Int32) : -128 ≤ (own_i2b x).toInt ∧ (own_i2b x).toInt < 128 ∧ (own_i2b x).toInt % 256 = x.toInt % 256 := by
  rw [own_i2b_int]
  have h1 := Int.bmod_emod (x := x.toInt) (m := 256)
  have h2 := Int.le_bmod (x := x.toInt) (m := 256) (by decide)
  have h3 := Int.bmod_lt (x := x.toInt) (m := 256) (by decide)
  omega
theorem own_i2b_fix (x : Int32) : (own_i2b x).toInt8.toInt32 = own_i2b x := by
  simp [own_i2b]
theorem own_i2b_id {x : Int32} (h1 : -128 ≤ x.toInt) (h2 : x.toInt < 128) : own_i2b x = x := by
  apply Int32.toInt_inj.mp
  have := own_i2b_b x
  omega
theorem own_irem_int (x y : Int32) : (own_irem x y).toInt = x.toInt.tmod y.toInt := by
  have a := (x % y).toInt_lt; have b := (x % y).le_toInt
  rw [Int32.toInt_mod] at a b
  rw [own_irem, Int32.toInt_sub, Int32.toInt_mul, Int32.toInt_div, Int.bmod_mul_bmod, Int.sub_bmod_bmod, Int.mul_comm, ← Int.tmod_def]
  exact Jvm.Kit.bmod32 b a
theorem own_irem_pos {x y : Int32} (h : 0 ≤ x.toInt) : (own_irem x y).toInt = x.toInt % y.toInt := by rw [own_irem_int, Int.tmod_eq_emod_of_nonneg h]
theorem own_idiv_pos {x y : Int32} (h : 0 ≤ x.toInt) : (x / y).toInt = x.toInt / y.toInt := by
  have a := x.toInt_lt
  rw [Jvm.Kit.i32_div (by omega), Int.tdiv_eq_ediv_of_nonneg h]
theorem own_lrem_pos {x y : Int64} (h : 0 ≤ x.toInt) : (own_lrem x y).toInt = x.toInt % y.toInt := by rw [own_lrem]; exact Jvm.Kit.i64_rem_nonneg h
theorem own_ldiv_pos {x y : Int64} (h : 0 ≤ x.toInt) : (x / y).toInt = x.toInt / y.toInt := by
  have a := x.toInt_lt
  rw [Jvm.Kit.i64_div (by omega), Int.tdiv_eq_ediv_of_nonneg h]
/-! bits -/
theorem own_lushr_bv (x : Int64) (y : Int32) (k : Nat) (hk : ((y &&& 0x3f).toInt64.toBitVec % 64).toNat = k) : (own_lushr x y).toBitVec = x.toBitVec >>> k := by
  simp only [own_lushr, UInt64.toBitVec_toInt64, UInt64.toBitVec_shiftRight, Int64.toBitVec_toUInt64, BitVec.ushiftRight_eq', hk]
theorem own_lshl_bv (x : Int64) (y : Int32) (k : Nat) (hk : ((y &&& 0x3f).toInt64.toBitVec.smod 64#64).toNat = k) : (own_lshl x y).toBitVec = x.toBitVec <<< k := by
  have e : (own_lshl x y).toBitVec = x.toBitVec <<< ((y &&& 0x3f).toInt64.toBitVec.smod 64#64) := rfl
  rw [e, BitVec.shiftLeft_eq', hk]
theorem own_iushr_bv (x : Int32) (y : Int32) (k : Nat) (hk : ((y &&& 31).toBitVec % 32).toNat = k) : (own_iushr x y).toBitVec = x.toBitVec >>> k := by
  simp only [own_iushr, UInt32.toBitVec_toInt32, UInt32.toBitVec_shiftRight, Int32.toBitVec_toUInt32, BitVec.ushiftRight_eq', hk]
theorem own_iushr_int (x y : Int32) (k : Nat) (hk : ((y &&& 31).toBitVec % 32).toNat = k) (h : 0 ≤ x.toInt) : (own_iushr x y).toInt = x.toInt / 2 ^ k := by
  have e : (own_iushr x y).toInt = (own_iushr x y).toBitVec.toInt := rfl
  have e1 : x.toInt = x.toBitVec.toInt := rfl
  rw [e, own_iushr_bv x y k hk, e1]
  rw [e1] at h
  have h2 : x.toBitVec.toInt = (x.toBitVec.toNat : Int) := by
    rw [BitVec.toInt_eq_toNat_cond] at h ⊢
    split at h
    · rw [if_pos (by assumption)]
    · have := x.toBitVec.isLt; omega
  have h3 : 2 * x.toBitVec.toNat < 2 ^ 32 := by
    have := BitVec.toInt_lt (x := x.toBitVec); omega
  rw [BitVec.toInt_eq_toNat_cond, BitVec.toNat_ushiftRight, Nat.shiftRight_eq_div_pow]
  have h4 : x.toBitVec.toNat / 2 ^ k ≤ x.toBitVec.toNat := Nat.div_le_self _ _
  rw [if_pos (by omega), h2, Int.natCast_ediv, Int.natCast_pow]
  rfl
theorem own_pos_nat {x : Int32} (h : 0 ≤ x.toInt) : x.toInt = (x.toBitVec.toNat : Int) := by
  have e : x.toInt = x.toBitVec.toInt := rfl
  rw [e] at h ⊢
  rw [BitVec.toInt_eq_toNat_cond] at h ⊢
  have := x.toBitVec.isLt
  split at h
  · rw [if_pos (by assumption)]
  · omega
theorem own_nat_pos {x : Int32} {n : Nat} (h : x.toBitVec.toNat = n) (hn : n < 2147483648) : x.toInt = (n : Int) := by
  have e : x.toInt = x.toBitVec.toInt := rfl
  rw [e, BitVec.toInt_eq_toNat_cond, h, if_pos (by omega)]
/-- an or of a multiple of 2^k and what lies below 2^k is their sum -/
theorem own_or {x y : Int32} (k : Nat) (hx : 0 ≤ x.toInt) (hx2 : x.toInt % 2 ^ k = 0) (hy : 0 ≤ y.toInt) (hy2 : y.toInt < 2 ^ k) : (x ||| y).toInt = x.toInt + y.toInt := by
  have e1 := own_pos_nat hx
  have e2 := own_pos_nat hy
  have b1 := Int32.toInt_lt x
  have b2 := Int32.toInt_lt y
  have hm : x.toBitVec.toNat % 2 ^ k = 0 := by
    rw [e1] at hx2
    have : ((x.toBitVec.toNat % 2 ^ k : Nat) : Int) = 0 := by rw [Int.natCast_emod, Int.natCast_pow]; exact hx2
    omega
  have hl : y.toBitVec.toNat < 2 ^ k := by
    rw [e2] at hy2
    have : (y.toBitVec.toNat : Int) < ((2 ^ k : Nat) : Int) := by rw [Int.natCast_pow]; exact hy2
    omega
  have hd : x.toBitVec.toNat = 2 ^ k * (x.toBitVec.toNat / 2 ^ k) := by
    have := Nat.div_add_mod x.toBitVec.toNat (2 ^ k); omega
  have e3 : (x ||| y).toBitVec.toNat = x.toBitVec.toNat + y.toBitVec.toNat := by
    rw [Int32.toBitVec_or, BitVec.toNat_or]
    generalize y.toBitVec.toNat = b at *
    rw [hd, ← Nat.two_pow_add_eq_or_of_lt hl]
  have hlt : (x ||| y).toBitVec.toNat < 2147483648 := by
    rw [Int32.toBitVec_or, BitVec.toNat_or]
    exact Nat.or_lt_two_pow (n := 31) (by omega) (by omega)
  rw [own_nat_pos e3 (by omega)]
  omega
theorem own_mask (x m : Int32) (k : Nat) (hk : k < 32) (hm : m.toBitVec.toNat = 2 ^ k - 1) : (x &&& m).toInt = x.toInt % 2 ^ k := Jvm.Kit.i32_mask x m hk hm
/-! the high bits of a byte -/
theorem own_fin256 {x : Int32} (h0 : 0 ≤ x.toInt) (h1 : x.toInt < 256) : ∃ n : Fin 256, x = Int32.ofNat n.val ∧ x.toInt = (n.val : Int) := by
  refine ⟨⟨x.toInt.toNat, by omega⟩, ?_, by show x.toInt = (x.toInt.toNat : Int); omega⟩
  apply Int32.toInt_inj.mp
  rw [Int32.toInt_ofNat_of_lt (by show x.toInt.toNat < _; omega)]
  show x.toInt = (x.toInt.toNat : Int); omega
theorem own_f192 : ∀ n : Fin 256, (Int32.ofNat n.val &&& 192).toInt = (n.val : Int) - (n.val : Int) % 64 := by decide +kernel
theorem own_f224 : ∀ n : Fin 256, (Int32.ofNat n.val &&& 224).toInt = (n.val : Int) - (n.val : Int) % 32 := by decide +kernel
theorem own_f240 : ∀ n : Fin 256, (Int32.ofNat n.val &&& 240).toInt = (n.val : Int) - (n.val : Int) % 16 := by decide +kernel
theorem own_f248 : ∀ n : Fin 256, (Int32.ofNat n.val &&& 248).toInt = (n.val : Int) - (n.val : Int) % 8 := by decide +kernel
theorem own_h192 {x : Int32} (h0 : 0 ≤ x.toInt) (h1 : x.toInt < 256) : (x &&& 192).toInt = x.toInt - x.toInt % 64 := by
  obtain ⟨n, e1, e2⟩ := own_fin256 h0 h1; rw [e2, e1]; exact own_f192 n
theorem own_h224 {x : Int32} (h0 : 0 ≤ x.toInt) (h1 : x.toInt < 256) : (x &&& 224).toInt = x.toInt - x.toInt % 32 := by
  obtain ⟨n, e1, e2⟩ := own_fin256 h0 h1; rw [e2, e1]; exact own_f224 n
theorem own_h240 {x : Int32} (h0 : 0 ≤ x.toInt) (h1 : x.toInt < 256) : (x &&& 240).toInt = x.toInt - x.toInt % 16 := by
  obtain ⟨n, e1, e2⟩ := own_fin256 h0 h1; rw [e2, e1]; exact own_f240 n
theorem own_h248 {x : Int32} (h0 : 0 ≤ x.toInt) (h1 : x.toInt < 256) : (x &&& 248).toInt = x.toInt - x.toInt % 8 := by
  obtain ⟨n, e1, e2⟩ := own_fin256 h0 h1; rw [e2, e1]; exact own_f248 n
theorem own_m255 (x : Int32) : (x &&& 255).toInt = x.toInt % 256 := Jvm.Kit.i32_mask x 255 (k := 8) (by decide) (by decide)
theorem own_m63 (x : Int32) : (x &&& 63).toInt = x.toInt % 64 := Jvm.Kit.i32_mask x 63 (k := 6) (by decide) (by decide)
theorem own_l192 (x : Int32) : (x &&& 192).toInt = x.toInt % 256 - x.toInt % 64 := by
  have e : x &&& 192 = (x &&& 255) &&& 192 := by rw [Int32.and_assoc]; rfl
  have h := own_m255 x
  rw [e, own_h192 (by omega) (by omega), h]; omega
theorem own_shr (x y : Int32) (k : Nat) (hk : ((y &&& 31).toBitVec.smod 32).toNat = k) : (own_ishr x y).toInt = x.toInt / 2 ^ k := Jvm.Kit.i32_shr x _ hk
theorem own_shl (x y : Int32) (k : Nat) (hk : ((y &&& 31).toBitVec.smod 32).toNat = k) (h1 : -2147483648 ≤ x.toInt * 2 ^ k) (h2 : x.toInt * 2 ^ k < 2147483648) : (own_ishl x y).toInt = x.toInt * 2 ^ k := Jvm.Kit.i32_shl x _ hk (by omega) (by omega)
/-- an or with a constant that is a multiple of 2^k -/
theorem own_orc {x y : Int32} {d : Int} (k : Nat) (hx : x.toInt = d) (h0 : 0 ≤ d) (h1 : d % 2 ^ k = 0) (hy : 0 ≤ y.toInt) (hy2 : y.toInt < 2 ^ k) : (x ||| y).toInt = d + y.toInt := by
  subst hx; exact own_or k h0 h1 hy hy2
theorem own_b255 (x : Int32) : (own_i2b x &&& 255).toInt = x.toInt % 256 := by
  have h1 := own_m255 (own_i2b x)
  have h2 := own_i2b_b x
  omega
theorem own_ofNat {n : Nat} (h : n < 2147483648) : (Int32.ofNat n).toInt = (n : Int) := Int32.toInt_ofNat_of_lt (by omega)
def own_max (a b : Int64) : Int64 := if a.toInt < b.toInt then b else a
def own_frf (st dl t : Int64) : Int64 := if st.toInt < t.toInt then (((t - st) - 1) / dl) + 1 else 0
theorem own_ceil {d b : Int} (hd : 1 ≤ d) (hb : 1 ≤ b) : (d - 1) / b + 1 = if d % b = 0 then d / b else d / b + 1 := by
  have h1 := Int.mul_ediv_add_emod d b
  have h2 := Int.emod_nonneg d (show b ≠ 0 by omega)
  have h3 := Int.emod_lt_of_pos d (show 0 < b by omega)
  generalize d / b = q at *
  generalize d % b = r at *
  split
  · rename_i hr
    subst hr
    have e : d - 1 = b * (q - 1) + (b - 1) := by rw [Int.mul_sub]; omega
    rw [e, Int.mul_add_ediv_left _ _ (by omega), Int.ediv_eq_zero_of_lt (by omega) (by omega)]; omega
  · have e : d - 1 = b * q + (r - 1) := by omega
    rw [e, Int.mul_add_ediv_left _ _ (by omega), Int.ediv_eq_zero_of_lt (by omega) (by omega)]; omega
abbrev own_y5 : MethodName := ⟨"java/lang/Math", "max", "(JJ)J"⟩
theorem pl5 : plainFor own_y5 = true := Jvm.Free.JP.mathPlain rfl (by decide +kernel)
def B5_0_2 : List (Instr × Nat) := [(.lload_n 0, 1), (.lload_n 2, 1)]
theorem B5_0_2d : own_d jdk_29_method_66_code 0 B5_0_2 2 = true := by decide +kernel
theorem d5_2 : decode jdk_29_method_66_code 2 = .ok (.lcmp, 1) := by decide +kernel
theorem d5_3 : decode jdk_29_method_66_code 3 = .ok (.ifCond .lt 7, 3) := by decide +kernel
def B5_10_11 : List (Instr × Nat) := [(.lload_n 2, 1)]
theorem B5_10_11d : own_d jdk_29_method_66_code 10 B5_10_11 11 = true := by decide +kernel
theorem d5_11 : decode jdk_29_method_66_code 11 = .ok (.lreturn, 1) := by decide +kernel
def B5_6_7 : List (Instr × Nat) := [(.lload_n 0, 1)]
theorem B5_6_7d : own_d jdk_29_method_66_code 6 B5_6_7 7 = true := by decide +kernel
theorem d5_7 : decode jdk_29_method_66_code 7 = .ok (.goto 4, 3) := by decide +kernel
set_option maxRecDepth 65536 in
set_option maxHeartbeats 40000000 in
theorem c_max (l : Launch) (Z : State) (a0 : Array Value) (hw : ∀ d ∈ tables_1, d.before a0 Z = true) (a : Int64) (b : Int64) (h0 : Heap) (n0 : Nat) (Z0 : n0 ≤ h0.size)  :
    own_C l Z own_y5 jdk_29_method_66_code 4 (some .long) ({ frames := 0, cells := 0, slots := 0, locals := 0 } : Room) #[(.long a), (.long b)] h0 n0 (fun v h => v = some (.long (own_max a b)) ∧ h = h0) := by
  refine own_body pl5 Z0 (ls := #[.val (.long a), .second, .val (.long b), .second]) (fun m => by first | (simp [entryFrame, mkF, argsToLocals, Value.category]; done) | rfl) ?_
  intro p e s m below meth c T0 X0
  refine own_blk X0 B5_0_2 B5_0_2d (ls' := #[.val (.long a), .second, .val (.long b), .second]) (st' := [(.long b), (.long a)]) rfl ?_
  refine own_lif X0 d5_2 d5_3 (pc' := 10) (by decide) (fun c2 => ?_) (fun c2 => ?_)
  · have c2 : a.toInt < b.toInt := c2
    refine own_blk X0 B5_10_11 B5_10_11d (ls' := #[.val (.long a), .second, .val (.long b), .second]) (st' := [(.long b)]) rfl ?_
    exact own_retL X0 d5_11 (by decide) (by decide) (⟨by rw [own_max, if_pos c2], rfl⟩)
  · have c2 : ¬ (a.toInt < b.toInt) := c2
    refine own_blk X0 B5_6_7 B5_6_7d (ls' := #[.val (.long a), .second, .val (.long b), .second]) (st' := [(.long a)]) rfl ?_
    refine own_goto X0 d5_7 (pc' := 11) (by decide) ?_
    exact own_retL X0 d5_11 (by decide) (by decide) (⟨by rw [own_max, if_neg c2], rfl⟩)
abbrev own_y2 : MethodName := ⟨"java/lang/Record", "<init>", "()V"⟩
theorem pl2 : plainFor own_y2 = true := plainFor_of_name (by first | (simp [plainName, overriddenIn]; done) | decide +kernel)
def B2_0_1 : List (Instr × Nat) := [(.aload_n 0, 1)]
theorem B2_0_1d : own_d jdk_30_method_1_code 0 B2_0_1 1 = true := by decide +kernel
theorem d2_1 : decode jdk_30_method_1_code 1 = .ok (.invokespecial 1, 3) := by decide +kernel
theorem d2_4 : decode jdk_30_method_1_code 4 = .ok (.return_, 1) := by decide +kernel
set_option maxRecDepth 65536 in
set_option maxHeartbeats 40000000 in
theorem c_rec (l : Launch) (Z : State) (a0 : Array Value) (hw : ∀ d ∈ tables_1, d.before a0 Z = true) (a : Addr) (h0 : Heap) (n0 : Nat) (Z0 : n0 ≤ h0.size)  :
    own_C l Z own_y2 jdk_30_method_1_code 1 none ({ frames := 1, cells := 0, slots := 0, locals := 12 } : Room) #[(.ref a)] h0 n0 (fun v h => v = none ∧ h = h0) := by
  refine own_body pl2 Z0 (ls := #[.val (.ref a)]) (fun m => by first | (simp [entryFrame, mkF, argsToLocals, Value.category]; done) | rfl) ?_
  intro p e s m below meth c T0 X0
  refine own_blk X0 B2_0_1 B2_0_1d (ls' := #[.val (.ref a)]) (st' := [(.ref a)]) rfl ?_
  refine own_init X0 (hw _ (List.mem_of_getElem? (i := 14) rfl)) (hw _ (List.mem_of_getElem? (i := 15) rfl)) (hw _ (List.mem_of_getElem? (i := 16) rfl)) d2_1 rfl (by decide) (Nat.le_of_ble_eq_true rfl) (fun T1 X1 => ?_)
  show own_G p e below (T1.setTop (mkF m 4 #[.val (.ref a)] [])) _
  exact own_retV X1 d2_4 (by decide) (by decide) (⟨rfl, rfl⟩)
abbrev own_y1 : MethodName := ⟨"lonewatch/algorithm/Timeline", "<init>", "(JIIIJJ)V"⟩
theorem pl1 : plainFor own_y1 = true := plainFor_of_name (by first | (simp [plainName, overriddenIn]; done) | decide +kernel)
def B1_0_1 : List (Instr × Nat) := [(.aload_n 0, 1)]
theorem B1_0_1d : own_d prog_15_method_1_code 0 B1_0_1 1 = true := by decide +kernel
theorem d1_1 : decode prog_15_method_1_code 1 = .ok (.invokespecial 1, 3) := by decide +kernel
theorem pd2 : parseMethodDescriptor "()V" = some ⟨[], none⟩ := by decide +kernel
def B1_4_6 : List (Instr × Nat) := [(.lload_n 1, 1), (.lconst 0, 1)]
theorem B1_4_6d : own_d prog_15_method_1_code 4 B1_4_6 6 = true := by decide +kernel
theorem d1_6 : decode prog_15_method_1_code 6 = .ok (.lcmp, 1) := by decide +kernel
theorem d1_7 : decode prog_15_method_1_code 7 = .ok (.ifCond .lt 11, 3) := by decide +kernel
def B1_10_11 : List (Instr × Nat) := [(.lload_n 1, 1)]
theorem B1_10_11d : own_d prog_15_method_1_code 10 B1_10_11 11 = true := by decide +kernel
theorem d1_11 : decode prog_15_method_1_code 11 = .ok (.ldc2_w 9, 3) := by decide +kernel
theorem d1_14 : decode prog_15_method_1_code 14 = .ok (.lcmp, 1) := by decide +kernel
theorem d1_15 : decode prog_15_method_1_code 15 = .ok (.ifCond .le 17, 3) := by decide +kernel
def B1_32_34 : List (Instr × Nat) := [(.iload_n 3, 1), (.iconst 1, 1)]
theorem B1_32_34d : own_d prog_15_method_1_code 32 B1_32_34 34 = true := by decide +kernel
theorem d1_34 : decode prog_15_method_1_code 34 = .ok (.if_icmp .ge 17, 3) := by decide +kernel
def B1_51_53 : List (Instr × Nat) := [(.iload 4, 2)]
theorem B1_51_53d : own_d prog_15_method_1_code 51 B1_51_53 53 = true := by decide +kernel
theorem d1_53 : decode prog_15_method_1_code 53 = .ok (.ifCond .ge 18, 3) := by decide +kernel
def B1_71_74 : List (Instr × Nat) := [(.iload 5, 2), (.iconst 1, 1)]
theorem B1_71_74d : own_d prog_15_method_1_code 71 B1_71_74 74 = true := by decide +kernel
theorem d1_74 : decode prog_15_method_1_code 74 = .ok (.if_icmp .ge 18, 3) := by decide +kernel
def B1_92_95 : List (Instr × Nat) := [(.lload 6, 2), (.lconst 1, 1)]
theorem B1_92_95d : own_d prog_15_method_1_code 92 B1_92_95 95 = true := by decide +kernel
theorem d1_95 : decode prog_15_method_1_code 95 = .ok (.lcmp, 1) := by decide +kernel
theorem d1_96 : decode prog_15_method_1_code 96 = .ok (.ifCond .ge 18, 3) := by decide +kernel
def B1_114_117 : List (Instr × Nat) := [(.lload 8, 2), (.lconst 1, 1)]
theorem B1_114_117d : own_d prog_15_method_1_code 114 B1_114_117 117 = true := by decide +kernel
theorem d1_117 : decode prog_15_method_1_code 117 = .ok (.lcmp, 1) := by decide +kernel
theorem d1_118 : decode prog_15_method_1_code 118 = .ok (.ifCond .ge 18, 3) := by decide +kernel
def B1_136_138 : List (Instr × Nat) := [(.aload_n 0, 1), (.lload_n 1, 1)]
theorem B1_136_138d : own_d prog_15_method_1_code 136 B1_136_138 138 = true := by decide +kernel
theorem d1_138 : decode prog_15_method_1_code 138 = .ok (.putfield 27, 3) := by decide +kernel
def B1_141_143 : List (Instr × Nat) := [(.aload_n 0, 1), (.iload_n 3, 1)]
theorem B1_141_143d : own_d prog_15_method_1_code 141 B1_141_143 143 = true := by decide +kernel
theorem d1_143 : decode prog_15_method_1_code 143 = .ok (.putfield 31, 3) := by decide +kernel
def B1_146_149 : List (Instr × Nat) := [(.aload_n 0, 1), (.iload 4, 2)]
theorem B1_146_149d : own_d prog_15_method_1_code 146 B1_146_149 149 = true := by decide +kernel
theorem d1_149 : decode prog_15_method_1_code 149 = .ok (.putfield 35, 3) := by decide +kernel
def B1_152_155 : List (Instr × Nat) := [(.aload_n 0, 1), (.iload 5, 2)]
theorem B1_152_155d : own_d prog_15_method_1_code 152 B1_152_155 155 = true := by decide +kernel
theorem d1_155 : decode prog_15_method_1_code 155 = .ok (.putfield 38, 3) := by decide +kernel
def B1_158_161 : List (Instr × Nat) := [(.aload_n 0, 1), (.lload 6, 2)]
theorem B1_158_161d : own_d prog_15_method_1_code 158 B1_158_161 161 = true := by decide +kernel
theorem d1_161 : decode prog_15_method_1_code 161 = .ok (.putfield 41, 3) := by decide +kernel
def B1_164_167 : List (Instr × Nat) := [(.aload_n 0, 1), (.lload 8, 2)]
theorem B1_164_167d : own_d prog_15_method_1_code 164 B1_164_167 167 = true := by decide +kernel
theorem d1_167 : decode prog_15_method_1_code 167 = .ok (.putfield 44, 3) := by decide +kernel
theorem d1_170 : decode prog_15_method_1_code 170 = .ok (.return_, 1) := by decide +kernel
set_option maxRecDepth 65536 in
set_option maxHeartbeats 40000000 in
theorem c_init (l : Launch) (Z : State) (a0 : Array Value) (hw : ∀ d ∈ tables_1, d.before a0 Z = true) (a : Addr) (f0 : Int64) (f1 : Int32) (f2 : Int32) (f3 : Int32) (f4 : Int64) (f5 : Int64) (h0 : Heap) (n0 : Nat) (Z0 : n0 ≤ h0.size) (n_a : n0 ≤ a) (H0 : 0 ≤ f0.toInt ∧ f0.toInt ≤ 2305843009213693952) (H1 : 1 ≤ f1.toInt) (H2 : 0 ≤ f2.toInt) (H3 : 1 ≤ f3.toInt) (H4 : 1 ≤ f4.toInt) (H5 : 1 ≤ f5.toInt) (E : Exa Z h0 a "lonewatch/algorithm/Timeline") (P0 : Fld Z h0 a "lonewatch/algorithm/Timeline" "startAt" "J" (.long (0 : Int64))) (P1 : Fld Z h0 a "lonewatch/algorithm/Timeline" "instances" "I" (.int (0 : Int32))) (P2 : Fld Z h0 a "lonewatch/algorithm/Timeline" "period" "I" (.int (0 : Int32))) (P3 : Fld Z h0 a "lonewatch/algorithm/Timeline" "perOpening" "I" (.int (0 : Int32))) (P4 : Fld Z h0 a "lonewatch/algorithm/Timeline" "eta" "J" (.long (0 : Int64))) (P5 : Fld Z h0 a "lonewatch/algorithm/Timeline" "delta" "J" (.long (0 : Int64))) :
    own_C l Z own_y1 prog_15_method_1_code 10 none ({ frames := 2, cells := 0, slots := 0, locals := 24 } : Room) #[(.ref a), (.long f0), (.int f1), (.int f2), (.int f3), (.long f4), (.long f5)] h0 n0 (fun v h => v = none ∧ Keep h0 h [a] ∧ Exa Z h a "lonewatch/algorithm/Timeline" ∧ Fld Z h a "lonewatch/algorithm/Timeline" "startAt" "J" (.long f0) ∧ Fld Z h a "lonewatch/algorithm/Timeline" "instances" "I" (.int f1) ∧ Fld Z h a "lonewatch/algorithm/Timeline" "period" "I" (.int f2) ∧ Fld Z h a "lonewatch/algorithm/Timeline" "perOpening" "I" (.int f3) ∧ Fld Z h a "lonewatch/algorithm/Timeline" "eta" "J" (.long f4) ∧ Fld Z h a "lonewatch/algorithm/Timeline" "delta" "J" (.long f5)) := by
  refine own_body pl1 Z0 (ls := #[.val (.ref a), .val (.long f0), .second, .val (.int f1), .val (.int f2), .val (.int f3), .val (.long f4), .second, .val (.long f5), .second]) (fun m => by first | (simp [entryFrame, mkF, argsToLocals, Value.category]; done) | rfl) ?_
  intro p e s m below meth c T0 X0
  have K0 : Keep h0 h0 [a] := Keep.refl _ _
  refine own_blk X0 B1_0_1 B1_0_1d (ls' := #[.val (.ref a), .val (.long f0), .second, .val (.int f1), .val (.int f2), .val (.int f3), .val (.long f4), .second, .val (.long f5), .second]) (st' := [(.ref a)]) rfl ?_
  refine own_callN X0 rfl (hw _ (List.mem_of_getElem? (i := 9) rfl)) (hw _ (List.mem_of_getElem? (i := 10) rfl)) (hw _ (List.mem_of_getElem? (i := 12) rfl)) (hw _ (List.mem_of_getElem? (i := 13) rfl)) (by decide) (c_rec l Z a0 hw a h0 n0 X0.2.1) d1_1 [] [] rfl rfl pd2 rfl rfl (by decide) (Nat.le_of_ble_eq_true rfl) (by decide) (by decide) (fun _ _ q => by rw [q.2]; exact X0.2.1) (fun v1 h1 T1 X1 q1 => ?_)
  obtain ⟨rfl, e1⟩ := q1
  rw [e1] at X1
  show own_G p e below (T1.setTop (mkF m 4 #[.val (.ref a), .val (.long f0), .second, .val (.int f1), .val (.int f2), .val (.int f3), .val (.long f4), .second, .val (.long f5), .second] [])) _
  refine own_blk X1 B1_4_6 B1_4_6d (ls' := #[.val (.ref a), .val (.long f0), .second, .val (.int f1), .val (.int f2), .val (.int f3), .val (.long f4), .second, .val (.long f5), .second]) (st' := [(.long (0 : Int64)), (.long f0)]) rfl ?_
  refine own_lif X1 d1_6 d1_7 (pc' := 18) (by decide) (fun (c6 : f0.toInt < 0) => by exfalso; omega) (fun c6 => ?_)
  have c6 : ¬ (f0.toInt < 0) := c6
  refine own_blk X1 B1_10_11 B1_10_11d (ls' := #[.val (.ref a), .val (.long f0), .second, .val (.int f1), .val (.int f2), .val (.int f3), .val (.long f4), .second, .val (.long f5), .second]) (st' := [(.long f0)]) rfl ?_
  refine own_ldc2 X1 (hw _ (List.mem_of_getElem? (i := 17) rfl)) d1_11 ?_
  refine own_lif X1 d1_14 d1_15 (pc' := 32) (by decide) (fun c14 => ?_) (fun (c14 : ¬ (f0.toInt ≤ 2305843009213693952)) => by exfalso; omega)
  have c14 : f0.toInt ≤ 2305843009213693952 := c14
  refine own_blk X1 B1_32_34 B1_32_34d (ls' := #[.val (.ref a), .val (.long f0), .second, .val (.int f1), .val (.int f2), .val (.int f3), .val (.long f4), .second, .val (.long f5), .second]) (st' := [(.int (1 : Int32)), (.int f1)]) rfl ?_
  refine own_icmp X1 d1_34 (pc' := 51) (by decide) (fun c34 => ?_) (fun (c34 : ¬ (1 ≤ f1.toInt)) => by exfalso; omega)
  have c34 : 1 ≤ f1.toInt := c34
  refine own_blk X1 B1_51_53 B1_51_53d (ls' := #[.val (.ref a), .val (.long f0), .second, .val (.int f1), .val (.int f2), .val (.int f3), .val (.long f4), .second, .val (.long f5), .second]) (st' := [(.int f2)]) rfl ?_
  refine own_if X1 d1_53 (pc' := 71) (by decide) (fun c53 => ?_) (fun (c53 : ¬ (0 ≤ f2.toInt)) => by exfalso; omega)
  have c53 : 0 ≤ f2.toInt := c53
  refine own_blk X1 B1_71_74 B1_71_74d (ls' := #[.val (.ref a), .val (.long f0), .second, .val (.int f1), .val (.int f2), .val (.int f3), .val (.long f4), .second, .val (.long f5), .second]) (st' := [(.int (1 : Int32)), (.int f3)]) rfl ?_
  refine own_icmp X1 d1_74 (pc' := 92) (by decide) (fun c74 => ?_) (fun (c74 : ¬ (1 ≤ f3.toInt)) => by exfalso; omega)
  have c74 : 1 ≤ f3.toInt := c74
  refine own_blk X1 B1_92_95 B1_92_95d (ls' := #[.val (.ref a), .val (.long f0), .second, .val (.int f1), .val (.int f2), .val (.int f3), .val (.long f4), .second, .val (.long f5), .second]) (st' := [(.long (1 : Int64)), (.long f4)]) rfl ?_
  refine own_lif X1 d1_95 d1_96 (pc' := 114) (by decide) (fun c95 => ?_) (fun (c95 : ¬ (1 ≤ f4.toInt)) => by exfalso; omega)
  have c95 : 1 ≤ f4.toInt := c95
  refine own_blk X1 B1_114_117 B1_114_117d (ls' := #[.val (.ref a), .val (.long f0), .second, .val (.int f1), .val (.int f2), .val (.int f3), .val (.long f4), .second, .val (.long f5), .second]) (st' := [(.long (1 : Int64)), (.long f5)]) rfl ?_
  refine own_lif X1 d1_117 d1_118 (pc' := 136) (by decide) (fun c117 => ?_) (fun (c117 : ¬ (1 ≤ f5.toInt)) => by exfalso; omega)
  have c117 : 1 ≤ f5.toInt := c117
  refine own_blk X1 B1_136_138 B1_136_138d (ls' := #[.val (.ref a), .val (.long f0), .second, .val (.int f1), .val (.int f2), .val (.int f3), .val (.long f4), .second, .val (.long f5), .second]) (st' := [(.long f0), (.ref a)]) rfl ?_
  refine own_putF X1 (hw _ (List.mem_of_getElem? (i := 18) rfl)) P0 E (Or.inr ⟨(hw _ (List.mem_of_getElem? (i := 19) rfl)), rfl, rfl⟩) (hw _ (List.mem_of_getElem? (i := 4) rfl)) (ty := .long) (by decide) rfl rfl n_a d1_138 (fun h2 T2 X2 W2 => ?_)
  have K2 := K0.wr W2 (Or.inl (by simp))
  have G2_a_startAt := Fld.same W2 P0
  have G2_a_instances := Fld.other W2 P1 (Or.inr (slot_ne (Or.inr (hw _ (List.mem_of_getElem? (i := 21) rfl))) (Or.inr (hw _ (List.mem_of_getElem? (i := 19) rfl))) (by decide) (t := .int) (t' := .long) (by decide) (by decide)))
  have G2_a_period := Fld.other W2 P2 (Or.inr (slot_ne (Or.inr (hw _ (List.mem_of_getElem? (i := 23) rfl))) (Or.inr (hw _ (List.mem_of_getElem? (i := 19) rfl))) (by decide) (t := .int) (t' := .long) (by decide) (by decide)))
  have G2_a_perOpening := Fld.other W2 P3 (Or.inr (slot_ne (Or.inr (hw _ (List.mem_of_getElem? (i := 25) rfl))) (Or.inr (hw _ (List.mem_of_getElem? (i := 19) rfl))) (by decide) (t := .int) (t' := .long) (by decide) (by decide)))
  have G2_a_eta := Fld.other W2 P4 (Or.inr (slot_ne (Or.inr (hw _ (List.mem_of_getElem? (i := 27) rfl))) (Or.inr (hw _ (List.mem_of_getElem? (i := 19) rfl))) (by decide) (t := .long) (t' := .long) (by decide) (by decide)))
  have G2_a_delta := Fld.other W2 P5 (Or.inr (slot_ne (Or.inr (hw _ (List.mem_of_getElem? (i := 29) rfl))) (Or.inr (hw _ (List.mem_of_getElem? (i := 19) rfl))) (by decide) (t := .long) (t' := .long) (by decide) (by decide)))
  have Q2_a := Exa.wr W2 E
  show own_G p e below (T2.setTop (mkF m 141 #[.val (.ref a), .val (.long f0), .second, .val (.int f1), .val (.int f2), .val (.int f3), .val (.long f4), .second, .val (.long f5), .second] [])) _
  refine own_blk X2 B1_141_143 B1_141_143d (ls' := #[.val (.ref a), .val (.long f0), .second, .val (.int f1), .val (.int f2), .val (.int f3), .val (.long f4), .second, .val (.long f5), .second]) (st' := [(.int f1), (.ref a)]) rfl ?_
  refine own_putF X2 (hw _ (List.mem_of_getElem? (i := 20) rfl)) G2_a_instances Q2_a (Or.inr ⟨(hw _ (List.mem_of_getElem? (i := 21) rfl)), rfl, rfl⟩) (hw _ (List.mem_of_getElem? (i := 4) rfl)) (ty := .int) (by decide) rfl rfl n_a d1_143 (fun h3 T3 X3 W3 => ?_)
  have K3 := K2.wr W3 (Or.inl (by simp))
  have G3_a_startAt := Fld.other W3 G2_a_startAt (Or.inr (slot_ne (Or.inr (hw _ (List.mem_of_getElem? (i := 19) rfl))) (Or.inr (hw _ (List.mem_of_getElem? (i := 21) rfl))) (by decide) (t := .long) (t' := .int) (by decide) (by decide)))
  have G3_a_instances := Fld.same W3 G2_a_instances
  have G3_a_period := Fld.other W3 G2_a_period (Or.inr (slot_ne (Or.inr (hw _ (List.mem_of_getElem? (i := 23) rfl))) (Or.inr (hw _ (List.mem_of_getElem? (i := 21) rfl))) (by decide) (t := .int) (t' := .int) (by decide) (by decide)))
  have G3_a_perOpening := Fld.other W3 G2_a_perOpening (Or.inr (slot_ne (Or.inr (hw _ (List.mem_of_getElem? (i := 25) rfl))) (Or.inr (hw _ (List.mem_of_getElem? (i := 21) rfl))) (by decide) (t := .int) (t' := .int) (by decide) (by decide)))
  have G3_a_eta := Fld.other W3 G2_a_eta (Or.inr (slot_ne (Or.inr (hw _ (List.mem_of_getElem? (i := 27) rfl))) (Or.inr (hw _ (List.mem_of_getElem? (i := 21) rfl))) (by decide) (t := .long) (t' := .int) (by decide) (by decide)))
  have G3_a_delta := Fld.other W3 G2_a_delta (Or.inr (slot_ne (Or.inr (hw _ (List.mem_of_getElem? (i := 29) rfl))) (Or.inr (hw _ (List.mem_of_getElem? (i := 21) rfl))) (by decide) (t := .long) (t' := .int) (by decide) (by decide)))
  have Q3_a := Exa.wr W3 Q2_a
  show own_G p e below (T3.setTop (mkF m 146 #[.val (.ref a), .val (.long f0), .second, .val (.int f1), .val (.int f2), .val (.int f3), .val (.long f4), .second, .val (.long f5), .second] [])) _
  refine own_blk X3 B1_146_149 B1_146_149d (ls' := #[.val (.ref a), .val (.long f0), .second, .val (.int f1), .val (.int f2), .val (.int f3), .val (.long f4), .second, .val (.long f5), .second]) (st' := [(.int f2), (.ref a)]) rfl ?_
  refine own_putF X3 (hw _ (List.mem_of_getElem? (i := 22) rfl)) G3_a_period Q3_a (Or.inr ⟨(hw _ (List.mem_of_getElem? (i := 23) rfl)), rfl, rfl⟩) (hw _ (List.mem_of_getElem? (i := 4) rfl)) (ty := .int) (by decide) rfl rfl n_a d1_149 (fun h4 T4 X4 W4 => ?_)
  have K4 := K3.wr W4 (Or.inl (by simp))
  have G4_a_startAt := Fld.other W4 G3_a_startAt (Or.inr (slot_ne (Or.inr (hw _ (List.mem_of_getElem? (i := 19) rfl))) (Or.inr (hw _ (List.mem_of_getElem? (i := 23) rfl))) (by decide) (t := .long) (t' := .int) (by decide) (by decide)))
  have G4_a_instances := Fld.other W4 G3_a_instances (Or.inr (slot_ne (Or.inr (hw _ (List.mem_of_getElem? (i := 21) rfl))) (Or.inr (hw _ (List.mem_of_getElem? (i := 23) rfl))) (by decide) (t := .int) (t' := .int) (by decide) (by decide)))
  have G4_a_period := Fld.same W4 G3_a_period
  have G4_a_perOpening := Fld.other W4 G3_a_perOpening (Or.inr (slot_ne (Or.inr (hw _ (List.mem_of_getElem? (i := 25) rfl))) (Or.inr (hw _ (List.mem_of_getElem? (i := 23) rfl))) (by decide) (t := .int) (t' := .int) (by decide) (by decide)))
  have G4_a_eta := Fld.other W4 G3_a_eta (Or.inr (slot_ne (Or.inr (hw _ (List.mem_of_getElem? (i := 27) rfl))) (Or.inr (hw _ (List.mem_of_getElem? (i := 23) rfl))) (by decide) (t := .long) (t' := .int) (by decide) (by decide)))
  have G4_a_delta := Fld.other W4 G3_a_delta (Or.inr (slot_ne (Or.inr (hw _ (List.mem_of_getElem? (i := 29) rfl))) (Or.inr (hw _ (List.mem_of_getElem? (i := 23) rfl))) (by decide) (t := .long) (t' := .int) (by decide) (by decide)))
  have Q4_a := Exa.wr W4 Q3_a
  show own_G p e below (T4.setTop (mkF m 152 #[.val (.ref a), .val (.long f0), .second, .val (.int f1), .val (.int f2), .val (.int f3), .val (.long f4), .second, .val (.long f5), .second] [])) _
  refine own_blk X4 B1_152_155 B1_152_155d (ls' := #[.val (.ref a), .val (.long f0), .second, .val (.int f1), .val (.int f2), .val (.int f3), .val (.long f4), .second, .val (.long f5), .second]) (st' := [(.int f3), (.ref a)]) rfl ?_
  refine own_putF X4 (hw _ (List.mem_of_getElem? (i := 24) rfl)) G4_a_perOpening Q4_a (Or.inr ⟨(hw _ (List.mem_of_getElem? (i := 25) rfl)), rfl, rfl⟩) (hw _ (List.mem_of_getElem? (i := 4) rfl)) (ty := .int) (by decide) rfl rfl n_a d1_155 (fun h5 T5 X5 W5 => ?_)
  have K5 := K4.wr W5 (Or.inl (by simp))
  have G5_a_startAt := Fld.other W5 G4_a_startAt (Or.inr (slot_ne (Or.inr (hw _ (List.mem_of_getElem? (i := 19) rfl))) (Or.inr (hw _ (List.mem_of_getElem? (i := 25) rfl))) (by decide) (t := .long) (t' := .int) (by decide) (by decide)))
  have G5_a_instances := Fld.other W5 G4_a_instances (Or.inr (slot_ne (Or.inr (hw _ (List.mem_of_getElem? (i := 21) rfl))) (Or.inr (hw _ (List.mem_of_getElem? (i := 25) rfl))) (by decide) (t := .int) (t' := .int) (by decide) (by decide)))
  have G5_a_period := Fld.other W5 G4_a_period (Or.inr (slot_ne (Or.inr (hw _ (List.mem_of_getElem? (i := 23) rfl))) (Or.inr (hw _ (List.mem_of_getElem? (i := 25) rfl))) (by decide) (t := .int) (t' := .int) (by decide) (by decide)))
  have G5_a_perOpening := Fld.same W5 G4_a_perOpening
  have G5_a_eta := Fld.other W5 G4_a_eta (Or.inr (slot_ne (Or.inr (hw _ (List.mem_of_getElem? (i := 27) rfl))) (Or.inr (hw _ (List.mem_of_getElem? (i := 25) rfl))) (by decide) (t := .long) (t' := .int) (by decide) (by decide)))
  have G5_a_delta := Fld.other W5 G4_a_delta (Or.inr (slot_ne (Or.inr (hw _ (List.mem_of_getElem? (i := 29) rfl))) (Or.inr (hw _ (List.mem_of_getElem? (i := 25) rfl))) (by decide) (t := .long) (t' := .int) (by decide) (by decide)))
  have Q5_a := Exa.wr W5 Q4_a
  show own_G p e below (T5.setTop (mkF m 158 #[.val (.ref a), .val (.long f0), .second, .val (.int f1), .val (.int f2), .val (.int f3), .val (.long f4), .second, .val (.long f5), .second] [])) _
  refine own_blk X5 B1_158_161 B1_158_161d (ls' := #[.val (.ref a), .val (.long f0), .second, .val (.int f1), .val (.int f2), .val (.int f3), .val (.long f4), .second, .val (.long f5), .second]) (st' := [(.long f4), (.ref a)]) rfl ?_
  refine own_putF X5 (hw _ (List.mem_of_getElem? (i := 26) rfl)) G5_a_eta Q5_a (Or.inr ⟨(hw _ (List.mem_of_getElem? (i := 27) rfl)), rfl, rfl⟩) (hw _ (List.mem_of_getElem? (i := 4) rfl)) (ty := .long) (by decide) rfl rfl n_a d1_161 (fun h6 T6 X6 W6 => ?_)
  have K6 := K5.wr W6 (Or.inl (by simp))
  have G6_a_startAt := Fld.other W6 G5_a_startAt (Or.inr (slot_ne (Or.inr (hw _ (List.mem_of_getElem? (i := 19) rfl))) (Or.inr (hw _ (List.mem_of_getElem? (i := 27) rfl))) (by decide) (t := .long) (t' := .long) (by decide) (by decide)))
  have G6_a_instances := Fld.other W6 G5_a_instances (Or.inr (slot_ne (Or.inr (hw _ (List.mem_of_getElem? (i := 21) rfl))) (Or.inr (hw _ (List.mem_of_getElem? (i := 27) rfl))) (by decide) (t := .int) (t' := .long) (by decide) (by decide)))
  have G6_a_period := Fld.other W6 G5_a_period (Or.inr (slot_ne (Or.inr (hw _ (List.mem_of_getElem? (i := 23) rfl))) (Or.inr (hw _ (List.mem_of_getElem? (i := 27) rfl))) (by decide) (t := .int) (t' := .long) (by decide) (by decide)))
  have G6_a_perOpening := Fld.other W6 G5_a_perOpening (Or.inr (slot_ne (Or.inr (hw _ (List.mem_of_getElem? (i := 25) rfl))) (Or.inr (hw _ (List.mem_of_getElem? (i := 27) rfl))) (by decide) (t := .int) (t' := .long) (by decide) (by decide)))
  have G6_a_eta := Fld.same W6 G5_a_eta
  have G6_a_delta := Fld.other W6 G5_a_delta (Or.inr (slot_ne (Or.inr (hw _ (List.mem_of_getElem? (i := 29) rfl))) (Or.inr (hw _ (List.mem_of_getElem? (i := 27) rfl))) (by decide) (t := .long) (t' := .long) (by decide) (by decide)))
  have Q6_a := Exa.wr W6 Q5_a
  show own_G p e below (T6.setTop (mkF m 164 #[.val (.ref a), .val (.long f0), .second, .val (.int f1), .val (.int f2), .val (.int f3), .val (.long f4), .second, .val (.long f5), .second] [])) _
  refine own_blk X6 B1_164_167 B1_164_167d (ls' := #[.val (.ref a), .val (.long f0), .second, .val (.int f1), .val (.int f2), .val (.int f3), .val (.long f4), .second, .val (.long f5), .second]) (st' := [(.long f5), (.ref a)]) rfl ?_
  refine own_putF X6 (hw _ (List.mem_of_getElem? (i := 28) rfl)) G6_a_delta Q6_a (Or.inr ⟨(hw _ (List.mem_of_getElem? (i := 29) rfl)), rfl, rfl⟩) (hw _ (List.mem_of_getElem? (i := 4) rfl)) (ty := .long) (by decide) rfl rfl n_a d1_167 (fun h7 T7 X7 W7 => ?_)
  have K7 := K6.wr W7 (Or.inl (by simp))
  have G7_a_startAt := Fld.other W7 G6_a_startAt (Or.inr (slot_ne (Or.inr (hw _ (List.mem_of_getElem? (i := 19) rfl))) (Or.inr (hw _ (List.mem_of_getElem? (i := 29) rfl))) (by decide) (t := .long) (t' := .long) (by decide) (by decide)))
  have G7_a_instances := Fld.other W7 G6_a_instances (Or.inr (slot_ne (Or.inr (hw _ (List.mem_of_getElem? (i := 21) rfl))) (Or.inr (hw _ (List.mem_of_getElem? (i := 29) rfl))) (by decide) (t := .int) (t' := .long) (by decide) (by decide)))
  have G7_a_period := Fld.other W7 G6_a_period (Or.inr (slot_ne (Or.inr (hw _ (List.mem_of_getElem? (i := 23) rfl))) (Or.inr (hw _ (List.mem_of_getElem? (i := 29) rfl))) (by decide) (t := .int) (t' := .long) (by decide) (by decide)))
  have G7_a_perOpening := Fld.other W7 G6_a_perOpening (Or.inr (slot_ne (Or.inr (hw _ (List.mem_of_getElem? (i := 25) rfl))) (Or.inr (hw _ (List.mem_of_getElem? (i := 29) rfl))) (by decide) (t := .int) (t' := .long) (by decide) (by decide)))
  have G7_a_eta := Fld.other W7 G6_a_eta (Or.inr (slot_ne (Or.inr (hw _ (List.mem_of_getElem? (i := 27) rfl))) (Or.inr (hw _ (List.mem_of_getElem? (i := 29) rfl))) (by decide) (t := .long) (t' := .long) (by decide) (by decide)))
  have G7_a_delta := Fld.same W7 G6_a_delta
  have Q7_a := Exa.wr W7 Q6_a
  show own_G p e below (T7.setTop (mkF m 170 #[.val (.ref a), .val (.long f0), .second, .val (.int f1), .val (.int f2), .val (.int f3), .val (.long f4), .second, .val (.long f5), .second] [])) _
  exact own_retV X7 d1_170 (by decide) (by decide) (⟨rfl, K7, Q7_a, G7_a_startAt, G7_a_instances, G7_a_period, G7_a_perOpening, G7_a_eta, G7_a_delta⟩)
abbrev own_y4 : MethodName := ⟨"lonewatch/algorithm/Timeline", "firstRoundFrom", "(J)J"⟩
theorem pl4 : plainFor own_y4 = true := plainFor_of_name (by first | (simp [plainName, overriddenIn]; done) | decide +kernel)
def B4_0_2 : List (Instr × Nat) := [(.lload_n 1, 1), (.aload_n 0, 1)]
theorem B4_0_2d : own_d prog_15_method_8_code 0 B4_0_2 2 = true := by decide +kernel
theorem d4_2 : decode prog_15_method_8_code 2 = .ok (.getfield 27, 3) := by decide +kernel
theorem d4_5 : decode prog_15_method_8_code 5 = .ok (.lcmp, 1) := by decide +kernel
theorem d4_6 : decode prog_15_method_8_code 6 = .ok (.ifCond .gt 7, 3) := by decide +kernel
def B4_13_15 : List (Instr × Nat) := [(.lload_n 1, 1), (.aload_n 0, 1)]
theorem B4_13_15d : own_d prog_15_method_8_code 13 B4_13_15 15 = true := by decide +kernel
theorem d4_15 : decode prog_15_method_8_code 15 = .ok (.getfield 27, 3) := by decide +kernel
def B4_18_22 : List (Instr × Nat) := [(.lsub, 1), (.lconst 1, 1), (.lsub, 1), (.aload_n 0, 1)]
theorem B4_18_22d : own_d prog_15_method_8_code 18 B4_18_22 22 = true := by decide +kernel
theorem d4_22 : decode prog_15_method_8_code 22 = .ok (.getfield 44, 3) := by decide +kernel
theorem d4_25 : decode prog_15_method_8_code 25 = .ok (.ldiv, 1) := by decide +kernel
def B4_26_28 : List (Instr × Nat) := [(.lconst 1, 1), (.ladd, 1)]
theorem B4_26_28d : own_d prog_15_method_8_code 26 B4_26_28 28 = true := by decide +kernel
theorem d4_28 : decode prog_15_method_8_code 28 = .ok (.lreturn, 1) := by decide +kernel
def B4_9_10 : List (Instr × Nat) := [(.lconst 0, 1)]
theorem B4_9_10d : own_d prog_15_method_8_code 9 B4_9_10 10 = true := by decide +kernel
theorem d4_10 : decode prog_15_method_8_code 10 = .ok (.goto 18, 3) := by decide +kernel
set_option maxRecDepth 65536 in
set_option maxHeartbeats 40000000 in
theorem c_first (l : Launch) (Z : State) (a0 : Array Value) (hw : ∀ d ∈ tables_1, d.before a0 Z = true) (a : Addr) (t f0 f5 : Int64) (h0 : Heap) (n0 : Nat) (Z0 : n0 ≤ h0.size) (H5 : 1 ≤ f5.toInt) (P0 : Fld Z h0 a "lonewatch/algorithm/Timeline" "startAt" "J" (.long f0)) (P5 : Fld Z h0 a "lonewatch/algorithm/Timeline" "delta" "J" (.long f5)) :
    own_C l Z own_y4 prog_15_method_8_code 3 (some .long) ({ frames := 0, cells := 0, slots := 0, locals := 0 } : Room) #[(.ref a), (.long t)] h0 n0 (fun v h => v = some (.long (own_frf f0 f5 t)) ∧ h = h0) := by
  refine own_body pl4 Z0 (ls := #[.val (.ref a), .val (.long t), .second]) (fun m => by first | (simp [entryFrame, mkF, argsToLocals, Value.category]; done) | rfl) ?_
  intro p e s m below meth c T0 X0
  refine own_blk X0 B4_0_2 B4_0_2d (ls' := #[.val (.ref a), .val (.long t), .second]) (st' := [(.ref a), (.long t)]) rfl ?_
  refine own_getF X0 (hw _ (List.mem_of_getElem? (i := 18) rfl)) P0 d4_2 (fun T1 X1 => ?_)
  refine own_lif X1 d4_5 d4_6 (pc' := 13) (by decide) (fun c5 => ?_) (fun c5 => ?_)
  · have c5 : f0.toInt < t.toInt := c5
    refine own_blk X1 B4_13_15 B4_13_15d (ls' := #[.val (.ref a), .val (.long t), .second]) (st' := [(.ref a), (.long t)]) rfl ?_
    refine own_getF X1 (hw _ (List.mem_of_getElem? (i := 18) rfl)) P0 d4_15 (fun T2 X2 => ?_)
    refine own_blk X2 B4_18_22 B4_18_22d (ls' := #[.val (.ref a), .val (.long t), .second]) (st' := [(.ref a), (.long ((t - f0) - (1 : Int64)))]) rfl ?_
    refine own_getF X2 (hw _ (List.mem_of_getElem? (i := 28) rfl)) P5 d4_22 (fun T3 X3 => ?_)
    refine own_ldiv X3 d4_25 (by rintro rfl; simp at H5) ?_
    refine own_blk X3 B4_26_28 B4_26_28d (ls' := #[.val (.ref a), .val (.long t), .second]) (st' := [(.long ((((t - f0) - (1 : Int64)) / f5) + (1 : Int64)))]) rfl ?_
    exact own_retL X3 d4_28 (by decide) (by decide) (⟨by rw [own_frf, if_pos c5], rfl⟩)
  · have c5 : ¬ (f0.toInt < t.toInt) := c5
    refine own_blk X1 B4_9_10 B4_9_10d (ls' := #[.val (.ref a), .val (.long t), .second]) (st' := [(.long (0 : Int64))]) rfl ?_
    refine own_goto X1 d4_10 (pc' := 28) (by decide) ?_
    exact own_retL X1 d4_28 (by decide) (by decide) (⟨by rw [own_frf, if_neg c5], rfl⟩)
theorem pl0 : plainFor x = true := plainFor_of_name (by first | (simp [plainName, overriddenIn]; done) | decide +kernel)
theorem own_fin {sa dl tm : Int64} (h0 : 0 ≤ sa.toInt) (h1 : 1 ≤ dl.toInt) (h2 : sa.toInt < tm.toInt) : (own_frf sa dl tm).toInt = if (own_lrem (tm - sa) dl).toInt = 0 then ((tm - sa) / dl).toInt else ((tm - sa) / dl + 1).toInt := by
  have b1 := tm.toInt_lt
  have e1 : (tm - sa).toInt = tm.toInt - sa.toInt := Jvm.Kit.i64_sub (by omega) (by omega)
  have e2 : ((tm - sa) - 1).toInt = tm.toInt - sa.toInt - 1 := by
    have q : ((tm - sa) - 1).toInt = (tm - sa).toInt - 1 := Jvm.Kit.i64_sub (by show _ ≤ _ - (1 : Int); omega) (by show _ - (1 : Int) < _; omega)
    omega
  have e3 : (((tm - sa) - 1) / dl).toInt = (tm.toInt - sa.toInt - 1) / dl.toInt := by rw [own_ldiv_pos (by omega), e2]
  have e4 : ((tm - sa) / dl).toInt = (tm.toInt - sa.toInt) / dl.toInt := by rw [own_ldiv_pos (by omega), e1]
  have e5 : (own_lrem (tm - sa) dl).toInt = (tm.toInt - sa.toInt) % dl.toInt := by rw [own_lrem_pos (by omega), e1]
  have u (z : Int) (hz : 0 ≤ z) : 0 ≤ z / dl.toInt ∧ z / dl.toInt ≤ z := ⟨Int.ediv_nonneg hz (by omega), Int.ediv_le_self _ hz⟩
  have u1 := u (tm.toInt - sa.toInt - 1) (by omega)
  have k := own_ceil (d := tm.toInt - sa.toInt) (b := dl.toInt) (by omega) h1
  have e6 : ((((tm - sa) - 1) / dl) + 1).toInt = (tm.toInt - sa.toInt - 1) / dl.toInt + 1 := by
    rw [Jvm.Kit.i64_add (by rw [e3]; show _ ≤ _ + (1 : Int); omega) (by rw [e3]; show _ + (1 : Int) < _; omega), e3]; rfl
  rw [own_frf, if_pos h2, e6, e4, e5, k]
  split
  · rfl
  · rename_i hne
    rw [if_neg hne] at k
    have e7 : ((tm - sa) / dl + 1).toInt = (tm.toInt - sa.toInt) / dl.toInt + 1 := by
      rw [Jvm.Kit.i64_add (by rw [e4]; show _ ≤ _ + (1 : Int); omega) (by rw [e4]; show _ + (1 : Int) < _; omega), e4]; rfl
    rw [e7]
def B0_0_1 : List (Instr × Nat) := [(.lload_n 0, 1)]
theorem B0_0_1d : own_d code 0 B0_0_1 1 = true := by decide +kernel
theorem d0_1 : decode code 1 = .ok (.ldc2_w 9, 3) := by decide +kernel
def B0_4_5 : List (Instr × Nat) := [(.land, 1)]
theorem B0_4_5d : own_d code 4 B0_4_5 5 = true := by decide +kernel
theorem d0_5 : decode code 5 = .ok (.ldc2_w 13, 3) := by decide +kernel
theorem d0_8 : decode code 8 = .ok (.lrem, 1) := by decide +kernel
def B0_9_11 : List (Instr × Nat) := [(.lstore 7, 2)]
theorem B0_9_11d : own_d code 9 B0_9_11 11 = true := by decide +kernel
def B0_39_45 : List (Instr × Nat) := [(.lstore 9, 2), (.iload 6, 2), (.iconst 1, 1), (.iand, 1)]
theorem B0_39_45d : own_d code 39 B0_39_45 45 = true := by decide +kernel
theorem d0_45 : decode code 45 = .ok (.ifCond .eq 7, 3) := by decide +kernel
def B0_52_60 : List (Instr × Nat) := [(.lload 7, 2), (.lload_n 2, 1), (.iconst 2, 1), (.lshr, 1), (.ladd, 1), (.lstore 11, 2)]
theorem B0_52_60d : own_d code 52 B0_52_60 60 = true := by decide +kernel
theorem d0_60 : decode code 60 = .ok (.new 11, 3) := by decide +kernel
def B0_63_72 : List (Instr × Nat) := [(.dup, 1), (.lload 7, 2), (.iconst 1, 1), (.iconst 0, 1), (.iconst 1, 1), (.lconst 1, 1), (.lload 9, 2)]
theorem B0_63_72d : own_d code 63 B0_63_72 72 = true := by decide +kernel
theorem d0_72 : decode code 72 = .ok (.invokespecial 23, 3) := by decide +kernel
theorem pd1 : parseMethodDescriptor "(JIIIJJ)V" = some ⟨[.long, .int, .int, .int, .long, .long], none⟩ := by decide +kernel
def B0_75_81 : List (Instr × Nat) := [(.astore 13, 2), (.aload 13, 2), (.lload 11, 2)]
theorem B0_75_81d : own_d code 75 B0_75_81 81 = true := by decide +kernel
theorem d0_81 : decode code 81 = .ok (.invokevirtual 26, 3) := by decide +kernel
theorem pd4 : parseMethodDescriptor "(J)J" = some ⟨[.long], some .long⟩ := by decide +kernel
def B0_84_90 : List (Instr × Nat) := [(.lstore 14, 2), (.lload 11, 2), (.lload 7, 2)]
theorem B0_84_90d : own_d code 84 B0_84_90 90 = true := by decide +kernel
theorem d0_90 : decode code 90 = .ok (.lcmp, 1) := by decide +kernel
theorem d0_91 : decode code 91 = .ok (.ifCond .gt 9, 3) := by decide +kernel
def B0_100_111 : List (Instr × Nat) := [(.lload 11, 2), (.lload 7, 2), (.lsub, 1), (.lstore 18, 2), (.lload 18, 2), (.lload 9, 2)]
theorem B0_100_111d : own_d code 100 B0_100_111 111 = true := by decide +kernel
theorem d0_111 : decode code 111 = .ok (.ldiv, 1) := by decide +kernel
def B0_112_118 : List (Instr × Nat) := [(.lstore 20, 2), (.lload 18, 2), (.lload 9, 2)]
theorem B0_112_118d : own_d code 112 B0_112_118 118 = true := by decide +kernel
theorem d0_118 : decode code 118 = .ok (.lrem, 1) := by decide +kernel
def B0_119_120 : List (Instr × Nat) := [(.lconst 0, 1)]
theorem B0_119_120d : own_d code 119 B0_119_120 120 = true := by decide +kernel
theorem d0_120 : decode code 120 = .ok (.lcmp, 1) := by decide +kernel
theorem d0_121 : decode code 121 = .ok (.ifCond .ne 8, 3) := by decide +kernel
def B0_129_139 : List (Instr × Nat) := [(.lload 20, 2), (.lconst 1, 1), (.ladd, 1), (.lstore 16, 2), (.lload 14, 2), (.lload 16, 2)]
theorem B0_129_139d : own_d code 129 B0_129_139 139 = true := by decide +kernel
theorem d0_139 : decode code 139 = .ok (.lcmp, 1) := by decide +kernel
theorem d0_140 : decode code 140 = .ok (.ifCond .ne 7, 3) := by decide +kernel
def B0_143_144 : List (Instr × Nat) := [(.iconst 1, 1)]
theorem B0_143_144d : own_d code 143 B0_143_144 144 = true := by decide +kernel
theorem d0_144 : decode code 144 = .ok (.goto 4, 3) := by decide +kernel
theorem d0_148 : decode code 148 = .ok (.ireturn, 1) := by decide +kernel
def B0_124_126 : List (Instr × Nat) := [(.lload 20, 2)]
theorem B0_124_126d : own_d code 124 B0_124_126 126 = true := by decide +kernel
theorem d0_126 : decode code 126 = .ok (.goto 7, 3) := by decide +kernel
def B0_133_139 : List (Instr × Nat) := [(.lstore 16, 2), (.lload 14, 2), (.lload 16, 2)]
theorem B0_133_139d : own_d code 133 B0_133_139 139 = true := by decide +kernel
def B0_94_97 : List (Instr × Nat) := [(.lconst 0, 1), (.lstore 16, 2)]
theorem B0_94_97d : own_d code 94 B0_94_97 97 = true := by decide +kernel
theorem d0_97 : decode code 97 = .ok (.goto 38, 3) := by decide +kernel
def B0_135_139 : List (Instr × Nat) := [(.lload 14, 2), (.lload 16, 2)]
theorem B0_135_139d : own_d code 135 B0_135_139 139 = true := by decide +kernel
def B0_48_49 : List (Instr × Nat) := [(.lload_n 2, 1)]
theorem B0_48_49d : own_d code 48 B0_48_49 49 = true := by decide +kernel
theorem d0_49 : decode code 49 = .ok (.goto 9, 3) := by decide +kernel
def B0_58_60 : List (Instr × Nat) := [(.lstore 11, 2)]
theorem B0_58_60d : own_d code 58 B0_58_60 60 = true := by decide +kernel
def B0_11_15 : List (Instr × Nat) := [(.iload 6, 2), (.iconst 2, 1), (.iand, 1)]
theorem B0_11_15d : own_d code 11 B0_11_15 15 = true := by decide +kernel
theorem d0_15 : decode code 15 = .ok (.ifCond .eq 14, 3) := by decide +kernel
def B0_29_32 : List (Instr × Nat) := [(.lconst 1, 1), (.lload 4, 2)]
theorem B0_29_32d : own_d code 29 B0_29_32 32 = true := by decide +kernel
theorem d0_32 : decode code 32 = .ok (.ldc2_w 9, 3) := by decide +kernel
def B0_35_36 : List (Instr × Nat) := [(.land, 1)]
theorem B0_35_36d : own_d code 35 B0_35_36 36 = true := by decide +kernel
theorem d0_36 : decode code 36 = .ok (.invokestatic 17, 3) := by decide +kernel
theorem pd5 : parseMethodDescriptor "(JJ)J" = some ⟨[.long, .long], some .long⟩ := by decide +kernel
def B0_18_20 : List (Instr × Nat) := [(.lload 4, 2)]
theorem B0_18_20d : own_d code 18 B0_18_20 20 = true := by decide +kernel
theorem d0_20 : decode code 20 = .ok (.ldc2_w 15, 3) := by decide +kernel
def B0_23_26 : List (Instr × Nat) := [(.land, 1), (.lconst 1, 1), (.ladd, 1)]
theorem B0_23_26d : own_d code 23 B0_23_26 26 = true := by decide +kernel
theorem d0_26 : decode code 26 = .ok (.goto 13, 3) := by decide +kernel
set_option maxRecDepth 65536 in
set_option maxHeartbeats 40000000 in
theorem c_law (l : Launch) (Z : State) (a0 : Array Value) (hw : ∀ d ∈ tables_1, d.before a0 Z = true) (a1 : Int64) (t1 : Int64) (e1 : Int64) (fl : Int32) (h0 : Heap) (n0 : Nat) (Z0 : n0 ≤ h0.size)  :
    own_C l Z x code maxLocals ret room_1 #[(.long a1), (.long t1), (.long e1), (.int fl)] h0 n0 (fun v h => v = some (.int 1)) := by
  refine own_body pl0 Z0 (ls := #[.val (.long a1), .second, .val (.long t1), .second, .val (.long e1), .second, .val (.int fl), .unset, .unset, .unset, .unset, .unset, .unset, .unset, .unset, .unset, .unset, .unset, .unset, .unset, .unset, .unset]) (fun m => by first | (simp [entryFrame, mkF, argsToLocals, Value.category, maxLocals]; done) | rfl) ?_
  intro p e s m below meth c T0 X0
  refine own_blk X0 B0_0_1 B0_0_1d (ls' := #[.val (.long a1), .second, .val (.long t1), .second, .val (.long e1), .second, .val (.int fl), .unset, .unset, .unset, .unset, .unset, .unset, .unset, .unset, .unset, .unset, .unset, .unset, .unset, .unset, .unset]) (st' := [(.long a1)]) rfl ?_
  refine own_ldc2 X0 (hw _ (List.mem_of_getElem? (i := 0) rfl)) d0_1 ?_
  refine own_blk X0 B0_4_5 B0_4_5d (ls' := #[.val (.long a1), .second, .val (.long t1), .second, .val (.long e1), .second, .val (.int fl), .unset, .unset, .unset, .unset, .unset, .unset, .unset, .unset, .unset, .unset, .unset, .unset, .unset, .unset, .unset]) (st' := [(.long (a1 &&& (9223372036854775807 : Int64)))]) rfl ?_
  refine own_ldc2 X0 (hw _ (List.mem_of_getElem? (i := 1) rfl)) d0_5 ?_
  refine own_lremS X0 d0_8 (by decide) ?_
  refine own_blk X0 B0_9_11 B0_9_11d (ls' := #[.val (.long a1), .second, .val (.long t1), .second, .val (.long e1), .second, .val (.int fl), .val (.long (own_lrem (a1 &&& (9223372036854775807 : Int64)) (2305843009213693953 : Int64))), .second, .unset, .unset, .unset, .unset, .unset, .unset, .unset, .unset, .unset, .unset, .unset, .unset, .unset]) (st' := []) rfl ?_
  generalize esa : (own_lrem (a1 &&& (9223372036854775807 : Int64)) (2305843009213693953 : Int64)) = sa
  have hsa : 0 ≤ sa.toInt ∧ sa.toInt ≤ 2305843009213693952 := by
    have h1 : (a1 &&& 9223372036854775807).toInt = a1.toInt % 2 ^ 63 := Jvm.Kit.i64_mask _ _ (by decide) (by decide)
    rw [← esa, own_lrem_pos (by omega)]
    show 0 ≤ _ % (2305843009213693953 : Int) ∧ _ % (2305843009213693953 : Int) ≤ _
    omega
  have J39 : ∀ (T1 : State) (dl : Int64), own_X p l e room_1 s m #[(.long a1), (.long t1), (.long e1), (.int fl)] below meth c Z code maxLocals ret x n0 h0 T1 0 0 → 1 ≤ dl.toInt → own_G p e below (T1.setTop (mkF m 39 #[.val (.long a1), .second, .val (.long t1), .second, .val (.long e1), .second, .val (.int fl), .val (.long sa), .second, .unset, .unset, .unset, .unset, .unset, .unset, .unset, .unset, .unset, .unset, .unset, .unset, .unset] [.long dl])) (own_E s n0 (fun v h => v = some (.int 1)) room_1.cells room_1.slots) := by
    intro TJ dl XJ hdl
    refine own_blk XJ B0_39_45 B0_39_45d (ls' := #[.val (.long a1), .second, .val (.long t1), .second, .val (.long e1), .second, .val (.int fl), .val (.long sa), .second, .val (.long dl), .second, .unset, .unset, .unset, .unset, .unset, .unset, .unset, .unset, .unset, .unset, .unset]) (st' := [(.int (fl &&& (1 : Int32)))]) rfl ?_
    refine own_if XJ d0_45 (pc' := 52) (by decide) (fun c45 => ?_) (fun c45 => ?_)
    · have c45 : (fl &&& (1 : Int32)).toInt = 0 := c45
      refine own_blk XJ B0_52_60 B0_52_60d (ls' := #[.val (.long a1), .second, .val (.long t1), .second, .val (.long e1), .second, .val (.int fl), .val (.long sa), .second, .val (.long dl), .second, .val (.long (sa + (own_lshr t1 (2 : Int32)))), .second, .unset, .unset, .unset, .unset, .unset, .unset, .unset, .unset, .unset]) (st' := []) rfl ?_
      generalize etm : (sa + (own_lshr t1 (2 : Int32))) = tm
      refine own_newO XJ (hw _ (List.mem_of_getElem? (i := 3) rfl)) (hw _ (List.mem_of_getElem? (i := 4) rfl)) (hw _ (List.mem_of_getElem? (i := 5) rfl)) d0_60 (by decide) (by decide) (fun h1 T1 X1 E1 Q1 D1 => ?_)
      have n_a : n0 ≤ h0.size := XJ.2.1
      have F1_startAt : Fld Z h1 h0.size "lonewatch/algorithm/Timeline" "startAt" "J" (.long (0 : Int64)) := D1 (Or.inr (hw _ (List.mem_of_getElem? (i := 19) rfl))) (ty := .long) (by decide)
      have F1_instances : Fld Z h1 h0.size "lonewatch/algorithm/Timeline" "instances" "I" (.int (0 : Int32)) := D1 (Or.inr (hw _ (List.mem_of_getElem? (i := 21) rfl))) (ty := .int) (by decide)
      have F1_period : Fld Z h1 h0.size "lonewatch/algorithm/Timeline" "period" "I" (.int (0 : Int32)) := D1 (Or.inr (hw _ (List.mem_of_getElem? (i := 23) rfl))) (ty := .int) (by decide)
      have F1_perOpening : Fld Z h1 h0.size "lonewatch/algorithm/Timeline" "perOpening" "I" (.int (0 : Int32)) := D1 (Or.inr (hw _ (List.mem_of_getElem? (i := 25) rfl))) (ty := .int) (by decide)
      have F1_eta : Fld Z h1 h0.size "lonewatch/algorithm/Timeline" "eta" "J" (.long (0 : Int64)) := D1 (Or.inr (hw _ (List.mem_of_getElem? (i := 27) rfl))) (ty := .long) (by decide)
      have F1_delta : Fld Z h1 h0.size "lonewatch/algorithm/Timeline" "delta" "J" (.long (0 : Int64)) := D1 (Or.inr (hw _ (List.mem_of_getElem? (i := 29) rfl))) (ty := .long) (by decide)
      clear D1
      generalize ez_a : h0.size = a at Q1 n_a F1_startAt F1_instances F1_period F1_perOpening F1_eta F1_delta ⊢
      show own_G p e below (T1.setTop (mkF m 63 #[.val (.long a1), .second, .val (.long t1), .second, .val (.long e1), .second, .val (.int fl), .val (.long sa), .second, .val (.long dl), .second, .val (.long tm), .second, .unset, .unset, .unset, .unset, .unset, .unset, .unset, .unset, .unset] [(.ref a)])) _
      refine own_blk X1 B0_63_72 B0_63_72d (ls' := #[.val (.long a1), .second, .val (.long t1), .second, .val (.long e1), .second, .val (.int fl), .val (.long sa), .second, .val (.long dl), .second, .val (.long tm), .second, .unset, .unset, .unset, .unset, .unset, .unset, .unset, .unset, .unset]) (st' := [(.long dl), (.long (1 : Int64)), (.int (1 : Int32)), (.int (0 : Int32)), (.int (1 : Int32)), (.long sa), (.ref a), (.ref a)]) rfl ?_
      refine own_callN X1 rfl (hw _ (List.mem_of_getElem? (i := 6) rfl)) (hw _ (List.mem_of_getElem? (i := 7) rfl)) (hw _ (List.mem_of_getElem? (i := 5) rfl)) (hw _ (List.mem_of_getElem? (i := 8) rfl)) (by decide) (c_init l Z a0 hw a sa (1 : Int32) (0 : Int32) (1 : Int32) (1 : Int64) dl h1 n0 X1.2.1 n_a hsa (by decide) (by decide) (by decide) (by decide) hdl Q1 F1_startAt F1_instances F1_period F1_perOpening F1_eta F1_delta) d0_72 [(.long sa), (.int (1 : Int32)), (.int (0 : Int32)), (.int (1 : Int32)), (.long (1 : Int64)), (.long dl)] [(.ref a)] rfl rfl pd1 rfl rfl (by decide) (Nat.le_of_ble_eq_true rfl) (by decide) (by decide) (fun _ _ q => Nat.le_trans X1.2.1 q.2.1.1) (fun v2 h2 T2 X2 q2 => ?_)
      obtain ⟨rfl, K2, Q2, P2_0, P2_1, P2_2, P2_3, P2_4, P2_5⟩ := q2
      show own_G p e below (T2.setTop (mkF m 75 #[.val (.long a1), .second, .val (.long t1), .second, .val (.long e1), .second, .val (.int fl), .val (.long sa), .second, .val (.long dl), .second, .val (.long tm), .second, .unset, .unset, .unset, .unset, .unset, .unset, .unset, .unset, .unset] [(.ref a)])) _
      refine own_blk X2 B0_75_81 B0_75_81d (ls' := #[.val (.long a1), .second, .val (.long t1), .second, .val (.long e1), .second, .val (.int fl), .val (.long sa), .second, .val (.long dl), .second, .val (.long tm), .second, .val (.ref a), .unset, .unset, .unset, .unset, .unset, .unset, .unset, .unset]) (st' := [(.long tm), (.ref a)]) rfl ?_
      refine own_callV X2 (hw _ (List.mem_of_getElem? (i := 30) rfl)) (hw _ (List.mem_of_getElem? (i := 31) rfl)) (hw _ (List.mem_of_getElem? (i := 33) rfl)) (hw _ (List.mem_of_getElem? (i := 32) rfl)) (hw _ (List.mem_of_getElem? (i := 5) rfl)) (hw _ (List.mem_of_getElem? (i := 34) rfl)) (by decide) Q2 (c_first l Z a0 hw a tm sa dl h2 n0 X2.2.1 hdl P2_0 P2_5) d0_81 [(.long tm)] [] rfl rfl pd4 rfl rfl (by decide) (Nat.le_of_ble_eq_true rfl) (by decide) (by decide) (fun _ _ q => by rw [q.2]; exact X2.2.1) (fun v3 h3 T3 X3 q3 => ?_)
      obtain ⟨rfl, e3⟩ := q3
      rw [e3] at X3
      show own_G p e below (T3.setTop (mkF m 84 #[.val (.long a1), .second, .val (.long t1), .second, .val (.long e1), .second, .val (.int fl), .val (.long sa), .second, .val (.long dl), .second, .val (.long tm), .second, .val (.ref a), .unset, .unset, .unset, .unset, .unset, .unset, .unset, .unset] [(.long (own_frf sa dl tm))])) _
      refine own_blk X3 B0_84_90 B0_84_90d (ls' := #[.val (.long a1), .second, .val (.long t1), .second, .val (.long e1), .second, .val (.int fl), .val (.long sa), .second, .val (.long dl), .second, .val (.long tm), .second, .val (.ref a), .val (.long (own_frf sa dl tm)), .second, .unset, .unset, .unset, .unset, .unset, .unset]) (st' := [(.long sa), (.long tm)]) rfl ?_
      refine own_lif X3 d0_90 d0_91 (pc' := 100) (by decide) (fun c90 => ?_) (fun c90 => ?_)
      · have c90 : sa.toInt < tm.toInt := c90
        refine own_blk X3 B0_100_111 B0_100_111d (ls' := #[.val (.long a1), .second, .val (.long t1), .second, .val (.long e1), .second, .val (.int fl), .val (.long sa), .second, .val (.long dl), .second, .val (.long tm), .second, .val (.ref a), .val (.long (own_frf sa dl tm)), .second, .unset, .unset, .val (.long (tm - sa)), .second, .unset, .unset]) (st' := [(.long dl), (.long (tm - sa))]) rfl ?_
        refine own_ldiv X3 d0_111 (by rintro rfl; simp at hdl) ?_
        refine own_blk X3 B0_112_118 B0_112_118d (ls' := #[.val (.long a1), .second, .val (.long t1), .second, .val (.long e1), .second, .val (.int fl), .val (.long sa), .second, .val (.long dl), .second, .val (.long tm), .second, .val (.ref a), .val (.long (own_frf sa dl tm)), .second, .unset, .unset, .val (.long (tm - sa)), .second, .val (.long ((tm - sa) / dl)), .second]) (st' := [(.long dl), (.long (tm - sa))]) rfl ?_
        refine own_lremS X3 d0_118 (by rintro rfl; simp at hdl) ?_
        refine own_blk X3 B0_119_120 B0_119_120d (ls' := #[.val (.long a1), .second, .val (.long t1), .second, .val (.long e1), .second, .val (.int fl), .val (.long sa), .second, .val (.long dl), .second, .val (.long tm), .second, .val (.ref a), .val (.long (own_frf sa dl tm)), .second, .unset, .unset, .val (.long (tm - sa)), .second, .val (.long ((tm - sa) / dl)), .second]) (st' := [(.long (0 : Int64)), (.long (own_lrem (tm - sa) dl))]) rfl ?_
        refine own_lif X3 d0_120 d0_121 (pc' := 129) (by decide) (fun c120 => ?_) (fun c120 => ?_)
        · have c120 : ¬ (own_lrem (tm - sa) dl).toInt = 0 := c120
          refine own_blk X3 B0_129_139 B0_129_139d (ls' := #[.val (.long a1), .second, .val (.long t1), .second, .val (.long e1), .second, .val (.int fl), .val (.long sa), .second, .val (.long dl), .second, .val (.long tm), .second, .val (.ref a), .val (.long (own_frf sa dl tm)), .second, .val (.long (((tm - sa) / dl) + (1 : Int64))), .second, .val (.long (tm - sa)), .second, .val (.long ((tm - sa) / dl)), .second]) (st' := [(.long (((tm - sa) / dl) + (1 : Int64))), (.long (own_frf sa dl tm))]) rfl ?_
          refine own_lif X3 d0_139 d0_140 (pc' := 147) (by decide) (fun (c139 : ¬ (own_frf sa dl tm).toInt = (((tm - sa) / dl) + (1 : Int64)).toInt) => by exfalso; first | exact c139 (by rw [own_frf, if_neg (by omega)]; rfl) | exact c139 (by rw [own_fin hsa.1 hdl (by omega), if_neg c120]) | exact c139 (by rw [own_fin hsa.1 hdl (by omega), if_pos (by omega)])) (fun c139 => ?_)
          have c139 : ¬ (¬ (own_frf sa dl tm).toInt = (((tm - sa) / dl) + (1 : Int64)).toInt) := c139
          refine own_blk X3 B0_143_144 B0_143_144d (ls' := #[.val (.long a1), .second, .val (.long t1), .second, .val (.long e1), .second, .val (.int fl), .val (.long sa), .second, .val (.long dl), .second, .val (.long tm), .second, .val (.ref a), .val (.long (own_frf sa dl tm)), .second, .val (.long (((tm - sa) / dl) + (1 : Int64))), .second, .val (.long (tm - sa)), .second, .val (.long ((tm - sa) / dl)), .second]) (st' := [(.int (1 : Int32))]) rfl ?_
          refine own_goto X3 d0_144 (pc' := 148) (by decide) ?_
          exact own_retN X3 (by simp) d0_148 (v' := (1 : Int32)) (rfl) (by decide) (by decide) (rfl)
        · have c120 : ¬ (¬ (own_lrem (tm - sa) dl).toInt = 0) := c120
          refine own_blk X3 B0_124_126 B0_124_126d (ls' := #[.val (.long a1), .second, .val (.long t1), .second, .val (.long e1), .second, .val (.int fl), .val (.long sa), .second, .val (.long dl), .second, .val (.long tm), .second, .val (.ref a), .val (.long (own_frf sa dl tm)), .second, .unset, .unset, .val (.long (tm - sa)), .second, .val (.long ((tm - sa) / dl)), .second]) (st' := [(.long ((tm - sa) / dl))]) rfl ?_
          refine own_goto X3 d0_126 (pc' := 133) (by decide) ?_
          refine own_blk X3 B0_133_139 B0_133_139d (ls' := #[.val (.long a1), .second, .val (.long t1), .second, .val (.long e1), .second, .val (.int fl), .val (.long sa), .second, .val (.long dl), .second, .val (.long tm), .second, .val (.ref a), .val (.long (own_frf sa dl tm)), .second, .val (.long ((tm - sa) / dl)), .second, .val (.long (tm - sa)), .second, .val (.long ((tm - sa) / dl)), .second]) (st' := [(.long ((tm - sa) / dl)), (.long (own_frf sa dl tm))]) rfl ?_
          refine own_lif X3 d0_139 d0_140 (pc' := 147) (by decide) (fun (c139 : ¬ (own_frf sa dl tm).toInt = ((tm - sa) / dl).toInt) => by exfalso; first | exact c139 (by rw [own_frf, if_neg (by omega)]; rfl) | exact c139 (by rw [own_fin hsa.1 hdl (by omega), if_neg c120]) | exact c139 (by rw [own_fin hsa.1 hdl (by omega), if_pos (by omega)])) (fun c139 => ?_)
          have c139 : ¬ (¬ (own_frf sa dl tm).toInt = ((tm - sa) / dl).toInt) := c139
          refine own_blk X3 B0_143_144 B0_143_144d (ls' := #[.val (.long a1), .second, .val (.long t1), .second, .val (.long e1), .second, .val (.int fl), .val (.long sa), .second, .val (.long dl), .second, .val (.long tm), .second, .val (.ref a), .val (.long (own_frf sa dl tm)), .second, .val (.long ((tm - sa) / dl)), .second, .val (.long (tm - sa)), .second, .val (.long ((tm - sa) / dl)), .second]) (st' := [(.int (1 : Int32))]) rfl ?_
          refine own_goto X3 d0_144 (pc' := 148) (by decide) ?_
          exact own_retN X3 (by simp) d0_148 (v' := (1 : Int32)) (rfl) (by decide) (by decide) (rfl)
      · have c90 : ¬ (sa.toInt < tm.toInt) := c90
        refine own_blk X3 B0_94_97 B0_94_97d (ls' := #[.val (.long a1), .second, .val (.long t1), .second, .val (.long e1), .second, .val (.int fl), .val (.long sa), .second, .val (.long dl), .second, .val (.long tm), .second, .val (.ref a), .val (.long (own_frf sa dl tm)), .second, .val (.long (0 : Int64)), .second, .unset, .unset, .unset, .unset]) (st' := []) rfl ?_
        refine own_goto X3 d0_97 (pc' := 135) (by decide) ?_
        refine own_blk X3 B0_135_139 B0_135_139d (ls' := #[.val (.long a1), .second, .val (.long t1), .second, .val (.long e1), .second, .val (.int fl), .val (.long sa), .second, .val (.long dl), .second, .val (.long tm), .second, .val (.ref a), .val (.long (own_frf sa dl tm)), .second, .val (.long (0 : Int64)), .second, .unset, .unset, .unset, .unset]) (st' := [(.long (0 : Int64)), (.long (own_frf sa dl tm))]) rfl ?_
        refine own_lif X3 d0_139 d0_140 (pc' := 147) (by decide) (fun (c139 : ¬ (own_frf sa dl tm).toInt = 0) => by exfalso; first | exact c139 (by rw [own_frf, if_neg (by omega)]; rfl) | exact c139 (by rw [own_fin hsa.1 hdl (by omega), if_neg c120]) | exact c139 (by rw [own_fin hsa.1 hdl (by omega), if_pos (by omega)])) (fun c139 => ?_)
        have c139 : ¬ (¬ (own_frf sa dl tm).toInt = 0) := c139
        refine own_blk X3 B0_143_144 B0_143_144d (ls' := #[.val (.long a1), .second, .val (.long t1), .second, .val (.long e1), .second, .val (.int fl), .val (.long sa), .second, .val (.long dl), .second, .val (.long tm), .second, .val (.ref a), .val (.long (own_frf sa dl tm)), .second, .val (.long (0 : Int64)), .second, .unset, .unset, .unset, .unset]) (st' := [(.int (1 : Int32))]) rfl ?_
        refine own_goto X3 d0_144 (pc' := 148) (by decide) ?_
        exact own_retN X3 (by simp) d0_148 (v' := (1 : Int32)) (rfl) (by decide) (by decide) (rfl)
    · have c45 : ¬ ((fl &&& (1 : Int32)).toInt = 0) := c45
      refine own_blk XJ B0_48_49 B0_48_49d (ls' := #[.val (.long a1), .second, .val (.long t1), .second, .val (.long e1), .second, .val (.int fl), .val (.long sa), .second, .val (.long dl), .second, .unset, .unset, .unset, .unset, .unset, .unset, .unset, .unset, .unset, .unset, .unset]) (st' := [(.long t1)]) rfl ?_
      refine own_goto XJ d0_49 (pc' := 58) (by decide) ?_
      refine own_blk XJ B0_58_60 B0_58_60d (ls' := #[.val (.long a1), .second, .val (.long t1), .second, .val (.long e1), .second, .val (.int fl), .val (.long sa), .second, .val (.long dl), .second, .val (.long t1), .second, .unset, .unset, .unset, .unset, .unset, .unset, .unset, .unset, .unset]) (st' := []) rfl ?_
      generalize etm : t1 = tm
      refine own_newO XJ (hw _ (List.mem_of_getElem? (i := 3) rfl)) (hw _ (List.mem_of_getElem? (i := 4) rfl)) (hw _ (List.mem_of_getElem? (i := 5) rfl)) d0_60 (by decide) (by decide) (fun h4 T4 X4 E4 Q4 D4 => ?_)
      have n_a : n0 ≤ h0.size := XJ.2.1
      have F4_startAt : Fld Z h4 h0.size "lonewatch/algorithm/Timeline" "startAt" "J" (.long (0 : Int64)) := D4 (Or.inr (hw _ (List.mem_of_getElem? (i := 19) rfl))) (ty := .long) (by decide)
      have F4_instances : Fld Z h4 h0.size "lonewatch/algorithm/Timeline" "instances" "I" (.int (0 : Int32)) := D4 (Or.inr (hw _ (List.mem_of_getElem? (i := 21) rfl))) (ty := .int) (by decide)
      have F4_period : Fld Z h4 h0.size "lonewatch/algorithm/Timeline" "period" "I" (.int (0 : Int32)) := D4 (Or.inr (hw _ (List.mem_of_getElem? (i := 23) rfl))) (ty := .int) (by decide)
      have F4_perOpening : Fld Z h4 h0.size "lonewatch/algorithm/Timeline" "perOpening" "I" (.int (0 : Int32)) := D4 (Or.inr (hw _ (List.mem_of_getElem? (i := 25) rfl))) (ty := .int) (by decide)
      have F4_eta : Fld Z h4 h0.size "lonewatch/algorithm/Timeline" "eta" "J" (.long (0 : Int64)) := D4 (Or.inr (hw _ (List.mem_of_getElem? (i := 27) rfl))) (ty := .long) (by decide)
      have F4_delta : Fld Z h4 h0.size "lonewatch/algorithm/Timeline" "delta" "J" (.long (0 : Int64)) := D4 (Or.inr (hw _ (List.mem_of_getElem? (i := 29) rfl))) (ty := .long) (by decide)
      clear D4
      generalize ez_a : h0.size = a at Q4 n_a F4_startAt F4_instances F4_period F4_perOpening F4_eta F4_delta ⊢
      show own_G p e below (T4.setTop (mkF m 63 #[.val (.long a1), .second, .val (.long tm), .second, .val (.long e1), .second, .val (.int fl), .val (.long sa), .second, .val (.long dl), .second, .val (.long tm), .second, .unset, .unset, .unset, .unset, .unset, .unset, .unset, .unset, .unset] [(.ref a)])) _
      refine own_blk X4 B0_63_72 B0_63_72d (ls' := #[.val (.long a1), .second, .val (.long tm), .second, .val (.long e1), .second, .val (.int fl), .val (.long sa), .second, .val (.long dl), .second, .val (.long tm), .second, .unset, .unset, .unset, .unset, .unset, .unset, .unset, .unset, .unset]) (st' := [(.long dl), (.long (1 : Int64)), (.int (1 : Int32)), (.int (0 : Int32)), (.int (1 : Int32)), (.long sa), (.ref a), (.ref a)]) rfl ?_
      refine own_callN X4 rfl (hw _ (List.mem_of_getElem? (i := 6) rfl)) (hw _ (List.mem_of_getElem? (i := 7) rfl)) (hw _ (List.mem_of_getElem? (i := 5) rfl)) (hw _ (List.mem_of_getElem? (i := 8) rfl)) (by decide) (c_init l Z a0 hw a sa (1 : Int32) (0 : Int32) (1 : Int32) (1 : Int64) dl h4 n0 X4.2.1 n_a hsa (by decide) (by decide) (by decide) (by decide) hdl Q4 F4_startAt F4_instances F4_period F4_perOpening F4_eta F4_delta) d0_72 [(.long sa), (.int (1 : Int32)), (.int (0 : Int32)), (.int (1 : Int32)), (.long (1 : Int64)), (.long dl)] [(.ref a)] rfl rfl pd1 rfl rfl (by decide) (Nat.le_of_ble_eq_true rfl) (by decide) (by decide) (fun _ _ q => Nat.le_trans X4.2.1 q.2.1.1) (fun v5 h5 T5 X5 q5 => ?_)
      obtain ⟨rfl, K5, Q5, P5_0, P5_1, P5_2, P5_3, P5_4, P5_5⟩ := q5
      show own_G p e below (T5.setTop (mkF m 75 #[.val (.long a1), .second, .val (.long tm), .second, .val (.long e1), .second, .val (.int fl), .val (.long sa), .second, .val (.long dl), .second, .val (.long tm), .second, .unset, .unset, .unset, .unset, .unset, .unset, .unset, .unset, .unset] [(.ref a)])) _
      refine own_blk X5 B0_75_81 B0_75_81d (ls' := #[.val (.long a1), .second, .val (.long tm), .second, .val (.long e1), .second, .val (.int fl), .val (.long sa), .second, .val (.long dl), .second, .val (.long tm), .second, .val (.ref a), .unset, .unset, .unset, .unset, .unset, .unset, .unset, .unset]) (st' := [(.long tm), (.ref a)]) rfl ?_
      refine own_callV X5 (hw _ (List.mem_of_getElem? (i := 30) rfl)) (hw _ (List.mem_of_getElem? (i := 31) rfl)) (hw _ (List.mem_of_getElem? (i := 33) rfl)) (hw _ (List.mem_of_getElem? (i := 32) rfl)) (hw _ (List.mem_of_getElem? (i := 5) rfl)) (hw _ (List.mem_of_getElem? (i := 34) rfl)) (by decide) Q5 (c_first l Z a0 hw a tm sa dl h5 n0 X5.2.1 hdl P5_0 P5_5) d0_81 [(.long tm)] [] rfl rfl pd4 rfl rfl (by decide) (Nat.le_of_ble_eq_true rfl) (by decide) (by decide) (fun _ _ q => by rw [q.2]; exact X5.2.1) (fun v6 h6 T6 X6 q6 => ?_)
      obtain ⟨rfl, e6⟩ := q6
      rw [e6] at X6
      show own_G p e below (T6.setTop (mkF m 84 #[.val (.long a1), .second, .val (.long tm), .second, .val (.long e1), .second, .val (.int fl), .val (.long sa), .second, .val (.long dl), .second, .val (.long tm), .second, .val (.ref a), .unset, .unset, .unset, .unset, .unset, .unset, .unset, .unset] [(.long (own_frf sa dl tm))])) _
      refine own_blk X6 B0_84_90 B0_84_90d (ls' := #[.val (.long a1), .second, .val (.long tm), .second, .val (.long e1), .second, .val (.int fl), .val (.long sa), .second, .val (.long dl), .second, .val (.long tm), .second, .val (.ref a), .val (.long (own_frf sa dl tm)), .second, .unset, .unset, .unset, .unset, .unset, .unset]) (st' := [(.long sa), (.long tm)]) rfl ?_
      refine own_lif X6 d0_90 d0_91 (pc' := 100) (by decide) (fun c90 => ?_) (fun c90 => ?_)
      · have c90 : sa.toInt < tm.toInt := c90
        refine own_blk X6 B0_100_111 B0_100_111d (ls' := #[.val (.long a1), .second, .val (.long tm), .second, .val (.long e1), .second, .val (.int fl), .val (.long sa), .second, .val (.long dl), .second, .val (.long tm), .second, .val (.ref a), .val (.long (own_frf sa dl tm)), .second, .unset, .unset, .val (.long (tm - sa)), .second, .unset, .unset]) (st' := [(.long dl), (.long (tm - sa))]) rfl ?_
        refine own_ldiv X6 d0_111 (by rintro rfl; simp at hdl) ?_
        refine own_blk X6 B0_112_118 B0_112_118d (ls' := #[.val (.long a1), .second, .val (.long tm), .second, .val (.long e1), .second, .val (.int fl), .val (.long sa), .second, .val (.long dl), .second, .val (.long tm), .second, .val (.ref a), .val (.long (own_frf sa dl tm)), .second, .unset, .unset, .val (.long (tm - sa)), .second, .val (.long ((tm - sa) / dl)), .second]) (st' := [(.long dl), (.long (tm - sa))]) rfl ?_
        refine own_lremS X6 d0_118 (by rintro rfl; simp at hdl) ?_
        refine own_blk X6 B0_119_120 B0_119_120d (ls' := #[.val (.long a1), .second, .val (.long tm), .second, .val (.long e1), .second, .val (.int fl), .val (.long sa), .second, .val (.long dl), .second, .val (.long tm), .second, .val (.ref a), .val (.long (own_frf sa dl tm)), .second, .unset, .unset, .val (.long (tm - sa)), .second, .val (.long ((tm - sa) / dl)), .second]) (st' := [(.long (0 : Int64)), (.long (own_lrem (tm - sa) dl))]) rfl ?_
        refine own_lif X6 d0_120 d0_121 (pc' := 129) (by decide) (fun c120 => ?_) (fun c120 => ?_)
        · have c120 : ¬ (own_lrem (tm - sa) dl).toInt = 0 := c120
          refine own_blk X6 B0_129_139 B0_129_139d (ls' := #[.val (.long a1), .second, .val (.long tm), .second, .val (.long e1), .second, .val (.int fl), .val (.long sa), .second, .val (.long dl), .second, .val (.long tm), .second, .val (.ref a), .val (.long (own_frf sa dl tm)), .second, .val (.long (((tm - sa) / dl) + (1 : Int64))), .second, .val (.long (tm - sa)), .second, .val (.long ((tm - sa) / dl)), .second]) (st' := [(.long (((tm - sa) / dl) + (1 : Int64))), (.long (own_frf sa dl tm))]) rfl ?_
          refine own_lif X6 d0_139 d0_140 (pc' := 147) (by decide) (fun (c139 : ¬ (own_frf sa dl tm).toInt = (((tm - sa) / dl) + (1 : Int64)).toInt) => by exfalso; first | exact c139 (by rw [own_frf, if_neg (by omega)]; rfl) | exact c139 (by rw [own_fin hsa.1 hdl (by omega), if_neg c120]) | exact c139 (by rw [own_fin hsa.1 hdl (by omega), if_pos (by omega)])) (fun c139 => ?_)
          have c139 : ¬ (¬ (own_frf sa dl tm).toInt = (((tm - sa) / dl) + (1 : Int64)).toInt) := c139
          refine own_blk X6 B0_143_144 B0_143_144d (ls' := #[.val (.long a1), .second, .val (.long tm), .second, .val (.long e1), .second, .val (.int fl), .val (.long sa), .second, .val (.long dl), .second, .val (.long tm), .second, .val (.ref a), .val (.long (own_frf sa dl tm)), .second, .val (.long (((tm - sa) / dl) + (1 : Int64))), .second, .val (.long (tm - sa)), .second, .val (.long ((tm - sa) / dl)), .second]) (st' := [(.int (1 : Int32))]) rfl ?_
          refine own_goto X6 d0_144 (pc' := 148) (by decide) ?_
          exact own_retN X6 (by simp) d0_148 (v' := (1 : Int32)) (rfl) (by decide) (by decide) (rfl)
        · have c120 : ¬ (¬ (own_lrem (tm - sa) dl).toInt = 0) := c120
          refine own_blk X6 B0_124_126 B0_124_126d (ls' := #[.val (.long a1), .second, .val (.long tm), .second, .val (.long e1), .second, .val (.int fl), .val (.long sa), .second, .val (.long dl), .second, .val (.long tm), .second, .val (.ref a), .val (.long (own_frf sa dl tm)), .second, .unset, .unset, .val (.long (tm - sa)), .second, .val (.long ((tm - sa) / dl)), .second]) (st' := [(.long ((tm - sa) / dl))]) rfl ?_
          refine own_goto X6 d0_126 (pc' := 133) (by decide) ?_
          refine own_blk X6 B0_133_139 B0_133_139d (ls' := #[.val (.long a1), .second, .val (.long tm), .second, .val (.long e1), .second, .val (.int fl), .val (.long sa), .second, .val (.long dl), .second, .val (.long tm), .second, .val (.ref a), .val (.long (own_frf sa dl tm)), .second, .val (.long ((tm - sa) / dl)), .second, .val (.long (tm - sa)), .second, .val (.long ((tm - sa) / dl)), .second]) (st' := [(.long ((tm - sa) / dl)), (.long (own_frf sa dl tm))]) rfl ?_
          refine own_lif X6 d0_139 d0_140 (pc' := 147) (by decide) (fun (c139 : ¬ (own_frf sa dl tm).toInt = ((tm - sa) / dl).toInt) => by exfalso; first | exact c139 (by rw [own_frf, if_neg (by omega)]; rfl) | exact c139 (by rw [own_fin hsa.1 hdl (by omega), if_neg c120]) | exact c139 (by rw [own_fin hsa.1 hdl (by omega), if_pos (by omega)])) (fun c139 => ?_)
          have c139 : ¬ (¬ (own_frf sa dl tm).toInt = ((tm - sa) / dl).toInt) := c139
          refine own_blk X6 B0_143_144 B0_143_144d (ls' := #[.val (.long a1), .second, .val (.long tm), .second, .val (.long e1), .second, .val (.int fl), .val (.long sa), .second, .val (.long dl), .second, .val (.long tm), .second, .val (.ref a), .val (.long (own_frf sa dl tm)), .second, .val (.long ((tm - sa) / dl)), .second, .val (.long (tm - sa)), .second, .val (.long ((tm - sa) / dl)), .second]) (st' := [(.int (1 : Int32))]) rfl ?_
          refine own_goto X6 d0_144 (pc' := 148) (by decide) ?_
          exact own_retN X6 (by simp) d0_148 (v' := (1 : Int32)) (rfl) (by decide) (by decide) (rfl)
      · have c90 : ¬ (sa.toInt < tm.toInt) := c90
        refine own_blk X6 B0_94_97 B0_94_97d (ls' := #[.val (.long a1), .second, .val (.long tm), .second, .val (.long e1), .second, .val (.int fl), .val (.long sa), .second, .val (.long dl), .second, .val (.long tm), .second, .val (.ref a), .val (.long (own_frf sa dl tm)), .second, .val (.long (0 : Int64)), .second, .unset, .unset, .unset, .unset]) (st' := []) rfl ?_
        refine own_goto X6 d0_97 (pc' := 135) (by decide) ?_
        refine own_blk X6 B0_135_139 B0_135_139d (ls' := #[.val (.long a1), .second, .val (.long tm), .second, .val (.long e1), .second, .val (.int fl), .val (.long sa), .second, .val (.long dl), .second, .val (.long tm), .second, .val (.ref a), .val (.long (own_frf sa dl tm)), .second, .val (.long (0 : Int64)), .second, .unset, .unset, .unset, .unset]) (st' := [(.long (0 : Int64)), (.long (own_frf sa dl tm))]) rfl ?_
        refine own_lif X6 d0_139 d0_140 (pc' := 147) (by decide) (fun (c139 : ¬ (own_frf sa dl tm).toInt = 0) => by exfalso; first | exact c139 (by rw [own_frf, if_neg (by omega)]; rfl) | exact c139 (by rw [own_fin hsa.1 hdl (by omega), if_neg c120]) | exact c139 (by rw [own_fin hsa.1 hdl (by omega), if_pos (by omega)])) (fun c139 => ?_)
        have c139 : ¬ (¬ (own_frf sa dl tm).toInt = 0) := c139
        refine own_blk X6 B0_143_144 B0_143_144d (ls' := #[.val (.long a1), .second, .val (.long tm), .second, .val (.long e1), .second, .val (.int fl), .val (.long sa), .second, .val (.long dl), .second, .val (.long tm), .second, .val (.ref a), .val (.long (own_frf sa dl tm)), .second, .val (.long (0 : Int64)), .second, .unset, .unset, .unset, .unset]) (st' := [(.int (1 : Int32))]) rfl ?_
        refine own_goto X6 d0_144 (pc' := 148) (by decide) ?_
        exact own_retN X6 (by simp) d0_148 (v' := (1 : Int32)) (rfl) (by decide) (by decide) (rfl)
  refine own_blk X0 B0_11_15 B0_11_15d (ls' := #[.val (.long a1), .second, .val (.long t1), .second, .val (.long e1), .second, .val (.int fl), .val (.long sa), .second, .unset, .unset, .unset, .unset, .unset, .unset, .unset, .unset, .unset, .unset, .unset, .unset, .unset]) (st' := [(.int (fl &&& (2 : Int32)))]) rfl ?_
  refine own_if X0 d0_15 (pc' := 29) (by decide) (fun c15 => ?_) (fun c15 => ?_)
  · have c15 : (fl &&& (2 : Int32)).toInt = 0 := c15
    refine own_blk X0 B0_29_32 B0_29_32d (ls' := #[.val (.long a1), .second, .val (.long t1), .second, .val (.long e1), .second, .val (.int fl), .val (.long sa), .second, .unset, .unset, .unset, .unset, .unset, .unset, .unset, .unset, .unset, .unset, .unset, .unset, .unset]) (st' := [(.long e1), (.long (1 : Int64))]) rfl ?_
    refine own_ldc2 X0 (hw _ (List.mem_of_getElem? (i := 0) rfl)) d0_32 ?_
    refine own_blk X0 B0_35_36 B0_35_36d (ls' := #[.val (.long a1), .second, .val (.long t1), .second, .val (.long e1), .second, .val (.int fl), .val (.long sa), .second, .unset, .unset, .unset, .unset, .unset, .unset, .unset, .unset, .unset, .unset, .unset, .unset, .unset]) (st' := [(.long (e1 &&& (9223372036854775807 : Int64))), (.long (1 : Int64))]) rfl ?_
    refine own_callP X0 (hw _ (List.mem_of_getElem? (i := 35) rfl)) (hw _ (List.mem_of_getElem? (i := 36) rfl)) (hw _ (List.mem_of_getElem? (i := 37) rfl)) (hw _ (List.mem_of_getElem? (i := 38) rfl)) (by decide) (c_max l Z a0 hw (1 : Int64) (e1 &&& (9223372036854775807 : Int64)) h0 n0 X0.2.1) d0_36 [(.long (1 : Int64)), (.long (e1 &&& (9223372036854775807 : Int64)))] [] rfl rfl pd5 rfl rfl (by decide) (Nat.le_of_ble_eq_true rfl) (by decide) (by decide) (fun T7 X7 => ?_)
    show own_G p e below (T7.setTop (mkF m 39 #[.val (.long a1), .second, .val (.long t1), .second, .val (.long e1), .second, .val (.int fl), .val (.long sa), .second, .unset, .unset, .unset, .unset, .unset, .unset, .unset, .unset, .unset, .unset, .unset, .unset, .unset] [(.long (own_max (1 : Int64) (e1 &&& (9223372036854775807 : Int64))))])) _
    exact J39 _ _ X7 (by have e1 : (1 : Int64).toInt = 1 := rfl; unfold own_max; split <;> omega)
  · have c15 : ¬ ((fl &&& (2 : Int32)).toInt = 0) := c15
    refine own_blk X0 B0_18_20 B0_18_20d (ls' := #[.val (.long a1), .second, .val (.long t1), .second, .val (.long e1), .second, .val (.int fl), .val (.long sa), .second, .unset, .unset, .unset, .unset, .unset, .unset, .unset, .unset, .unset, .unset, .unset, .unset, .unset]) (st' := [(.long e1)]) rfl ?_
    refine own_ldc2 X0 (hw _ (List.mem_of_getElem? (i := 2) rfl)) d0_20 ?_
    refine own_blk X0 B0_23_26 B0_23_26d (ls' := #[.val (.long a1), .second, .val (.long t1), .second, .val (.long e1), .second, .val (.int fl), .val (.long sa), .second, .unset, .unset, .unset, .unset, .unset, .unset, .unset, .unset, .unset, .unset, .unset, .unset, .unset]) (st' := [(.long ((e1 &&& (15 : Int64)) + (1 : Int64)))]) rfl ?_
    refine own_goto X0 d0_26 (pc' := 39) (by decide) ?_
    refine J39 _ _ X0 ?_
    have h1 : (e1 &&& 15).toInt = e1.toInt % 2 ^ 4 := Jvm.Kit.i64_mask _ _ (by decide) (by decide)
    have h2 : (((e1 &&& (15 : Int64)) + (1 : Int64))).toInt = (e1 &&& 15).toInt + 1 := Jvm.Kit.i64_add (by show _ ≤ _ + (1 : Int); omega) (by show _ + (1 : Int) < _; omega)
    omega
set_option maxRecDepth 65536 in
set_option maxHeartbeats 40000000 in
theorem comes_1 {Post : Tables → Env → Array Value → State → Outcome → State → Prop} (hpost : ∀ tb e args s v u, (limb_1_1.after args s (.returned v) u = true ∧ limb_1_2.after args s (.returned v) u = true ∧ True) → FrameEnd s (.returned v) u (Jvm.fieldLocs frame_1_writes args s ++ Jvm.arrayLocs frame_1_arrays args s ++ Jvm.staticLocs frame_1_statics s) 16 128 → Post tb e args s (.returned v) u) :
    ArmFor flags0 classFile x code maxLocals ret World_1 tables_1 room_1 Calls_1 rest_1 Pre_1 Post := by
  intro l hfl _ _ p e ha hc hk s m args below hf hA hF happ hP
  obtain ⟨hcalls, hrest, hpre⟩ := hP
  obtain ⟨-, -, -, hnamed, -, -, -, hat⟩ := (Spec.applies_iff hf).mp happ
  obtain ⟨hg, hn⟩ := and_e (Cond.before_iff.mp (show (Jvm.Cond.and given_1 narrow_1).before args s = true from hpre))
  obtain ⟨gc, g0⟩ := and_e hg
  obtain ⟨q0, g1⟩ := and_e g0
  obtain ⟨q1, g2⟩ := and_e g1
  obtain ⟨q2, g3⟩ := and_e g2
  obtain ⟨w0, w1, w2, w3, rfl⟩ : ∃ w0 w1 w2 w3 : Value, args = #[w0, w1, w2, w3] := by
    have hs : args.size = 4 := by simpa [Cond.value, given_1] using gc
    obtain ⟨L⟩ := args
    match L, hs with
    | [w0, w1, w2, w3], _ => exact ⟨w0, w1, w2, w3, rfl⟩
  have hw := fun d (hd : d ∈ tables_1) => atoms_spec (ws := Jvm.Cond.code x code maxLocals ret :: tables_1) hat d (List.mem_cons_of_mem _ hd)
  obtain ⟨i0, ei0⟩ := isL_v q0
  obtain rfl : w0 = (.long i0) := Option.some.inj ei0
  obtain ⟨i1, ei1⟩ := isL_v q1
  obtain rfl : w1 = (.long i1) := Option.some.inj ei1
  obtain ⟨i2, ei2⟩ := isL_v q2
  obtain rfl : w2 = (.long i2) := Option.some.inj ei2
  obtain ⟨i3, ei3⟩ := is_v g3
  obtain rfl : w3 = (.int i3) := Option.some.inj ei3
  obtain ⟨n, o, h1, h2, h3, _, L, rfl, ⟨N, rfl⟩, hq⟩ := c_law l s _ hw i0 i1 i2 i3 s.heap s.heap.size (Nat.le_refl _) tables_1 p e ha hc hk s m _ below hf ((Spec.applies_iff_loose hf).mp happ).1 ⟨rfl, State.Warmed39.refl s, rfl⟩ trivial
  refine ⟨n, _, h1, h2, h3, hpost _ _ _ _ _ _ ⟨Cond.after_iff.mpr rfl, Cond.after_iff.mpr (eq_i res_at (Term.int_eval (1)) rfl), trivial⟩ ⟨hq.1, hq.2.1, (hq.2.2.sift fun y hy => Or.inr (N y hy)).mono (by decide) (by decide)⟩⟩
theorem main_1_1 : Claimed_1_1 := comes_1 fun _ _ _ _ _ _ h hF => ⟨h.1, hF⟩
theorem main_1_2 : Claimed_1_2 := comes_1 fun _ _ _ _ _ _ h hF => ⟨h.2.1, hF⟩
end Jvm.Pilot.@@N@@
namespace Jvm.Pilot.@@N@@
open Jvm Jvm.ClassFile Sem Op Lib Jvm.Free Jvm.Stand Jvm.Pilot.@@N@@.Jvm.D
/-! MADE BY PROGRAM (witnessworld.py) out of the Statement's table words and the real class files: 11 classes; the members and pool entries that the words name. The judged class is class 1, her method 1. -/
namespace start1
open Jvm.ClassFile
def u (s : String) : CpInfo := .utf8 (stringToUtf16 s)
/-- a pool by its gaps: so many unusable entries, then the entry; so many at the end -/
def gap : Nat → List CpInfo → List CpInfo
  | 0, r => r
  | n + 1, r => .unusable :: gap n r
def poolList (es : List (Nat × CpInfo)) (last : Nat) : List CpInfo := es.foldr (fun e r => gap e.1 (e.2 :: r)) (gap last [])
def pool (es : List (Nat × CpInfo)) (last : Nat) : Array CpInfo := ⟨poolList es last⟩
def fileOf (pool : Array CpInfo) (this : Nat) (attrs : Array Attribute := #[]) (ms : Array MethodInfo := #[]) (fl : Nat := 33) (sup : Nat := 0) (ifs : Array Nat := #[]) (fds : Array FieldInfo := #[]) : ClassFile where
  minorVersion := 0
  majorVersion := 65
  constantPool := pool
  accessFlags := fl
  thisClass := this
  superClass := sup
  interfaces := ifs
  fields := fds
  methods := ms
  attributes := attrs
def plain (name : String) (sup : Option ClassId) : Class where
  name := name
  kind := .ordinary
  loader := none
  accessFlags := 33
  super := sup
  interfaces := #[]
  cf := none
  fields := #[]
  methods := #[]
  instanceTypes := #[]
  staticTypes := #[]
  resolved := #[]
  callSites := []
  init := .initialized
  statics := none
  mirror := none

def pool0 : Array CpInfo := pool [(5, u "<init>"), (0, u "()V"), (1, .class_ 10), (1, u "java/lang/Object")] 113

def k0c0 : Code := { maxStack := 0, maxLocals := 1, code := object_method_1_code, exceptionTable := #[], attributes := #[] }
def k0m0 : Method := { name := "<init>", desc := "()V", sig := { parameters := [], returnType := none }, accessFlags := 1, code := some k0c0 }
/-- java/lang/Object -/
def k0 : Class := { plain "java/lang/Object" none with
  accessFlags := 33
  interfaces := #[]
  cf := some (fileOf pool0 8 #[] #[{ accessFlags := 1, nameIndex := 5, descriptorIndex := 6, attributes := #[] }] 33 0 #[] #[])
  fields := #[]
  methods := #[k0m0]
  instanceTypes := #[]
  staticTypes := #[]
  resolved := Array.replicate 124 none
  statics := none }

def pool1 : Array CpInfo := pool [(2, .class_ 4), (1, u "java/lang/Object"), (0, u "<init>"), (0, u "()V"), (2, .long 9223372036854775807), (1, .class_ 12), (0, u "lonewatch/algorithm/Timeline"), (0, .long 2305843009213693953), (1, .long 15), (1, .methodref 18 19), (0, .class_ 20), (0, .nameAndType 21 22), (0, u "java/lang/Math"), (0, u "max"), (0, u "(JJ)J"), (0, .methodref 11 24), (0, .nameAndType 5 25), (0, u "(JIIIJJ)V"), (0, .methodref 11 27), (0, .nameAndType 28 29), (0, u "firstRoundFrom"), (0, u "(J)J"), (0, .class_ 31), (0, u "lonewatch/algorithm/TimelineFirstRoundFromPinLaw"), (2, u "law"), (0, u "(JJJI)Z")] 3

def k1m0 : Method := { name := "<init>", desc := "()V", sig := { parameters := [], returnType := none }, accessFlags := 1, code := none }
def k1c1 : Code := { maxStack := 11, maxLocals := 22, code := code, exceptionTable := #[], attributes := #[] }
def k1m1 : Method := { name := "law", desc := "(JJJI)Z", sig := { parameters := [.long, .long, .long, .int], returnType := some .boolean }, accessFlags := 9, code := some k1c1 }
/-- lonewatch/algorithm/TimelineFirstRoundFromPinLaw -/
def k1 : Class := { plain "lonewatch/algorithm/TimelineFirstRoundFromPinLaw" (some 0) with
  accessFlags := 49
  interfaces := #[]
  cf := some (fileOf pool1 30 #[] #[{ accessFlags := 1, nameIndex := 5, descriptorIndex := 6, attributes := #[] }, { accessFlags := 9, nameIndex := 34, descriptorIndex := 35, attributes := #[] }] 49 2 #[] #[])
  fields := #[]
  methods := #[k1m0, k1m1]
  instanceTypes := #[]
  staticTypes := #[]
  resolved := Array.replicate 39 none
  statics := none }

def pool2 : Array CpInfo := pool [(1, .methodref 2 3), (0, .class_ 4), (0, .nameAndType 5 6), (0, u "java/lang/Object"), (0, u "<init>"), (0, u "()V"), (0, .class_ 8), (0, u "java/lang/Record")] 13

def k2c0 : Code := { maxStack := 1, maxLocals := 1, code := jdk_30_method_1_code, exceptionTable := #[], attributes := #[] }
def k2m0 : Method := { name := "<init>", desc := "()V", sig := { parameters := [], returnType := none }, accessFlags := 4, code := some k2c0 }
/-- java/lang/Record -/
def k2 : Class := { plain "java/lang/Record" (some 0) with
  accessFlags := 1057
  interfaces := #[]
  cf := some (fileOf pool2 7 #[] #[{ accessFlags := 4, nameIndex := 5, descriptorIndex := 6, attributes := #[] }] 1057 2 #[] #[])
  fields := #[]
  methods := #[k2m0]
  instanceTypes := #[]
  staticTypes := #[]
  resolved := Array.replicate 22 none
  statics := none }

def pool3 : Array CpInfo := pool [(1, .methodref 2 3), (0, .class_ 4), (0, .nameAndType 5 6), (0, u "java/lang/Record"), (0, u "<init>"), (0, u "()V"), (0, .class_ 8), (0, u "lonewatch/algorithm/Timeline"), (0, .long 2305843009213693952), (17, .fieldref 7 28), (0, .nameAndType 29 30), (0, u "startAt"), (0, u "J"), (0, .fieldref 7 32), (0, .nameAndType 33 34), (0, u "instances"), (0, u "I"), (0, .fieldref 7 36), (0, .nameAndType 37 34), (0, u "period"), (0, .fieldref 7 39), (0, .nameAndType 40 34), (0, u "perOpening"), (0, .fieldref 7 42), (0, .nameAndType 43 30), (0, u "eta"), (0, .fieldref 7 45), (0, .nameAndType 46 30), (0, u "delta"), (2, u "(JIIIJJ)V"), (18, u "MAX_START_AT"), (11, u "(J)J"), (1, u "firstRoundFrom")] 47

def k3c0 : Code := { maxStack := 4, maxLocals := 10, code := prog_15_method_1_code, exceptionTable := #[], attributes := #[] }
def k3m0 : Method := { name := "<init>", desc := "(JIIIJJ)V", sig := { parameters := [.long, .int, .int, .int, .long, .long], returnType := none }, accessFlags := 1, code := some k3c0 }
def k3c1 : Code := { maxStack := 4, maxLocals := 3, code := prog_15_method_8_code, exceptionTable := #[], attributes := #[] }
def k3m1 : Method := { name := "firstRoundFrom", desc := "(J)J", sig := { parameters := [.long], returnType := some .long }, accessFlags := 1, code := some k3c1 }
/-- lonewatch/algorithm/Timeline -/
def k3 : Class := { plain "lonewatch/algorithm/Timeline" (some 2) with
  accessFlags := 49
  interfaces := #[]
  cf := some (fileOf pool3 7 #[] #[{ accessFlags := 1, nameIndex := 5, descriptorIndex := 49, attributes := #[] }, { accessFlags := 1, nameIndex := 82, descriptorIndex := 80, attributes := #[] }] 49 2 #[] #[{ accessFlags := 18, nameIndex := 29, descriptorIndex := 30, attributes := #[] }, { accessFlags := 18, nameIndex := 33, descriptorIndex := 34, attributes := #[] }, { accessFlags := 18, nameIndex := 37, descriptorIndex := 34, attributes := #[] }, { accessFlags := 18, nameIndex := 40, descriptorIndex := 34, attributes := #[] }, { accessFlags := 18, nameIndex := 43, descriptorIndex := 30, attributes := #[] }, { accessFlags := 18, nameIndex := 46, descriptorIndex := 30, attributes := #[] }, { accessFlags := 25, nameIndex := 68, descriptorIndex := 30, attributes := #[] }])
  fields := #[{ name := "startAt", type := .long, accessFlags := 18, slot := 0, constantValue := 0 }, { name := "instances", type := .int, accessFlags := 18, slot := 1, constantValue := 0 }, { name := "period", type := .int, accessFlags := 18, slot := 2, constantValue := 0 }, { name := "perOpening", type := .int, accessFlags := 18, slot := 3, constantValue := 0 }, { name := "eta", type := .long, accessFlags := 18, slot := 4, constantValue := 0 }, { name := "delta", type := .long, accessFlags := 18, slot := 5, constantValue := 0 }, { name := "MAX_START_AT", type := .long, accessFlags := 25, slot := 0, constantValue := 0 }]
  methods := #[k3m0, k3m1]
  instanceTypes := #[.long, .int, .int, .int, .long, .long]
  staticTypes := #[.long]
  resolved := Array.replicate 130 none
  statics := none }

def pool4 : Array CpInfo := pool [(1, .class_ 2), (0, u "java/lang/Math"), (1, .class_ 6), (1, u "java/lang/Object"), (0, u "<init>"), (0, u "()V"), (89, .class_ 100), (1, u "java/lang/Math$RandomNumberGeneratorHolder"), (20, u "(JJ)J"), (50, u "negativeZeroFloatBits"), (0, u "J"), (2, u "negativeZeroDoubleBits"), (21, u "max"), (46, u "$assertionsDisabled"), (0, u "Z"), (91, u "twoToTheDoubleScaleDown"), (0, u "D"), (4, u "twoToTheDoubleScaleUp"), (9, u "E"), (3, u "PI"), (2, u "TAU"), (2, u "DEGREES_TO_RADIANS"), (0, u "RADIANS_TO_DEGREES")] 94

def k4m0 : Method := { name := "<init>", desc := "()V", sig := { parameters := [], returnType := none }, accessFlags := 2, code := none }
def k4c1 : Code := { maxStack := 4, maxLocals := 4, code := jdk_29_method_66_code, exceptionTable := #[], attributes := #[] }
def k4m1 : Method := { name := "max", desc := "(JJ)J", sig := { parameters := [.long, .long], returnType := some .long }, accessFlags := 9, code := some k4c1 }
/-- java/lang/Math -/
def k4 : Class := { plain "java/lang/Math" (some 0) with
  accessFlags := 49
  interfaces := #[]
  cf := some (fileOf pool4 1 #[.nestMembers #[98]] #[{ accessFlags := 2, nameIndex := 7, descriptorIndex := 8, attributes := #[] }, { accessFlags := 9, nameIndex := 198, descriptorIndex := 121, attributes := #[] }] 49 4 #[] #[{ accessFlags := 25, nameIndex := 354, descriptorIndex := 339, attributes := #[] }, { accessFlags := 25, nameIndex := 358, descriptorIndex := 339, attributes := #[] }, { accessFlags := 25, nameIndex := 361, descriptorIndex := 339, attributes := #[] }, { accessFlags := 26, nameIndex := 364, descriptorIndex := 339, attributes := #[] }, { accessFlags := 26, nameIndex := 365, descriptorIndex := 339, attributes := #[] }, { accessFlags := 26, nameIndex := 172, descriptorIndex := 173, attributes := #[] }, { accessFlags := 26, nameIndex := 176, descriptorIndex := 173, attributes := #[] }, { accessFlags := 8, nameIndex := 344, descriptorIndex := 339, attributes := #[] }, { accessFlags := 8, nameIndex := 338, descriptorIndex := 339, attributes := #[] }, { accessFlags := 4120, nameIndex := 245, descriptorIndex := 246, attributes := #[] }])
  fields := #[{ name := "E", type := .double, accessFlags := 25, slot := 0, constantValue := 0 }, { name := "PI", type := .double, accessFlags := 25, slot := 1, constantValue := 0 }, { name := "TAU", type := .double, accessFlags := 25, slot := 2, constantValue := 0 }, { name := "DEGREES_TO_RADIANS", type := .double, accessFlags := 26, slot := 3, constantValue := 0 }, { name := "RADIANS_TO_DEGREES", type := .double, accessFlags := 26, slot := 4, constantValue := 0 }, { name := "negativeZeroFloatBits", type := .long, accessFlags := 26, slot := 5, constantValue := 0 }, { name := "negativeZeroDoubleBits", type := .long, accessFlags := 26, slot := 6, constantValue := 0 }, { name := "twoToTheDoubleScaleUp", type := .double, accessFlags := 8, slot := 7, constantValue := 0 }, { name := "twoToTheDoubleScaleDown", type := .double, accessFlags := 8, slot := 8, constantValue := 0 }, { name := "$assertionsDisabled", type := .boolean, accessFlags := 4120, slot := 9, constantValue := 0 }]
  methods := #[k4m0, k4m1]
  instanceTypes := #[]
  staticTypes := #[.double, .double, .double, .double, .double, .long, .long, .double, .double, .boolean]
  resolved := Array.replicate 460 none
  statics := none }

def pool5 : Array CpInfo := pool [(1, u "java/lang/Cloneable"), (0, .class_ 1), (0, u "java/lang/Object"), (0, .class_ 3)] 3

/-- java/lang/Cloneable -/
def k5 : Class := { plain "java/lang/Cloneable" (some 0) with
  accessFlags := 1537
  interfaces := #[]
  cf := some (fileOf pool5 2 #[] #[] 1537 4 #[] #[])
  fields := #[]
  methods := #[]
  instanceTypes := #[]
  staticTypes := #[]
  resolved := Array.replicate 8 none
  statics := none }

def pool6 : Array CpInfo := pool [(1, u "java/io/Serializable"), (0, .class_ 1), (0, u "java/lang/Object"), (0, .class_ 3)] 3

/-- java/io/Serializable -/
def k6 : Class := { plain "java/io/Serializable" (some 0) with
  accessFlags := 1537
  interfaces := #[]
  cf := some (fileOf pool6 2 #[] #[] 1537 4 #[] #[])
  fields := #[]
  methods := #[]
  instanceTypes := #[]
  staticTypes := #[]
  resolved := Array.replicate 8 none
  statics := none }

/-- the primitive byte -/
def k7 : Class := { plain "byte" none with kind := .primitive 'B', accessFlags := 0x411 }
/-- [B -/
def k8 : Class := { plain "[B" (some 0) with kind := .array 7 .byte, interfaces := #[5, 6], accessFlags := 1041 }

/-- the primitive int -/
def k9 : Class := { plain "int" none with kind := .primitive 'I', accessFlags := 0x411 }
/-- [I -/
def k10 : Class := { plain "[I" (some 0) with kind := .array 9 .int, interfaces := #[5, 6], accessFlags := 1041 }

def heap : Heap := #[]
def classes : Array Class := #[k0, k1, k2, k3, k4, k5, k6, k7, k8, k9, k10]
def interned : List (Array UInt16 × Addr) := []
def slotsUsed : Nat := 0
def theMethod : MethodId := ⟨1, 1⟩
def args0 : Array Value := #[.long 5, .long 6, .long 7, .int 8]
def aboutOver (below : List Frame) : State where
  vm := { classes := classes, interned := interned.toArray }
  heap := heap
  slotsUsed := slotsUsed
  threads := #[{ frames := .invoking theMethod args0 :: below }]
def below0 : List Frame := [.native { method := ⟨0, 0⟩, args := #[] }]
def about1 : State := aboutOver below0
def p0 : Program := .bare "" "" ""
def e0 : Env := launch0.env 0 0 0
theorem w_frames : about1.frames = Frame.invoking theMethod args0 :: below0 := rfl
set_option maxRecDepth 65536 in
theorem w_args : argsFit about1.vm theMethod args0 = true := by decide +kernel
set_option maxRecDepth 65536 in
theorem w_heap : heapFits about1 = true := by decide +kernel
set_option maxRecDepth 65536 in
theorem w_runnable : about1.curStatus? = some .runnable := by decide +kernel
set_option maxRecDepth 65536 in
theorem w_alone : about1.alone = true := by decide +kernel
set_option maxRecDepth 65536 in
theorem w_named : about1.methodNamed? x = some theMethod := by decide +kernel
set_option maxRecDepth 65536 in
theorem w_hears : about1.hears theMethod below0 = true := by decide +kernel
set_option maxRecDepth 65536 in
theorem w_ripe : about1.ripe theMethod args0 below0 = true := by decide +kernel
theorem w_running : about1.status = .running := rfl
set_option maxRecDepth 65536 in
theorem w_room : about1.hasRoom e0.platform room_1 = true :=
  launch0.hasRoom_least _ room_1 (by decide +kernel) (by decide +kernel) (by decide +kernel) (by decide +kernel) (by decide +kernel) (by decide +kernel)
theorem allAtoms_all (ts : List Jvm.Cond) (a : Array Jvm.Value) (st : Jvm.State) : (allAtoms ts).before a st = ts.all (fun c => c.before a st) := by
  induction ts with
  | nil => rfl
  | cons c t ih =>
    show (Jvm.Cond.and c (allAtoms t)).before a st = _
    rw [Jvm.Cond.before_and, ih, List.all_cons]
def words1 : List Jvm.Cond := Jvm.Cond.code x code maxLocals ret :: tables_1
/-- a 'code' word, met by the world's own term for the bytes: nothing is compared byte by byte -/
theorem code_word {y : MethodName} {bytes : ByteArray} {mx : Nat} {rt : Option FieldType} {a : Array Value} {s : State} {m : MethodId} {meth : Method} {c : Code} (h1 : s.methodNamed? y = some m) (h2 : s.vm.method? m = some meth) (h3 : meth.code = some c) (h4 : c.code = bytes)
    (h5 : (c.maxLocals == mx && c.exceptionTable.isEmpty && decide (c.maxStack ≤ mostOperands) && decide (meth.sig.returnType = rt) && !meth.locks && decide (parseMethodDescriptor y.desc = some meth.sig)) = true) : (Jvm.Cond.code y bytes mx rt).before a s = true := by
  simp only [Bool.and_eq_true, beq_iff_eq, Bool.not_eq_true', decide_eq_true_eq] at h5
  obtain ⟨⟨⟨⟨⟨g1, g2⟩, g3⟩, g4⟩, g5⟩, g6⟩ := h5
  simp [Cond.before, Cond.holds, Cond.value, h1, h2, h3, h4, g1, g2, g3, g4, g5, g6]
def isCode : Jvm.Cond → Bool
  | .code _ _ _ _ => true
  | _ => false
theorem all_split {L : List Jvm.Cond} {P : Jvm.Cond → Bool} (h1 : L.all (fun c => isCode c || P c) = true) (h2 : ∀ c ∈ L.filter isCode, P c = true) : L.all P = true := by
  refine List.all_eq_true.mpr fun c hc => ?_
  have h := List.all_eq_true.mp h1 c hc
  rcases Bool.eq_false_or_eq_true (isCode c) with hi | hi
  · exact h2 c (List.mem_filter.mpr ⟨hc, hi⟩)
  · simpa [hi] using h
set_option maxRecDepth 65536 in
theorem w_c0 : (Jvm.Cond.code x code maxLocals ret).before args0 about1 = true := code_word (m := ⟨1, 1⟩) (meth := k1m1) (c := k1c1) (by decide +kernel) rfl rfl rfl (by decide +kernel)
set_option maxRecDepth 65536 in
theorem w_c1 : (Jvm.Cond.code ({ cls := "lonewatch/algorithm/Timeline", name := "<init>", desc := "(JIIIJJ)V" } : Jvm.MethodName) prog_15_method_1_code (10 : Nat) (Option.none : Option Jvm.ClassFile.FieldType)).before args0 about1 = true := code_word (m := ⟨3, 0⟩) (meth := k3m0) (c := k3c0) (by decide +kernel) rfl rfl rfl (by decide +kernel)
set_option maxRecDepth 65536 in
theorem w_c2 : (Jvm.Cond.code ({ cls := "java/lang/Record", name := "<init>", desc := "()V" } : Jvm.MethodName) jdk_30_method_1_code (1 : Nat) (Option.none : Option Jvm.ClassFile.FieldType)).before args0 about1 = true := code_word (m := ⟨2, 0⟩) (meth := k2m0) (c := k2c0) (by decide +kernel) rfl rfl rfl (by decide +kernel)
set_option maxRecDepth 65536 in
theorem w_c3 : (Jvm.Cond.code ({ cls := "java/lang/Object", name := "<init>", desc := "()V" } : Jvm.MethodName) object_method_1_code (1 : Nat) (Option.none : Option Jvm.ClassFile.FieldType)).before args0 about1 = true := code_word (m := ⟨0, 0⟩) (meth := k0m0) (c := k0c0) (by decide +kernel) rfl rfl rfl (by decide +kernel)
set_option maxRecDepth 65536 in
theorem w_c4 : (Jvm.Cond.code ({ cls := "lonewatch/algorithm/Timeline", name := "firstRoundFrom", desc := "(J)J" } : Jvm.MethodName) prog_15_method_8_code (3 : Nat) (Option.some Jvm.ClassFile.FieldType.long)).before args0 about1 = true := code_word (m := ⟨3, 1⟩) (meth := k3m1) (c := k3c1) (by decide +kernel) rfl rfl rfl (by decide +kernel)
set_option maxRecDepth 65536 in
theorem w_c5 : (Jvm.Cond.code ({ cls := "java/lang/Math", name := "max", desc := "(JJ)J" } : Jvm.MethodName) jdk_29_method_66_code (4 : Nat) (Option.some Jvm.ClassFile.FieldType.long)).before args0 about1 = true := code_word (m := ⟨4, 1⟩) (meth := k4m1) (c := k4c1) (by decide +kernel) rfl rfl rfl (by decide +kernel)
def codes1 : List Jvm.Cond := [Jvm.Cond.code x code maxLocals ret, Jvm.Cond.code ({ cls := "lonewatch/algorithm/Timeline", name := "<init>", desc := "(JIIIJJ)V" } : Jvm.MethodName) prog_15_method_1_code (10 : Nat) (Option.none : Option Jvm.ClassFile.FieldType), Jvm.Cond.code ({ cls := "java/lang/Record", name := "<init>", desc := "()V" } : Jvm.MethodName) jdk_30_method_1_code (1 : Nat) (Option.none : Option Jvm.ClassFile.FieldType), Jvm.Cond.code ({ cls := "java/lang/Object", name := "<init>", desc := "()V" } : Jvm.MethodName) object_method_1_code (1 : Nat) (Option.none : Option Jvm.ClassFile.FieldType), Jvm.Cond.code ({ cls := "lonewatch/algorithm/Timeline", name := "firstRoundFrom", desc := "(J)J" } : Jvm.MethodName) prog_15_method_8_code (3 : Nat) (Option.some Jvm.ClassFile.FieldType.long), Jvm.Cond.code ({ cls := "java/lang/Math", name := "max", desc := "(JJ)J" } : Jvm.MethodName) jdk_29_method_66_code (4 : Nat) (Option.some Jvm.ClassFile.FieldType.long)]
set_option maxRecDepth 65536 in
theorem codes_eq : words1.filter isCode = codes1 := rfl
theorem w_codes : ∀ c ∈ words1.filter isCode, c.before args0 about1 = true := by
  rw [codes_eq]
  intro c hc
  simp only [codes1, List.mem_cons, List.not_mem_nil, or_false] at hc
  rcases hc with rfl | rfl | rfl | rfl | rfl | rfl
  · exact w_c0
  · exact w_c1
  · exact w_c2
  · exact w_c3
  · exact w_c4
  · exact w_c5
set_option maxRecDepth 65536 in
theorem w_t1 : (words1.take 24).all (fun c => isCode c || c.before args0 about1) = true := by decide +kernel
set_option maxRecDepth 65536 in
theorem w_t2 : (words1.drop 24).all (fun c => isCode c || c.before args0 about1) = true := by decide +kernel
theorem w_tables : (allAtoms (Jvm.Cond.code x code maxLocals ret :: tables_1)).before args0 about1 = true := by
  rw [allAtoms_all]
  show words1.all (fun c => c.before args0 about1) = true
  refine all_split ?_ w_codes
  rw [← List.take_append_drop 24 words1, List.all_append, w_t1, w_t2]
  rfl
set_option maxRecDepth 65536 in
theorem w_case : (Jvm.Cond.and given_1 narrow_1).before args0 about1 = true := by decide +kernel
theorem w_applies : (headSpec (Jvm.Cond.code x code maxLocals ret :: tables_1) room_1).applies x e0.platform about1 = true :=
  (Spec.applies_iff w_frames).mpr ⟨w_running, w_runnable, w_alone, w_named, w_hears, w_ripe, w_room, w_tables⟩
theorem atStart : AtStart classFile x code maxLocals ret World_1 tables_1 room_1 Calls_1 rest_1 Pre_1 launch0 p0 e0 about1 theMethod args0 below0 :=
  ⟨lists_1, trivial, launch0.admits_env _ _ _, launch0.least_env, fairChoices_fair.cas, fairChoices_fair.clock, w_frames, w_args, w_heap, w_applies, trivial, trivial, w_case⟩
end start1
theorem witness_1 : WitnessClaimed_1 := ⟨start1.p0, start1.e0, start1.about1, start1.theMethod, start1.args0, start1.below0, start1.atStart⟩
end Jvm.Pilot.@@N@@
